import PyProof.Rows.All
import Wide.All
import OpenK.AllK
import Wide.FinOn
import PySem.Challenge.RW_dv0015_07
set_option Elab.async false
set_option bootstrap.genMatcherCode false
set_option genSizeOf false
set_option genSizeOfSpec false
set_option genInjectivity false
set_option linter.all false
set_option tactic.hygienic false
set_option maxRecDepth 100000
set_option maxHeartbeats 8000000
open PySem PySem.W PySem.Calls PyProof.Rows PySem.SeqAt
namespace Mine
section
local macro_rules | `(tactic| o_head $_)=> `(tactic| assumption)
theorem kx (h:PySem.Challenge.rw_dv0015_07.row.Holds):PySem.Challenge.rw_dv0015_07.row.Holds:=by k_head
end
noncomputable abbrev pw:Program:=PySem.Challenge.rw_dv0015_07.row.prog
noncomputable def ks:List Addr:=[2,3,15,17,18,20,21,29,30,32,33,35,36,37,39,40,41,42,43,46,53,54,55,56,66,67,69,70,72,73,74,76,77,79,80,81,83,84,86,87,88,91,92,93,95,96,98,99,100,102,103,105,106,107,109,110,112,113,114,116,117,119,120,121,123,124,126,127,128,130,131,133,134,135,136,137,138,139,142,144,145,147,148,149,151,152,154,155,156,158,159,161,162,163,166,167,168,171,172,173,175,176,178,179,180,183,184,185,188,189,190,193,194,195,198,199]
theorem ks_is (P:Params):ks=(kx.heap_1 P).map (·.1):=by kernel_rfl
noncomputable def qv:Program:=view pw [0,2,3,4,5,6,8,9,10,11,12,13,14,15,16,17]
noncomputable def hk:Hook:=kHook kx.heap_1 ks ks_is
noncomputable def xt (s:Shared):Bool:=xlAt qv [] s && recOk (RowW.records PySem.Challenge.rw_dv0015_07.row.toRowW) s
theorem JS:PySem.Challenge.rw_dv0015_07.wellSaid=true:=by
 rw [PySem.W.Fast.te9446332074065402090]
 kernel_rfl
inductive Lx where
 | v (i:Nat) | k (n:Nat) | a (x y:Lx) | m (n:Nat) (x:Lx)
noncomputable def Lx.ev (c:List Nat):Lx->Nat:=Lx.rec (fun i=>c.getD i 0) (fun n=>n) (fun _ _ x y=>x+y) (fun n _ x=>n*x)
noncomputable def Lx.co (i:Nat):Lx->Nat:=Lx.rec (fun j=>(Nat.beq i j).rec 0 1) (fun _=>0) (fun _ _ x y=>x+y) (fun n _ x=>n*x)
noncomputable def Lx.cn:Lx->Nat:=Lx.rec (fun _=>0) (fun n=>n) (fun _ _ x y=>x+y) (fun n _ x=>n*x)
inductive Hx where
 | n | c (n:Nat) (l r:Lx) (t:Hx)
noncomputable def Hx.den (c:List Nat) (G:Prop):Hx->Prop:=Hx.rec G (fun _ l r _ t=>l.ev c<=r.ev c->t)
noncomputable def Hx.lt (l:Lx):Hx->Lx:=Hx.rec l (fun n _ r _ t=> .a (.m n r) t)
noncomputable def Hx.rt (r:Lx):Hx->Lx:=Hx.rec r (fun n l _ _ t=> .a (.m n l) t)
noncomputable def dot:List Nat->(Nat->Nat)->Nat:=List.rec (fun _=>0) (fun x _ t f=>f 0*x+t fun i=>f (i+1))
theorem AG (c:List Nat): ∀ f g,dot c (fun i=>f i+g i)=dot c f+dot c g:=by
 induction c with
 | nil=>exact fun _ _=>rfl
 | cons x c h=>
  intro f g
  show (f 0+g 0)*x+dot c _=(f 0*x+dot c _)+(g 0*x+dot c _)
  rw [h,Nat.add_mul,Nat.add_add_add_comm]
theorem AI (c:List Nat) (n:Nat): ∀ f,dot c (fun i=>n*f i)=n*dot c f:=by
 induction c with
 | nil=>exact fun _=>rfl
 | cons x c h=>
  intro f
  show n*f 0*x+dot c _=n*(f 0*x+dot c _)
  rw [h,Nat.mul_add,Nat.mul_assoc]
theorem pY (c:List Nat):dot c (fun _=>0)=0:=by
 induction c with
 | nil=>rfl
 | cons x c h=>
  show 0*x+dot c _=0
  rw [h,Nat.zero_mul]
theorem AJ (c:List Nat): ∀ j,dot c (fun i=>(Nat.beq i j).rec 0 1)=c.getD j 0:=by
 induction c with
 | nil=>exact fun _=>rfl
 | cons x c h=>
  intro j
  cases j with
  | zero=>show 1*x+dot c (fun _=>0)=x;rw [pY,Nat.one_mul];rfl
  | succ j=>show 0*x+dot c (fun i=>(Nat.beq i j).rec 0 1)=c.getD j 0;rw [h,Nat.zero_mul,Nat.zero_add]
theorem Dq (c:List Nat): ∀ f g,(∀ i,i<c.length->f i<=g i)->dot c f<=dot c g:=by
 induction c with
 | nil=>exact fun _ _ _=>Nat.le_refl _
 | cons x c h=>exact fun f g q=>Nat.add_le_add (Nat.mul_le_mul_right _ (q 0 (Nat.zero_lt_succ _))) (h _ _ fun i hi=>q (i+1) (Nat.succ_lt_succ hi))
theorem Lx.is (c:List Nat) (e:Lx):e.ev c=e.cn+dot c (fun i=>e.co i):=by
 induction e with
 | v j=>exact ((Nat.zero_add _).trans (AJ c j)).symm
 | k n=>exact (congrArg (n+ ·) (pY c)).symm
 | a x y hx hy=>show x.ev c+y.ev c=(x.cn+y.cn)+dot c (fun i=>x.co i+y.co i);rw [hx,hy,AG,Nat.add_add_add_comm]
 | m n x hx=>show n*x.ev c=n*x.cn+dot c (fun i=>n*x.co i);rw [hx,AI,Nat.mul_add]
noncomputable def Jk (A B:Lx):Nat->Bool:=Nat.rec (Nat.ble A.cn B.cn) (fun i x=>(Nat.ble (A.co i) (B.co i)).rec false x)
theorem Dr (A B:Lx) (c:List Nat) (h:Jk A B c.length=true):A.ev c<=B.ev c:=by
 have q: ∀ n,Jk A B n=true->A.cn<=B.cn/\ ∀ i,i<n->A.co i<=B.co i:=by
  intro n
  induction n with
  | zero=>exact fun h=>⟨Nat.le_of_ble_eq_true h,fun i hi=>absurd hi (Nat.not_lt_zero i)⟩
  | succ n ih=>
   intro h
   change (Nat.ble (A.co n) (B.co n)).rec false (Jk A B n)=true at h
   cases e:Nat.ble (A.co n) (B.co n) with
   | false=>rw [e] at h;cases h
   | true=>
    rw [e] at h
    refine ⟨(ih h).1,fun i hi=>(Nat.lt_or_eq_of_le (Nat.le_of_lt_succ hi)).elim ((ih h).2 i) fun w=> ?_⟩
    rw [w];exact Nat.le_of_ble_eq_true e
 rw [A.is,B.is]
 exact Nat.add_le_add (q _ h).1 (Dq _ _ _ (q _ h).2)
theorem aE (c:List Nat) (hs:Hx) (l r:Lx) (h:Jk (hs.lt l) (hs.rt r) c.length=true):hs.den c (l.ev c<=r.ev c):=by
 replace h:=Dr _ _ c h
 induction hs with
 | n=>exact h
 | c n x y t ih=>
  intro w
  refine ih (Nat.le_of_add_le_add_left (Nat.le_trans (show n*y.ev c+(t.lt l).ev c<=n*x.ev c+(t.rt r).ev c from h) (Nat.add_le_add_right (Nat.mul_le_mul_left n w) _)))
theorem sA (a b:Nat):a<=a-b+b:=Nat.le_add_of_sub_le (Nat.le_refl _)
section
open Lx
theorem o0 {a0:Nat}:0<=a0:=aE [a0] .n (k 0) (v 0) rfl
theorem o1 {a0 a1 a2:Nat} (h0:a0+1<=a1-a2):a0<=a1-a2:=aE [a0,a1,a2,(a1-a2)] (.c 1 (a (v 0) (k 1)) (v 3) .n) (v 0) (v 3) rfl h0
theorem o2 {a0 a1 a2:Nat} (h0:a2+1<=a0-a1):a0-a1-a2 > 0:=aE [a0,a1,a2,(a0-a1),((a0-a1)-a2)] (.c 1 (a (v 2) (k 1)) (v 3) (.c 1 (v 3) (a (v 4) (v 2)) .n)) (a (k 0) (k 1)) (v 4) rfl h0 (sA (a0-a1) a2)
theorem o3 {a0 a1 a2:Nat}:a0+a1+1=a0+(a1+1)/\a2-a0-a1-1=a2-a0-(a1+1):=by lia
theorem o4 {a0 a1:Nat}: ¬a0-a1-(a0-a1) > 0:=Nat.not_lt_of_le (aE [a0,a1,(a0-a1),((a0-a1)-(a0-a1))] (.c 1 (a (v 3) (v 2)) (v 2) .n) (v 3) (k 0) rfl (Nat.le_of_eq (Nat.sub_add_cancel (aE [a0,a1,(a0-a1),((a0-a1)-(a0-a1))] .n (v 2) (v 2) rfl))))
theorem o6 {a0:Nat}:13<=13+a0:=aE [a0] .n (k 13) (a (k 13) (v 0)) rfl
theorem o7 {a0:Nat} (h0:a0<=7):a0<8:=aE [a0] (.c 1 (v 0) (k 7) .n) (a (v 0) (k 1)) (k 8) rfl h0
theorem o8 {a0:Nat} (h0:a0<8):13+a0<14+7:=aE [a0] (.c 1 (a (v 0) (k 1)) (k 8) .n) (a (a (k 13) (v 0)) (k 1)) (a (k 14) (k 7)) rfl h0
theorem o9 {a0:Nat} (h0:a0<=31):a0<32:=aE [a0] (.c 1 (v 0) (k 31) .n) (a (v 0) (k 1)) (k 32) rfl h0
theorem QG {a0:Nat} (h0:a0<32):13+a0<14+31:=aE [a0] (.c 1 (a (v 0) (k 1)) (k 32) .n) (a (a (k 13) (v 0)) (k 1)) (a (k 14) (k 31)) rfl h0
theorem QH {a0 a1 a2:Nat} (h0:a0<=10*a2) (h1:a2<14+a1):a0<10*(a1+15):=aE [a0,a1,a2] (.c 1 (v 0) (m 10 (v 2)) (.c 10 (a (v 2) (k 1)) (a (k 14) (v 1)) .n)) (a (v 0) (k 1)) (m 10 (a (v 1) (k 15))) rfl h0 h1
theorem Pn {a0 a1 a2:Nat} (h0:a0<=a2) (h1:a2<=a1):a0<=a1:=aE [a0,a1,a2] (.c 1 (v 0) (v 2) (.c 1 (v 2) (v 1) .n)) (v 0) (v 1) rfl h0 h1
theorem QI {a0 a1 a2:Nat} (h0:a0-a2<=0) (h1:a2<=a1):a0<=a1:=aE [a0,a1,a2,(a0-a2)] (.c 1 (v 3) (k 0) (.c 1 (v 2) (v 1) (.c 1 (v 0) (a (v 3) (v 2)) .n))) (v 0) (v 1) rfl h0 h1 (sA a0 a2)
theorem QJ {a0 a1 a2:Nat} (h0:a1<=a2) (h1:a0<a1):(a0+a1) / 2<a2:=Nat.div_lt_of_lt_mul (by rw [Nat.two_mul];exact Nat.add_lt_add_of_lt_of_le (Nat.lt_of_lt_of_le h1 h0) (Nat.le_trans (Nat.le_refl _) h0))
theorem QK {a0 a1:Nat} (h0:a0<a1):(a0+a1) / 2+1<=a1:=Nat.div_lt_of_lt_mul (by rw [Nat.two_mul];exact Nat.add_lt_add_right h0 a1)
theorem QM {a0 a1 a2:Nat} (h0:a0-a1<=a2+1):a0-((a1+a0) / 2+1)<=a2:=(Nat.le_total (((a1+a0) / 2)+1) a0).elim (fun w0=>aE [a0,a1,a2,(a0-a1),((a1+a0) / 2),(a0-(((a1+a0) / 2)+1))] (.c 1 (v 3) (a (v 2) (k 1)) (.c 1 (a (v 4) (k 1)) (v 0) (.c 1 (a (v 5) (a (v 4) (k 1))) (v 0) (.c 1 (v 0) (a (v 3) (v 1)) (.c 1 (a (a (v 1) (v 0)) (k 1)) (m 2 (a (v 4) (k 1))) .n))))) (v 5) (v 2) rfl h0 w0 (Nat.le_of_eq (Nat.sub_add_cancel w0)) (sA a0 a1) (Nat.lt_mul_div_succ (a1+a0) (by decide:0<2))) (fun w0=>aE [a0,a1,a2,(a0-a1),((a1+a0) / 2),(a0-(((a1+a0) / 2)+1))] (.c 1 (v 5) (k 0) .n) (v 5) (v 2) rfl (Nat.le_of_eq (Nat.sub_eq_zero_of_le w0)))
theorem QN {a0 a1 a2:Nat} (h0:a0<(a1+a2) / 2+1):a0<=(a1+a2) / 2:=aE [a0,a1,a2,((a1+a2) / 2)] (.c 1 (a (v 0) (k 1)) (a (v 3) (k 1)) .n) (v 0) (v 3) rfl h0
theorem QO {a0 a1:Nat} (h0:a0<a1):a0<=(a0+a1) / 2:=Nat.le_of_mul_le_mul_left (aE [a0,a1,((a0+a1) / 2)] (.c 1 (a (v 0) (k 1)) (v 1) (.c 1 (a (a (v 0) (v 1)) (k 1)) (m 2 (a (v 2) (k 1))) .n)) (m 2 (v 0)) (m 2 (v 2)) rfl h0 (Nat.lt_mul_div_succ (a0+a1) (by decide:0<2))) (by decide:0<2)
theorem QP {a0 a1 a2:Nat} (h0:(a0+a1) / 2<a2):(a0+a1) / 2<=a2:=aE [a0,a1,a2,((a0+a1) / 2)] (.c 1 (a (v 3) (k 1)) (v 2) .n) (v 3) (v 2) rfl h0
theorem QQ {a0 a1 a2:Nat} (h0:a1-a0<=a2+1):(a0+a1) / 2-a0<=a2:=Nat.sub_le_of_le_add (Nat.le_of_lt_succ (Nat.lt_of_mul_lt_mul_left (a:=2) (aE [a0,a1,a2,(a0+a1) / 2,a1-a0] (.c 1 (m 2 (v 3)) (a (v 0) (v 1)) (.c 1 (v 1) (a (v 4) (v 0)) (.c 1 (v 4) (a (v 2) (k 1)) .n))) (a (m 2 (v 3)) (k 1)) (m 2 (a (a (v 2) (v 0)) (k 1))) rfl (Nat.mul_div_le (a0+a1) 2) (sA a1 a0) h0)))
theorem QR {a0 a1:Nat} (h0: ¬a1<a0):a0<=a1:=aE [a0,a1] (.c 1 (v 0) (v 1) .n) (v 0) (v 1) rfl (Nat.le_of_not_lt h0)
theorem QS {a0 a1 a2:Nat} (h0:a2<=a1) (h1: ¬a2<a0):a0<=a1:=aE [a0,a1,a2] (.c 1 (v 2) (v 1) (.c 1 (v 0) (v 2) .n)) (v 0) (v 1) rfl h0 (Nat.le_of_not_lt h1)
theorem QT {a0:Nat}:a0-0<=a0:=aE [a0,(a0-0)] (.c 1 (v 1) (v 0) .n) (v 1) (v 0) rfl (Nat.sub_le a0 0)
theorem Pp {a0 a1 a2:Nat} (h0:a0<a2) (h1:a2<a1):a0<a1:=aE [a0,a1,a2] (.c 1 (a (v 0) (k 1)) (v 2) (.c 1 (a (v 2) (k 1)) (v 1) .n)) (a (v 0) (k 1)) (v 1) rfl h0 h1
theorem QU {a0 a1:Nat} (h0:a0<=a1):a0<=a1:=aE [a0,a1] (.c 1 (v 0) (v 1) .n) (v 0) (v 1) rfl h0
theorem QV {a0 a1 a2:Nat} (h0:a0<=a2) (h1:a2<a1):a0<=a1:=aE [a0,a1,a2] (.c 1 (v 0) (v 2) (.c 1 (a (v 2) (k 1)) (v 1) .n)) (v 0) (v 1) rfl h0 h1
theorem Pq {a0 a1:Nat} (h0:a0<a1+1):a0<=a1:=aE [a0,a1] (.c 1 (a (v 0) (k 1)) (a (v 1) (k 1)) .n) (v 0) (v 1) rfl h0
theorem JT {a0 a1 a2:Nat} (h0:a0<=a2) (h1:a2<10*a1):a0<10*a1:=aE [a0,a1,a2] (.c 1 (v 0) (v 2) (.c 1 (a (v 2) (k 1)) (m 10 (v 1)) .n)) (a (v 0) (k 1)) (m 10 (v 1)) rfl h0 h1
theorem QW {a0 a1:Nat} (h0:a0<=a1) (h1: ¬a0=a1):a0<a1:=Nat.lt_of_le_of_ne h0 h1
theorem QX {a0 a1:Nat} (h0:a0<=a1) (h1: ¬a0=a1):a0+1<=a1:=Nat.lt_of_le_of_ne h0 h1
theorem QY {a0 a1 a2:Nat} (h0:a1<=a0) (h1:a0-a1<a2+1) (h2: ¬a1=a0):a0-(a1+1)<a2:=Nat.lt_of_lt_of_le (Nat.pred_lt (Nat.sub_ne_zero_of_lt (Nat.lt_of_le_of_ne h0 h2))) (Nat.le_of_lt_succ h1)
theorem QZ {a0 a1:Nat} (h0:a0+1<=a1):a0<=a1:=aE [a0,a1] (.c 1 (a (v 0) (k 1)) (v 1) .n) (v 0) (v 1) rfl h0
theorem Q0 {a0 a1:Nat} (h0:a0<10*a1):a0-0<10*a1:=aE [a0,a1,(a0-0)] (.c 1 (a (v 0) (k 1)) (m 10 (v 1)) (.c 1 (v 2) (v 0) .n)) (a (v 2) (k 1)) (m 10 (v 1)) rfl h0 (Nat.sub_le a0 0)
theorem Q1 {a0:Int}:a0+(1:Int)≠a0:=Int.ne_of_gt (Int.lt_succ a0)
theorem Cx {a0 a1 a2:Nat} (h0:a1=a2) (h1:a0<a2):a0<a1:=aE [a0,a1,a2] (.c 1 (v 2) (v 1) (.c 1 (a (v 0) (k 1)) (v 2) .n)) (a (v 0) (k 1)) (v 1) rfl (Nat.le_of_eq h0.symm) h1
theorem Q3 {a0 a1 a2 a3:Nat} (h0:a2<=a1) (h1:a0<min a2 a3):a0<a1:=aE [a0,a1,a2,a3,(min a2 a3)] (.c 1 (v 2) (v 1) (.c 1 (a (v 0) (k 1)) (v 4) (.c 1 (v 4) (v 2) .n))) (a (v 0) (k 1)) (v 1) rfl h0 h1 (Nat.min_le_left a2 a3)
theorem Q4 {a0 a1 a2:Nat} (h0:a0<min a1 a2):a0<a1:=aE [a0,a1,a2,(min a1 a2)] (.c 1 (a (v 0) (k 1)) (v 3) (.c 1 (v 3) (v 1) .n)) (a (v 0) (k 1)) (v 1) rfl h0 (Nat.min_le_left a1 a2)
theorem Q5 {a0 a1 a2:Nat} (h0:a0<min a2 a1):a0<a1:=aE [a0,a1,a2,(min a2 a1)] (.c 1 (a (v 0) (k 1)) (v 3) (.c 1 (v 3) (v 1) .n)) (a (v 0) (k 1)) (v 1) rfl h0 (Nat.min_le_right a2 a1)
theorem Q6 {a0 a1 a2 a3:Nat} (h0:a2=a3) (h1:a1<a3-a0):a0+a1<a2:=(Nat.le_total a0 a3).elim (fun w0=>aE [a0,a1,a2,a3,(a3-a0)] (.c 1 (v 3) (v 2) (.c 1 (a (v 1) (k 1)) (v 4) (.c 1 (a (v 4) (v 0)) (v 3) .n))) (a (a (v 0) (v 1)) (k 1)) (v 2) rfl (Nat.le_of_eq h0.symm) h1 (Nat.le_of_eq (Nat.sub_add_cancel w0))) (fun w0=>(Nat.not_succ_le_zero 0 (aE [a0,a1,a2,a3,(a3-a0)] (.c 1 (a (v 1) (k 1)) (v 4) (.c 1 (v 4) (k 0) .n)) (k 1) (k 0) rfl h1 (Nat.le_of_eq (Nat.sub_eq_zero_of_le w0)))).elim)
theorem Q7 {a0 a1:Nat}:a0<=a0+a1:=aE [a0,a1] .n (v 0) (a (v 0) (v 1)) rfl
theorem Pr {a0 a1 a2:Nat} (h0:a1<a2-a0):a0+a1<a2:=(Nat.le_total a0 a2).elim (fun w0=>aE [a0,a1,a2,(a2-a0)] (.c 1 (a (v 1) (k 1)) (v 3) (.c 1 (a (v 3) (v 0)) (v 2) .n)) (a (a (v 0) (v 1)) (k 1)) (v 2) rfl h0 (Nat.le_of_eq (Nat.sub_add_cancel w0))) (fun w0=>(Nat.not_succ_le_zero 0 (aE [a0,a1,a2,(a2-a0)] (.c 1 (a (v 1) (k 1)) (v 3) (.c 1 (v 3) (k 0) .n)) (k 1) (k 0) rfl h0 (Nat.le_of_eq (Nat.sub_eq_zero_of_le w0)))).elim)
theorem Q8 {a0 a1 a2 a3 a4 a5 a6:Nat} (h0:a3<=a4/\a4<=a3+9) (h1:a5+(a6+1)<=a2) (h2:a0<=10*a5) (h3:a1<a4+1-a3):a0+a1<10*a2:=(Nat.le_total a3 (a4+1)).elim (fun w0=>aE [a0,a1,a2,a3,a4,a5,a6,((a4+1)-a3)] (.c 1 (v 4) (a (v 3) (k 9)) (.c 10 (a (v 5) (a (v 6) (k 1))) (v 2) (.c 1 (v 0) (m 10 (v 5)) (.c 1 (a (v 1) (k 1)) (v 7) (.c 1 (a (v 7) (v 3)) (a (v 4) (k 1)) .n))))) (a (a (v 0) (v 1)) (k 1)) (m 10 (v 2)) rfl h0.2 h1 h2 h3 (Nat.le_of_eq (Nat.sub_add_cancel w0))) (fun w0=>aE [a0,a1,a2,a3,a4,a5,a6,((a4+1)-a3)] (.c 10 (a (v 5) (a (v 6) (k 1))) (v 2) (.c 1 (v 0) (m 10 (v 5)) (.c 1 (a (v 1) (k 1)) (v 7) (.c 1 (v 7) (k 0) .n)))) (a (a (v 0) (v 1)) (k 1)) (m 10 (v 2)) rfl h1 h2 h3 (Nat.le_of_eq (Nat.sub_eq_zero_of_le w0)))
theorem Pt {a0 a1 a2:Nat} (h0:a0<a1+1-a2):a0<=a1-a2:=(Nat.le_total a2 (a1+1)).elim (fun w0=>aE [a0,a1,a2,((a1+1)-a2),(a1-a2)] (.c 1 (a (v 0) (k 1)) (v 3) (.c 1 (a (v 3) (v 2)) (a (v 1) (k 1)) (.c 1 (v 1) (a (v 4) (v 2)) .n))) (v 0) (v 4) rfl h0 (Nat.le_of_eq (Nat.sub_add_cancel w0)) (sA a1 a2)) (fun w0=>aE [a0,a1,a2,((a1+1)-a2),(a1-a2)] (.c 1 (a (v 0) (k 1)) (v 3) (.c 1 (v 3) (k 0) .n)) (v 0) (v 4) rfl h0 (Nat.le_of_eq (Nat.sub_eq_zero_of_le w0)))
theorem Q9 {a0 a1 a2 a3:Nat} (h0:a3<=a2) (h1:a1<a3+1-a0):a0+a1<=a2:=(Nat.le_total a0 (a3+1)).elim (fun w0=>aE [a0,a1,a2,a3,((a3+1)-a0)] (.c 1 (v 3) (v 2) (.c 1 (a (v 1) (k 1)) (v 4) (.c 1 (a (v 4) (v 0)) (a (v 3) (k 1)) .n))) (a (v 0) (v 1)) (v 2) rfl h0 h1 (Nat.le_of_eq (Nat.sub_add_cancel w0))) (fun w0=>(Nat.not_succ_le_zero 0 (aE [a0,a1,a2,a3,((a3+1)-a0)] (.c 1 (a (v 1) (k 1)) (v 4) (.c 1 (v 4) (k 0) .n)) (k 1) (k 0) rfl h1 (Nat.le_of_eq (Nat.sub_eq_zero_of_le w0)))).elim)
theorem Ra {a0 a1 a2:Nat} (h0:a0<a1+a2) (h1: ¬a0<a1):a0-a1<a2:=aE [a0,a1,a2,(a0-a1)] (.c 1 (a (v 0) (k 1)) (a (v 1) (v 2)) (.c 1 (a (v 3) (v 1)) (v 0) .n)) (a (v 3) (k 1)) (v 2) rfl h0 (Nat.le_of_eq (Nat.sub_add_cancel (aE [a0,a1,a2,(a0-a1)] (.c 1 (v 1) (v 0) .n) (v 1) (v 0) rfl (Nat.le_of_not_lt h1))))
theorem Pu {a0 a1:Nat} (h0: ¬a0<a1):a0=a1+(a0-a1):=Nat.le_antisymm (aE [a0,a1,(a0-a1)] (.c 1 (v 0) (a (v 2) (v 1)) .n) (v 0) (a (v 1) (v 2)) rfl (sA a0 a1)) (aE [a0,a1,(a0-a1)] (.c 1 (a (v 2) (v 1)) (v 0) .n) (a (v 1) (v 2)) (v 0) rfl (Nat.le_of_eq (Nat.sub_add_cancel (aE [a0,a1,(a0-a1)] (.c 1 (v 1) (v 0) .n) (v 1) (v 0) rfl (Nat.le_of_not_lt h0)))))
theorem Rf {a0 a1 a2 a3 a4 a5:Nat} (h0:a4<=a3) (h1:a5<a4+1-a0) (h2:a1<a2+a5):a0+(a1-a2)<=a3:=(Nat.le_total a0 (a4+1)).elim (fun w0=>(Nat.le_total a2 a1).elim (fun w1=>aE [a0,a1,a2,a3,a4,a5,((a4+1)-a0),(a1-a2)] (.c 1 (v 4) (v 3) (.c 1 (a (v 5) (k 1)) (v 6) (.c 1 (a (v 1) (k 1)) (a (v 2) (v 5)) (.c 1 (a (v 6) (v 0)) (a (v 4) (k 1)) (.c 1 (a (v 7) (v 2)) (v 1) .n))))) (a (v 0) (v 7)) (v 3) rfl h0 h1 h2 (Nat.le_of_eq (Nat.sub_add_cancel w0)) (Nat.le_of_eq (Nat.sub_add_cancel w1))) (fun w1=>aE [a0,a1,a2,a3,a4,a5,((a4+1)-a0),(a1-a2)] (.c 1 (v 4) (v 3) (.c 1 (a (v 5) (k 1)) (v 6) (.c 1 (a (v 6) (v 0)) (a (v 4) (k 1)) (.c 1 (v 7) (k 0) .n)))) (a (v 0) (v 7)) (v 3) rfl h0 h1 (Nat.le_of_eq (Nat.sub_add_cancel w0)) (Nat.le_of_eq (Nat.sub_eq_zero_of_le w1)))) (fun w0=>(Nat.not_succ_le_zero 0 (aE [a0,a1,a2,a3,a4,a5,((a4+1)-a0),(a1-a2)] (.c 1 (a (v 5) (k 1)) (v 6) (.c 1 (v 6) (k 0) .n)) (k 1) (k 0) rfl h1 (Nat.le_of_eq (Nat.sub_eq_zero_of_le w0)))).elim)
theorem Rg {a0 a1 a2:Nat} (h0:a2<=a1/\a1<=a2+9) (h1:a0<=a1-a2):a0<a1+1-a2:=aE [a0,a1,a2,(a1-a2),((a1+1)-a2)] (.c 1 (v 0) (v 3) (.c 1 (a (v 1) (k 1)) (a (v 4) (v 2)) (.c 1 (a (v 3) (v 2)) (v 1) .n))) (a (v 0) (k 1)) (v 4) rfl h1 (sA (a1+1) a2) (Nat.le_of_eq (Nat.sub_add_cancel (aE [a0,a1,a2,(a1-a2),((a1+1)-a2)] (.c 1 (v 2) (v 1) .n) (v 2) (v 1) rfl h0.1)))
theorem Rh {a0 a1 a2 a3:Nat} (h0:a0<=a3/\a3<=a0+9) (h1:a3<=a2) (h2:a1<=a3-a0):a0+a1<=a2:=aE [a0,a1,a2,a3,(a3-a0)] (.c 1 (v 3) (v 2) (.c 1 (v 1) (v 4) (.c 1 (a (v 4) (v 0)) (v 3) .n))) (a (v 0) (v 1)) (v 2) rfl h1 h2 (Nat.le_of_eq (Nat.sub_add_cancel (aE [a0,a1,a2,a3,(a3-a0)] (.c 1 (v 0) (v 3) .n) (v 0) (v 3) rfl h0.1)))
theorem Ri {a0 a1 a2 a3:Nat} (h0:a0<a1+(a2-a3)+1):a0-a1<=a2-a3:=(Nat.le_total a3 a2).elim (fun w0=>(Nat.le_total a1 a0).elim (fun w1=>aE [a0,a1,a2,a3,(a2-a3),(a0-a1)] (.c 1 (a (v 0) (k 1)) (a (a (v 1) (v 4)) (k 1)) (.c 1 (a (v 5) (v 1)) (v 0) .n)) (v 5) (v 4) rfl h0 (Nat.le_of_eq (Nat.sub_add_cancel w1))) (fun w1=>aE [a0,a1,a2,a3,(a2-a3),(a0-a1)] (.c 1 (v 5) (k 0) .n) (v 5) (v 4) rfl (Nat.le_of_eq (Nat.sub_eq_zero_of_le w1)))) (fun w0=>aE [a0,a1,a2,a3,(a2-a3),(a0-a1)] (.c 1 (v 5) (k 0) .n) (v 5) (v 4) rfl (Nat.le_of_eq (Nat.sub_eq_zero_of_le (aE [a0,a1,a2,a3,(a2-a3),(a0-a1)] (.c 1 (a (v 0) (k 1)) (a (a (v 1) (v 4)) (k 1)) (.c 1 (v 4) (k 0) .n)) (v 0) (v 1) rfl h0 (Nat.le_of_eq (Nat.sub_eq_zero_of_le w0))))))
theorem Rj {a0 a1:Nat} (h0:a0<=a1) (h1:a1≠a0):a0+1<=a1:=Nat.lt_of_le_of_ne h0 h1.symm
theorem Rk {a0 a1 a2:Nat} (h0:a0<a1+(a2+1)):a0<a1+1+a2:=aE [a0,a1,a2] (.c 1 (a (v 0) (k 1)) (a (v 1) (a (v 2) (k 1))) .n) (a (v 0) (k 1)) (a (a (v 1) (k 1)) (v 2)) rfl h0
theorem Rl {a0 a1 a2:Nat} (h0:a0+(a1+1)<=a2):a0+1+a1<=a2:=aE [a0,a1,a2] (.c 1 (a (v 0) (a (v 1) (k 1))) (v 2) .n) (a (a (v 0) (k 1)) (v 1)) (v 2) rfl h0
theorem JU {a0 a1:Nat} (h0:a0<=a1):a0<a1+1:=aE [a0,a1] (.c 1 (v 0) (v 1) .n) (a (v 0) (k 1)) (a (v 1) (k 1)) rfl h0
theorem Rm {a0 a1:Nat} (h0:a0<14+a1):a0<0+(a1+15):=aE [a0,a1] (.c 1 (a (v 0) (k 1)) (a (k 14) (v 1)) .n) (a (v 0) (k 1)) (a (k 0) (a (v 1) (k 15))) rfl h0
theorem Rn {a0:Nat}:0+a0<=a0:=aE [a0] .n (a (k 0) (v 0)) (v 0) rfl
theorem JV {a0 a1:Nat} (h0:a0<a1):a0+1<=a1:=aE [a0,a1] (.c 1 (a (v 0) (k 1)) (v 1) .n) (a (v 0) (k 1)) (v 1) rfl h0
theorem Ro {a0 a1 a2:Nat} (h0:a0+(a2+1)<=a1+1):a0<=a1:=aE [a0,a1,a2] (.c 1 (a (v 0) (a (v 2) (k 1))) (a (v 1) (k 1)) .n) (v 0) (v 1) rfl h0
theorem Rp {a0 a1 a2:Nat} (h0:a0+(a1+1)<=a2+1):a0+1+a1<=a2+1:=aE [a0,a1,a2] (.c 1 (a (v 0) (a (v 1) (k 1))) (a (v 2) (k 1)) .n) (a (a (v 0) (k 1)) (v 1)) (a (v 2) (k 1)) rfl h0
theorem Rr {a0 a1:Nat} (h0:a0=a1) (h1:a1<=18):a0<=32:=aE [a0,a1] (.c 1 (v 0) (v 1) (.c 1 (v 1) (k 18) .n)) (v 0) (k 32) rfl (Nat.le_of_eq h0) h1
theorem Pw {a0 a1:Nat} (h0:a0<=310+3*a1):a0+1<=310+3*(a1+1):=aE [a0,a1] (.c 1 (v 0) (a (k 310) (m 3 (v 1))) .n) (a (v 0) (k 1)) (a (k 310) (m 3 (a (v 1) (k 1)))) rfl h0
theorem Px {a0 a1:Nat} (h0:a0<=100+20*a1):a0+3<=100+20*(a1+1):=aE [a0,a1] (.c 1 (v 0) (a (k 100) (m 20 (v 1))) .n) (a (v 0) (k 3)) (a (k 100) (m 20 (a (v 1) (k 1)))) rfl h0
theorem Py {a0 a1 a2:Nat} {a3:Prop} (h0:a0<=310+3*a1/\a2<=100+20*a1/\a1<=100/\a3):a0<1000:=aE [a0,a1,a2] (.c 1 (v 0) (a (k 310) (m 3 (v 1))) (.c 3 (v 1) (k 100) .n)) (a (v 0) (k 1)) (k 1000) rfl h0.1 h0.2.2.1
theorem Rt {a0 a1:Nat} (h0:a1<a0):a0+1-(a1+1)<a0+1-a1:=aE [a0,a1,((a0+1)-(a1+1)),((a0+1)-a1)] (.c 1 (a (v 0) (k 1)) (a (v 3) (v 1)) (.c 1 (a (v 2) (a (v 1) (k 1))) (a (v 0) (k 1)) .n)) (a (v 2) (k 1)) (v 3) rfl (sA (a0+1) a1) (Nat.le_of_eq (Nat.sub_add_cancel (aE [a0,a1,((a0+1)-(a1+1)),((a0+1)-a1)] (.c 1 (a (v 1) (k 1)) (v 0) .n) (a (v 1) (k 1)) (a (v 0) (k 1)) rfl h0)))
theorem Ru {a0 a1:Nat} (h0:a1<a0):(0:Int)<(↑a0:Int)-(↑a1:Int):=Int.sub_pos_of_lt (Int.ofNat_lt.mpr h0)
theorem Rv {a0 a1:Nat}:(↑a0:Int)-((↑a1:Int)+(1:Int))=(↑a0:Int)-(↑a1:Int)-(1:Int):=(Int.sub_sub _ _ _).symm
theorem Rw {a0:Nat}:(↑a0:Int)-(↑a0:Int)<=(0:Int):=Int.le_of_eq (Int.sub_self _)
theorem Rx {a0:Int}:a0+(↑(0:Nat):Int)*(1:Int)=a0:=Int.add_zero a0
theorem Ry {a0:Int}:a0-(↑(0:Nat):Int)=a0:=Int.sub_zero a0
theorem RB {a0 a1:Nat} (h0:a0<=a1+1):a0<=a1+1:=aE [a0,a1] (.c 1 (v 0) (a (v 1) (k 1)) .n) (v 0) (a (v 1) (k 1)) rfl h0
theorem RC {a0 a1:Nat} (h0:a0<=a1+1) (h1:a1<=900):a0<=16777216+1:=aE [a0,a1] (.c 1 (v 0) (a (v 1) (k 1)) (.c 1 (v 1) (k 900) .n)) (v 0) (a (k 16777216) (k 1)) rfl h0 h1
theorem RD {a0 a1:Nat} (h0:a0<a1):a0+1-a1=0:=Nat.le_antisymm (aE [a0,a1,((a0+1)-a1)] (.c 1 (v 2) (k 0) .n) (v 2) (k 0) rfl (Nat.le_of_eq (Nat.sub_eq_zero_of_le (aE [a0,a1,((a0+1)-a1)] (.c 1 (a (v 0) (k 1)) (v 1) .n) (a (v 0) (k 1)) (v 1) rfl h0)))) (aE [a0,a1,((a0+1)-a1)] .n (k 0) (v 2) rfl)
theorem RE {a0:Nat} {a1:Int} {a2:Nat} (h0:a2=a0-(1:Nat)-a1.toNat) (h1:a2<(1000:Nat)): ¬a0-(1:Nat)-a1.toNat>=(16777216:Nat):=h0▸Nat.not_le.mpr (Nat.lt_trans h1 (Nat.le_of_ble_eq_true rfl))
theorem RF {a0 a1 a2:Nat} (h0:a0<=310+3*a2) (h1:a1<=1):a0+a1<=310+3*(a2+1):=aE [a0,a1,a2] (.c 1 (v 0) (a (k 310) (m 3 (v 2))) (.c 1 (v 1) (k 1) .n)) (a (v 0) (v 1)) (a (k 310) (m 3 (a (v 2) (k 1)))) rfl h0 h1
theorem RG {a0 a1 a2:Nat} (h0:a0<=100+20*a2) (h1:a1<=10):a0+a1<=100+20*(a2+1):=aE [a0,a1,a2] (.c 1 (v 0) (a (k 100) (m 20 (v 2))) (.c 1 (v 1) (k 10) .n)) (a (v 0) (v 1)) (a (k 100) (m 20 (a (v 2) (k 1)))) rfl h0 h1
theorem Gh {a0 a1 a2:Nat} (h0:a0+(a2+1)<a1):a0<a1:=aE [a0,a1,a2] (.c 1 (a (a (v 0) (a (v 2) (k 1))) (k 1)) (v 1) .n) (a (v 0) (k 1)) (v 1) rfl h0
theorem Pz {a0 a1 a2:Nat} (h0:a0+(a1+1)<a2):a0+1+a1<a2:=aE [a0,a1,a2] (.c 1 (a (a (v 0) (a (v 1) (k 1))) (k 1)) (v 2) .n) (a (a (a (v 0) (k 1)) (v 1)) (k 1)) (v 2) rfl h0
theorem PA {a0 a1 a2:Nat} (h0:a0+(a1+1+1)<a2):a0+1+a1<a2:=aE [a0,a1,a2] (.c 1 (a (a (v 0) (a (a (v 1) (k 1)) (k 1))) (k 1)) (v 2) .n) (a (a (a (v 0) (k 1)) (v 1)) (k 1)) (v 2) rfl h0
theorem PC {a0 a1 a2:Nat} (h0:a0+a2<a1):a0<a1:=aE [a0,a1,a2] (.c 1 (a (a (v 0) (v 2)) (k 1)) (v 1) .n) (a (v 0) (k 1)) (v 1) rfl h0
theorem RH {a0 a1 a2 a3:Nat} (h0:a0+max a1 a3<a2):a0+a1<a2:=aE [a0,a1,a2,a3,(max a1 a3)] (.c 1 (a (a (v 0) (v 4)) (k 1)) (v 2) (.c 1 (v 1) (v 4) .n)) (a (a (v 0) (v 1)) (k 1)) (v 2) rfl h0 (Nat.le_max_left a1 a3)
theorem RK {a0 a1 a2 a3:Nat} (h0:a0+max a3 a1<a2):a0+a1<a2:=aE [a0,a1,a2,a3,(max a3 a1)] (.c 1 (a (a (v 0) (v 4)) (k 1)) (v 2) (.c 1 (v 1) (v 4) .n)) (a (a (v 0) (v 1)) (k 1)) (v 2) rfl h0 (Nat.le_max_right a3 a1)
theorem PD {a0 a1 a2:Nat} (h0:a2+1<=a1+1) (h1:a0<=a2):a0<=a1:=aE [a0,a1,a2] (.c 1 (a (v 2) (k 1)) (a (v 1) (k 1)) (.c 1 (v 0) (v 2) .n)) (v 0) (v 1) rfl h0 h1
theorem RL {a0 a1 a2:Nat} {a3:Prop} (h0:a1<=310+3*a2/\a0<=100+20*a2/\a2<=100/\a3):a0<=2100/\a1<=610:=⟨aE [a0,a1,a2] (.c 1 (v 0) (a (k 100) (m 20 (v 2))) (.c 20 (v 2) (k 100) .n)) (v 0) (k 2100) rfl h0.2.1 h0.2.2.1,aE [a0,a1,a2] (.c 1 (v 1) (a (k 310) (m 3 (v 2))) (.c 3 (v 2) (k 100) .n)) (v 1) (k 610) rfl h0.1 h0.2.2.1⟩
theorem PF:(0:Nat)<=(1000:Nat):=aE [] .n (k 0) (k 1000) rfl
theorem PG {a0 a1 a2:Nat} (h0:a0<=2100/\a2<=610) (h1:a1=9900):a0<a1:=aE [a0,a1,a2] (.c 1 (v 0) (k 2100) (.c 1 (k 9900) (v 1) .n)) (a (v 0) (k 1)) (v 1) rfl h0.1 (Nat.le_of_eq h1.symm)
theorem Gi {a0 a1 a2 a3:Nat} (h0:a0<=2100/\a3<=610) (h1:a2=9900) (h2:a1<=1000):a0+1+a1<a2:=aE [a0,a1,a2,a3] (.c 1 (v 0) (k 2100) (.c 1 (k 9900) (v 2) (.c 1 (v 1) (k 1000) .n))) (a (a (a (v 0) (k 1)) (v 1)) (k 1)) (v 2) rfl h0.1 (Nat.le_of_eq h1.symm) h2
theorem RM:(-1:Int)<(0:Int):=by decide
theorem RN {a0 a1:Nat} (h0:a0=a1) (h1:a1-(1:Nat)<a1):(1:Int)<=(↑a0:Int):=h0▸Int.ofNat_le.mpr (Nat.lt_of_le_of_lt (Nat.zero_le _) h1)
theorem RO {a0 a1:Nat} (h0:a0=a1):((-1:Int)+(↑a0:Int)).toNat=a1-(1:Nat):=h0▸(by rw [Int.add_comm];exact Int.toNat_sub a0 1)
theorem xd {a0:Nat} (h0:a0<=16000000):a0<=16777216:=aE [a0] (.c 1 (v 0) (k 16000000) .n) (v 0) (k 16777216) rfl h0
theorem JW {a0:Nat} (h0:a0<16000000):a0<=16777215:=aE [a0] (.c 1 (a (v 0) (k 1)) (k 16000000) .n) (v 0) (k 16777215) rfl h0
theorem Gj {a0 a1 a2:Nat} (h0:a2<=a1) (h1:a0<a2+(a1-a2)):a0<a1:=aE [a0,a1,a2,(a1-a2)] (.c 1 (a (v 0) (k 1)) (a (v 2) (v 3)) (.c 1 (a (v 3) (v 2)) (v 1) .n)) (a (v 0) (k 1)) (v 1) rfl h1 (Nat.le_of_eq (Nat.sub_add_cancel (aE [a0,a1,a2,(a1-a2)] (.c 1 (v 2) (v 1) .n) (v 2) (v 1) rfl h0)))
theorem Gk {a0 a1 a2:Nat} (h0:a0<=a1):a0+(a1-a0)-(a2+1)=a1-(a2+1):=congrArg (· - (a2+1)) (Nat.add_sub_cancel' h0)
theorem JX {a0 a1:Nat} (h0:a0>=a1) (h1:a0<a1+1):a0=a1:=Nat.le_antisymm (aE [a0,a1] (.c 1 (a (v 0) (k 1)) (a (v 1) (k 1)) .n) (v 0) (v 1) rfl h1) (aE [a0,a1] (.c 1 (v 1) (v 0) .n) (v 1) (v 0) rfl h0)
theorem JY {a0 a1 a2:Nat} (h0:a0<a2):a0<a1+(a2-a1):=aE [a0,a1,a2,(a2-a1)] (.c 1 (a (v 0) (k 1)) (v 2) (.c 1 (v 2) (a (v 3) (v 1)) .n)) (a (v 0) (k 1)) (a (v 1) (v 3)) rfl h0 (sA a2 a1)
theorem JZ {a0 a1 a2:Nat} (h0:a2<=a1) (h1:a0<a2):a0<a1:=aE [a0,a1,a2] (.c 1 (v 2) (v 1) (.c 1 (a (v 0) (k 1)) (v 2) .n)) (a (v 0) (k 1)) (v 1) rfl h0 h1
theorem J0 {a0 a1:Nat} (h0:a0<a1): ¬a0=a1:=Nat.ne_of_lt (aE [a0,a1] (.c 1 (a (v 0) (k 1)) (v 1) .n) (a (v 0) (k 1)) (v 1) rfl h0)
theorem Gl {a0 a1 a2:Nat} (h0:a2=a1) (h1:a0<a2):a0<a1:=aE [a0,a1,a2] (.c 1 (v 2) (v 1) (.c 1 (a (v 0) (k 1)) (v 2) .n)) (a (v 0) (k 1)) (v 1) rfl (Nat.le_of_eq h0) h1
theorem Gm {a0 a1:Nat} (h0:a0+9<a1):a0+8<a1:=aE [a0,a1] (.c 1 (a (a (v 0) (k 9)) (k 1)) (v 1) .n) (a (a (v 0) (k 8)) (k 1)) (v 1) rfl h0
theorem J5 {a0 a1 a2 a3:Nat} (h0:a2=a1) (h1:a3<a2) (h2:a0<a3):a0<a1:=aE [a0,a1,a2,a3] (.c 1 (v 2) (v 1) (.c 1 (a (v 3) (k 1)) (v 2) (.c 1 (a (v 0) (k 1)) (v 3) .n))) (a (v 0) (k 1)) (v 1) rfl (Nat.le_of_eq h0) h1 h2
theorem Ds {a0 a1 a2:Nat} (h0:a1<=8) (h1:a0+9<a2):a0+a1<a2:=aE [a0,a1,a2] (.c 1 (v 1) (k 8) (.c 1 (a (a (v 0) (k 9)) (k 1)) (v 2) .n)) (a (a (v 0) (v 1)) (k 1)) (v 2) rfl h0 h1
theorem Gn {a0 a1 a2:Nat} (h0:a0=a2) (h1:a2<=a1):a0<=a1:=aE [a0,a1,a2] (.c 1 (v 0) (v 2) (.c 1 (v 2) (v 1) .n)) (v 0) (v 1) rfl (Nat.le_of_eq h0) h1
theorem J6 {a0 a1 a2 a3:Nat} (h0:a3<=a1) (h1:a0-a3<a2+1) (h2:a1<a0):a0-(a1+1)<a2:=aE [a0,a1,a2,a3,(a0-a3),(a0-(a1+1))] (.c 1 (v 3) (v 1) (.c 1 (a (v 4) (k 1)) (a (v 2) (k 1)) (.c 1 (v 0) (a (v 4) (v 3)) (.c 1 (a (v 5) (a (v 1) (k 1))) (v 0) .n)))) (a (v 5) (k 1)) (v 2) rfl h0 h1 (sA a0 a3) (Nat.le_of_eq (Nat.sub_add_cancel (aE [a0,a1,a2,a3,(a0-a3),(a0-(a1+1))] (.c 1 (a (v 1) (k 1)) (v 0) .n) (a (v 1) (k 1)) (v 0) rfl h2)))
theorem J7 {a0 a1 a2 a3:Nat} (h0:a0<=a3) (h1:a3<10*a2):a0-a1<10*a2:=aE [a0,a1,a2,a3,(a0-a1)] (.c 1 (v 0) (v 3) (.c 1 (a (v 3) (k 1)) (m 10 (v 2)) (.c 1 (v 4) (v 0) .n))) (a (v 4) (k 1)) (m 10 (v 2)) rfl h0 h1 (Nat.sub_le a0 a1)
theorem J8 {a0:Nat} (h0:5*a0<3*7):a0+1<=5:=Nat.le_of_mul_le_mul_left (aE [a0] (.c 1 (a (m 5 (v 0)) (k 1)) (m 3 (k 7)) .n) (m 5 (a (v 0) (k 1))) (m 5 (k 5)) rfl h0) (by decide:0<5)
theorem J9 {a0 a1:Nat} (h0:a1=7) (h1:a0+1<=5):a0+1<=a1:=aE [a0,a1] (.c 1 (k 7) (v 1) (.c 1 (a (v 0) (k 1)) (k 5) .n)) (a (v 0) (k 1)) (v 1) rfl (Nat.le_of_eq h0.symm) h1
theorem RP {a0 a1:Nat} (h0:a0*5<a1*3):5*a0<3*a1:=by lia
theorem Ka {a0:Nat} (h0:7*3<=a0*5) (h1:a0<=5):a0=5:=by lia
theorem Kb {a0 a1:Nat} (h0:a0=a1) (h1:a1=5):a0<=18:=aE [a0,a1] (.c 1 (v 0) (v 1) (.c 1 (v 1) (k 5) .n)) (v 0) (k 18) rfl (Nat.le_of_eq h0) (Nat.le_of_eq h1)
theorem Kc {a0:Nat} (h0:a0=5):5*a0<3*31:=aE [a0] (.c 10 (v 0) (k 5) .n) (a (m 5 (v 0)) (k 1)) (m 3 (k 31)) rfl (Nat.le_of_eq h0)
theorem Dt {a0 a1:Nat} (h0:10*a1<=460) (h1:a0<10*a1):a0-0<100000:=aE [a0,a1,(a0-0)] (.c 1 (m 10 (v 1)) (k 460) (.c 1 (a (v 0) (k 1)) (m 10 (v 1)) (.c 1 (v 2) (v 0) .n))) (a (v 2) (k 1)) (k 100000) rfl h0 h1 (Nat.sub_le a0 0)
theorem Gq {a0:Nat} (h0:a0<=12):a0<=16777216:=aE [a0] (.c 1 (v 0) (k 12) .n) (v 0) (k 16777216) rfl h0
theorem Kd: ¬(32:Nat) > (16777216:Nat):=Nat.not_lt_of_le (aE [] .n (k 32) (k 16777216) rfl)
theorem vf {a0:Nat}: ¬(↑a0:Int)<(0:Int):=Int.not_lt.mpr (Int.natCast_nonneg _)
theorem AK {a0:Nat}:(↑(a0+(1:Nat)):Int)=(↑a0:Int)+(1:Int):=rfl
theorem Du {a0 a1:Nat} (h0:a1=a0):a0<=a1:=aE [a0,a1] (.c 1 (v 0) (v 1) .n) (v 0) (v 1) rfl (Nat.le_of_eq h0.symm)
theorem Ke:(0:Nat)+(1:Nat)+(1:Nat)+((0:Nat)+(1:Nat)+(1:Nat)+(1:Nat)+(1:Nat))+((0:Nat)+(1:Nat)+(1:Nat))<=(16777216:Nat)+(2:Nat):=aE [] .n (a (a (a (a (k 0) (k 1)) (k 1)) (a (a (a (a (k 0) (k 1)) (k 1)) (k 1)) (k 1))) (a (a (k 0) (k 1)) (k 1))) (a (k 16777216) (k 2)) rfl
theorem rT {a0 a1:Nat} (h0:a0+2000<a1):a0+1+9<a1:=aE [a0,a1] (.c 1 (a (a (v 0) (k 2000)) (k 1)) (v 1) .n) (a (a (a (v 0) (k 1)) (k 9)) (k 1)) (v 1) rfl h0
theorem Gr {a0 a1 a2:Nat} (h0:a1<=8) (h1:a0+2000<a2):a0+1+a1<a2:=aE [a0,a1,a2] (.c 1 (v 1) (k 8) (.c 1 (a (a (v 0) (k 2000)) (k 1)) (v 2) .n)) (a (a (a (v 0) (k 1)) (v 1)) (k 1)) (v 2) rfl h0 h1
theorem Kf {a0 a1:Nat} (h0:a0+a1<=16000000):a0+a1<=16777216:=aE [a0,a1] (.c 1 (a (v 0) (v 1)) (k 16000000) .n) (a (v 0) (v 1)) (k 16777216) rfl h0
theorem Kg {a0 a1 a2:Nat} (h0:a2+1<=a1) (h1:a0<a2):a0+1<a1:=aE [a0,a1,a2] (.c 1 (a (v 2) (k 1)) (v 1) (.c 1 (a (v 0) (k 1)) (v 2) .n)) (a (a (v 0) (k 1)) (k 1)) (v 1) rfl h0 h1
theorem Kh {a0:Nat}:(0:Int)<=(0:Int)+(↑a0:Int):=(Int.zero_add _).symm▸Int.natCast_nonneg a0
theorem Ki {a0:Nat}:((0:Int)+(↑a0:Int)).toNat=a0:=congrArg Int.toNat (Int.zero_add a0)
theorem Kj:(1:Nat)<=(100:Nat):=aE [] .n (k 1) (k 100) rfl
theorem Kk {a0:Nat} (h0:a0<=310):a0+1<=310+3*1:=aE [a0] (.c 1 (v 0) (k 310) .n) (a (v 0) (k 1)) (a (k 310) (m 3 (k 1))) rfl h0
theorem Kl {a0:Nat} (h0:a0<=100):a0+3<=100+20*1:=aE [a0] (.c 1 (v 0) (k 100) .n) (a (v 0) (k 3)) (a (k 100) (m 20 (k 1))) rfl h0
theorem Km {a0:Nat} (h0:a0<=310):a0<1000:=aE [a0] (.c 1 (v 0) (k 310) .n) (a (v 0) (k 1)) (k 1000) rfl h0
theorem Gs {a0:Nat} (h0:a0<90):a0<100:=aE [a0] (.c 1 (a (v 0) (k 1)) (k 90) .n) (a (v 0) (k 1)) (k 100) rfl h0
theorem Gu {a0:Nat} (h0:a0<90):a0+1<100:=aE [a0] (.c 1 (a (v 0) (k 1)) (k 90) .n) (a (a (v 0) (k 1)) (k 1)) (k 100) rfl h0
theorem Dv {a0:Nat} (h0:a0<1000):a0<=16000000:=aE [a0] (.c 1 (a (v 0) (k 1)) (k 1000) .n) (v 0) (k 16000000) rfl h0
theorem Kn {a0 a1 a2:Nat} (h0:a0<=a1):a0<=a1+a2:=aE [a0,a1,a2] (.c 1 (v 0) (v 1) .n) (v 0) (a (v 1) (v 2)) rfl h0
theorem Ko {a0 a1:Nat} (h0:a0=a1) (h1:a1<=9):a0<=9:=aE [a0,a1] (.c 1 (v 0) (v 1) (.c 1 (v 1) (k 9) .n)) (v 0) (k 9) rfl (Nat.le_of_eq h0) h1
theorem Kq {a0:Nat} (h0:a0<=700):a0<1000:=aE [a0] (.c 1 (v 0) (k 700) .n) (a (v 0) (k 1)) (k 1000) rfl h0
theorem Kr {a0 a1:Nat} {a2:Prop} {a3:Nat} (h0:a0<=701+2*a1/\a2) (h1:a3<=9) (h2:a1<a3):a0<1000:=aE [a0,a1,a3] (.c 1 (v 0) (a (k 701) (m 2 (v 1))) (.c 2 (v 2) (k 9) (.c 2 (a (v 1) (k 1)) (v 2) .n))) (a (v 0) (k 1)) (k 1000) rfl h0.1 h1 h2
theorem Ks {a0 a1 a2:Nat} (h0:a0<=701+2*a1+1) (h1:a2<=9) (h2:a1<a2):a0<=16000000:=aE [a0,a1,a2] (.c 1 (v 0) (a (a (k 701) (m 2 (v 1))) (k 1)) (.c 2 (v 2) (k 9) (.c 2 (a (v 1) (k 1)) (v 2) .n))) (v 0) (k 16000000) rfl h0 h1 h2
theorem Kt {a0 a1 a2:Nat} (h0:a0+a1+a2<=3000):a0<4000:=aE [a0,a1,a2] (.c 1 (a (a (v 0) (v 1)) (v 2)) (k 3000) .n) (a (v 0) (k 1)) (k 4000) rfl h0
theorem Ku {a0 a1 a2 a3:Nat} (h0:a0+(a2+1)<=a3):a0+(a1+a2)+1<=a3+a1:=aE [a0,a1,a2,a3] (.c 1 (a (v 0) (a (v 2) (k 1))) (v 3) .n) (a (a (v 0) (a (v 1) (v 2))) (k 1)) (a (v 3) (v 1)) rfl h0
theorem Kv {a0 a1 a2:Nat} (h0:a2<a1):a0+(a1-(a2+1))+1=a0+(a1-a2):=Nat.le_antisymm (aE [a0,a1,a2,(a1-(a2+1)),(a1-a2)] (.c 1 (v 1) (a (v 4) (v 2)) (.c 1 (a (v 3) (a (v 2) (k 1))) (v 1) .n)) (a (a (v 0) (v 3)) (k 1)) (a (v 0) (v 4)) rfl (sA a1 a2) (Nat.le_of_eq (Nat.sub_add_cancel (aE [a0,a1,a2,(a1-(a2+1)),(a1-a2)] (.c 1 (a (v 2) (k 1)) (v 1) .n) (a (v 2) (k 1)) (v 1) rfl h0)))) (aE [a0,a1,a2,(a1-(a2+1)),(a1-a2)] (.c 1 (v 1) (a (v 3) (a (v 2) (k 1))) (.c 1 (a (v 4) (v 2)) (v 1) .n)) (a (v 0) (v 4)) (a (a (v 0) (v 3)) (k 1)) rfl (sA a1 (a2+1)) (Nat.le_of_eq (Nat.sub_add_cancel (aE [a0,a1,a2,(a1-(a2+1)),(a1-a2)] (.c 1 (a (v 2) (k 1)) (v 1) .n) (v 2) (v 1) rfl h0))))
theorem Kw {a0 a1 a2 a3:Nat} (h0:a2+1=a3) (h1:a0+a1+a3<=3000):a0+a1+a2<=3000:=aE [a0,a1,a2,a3] (.c 1 (a (v 2) (k 1)) (v 3) (.c 1 (a (a (v 0) (v 1)) (v 3)) (k 3000) .n)) (a (a (v 0) (v 1)) (v 2)) (k 3000) rfl (Nat.le_of_eq h0) h1
theorem Kx {a0 a1 a2:Nat} (h0:a1+1=a2):a0+a1<a0+a2:=aE [a0,a1,a2] (.c 1 (a (v 1) (k 1)) (v 2) .n) (a (a (v 0) (v 1)) (k 1)) (a (v 0) (v 2)) rfl (Nat.le_of_eq h0)
theorem Ky {a0 a1 a2 a3:Nat} (h0:a0+a1+a3<=3000) (h1:a2<=a3):a0+a1+a2<=3000:=aE [a0,a1,a2,a3] (.c 1 (a (a (v 0) (v 1)) (v 3)) (k 3000) (.c 1 (v 2) (v 3) .n)) (a (a (v 0) (v 1)) (v 2)) (k 3000) rfl h0 h1
theorem Kz {a0:Nat} (h0:a0<=3000):0+a0+0<=3000:=aE [a0] (.c 1 (v 0) (k 3000) .n) (a (a (k 0) (v 0)) (k 0)) (k 3000) rfl h0
theorem KA {a0 a1 a2:Nat} (h0:a0<=min a1 a2) (h1:a2<=1000):a0<=16777216:=aE [a0,a1,a2,(min a1 a2)] (.c 1 (v 0) (v 3) (.c 1 (v 2) (k 1000) (.c 1 (v 3) (v 2) .n))) (v 0) (k 16777216) rfl h0 h1 (Nat.min_le_right a1 a2)
end
section
open Lx
theorem KC {a0 a1 a2 a3:Nat} (h0:a2<=a1/\a1<=a2+9) (h1:a0<=10*a3):a0+(a1-a2)+1<=10*(a3+1):=aE [a0,a1,a2,a3,(a1-a2)] (.c 1 (v 1) (a (v 2) (k 9)) (.c 1 (v 0) (m 10 (v 3)) (.c 1 (a (v 4) (v 2)) (v 1) .n))) (a (a (v 0) (v 4)) (k 1)) (m 10 (a (v 3) (k 1))) rfl h0.2 h1 (Nat.le_of_eq (Nat.sub_add_cancel (aE [a0,a1,a2,a3,(a1-a2)] (.c 1 (v 2) (v 1) .n) (v 2) (v 1) rfl h0.1)))
theorem KD {a0:Int}:(a0%(2:Int) ^ (64:Nat)).toNat<(2:Nat) ^ (64:Nat):=by lia
theorem KG {a0 a1 a2:Nat} (h0:a0+a1=a2) (h1:a1 > 0):a0+1+(a1-1)=a2:=Nat.le_antisymm (aE [a0,a1,a2,(a1-1)] (.c 1 (a (v 0) (v 1)) (v 2) (.c 1 (a (v 3) (k 1)) (v 1) .n)) (a (a (v 0) (k 1)) (v 3)) (v 2) rfl (Nat.le_of_eq h0) (Nat.le_of_eq (Nat.sub_add_cancel (aE [a0,a1,a2,(a1-1)] (.c 1 (a (k 0) (k 1)) (v 1) .n) (k 1) (v 1) rfl h1)))) (aE [a0,a1,a2,(a1-1)] (.c 1 (v 2) (a (v 0) (v 1)) (.c 1 (v 1) (a (v 3) (k 1)) .n)) (v 2) (a (a (v 0) (k 1)) (v 3)) rfl (Nat.le_of_eq h0.symm) (sA a1 1))
theorem Dw {a0:Nat} (h0:a0<(2:Nat) ^ (60:Nat)):(↑a0:Int)<(2:Int) ^ (63:Nat):=Int.lt_trans (Int.ofNat_lt.mpr h0) (by decide)
theorem Gv {a0 a1 a2 a3:Nat} (h0:a0<=2100/\a3<=610) (h1:a2=9900) (h2:a1<=1000):a0+(a1+1)<a2:=aE [a0,a1,a2,a3] (.c 1 (v 0) (k 2100) (.c 1 (k 9900) (v 2) (.c 1 (v 1) (k 1000) .n))) (a (a (v 0) (a (v 1) (k 1))) (k 1)) (v 2) rfl h0.1 (Nat.le_of_eq h1.symm) h2
theorem KH {a0:Int} (h0:a0<(2:Int) ^ (60:Nat)):a0<(2:Int) ^ (63:Nat):=Int.lt_trans h0 (by decide)
theorem KI: -(2:Int) ^ (63:Nat)<=(-1:Int):=by decide
theorem Gw {a0:Nat} {a1:Prop} (h0:a0<=1000/\a1):a0<=16777216:=aE [a0] (.c 1 (v 0) (k 1000) .n) (v 0) (k 16777216) rfl h0.1
theorem KJ {a0:Nat} (h0:a0<=1000):a0<2 ^ 60:=aE [a0] (.c 1 (v 0) (k 1000) .n) (a (v 0) (k 1)) (k 1152921504606846976) rfl h0
theorem KL {a0:Nat} (h0:a0<(1000:Nat)):(0:Int)+(↑a0:Int)<(2:Int) ^ (60:Nat):=(Int.zero_add (a0:Int)).symm▸Int.lt_trans (Int.ofNat_lt.mpr h0) (by decide)
theorem KN: -(2:Int) ^ (62:Nat)<=(0:Int)/\(0:Int)<(2:Int) ^ (62:Nat):=by decide
theorem KO {a0:Nat} (h0:a0<=(1000:Nat)): -(2:Int) ^ (62:Nat)<=(↑a0:Int)/\(↑a0:Int)<(2:Int) ^ (62:Nat):=⟨Int.le_trans (by decide) (Int.natCast_nonneg _),Int.lt_of_le_of_lt (Int.ofNat_le.mpr h0) (by decide)⟩
theorem KP {a0 a1 a2 a3:Nat} (h0:a0<=a3+a2) (h1:a3<=a1):a0<=a1+a2:=aE [a0,a1,a2,a3] (.c 1 (v 0) (a (v 3) (v 2)) (.c 1 (v 3) (v 1) .n)) (v 0) (a (v 1) (v 2)) rfl h0 h1
theorem KQ {a0:Nat} (h0:a0<=9):a0<2 ^ 60:=aE [a0] (.c 1 (v 0) (k 9) .n) (a (v 0) (k 1)) (k 1152921504606846976) rfl h0
theorem KR {a0:Nat} (h0:a0<1000):a0<=2 ^ 24:=aE [a0] (.c 1 (a (v 0) (k 1)) (k 1000) .n) (v 0) (k 16777216) rfl h0
theorem KS {a0:Nat} (h0:a0<1000):a0<2 ^ 60:=aE [a0] (.c 1 (a (v 0) (k 1)) (k 1000) .n) (a (v 0) (k 1)) (k 1152921504606846976) rfl h0
theorem KU {a0 a1 a2 a3:Nat} (h0:a1+a2+a3<=3000) (h1:a0<=a1):a0<=3000:=aE [a0,a1,a2,a3] (.c 1 (a (a (v 1) (v 2)) (v 3)) (k 3000) (.c 1 (v 0) (v 1) .n)) (v 0) (k 3000) rfl h0 h1
end
section
open Lx
theorem KV {a0 a1 a2:Nat}:a0+a1+1=a0+(a1+1)/\a2-a0-a1-1=a2-a0-(a1+1):=by lia
theorem KW {a0 a1 a2 a3:Nat} (h0:a0+a2=a3) (h1:a3<=a1):a0<=a1:=aE [a0,a1,a2,a3] (.c 1 (a (v 0) (v 2)) (v 3) (.c 1 (v 3) (v 1) .n)) (v 0) (v 1) rfl (Nat.le_of_eq h0) h1
theorem KY {a0 a1 a2 a3 a4:Nat} (h0:a4<a2+1-a3) (h1:a0<a1+a4):a0-a1<=a2-a3:=Nat.le_trans (Nat.sub_le_of_le_add (Nat.add_comm a1 a4▸Nat.le_of_lt h1)) (Nat.le_of_lt_succ (Nat.lt_of_lt_of_le h0 (Nat.sub_le_of_le_add (by rw [Nat.succ_add];exact Nat.succ_le_succ (Nat.sub_le_iff_le_add.mp (Nat.le_refl _))))))
theorem KZ {a0 a1 a2 a3:Nat} (h0:a0<a1+(a2-a3)+1):a0-a1<=a2-a3:=(Nat.le_total a3 a2).elim (fun w0=>(Nat.le_total a1 a0).elim (fun w1=>aE [a0,a1,a2,a3,(a2-a3),(a0-a1)] (.c 1 (a (v 0) (k 1)) (a (a (v 1) (v 4)) (k 1)) (.c 1 (a (v 5) (v 1)) (v 0) .n)) (v 5) (v 4) rfl h0 (Nat.le_of_eq (Nat.sub_add_cancel w1))) (fun w1=>aE [a0,a1,a2,a3,(a2-a3),(a0-a1)] (.c 1 (v 5) (k 0) .n) (v 5) (v 4) rfl (Nat.le_of_eq (Nat.sub_eq_zero_of_le w1)))) (fun w0=>aE [a0,a1,a2,a3,(a2-a3),(a0-a1)] (.c 1 (v 5) (k 0) .n) (v 5) (v 4) rfl (Nat.le_of_eq (Nat.sub_eq_zero_of_le (aE [a0,a1,a2,a3,(a2-a3),(a0-a1)] (.c 1 (a (v 0) (k 1)) (a (a (v 1) (v 4)) (k 1)) (.c 1 (v 4) (k 0) .n)) (v 0) (v 1) rfl h0 (Nat.le_of_eq (Nat.sub_eq_zero_of_le w0))))))
theorem K0 {a0 a1 a2:Nat} (h0:a1=a2) (h1:a0=a1) (h2:a2<=18):a0<=31:=aE [a0,a1,a2] (.c 1 (v 1) (v 2) (.c 1 (v 0) (v 1) (.c 1 (v 2) (k 18) .n))) (v 0) (k 31) rfl (Nat.le_of_eq h0) (Nat.le_of_eq h1) h2
theorem K1 {a0:Nat} (h0:a0=1):a0<=10:=aE [a0] (.c 1 (v 0) (k 1) .n) (v 0) (k 10) rfl (Nat.le_of_eq h0)
theorem K5 {a0 a1:Nat} (h0:a0*5<a1*3):5*a0<3*a1:=by lia
theorem K7 {a0 a1:Nat} (h0:a0*3<=a1*5):a0*3<=a1*5:=h0
theorem K8 {a0 a1 a2:Nat} {a3:Prop} (h0:a1<=310+3*a2/\a0<=100+20*a2/\a2<=100/\a3):a0+2000<9900:=aE [a0,a1,a2] (.c 1 (v 0) (a (k 100) (m 20 (v 2))) (.c 20 (v 2) (k 100) .n)) (a (a (v 0) (k 2000)) (k 1)) (k 9900) rfl h0.2.1 h0.2.2.1
theorem K9 {a0 a1 a2:Nat} (h0:a0<=a1):a0<=a1+a2:=aE [a0,a1,a2] (.c 1 (v 0) (v 1) .n) (v 0) (a (v 1) (v 2)) rfl h0
theorem La {a0 a1 a2 a3 a4 a5:Nat} (h0:a2=a3+a4) (h1:a0+a5+a3<=3000) (h2:a1+(a4+1)<=a5):a0+1+a1+a2<=3000:=aE [a0,a1,a2,a3,a4,a5] (.c 1 (v 2) (a (v 3) (v 4)) (.c 1 (a (a (v 0) (v 5)) (v 3)) (k 3000) (.c 1 (a (v 1) (a (v 4) (k 1))) (v 5) .n))) (a (a (a (v 0) (k 1)) (v 1)) (v 2)) (k 3000) rfl (Nat.le_of_eq h0) h1 h2
theorem Lb {a0:Nat}:2<6+a0:=aE [a0] .n (a (k 2) (k 1)) (a (k 6) (v 0)) rfl
theorem Dx {a0 a1 a2:Nat} (h0:a0<=2100/\a2<=610) (h1:a1=9900):a0<a1:=aE [a0,a1,a2] (.c 1 (v 0) (k 2100) (.c 1 (k 9900) (v 1) .n)) (a (v 0) (k 1)) (v 1) rfl h0.1 (Nat.le_of_eq h1.symm)
theorem Gx:(0:Nat)<=(1000:Nat):=aE [] .n (k 0) (k 1000) rfl
theorem Lc {a0:Nat} (h0:a0<=1000):a0<2 ^ 60:=aE [a0] (.c 1 (v 0) (k 1000) .n) (a (v 0) (k 1)) (k 1152921504606846976) rfl h0
theorem Ld {a0:Nat} (h0:a0<=1000):a0<=16000000:=aE [a0] (.c 1 (v 0) (k 1000) .n) (v 0) (k 16000000) rfl h0
theorem Le {a0:Nat} (h0:a0<1000):a0<2 ^ 60:=aE [a0] (.c 1 (a (v 0) (k 1)) (k 1000) .n) (a (v 0) (k 1)) (k 1152921504606846976) rfl h0
theorem Lf {a0:Nat} (h0:a0<=2 ^ 24):a0<=16777216:=aE [a0] (.c 1 (v 0) (k 16777216) .n) (v 0) (k 16777216) rfl h0
theorem Lg {a0 a1:Nat} (h0:a0<=2100) (h1:a1<=100):a0+a1<=16777216:=aE [a0,a1] (.c 1 (v 0) (k 2100) (.c 1 (v 1) (k 100) .n)) (a (v 0) (v 1)) (k 16777216) rfl h0 h1
theorem Gy {a0 a1:Nat} (h0:a0<=a1) (h1:a1<=90):a0<=100:=aE [a0,a1] (.c 1 (v 0) (v 1) (.c 1 (v 1) (k 90) .n)) (v 0) (k 100) rfl h0 h1
theorem Lh {a0 a1:Nat} (h0:a0<=a1) (h1:a1<=90):a0+2<=100:=aE [a0,a1] (.c 1 (v 0) (v 1) (.c 1 (v 1) (k 90) .n)) (a (v 0) (k 2)) (k 100) rfl h0 h1
theorem Li {a0 a1:Nat} (h0:a0<=2100) (h1:a1<=100):a0+a1<9900:=aE [a0,a1] (.c 1 (v 0) (k 2100) (.c 1 (v 1) (k 100) .n)) (a (a (v 0) (v 1)) (k 1)) (k 9900) rfl h0 h1
theorem Lj {a0 a1 a2 a3:Nat} (h0:a0<=a3) (h1:a1<=a2):a0+1+a1<=a2+(a3+1):=aE [a0,a1,a2,a3] (.c 1 (v 0) (v 3) (.c 1 (v 1) (v 2) .n)) (a (a (v 0) (k 1)) (v 1)) (a (v 2) (a (v 3) (k 1))) rfl h0 h1
set_option maxRecDepth 100000 in
theorem Lk {a0 a1 a2:Nat} (h0:a2<=700) (h1:a0<=1000+701*a1+a2):a0<=1000+701*(a1+1):=aE [a0,a1,a2] (.c 1 (v 2) (k 700) (.c 1 (v 0) (a (a (k 1000) (m 701 (v 1))) (v 2)) .n)) (v 0) (a (k 1000) (m 701 (a (v 1) (k 1)))) rfl h0 h1
set_option maxRecDepth 100000 in
theorem Ln {a0 a1 a2:Nat} (h0:a0<=1000+701*a1+a2):a0+1<=1000+701*a1+(a2+1):=aE [a0,a1,a2] (.c 1 (v 0) (a (a (k 1000) (m 701 (v 1))) (v 2)) .n) (a (v 0) (k 1)) (a (a (k 1000) (m 701 (v 1))) (a (v 2) (k 1))) rfl h0
theorem Lp {a0 a1:Nat} (h0:a0=a1) (h1:a1<=9):a0<=9:=aE [a0,a1] (.c 1 (v 0) (v 1) (.c 1 (v 1) (k 9) .n)) (v 0) (k 9) rfl (Nat.le_of_eq h0) h1
theorem Lq {a0 a1 a2 a3 a4:Nat} (h0:a1<=a2) (h1:a2<=a3) (h2:a4<=1000) (h3:a0<=1000000) (h4:a3<a4):a0+a1<=16777216:=aE [a0,a1,a2,a3,a4] (.c 1 (v 1) (v 2) (.c 1 (v 2) (v 3) (.c 1 (v 4) (k 1000) (.c 1 (v 0) (k 1000000) (.c 1 (a (v 3) (k 1)) (v 4) .n))))) (a (v 0) (v 1)) (k 16777216) rfl h0 h1 h2 h3 h4
theorem Lr {a0 a1 a2:Nat} (h0:a0<=701+2*a1+1) (h1:a2<=9) (h2:a1<a2):a0<=16000000:=aE [a0,a1,a2] (.c 1 (v 0) (a (a (k 701) (m 2 (v 1))) (k 1)) (.c 2 (v 2) (k 9) (.c 2 (a (v 1) (k 1)) (v 2) .n))) (v 0) (k 16000000) rfl h0 h1 h2
theorem Ls {a0 a1:Nat} {a2:Prop} {a3:Nat} (h0:a0<=701+2*a1/\a2) (h1:a3<=9) (h2:a1<a3):a0<1000:=aE [a0,a1,a3] (.c 1 (v 0) (a (k 701) (m 2 (v 1))) (.c 2 (v 2) (k 9) (.c 2 (a (v 1) (k 1)) (v 2) .n))) (a (v 0) (k 1)) (k 1000) rfl h0.1 h1 h2
theorem Lw {a0:Nat} (h0:a0<=9):a0<2 ^ 60:=aE [a0] (.c 1 (v 0) (k 9) .n) (a (v 0) (k 1)) (k 1152921504606846976) rfl h0
theorem Ly {a0:Nat} (h0:a0<=700):a0<1000:=aE [a0] (.c 1 (v 0) (k 700) .n) (a (v 0) (k 1)) (k 1000) rfl h0
theorem Lz {a0:Nat} (h0:a0<=9):a0<=16777216:=aE [a0] (.c 1 (v 0) (k 9) .n) (v 0) (k 16777216) rfl h0
theorem LD {a0:Nat} (h0:a0<=3):a0<=16000000:=aE [a0] (.c 1 (v 0) (k 3) .n) (v 0) (k 16000000) rfl h0
theorem LI {a0 a1:Nat} (h0:a0<=3) (h1:a1<=120):a0+(a1+1)<=16000000:=aE [a0,a1] (.c 1 (v 0) (k 3) (.c 1 (v 1) (k 120) .n)) (a (v 0) (a (v 1) (k 1))) (k 16000000) rfl h0 h1
theorem Gz {a0 a1:Nat} (h0:a1<=120) (h1:a0<a1):a0<=120:=aE [a0,a1] (.c 1 (v 1) (k 120) (.c 1 (a (v 0) (k 1)) (v 1) .n)) (v 0) (k 120) rfl h0 h1
theorem LJ {a0:Nat} (h0:a0<=120):a0<=15999996:=aE [a0] (.c 1 (v 0) (k 120) .n) (v 0) (k 15999996) rfl h0
theorem LK {a0 a1:Nat} (h0:a0=a1) (h1:a1<=120):a0<=120:=aE [a0,a1] (.c 1 (v 0) (v 1) (.c 1 (v 1) (k 120) .n)) (v 0) (k 120) rfl (Nat.le_of_eq h0) h1
theorem AO {a0:Nat} (h0:a0<=100):a0<=1000:=aE [a0] (.c 1 (v 0) (k 100) .n) (v 0) (k 1000) rfl h0
theorem GA {a0:Nat} (h0:1<=a0):0<a0:=aE [a0] (.c 1 (k 1) (v 0) .n) (a (k 0) (k 1)) (v 0) rfl h0
theorem LL {a0:Nat} (h0:1<=a0):1<=a0:=aE [a0] (.c 1 (k 1) (v 0) .n) (k 1) (v 0) rfl h0
theorem LN:(0:Nat)<(4096:Nat):=aE [] .n (a (k 0) (k 1)) (k 4096) rfl
theorem GB {a0 a1:Nat} (h0:a0<a1-1):a0+1<a1:=aE [a0,a1,(a1-1)] (.c 1 (a (v 0) (k 1)) (v 2) (.c 1 (a (v 2) (k 1)) (v 1) .n)) (a (a (v 0) (k 1)) (k 1)) (v 1) rfl h0 (Nat.le_of_eq (Nat.sub_add_cancel (aE [a0,a1,(a1-1)] (.c 1 (a (v 0) (k 1)) (v 2) (.c 1 (v 2) (v 1) .n)) (k 1) (v 1) rfl h0 (Nat.sub_le a1 1))))
theorem AP {a0:Nat} (h0:a0<=1000):a0-1<=1000:=aE [a0,(a0-1)] (.c 1 (v 0) (k 1000) (.c 1 (v 1) (v 0) .n)) (v 1) (k 1000) rfl h0 (Nat.sub_le a0 1)
theorem LO {a0:Nat} (h0:2<=a0):a0-1<a0:=aE [a0,(a0-1)] (.c 1 (a (v 1) (k 1)) (v 0) .n) (a (v 1) (k 1)) (v 0) rfl (Nat.le_of_eq (Nat.sub_add_cancel (aE [a0,(a0-1)] (.c 1 (k 2) (v 0) .n) (k 1) (v 0) rfl h0)))
theorem LQ {a0 a1:Nat} (h0:a0+1<a1):a0<a1:=aE [a0,a1] (.c 1 (a (a (v 0) (k 1)) (k 1)) (v 1) .n) (a (v 0) (k 1)) (v 1) rfl h0
theorem LR {a0 a1 a2 a3 a4:Nat} (h0:a0=a3+a4):a0+(a1+a2)=a3+a1+(a4+a2):=Nat.le_antisymm (aE [a0,a1,a2,a3,a4] (.c 1 (v 0) (a (v 3) (v 4)) .n) (a (v 0) (a (v 1) (v 2))) (a (a (v 3) (v 1)) (a (v 4) (v 2))) rfl (Nat.le_of_eq h0)) (aE [a0,a1,a2,a3,a4] (.c 1 (a (v 3) (v 4)) (v 0) .n) (a (a (v 3) (v 1)) (a (v 4) (v 2))) (a (v 0) (a (v 1) (v 2))) rfl (Nat.le_of_eq h0.symm))
theorem LU {a0 a1:Nat} (h0:0=a0+a1):a0=0:=Nat.le_antisymm (aE [a0,a1] (.c 1 (a (v 0) (v 1)) (k 0) .n) (v 0) (k 0) rfl (Nat.le_of_eq h0.symm)) (aE [a0,a1] .n (k 0) (v 0) rfl)
theorem LW {a0 a1:Nat} (h0:0=a1+a0):a0=0:=Nat.le_antisymm (aE [a0,a1] (.c 1 (a (v 1) (v 0)) (k 0) .n) (v 0) (k 0) rfl (Nat.le_of_eq h0.symm)) (aE [a0,a1] .n (k 0) (v 0) rfl)
theorem LX {a0 a1 a2 a3:Nat} (h0:a3=a0-a1) (h1: ¬a2+1<a3):a0<=a1+a2+1:=aE [a0,a1,a2,a3,(a0-a1)] (.c 1 (v 4) (v 3) (.c 1 (v 3) (a (v 2) (k 1)) (.c 1 (v 0) (a (v 4) (v 1)) .n))) (v 0) (a (a (v 1) (v 2)) (k 1)) rfl (Nat.le_of_eq h0.symm) (Nat.le_of_not_lt h1) (sA a0 a1)
theorem LY {a0 a1:Nat} (h0:a0+1<a1+1) (h1: ¬a0+1<a1):a0+1=a1:=Nat.le_antisymm (aE [a0,a1] (.c 1 (a (a (v 0) (k 1)) (k 1)) (a (v 1) (k 1)) .n) (a (v 0) (k 1)) (v 1) rfl h0) (aE [a0,a1] (.c 1 (v 1) (a (v 0) (k 1)) .n) (v 1) (a (v 0) (k 1)) rfl (Nat.le_of_not_lt h1))
theorem LZ {a0 a1 a2 a3:Nat} (h0:a3=a2-a0) (h1:a1+1<a3):a0+a1+1<a2:=(Nat.le_total a0 a2).elim (fun w0=>aE [a0,a1,a2,a3,(a2-a0)] (.c 1 (v 3) (v 4) (.c 1 (a (a (v 1) (k 1)) (k 1)) (v 3) (.c 1 (a (v 4) (v 0)) (v 2) .n))) (a (a (a (v 0) (v 1)) (k 1)) (k 1)) (v 2) rfl (Nat.le_of_eq h0) h1 (Nat.le_of_eq (Nat.sub_add_cancel w0))) (fun w0=>(Nat.not_succ_le_zero 0 (aE [a0,a1,a2,a3,(a2-a0)] (.c 1 (v 3) (v 4) (.c 1 (a (a (v 1) (k 1)) (k 1)) (v 3) (.c 1 (v 4) (k 0) .n))) (k 1) (k 0) rfl (Nat.le_of_eq h0) h1 (Nat.le_of_eq (Nat.sub_eq_zero_of_le w0)))).elim)
theorem L7 {a0 a1 a2 a3:Nat} (h0:a3=a2-a0) (h1:a1+1<a3+1):a0+a1<a2:=(Nat.le_total a0 a2).elim (fun w0=>aE [a0,a1,a2,a3,(a2-a0)] (.c 1 (v 3) (v 4) (.c 1 (a (a (v 1) (k 1)) (k 1)) (a (v 3) (k 1)) (.c 1 (a (v 4) (v 0)) (v 2) .n))) (a (a (v 0) (v 1)) (k 1)) (v 2) rfl (Nat.le_of_eq h0) h1 (Nat.le_of_eq (Nat.sub_add_cancel w0))) (fun w0=>(Nat.not_succ_le_zero 0 (aE [a0,a1,a2,a3,(a2-a0)] (.c 1 (v 3) (v 4) (.c 1 (a (a (v 1) (k 1)) (k 1)) (a (v 3) (k 1)) (.c 1 (v 4) (k 0) .n))) (k 1) (k 0) rfl (Nat.le_of_eq h0) h1 (Nat.le_of_eq (Nat.sub_eq_zero_of_le w0)))).elim)
theorem L8 {a0 a1:Nat} (h0:a0+1<a1+1):a0<a1:=aE [a0,a1] (.c 1 (a (a (v 0) (k 1)) (k 1)) (a (v 1) (k 1)) .n) (a (v 0) (k 1)) (v 1) rfl h0
theorem Ma {a0 a1 a2:Nat} (h0:a0=a1-a2) (h1:a2<a1):0<a0:=aE [a0,a1,a2,(a1-a2)] (.c 1 (v 3) (v 0) (.c 1 (a (v 2) (k 1)) (v 1) (.c 1 (v 1) (a (v 3) (v 2)) .n))) (a (k 0) (k 1)) (v 0) rfl (Nat.le_of_eq h0.symm) h1 (sA a1 a2)
theorem Mb {a0:Nat} (h0:a0<=10):a0+1<=100:=aE [a0] (.c 1 (v 0) (k 10) .n) (a (v 0) (k 1)) (k 100) rfl h0
theorem Md {a0 a1 a2:Nat} (h0:a0=a1-a2) (h1:a2<a1):2<=a0+1:=aE [a0,a1,a2,(a1-a2)] (.c 1 (v 3) (v 0) (.c 1 (a (v 2) (k 1)) (v 1) (.c 1 (v 1) (a (v 3) (v 2)) .n))) (k 2) (a (v 0) (k 1)) rfl (Nat.le_of_eq h0.symm) h1 (sA a1 a2)
theorem GC {a0 a1:Nat} (h0:a1=a0):a0<=a1:=aE [a0,a1] (.c 1 (v 0) (v 1) .n) (v 0) (v 1) rfl (Nat.le_of_eq h0.symm)
theorem Mf {a0 a1:Nat} (h0:a0=a1):a0<=a1:=aE [a0,a1] (.c 1 (v 0) (v 1) .n) (v 0) (v 1) rfl (Nat.le_of_eq h0)
theorem Mg {a0 a1 a2:Nat} (h0:a0=a1-a2) (h1:a2<a1):1<=a0:=aE [a0,a1,a2,(a1-a2)] (.c 1 (v 3) (v 0) (.c 1 (a (v 2) (k 1)) (v 1) (.c 1 (v 1) (a (v 3) (v 2)) .n))) (k 1) (v 0) rfl (Nat.le_of_eq h0.symm) h1 (sA a1 a2)
theorem Mh {a0 a1 a2:Nat} (h0:a2=a1) (h1:a0<a2):a0<a1:=aE [a0,a1,a2] (.c 1 (v 2) (v 1) (.c 1 (a (v 0) (k 1)) (v 2) .n)) (a (v 0) (k 1)) (v 1) rfl (Nat.le_of_eq h0) h1
theorem Mi {a0 a1 a2 a3:Nat} (h0:a3=a2-a0) (h1:a1<a3):a0+a1<a2:=(Nat.le_total a0 a2).elim (fun w0=>aE [a0,a1,a2,a3,(a2-a0)] (.c 1 (v 3) (v 4) (.c 1 (a (v 1) (k 1)) (v 3) (.c 1 (a (v 4) (v 0)) (v 2) .n))) (a (a (v 0) (v 1)) (k 1)) (v 2) rfl (Nat.le_of_eq h0) h1 (Nat.le_of_eq (Nat.sub_add_cancel w0))) (fun w0=>(Nat.not_succ_le_zero 0 (aE [a0,a1,a2,a3,(a2-a0)] (.c 1 (v 3) (v 4) (.c 1 (a (v 1) (k 1)) (v 3) (.c 1 (v 4) (k 0) .n))) (k 1) (k 0) rfl (Nat.le_of_eq h0) h1 (Nat.le_of_eq (Nat.sub_eq_zero_of_le w0)))).elim)
theorem Mj {a0:Nat} (h0:a0<=2):a0<=9:=aE [a0] (.c 1 (v 0) (k 2) .n) (v 0) (k 9) rfl h0
theorem Mk {a0:Nat} (h0:a0<=2):a0<=1000:=aE [a0] (.c 1 (v 0) (k 2) .n) (v 0) (k 1000) rfl h0
theorem Ml {a0:Nat} (h0:a0<=2):a0<=2:=aE [a0] (.c 1 (v 0) (k 2) .n) (v 0) (k 2) rfl h0
theorem Mm {a0:Nat} (h0:a0<40):a0<=16000000:=aE [a0] (.c 1 (a (v 0) (k 1)) (k 40) .n) (v 0) (k 16000000) rfl h0
theorem Mo {a0:Nat} (h0:a0<=2):1+a0<=16000000:=aE [a0] (.c 1 (v 0) (k 2) .n) (a (k 1) (v 0)) (k 16000000) rfl h0
theorem Mp {a0 a1:Nat} (h0:a1<=34) (h1:a0<a1):a0<=100:=aE [a0,a1] (.c 1 (v 1) (k 34) (.c 1 (a (v 0) (k 1)) (v 1) .n)) (v 0) (k 100) rfl h0 h1
theorem Mq {a0 a1 a2:Nat} (h0:a0=a1) (h1:a2<=34) (h2:a1<a2):a0<40:=aE [a0,a1,a2] (.c 1 (v 0) (v 1) (.c 1 (v 2) (k 34) (.c 1 (a (v 1) (k 1)) (v 2) .n))) (a (v 0) (k 1)) (k 40) rfl (Nat.le_of_eq h0) h1 h2
theorem GD {a0:Nat} (h0:a0<=63):min ((a0+1) / 2) a0<=32:=Nat.le_of_mul_le_mul_left (aE [a0,((a0+1) / 2),(min ((a0+1) / 2) a0)] (.c 1 (v 0) (k 63) (.c 1 (m 2 (v 1)) (a (v 0) (k 1)) (.c 2 (v 2) (v 1) .n))) (m 2 (v 2)) (m 2 (k 32)) rfl h0 (Nat.mul_div_le (a0+1) 2) (Nat.min_le_left ((a0+1) / 2) a0)) (by decide:0<2)
theorem Mr {a0:Nat} (h0:a0<=63):min ((a0+1) / 2) a0<=15999998:=aE [a0,((a0+1) / 2),(min ((a0+1) / 2) a0)] (.c 1 (v 0) (k 63) (.c 1 (v 2) (v 0) .n)) (v 2) (k 15999998) rfl h0 (Nat.min_le_right ((a0+1) / 2) a0)
theorem GF {a0:Nat} (h0:a0<=63):a0<=16000000:=aE [a0] (.c 1 (v 0) (k 63) .n) (v 0) (k 16000000) rfl h0
theorem Ms {a0:Nat} (h0:a0<=63):a0<2 ^ 60:=aE [a0] (.c 1 (v 0) (k 63) .n) (a (v 0) (k 1)) (k 1152921504606846976) rfl h0
theorem Mt {a0 a1 a2:Nat} (h0:a0<=120) (h1:a1<=121*a2):a0+1+a1<=121*(a2+1):=aE [a0,a1,a2] (.c 1 (v 0) (k 120) (.c 1 (v 1) (m 121 (v 2)) .n)) (a (a (v 0) (k 1)) (v 1)) (m 121 (a (v 2) (k 1))) rfl h0 h1
theorem Mv {a0 a1:Nat} (h0:a0<=10) (h1:a1<=10):a0+a1<=16000000:=aE [a0,a1] (.c 1 (v 0) (k 10) (.c 1 (v 1) (k 10) .n)) (a (v 0) (v 1)) (k 16000000) rfl h0 h1
theorem Mw {a0 a1 a2 a3 a4 a5:Nat}:a0+a1+a2+a3+a4+a5=a0+a1+a2+a5+a4+a3:=Nat.le_antisymm (aE [a0,a1,a2,a3,a4,a5] .n (a (a (a (a (a (v 0) (v 1)) (v 2)) (v 3)) (v 4)) (v 5)) (a (a (a (a (a (v 0) (v 1)) (v 2)) (v 5)) (v 4)) (v 3)) rfl) (aE [a0,a1,a2,a3,a4,a5] .n (a (a (a (a (a (v 0) (v 1)) (v 2)) (v 5)) (v 4)) (v 3)) (a (a (a (a (a (v 0) (v 1)) (v 2)) (v 3)) (v 4)) (v 5)) rfl)
theorem Mx {a0 a1:Nat} (h0:a1<=1000) (h1:a0<=10):a0+a1<=16000000:=aE [a0,a1] (.c 1 (v 1) (k 1000) (.c 1 (v 0) (k 10) .n)) (a (v 0) (v 1)) (k 16000000) rfl h0 h1
theorem My {a0:Nat} (h0:a0<=10):a0<=15999999:=aE [a0] (.c 1 (v 0) (k 10) .n) (v 0) (k 15999999) rfl h0
theorem Mz {a0:Nat} (h0:a0<=1):a0<=1:=aE [a0] (.c 1 (v 0) (k 1) .n) (v 0) (k 1) rfl h0
theorem MA {a0:Nat} (h0:a0<=1):a0<=15999998:=aE [a0] (.c 1 (v 0) (k 1) .n) (v 0) (k 15999998) rfl h0
theorem MB {a0:Nat} (h0:a0<=63):a0<=15999978:=aE [a0] (.c 1 (v 0) (k 63) .n) (v 0) (k 15999978) rfl h0
theorem MC {a0:Nat} (h0:a0<=63):2+a0<=16000000:=aE [a0] (.c 1 (v 0) (k 63) .n) (a (k 2) (v 0)) (k 16000000) rfl h0
theorem MD {a0:Nat} (h0:a0<=63):a0-(a0+1) / 2<=63:=aE [a0,((a0+1) / 2),(a0-((a0+1) / 2))] (.c 1 (v 0) (k 63) (.c 1 (v 2) (v 0) .n)) (v 2) (k 63) rfl h0 (Nat.sub_le a0 ((a0+1) / 2))
end
theorem jL {M:Model} {Γ:Ctx} {p:Pos} {t:Sem Fin} {l:List Frame} {s:Shared} {e:End} {s':Shared} (h:Runs M Γ p t l s e s'):s.toks<=s'.toks:=by
 induction h with
 | done | raise | «yield»=>exact Nat.le_refl _
 | fresh _ ih=>exact Nat.le_of_succ_le ih
 | call _ _ i j | segRet _ _ i j | segGen _ _ i j=>exact Nat.le_trans i j
 | resumeFresh _ _ _ _ i j | resumeSuspended _ _ _ _ i j=>exact Nat.le_trans i j
 | segSuspGen _ _ _ _ i j=>exact Nat.le_trans i j
 | _=>assumption
theorem wp_toks {X:Type} (M:Model) (Γ:Ctx) (t:Sem X) (Q:X->Pos->Shared->Prop) (E:Value->Pos->Shared->Prop) (p:Pos) (s:Shared) (n:Nat) (hn:n<=s.toks) (h:Sem.wp M Γ t Q E p s):
  Sem.wp M Γ t (fun a p' s'=>n<=s'.toks/\Q a p' s') (fun a p' s'=>n<=s'.toks/\E a p' s') p s:=by
 induction t generalizing p s with
 | pure x=>exact ⟨hn,h⟩
 | raise v=>exact ⟨hn,h⟩
 | unsupported | finish | yield | fork | await | register=>exact h
 | rule _ k ih | «at» _ k ih | alloc _ k ih | loadIfAlive _ k ih | point _ k ih | ask k ih | os _ _ k ih | handled _ k ih | newGen _ k ih | stack k ih | thread k ih=>exact ih _ _ _ hn h
 | fresh k ih=>exact ih _ _ _ (Nat.le_succ_of_le hn) h
 | load a _ k ih | genState a k ih=>obtain ⟨o,ho,h⟩:=h;exact ⟨o,ho,ih _ _ _ hn h⟩
 | update a _ f k ih | choose _ _ k ih=>exact ⟨h.1,ih _ _ _ hn h.2⟩
 | call c h' g l k ih=>obtain ⟨r,s',hr,h⟩:=h;exact ⟨r,s',hr,ih _ _ _ (Nat.le_trans hn (jL hr)) h⟩
 | resume g r l k ih=>
  obtain ⟨res,s',hw,h⟩:=h
  refine ⟨res,s',hw,ih _ _ _ (Nat.le_trans hn ?_) h⟩
  unfold Wakes at hw
  split at hw
  .cases hw
  .split at hw
   .obtain ⟨fN,av,h₁,_,_,e⟩:=hw;rw [e];exact (jL h₁:(s.setGen _ _).toks<=av.toks)
   .obtain ⟨_,rfl⟩:=hw;exact Nat.le_refl _
   .obtain ⟨_,rfl⟩:=hw;exact Nat.le_refl _
  .obtain ⟨fN,av,h₁,_,_,e⟩:=hw;rw [e];exact (jL h₁:(s.setGen _ _).toks<=av.toks)
  .obtain ⟨_,rfl⟩:=hw;exact Nat.le_refl _
  .obtain ⟨_,rfl⟩:=hw;exact Nat.le_refl _
theorem wpAny_toks {X:Type} {M:Model} {A:Around} {t:Sem X} {Q:X->Shared->Prop} {E:Value->Shared->Prop} {s:Shared} {n:Nat} (hn:n<=s.toks) (h:wpAny M A t Q E s):
  wpAny M A t (fun a s'=>n<=s'.toks/\Q a s') (fun a s'=>n<=s'.toks/\E a s') s:=fun Γ p AQ=>wp_toks M Γ t _ _ p s n hn (h Γ p AQ)
theorem fO {X:Type} {M:Model} {A:Around} {t:Sem X} {Q:X->Shared->Prop} {E:Value->Shared->Prop} {s:Shared} {n:Nat} (hn:n<=s.toks) (h:wpAny M A t (fun a s'=>n<=s'.toks->Q a s') (fun a s'=>n<=s'.toks->E a s') s):wpAny M A t Q E s:=
 wpAny_mono (wpAny_toks hn h) (fun _ _ x=>x.2 x.1) fun _ _ x=>x.2 x.1
noncomputable abbrev PE:=Value->Shared->Prop
noncomputable abbrev PO:=Option Value->Shared->Prop
noncomputable abbrev PU:=Unit->Shared->Prop
noncomputable abbrev rP:=Bool->Shared->Prop
noncomputable abbrev IB:=Int->Bool
section
variable {α:Type} {M:Model} {A:Around} {t e:Sem α} {Q:α->Shared->Prop} {E:Value->Shared->Prop} {s:Shared}
theorem iI (h: ∀ (Q':α->Shared->Prop) (E':Value->Shared->Prop),(∀ a s,Q a s->Q' a s)->(∀ a s,E a s->E' a s)->wpAny M A t Q' E' s):wpAny M A t Q E s:=h Q E (fun z0 z0 h=>h) (fun z0 z0 h=>h)
theorem tS (h: ∀ (Q':α->Shared->Prop),(∀ a s,Q a s->Q' a s)->wpAny M A t Q' E s):wpAny M A t Q E s:=h Q (fun z0 z0 h=>h)
theorem xf {c:Code} {R:Result->Shared->Prop} (h: ∀ (R':Result->Shared->Prop),(∀ r s,R r s->R' r s)->codeAny M A c R' s):codeAny M A c R s:=h R (fun z0 z0 h=>h)
theorem bD {c:Prop} [Decidable c] (q:c) (h:wpAny M A t Q E s):wpAny M A (if c then t else e) Q E s:=by rw [if_pos q];exact h
theorem az {c:Prop} [Decidable c] (q: ¬ c) (h:wpAny M A e Q E s):wpAny M A (if c then t else e) Q E s:=by rw [if_neg q];exact h
theorem iy {c:Bool} (q:c=false) (h:wpAny M A e Q E s):wpAny M A (if c=true then t else e) Q E s:=by rw [q];exact h
theorem kE {P:Prop} (b:Bool) (h1:b=true->P) (h2:b=false->P):P:=by cases b;exact h2 rfl;exact h1 rfl
theorem kQ {P:Prop} (c:Prop) (h1:c->P) (h2: ¬ c->P):P:=(Classical.em c).elim h1 h2
theorem pZ {β:Type} {n:Nat} {vs:List β} (h:vs.length=n+1): ∃ v us,vs=v::us/\us.length=n:=by
 cases vs with
 | nil=>cases h
 | cons v us=>exact ⟨v,us,rfl,Nat.succ.inj h⟩
theorem GH {β:Type} {vs:List β} (h:vs.length=4): ∃ a b c d,vs=[a,b,c,d]:=
 (pZ h).elim fun a x=>x.elim fun us x=>(pZ x.2).elim fun b y=>y.elim fun oB y=>(pZ y.2).elim fun c z=>z.elim fun RQ z=>(pZ z.2).elim fun d w=>w.elim fun Un w=>⟨a,b,c,d,by rw [x.1,y.1,z.1,w.1,List.eq_nil_of_length_eq_zero w.2]⟩
theorem ME {β:Type} {vs:List β} (h:vs.length=5): ∃ a b c d e,vs=[a,b,c,d,e]:=
 (pZ h).elim fun a x=>x.elim fun us x=>(GH x.2).elim fun b y=>y.elim fun c y=>y.elim fun d y=>y.elim fun e y=>⟨a,b,c,d,e,by rw [x.1,y]⟩
theorem pg {P:Prop} (h: ∀ G:Prop,(P->G)->G):P:=h P fun x=>x
@[elab_as_elim] theorem mQ {β:Sort _} {P:β->Prop} (a:β) (h: ∀ x,P x):P a:=h a
theorem xg (n:Nat): ¬ (n != n)=true:=by simp
theorem rU {c a b:Prop} [Decidable c] (q:c) (h:a):if c then a else b:=by rw [if_pos q];exact h
theorem xh {c a b:Prop} [Decidable c] (q: ¬ c) (h:b):if c then a else b:=by rw [if_neg q];exact h
end
theorem cj {P:Nat->Prop} {n:Nat} (h: ∀ i,i<n->P i) (hn:P n): ∀ i,i<n+1->P i:=fun i hi=>(Nat.lt_or_eq_of_le (Nat.le_of_lt_succ hi)).elim (h i) fun e=>e▸hn
theorem Dy {P:Nat->Prop} (h0:P 0) (h1:P 1): ∀ i,i<2->P i:=cj (cj (fun i hi=>absurd hi (Nat.not_lt_zero i)) h0) h1
theorem DA {P:Nat->Prop} (h0:P 0) (h1:P 1) (h2:P 2): ∀ i,i<3->P i:=cj (Dy h0 h1) h2
theorem DB {P:Nat->Prop} (h0:P 0) (h1:P 1) (h2:P 2) (h3:P 3): ∀ i,i<4->P i:=cj (DA h0 h1 h2) h3
theorem gZ {P:Nat->Prop} (h0:P 0) (h1:P 1) (h2:P 2) (h3:P 3) (h4:P 4) (h5:P 5) (h6:P 6) (h7:P 7) (h8:P 8) (h9:P 9): ∀ i,i<10->P i:=cj (cj (cj (cj (cj (cj (DB h0 h1 h2 h3) h4) h5) h6) h7) h8) h9
set_option genInjectivity true in
inductive V where
 | none
 | bool (b:Bool)
 | int (n:Int)
 | str (s:Str)
 | tup (xs:List V)
 | kS (a b c:Int)
 | view (cls:String) (d:Addr)
 | ref (a:Addr)
 | cst (v:Value)
 | cD (n:Int)
 | cS (s:Str)
mutual
noncomputable def ck:V->V
 | .bool b=> .int (if b then 1 else 0)
 | .tup xs=> .tup (nu xs)
 | .cD n=> .int n
 | .cS s=> .str s
 | x=>x
noncomputable def nu:List V->List V
 | []=>[]
 | x::xs=>ck x::nu xs
end
mutual
noncomputable def Cy:V->V->Bool
 | .none=>fun y=>match y with | .none=>true | _=>false
 | .int a=>fun y=>match y with | .int b=>a == b | _=>false
 | .str a=>fun y=>match y with | .str b=>a == b | _=>false
 | .tup xs=>fun y=>match y with | .tup ys=>oD xs ys | _=>false
 | _=>fun _=>false
noncomputable def oD:List V->List V->Bool
 | []=>fun ys=>match ys with | []=>true | _::_=>false
 | x::xs=>fun ys=>match ys with | []=>false | y::ys=>Cy x y && oD xs ys
end
noncomputable def eD (x y:V):Bool:=Cy (ck x) (ck y)
noncomputable def fB (xs ys:List V):Bool:=oD (nu xs) (nu ys)
mutual
noncomputable def dat:V->Bool
 | .none=>true
 | .bool _=>true
 | .int _=>true
 | .str _=>true
 | .tup xs=>cJ xs
 | .cD _=>true
 | .cS _=>true
 | _=>false
noncomputable def cJ:List V->Bool
 | []=>true
 | x::xs=>dat x && cJ xs
end
mutual
noncomputable def dep:V->Nat
 | .tup xs=>cQ xs+1
 | _=>0
noncomputable def cQ:List V->Nat
 | []=>0
 | x::xs=>max (dep x) (cQ xs)
end
theorem tT:ck .none= .none:=by rfl
theorem kT (n:Int):ck (.int n)= .int n:=by rfl
theorem oE (n:Str):ck (.str n)= .str n:=by rfl
theorem iW (b:Bool):ck (.bool b)= .int (if b then 1 else 0):=by rfl
theorem oF (n:Int):ck (.cD n)= .int n:=by rfl
theorem oG (n:Str):ck (.cS n)= .str n:=by rfl
theorem rV (xs:List V):ck (.tup xs)= .tup (nu xs):=by rfl
theorem iX (x:V) (xs:List V):nu (x::xs)=ck x::nu xs:=by rfl
theorem oH:nu []=[]:=by rfl
theorem iY (a b:Int):Cy (.int a) (.int b)=(a == b):=by rfl
theorem tU (a b:Str):Cy (.str a) (.str b)=(a == b):=by rfl
theorem AR (a b:List V):Cy (.tup a) (.tup b)=oD a b:=by rfl
theorem jM (x y:V) (xs ys:List V):oD (x::xs) (y::ys)=(Cy x y && oD xs ys):=by rfl
theorem Cz {x:V} {xs:List V} (d:cJ (x::xs)=true):dat x=true/\cJ xs=true:=Bool.and_eq_true_iff.mp d
theorem qa:oD [] []=true:=by rfl
theorem nD (x y:V) (xs ys:List V):fB (x::xs) (y::ys)=(eD x y && fB xs ys):=by delta fB eD;rw [iX,iX,jM]
theorem kY:fB [] []=true:=by unfold fB;rw [oH,qa]
mutual
theorem kZ: ∀ (x:V),dat x=true->Cy (ck x) (ck x)=true
 | .none,_=>by rfl
 | .bool _,_=>by rw [iW,iY];exact beq_self_eq_true _
 | .int _,_=>by rw [kT,iY];exact beq_self_eq_true _
 | .str _,_=>by rw [oE,tU];exact beq_self_eq_true _
 | .tup xs,d=>by rw [rV,AR];exact jN xs d
 | .kS _ _ _,d=>absurd d Bool.false_ne_true
 | .view _ _,d=>absurd d Bool.false_ne_true
 | .ref _,d=>absurd d Bool.false_ne_true
 | .cst _,d=>absurd d Bool.false_ne_true
 | .cD _,_=>by rw [oF,iY];exact beq_self_eq_true _
 | .cS _,_=>by rw [oG,tU];exact beq_self_eq_true _
theorem jN: ∀ (xs:List V),cJ xs=true->oD (nu xs) (nu xs)=true
 | [],_=>by rw [oH,qa]
 | x::xs,d=>by replace d:=Cz d;rw [iX,jM,kZ x d.1,jN xs d.2];rfl
end
mutual
theorem xi: ∀ (a b:V),Cy a b=true->a=b
 | .none,b=>by cases b <;> first | exact fun z0=>rfl | exact fun h=>absurd h Bool.false_ne_true
 | .int a,b=>by cases b <;> first | exact fun h=>congrArg V.int (eq_of_beq h) | exact fun h=>absurd h Bool.false_ne_true
 | .str a,b=>by cases b <;> first | exact fun h=>congrArg V.str (eq_of_beq h) | exact fun h=>absurd h Bool.false_ne_true
 | .tup xs,b=>by cases b <;> first | exact fun h=>congrArg V.tup (kF xs _ h) | exact fun h=>absurd h Bool.false_ne_true
 | .bool _,_=>fun h=>absurd h Bool.false_ne_true
 | .kS _ _ _,_=>fun h=>absurd h Bool.false_ne_true
 | .view _ _,_=>fun h=>absurd h Bool.false_ne_true
 | .ref _,_=>fun h=>absurd h Bool.false_ne_true
 | .cst _,_=>fun h=>absurd h Bool.false_ne_true
 | .cD _,_=>fun h=>absurd h Bool.false_ne_true
 | .cS _,_=>fun h=>absurd h Bool.false_ne_true
theorem kF: ∀ (xs ys:List V),oD xs ys=true->xs=ys
 | [],[],_=>rfl
 | [],_::_,h=>absurd h Bool.false_ne_true
 | _::_,[],h=>absurd h Bool.false_ne_true
 | x::xs,y::ys,h=>by rw [jM,Bool.and_eq_true] at h;rw [xi x y h.1,kF xs ys h.2]
end
theorem tV (a b:Int):eD (.int a) (.int b)=(a == b):=by unfold eD;rw [kT,kT,iY]
theorem fP (x:V) (d:dat x=true):eD x x=true:=kZ x d
theorem k6 (x y:V) (dx:dat x=true) (_:dat y=true):eD x y=true↔ck x=ck y:=⟨xi _ _,fun e=>by delta eD;rw [<- e];exact kZ x dx⟩
theorem xj (x y:List V) (dx:cJ x=true) (_:cJ y=true):fB x y=true↔nu x=nu y:=⟨kF _ _,fun e=>by delta fB;rw [<- e];exact jN x dx⟩
theorem xk (a b:Bool):eD (.bool a) (.bool b)=(a == b):=by unfold eD;rw [iW,iW,iY];cases a <;> cases b <;> rfl
theorem tW (xs:List V):(nu xs).length=xs.length:=by
 induction xs with
 | nil=>rw [oH]
 | cons x xs ih=>rw [iX,List.length_cons,List.length_cons,ih]
theorem k7 {xs ys:List V} (e:fB xs ys=true):xs.length=ys.length:=by rw [<- tW xs, <- tW ys,kF _ _ e]
theorem iZ: ∀ (xs ys:List V),xs.length=ys.length->(List.range xs.length).all (fun j=>eD (xs.getD j .none) (ys.getD j .none))=fB xs ys
 | [],[],_=>kY.symm
 | x::xs,y::ys,e=>by
  rw [nD, <- iZ xs ys (Nat.succ.inj e),List.length_cons,List.range_succ_eq_map,List.all_cons,List.all_map]
  rfl
theorem k8 (xs ys:List V):((List.range (min xs.length ys.length)).all (fun j=>eD (xs.getD j .none) (ys.getD j .none)) && xs.length == ys.length)=fB xs ys:=by
 by_cases e:xs.length=ys.length
 .rw [<- iZ xs ys e,e,Nat.min_self];simp
 .rw [beq_eq_false_iff_ne.mpr e,Bool.and_false]
  cases q:fB xs ys with
  | false=>rfl
  | true=>exact absurd (k7 q) e
theorem cK: ∀ {xs:List V} {j:Nat},cJ xs=true->dat (xs.getD j .none)=true
 | [],_,_=>by simp;rfl
 | x::xs,j,d=>by
  replace d:=Cz d
  cases j with
  | zero=>exact d.1
  | succ j=>rw [List.getD_cons_succ];exact cK d.2
theorem fQ: ∀ {xs:List V} {j:Nat},dep (xs.getD j .none)<=cQ xs
 | [],_=>by simp;exact o0
 | x::xs,j=>by
  skip
  cases j with
  | zero=>exact Nat.le_max_left ..
  | succ j=>rw [List.getD_cons_succ];exact Nat.le_trans fQ (Nat.le_max_right ..)
mutual
noncomputable def PH:V->WData
 | .none=> .none
 | .bool b=> .bool b
 | .int n=> .int n
 | .str s=> .str s
 | .tup xs=> .tuple (oI xs)
 | .cD n=> .int n
 | .cS s=> .str s
 | _=> .none
noncomputable def oI:List V->List WData
 | []=>[]
 | x::xs=>PH x::oI xs
end
noncomputable def hV (P:Params) (x:V):Int:=hashW P (PH x)
noncomputable def CA (P:Params) (xs:List V):List Int:=hashesW P (oI xs)
mutual
theorem qb (P:Params): ∀ x:V,hV P (ck x)=hV P x
 | .none=>(tT▸rfl)
 | .int _=>by rw [kT]
 | .str _=>by rw [oE]
 | .bool b=>by
  rw [iW];skip
  cases b
  .show hashW P (.int 0)=hashW P (.bool false);rfl
  .show hashW P (.int 1)=hashW P (.bool true);rfl
 | .tup xs=>by
  show hashW P (.tuple (oI (nu xs)))=hashW P (.tuple (oI xs))
  have:hashesW P (oI (nu xs))=hashesW P (oI xs):=tX P xs
  unfold hashW
  rw [this]
 | .kS _ _ _=>by rfl
 | .view _ _=>by rfl
 | .ref _=>by rfl
 | .cst _=>by rfl
 | .cD _=>by rw [oF];rfl
 | .cS _=>by rw [oG];rfl
theorem tX (P:Params): ∀ xs:List V,CA P (nu xs)=CA P xs
 | []=>by rfl
 | x::xs=>by show hV P (ck x)::CA P (nu xs)=hV P x::CA P xs;rw [qb P x,tX P xs]
end
theorem tY (P:Params) {x y:V} (dx:dat x=true) (dy:dat y=true) (h:eD x y=true):hV P x=hV P y:=by
 rw [<- qb P x,(k6 x y dx dy).mp h,qb]
noncomputable def wk:V->V
 | .cD n=> .int n
 | .cS s=> .str s
 | x=>x
theorem CB (x:V):wk (wk x)=wk x:=by cases x <;> rfl
theorem xl (x:V):dat (wk x)=dat x:=by cases x <;> (try rfl) <;> (rfl)
theorem CC (x:V):ck (wk x)=ck x:=by cases x <;> rfl
theorem DC (x y:V):eD (wk x) (wk y)=eD x y:=by unfold eD;rw [CC,CC]
theorem vg {x y z:V} (dx:dat x=true) (dy:dat y=true) (dz:dat z=true) (h:ck x=ck y):eD x z=eD y z:=by
 rw [Bool.eq_iff_iff,k6 x z dx dz,k6 y z dy dz,h]
noncomputable def nameAt:Nat->V×Int
 | 0=>(.cD 0,0)
 | 1=>(.cS "0",1)
 | 2=>(.cD (-1),2)
 | 3=>(.cD (-2),3)
 | 4=>(.tup [.int 0],4)
 | 5=>(.none,5)
 | 6=>(.cS "",6)
 | 7=>(.tup [],7)
 | 8=>(.cD 1,8)
 | 9=>(.cS "a",9)
 | _=>(.cD 0,0)
noncomputable def cd (i:Int):V:=(nameAt i.toNat).1
noncomputable def cl (i:Int):Int:=(nameAt i.toNat).2
theorem bK {P:V×Int->Prop} (h: ∀ n,n<10->P (nameAt n)) (n:Nat):P (nameAt n):=by
 by_cases q:n<10
 .exact h n q
 .have:nameAt n=nameAt 0:=by
   match n,q with
   | n+10,_=>rfl
  rw [this];exact h 0 (by decide)
theorem aV (i:Int):dat (cd i)=true:=bK (P:=fun p=>dat p.1=true) (by decide) i.toNat
theorem dg (i:Int):dep (cd i)<=8:=bK (P:=fun p=>dep p.1<=8) (by decide) i.toNat
theorem f9 (i j:Int):eD (cd i) (cd j)=decide (cl i=cl j):=by
 skip
 refine bK (P:=fun p=>eD p.1 (nameAt j.toNat).1=decide (p.2=(nameAt j.toNat).2)) (fun n hn=> ?_) i.toNat
 refine bK (P:=fun q=>eD (nameAt n).1 q.1=decide ((nameAt n).2=q.2)) ?_ j.toNat
 revert n
 decide
noncomputable def PJ:V->Bool
 | .int _=>false
 | .str _=>false
 | _=>true
theorem GJ (i:Int):PJ (cd i)=true:=bK (P:=fun p=>PJ p.1=true) (by decide) i.toNat
theorem xm (i:Int):0<=cl i/\cl i<10:=bK (P:=fun p=>0<=p.2/\p.2<10) (by decide) i.toNat
namespace Tb
open SetTable
noncomputable def AU (mask:Nat) (p:Probe):Probe:=
 if p.more > 0 then { p with j:=p.j+1,more:=p.more-1 } else
 { p with j:=(leap mask p.i p.perturb).1,more:=runEnd mask (leap mask p.i p.perturb).1-(leap mask p.i p.perturb).1,i:=(leap mask p.i p.perturb).1,perturb:=(leap mask p.i p.perturb).2 }
noncomputable def chunk (mask:Nat) (c:Nat×Nat):Probe:={ j:=c.1,more:=runEnd mask c.1-c.1,i:=c.1,perturb:=c.2,dummy:=none }
noncomputable def ch (mask:Nat) (h:Int):Nat->Nat×Nat
 | 0=>(bits h%(mask+1),bits h)
 | k+1=>leap mask (ch mask h k).1 (ch mask h k).2
noncomputable def st (mask:Nat) (h:Int):Nat->Probe
 | 0=>chunk mask (ch mask h 0)
 | n+1=>AU mask (st mask h n)
theorem xn (t:SetTable) (h:Int):t.probeStart h=st t.mask h 0:=rfl
noncomputable def nk (mask:Nat) (h:Int):Nat->Nat
 | 0=>0
 | k+1=>nk mask h k+(runEnd mask (ch mask h k).1-(ch mask h k).1)+1
theorem xo {mask:Nat} {h:Int} {n:Nat} {c:Nat×Nat} (e:st mask h n=chunk mask c): ∀ k,k<=runEnd mask c.1-c.1->st mask h (n+k)={ chunk mask c with j:=c.1+k,more:=runEnd mask c.1-c.1-k }
 | 0,_=>by rw [Nat.add_zero,e];rfl
 | k+1,hk=>by
  rw [show n+(k+1)=(n+k)+1 from rfl]
  show AU mask (st mask h (n+k))=_
  rw [xo e k (by exact o1 hk)]
  delta AU
  rw [if_pos (show runEnd mask c.1-c.1-k > 0 by exact o2 hk)]
  simp only [Probe.mk.injEq,and_self,and_true]
  exact KV
theorem xq (mask:Nat) (h:Int): ∀ k,st mask h (nk mask h k)=chunk mask (ch mask h k)
 | 0=>rfl
 | k+1=>by
  show AU mask (st mask h (nk mask h k+(runEnd mask (ch mask h k).1-(ch mask h k).1)))=_
  rw [xo (xq mask h k) _ (Nat.le_refl _)]
  delta AU
  rw [if_neg (by show ¬ _-_-_ > 0;exact o4)]
  rfl
theorem g0 (mask i:Nat):i<=runEnd mask i/\runEnd mask i<=i+9:=by delta runEnd;split <;> omega
theorem nE {mask i:Nat} (h:i<=mask):runEnd mask i<=mask:=by delta runEnd;split <;> omega
theorem xr (mask:Nat) (h:Int): ∀ k,nk mask h k<=10*k
 | 0=>Nat.le_refl _
 | k+1=>by have:=xr mask h k;have:=g0 mask (ch mask h k).1;show nk mask h k+_+1<=_;exact KC this (by assumption)
theorem rW (a mask:Nat):a%(mask+1)<=mask:=Nat.le_of_lt_succ (Nat.mod_lt a (Nat.succ_pos mask))
theorem tZ (mask:Nat) (h:Int): ∀ k,(ch mask h k).1<=mask
 | 0=>rW _ _
 | k+1=>rW _ _
theorem t9 (mask:Nat) (h:Int): ∀ k,(ch mask h k).2=bits h / 32 ^ k
 | 0=>by show bits h=_;rw [Nat.pow_zero,Nat.div_one]
 | k+1=>by show (ch mask h k).2 / 32=_;rw [t9 mask h k,Nat.div_div_eq_div_mul, <- Nat.pow_succ]
theorem AV (h:Int):bits h<2 ^ 64:=by exact KD
theorem GK {mask:Nat} {h:Int} {k:Nat} (hk:13<=k):(ch mask h k).2=0:=by
 rw [t9]
 refine Nat.div_eq_of_lt (Nat.lt_of_lt_of_le (AV h) ?_)
 exact Nat.le_trans (by decide) (Nat.pow_le_pow_right (by decide:32 > 0) hk)
noncomputable def GL (mask:Nat):Nat->Nat->Nat
 | 0,i=>i
 | m+1,i=>((GL mask m i)*5+1)%(mask+1)
theorem rX (mask:Nat) (h:Int): ∀ m,(ch mask h (13+m)).1=GL mask m (ch mask h 13).1
 | 0=>rfl
 | m+1=>by
  show (((ch mask h (13+m)).1*5+1+(ch mask h (13+m)).2 / 32)%(mask+1))=_
  rw [GK (by exact o6),rX mask h m]
  rfl
theorem MF: ∀ i<8, ∀ j<8, ∃ m<8,GL 7 m i=j:=by decide+kernel
noncomputable def xu:Bool:=(List.range 32).all fun i=>(List.range 32).all fun j=>(List.range 32).any fun m=>GL 31 m i == j
theorem GN: ∀ i<32, ∀ j<32, ∃ m<32,GL 31 m i=j:=by
 have h:xu=true:=by decide+kernel
 intro i hi j hj
 delta xu at h
 rw [List.all_eq_true] at h
 have h:=h i (List.mem_range.mpr hi)
 rw [List.all_eq_true] at h
 have h:=h j (List.mem_range.mpr hj)
 rw [List.any_eq_true] at h
 obtain ⟨m,hm,e⟩:=h
 exact ⟨m,List.mem_range.mp hm,eq_of_beq e⟩
noncomputable def DE (mask:Nat):Prop:=mask=7\/mask=31
theorem cover {mask:Nat} (two:DE mask) (h:Int) {j:Nat} (hj:j<=mask): ∃ k,k<14+mask/\(ch mask h k).1=j:=by
 rcases two with rfl | rfl
 .obtain ⟨m,hm,e⟩:=MF (ch 7 h 13).1 (by have:=tZ 7 h 13;exact o7 this) j (by exact o7 hj)
  exact ⟨13+m,by exact o8 hm,(rX 7 h m).trans e⟩
 .obtain ⟨m,hm,e⟩:=GN (ch 31 h 13).1 (by have:=tZ 31 h 13;exact o9 this) j (by exact o9 hj)
  exact ⟨13+m,by exact QG hm,(rX 31 h m).trans e⟩
theorem xv {mask:Nat} (two:DE mask) (h:Int) {j:Nat} (hj:j<=mask): ∃ n,n<10*turns mask/\(st mask h n).j=j:=by
 obtain ⟨k,hk,e⟩:=cover two h hj
 refine ⟨nk mask h k,by have:=xr mask h k;exact QH this hk, ?_⟩
 rw [xq];exact e
theorem vh (mask:Nat) (p:Probe):(AU mask p).dummy=p.dummy:=by delta AU;split <;> rfl
theorem qc (mask:Nat) (h:Int): ∀ n,(st mask h n).dummy=none
 | 0=>rfl
 | n+1=>(vh mask _).trans (qc mask h n)
structure Gp (mask:Nat) (p:Probe):Prop where
 i:p.i<=mask
 e:p.j+p.more=runEnd mask p.i
theorem DF {mask:Nat} {p:Probe} (g:Gp mask p):Gp mask (AU mask p):=by
 delta AU
 split
 .exact ⟨g.i,by have:=g.e;show p.j+1+(p.more-1)=runEnd mask p.i;exact KG this (by assumption)⟩
 .have h:(leap mask p.i p.perturb).1<=mask:=rW _ _
  exact ⟨h,by have:=(g0 mask (leap mask p.i p.perturb).1).1;exact Nat.add_sub_of_le this⟩
theorem CD (mask:Nat) (h:Int): ∀ n,Gp mask (st mask h n)
 | 0=>⟨tZ mask h 0,by have:=(g0 mask (ch mask h 0).1).1;exact Nat.add_sub_of_le this⟩
 | n+1=>DF (CD mask h n)
theorem lg (mask:Nat) (h:Int) (n:Nat):(st mask h n).j<=mask:=by
 have g:=CD mask h n
 have:=nE g.i
 have:=g.e
 exact KW this (by assumption)
noncomputable def Up (l:List Nat):Prop:=l.Pairwise (· < ·)
theorem xx (xs:Array Nat) (j:Nat) (up:Up xs.toList): ∀ (f lo hi:Nat),lo<=hi->hi<=xs.size->hi-lo<=f->(∀ k (hk:k<xs.size),k<lo->xs[k]<j)->(∀ k (hk:k<xs.size),hi<=k->j<=xs[k])->
  ∃ r,below.go xs j f lo hi=r/\r<=xs.size/\(∀ k (hk:k<xs.size),k<r->xs[k]<j)/\(∀ k (hk:k<xs.size),r<=k->j<=xs[k]):=by
 have mono: ∀ a b (ha:a<xs.size) (hb:b<xs.size),a<=b->xs[a]<=xs[b]:=by
  intro a b ha hb qd
  rcases Nat.lt_or_eq_of_le qd with h | h
  .have:=List.pairwise_iff_getElem.mp up a b (by simpa using ha) (by simpa using hb) h
   simp only [Array.getElem_toList] at this
   omega
  .subst h;exact Nat.le_refl _
 intro f
 induction f with
 | zero=>intro lo hi h1 h2 h3 h4 h5;exact ⟨lo,rfl,by exact Pn h1 h2,h4,fun k hk q=>h5 k hk (by exact QI h3 q)⟩
 | succ f ih=>
  intro lo hi h1 h2 h3 h4 h5
  unfold below.go
  by_cases hl:lo<hi
  .rw [if_pos hl]
   have hm:(lo+hi) / 2<xs.size:=by exact QJ h2 hl
   have hg:xs.getD ((lo+hi) / 2) j=xs[(lo+hi) / 2]:=by rw [Array.getD_eq_getD_getElem?,Array.getElem?_eq_getElem hm];rfl
   dsimp only
   rw [hg]
   by_cases hx:xs[(lo+hi) / 2]<j
   .rw [if_pos hx]
    exact ih _ _ (by exact QK hl) h2 (by exact QM h3) (fun k hk q=>Nat.lt_of_le_of_lt (mono k _ hk hm (by exact QN q)) hx) h5
   .rw [if_neg hx]
    exact ih _ _ (by exact QO hl) (by exact QP hm) (by exact QQ h3) h4 (fun k hk q=>Nat.le_trans (by exact QR hx) (mono _ k hm hk q))
  .rw [if_neg hl]
   exact ⟨lo,rfl,by exact Pn h1 h2,h4,fun k hk q=>h5 k hk (by exact QS q hl)⟩
theorem lh (xs:Array Nat) (j:Nat) (up:Up xs.toList):below xs j<=xs.size/\(∀ k (hk:k<xs.size),k<below xs j->xs[k]<j)/\(∀ k (hk:k<xs.size),below xs j<=k->j<=xs[k]):=by
 obtain ⟨r,e,h⟩:=xx xs j up xs.size 0 xs.size (Nat.zero_le _) (Nat.le_refl _) (by exact QT) (fun k z0 q=>absurd q (Nat.not_lt_zero _)) (fun k hk q=>absurd hk (Nat.not_lt.mpr q))
 delta below
 exact e▸h
theorem below_at {xs:Array Nat} {j i:Nat} (up:Up xs.toList) (h:xs[i]? =some j):below xs j=i:=by
 obtain ⟨hi,e⟩:=Array.getElem?_eq_some_iff.mp h
 obtain ⟨h1,h2,h3⟩:=lh xs j up
 rcases Nat.lt_trichotomy (below xs j) i with q | q | q
 .have h4:=h3 (below xs j) (by exact Pp q hi) (Nat.le_refl _)
  have:=List.pairwise_iff_getElem.mp up (below xs j) i (by simp;exact Pp q hi) (by simpa using hi) q
  simp only [Array.getElem_toList] at this
  omega
 .exact q
 .have:=h2 i hi q;omega
theorem nF {t:SetTable} {j i:Nat} (up:Up t.place.toList) (h:t.place[i]? =some j):t.slot j= .live i:=by
 delta slot
 dsimp only
 rw [below_at up h,h]
 simp
theorem rY {t:SetTable} {j:Nat} (hd:t.dummies= #[]) (h:j∉t.place.toList):t.slot j= .empty:=by
 delta slot
 rw [if_neg fun q=>h (by rw [Array.mem_toList_iff];exact Array.mem_of_getElem? (eq_of_beq q)),hd]
 rfl
noncomputable abbrev Ent:=Nat×Int×Value
structure TI (t:SetTable) (es:Array (Int×Value)) (ps:List Ent):Prop where
 two:DE t.mask
 FU:t.dummies= #[]
 pl:t.place.toList=ps.map (·.1)
 es:es.toList=ps.map (·.2)
 up:Up (ps.map (·.1))
 FV: ∀ q∈ps,q.1<=t.mask
 ln:ps.length<=t.mask
 reach: ∀ q∈ps, ∃ n,n<10*turns t.mask/\(st t.mask q.2.1 n).j=q.1/\ ∀ m,m<n->(st t.mask q.2.1 m).j∈ps.map (·.1)
theorem TI.fresh (f m:Nat) (led:Bool):TI (.fresh f m led) #[] []:=⟨.inl rfl,rfl,rfl,rfl, .nil,(fun z0 h=>by cases h),Nat.zero_le _,(fun z0 h=>by cases h)⟩
theorem TI.size {t:SetTable} {es:Array (Int×Value)} {ps:List Ent} (I:TI t es ps):es.size=ps.length/\t.place.size=ps.length:=by
 have h1:=congrArg List.length I.es
 have h2:=congrArg List.length I.pl
 simp at h1 h2
 exact ⟨h1,h2⟩
theorem TI.fits {t:SetTable} {es:Array (Int×Value)} {ps:List Ent} (I:TI t es ps):t.fits es.size=true:=by
 obtain ⟨h1,h2⟩:=I.size
 delta SetTable.fits SetTable.fill
 rw [I.FU,h1,h2]
 have:=I.ln
 simp;exact QU this
theorem TI.plain {t:SetTable} {es:Array (Int×Value)} {ps:List Ent} (I:TI t es ps) (b:Bool):TI { t with plain:=b } es ps:=⟨I.two,I.FU,I.pl,I.es,I.up,I.FV,I.ln,I.reach⟩
structure vi (mask:Nat) (occ:List Nat) (h:Int) (n:Nat):Prop where
 lt:n<10*turns mask
 no:(st mask h n).j∉occ
 Az: ∀ m,m<n->(st mask h m).j∈occ
theorem first {P:Nat->Prop} [DecidablePred P]: ∀ {n:Nat},P n-> ∃ m,m<=n/\P m/\ ∀ k,k<m-> ¬ P k:=by
 intro n
 induction n using Nat.strongRecOn with
 | ind n ih=>
  intro h
  by_cases q: ∃ k,k<n/\P k
  .obtain ⟨k,hk,pk⟩:=q
   obtain ⟨m,h1,h2,h3⟩:=ih k hk pk
   exact ⟨m,by exact QV h1 hk,h2,h3⟩
  .exact ⟨n,Nat.le_refl _,h,fun k hk pk=>q ⟨k,hk,pk⟩⟩
theorem room {mask:Nat} {occ:List Nat} (hl:occ.length<=mask): ∃ j,j<=mask/\j∉occ:=by
 refine Classical.byContradiction fun q=> ?_
 have h: ∀ j,j<=mask->j∈occ:=fun j hj=>Classical.byContradiction fun z=>q ⟨j,hj,z⟩
 have:(List.range (mask+1)).length<=occ.length:=List.nodup_range.length_le_of_subset fun x hx=>h x (by have:=List.mem_range.mp hx;exact Pq this)
 simp at this;omega
theorem AW {mask:Nat} (two:DE mask) {occ:List Nat} (hl:occ.length<=mask) (h:Int): ∃ n,vi mask occ h n:=by
 obtain ⟨j,hj,hn⟩:=room hl
 obtain ⟨n,iJ,e⟩:=xv two h hj
 obtain ⟨m,h1,h2,h3⟩:=first (P:=fun n=>(st mask h n).j∉occ) (n:=n) ((e▸hn))
 exact ⟨m,by exact JT h1 iJ,h2,fun k hk=>Classical.byContradiction (h3 k hk)⟩
theorem xA {t:SetTable} {hashAt:Nat->Int} {h:Int}: ∀ (f n m:Nat),n<=m->m-n<f->(∀ k,n<=k->k<m-> ∃ i,t.slot (st t.mask h k).j= .live i/\(hashAt i == h)=false)->
  (t.slot (st t.mask h m).j= .empty->probe.go t hashAt h f (st t.mask h n)=some (.empty (st t.mask h m).j none))/\
  (∀ i,t.slot (st t.mask h m).j= .live i->(hashAt i == h)=true->probe.go t hashAt h f (st t.mask h n)=some (.candidate (st t.mask h m).j i (st t.mask h (m+1))))
 | 0,n,m,_,hf,_=>absurd hf (Nat.not_lt_zero _)
 | f+1,n,m,MG,hf,hb=>by
  by_cases e:n=m
  .subst e
   refine ⟨fun q=> ?_,fun i q z=> ?_⟩
   .unfold probe.go;rw [q];dsimp only;rw [qc]
   .unfold probe.go;rw [q];dsimp only;rw [if_pos z];rfl
  .obtain ⟨i,q,z⟩:=hb n (Nat.le_refl _) (by exact QW MG e)
   have ih:=xA (t:=t) (hashAt:=hashAt) (h:=h) f (n+1) m (by exact QX MG e) (by exact QY MG hf e) fun k h1 h2=>hb k (by exact QZ h1) h2
   have step:probe.go t hashAt h (f+1) (st t.mask h n)=probe.go t hashAt h f (st t.mask h (n+1)):=by
    conv=>lhs;unfold probe.go
    rw [q];dsimp only;rw [if_neg ((z▸Bool.false_ne_true))];rfl
   exact step▸ih
theorem TI.live {t:SetTable} {es:Array (Int×Value)} {ps:List Ent} (I:TI t es ps) {j:Nat} (h:j∈ps.map (·.1)): ∃ i q,ps[i]? =some q/\q.1=j/\t.slot j= .live i/\es[i]? =some q.2:=by
 obtain ⟨q,hq,e⟩:=List.mem_map.mp h
 obtain ⟨i,hi⟩:=List.mem_iff_getElem?.mp hq
 refine ⟨i,q,hi,e,nF (by rw [I.pl];exact I.up) ?_, ?_⟩
 .rw [<- Array.getElem?_toList,I.pl,List.getElem?_map,hi];exact congrArg some e
 .rw [<- Array.getElem?_toList,I.es,List.getElem?_map,hi];rfl
theorem TI.empty {t:SetTable} {es:Array (Int×Value)} {ps:List Ent} (I:TI t es ps) {j:Nat} (h:j∉ps.map (·.1)):t.slot j= .empty:=rY I.FU ((I.pl▸h))
theorem TI.freeSlot {t:SetTable} {es:Array (Int×Value)} {ps:List Ent} (I:TI t es ps) {h:Int} {n:Nat} (F:vi t.mask (ps.map (·.1)) h n):t.freeSlot h=some ((st t.mask h n).j,false):=by
 delta SetTable.freeSlot probe
 rw [xn,(xA (hashAt:=fun z0=>h+1) (h:=h) (10*turns t.mask) 0 n (Nat.zero_le _) (by have:=F.lt;exact Q0 this) (fun k z0 hk=> ?_)).1 (I.empty F.no)]
 .rfl
 .obtain ⟨i,q,_,_,e,_⟩:=I.live (F.Az k hk)
  exact ⟨i,e,beq_eq_false_iff_ne.mpr (by exact Q1)⟩
theorem xB {ps:List Ent} {xs:Array Nat} {j:Nat} (e:xs.toList=ps.map (·.1)) (up:Up (ps.map (·.1))) (no:j∉ps.map (·.1)):(∀ q∈ps.take (below xs j),q.1<j)/\(∀ q∈ps.drop (below xs j),j<q.1):=by
 obtain ⟨h1,h2,h3⟩:=lh xs j ((e▸up))
 have sz:xs.size=ps.length:=by have:=congrArg List.length e;simpa using this
 have at': ∀ k (hk:k<ps.length),xs[k]'(by exact Cx sz hk)=ps[k].1:=fun k hk=>by
  have:xs.toList[k]? =(ps.map (·.1))[k]? :=(e▸rfl)
  rw [Array.getElem?_toList,Array.getElem?_eq_getElem (by exact Cx sz hk),List.getElem?_map,List.getElem?_eq_getElem hk] at this
  simpa using this
 refine ⟨fun q hq=> ?_,fun q hq=> ?_⟩
 .obtain ⟨k,hk,rfl⟩:=List.mem_iff_getElem.mp hq
  rw [List.length_take] at hk
  rw [List.getElem_take]
  have:=h2 k (by exact Q3 h1 hk) (by exact Q4 hk)
  rw [at' k (by exact Q5 hk)] at this
  exact this
 .obtain ⟨k,hk,rfl⟩:=List.mem_iff_getElem.mp hq
  rw [List.length_drop] at hk
  rw [List.getElem_drop]
  have h4:=h3 (below xs j+k) (by exact Q6 sz hk) (by exact Q7)
  rw [at' _ (by exact Pr hk)] at h4
  rcases Nat.lt_or_eq_of_le h4 with q | q
  .exact q
  .exact absurd (List.mem_map.mpr ⟨_,List.getElem_mem (by exact Pr hk),q.symm⟩) no
noncomputable def ins (ps:List Ent) (p:Nat) (q:Ent):List Ent:=ps.take p++q::ps.drop p
theorem qf (ps:List Ent) (p:Nat) (q:Ent):(ins ps p q).Perm (q::ps):=by
 refine List.perm_middle.trans (.cons _ ?_)
 rw [List.take_append_drop]
theorem TI.put {t:SetTable} {es:Array (Int×Value)} {ps:List Ent} (I:TI t es ps) {h:Int} {n:Nat} (F:vi t.mask (ps.map (·.1)) h n) (x:Value) (hl:ps.length+1<=t.mask):
  TI (t.put (st t.mask h n).j).1 (insertAt es (t.put (st t.mask h n).j).2 (h,x)) (ins ps (t.put (st t.mask h n).j).2 ((st t.mask h n).j,h,x)):=by
 have sp:=xB I.pl I.up F.no
 have pm:=qf ps (below t.place (st t.mask h n).j) ((st t.mask h n).j,h,x)
 have sub: ∀ j,j∈ps.map (·.1)->j∈(ins ps (below t.place (st t.mask h n).j) ((st t.mask h n).j,h,x)).map (·.1):=fun j hj=>by
  rw [(pm.map _).mem_iff,List.map_cons];exact List.mem_cons_of_mem _ hj
 refine ⟨I.two, ?_, ?_, ?_, ?_,fun q hq=> ?_, ?_,fun q hq=> ?_⟩
 .show (if has t.dummies _ then _ else t.dummies)= #[]
  rw [I.FU];rfl
 .show (insertAt t.place (below t.place _) _).toList=_
  rw [toList_insertAt,I.pl]
  show _=(ins ps (below t.place _) _).map _
  delta ins
  rw [List.map_append,List.map_cons,List.map_take,List.map_drop]
 .show (insertAt es (below t.place _) _).toList=(ins ps (below t.place _) _).map _
  rw [toList_insertAt,I.es]
  delta ins
  rw [List.map_append,List.map_cons,List.map_take,List.map_drop]
 .show Up ((ins ps (below t.place _) _).map _)
  delta ins Up
  rw [List.map_append,List.map_cons]
  have Jl:(List.map (fun x:Ent=>x.1) (ps.take (below t.place (st t.mask h n).j))++List.map (fun x:Ent=>x.1) (ps.drop (below t.place (st t.mask h n).j))).Pairwise (· < ·):=by
   rw [<- List.map_append,List.take_append_drop];exact I.up
  rw [List.pairwise_append] at Jl|-
  refine ⟨Jl.1,List.pairwise_cons.mpr ⟨fun b hb=> ?_,Jl.2.1⟩,fun a ha b hb=> ?_⟩
  .obtain ⟨q,hq,rfl⟩:=List.mem_map.mp hb;exact sp.2 q hq
  .obtain ⟨q,hq,rfl⟩:=List.mem_map.mp ha
   rcases List.mem_cons.mp hb with rfl | hb
   .exact sp.1 q hq
   .exact Jl.2.2 _ ha b hb
 .rcases List.mem_cons.mp (pm.mem_iff.mp hq) with rfl | hq
  .exact lg _ _ _
  .exact I.FV q hq
 .show (ins ps (below t.place _) _).length<=t.mask
  exact pm.length_eq▸hl
 .rcases List.mem_cons.mp (pm.mem_iff.mp hq) with rfl | hq
  .exact ⟨n,F.lt,rfl,fun m hm=>sub _ (F.Az m hm)⟩
  .obtain ⟨n',h1,h2,h3⟩:=I.reach q hq
   exact ⟨n',h1,h2,fun m hm=>sub _ (h3 m hm)⟩
end Tb
namespace Tb
open SetTable
theorem ua {mask:Nat} {owner:Array (Option Nat)} {occ:List Nat} (ho: ∀ j,j<=mask->((owner.getD j (some 0)).isNone=true↔j∉occ)) {h:Int}: ∀ (f c:Nat),(∀ m,m<nk mask h c->(st mask h m).j∈occ)->
  (∃ k,c<=k/\k<c+f/\(ch mask h k).1∉occ)->c+f<=turns mask-> ∃ n,vi mask occ h n/\layClean.free mask owner f (ch mask h c).1 (ch mask h c).2=some (st mask h n).j
 | 0,c,_,⟨k,h1,h2,_⟩,_=>by omega
 | f+1,c,hb,⟨k,h1,h2,h3⟩,hf=>by
  have ci:=tZ mask h c
  have re:=g0 mask (ch mask h c).1
  have ri:=nE ci
  have sj: ∀ k,k<=runEnd mask (ch mask h c).1-(ch mask h c).1->(st mask h (nk mask h c+k)).j=(ch mask h c).1+k:=fun k hk=>by rw [xo (xq mask h c) k hk]
  have nc:=xr mask h c
  unfold layClean.free
  cases q:(List.range (runEnd mask (ch mask h c).1+1-(ch mask h c).1)).find? fun k=>(owner.getD ((ch mask h c).1+k) (some 0)).isNone with
  | some k'=>
   rw [List.find?_range_eq_some] at q
   obtain ⟨q1,q2,q3⟩:=q
   rw [List.mem_range] at q2
   refine ⟨nk mask h c+k',⟨by exact Q8 re hf nc q2, ?_,fun m hm=> ?_⟩, ?_⟩
   .rw [sj k' (by exact Pt q2)];exact (ho _ (by exact Q9 ri q2)).mp q1
   .by_cases z:m<nk mask h c
    .exact hb m z
    .have:=q3 (m-nk mask h c) (by exact Ra hm z)
     have e:m=nk mask h c+(m-nk mask h c):=by exact Pu z
     rw [e,sj _ (by exact KY q2 hm)]
     refine Classical.byContradiction fun w=> ?_
     rw [(ho _ (by exact Rf ri q2 hm)).mpr w] at this
     cases this
   .dsimp only;rw [sj k' (by exact Pt q2)]
  | none=>
   rw [List.find?_eq_none] at q
   have all: ∀ k,k<=runEnd mask (ch mask h c).1-(ch mask h c).1->(ch mask h c).1+k∈occ:=fun k hk=>Classical.byContradiction fun w=>q k (List.mem_range.mpr (by exact Rg re hk)) ((ho _ (by exact Rh re ri hk)).mpr w)
   have kc:k≠c:=fun e=>h3 (by rw [e];exact all 0 (Nat.zero_le _))
   exact ua ho f (c+1) (fun m hm=>by
    have hm:m<nk mask h c+(runEnd mask (ch mask h c).1-(ch mask h c).1)+1:=hm
    by_cases z:m<nk mask h c
    .exact hb m z
    .have e:m=nk mask h c+(m-nk mask h c):=by exact Pu z
     rw [e,sj _ (by exact KZ hm)]
     exact all _ (by exact Ri hm)) ⟨k,by exact Rj h1 kc,by exact Rk h2,h3⟩ (by exact Rl hf)
structure LC (mask:Nat) (owner:Array (Option Nat)) (js:List Nat) (hs:List Int):Prop where
 sz:owner.size=mask+1
 own: ∀ (j:Nat),j<=mask-> ∀ (i:Nat),owner[j]? =some (some i)↔js[i]? =some j
 nd:js.Nodup
 FV: ∀ j∈js,j<=mask
 ln:js.length=hs.length
 reach: ∀ (i j:Nat) (h:Int),js[i]? =some j->hs[i]? =some h-> ∃ n,n<10*turns mask/\(st mask h n).j=j/\ ∀ m,m<n->(st mask h m).j∈js
theorem LC.isNone {mask:Nat} {owner:Array (Option Nat)} {js:List Nat} {hs:List Int} (L:LC mask owner js hs) (j:Nat) (hj:j<=mask):(owner.getD j (some 0)).isNone=true↔j∉js:=by
 have hs:j<owner.size:=(L.sz▸JU hj)
 rw [Array.getD_eq_getD_getElem?,Array.getElem?_eq_getElem hs,Option.getD_some,Option.isNone_iff_eq_none]
 constructor
 .intro e hm
  obtain ⟨i,hi⟩:=List.mem_iff_getElem?.mp hm
  have:=(L.own j hj i).mpr hi
  rw [Array.getElem?_eq_getElem hs,e] at this
  cases this
 .intro hn
  cases q:owner[j] with
  | none=>rfl
  | some i=>exact absurd (List.mem_of_getElem? ((L.own j hj i).mp (by rw [Array.getElem?_eq_getElem hs,q]))) hn
theorem LC.step {mask:Nat} (two:DE mask) {owner:Array (Option Nat)} {js:List Nat} {hs:List Int} (L:LC mask owner js hs) (hl:js.length<=mask) (h:Int):
  ∃ j,layClean.free mask owner (turns mask) (bits h%(mask+1)) (bits h)=some j/\LC mask (owner.setIfInBounds j (some js.length)) (js++[j]) (hs++[h]):=by
 obtain ⟨RR,GO,GP⟩:=room hl
 obtain ⟨k,hk,e⟩:=cover two h GO
 obtain ⟨n,F,ef⟩:=ua (h:=h) (fun j hj=>L.isNone j hj) (turns mask) 0 (fun m hm=>absurd hm (Nat.not_lt_zero _)) ⟨k,Nat.zero_le _,by exact Rm hk,(e▸GP)⟩ (by exact Rn)
 refine ⟨_,ef, ?_⟩
 have jm:=lg mask h n
 generalize ej:(st mask h n).j=j at*
 have no:j∉js:=((ej.symm)▸F.no)
 have RT:j<owner.size:=(L.sz▸JU jm)
 refine ⟨by rw [Array.size_setIfInBounds];exact L.sz,fun j' pV i=> ?_, ?_,fun j' pV=> ?_,by rw [List.length_append,List.length_append,L.ln];rfl,fun i j' h' e1 e2=> ?_⟩
 .rw [Array.getElem?_setIfInBounds]
  by_cases q:j=j'
  .subst q
   rw [if_pos rfl,if_pos RT,Option.some.injEq,Option.some.injEq]
   constructor
   .rintro rfl;simp
   .intro hi
    rcases Nat.lt_trichotomy i js.length with z | z | z
    .rw [List.getElem?_append_left z] at hi;exact absurd (List.mem_of_getElem? hi) no
    .exact z.symm
    .exact nomatch ((List.getElem?_eq_none (by simp;exact JV z)).symm.trans hi)
  .rw [if_neg q,L.own j' pV i]
   constructor
   .intro hi;rw [List.getElem?_append_left (List.getElem?_eq_some_iff.mp hi).1];exact hi
   .intro hi
    rcases Nat.lt_trichotomy i js.length with z | z | z
    .rw [List.getElem?_append_left z] at hi;exact hi
    .subst z;simp at hi;exact absurd hi q
    .exact nomatch ((List.getElem?_eq_none (by simp;exact JV z)).symm.trans hi)
 .rw [List.nodup_append];exact ⟨L.nd,by simp,fun a ha b hb=>by rw [List.mem_singleton] at hb;subst hb;exact fun q=>no (q▸ha)⟩
 .rcases List.mem_append.mp pV with q | q
  .exact L.FV _ q
  .rw [List.mem_singleton] at q;subst q;exact jm
 .rcases Nat.lt_trichotomy i js.length with z | z | z
  .rw [List.getElem?_append_left z] at e1
   rw [List.getElem?_append_left (((L.ln.symm)▸z))] at e2
   obtain ⟨n',a,b,c⟩:=L.reach i j' h' e1 e2
   exact ⟨n',a,b,fun m hm=>List.mem_append_left _ (c m hm)⟩
  .rw [z] at e1 e2
   simp at e1
   rw [L.ln] at e2
   simp at e2
   subst e1 e2
   exact ⟨n,F.lt,ej,fun m hm=>List.mem_append_left _ (F.Az m hm)⟩
  .exact nomatch ((List.getElem?_eq_none (by simp;exact JV z)).symm.trans e1)
theorem xC {mask:Nat} (two:DE mask): ∀ (rest:List Int) (owner:Array (Option Nat)) (js:List Nat) (hs:List Int),LC mask owner js hs->js.length+rest.length<=mask+1->
  ∃ xD Jm,(rest.foldl (fun (acc:Option (Array (Option Nat)×Nat)) h=>do
   let (owner,k) <- acc
   let j <- layClean.free mask owner (turns mask) (bits h%(mask+1)) (bits h)
   pure (owner.setIfInBounds j (some k),k+1)) (some (owner,js.length)))=some (xD,Jm.length)/\LC mask xD Jm (hs++rest):=by
 intro L9
 induction L9 with
 | nil=>
  rintro owner js hs L _
  exact ⟨owner,js,rfl,by rw [List.append_nil];exact L⟩
 | cons h rest ih=>
  rintro owner js hs L hl
  obtain ⟨j,e,L'⟩:=L.step two (by simp at hl;exact Ro hl) h
  obtain ⟨o',Jm,e',PK⟩:=ih _ _ _ L' (by simp at hl|-;exact Rp hl)
  refine ⟨o',Jm, ?_,by rw [List.append_assoc] at PK;exact PK⟩
  rw [List.foldl_cons]
  rw [show (js++[j]).length=js.length+1 by simp] at e'
  rw [<- e']
  congr 1
  show (layClean.free mask owner (turns mask) (bits h%(mask+1)) (bits h) >>=_)=_
  rw [e];rfl
theorem LC.nil (mask:Nat):LC mask (Array.replicate (mask+1) none) [] []:=⟨by simp,(fun j hj i=>by simp [Array.getElem?_replicate]), .nil,(fun z0 h=>by cases h),rfl,(fun i j h e=>by simp at e)⟩
theorem qg {mask:Nat} (two:DE mask) (hs:Array Int) (hl:hs.size<=mask+1): ∃ owner js,layClean mask hs=some owner/\LC mask owner js hs.toList:=by
 obtain ⟨o,js,e,L⟩:=xC two hs.toList _ [] [] (LC.nil mask) (by simpa using hl)
 refine ⟨o,js, ?_,by simpa using L⟩
 delta layClean
 rw [<- Array.foldl_toList]
 exact congrArg (Option.map (·.1)) e
noncomputable def cT (mask:Nat) (owner:Array (Option Nat)):List (Nat×Nat):=(List.range (mask+1)).filterMap fun j=>(owner.getD j none).map (j, ·)
theorem ub (mask:Nat) (owner:Array (Option Nat)):Up ((cT mask owner).map (·.1)):=by
 have:(cT mask owner).map (·.1)=(List.range (mask+1)).filter fun j=>(owner.getD j none).isSome:=by
  delta cT
  rw [List.map_filterMap]
  induction List.range (mask+1) with
  | nil=>rfl
  | cons a l ih=>
   rw [List.filterMap_cons,List.filter_cons,ih]
   cases owner.getD a none <;> rfl
 rw [this]
 exact List.Pairwise.sublist List.filter_sublist List.pairwise_lt_range
theorem LC.live {mask:Nat} {owner:Array (Option Nat)} {js:List Nat} {hs:List Int} (L:LC mask owner js hs) (j i:Nat):(j,i)∈cT mask owner↔js[i]? =some j:=by
 delta cT
 rw [List.mem_filterMap]
 constructor
 .rintro ⟨j',pV,e⟩
  rw [Option.map_eq_some_iff] at e
  obtain ⟨i',e,q⟩:=e
  cases q
  rw [List.mem_range] at pV
  refine (L.own j (by exact Pq pV) i).mp ?_
  rw [Array.getD_eq_getD_getElem?] at e
  cases z:owner[j]? with
  | none=>rw [z] at e;cases e
  | some o=>rw [z] at e;exact congrArg some e
 .intro e
  have hj:=L.FV j (List.mem_of_getElem? e)
  refine ⟨j,List.mem_range.mpr (by exact JU hj), ?_⟩
  rw [Array.getD_eq_getD_getElem?,(L.own j hj i).mpr e]
  rfl
theorem LC.order {mask:Nat} {owner:Array (Option Nat)} {js:List Nat} {hs:List Int} (L:LC mask owner js hs):((cT mask owner).map (·.2)).Perm (List.range hs.length):=by
 have up:=ub mask owner
 refine (List.perm_ext_iff_of_nodup ?_ List.nodup_range).mpr fun i=> ?_
 .have nd:(cT mask owner).Pairwise fun a b=>a.1<b.1:=List.pairwise_map.mp up
  refine List.pairwise_map.mpr (nd.imp_of_mem fun {a b} ha hb h q=> ?_)
  have e1:=(L.live a.1 a.2).mp ha
  have e2:=(L.live b.1 b.2).mp hb
  rw [q,e2,Option.some.injEq] at e1
  omega
 .rw [List.mem_map,List.mem_range, <- L.ln]
  constructor
  .rintro ⟨⟨j,i'⟩,h,rfl⟩
   exact (List.getElem?_eq_some_iff.mp ((L.live j i').mp h)).1
  .intro h
   exact ⟨(js[i],i),(L.live _ _).mpr (List.getElem?_eq_getElem h),rfl⟩
theorem TI.relaid {t:SetTable} {es:Array (Int×Value)} {ps:List Ent} (I:TI t es ps) (hl:ps.length<=18) (wanted:Nat) (hw:sizeAbove wanted=32):
  ∃ t' order oJ,t.relaid (es.map (·.1)) wanted=some (t',order)/\order.toList.Perm (List.range es.size)/\TI t' (order.filterMap (es[·]?)) oJ/\(oJ.map (·.2)).Perm (ps.map (·.2))/\t'.mask=31/\t'.led=t.led:=by
 obtain ⟨s1,s2⟩:=I.size
 obtain ⟨owner,js,e,L⟩:=qg (mask:=31) (.inr rfl) (es.map (·.1)) (by simp;exact Rr s1 hl)
 have Jn:(es.map (·.1)).toList.length=es.size:=by simp
 have po:=L.order
 rw [Jn] at po
 have DG: ∀ q∈cT 31 owner,q.2<es.size:=fun q hq=>List.mem_range.mp (po.mem_iff.mp (List.mem_map_of_mem hq))
 refine ⟨{ mask:=31,place:=((cT 31 owner).map (·.1)).toArray,dummies:= #[],finger:=t.finger,led:=t.led,moves:=t.movedTo 31,plain:=t.plain },((cT 31 owner).map (·.2)).toArray,(cT 31 owner).filterMap fun q=>(es[q.2]?).map (q.1, ·), ?_, ?_,⟨.inr rfl,rfl, ?_, ?_, ?_,fun q hq=> ?_, ?_,fun q hq=> ?_⟩, ?_,rfl,rfl⟩
 .delta SetTable.relaid laid
  rw [hw]
  show (layClean 31 _ >>=_)=_
  rw [e];rfl
 .exact po
 .show (cT 31 owner).map (·.1)=_
  rw [List.map_filterMap]
  generalize cT 31 owner=l at DG
  induction l with
  | nil=>rfl
  | cons a l ih=>
   have:=DG a List.mem_cons_self
   rw [List.filterMap_cons,Array.getElem?_eq_getElem this,List.map_cons]
   exact congrArg _ (ih fun q hq=>DG q (List.mem_cons_of_mem _ hq))
 .rw [Array.toList_filterMap]
  show ((cT 31 owner).map (·.2)).filterMap _=_
  rw [List.filterMap_map,List.map_filterMap]
  refine congrArg (fun f=>List.filterMap f _) (funext fun q=> ?_)
  show es[q.2]? =_
  cases es[q.2]? <;> rfl
 .have:((cT 31 owner).filterMap fun q=>(es[q.2]?).map (q.1, ·)).map (·.1)=(cT 31 owner).map (·.1):=by
   rw [List.map_filterMap]
   generalize cT 31 owner=l at DG
   induction l with
   | nil=>rfl
   | cons a l ih=>
    have:=DG a List.mem_cons_self
    rw [List.filterMap_cons,Array.getElem?_eq_getElem this,List.map_cons]
    exact congrArg _ (ih fun q hq=>DG q (List.mem_cons_of_mem _ hq))
  exact this▸ub 31 owner
 .obtain ⟨⟨j,i⟩,hm,z⟩:=List.mem_filterMap.mp hq
  rw [Option.map_eq_some_iff] at z
  obtain ⟨e',_,rfl⟩:=z
  exact L.FV j (List.mem_of_getElem? ((L.live j i).mp hm))
 .refine Nat.le_trans (List.length_filterMap_le ..) ?_
  have:=po.length_eq
  simp at this
  show _<=31
  exact K0 s1 this hl
 .obtain ⟨⟨j,i⟩,hm,z⟩:=List.mem_filterMap.mp hq
  rw [Option.map_eq_some_iff] at z
  obtain ⟨e',ee,rfl⟩:=z
  have ej:=(L.live j i).mp hm
  obtain ⟨n,a,b,c⟩:=L.reach i j e'.1 ej (by rw [Array.getElem?_toList,Array.getElem?_map,ee];rfl)
  refine ⟨n,a,b,fun m hm=> ?_⟩
  obtain ⟨i',eB⟩:=List.mem_iff_getElem?.mp (c m hm)
  have Jo:=(L.live _ i').mpr eB
  have:=DG _ Jo
  exact List.mem_map.mpr ⟨(_,es[i']),List.mem_filterMap.mpr ⟨_,Jo,by rw [Array.getElem?_eq_getElem this];rfl⟩,rfl⟩
 .rw [<- I.es, <- filterMap_getElem?_range,List.map_filterMap]
  refine List.Perm.trans ?_ (po.filterMap fun i=>es[i]?)
  rw [List.filterMap_map]
  refine .of_eq (congrArg (fun f=>List.filterMap f _) (funext fun q=> ?_))
  show Option.map _ (Option.map _ es[q.2]?)=es[q.2]?
  cases es[q.2]? <;> rfl
end Tb
noncomputable def i3:List String:=["dict_values","dict_items"]
noncomputable abbrev fD (c:String) (d:Addr):Obj:={ cls:= .type c,data:= .fields #[.ref d] }
noncomputable abbrev dD (vs:List Value) (ep:Nat):Obj:={ cls:= .type "tuple",data:= .seq vs.toArray ep }
noncomputable abbrev xE (a b c:Int) (t u v:Tok):Obj:={ cls:= .type "range",data:= .fields #[.int a t, .int b u, .int c v] }
class bW where
 bad:List Addr
noncomputable def Dz:Type:=bW
section
variable [ζ:bW]
noncomputable abbrev oK (a:Addr):Prop:=a∉ζ.bad
inductive eW (x:Addr):Obj->Prop where
 | tup (vs:List Value) (ep:Nat):oK x->eW x (dD vs ep)
 | kS (a b c:Int) (t u v:Tok):eW x (xE a b c t u v)
 | view (c:String) (d:Addr):i3.contains c=true->eW x (fD c d)
 | code (o:Obj) (vs:Array Value):o.cls= .type "code"->o.data= .fields vs->eW x o
noncomputable def ig:Value->Bool
 | .type n=>n == "tuple" || n == "range" || n == "code" || i3.contains n
 | _=>false
theorem eW.cls {a:Addr} {o:Obj} (i:eW a o):ig o.cls=true:=by
 cases i with
 | tup=>rfl
 | kS=>rfl
 | view c d h=>show (c == "tuple" || c == "range" || c == "code" || i3.contains c)=true;rw [h,Bool.or_true]
 | code _ vs h=>rw [h];rfl
theorem eW.data {a:Addr} {o:Obj} (i:eW a o):(∀ es ep,o.data≠ .dict es ep)/\ ∀ v,o.data≠ .cell v:=by
 cases i with
 | code _ vs _ h=>exact ⟨(fun z0 z0 q=>by exact Data.noConfusion (h.symm.trans q)),(fun z0 q=>by rw [h] at q;cases q)⟩
 | _=>exact ⟨(fun z0 z0 q=>by cases q),(fun z0 q=>by cases q)⟩
noncomputable abbrev cp (vs:List Value) (ep:Nat):Obj:={ cls:= .type "list",data:= .seq vs.toArray ep }
mutual
noncomputable def VR (h:Heap):V->Value->Prop
 | .none,v=>v= .none
 | .bool b,v=>v= .bool b
 | .int n,v=> ∃ t,v= .int n t
 | .str x,v=> ∃ t,v= .str x t
 | .tup xs,v=> ∃ a vs ep,v= .ref a/\h.get? a=some (dD vs ep)/\bh h xs vs/\oK a
 | .kS x y z,v=> ∃ a t u w,v= .ref a/\h.get? a=some (xE x y z t u w)
 | .view c d,v=> ∃ a,v= .ref a/\i3.contains c=true/\h.get? a=some (fD c d)
 | .ref a,v=>v= .ref a
 | .cst w,v=>v=w
 | .cD n,v=> ∃ t,v= .int n (t+1)
 | .cS x,v=> ∃ t,v= .str x (t+1)
noncomputable def bh (h:Heap):List V->List Value->Prop
 | [],vs=>vs=[]
 | x::xs,vs=> ∃ v r,vs=v::r/\VR h x v/\bh h xs r
end
theorem bh.length {h:Heap}: ∀ {xs:List V} {vs:List Value},bh h xs vs->vs.length=xs.length
 | [],_,e=>by rw [e];rfl
 | _::_,_,e=>by
  obtain ⟨v,r,rfl,_,hr⟩:=e
  rw [List.length_cons,List.length_cons,bh.length hr]
theorem eW.ok {a:Addr} {vs:List Value} {ep:Nat} (i:eW a (dD vs ep)):oK a:=by
 generalize e:dD vs ep=o at i
 cases i with
 | tup _ _ z=>exact z
 | kS=>exact absurd (congrArg Obj.cls e) (by simp)
 | view c d h=>
  have:=congrArg Obj.cls e
  simp only [Value.type.injEq] at this
  subst this
  exact absurd h (by decide)
 | code _ _ h=>subst e;exact absurd h (by simp)
omit ζ in
mutual
theorem VR.shift {ζ iK:bW} {h h':Heap} (k: ∀ a o, @eW ζ a o->h.get? a=some o->h'.get? a=some o) (q: ∀ a o, @eW ζ a o->h.get? a=some o-> @eW iK a o): ∀ (x:V) (v:Value), @VR ζ h x v-> @VR iK h' x v
 | .none,_,e=>by exact e
 | .bool _,_,e=>by exact e
 | .int _,_,e=>by exact e
 | .str _,_,e=>by exact e
 | .ref _,_,e=>by exact e
 | .cst _,_,e=>by exact e
 | .cD _,_,e=>by exact e
 | .cS _,_,e=>by exact e
 | .tup xs,_,e=>by
  obtain ⟨a,vs,ep,rfl,ha,hr,z⟩:=e
  exact ⟨a,vs,ep,rfl,k a _ (@eW.tup ζ a vs ep z) ha,bh.shift k q xs vs hr,eW.ok (q a _ (@eW.tup ζ a vs ep z) ha)⟩
 | .kS _ _ _,_,e=>by
  obtain ⟨a,t,u,w,rfl,ha⟩:=e
  exact ⟨a,t,u,w,rfl,k a _ (@eW.kS ζ a ..) ha⟩
 | .view c d,_,e=>by
  obtain ⟨a,rfl,hc,ha⟩:=e
  exact ⟨a,rfl,hc,k a _ (@eW.view ζ a c d hc) ha⟩
theorem bh.shift {ζ iK:bW} {h h':Heap} (k: ∀ a o, @eW ζ a o->h.get? a=some o->h'.get? a=some o) (q: ∀ a o, @eW ζ a o->h.get? a=some o-> @eW iK a o): ∀ (xs:List V) (vs:List Value), @bh ζ h xs vs-> @bh iK h' xs vs
 | [],_,e=>by exact e
 | x::xs,_,e=>by
  obtain ⟨v,r,rfl,hx,hr⟩:=e
  exact ⟨v,r,rfl,VR.shift k q x v hx,bh.shift k q xs r hr⟩
end
theorem VR.mono {h h':Heap} (k: ∀ a o,eW a o->h.get? a=some o->h'.get? a=some o) (x:V) (v:Value) (r:VR h x v):VR h' x v:=VR.shift k (fun z0 z0 i z0=>i) x v r
theorem bh.mono {h h':Heap} (k: ∀ a o,eW a o->h.get? a=some o->h'.get? a=some o) (x:List V) (v:List Value) (r:bh h x v):bh h' x v:=bh.shift k (fun z0 z0 i z0=>i) x v r
theorem bh.bL {h:Heap} {vs:List Value}:bh h [] vs↔vs=[]:=by exact Iff.rfl
theorem bh.gC {h:Heap}:bh h [] []:=by rfl
theorem bh.cons {h:Heap} {x:V} {xs:List V} {v:Value} {vs:List Value} (a:VR h x v) (b:bh h xs vs):bh h (x::xs) (v::vs):=by
 exact ⟨v,vs,rfl,a,b⟩
theorem bh.aG {h:Heap} {x:V} {xs:List V} {vs:List Value} (e:bh h (x::xs) vs): ∃ v r,vs=v::r/\VR h x v/\bh h xs r:=by
 exact e
theorem bh.append {h:Heap}: ∀ {xs ys:List V} {vs ws:List Value},bh h xs vs->bh h ys ws->bh h (xs++ys) (vs++ws):=by
 intro L9
 induction L9 with
 | nil=>
  rintro _ _ _ e f
  rw [bh.bL] at e;subst e;exact f
 | cons _ _ ih=>
  rintro _ _ _ e f
  obtain ⟨v,r,rfl,hx,hr⟩:=e.aG;exact .cons hx (ih hr f)
theorem bh.getElem? {h:Heap}: ∀ {xs:List V} {vs:List Value},bh h xs vs-> ∀ {i:Nat} {x:V},xs[i]? =some x-> ∃ v,vs[i]? =some v/\VR h x v
 | [],_,_,_,_,e=>by simp at e
 | y::ys,vs,hr,i,x,e=>by
  obtain ⟨v,r,rfl,hx,hr⟩:=hr.aG
  cases i with
  | zero=>simp only [List.getElem?_cons_zero,Option.some.injEq] at e|-;subst e;exact ⟨v,rfl,hx⟩
  | succ j=>simp only [List.getElem?_cons_succ] at e|-;exact hr.getElem? e
set_option genInjectivity true in
inductive O where
 | list (xs:List V)
 | dict (es:List (Int×V)) (ep:Nat)
 | inst (C dx:Addr)
 | ns (fs:List (Str×V))
 | node (C:Addr) (xs:List V)
 | iter (l:Addr) (i:Nat)
 | bound (id:String) (self:Addr)
 | set (S:IB) (n:Nat)
 | exc (cls:Value) (args:List V)
 | tab (q:Str)
 | lam (ar:Arguments) (body:Expr) (sc:Scope) (cl:List (Str×Addr)) (q:Str)
 | qh (n:Nat)
noncomputable abbrev AH:=Addr->Option O
noncomputable abbrev Loc:=Str->Option V
noncomputable abbrev PX:=Value->List V->Loc->AH->Prop
noncomputable abbrev PV:=V->Loc->AH->Prop
noncomputable abbrev qi:=Loc->AH->Prop
noncomputable abbrev lj:=List V->Loc->AH->Prop
noncomputable abbrev PB:=Bool->Loc->AH->Prop
noncomputable abbrev NV:=Nat->V
noncomputable def put (H:AH) (a:Addr) (o:O):AH:=fun b=>if b=a then some o else H b
noncomputable def bw (m:Loc) (x:Str) (v:V):Loc:=fun y=>if y=x then some v else m y
noncomputable def xF (m:Loc) (x:Str):Loc:=fun y=>if y=x then Option.none else m y
theorem ag (H:AH) (a:Addr) (o:O):put H a o a=some o:=if_pos rfl
theorem cU (H:AH) {a b:Addr} (o:O) (e:b≠a):put H a o b=H b:=if_neg e
structure G where
 prog:Program
 w:World
 B:Heap
 K:Frag
 mg:Str->Option Value
 mb:Str->Option Value
 os:OsState
 gq:K.In B
 glob:B.Ns mainGlobals mg
 blt:B.Ns builtinsNs mb
 nG:B.NoLimit
 vk: ∃ o,B.get? sysModules=some o
structure Fm where
 A:Around
 env:Env
 stack:List Env
 aS:List Addr
 lvl:Nat
noncomputable def Fm.fr (F:Fm):List Addr:=F.stack.filterMap (·.frame)
noncomputable def ER (P:Params) (h:Heap):List (Int×V)->List DictEntry->Prop
 | [],ds=>ds=[]
 | e::es,ds=> ∃ key v r,ds=⟨hV P (cd e.1),key,v⟩::r/\VR h (cd e.1) key/\VR h e.2 v/\ER P h es r
noncomputable def SR (P:Params) (h:Heap):List Int->List (Int×Value)->Prop
 | [],es=>es=[]
 | u::us,es=> ∃ v r,es=(hV P (cd u),v)::r/\VR h (cd u) v/\SR P h us r
inductive cE (P:Params) (h:Heap) (a:Addr) (es:List (Int×V)) (ep:Nat):Prop
 | mk (o:Obj) (ds:Array DictEntry) (a1:h.get? a=some o) (a2:o.ExactDict) (a3:o.data= .dict ds ep) (a4:ER P h es ds.toList) (a5:(es.map fun e=>cl e.1).Nodup)
structure cu (P:Params) (h:Heap) (T:IB) (n:Nat) (es:Array (Int×Value)) (t:SetTable) (ps:List Tb.Ent) (us:List Int):Prop where
 ti:Tb.TI t es ps
 room:5*n<3*t.mask
 sr:SR P h us (ps.map (·.2))
 nd:(us.map cl).Nodup
 len:us.length=n
 mem: ∀ c,T c=true↔c∈us.map cl
inductive ik (P:Params) (h:Heap) (a:Addr) (T:IB) (n:Nat):Prop
 | mk (o:Obj) (es:Array (Int×Value)) (ep:Nat) (t:SetTable) (ps:List Tb.Ent) (us:List Int) (a1:h.get? a=some o) (a2:o.ExactSet) (a3:o.data= .set es ep t) (a4:cu P h T n es t ps us)
noncomputable def oM (h:Heap):List (Str×V)->List DictEntry->Prop
 | [],es=>es=[]
 | f::fs,es=> ∃ hs t v r,es=⟨hs, .str f.1 t,v⟩::r/\VR h f.2 v/\oM h fs r
noncomputable def nI (h:Heap):List V->List (Option Value)->Prop
 | [],sl=>sl=[]
 | x::xs,sl=> ∃ v r,sl=some v::r/\VR h x v/\nI h xs r
noncomputable abbrev eA (id:String) (self:Addr):Obj:={ cls:= .type "method-wrapper",data:= .fields #[.builtin id, .ref self] }
noncomputable abbrev d7 (l:Addr) (i:Nat):Obj:={ cls:= .type "list_iterator",data:= .fields #[.ref l, .int i 0] }
noncomputable abbrev kG (C dx:Addr) (sl:List (Option Value)):Obj:={ cls:= .ref C,dict:=some dx,data:= .plain,slots:=sl.toArray }
inductive i5 (h:Heap) (cv:Value) (q:Str):Prop
 | mk (c:Addr) (o:Obj) (vs:Array Value) (t:Tok) (a1:cv= .ref c) (a2:h.get? c=some o) (a3:o.cls= .type "code") (a4:o.data= .fields vs) (a5:vs[1]? =some (.str q t))
theorem i5.MH {h:Heap} {cv:Value} {q:Str} (x:i5 h cv q):h.CodeRec cv q:=x.casesOn fun c o vs t a1 a2 z0 a4 a5=>⟨c,o,vs,t,a1,a2,a4,a5⟩
inductive uc (h:Heap) (a:Addr) (xs:List V):Prop
 | mk (vs:List Value) (ep:Nat) (a1:h.get? a=some (cp vs ep)) (a2:bh h xs vs)
inductive RU (h:Heap) (a:Addr) (fs:List (Str×V)):Prop
 | mk (es:List DictEntry) (n:Nat) (a1:h.get? a=some (dictOf es n)) (a2:oM h fs es)
inductive MI (h:Heap) (a:Addr) (c:Value) (as:List V):Prop
 | mk (o:Obj) (vs:Array Value) (v:Value) (a1:h.get? a=some o) (a2:o.cls=c) (a3:ig c=false) (a4:o.data= .fields vs) (a5:vs[0]? =some v) (a6:VR h (.tup as) v)
inductive DH (h:Heap) (b:Addr):Prop
 | mk (o:Obj) (es:Array DictEntry) (ep:Nat) (e:h.get? b=some o) (d:o.data= .dict es ep)
inductive GQ (h:Heap) (a:Addr) (C:Addr) (xs:List V):Prop
 | mk (dx:Addr) (sl:List (Option Value)) (a1:h.get? a=some (kG C dx sl)) (a2:nI h xs sl) (a3:DH h dx)
noncomputable def OH (g:G) (h:Heap) (a:Addr):O->Prop
 | .list xs=>uc h a xs
 | .dict es ep=>cE g.w.params h a es ep
 | .inst C dx=>h.get? a=some (instObj C dx)
 | .ns fs=>RU h a fs
 | .node C xs=>GQ h a C xs
 | .iter l i=>h.get? a=some (d7 l i)
 | .bound id self=>h.get? a=some (eA id self)
 | .set S n=>ik g.w.params h a S n
 | .exc c as=>MI h a c as
 | .tab q=> ∃ ps,h.get? a=some (tabObj ps)/\TriplesOk ps.toList/\ ∀ pos cv,codeAmong pos ps.toList=some cv->i5 h cv q
 | .qh n=> ∃ o es ep t,h.get? a=some o/\o.ExactSet/\o.data= .set es ep t/\t.fits es.size=true/\es.size=n
 | .lam ar body sc cl q=> ∃ cv ct pm,h.get? a=some { cls:= .type "function",data:= .func (kla_fn "<lambda>" q ar body sc cl pm cv ct) }/\i5 h cv q
noncomputable def lu (h h':Heap):Prop:= ∀ b,DH h b->DH h' b
theorem lu.refl (h:Heap):lu h h:=fun z0 e=>e
theorem lu.trans {a b c:Heap} (x:lu a b) (y:lu b c):lu a c:=fun z0 e=>y _ (x _ e)
theorem lu.of {h h':Heap} (k: ∀ b o es ep,h.get? b=some o->o.data= .dict es ep->DH h' b):lu h h':=fun b x=>x.casesOn fun o es ep e d=>k b o es ep e d
theorem lu.ext {h h':Heap} (k: ∀ b o,h.get? b=some o->h'.get? b=some o):lu h h':= .of fun b o es ep e d=>⟨o,es,ep,k b o e,d⟩
theorem oi {α:Type} {x:Option α} {a b:α} (e:x=some a) (e':x=some b):a=b:=Option.some.inj (e.symm.trans e')
theorem on {α:Type} {P:Prop} {x:Option α} {a:α} (e:x=none) (e':x=some a):P:=absurd (e.symm.trans e') nofun
structure dY (h h':Heap):Prop where
 tup: ∀ a o,eW a o->h.get? a=some o->h'.get? a=some o
 dct:lu h h'
structure gr (ζ iK:bW) (h h':Heap):Prop where
 tup: ∀ a o, @eW ζ a o->h.get? a=some o->h'.get? a=some o
 dct:lu h h'
 vl: ∀ a o, @eW ζ a o->h.get? a=some o-> @eW iK a o
theorem dY.z {h h':Heap} (k:dY h h'):gr ζ ζ h h':=⟨k.tup,k.dct,fun z0 z0 i z0=>i⟩
omit ζ in
theorem ER.shift {ζ iK:bW} {P:Params} {h h':Heap} (k:gr ζ iK h h'): ∀ (es:List (Int×V)) (ds:List DictEntry), @ER ζ P h es ds-> @ER iK P h' es ds:=by
 intro L9
 induction L9 with
 | nil=>
  rintro _ e
  exact e
 | cons _ es ih=>
  rintro _ ⟨key,v,r,e,hk,hv,hr⟩
  exact ⟨key,v,r,e,hk.shift k.tup k.vl,hv.shift k.tup k.vl,ih r hr⟩
omit ζ in
theorem SR.shift {ζ iK:bW} {P:Params} {h h':Heap} (k:gr ζ iK h h'): ∀ (us:List Int) (es:List (Int×Value)), @SR ζ P h us es-> @SR iK P h' us es:=by
 intro L9
 induction L9 with
 | nil=>
  rintro _ e
  exact e
 | cons _ us ih=>
  rintro _ ⟨v,r,e,hv,hr⟩
  exact ⟨v,r,e,hv.shift k.tup k.vl,ih r hr⟩
omit ζ in
theorem cu.shift {ζ iK:bW} {P:Params} {h h':Heap} {T:IB} {n:Nat} {es:Array (Int×Value)} {t:SetTable} {ps:List Tb.Ent} {us:List Int} (k:gr ζ iK h h') (x: @cu ζ P h T n es t ps us): @cu iK P h' T n es t ps us:= @cu.mk iK _ _ _ _ _ _ _ _ (@cu.ti ζ _ _ _ _ _ _ _ _ x) (@cu.room ζ _ _ _ _ _ _ _ _ x) (SR.shift k _ _ (@cu.sr ζ _ _ _ _ _ _ _ _ x)) (@cu.nd ζ _ _ _ _ _ _ _ _ x) (@cu.len ζ _ _ _ _ _ _ _ _ x) (@cu.mem ζ _ _ _ _ _ _ _ _ x)
omit ζ in
theorem oM.shift {ζ iK:bW} {h h':Heap} (k:gr ζ iK h h'): ∀ (fs:List (Str×V)) (es:List DictEntry), @oM ζ h fs es-> @oM iK h' fs es:=by
 intro L9
 induction L9 with
 | nil=>
  rintro _ e
  exact e
 | cons _ fs ih=>
  rintro _ ⟨hs,t,v,r,e,hv,hr⟩
  exact ⟨hs,t,v,r,e,hv.shift k.tup k.vl,ih r hr⟩
omit ζ in
theorem nI.shift {ζ iK:bW} {h h':Heap} (k:gr ζ iK h h'): ∀ (xs:List V) (sl:List (Option Value)), @nI ζ h xs sl-> @nI iK h' xs sl:=by
 intro L9
 induction L9 with
 | nil=>
  rintro _ e
  exact e
 | cons _ xs ih=>
  rintro _ ⟨v,r,e,hv,hr⟩
  exact ⟨v,r,e,hv.shift k.tup k.vl,ih r hr⟩
theorem OH.get {g:G} {h:Heap} {a:Addr} {o:O} (x:OH g h a o): ∃ r,h.get? a=some r/\ig r.cls=false:=by
 cases o with
 | list xs=>obtain ⟨vs,ep,e,_⟩:=x;exact ⟨_,e,rfl⟩
 | dict es ep=>obtain ⟨o,ds,e,hc,_⟩:=x;exact ⟨_,e,by rw [hc.1];rfl⟩
 | inst C dx=>exact ⟨_,x,rfl⟩
 | ns fs=>obtain ⟨es,n,e,_⟩:=x;exact ⟨_,e,rfl⟩
 | node C xs=>obtain ⟨dx,sl,e,_⟩:=x;exact ⟨_,e,rfl⟩
 | iter l i=>exact ⟨_,x,rfl⟩
 | bound id self=>exact ⟨_,x,rfl⟩
 | set S n=>obtain ⟨o,es,ep,t,ps,us,e,k,_⟩:=x;exact ⟨_,e,by rw [k.1];rfl⟩
 | exc c as=>obtain ⟨o,vs,v,e,hc,hn,_⟩:=x;exact ⟨_,e,by rw [hc];exact hn⟩
 | tab q=>obtain ⟨ps,e,_⟩:=x;exact ⟨_,e,rfl⟩
 | lam ar body sc cl q=>obtain ⟨cv,ct,pm,e,_⟩:=x;exact ⟨_,e,rfl⟩
 | qh n=>obtain ⟨o,es,ep,t,e,k,_⟩:=x;exact ⟨_,e,by rw [k.1];rfl⟩
omit ζ in
theorem i5.shift {ζ iK:bW} {h h':Heap} {cv:Value} {q:Str} (k:gr ζ iK h h') (x:i5 h cv q):i5 h' cv q:=by
 obtain ⟨c,o,vs,t,e,ho,hc,hd,hv⟩:=x
 exact ⟨c,o,vs,t,e,k.tup c o (@eW.code ζ c o vs hc hd) ho,hc,hd,hv⟩
omit ζ in
theorem OH.shift {ζ iK:bW} {g:G} {h h':Heap} {a:Addr} {o:O} (k:gr ζ iK h h') (e:h'.get? a=h.get? a) (x: @OH ζ g h a o): @OH iK g h' a o:=by
 cases o with
 | list xs=>obtain ⟨vs,ep,e',hr⟩:=x;exact ⟨vs,ep,e.trans e',hr.shift k.tup k.vl⟩
 | dict es ep=>obtain ⟨o,ds,e',h1,h2,h3,h4⟩:=x;exact ⟨o,ds,e.trans e',h1,h2,ER.shift k _ _ h3,h4⟩
 | inst C dx=>exact e.trans x
 | ns fs=>obtain ⟨es,n,e',hr⟩:=x;exact ⟨es,n,e.trans e',oM.shift k _ _ hr⟩
 | node C xs=>obtain ⟨dx,sl,e',hr,d⟩:=x;exact ⟨dx,sl,e.trans e',nI.shift k _ _ hr,k.dct _ d⟩
 | iter l i=>exact e.trans x
 | bound id self=>exact e.trans x
 | set S n=>obtain ⟨o,es,ep,t,ps,us,e',h1,h2,h3⟩:=x;exact ⟨o,es,ep,t,ps,us,e.trans e',h1,h2,h3.shift k⟩
 | exc c as=>obtain ⟨o,vs,v,e',h1,h2,h3,h4,h5⟩:=x;exact ⟨o,vs,v,e.trans e',h1,h2,h3,h4,h5.shift k.tup k.vl⟩
 | tab q=>obtain ⟨ps,e',h1,h2⟩:=x;exact ⟨ps,e.trans e',h1,fun pos cv z=>(h2 pos cv z).shift k⟩
 | lam ar body sc cl q=>obtain ⟨cv,ct,pm,e',h1⟩:=x;exact ⟨cv,ct,pm,e.trans e',h1.shift k⟩
 | qh n=>obtain ⟨o,es,ep,t,e',h1⟩:=x;exact ⟨o,es,ep,t,e.trans e',h1⟩
theorem ER.mono {P:Params} {h h':Heap} (k:dY h h') (es:List (Int×V)) (ds:List DictEntry) (r:ER P h es ds):ER P h' es ds:=ER.shift k.z es ds r
theorem cu.mono {P:Params} {h h':Heap} {T:IB} {n:Nat} {es:Array (Int×Value)} {t:SetTable} {ps:List Tb.Ent} {us:List Int} (k:dY h h') (x:cu P h T n es t ps us):cu P h' T n es t ps us:=cu.shift k.z x
theorem oM.mono {h h':Heap} (k:dY h h') (fs:List (Str×V)) (es:List DictEntry) (r:oM h fs es):oM h' fs es:=oM.shift k.z fs es r
theorem nI.mono {h h':Heap} (k:dY h h') (xs:List V) (sl:List (Option Value)) (r:nI h xs sl):nI h' xs sl:=nI.shift k.z xs sl r
theorem OH.mono {g:G} {h h':Heap} {a:Addr} {o:O} (k:dY h h') (e:h'.get? a=h.get? a) (x:OH g h a o):OH g h' a o:=OH.shift k.z e x
noncomputable def Cf (E:Env) (x:Str):Prop:=E.kindOf x=some .cell\/(E.kindOf x=some .free/\(x == ("__classdict__":Str))=false)
inductive LV (E:Env) (h:Heap) (mr:Str->Option Value) (x:Str) (a:V):Prop
 | loc (v:Value) (r:VR h a v) (k:E.kindOf x=some .local) (e:mr x=some v)
 | gb (v:Value) (r:VR h a v) (k:Cf E x) (c:Addr) (l:E.cells.lookup x=some c) (i:h.IsCell c (some v))
inductive LM (E:Env) (m:Loc) (h:Heap):Prop
 | mk (mr:Str->Option Value) (n:h.Ns E.locals mr) (v: ∀ x a,m x=some a->LV E h mr x a)
structure gI (F:Fm) (m:Loc) (H:AH) (h:Heap):Prop where
 kind:F.env.scope.kind= .function
 val:LM F.env m h
 cell: ∀ x c,F.env.cells.lookup x=some c->H c=none/\ ∃ v,h.IsCell c v
 apart: ∀ x y c,F.env.cells.lookup x=some c->F.env.cells.lookup y=some c->x=y
noncomputable def Own (o:Obj):Prop:=(∃ es ep,o.data= .dict es ep)\/ ∃ v,o.data= .cell v
inductive xG (h:Heap) (b:Addr):Prop
 | mk (o:Obj) (e:h.get? b=some o) (w:Own o)
structure St (g:G) (F:Fm) (m:Loc) (H:AH) (s:Shared):Prop where
 base:g.B.StaysIn s.heap
 obj: ∀ a o,H a=some o->g.B.get? a=none/\OH g s.heap a o
 loc:gI F m H s.heap
 eF:F.env.locals∈F.aS
 aS: ∀ b∈F.aS,H b=none/\g.B.get? b=none/\xG s.heap b
 jJ:s.heap.FunFrames g.B F.stack
 gJ: ∀ b∈F.fr,H b=none/\DH s.heap b
 frame:F.env.frame=F.stack.head?.bind (·.frame)
 lA:F.A.frames=some F.stack
 gens:s.gens= #[]
 os:s.os=g.os
 room:F.A.depth<=310+3*F.lvl/\F.A.units<=100+20*F.lvl/\F.lvl<=100/\F.A.guards=some []
 eG:F.env.globals=mainGlobals/\F.env.builtins=builtinsNs
 dead: ∀ a∈ζ.bad, ∃ o,s.heap.get? a=some o
 tk:1<=s.toks
inductive Kept (l:List Addr) (h':Heap) (b:Addr) (o:Obj):Prop
 | inl (e:h'.get? b=some o)
 | inr (f:b∈l) (sl:Array (Option Value)) (e:h'.get? b=some { o with slots:=sl })
inductive GR (h':Heap) (b:Addr) (o:Obj):Prop
 | inl (e:h'.get? b=some o)
 | inr (sl:Array (Option Value)) (e:h'.get? b=some { o with slots:=sl })
structure aF (F:Fm) (h:Heap) (H:AH) (h':Heap) (H':AH):Prop where
 alive: ∀ b o,h.get? b=some o-> ∃ o',h'.get? b=some o'
 dct:lu h h'
 same: ∀ b o,h.get? b=some o->H b=none->b∉F.aS->H' b=none/\Kept F.fr h' b o
theorem Kept.any {l:List Addr} {h':Heap} {b:Addr} {o:Obj} (x:Kept l h' b o):GR h' b o:=x.casesOn .inl fun z0 sl e=> .inr sl e
theorem Kept.of {l l':List Addr} {h':Heap} {b:Addr} {o:Obj} (k:b∈l->b∈l') (x:Kept l h' b o):Kept l' h' b o:=x.casesOn .inl fun f sl e=> .inr (k f) sl e
theorem Kept.eq {l:List Addr} {h h':Heap} {b:Addr} {o:Obj} (e:h'.get? b=h.get? b) (x:Kept l h b o):Kept l h' b o:=x.casesOn (fun z=> .inl (e.trans z)) fun f sl z=> .inr f sl (e.trans z)
theorem aF.refl (F:Fm) (h:Heap) (H:AH):aF F h H h H:=⟨fun z0 o e=>⟨o,e⟩, .refl h,fun z0 z0 e n z0=>⟨n, .inl e⟩⟩
theorem aF.trans {F:Fm} {h h' vm:Heap} {H H' kl:AH} (x:aF F h H h' H') (y:aF F h' H' vm kl):aF F h H vm kl:=by
 refine ⟨fun b o e=>(x.alive b o e).elim fun z0 e'=>y.alive b _ e',x.dct.trans y.dct,fun b o e n k=> ?_⟩
 obtain ⟨n',c⟩:=x.same b o e n k
 rcases c with e' | ⟨f,sl,e'⟩
 .exact y.same b o e' n' k
 .obtain ⟨DK,c⟩:=y.same b _ e' n' k
  rcases c with i6 | ⟨_,Jp,i6⟩
  .exact ⟨DK, .inr f sl i6⟩
  .exact ⟨DK, .inr f Jp i6⟩
structure GU (h h':Heap) (H':AH) (a:Addr) (vs:Array Value) (T:Addr) (oT:Obj) (ts:Array Value) (x:Value):Prop where
 q1:vs[1]? =some (.ref T)
 q2:T≠a
 q3:h.get? T=none
 q4:H' T=none
 q5:h'.get? T=some oT
 q6:ig oT.cls=false
 q7:oT.data= .fields ts
 q8:ts[3]? =some x
structure GV (h:Heap) (e c:Value) (as:List V) (h':Heap) (H':AH) (a:Addr) (o:Obj) (vs:Array Value) (v:Value) (P:Prop):Prop where
 h1:e= .ref a
 h2:h.get? a=none
 h3:H' a=none
 h4:h'.get? a=some o
 h5:o.cls=c
 h6:ig c=false
 h7:o.data= .fields vs
 h8:vs[0]? =some v/\vs[2]? =some .none
 h9:VR h' (.tup as) v
 vo:P
inductive GW (h h':Heap) (H':AH) (a:Addr) (vs:Array Value):Prop where
 | mk (T:Addr) (oT:Obj) (ts:Array Value) (x:Value) (b:GU h h' H' a vs T oT ts x):GW h h' H' a vs
inductive CE (h:Heap) (e c:Value) (as:List V) (h':Heap) (H':AH):Prop where
 | mk (a:Addr) (o:Obj) (vs:Array Value) (v:Value) (x:GV h e c as h' H' a o vs v (vs[1]? =some .none\/GW h h' H' a vs)):CE h e c as h' H'
section
variable {g:G} {F:Fm} {m:Loc} {H:AH} {s:Shared}
theorem St.gd (S:St g F m H s) {a:Addr} {o:Obj} (i:eW a o) (e:s.heap.get? a=some o):H a=none/\a∉F.aS/\a∉F.fr:=by
 refine ⟨?_,fun k=> ?_,fun k=> ?_⟩
 .cases q:H a with
  | none=>rfl
  | some o'=>
   obtain ⟨r,e',n⟩:=(S.obj a o' q).2.get
   obtain rfl:=oi e e';exact Bool.noConfusion (i.cls.symm.trans n)
 .obtain ⟨_,_,o',e',c⟩:=S.aS a k
  obtain rfl:=oi e e'
  rcases c with ⟨_,_,c⟩ | ⟨_,c⟩
  .exact i.data.1 _ _ c
  .exact i.data.2 _ c
 .obtain ⟨_,o',es,dh,e',c⟩:=S.gJ a k
  obtain rfl:=oi e e';exact i.data.1 _ _ c
theorem aF.mono {h':Heap} {H':AH} (S:St g F m H s) (k:aF F s.heap H h' H'):dY s.heap h':=by
 refine ⟨fun a o i e=> ?_,k.dct⟩
 obtain ⟨n1,n2,n3⟩:=S.gd i e
 rcases (k.same a _ e n1 n2).2 with e' | ⟨f,_⟩
 .exact e'
 .exact absurd f n3
end
structure oN (P:Addr->Prop) (h h':Heap):Prop where
 alive: ∀ b o,h.get? b=some o-> ∃ o',h'.get? b=some o'
 dct:lu h h'
 same: ∀ b o,h.get? b=some o-> ¬ P b->h'.get? b=some o
theorem oN.xH {P:Addr->Prop} {h h':Heap} (k: ∀ b o,h.get? b=some o->h'.get? b=some o):oN P h h':=⟨fun b o e=>⟨o,k b o e⟩, .ext k,fun b o e z0=>k b o e⟩
theorem oN.sameBut {h h':Heap} {a:Addr} {o:Obj} (x:Heap.SameBut a h h') (e:h'.get? a=some o) (hd: ∀ oO es ep,h.get? a=some oO->oO.data= .dict es ep-> ∃ km dh,o.data= .dict km dh):oN (· =a) h h':=by
 refine ⟨fun b o' e'=> ?_, .of fun b o' es ep e' d=> ?_,fun b o' e' n=>(x.2 b n).trans e'⟩
 .by_cases q:b=a
  .subst q;exact ⟨o,e⟩
  .exact ⟨o',(x.2 b q).trans e'⟩
 .by_cases q:b=a
  .subst q;obtain ⟨km,dh,d'⟩:=hd o' es ep e' d;exact ⟨o,km,dh,e,d'⟩
  .exact ⟨o',es,ep,(x.2 b q).trans e',d⟩
section
variable {g:G} {F:Fm} {m:Loc} {H:AH} {s:Shared}
theorem St.lB (S:St g F m H s) {h':Heap} (al: ∀ b o,s.heap.get? b=some o-> ∃ o',h'.get? b=some o'): ∀ a∈ζ.bad, ∃ o,h'.get? a=some o:=fun a ha=>(S.dead a ha).elim fun o e=>al a o e
theorem St.ok (S:St g F m H s) {a:Addr} (n:s.heap.get? a=none):oK a:=fun ha=>(S.dead a ha).elim fun o e=>on n e
theorem St.wZ (S:St g F m H s) {a:Addr} (n:s.heap.objs.size<=a):oK a:=S.ok (Heap.get?_none_of_le n)
theorem St.RV (S:St g F m H s) {h':Heap} {a:Addr} (kp: ∀ b o,s.heap.get? b=some o->h'.get? b=some o) (n:h'.objs.size<=a):oK a:=fun ha=>(S.dead a ha).elim fun o e=>on (Heap.get?_none_of_le n) (kp a o e)
theorem ud {h h':Heap} {a:Addr} {mr:Str->Option Value} (x:h.Ns a mr) (e: ∀ o,h.get? a=some o->GR h' a o):h'.Ns a mr:=by
 obtain ⟨o,es,ep,ho,hd,r⟩:=x
 rcases e o ho with e' | ⟨sl,e'⟩
 .exact ⟨o,es,ep,e',hd,r⟩
 .exact ⟨_,es,ep,e',hd,r⟩
theorem nJ {h h':Heap} {c:Addr} {v:Option Value} (x:h.IsCell c v) (e: ∀ o,h.get? c=some o->GR h' c o):h'.IsCell c v:=by
 obtain ⟨o,ho,hd⟩:=x
 rcases e o ho with e' | ⟨sl,e'⟩
 .exact ⟨o,e',hd⟩
 .exact ⟨_,e',hd⟩
omit ζ in
theorem gI.shift {ζ iK:bW} {h h':Heap} {H':AH} (x: @gI ζ F m H h) (k:gr ζ iK h h') (hc: ∀ y c,F.env.cells.lookup y=some c->H' c=none)
  (e: ∀ b,(b=F.env.locals\/ ∃ y,F.env.cells.lookup y=some b)-> ∀ o,h.get? b=some o->GR h' b o): @gI iK F m H' h':=by
 obtain ⟨kd,⟨mr,hn,hv⟩,cl,ap⟩:=x
 refine ⟨kd,⟨mr,ud hn (e _ (.inl rfl)),fun y a ha=> ?_⟩,fun y c hy=>⟨hc y c hy,((cl y c hy).2).elim fun v q=>⟨v,nJ q (e c (.inr ⟨y,hy⟩))⟩⟩,ap⟩
 cases hv y a ha with
 | loc v r k' e'=>exact .loc v (r.shift k.tup k.vl) k' e'
 | gb v r q c h1 h2=>exact .gb v (r.shift k.tup k.vl) q c h1 (nJ h2 (e c (.inr ⟨y,h1⟩)))
theorem gI.mono {h h':Heap} {H':AH} (x:gI F m H h) (k:dY h h') (hc: ∀ y c,F.env.cells.lookup y=some c->H' c=none)
  (e: ∀ b,(b=F.env.locals\/ ∃ y,F.env.cells.lookup y=some b)-> ∀ o,h.get? b=some o->GR h' b o):gI F m H' h':=gI.shift x k.z hc e
theorem bc {h h' B:Heap}: ∀ {l:List Env},h.FunFrames B l->(∀ b∈l.filterMap (·.frame), ∀ o,h.get? b=some o-> ∃ o',h'.get? b=some o'/\((∀ vs,o.data≠ .fields vs)-> ∀ vs,o'.data≠ .fields vs))->h'.FunFrames B l:=by
 intro L9
 induction L9 with
 | nil=>
  rintro _ _
  exact trivial
 | cons env rest ih=>
  rintro ⟨hk,⟨L,o,hf,hn,ho,hd⟩,hr⟩ k
  obtain ⟨o',e',d'⟩:=k L (by rw [List.filterMap_cons,hf];exact List.mem_cons_self) o ho
  refine ⟨hk,⟨L,o',hf,hn,e',d' hd⟩,ih hr fun b hb=>k b ?_⟩
  rw [List.filterMap_cons,hf];exact List.mem_cons_of_mem _ hb
theorem St.gu (S:St g F m H s): ∀ b,(b=F.env.locals\/ ∃ y,F.env.cells.lookup y=some b)->H b=none/\xG s.heap b:=by
 rintro b (rfl | ⟨y,hy⟩)
 .obtain ⟨a,_,c⟩:=S.aS _ S.eF;exact ⟨a,c⟩
 .obtain ⟨a,v,o,e,d⟩:=S.loc.cell y b hy;exact ⟨a,o,e, .inr ⟨v,d⟩⟩
omit ζ in
theorem St.shift {bC aW:bW} {h':Heap} {t:Nat} (S: @St bC g F m H s) (C: ∀ b o,s.heap.get? b=some o->h'.get? b=some o) (k: ∀ a o, @eW bC a o->s.heap.get? a=some o-> @eW aW a o) (al: ∀ a∈aW.bad, ∃ o,h'.get? a=some o):
  1<=t-> @St aW g F m H { s with heap:=h',toks:=t }:=by
 have mn:gr bC aW s.heap h':=⟨fun a o z0 e=>C a o e, .ext C,k⟩
 have L:= @St.loc bC _ _ _ _ _ S
 refine fun ht=> @St.mk aW g F m H { s with heap:=h',toks:=t } (fun b o e=>C b o (@St.base bC _ _ _ _ _ S b o e)) (fun b o e=> ?_) ?_ (@St.eF bC _ _ _ _ _ S) (fun b hb=> ?_) ?_ (fun b hb=> ?_) (@St.frame bC _ _ _ _ _ S) (@St.lA bC _ _ _ _ _ S) (show s.gens= #[] from @St.gens bC _ _ _ _ _ S) (show s.os=g.os from @St.os bC _ _ _ _ _ S) (@St.room bC _ _ _ _ _ S) (@St.eG bC _ _ _ _ _ S) al ht
 .obtain ⟨b1,b2⟩:= @St.obj bC _ _ _ _ _ S b o e
  obtain ⟨r,e',_⟩:= @OH.get bC _ _ _ _ b2
  exact ⟨b1,OH.shift mn ((C b r e').trans e'.symm) b2⟩
 .refine gI.shift L mn (fun y c hy=> ?_) fun b hb o e=> .inl (C b o e)
  exact (@gI.cell bC _ _ _ _ L y c hy).1
 .obtain ⟨n,n',o,e,w⟩:= @St.aS bC _ _ _ _ _ S b hb
  exact ⟨n,n',o,C b o e,w⟩
 .exact bc (@St.jJ bC _ _ _ _ _ S) fun b hb o e=>⟨o,C b o e,id⟩
 .obtain ⟨n,o,es,ep,e,d⟩:= @St.gJ bC _ _ _ _ _ S b hb
  exact ⟨n,o,es,ep,C b o e,d⟩
theorem St.chg {P:Addr->Prop} {h':Heap} {H':AH} {t:Nat} (S:St g F m H s) (C:oN P s.heap h') (hP: ∀ b,P b->(s.heap.get? b).isSome=true->(H b).isSome=true)
  (hH: ∀ b,(H b).isSome=true\/s.heap.get? b=none\/H' b=none)
  (hn: ∀ b o,H' b=some o->(H b=some o/\ ¬ P b)\/((s.heap.get? b=none\/(H b).isSome=true)/\OH g h' b o)):(1<=t->St g F m H' { s with heap:=h',toks:=t })/\aF F s.heap H h' H':=by
 have free: ∀ b,H b=none->(s.heap.get? b).isSome=true-> ¬ P b:=fun b e i p=>by have:=hP b p i;rw [e] at this;cases this
 have keep: ∀ b o,s.heap.get? b=some o->H b=none->h'.get? b=some o:=fun b o e n=>C.same b o e (free b n (by rw [e];rfl))
 have eS: ∀ b o,s.heap.get? b=some o->H b=none->H' b=none:=fun b o e n=>by
  rcases hH b with q | q | q
  .rw [n] at q;cases q
  .exact nomatch (e.symm.trans q)
  .exact q
 have mn:dY s.heap h':=⟨fun a o i e=>keep a _ e (S.gd i e).1,C.dct⟩
 have base:g.B.StaysIn h':=fun b o e=>by
  refine keep b o (S.base b o e) ?_
  cases q:H b with
  | none=>rfl
  | some o'=>have:=(S.obj b o' q).1;exact nomatch (e.symm.trans this)
 refine ⟨fun ht=>⟨base,fun b o e=> ?_, ?_,S.eF,fun b hb=> ?_, ?_,fun b hb=> ?_,S.frame,S.lA,S.gens,S.os,S.room,S.eG,S.lB C.alive,ht⟩,C.alive,C.dct,fun b o e n z0=>⟨eS b o e n, .inl (keep b o e n)⟩⟩
 .rcases hn b o e with ⟨q,n⟩ | ⟨q,w⟩
  .obtain ⟨b1,b2⟩:=S.obj b o q
   obtain ⟨r,e',_⟩:=b2.get
   exact ⟨b1,b2.mono mn ((C.same b r e' n).trans e'.symm)⟩
  .refine ⟨?_,w⟩
   rcases q with q | q
   .cases z:g.B.get? b with
    | none=>rfl
    | some o'=>have:=S.base b o' z;exact on q this
   .obtain ⟨o',q⟩:=Option.isSome_iff_exists.mp q
    exact (S.obj b o' q).1
 .refine S.loc.mono mn (fun y c hy=> ?_) fun b hb o e=> .inl (keep b o e (S.gu b hb).1)
  obtain ⟨n,o,e,_⟩:=S.gu c (.inr ⟨y,hy⟩)
  exact eS c o e n
 .obtain ⟨n,n',o,e,w⟩:=S.aS b hb
  exact ⟨eS b o e n,n',o,keep b o e n,w⟩
 .refine bc S.jJ fun b hb o e=>⟨o,keep b o e (S.gJ b hb).1,id⟩
 .obtain ⟨n,o,es,ep,e,d⟩:=S.gJ b hb
  exact ⟨eS b o e n,o,es,ep,keep b o e n,d⟩
theorem St.ext {h':Heap} {t:Nat} (S:St g F m H s) (C: ∀ b o,s.heap.get? b=some o->h'.get? b=some o):(1<=t->St g F m H { s with heap:=h',toks:=t })/\aF F s.heap H h' H:=
 S.chg (P:=fun z0=>False) (.xH C) (fun z0 p=>p.elim) (fun b=>by cases H b <;> simp) (fun b o e=> .inl ⟨e,id⟩)
theorem St.alive (S:St g F m H s) {a:Addr} {o:O} (e:H a=some o): ∃ r,s.heap.get? a=some r:=((S.obj a o e).2.get).elim fun r cy=>cy.elim fun q z0=>⟨r,q⟩
theorem St.bZ (S:St g F m H s) {a:Addr} (e:s.heap.get? a=none):H a=none:=by
 cases q:H a with
 | none=>rfl
 | some o=>obtain ⟨r,z⟩:=S.alive q;exact on e z
theorem St.set {a:Addr} {o o':O} {h':Heap} {t:Nat} (S:St g F m H s) (C:oN (· =a) s.heap h') (ha:H a=some o) (hn:OH g h' a o'):
  (1<=t->St g F m (put H a o') { s with heap:=h',toks:=t })/\aF F s.heap H h' (put H a o'):=by
 refine S.chg C (fun b e z0=>by subst e;rw [ha];rfl) (fun b=> ?_) (fun b p e=> ?_)
 .by_cases q:b=a
  .subst q;exact .inl (by rw [ha];rfl)
  .rw [cU _ _ q];cases H b <;> simp
 .by_cases q:b=a
  .subst q;rw [ag] at e;cases e;exact .inr ⟨.inr (by rw [ha];rfl),hn⟩
  .rw [cU _ _ q] at e;exact .inl ⟨e,q⟩
theorem St.new {a:Addr} {o':O} {h':Heap} {t:Nat} (S:St g F m H s) (C: ∀ b o,s.heap.get? b=some o->h'.get? b=some o) (ha:s.heap.get? a=none) (hn:OH g h' a o'):
  (1<=t->St g F m (put H a o') { s with heap:=h',toks:=t })/\aF F s.heap H h' (put H a o'):=by
 refine S.chg (P:=fun z0=>False) (.xH C) (fun z0 p=>p.elim) (fun b=> ?_) (fun b p e=> ?_)
 .by_cases q:b=a
  .subst q;exact .inr (.inl ha)
  .rw [cU _ _ q];cases H b <;> simp
 .by_cases q:b=a
  .subst q;rw [ag] at e;cases e;exact .inr ⟨.inl ha,hn⟩
  .rw [cU _ _ q] at e;exact .inl ⟨e,id⟩
theorem St.CF {a:Addr} {o':O} {h₀:Heap} {H₀:AH} (S:St g F m H s) (K:aF F h₀ H₀ s.heap H) (h0:h₀.get? a=none) (hB:g.B.get? a=none) (hH:H a=none) (hm:a∉F.aS) (hf:a∉F.fr)
  (hc: ∀ y,F.env.cells.lookup y≠some a) (hn:OH g s.heap a o'):St g F m (put H a o') s/\aF F h₀ H₀ s.heap (put H a o'):=by
 have no: ∀ b,b≠a->put H a o' b=H b:=fun b q=>cU _ _ q
 refine ⟨⟨S.base,fun b o e=> ?_,⟨S.loc.kind,S.loc.val,fun y c hy=> ?_,S.loc.apart⟩,S.eF,fun b hb=> ?_,S.jJ,fun b hb=> ?_,S.frame,S.lA,S.gens,S.os,S.room,S.eG,S.dead,S.tk⟩,K.alive,K.dct,fun b o e n hb=> ?_⟩
 .by_cases q:b=a
  .subst q;rw [ag] at e;cases e;exact ⟨hB,hn⟩
  .rw [no b q] at e;exact S.obj b o e
 .exact (no c fun q=>hc y (q▸hy))▸S.loc.cell y c hy
 .exact (no b fun q=>hm (q▸hb))▸S.aS b hb
 .exact (no b fun q=>hf (q▸hb))▸S.gJ b hb
 .rw [no b fun q=>by subst q;exact on h0 e];exact K.same b o e n hb
end
section
variable {g:G} {F:Fm} {m m':Loc} {H:AH} {s:Shared}
theorem aF.stay {a:Addr} {o:Obj} {h':Heap} {H':AH} (S:St g F m H s) (K:aF F s.heap H h' H') (e:s.heap.get? a=some o) (n:H a=none) (nm:a∉F.aS) (nd: ∀ es ep,o.data≠ .dict es ep):H' a=none/\h'.get? a=some o:=
 (K.same a o e n nm).imp id fun z=>z.casesOn id fun f z0 z0=>(S.gJ a f).2.casesOn fun o' es ep e' d=>absurd (oi e' e▸d) (nd es ep)
theorem St.own {b:Addr} {h':Heap} {t:Nat} (S:St g F m H s) (hb:b∈F.aS) (C:oN (· =b) s.heap h') (ho:xG h' b)
  (hd: ∀ o es ep,s.heap.get? b=some o->o.data= .dict es ep->DH h' b) (hl:gI F m' H h'):
  (1<=t->St g F m' H { s with heap:=h',toks:=t })/\aF F s.heap H h' H:=by
 obtain ⟨nb,nB,ob,eb,wb⟩:=S.aS b hb
 have keep: ∀ c o,s.heap.get? c=some o->c≠b->h'.get? c=some o:=fun c o e n=>C.same c o e n
 have MJ: ∀ a o,eW a o->s.heap.get? a=some o->a≠b:=fun a o i e q=>by subst q;exact (S.gd i e).2.1 hb
 have mn:dY s.heap h':=⟨fun a o i e=>keep a _ e (MJ a o i e),C.dct⟩
 refine ⟨fun ht=>⟨fun c o e=>keep c o (S.base c o e) (fun q=>by subst q;exact on nB e),fun c o e=> ?_,hl,S.eF,fun c hc=> ?_, ?_,fun c hc=> ?_,S.frame,S.lA,S.gens,S.os,S.room,S.eG,S.lB C.alive,ht⟩,C.alive,C.dct,fun c o e n hc=>⟨n, .inl (keep c o e fun q=>hc (q▸hb))⟩⟩
 .obtain ⟨b1,b2⟩:=S.obj c o e
  obtain ⟨r,e',_⟩:=b2.get
  exact ⟨b1,b2.mono mn ((keep c r e' fun q=>by subst q;exact on nb e).trans e'.symm)⟩
 .by_cases q:c=b
  .subst q;exact ⟨nb,nB,ho⟩
  .obtain ⟨h1,h2,o,h3,h4⟩:=S.aS c hc
   exact ⟨h1,h2,o,keep c o h3 q,h4⟩
 .refine bc S.jJ fun c hc o e=> ?_
  by_cases q:c=b
  .subst q
   obtain ⟨o',e',w⟩:=ho
   refine ⟨o',e',fun z0 vs z=> ?_⟩
   rcases w with ⟨es,ep,w⟩ | ⟨v,w⟩ <;> rw [w] at z <;> cases z
  .exact ⟨o,keep c o e q,id⟩
 .obtain ⟨h1,o,es,ep,h3,h4⟩:=S.gJ c hc
  by_cases q:c=b
  .subst q;exact ⟨h1,hd o es ep h3 h4⟩
  .exact ⟨h1,o,es,ep,keep c o h3 q,h4⟩
end
structure RW {α β:Type} (g:G) (F:Fm) (R:Heap->β->α->Prop) (Q:β->Loc->AH->Prop) (h:Heap) (H:AH) (a:α) (s':Shared) (b:β) (m':Loc) (H':AH):Prop where
 r:R s'.heap b a
 st:1<=s'.toks->St g F m' H' s'
 kp:aF F h H s'.heap H'
 q:Q b m' H'
structure RX (g:G) (F:Fm) (X:PX) (h:Heap) (H:AH) (e:Value) (s':Shared) (c:Value) (as:List V) (m':Loc) (H':AH):Prop where
 r:CE h e c as s'.heap H'
 st:St g F m' H' s'
 kp:aF F h H s'.heap H'
 q:X c as m' H'
inductive bG {α β:Type} (g:G) (F:Fm) (R:Heap->β->α->Prop) (Q:β->Loc->AH->Prop) (h:Heap) (H:AH) (a:α) (s':Shared):Prop where
 | mk (b:β) (m':Loc) (H':AH) (x:RW g F R Q h H a s' b m' H'):bG g F R Q h H a s'
inductive dA (g:G) (F:Fm) (X:PX) (h:Heap) (H:AH) (e:Value) (s':Shared):Prop where
 | mk (c:Value) (as:List V) (m':Loc) (H':AH) (x:RX g F X h H e s' c as m' H'):dA g F X h H e s'
theorem bG.elim {α β:Type} {g:G} {F:Fm} {R:Heap->β->α->Prop} {Q:β->Loc->AH->Prop} {h:Heap} {H:AH} {a:α} {s':Shared} {P:Prop} (x:bG g F R Q h H a s')
  (k: ∀ b m' H',R s'.heap b a->(1<=s'.toks->St g F m' H' s')->aF F h H s'.heap H'->Q b m' H'->P):P:=by
 obtain ⟨b,m',H',r,st,kp,q⟩:=x
 exact k b m' H' r st kp q
theorem dA.elim {g:G} {F:Fm} {X:PX} {h:Heap} {H:AH} {e:Value} {s':Shared} {P:Prop} (x:dA g F X h H e s')
  (k: ∀ c as m' H',CE h e c as s'.heap H'->St g F m' H' s'->aF F h H s'.heap H'->X c as m' H'->P):P:=by
 obtain ⟨c,as,m',H',r,st,kp,q⟩:=x
 exact k c as m' H' r st kp q
theorem dA.no {g:G} {F:Fm} {h:Heap} {H:AH} {e:Value} {s':Shared} {P:Prop} (x:dA g F (fun z0 z0 z0 z0=>False) h H e s'):P:=x.elim fun z0 z0 z0 z0 z0 z0 z0 z=>z.elim
noncomputable def Wt {α β:Type} (g:G) (F:Fm) (R:Heap->β->α->Prop) (t:Sem α) (m:Loc) (H:AH) (Q:β->Loc->AH->Prop) (X:PX):Prop:=
 ∀ s,St g F m H s->wpAny (model g.prog g.w) F.A t (bG g F R Q s.heap H) (dA g F X s.heap H) s
noncomputable abbrev nK {α:Type}:Heap->α->α->Prop:=fun z0 b a=>b=a
noncomputable abbrev WE (g:G) (F:Fm) (t:Sem Value) (m:Loc) (H:AH) (Q:PV) (X:PX):Prop:=Wt g F VR t m H Q X
inductive Fl where
 | next | brk | cont
 | ret (v:V)
noncomputable abbrev eI:=Fl->Loc->AH->Prop
noncomputable def FR (h:Heap):Fl->Flow->Prop
 | .next,f=>f= .next
 | .brk,f=>f= .brk
 | .cont,f=>f= .cont
 | .ret x,f=> ∃ v,f= .ret v/\VR h x v
noncomputable abbrev WS (g:G) (F:Fm) (t:Sem Flow) (m:Loc) (H:AH) (Q:eI) (X:PX):Prop:=Wt g F FR t m H Q X
noncomputable abbrev WB (g:G) (F:Fm) (t:Sem Bool) (m:Loc) (H:AH) (Q:PB) (X:PX):Prop:=Wt g F nK t m H Q X
noncomputable abbrev WL (g:G) (F:Fm) (t:Sem (List Value)) (m:Loc) (H:AH) (Q:lj) (X:PX):Prop:=Wt g F bh t m H Q X
noncomputable def W1 {α β:Type} (g:G) (F:Fm) (R:Heap->β->α->Prop) (x:V) (t:Value->Sem α) (m:Loc) (H:AH) (Q:β->Loc->AH->Prop) (X:PX):Prop:=
 ∀ s v,St g F m H s->VR s.heap x v->wpAny (model g.prog g.w) F.A (t v) (bG g F R Q s.heap H) (dA g F X s.heap H) s
noncomputable def W2 {α β:Type} (g:G) (F:Fm) (R:Heap->β->α->Prop) (x y:V) (t:Value->Value->Sem α) (m:Loc) (H:AH) (Q:β->Loc->AH->Prop) (X:PX):Prop:=
 ∀ s v u,St g F m H s->VR s.heap x v->VR s.heap y u->wpAny (model g.prog g.w) F.A (t v u) (bG g F R Q s.heap H) (dA g F X s.heap H) s
noncomputable def W3 {α β:Type} (g:G) (F:Fm) (R:Heap->β->α->Prop) (x y z:V) (t:Value->Value->Value->Sem α) (m:Loc) (H:AH) (Q:β->Loc->AH->Prop) (X:PX):Prop:=
 ∀ s v u w,St g F m H s->VR s.heap x v->VR s.heap y u->VR s.heap z w->wpAny (model g.prog g.w) F.A (t v u w) (bG g F R Q s.heap H) (dA g F X s.heap H) s
noncomputable def WN {α β:Type} (g:G) (F:Fm) (R:Heap->β->α->Prop) (xs:List V) (t:List Value->Sem α) (m:Loc) (H:AH) (Q:β->Loc->AH->Prop) (X:PX):Prop:=
 ∀ s vs,St g F m H s->bh s.heap xs vs->wpAny (model g.prog g.w) F.A (t vs) (bG g F R Q s.heap H) (dA g F X s.heap H) s
noncomputable abbrev k1 {α β:Type} (g:G) (F:Fm) (R:Heap->β->α->Prop) (t:Value->Sem α) (Q:β->Loc->AH->Prop) (X:PX):V->Loc->AH->Prop:=fun a m H=>W1 g F R a t m H Q X
noncomputable abbrev k2 {α β:Type} (g:G) (F:Fm) (R:Heap->β->α->Prop) (t:Value->Value->Sem α) (a:V) (Q:β->Loc->AH->Prop) (X:PX):V->Loc->AH->Prop:=fun b m H=>W2 g F R a b t m H Q X
noncomputable abbrev kR (g:G) (F:Fm) (r:Expr) (t:Value->Value->Sem Value) (Q:PV) (X:PX):V->Loc->AH->Prop:=fun a m H=>WE g F (eval r F.env) m H (k2 g F VR t a Q X) X
noncomputable abbrev kC (Q:lj) (a:V):List V->Loc->AH->Prop:=fun as m H=>Q (a::as) m H
noncomputable abbrev kL (g:G) (F:Fm) (pos:Pos) (rest:List Expr) (Q:lj) (X:PX):V->Loc->AH->Prop:=fun a m H=>WL g F (spliced (backTo pos (starEach rest F.env))) m H (kC Q a) X
noncomputable abbrev MK (Q:PV):List V->Loc->AH->Prop:=fun as m H=>as.length<=sizeLine/\Q (.tup as) m H
noncomputable abbrev GX (Q:PV):List V->Loc->AH->Prop:=fun as m H=>as.length<=sizeLine/\ ∀ a,H a=none->Q (.ref a) m (put H a (.list as))
noncomputable abbrev ML (Q:PB):Bool->Loc->AH->Prop:=fun b m H=>Q (!b) m H
noncomputable abbrev xI (g:G) (F:Fm) (rest:List Stmt) (Q:eI) (X:PX):Fl->Loc->AH->Prop:=fun f m H=>match f with | .next=>WS g F (execs rest F.env) m H Q X | f=>Q f m H
noncomputable abbrev MM (Q:eI):V->Loc->AH->Prop:=fun a m H=>Q (.ret a) m H
noncomputable abbrev RY (Q:eI) (x:Str):V->Loc->AH->Prop:=fun a m H=>Q .next (bw m x a) H
noncomputable abbrev kW (Q:PV) (x:Str):V->Loc->AH->Prop:=fun a m H=>Q a (bw m x a) H
noncomputable abbrev kN (Q:eI):Loc->AH->Prop:=fun m H=>Q .next m H
noncomputable abbrev kX (Q:eI):V->Loc->AH->Prop:=fun z0 m H=>Q .next m H
noncomputable abbrev xJ (g:G) (F:Fm) (body:List Stmt) (Q:eI) (X:PX):Loc->AH->Prop:=fun m H=>WS g F (execs body F.env) m H Q X
noncomputable abbrev xK (J:Nat->Loc->AH->Prop) (Q:eI) (i:Nat):Fl->Loc->AH->Prop:=fun f m H=>match f with | .next=>J (i+1) m H | .cont=>J (i+1) m H | .brk=>Q .next m H | .ret v=>Q (.ret v) m H
noncomputable abbrev xM (Q:PV) (v:Fl->V) (m:Loc):Fl->Loc->AH->Prop:=fun fl z0 H'=>Q (v fl) m H'
noncomputable abbrev vp (X:PX) (m:Loc):Value->List V->Loc->AH->Prop:=fun c as z0 H'=>X c as m H'
noncomputable abbrev GY (Q:lj) (ys:List V):V->Loc->AH->Prop:=fun a m H=>Q (ys++[a]) m H
section
variable {α β γ δ:Type} {g:G} {F:Fm} {m m':Loc} {H H':AH} {s s':Shared} {R:Heap->β->α->Prop} {R':Heap->δ->γ->Prop} {X:PX}
theorem bG.after {Q:β->Loc->AH->Prop} {h h₁:Heap} {H aL:AH} {a:α} (k:aF F h H h₁ aL) (x:bG g F R Q h₁ aL a s'):bG g F R Q h H a s':=
 let ⟨b,m',H',r,st,k',q⟩:=x;⟨b,m',H',r,st,k.trans k',q⟩
theorem CE.since {h h₁ h':Heap} {H':AH} {e c:Value} {as:List V} (al: ∀ b o,h.get? b=some o-> ∃ o',h₁.get? b=some o') (x:CE h₁ e c as h' H'):CE h e c as h' H':=by
 have no: ∀ b,h₁.get? b=none->h.get? b=none:=fun b e=>by
  cases q:h.get? b with
  | none=>rfl
  | some o=>obtain ⟨o',z⟩:=al b o q;exact on e z
 obtain ⟨a,o,vs,v,h1,h2,h3,h4,h5,h6,h7,h8,h9,vo⟩:=x
 refine ⟨a,o,vs,v,h1,no a h2,h3,h4,h5,h6,h7,h8,h9, ?_⟩
 rcases vo with q | ⟨T,oT,ts,x,b⟩
 .exact .inl q
 .exact .inr ⟨T,oT,ts,x,b.q1,b.q2,no T b.q3,b.q4,b.q5,b.q6,b.q7,b.q8⟩
theorem dA.after {h h₁:Heap} {H aL:AH} {e:Value} (k:aF F h H h₁ aL) (x:dA g F X h₁ aL e s'):dA g F X h H e s':=
 let ⟨c,as,m',H',r,st,k',q⟩:=x;⟨c,as,m',H',r.since k.alive,st,k.trans k',q⟩
theorem VR.keep {x:V} {v:Value} (S:St g F m H s) (k:aF F s.heap H s'.heap H') (r:VR s.heap x v):VR s'.heap x v:=r.mono (k.mono S).tup
theorem bh.keep {x:List V} {v:List Value} (S:St g F m H s) (k:aF F s.heap H s'.heap H') (r:bh s.heap x v):bh s'.heap x v:=r.mono (k.mono S).tup
theorem aU {A:Around} {t:Sem α} {Q:β->Loc->AH->Prop} {h₀:Heap} {H₀:AH} {Q':α->Shared->Prop} {E' PN:PE} (ht:1<=s.toks) (h:wpAny (model g.prog g.w) A t (bG g F R Q h₀ H₀) PN s)
  (hq: ∀ a s' b m' H',R s'.heap b a->St g F m' H' s'->aF F h₀ H₀ s'.heap H'->Q b m' H'->Q' a s') (he: ∀ e s',PN e s'->E' e s'):wpAny (model g.prog g.w) A t Q' E' s:=
 wpAny_mono (wpAny_toks ht h) (fun a s' yy=>yy.2.elim fun b m' H' r st k q=>hq a s' b m' H' r (st yy.1) k q) fun e s' yy=>he e s' yy.2
theorem Wt.run {t:Sem α} {Q:β->Loc->AH->Prop} {Q':α->Shared->Prop} {E':PE} (h:Wt g F R t m H Q X) (S:St g F m H s)
  (hq: ∀ a s' b m' H',R s'.heap b a->St g F m' H' s'->aF F s.heap H s'.heap H'->Q b m' H'->Q' a s') (he: ∀ e s',dA g F X s.heap H e s'->E' e s'):
  wpAny (model g.prog g.w) F.A t Q' E' s:=
 aU S.tk (h s S) hq he
theorem Wt.mono {t:Sem α} {Q Q':β->Loc->AH->Prop} {X':PX} (h:Wt g F R t m H Q X) (hq: ∀ b m' H',Q b m' H'->Q' b m' H') (hx: ∀ c as m' H',X c as m' H'->X' c as m' H'):Wt g F R t m H Q' X':=
 fun s S=>wpAny_mono (h s S) (fun z0 z0 yy=>yy.elim fun b m' H' r st k q=>⟨b,m',H',r,st,k,hq _ _ _ q⟩) fun z0 z0 yy=>yy.elim fun c as m' H' r st k q=>⟨c,as,m',H',r,st,k,hx _ _ _ _ q⟩
theorem Wt.post {t:Sem α} {Q Q':β->Loc->AH->Prop} (h:Wt g F R t m H Q X) (hq: ∀ b m' H',Q b m' H'->Q' b m' H'):Wt g F R t m H Q' X:=h.mono hq fun z0 z0 z0 z0 x=>x
end
section
variable {h:Heap}
theorem VR.eS:VR h .none .none:=by rfl
theorem VR.dm (b:Bool):VR h (.bool b) (.bool b):=by rfl
theorem VR.fF (n:Int) (t:Tok):VR h (.int n) (.int n t):=by exact ⟨t,rfl⟩
theorem VR.DL (x:Str) (t:Tok):VR h (.str x) (.str x t):=by exact ⟨t,rfl⟩
theorem VR.ip (a:Addr):VR h (.ref a) (.ref a):=by rfl
theorem VR.dT (v:Value):VR h (.cst v) v:=by rfl
theorem VR.rZ {xs:List V} {a:Addr} {vs:List Value} {ep:Nat} (z:oK a) (e:h.get? a=some (dD vs ep)) (r:bh h xs vs):VR h (.tup xs) (.ref a):=by exact ⟨a,vs,ep,rfl,e,r,z⟩
theorem VR.bJ {v:Value}:VR h .none v↔v= .none:=by exact Iff.rfl
theorem VR.cz {v:Value} {b:Bool}:VR h (.bool b) v↔v= .bool b:=by exact Iff.rfl
theorem VR.aZ {v:Value} {n:Int}:VR h (.int n) v↔ ∃ t,v= .int n t:=by exact Iff.rfl
theorem VR.da {v:Value} {x:Str}:VR h (.str x) v↔ ∃ t,v= .str x t:=by exact Iff.rfl
theorem VR.ay {v:Value} {a:Addr}:VR h (.ref a) v↔v= .ref a:=by exact Iff.rfl
theorem VR.i7 {v w:Value}:VR h (.cst w) v↔v=w:=by exact Iff.rfl
theorem VR.dE {v:Value} {n:Int}:VR h (.cD n) v↔ ∃ t,v= .int n (t+1):=by exact Iff.rfl
theorem VR.dF {v:Value} {x:Str}:VR h (.cS x) v↔ ∃ t,v= .str x (t+1):=by exact Iff.rfl
theorem VR.g4 {v:Value} {xs:List V}:VR h (.tup xs) v↔ ∃ a vs ep,v= .ref a/\h.get? a=some (dD vs ep)/\bh h xs vs/\oK a:=by exact Iff.rfl
theorem VR.cM {v:Value} {xs:List V} (r:VR h (.tup xs) v): ∃ a vs ep,v= .ref a/\h.get? a=some (dD vs ep)/\bh h xs vs:=(VR.g4.mp r).elim fun a cy=>cy.elim fun vs eX=>eX.elim fun ep iL=>iL.elim fun e mR=>mR.elim fun f vq=>vq.elim fun r z0=>⟨a,vs,ep,e,f,r⟩
end
section
variable {g:G} {F:Fm} {m:Loc} {H:AH} {Q:PV} {X:PX}
theorem bG.now {α β:Type} {R:Heap->β->α->Prop} {Q:β->Loc->AH->Prop} {s s':Shared} {a:α} {b:β} (S:St g F m H s) (hh:s'.heap=s.heap) (hg:s'.gens=s.gens) (ho:s'.os=s.os) (r:R s.heap b a) (q:Q b m H):bG g F R Q s.heap H a s':=by
 refine ⟨b,m,H,(hh▸r), ?_,(hh▸ .refl ..),q⟩
 obtain ⟨h,gs,d,t,o⟩:=s'
 cases hh;cases hg;cases ho
 exact fun ht=>⟨S.base,S.obj,S.loc,S.eF,S.aS,S.jJ,S.gJ,S.frame,S.lA,S.gens,S.os,S.room,S.eG,S.dead,ht⟩
theorem bj {k:Nat} {pos:Pos} (h:Q .none m H):WE g F (eval (.Constant .none k pos) F.env) m H Q X:=fun z0 S=>wpAny_pure (bG.now S rfl rfl rfl .eS h)
theorem oP {b:Bool} {k:Nat} {pos:Pos} (h:Q (.bool b) m H):WE g F (eval (.Constant (.bool b) k pos) F.env) m H Q X:=fun z0 S=>wpAny_pure (bG.now S rfl rfl rfl (.dm b) h)
theorem VR.CG {h:Heap} {n:Int} {t:Nat} (ht:1<=t):VR h (.cD n) (.int n t):=by exact ⟨t-1,by rw [Nat.sub_add_cancel ht]⟩
theorem VR.GZ {h:Heap} {x:Str} {t:Nat} (ht:1<=t):VR h (.cS x) (.str x t):=by exact ⟨t-1,((Nat.sub_add_cancel ht)▸rfl)⟩
theorem xN {i:Int} {k:Nat} {pos:Pos} (h:Q (.cD i) m H):WE g F (eval (.Constant (.int i) k pos) F.env) m H Q X:=fun s S=>wpAny_Constant_int (bG.now S rfl rfl rfl (VR.CG S.tk) h)
theorem r5 {x:Str} {k:Nat} {pos:Pos} (h:Q (.cS x) m H):WE g F (eval (.Constant (.str x) k pos) F.env) m H Q X:=fun s S=>wpAny_mkText (bG.now S rfl rfl rfl (VR.GZ S.tk) h)
theorem aK {i:Int} {k:Nat} {pos:Pos} (h:Q (.int i) m H):WE g F (eval (.Constant (.int i) k pos) F.env) m H Q X:=fun z0 S=>wpAny_Constant_int (bG.now S rfl rfl rfl (.fF i _) h)
theorem gx {x:Str} {k:Nat} {pos:Pos} (h:Q (.str x) m H):WE g F (eval (.Constant (.str x) k pos) F.env) m H Q X:=fun z0 S=>wpAny_mkText (bG.now S rfl rfl rfl (.DL x _) h)
theorem DM {x:Str} {a:V} (hv:m x=some a) (h:Q a m H):WE g F (loadName F.env x) m H Q X:=fun s S=>by
 obtain ⟨kd,⟨mr,hn,hm⟩,_,_⟩:=S.loc
 cases hm x a hv with
 | loc v r q e=>exact wpAny_loadName_local kd q hn e (bG.now S rfl rfl rfl r h)
 | gb v r q c e ec=>
  rcases q with q | ⟨q,nc⟩
  .exact wpAny_loadName_cell kd q e ec (bG.now S rfl rfl rfl r h)
  .exact wpAny_loadName_free kd q e ec (bG.now S rfl rfl rfl r h) nc
theorem aa {x:Str} {pos:Pos} {a:V} (hv:m x=some a) (h:Q a m H) (hd:(x == ("__debug__":Str))=false:=by decide):WE g F (eval (.Name x pos) F.env) m H Q X:=
 fun s S=>wpAny_Name (DM hv h s S) hd
theorem bp {x:Str} {pos:Pos} {v:Value} {a:V} (hk:F.env.kindOf x=some .globalImplicit) (hv:nsIn g.K mainGlobals x=some (some v)) (hr: ∀ h,VR h a v) (h:Q a m H) (hd:(x == ("__debug__":Str))=false:=by decide):
  WE g F (eval (.Name x pos) F.env) m H Q X:=fun s S=>by
 refine wpAny_Name ?_ hd
 rw [loadName_read S.loc.kind hk]
 delta loadGlobal
 rw [S.eG.1]
 have hm:g.mg x=some v:=mg_of g.gq g.glob hv
 refine wpAny_bind (wpAny_nsGet (g.glob.keeps S.base) ?_)
 rw [hm]
 exact wpAny_pure (bG.now S rfl rfl rfl (hr _) h)
theorem bN {x:Str} {pos:Pos} {v:Value} (hk:F.env.kindOf x=some .globalImplicit) (hv:nsIn g.K mainGlobals x=some none) (hb:g.mb x=some v) (h:Q (.cst v) m H) (hd:(x == ("__debug__":Str))=false:=by decide):
  WE g F (eval (.Name x pos) F.env) m H Q X:=fun s S=>by
 refine wpAny_Name ?_ hd
 rw [loadName_read S.loc.kind hk]
 delta loadGlobal
 rw [S.eG.1,S.eG.2]
 have hm:g.mg x=none:=ns_none_of g.gq g.glob hv
 refine wpAny_bind (wpAny_nsGet (g.glob.keeps S.base) ?_)
 rw [hm]
 refine wpAny_bind (wpAny_nsGet (g.blt.keeps S.base) ?_)
 rw [hb]
 exact wpAny_pure (bG.now S rfl rfl rfl (.dT v) h)
theorem bx {l r:Expr} {op:Operator} {pos:Pos}
  (h:WE g F (eval l F.env) m H (kR g F r (binaryOp op) Q X) X):WE g F (eval (.BinOp l op r pos) F.env) m H Q X:=
 fun s S=>wpAny_BinOp (h.run S (fun z0 z0 z0 z0 z0 aA ah k₁ h₁=>h₁.run ah (fun z0 z0 z0 z0 z0 cZ aB k₂ bB=>
  wpAny_mono (bB _ _ _ aB (aA.keep ah k₂) cZ) (fun z0 z0 x=>x.after (k₁.trans k₂)) (fun z0 z0 x=>x.after (k₁.trans k₂))) (fun z0 z0 x=>x.after k₁)) (fun z0 z0 x=>x))
theorem gy {l r:Expr} {op:CmpOp} {pos:Pos} (hm:behindInMarks op r=false)
  (h:WE g F (eval l F.env) m H (kR g F r (compareOp op) Q X) X):WE g F (eval (.Compare l [op] [r] pos) F.env) m H Q X:=
 fun s S=>wpAny_Compare1 (h.run S (fun z0 z0 z0 z0 z0 aA ah k₁ h₁=>h₁.run ah (fun z0 z0 z0 z0 z0 cZ aB k₂ bB=>
  wpAny_mono (bB _ _ _ aB (aA.keep ah k₂) cZ) (fun z0 z0 x=>x.after (k₁.trans k₂)) (fun z0 z0 x=>x.after (k₁.trans k₂))) (fun z0 z0 x=>x.after k₁)) (fun z0 z0 x=>x)) hm
theorem xO {x:Expr} {op:UnaryOp} {pos:Pos} (h:WE g F (eval x F.env) m H (k1 g F VR (unaryOp op) Q X) X):WE g F (eval (.UnaryOp op x pos) F.env) m H Q X:=
 fun s S=>wpAny_UnaryOp (h.run S (fun z0 z0 z0 z0 z0 aA ah k₁ h₁=>wpAny_mono (h₁ _ _ ah aA) (fun z0 z0 x=>x.after k₁) (fun z0 z0 x=>x.after k₁)) (fun z0 z0 x=>x))
theorem AX {t b o:Expr} {pos:Pos} (h:WB g F (isTrue t F.env (eval t F.env)) m H (fun c m H=>if c then WE g F (eval b F.env) m H Q X else WE g F (eval o F.env) m H Q X) X):WE g F (eval (.IfExp t b o pos) F.env) m H Q X:=
 fun s S=>wpAny_IfExp (h.run S (fun c av c' m₁ aL aA ah k₁ h₁=>by
  cases aA
  cases c
  .exact h₁.run ah (fun z0 z0 b m H r S' k q=>⟨b,m,H,r,fun z0=>S',k₁.trans k,q⟩) (fun z0 z0 x=>x.after k₁)
  .exact h₁.run ah (fun z0 z0 b m H r S' k q=>⟨b,m,H,r,fun z0=>S',k₁.trans k,q⟩) (fun z0 z0 x=>x.after k₁)) (fun z0 z0 x=>x))
theorem G0 {x y:Expr} {pos:Pos} (h:WE g F (eval x F.env) m H (fun a m H=>W1 g F nK a truthy m H (fun c m H=>if c then Q a m H else WE g F (eval y F.env) m H Q X) X) X):WE g F (eval (.BoolOp .Or [x,y] pos) F.env) m H Q X:=
 fun s S=>wpAny_Or2 (h.run S (fun v av a m₁ aL aA ah k₁ h₁=>aU ah.tk (h₁ _ _ ah aA) (fun c a9 c' m₂ cW rc aB k₂ bB=>by
  cases rc
  cases c
  .exact bB.run aB (fun z0 z0 b m H r S' k q=>⟨b,m,H,r,fun z0=>S',(k₁.trans k₂).trans k,q⟩) (fun z0 z0 x=>x.after (k₁.trans k₂))
  .exact ⟨a,m₂,cW,aA.keep ah k₂,fun z0=>aB,k₁.trans k₂,bB⟩) (fun z0 z0 x=>x.after k₁)) (fun z0 z0 x=>x))
theorem G4 {x y:Expr} {pos:Pos} (h:WE g F (eval x F.env) m H (fun a m H=>W1 g F nK a truthy m H (fun c m H=>if c then WE g F (eval y F.env) m H Q X else Q a m H) X) X):WE g F (eval (.BoolOp .And [x,y] pos) F.env) m H Q X:=
 fun s S=>wpAny_And2 (h.run S (fun v av a m₁ aL aA ah k₁ h₁=>aU ah.tk (h₁ _ _ ah aA) (fun c a9 c' m₂ cW rc aB k₂ bB=>by
  cases rc
  cases c
  .exact ⟨a,m₂,cW,aA.keep ah k₂,fun z0=>aB,k₁.trans k₂,bB⟩
  .exact bB.run aB (fun z0 z0 b m H r S' k q=>⟨b,m,H,r,fun z0=>S',(k₁.trans k₂).trans k,q⟩) (fun z0 z0 x=>x.after (k₁.trans k₂))) (fun z0 z0 x=>x.after k₁)) (fun z0 z0 x=>x))
theorem aj {pos:Pos} {Q:lj} (h:Q [] m H):WL g F (spliced (backTo pos (starEach [] F.env))) m H Q X:=fun s S=>wpAny_items_nil (bG.now S rfl rfl rfl .gC h)
theorem af {pos:Pos} {e:Expr} {rest:List Expr} {Q:lj}
  (h:WE g F (eval e F.env) m H (kL g F pos rest Q X) X)
  (he:starEach (e::rest) F.env=(false,eval e F.env)::starEach rest F.env:=by rfl):WL g F (spliced (backTo pos (starEach (e::rest) F.env))) m H Q X:=
 fun s S=>wpAny_items_cons (h.run S (fun v av a m₁ aL aA ah k₁ h₁=>h₁.run ah (fun vs a9 as m₂ cW cZ aB k₂ bB=>⟨a::as,m₂,cW, .cons (aA.keep ah k₂) cZ,fun z0=>aB,k₁.trans k₂,bB⟩) (fun z0 z0 x=>x.after k₁)) (fun z0 z0 x=>x)) he
theorem fR {elts:List Expr} {k:Nat} {pos:Pos} (h:WL g F (spliced (backTo pos (starEach elts F.env))) m H (MK Q) X):WE g F (eval (.Tuple elts k pos) F.env) m H Q X:=
 fun s S=>wpAny_Tuple (h.run S (fun vs av as m₁ aL aA ah k₁ h₁=>by
  refine ⟨by rw [aA.length];exact h₁.1, ?_⟩
  have C: ∀ b o,av.heap.get? b=some o->(av.heap.push (dD vs 0)).get? b=some o:=fun z0 z0 e=>Heap.get?_push_of_some _ e
  obtain ⟨S',k'⟩:=ah.ext (t:=av.toks) C
  exact ⟨.tup as,m₁,aL, .rZ (ah.wZ (Nat.le_refl _)) (Heap.get?_push_size _ rfl) (aA.mono (fun z0 z0 z0 e=>C _ _ e)),S',k₁.trans k',h₁.2⟩) (fun z0 z0 x=>x))
theorem aT {elts:List Expr} {pos:Pos} (h:WL g F (spliced (backTo pos (starEach elts F.env))) m H (GX Q) X):WE g F (eval (.List elts pos) F.env) m H Q X:=
 fun s S=>wpAny_List (h.run S (fun vs av as m₁ aL aA ah k₁ h₁=>by
  refine ⟨by rw [aA.length];exact h₁.1, ?_⟩
  have C: ∀ b o,av.heap.get? b=some o->(av.heap.push (cp vs 0)).get? b=some o:=fun z0 z0 e=>Heap.get?_push_of_some _ e
  have n:av.heap.get? av.heap.objs.size=none:=Heap.get?_none_of_le (Nat.le_refl _)
  obtain ⟨S',k'⟩:=ah.new (t:=av.toks) (o':= .list as) C n ⟨vs,0,Heap.get?_push_size _ rfl,aA.mono (fun z0 z0 z0 e=>C _ _ e)⟩
  exact ⟨.ref _,m₁,_, .ip _,S',k₁.trans k',h₁.2 _ (ah.bZ n)⟩) (fun z0 z0 x=>x))
theorem aO {l r:Expr} {op:CmpOp} {pos:Pos} {whole:Sem Value} {Q:PB} (hm:behindInMarks op r=false)
  (h:WE g F (eval l F.env) m H (kR g F r (compareOp op) (k1 g F nK truthy Q X) X) X):WB g F (isTrue (.Compare l [op] [r] pos) F.env whole) m H Q X:=
 fun s S=>wpAny_isTrue_Compare1 (h.run S (fun z0 z0 z0 z0 z0 aA ah k₁ h₁=>h₁.run ah (fun z0 z0 z0 z0 z0 cZ aB k₂ bB=>
  aU aB.tk (bB _ _ _ aB (aA.keep ah k₂) cZ) (fun z0 z0 c eJ dk dZ bf fm fC=>wpAny_mono (fC _ _ bf dZ) (fun z0 z0 x=>x.after ((k₁.trans k₂).trans fm)) (fun z0 z0 x=>x.after ((k₁.trans k₂).trans fm)))
   (fun z0 z0 x=>x.after (k₁.trans k₂))) (fun z0 z0 x=>x.after k₁)) (fun z0 z0 x=>x)) hm
theorem ue {x:Expr} {pos:Pos} {whole:Sem Value} {Q:PB} (h:WB g F (isTrue x F.env (eval x F.env)) m H (ML Q) X):WB g F (isTrue (.UnaryOp .Not x pos) F.env whole) m H Q X:=
 fun s S=>wpAny_isTrue_Not (h.run S (fun b av b' m₁ aL aA ah k₁ h₁=>by cases aA;exact ⟨_,m₁,aL,rfl,fun z0=>ah,k₁,h₁⟩) (fun z0 z0 x=>x))
theorem j1 {e:Expr} {Q:PB} (h:WE g F (eval e F.env) m H (k1 g F nK truthy Q X) X)
  (he:isTrue e F.env (eval e F.env)=(do let v <- eval e F.env;standAt e.pos;holding [v] (truthy v)):=by rfl):WB g F (isTrue e F.env (eval e F.env)) m H Q X:=
 fun s S=>wpAny_isTrue_value (h.run S (fun z0 z0 z0 z0 z0 aA ah k₁ h₁=>wpAny_mono (h₁ _ _ ah aA) (fun z0 z0 x=>x.after k₁) (fun z0 z0 x=>x.after k₁)) (fun z0 z0 x=>x)) he
theorem iM {op:BoolOp} {vs:List Expr} {pos:Pos} {whole:Sem Value} {Q:PB} (h:WB g F (allTrue op vs F.env) m H Q X):WB g F (isTrue (.BoolOp op vs pos) F.env whole) m H Q X:=
 fun s S=>wpAny_isTrue_BoolOp (h s S)
theorem jO {Q:PB} (h:Q true m H):WB g F (allTrue .And [] F.env) m H Q X:=fun s S=>wpAny_allTrue_And_nil (bG.now S rfl rfl rfl rfl h)
theorem i9 {Q:PB} (h:Q false m H):WB g F (allTrue .Or [] F.env) m H Q X:=fun s S=>wpAny_allTrue_Or_nil (bG.now S rfl rfl rfl rfl h)
theorem nL {x:Expr} {rest:List Expr} {Q:PB} (h:WB g F (isTrue x F.env (eval x F.env)) m H (fun b m H=>if b then WB g F (allTrue .And rest F.env) m H Q X else Q false m H) X):WB g F (allTrue .And (x::rest) F.env) m H Q X:=
 fun s S=>wpAny_allTrue_And_cons (h.run S (fun b av b' m₁ aL aA ah k₁ h₁=>by
  cases aA
  cases b
  .exact ⟨_,m₁,aL,rfl,fun z0=>ah,k₁,h₁⟩
  .exact h₁.run ah (fun z0 z0 b m H r S' k q=>⟨b,m,H,r,fun z0=>S',k₁.trans k,q⟩) (fun z0 z0 x=>x.after k₁)) (fun z0 z0 x=>x))
theorem qj {x:Expr} {rest:List Expr} {Q:PB} (h:WB g F (isTrue x F.env (eval x F.env)) m H (fun b m H=>if b then Q true m H else WB g F (allTrue .Or rest F.env) m H Q X) X):WB g F (allTrue .Or (x::rest) F.env) m H Q X:=
 fun s S=>wpAny_allTrue_Or_cons (h.run S (fun b av b' m₁ aL aA ah k₁ h₁=>by
  cases aA
  cases b
  .exact h₁.run ah (fun z0 z0 b m H r S' k q=>⟨b,m,H,r,fun z0=>S',k₁.trans k,q⟩) (fun z0 z0 x=>x.after k₁)
  .exact ⟨_,m₁,aL,rfl,fun z0=>ah,k₁,h₁⟩) (fun z0 z0 x=>x))
end
section
variable {g:G} {F:Fm} {m:Loc} {H:AH} {X:PX}
noncomputable def Stores (F:Fm) (x:Str):Prop:=F.env.kindOf x=some .local\/(F.env.kindOf x=some .cell/\ ∃ c,F.env.cells.lookup x=some c/\c∈F.aS)
theorem oN.tup {c:Addr} {h':Heap} (S:St g F m H s) (C:oN (· =c) s.heap h') (hc:c∈F.aS) (a:Addr) (o:Obj) (i:eW a o) (e:s.heap.get? a=some o):h'.get? a=some o:=C.same a _ e fun q=>(S.gd i e).2.1 (q▸hc)
theorem ja {h:Heap} {c b:Addr} {v:Option Value} {mr:Str->Option Value} (i:h.IsCell c v) (n:h.Ns b mr):c≠b:=fun q=>by
 obtain ⟨o,e,d⟩:=i
 obtain ⟨G5,PQ,PR,mS,DN,_⟩:=n
 obtain rfl:=oi e (q▸mS)
 exact Data.noConfusion (d.symm.trans DN)
theorem St.DP {x:Str} {a:V} {v:Value} {h':Heap} {t:Nat} {mr:Str->Option Value} (S:St g F m H s) (hx:F.env.kindOf x=some .local) (hn:s.heap.Ns F.env.locals mr) (hm: ∀ x a,m x=some a->LV F.env s.heap mr x a)
  (iJ:h'.Ns F.env.locals fun y=>if y=x then some v else mr y) (hs:Heap.SameBut F.env.locals s.heap h') (r:VR s.heap a v):(1<=t->St g F (bw m x a) H { s with heap:=h',toks:=t })/\aF F s.heap H h' H:=by
 obtain ⟨oL,AY,AZ,eL,dL,rL⟩:=id iJ
 have C:oN (· =F.env.locals) s.heap h':= .sameBut hs eL fun z0 z0 z0 z0 z0=>⟨_,_,dL⟩
 have tup:=C.tup S S.eF
 refine S.own S.eF C ⟨_,eL, .inl ⟨_,_,dL⟩⟩ (fun z0 z0 z0 z0 z0=>⟨_,_,_,eL,dL⟩) ⟨S.loc.kind,⟨_,iJ,fun y b hy=> ?_⟩,fun y c hy=>⟨(S.loc.cell y c hy).1,((S.loc.cell y c hy).2).elim fun u z=>⟨u,z.sameBut hs (ja z hn)⟩⟩,S.loc.apart⟩
 unfold bw at hy
 by_cases q:y=x
 .subst q;obtain rfl:=oi (if_pos rfl) hy
  exact .loc v (r.mono tup) hx (if_pos rfl)
 .rw [if_neg q] at hy
  cases hm y b hy with
  | loc u ru k e=>exact .loc u (ru.mono tup) k ((if_neg q).trans e)
  | gb u ru k c z2 z3=>exact .gb u (ru.mono tup) k c z2 (z3.sameBut hs (ja z3 hn))
theorem St.DQ {x:Str} {a:V} {v:Value} {G6:Option Value} {h':Heap} {t:Nat} {c:Addr} (S:St g F m H s) (hx:F.env.kindOf x=some .cell) (hc:F.env.cells.lookup x=some c) (Jq:c∈F.aS) (ic:s.heap.IsCell c G6)
  (A1:h'.IsCell c (some v)) (hs:Heap.SameBut c s.heap h') (r:VR s.heap a v):(1<=t->St g F (bw m x a) H { s with heap:=h',toks:=t })/\aF F s.heap H h' H:=by
 obtain ⟨oc,ec,dc⟩:=id A1
 have nd: ∀ {P:Prop} o es ep,s.heap.get? c=some o->o.data= .dict es ep->P:=fun o es ep e d=>ic.elim fun o' z=>Data.noConfusion ((oi e z.1▸d).symm.trans z.2)
 have C:oN (· =c) s.heap h':= .sameBut hs ec fun oO es ep e d=>nd oO es ep e d
 have tup:=C.tup S Jq
 obtain ⟨mr,hn,hm⟩:=S.loc.val
 refine S.own Jq C ⟨_,ec, .inr ⟨_,dc⟩⟩ (fun o es ep e d=>nd o es ep e d) ⟨S.loc.kind,⟨mr,hn.sameBut hs (ja ic hn).symm,fun y b hy=> ?_⟩,fun y c' hy=>⟨(S.loc.cell y c' hy).1, ?_⟩,S.loc.apart⟩
 .unfold bw at hy
  by_cases q:y=x
  .subst q;obtain rfl:=oi (if_pos rfl) hy
   exact .gb v (r.mono tup) (.inl hx) c hc A1
  .rw [if_neg q] at hy
   cases hm y b hy with
   | loc u ru k e=>exact .loc u (ru.mono tup) k e
   | gb u ru k c' z2 z3=>exact .gb u (ru.mono tup) k c' z2 (z3.sameBut hs fun e=>q (S.loc.apart y x c (e▸z2) hc))
 .by_cases q:c'=c
  .exact ⟨_,q▸A1⟩
  .exact ((S.loc.cell y c' hy).2).elim fun u z=>⟨u,z.sameBut hs q⟩
theorem jb {x:Str} {a:V} {Q:qi} (hx:Stores F x) (h:Q (bw m x a) H):W1 g F nK a (fun v=>storeName F.env x v) m H (fun (_:Unit) m H=>Q m H) X:=fun s v S r=>by
 rcases hx with hx | ⟨hx,c,hc,Jq⟩
 .exact S.loc.val.casesOn fun mr hn hm=>wpAny_storeName_local hx hn (fun h' iJ hs=>(S.DP (t:=s.toks+1) hx hn hm iJ hs r).elim fun S' k=>⟨(),_,_,rfl,S',k,h⟩) (by rw [S.loc.kind];rfl)
 .exact (S.loc.cell x c hc).2.elim fun G6 ic=>wpAny_storeName_cell S.loc.kind hx hc ic fun h' A1 hs=>(S.DQ (t:=s.toks) hx hc Jq ic A1 hs r).elim fun S' k=>⟨(),_,_,rfl,S',k,h⟩
variable {Q:eI}
theorem aC (h:Q .next m H):WS g F (execs [] F.env) m H Q X:=fun s S=>wpAny_execs_nil (bG.now (b:=Fl.next) S rfl rfl rfl rfl h)
theorem ae {st:Stmt} {rest:List Stmt} (h:WS g F (exec st F.env) m H (xI g F rest Q X) X):WS g F (execs (st::rest) F.env) m H Q X:=
 fun s S=>wpAny_execs_cons (h.run S (fun f av f' m₁ aL aA ah k₁ h₁=>by
  cases f' with
  | next=>cases aA;exact h₁.run ah (fun z0 z0 b m H r S' k q=>⟨b,m,H,r,fun z0=>S',k₁.trans k,q⟩) (fun z0 z0 x=>x.after k₁)
  | brk=>cases aA;exact ⟨.brk,m₁,aL,rfl,fun z0=>ah,k₁,h₁⟩
  | cont=>cases aA;exact ⟨.cont,m₁,aL,rfl,fun z0=>ah,k₁,h₁⟩
  | ret x=>obtain ⟨v,rfl,rv⟩:=aA;exact ⟨.ret x,m₁,aL,⟨v,rfl,rv⟩,fun z0=>ah,k₁,h₁⟩) (fun z0 z0 x=>x))
theorem oQ {pos:Pos} (h:Q .brk m H):WS g F (exec (.Break pos) F.env) m H Q X:=fun s S=>wpAny_Break (bG.now (b:=Fl.brk) S rfl rfl rfl rfl h)
theorem xP {pos:Pos} (h:Q .cont m H):WS g F (exec (.Continue pos) F.env) m H Q X:=fun s S=>wpAny_Continue (bG.now (b:=Fl.cont) S rfl rfl rfl rfl h)
theorem dW {e:Expr} {pos:Pos} (h:WE g F (eval e F.env) m H (MM Q) X):WS g F (exec (.Return (some e) pos) F.env) m H Q X:=
 fun s S=>wpAny_Return_some (h.run S (fun v z0 a m₁ aL aA ah k₁ h₁=>⟨.ret a,m₁,aL,⟨v,rfl,aA⟩,fun z0=>ah,k₁,h₁⟩) (fun z0 z0 x=>x))
theorem cq {t:Expr} {b o:List Stmt} {pos:Pos} (h:WB g F (isTrue t F.env (eval t F.env)) m H (fun c m H=>if c then WS g F (execs b F.env) m H Q X else WS g F (execs o F.env) m H Q X) X):WS g F (exec (.If t b o pos) F.env) m H Q X:=
 fun s S=>wpAny_If (h.run S (fun c av c' m₁ aL aA ah k₁ h₁=>by
  cases aA
  cases c
  .exact h₁.run ah (fun z0 z0 b m H r S' k q=>⟨b,m,H,r,fun z0=>S',k₁.trans k,q⟩) (fun z0 z0 x=>x.after k₁)
  .exact h₁.run ah (fun z0 z0 b m H r S' k q=>⟨b,m,H,r,fun z0=>S',k₁.trans k,q⟩) (fun z0 z0 x=>x.after k₁)) (fun z0 z0 x=>x))
theorem aD {x:Str} {pos' pos:Pos} {e:Expr} (hx:Stores F x) (hs:swapsWith e (some (.Name x pos')) pos.line F.env=pure false) (h:WE g F (eval e F.env) m H (RY Q x) X):
  WS g F (exec (.Assign [.Name x pos'] e pos) F.env) m H Q X:=
 fun s S=>wpAny_Assign_Name (h.run S (fun v av a m₁ aL aA ah k₁ h₁=>wpAny_mono (jb (X:=X) (Q:=fun m H=>Q .next m H) hx h₁ av v ah aA) (fun z0 z0 yy=>yy.elim fun z0 m₂ cW z0 aB k₂ bB=>⟨.next,m₂,cW,rfl,aB,k₁.trans k₂,bB⟩) (fun z0 z0 x=>x.after k₁)) (fun z0 z0 x=>x)) hs
noncomputable abbrev WA (g:G) (F:Fm) (t:Expr) (a:V) (m:Loc) (H:AH) (Q:qi) (X:PX):Prop:=W1 g F nK a (fun v=>assign t F.env v) m H (fun (_:Unit) m H=>Q m H) X
theorem bH {x:Str} {pos:Pos} {a:V} {Q:qi} (hx:Stores F x) (h:Q (bw m x a) H):WA g F (.Name x pos) a m H Q X:=fun s v S r=>
 wpAny_bind (wpAny_standAt (wpAny_bindName (jb (X:=X) hx h s v S r)))
theorem qk {x:Str} {pos' pos:Pos} {e:Expr} {Q:PV} (hx:Stores F x) (h:WE g F (eval e F.env) m H (kW Q x) X):WE g F (eval (.NamedExpr (.Name x pos') e pos) F.env) m H Q X:=
 fun s S=>wpAny_NamedExpr (h.run S (fun v av a m₁ aL aA ah k₁ h₁=>wpAny_mono (bH (X:=X) (pos:=pos') (Q:=fun m H=>Q a m H) hx h₁ av v ah aA) (fun z0 z0 yy=>yy.elim fun z0 m₂ cW z0 aB k₂ bB=>⟨a,m₂,cW,aA.keep ah k₂,aB,k₁.trans k₂,bB⟩) (fun z0 z0 x=>x.after k₁)) (fun z0 z0 x=>x))
theorem bF {t:Expr} {pos:Pos} {e:Expr} (hs:swapsWithSole [t] e pos.line F.env=pure false) (hw:swappedStores [t] e F.env=pure none) (he:(assignEach [t] F.env).map (·.2)=[assign t F.env])
  (h:WE g F (eval e F.env) m H (fun a m H=>WA g F t a m H (kN Q) X) X):WS g F (exec (.Assign [t] e pos) F.env) m H Q X:=
 fun s S=>wpAny_Assign_stores (h.run S (fun v av a m₁ aL aA ah k₁ h₁=>by
  rw [he]
  exact aU ah.tk (h₁ av v ah aA) (fun z0 z0 z0 m₂ cW z0 aB k₂ bB=>⟨.next,m₂,cW,rfl,fun z0=>aB,k₁.trans k₂,bB⟩) (fun z0 z0 x=>x.after k₁)) (fun z0 z0 x=>x)) hs hw
theorem vt {xQ mU:Expr} {pos:Pos} {e:Expr} (he:(assignEach [xQ,mU] F.env).map (·.2)=[assign xQ F.env,assign mU F.env]) (hw:swappedStores [xQ,mU] e F.env=pure none)
  (h:WE g F (eval e F.env) m H (fun a m H=>WA g F xQ a m H (fun m H=>WA g F mU a m H (kN Q) X) X) X):WS g F (exec (.Assign [xQ,mU] e pos) F.env) m H Q X:=
 fun s S=>wpAny_Assign_two (h.run S (fun v av a m₁ aL aA ah k₁ h₁=>aU ah.tk (h₁ av v ah aA) (fun z0 a9 z0 m₂ cW z0 aB k₂ bB=>
  aU aB.tk (bB a9 v aB (aA.keep ah k₂)) (fun z0 z0 z0 eJ dk z0 bf fm fC=>⟨.next,eJ,dk,rfl,fun z0=>bf,(k₁.trans k₂).trans fm,fC⟩) (fun z0 z0 x=>x.after (k₁.trans k₂))) (fun z0 z0 x=>x.after k₁)) (fun z0 z0 x=>x)) he hw
end
section
variable {g:G} {F:Fm} {m:Loc} {H:AH} {s:Shared} {h₀:Heap} {H₀:AH}
theorem St.DR {b:Addr} {o:Obj} {vs:Array Value} {f:Obj->Obj} (S:St g F m H s) (e:s.heap.get? b=some o) (hd:o.data= .fields vs) (hH:H b=none) (hB:g.B.get? b=none) (hi:ig o.cls=false) (hf:(f o).isFreed=false):
  St g F m H { s with heap:=s.heap.update b f }/\(aF F h₀ H₀ s.heap H->h₀.get? b=none->aF F h₀ H₀ (s.heap.update b f) H):=by
 have ne: ∀ c o',s.heap.get? c=some o'->(∀ vs,o'.data≠ .fields vs)->c≠b:=fun c o' e' n q=>by subst q;obtain rfl:=oi e e';exact n _ hd
 have other: ∀ c,c≠b->(s.heap.update b f).get? c=s.heap.get? c:=fun c n=>Heap.get?_update_other _ _ (Ne.symm n)
 have al: ∀ c o',s.heap.get? c=some o'-> ∃ oR,(s.heap.update b f).get? c=some oR:=fun c o' e'=>by
  by_cases q:c=b
  .subst q;exact ⟨_,Heap.get?_update_self f e hf⟩
  .exact ⟨o',(other c q).trans e'⟩
 have dc:lu s.heap (s.heap.update b f):= .of fun c o' es ep e' d=>⟨o',es,ep,(other c (ne c o' e' fun vs z=>by exact Data.noConfusion (d.symm.trans z))).trans e',d⟩
 have mn:dY s.heap (s.heap.update b f):=⟨fun a o' i e'=>(other a fun q=>by subst q;rw [e] at e';cases e';rw [i.cls] at hi;cases hi).trans e',dc⟩
 have own: ∀ c o',s.heap.get? c=some o'->Own o'->c≠b:=fun c o' e' w=>ne c o' e' fun vs z=>by rcases w with ⟨_,_,w⟩ | ⟨_,w⟩ <;> rw [w] at z <;> cases z
 refine ⟨⟨fun c o' e'=>(other c fun q=>by subst q;exact on hB e').trans (S.base c o' e'),fun c o' e'=> ?_, ?_,S.eF,fun c hc=> ?_, ?_,fun c hc=> ?_,S.frame,S.lA,S.gens,S.os,S.room,S.eG,S.lB al,S.tk⟩,fun K n0=>⟨fun c o' e'=>(K.alive c o' e').elim fun z0 i6=>al c _ i6,K.dct.trans dc,fun c o' e' n hc=> ?_⟩⟩
 .obtain ⟨b1,b2⟩:=S.obj c o' e'
  exact ⟨b1,b2.mono mn (other c fun q=>by subst q;exact on hH e')⟩
 .refine S.loc.mono mn (fun y c hy=>(S.gu c (.inr ⟨y,hy⟩)).1) fun c hc o' e'=> .inl ?_
  obtain ⟨_,oR,i6,w⟩:=S.gu c hc
  obtain rfl:=oi i6 e'
  exact (other c (own c _ i6 w)).trans i6
 .obtain ⟨h1,h2,o',h3,h4⟩:=S.aS c hc
  exact ⟨h1,h2,o',(other c (own c _ h3 h4)).trans h3,h4⟩
 .refine bc S.jJ fun c hc o' e'=> ?_
  obtain ⟨_,oR,es,ep,i6,d⟩:=S.gJ c hc
  obtain rfl:=oi i6 e'
  exact ⟨_,(other c (own c _ i6 (.inl ⟨_,_,d⟩))).trans i6,id⟩
 .obtain ⟨h1,o',es,ep,h3,h4⟩:=S.gJ c hc
  exact ⟨h1,o',es,ep,(other c (own c _ h3 (.inl ⟨_,_,h4⟩))).trans h3,h4⟩
 .obtain ⟨n',z⟩:=K.same c o' e' n hc
  have cb:c≠b:=fun q=>by subst q;exact on n0 e'
  exact ⟨n',z.eq (other c cb)⟩
theorem St.slots {h₁:Heap} (S:St g F m H s) (sl:Heap.SlotsOnly F.fr s.heap h₁):St g F m H { s with heap:=h₁ }/\aF F s.heap H h₁ H:=by
 have al: ∀ c o',s.heap.get? c=some o'-> ∃ oR,h₁.get? c=some oR:=fun c o' e'=>(sl.2.2 c o' e').elim fun z0 z=>⟨_,z⟩
 have dc:lu s.heap h₁:= .of fun c o' es ep e' d=>(sl.2.2 c o' e').elim fun z0 z=>⟨_,es,ep,z,d⟩
 have mn:dY s.heap h₁:=⟨fun a o i e'=>(sl.2.1 a (S.gd i e').2.2).trans e',dc⟩
 have up: ∀ c o',s.heap.get? c=some o'->Kept F.fr h₁ c o':=fun c o' e'=>by
  by_cases q:c∈F.fr
  .exact (sl.2.2 c o' e').elim fun x z=> .inr q x z
  .exact .inl ((sl.2.1 c q).trans e')
 refine ⟨⟨fun c o' e'=> ?_,fun c o' e'=> ?_, ?_,S.eF,fun c hc=> ?_, ?_,fun c hc=> ?_,S.frame,S.lA,S.gens,S.os,S.room,S.eG,S.lB al,S.tk⟩,al,dc,fun c o' e' n z0=>⟨n,up c o' e'⟩⟩
 .have:c∉F.fr:=fun q=>by
   have:=(S.jJ.mem q).1
   exact nomatch (e'.symm.trans this)
  exact (sl.2.1 c this).trans (S.base c o' e')
 .obtain ⟨b1,b2⟩:=S.obj c o' e'
  exact ⟨b1,b2.mono mn (sl.2.1 c fun q=>by have:=(S.gJ c q).1;exact nomatch (e'.symm.trans this))⟩
 .refine S.loc.mono mn (fun y c hy=>(S.gu c (.inr ⟨y,hy⟩)).1) fun c hc o' e'=>(up c o' e').any
 .obtain ⟨h1,h2,o',h3,h4⟩:=S.aS c hc
  rcases up c o' h3 with z | ⟨_,x,z⟩
  .exact ⟨h1,h2,o',z,h4⟩
  .exact ⟨h1,h2,_,z,h4⟩
 .refine bc S.jJ fun c hc o' e'=> ?_
  rcases up c o' e' with z | ⟨_,x,z⟩
  .exact ⟨_,z,id⟩
  .exact ⟨_,z,id⟩
 .obtain ⟨h1,o',es,ep,h3,h4⟩:=S.gJ c hc
  rcases up c o' h3 with z | ⟨_,x,z⟩
  .exact ⟨h1,o',es,ep,z,h4⟩
  .exact ⟨h1,_,es,ep,z,h4⟩
inductive eY (h:Heap) (e c:Value) (as:List V) (h':Heap) (H':AH):Prop where
 | mk (a:Addr) (o:Obj) (vs:Array Value) (v:Value) (T:Addr) (oT:Obj) (ts:Array Value) (x:Value) (y:GV h e c as h' H' a o vs v (GU h h' H' a vs T oT ts x)):eY h e c as h' H'
theorem eY.Jr {h h':Heap} {H':AH} {e c:Value} {as:List V} (x:eY h e c as h' H'):CE h e c as h' H':=by
 obtain ⟨a,o,vs,v,T,oT,ts,y,h1,h2,h3,h4,h5,h6,h7,h8,h9,r⟩:=x
 exact ⟨a,o,vs,v,h1,h2,h3,h4,h5,h6,h7,h8,h9, .inr ⟨T,oT,ts,y,r⟩⟩
theorem aF.base (S:St g F m H s) {b:Addr} (K:aF F h₀ H₀ s.heap H) (B0:g.B.StaysIn h₀) (e:h₀.get? b=none):g.B.get? b=none:=by
 cases q:g.B.get? b with
 | none=>rfl
 | some o=>exact nomatch ((B0 b o q).symm.trans e)
theorem ql {c:Value} {as:List V} {a:Addr} {o:Obj} {vs:Array Value} {v head:Value} {b:Bool} {L:Addr} {Q:PU} {E:PE} (S:St g F m H s) (K:aF F h₀ H₀ s.heap H) (B0:g.B.StaysIn h₀)
  (hL:F.env.frame=some L) (h2:h₀.get? a=none) (h3:H a=none) (h4:s.heap.get? a=some o) (h5:o.cls=c) (h6:ig c=false) (h7:o.data= .fields vs) (h8:vs[0]? =some v/\vs[2]? =some .none) (h9:VR s.heap (.tup as) v) (nM:1<vs.size)
  (h: ∀ s',St g F m H s'->aF F h₀ H₀ s'.heap H->eY h₀ (.ref a) c as s'.heap H->Q () s'):
  wpAny (model g.prog g.w) F.A (do let x <- PySem.frameOf F.env;let pl <- entryPlaceOf L b;let y <- EntryCells.newEntry head x .none (rawInt L) .none pl;setField (.ref a) 1 y) Q E s:=by
 have xR:=S.frame
 rw [hL] at xR
 obtain ⟨DS,outer,kH,FW⟩: ∃ e r,F.stack=e::r/\e.frame=some L:=by
  cases q:F.stack with
  | nil=>rw [q] at xR;cases xR
  | cons e r=>rw [q] at xR;exact ⟨e,r,rfl,xR.symm⟩
 have hB:g.B.get? a=none:=aF.base S K B0 h2
 refine wpAny_bind (wpAny_bind (wpAny_frameEnvs S.lA ?_))
 have R0:(F.stack.dropWhile fun x=>x.frame != F.env.frame)=DS::outer:=by rw [kH,hL];simp [List.dropWhile,FW]
 rw [R0]
 refine wpAny_bind (wpAny_bind (wpAny_readyFrames_fun (base:=g.B) (kH▸S.jJ) fun h₁ CH=>wpAny_pure ?_))
 rw [FW]
 refine wpAny_pure ?_
 obtain ⟨ah,bq⟩:=S.slots (h₁:=h₁) (by delta Fm.fr;rw [kH];exact CH)
 have lC:=K.trans bq
 have na:a∉F.fr:=fun q=>by obtain ⟨_,o',es,ep,e',d⟩:=S.gJ a q;rw [h4] at e';cases e';rw [h7] at d;cases d
 have CJ:h₁.get? a=some o:=by
  refine (CH.2.1 a ?_).trans h4
  delta Fm.fr at na;rw [kH] at na;exact na
 refine wpAny_bind (wpAny_entryPlaceOf fun pl FY=> ?_)
 refine wpAny_bind (wpAny_newObj_type ?_ (FY.sizeOk5 _ _ _ _ _))
 have nT:h₁.get? h₁.objs.size=none:=Heap.get?_none_of_le (Nat.le_refl _)
 have C: ∀ b o,h₁.get? b=some o->(h₁.push { cls:= .type "traceback",dict:=none,data:= .fields ([head, .ref L, .none,rawInt L, .none]++(if pl.isEmpty then List.replicate 6 Value.none else pl)).toArray }).get? b=some o:=fun z0 z0 e=>Heap.get?_push_of_some _ e
 obtain ⟨aB,bX⟩:=ah.ext (t:=s.toks) C
 replace aB:=aB S.tk
 have uf:=C a o CJ
 have xS:=Obj.data_mapFields h7 (·.setIfInBounds 1 (Value.ref h₁.objs.size))
 obtain ⟨bf,dG⟩:=aB.DR (h₀:=h₀) (H₀:=H₀) (f:=Obj.mapFields (·.setIfInBounds 1 (Value.ref h₁.objs.size))) uf h7 h3 hB (h5▸h6) (Obj.isFreed_of_fields xS)
 refine wpAny_setField uf h7 nM (h _ bf (dG (lC.trans bX) h2) ?_)
 have PT:h₁.objs.size≠a:=Nat.ne_of_gt (Heap.lt_size CJ)
 have n0:h₀.get? h₁.objs.size=none:=by
  cases q:h₀.get? h₁.objs.size with
  | none=>rfl
  | some o'=>obtain ⟨oR,z⟩:=lC.alive _ o' q;have z':h₁.get? h₁.objs.size=some oR:=z;exact on nT z'
 refine ⟨a,_,_,v,h₁.objs.size,_,_,rawInt L,rfl,h2,h3,Heap.get?_update_self _ uf (Obj.isFreed_of_fields xS),(Obj.cls_mapFields ..).trans h5,h6,xS, ?_, ?_, ?_,PT,n0,ah.bZ nT,
  (Heap.get?_update_other _ _ (Ne.symm PT)).trans (Heap.get?_push_size _ rfl),rfl,rfl, ?_⟩
 .simp only [Array.getElem?_setIfInBounds];simpa using h8
 .have:=(h9.keep S bq).keep ah (s':={ s with heap:=h₁.push { cls:= .type "traceback",dict:=none,data:= .fields ([head, .ref L, .none,rawInt L, .none]++(if pl.isEmpty then List.replicate 6 Value.none else pl)).toArray } }) bX
  refine this.mono fun x ob i e=>(Heap.get?_update_other _ _ fun q=> ?_).trans e
  subst q;obtain rfl:=oi uf e;rw [<- h5,i.cls] at h6;cases h6
 .simp [Array.getElem?_setIfInBounds,nM]
 .rcases FY with rfl | ⟨_,_,_,_,_,_,_,rfl⟩ <;> simp
theorem note {e c:Value} {as:List V} {Q:PU} {E:PE} (S:St g F m H s) (K:aF F h₀ H₀ s.heap H) (B0:g.B.StaysIn h₀) (f:CE h₀ e c as s.heap H) (hL: ∃ L,F.env.frame=some L)
  (h: ∀ s',St g F m H s'->aF F h₀ H₀ s'.heap H->eY h₀ e c as s'.heap H->Q () s'):wpAny (model g.prog g.w) F.A (noteFrame e F.env) Q E s:=by
 obtain ⟨L,hL⟩:=hL
 obtain ⟨a,o,vs,v,rfl,h2,h3,h4,h5,h6,h7,h8,h9,vo⟩:=f
 delta noteFrame
 simp only [hL]
 have hB:g.B.get? a=none:=aF.base S K B0 h2
 rcases vo with h1 | ⟨T,oT,ts,x,t1,t2,t3,t4,t5,t6,t7,t8⟩
 .have nM:1<vs.size:=(Array.getElem?_eq_some_iff.mp h1).1
  refine wpAny_bind (wpAny_field h4 h7 h1 ?_)
  refine az ((by decide)) ?_
  exact ql S K B0 hL h2 h3 h4 h5 h6 h7 h8 h9 nM h
 .have nM:1<vs.size:=(Array.getElem?_eq_some_iff.mp t1).1
  refine wpAny_bind (wpAny_field h4 h7 t1 ?_)
  refine bD ((show (Value.ref T != Value.none)=true from rfl)) ?_
  refine wpAny_bind (wpAny_field t5 t7 t8 ?_)
  by_cases q:(x == rawInt L)=true
  .refine bD q ?_
   exact wpAny_pure (h s S K ⟨a,o,vs,v,T,oT,ts,x,rfl,h2,h3,h4,h5,h6,h7,h8,h9,t1,t2,t3,t4,t5,t6,t7,t8⟩)
  .refine az q ?_
   have MN:g.B.get? T=none:=aF.base S K B0 t3
   have G7:=Obj.data_mapFields t7 (·.setIfInBounds 3 Value.none)
   obtain ⟨ah,bq⟩:=S.DR (h₀:=h₀) (H₀:=H₀) (f:=Obj.mapFields (·.setIfInBounds 3 Value.none)) t5 t7 t4 MN t6 (Obj.isFreed_of_fields G7)
   refine wpAny_bind (wpAny_setField t5 t7 (Array.getElem?_eq_some_iff.mp t8).1 ?_)
   refine ql ah (bq K t3) B0 hL h2 h3 ((Heap.get?_update_other _ _ t2).trans h4) h5 h6 h7 h8 ?_ nM h
   refine h9.mono fun y ob i e=>(Heap.get?_update_other _ _ fun q=> ?_).trans e
   subst q;obtain rfl:=oi t5 e;exact nomatch (i.cls.symm.trans t6)
theorem iN {e c:Value} {as:List V} {fr:Option Addr} {Q:PU} {E:PE} (S:St g F m H s) (K:aF F h₀ H₀ s.heap H) (B0:g.B.StaysIn h₀) (f:eY h₀ e c as s.heap H)
  (h: ∀ s',St g F m H s'->aF F h₀ H₀ s'.heap H->eY h₀ e c as s'.heap H->Q () s'):wpAny (model g.prog g.w) F.A (setFlight e fr) Q E s:=by
 obtain ⟨a,o,vs,v,T,oT,ts,x,rfl,h2,h3,h4,h5,h6,h7,h8,h9,t1,t2,t3,t4,t5,t6,t7,t8⟩:=f
 refine wpAny_bind (wpAny_field h4 h7 t1 ?_)
 refine bD ((show (Value.ref T != Value.none)=true from rfl)) ?_
 have MN:g.B.get? T=none:=aF.base S K B0 t3
 have PW:=(Array.getElem?_eq_some_iff.mp t8).1
 have G7:=Obj.data_mapFields t7 (·.setIfInBounds 3 (fr.elim Value.none fun f=>rawInt f))
 obtain ⟨ah,bq⟩:=S.DR (h₀:=h₀) (H₀:=H₀) (f:=Obj.mapFields (·.setIfInBounds 3 (fr.elim Value.none fun f=>rawInt f))) t5 t7 t4 MN t6 (Obj.isFreed_of_fields G7)
 refine wpAny_setField t5 t7 PW (h _ ah (bq K t3) ⟨a,o,vs,v,T,_,_,(fr.elim Value.none fun f=>rawInt f),rfl,h2,h3,(Heap.get?_update_other _ _ t2).trans h4,h5,h6,h7,h8, ?_,t1,t2,t3,t4,
  Heap.get?_update_self _ t5 (Obj.isFreed_of_fields G7),by rw [Obj.cls_mapFields];exact t6,G7,by simp [Array.getElem?_setIfInBounds,PW]⟩)
 refine h9.mono fun y ob i e=>(Heap.get?_update_other _ _ fun q=> ?_).trans e
 subst q;obtain rfl:=oi t5 e;exact nomatch (i.cls.symm.trans t6)
theorem xT {X:PX} {e:Value} (B0:g.B.StaysIn h₀) (hL: ∃ L,F.env.frame=some L) {s':Shared} (x:dA g F X h₀ H₀ e s') {E:PE}
  (h: ∀ fS c as m' H',St g F m' H' fS->aF F h₀ H₀ fS.heap H'->eY h₀ e c as fS.heap H'->X c as m' H'->E e fS):notedBy (model g.prog g.w) F.A F.env E e s':=by
 obtain ⟨c,as,m',H',f,S,K,q⟩:=x
 exact note S K B0 f hL fun fS S' K' f'=>h fS c as m' H' S' K' f' q
theorem lD {X:PX} {e c:Value} {as:List V} (B0:g.B.StaysIn h₀) (S:St g F m H s) (K:aF F h₀ H₀ s.heap H) (f:eY h₀ e c as s.heap H) (q:X c as m H):
  cameBackBy (model g.prog g.w) F.A F.env (dA g F X h₀ H₀) e s:=by
 have f':=f
 obtain ⟨a,o,vs,v,T,oT,ts,x,rfl,h2,h3,h4,h5,h6,h7,h8,h9,t1,t2,t3,t4,t5,t6,t7,t8⟩:=f
 refine wpAny_bind (wpAny_field h4 h7 t1 ?_)
 refine az ((show ¬ ((Value.ref T == Value.none)=true) from by simp)) ?_
 exact iN S K B0 f' fun s' S' K' DT=>⟨c,as,m,H,DT.Jr,S',K',q⟩
theorem St.oS (S:St g F m H s) (hs:F.stack≠[]): ∃ L,F.env.frame=some L:=by
 have h1:=S.frame
 have h2:=S.jJ
 cases q:F.stack with
 | nil=>exact absurd q hs
 | cons e r=>
  rw [q] at h1 h2
  obtain ⟨_,⟨L,o,hf,_⟩,_⟩:=h2
  exact ⟨L,h1.trans hf⟩
end
noncomputable def BR (h:Heap):List (Str×V)->List (Str×Value)->Prop
 | [],vs=>vs=[]
 | b::bs,vs=> ∃ v r,vs=(b.1,v)::r/\VR h b.2 v/\BR h bs r
theorem BR.mono {h h':Heap} (k: ∀ a o,eW a o->h.get? a=some o->h'.get? a=some o): ∀ (bs:List (Str×V)) (vs:List (Str×Value)),BR h bs vs->BR h' bs vs:=by
 intro L9
 induction L9 with
 | nil=>
  rintro _ e
  exact e
 | cons _ bs ih=>
  rintro _ ⟨v,r,e,hv,hr⟩
  exact ⟨v,r,e,hv.mono k,ih r hr⟩
noncomputable def cP:List (Str×V)->Loc->Loc
 | [],m=>m
 | (n,a)::r,m=>cP r (bw m n a)
noncomputable def Fl.val:Fl->V
 | .ret v=>v
 | _=> .none
noncomputable def Binds (g:G) (fd:FuncData) (xs:List V) (bs:List (Str×V)):Prop:=
 ∀ (A:Around) (s:Shared) (vs:List Value) (E:PE) (Q:List (Str×Value)->Shared->Prop),g.K.In s.heap->(∀ a∈ζ.bad, ∃ o,s.heap.get? a=some o)->bh s.heap xs vs->
  (∀ binds h',(∀ b o,s.heap.get? b=some o->h'.get? b=some o)->BR h' bs binds->Q binds { s with heap:=h' })->wpAny (model g.prog g.w) A (bindArgs fd ⟨vs,[]⟩) Q E s
structure aI (F' F:Fm) (sc:Scope):Prop where
 scope:F'.env.scope=sc
 handled:F'.A.handled=F.A.handled
 lvl:F'.lvl=F.lvl+1
 cells: ∀ x,sc.names.lookup x=some .cell-> ∃ c,F'.env.cells.lookup x=some c/\c∈F'.aS
 stack:F'.stack=F'.env::F.stack
noncomputable def Fm.call (F:Fm) (fd:FuncData) (f L:Addr):Fm where
 A:=F.A.deeper (callEnvC fd L f)
 env:=callEnvC fd L f
 stack:=callEnvC fd L f::F.stack
 aS:=L::(((cellsFrom (L+1) fd.scope.names []).filter fun p=>(cellsFrom (L+1) fd.scope.names []).lookup p.1 == some p.2).map (·.2))
 lvl:=F.lvl+1
section
variable {g:G} {F:Fm} {m:Loc} {H:AH} {s:Shared}
theorem qm {kindOf:Str->Option NameKind} {h:Heap}: ∀ {bs:List (Str×V)} {binds:List (Str×Value)} {m:Loc} {mr cm:Str->Option Value},BR h bs binds->(∀ x∈bs,kindOf x.1=some .local\/kindOf x.1=some .cell)->
  (∀ x a,m x=some a-> ∃ v,VR h a v/\((kindOf x=some .local/\mr x=some v)\/(kindOf x=some .cell/\cm x=some v)))->
  ∀ x a,cP bs m x=some a-> ∃ v,VR h a v/\((kindOf x=some .local/\bindL kindOf binds mr x=some v)\/(kindOf x=some .cell/\bindC kindOf binds cm x=some v)):=by
 intro L9
 induction L9 with
 | nil=>
  rintro _ m mr cm e _ hm
  cases e;exact hm
 | cons y9 bs ih=>
  obtain ⟨n,b⟩:=y9
  rintro _ m mr cm ⟨v,r,e,hv,hr⟩ hk hm
  subst e
  unfold cP bindL bindC
  refine ih hr (fun x hx=>hk x (List.mem_cons_of_mem _ hx)) fun x a hx=> ?_
  unfold bw at hx
  rcases hk _ List.mem_cons_self with q | q
  .have q:kindOf n=some .local:=q
   rw [if_pos q,if_pos q]
   by_cases z:x=n
   .subst z;obtain rfl:=oi (if_pos rfl) hx;exact ⟨v,hv, .inl ⟨q,if_pos rfl⟩⟩
   .rw [if_neg z] at hx
    obtain ⟨u,ru,w⟩:=hm x a hx
    exact ⟨u,ru,w.imp (fun cy=>cy.elim fun w1 w2=>⟨w1,((if_neg z)▸w2)⟩) id⟩
  .have q:kindOf n=some .cell:=q
   have q': ¬ kindOf n=some .local:=by rw [q];decide
   rw [if_neg q',if_neg q']
   by_cases z:x=n
   .subst z;obtain rfl:=oi (if_pos rfl) hx;exact ⟨v,hv, .inr ⟨q,if_pos rfl⟩⟩
   .rw [if_neg z] at hx
    obtain ⟨u,ru,w⟩:=hm x a hx
    exact ⟨u,ru,w.imp id fun cy=>cy.elim fun w1 w2=>⟨w1,((if_neg z)▸w2)⟩⟩
theorem St.lt (S:St g F m H s) {b:Addr} (n:s.heap.objs.size<=b):H b=none/\g.B.get? b=none/\s.heap.get? b=none:=by
 have e:s.heap.get? b=none:=Heap.get?_none_of_le n
 refine ⟨S.bZ e, ?_,e⟩
 cases q:g.B.get? b with
 | none=>rfl
 | some o=>exact nomatch ((S.base b o q).symm.trans e)
theorem St.enter {fd:FuncData} {f:Addr} {bs:List (Str×V)} {binds:List (Str×Value)} {s':Shared} (S:St g F m H s) (hl:F.lvl<100) (hk:fd.scope.kind= .function) (hg:fd.globals=mainGlobals) (hb:fd.builtins=builtinsNs)
  (G8:BR s.heap bs binds) (dH: ∀ x∈bs,fd.scope.names.lookup x.1=some .local\/fd.scope.names.lookup x.1=some .cell)
  (x:InCallC s (callEnvC fd s.heap.objs.size f).locals (bindL (callEnvC fd s.heap.objs.size f).kindOf binds fun z0=>none) (callEnvC fd s.heap.objs.size f).cells (bindC (callEnvC fd s.heap.objs.size f).kindOf binds fun z0=>none) s') (ht:1<=s'.toks):
  St g (F.call fd f s.heap.objs.size) (cP bs fun z0=>none) H s'/\aI (F.call fd f s.heap.objs.size) F fd.scope:=by
 obtain ⟨⟨⟨h',tk,rfl⟩,hn,kp,_⟩,hc,qn,qd⟩:=x
 have mn:dY s.heap h':=⟨fun z0 z0 z0 e=>kp _ _ e, .ext kp⟩
 have big: ∀ n c,(callEnvC fd s.heap.objs.size f).cells.lookup n=some c->s.heap.objs.size<=c:=fun n c e=>Nat.le_of_lt (qd n c (mem_of_lookup e))
 have Uo:(callEnvC fd s.heap.objs.size f).locals=s.heap.objs.size:=rfl
 obtain ⟨oL,AY,AZ,eL,dL,_⟩:=id hn
 refine ⟨⟨fun b o e=>kp b o (S.base b o e),fun b o e=> ?_,⟨hk,⟨_,hn,fun y a ha=> ?_⟩,fun y c hy=>⟨(S.lt (big y c hy)).1,_,hc y c hy⟩,fun y z c hy hz=>name_of_addr qn (mem_of_lookup hy) (mem_of_lookup hz)⟩,List.mem_cons_self,fun b gD=> ?_, ?_,fun b gD=> ?_,rfl, ?_,S.gens,S.os, ?_,⟨hg,hb⟩,(S.lB fun b o e=>⟨o,kp b o e⟩),ht⟩,
  ⟨rfl,rfl,rfl,fun y hy=> ?_,rfl⟩⟩
 .obtain ⟨b1,b2⟩:=S.obj b o e
  obtain ⟨r,e',_⟩:=b2.get
  exact ⟨b1,b2.mono mn ((kp b r e').trans e'.symm)⟩
 .obtain ⟨v,rv,w⟩:=qm (kindOf:=(callEnvC fd s.heap.objs.size f).kindOf) (mr:=fun z0=>none) (cm:=fun z0=>none) (BR.mono mn.tup _ _ G8) dH (fun z0 z0 q=>by cases q) y a ha
  rcases w with ⟨w,w'⟩ | ⟨w1,w2⟩
  .exact .loc v rv w w'
  .have:((cellsFrom (s.heap.objs.size+1) fd.scope.names []).lookup y).isSome=true:=cellsFrom_some _ _ _ (.inl w1)
   obtain ⟨c,ec⟩:=Option.isSome_iff_exists.mp this
   exact .gb v rv (.inl w1) c ec (w2▸hc y c ec)
 .rcases List.mem_cons.mp gD with rfl | gD
  .obtain ⟨n1,n2,_⟩:=S.lt (Nat.le_refl s.heap.objs.size)
   exact ⟨n1,n2,oL,eL, .inl ⟨_,_,dL⟩⟩
  .obtain ⟨p,hp,rfl⟩:=List.mem_map.mp gD
   have e:=eq_of_beq (List.mem_filter.mp hp).2
   obtain ⟨n1,n2,_⟩:=S.lt (big p.1 p.2 e)
   obtain ⟨o,eo,d⟩:=hc p.1 p.2 e
   exact ⟨n1,n2,o,eo, .inr ⟨_,d⟩⟩
 .refine ⟨by show fd.scope.kind≠ .module;rw [hk];decide,⟨_,oL,rfl,(S.lt (Nat.le_refl s.heap.objs.size)).2.1,eL,fun vs q=>by exact Data.noConfusion (dL.symm.trans q)⟩, ?_⟩
  exact bc S.jJ fun b gD o e=>⟨o,kp b o e,id⟩
 .have MO:b=s.heap.objs.size\/b∈F.fr:=by
   have:b∈s.heap.objs.size::F.fr:=gD
   exact List.mem_cons.mp this
  rcases MO with rfl | gD
  .exact ⟨(S.lt (Nat.le_refl s.heap.objs.size)).1,oL,AY,AZ,eL,dL⟩
  .obtain ⟨h1,o,es,ep,h3,h4⟩:=S.gJ b gD
   exact ⟨h1,o,es,ep,kp b o h3,h4⟩
 .exact Around.frames_deeper S.lA
 .obtain ⟨r1,r2,r3,r4⟩:=S.room
  refine ⟨?_, ?_,hl,r4⟩
  .show F.A.depth+1<=310+3*(F.lvl+1);exact Pw r1
  .show F.A.units+3<=100+20*(F.lvl+1);exact Px r2
 .have:((cellsFrom (s.heap.objs.size+1) fd.scope.names []).lookup y).isSome=true:=cellsFrom_some _ _ _ (.inl hy)
  obtain ⟨c,ec⟩:=Option.isSome_iff_exists.mp this
  exact ⟨c,ec,List.mem_cons_of_mem _ (List.mem_map.mpr ⟨(y,c),List.mem_filter.mpr ⟨mem_of_lookup ec,by rw [ec];simp⟩,rfl⟩)⟩
theorem St.back {F':Fm} {m':Loc} {H':AH} {av s':Shared} (S:St g F m H s) (kp: ∀ b o,s.heap.get? b=some o->av.heap.get? b=some o) (kH:F'.stack=F'.env::F.stack) (xR:F'.env.frame=some s.heap.objs.size)
  (qd: ∀ b∈F'.aS,s.heap.objs.size<=b) (S':St g F' m' H' s') (K':aF F' av.heap H s'.heap H'):
  St g F m H' s'/\aF F s.heap H s'.heap H':=by
 have PY:F'.fr=s.heap.objs.size::F.fr:=by unfold Fm.fr;rw [kH,List.filterMap_cons,xR]
 have lt: ∀ b o,s.heap.get? b=some o->b∉F'.aS:=fun b o e q=>Nat.lt_irrefl _ (Nat.lt_of_lt_of_le (Heap.lt_size e) (qd b q))
 have fr: ∀ b o,s.heap.get? b=some o->b∈F'.fr->b∈F.fr:=fun b o e q=>by
  rw [PY] at q
  rcases List.mem_cons.mp q with rfl | q
  .exact absurd (Heap.lt_size e) (Nat.lt_irrefl _)
  .exact q
 have same: ∀ b o,s.heap.get? b=some o->H b=none->H' b=none/\Kept F.fr s'.heap b o:=fun b o e n=>by
  obtain ⟨n',z⟩:=K'.same b o (kp b o e) n (lt b o e)
  exact ⟨n',z.of (fr b o e)⟩
 have K:aF F s.heap H s'.heap H':=⟨fun b o e=>K'.alive b o (kp b o e),(lu.ext kp).trans K'.dct,fun b o e n z0=>same b o e n⟩
 refine ⟨⟨S'.base,S'.obj, ?_,S.eF,fun b hb=> ?_,(kH▸S'.jJ).2.2,fun b hb=>S'.gJ b (PY▸List.mem_cons_of_mem _ hb),S.frame,S.lA,S'.gens,S'.os,S.room,S.eG,S'.dead,S'.tk⟩,K⟩
 .refine S.loc.mono (K.mono S) (fun y c hy=> ?_) fun b hb o e=>(same b o e (S.gu b hb).1).2.any
  obtain ⟨n,o,e,_⟩:=S.gu c (.inr ⟨y,hy⟩)
  exact (same c o e n).1
 .obtain ⟨n1,n2,o,e,w⟩:=S.aS b hb
  obtain ⟨n',z⟩:=same b o e n1
  rcases z with z | ⟨_,sl,z⟩
  .exact ⟨n',n2,o,z,w⟩
  .exact ⟨n',n2,_,z,w⟩
end
section
variable {g:G} {F:Fm} {m:Loc} {H:AH} {Q:PV} {X:PX}
theorem ug {f:Addr} {fd:FuncData} {oc:Value} {od:Option Addr} {A5:Array (Option Value)} {body:List Stmt} {xs:List V} {bs:List (Str×V)}
  (ho:g.K.lookup f=some ⟨oc,od, .func fd,A5⟩) (xU:codeIn g.K fd.code fd.qualname=true) (jc:fd.body= .stmts body) (hg:fd.globals=mainGlobals) (hb:fd.builtins=builtinsNs) (lE:fd.closure=[])
  (vu:fd.scope.isCoroutine=false) (lF:fd.scope.isGenerator=false) (hk:fd.scope.kind= .function) (hl:F.lvl<100) (iz:Binds g fd xs bs)
  (dH:(bs.all fun x=>fd.scope.names.lookup x.1 == some .local || fd.scope.names.lookup x.1 == some .cell)=true)
  (h: ∀ F',aI F' F fd.scope->F'.env.code=fd.code/\F'.env.qual=fd.qualname++".<locals>."->WS g F' (execs body F'.env) (cP bs fun z0=>none) H (xM Q Fl.val m) (vp X m)) {s:Shared} {vs:List Value} (S:St g F m H s) (hv:bh s.heap xs vs):
  codeAny (model g.prog g.w) F.A (.call (.ref f) ⟨vs,[]⟩) (fun r s'=>match r with | .ok (.ret v)=>bG g F VR Q s.heap H v s' | .ok _=>False | .error e=>dA g F X s.heap H e s') s:=by
 have r6: ∀ x∈bs,fd.scope.names.lookup x.1=some .local\/fd.scope.names.lookup x.1=some .cell:=fun x hx=>by
  have:=List.all_eq_true.mp dH x hx
  simpa using this
 have X0:=g.gq.keeps S.base
 refine codeAny_call_function (by rw [show recursionLimit=1000 from rfl];have:=S.room;exact Py this) (X0 _ _ ho) rfl vu lF jc (codeRec_of X0 xU) ?_
 refine iz _ s vs _ _ X0 S.dead hv fun binds h' A7 br=> ?_
 obtain ⟨ah,bq⟩:=S.ext (t:=s.toks) A7
 replace ah:=ah S.tk
 have names: ∀ x∈binds, ∃ y∈bs,y.1=x.1:=by
  clear ah bq h dH r6 iz
  induction bs generalizing binds with
  | nil=>cases br;intro x hx;cases hx
  | cons b bs ih=>
   obtain ⟨v,r,rfl,_,hr⟩:=br
   intro x hx
   rcases List.mem_cons.mp hx with rfl | hx
   .exact ⟨b,List.mem_cons_self,rfl⟩
   .obtain ⟨y,hy,e⟩:=ih r hr x hx;exact ⟨y,List.mem_cons_of_mem _ hy,e⟩
 rw [lE]
 refine fO S.tk (wpAny_newFunctionEnv_cells hk (fun x hx=> ?_) fun env he a9 x ht=> ?_)
 .obtain ⟨y,hy,e⟩:=names x hx
  rw [<- e]
  exact (r6 y hy).imp id fun q=>⟨q,cellsFrom_some _ _ _ (.inl q)⟩
 .subst he
  have x':InCallC { s with heap:=h' } (callEnvC fd h'.objs.size f).locals (bindL (callEnvC fd h'.objs.size f).kindOf binds fun z0=>none) (callEnvC fd h'.objs.size f).cells (bindC (callEnvC fd h'.objs.size f).kindOf binds fun z0=>none) a9:=x
  have nN: ∀ b o,h'.get? b=some o->a9.heap.get? b=some o:=x'.toInCall.keep
  refine ⟨(g.nG.keeps ah.base).keeps nN,codeAny_func ?_⟩
  obtain ⟨aB,hF⟩:=ah.enter hl hk hg hb br r6 x' ht
  have qd: ∀ b∈(F.call fd f h'.objs.size).aS,h'.objs.size<=b:=fun b gD=>by
   rcases List.mem_cons.mp gD with rfl | gD
   .exact Nat.le_refl _
   .obtain ⟨p,hp,rfl⟩:=List.mem_map.mp gD
    exact Nat.le_of_lt (x'.above p.1 p.2 (mem_of_lookup (eq_of_beq (List.mem_filter.mp hp).2)))
  refine aU aB.tk (h _ hF ⟨rfl,rfl⟩ a9 aB) (fun fl aP w5 eJ dk dZ bf dG dU=> ?_) fun e aP yy=>yy.elim fun c as eJ dk xV bf dG dU=> ?_
  .obtain ⟨c6,eZ⟩:=ah.back nN rfl rfl qd bf dG
   refine ⟨w5.val,m,dk, ?_,fun z0=>c6,bq.trans eZ,dU⟩
   cases w5 with
   | ret a=>obtain ⟨v,rfl,rv⟩:=dZ;exact rv
   | next=>cases dZ;exact .eS
   | brk=>cases dZ;exact .eS
   | cont=>cases dZ;exact .eS
  .show wpAny (model g.prog g.w) (F.call fd f h'.objs.size).A (leaving (F.call fd f h'.objs.size).env e) _ _ aP
   have B0:g.B.StaysIn a9.heap:=aB.base
   refine wpAny_bind (note bf dG B0 xV ⟨_,rfl⟩ fun eM c6 eZ DU=>iN c6 eZ B0 DU fun Ha gh lG DV=> ?_)
   obtain ⟨r9,xW⟩:=ah.back nN rfl rfl qd gh lG
   exact ⟨c,as,m,dk,DV.Jr.since (fun b o e=>⟨o,nN b o (A7 b o e)⟩),r9,bq.trans xW,dU⟩
theorem DW {f:Addr} {fd:FuncData} {oc:Value} {od:Option Addr} {A5:Array (Option Value)} {body:List Stmt} {xs:List V} {bs:List (Str×V)}
  (ho:g.K.lookup f=some ⟨oc,od, .func fd,A5⟩) (xU:codeIn g.K fd.code fd.qualname=true) (jc:fd.body= .stmts body) (hg:fd.globals=mainGlobals) (hb:fd.builtins=builtinsNs) (lE:fd.closure=[])
  (vu:fd.scope.isCoroutine=false) (lF:fd.scope.isGenerator=false) (hk:fd.scope.kind= .function) (hl:F.lvl<100) (iz:Binds g fd xs bs)
  (dH:(bs.all fun x=>fd.scope.names.lookup x.1 == some .local || fd.scope.names.lookup x.1 == some .cell)=true)
  (h: ∀ F',aI F' F fd.scope->WS g F' (execs body F'.env) (cP bs fun z0=>none) H (xM Q Fl.val m) (vp X m)) {s:Shared} {vs:List Value} (S:St g F m H s) (hv:bh s.heap xs vs):
  codeAny (model g.prog g.w) F.A (.call (.ref f) ⟨vs,[]⟩) (fun r s'=>match r with | .ok (.ret v)=>bG g F VR Q s.heap H v s' | .ok _=>False | .error e=>dA g F X s.heap H e s') s:=
 ug ho xU jc hg hb lE vu lF hk hl iz dH (fun F' hF z0=>h F' hF) S hv
theorem oU {α:Type} {vs:List α} (h:vs.length=1): ∃ v,vs=[v]:=List.length_eq_one_iff.mp h
theorem vv {α:Type} {vs:List α} (h:vs.length=2): ∃ v u,vs=[v,u]:=by
 cases vs with
 | nil=>cases h
 | cons v vs=>exact (oU (Nat.succ.inj h)).elim fun u e=>⟨v,u,(e▸rfl)⟩
theorem DX {α:Type} {vs:List α} (h:vs.length=3): ∃ v u w,vs=[v,u,w]:=by
 cases vs with
 | nil=>cases h
 | cons v vs=>exact (vv (Nat.succ.inj h)).elim fun u e=>e.elim fun w e=>⟨v,u,w,(e▸rfl)⟩
theorem a7 {fd:FuncData} {xs:List V} {bs:List (Str×V)} (r:List Value->List (Str×Value)) (e: ∀ vs S,vs.length=xs.length->peek g.K S (bindArgs fd ⟨vs,[]⟩)=some (r vs)) (hr: ∀ h vs,bh h xs vs->BR h bs (r vs)):Binds g fd xs bs:=
 fun A s vs E Q X z0 hv hq=>(Looks.of_peek (M:=model g.prog g.w) X (e vs _ hv.length)).here (hq (r vs) s.heap (fun z0 z0 z=>z) (hr _ _ hv))
end
end
noncomputable def jK (A:Around) (h:Heap):Prop:=A.handled=none\/ ∃ x o vs,A.handled=some (.ref x)/\h.get? x=some o/\o.data= .fields vs/\vs[2]? =some .none
theorem jK.in1 {A:Around} {h:Heap} (k:jK A h):jK A.in1 h:=k
theorem jK.up {A:Around} {h h':Heap} (k:jK A h) (u: ∀ b o,h.get? b=some o->h'.get? b=some o\/ ∀ vs,o.data= .fields vs->False):jK A h':=k.imp id fun ⟨x,o,vs,e1,e2,e3,e4⟩=>⟨x,o,vs,e1,(u x o e2).resolve_right fun z=>z vs e3,e3,e4⟩
section
variable {prog:Program} {w:World} {A:Around} {E:PE} {s:Shared}
theorem mV:entryFor table "proto.unchain"=some Builtin.«proto.unchain»:=entryFor_of_fast (by kernel_rfl)
theorem mW:plainId "proto.unchain"=true:=by decide+kernel
theorem vw {α:Type} {a:Addr} {o:Obj} {vs:Array Value} {Q:α->Shared->Prop} (k:jK A s.heap) (ha:s.heap.get? a=some o) (hd:o.data= .fields vs) (hz:2<vs.size) (hn:A.handled≠some (.ref a))
  (h: ∀ h',(∀ b o,b≠a->s.heap.get? b=some o->h'.get? b=some o)->(∃ o',h'.get? a=some o'/\o'.cls=o.cls)->E (.ref a) { s with heap:=h' }):wpAny (model prog w) A (raiseNew (.ref a):Sem α) Q E s:=by
 skip
 refine wpAny_bind (wpAny_handled ?_)
 rcases k with k | ⟨x,ox,vx,e1,e2,e3,e4⟩
 .rw [k]
  exact wpAny_bind (wpAny_pure (wpAny_throw (h s.heap (fun z0 z0 z0 e=>e) ⟨o,ha,rfl⟩)))
 .have R1:x≠a:=fun q=>hn (by rw [e1,q])
  have c1:(Value.ref x != Value.ref a)=true:=by simpa [bne,BEq.beq] using R1
  rw [e1]
  simp only [c1,if_true]
  refine wpAny_bind (wpAny_holding (wpAny_runValue (codeAny_builtin mV ?_)))
  rw [Around.under_plainId mW _]
  skip
  refine wpAny_bind (wpAny_field e2 e3 e4 ?_)
  refine bD ((by rfl)) ?_
  refine wpAny_pure ?_
  skip
  exact wpAny_bind (wpAny_setField ha hd hz (wpAny_throw (h _ (fun b ob n e=>(Heap.get?_update_other _ _ (Ne.symm n)).trans e) ⟨_,Heap.get?_update_self _ ha (Obj.isFreed_of_fields (Obj.data_mapFields hd _)),Obj.cls_mapFields ..⟩)))
theorem lH {α:Type} {Q:α->Shared->Prop} (k:jK A s.heap) (h: ∀ h' e,(∀ b o,s.heap.get? b=some o->h'.get? b=some o)->(∃ o,h'.get? e=some o/\o.cls= .type "StopIteration")->E (.ref e) { s with heap:=h' }):
  wpAny (model prog w) A (do raiseNew (<- newExc (.type "StopIteration") []):Sem α) Q E s:=by
 refine wpAny_bind ?_
 simp only [newExc,newTuple]
 refine wpAny_bind (wpAny_newObj_type ?_ (by size_fits))
 refine wpAny_bind (m:=firstArgMember _ _) (wpAny_of_eq (a:=Value.none) (by first | rfl | (simp only [firstArgMember];rfl)) ?_)
 refine wpAny_newObj_type ?_ (by size_fits)
 have up: ∀ (o o':Obj) b ob,s.heap.get? b=some ob->((s.heap.push o).push o').get? b=some ob:=fun o o' b ob e=>Heap.get?_push_of_some _ (Heap.get?_push_of_some _ e)
 refine vw (k.up fun b o e=> .inl (up _ _ b o e)) (Heap.get?_push_size _ rfl) rfl (by simp;exact Lb) (fun q=> ?_) fun h' u e=>h h' _ (fun b o x=>u b o (fun z=> ?_) (up _ _ b o x)) (e.elim fun o' z=>⟨o',z.1,z.2⟩)
 .rcases k with k | ⟨x,ox,vx,e1,e2,_⟩
  .rw [k] at q;cases q
  .rw [e1] at q;cases q
   have:=Heap.lt_size e2
   rw [Heap.size_push] at this;exact absurd this (Nat.not_lt.mpr (Nat.le_succ _))
 .subst z
  have:=Heap.lt_size x
  rw [Heap.size_push] at this;exact absurd this (Nat.not_lt.mpr (Nat.le_succ _))
theorem gK {it:Addr} {h₁:Heap} {Q:PO} {av:Shared} (k:jK A h₁) (fN:av.heap=h₁)
  (hQ: ∀ h',(∀ b o,h₁.get? b=some o->h'.get? b=some o)->Q none { av with heap:=h' }):
  wpAny (model prog w) A.in1 (do raiseNew (<- newExc (.type "StopIteration") [])) (fun (fin:Fin) s'=> ∃ v,fin= .done (.ret v)/\wpAny (model prog w) A (pure (some v)) Q E s')
   (fun x s'=>wpAny (model prog w) A (do if <- isInstance x (.type "StopIteration") then return (none:Option Value) else throw x) Q E s') av:=by
 subst fN
 refine lH k.in1 fun h' e u z=> ?_
 refine wpAny_bind (wpAny_isInstance (T:="StopIteration") (b:=true) z isSubtype_stop ?_)
 exact wpAny_pure (hQ h' u)
theorem jK.it {h:Heap} {it:Addr} {o:Obj} {f:Obj->Obj} (k:jK A h) (hi: ∀ x,A.handled=some (.ref x)->x≠it):jK A (h.update it f):=k.imp id fun ⟨x,ox,vs,e1,e2,e3,e4⟩=>⟨x,ox,vs,e1,(Heap.get?_update_other _ _ (Ne.symm (hi x e1))).trans e2,e3,e4⟩
theorem nO {it l:Addr} {i:Nat} {items:Array Value} {Q:PO} (k:jK A s.heap) (hi: ∀ x,A.handled=some (.ref x)->x≠it) (hit:s.heap.IsListIter it l i) (hl:s.heap.IsList l items) (hx:items[i]? =none)
  (hQ: ∀ h',Heap.ExtBut it s.heap h'->Q none { s with heap:=h' }):wpAny (model prog w) A (pyNext (.ref it)) Q E s:=by
 obtain ⟨o,ho,hc,hd⟩:=id hit
 obtain ⟨ol,MP,_,nl,MQ⟩:=hl
 skip
 refine wpAny_bind (wpAny_attempt (wpAny_callSpecial?_slot (name:=Str.ofString "__next__") hit.typeIs slot_listiter_next (wpAny_call_entry slot_listiter_next hit.typeIs entry_listiter_next ?_ (args_listiter_next _))))
 show wpAny _ _ (field (.ref it) 0 >>=_) _ _ s
 refine wpAny_bind (wpAny_field ho hd (x:= .ref l) rfl ?_)
 skip
 refine az ((show ¬ ((Value.ref l == Value.none)=true) from Bool.false_ne_true)) ?_
 skip
 refine wpAny_bind (wpAny_field ho hd (x:= .int i 0) rfl ?_)
 skip
 refine wpAny_bind (wpAny_seqItems MP MQ ?_)
 simp only [Int.toNat_natCast,hx]
 refine wpAny_bind (wpAny_rule (wpAny_bind (wpAny_setField ho hd (by simp) ?_)))
 exact gK (it:=it) (k.it (o:=o) hi) rfl fun h' u=>hQ h' fun b ob n e=>u b ob ((Heap.get?_update_other _ _ (Ne.symm n)).trans e)
theorem lI {it t:Addr} {i:Nat} {items:Array Value} {Q:PO} (k:jK A s.heap) (hi: ∀ x,A.handled=some (.ref x)->x≠it) (hit:IsTupIter s.heap it t i) (ht:IsTup s.heap t items) (hx:items[i]? =none)
  (hQ: ∀ h',Heap.ExtBut it s.heap h'->Q none { s with heap:=h' }):wpAny (model prog w) A (pyNext (.ref it)) Q E s:=by
 obtain ⟨o,ho,hc,hd⟩:=id hit
 obtain ⟨ol,MP,_,nl,MQ⟩:=ht
 skip
 refine wpAny_bind (wpAny_attempt (wpAny_callSpecial?_slot (name:=Str.ofString "__next__") hit.typeIs slot_tupleiter_next (wpAny_call_entry slot_tupleiter_next hit.typeIs entry_tupleiter_next ?_ (args_tupleiter_next _))))
 show wpAny _ _ (field (.ref it) 0 >>=_) _ _ s
 refine wpAny_bind (wpAny_field ho hd (x:= .ref t) rfl ?_)
 skip
 refine az ((show ¬ ((Value.ref t == Value.none)=true) from Bool.false_ne_true)) ?_
 skip
 refine wpAny_bind (wpAny_field ho hd (x:= .int i 0) rfl ?_)
 skip
 refine wpAny_bind (wpAny_seqItems MP MQ ?_)
 simp only [Int.toNat_natCast,hx]
 refine wpAny_bind (wpAny_rule (wpAny_bind (wpAny_setField ho hd (by simp) ?_)))
 exact gK (it:=it) (k.it (o:=o) hi) rfl fun h' u=>hQ h' fun b ob n e=>u b ob ((Heap.get?_update_other _ _ (Ne.symm n)).trans e)
theorem sg {it:Addr} {x left step:Int} {Q:PO} (k:jK A s.heap) (hit:IsRangeIter s.heap it x left step) (Hb:left<=0)
  (hQ: ∀ h',Heap.ExtBut it s.heap h'->Q none { s with heap:=h' }):wpAny (model prog w) A (pyNext (.ref it)) Q E s:=by
 have hT:s.TypeIs (.ref it) "range_iterator":=⟨_,hit,rfl⟩
 skip
 refine wpAny_bind (wpAny_attempt (wpAny_callSpecial?_slot (name:=Str.ofString "__next__") hT F.slot_range_iterator_next (wpAny_call_entry F.slot_range_iterator_next hT F.entry_range_iterator_next ?_ (F.args_range_iterator_next_1 _))))
 show wpAny _ _ (field (.ref it) 0 >>=_) _ _ s
 refine wpAny_bind (wpAny_field hit rfl (x:=rawInt x) rfl ?_)
 skip
 refine wpAny_bind (wpAny_field hit rfl (x:=rawInt left) rfl ?_)
 skip
 refine wpAny_bind (wpAny_field hit rfl (x:=rawInt step) rfl ?_)
 skip
 refine bD Hb ?_
 refine wpAny_bind (wpAny_rule ?_)
 refine wpAny_bind (lH k.in1 fun h' e u z=> ?_)
 refine wpAny_bind (wpAny_isInstance (T:="StopIteration") (b:=true) z isSubtype_stop ?_)
 exact wpAny_pure (hQ h' fun b ob z0 e=>u b ob e)
end
noncomputable def Hk (g:G) (F:Fm):Prop:=jK F.A g.B
section
variable [ζ:bW]
theorem Hk.inl {g:G} {F:Fm} (h:F.A.handled=none):Hk g F:=Or.inl h
theorem Hk.at {g:G} {F:Fm} {m:Loc} {H:AH} {s:Shared} (k:Hk g F) (S:St g F m H s):jK F.A s.heap:=jK.up k fun b o e=> .inl (S.base b o e)
theorem Hk.ne {g:G} {F:Fm} {it:Addr} (k:Hk g F) (n:g.B.get? it=none): ∀ x,F.A.handled=some (.ref x)->x≠it:=fun x e q=>by
 subst q
 rcases k with k | ⟨y,o,vs,e1,e2,_⟩
 .exact on k e
 .rw [e1] at e;cases e;rw [n] at e2;cases e2
theorem jK.same {A:Around} {h h':Heap} {it:Addr} (k:jK A h) (hi: ∀ x,A.handled=some (.ref x)->x≠it) (b:Heap.SameBut it h h'):jK A h':=k.imp id fun ⟨x,ox,vs,e1,e2,e3,e4⟩=>⟨x,ox,vs,e1,(b.2 x (hi x e1)).trans e2,e3,e4⟩
section
variable {g:G} {F:Fm} {m:Loc} {H:AH} {s:Shared} {h₀:Heap} {H₀:AH}
structure PZ (b:Addr) (o:Obj):Prop where
 nd: ∀ es ep,o.data≠ .dict es ep
 nc: ∀ v,o.data≠ .cell v
 ni: ¬ eW b o
theorem St.Hc {ws:List Addr} {h':Heap} {t:Nat} (S:St g F m H s) (ob: ∀ b∈ws, ∃ o,s.heap.get? b=some o/\PZ b o) (hH: ∀ b∈ws,H b=none) (hB: ∀ b∈ws,g.B.get? b=none)
  (C: ∀ c o',s.heap.get? c=some o'->c∉ws->h'.get? c=some o') (al: ∀ b∈ws,oK b\/ ∃ o,h'.get? b=some o):
  (1<=t->St g F m H { s with heap:=h',toks:=t })/\(aF F h₀ H₀ s.heap H->(∀ b∈ws,h₀.get? b=none)->aF F h₀ H₀ h' H):=by
 have DY: ∀ b o,s.heap.get? b=some o->Own o->b∉ws:=fun b o e w q=>by
  obtain ⟨o',e',d⟩:=ob b q
  obtain rfl:=oi e e'
  rcases w with ⟨_,_,w⟩ | ⟨_,w⟩
  .exact d.nd _ _ w
  .exact d.nc _ w
 have DZ: ∀ b o es ep,s.heap.get? b=some o->o.data= .dict es ep->b∉ws:=fun b o es ep e d=>DY b o e (.inl ⟨_,_,d⟩)
 have dc:lu s.heap h':= .of fun c o' es ep e' d=>⟨o',es,ep,C c o' e' (DZ c o' es ep e' d),d⟩
 have mn:dY s.heap h':=⟨fun a o' i e'=>C a o' e' (fun q=>by obtain ⟨o,e,d⟩:=ob a q;obtain rfl:=oi e e';exact d.ni i),dc⟩
 refine ⟨fun ht=>⟨fun c o' e'=>C c o' (S.base c o' e') (fun q=>by exact on (hB c q) e'),fun c o' e'=> ?_, ?_,S.eF,fun c mX=> ?_, ?_,fun c mX=> ?_,S.frame,S.lA,S.gens,S.os,S.room,S.eG,fun a ha=> ?_,ht⟩,fun K n0=>⟨fun c o' e'=>(K.alive c o' e').elim fun oR i6=>⟨oR,C c oR i6 (fun q=>by exact on (n0 c q) e')⟩,K.dct.trans dc,fun c o' e' n mX=> ?_⟩⟩
 .obtain ⟨b1,b2⟩:=S.obj c o' e'
  obtain ⟨r,i6,_⟩:=b2.get
  exact ⟨b1,b2.mono mn ((C c r i6 fun q=>by exact on (hH c q) e').trans i6.symm)⟩
 .refine S.loc.mono mn (fun y c hy=>(S.gu c (.inr ⟨y,hy⟩)).1) fun c mX o' e'=> .inl (C c o' e' ?_)
  obtain ⟨_,oR,i6,w⟩:=S.gu c mX
  exact DY c oR i6 w
 .obtain ⟨h1,h2,o',h3,h4⟩:=S.aS c mX
  exact ⟨h1,h2,o',C c _ h3 (DY c o' h3 h4),h4⟩
 .refine bc S.jJ fun c mX o' e'=>⟨_,C c o' e' ?_,id⟩
  obtain ⟨_,oR,es,ep,i6,d⟩:=S.gJ c mX
  exact DZ c oR es ep i6 d
 .obtain ⟨h1,o',es,ep,h3,h4⟩:=S.gJ c mX
  exact ⟨h1,o',es,ep,C c _ h3 (DZ c o' es ep h3 h4),h4⟩
 .by_cases q:a∈ws
  .rcases al a q with z | z
   .exact absurd ha z
   .exact z
  .obtain ⟨o,e⟩:=S.dead a ha
   exact ⟨o,C a o e q⟩
 .obtain ⟨n',z⟩:=K.same c o' e' n mX
  have cb:c∉ws:=fun q=>by exact on (n0 c q) e'
  refine ⟨n', ?_⟩
  rcases z with z | ⟨w,sl,z⟩
  .exact .inl (C c _ z cb)
  .exact .inr w sl (C c _ z cb)
theorem St.un {b:Addr} {o:Obj} {h':Heap} {t:Nat} (S:St g F m H s) (e:s.heap.get? b=some o) (hd:(∀ es ep,o.data≠ .dict es ep)/\ ∀ v,o.data≠ .cell v) (hH:H b=none) (hB:g.B.get? b=none) (hi:ig o.cls=false) (C: ∀ c o',s.heap.get? c=some o'->c≠b->h'.get? c=some o') (al:oK b\/ ∃ o,h'.get? b=some o):
  (1<=t->St g F m H { s with heap:=h',toks:=t })/\(aF F h₀ H₀ s.heap H->h₀.get? b=none->aF F h₀ H₀ h' H):=by
 obtain ⟨a1,a2⟩:=S.Hc (ws:=[b]) (h₀:=h₀) (H₀:=H₀) (h':=h') (t:=t) (fun c hc=>by rw [List.mem_singleton] at hc;subst hc;exact ⟨o,e,hd.1,hd.2,fun i=>by exact Bool.noConfusion (i.cls.symm.trans hi)⟩) (fun c hc=>by rw [List.mem_singleton] at hc;subst hc;exact hH) (fun c hc=>by rw [List.mem_singleton] at hc;subst hc;exact hB)
  (fun c o' e' q=>C c o' e' fun z=>q ((z▸List.mem_singleton_self _))) (fun c hc=>by rw [List.mem_singleton] at hc;subst hc;exact al)
 exact ⟨a1,fun K n0=>a2 K fun c hc=>by rw [List.mem_singleton] at hc;subst hc;exact n0⟩
theorem St.off {b:Addr} {h':Heap} {t:Nat} (S:St g F m H s) (C: ∀ c o',s.heap.get? c=some o'->c≠b->h'.get? c=some o') (hH:H b=none) (hB:g.B.get? b=none) (hm:b∉F.aS) (hf:b∉F.fr)
  (hc: ∀ y,F.env.cells.lookup y≠some b) (hi: ∀ o,s.heap.get? b=some o-> ¬ eW b o) (hd: ∀ o es ep,s.heap.get? b=some o->o.data= .dict es ep->DH h' b) (ha: ∃ o,h'.get? b=some o):
  (1<=t->St g F m H { s with heap:=h',toks:=t })/\(aF F h₀ H₀ s.heap H->h₀.get? b=none->aF F h₀ H₀ h' H):=by
 have dc:lu s.heap h':= .of fun c o' es ep e' d=>by
  by_cases q:c=b
  .subst q;exact hd o' es ep e' d
  .exact ⟨o',es,ep,C c o' e' q,d⟩
 have mn:dY s.heap h':=⟨fun a o' i e'=>C a o' e' (fun q=>by subst q;exact hi o' e' i),dc⟩
 refine ⟨fun ht=>⟨fun c o' e'=>C c o' (S.base c o' e') (fun q=>by subst q;exact on hB e'),fun c o' e'=> ?_, ?_,S.eF,fun c mX=> ?_, ?_,fun c mX=> ?_,S.frame,S.lA,S.gens,S.os,S.room,S.eG,fun a z=> ?_,ht⟩,fun K n0=>⟨fun c o' e'=>(K.alive c o' e').elim fun oR i6=>⟨oR,C c oR i6 (fun q=>by subst q;exact on n0 e')⟩,K.dct.trans dc,fun c o' e' n mX=> ?_⟩⟩
 .obtain ⟨b1,b2⟩:=S.obj c o' e'
  obtain ⟨r,i6,_⟩:=b2.get
  exact ⟨b1,b2.mono mn ((C c r i6 fun q=>by subst q;exact on hH e').trans i6.symm)⟩
 .refine S.loc.mono mn (fun y c hy=>(S.gu c (.inr ⟨y,hy⟩)).1) fun c mX o' e'=> .inl (C c o' e' ?_)
  rcases mX with rfl | ⟨y,hy⟩
  .exact fun q=>hm (q▸S.eF)
  .exact fun q=>hc y (q▸hy)
 .obtain ⟨h1,h2,o',h3,h4⟩:=S.aS c mX
  exact ⟨h1,h2,o',C c _ h3 (fun q=>hm (q▸mX)),h4⟩
 .refine bc S.jJ fun c mX o' e'=>⟨_,C c o' e' (fun q=>hf (q▸mX)),id⟩
 .obtain ⟨h1,o',es,ep,h3,h4⟩:=S.gJ c mX
  exact ⟨h1,o',es,ep,C c _ h3 (fun q=>hf (q▸mX)),h4⟩
 .by_cases q:a=b
  .subst q;exact ha
  .obtain ⟨o,e⟩:=S.dead a z
   exact ⟨o,C a o e q⟩
 .obtain ⟨n',z⟩:=K.same c o' e' n mX
  have cb:c≠b:=fun q=>by subst q;exact on n0 e'
  refine ⟨n', ?_⟩
  rcases z with z | ⟨w,sl,z⟩
  .exact .inl (C c _ z cb)
  .exact .inr w sl (C c _ z cb)
theorem xX {o:Obj} {vs:Array Value} (hd:o.data= .fields vs):(∀ es ep,o.data≠ .dict es ep)/\ ∀ v,o.data≠ .cell v:=⟨fun z0 z0 q=>(by exact Data.noConfusion (hd.symm.trans q)),fun z0 q=>(by rw [hd] at q;cases q)⟩
noncomputable def oV:List String:=["enumerate","zip","dict_itemiterator","dict_reverseitemiterator","odict_iterator","itertools.zip_longest","itertools.pairwise"]
noncomputable def qo:Expr->Bool:=fun z0=>true
noncomputable def A8:Expr->Bool:=isTupleDisplay
theorem uh {e:Expr} (h:A8 e=true): ∃ a b c,e= .Tuple a b c:=by cases e <;> first | exact ⟨_,_,_,rfl⟩ | exact Bool.noConfusion h
structure Iter (g:G) (F:Fm) (it:Addr) (ws:List Addr) (P:Nat->Heap->Prop) (C:AH->Prop) (n:Nat) (val:NV) (tg:Expr->Bool):Prop where
 obj: ∀ i h,P i h-> ∀ b∈ws, ∃ o,h.get? b=some o/\PZ b o
 stay: ∀ i h h',P i h->(∀ b∈ws,h'.get? b=h.get? b)->dY h h'->P i h'
 item: ∀ i m H s (Q:PO) (E:PE),i<n->St g F m H s->P i s.heap->C H->
  (∀ h' tk v,(∀ target,tg target=true-> ∀ (Q':PU) (E':PE),(∀ vm,VR vm (val i) v->P (i+1) vm->(∀ c o',s.heap.get? c=some o'->c∉ws->vm.get? c=some o')->Q' () { s with heap:=vm,toks:=tk })->
   wpAny (model g.prog g.w) F.A (letOwnedTupleGo target (.ref it) v) Q' E' { s with heap:=h',toks:=tk })->Q (some v) { s with heap:=h',toks:=tk })->
  wpAny (model g.prog g.w) F.A (pyNext (.ref it)) Q E s
 self: ∀ i s (Q:PE) (E:PE),P i s.heap->Q (.ref it) s->wpAny (model g.prog g.w) F.A (pyIter (.ref it)) Q E s
 stop: ∀ m H s (Q:PO) (E:PE),St g F m H s->P n s.heap->C H->(∀ h' tk,(∀ c o',s.heap.get? c=some o'->c∉ws->h'.get? c=some o')->(∀ b∈ws,oK b\/ ∃ o,h'.get? b=some o)->Q none { s with heap:=h',toks:=tk })->wpAny (model g.prog g.w) F.A (pyNext (.ref it)) Q E s
theorem A9 {it:Addr} {target:Expr} {v:Value} {o:Obj} {vs:Array Value} {t:String} {A:Around} {Q:PU} {E:PE} (e:s.heap.get? it=some o) (hd:o.data= .fields vs) (hc:o.cls= .type t) (hn:oV.contains t=false) (h:Q () s):
  wpAny (model g.prog g.w) A (letOwnedTupleGo target (.ref it) v) Q E s:=by
 have main:wpAny (model g.prog g.w) A (do
   let (.ref r, .ref a):=(Value.ref it,v) | return
   let o <- load r
   match o.cls,o.data with
   | .type n, .fields vs=>
    if ["enumerate","zip","dict_itemiterator","dict_reverseitemiterator","odict_iterator","itertools.zip_longest","itertools.pairwise"].contains n && vs[0]? == some (rawInt a) then
     rule "for.unpacks-the-owned-tuple"
     updateField r 0 .none
   | _,_=>pure ()) Q E s:=by
  cases v <;> try exact wpAny_pure h
  refine wpAny_bind (wpAny_load e ?_)
  rw [hc,hd]
  show wpAny _ _ (if (oV.contains t && _)=true then _ else _) _ _ _
  rw [hn,Bool.false_and,if_neg (by decide)]
  exact wpAny_pure h
 cases target <;> first | exact main | exact wpAny_pure h
theorem Iter.plain {it:Addr} {P:Nat->Heap->Prop} {C:AH->Prop} {n:Nat} {val:NV} (hk:oK it)
  (obj: ∀ i h,P i h-> ∃ o vs t,h.get? it=some o/\o.data= .fields vs/\o.cls= .type t/\ig (.type t)=false/\oV.contains t=false)
  (stay: ∀ i h h',P i h->h'.get? it=h.get? it->dY h h'->P i h')
  (item: ∀ i m H s (Q:PO) (E:PE),i<n->St g F m H s->P i s.heap->C H->(∀ h' tk v,VR h' (val i) v->P (i+1) h'->(∀ c o',s.heap.get? c=some o'->c≠it->h'.get? c=some o')->Q (some v) { s with heap:=h',toks:=tk })->
   wpAny (model g.prog g.w) F.A (pyNext (.ref it)) Q E s)
  (self: ∀ i s (Q:PE) (E:PE),P i s.heap->Q (.ref it) s->wpAny (model g.prog g.w) F.A (pyIter (.ref it)) Q E s)
  (stop: ∀ m H s (Q:PO) (E:PE),St g F m H s->P n s.heap->C H->(∀ h' tk,(∀ c o',s.heap.get? c=some o'->c≠it->h'.get? c=some o')->Q none { s with heap:=h',toks:=tk })->wpAny (model g.prog g.w) F.A (pyNext (.ref it)) Q E s):
  Iter g F it [it] P C n val qo:=by
 have off: ∀ {c:Addr},c≠it->c∉[it]:=fun q z=>q (List.mem_singleton.mp z)
 refine ⟨fun i h p b hb=> ?_,fun i h h' p q k=>stay i h h' p (q it (List.mem_singleton_self _)) k,fun i m H s Q E hi S p c hq=>item i m H s Q E hi S p c fun h' tk v rv p' C'=>hq h' tk v fun target z0 Q' E' k=> ?_,self,fun m H s Q E S p c hq=>stop m H s Q E S p c fun h' tk C'=>hq h' tk (fun c o' e q=>C' c o' e fun z=>q ((z▸List.mem_singleton_self _))) fun b hb=> ?_⟩
 .rw [List.mem_singleton] at hb;subst hb
  obtain ⟨o,vs,t,e1,e2,e3,e4,_⟩:=obj i h p
  exact ⟨o,e1,(xX e2).1,(xX e2).2,fun z=>by have:=z.cls;rw [e3,e4] at this;cases this⟩
 .obtain ⟨o,vs,t,e1,e2,e3,e4,e5⟩:=obj (i+1) h' p'
  exact A9 (s:={ s with heap:=h',toks:=tk }) e1 e2 e3 e5 (k h' rv p' fun c o' e q=>C' c o' e fun z=>q ((z▸List.mem_singleton_self _)))
 .rw [List.mem_singleton] at hb;subst hb;exact .inl hk
theorem g5 {it:Addr} {ws:List Addr} {P:Nat->Heap->Prop} {C:AH->Prop} {n:Nat} {val:NV} {tg:Expr->Bool} {i:Nat} {H':AH} {s':Shared} (I:Iter g F it ws P C n val tg) (S:St g F m H s) (p:P i s.heap) (K:aF F s.heap H s'.heap H')
  (hH: ∀ b∈ws,H b=none) (nm: ∀ b∈ws,b∉F.aS):P i s'.heap/\ ∀ b∈ws,H' b=none:=by
 have st: ∀ b∈ws,s'.heap.get? b=s.heap.get? b/\H' b=none:=fun b hb=>by
  obtain ⟨o,e,d⟩:=I.obj i _ p b hb
  obtain ⟨z1,z2⟩:=K.same b o e (hH b hb) (nm b hb)
  rcases z2 with z2 | ⟨z2,_⟩
  .exact ⟨z2.trans e.symm,z1⟩
  .obtain ⟨_,o',es,ep,e',d'⟩:=S.gJ b z2
   obtain rfl:=oi e e';exact absurd d' (d.nd _ _)
 exact ⟨I.stay _ _ _ p (fun b hb=>(st b hb).1) (K.mono S),fun b hb=>(st b hb).2⟩
structure MR (g:G) (F:Fm) (ws:List Addr) (P:Nat->Heap->Prop) (J:Nat->Loc->AH->Prop) (h₀:Heap) (H₀:AH) (n k:Nat) (s':Shared) (i:Nat) (m':Loc) (H':AH):Prop where
 e:k=n+1-i
 hi:i<=n
 S:St g F m' H' s'
 K:aF F h₀ H₀ s'.heap H'
 p:P i s'.heap
 nH: ∀ b∈ws,H' b=none
 j:J i m' H'
theorem less {n i:Nat} (h:i<n):n+1-(i+1)<n+1-i:=by exact Rt h
theorem qp {it:Addr} {ws:List Addr} {P:Nat->Heap->Prop} {C:AH->Prop} {n:Nat} {val:NV} {tg:Expr->Bool} {target:Expr} {body orelse:List Stmt} {J:Nat->Loc->AH->Prop} {Q:eI} {X:PX} (I:Iter g F it ws P C n val tg) (ht:tg target=true)
  (hs:F.stack≠[]) (hJ: ∀ i m H,J i m H->C H)
  (turn: ∀ i m H,i<n->J i m H->WA g F target (val i) m H (fun m H=>WS g F (execs body F.env) m H (fun f m H=>match f with | .next=>J (i+1) m H | .cont=>J (i+1) m H | .brk=>Q .next m H | .ret v=>Q (.ret v) m H) X) X)
  (fin: ∀ m H,J n m H->WS g F (execs orelse F.env) m H Q X)
  (S:St g F m H s) (K:aF F h₀ H₀ s.heap H) (B0:g.B.StaysIn h₀) (p:P 0 s.heap) (n0: ∀ b∈ws,h₀.get? b=none) (nH: ∀ b∈ws,H b=none) (nm: ∀ b∈ws,b∉F.aS) (j:J 0 m H):
  codeAny (model g.prog g.w) F.A (.forLoop target (.ref it) body orelse F.env) (fun r s'=>match r with | .ok f=>bG g F FR Q h₀ H₀ f s' | .error e=>cameBackBy (model g.prog g.w) F.A F.env (dA g F X h₀ H₀) e s') s:=by
 have nB: ∀ b∈ws,g.B.get? b=none:=fun b hb=>by
  cases q:g.B.get? b with
  | none=>rfl
  | some o=>have:=n0 b hb;rw [B0 b o q] at this;cases this
 have err: ∀ e s',dA g F X h₀ H₀ e s'->notedBy (model g.prog g.w) F.A F.env (fun e s'=>(match (Except.error e:Result) with | .ok f=>bG g F FR Q h₀ H₀ f s' | .error e=>cameBackBy (model g.prog g.w) F.A F.env (dA g F X h₀ H₀) e s')) e s':=fun e s' x=>by
  obtain ⟨_,_,_,_,_,S',_⟩:=id x
  exact xT B0 (S'.oS hs) x fun fS c as m' H' Hd He DT q=>lD B0 Hd He DT q
 refine codeAny_loop' rfl (fun k s'=> ∃ i m' H',MR g F ws P J h₀ H₀ n k s' i m' H') ?_ (n+1) ⟨0,m,H,rfl,Nat.zero_le _,S,K,p,nH,j⟩
 rintro k s' ⟨i,m',H',rfl,hi,S',K',p',D1,j'⟩
 refine wpAny_noted (iI fun Rz Ez rQ ui=> ?_)
 refine wpAny_bind (wpAny_standAt (wpAny_bind (wpAny_onRaise ?_)))
 by_cases dX:i<n
 .refine fO S'.tk (I.item i m' H' s' _ _ dX S' p' (hJ _ _ _ j') fun h₁ tk v go oW=> ?_)
  refine wpAny_bind (go target ht _ _ fun bB rv xY iO=> ?_)
  obtain ⟨ah,bq⟩:=S'.Hc (t:=tk) (h₀:=h₀) (H₀:=H₀) (I.obj i _ p') D1 nB iO (fun b hb=> .inr ((I.obj (i+1) bB xY b hb).elim fun o cy=>cy.elim fun e z0=>⟨o,e⟩))
  replace ah:=ah oW
  have bq:=bq K' n0
  refine wpAny_bind (aU ah.tk (turn i m' H' dX j' _ v ah rv) (fun z0 a9 z0 m₂ cW z0 aB bX mY=> ?_) fun e a9 x=>ui _ _ (err e a9 (x.after bq)))
  have iA:=bq.trans bX
  refine wpAny_bind (aU aB.tk (mY a9 aB) (fun f aP f' eJ dk dZ bf dG dU=> ?_) fun e aP x=>ui _ _ (err e aP (x.after iA)))
  obtain ⟨D2,xZ⟩:=g5 I ah xY bX D1 nm
  obtain ⟨vy,qq⟩:=g5 I aB D2 dG xZ nm
  have iB:=iA.trans dG
  cases f' with
  | next=>cases dZ;exact wpAny_pure (rQ _ _ (.inl ⟨rfl,n+1-(i+1),less dX,i+1,eJ,dk,rfl,dX,bf,iB,vy,qq,dU⟩))
  | cont=>cases dZ;exact wpAny_pure (rQ _ _ (.inl ⟨rfl,n+1-(i+1),less dX,i+1,eJ,dk,rfl,dX,bf,iB,vy,qq,dU⟩))
  | brk=>cases dZ;exact wpAny_pure (rQ _ _ ⟨.next,eJ,dk,rfl,fun z0=>bf,iB,dU⟩)
  | ret x=>obtain ⟨v,rfl,rv⟩:=dZ;exact wpAny_pure (rQ _ _ ⟨.ret x,eJ,dk,⟨v,rfl,rv⟩,fun z0=>bf,iB,dU⟩)
 .have mZ:i=n:=Nat.le_antisymm hi (Nat.le_of_not_lt dX)
  subst mZ
  refine fO S'.tk (I.stop m' H' s' _ _ S' p' (hJ _ _ _ j') fun h₁ tk iO al oW=> ?_)
  obtain ⟨ah,bq⟩:=S'.Hc (t:=tk) (h₀:=h₀) (H₀:=H₀) (I.obj i _ p') D1 nB iO al
  replace ah:=ah oW
  have bq:=bq K' n0
  refine wpAny_pure (rQ _ _ (.inr ⟨rfl,codeAny_block ?_⟩))
  exact wpAny_mono (fin m' H' j' _ ah) (fun z0 z0 x=>x.after bq) fun e a9 x=>err e a9 (x.after bq)
end
section
variable {g:G} {F:Fm} {m:Loc} {H:AH} {X:PX} {Q:eI}
noncomputable def x9 (g:G) (F:Fm) (target:Expr) (a:V) (body orelse:List Stmt) (m:Loc) (H:AH) (Q:eI) (X:PX):Prop:=
 ∀ h₀ H₀ s v,St g F m H s->aF F h₀ H₀ s.heap H->g.B.StaysIn h₀->VR s.heap a v->wpAny (model g.prog g.w) F.A (pyIter v) (fun it a9=>codeAny (model g.prog g.w) F.A (.forLoop target it body orelse F.env)
  (fun r s'=>match r with | .ok f=>bG g F FR Q h₀ H₀ f s' | .error e=>cameBackBy (model g.prog g.w) F.A F.env (dA g F X h₀ H₀) e s') a9) (dA g F X h₀ H₀) s
noncomputable abbrev kFor (g:G) (F:Fm) (target:Expr) (body orelse:List Stmt) (Q:eI) (X:PX):V->Loc->AH->Prop:=fun a m H=>x9 g F target a body orelse m H Q X
theorem gL {target iter:Expr} {body orelse:List Stmt} {pos:Pos} (hs: ∀ x,foldedSetIterable iter F.env x=pure x) (h:WE g F (eval iter F.env) m H (kFor g F target body orelse Q X) X):
  WS g F (exec (.For target iter body orelse pos) F.env) m H Q X:=
 fun s S=>wpAny_For (h.run S (fun v av a m₁ aL aA ah k₁ h₁=>h₁ s.heap H av v ah k₁ S.base aA) (fun z0 z0 x=>x)) hs
noncomputable abbrev ya (g:G) (F:Fm) (target:Expr) (body:List Stmt) (J:Nat->Loc->AH->Prop) (Q:eI) (X:PX) (i:Nat) (x:V) (m:Loc) (H:AH):Prop:=
 WA g F target x m H (xJ g F body (xK J Q i) X) X
theorem vz {l it:Addr} {xs:List V} (hk:oK it) (hh:Hk g F) (hB:g.B.get? it=none):Iter g F it [it] (fun i h=>h.IsListIter it l i) (fun H=>H l=some (.list xs)) xs.length (fun i=>xs.getD i .none) qo:=by
 refine .plain hk (obj:=fun i h cy=>cy.elim fun o eX=>eX.elim fun e iL=>iL.elim fun c d=>⟨o,_,_,e,d,c,rfl,rfl⟩)
  (stay:=fun i h h' cy q z0=>cy.elim fun o eX=>eX.elim fun e r=>⟨o,q.trans e,r⟩)
  (item:=fun i m H s Q E hi S p c hq=>by
  obtain ⟨_,vs,ep,e,hr⟩:=S.obj l _ c
  obtain ⟨v,ev,rv⟩:=hr.getElem? (i:=i) (x:=xs[i]) (List.getElem?_eq_getElem hi)
  have hl:s.heap.IsList l vs.toArray:=⟨_,e,rfl,ep,rfl⟩
  refine wpAny_pyNext_list_item p hl (x:=v) (by simpa using ev) fun h' p' hs=>hq h' s.toks v ?_ p' (fun c o' e' n=>(hs.2 c n).trans e')
  rw [List.getD_eq_getElem?_getD,List.getElem?_eq_getElem hi]
  exact rv.mono fun a o im ea=>(hs.2 a fun q=>by subst q;obtain ⟨o',e',c',_⟩:=p;rw [e'] at ea;cases ea;have:=im.cls;rw [c'] at this;cases this).trans ea)
  (self:=fun i s Q E p h=>wpAny_pyIter_listiter p h)
  (stop:=fun m H s Q E S p c hq=>by
  obtain ⟨_,vs,ep,e,hr⟩:=S.obj l _ c
  have hl:s.heap.IsList l vs.toArray:=⟨_,e,rfl,ep,rfl⟩
  refine nO (hh.at S) (hh.ne hB) p hl ?_ fun h' hs=>hq h' s.toks fun c o' e' n=>hs c o' n e'
  rw [List.getElem?_toArray,List.getElem?_eq_none]
  exact hr.length▸Nat.le_refl _)
theorem sk {it:Addr} {a c:Int} {n:Nat} (hk:oK it) (hh:Hk g F):Iter g F it [it] (fun i h=>IsRangeIter h it (a+(i:Int)*c) ((n:Int)-(i:Int)) c) (fun z0=>True) n (fun i=> .int (a+(i:Int)*c)) qo:=by
 refine .plain hk (obj:=fun i h e=>⟨_,_,_,e,rfl,rfl,rfl,rfl⟩)
  (stay:=fun i h h' e q z0=>q.trans e)
  (item:=fun i m H s Q E hi S p z0 hq=>by
  refine wpAny_pyNext_range_item p (by exact Ru hi) fun h' p' hs=>hq h' _ _ (.fF _ _) ?_ (fun c o' e' n=>(hs.2 c n).trans e')
  have e1:a+((i+1:Nat):Int)*c=a+(i:Int)*c+c:=by push_cast;rw [Int.add_mul,Int.one_mul,Int.add_assoc]
  have e2:(n:Int)-((i+1:Nat):Int)=(n:Int)-(i:Int)-1:=by push_cast;exact Rv
  rw [e1,e2];exact p')
  (self:=fun i s Q E p h=>wpAny_pyIter_rangeiter p h)
  (stop:=fun m H s Q E S p z0 hq=>sg (hh.at S) p (by exact Rw) fun h' hs=>hq h' s.toks fun c o' e' n=>hs c o' n e')
theorem yb {t it:Addr} {xs:List V} (hk:oK it) (hh:Hk g F) (hB:g.B.get? it=none) (hz:oK t) (uj:t≠it):Iter g F it [it] (fun i h=>IsTupIter h it t i/\ ∃ vs ep,h.get? t=some (dD vs ep)/\bh h xs vs) (fun z0=>True) xs.length (fun i=>xs.getD i .none) qo:=by
 refine .plain hk (obj:=fun i h cy=>cy.elim fun eX z0=>eX.elim fun o iL=>iL.elim fun e mR=>mR.elim fun c d=>⟨o,_,_,e,d,c,rfl,rfl⟩)
  (stay:=fun i h h' cy q k=>cy.elim fun eX iL=>eX.elim fun o mR=>mR.elim fun e r=>iL.elim fun vs vq=>vq.elim fun ep yc=>yc.elim fun e' hr=>⟨⟨o,q.trans e,r⟩,vs,ep,k.tup _ _ (.tup _ _ hz) e',hr.mono k.tup⟩)
  (item:=fun i m H s Q E hi S p z0 hq=>by
  obtain ⟨p,vs,ep,e,hr⟩:=p
  obtain ⟨v,ev,rv⟩:=hr.getElem? (i:=i) (x:=xs[i]) (List.getElem?_eq_getElem hi)
  have hl:IsTup s.heap t vs.toArray:=⟨_,e,rfl,ep,rfl⟩
  refine next_tuple_item p hl (x:=v) (by simpa using ev) fun h' p' hs=> ?_
  have k: ∀ a o,eW a o->s.heap.get? a=some o->h'.get? a=some o:=fun a o im ea=>(hs.2 a fun q=>by subst q;obtain ⟨o',e',c',_⟩:=p;rw [e'] at ea;cases ea;have:=im.cls;rw [c'] at this;cases this).trans ea
  refine hq h' s.toks v ?_ ⟨p',vs,ep,(hs.2 t uj).trans e,hr.mono k⟩ (fun c o' e' n=>(hs.2 c n).trans e')
  rw [List.getD_eq_getElem?_getD,List.getElem?_eq_getElem hi]
  exact rv.mono k)
  (self:=fun i s Q E p h=>wpAny_pyIter_tupleiter p.1 h)
  (stop:=fun m H s Q E S p z0 hq=>by
  obtain ⟨p,vs,ep,e,hr⟩:=p
  have hl:IsTup s.heap t vs.toArray:=⟨_,e,rfl,ep,rfl⟩
  refine lI (hh.at S) (hh.ne hB) p hl ?_ fun h' hs=>hq h' s.toks fun c o' e' n=>hs c o' n e'
  rw [List.getElem?_toArray,List.getElem?_eq_none]
  exact hr.length▸Nat.le_refl _)
theorem St.fresh {s:Shared} (S:St g F m H s):s.heap.objs.size∉F.aS:=fun q=>by
 obtain ⟨_,_,o,e,_⟩:=S.aS _ q
 exact absurd (Heap.lt_size e) (Nat.lt_irrefl _)
theorem aF.fresh {h₀:Heap} {H₀:AH} {s:Shared} (K:aF F h₀ H₀ s.heap H):h₀.get? s.heap.objs.size=none:=by
 cases q:h₀.get? s.heap.objs.size with
 | none=>rfl
 | some o=>obtain ⟨o',e⟩:=K.alive _ o q;exact absurd (Heap.lt_size e) (Nat.lt_irrefl _)
noncomputable def fh (g:G) (tg:Expr->Bool) (a:V) (n:Nat) (val:NV) (C:AH->Prop):Prop:=
 ∀ (F:Fm) m H s v,St g F m H s->C H->VR s.heap a v-> ∀ (Q:PE) (E:PE),
  (∀ o P,(∀ F':Fm,Hk g F'->Iter g F' s.heap.objs.size [s.heap.objs.size] P C n val tg)->o.isFreed=false->P 0 (s.heap.push o)->Q (.ref s.heap.objs.size) { s with heap:=s.heap.push o })->wpAny (model g.prog g.w) F.A (pyIter v) Q E s
noncomputable abbrev bS (g:G) (a:V) (n:Nat) (val:NV) (C:AH->Prop):Prop:=fh g qo a n val C
theorem g6 {l:Addr} {xs:List V}:bS g (.ref l) xs.length (fun i=>xs.getD i .none) (fun H=>H l=some (.list xs)):=fun F m H s v S c r Q E h=>by
 rw [VR.ay] at r;subst r
 obtain ⟨_,vs,ep,e,hr⟩:=S.obj l _ c
 exact wpAny_pyIter_list (items:=vs.toArray) ⟨_,e,rfl,ep,rfl⟩ (h _ _ (fun F' hh=>vz (S.wZ (Nat.le_refl _)) hh (S.lt (Nat.le_refl _)).2.1) rfl ⟨_,Heap.get?_push_size _ rfl,rfl,rfl⟩)
theorem so {xs:List V}:bS g (.tup xs) xs.length (fun i=>xs.getD i .none) (fun z0=>True):=fun F m H s v S c r Q E h=>by
 rw [VR.g4] at r
 obtain ⟨t,vs,ep,rfl,e,hr,hz⟩:=r
 have C: ∀ b o,s.heap.get? b=some o->(s.heap.push { cls:= .type "tuple_iterator",data:= .fields #[.ref t, .int 0 0] }).get? b=some o:=fun z0 z0 e=>Heap.get?_push_of_some _ e
 exact iter_tuple (items:=vs.toArray) ⟨_,e,rfl,ep,rfl⟩ (h _ _ (fun F' hh=>yb (xs:=xs) (t:=t) (S.wZ (Nat.le_refl _)) hh (S.lt (Nat.le_refl _)).2.1 hz (Nat.ne_of_lt (Heap.lt_size e))) rfl ⟨⟨_,Heap.get?_push_size _ rfl,rfl,rfl⟩,vs,ep,C _ _ e,hr.mono fun z0 z0 z0 z=>C _ _ z⟩)
theorem qs {a b:Int} {n:Nat} (ha: -(2 ^ 62)<=a/\a<2 ^ 62) (hb: -(2 ^ 62)<=b/\b<2 ^ 62) (hn:(n:Int)=if a<b then b-a else 0):bS g (.kS a b 1) n (fun i=> .int (a+i)) (fun z0=>True):=fun F m H s v S c r Q E h=>by
 obtain ⟨t,t1,t2,t3,rfl,e⟩:=r
 refine wpAny_pyIter_range e (small_one ha.1 ha.2 hb.1 hb.2) (h _ (fun (i:Nat) h=>IsRangeIter h s.heap.objs.size (a+(i:Int)*1) ((n:Int)-(i:Int)) 1) (fun F' hh=> ?_) rfl ?_)
 .have:=sk (g:=g) (F:=F') (it:=s.heap.objs.size) (a:=a) (c:=1) (n:=n) (S.wZ (Nat.le_refl _)) hh
  have e:(fun i:Nat=>V.int (a+(i:Int)*1))=fun i:Nat=>V.int (a+i):=by funext i;rw [Int.mul_one]
  rw [e] at this;exact this
 .have e1:a+((0:Nat):Int)*1=a:=by exact Rx
  have e2:(n:Int)-((0:Nat):Int)=Builtin.Range.rangeSize a b 1:=by rw [rangeSize_one,hn];exact Ry
  show IsRangeIter _ _ _ _ _
  rw [e1,e2];exact Heap.get?_push_size _ rfl
theorem one {p:Addr->Prop} {a:Addr} (h:p a): ∀ b∈[a],p b:=fun b hb=>by rw [List.mem_singleton] at hb;subst hb;exact h
theorem qu {tg:Expr->Bool} {target:Expr} {body orelse:List Stmt} {a:V} {n:Nat} {val:NV} {C:AH->Prop} (I:fh g tg a n val C) (ht:tg target=true) (J:Nat->Loc->AH->Prop) (hh:Hk g F) (hs:F.stack≠[]) (hl: ∀ i m H,J i m H->C H) (j:J 0 m H)
  (turn: ∀ i m H,i<n->J i m H->ya g F target body J Q X i (val i) m H) (fin: ∀ m H,J n m H->WS g F (execs orelse F.env) m H Q X):x9 g F target a body orelse m H Q X:=fun h₀ H₀ s v S K B0 r=>by
 refine I F m H s v S (hl _ _ _ j) r _ _ fun o P hI hf p=> ?_
 obtain ⟨ah,bq⟩:=S.ext (t:=s.toks) (fun z0 z0 e=>Heap.get?_push_of_some o e)
 replace ah:=ah S.tk
 exact qp (hI F hh) ht hs hl (fun i m H hi hj=>turn i m H hi hj) fin ah (K.trans bq) B0 p (one K.fresh) (one (S.lt (Nat.le_refl _)).1) (one S.fresh) j
theorem Ba {target:Expr} {body orelse:List Stmt} {a:V} {n:Nat} {val:NV} {C:AH->Prop} (I:bS g a n val C) (J:Nat->Loc->AH->Prop) (hh:Hk g F) (hs:F.stack≠[]) (hl: ∀ i m H,J i m H->C H) (j:J 0 m H)
  (turn: ∀ i m H,i<n->J i m H->ya g F target body J Q X i (val i) m H) (fin: ∀ m H,J n m H->WS g F (execs orelse F.env) m H Q X):x9 g F target a body orelse m H Q X:=qu I rfl J hh hs hl j turn fin
theorem Bb {xs:List V} {i:Nat} (hi:i<xs.length):xs.getD i .none=xs[i]:=by rw [List.getD_eq_getElem?_getD,List.getElem?_eq_getElem hi];rfl
theorem Bc {test:Expr} {body orelse:List Stmt} {pos:Pos} (J:Nat->Loc->AH->Prop) (k:Nat) (hs:F.stack≠[]) (j:J k m H)
  (turn: ∀ n m H,J n m H->WB g F (isTrue test F.env (eval test F.env)) m H (fun b m H=>if b then WS g F (execs body F.env) m H (fun f m H=>match f with | .next=> ∃ k,k<n/\J k m H | .cont=> ∃ k,k<n/\J k m H | .brk=>Q .next m H | .ret v=>Q (.ret v) m H) X
   else WS g F (execs orelse F.env) m H Q X) X):WS g F (exec (.While test body orelse pos) F.env) m H Q X:=fun s S=>by
 have err: ∀ e s',dA g F X s.heap H e s'->notedBy (model g.prog g.w) F.A F.env (fun e s'=>(match (Except.error e:Result) with | .ok f=>bG g F FR Q s.heap H f s' | .error e=>cameBackBy (model g.prog g.w) F.A F.env (dA g F X s.heap H) e s')) e s':=fun e s' x=>by
  obtain ⟨_,_,_,_,_,S',_⟩:=id x
  exact xT S.base (S'.oS hs) x fun fS c as m' H' Hd He DT q=>lD S.base Hd He DT q
 refine wpAny_While (codeAny_whileLoop (fun n s'=> ∃ m' H',St g F m' H' s'/\aF F s.heap H s'.heap H'/\J n m' H') (fun n s' cy=>cy.elim fun m' eX=>eX.elim fun H' iL=>iL.elim fun S' mR=>mR.elim fun K' j'=> ?_) k ⟨m,H,S, .refl ..,j⟩)
 refine aU S'.tk (turn n m' H' j' s' S') (fun b av b' m₁ aL aA ah bq vA=> ?_) fun e av x=>err e av (x.after K')
 have lC:=K'.trans bq
 cases aA
 cases b
 .exact wpAny_mono (vA av ah) (fun z0 z0 x=>x.after lC) fun e a9 x=>err e a9 (x.after lC)
 .refine aU ah.tk (vA av ah) (fun f a9 f' m₂ cW cZ aB bX mY=> ?_) fun e a9 x=>err e a9 (x.after lC)
  have iA:=lC.trans bX
  cases f' with
  | next=>cases cZ;obtain ⟨k',hk,jk⟩:=mY;exact ⟨k',hk,m₂,cW,aB,iA,jk⟩
  | cont=>cases cZ;obtain ⟨k',hk,jk⟩:=mY;exact ⟨k',hk,m₂,cW,aB,iA,jk⟩
  | brk=>cases cZ;exact ⟨.next,m₂,cW,rfl,fun z0=>aB,iA,mY⟩
  | ret x=>obtain ⟨v,rfl,rv⟩:=cZ;exact ⟨.ret x,m₂,cW,⟨v,rfl,rv⟩,fun z0=>aB,iA,mY⟩
end
section
variable {α β:Type} {g:G} {F:Fm} {R:Heap->β->α->Prop} {t:Sem α} {m:Loc} {H:AH} {Q:β->Loc->AH->Prop} {X:PX}
theorem Wt.yd (h: ∀ Q':β->Loc->AH->Prop,(∀ b m H,Q b m H->Q' b m H)->Wt g F R t m H Q' X):Wt g F R t m H Q X:=h Q fun z0 z0 z0 x=>x
end
section
variable {g:G} {F:Fm} {m:Loc} {H:AH} {X:PX} {Q:eI}
theorem c7 {target:Expr} {body orelse:List Stmt} {a:V} {n:Nat} {val:NV} {C:AH->Prop} (I:bS g a n val C) (J:Nat->Loc->AH->Prop) (hh:Hk g F) (hs:F.stack≠[]) (hl: ∀ i m H,J i m H->C H) (j:J 0 m H)
  (turn: ∀ i m H,i<n->J i m H-> ∀ R:eI,(∀ f m H,xK J Q i f m H->R f m H)->WA g F target (val i) m H (xJ g F body R X) X) (fin: ∀ m H,J n m H->WS g F (execs orelse F.env) m H Q X):x9 g F target a body orelse m H Q X:=
 Ba I J hh hs hl j (fun i m H hi j=>turn i m H hi j _ fun z0 z0 z0 x=>x) fin
theorem vB {tg:Expr->Bool} {target:Expr} {body orelse:List Stmt} {a:V} {n:Nat} {val:NV} {C:AH->Prop} (I:fh g tg a n val C) (ht:tg target=true) (J:Nat->Loc->AH->Prop) (hh:Hk g F) (hs:F.stack≠[]) (hl: ∀ i m H,J i m H->C H) (j:J 0 m H)
  (turn: ∀ i m H,i<n->J i m H-> ∀ R:eI,(∀ f m H,xK J Q i f m H->R f m H)->WA g F target (val i) m H (xJ g F body R X) X) (fin: ∀ m H,J n m H->WS g F (execs orelse F.env) m H Q X):x9 g F target a body orelse m H Q X:=
 qu I ht J hh hs hl j (fun i m H hi j=>turn i m H hi j _ fun z0 z0 z0 x=>x) fin
noncomputable abbrev D4 (J:Nat->Loc->AH->Prop) (Q:eI) (n:Nat):eI:=fun f m H=>match f with | .next=> ∃ k,k<n/\J k m H | .cont=> ∃ k,k<n/\J k m H | .brk=>Q .next m H | .ret v=>Q (.ret v) m H
theorem qw {test:Expr} {body orelse:List Stmt} {pos:Pos} (J:Nat->Loc->AH->Prop) (k:Nat) (hs:F.stack≠[]) (j:J k m H)
  (turn: ∀ n m H,J n m H-> ∀ R R2:eI,(∀ f m H,D4 J Q n f m H->R f m H)->(∀ f m H,Q f m H->R2 f m H)->WB g F (isTrue test F.env (eval test F.env)) m H (fun b m H=>if b then WS g F (execs body F.env) m H R X else WS g F (execs orelse F.env) m H R2 X) X):
  WS g F (exec (.While test body orelse pos) F.env) m H Q X:=Bc J k hs j fun n m H j=>turn n m H j _ _ (fun z0 z0 z0 x=>x) fun z0 z0 z0 x=>x
end
noncomputable def m9 (scope:Scope) (C:Addr):List (Str×Addr):=cellsFrom (C+1) scope.names []
theorem iC: ∀ (names:List (Str×NameKind)) (n:Nat) (acc:List (Str×Addr)),cellsFrom n names acc=cellsFrom n names []++acc:=by
 intro L9
 induction L9 with
 | nil=>
  rintro _ _
  exact rfl
 | cons y9 r ih=>
  obtain ⟨x,k⟩:=y9
  rintro n acc
  unfold cellsFrom
  split
  .rw [ih _ ((x,n)::acc),ih _ [(x,n)],List.append_assoc];rfl
  .exact ih n acc
set_option tactic.hygienic true in
theorem iD: ∀ (names:List (Str×NameKind)) (n:Nat) (p:Str×Addr),p∈cellsFrom n names []->n<=p.2/\(p.1,NameKind.cell)∈names:=by
 intro L9
 induction L9 with
 | nil=>
  rintro _ _ h
  cases h
 | cons y9 r ih=>
  obtain ⟨x,k⟩:=y9
  rintro n p h
  unfold cellsFrom at h
  split at h
  .rename_i hk
   rw [iC] at h
   rcases List.mem_append.mp h with h | h
   .obtain ⟨a,b⟩:=ih _ p h;exact ⟨Nat.le_of_succ_le a, .tail _ b⟩
   .rw [List.mem_singleton] at h;subst h
    have hk:k= .cell:=eq_of_beq hk
    subst hk;exact ⟨Nat.le_refl _, .head _⟩
  .obtain ⟨a,b⟩:=ih _ p h;exact ⟨a, .tail _ b⟩
noncomputable def Fm.comp (F:Fm) (scope:Scope) (cl:List (Str×Addr)) (C:Addr):Fm:={ F with env:=compEnvC scope (m9 scope C++cl) C F.env,aS:=C::(m9 scope C).map (·.2) }
theorem jP {F:Fm} {scope:Scope} {cl:List (Str×Addr)} {C b:Addr} (h:b∈(F.comp scope cl C).aS):C<=b:=by
 rcases List.mem_cons.mp h with rfl | h
 .exact Nat.le_refl _
 .obtain ⟨p,hp,rfl⟩:=List.mem_map.mp h
  exact Nat.le_of_succ_le (iD _ _ _ hp).1
theorem iP {cs cl:List (Str×Addr)} {x:Str} {c:Addr} (h:(cs++cl).lookup x=some c):cs.lookup x=some c\/cl.lookup x=some c:=by
 rw [List.lookup_append] at h
 cases q:cs.lookup x with
 | none=>rw [q] at h;exact .inr h
 | some d=>rw [q] at h;exact .inl h
structure bM (Fc F:Fm) (scope:Scope):Prop where
 sc:Fc.env.scope=relabel scope F.env
 A:Fc.A=F.A
 lvl:Fc.lvl=F.lvl
 stack:Fc.stack=F.stack
 cells: ∀ x,scope.names.lookup x=some .free-> ∃ c,Fc.env.cells.lookup x=some c
 gb: ∀ x,scope.names.lookup x=some .cell-> ∃ c,Fc.env.cells.lookup x=some c/\c∈Fc.aS
noncomputable def g7 (scope:Scope) (m:Loc):Loc:=fun x=>if scope.names.lookup x=some .free then m x else none
theorem sq (env:Env) (names:List (Str×NameKind)) (hc: ∀ n,(n,NameKind.free)∈names-> ∃ c,env.cells.lookup n=some c):
  ∀ (acc:List (Str×Addr)), ∃ cl,(forIn names acc (fun (x:Str×NameKind) (r:List (Str×Addr))=>(if x.2 == NameKind.free then do let a <- cellOf env x.1;pure (ForInStep.yield ((x.1,a)::r)) else pure (ForInStep.yield r):Sem (ForInStep (List (Str×Addr))))):Sem (List (Str×Addr)))=pure cl/\
   ((∀ x c,acc.lookup x=some c->env.cells.lookup x=some c)-> ∀ x c,cl.lookup x=some c->env.cells.lookup x=some c)/\
   (∀ x,((acc.lookup x).isSome=true\/(x,NameKind.free)∈names)->(cl.lookup x).isSome=true)/\ ∀ x,(cl.lookup x).isSome=true->(acc.lookup x).isSome=true\/(x,NameKind.free)∈names:=by
 induction names with
 | nil=>intro acc;exact ⟨acc,rfl,id,(fun x h=>h.elim id fun q=>by cases q),fun x=> .inl⟩
 | cons y r ih=>
  intro acc
  obtain ⟨n,k⟩:=y
  have ih:=ih fun n hn=>hc n (List.mem_cons_of_mem _ hn)
  by_cases hk:k= .free
  .subst hk
   obtain ⟨c,ec⟩:=hc n List.mem_cons_self
   obtain ⟨cl,e,h1,h2,h3⟩:=ih ((n,c)::acc)
   refine ⟨cl, ?_,fun MS=>h1 fun x c' hx=> ?_,fun x hx=>h2 x ?_,fun x hx=> ?_⟩
   .rw [List.forIn_cons, <- e]
    simp only [beq_self_eq_true,if_true]
    unfold cellOf;rw [ec];rfl
   .rw [List.lookup_cons] at hx
    cases q:x == n with
    | true=>rw [q] at hx;cases hx;rw [beq_iff_eq.mp q];exact ec
    | false=>rw [q] at hx;exact MS x c' hx
   .rw [List.lookup_cons]
    cases q:x == n with
    | true=>exact .inl rfl
    | false=>
     refine hx.imp id fun z=> ?_
     rcases List.mem_cons.mp z with z | z
     .have:x=n:=by cases z;rfl
      rw [this] at q;simp at q
     .exact z
   .rcases h3 x hx with z | z
    .rw [List.lookup_cons] at z
     cases q:x == n with
     | true=>rw [eq_of_beq q];exact .inr List.mem_cons_self
     | false=>rw [q] at z;exact .inl z
    .exact .inr (List.mem_cons_of_mem _ z)
  .obtain ⟨cl,e,h1,h2,h3⟩:=ih acc
   refine ⟨cl, ?_,h1,fun x hx=>h2 x (hx.imp id fun z=> ?_),fun x hx=>(h3 x hx).imp id fun z=>List.mem_cons_of_mem _ z⟩
   .rw [List.forIn_cons, <- e]
    have:(k == NameKind.free)=false:=by simpa using hk
    simp only [this,Bool.false_eq_true,if_false]
    rfl
   .rcases List.mem_cons.mp z with z | z
    .cases z;exact absurd rfl hk
    .exact z
theorem iE {scope:Scope} {env:Env} (hc: ∀ n,(n,NameKind.free)∈scope.names-> ∃ c,env.cells.lookup n=some c):
  ∃ cl,closureFor scope env=pure cl/\(∀ x c,cl.lookup x=some c->env.cells.lookup x=some c)/\(∀ x,(x,NameKind.free)∈scope.names-> ∃ c,cl.lookup x=some c)/\ ∀ x c,cl.lookup x=some c->(x,NameKind.free)∈scope.names:=by
 obtain ⟨cl,e,h1,h2,h3⟩:=sq env scope.names hc []
 refine ⟨cl, ?_,h1 (fun z0 z0 q=>by cases q),fun x hx=>Option.isSome_iff_exists.mp (h2 x (.inr hx)),fun x c hx=>(h3 x (by rw [hx];rfl)).elim (fun q=>by cases q) id⟩
 exact congrArg (fun (t:Sem (List (Str×Addr)))=>t >>=fun cs=>pure cs) e
theorem cY {env:Env}: ∀ {names:List (Str×NameKind)} {x:Str},names.lookup x=some .free->
  (names.map fun (n,k)=>if (k == NameKind.free && env.scope.kind == .function && env.kindOf n == some .cell) then (n,NameKind.cell) else (n,k)).lookup x=some .cell\/
  (names.map fun (n,k)=>if (k == NameKind.free && env.scope.kind == .function && env.kindOf n == some .cell) then (n,NameKind.cell) else (n,k)).lookup x=some .free
 | [],_,h=>by simp at h
 | (n,k)::r,x,h=>by
  have ih:= @cY env r x
  show List.lookup x ((if (k == NameKind.free && env.scope.kind == .function && env.kindOf n == some .cell)=true then (n,NameKind.cell) else (n,k))::_)=_\/List.lookup x ((if (k == NameKind.free && env.scope.kind == .function && env.kindOf n == some .cell)=true then (n,NameKind.cell) else (n,k))::_)=_
  cases hx:x == n with
  | true=>
   simp only [List.lookup_cons,hx] at h
   cases h
   by_cases hc:(NameKind.free == NameKind.free && env.scope.kind == .function && env.kindOf n == some .cell)=true
   .rw [if_pos hc];simp [List.lookup_cons,hx]
   .rw [if_neg hc];simp [List.lookup_cons,hx]
  | false=>
   simp only [List.lookup_cons,hx] at h
   by_cases hc:(k == NameKind.free && env.scope.kind == .function && env.kindOf n == some .cell)=true
   .rw [if_pos hc];simp only [List.lookup_cons,hx];exact ih h
   .rw [if_neg hc];simp only [List.lookup_cons,hx];exact ih h
section
variable {g:G} {F:Fm} {m:Loc} {H:AH} {s:Shared} {h₀:Heap} {H₀:AH}
theorem St.vC {scope:Scope} {cl:List (Str×Addr)} {h':Heap} {t:Nat} (S:St g F m H s) (hk:scope.kind= .function) (kp: ∀ b o,s.heap.get? b=some o->h'.get? b=some o) (hn:h'.Ns s.heap.objs.size (fun z0=>none))
  (ok:CellsOk h' (s.heap.objs.size+1) (m9 scope s.heap.objs.size)) (MT: ∀ y∈scope.names,y.2= .cell->scope.names.lookup y.1=some .cell)
  (lE: ∀ x c,cl.lookup x=some c->F.env.cells.lookup x=some c) (sy: ∀ x,(x,NameKind.free)∈scope.names-> ∃ c,cl.lookup x=some c)
  (ye: ∀ x,scope.names.lookup x=some .free->(F.env.kindOf x=some .cell\/F.env.kindOf x=some .free)/\(x == ("__classdict__":Str))=false) (ht:1<=t):
  St g (F.comp scope cl s.heap.objs.size) (g7 scope m) H { s with heap:=h',toks:=t }/\bM (F.comp scope cl s.heap.objs.size) F scope:=by
 have mn:dY s.heap h':=⟨fun z0 z0 z0 e=>kp _ _ e, .ext kp⟩
 obtain ⟨oL,AY,AZ,eL,dL,_⟩:=id hn
 obtain ⟨n1,n2,n3⟩:=S.lt (Nat.le_refl s.heap.objs.size)
 have new: ∀ x c,(m9 scope s.heap.objs.size).lookup x=some c->h'.IsCell c none/\s.heap.objs.size<=c:=fun x c e=>⟨(ok.empty x c (mem_of_lookup e)).1,Nat.le_of_succ_le (ok.empty x c (mem_of_lookup e)).2⟩
 have old: ∀ x c,cl.lookup x=some c-> ¬ s.heap.objs.size<=c:=fun x c e q=>by
  obtain ⟨_,v,o,e',_⟩:=S.loc.cell x c (lE x c e)
  exact on ((S.lt q).2.2) e'
 have sC: ∀ x,scope.names.lookup x=some .free-> ∃ c,(m9 scope s.heap.objs.size++cl).lookup x=some c/\cl.lookup x=some c:=fun x hx=>by
  obtain ⟨c,ec⟩:=sy x (mem_of_lookup hx)
  refine ⟨c, ?_,ec⟩
  rw [List.lookup_append]
  cases q:(m9 scope s.heap.objs.size).lookup x with
  | none=>exact ec
  | some d=>
   have:=MT _ (iD _ _ _ (mem_of_lookup q)).2 rfl
   exact nomatch (hx.symm.trans this)
 refine ⟨⟨fun b o e=>kp b o (S.base b o e),fun b o e=> ?_,⟨hk,⟨_,hn,fun y a ha=> ?_⟩,fun y c hy=> ?_,fun y z c hy hz=> ?_⟩,List.mem_cons_self,fun b gD=> ?_, ?_,fun b gD=> ?_,S.frame,S.lA,S.gens,S.os,S.room,S.eG,(S.lB fun b o e=>⟨o,kp b o e⟩),ht⟩,
  ⟨rfl,rfl,rfl,rfl,fun x hx=>(sC x hx).elim fun c cy=>cy.elim fun e z0=>⟨c,e⟩,fun x hx=> ?_⟩⟩
 .obtain ⟨b1,b2⟩:=S.obj b o e
  obtain ⟨r,e',_⟩:=b2.get
  exact ⟨b1,b2.mono mn ((kp b r e').trans e'.symm)⟩
 .unfold g7 at ha
  by_cases q:scope.names.lookup y=some .free
  .rw [if_pos q] at ha
   obtain ⟨mr,_,hm⟩:=S.loc.val
   obtain ⟨kq,R3⟩:=ye y q
   cases hm y a ha with
   | loc v rv w e=>rw [w] at kq;rcases kq with kq | kq <;> cases kq
   | gb v rv z0 c w1 w2=>
    obtain ⟨c',ec,R6⟩:=sC y q
    obtain rfl:=oi w1 (lE y c' R6)
    exact .gb v (rv.mono mn.tup) ((cY (env:=F.env) q).imp id fun z=>⟨z,R3⟩) c ec (w2.keeps kp)
  .exact on (if_neg q) ha
 .rcases iP hy with e | e
  .obtain ⟨z,le⟩:=new y c e;exact ⟨(S.lt le).1,_,z⟩
  .obtain ⟨z1,v,z2⟩:=S.loc.cell y c (lE y c e)
   exact ⟨z1,v,z2.keeps kp⟩
 .rcases iP hy with e | e <;> rcases iP hz with e' | e'
  .exact name_of_addr ok.apart (mem_of_lookup e) (mem_of_lookup e')
  .exact absurd (new y c e).2 (old z c e')
  .exact absurd (new z c e').2 (old y c e)
  .exact S.loc.apart y z c (lE y c e) (lE z c e')
 .rcases List.mem_cons.mp gD with rfl | gD
  .exact ⟨n1,n2,oL,eL, .inl ⟨_,_,dL⟩⟩
  .obtain ⟨p,hp,rfl⟩:=List.mem_map.mp gD
   obtain ⟨⟨o,eo,d⟩,le⟩:=ok.empty p.1 p.2 hp
   obtain ⟨m1,m2,_⟩:=S.lt (Nat.le_of_succ_le le)
   exact ⟨m1,m2,o,eo, .inr ⟨_,d⟩⟩
 .exact bc S.jJ fun b gD o e=>⟨o,kp b o e,id⟩
 .obtain ⟨h1,o,es,ep,h3,h4⟩:=S.gJ b gD
  exact ⟨h1,o,es,ep,kp b o h3,h4⟩
 .have:((m9 scope s.heap.objs.size).lookup x).isSome=true:=cellsFrom_some _ _ _ (.inl hx)
  obtain ⟨c,ec⟩:=Option.isSome_iff_exists.mp this
  refine ⟨c, ?_,List.mem_cons_of_mem _ (List.mem_map.mpr ⟨(x,c),mem_of_lookup ec,rfl⟩)⟩
  show (m9 scope s.heap.objs.size++cl).lookup x=some c
  rw [List.lookup_append,ec];rfl
theorem St.qz {scope:Scope} {cl:List (Str×Addr)} {m':Loc} {H':AH} {h₁:Heap} {s':Shared} {C:Addr} (S:St g F m H s) (kp: ∀ b o,s.heap.get? b=some o->h₁.get? b=some o) (nC:s.heap.objs.size<=C)
  (S':St g (F.comp scope cl C) m' H' s') (K':aF (F.comp scope cl C) h₁ H s'.heap H'):St g F m H' s'/\aF F s.heap H s'.heap H':=by
 have lt: ∀ b o,s.heap.get? b=some o->b∉(F.comp scope cl C).aS:=fun b o e q=>absurd (Heap.lt_size e) (Nat.not_lt.mpr (Nat.le_trans nC (jP q)))
 have same: ∀ b o,s.heap.get? b=some o->H b=none->H' b=none/\Kept F.fr s'.heap b o:=fun b o e n=>(K'.same b o (kp b o e) n (lt b o e))
 have K:aF F s.heap H s'.heap H':=⟨fun b o e=>K'.alive b o (kp b o e),(lu.ext kp).trans K'.dct,fun b o e n z0=>same b o e n⟩
 refine ⟨⟨S'.base,S'.obj, ?_,S.eF,fun b hb=> ?_,S'.jJ,S'.gJ,S.frame,S.lA,S'.gens,S'.os,S.room,S.eG,S'.dead,S'.tk⟩,K⟩
 .refine S.loc.mono (K.mono S) (fun y c hy=> ?_) fun b hb o e=>(same b o e (S.gu b hb).1).2.any
  obtain ⟨n,o,e,_⟩:=S.gu c (.inr ⟨y,hy⟩)
  exact (same c o e n).1
 .obtain ⟨n1,n2,o,e,w⟩:=S.aS b hb
  obtain ⟨n',z⟩:=same b o e n1
  rcases z with z | ⟨_,sl,z⟩
  .exact ⟨n',n2,o,z,w⟩
  .exact ⟨n',n2,_,z,w⟩
structure AccAt (F:Fm) (h:Heap) (H:AH) (acc:Addr) (ys:List V):Prop where
 obj: ∃ vs ep,h.get? acc=some (cp vs ep)/\bh h ys vs
 un:H acc=none
 nm:acc∉F.aS
theorem AccAt.R7 {acc:Addr} {ys:List V} (S:St g F m H s) (x:AccAt F s.heap H acc ys):acc∉F.fr:=fun q=>by
 obtain ⟨_,o,es,ep,e,d⟩:=S.gJ acc q
 obtain ⟨vs,dh,e',_⟩:=x.obj
 obtain rfl:=oi e' e;cases d
theorem AccAt.keep {acc:Addr} {ys:List V} {h':Heap} {H':AH} (S:St g F m H s) (k:aF F s.heap H h' H') (x:AccAt F s.heap H acc ys):AccAt F h' H' acc ys:=by
 obtain ⟨vs,ep,e,r⟩:=x.obj
 obtain ⟨n,z⟩:=k.same acc _ e x.un x.nm
 refine ⟨⟨vs,ep, ?_,r.mono (k.mono S).tup⟩,n,x.nm⟩
 rcases z with z | ⟨z,_⟩
 .exact z
 .exact absurd z (x.R7 S)
theorem aF.oX {a:Addr} {h':Heap} {H':AH} (K:aF F h₀ H₀ s.heap H) (k:aF F (s.heap.hide a) H h' H') (n0:h₀.get? a=none):aF F h₀ H₀ h' H':=by
 have up: ∀ b o,b≠a->s.heap.get? b=some o->(s.heap.hide a).get? b=some o:=fun b o n e=>(Heap.hide_ne _ n).trans e
 have ne: ∀ b o,h₀.get? b=some o->b≠a:=fun b o e q=>by subst q;exact on n0 e
 refine ⟨fun b o e=> ?_, .of fun b o es ep e d=> ?_,fun b o e n hb=> ?_⟩
 .obtain ⟨o',e'⟩:=K.alive b o e
  exact k.alive b o' (up b o' (ne b o e) e')
 .obtain ⟨o',km,dh,e',d'⟩:=K.dct b ⟨o,es,ep,e,d⟩
  exact k.dct b ⟨o',km,dh,up b o' (ne b o e) e',d'⟩
 .obtain ⟨n',z⟩:=K.same b o e n hb
  rcases z with z | ⟨w,sl,z⟩
  .exact k.same b o (up b o (ne b o e) z) n' hb
  .obtain ⟨DK,y⟩:=k.same b _ (up b _ (ne b o e) z) n' hb
   rcases y with y | ⟨_,Jp,y⟩
   .exact ⟨DK, .inr w sl y⟩
   .exact ⟨DK, .inr w Jp y⟩
theorem aF.hide {a:Addr} (F:Fm) (h:Heap) (H:AH):aF F (h.hide a) H h H:=
 ⟨fun b o e=>⟨o,Heap.of_hide e⟩, .ext fun z0 z0 e=>Heap.of_hide e,fun b o e n z0=>⟨n, .inl (Heap.of_hide e)⟩⟩
theorem dA.oX {X:PX} {a:Addr} {e:Value} {s':Shared} (K:aF F h₀ H₀ s.heap H) (x:dA g F X (s.heap.hide a) H e s') (n0:h₀.get? a=none):dA g F X h₀ H₀ e s':=by
 obtain ⟨c,as,m',H',f,S,k,q⟩:=x
 refine ⟨c,as,m',H',f.since fun b o e=> ?_,S,K.oX k n0,q⟩
 obtain ⟨o',e'⟩:=K.alive b o e
 exact ⟨o',(Heap.hide_ne _ (fun q=>by subst q;exact on n0 e)).trans e'⟩
noncomputable def sD (g:G) (F:Fm) (acc:Addr) (t:Sem Unit) (ys:List V) (m:Loc) (H:AH) (Q:lj) (X:PX):Prop:=
 ∀ h₀ H₀ s,St g F m H s->aF F h₀ H₀ s.heap H->h₀.get? acc=none->g.B.StaysIn h₀->AccAt F s.heap H acc ys->
  wpAny (model g.prog g.w) F.A t (fun z0 s'=> ∃ vD m' H',St g F m' H' s'/\aF F h₀ H₀ s'.heap H'/\AccAt F s'.heap H' acc vD/\Q vD m' H') (dA g F X h₀ H₀) s
variable {X:PX}
theorem lJ {acc:Addr} {ys:List V} {elt:Expr} {Q:lj} (nM:ys.length<=sizeLine) (h:WE g F (eval elt F.env) m H (GY Q ys) X):
  sD g F acc (do let _ <- call (.builtin "list.append") [.ref acc, <- eval elt F.env]) ys m H Q X:=fun h₀ H₀ s S K n0 B0 A=>by
 refine wpAny_bind (h.run S (fun v av a m₁ aL aA ah k₁ vA=> ?_) fun e s' x=>x.after K)
 have qA:=A.keep S k₁
 obtain ⟨vs,ep,e,hr⟩:=qA.obj
 refine wpAny_bind (wpAny_list_append_plain (items:=vs.toArray) ⟨ep,e⟩ (fun h' cy hs=>cy.elim fun dh e'=>wpAny_pure ?_) (by rw [List.size_toArray,hr.length];exact nM))
 have nB:g.B.get? acc=none:=by
  cases q:g.B.get? acc with
  | none=>rfl
  | some o=>exact nomatch ((B0 acc o q).symm.trans n0)
 obtain ⟨aB,bX⟩:=ah.un (t:=av.toks) (h₀:=h₀) (H₀:=H₀) (h':=h') e ⟨fun z0 z0 q=>(by cases q),fun z0 q=>(by cases q)⟩ qA.un nB rfl (fun c o e n=>(hs.2 c n).trans e) (.inr ⟨_,e'⟩)
 have tp: ∀ b o,eW b o->av.heap.get? b=some o->h'.get? b=some o:=fun b o i eb=>(hs.2 b fun q=>by subst q;obtain rfl:=oi e eb;have:=i.cls;cases this).trans eb
 refine ⟨ys++[a],m₁,aL,aB ah.tk,bX (K.trans k₁) n0,⟨⟨vs++[v],dh,by rw [e'];simp,(hr.mono tp).append (.cons (aA.mono tp) .gC)⟩,qA.un,qA.nm⟩,vA⟩
noncomputable def dI (ifs:List Expr) (env:Env):Sem Bool:=forIn ifs true fun c r=>if r=true then do let ok <- isTrue c env (eval c env);pure (ForInStep.yield ok) else pure (ForInStep.yield r)
theorem cA {Q:PB} (h:Q true m H):WB g F (dI [] F.env) m H Q X:=fun s S=>wpAny_tests_nil (bG.now S rfl rfl rfl rfl h)
theorem bQ {c:Expr} {Q:PB} (h:WB g F (isTrue c F.env (eval c F.env)) m H Q X):WB g F (dI [c] F.env) m H Q X:=fun s S=>wpAny_tests_one (h s S)
noncomputable def yf (target iter:Expr) (ifs:List Expr) (it:Value) (tail:Sem Unit) (c:Code) (env:Env):Sem Fin:=do
 standAt iter.pos
 match <- pyNext it with
 | none=>pure (.done .next)
 | some v=>
  letOwnedTupleGo target it v
  assign target env v
  let ok <- dI ifs env
  if ok then
   tail
  again c
noncomputable abbrev dJ (target iter:Expr) (ifs:List Expr) (it:Value) (tail:Sem Unit) (e:Expr) (d:Nat) (acc:Value) (env:Env):Sem Fin:=yf target iter ifs it tail (.compLoop e d it acc env) env
noncomputable def jd (g:G) (F:Fm) (h₀:Heap) (H₀:AH) (acc:Addr) (Q:lj) (X:PX) (r:Result) (s':Shared):Prop:=match r with
 | .ok _=> ∃ ys m' H',St g F m' H' s'/\aF F h₀ H₀ s'.heap H'/\AccAt F s'.heap H' acc ys/\Q ys m' H'
 | .error e=> ∃ c as m' H',St g F m' H' s'/\aF F h₀ H₀ s'.heap H'/\eY h₀ e c as s'.heap H'/\X c as m' H'
structure CompI (g:G) (F:Fm) (ws:List Addr) (acc:Addr) (P:Nat->Heap->Prop) (J:Nat->List V->Loc->AH->Prop) (h₀:Heap) (H₀:AH) (n k:Nat) (s':Shared) (i:Nat) (vD:List V) (m':Loc) (H':AH):Prop where
 e:k=n+1-i
 hi:i<=n
 S:St g F m' H' s'
 K:aF F h₀ H₀ s'.heap H'
 p:P i s'.heap
 nH: ∀ b∈ws,H' b=none
 A:AccAt F s'.heap H' acc vD
 j:J i vD m' H'
theorem nQ {it acc:Addr} {ws:List Addr} {P:Nat->Heap->Prop} {C:AH->Prop} {n d:Nat} {val:NV} {tg:Expr->Bool} {target iter elt:Expr} {ifs:List Expr} {tail:Sem Unit} {gens:List Comprehension} {scope:Scope} {pos:Pos} {ys:List V} {J:Nat->List V->Loc->AH->Prop} (I:Iter g F it ws P C n val tg) (ht:tg target=true)
  (vE:compTurn (.ListComp elt gens scope pos) d (.ref it) (.ref acc) F.env=dJ target iter ifs (.ref it) tail (.ListComp elt gens scope pos) d (.ref acc) F.env)
  (hs:F.stack≠[]) (hJ: ∀ i ys m H,J i ys m H->C H)
  (turn: ∀ i ys m H,i<n->J i ys m H->WA g F target (val i) m H (fun m H=>WB g F (dI ifs F.env) m H (fun ok m H=>if ok then sD g F acc tail ys m H (fun ys m H=>J (i+1) ys m H) X else J (i+1) ys m H) X) X)
  (S:St g F m H s) (K:aF F h₀ H₀ s.heap H) (B0:g.B.StaysIn h₀) (p:P 0 s.heap) (n0: ∀ b∈ws,h₀.get? b=none) (nH: ∀ b∈ws,H b=none) (nm: ∀ b∈ws,b∉F.aS) (na:h₀.get? acc=none) (Js:acc∉ws) (A0:AccAt F s.heap H acc ys) (j:J 0 ys m H):
  codeAny (model g.prog g.w) F.A (.compLoop (.ListComp elt gens scope pos) d (.ref it) (.ref acc) F.env) (jd g F h₀ H₀ acc (J n) X) s:=by
 have nB: ∀ b∈ws,g.B.get? b=none:=fun b hb=>by
  cases q:g.B.get? b with
  | none=>rfl
  | some o=>have:=n0 b hb;exact nomatch ((B0 b o q).symm.trans this)
 have err: ∀ e s',dA g F X h₀ H₀ e s'->notedBy (model g.prog g.w) F.A F.env (fun e s'=>jd g F h₀ H₀ acc (J n) X (.error e) s') e s':=fun e s' x=>by
  obtain ⟨_,_,_,_,_,S',_⟩:=id x
  exact xT B0 (S'.oS hs) x fun fS c as m' H' Hd He DT q=>⟨c,as,m',H',Hd,He,DT,q⟩
 refine codeAny_loop rfl (fun k s'=> ∃ i vD m' H',CompI g F ws acc P J h₀ H₀ n k s' i vD m' H') ?_ (n+1) ⟨0,ys,m,H,rfl,Nat.zero_le _,S,K,p,nH,A0,j⟩
 rintro k s' ⟨i,vD,m',H',rfl,hi,S',K',p',D1,A',j'⟩
 refine wpAny_noted (iI fun Qz Ez hQ hE=> ?_)
 rw [vE]
 revert hQ
 show _->wpAny _ F.A (yf target iter ifs (.ref it) tail (.compLoop (.ListComp elt gens scope pos) d (.ref it) (.ref acc) F.env) F.env) _ _ _
 refine mQ (Code.compLoop (.ListComp elt gens scope pos) d (.ref it) (.ref acc) F.env) fun c hQ=> ?_
 refine wpAny_bind (wpAny_standAt (wpAny_bind ?_))
 have Hf: ∀ h₁:Heap,(∀ c o',s'.heap.get? c=some o'->c∉ws->h₁.get? c=some o')->AccAt F h₁ H' acc vD:=fun h₁ iO=>by
  obtain ⟨vs,ep,ea,ra⟩:=A'.obj
  refine ⟨⟨vs,ep,iO acc _ ea Js,ra.mono fun b o im eb=>iO b o eb fun q=> ?_⟩,A'.un,A'.nm⟩
  obtain ⟨o',e',d⟩:=I.obj i _ p' b q
  obtain rfl:=oi e' eb;exact d.ni im
 by_cases dX:i<n
 .refine fO S'.tk (I.item i m' H' s' _ _ dX S' p' (hJ _ _ _ _ j') fun h₁ tk v go oW=> ?_)
  refine wpAny_bind (go target ht _ _ fun bB rv xY iO=> ?_)
  obtain ⟨ah,bq⟩:=S'.Hc (t:=tk) (h₀:=h₀) (H₀:=H₀) (I.obj i _ p') D1 nB iO (fun b hb=> .inr ((I.obj (i+1) bB xY b hb).elim fun o cy=>cy.elim fun e z0=>⟨o,e⟩))
  replace ah:=ah oW
  have bq:=bq K' n0
  have qA:=Hf bB iO
  refine wpAny_bind (aU ah.tk (turn i vD m' H' dX j' _ v ah rv) (fun z0 a9 z0 m₂ cW z0 aB bX mY=> ?_) fun e a9 x=>hE _ _ (err e a9 (x.after bq)))
  have iA:=bq.trans bX
  have D5:=qA.keep ah bX
  obtain ⟨D2,xZ⟩:=g5 I ah xY bX D1 nm
  refine wpAny_bind (aU aB.tk (mY a9 aB) (fun ok aP P0 eJ dk dZ bf dG dU=> ?_) fun e aP x=>hE _ _ (err e aP (x.after iA)))
  cases dZ
  have iB:=iA.trans dG
  have D6:=D5.keep aB dG
  obtain ⟨vy,qq⟩:=g5 I aB D2 dG xZ nm
  cases ok with
  | false=>
   refine wpAny_pure (hQ _ _ ⟨rfl,n+1-(i+1),less dX,i+1,vD,eJ,dk,rfl,dX,bf,iB,vy,qq,D6,dU⟩)
  | true=>
   have dU:sD g F acc tail vD eJ dk (fun ys m H=>J (i+1) ys m H) X:=dU
   have Bh:g.B.StaysIn (aP.heap.hide acc):=fun b o e=>(Heap.hide_ne _ (fun q=>by subst q;exact nomatch ((B0 _ _ e).symm.trans na))).trans (bf.base b o e)
   refine wpAny_bind (wpAny_mono (dU (aP.heap.hide acc) dk aP bf (.hide ..) (Heap.hide_self ..) Bh D6) (fun z0 eM cy=>cy.elim fun Hg eX=>eX.elim fun Bd iL=>iL.elim fun yg mR=>mR.elim fun c6 vq=>vq.elim fun eZ yc=>yc.elim fun MU MV=> ?_) fun e eM x=>hE _ _ (err e eM (x.oX iB na)))
   have st: ∀ b∈ws,eM.heap.get? b=aP.heap.get? b/\yg b=none:=fun b hb=>by
    obtain ⟨o,e,d⟩:=I.obj _ _ vy b hb
    obtain ⟨w1,w2⟩:=eZ.same b o ((Heap.hide_ne _ fun q=>Js (by rw [<- q];exact hb)).trans e) (qq b hb) (nm b hb)
    rcases w2 with w2 | ⟨w2,_⟩
    .exact ⟨w2.trans e.symm,w1⟩
    .obtain ⟨_,o',es,ep,e',d'⟩:=bf.gJ b w2
     obtain rfl:=oi e e';exact absurd d' (d.nd _ _)
   have mn:dY aP.heap eM.heap:=by
    obtain ⟨P1,P2,Hh,_⟩:=D6.obj
    have P4: ∀ b o,(eW b o\/ ∃ es ep,o.data= .dict es ep)->aP.heap.get? b=some o->b≠acc:=fun b o i eb q=>by
     subst q;obtain rfl:=oi Hh eb
     rcases i with i | ⟨_,_,i⟩
     .have:=i.cls;cases this
     .cases i
    refine ⟨fun b o i eb=> ?_, .of fun b o es ep eb d=>eZ.dct b ⟨o,es,ep,(Heap.hide_ne _ (P4 b o (.inr ⟨_,_,d⟩) eb)).trans eb,d⟩⟩
    obtain ⟨t1,t2,t3⟩:=bf.gd i eb
    rcases (eZ.same b o ((Heap.hide_ne _ (P4 b o (.inl i) eb)).trans eb) t1 t2).2 with z | ⟨z,_⟩
    .exact z
    .exact absurd z t3
   exact wpAny_pure (hQ _ _ ⟨rfl,n+1-(i+1),less dX,i+1,Hg,Bd,yg,rfl,dX,c6,iB.oX eZ na,I.stay _ _ _ vy (fun b hb=>(st b hb).1) mn,fun b hb=>(st b hb).2,MU,MV⟩)
 .have mZ:i=n:=Nat.le_antisymm hi (Nat.le_of_not_lt dX)
  subst mZ
  refine fO S'.tk (I.stop m' H' s' _ _ S' p' (hJ _ _ _ _ j') fun h₁ tk iO al oW=> ?_)
  obtain ⟨ah,bq⟩:=S'.Hc (t:=tk) (h₀:=h₀) (H₀:=H₀) (I.obj i _ p') D1 nB iO al
  have bq:=bq K' n0
  exact wpAny_pure (hQ _ _ ⟨vD,m',H',ah oW,bq,Hf h₁ iO,j'⟩)
end
section
variable {g:G} {F:Fm} {m:Loc} {H:AH} {s:Shared} {X:PX}
structure aM (F:Fm) (scope:Scope):Prop where
 kind:scope.kind= .function
 cell: ∀ y∈scope.names,y.2= .cell->scope.names.lookup y.1=some .cell
 names: ∀ x∈scope.names,x.2= .local->scope.names.lookup x.1=some .local
 free: ∀ x,scope.names.lookup x=some .free->(F.env.kindOf x=some .cell\/F.env.kindOf x=some .free)/\(x == ("__classdict__":Str))=false
 cells: ∀ n,(n,NameKind.free)∈scope.names-> ∃ c,F.env.cells.lookup n=some c
inductive Walk (g:G) (Fc:Fm) (acc:Addr) (target:Expr) (ifs:List Expr) (tail:Sem Unit) (a:V) (ys:List V) (m:Loc) (H:AH) (Q:lj) (X:PX):Prop
 | mk (tg:Expr->Bool) (n:Nat) (val:NV) (C:AH->Prop) (J:Nat->List V->Loc->AH->Prop) (I:fh g tg a n val C) (ht:tg target=true) (hJ: ∀ i ys m H,J i ys m H->C H) (j:J 0 ys m H)
  (turn: ∀ i ys m H,i<n->J i ys m H->WA g Fc target (val i) m H (fun m H=>WB g Fc (dI ifs Fc.env) m H (fun ok m H=>if ok then sD g Fc acc tail ys m H (fun ys m H=>J (i+1) ys m H) X else J (i+1) ys m H) X) X)
  (fin: ∀ ys m H,J n ys m H->Q ys m H)
theorem jd.mono {Fc:Fm} {h₀:Heap} {H₀:AH} {acc:Addr} {Q Q':lj} {r:Result} {s':Shared} (hq: ∀ ys m H,Q ys m H->Q' ys m H) (x:jd g Fc h₀ H₀ acc Q X r s'):jd g Fc h₀ H₀ acc Q' X r s':=by
 cases r with
 | ok f=>obtain ⟨ys,m',H',a,b,c,d⟩:=x;exact ⟨ys,m',H',a,b,c,hq _ _ _ d⟩
 | error e=>exact x
theorem sE {elt:Expr} {target iter:Expr} {ifs:List Expr} {tail:Sem Unit} {gens:List Comprehension} {d:Nat} {scope:Scope} {pos:Pos} {acc:Addr} {a:V} {v:Value} {ys:List V} {Q:lj} {h₀:Heap} {H₀:AH}
  (vE: ∀ it,compTurn (.ListComp elt gens scope pos) d it (.ref acc) F.env=dJ target iter ifs it tail (.ListComp elt gens scope pos) d (.ref acc) F.env)
  (hh:Hk g F) (hs:F.stack≠[]) (w:Walk g F acc target ifs tail a ys m H Q X) (S:St g F m H s) (K:aF F h₀ H₀ s.heap H) (B0:g.B.StaysIn h₀) (na:h₀.get? acc=none) (A0:AccAt F s.heap H acc ys) (r:VR s.heap a v) {E:PE}:
  wpAny (model g.prog g.w) F.A (pyIter v) (fun it s'=> ∃ I,it= .ref I/\(∀ fS,fS.heap=s'.heap->fS.gens=s'.gens->fS.os=s'.os->1<=fS.toks->codeAny (model g.prog g.w) F.A (.compLoop (.ListComp elt gens scope pos) d it (.ref acc) F.env) (jd g F h₀ H₀ acc Q X) fS)/\
   ∀ (Q':PE) (E':PE),Q' it s'->wpAny (model g.prog g.w) F.A (pyIter it) Q' E' s') E s:=by
 obtain ⟨tg,n,val,C,J,I,ht,hJ,j,turn,fin⟩:=w
 refine I F m H s v S (hJ _ _ _ _ j) r _ _ fun o P hI hf p=>⟨_,rfl,fun fS e1 e2 e3 oW=> ?_,fun Q' E' q=>(hI F hh).self 0 _ Q' E' p q⟩
 have C': ∀ b o',s.heap.get? b=some o'->(s.heap.push o).get? b=some o':=fun z0 z0 e=>Heap.get?_push_of_some o e
 obtain ⟨ah,bq⟩:=S.ext (t:=fS.toks) C'
 replace ah:=ah oW
 have aB:St g F m H fS:=by
  have:fS={ s with heap:=s.heap.push o,toks:=fS.toks,drawn:=fS.drawn }:=by
   obtain ⟨a1,a2,a3,a4,a5⟩:=fS;cases e1;cases e2;cases e3;rfl
  rw [this]
  exact ⟨ah.base,ah.obj,ah.loc,ah.eF,ah.aS,ah.jJ,ah.gJ,ah.frame,ah.lA,ah.gens,ah.os,ah.room,ah.eG,ah.dead,oW⟩
 have bX:aF F h₀ H₀ fS.heap H:=(e1▸K.trans bq)
 have D5:AccAt F fS.heap H acc ys:=(e1▸A0.keep S bq)
 have ne:s.heap.objs.size≠acc:=by obtain ⟨vs,ep,e,_⟩:=A0.obj;exact Nat.ne_of_gt (Heap.lt_size e)
 exact codeAny_mono (nQ (hI F hh) ht (vE _) hs hJ turn aB bX B0 ((e1▸p)) (one K.fresh) (one (S.lt (Nat.le_refl _)).1) (one S.fresh) na (fun z=>ne (List.mem_singleton.mp z).symm) D5 j) fun z0 z0 x=>x.mono fin
theorem yh {elt:Expr} {t0 i0 target iter:Expr} {je ifs:List Expr} {scope:Scope} {pos:Pos} {acc:Addr} {ys:List V} {Q:lj} (hh:Hk g F) (hs:F.stack≠[]) (uk: ∀ x,foldedSetIterable iter F.env x=pure x)
  (nM: ∀ tail,tail=(do let _ <- call (.builtin "list.append") [.ref acc, <- eval elt F.env]:Sem Unit)->WE g F (eval iter F.env) m H (fun a m H=>Walk g F acc target ifs tail a ys m H Q X) X):
  sD g F acc (do
   let x <- eval iter F.env
   standAt iter.pos
   let x <- foldedSetIterable iter F.env x
   let _ <- runOwn (.compStart (.ListComp elt [⟨t0,i0,je,0⟩,⟨target,iter,ifs,0⟩] scope pos) 1 (<- holding [x] (pyIter x)) (.ref acc) F.env) F.env) ys m H Q X:=fun h₀ H₀ s S K n0 B0 A0=>by
 refine wpAny_bind ((nM _ rfl).run S (fun v av a m₁ aL aA ah k₁ vA=> ?_) fun e s' x=>x.after K)
 have qA:=A0.keep S k₁
 have bq:=K.trans k₁
 refine wpAny_bind (wpAny_standAt (wpAny_bind (wpAny_of_eq (uk v) (wpAny_bind (wpAny_holding (wpAny_mono (wpAny_toks ah.tk (sE (elt:=elt) (iter:=iter) (gens:=[⟨t0,i0,je,0⟩,⟨target,iter,ifs,0⟩]) (d:=1) (scope:=scope) (pos:=pos) (fun it=>rfl) hh hs vA ah bq B0 n0 qA aA (E:=dA g F X h₀ H₀))) (fun it a9 P5=>P5.2.elim fun I eX=>eX.elim fun hI iL=>iL.elim fun hl CK=> ?_) fun z0 z0 x=>x.2))))))
 refine wpAny_bind (wpAny_runOwn (codeAny_mono (R:=jd g F h₀ H₀ acc Q X) ?_ fun r s' z=> ?_))
 .have all:codeAny (model g.prog g.w) F.A (.compLoop (.ListComp elt [⟨t0,i0,je,0⟩,⟨target,iter,ifs,0⟩] scope pos) 1 it (.ref acc) F.env) (jd g F h₀ H₀ acc Q X) a9:=hl a9 rfl rfl rfl P5.1
  refine codeAny_of_tree ?_
  skip
  refine wpAny_notedAt ?_
  skip
  refine wpAny_bind (wpAny_askSetting (wpAny_ite ?_))
  split
  .first
    | exact wpAny_bind (wpAny_pure (wpAny_pure (And.intro rfl all)))
    | exact wpAny_pure (And.intro rfl all)
  .first
    | exact wpAny_bind (wpAny_rule (wpAny_bind (wpAny_standAt (wpAny_bind (CK _ _ (wpAny_pure (And.intro rfl all)))))))
    | (refine wpAny_bind (wpAny_rule ?_);show wpAny _ _ (standAt iter.pos >>=_) _ _ a9;exact wpAny_bind (wpAny_standAt (wpAny_bind (CK _ _ (wpAny_pure (And.intro rfl all))))))
 .cases r with
  | ok f=>exact wpAny_pure z
  | error e=>
   obtain ⟨c,as,m',H',S',K',f',q'⟩:=z
   exact lD B0 S' K' f' q'
inductive lK (g:G) (F:Fm) (scope:Scope) (target:Expr) (ifs:List Expr) (tail:Fm->Addr->Sem Unit) (a:V) (m:Loc) (H:AH) (Q:List V->AH->Prop) (X:PX):Prop
 | mk (tg:Expr->Bool) (n:Nat) (val:NV) (C:AH->Prop) (J:Nat->List V->Loc->AH->Prop) (I:fh g tg a n val C) (ht:tg target=true) (hJ: ∀ i ys m H,J i ys m H->C H) (j:J 0 [] (g7 scope m) H)
  (turn: ∀ Fc acc,bM Fc F scope-> ∀ i ys m H,i<n->J i ys m H->WA g Fc target (val i) m H (fun m H=>WB g Fc (dI ifs Fc.env) m H (fun ok m H=>if ok then sD g Fc acc (tail Fc acc) ys m H (fun ys m H=>J (i+1) ys m H) X else J (i+1) ys m H) X) X)
  (fin: ∀ ys m H,J n ys m H->Q ys H)
structure jQ (g:G) (F:Fm) (h:Heap) (H':AH) (a:Addr):Prop where
 new:h.get? a=none
 base:g.B.get? a=none
 un:H' a=none
 aS:a∉F.aS
 fr:a∉F.fr
 cell: ∀ y,F.env.cells.lookup y≠some a
theorem St.sF {a:Addr} {H':AH} (S:St g F m H s) (n:s.heap.objs.size<=a) (u:H' a=none):jQ g F s.heap H' a:=by
 obtain ⟨n1,n2,n3⟩:=S.lt n
 have ne: ∀ b o,s.heap.get? b=some o->b≠a:=fun b o e q=>by subst q;exact on n3 e
 refine ⟨n3,n2,u,fun q=> ?_,fun q=> ?_,fun y hy=> ?_⟩
 .obtain ⟨_,_,o,e,_⟩:=S.aS a q;exact ne a o e rfl
 .obtain ⟨_,o,_,_,e,_⟩:=S.gJ a q;exact ne a o e rfl
 .obtain ⟨_,v,o,e,_⟩:=S.loc.cell y a hy;exact ne a o e rfl
noncomputable def qB (M:Model) (A:Around) (E:PE) (use:Option (Value->Sem Unit)) (Q:PE) (acc:Value) (C:Addr) (r:Result) (s':Shared):Prop:=
 match r,use with
 | .ok _,none=> ∃ mc,s'.heap.Ns C mc/\ ∀ h' mO,h'.Ns C mO->Heap.SameBut C s'.heap h'->Q acc { s' with heap:=h' }
 | .ok _,some u=>wpAny M A (u acc) (fun z0 fS=> ∃ mc,fS.heap.Ns C mc/\ ∀ h' mO,h'.Ns C mO->Heap.SameBut C fS.heap h'->Q .none { fS with heap:=h' }) E s'
 | .error x,_=> ∃ mc,s'.heap.Ns C mc/\ ∀ h' mO,h'.Ns C mO->Heap.SameBut C s'.heap h'-> ∀ cenv:Env,wpAny M A (PySem.passOn "comprehension.variables-let-go" x cenv:Sem Value) (fun z0 z0=>False) E { s' with heap:=h' }
theorem vF {M:Model} {A:Around} {env:Env} {e:Expr} {scope:Scope} {pos:Pos} {yi first:Sem Value} {c0:Comprehension} {gs:List Comprehension} {cl:List (Str×Addr)} {use:Option (Value->Sem Unit)} {Q:PE} {E:PE}
  (lE:clausesOf e=c0::gs) (hs: ∀ x,foldedSetIterable c0.iter env x=pure x) (Hi:closureFor scope env=pure cl) (dH:scope.kind= .function) (sG: ∀ x∈scope.names,x.2= .local->scope.names.lookup x.1=some .local)
  (h:wpAny M A first (fun x av=>wpAny M A (pyIter x) (fun it a9=>wpAny M A yi (fun acc aP=>wpAny M A (newFunctionEnv scope env.globals cl [] env.qual none .none (some env)) (fun cenv eM=>
   codeAny M A (.compStart e 0 it acc { cenv with scope:=relabel scope env }) (qB M A E use Q acc cenv.locals) eM) E aP) E a9) E av) E s):
  wpAny M A (comprehension e scope env pos yi false first use) Q E s:=by
 unfold comprehension
 rw [Hi,lE]
 refine wpAny_bind (wpAny_mono h (fun x av h₁=> ?_) fun z0 z0 y=>y)
 refine wpAny_bind (wpAny_standAt (wpAny_bind (wpAny_of_eq (hs x) (wpAny_bind (wpAny_holding (wpAny_mono h₁ (fun it a9 bB=> ?_) fun z0 z0 y=>y))))))
 refine wpAny_standIf (wpAny_bind (wpAny_mono bB (fun acc aP fC=>wpAny_bind (wpAny_pure (wpAny_bind (wpAny_mono fC (fun cenv eM gE=> ?_) fun z0 z0 y=>y)))) fun z0 z0 y=>y))
 dsimp only
 have own: ∀ l:List (Str×NameKind),(∀ x∈l,x∈(scope.names.filter fun x=>(x.2 == .local || x.2 == .cell) && x.1 != (".0":Str)).reverse)-> ∀ x∈l,x.2= .local->Env.kindOf { cenv with scope:=relabel scope env } x.1=some .local:=
  fun l hl x hx q=>lookup_relabel_local (sG x (List.mem_filter.mp (List.mem_reverse.mp (hl x hx))).1 q)
 refine wpAny_holding (wpAny_bind (wpAny_attempt (wpAny_holding (wpAny_run (codeAny_mono gE fun r s' z=> ?_)))))
 cases r with
 | ok f=>
  cases use with
  | none=>
   obtain ⟨mc,hn,z⟩:=z
   exact wpAny_bind (wpAny_holding (wpAny_comp_letGo (cenv:={ cenv with scope:=relabel scope env }) dH _ s' mc (own _ fun z0 q=>q) hn fun h' mO iJ D7=>wpAny_pure (z h' mO iJ D7)))
  | some u=>
   refine wpAny_bind (wpAny_rule (wpAny_bind (wpAny_holding (wpAny_mono z (fun z0 fS z'=> ?_) fun z0 z0 y=>y))))
   obtain ⟨mc,hn,z'⟩:=z'
   refine wpAny_bind (wpAny_comp_letGo (cenv:={ cenv with scope:=relabel scope env }) dH _ fS mc (own _ fun x q=> ?_) hn fun h' mO iJ D7=>wpAny_pure (z' h' mO iJ D7))
   rcases List.mem_append.mp q with q | q
   .exact List.mem_of_mem_drop q
   .exact List.mem_of_mem_take q
 | error x=>
  have z': ∃ mc,s'.heap.Ns cenv.locals mc/\ ∀ h' mO,h'.Ns cenv.locals mO->Heap.SameBut cenv.locals s'.heap h'-> ∀ Hj:Env,wpAny M A (PySem.passOn "comprehension.variables-let-go" x Hj:Sem Value) (fun z0 z0=>False) E { s' with heap:=h' }:=by cases use <;> exact z
  obtain ⟨mc,hn,z'⟩:=z'
  exact wpAny_bind (wpAny_holding (wpAny_comp_letGo (cenv:={ cenv with scope:=relabel scope env }) dH _ s' mc (own _ fun z0 q=>q) hn fun h' mO iJ D7=>wpAny_mono (z' h' mO iJ D7 _) (fun z0 z0 yy=>yy.elim) fun z0 z0 y=>y))
theorem sH {M:Model} {A:Around} {E:PE} {s:Shared} {scope:Scope} {globals:Addr} {cl:List (Str×Addr)} {qual:Str} {func:Option Addr} {code:Value} {outer:Env} {builtins:Addr} {Q:Env->Shared->Prop}
  (hQ: ∀ h',h'.Ns s.heap.objs.size (fun z0=>none)->(∀ b o,s.heap.get? b=some o->h'.get? b=some o)->CellsOk h' (s.heap.objs.size+1) (m9 scope s.heap.objs.size)->
   Q (newEnv scope s.heap.objs.size globals (m9 scope s.heap.objs.size++cl) qual func code (some outer) builtins) { s with heap:=h' }):
  wpAny M A (newFunctionEnv scope globals cl [] qual func code (some outer) builtins) Q E s:=by
 simp only [newFunctionEnv,Option.isSome_some,if_true]
 refine wpAny_bind (wpAny_alloc ?_)
 refine wpAny_bind (wpAny_layCells _ (fun name kind cells=>by cases R8:kind == NameKind.cell <;> simp [R8]) _ _ _ _ ?_)
 have ok:=cellsFrom_ok scope.names (s.heap.push { cls:= .type "dict",data:= .dict #[] }) (s.heap.objs.size+1) [] ⟨fun z0 z0 hm=>(nomatch hm),List.Pairwise.nil⟩ (by rw [Heap.size_push];exact Nat.le_refl _)
 rw [Heap.size_push] at ok
 rw [show ({ s with heap:=s.heap.push { cls:= .type "dict",data:= .dict #[] } }:Shared).heap.objs.size=s.heap.objs.size+1 from Heap.size_push ..,iC]
 exact wpAny_bind (wpAny_pure (wpAny_pure (hQ _ ((Heap.Ns.new s.heap (.type "dict")).keeps (pushCells_keeps _ _)) (fun b o e=>pushCells_keeps _ _ b o (Heap.get?_push_of_some _ e)) ok)))
noncomputable def lL (bC aW:bW):Prop:= ∀ a∈bC.bad,a∈aW.bad
omit ζ in
theorem lL.vl {bC aW:bW} (l:lL bC aW) {a:Addr} {o:Obj} (i: @eW aW a o): @eW bC a o:=by
 cases i with
 | tup vs ep h=>exact @eW.tup bC a vs ep fun z=>h (l a z)
 | kS=>exact @eW.kS bC a ..
 | view c d h=>exact @eW.view bC a c d h
 | code _ vs h h'=>exact @eW.code bC a _ vs h h'
omit ζ in
theorem lL.st {bC aW:bW} {g:G} {F:Fm} {m:Loc} {H:AH} {s:Shared} (l:lL bC aW) (S: @St aW g F m H s): @St bC g F m H s:=
 St.shift (t:=s.toks) S (fun z0 z0 e=>e) (fun z0 z0 i z0=>l.vl i) (fun a h=> @St.dead aW _ _ _ _ _ S a (l a h)) (@St.tk aW _ _ _ _ _ S)
omit ζ in
theorem lL.vr {bC aW:bW} {h:Heap} {x:V} {v:Value} (l:lL bC aW) (r: @VR aW h x v): @VR bC h x v:=VR.shift (fun z0 z0 z0 e=>e) (fun z0 z0 i z0=>l.vl i) _ _ r
omit ζ in
theorem lL.R9 {bC aW:bW} {h:Heap} {x:List V} {v:List Value} (l:lL bC aW) (r: @bh aW h x v): @bh bC h x v:=bh.shift (fun z0 z0 z0 e=>e) (fun z0 z0 i z0=>l.vl i) _ _ r
structure Hl (aW:Dz) (g:G) (F:Fm) (scope:Scope) (target:Expr) (ifs:List Expr) (tail:Fm->Addr->Sem Unit) (h₀:Heap) (H₀:AH) (Qy:lj) (X:PX) (aP:Shared)
  (av:Shared) (m₁:Loc) (aL:AH) (I:Addr) (ws:List Addr) (P:Nat->Heap->Prop) (n:Nat) (val:NV) (C:AH->Prop) (J:Nat->List V->Loc->AH->Prop) (tg:Expr->Bool):Prop where
 ah:St g F m₁ aL av
 k₁:aF F h₀ H₀ av.heap aL
 kp: ∀ b o,av.heap.get? b=some o->aP.heap.get? b=some o
 bf: @St aW g F m₁ aL aP
 new: ∀ b∈ws,av.heap.objs.size<=b/\b<aP.heap.objs.size
 big:av.heap.objs.size<=aP.heap.objs.size
 it: ∀ F':Fm,Hk g F'-> @Iter aW g F' I ws P C n val tg
 ht:tg target=true
 p:P 0 aP.heap
 hJ: ∀ i ys m H,J i ys m H->C H
 j:J 0 [] (g7 scope m₁) aL
 turn: ∀ Fc acc,bM Fc F scope-> ∀ i ys m H,i<n->J i ys m H-> @WA aW g Fc target (val i) m H (fun m H=> @WB aW g Fc (dI ifs Fc.env) m H (fun ok m H=>if ok then @sD aW g Fc acc (tail Fc acc) ys m H (fun ys m H=>J (i+1) ys m H) (fun c as z0 H=>X c as m₁ H) else J (i+1) ys m H) (fun c as z0 H=>X c as m₁ H)) (fun c as z0 H=>X c as m₁ H)
 fin: ∀ ys m H,J n ys m H->Qy ys m₁ H
inductive yj (g:G) (F:Fm) (scope:Scope) (target:Expr) (ifs:List Expr) (tail:Fm->Addr->Sem Unit) (h₀:Heap) (H₀:AH) (Qy:lj) (X:PX) (it:Value) (aP:Shared):Prop
 | mk (aW:Dz) (av:Shared) (m₁:Loc) (aL:AH) (I:Addr) (ws:List Addr) (P:Nat->Heap->Prop) (n:Nat) (val:NV) (C:AH->Prop) (J:Nat->List V->Loc->AH->Prop) (tg:Expr->Bool) (lz:lL ζ aW) (e:it= .ref I) (w:Hl aW g F scope target ifs tail h₀ H₀ Qy X aP av m₁ aL I ws P n val C J tg)
theorem nR {target iter:Expr} {ifs:List Expr} {tail:Fm->Addr->Sem Unit} {scope:Scope} {Qy:lj} (S:St g F m H s)
  (h:WE g F (eval iter F.env) m H (fun a m H=>lK g F scope target ifs tail a m H (fun ys H=>Qy ys m H) (fun c as z0 H=>X c as m H)) X):
  wpAny (model g.prog g.w) F.A (eval iter F.env) (fun v a9=>wpAny (model g.prog g.w) F.A (pyIter v) (fun it aP=>yj g F scope target ifs tail s.heap H Qy X it aP) (dA g F X s.heap H) a9) (dA g F X s.heap H) s:=by
 refine h.run S (fun v av a m₁ aL aA ah k₁ w=> ?_) fun z0 z0 x=>x
 obtain ⟨tg,n,val,C,J,I,ht,hJ,j,turn,fin⟩:=w
 refine I F m₁ aL av v ah (hJ _ _ _ _ j) aA _ _ fun o P hI hf p=> ?_
 have Hm: ∀ b o',av.heap.get? b=some o'->(av.heap.push o).get? b=some o':=fun z0 z0 e=>Heap.get?_push_of_some o e
 have aB:=(ah.ext (t:=av.toks) Hm).1 ah.tk
 refine ⟨ζ,av,m₁,aL,_,_,P,n,val,C,J,tg,fun z0 z=>z,rfl,ah,k₁,Hm,aB,one ⟨Nat.le_refl _, ?_⟩, ?_,hI,ht,p,hJ,j,turn,fin⟩
 .show _<(av.heap.push o).objs.size;rw [Heap.size_push];exact Nat.lt_succ_self _
 .show _<=(av.heap.push o).objs.size;rw [Heap.size_push];exact Nat.le_succ _
noncomputable def yk (g:G) (F:Fm) (h:Heap) (H:AH) (C:Addr):Prop:= ∀ h' t yl kl fS,St g F yl kl fS->aF F h H fS.heap kl->kl C=none->(∃ mc,fS.heap.Ns C mc)->(∃ mc,h'.Ns C mc)->Heap.SameBut C fS.heap h'->(1<=t->St g F yl kl { fS with heap:=h',toks:=t })/\aF F h H h' kl
theorem yk.of {av:Shared} {m₁:Loc} {aL:AH} {C:Addr} (ah:St g F m₁ aL av) (CL:av.heap.objs.size<=C) (since:av.heap.get? C=none->s.heap.get? C=none):yk g F s.heap H C:=by
 intro h' t yl kl fS T k u ⟨mc,oC,Uq,P6,eC,dC,_⟩ ⟨mO,Sa,MY,MZ,P7,Sb,_⟩ Be
 have nb:=ah.sF CL u
 obtain ⟨T',k'⟩:=T.off (t:=t) (h₀:=s.heap) (H₀:=H) (fun c o' e n=>(Be.2 c n).trans e) u nb.base nb.aS nb.fr nb.cell (fun o' e i=>by obtain rfl:=oi eC e;exact i.data.1 _ _ dC) (fun o' es ep e d=>⟨Sa,MY,MZ,P7,Sb⟩) ⟨_,P7⟩
 exact ⟨T',k' k (since nb.new)⟩
theorem eY.less {aW:Dz} {h h₀ h':Heap} {H':AH} {e c:Value} {as:List V} (lz:lL ζ aW) (since: ∀ b,h.get? b=none->h₀.get? b=none) (f: @eY aW h e c as h' H'):eY h₀ e c as h' H':=by
 obtain ⟨a,o,vs,v,T,oT,ts,x,y⟩:=f
 obtain ⟨h1,h2,h3,h4,h5,h6,h7,h8,h9,vo⟩:=y
 exact ⟨a,o,vs,v,T,oT,ts,x,h1,since _ h2,h3,h4,h5,h6,h7,h8,lz.vr h9,vo.q1,vo.q2,since _ vo.q3,vo.q4,vo.q5,vo.q6,vo.q7,vo.q8⟩
theorem eY.but {h₀ h h':Heap} {H':AH} {e c:Value} {as:List V} {C:Addr} {mr:Str->Option Value} (hn:h.Ns C mr) (hs:Heap.SameBut C h h') (f:eY h₀ e c as h H'):eY h₀ e c as h' H':=by
 obtain ⟨oL,AY,AZ,eL,dL,_⟩:=hn
 obtain ⟨a,oe,vs,v,T,oT,ts,x,h1,h2,h3,h4,h5,h6,h7,h8,h9,t1,t2,t3,t4,t5,t6,t7,t8⟩:=f
 have ne: ∀ b o' vs,h.get? b=some o'->o'.data= .fields vs->b≠C:=fun b o' vs e d q=>Data.noConfusion ((oi (q▸e) eL▸d).symm.trans dL)
 exact ⟨a,oe,vs,v,T,oT,ts,x,h1,h2,h3,(hs.2 a (ne a oe vs h4 h7)).trans h4,h5,h6,h7,h8,h9.mono fun b ob i eb=>(hs.2 b fun q=>i.data.1 _ _ (oi eL (q▸eb)▸dL)).trans eb,t1,t2,t3,t4,(hs.2 T (ne T oT ts t5 t7)).trans t5,t6,t7,t8⟩
theorem ym {e c:Value} {as:List V} {h₀:Heap} {H₀:AH} (B0:g.B.StaysIn h₀) (S:St g F m H s) (K:aF F h₀ H₀ s.heap H) (f:eY h₀ e c as s.heap H) (q:X c as m H) (cenv:Env):
  wpAny (model g.prog g.w) F.A (PySem.passOn "comprehension.variables-let-go" e cenv:Sem Value) (fun z0 z0=>False) (dA g F X h₀ H₀) s:=by
 have f':=f
 obtain ⟨a,oe,vs,v,T,oT,ts,x,rfl,h2,h3,h4,h5,h6,h7,h8,h9,t1,_⟩:=f'
 refine wpAny_bind (wpAny_field h4 h7 t1 ?_)
 refine az ((show ¬ ((Value.ref T == Value.none)=true) from by simp)) ?_
 exact wpAny_bind (iN S K B0 f fun M0 D8 M4 M5=>wpAny_throw ⟨c,as,m,H,M5.Jr,D8,M4,q⟩)
theorem vG {aW:Dz} {scope:Scope} {cl:List (Str×Addr)} {use:Option (Value->Sem Unit)} {Q:PE} {Qy Qn:lj} {av s':Shared} {m₁:Loc} {aL:AH} {acc C:Addr} {r:Result} (lz:lL ζ aW) (S:St g F m H s) (ah:St g F m₁ aL av) (k₁:aF F s.heap H av.heap aL) (FZ:av.heap.objs.size<=acc) (CL:av.heap.objs.size<=C) (ne:C≠acc)
  (fin: ∀ ys m H,Qn ys m H->Qy ys m₁ H)
  (hq: ∀ acc C s' ys m' H',St g F m' H' s'->aF F s.heap H s'.heap H'->jQ g F s.heap H' acc->OH g s'.heap acc (.list ys)->Qy ys m' H'->jQ g F s.heap H' C->C≠acc->(∃ mc,s'.heap.Ns C mc)->
   yk g F s.heap H C->
   qB (model g.prog g.w) F.A (dA g F X s.heap H) use Q (.ref acc) C (.ok .next) s')
  (z: @jd aW g (F.comp scope cl C) av.heap aL acc Qn (fun c as z0 H=>X c as m₁ H) r s'):qB (model g.prog g.w) F.A (dA g F X s.heap H) use Q (.ref acc) C r s':=by
 have since: ∀ b,av.heap.get? b=none->s.heap.get? b=none:=fun b e=>by
  cases q:s.heap.get? b with
  | none=>rfl
  | some o'=>obtain ⟨oR,z⟩:=k₁.alive b o' q;exact on e z
 have off:yk g F s.heap H C:= .of ah CL (since C)
 cases r with
 | ok f=>
  obtain ⟨ys,m',H',S',K',A',q'⟩:=z
  have S':=lz.st S'
  obtain ⟨gh,lG⟩:=ah.qz (fun z0 z0 e=>e) CL S' K'
  obtain ⟨vs,ep,ea,ra⟩:= @AccAt.obj aW _ _ _ _ _ A'
  have ra:=lz.R9 ra
  have F3:=ah.sF FZ (@AccAt.un aW _ _ _ _ _ A')
  have F4:=ah.sF CL (S'.aS _ List.mem_cons_self).1
  have:=hq acc C s' ys m₁ H' gh (k₁.trans lG) ⟨since _ F3.new,F3.base,F3.un,F3.aS,F3.fr,F3.cell⟩ ⟨vs,ep,ea,ra⟩ (fin ys m' H' q')
   ⟨since _ F4.new,F4.base,F4.un,F4.aS,F4.fr,F4.cell⟩ ne (S'.loc.val.casesOn fun mr hn z0=>⟨mr,hn⟩) off
  cases use <;> exact this
 | error e=>
  obtain ⟨c,as,m',H',S',K',f',q'⟩:=z
  have S':=lz.st S'
  obtain ⟨gh,lG⟩:=ah.qz (fun z0 z0 e=>e) CL S' K'
  obtain ⟨mr,hn,_⟩:=S'.loc.val
  have Hn:=k₁.trans lG
  have M6: ∃ mc,s'.heap.Ns C mc/\ ∀ h' mO,h'.Ns C mO->Heap.SameBut C s'.heap h'-> ∀ cenv:Env,wpAny (model g.prog g.w) F.A (PySem.passOn "comprehension.variables-let-go" e cenv:Sem Value) (fun z0 z0=>False) (dA g F X s.heap H) { s' with heap:=h' }:=
   ⟨mr,hn,fun h' mO M7 Be cenv=>(off h' s'.toks m₁ H' s' gh Hn (S'.aS _ List.mem_cons_self).1 ⟨mr,hn⟩ ⟨mO,M7⟩ Be).elim fun r9 xW=>ym S.base (r9 gh.tk) xW (eY.but (C:=C) (h':=h') hn Be (f'.less lz since)) q' cenv⟩
  cases use <;> exact M6
theorem lM {elt target iter:Expr} {ifs:List Expr} {tail:Fm->Addr->Sem Unit} {rest:List Comprehension} {scope:Scope} {pos M8:Pos} {use:Option (Value->Sem Unit)} {Q:PE} {Qy:lj}
  (hd:aM F scope) (uk: ∀ x,foldedSetIterable iter F.env x=pure x) (hh:Hk g F) (hs:F.stack≠[])
  (vE: ∀ Fc acc it,compTurn (.ListComp elt (⟨target,iter,ifs,0⟩::rest) scope pos) 0 it (.ref acc) Fc.env=dJ target iter ifs it (tail Fc acc) (.ListComp elt (⟨target,iter,ifs,0⟩::rest) scope pos) 0 (.ref acc) Fc.env)
  (S:St g F m H s)
  (h:wpAny (model g.prog g.w) F.A (eval iter F.env) (fun v a9=>wpAny (model g.prog g.w) F.A (pyIter v) (fun it aP=>yj g F scope target ifs tail s.heap H Qy X it aP) (dA g F X s.heap H) a9) (dA g F X s.heap H) s)
  (hq: ∀ acc C s' ys m' H',St g F m' H' s'->aF F s.heap H s'.heap H'->jQ g F s.heap H' acc->OH g s'.heap acc (.list ys)->Qy ys m' H'->jQ g F s.heap H' C->C≠acc->(∃ mc,s'.heap.Ns C mc)->
   yk g F s.heap H C->
   qB (model g.prog g.w) F.A (dA g F X s.heap H) use Q (.ref acc) C (.ok .next) s'):
  wpAny (model g.prog g.w) F.A (comprehension (.ListComp elt (⟨target,iter,ifs,0⟩::rest) scope pos) scope F.env M8 (newList []) false (eval iter F.env) use) Q (dA g F X s.heap H) s:=by
 obtain ⟨cl,lE,M9,sy,_⟩:=iE hd.cells
 refine vF (c0:=⟨target,iter,ifs,0⟩) (gs:=rest) rfl uk lE hd.kind hd.names (wpAny_mono h (fun v a9 bB=>wpAny_mono bB (fun it aP w=> ?_) fun z0 z0 x=>x) fun z0 z0 x=>x)
 obtain ⟨aW,av,m₁,aL,I,ws,P,n,val,C,J,tg,lz,rfl,w⟩:=w
 have ah:=w.ah
 have k₁:=w.k₁
 refine wpAny_newObj_type ?_
 have Ho: ∀ b o',aP.heap.get? b=some o'->(aP.heap.push (cp [] 0)).get? b=some o':=fun z0 z0 e=>Heap.get?_push_of_some _ e
 have c6:=(@St.ext aW _ _ _ _ _ _ aP.toks w.bf Ho).1 (@St.tk aW _ _ _ _ _ w.bf)
 refine sH fun gE Hp kp ok=> ?_
 dsimp only at Hp kp ok|-
 obtain ⟨gh,Sd⟩:= @St.vC aW _ _ _ _ _ _ cl gE aP.toks c6 hd.kind kp Hp ok hd.cell M9 sy hd.free (@St.tk aW _ _ _ _ _ w.bf)
 have Jt:(aP.heap.push (cp [] 0)).objs.size=aP.heap.objs.size+1:=by rw [Heap.size_push]
 have FZ:av.heap.objs.size<=aP.heap.objs.size:=w.big
 have CL:av.heap.objs.size<=(aP.heap.push (cp [] 0)).objs.size:=(Jt▸Nat.le_succ_of_le FZ)
 have Nb:aP.heap.objs.size≠(aP.heap.push (cp [] 0)).objs.size:=(Jt▸Nat.ne_of_lt (Nat.lt_succ_self _))
 have Nc: ¬ (aP.heap.push (cp [] 0)).objs.size<=aP.heap.objs.size:=(Jt▸Nat.not_le.mpr (Nat.lt_succ_self _))
 have Nf: ∀ b∈ws, ¬ (aP.heap.push (cp [] 0)).objs.size<=b:=fun b hb=>(Jt▸Nat.not_le.mpr (Nat.lt_succ_of_lt (w.new b hb).2))
 have Js:aP.heap.objs.size∉ws:=fun z=>absurd (w.new _ z).2 (Nat.lt_irrefl _)
 have Ju: ∀ b o',aP.heap.get? b=some o'->gE.get? b=some o':=fun b o' e=>kp b o' (Ho b o' e)
 have Ng: ∀ b o',av.heap.get? b=some o'->gE.get? b=some o':=fun b o' e=>Ju b o' (w.kp b o' e)
 have eZ:aF (F.comp scope cl (aP.heap.push (cp [] 0)).objs.size) av.heap aL gE aL:=⟨fun b o' e=>⟨o',Ng b o' e⟩, .ext Ng,fun b o' e n z0=>⟨n, .inl (Ng b o' e)⟩⟩
 have Hq:P 0 gE:= @Iter.stay aW _ _ _ _ _ _ _ _ _ (w.it F hh) 0 _ _ w.p (fun b hb=>by
  obtain ⟨o',e,_⟩:= @Iter.obj aW _ _ _ _ _ _ _ _ _ (w.it F hh) 0 _ w.p b hb
  exact (Ju b o' e).trans e.symm) (@dY.mk aW _ _ (fun b o' z0 e=>Ju b o' e) (.ext Ju))
 have Nh: @AccAt aW (F.comp scope cl (aP.heap.push (cp [] 0)).objs.size) gE aL aP.heap.objs.size []:=
  @AccAt.mk aW _ _ _ _ _ ⟨[],0,kp _ _ (Heap.get?_push_size _ rfl), @bh.gC aW _⟩ (ah.lt FZ).1 (fun q=>Nc (jP q))
 have core:= @nQ aW g (F.comp scope cl (aP.heap.push (cp [] 0)).objs.size) (g7 scope m₁) aL { aP with heap:=gE,toks:=aP.toks } av.heap aL (fun c as z0 H=>X c as m₁ H) I aP.heap.objs.size ws P C n 0 val tg target iter elt ifs (tail (F.comp scope cl (aP.heap.push (cp [] 0)).objs.size) aP.heap.objs.size) (⟨target,iter,ifs,0⟩::rest) scope pos [] J (w.it _ hh) w.ht
  (vE (F.comp scope cl (aP.heap.push (cp [] 0)).objs.size) aP.heap.objs.size (.ref I)) (by show F.stack≠[];exact hs) w.hJ (w.turn _ _ Sd) gh eZ ah.base Hq
  (fun b hb=>(ah.lt (w.new b hb).1).2.2) (fun b hb=>(ah.lt (w.new b hb).1).1) (fun b hb q=>Nf b hb (jP q)) (ah.lt FZ).2.2 Js Nh w.j
 have CM:codeAny (model g.prog g.w) F.A (.compLoop (.ListComp elt (⟨target,iter,ifs,0⟩::rest) scope pos) 0 (.ref I) (.ref aP.heap.objs.size) (F.comp scope cl (aP.heap.push (cp [] 0)).objs.size).env)
   (qB (model g.prog g.w) F.A (dA g F X s.heap H) use Q (.ref aP.heap.objs.size) (aP.heap.push (cp [] 0)).objs.size) { aP with heap:=gE,toks:=aP.toks }:=by
  refine codeAny_mono core fun r s' z=> ?_
  exact vG lz S ah k₁ FZ CL (Ne.symm Nb) w.fin hq z
 exact codeAny_compStart_list CM (@Iter.self aW _ _ _ _ _ _ _ _ _ (w.it F hh) 0 _ _ _ Hq CM)
end
section
variable {g:G} {F:Fm} {m:Loc} {H:AH} {s:Shared} {X:PX}
theorem St.yn {a:Addr} {ys:List V} {h₀:Heap} {H₀:AH} (S:St g F m H s) (K:aF F h₀ H₀ s.heap H) (nb:jQ g F h₀ H a) (hn:OH g s.heap a (.list ys)):St g F m (put H a (.list ys)) s/\aF F h₀ H₀ s.heap (put H a (.list ys)):=
 S.CF K nb.new nb.base nb.un nb.aS nb.fr nb.cell hn
theorem dK {elt target iter:Expr} {ifs:List Expr} {tail:Fm->Addr->Sem Unit} {rest:List Comprehension} {scope:Scope} {pos:Pos} {Q:PV}
  (hd:aM F scope) (uk: ∀ x,foldedSetIterable iter F.env x=pure x) (hh:Hk g F) (hs:F.stack≠[])
  (vE: ∀ Fc acc it,compTurn (.ListComp elt (⟨target,iter,ifs,0⟩::rest) scope pos) 0 it (.ref acc) Fc.env=dJ target iter ifs it (tail Fc acc) (.ListComp elt (⟨target,iter,ifs,0⟩::rest) scope pos) 0 (.ref acc) Fc.env)
  (h:WE g F (eval iter F.env) m H (fun a m H=>lK g F scope target ifs tail a m H (fun ys H=> ∀ b,H b=none->Q (.ref b) m (put H b (.list ys))) (fun c as z0 H=>X c as m H)) X):
  WE g F (eval (.ListComp elt (⟨target,iter,ifs,0⟩::rest) scope pos) F.env) m H Q X:=fun s S=>by
 rw [eval_ListComp]
 refine lM (use:=none) (Qy:=fun ys m H=> ∀ b,H b=none->Q (.ref b) m (put H b (.list ys))) hd uk hh hs vE S (nR S h) fun acc C s' ys m' H' S' K' nA oA q nC ne cy off=>cy.elim fun mc hn=>⟨mc,hn,fun h' mO iJ Bf=> ?_⟩
 obtain ⟨ah,bq⟩:=off h' s'.toks m' H' s' S' K' nC.un ⟨mc,hn⟩ ⟨mO,iJ⟩ Bf
 replace ah:=ah S'.tk
 have Se:OH g h' acc (.list ys):=by
  obtain ⟨vs,ep,e,r⟩:=oA
  obtain ⟨oC,es,P6,eC,dC,_⟩:=hn
  exact ⟨vs,ep,(Bf.2 acc (Ne.symm ne)).trans e,r.mono fun b o i eb=>(Bf.2 b fun z=>by subst z;obtain rfl:=oi eC eb;exact i.data.1 _ _ dC).trans eb⟩
 obtain ⟨aB,bX⟩:=ah.yn bq nA Se
 exact ⟨.ref acc,m',_, .ip acc,fun z0=>aB,bX,q acc nA.un⟩
theorem D9 {elt target iter:Expr} {ifs:List Expr} {tail:Fm->Addr->Sem Unit} {rest:List Comprehension} {scope:Scope} {pos vH:Pos} {x:Str} {px:Pos} {Q:eI}
  (Ni:swapsWith (.ListComp elt (⟨target,iter,ifs,0⟩::rest) scope pos) (some (.Name x px)) vH.line F.env=pure true) (hx:Stores F x)
  (hd:aM F scope) (uk: ∀ x,foldedSetIterable iter F.env x=pure x) (hh:Hk g F) (hs:F.stack≠[])
  (vE: ∀ Fc acc it,compTurn (.ListComp elt (⟨target,iter,ifs,0⟩::rest) scope pos) 0 it (.ref acc) Fc.env=dJ target iter ifs it (tail Fc acc) (.ListComp elt (⟨target,iter,ifs,0⟩::rest) scope pos) 0 (.ref acc) Fc.env)
  (h:WE g F (eval iter F.env) m H (fun a m H=>lK g F scope target ifs tail a m H (fun ys H=> ∀ b,H b=none->Q .next (bw m x (.ref b)) (put H b (.list ys))) (fun c as z0 H=>X c as m H)) X):
  WS g F (exec (.Assign [.Name x px] (.ListComp elt (⟨target,iter,ifs,0⟩::rest) scope pos) vH) F.env) m H Q X:=fun s S=>by
 rw [exec_Assign_Name_used _ _ _ _ Ni]
 refine wpAny_bind (wpAny_standAt (wpAny_bind ?_))
 skip
 refine wpAny_bind (wpAny_mono (lM (use:=some (assign (.Name x px) F.env)) (Q:=fun z0 s'=>bG g F FR Q s.heap H .next s') (Qy:=fun ys m H=> ∀ b,H b=none->Q .next (bw m x (.ref b)) (put H b (.list ys))) hd uk hh hs vE S (nR S h)
  fun acc C s' ys m' H' S' K' nA oA q nC ne cy off=>cy.elim fun mc hn=> ?_) (fun z0 s' hq=>wpAny_pure (wpAny_pure hq)) fun z0 z0 e=>e)
 obtain ⟨aB,bX⟩:=S'.yn K' nA oA
 skip
 refine aU aB.tk (bH (X:=X) (Q:=fun m H=>Q .next m H) hx (q acc nA.un) s' _ aB (.ip acc)) (fun z0 fS z0 yl kl z0 bf dG dU=> ?_) fun z0 z0 x=>x.after bX
 have iB:=bX.trans dG
 obtain ⟨oC,es,P6,eC,dC,rC⟩:=id hn
 have u2:put H' acc (.list ys) C=none:=((cU _ _ ne)▸nC.un)
 obtain ⟨DK,z⟩:=dG.same C oC eC u2 nC.aS
 have Hr:fS.heap.Ns C mc:=ud hn fun o e=>by
  obtain rfl:=oi eC e
  exact z.any
 refine ⟨mc,Hr,fun h' mO iJ Bf=> ?_⟩
 obtain ⟨c6,eZ⟩:=off h' fS.toks yl kl fS bf iB DK ⟨mc,Hr⟩ ⟨mO,iJ⟩ Bf
 exact ⟨.next,yl,kl,rfl,c6,eZ,dU⟩
noncomputable def lN (elt:Expr) (Fc:Fm) (acc:Addr):Sem Unit:=do let _ <- call (.builtin "list.append") [.ref acc, <- eval elt Fc.env]
noncomputable def lO (elt t0 i0:Expr) (je:List Expr) (target iter:Expr) (ifs:List Expr) (scope:Scope) (pos:Pos) (Fc:Fm) (acc:Addr):Sem Unit:=do
 let x <- eval iter Fc.env
 standAt iter.pos
 let x <- foldedSetIterable iter Fc.env x
 let _ <- runOwn (.compStart (.ListComp elt [⟨t0,i0,je,0⟩,⟨target,iter,ifs,0⟩] scope pos) 1 (<- holding [x] (pyIter x)) (.ref acc) Fc.env) Fc.env
theorem bz (elt target iter:Expr) (ifs:List Expr) (scope:Scope) (pos:Pos) (Fc:Fm) (acc:Addr) (it:Value):
  compTurn (.ListComp elt [⟨target,iter,ifs,0⟩] scope pos) 0 it (.ref acc) Fc.env=dJ target iter ifs it (lN elt Fc acc) (.ListComp elt [⟨target,iter,ifs,0⟩] scope pos) 0 (.ref acc) Fc.env:=rfl
theorem jf (elt t0 i0 target iter:Expr) (je ifs:List Expr) (scope:Scope) (pos:Pos) (Fc:Fm) (acc:Addr) (it:Value):
  compTurn (.ListComp elt [⟨t0,i0,je,0⟩,⟨target,iter,ifs,0⟩] scope pos) 0 it (.ref acc) Fc.env=dJ t0 i0 je it (lO elt t0 i0 je target iter ifs scope pos Fc acc) (.ListComp elt [⟨t0,i0,je,0⟩,⟨target,iter,ifs,0⟩] scope pos) 0 (.ref acc) Fc.env:=by
 unfold compTurn dJ yf dI
 simp only [List.getElem?_cons_zero,List.getElem?_cons_succ,Nat.zero_add]
 refine congrArg (Sem.bind (standAt i0.pos)) (funext fun z0=>congrArg (Sem.bind (pyNext it)) (funext fun r=> ?_))
 cases r with
 | none=>rfl
 | some v=>
  refine congrArg (Sem.bind (letOwnedTupleGo t0 it v)) (funext fun z0=>congrArg (Sem.bind (assign t0 Fc.env v)) (funext fun z0=>congrArg (Sem.bind _) (funext fun ok=> ?_)))
  unfold lO
  simp only [bind_assoc,pure_bind,bne_self_eq_false,Bool.false_eq_true,if_false]
end
noncomputable def LA (g:G) (H:AH) (a:Addr) (xs:List V):Prop:=H a=some (.list xs)\/ ∃ vs ep,g.B.get? a=some (cp vs ep)/\bh g.B xs vs
theorem LA.at {g:G} {F:Fm} {m:Loc} {H:AH} {s:Shared} {a:Addr} {xs:List V} (S:St g F m H s) (x:LA g H a xs):uc s.heap a xs:=by
 rcases x with x | ⟨vs,ep,e,r⟩
 .exact (S.obj a _ x).2
 .exact ⟨vs,ep,S.base _ _ e,r.mono fun b o z0 q=>S.base b o q⟩
noncomputable def Kp (g:G) (f:Value):Prop:= ∀ h,g.K.In h-> ∃ k,(k=Keeper.frame\/k=Keeper.machine\/k=Keeper.boundFrame)/\Looks (model g.prog g.w) h (keeperOf f) k
theorem Kp.own {g:G} {f:Value} (h:keepIn g.K f=true):Kp g f:=keeps_K h
theorem Kp.blt {g:G} (id:String):Kp g (.builtin id):=fun z0 z0=>⟨.machine, .inr (.inl rfl), .now⟩
theorem Kp.type {g:G} (id:String):Kp g (.type id):=fun z0 z0=>⟨.machine, .inr (.inl rfl), .now⟩
section
variable {g:G} {F:Fm} {m:Loc} {H:AH} {X:PX} {Q:PV}
theorem dM {M:Model} {A:Around} {E:PE} {s:Shared} {f:Value} {args:List (Bool×Sem Value)} {Q:Args->Shared->Prop} (hp:args.any (·.1)=false)
  (h:wpAny M A (spliced args) (fun vs s'=>Q ⟨vs,[]⟩ s') E s):wpAny M A (evalArgs f true args []) Q E s:=by
 cases args with
 | nil=>
  skip
  refine wpAny_bind (wpAny_mono h (fun vs s' h'=> ?_) fun z0 z0 x=>x)
  refine wpAny_bind (wpAny_pure ?_)
  refine wpAny_holding ?_
  exact wpAny_bind (wpAny_pure (wpAny_bind (wpAny_pure (wpAny_pure h'))))
 | cons x r=>
  obtain ⟨b,x⟩:=x
  cases b
  .exact evalArgs_plain h
  .simp at hp
noncomputable abbrev CW (g:G) (F:Fm) (f:Value) (first:List V) (pos:Pos) (args:List Expr) (m:Loc) (H:AH) (Q:PV) (X:PX):Prop:=
 WN g F VR first (fun fv=>callWith pos f fv (backTo pos (starEach args F.env)) []) m H Q X
noncomputable abbrev WC (g:G) (F:Fm) (f:Value) (xs:List V) (m:Loc) (H:AH) (Q:PV) (X:PX):Prop:=WN g F VR xs (fun vs=>call f vs) m H Q X
noncomputable abbrev Hs (g:G) (F:Fm) (f:Value) (first:List V) (Q:PV) (X:PX):List V->Loc->AH->Prop:=fun xs m H=>WC g F f (first++xs) m H Q X
noncomputable abbrev P8 (g:G) (F:Fm) (pos:Pos) (args:List Expr) (Q:PV) (X:PX):V->Loc->AH->Prop:=fun a m H=> ∃ f,a= .cst f/\CW g F f [] pos args m H Q X
theorem ai {f:Value} {first:List V} {pos:Pos} {args:List Expr} (hk:Kp g f) (h:WL g F (spliced (backTo pos (starEach args F.env))) m H (Hs g F f first Q X) X)
  (hp:(backTo pos (starEach args F.env)).any (·.1)=false:=by rfl):CW g F f first pos args m H Q X:=fun s fv S r=>by
 refine callWith_of (P:=g.K.In) (by rw [hp];rfl) hk (dM hp (h.run S (fun vs av xs m₁ aL aA ah k₁ h₁=>⟨g.gq.keeps ah.base, ?_⟩) fun z0 z0 x=>x))
 exact wpAny_mono (h₁ av _ ah ((r.keep S k₁).append aA)) (fun z0 z0 x=>x.after k₁) fun z0 z0 x=>x.after k₁
noncomputable def qC (g:G) (a:V) (H:AH) (xs:List V):Prop:=xs.length<=sizeLine/\(a= .tup xs\/ ∃ l,a= .ref l/\LA g H l xs)
theorem qC.star {a:V} {xs:List V} {s:Shared} {v:Value} {Q:List Value->Shared->Prop} {E:PE} (x:qC g a H xs) (S:St g F m H s) (r:VR s.heap a v)
  (h: ∀ vs h',(∀ b o,s.heap.get? b=some o->h'.get? b=some o)->bh h' xs vs->Q vs { s with heap:=h' }):StarOf (model g.prog g.w) F.A E v Q s:=by
 obtain ⟨hz,x⟩:=x
 have: ∃ t vs ep T,(T="list"\/T="tuple")/\v= .ref t/\s.heap.get? t=some { cls:= .type T,data:= .seq vs.toArray ep }/\bh s.heap xs vs:=by
  rcases x with rfl | ⟨l,rfl,x⟩
  .replace r:=VR.cM r;obtain ⟨t,vs,ep,rfl,e,r⟩:=r;exact ⟨t,vs,ep,"tuple", .inr rfl,rfl,e,r⟩
  .rw [VR.ay] at r;subst r;obtain ⟨vs,ep,e,r⟩:=x.at S;exact ⟨l,vs,ep,"list", .inl rfl,rfl,e,r⟩
 obtain ⟨t,vs,ep,T,hT,rfl,e,rs⟩:=this
 have Ht:s.TypeIs (.ref t) T:=⟨_,e,rfl⟩
 have z:wpAny (model g.prog g.w) F.A (collect (.ref t)) Q E s:=by
  refine wpAny_collect_seq t hT e rfl rfl (fun h' hk=> ?_) (by rw [List.size_toArray,rs.length];exact hz)
  rw [List.toList_toArray]
  exact h vs h' hk (rs.mono fun z0 z0 z0 q=>hk _ _ q)
 rcases hT with rfl | rfl
 .exact wpAny_bind (wpAny_specialOf Ht PySem.F.slot_list_iter.lookup (wpAny_pure ⟨rfl,z⟩))
 .exact wpAny_bind (wpAny_specialOf Ht PySem.F.slot_tuple_iter.lookup (wpAny_pure ⟨rfl,z⟩))
theorem aJ {fn:Expr} {args:List Expr} {pos:Pos} (h:WE g F (eval fn F.env) m H (P8 g F pos args Q X) X)
  (he:eval (.Call fn args [] pos) F.env=(eval fn F.env >>=fun f=>callWith pos f [] (backTo pos (starEach args F.env)) []):=by rfl):WE g F (eval (.Call fn args [] pos) F.env) m H Q X:=fun s S=>by
 rw [he]
 refine wpAny_bind (h.run S (fun v av a m₁ aL aA ah k₁ cy=>cy.elim fun f eX=>eX.elim fun e h₁=> ?_) fun z0 z0 x=>x)
 subst e
 rw [VR.i7] at aA
 subst aA
 exact wpAny_mono (h₁ av [] ah .gC) (fun z0 z0 x=>x.after k₁) fun z0 z0 x=>x.after k₁
noncomputable def Meth (g:G) (a:V) (name:Str) (H:AH) (f:Value):Prop:=
 ∀ (F:Fm) m s v pl (Q:Value×List Value->Shared->Prop) (E:PE),St g F m H s->VR s.heap a v->Q (f,[v]) s->wpAny (model g.prog g.w) F.A (getMethod v name pl) Q E s
noncomputable abbrev CO (g:G) (F:Fm) (name:Str) (pos:Pos) (args:List Expr) (Q:PV) (X:PX):V->Loc->AH->Prop:=fun a m H=> ∃ f,Meth g a name H f/\CW g F f [a] pos args m H Q X
theorem aX {f:Value} {pos:Pos} {args:List Expr} (h:CW g F f [] pos args m H Q X):P8 g F pos args Q X (.cst f) m H:=⟨f,rfl,h⟩
theorem bU {a:V} {name:Str} {f:Value} {pos:Pos} {args:List Expr} (hm:Meth g a name H f) (h:CW g F f [a] pos args m H Q X):CO g F name pos args Q X a m H:=⟨f,hm,h⟩
theorem bg {o:Expr} {name:Str} {apos pos:Pos} {args:List Expr} (h:WE g F (eval o F.env) m H (CO g F name pos args Q X) X)
  (lP:attributeBase o name F.env (eval o F.env)=eval o F.env:=by rfl)
  (yo:methodCallForm (args.length+([]:List Keyword).length) (backTo pos (starEach args F.env)) (backToKw pos (keywordEach [] F.env))=true:=by rfl)
  (hline:(apos.endLine == pos.line)=true:=by rfl):WE g F (eval (.Call (.Attribute o name apos) args [] pos) F.env) m H Q X:=fun s S=>by
 rw [arm_eval_Call,lP]
 refine wpAny_bind (h.run S (fun v av a m₁ aL aA ah k₁ cy=>cy.elim fun f eX=>eX.elim fun hm h₁=> ?_) fun z0 z0 x=>x)
 refine wpAny_bind (wpAny_standAt ?_)
 have Ea:methodCallPos true o F.env apos pos=pure pos:=by unfold methodCallPos;simp [hline]
 unfold methodCall
 rw [yo]
 refine wpAny_bind (wpAny_holding (hm F m₁ av v _ _ _ ah aA ?_))
 exact wpAny_bind (wpAny_of_eq Ea (wpAny_mono (h₁ av [v] ah (.cons aA .gC)) (fun z0 z0 x=>x.after k₁) fun z0 z0 x=>x.after k₁))
theorem bR {l:Addr} {xs:List V} {name:Str} {id:String} (x:LA g H l xs) (slot:Slot "list" name id) (Nj:typeOf (.builtin id)=pure (.type "method_descriptor")):Meth g (.ref l) name H (.builtin id):=fun F m s v pl Q E S r h=>by
 rw [VR.ay] at r;subst r
 obtain ⟨vs,ep,e,_⟩:=x.at S
 exact getMethod_builtin (T:="list") ⟨_,e,rfl⟩ PySem.F.plainAttrs_list slot Nj (fun a q=>by cases q;exact ⟨_,e,rfl⟩) h
theorem g8 {l:Addr} {es:List (Int×V)} {ep:Nat} {name:Str} {id:String} (x:H l=some (.dict es ep)) (slot:Slot "dict" name id) (Nj:typeOf (.builtin id)=pure (.type "method_descriptor")):Meth g (.ref l) name H (.builtin id):=fun F m s v pl Q E S r h=>by
 rw [VR.ay] at r;subst r
 obtain ⟨o,ds,e,hc,_⟩:=(S.obj l _ x).2
 exact getMethod_builtin (T:="dict") ⟨_,e,hc.1⟩ PySem.F.plainAttrs_dict slot Nj (fun a q=>by cases q;exact ⟨_,e,hc.2.1⟩) h
theorem yp {l:Addr} {T:IB} {n:Nat} (x:H l=some (.set T n)):Meth g (.ref l) "add" H (.builtin "set.add"):=fun F m s v pl Q E S r h=>by
 rw [VR.ay] at r;subst r
 obtain ⟨o,es,ep,t,ps,us,e,hc,_⟩:=(S.obj l _ x).2
 exact getMethod_builtin (T:="set") ⟨_,e,hc.1⟩ PySem.F.plainAttrs_set PySem.F.slot_set_add PySem.F.type_set_add (fun a q=>by cases q;exact ⟨_,e,hc.2.1⟩) h
end
section
variable {g:G} {F:Fm} {m:Loc} {H:AH} {X:PX}
noncomputable abbrev kU (Q:qi):Unit->Loc->AH->Prop:=fun (_:Unit) m H=>Q m H
noncomputable abbrev Hu (g:G) (F:Fm) (attr:Str) (Q:PV) (X:PX):V->Loc->AH->Prop:=fun a m H=>W1 g F VR a (fun v=>getAttr v attr true) m H Q X
noncomputable abbrev Hv (g:G) (F:Fm) (x:V) (attr:Str) (Q:qi) (X:PX):V->Loc->AH->Prop:=fun a m H=>W2 g F nK a x (fun ov v=>setAttr ov attr v) m H (kU Q) X
noncomputable abbrev Hw (g:G) (F:Fm) (a:V) (attr:Str) (Q:eI) (X:PX):V->Loc->AH->Prop:=fun c m H=>W2 g F nK a c (fun ov v=>setAttr ov attr v) m H (kU (kN Q)) X
noncomputable abbrev Hy (g:G) (F:Fm) (a:V) (attr:Str) (op:Operator) (e:Expr) (Q:eI) (X:PX):V->Loc->AH->Prop:=fun old m H=>WE g F (eval e F.env) m H (k2 g F VR (inplaceOp op) old (Hw g F a attr Q X) X) X
noncomputable abbrev Hz (g:G) (F:Fm) (attr:Str) (op:Operator) (e:Expr) (Q:eI) (X:PX):V->Loc->AH->Prop:=fun a m H=>W1 g F VR a (fun v=>getAttr v attr true) m H (Hy g F a attr op e Q X) X
theorem aQ {o:Expr} {attr:Str} {pos:Pos} {Q:PV} (h:WE g F (eval o F.env) m H (Hu g F attr Q X) X)
  (lP:attributeBase o attr F.env (eval o F.env)=eval o F.env:=by rfl):WE g F (eval (.Attribute o attr pos) F.env) m H Q X:=fun s S=>by
 rw [arm_eval_Attribute,lP]
 refine wpAny_bind (h.run S (fun v av a m₁ aL aA ah k₁ h₁=>wpAny_bind (wpAny_standAt (wpAny_bind (wpAny_holding ?_)))) fun z0 z0 x=>x)
 refine wpAny_mono (h₁ av v ah aA) (fun r a9 x=>wpAny_bind (wpAny_letTemporaryGo (wpAny_pure (x.after k₁)))) fun z0 z0 x=>x.after k₁
theorem fG {o:Expr} {attr:Str} {pos:Pos} {x:V} {Q:qi} (h:WE g F (eval o F.env) m H (Hv g F x attr Q X) X):WA g F (.Attribute o attr pos) x m H Q X:=fun s v S r=>by
 show wpAny _ _ (assign (.Attribute o attr pos) F.env v) _ _ s
 rw [assign_Attribute]
 refine wpAny_bind (wpAny_holding (h.run S (fun ov av a m₁ aL aA ah k₁ h₁=>wpAny_bind (wpAny_standAt (wpAny_bind (wpAny_holding ?_)))) fun z0 z0 x=>x))
 exact wpAny_mono (h₁ av ov v ah aA (r.keep S k₁)) (fun z0 a9 x=>wpAny_release (x.after k₁)) fun z0 z0 x=>x.after k₁
theorem fT {o e:Expr} {attr:Str} {yq pos:Pos} {op:Operator} {Q:eI}
  (h:WE g F (eval o F.env) m H (Hz g F attr op e Q X) X):
  WS g F (exec (.AugAssign (.Attribute o attr yq) op e pos) F.env) m H Q X:=fun s S=>by
 refine wpAny_AugAssign_AttributeAny (h.run S (fun ov av a m₁ aL aA ah k₁ h₁=> ?_) fun z0 z0 x=>x)
 refine aU ah.tk (h₁ av ov ah aA) (fun old a9 o' m₂ cW cZ aB k₂ bB=> ?_) fun z0 z0 x=>x.after k₁
 have bX:=k₁.trans k₂
 refine bB.run aB (fun b aP b' eJ dk dZ bf fm fC=> ?_) fun z0 z0 x=>x.after bX
 have dG:=bX.trans fm
 refine aU bf.tk (fC aP _ _ bf (cZ.keep aB fm) dZ) (fun c eM c' Bd yg Eb c6 jg gE=> ?_) fun z0 z0 x=>x.after dG
 have eZ:=dG.trans jg
 exact wpAny_mono (gE eM _ _ c6 (((aA.keep ah k₂).keep aB fm).keep bf jg) Eb) (fun z0 Ha yy=>yy.elim fun z0 Nk Nm z0 gh Nn yr=>⟨.next,Nk,Nm,rfl,gh,eZ.trans Nn,yr⟩) fun z0 z0 x=>x.after eZ
noncomputable def GI (g:G) (F:Fm) (a i:V) (m:Loc) (H:AH) (Q:PV) (X:PX):Prop:=
 ∃ T id,typeLookup (.type T) "__getitem__"=pure (some (.builtin id))/\(∀ s v,St g F m H s->VR s.heap a v->s.TypeIs v T)/\W2 g F VR a i getItem m H Q X
noncomputable abbrev Sf (g:G) (F:Fm) (a:V) (Q:PV) (X:PX):V->Loc->AH->Prop:=fun b m H=>GI g F a b m H Q X
noncomputable abbrev Np (g:G) (F:Fm) (i:Expr) (Q:PV) (X:PX):V->Loc->AH->Prop:=fun a m H=>WE g F (eval i F.env) m H (Sf g F a Q X) X
noncomputable abbrev Sg (g:G) (F:Fm) (x a:V) (Q:qi) (X:PX):V->Loc->AH->Prop:=fun b m H=>W3 g F nK a b x (fun ov iv v=>setItem ov iv v) m H (kU Q) X
noncomputable abbrev HC (g:G) (F:Fm) (i:Expr) (x:V) (Q:qi) (X:PX):V->Loc->AH->Prop:=fun a m H=>WE g F (eval i F.env) m H (Sg g F x a Q X) X
theorem b8 {o i:Expr} {pos:Pos} {Q:PV} (h:WE g F (eval o F.env) m H (Np g F i Q X) X)
  (hi: ∀ ov iv,subscripted i false ov iv=operate [ov,iv] (getItem ov iv)\/subscripted i false ov iv=operate [iv,ov] (getItem ov iv):=by intros;first | exact Or.inl rfl | exact Or.inr rfl):WE g F (eval (.Subscript o i pos) F.env) m H Q X:=fun s S=>by
 rw [eval_Subscript]
 refine wpAny_bind (h.run S (fun ov av a m₁ aL aA ah k₁ h₁=>wpAny_bind (wpAny_holding (h₁.run ah (fun iv a9 b m₂ cW cZ aB k₂ bB=>wpAny_bind (wpAny_standAt ?_)) fun z0 z0 x=>x.after k₁))) fun z0 z0 x=>x)
 obtain ⟨T,id,hl,hT,hg⟩:=bB
 have ra:=aA.keep ah k₂
 have Ht:=hT a9 ov aB ra
 refine wpAny_bind ?_
 rw [getitemInPython_of_ne Ht.not_modules]
 refine wpAny_bind (wpAny_specialOf Ht hl ?_)
 have k:=k₁.trans k₂
 have fin:wpAny (model g.prog g.w) F.A (getItem ov iv) (fun r aP=>wpAny (model g.prog g.w) F.A (letTemporaryGo o ov r >>=fun z0=>pure r) (bG g F VR Q s.heap H) (dA g F X s.heap H) aP) (dA g F X s.heap H) a9:=
  wpAny_mono (hg a9 ov iv aB ra cZ) (fun r aP x=>wpAny_bind (wpAny_letTemporaryGo (wpAny_pure (x.after k)))) fun z0 z0 x=>x.after k
 refine wpAny_pure (wpAny_bind ?_)
 rcases hi ov iv with e | e <;> rw [e] <;> exact wpAny_operating fin
theorem yt {o i:Expr} {pos:Pos} {x:V} {Q:qi} (h:WE g F (eval o F.env) m H (HC g F i x Q X) X):WA g F (.Subscript o i pos) x m H Q X:=fun s v S r=>by
 show wpAny _ _ (assign (.Subscript o i pos) F.env v) _ _ s
 rw [assign_Subscript]
 refine wpAny_bind (wpAny_holding (h.run S (fun ov av a m₁ aL aA ah k₁ h₁=>wpAny_bind (wpAny_holding (h₁.run ah (fun iv a9 b m₂ cW cZ aB k₂ bB=>wpAny_bind (wpAny_standAt (wpAny_bind (wpAny_holding ?_)))) fun z0 z0 x=>x.after k₁))) fun z0 z0 x=>x))
 have k:=k₁.trans k₂
 exact wpAny_mono (bB a9 ov iv v aB (aA.keep ah k₂) cZ (r.keep S k)) (fun z0 aP x=>wpAny_release (x.after k)) fun z0 z0 x=>x.after k
theorem yu {o i:Expr} {pos pos':Pos} {Q:eI} (h:WE g F (eval o F.env) m H (fun a m H=>WE g F (eval i F.env) m H (fun b m H=>W2 g F nK a b (fun ov iv=>delItem ov iv) m H (fun (_:Unit) m H=>Q .next m H) X) X) X):
  WS g F (exec (.Delete [.Subscript o i pos'] pos) F.env) m H Q X:=fun s S=>by
 refine wpAny_Delete (wpAny_deleteEach_cons (wpAny_delete_Subscript (h.run S (fun ov av a m₁ aL aA ah k₁ h₁=>h₁.run ah (fun iv a9 b m₂ cW cZ aB k₂ bB=> ?_) fun z0 z0 x=>x.after k₁) fun z0 z0 x=>x)))
 have k:=k₁.trans k₂
 exact aU aB.tk (bB a9 ov iv aB (aA.keep ah k₂) cZ) (fun z0 aP z0 eJ dk z0 bf fm fC=>wpAny_deleteEach_nil ⟨.next,eJ,dk,rfl,fun z0=>bf,k.trans fm,fC⟩) fun z0 z0 x=>x.after k
theorem eN {e:Expr} {pos:Pos} {Q:eI} (h:WE g F (eval e F.env) m H (kX Q) X) (hs:swapsWith e none pos.line F.env=pure false:=by rfl):WS g F (exec (.Expr e pos) F.env) m H Q X:=fun s S=>by
 have hi:interactive F.env=false:=by delta interactive;rw [S.loc.kind];rfl
 exact wpAny_Expr_any (h.run S (fun v av a m₁ aL aA ah k₁ h₁=>⟨.next,m₁,aL,rfl,fun z0=>ah,k₁,h₁⟩) fun z0 z0 x=>x) hi hs
noncomputable def Nq (g:G) (F:Fm):List Expr->List V->Loc->AH->(Loc->AH->Prop)->(Value->List V->Loc->AH->Prop)->Prop
 | [],_,m,H,Q,_=>Q m H
 | t::ts,x::xs,m,H,Q,X=>WA g F t x m H (fun m H=>Nq g F ts xs m H Q X) X
 | _::_,[],_,_,_,_=>False
theorem Bg {prog:Program} {w:World} {A:Around} {E:PE} {s:Shared} {env:Env} {elts:List Expr} {x1:Nat} {pos:Pos} {t:Addr} {items:Array Value} {Q:PU} (k:jK A s.heap) (hn: ∀ x,A.handled=some (.ref x)->x≠s.heap.objs.size) (ht:IsTup s.heap t items)
  (hl:(assignEach elts env).length=items.size) (HD:(assignEach elts env).findIdx? (·.1)=none)
  (h: ∀ h',Heap.ExtBut s.heap.objs.size s.heap h'->wpAny (model prog w) A (assignInOrder ((assignEach elts env).map (·.2)) items.toList) Q E { s with heap:=h' }):
  wpAny (model prog w) A (assign (.Tuple elts x1 pos) env (.ref t)) Q E s:=by
 have ne:t≠s.heap.objs.size:=by obtain ⟨o,ho,_⟩:=ht;exact Nat.ne_of_lt (Heap.lt_size ho)
 have kp: ∀ o b ob,s.heap.get? b=some ob->(s.heap.push o).get? b=some ob:=fun o b ob e=>Heap.get?_push_of_some _ e
 rw [assign_Tuple]
 refine wpAny_bind (wpAny_standAt ?_)
 delta unpack
 rw [hl,HD]
 refine wpAny_bind (wpAny_holding ?_)
 skip
 refine wpAny_bind (wpAny_bind (wpAny_specialOf ht.typeIs slot_tuple_iter.lookup (wpAny_pure ?_)))
 refine az ((by decide)) ?_
 refine wpAny_bind (wpAny_holding (iter_tuple ht (wpAny_bind (wpAny_holding (draw_tuple ne items.size 0 _ _ ⟨_,Heap.get?_push_size _ rfl,rfl,rfl⟩ (ht.push _) (Nat.le_of_eq (Nat.zero_add _)) fun h₁ Nr c9=> ?_)))))
 have all:(items.toList.drop 0).take items.size=items.toList:=(List.drop_zero▸List.take_of_length_le (by simp))
 rw [all,if_neg (by simp)]
 refine wpAny_bind (wpAny_holding (lI ((k.up fun b o e=> .inl (kp _ b o e)).same hn c9) hn Nr ((ht.push _).extBut c9.extBut ne) (by simp) fun bB Nt=> ?_))
 refine az ((by decide)) ?_
 exact wpAny_pure (h bB fun b o hb e=>Nt b o hb (c9.extBut b o hb (kp _ b o e)))
theorem um {h₀:Heap} {H₀:AH} {Q:qi}: ∀ {ts:List Expr} {xs:List V} {vs:List Value} {m:Loc} {H:AH} {s:Shared} {fs:List (Value->Sem Unit)},fs=ts.map (fun t v=>assign t F.env v)->Nq g F ts xs m H Q X->St g F m H s->aF F h₀ H₀ s.heap H->bh s.heap xs vs->
  wpAny (model g.prog g.w) F.A (assignInOrder fs vs) (fun z0 s'=> ∃ m' H',St g F m' H' s'/\aF F h₀ H₀ s'.heap H'/\Q m' H') (dA g F X h₀ H₀) s
 | [],xs,vs,m,H,s,_,e,h,S,K,r=>by subst e;exact wpAny_pure ⟨m,H,S,K,h⟩
 | t::ts,[],vs,m,H,s,_,e,h,S,K,r=>h.elim
 | t::ts,x::xs,vs,m,H,s,_,e,h,S,K,r=>by
  subst e
  obtain ⟨v,r',rfl,rv,rs⟩:=r.aG
  refine wpAny_bind (wpAny_holding (aU S.tk (h s v S rv) (fun z0 av z0 m₁ aL z0 ah k₁ h₁=> ?_) fun z0 z0 x=>x.after K))
  exact um rfl h₁ ah (K.trans k₁) (rs.keep S k₁)
theorem kI {elts:List Expr} {k:Nat} {pos:Pos} {xs:List V} {Q:qi} (hh:Hk g F) (hn:elts.length=xs.length) (h:Nq g F elts xs m H Q X)
  (he:assignEach elts F.env=elts.map (fun t=>(false,fun v=>assign t F.env v)):=by rfl):WA g F (.Tuple elts k pos) (.tup xs) m H Q X:=fun s v S r=>by
 replace r:=VR.cM r
 obtain ⟨t,vs,ep,rfl,e,r⟩:=r
 refine Bg (hh.at S) (fun x q z=>hh.ne (S.lt (Nat.le_refl _)).2.1 x q z) (items:=vs.toArray) ⟨_,e,rfl,ep,rfl⟩ (by rw [he,List.length_map,List.size_toArray,r.length,hn]) (by rw [he];induction elts <;> simp_all [List.findIdx?_cons]) fun h' hx=> ?_
 have kp: ∀ b o,s.heap.get? b=some o->h'.get? b=some o:=fun b o q=>hx b o (Nat.ne_of_lt (Heap.lt_size q)) q
 obtain ⟨ah,k₁⟩:=S.ext (t:=s.toks) kp
 replace ah:=ah (by first | exact S.tk | exact Nat.le_trans S.tk (Nat.le_add_right ..) | assumption)
 rw [List.toList_toArray]
 refine wpAny_mono (um (ts:=elts) (by rw [he,List.map_map];rfl) h ah k₁ (r.mono fun z0 z0 z0 q=>kp _ _ q)) (fun z0 s' cy=>cy.elim fun m' eX=>eX.elim fun H' iL=>iL.elim fun S' mR=>mR.elim fun K' q=>⟨(),m',H',rfl,fun z0=>S',K',q⟩) fun z0 z0 x=>x
end
section
open PySem PySem.W PySem.Calls PyProof.Rows Builtin.Getset_descriptor
theorem g9 (x y:Str) (t:Tok):(Value.str x t).isStr y=(x == y):=rfl
theorem yv {h:Heap} {name:Str} {x:V}: ∀ {fs:List (Str×V)} {es:List DictEntry},oM h fs es->fs.lookup name=some x-> ∃ v,getL name es=some (some v)/\VR h x v:=by
 intro L9
 induction L9 with
 | nil=>
  rintro _ _ e
  cases e
 | cons f fs ih=>
  rintro es ⟨hs,t,v,r,e,hv,hr⟩ hl
  subst e
  delta getL
  rw [List.find?_cons]
  rw [List.lookup_cons] at hl
  by_cases q:f.1=name
  .subst q
   rw [show (f.1 == f.1)=true from beq_self_eq_true _] at hl
   cases hl
   refine ⟨v, ?_,hv⟩
   rw [g9,beq_self_eq_true]
  .have q1:(name == f.1)=false:=beq_eq_false_iff_ne.mpr (Ne.symm q)
   have q2:(f.1 == name)=false:=beq_eq_false_iff_ne.mpr q
   rw [q1] at hl
   obtain ⟨v',g1,g2⟩:=ih hr hl
   refine ⟨v', ?_,g2⟩
   rw [g9,q2]
   delta getL at g1
   cases z:List.find? (fun x=>x.key.isStr name) r with
   | some e'=>rw [z] at g1;exact g1
   | none=>rw [z] at g1;dsimp only at g1;split at g1 <;> cases g1
theorem uo {h:Heap}: ∀ {fs:List (Str×V)} {es:List DictEntry},oM h fs es->es.any (·.refKey)=false:=by
 intro L9
 induction L9 with
 | nil=>
  rintro _ e
  subst e;rfl
 | cons f fs ih=>
  rintro es ⟨hs,t,v,r,e,hv,hr⟩
  subst e;rw [List.any_cons,ih hr];rfl
theorem qD {h:Heap} {name:Str} {fs:List (Str×V)} {es:List DictEntry} (x:oM h fs es) (hl:fs.lookup name=none):getL name es=some none:=by
 have:es.find? (·.key.isStr name)=none:=by
  induction fs generalizing es with
  | nil=>cases x;rfl
  | cons f fs ih=>
   obtain ⟨hs,t,v,r,e,hv,hr⟩:=x
   subst e
   rw [List.lookup_cons] at hl
   by_cases q:name=f.1
   .subst q;rw [beq_self_eq_true] at hl;cases hl
   .rw [beq_eq_false_iff_ne.mpr q] at hl
    rw [List.find?_cons,g9,beq_eq_false_iff_ne.mpr (Ne.symm q)]
    exact ih hr hl
 delta getL
 rw [this,uo x]
 rfl
noncomputable def oY (name:Str) (x:V):List (Str×V)->List (Str×V)
 | []=>[(name,x)]
 | f::r=>if f.1 == name then (f.1,x)::r else f::oY name x r
theorem uq {h:Heap} {name:Str} {x:V} {v:Value} {HE:Int} {t:Tok} (hv:VR h x v): ∀ {fs:List (Str×V)} {es:List DictEntry},oM h fs es->oM h (oY name x fs) (putL name HE (.str name t) v es)
 | [],_,e=>by cases e;exact ⟨HE,t,v,[],rfl,hv,rfl⟩
 | f::fs,es,⟨hs,t',v',r,e,Jv,hr⟩=>by
  subst e
  unfold oY putL
  rw [g9]
  by_cases q:(f.1 == name)=true
  .rw [if_pos q,if_pos q];exact ⟨hs,t',v,r,rfl,hv,hr⟩
  .rw [if_neg q,if_neg q];exact ⟨hs,t',v',_,rfl,Jv,uq hv hr⟩
theorem Bi {h:Heap}: ∀ {fs:List (Str×V)} {es:List DictEntry},oM h fs es->es.length=fs.length:=by
 intro L9
 induction L9 with
 | nil=>
  rintro _ e
  cases e;rfl
 | cons f fs ih=>
  rintro es ⟨hs,t',v',r,e,Jv,hr⟩
  subst e;simp [ih hr]
theorem yw (name:Str) (x:V): ∀ fs:List (Str×V),(oY name x fs).length<=fs.length+1:=by
 intro L9
 induction L9 with
 | nil=>
  exact Nat.le_refl _
 | cons f r ih=>
  unfold oY;split <;> simp;have:=ih;exact RB this
structure nS (K:Frag) (C:Addr) (name:Str):Prop where
 plain:plainGet K C name=true
 dict:hasDictIn K C=true
 attr: ∃ attr,findIn K (.ref C) name=some attr/\noGet K attr=true
 sets:findIn K (.ref C) "__setattr__"=some (some (.builtin "object.__setattr__"))
 over:plainOver K C=true
 yx:takerIn K C name=some none
structure qE (K:Frag) (C:Addr) (name:Str) (p i:Nat):Prop where
 plain:plainGet K C name=true
 cls:(clsIn K C).isSome=true
 attr:findIn K (.ref C) name=some (some (.ref p))
 get:specialIn K (.ref p) "__get__"=some (some (.builtin "member_descriptor.__get__"))
 takes:takesIn K (.ref p)=some true
 slot:slotIn K p C=some i
 sets:findIn K (.ref C) "__setattr__"=some (some (.builtin "object.__setattr__"))
 over:plainOver K C=true
 yx:takerIn K C name=some (some (.ref p))
 typ:typeIn K (.ref p)=some (.type "member_descriptor")
 small:i<1000
structure j2 (K:Frag) (C:Addr) (name:Str) (f:Addr):Prop where
 plain:plainGet K C name=true
 find:findIn K (.ref C) name=some (some (.ref f))
 fn:isFn K (.ref f)=true
noncomputable def handed:V->Bool
 | .cst _=>false
 | _=>true
theorem nU {h:Heap} {x:V} {v:Value} (e:handed x=true) (r:VR h x v):handedIn v=true:=by
 cases x with
 | cst=>cases e
 | none=>rw [VR.bJ] at r;subst r;rfl
 | bool=>rw [VR.cz] at r;subst r;rfl
 | int=>rw [VR.aZ] at r;obtain ⟨_,rfl⟩:=r;rfl
 | str=>rw [VR.da] at r;obtain ⟨_,rfl⟩:=r;rfl
 | cD=>rw [VR.dE] at r;obtain ⟨_,rfl⟩:=r;rfl
 | cS=>rw [VR.dF] at r;obtain ⟨_,rfl⟩:=r;rfl
 | ref=>rw [VR.ay] at r;subst r;rfl
 | tup=>replace r:=VR.cM r;obtain ⟨_,_,_,rfl,_⟩:=r;rfl
 | kS=>obtain ⟨_,_,_,_,rfl,_⟩:=r;rfl
 | view=>obtain ⟨_,rfl,_⟩:=r;rfl
section
variable {g:G} {F:Fm} {m:Loc} {H:AH} {s:Shared} {X:PX}
theorem St.gq (S:St g F m H s):g.K.In s.heap:=g.gq.keeps S.base
theorem kJ {a C dx:Addr} {fs:List (Str×V)} (S:St g F m H s) (ha:H a=some (.inst C dx)) (hd:H dx=some (.ns fs)): ∃ es n,InstAt s.heap a (instObj C dx) C (some (dictOf es n))/\s.heap.get? dx=some (dictOf es n)/\oM s.heap fs es:=by
 have e1:s.heap.get? a=some (instObj C dx):=(S.obj a _ ha).2
 obtain ⟨es,n,e2,r⟩:=(S.obj dx _ hd).2
 exact ⟨es,n,⟨e1,rfl,rfl,e2⟩,e2,r⟩
theorem bO {a C dx:Addr} {fs:List (Str×V)} {name:Str} {x:V} {Q:PV} (A:nS g.K C name) (ha:H a=some (.inst C dx)) (hd:H dx=some (.ns fs)) (hx:fs.lookup name=some x) (hh:handed x=true) (h:Q x m H):W1 g F VR (.ref a) (fun v=>getAttr v name true) m H Q X:=fun s v S r=>by
 rw [VR.ay] at r;subst r
 obtain ⟨es,n,I,_,hr⟩:=kJ S ha hd
 obtain ⟨v,hv,rv⟩:=yv hr hx
 obtain ⟨attr,h1,h2⟩:=A.attr
 exact get_value S.gq I (plainGet_of A.plain).1 (findObj_own A.dict h1 h2 (by rw [lookIn_dict];exact hv)) (nU hh rv) (bG.now S rfl rfl rfl rv h)
theorem b7 {a C dx f:Addr} {fs:List (Str×V)} {name:Str} (M:j2 g.K C name f) (ha:H a=some (.inst C dx)) (hd:H dx=some (.ns fs)) (hx:fs.lookup name=none):Meth g (.ref a) name H (.ref f):=fun F m s v pl Q E S r h=>by
 rw [VR.ay] at r;subst r
 obtain ⟨es,n,I,_,hr⟩:=kJ S ha hd
 exact method_fn S.gq I (plainGet_of M.plain).1 (plainGet_of M.plain).2 M.find (beq_iff_eq.mp M.fn) (by show (lookIn name (dictOf es n)).map _=_;rw [lookIn_dict,qD hr hx];rfl) h
theorem lQ {a C dx:Addr} {fs:List (Str×V)} {name:Str} {x:V} {Q:qi} (A:nS g.K C name) (ha:H a=some (.inst C dx)) (hd:H dx=some (.ns fs)) (hz:fs.length<=900) (h:Q m (put H dx (.ns (oY name x fs)))):
  W2 g F nK (.ref a) x (fun ov v=>setAttr ov name v) m H (fun (_:Unit) m H=>Q m H) X:=fun s v u S r ru=>by
 rw [VR.ay] at r;subst r
 obtain ⟨es,n,I,D,hr⟩:=kJ S ha hd
 refine set_plain S.gq I A.sets (osa_open (s:={ s with toks:=s.toks+1 }) S.gq I A.over A.yx fun b=> ?_)
 obtain ⟨cd,hc,Sh⟩:=any_some A.dict
 have hx:=I.at_
 refine wpAny_bind (wpAny_pure (wpAny_bind (wpAny_bind (wpAny_loadPart hx (wpAny_bind ((looks_clsIn (h:=s.heap) S.gq hc) _ _ _ _ (fun z0 z0 e=>e) ?_))))))
 rw [Sh]
 refine wpAny_pure (a:=some dx) (wpAny_bind (wpAny_pure (wpAny_bind ?_)))
 refine wpAny_bind (wpAny_bind (wpAny_askSetting (wpAny_pure (wpAny_bind (wpAny_mkText (wpAny_bind (wpAny_loadPart D ?_)))))))
 have Si:es.toArray.any (·.refKey)=false:=by rw [<- Array.any_toList];exact uo hr
 dsimp only
 rw [aRefKeyMayBeTheName_at,Si,Bool.and_false]
 have D':(s.heap.update dx (Obj.putName name (PyData.keyHash g.w.params name) (.str name (s.toks+1)) u)).get? dx=some (dictOf (putL name (PyData.keyHash g.w.params name) (.str name (s.toks+1)) u es) (putN name es n)):=by
  rw [<- putName_dict]
  exact Heap.get?_update_self _ D (by rw [putName_dict];rfl)
 refine wpAny_updatePart D ?_
 have C:oN (· =dx) s.heap (s.heap.update dx (Obj.putName name (PyData.keyHash g.w.params name) (.str name (s.toks+1)) u)):= .sameBut ⟨Heap.size_update ..,fun b q=>Heap.get?_update_other _ _ (Ne.symm q)⟩ D' fun z0 z0 z0 z0 z0=>⟨_,_,rfl⟩
 have oZ:oM (s.heap.update dx (Obj.putName name (PyData.keyHash g.w.params name) (.str name (s.toks+1)) u)) (oY name x fs) (putL name (PyData.keyHash g.w.params name) (.str name (s.toks+1)) u es):=by
  have mn:dY s.heap (s.heap.update dx (Obj.putName name (PyData.keyHash g.w.params name) (.str name (s.toks+1)) u)):=⟨fun b o i e=>C.same b o e fun q=>(by subst q;obtain rfl:=oi D e;have:=i.cls;cases this),C.dct⟩
  exact oM.mono mn _ _ (uq ru hr)
 refine wpAny_bind (wpAny_lookBehind D' (pastItsLine_dict ?_) ?_)
 .rw [List.size_toArray,Bi oZ,sizeLine_eq];have:=yw name x fs;exact RC this hz
 .obtain ⟨S',K'⟩:=S.set (t:=s.toks+2) C hd (o':= .ns (oY name x fs)) ⟨_,_,D',oZ⟩
  exact wpAny_pure ⟨(),m,_,rfl,S',K',h⟩
theorem Bj {h:Heap}: ∀ {xs:List V} {sl:List (Option Value)},nI h xs sl-> ∀ {i:Nat} {x:V},xs[i]? =some x-> ∃ v,sl[i]? =some (some v)/\VR h x v:=by
 intro L9
 induction L9 with
 | nil=>
  rintro _ _ _ _ e
  simp at e
 | cons y ys ih=>
  rintro _ ⟨v,r,e',hv,hr⟩ i x e
  subst e'
  cases i with
  | zero=>simp only [List.getElem?_cons_zero,Option.some.injEq] at e|-;subst e;exact ⟨v,rfl,hv⟩
  | succ j=>simp only [List.getElem?_cons_succ] at e|-;exact ih hr e
theorem ur {h:Heap}: ∀ {xs:List V} {sl:List (Option Value)},nI h xs sl->sl.length=xs.length:=by
 intro L9
 induction L9 with
 | nil=>
  rintro _ e
  cases e;rfl
 | cons y ys ih=>
  rintro _ ⟨v,r,e',hv,hr⟩
  subst e';simp [ih hr]
theorem Bk {h:Heap} {x:V} {v:Value} (hx:VR h x v): ∀ {xs:List V} {sl:List (Option Value)} {i:Nat},nI h xs sl->nI h (xs.set i x) (sl.set i (some v)):=by
 intro L9
 induction L9 with
 | nil=>
  rintro _ _ e
  cases e;rfl
 | cons y ys ih=>
  rintro _ i ⟨u,r,e',hv,hr⟩
  subst e'
  cases i with
  | zero=>exact ⟨v,r,rfl,hx,hr⟩
  | succ j=>exact ⟨u,_,rfl,hv,ih hr⟩
theorem uw {h:Heap} {x:V} {v:Value} (hx:VR h x v): ∀ {xs:List V} {sl:List (Option Value)},nI h xs sl->nI h (xs++[x]) (sl++[some v])
 | [],_,e=>by cases e;exact ⟨v,[],rfl,hx,rfl⟩
 | y::ys,_,⟨u,r,e',hv,hr⟩=>by subst e';exact ⟨u,_,rfl,hv,uw hx hr⟩
theorem ux {a C:Addr} {xs:List V} (S:St g F m H s) (ha:H a=some (.node C xs)): ∃ dx sl o,InstAt s.heap a (kG C dx sl) C (some o)/\nI s.heap xs sl/\(∃ es ep,o.data= .dict es ep)/\s.heap.get? dx=some o:=by
 obtain ⟨dx,sl,e,hr,o,es,ep,hd,d⟩:=(S.obj a _ ha).2
 exact ⟨dx,sl,o,⟨e,rfl,rfl,hd⟩,hr,⟨es,ep,d⟩,hd⟩
theorem dN {a C:Addr} {xs:List V} {name:Str} {p i:Nat} {x:V} {Q:PV} (A:qE g.K C name p i) (ha:H a=some (.node C xs)) (hx:xs[i]? =some x) (hh:handed x=true) (h:Q x m H):W1 g F VR (.ref a) (fun v=>getAttr v name true) m H Q X:=fun s v S r=>by
 rw [VR.ay] at r;subst r
 obtain ⟨dx,sl,o,I,hr,_,_⟩:=ux S ha
 obtain ⟨v,hv,rv⟩:=Bj hr hx
 refine get_bind S.gq I (plainGet_of A.plain).1 (findObj_data A.cls A.attr A.get A.takes) (plainGet_of A.plain).2 (wpAny_call (slot_get (s:={ s with toks:=s.toks+1 }) S.gq I A.slot (v:=v) (by simp [hv]) ?_))
 exact handed_on (nU hh rv) (bG.now S rfl rfl rfl rv h)
noncomputable def vI (xs:List V) (i:Nat) (x:V):List V:=if i<xs.length then xs.set i x else xs++[x]
theorem Ec {sl:List (Option Value)} {i:Nat} {u:Value} (hi:i<=sl.length):((sl.toArray++Array.replicate (i+1-sl.toArray.size) none).setIfInBounds i (some u))=(if i<sl.length then sl.set i (some u) else sl++[some u]).toArray:=by
 split <;> rename_i q
 .have e0:i+1-sl.toArray.size=0:=by simp;exact RD q
  rw [e0]
  simp
 .have e0:i=sl.length:=Nat.le_antisymm hi (Nat.le_of_not_lt q)
  subst e0
  have e1:sl.length+1-sl.toArray.size=1:=by simp
  rw [e1]
  apply Array.toList_inj.mp
  simp
theorem St.Bl {a C:Addr} {xs:List V} {i:Nat} {x:V} {u:Value} (S:St g F m H s) (ha:H a=some (.node C xs)) (hi:i<=xs.length) (ru:VR s.heap x u) {f:Obj->Obj} (hf:f=fun o=>{ o with slots:=(o.slots++Array.replicate (i+1-o.slots.size) none).setIfInBounds i (some u) }):
  St g F m (put H a (.node C (vI xs i x))) { s with heap:=s.heap.update a f,toks:=s.toks+1 }/\aF F s.heap H (s.heap.update a f) (put H a (.node C (vI xs i x))):=by
 obtain ⟨dx,sl,hx,hr,o,Sj,Sl,Jw,dd⟩:=(S.obj a _ ha).2
 have hlen:=ur hr
 have D':(s.heap.update a f).get? a=some (kG C dx (if i<sl.length then sl.set i (some u) else sl++[some u])):=by
  rw [Heap.get?_update_self f hx (hf▸rfl),hf]
  show some ({ kG C dx sl with slots:=_ }:Obj)=_
  rw [Ec (hlen▸hi)]
 have Cg:oN (· =a) s.heap (s.heap.update a f):= .sameBut ⟨Heap.size_update ..,fun b q=>Heap.get?_update_other _ _ (Ne.symm q)⟩ D' fun oO z0 z0 e q=>by obtain rfl:=oi hx e;cases q
 have mn:dY s.heap (s.heap.update a f):=⟨fun b o' i' e=>Cg.same b o' e fun q=>(by subst q;obtain rfl:=oi hx e;have:=i'.cls;cases this),Cg.dct⟩
 have Sn:dx≠a:=fun q=>by subst q;obtain rfl:=oi hx Jw;cases dd
 have oZ:nI (s.heap.update a f) (vI xs i x) (if i<sl.length then sl.set i (some u) else sl++[some u]):=by
  delta vI
  rw [hlen]
  split
  .exact Bk (ru.mono mn.tup) (nI.mono mn _ _ hr)
  .exact uw (ru.mono mn.tup) (nI.mono mn _ _ hr)
 exact (S.set (t:=s.toks+1) (o':= .node C (vI xs i x)) Cg ha ⟨dx,_,D',oZ,o,Sj,Sl,(Heap.get?_update_other _ _ (Ne.symm Sn)).trans Jw,dd⟩).imp (fun z=>z (Nat.le_succ_of_le S.tk)) id
set_option tactic.hygienic true in
theorem dq {a C:Addr} {xs:List V} {name:Str} {p i:Nat} {x:V} {Q:qi} (A:qE g.K C name p i) (ha:H a=some (.node C xs)) (hi:i<=xs.length) (h:Q m (put H a (.node C (vI xs i x)))):
  W2 g F nK (.ref a) x (fun ov v=>setAttr ov name v) m H (fun (_:Unit) m H=>Q m H) X:=fun s v u S r ru=>by
 rw [VR.ay] at r;subst r
 have fin:bG g F nK (fun (_:Unit) m H=>Q m H) s.heap H () _:=(S.Bl ha hi ru rfl).elim fun S' K'=>⟨(),m,_,rfl,fun z0=>S',K',h⟩
 obtain ⟨dx,sl,o,I,hr,_,_⟩:=ux S ha
 refine set_plain S.gq I A.sets (osa_descr (s:={ s with toks:=s.toks+1 }) KF.slot_mset S.gq I A.over A.yx A.typ (xf fun Rz rQ=> ?_))
 replace fin:=rQ (.ok (.ret .none)) _ fin
 clear rQ
 obtain ⟨n,tn,owner,behind,tb,d,Jp,cd,ho,hc,hm,hb,P9⟩:=slot_of S.gq A.slot
 have L0:=I.type (M:=model g.prog g.w)
 have L1:=looks_mroIn (M:=model g.prog g.w) S.gq hm
 have L2:Looks (model g.prog g.w) s.heap (Builtin.Slots.slotNamesOf (.ref C)) cd.slotNames:=(looks_clsIn S.gq hc).andThen .now
 have hx:=I.at_
 have hlen:=ur hr
 clear hr ru S ha hi h I
 obtain ⟨hh,gg,dr,t,os⟩:=s
 dsimp only at ho hx L0 L1 L2 fin
 have f0:=looks_field (M:=model g.prog g.w) ho 0 (v:= .str n tn) rfl
 have f1:=looks_field (M:=model g.prog g.w) ho 1 (v:=owner) rfl
 have f3:=looks_field (M:=model g.prog g.w) ho 3 (v:= .builtin "proto.slot#set") rfl
 have f4:=looks_field (M:=model g.prog g.w) ho 4 (v:= .int behind tb) rfl
 refine codeAny_call_builtin KF.slot_mset.plain KF.entry_mset (KF.slot_mset.check _ _ _ _ _ _ _ _ ⟨_,ho,rfl⟩ (KF.args_mset _ _ _) ?_)
 have f5:Looks (model g.prog g.w) hh (descrItself (.ref p)) [.ref p]:=((Looks.ld (part:=none) ho).andThen .now).andThen (Looks.of_pure (by kernel_rfl))
 repeat lk
 refine ⟨Code.quiet_builtin _ (by decide+kernel),codeAny_builtin KF.entry_slotset ?_⟩
 repeat lk
 refine az hb ?_
 refine wpAny_pure (wpAny_bind ?_)
 skip
 skip
 refine az ((by rw [sizeLine_eq];have:=A.small;exact RE P9 this)) ?_
 rw [<- P9]
 exact wpAny_updatePart hx (wpAny_pure fin)
end
end
section
variable {g:G} {F:Fm} {m:Loc} {H:AH} {s:Shared} {X:PX} {Q:PV}
noncomputable def aH (g:G) (F:Fm) (f:Value) (xs:List V) (m:Loc) (H:AH) (Q:PV) (X:PX):Prop:=
 ∀ s vs,St g F m H s->bh s.heap xs vs->codeAny (model g.prog g.w) F.A (.call f ⟨vs,[]⟩) (fun r s'=>match r with | .ok (.ret v)=>bG g F VR Q s.heap H v s' | .ok _=>False | .error e=>dA g F X s.heap H e s') s
theorem aH.call {f:Value} {xs:List V} (h:aH g F f xs m H Q X):WC g F f xs m H Q X:=fun s vs S r=>wpAny_call (h s vs S r)
noncomputable def Fm.up (F:Fm) (A:Around):Fm:={ F with A:=A,lvl:=F.lvl+1 }
theorem St.up {c:Code} (S:St g F m H s) (hl:F.lvl<100) (hw:c.weight<=1) (hu:c.cUnits<=10) (he:c.envs=[]) (hg:c.guards=[]):St g (F.up (F.A.under c)) m H s:=by
 refine ⟨S.base,S.obj,⟨S.loc.kind,S.loc.val,S.loc.cell,S.loc.apart⟩,S.eF,S.aS,S.jJ,S.gJ,S.frame, ?_,S.gens,S.os, ?_,S.eG,S.dead,S.tk⟩
 .show pushEnvs c.envs F.A.frames=some F.stack
  rw [he,S.lA];rfl
 .obtain ⟨r1,r2,r3,r4⟩:=S.room
  refine ⟨?_, ?_,hl, ?_⟩
  .show F.A.depth+c.weight<=310+3*(F.lvl+1);exact RF r1 hw
  .show F.A.units+c.cUnits<=100+20*(F.lvl+1);exact RG r2 hu
  .show pushGuards c.guards F.A.guards=some []
   rw [hg,r4];rfl
theorem St.down {A:Around} {m':Loc} {H':AH} {s':Shared} (S:St g F m H s) (S':St g (F.up A) m' H' s'):St g F m' H' s':=
 ⟨S'.base,S'.obj,⟨S'.loc.kind,S'.loc.val,S'.loc.cell,S'.loc.apart⟩,S'.eF,S'.aS,S'.jJ,S'.gJ,S'.frame,S.lA,S'.gens,S'.os,S.room,S'.eG,S'.dead,S'.tk⟩
theorem vJ {C:Addr} {vs:List Value}:(Code.builtin "type.__call__" ⟨.ref C::vs,[]⟩).weight<=1:=Nat.le_of_eq rfl
theorem yz {C:Addr} {vs:List Value}:(Code.builtin "type.__call__" ⟨.ref C::vs,[]⟩).cUnits<=10:=by
 have:(Code.builtin "type.__call__" ⟨.ref C::vs,[]⟩).cUnits=1:=rfl
 exact K1 this
theorem made {C fI:Addr} {xs:List V} (hm:makesIn g.K C=true) (hi:findIn g.K (.ref C) "__init__"=some (some (.ref fI))) (hf:typeIn g.K (.ref fI)=some (.type "function")) (hl:F.lvl<100) {s:Shared} {vs:List Value} (S:St g F m H s) (r:bh s.heap xs vs) (cW:AH)
  (hS:St g F m cW { s with heap:=(s.heap.push emptyDict).push (instObj C s.heap.objs.size) }/\aF F s.heap H ((s.heap.push emptyDict).push (instObj C s.heap.objs.size)) cW)
  (h: ∀ A,A.handled=F.A.handled->aH g (F.up A) (.ref fI) (.ref (s.heap.objs.size+1)::xs) m cW (fun r m H=>r= .none/\Q (.ref (s.heap.objs.size+1)) m H) X):
  codeAny (model g.prog g.w) F.A (.call (.ref C) ⟨vs,[]⟩) (fun r s'=>match r with | .ok (.ret v)=>bG g F VR Q s.heap H v s' | .ok _=>False | .error e=>dA g F X s.heap H e s') s:=by
 obtain ⟨aB,bX⟩:=hS
 obtain ⟨hh,gg,d,t,os⟩:=s
 refine make_core (makes_of S.gq hm) (looks_findIn S.gq hi) (fun self=>bind_fn S.gq self hf) (.inl rfl) ?_
 have kp: ∀ b o,hh.get? b=some o->((hh.push emptyDict).push (instObj C hh.objs.size)).get? b=some o:=fun z0 z0 e=>Heap.get?_push_of_some _ (Heap.get?_push_of_some _ e)
 refine codeAny_mono (h (F.A.under (.builtin "type.__call__" ⟨.ref C::vs,[]⟩)) rfl ⟨_,gg,d,t,os⟩ (.ref (hh.objs.size+1)::vs) (aB.up hl vJ yz rfl rfl) (.cons (.ip _) (r.mono fun z0 z0 z0 e=>kp _ _ e))) fun r s' z=> ?_
 skip
 rcases r with e | (v | _ | _ | _)
 .obtain ⟨c,as,m',H',f,S',K',q⟩:=z
  exact ⟨c,as,m',H',f.since (fun b o e=>⟨o,kp b o e⟩),aB.down S',bX.trans ⟨K'.alive,K'.dct,K'.same⟩,q⟩
 all_goals first
  | exact z.elim
  | (obtain ⟨b,m',H',rb,S',K',e,q⟩:=z;subst e;rw [VR.bJ] at rb;exact ⟨rb, .ref _,m',H', .ip _,fun ht=>aB.down (S' ht),bX.trans ⟨K'.alive,K'.dct,K'.same⟩,q⟩)
theorem Ed {C fI:Addr} {xs:List V} (hm:makesIn g.K C=true) (hi:findIn g.K (.ref C) "__init__"=some (some (.ref fI))) (hf:typeIn g.K (.ref fI)=some (.type "function")) (hl:F.lvl<100)
  (h: ∀ A,A.handled=F.A.handled-> ∀ x dx,H x=none->H dx=none->dx≠x->aH g (F.up A) (.ref fI) (.ref x::xs) m (put (put H dx (.ns [])) x (.inst C dx)) (fun r m H=>r= .none/\Q (.ref x) m H) X):aH g F (.ref C) xs m H Q X:=fun s vs S r=>by
 have n0:=S.lt (Nat.le_refl s.heap.objs.size)
 have n1:=S.lt (Nat.le_succ s.heap.objs.size)
 have ne:s.heap.objs.size≠s.heap.objs.size+1:=Nat.ne_of_lt (Nat.lt_succ_self _)
 obtain ⟨ah,bq⟩:=S.new (t:=s.toks) (h':=s.heap.push emptyDict) (o':= .ns []) (fun z0 z0 e=>Heap.get?_push_of_some _ e) n0.2.2 ⟨[],0,Heap.get?_push_size _ rfl,rfl⟩
 replace ah:=ah (by first | exact S.tk | exact Nat.le_trans S.tk (Nat.le_add_right ..) | assumption)
 have nM:(s.heap.push emptyDict).objs.size=s.heap.objs.size+1:=Heap.size_push ..
 have hN:(s.heap.push emptyDict).get? (s.heap.objs.size+1)=none:=Heap.get?_none_of_le (Nat.le_of_eq nM)
 obtain ⟨aB,bX⟩:=ah.new (t:=s.toks) (h':=(s.heap.push emptyDict).push (instObj C s.heap.objs.size)) (o':= .inst C s.heap.objs.size) (fun z0 z0 e=>Heap.get?_push_of_some _ e) hN (((nM.symm)▸Heap.get?_push_size _ rfl))
 replace aB:=aB (by first | exact ah.tk | exact Nat.le_trans ah.tk (Nat.le_add_right ..) | assumption)
 exact made hm hi hf hl S r _ ⟨aB,bq.trans bX⟩ fun A hA=>h A hA _ _ n1.1 n0.1 ne
theorem Ee {C fI:Addr} {xs:List V} (hm:makesIn g.K C=true) (hi:findIn g.K (.ref C) "__init__"=some (some (.ref fI))) (hf:typeIn g.K (.ref fI)=some (.type "function")) (hl:F.lvl<100)
  (h: ∀ A,A.handled=F.A.handled-> ∀ x,H x=none->aH g (F.up A) (.ref fI) (.ref x::xs) m (put H x (.node C [])) (fun r m H=>r= .none/\Q (.ref x) m H) X):aH g F (.ref C) xs m H Q X:=fun s vs S r=>by
 have n0:=S.lt (Nat.le_refl s.heap.objs.size)
 have n1:=S.lt (Nat.le_succ s.heap.objs.size)
 obtain ⟨ah,bq⟩:=S.ext (t:=s.toks) (h':=s.heap.push emptyDict) (fun z0 z0 e=>Heap.get?_push_of_some _ e)
 replace ah:=ah (by first | exact S.tk | exact Nat.le_trans S.tk (Nat.le_add_right ..) | assumption)
 have nM:(s.heap.push emptyDict).objs.size=s.heap.objs.size+1:=Heap.size_push ..
 have hN:(s.heap.push emptyDict).get? (s.heap.objs.size+1)=none:=Heap.get?_none_of_le (Nat.le_of_eq nM)
 have hD:((s.heap.push emptyDict).push (instObj C s.heap.objs.size)).get? s.heap.objs.size=some emptyDict:=Heap.get?_push_of_some _ (Heap.get?_push_size _ rfl)
 obtain ⟨aB,bX⟩:=ah.new (t:=s.toks) (h':=(s.heap.push emptyDict).push (instObj C s.heap.objs.size)) (o':= .node C []) (fun z0 z0 e=>Heap.get?_push_of_some _ e) hN
  ⟨s.heap.objs.size,[],((nM.symm)▸Heap.get?_push_size _ rfl),rfl,_,_,_,hD,rfl⟩
 replace aB:=aB (by first | exact ah.tk | exact Nat.le_trans ah.tk (Nat.le_add_right ..) | assumption)
 exact made hm hi hf hl S r _ ⟨aB,bq.trans bX⟩ fun A hA=>h A hA _ n1.1
end
theorem VR.wk {h:Heap} {x:V} {v:Value} (r:VR h x v):VR h (wk x) v:=by
 cases x with
 | cD n=>rw [VR.dE] at r;obtain ⟨t,rfl⟩:=r;exact VR.aZ.mpr ⟨_,rfl⟩
 | cS n=>rw [VR.dF] at r;obtain ⟨t,rfl⟩:=r;exact VR.da.mpr ⟨_,rfl⟩
 | _=>exact r
noncomputable def rk:Value->Option V
 | .none=>some .none
 | .bool b=>some (.int (if b then 1 else 0))
 | .int n _=>some (.int n)
 | .str s _=>some (.str s)
 | _=>Option.none
theorem VR.rk {h:Heap} {x:V} {v:Value} (d:dat x=true) (n: ∀ xs,x≠ .tup xs) (r:VR h x v):rk v=some (ck x):=by
 cases x with
 | none=>rw [VR.bJ] at r;subst r;rw [tT];rfl
 | bool b=>rw [VR.cz] at r;subst r;rw [iW];rfl
 | int b=>rw [VR.aZ] at r;obtain ⟨_,rfl⟩:=r;rw [kT];rfl
 | str b=>rw [VR.da] at r;obtain ⟨_,rfl⟩:=r;rw [oE];rfl
 | cD b=>rw [VR.dE] at r;obtain ⟨_,rfl⟩:=r;rw [oF];rfl
 | cS b=>rw [VR.dF] at r;obtain ⟨_,rfl⟩:=r;rw [oG];rfl
 | tup xs=>exact absurd rfl (n xs)
 | _=>cases d
theorem VR.sI {h:Heap} {x y:V} {v:Value} (nx: ∀ xs,x≠ .tup xs) (dx:dat x=true) (dy:dat y=true) (rx:VR h x v) (ry:VR h y v):ck x=ck y:=by
 have e:=rx.rk dx nx
 by_cases z: ∃ ys,y= .tup ys
 .obtain ⟨ys,rfl⟩:=z
  replace ry:=VR.cM ry
  obtain ⟨_,_,_,rfl,_⟩:=ry
  cases e
 .have e':=ry.rk dy fun ys q=>z ⟨ys,q⟩
  rw [e] at e'
  exact Option.some.inj e'
mutual
theorem VR.inj {h:Heap}: ∀ (x y:V) (v:Value),dat x=true->dat y=true->VR h x v->VR h y v->ck x=ck y
 | .none,y,v,dx,dy,rx,ry=>VR.sI (fun z0 q=>nomatch q) dx dy rx ry
 | .bool _,y,v,dx,dy,rx,ry=>VR.sI (fun z0 q=>nomatch q) dx dy rx ry
 | .int _,y,v,dx,dy,rx,ry=>VR.sI (fun z0 q=>nomatch q) dx dy rx ry
 | .str _,y,v,dx,dy,rx,ry=>VR.sI (fun z0 q=>nomatch q) dx dy rx ry
 | .cD _,y,v,dx,dy,rx,ry=>VR.sI (fun z0 q=>nomatch q) dx dy rx ry
 | .cS _,y,v,dx,dy,rx,ry=>VR.sI (fun z0 q=>nomatch q) dx dy rx ry
 | .tup xs,y,v,dx,dy,rx,ry=>by
  by_cases z: ∃ ys,y= .tup ys
  .obtain ⟨ys,rfl⟩:=z
   replace rx:=VR.cM rx;replace ry:=VR.cM ry
   obtain ⟨l,vs,ep,rfl,e,Sp⟩:=rx
   obtain ⟨l',Nu,dh,q,e',Sq⟩:=ry
   cases q
   rw [e] at e'
   have hv:vs=Nu:=by
    have:=congrArg (fun o:Option Obj=>o.map (·.data)) e'
    simp only [Option.map_some,Option.some.injEq,Data.seq.injEq] at this
    simpa using congrArg Array.toList this.1
   subst hv
   rw [rV,rV,bh.inj xs ys vs (by exact dx) (by exact dy) Sp Sq]
  .exact (VR.sI (fun ys q=>z ⟨ys,q⟩) dy dx ry rx).symm
 | .kS _ _ _,_,_,dx,_,_,_=>by cases dx
 | .view _ _,_,_,dx,_,_,_=>by cases dx
 | .ref _,_,_,dx,_,_,_=>by cases dx
 | .cst _,_,_,dx,_,_,_=>by cases dx
theorem bh.inj {h:Heap}: ∀ (xs ys:List V) (vs:List Value),cJ xs=true->cJ ys=true->bh h xs vs->bh h ys vs->nu xs=nu ys
 | [],ys,vs,_,_,rx,ry=>by
  rw [bh.bL] at rx;subst rx
  cases ys with
  | nil=>rfl
  | cons y ys=>obtain ⟨_,_,q,_⟩:=ry.aG;cases q
 | x::xs,ys,vs,dx,dy,rx,ry=>by
  obtain ⟨v,r,rfl,hx,hr⟩:=rx.aG
  cases ys with
  | nil=>rw [bh.bL] at ry;cases ry
  | cons y ys=>
   obtain ⟨v',r',q,hy,oZ⟩:=ry.aG
   cases q
   unfold cJ at dx dy
   rw [Bool.and_eq_true] at dx dy
   unfold nu
   rw [VR.inj x y v dx.1 dy.1 hx hy,bh.inj xs ys r dx.2 dy.2 hr oZ]
end
theorem bh.at {h:Heap} {xs:List V} {vs:List Value} (r:bh h xs vs) {j:Nat} (hj:j<vs.length):VR h (xs.getD j .none) vs[j]:=by
 have hx:j<xs.length:=by rw [<- r.length];exact hj
 obtain ⟨v,e,rv⟩:=r.getElem? (List.getElem?_eq_getElem hx)
 rw [List.getElem?_eq_getElem hj] at e
 cases e
 rw [Bb hx];exact rv
structure Kinds (P:Value->Value->Bool->Prop) (s:Shared):Prop where
 nn:P .none .none true
 nb: ∀ b,P .none (.bool b) false
 ni: ∀ b t,P .none (.int b t) false
 ns: ∀ b t,P .none (.str b t) false
 nt: ∀ l (vs:Array Value),s.heap.IsTuple l vs->P .none (.ref l) false
 bn: ∀ a,P (.bool a) .none false
 bb: ∀ a b,P (.bool a) (.bool b) (a == b)
 bi: ∀ a b t,P (.bool a) (.int b t) ((if a then 1 else 0) == b)
 bs: ∀ a b t,P (.bool a) (.str b t) false
 bt: ∀ a l (vs:Array Value),s.heap.IsTuple l vs->P (.bool a) (.ref l) false
 Sr: ∀ a t,P (.int a t) .none false
 ib: ∀ a t b,P (.int a t) (.bool b) (a == (if b then 1 else 0))
 ii: ∀ a t b u,P (.int a t) (.int b u) (a == b)
 Ss: ∀ a t b u,P (.int a t) (.str b u) false
 it: ∀ a t l (vs:Array Value),s.heap.IsTuple l vs->P (.int a t) (.ref l) false
 sn: ∀ a t,P (.str a t) .none false
 sb: ∀ a t b,P (.str a t) (.bool b) false
 si: ∀ a t b u,P (.str a t) (.int b u) false
 ss: ∀ a t b u,P (.str a t) (.str b u) (a == b)
 st: ∀ a t l (vs:Array Value),s.heap.IsTuple l vs->P (.str a t) (.ref l) false
 tn: ∀ l (vs:Array Value),s.heap.IsTuple l vs->P (.ref l) .none false
 tb: ∀ l (vs:Array Value) b,s.heap.IsTuple l vs->P (.ref l) (.bool b) false
 ti: ∀ l (vs:Array Value) b t,s.heap.IsTuple l vs->P (.ref l) (.int b t) false
 ts: ∀ l (vs:Array Value) b t,s.heap.IsTuple l vs->P (.ref l) (.str b t) false
theorem hK {h:Heap} {C:V->Value->Prop} {x:V} {v:Value} (nx:wk x=x) (dx:dat x=true) (rx:VR h x v) (hn:C .none .none) (hb: ∀ b,C (.bool b) (.bool b)) (hi: ∀ n t,C (.int n) (.int n t)) (hs: ∀ n t,C (.str n) (.str n t))
  (ht: ∀ a l (vs:List Value),h.IsTuple l vs.toArray->bh h a vs->C (.tup a) (.ref l)):C x v:=by
 cases x with
 | none=>exact VR.bJ.mp rx▸hn
 | bool b=>exact VR.cz.mp rx▸hb b
 | int n=>obtain ⟨t,e⟩:=VR.aZ.mp rx;exact e▸hi n t
 | str n=>obtain ⟨t,e⟩:=VR.da.mp rx;exact e▸hs n t
 | tup a=>obtain ⟨l,vs,ep,e,e',q⟩:=VR.cM rx;exact e▸ht a l vs ⟨_,e',rfl,ep,rfl⟩ q
 | cD=>cases nx
 | cS=>cases nx
 | _=>cases dx
theorem Ef {P:Value->Value->Bool->Prop} {s:Shared} (K:Kinds P s) {x y:V} {v u:Value} (nx:wk x=x) (ny:wk y=y) (dx:dat x=true) (dy:dat y=true) (rx:VR s.heap x v) (ry:VR s.heap y u)
  (TT: ∀ a b lx ly (vK w6:List Value),x= .tup a->y= .tup b->s.heap.IsTuple lx vK.toArray->s.heap.IsTuple ly w6.toArray->bh s.heap a vK->bh s.heap b w6->P (.ref lx) (.ref ly) (fB a b)):P v u (eD x y):=
 hK (C:=fun x' v=>x=x'->P v u (eD x' y)) nx dx rx
  (fun z0=>hK (C:=fun y u=>P .none u (eD .none y)) ny dy ry K.nn (fun b=>K.nb b) (fun n t=>K.ni n t) (fun n t=>K.ns n t) (fun a l vs T q=>K.nt l _ T))
  (fun b z0=>hK (C:=fun y u=>P (.bool b) u (eD (.bool b) y)) ny dy ry (K.bn b) (fun a=>by rw [xk];exact K.bb b a) (fun n t=>K.bi b n t) (fun n t=>K.bs b n t) (fun a l vs T q=>K.bt b l _ T))
  (fun n t z0=>hK (C:=fun y u=>P (.int n t) u (eD (.int n) y)) ny dy ry (K.Sr n t) (fun a=>K.ib n t a) (fun b u=>K.ii n t b u) (fun b u=>K.Ss n t b u) (fun a l vs T q=>K.it n t l _ T))
  (fun n t z0=>hK (C:=fun y u=>P (.str n t) u (eD (.str n) y)) ny dy ry (K.sn n t) (fun a=>K.sb n t a) (fun b u=>K.si n t b u) (fun b u=>K.ss n t b u) (fun a l vs T q=>K.st n t l _ T))
  (fun a l vs T q e=>hK (C:=fun y' u=>y=y'->P (.ref l) u (eD (.tup a) y')) ny dy ry (fun z0=>K.tn l _ T) (fun b z0=>K.tb l _ b T) (fun b u z0=>K.ti l _ b u T) (fun b u z0=>K.ts l _ b u T) (fun b l' Nu T' q' e'=>TT a b l l' vs Nu e e' T T' q q') rfl) rfl
theorem kinds {P:Value->Value->Bool->Prop} {s:Shared} (K:Kinds P s) {x y:V} {v u:Value} (dx:dat x=true) (dy:dat y=true) (rx:VR s.heap x v) (ry:VR s.heap y u)
  (TT: ∀ a b lx ly (vK w6:List Value),x= .tup a->y= .tup b->s.heap.IsTuple lx vK.toArray->s.heap.IsTuple ly w6.toArray->bh s.heap a vK->bh s.heap b w6->P (.ref lx) (.ref ly) (fB a b)):P v u (eD x y):=by
 have ht: ∀ {x:V} {a:List V},wk x= .tup a->x= .tup a:=fun {x a} e=>by cases x <;> first | exact e | cases e
 rw [<- DC]
 exact Ef K (CB x) (CB y) (by rw [xl];exact dx) (by rw [xl];exact dy) rx.wk ry.wk fun a b lx ly vK w6 ex ey=>TT a b lx ly vK w6 (ht ex) (ht ey)
theorem yA {A:Around} {s:Shared} (hu:A.units<cLine):Kinds (EqAt A s) s:=
 ⟨EqAt.same _,EqAt.none_bool,EqAt.none_int,EqAt.none_str,fun z0 z0 T=>EqAt.none_tuple T hu,EqAt.bool_none,EqAt.bool_bool,EqAt.bool_int,EqAt.bool_str,fun z0 z0 z0 T=>EqAt.bool_tuple _ T hu,
  EqAt.int_none,EqAt.int_bool,EqAt.int_int,EqAt.int_str,fun z0 z0 z0 z0 T=>EqAt.int_tuple _ _ T hu,EqAt.str_none,EqAt.str_bool,EqAt.str_int,EqAt.str_str,fun z0 z0 z0 z0 T=>EqAt.str_tuple _ _ T hu,
  fun z0 z0 T=>EqAt.tuple_none T hu,fun z0 z0 z0 T=>EqAt.tuple_bool _ T hu,fun z0 z0 z0 z0 T=>EqAt.tuple_int _ _ T hu,fun z0 z0 z0 z0 T=>EqAt.tuple_str _ _ T hu⟩
theorem Eg {A:Around} {s:Shared} (hu:A.units<cLine):Kinds (RcAt A s) s:=
 ⟨RcAt.none_none,RcAt.none_bool,RcAt.none_int,RcAt.none_str,fun z0 z0 T=>RcAt.none_tuple T hu,RcAt.bool_none,RcAt.bool_bool,RcAt.bool_int,RcAt.bool_str,fun z0 z0 z0 T=>RcAt.bool_tuple _ T hu,
  RcAt.int_none,RcAt.int_bool,RcAt.int_int,RcAt.int_str,fun z0 z0 z0 z0 T=>RcAt.int_tuple _ _ T hu,RcAt.str_none,RcAt.str_bool,RcAt.str_int,RcAt.str_str,fun z0 z0 z0 z0 T=>RcAt.str_tuple _ _ T hu,
  fun z0 z0 T=>RcAt.tuple_none T hu,fun z0 z0 z0 T=>RcAt.tuple_bool _ T hu,fun z0 z0 z0 z0 T=>RcAt.tuple_int _ _ T hu,fun z0 z0 z0 z0 T=>RcAt.tuple_str _ _ T hu⟩
theorem Eh {A:Around} {s:Shared} (hu:A.units<cLine):Kinds (fun v u b=>RcNeAt A s v u (!b)) s:=
 ⟨RcNeAt.none_none,RcNeAt.none_bool,RcNeAt.none_int,RcNeAt.none_str,fun z0 z0 T=>RcNeAt.none_tuple T hu,RcNeAt.bool_none,RcNeAt.bool_bool,RcNeAt.bool_int,RcNeAt.bool_str,fun z0 z0 z0 T=>RcNeAt.bool_tuple _ T hu,
  RcNeAt.int_none,RcNeAt.int_bool,RcNeAt.int_int,RcNeAt.int_str,fun z0 z0 z0 z0 T=>RcNeAt.int_tuple _ _ T hu,RcNeAt.str_none,RcNeAt.str_bool,RcNeAt.str_int,RcNeAt.str_str,fun z0 z0 z0 z0 T=>RcNeAt.str_tuple _ _ T hu,
  fun z0 z0 T=>RcNeAt.tuple_none T hu,fun z0 z0 z0 T=>RcNeAt.tuple_bool _ T hu,fun z0 z0 z0 z0 T=>RcNeAt.tuple_int _ _ T hu,fun z0 z0 z0 z0 T=>RcNeAt.tuple_str _ _ T hu⟩
theorem jh: ∀ (n:Nat) (A:Around) (s:Shared) (x y:V) (v u:Value),dep x<=n->dat x=true->dat y=true->A.units+n<cLine->VR s.heap x v->VR s.heap y u->EqAt A s v u (eD x y):=by
 intro n
 induction n with
 | zero=>
  intro A s x y v u hn dx dy hu rx ry
  refine kinds (yA hu) dx dy rx ry fun a b lx ly vK w6 ex ey z0 z0 z0 z0=> ?_
  subst ex
  exact absurd hn (Nat.not_succ_le_zero _)
 | succ n ih=>
  intro A s x y v u hn dx dy hu rx ry
  refine kinds (yA (by exact Gh hu)) dx dy rx ry fun a b lx ly vK w6 ex ey Tx Ty qx qy=> ?_
  subst ex ey
  have hn:cQ a<=n:=Nat.le_of_succ_le_succ hn
  have dx:cJ a=true:=dx
  have dy:cJ b=true:=dy
  by_cases hl:lx=ly
  .subst hl
   have hv:vK=w6:=by
    obtain ⟨o,e,_,n1,d1⟩:=Tx
    obtain ⟨o',e',_,n2,d2⟩:=Ty
    obtain rfl:=oi e e'
    rw [d1] at d2
    simp only [Data.seq.injEq] at d2
    simpa using congrArg Array.toList d2.1
   subst hv
   have:=bh.inj a b vK dx dy qx qy
   rw [(xj a b dx dy).mpr this]
   exact EqAt.same _
  .refine EqAt.of_refs hl ?_
   have:=RcAt.tuples (A:=A) (e:=fun j=>eD (a.getD j .none) (b.getD j .none)) Tx Ty (by exact Gh hu) fun j h1 h2=> ?_
   .rw [<- k8]
    simp only [List.size_toArray,qx.length,qy.length] at this
    exact this
   .simp only [List.size_toArray] at h1 h2
    simp only [List.getElem_toArray]
    exact ih A.in1 s _ _ _ _ (Nat.le_trans fQ hn) (cK dx) (cK dy) (by show A.units+1+n<cLine;exact Pz hu) (qx.at h1) (qy.at h2)
theorem HF {A:Around} {s:Shared} {x y:V} {v u:Value} (hn:True) (dx:dat x=true) (dy:dat y=true) (hu:A.units+(dep x+1)<cLine) (rx:VR s.heap x v) (ry:VR s.heap y u):RcAt A s v u (eD x y):=by
 have vL:A.units<cLine:=by exact Gh hu
 refine kinds (Eg vL) dx dy rx ry fun a b lx ly vK w6 ex ey Tx Ty qx qy=> ?_
 subst ex ey
 have dx:cJ a=true:=dx
 have dy:cJ b=true:=dy
 have hu:A.units+(cQ a+1+1)<cLine:=hu
 have:=RcAt.tuples (A:=A) (e:=fun j=>eD (a.getD j .none) (b.getD j .none)) Tx Ty vL fun j h1 h2=> ?_
 .rw [<- k8]
  simp only [List.size_toArray,qx.length,qy.length] at this
  exact this
 .simp only [List.size_toArray] at h1 h2
  simp only [List.getElem_toArray]
  exact jh (cQ a) A.in1 s _ _ _ _ fQ (cK dx) (cK dy) (by show A.units+1+cQ a<cLine;exact PA hu) (qx.at h1) (qy.at h2)
theorem Bm {A:Around} {s:Shared} {x y:V} {v u:Value} (hn:True) (dx:dat x=true) (dy:dat y=true) (hu:A.units+(dep x+1)<cLine) (rx:VR s.heap x v) (ry:VR s.heap y u):RcNeAt A s v u (!eD x y):=by
 have vL:A.units<cLine:=by exact Gh hu
 refine kinds (Eh vL) dx dy rx ry fun a b lx ly vK w6 ex ey Tx Ty qx qy=> ?_
 subst ex ey
 have dx:cJ a=true:=dx
 have dy:cJ b=true:=dy
 have hu:A.units+(cQ a+1+1)<cLine:=hu
 have:=RcNeAt.tuples (A:=A) (e:=fun j=>eD (a.getD j .none) (b.getD j .none)) Tx Ty vL fun j h1 h2=> ?_
 .show RcNeAt A s _ _ (!fB a b)
  rw [<- k8]
  simp only [List.size_toArray,qx.length,qy.length] at this
  exact this
 .simp only [List.size_toArray] at h1 h2
  simp only [List.getElem_toArray]
  exact jh (cQ a) A.in1 s _ _ _ _ fQ (cK dx) (cK dy) (by show A.units+1+cQ a<cLine;exact PA hu) (qx.at h1) (qy.at h2)
section
variable {prog:Program} {w:World} {E:PE}
mutual
theorem fU: ∀ (x:V) (v:Value) (A:Around) (s:Shared) (Q:Int->Shared->Prop),dat x=true->VR s.heap x v->A.units+dep x<cLine->
  (∀ tk,Q (hV w.params x) { s with toks:=tk })->wpAny (model prog w) A (pyHash v) Q E s
 | .none,v,A,s,Q,_,r,hu,h=>by
  rw [VR.bJ] at r;subst r
  exact pyHash_slot (T:="NoneType") rfl F.slot_NoneType_hash F.entry_NoneType_hash (F.args_NoneType_hash_1 _) (beq_builtin_none _) (.inr (by exact PC hu)) (wpAny_bind (wpAny_pure (wpAny_bind (wpAny_mkInt (wpAny_pure ⟨_,_,rfl,h _⟩)))))
 | .bool b,v,A,s,Q,_,r,hu,h=>by
  rw [VR.cz] at r;subst r
  refine pyHash_slot (T:="bool") rfl F.slot_bool_hash entry_int_hash (args_int_hash _) (beq_builtin_none _) (.inr (by exact PC hu)) ?_
  cases b
  .exact (show wpAny _ _ (do ret (<- mkInt 0)) _ _ s from wpAny_bind (wpAny_mkInt (wpAny_pure ⟨_,_,rfl,h _⟩)))
  .exact (show wpAny _ _ (do ret (<- mkInt 1)) _ _ s from wpAny_bind (wpAny_mkInt (wpAny_pure ⟨_,_,rfl,h _⟩)))
 | .int i,v,A,s,Q,_,r,_,h=>by rw [VR.aZ] at r;obtain ⟨t,rfl⟩:=r;exact wpAny_pyHash_int (hashW_int w.params i▸h _)
 | .str y,v,A,s,Q,_,r,_,h=>by rw [VR.da] at r;obtain ⟨t,rfl⟩:=r;exact wpAny_pyHash_str (h _)
 | .tup xs,v,A,s,Q,d,r,hu,h=>by
  replace r:=VR.cM r
  obtain ⟨a,vs,ep,rfl,hg,hw⟩:=r
  refine pyHash_slot (T:="tuple") ⟨_,hg,rfl⟩ F.slot_tuple_hash F.entry_tuple_hash (F.args_tuple_hash_1 _) (beq_builtin_none _) (.inr (by exact Gh hu)) ?_
  show wpAny _ _ (Builtin.Tuple.tupleItemsOf (.ref a) >>=_) _ _ s
  refine wpAny_bind (wpAny_tupleItemsOf hg rfl ?_)
  refine wpAny_bind ?_
  rw [<- Array.forIn_toList]
  refine nV xs vs A.in1 s #[] _ (by exact d) hw (by show A.units+1+cQ xs<cLine;exact Pz hu) fun tk b hb=> ?_
  show wpAny _ _ (retInt (Builtin.Tuple.tupleHashOf b.toList)) _ _ _
  rw [hb]
  exact wpAny_bind (wpAny_mkInt (wpAny_pure ⟨_,_,rfl,by have:=h (tk+1);exact this⟩))
 | .cD i,v,A,s,Q,_,r,_,h=>by rw [VR.dE] at r;obtain ⟨t,rfl⟩:=r;exact wpAny_pyHash_int (hashW_int w.params i▸h _)
 | .cS y,v,A,s,Q,_,r,_,h=>by rw [VR.dF] at r;obtain ⟨t,rfl⟩:=r;exact wpAny_pyHash_str (h _)
 | .kS _ _ _,_,_,_,_,d,_,_,_=>by cases d
 | .view _ _,_,_,_,_,d,_,_,_=>by cases d
 | .ref _,_,_,_,_,d,_,_,_=>by cases d
 | .cst _,_,_,_,_,d,_,_,_=>by cases d
theorem nV: ∀ (xs:List V) (vs:List Value) (A:Around) (s:Shared) (b:Array Int) (Q:Array Int->Shared->Prop),cJ xs=true->bh s.heap xs vs->A.units+cQ xs<cLine->
  (∀ tk b',b'.toList=b.toList++CA w.params xs->Q b' { s with toks:=tk })->
  wpAny (model prog w) A (forIn vs b fun x r=>do let h <- pyHash x;pure PUnit.unit;pure (ForInStep.yield (r.push h))) Q E s
 | [],vs,A,s,b,Q,_,r,_,h=>by rw [bh.bL] at r;subst r;exact wpAny_pure (h s.toks b (by delta CA oI;simp [hashesW]))
 | x::xs,vs,A,s,b,Q,d,r,hu,h=>by
  obtain ⟨v,vs,rfl,hx,hr⟩:=r.aG
  unfold cJ at d
  rw [Bool.and_eq_true] at d
  rw [List.forIn_cons]
  refine wpAny_bind (wpAny_bind (fU x _ A s _ d.1 hx (by exact RH hu) fun tk=> ?_))
  refine wpAny_bind (wpAny_pure (wpAny_pure ?_))
  exact nV xs _ A _ _ Q d.2 hr (by exact RK hu) fun Su b' hb=>h Su b' (by unfold CA oI hashesW;rw [hb];simp [hV,CA])
end
theorem o5 {s:Shared} {xs:List V} {v:Value} (r:VR s.heap (.tup xs) v):s.TypeIs v "tuple":=by
 replace r:=VR.cM r
 obtain ⟨a,vs,ep,rfl,hg,hw⟩:=r
 exact ⟨_,hg,rfl⟩
theorem fj {h:Heap} {x:V} {v:Value} (d:dat x=true) (r:VR h x v) (n: ∀ xs,x≠ .tup xs):carriedByValue v=true:=by
 cases x with
 | none=>rw [VR.bJ] at r;subst r;rfl
 | bool=>rw [VR.cz] at r;subst r;rfl
 | int=>rw [VR.aZ] at r;obtain ⟨_,rfl⟩:=r;rfl
 | str=>rw [VR.da] at r;obtain ⟨_,rfl⟩:=r;rfl
 | cD=>rw [VR.dE] at r;obtain ⟨_,rfl⟩:=r;rfl
 | cS=>rw [VR.dF] at r;obtain ⟨_,rfl⟩:=r;rfl
 | tup xs=>exact absurd rfl (n xs)
 | _=>cases d
theorem sJ {s:Shared} {A:Around} {f:Value->Sem Bool} {c:Bool} {xs:List V} {vs:List Value} (d:cJ xs=true) (r:bh s.heap xs vs)
  (hf: ∀ x∈xs, ∀ v,dat x=true->VR s.heap x v-> ∀ Q:Bool->Shared->Prop,Q c s->wpAny (model prog w) A (f v) Q E s): ∀ v∈vs, ∀ Q:Bool->Shared->Prop,Q c s->wpAny (model prog w) A (f v) Q E s:=fun v hv Q q=>by
 obtain ⟨y,h1,h2,h3,_⟩:=pa r hv d
 exact hf y h1 v h2 h3 Q q
where
 pa {h:Heap}: ∀ {xs:List V} {vs:List Value} {v:Value},bh h xs vs->v∈vs->cJ xs=true-> ∃ y,y∈xs/\dat y=true/\VR h y v/\dep y<=cQ xs
 | [],_,_,r,hv,_=>by rw [bh.bL] at r;subst r;cases hv
 | y::ys,_,v,r,hv,d=>by
  obtain ⟨v',r',rfl,rv,rr⟩:=r.aG
  replace d:dat _=true/\cJ _=true:=Bool.and_eq_true_iff.mp d
  rcases List.mem_cons.mp hv with rfl | hv
  .exact ⟨y,List.mem_cons_self,d.1,rv,Nat.le_max_left ..⟩
  .obtain ⟨z,h1,h2,h3,h4⟩:=pa rr hv d.2
   exact ⟨z,List.mem_cons_of_mem _ h1,h2,h3,by exact Nat.le_trans h4 (Nat.le_max_right ..)⟩
theorem pe: ∀ {xs:List V} {x:V},x∈xs->dep x<=cQ xs
 | y::ys,x,h=>by
  rcases List.mem_cons.mp h with rfl | h
  .exact Nat.le_max_left ..
  .exact Nat.le_trans (pe h) (Nat.le_max_right ..)
theorem kK {A:Around}: ∀ (n:Nat) (x:V) (v:Value) (s:Shared) (Q:rP),dat x=true->dep x<=n->VR s.heap x v->Q true s->wpAny (model prog w) A (eqIsQuiet n v) Q E s:=by
 intro n
 induction n with
 | zero=>
  intro x v s Q d hn r h
  rw [eqIsQuiet_byValue 0 (fj d r fun xs e=>by subst e;exact absurd hn (Nat.not_succ_le_zero _))]
  exact wpAny_pure h
 | succ n ih=>
  intro x v s Q d hn r h
  by_cases z: ∃ xs,x= .tup xs
  .obtain ⟨xs,rfl⟩:=z
   have hT:=o5 r
   skip
   replace r:=VR.cM r
   obtain ⟨a,vs,ep,rfl,hg,hw⟩:=r
   unfold eqIsQuiet
   refine wpAny_bind (wpAny_specialOf hT F.slot_tuple_eq.lookup ?_)
   skip
   refine wpAny_bind (wpAny_isInstance hT isSubtype_tuple_tuple ?_)
   simp only [Bool.not_true,Bool.false_eq_true,if_false]
   refine wpAny_bind (wpAny_seqItems hg rfl ?_)
   refine wpAny_bind ?_
   skip
   rw [<- Array.forIn_toList]
   have key:=sJ (prog:=prog) (w:=w) (E:=E) (A:=A) (s:=s) (f:=eqIsQuiet n) (c:=true) d hw fun y hy v' dy ry Q q=>ih y v' s Q dy (by have:=pe hy;exact PD hn this) ry q
   refine wpAny_forIn_list _ (fun rest r s'=>r.1=none/\s'=s/\ ∀ v∈rest,v∈vs) _ ?_ ?_ _ _ ⟨rfl,rfl,fun v hv=>hv⟩
   .rintro v rest r s' ⟨hr,rfl,gM⟩
    refine wpAny_bind (key v (gM v List.mem_cons_self) _ ?_)
    simp only [Bool.not_true,Bool.false_eq_true,if_false]
    exact wpAny_pure ⟨rfl,rfl,fun u vL=>gM u (List.mem_cons_of_mem _ vL)⟩
   .rintro ⟨r1,r2⟩ s' ⟨hr,rfl,_⟩
    simp only at hr
    subst hr
    exact wpAny_pure h
  .rw [eqIsQuiet_byValue _ (fj d r fun xs e=>z ⟨xs,e⟩)]
   exact wpAny_pure h
theorem nW {A:Around}: ∀ (n:Nat) (x:V) (v:Value) (s:Shared) (Q:rP),dat x=true->dep x<=n->VR s.heap x v->Q false s->wpAny (model prog w) A (ofAClassStatement n v) Q E s:=by
 intro n
 induction n with
 | zero=>
  intro x v s Q d hn r h
  have:=fj d r fun xs e=>by subst e;exact absurd hn (Nat.not_succ_le_zero _)
  cases v <;> first | (cases this;done) | exact wpAny_of_eq (by rfl) h
 | succ n ih=>
  intro x v s Q d hn r h
  by_cases z: ∃ xs,x= .tup xs
  .obtain ⟨xs,rfl⟩:=z
   have hT:=o5 r
   skip
   replace r:=VR.cM r
   obtain ⟨a,vs,ep,rfl,hg,hw⟩:=r
   unfold ofAClassStatement
   refine wpAny_bind (wpAny_typeOf hT ?_)
   skip
   refine wpAny_bind ?_
   refine wpAny_pure ?_
   simp only [Bool.not_true,Bool.false_eq_true,if_false]
   refine wpAny_bind (wpAny_seqItems hg rfl ?_)
   skip
   refine wpAny_bind ?_
   rw [<- Array.forIn_toList]
   have key:=sJ (prog:=prog) (w:=w) (E:=E) (A:=A) (s:=s) (f:=ofAClassStatement n) (c:=false) d hw fun y hy v' dy ry Q q=>ih y v' s Q dy (by have:=pe hy;exact PD hn this) ry q
   refine wpAny_forIn_list _ (fun rest r s'=>r.1=none/\s'=s/\ ∀ v∈rest,v∈vs) _ ?_ ?_ _ _ ⟨rfl,rfl,fun v hv=>hv⟩
   .rintro v rest r s' ⟨hr,rfl,gM⟩
    refine wpAny_bind (key v (gM v List.mem_cons_self) _ ?_)
    refine az Bool.false_ne_true ?_
    exact wpAny_pure ⟨rfl,rfl,fun u vL=>gM u (List.mem_cons_of_mem _ vL)⟩
   .rintro ⟨r1,r2⟩ s' ⟨hr,rfl,_⟩
    simp only at hr
    subst hr
    exact wpAny_pure h
  .have:=fj d r fun xs e=>z ⟨xs,e⟩
   cases v <;> first | (cases this;done) | exact wpAny_of_eq (by rfl) h
end
section
variable {prog:Program} {w:World} {A:Around} {E:PE} {s:Shared}
theorem HG {α:Type} {key:Value} {f:Str->Tok->α} {k:Value->α} {C:α->Prop} (hs: ∀ x t,key= .str x t->C (f x t)) (hg:C (k key)):C (isExactStrKey.match_1 (fun z0=>α) key f k):=by
 cases key <;> first | exact hs _ _ rfl | exact hg
theorem HH {α:Type} {key:Value} {f:Addr->α} {k:Value->α} {C:α->Prop} (hs: ∀ a,key= .ref a->C (f a)) (hg:C (k key)):C (carriedByValue.match_1 (fun z0=>α) key f k):=by
 cases key <;> first | exact hs _ rfl | exact hg
theorem Bn {α β:Type} {c:Prop} [Decidable c] {a b:Sem α} {K:α->Sem β} {v:α} {Q:β->Shared->Prop} (ha:c-> ∀ R:α->Shared->Prop,R v s->wpAny (model prog w) A a R E s) (hb: ¬ c-> ∀ R:α->Shared->Prop,R v s->wpAny (model prog w) A b R E s)
  (h:wpAny (model prog w) A (K v) Q E s):wpAny (model prog w) A (if c then a >>=K else b >>=K) Q E s:=by
 by_cases q:c
 .refine bD q ?_;exact wpAny_bind (ha q _ h)
 .refine az q ?_;exact wpAny_bind (hb q _ h)
noncomputable abbrev CP (ds:Array DictEntry) (hh:Int):Nat->Bool:=fun i=>(ds[i]?.map (·.hash)) == some hh
inductive At (ds:Array DictEntry) (hh:Int) (p:Nat->Bool) (rest:List Nat):Option Nat->Prop where
 | lo (i:Nat) (hr:(List.range' i (ds.size-i)).filter (CP ds hh)=rest) (hi:i<=ds.size) (no: ∀ j,j<ds.size->j<i->p j=false):At ds hh p rest none
 | up (i:Nat) (hr:(List.range' i (ds.size-i)).filter (CP ds hh)=rest) (hi:i<=ds.size) (j:Nat) (ji:j<i) (hj:j<ds.size) (pj:p j=true):At ds hh p rest (some j)
section
variable {ds:Array DictEntry} {hh:Int} {p:Nat->Bool} {rest:List Nat} {hit:Option Nat} {x:Nat}
theorem At.start:At ds hh p (placesWithHash ds.size (fun i=>ds[i]?.map (·.hash)) hh) none:=
 .lo 0 (by rw [placesWithHash,List.range_eq_range',Nat.sub_zero]) (Nat.zero_le _) fun z0 z0 h=>absurd h (Nat.not_lt_zero _)
theorem At.step (hy: ∀ j,j<ds.size->p j=true->CP ds hh j=true) (a:At ds hh p (x::rest) hit):x<ds.size/\(p x=false->At ds hh p rest hit)/\(p x=true->(hit=none\/ ∃ j,j<x/\j<ds.size/\p j=true)/\(hit=none->At ds hh p rest (some x))):=by
 cases a with
 | lo i hr hi no=>
  obtain ⟨Nv,Nw,Sv,CQ,yB⟩:=filter_range'_cons _ _ _ _ _ hr
  have dX:x<ds.size:=by exact Gj hi Nw
  have oZ:(List.range' (x+1) (ds.size-(x+1))).filter (CP ds hh)=rest:=by rw [yB];congr 2;exact (Gk hi).symm
  refine ⟨dX,fun uj=> .lo (x+1) oZ dX fun j hj Sw=> ?_,fun q=>⟨.inl rfl,fun z0=> .up (x+1) oZ dX x (Nat.lt_succ_self x) dX q⟩⟩
  rcases Nat.lt_or_ge j i with h | h
  .exact no j hj h
  .rcases Nat.lt_or_ge j x with h' | h'
   .cases q:p j with
    | false=>rfl
    | true=>have:=CQ j h h';exact Bool.noConfusion ((hy j hj q).symm.trans this)
   .have:j=x:=by exact JX h' Sw
    subst this;exact uj
 | up i hr hi j ji hj pj=>
  obtain ⟨Nv,Nw,Sv,CQ,yB⟩:=filter_range'_cons _ _ _ _ _ hr
  have dX:x<ds.size:=by exact Gj hi Nw
  have oZ:(List.range' (x+1) (ds.size-(x+1))).filter (CP ds hh)=rest:=by rw [yB];congr 2;exact (Gk hi).symm
  exact ⟨dX,fun z0=> .up (x+1) oZ dX j (Nat.lt_succ_of_lt (Nat.lt_of_lt_of_le ji Nv)) hj pj,fun q=>⟨.inr ⟨j,Nat.lt_of_lt_of_le ji Nv,hj,pj⟩,nofun⟩⟩
theorem At.fin (hy: ∀ j,j<ds.size->p j=true->CP ds hh j=true) (a:At ds hh p [] none): ∀ j,j<ds.size->p j=false:=fun j hj=>by
 cases a with
 | lo i hr hi no=>
  rcases Nat.lt_or_ge j i with h | h
  .exact no j hj h
  .cases q:p j with
   | false=>rfl
   | true=>exact absurd (hy j hj q) (List.filter_eq_nil_iff.mp hr j (List.mem_range'_1.mpr ⟨h,by exact JY hj⟩))
theorem At.got {j:Nat} (a:At ds hh p [] (some j)):j<ds.size/\p j=true:=by
 cases a with | up i hr hi j ji hj pj=>exact ⟨hj,pj⟩
theorem kH (v:Value) (hv:v∈(placesWithHash ds.size (fun i=>ds[i]?.map (·.hash)) hh).filterMap (fun i=>ds[i]?.map (·.key))): ∃ j, ∃ hj:j<ds.size,v=ds[j].key:=by
 obtain ⟨i,_,hi⟩:=List.mem_filterMap.mp hv
 cases Ny:ds[i]? with
 | none=>rw [Ny] at hi;cases hi
 | some e=>
  rw [Ny] at hi
  obtain ⟨dX,he⟩:=Array.getElem?_eq_some_iff.mp Ny
  exact ⟨i,dX,by rw [he];simpa using hi.symm⟩
end
theorem vM {d:Addr} {o:Obj} {ds:Array DictEntry} {ep:Nat} {key:Value} {hh:Int} {Q:Option Nat->Shared->Prop} (ho:s.heap.get? d=some o) (hd:o.data= .dict ds ep) (p:Nat->Bool)
  (h1: ∀ j (hj:j<ds.size),p j=true->ds[j].hash=hh) (h2: ∀ i j,i<ds.size->j<ds.size->p i=true->p j=true->i=j)
  (h3: ∀ j (hj:j<ds.size) (Q:rP),Q (p j) s->wpAny (model prog w) A (eqBool ds[j].key key) Q E s)
  (h4: ∀ (stored:List Value),(∀ v∈stored, ∃ j, ∃ hj:j<ds.size,v=ds[j].key)-> ∀ Q:Bool->Shared->Prop,Q false s->wpAny (model prog w) A (tableMayTell key stored) Q E s)
  (h5: ∀ a,key= .ref a-> ¬ (ds.any fun e=>e.key == key && e.hash != hh)=true) (h6: ∀ x t,key= .str x t->(ds.all fun e=>isExactStrKey e.key)=true-> ∀ j (hj:j<ds.size),ds[j].key.isStr x=p j)
  (yC:(∀ j,j<ds.size->p j=false)->Q none s) (uy: ∀ j,j<ds.size->p j=true->Q (some j) s):wpAny (model prog w) A (dictFind d key hh) Q E s:=by
 have hy: ∀ j,j<ds.size->p j=true->CP ds hh j=true:=fun j hj q=>by
  unfold CP;rw [Array.getElem?_eq_getElem hj,Option.map_some,h1 j hj q];simp
 have plain:wpAny (model prog w) A (dictWalkPlain d key hh ds (placesWithHash ds.size (fun i=>ds[i]?.map (·.hash)) hh)) Q E s:=by
  refine wpAny_bind (wpAny_forIn_list _ (fun rest b s'=>s'=s/\b=(none,())/\At ds hh p rest none) _ ?_ ?_ _ _ ⟨rfl,rfl, .start⟩)
  .rintro x rest b s' ⟨rfl,rfl,a⟩
   have a:=a.step hy
   have dX:=a.1
   simp only [Array.getElem?_eq_getElem dX]
   refine tS fun Q' hq=>kQ _ (fun yD=>bD yD<|wpAny_bind<|wpAny_dictEpoch ho hd<|wpAny_bind<|h3 x dX _<|wpAny_bind<|wpAny_dictEpoch ho hd<|az (xg _)<|kE (p x) (fun hp=> ?_) (fun hp=> ?_)) (fun yD=>az yD<|wpAny_pure<|hq _ _ ⟨rfl,rfl,a.2.1 ?_⟩)
   .exact bD hp<|wpAny_bind<|wpAny_rule<|wpAny_pure<|hq _ _<|wpAny_pure (uy x dX hp)
   .exact iy hp<|wpAny_bind<|wpAny_rule<|wpAny_pure<|hq _ _ ⟨rfl,rfl,a.2.1 hp⟩
   .cases hp:p x with
    | false=>rfl
    | true=>rw [h1 x dX hp] at yD;simp at yD
  .rintro b s' ⟨rfl,rfl,a⟩
   exact wpAny_pure (yC (a.fin hy))
 have full:wpAny (model prog w) A (do
   let tells <- if ((placesWithHash ds.size (fun i=>ds[i]?.map (·.hash)) hh).filterMap fun i=>ds[i]?.map (·.key)) == [key] then pure false else tableMayTell key ((placesWithHash ds.size (fun i=>ds[i]?.map (·.hash)) hh).filterMap fun i=>ds[i]?.map (·.key))
   if tells && ((placesWithHash ds.size (fun i=>ds[i]?.map (·.hash)) hh).filterMap fun i=>ds[i]?.map (·.key)).length>=2 then unsupported "dict.find:order-among-keys-of-one-hash"
   let mut hit:Option Nat:=none
   for i in placesWithHash ds.size (fun i=>ds[i]?.map (·.hash)) hh do
    if let some e:=ds[i]? then
     if e.hash == hh then
      let before <- dictEpoch d (keyPart key)
      let same <- eqBool e.key key
      if (<- dictEpoch d (keyPart key)) != before then unsupported "dict.changed-during-lookup"
      if same then
       if hit.isSome then unsupported "dict.find:order-among-keys-of-one-hash"
       rule "dict.find.hit"
       if ((placesWithHash ds.size (fun i=>ds[i]?.map (·.hash)) hh).filterMap fun i=>ds[i]?.map (·.key)).length<2 then return some i
       hit:=some i
      else
       rule "dict.find.same-hash-other-key"
       if tells && !(0<=hh && hh<32) then unsupported "dict.find:asked-again-or-not-hangs-on-the-table"
   return hit) Q E s:=by
  skip
  have kH:=kH (ds:=ds) (hh:=hh)
  generalize ((placesWithHash ds.size (fun i=>ds[i]?.map (·.hash)) hh).filterMap fun i=>ds[i]?.map (·.key))=stored at kH|-
  refine Bn (v:=false) (fun z0 R h=>wpAny_pure h) (fun z0 R h=>h4 _ kH _ h)<|iy rfl<|wpAny_bind<|wpAny_forIn_list _ (fun rest b s'=>s'=s/\ ∃ hit,b=(none,hit)/\At ds hh p rest hit) _ ?_ ?_ _ _ ⟨rfl,none,rfl, .start⟩
  .rintro x rest b s' ⟨rfl,hit,rfl,a⟩
   have a:=a.step hy
   have dX:=a.1
   simp only [Array.getElem?_eq_getElem dX]
   refine tS fun Q' hq=>kQ _ (fun yD=>bD yD<|wpAny_bind<|wpAny_dictEpoch ho hd<|wpAny_bind<|h3 x dX _<|wpAny_bind<|wpAny_dictEpoch ho hd<|az (xg _)<|kE (p x) (fun hp=>bD hp ?_) (fun hp=>iy hp ?_)) (fun yD=>az yD<|wpAny_pure<|hq _ _ ⟨rfl,_,rfl,a.2.1 ?_⟩)
   .have a:=a.2.2 hp
    rcases a.1 with e | ⟨j,Sx,hj,pj⟩
    .refine iy (by rw [e];rfl)<|wpAny_bind<|wpAny_rule<|kQ _ (fun q=>bD q<|wpAny_pure<|hq _ _<|wpAny_pure (uy x dX hp)) (fun q=>az q<|wpAny_pure<|hq _ _ ⟨rfl,_,rfl,a.2 e⟩)
    .exact absurd (h2 j x hj dX pj hp) (by exact J0 Sx)
   .first
     | exact wpAny_bind<|wpAny_rule<|iy rfl<|wpAny_pure<|hq _ _ ⟨rfl,_,rfl,a.2.1 hp⟩
     | exact wpAny_bind<|wpAny_rule<|wpAny_bind<|wpAny_pure<|wpAny_pure<|hq _ _ ⟨rfl,_,rfl,a.2.1 hp⟩
     | exact wpAny_bind<|wpAny_rule<|iy rfl<|wpAny_bind<|wpAny_pure<|wpAny_pure<|hq _ _ ⟨rfl,_,rfl,a.2.1 hp⟩
   .cases hp:p x with
    | false=>rfl
    | true=>rw [h1 x dX hp] at yD;simp at yD
  .rintro b s' ⟨rfl,hit,rfl,a⟩
   cases hit with
   | none=>exact wpAny_pure (yC (a.fin hy))
   | some j=>exact wpAny_pure (uy j a.got.1 a.got.2)
 have fork: ∀ (P:Sem (Option Nat)),(wpAny (model prog w) A P Q E s)->wpAny (model prog w) A (if ((key::(placesWithHash ds.size (fun i=>ds[i]?.map (·.hash)) hh).filterMap fun i=>ds[i]?.map (·.key)).all carriedByValue)=true then dictWalkPlain d key hh ds (placesWithHash ds.size (fun i=>ds[i]?.map (·.hash)) hh) else P) Q E s:=fun P hP=>kQ _ (fun q=>bD q plain) (fun q=>az q hP)
 unfold dictFind
 try with_reducible refine wpAny_holding ?_
 refine wpAny_bind (wpAny_dictEntries ho hd ?_)
 skip
 have both: ∀ (f:Addr->Sem (Option Nat)) (k:Value->Sem (Option Nat)),(∀ a,key= .ref a->wpAny (model prog w) A (f a) Q E s)->wpAny (model prog w) A (k key) Q E s->wpAny (model prog w) A (carriedByValue.match_1 (fun z0=>Sem (Option Nat)) key f k) Q E s:=fun f k=>HH (C:=fun R=>wpAny (model prog w) A R Q E s)
 refine HG (C:=fun R=>wpAny (model prog w) A R Q E s) (fun x t hk=> ?_) ?_
 .by_cases yE:(ds.all fun e=>isExactStrKey e.key)=true
  .refine bD yE ?_
   have HI: ∀ j (hj:j<ds.size),ds[j].key.isStr x=p j:=h6 x t hk yE
   unfold foundByValue
   cases hf:ds.findIdx? (fun e=>e.key.isStr x) with
   | none=>
    refine wpAny_pure (yC fun j hj=> ?_)
    rw [<- HI j hj]
    have:=Array.findIdx?_eq_none_iff.mp hf ds[j] (Array.getElem_mem hj)
    simpa using this
   | some i=>
    obtain ⟨dX,hi,_⟩:=Array.findIdx?_eq_some_iff_getElem.mp hf
    have hp:p i=true:=(((HI i dX).symm)▸hi)
    simp only [Array.getElem?_eq_getElem dX]
    refine wpAny_bind (wpAny_dictEpoch ho hd (wpAny_bind (h3 i dX _ (wpAny_bind (wpAny_dictEpoch ho hd ?_)))))
    skip
    rw [if_neg (by simp),hp]
    exact wpAny_bind (wpAny_rule (wpAny_pure (uy i dX hp)))
  .refine az yE ?_
   exact fork _ (both _ _ (fun a hk=>((if_neg (h5 a hk))▸full)) full)
 .exact fork _ (both _ _ (fun a hk=>((if_neg (h5 a hk))▸full)) full)
end
noncomputable def d0 (es:List (Int×V)) (k:Int):Option V:=(es.find? fun e=>decide (cl e.1=cl k)).map (·.2)
noncomputable def dput (es:List (Int×V)) (k:Int) (x:V):List (Int×V):=if es.any (fun e=>decide (cl e.1=cl k)) then es.map (fun e=>if cl e.1=cl k then (e.1,x) else e) else es++[(k,x)]
noncomputable def vN (es:List (Int×V)) (k:Int):List (Int×V):=es.filter fun e=>decide (cl e.1≠cl k)
section
variable {P:Params} {h:Heap}
theorem pf: ∀ {es:List (Int×V)} {ds:List DictEntry},ER P h es ds->ds.length=es.length:=by
 intro L9
 induction L9 with
 | nil=>
  rintro _ e
  cases e;rfl
 | cons _ _ ih=>
  rintro _ ⟨_,_,_,q,_,_,hr⟩
  subst q;simp [ih hr]
theorem uz: ∀ {es:List (Int×V)} {ds:List DictEntry},ER P h es ds-> ∀ {i:Nat} {e:Int×V},es[i]? =some e-> ∃ key v,ds[i]? =some ⟨hV P (cd e.1),key,v⟩/\VR h (cd e.1) key/\VR h e.2 v:=by
 intro L9
 induction L9 with
 | nil=>
  rintro _ _ _ _ q
  simp at q
 | cons e es ih=>
  rintro _ ⟨key,u,r,q,hk,hv,hr⟩ i e' z
  subst q
  cases i with
  | zero=>simp only [List.getElem?_cons_zero,Option.some.injEq] at z|-;subst z;exact ⟨key,u,rfl,hk,hv⟩
  | succ j=>simp only [List.getElem?_cons_succ] at z|-;exact ih hr z
theorem Ei {x:V} {v:Value} (hx:VR h x v): ∀ {es:List (Int×V)} {ds:List DictEntry},ER P h es ds-> ∀ {i:Nat} {k:Int},(es.map fun e=>cl e.1).Nodup->es.findIdx? (fun e=>decide (cl e.1=cl k))=some i->
  ER P h (es.map fun e=>if cl e.1=cl k then (e.1,x) else e) (ds.modify i fun e=>{ e with val:=v }):=by
 intro L9
 induction L9 with
 | nil=>
  rintro _ _ _ _ _ q
  simp at q
 | cons e es ih=>
  rintro _ ⟨key,u,r,q,hk,hv,hr⟩ i k nd z
  subst q
  rw [List.map_cons,List.nodup_cons] at nd
  rw [List.findIdx?_cons] at z
  rw [List.map_cons]
  by_cases c:cl e.1=cl k
  .rw [decide_eq_true c,if_pos rfl] at z
   cases z
   rw [if_pos c]
   refine ⟨key,v,r,by rfl,hk,hx, ?_⟩
   have:es.map (fun e=>if cl e.1=cl k then (e.1,x) else e)=es:=by
    conv=>rhs;rw [<- List.map_id es]
    exact List.map_congr_left fun e' Nz=>if_neg fun q=>nd.1 (List.mem_map.mpr ⟨e',Nz,q.trans c.symm⟩)
   rw [this];exact hr
  .rw [decide_eq_false c,if_neg Bool.false_ne_true,Option.map_eq_some_iff] at z
   obtain ⟨j,hj,rfl⟩:=z
   rw [if_neg c]
   exact ⟨key,u,_,by rfl,hk,hv,ih hr nd.2 hj⟩
theorem Ej {k:Int} {key:Value} {x:V} {v:Value} (hk:VR h (cd k) key) (hx:VR h x v): ∀ {es:List (Int×V)} {ds:List DictEntry},ER P h es ds->ER P h (es++[(k,x)]) (ds++[⟨hV P (cd k),key,v⟩]):=by
 intro L9
 induction L9 with
 | nil=>
  rintro _ e
  cases e;exact ⟨key,v,[],rfl,hk,hx,rfl⟩
 | cons e es ih=>
  rintro _ ⟨Bo,u,r,q,F5,hv,hr⟩
  subst q;exact ⟨Bo,u,_,rfl,F5,hv,ih hr⟩
theorem yF: ∀ {es:List (Int×V)} {ds:List DictEntry},ER P h es ds-> ∀ {i:Nat} {k:Int},(es.map fun e=>cl e.1).Nodup->es.findIdx? (fun e=>decide (cl e.1=cl k))=some i->ER P h (vN es k) (ds.eraseIdx i)
 | [],_,_,_,_,_,q=>by simp at q
 | e::es,_,⟨key,u,r,q,hk,hv,hr⟩,i,k,nd,z=>by
  subst q
  rw [List.map_cons,List.nodup_cons] at nd
  rw [List.findIdx?_cons] at z
  delta vN
  rw [List.filter_cons]
  by_cases c:cl e.1=cl k
  .rw [decide_eq_true c,if_pos rfl] at z
   cases z
   rw [if_neg (by simp [c])]
   have:es.filter (fun e=>decide (cl e.1≠cl k))=es:=List.filter_eq_self.mpr fun e' Nz=>decide_eq_true fun q=>nd.1 (List.mem_map.mpr ⟨e',Nz,q.trans c.symm⟩)
   rw [this];exact hr
  .rw [decide_eq_false c,if_neg Bool.false_ne_true,Option.map_eq_some_iff] at z
   obtain ⟨j,hj,rfl⟩:=z
   rw [if_pos (by simp [c])]
   exact ⟨key,u,_,by rfl,hk,hv,yF hr nd.2 hj⟩
end
theorem fH {es:List (Int×V)} {k:Int} {i:Nat} (q:es.findIdx? (fun e=>decide (cl e.1=cl k))=some i): ∃ e,es[i]? =some e/\cl e.1=cl k/\d0 es k=some e.2:=by
 obtain ⟨dX,hp,hb⟩:=List.findIdx?_eq_some_iff_getElem.mp q
 refine ⟨es[i],List.getElem?_eq_getElem dX,of_decide_eq_true hp, ?_⟩
 delta d0
 have:es.find? (fun e=>decide (cl e.1=cl k))=some es[i]:=by
  rw [List.find?_eq_some_iff_getElem]
  exact ⟨hp,i,dX,rfl,fun j hj=>by simpa using hb j hj⟩
 rw [this];rfl
theorem fJ {es:List (Int×V)} {k:Int} (q:es.findIdx? (fun e=>decide (cl e.1=cl k))=none):d0 es k=none/\es.any (fun e=>decide (cl e.1=cl k))=false:=by
 rw [List.findIdx?_eq_none_iff] at q
 refine ⟨?_, ?_⟩
 .delta d0
  rw [List.find?_eq_none.mpr fun e he=>by rw [q e he];exact Bool.false_ne_true];rfl
 .rw [List.any_eq_false];intro e he;rw [q e he];exact Bool.false_ne_true
section
variable {prog:Program} {w:World} {A:Around} {E:PE} {s:Shared}
theorem Bp {k:Int} {key:Value} {stored:List Value} {Q:rP} (hk:VR s.heap (cd k) key) (kH: ∀ v∈stored, ∃ i,VR s.heap (cd i) v) (h:Q false s):wpAny (model prog w) A (tableMayTell key stored) Q E s:=by
 delta tableMayTell
 split
 .exact wpAny_pure h
 .refine wpAny_bind (kK 8 _ _ s _ (aV k) (dg k) hk ?_)
  simp only [Bool.not_true,Bool.false_eq_true,if_false]
  refine wpAny_bind ?_
  refine wpAny_forIn_list _ (fun rest r s'=>s'=s/\r=(none,())/\ ∀ v∈rest, ∃ i,VR s.heap (cd i) v) _ ?_ ?_ _ _ ⟨rfl,rfl,kH⟩
  .rintro x rest r s' ⟨rfl,rfl,hr⟩
   obtain ⟨i,hi⟩:=hr x List.mem_cons_self
   refine wpAny_bind (kK 8 _ _ _ _ (aV i) (dg i) hi ?_)
   simp only [Bool.not_true,Bool.false_eq_true,if_false]
   exact wpAny_pure ⟨rfl,rfl,fun v hv=>hr v (List.mem_cons_of_mem _ hv)⟩
  .rintro r s' ⟨rfl,rfl,_⟩
   exact wpAny_pure h
theorem uA {h:Heap} {x:V} {y:Str} {t:Tok} (d:dat x=true) (r:VR h x (.str y t)):ck x= .str y:=(VR.inj x (.str y) _ d (by rfl) r (VR.da.mpr ⟨t,rfl⟩)).trans (oE y)
set_option tactic.hygienic true in
theorem iQ {d:Addr} {o:Obj} {ds:Array DictEntry} {ep:Nat} {es:List (Int×V)} {k:Int} {key:Value} {Q:Option Nat->Shared->Prop} (hu:A.units+9<cLine) (ho:s.heap.get? d=some o) (hd:o.data= .dict ds ep)
  (er:ER w.params s.heap es ds.toList) (nd:(es.map fun e=>cl e.1).Nodup) (hk:VR s.heap (cd k) key) (h:Q (es.findIdx? fun e=>decide (cl e.1=cl k)) s):wpAny (model prog w) A (dictFind d key (hV w.params (cd k))) Q E s:=by
 have sz:ds.size=es.length:=by have:=pf er;simpa using this
 have dt: ∀ j (hj:j<ds.size), ∃ e,es[j]? =some e/\ds[j].hash=hV w.params (cd e.1)/\VR s.heap (cd e.1) ds[j].key:=fun j hj=>by
  have pV:j<es.length:=by exact Gl sz hj
  obtain ⟨Bo,v,e1,e2,_⟩:=uz er (List.getElem?_eq_getElem pV)
  rw [Array.getElem?_toList,Array.getElem?_eq_getElem hj] at e1
  refine ⟨es[j],List.getElem?_eq_getElem pV, ?_, ?_⟩
  .rw [Option.some.inj e1]
  .rw [Option.some.inj e1];exact e2
 refine vM ho hd (fun j=>match es[j]? with | some e=>decide (cl e.1=cl k) | none=>false) (fun j hj q=> ?_) (fun i j hi hj p q=> ?_) (fun j hj Q q=> ?_) (fun stored kH Q q=> ?_) (fun a e=> ?_) (fun x t e gM j hj=> ?_) (fun hn=> ?_) (fun j hj q=> ?_)
 .obtain ⟨e,e1,e2,e3⟩:=dt j hj
  rw [e1] at q
  rw [e2]
  exact tY _ (aV _) (aV _) (by rw [f9];exact q)
 .obtain ⟨e,e1,_⟩:=dt i hi
  obtain ⟨e',Jx,_⟩:=dt j hj
  rw [e1] at p
  rw [Jx] at q
  have p':=of_decide_eq_true p
  have q':=of_decide_eq_true q
  have eB:(es.map fun e=>cl e.1)[i]? =some (cl k):=by rw [List.getElem?_map,e1];exact congrArg some p'
  have pV:(es.map fun e=>cl e.1)[j]? =some (cl k):=by rw [List.getElem?_map,Jx];exact congrArg some q'
  exact (List.getElem?_inj (List.getElem?_eq_some_iff.mp eB).1 nd).mp (eB.trans pV.symm)
 .obtain ⟨e,e1,e2,e3⟩:=dt j hj
  rw [e1] at q
  dsimp only at q
  rw [<- f9] at q
  exact jh 8 A s _ _ _ _ (dg _) (aV _) (aV _) (by exact Gm hu) e3 hk prog w E Q q
 .refine Bp hk (fun v hv=> ?_) q
  obtain ⟨j,hj,rfl⟩:=kH v hv
  obtain ⟨e,_,_,e3⟩:=dt j hj
  exact ⟨_,e3⟩
 .subst e
  rw [<- Array.any_toList,List.any_eq_true]
  rintro ⟨e,mZ,hc⟩
  obtain ⟨j,hj,rfl⟩:=Array.mem_iff_getElem.mp (Array.mem_toList_iff.mp mZ)
  obtain ⟨e,_,e2,e3⟩:=dt j hj
  simp only [Bool.and_eq_true,beq_iff_eq,bne_iff_ne,ne_eq] at hc
  rw [hc.1] at e3
  exact hc.2 (by rw [e2, <- qb,VR.inj _ _ _ (aV _) (aV _) e3 hk,qb])
 .subst e
  obtain ⟨e,e1,e2,e3⟩:=dt j hj
  have ek:=uA (aV k) hk
  rw [e1]
  dsimp only
  rw [<- f9,Bool.eq_iff_iff,k6 _ _ (aV _) (aV _),ek]
  have hex:isExactStrKey ds[j].key=true:=by
   rw [<- Array.all_toList,List.all_eq_true] at gM
   exact gM _ (Array.mem_toList_iff.mpr (Array.getElem_mem hj))
  generalize ds[j].key=kj at hex e3
  cases kj <;> first | (cases hex;done) | skip
  rename_i y t'
  rw [uA (aV _) e3,V.str.injEq]
  exact beq_iff_eq
 .have:(es.findIdx? fun e=>decide (cl e.1=cl k))=none:=by
   rw [List.findIdx?_eq_none_iff]
   intro e he
   obtain ⟨j,hj⟩:=List.mem_iff_getElem?.mp he
   have:=hn j (by rw [sz];exact (List.getElem?_eq_some_iff.mp hj).1)
   rw [hj] at this
   exact this
  rw [this] at h;exact h
 .obtain ⟨e,e1,e2,e3⟩:=dt j hj
  rw [e1] at q
  have:(es.findIdx? fun e=>decide (cl e.1=cl k))=some j:=by
   rw [List.findIdx?_eq_some_iff_getElem]
   obtain ⟨dX,Jx⟩:=List.getElem?_eq_some_iff.mp e1
   refine ⟨dX,by rw [Jx];exact q,fun i Sy=> ?_⟩
   intro p
   have p':=of_decide_eq_true p
   have q':=of_decide_eq_true q
   have eB:(es.map fun e=>cl e.1)[i]? =some (cl k):=by rw [List.getElem?_map,List.getElem?_eq_getElem (by exact J5 sz hj Sy)];exact congrArg some p'
   have pV:(es.map fun e=>cl e.1)[j]? =some (cl k):=by rw [List.getElem?_map,e1];exact congrArg some q'
   have:=(List.getElem?_inj (List.getElem?_eq_some_iff.mp eB).1 nd).mp (eB.trans pV.symm)
   omega
  rw [this] at h;exact h
theorem jR {d:Addr} {es:List (Int×V)} {ep:Nat} {k:Int} {key:Value} {Q:PO} (hu:A.units+9<cLine) (D:cE w.params s.heap d es ep) (hk:VR s.heap (cd k) key)
  (h: ∀ tk,match d0 es k with | some x=> ∀ v,VR s.heap x v->Q (some v) { s with toks:=tk } | none=>Q none { s with toks:=tk }):wpAny (model prog w) A (dictGet d key) Q E s:=by
 obtain ⟨o,ds,ho,hc,hd,er,nd⟩:=D
 delta dictGet
 try with_reducible refine wpAny_holding ?_
 refine wpAny_bind (fU _ _ A s _ (aV k) hk (by have:=dg k;exact Ds this hu) fun tk=>wpAny_bind (iQ (s:={ s with toks:=tk }) hu ho hd er nd hk ?_))
 have h:=h tk
 cases q:es.findIdx? fun e=>decide (cl e.1=cl k) with
 | none=>rw [(fJ q).1] at h;exact wpAny_pure h
 | some i=>
  obtain ⟨e,e1,_,e2⟩:=fH q
  rw [e2] at h
  obtain ⟨Bo,v',e3,_,Qa⟩:=uz er e1
  refine wpAny_bind (wpAny_dictEntries (s:={ s with toks:=tk }) ho hd (wpAny_pure ?_))
  rw [Array.getElem?_toList] at e3
  rw [e3]
  exact h v' Qa
theorem ph {d:Addr} {h h':Heap} {o:Obj} (e:h.get? d=some o) (hc:ig o.cls=false) (hs:Heap.SameBut d h h') (dc:lu h h'):dY h h':=⟨fun b o' i eb=>(hs.2 b fun q=>by subst q;obtain rfl:=oi e eb;have:=i.cls;exact nomatch (hc.symm.trans this)).trans eb,dc⟩
theorem lR {d:Addr} {h h':Heap} {o:Obj} {ds:Array DictEntry} {ep:Nat} (e:h'.get? d=some o) (hd:o.data= .dict ds ep) (hs:Heap.SameBut d h h'):lu h h':= .of fun b o' es dh eb q=>by
 by_cases z:b=d
 .subst z;exact ⟨o,_,_,e,hd⟩
 .exact ⟨o',es,dh,(hs.2 b z).trans eb,q⟩
set_option tactic.hygienic true in
theorem yG {es:List (Int×V)} {k:Int} {x:V} (nd:(es.map fun e=>cl e.1).Nodup):((dput es k x).map fun e=>cl e.1).Nodup:=by
 delta dput
 split
 .rw [List.map_map]
  have:((fun e:Int×V=>cl e.1) ∘ fun e=>if cl e.1=cl k then (e.1,x) else e)=fun e=>cl e.1:=funext fun e=>by
   show cl (if cl e.1=cl k then (e.1,x) else e).1=_
   split <;> rfl
  rw [this];exact nd
 .rename_i h
  rw [List.map_append,List.nodup_append]
  refine ⟨nd,by simp,fun a ha b hb=> ?_⟩
  simp at hb
  subst hb
  intro q
  subst q
  obtain ⟨e,he,q⟩:=List.mem_map.mp ha
  exact h (List.any_eq_true.mpr ⟨e,he,decide_eq_true q⟩)
theorem vO {d:Addr} {es:List (Int×V)} {ep:Nat} {k:Int} {key:Value} {x:V} {v:Value} {Q:PU} (hu:A.units+9<cLine) (D:cE w.params s.heap d es ep) (hk:VR s.heap (cd k) key) (hx:VR s.heap x v) (hz:es.length<=sizeLine)
  (h: ∀ tk h' dh,cE w.params h' d (dput es k x) dh->Heap.SameBut d s.heap h'->Q () { s with heap:=h',toks:=tk }):wpAny (model prog w) A (dictSet d key v) Q E s:=by
 obtain ⟨o,ds,ho,hc,hd,er,nd⟩:=D
 have NA:ds.size<=sizeLine:=by have:=pf er;simp at this;exact Gn this hz
 have Jy:ig o.cls=false:=by rw [hc.1];rfl
 delta dictSet
 try with_reducible refine wpAny_holding ?_
 refine wpAny_bind (fU _ _ A s _ (aV k) hk (by have:=dg k;exact Ds this hu) fun tk=> ?_)
 delta dictSetHashed
 try with_reducible refine wpAny_holding ?_
 refine wpAny_bind (iQ (s:={ s with toks:=tk }) hu ho hd er nd hk ?_)
 cases q:es.findIdx? fun e=>decide (cl e.1=cl k) with
 | some i=>
  obtain ⟨e,e1,ec,_⟩:=fH q
  have eg:=Heap.get?_update_self (h:=s.heap) (a:=d) (·.mapDict (·.modify i fun e=>{ e with val:=v })) ho (Obj.isFreed_of_dict (Obj.data_mapDict hd _))
  have hs:=Heap.SameBut.update s.heap d (·.mapDict (·.modify i fun e=>{ e with val:=v }))
  have mn:=ph ho Jy hs (lR eg (Obj.data_mapDict hd _) hs)
  refine wpAny_bind (wpAny_rule (wpAny_bind (wpAny_updateDict (s:={ s with toks:=tk }) ho hd (wpAny_point (h tk _ ep ⟨_,_,eg,hc.mapDict _,Obj.data_mapDict hd _, ?_,yG nd⟩ hs)))))
  delta dput
  rw [if_pos (List.any_eq_true.mpr ⟨e,List.mem_of_getElem? e1,decide_eq_true ec⟩)]
  have:=ER.mono mn _ _ (Ei hx er nd q)
  obtain ⟨l⟩:=ds
  simpa using this
 | none=>
  have eg:=Heap.get?_update_self (h:=s.heap) (a:=d) (·.mapDictKeys (·.push ⟨hV w.params (cd k),key,v⟩)) ho (Obj.isFreed_of_dict (Obj.data_mapDictKeys hd _))
  have hs:=Heap.SameBut.update s.heap d (·.mapDictKeys (·.push ⟨hV w.params (cd k),key,v⟩))
  have mn:=ph ho Jy hs (lR eg (Obj.data_mapDictKeys hd _) hs)
  refine wpAny_bind (wpAny_rule (wpAny_updateDictKeys (hz:=NA) (s:={ s with toks:=tk }) ho hd (h tk _ (ep+1) ⟨_,_,eg,hc.mapDictKeys _,Obj.data_mapDictKeys hd _, ?_,yG nd⟩ hs)))
  delta dput
  rw [if_neg (by rw [(fJ q).2];exact Bool.false_ne_true)]
  have:=ER.mono mn _ _ (Ej hk hx er)
  obtain ⟨l⟩:=ds
  simpa using this
theorem vP {d:Addr} {es:List (Int×V)} {ep:Nat} {k:Int} {key:Value} {x:V} {Q:Option DictEntry->Shared->Prop} (hu:A.units+9<cLine) (D:cE w.params s.heap d es ep) (hk:VR s.heap (cd k) key) (hz:es.length<=sizeLine) (hx:d0 es k=some x)
  (h: ∀ en tk h' dh,cE w.params h' d (vN es k) dh->Heap.SameBut d s.heap h'->Q (some en) { s with heap:=h',toks:=tk }):wpAny (model prog w) A (Builtin.Dict.takeOut d key) Q E s:=by
 obtain ⟨o,ds,ho,hc,hd,er,nd⟩:=D
 have NA:ds.size<=sizeLine:=by have:=pf er;simp at this;exact Gn this hz
 have Jy:ig o.cls=false:=by rw [hc.1];rfl
 delta Builtin.Dict.takeOut
 try with_reducible refine wpAny_holding ?_
 refine wpAny_bind (fU _ _ A s _ (aV k) hk (by have:=dg k;exact Ds this hu) fun tk=> ?_)
 refine wpAny_bind (iQ (s:={ s with toks:=tk }) hu ho hd er nd hk ?_)
 cases q:es.findIdx? fun e=>decide (cl e.1=cl k) with
 | none=>exact on ((fJ q).1) hx
 | some i=>
  obtain ⟨e,e1,ec,_⟩:=fH q
  obtain ⟨Bo,v',e3,_,Qa⟩:=uz er e1
  rw [Array.getElem?_toList] at e3
  refine wpAny_bind (wpAny_dictEntries (s:={ s with toks:=tk }) ho hd ?_)
  rw [e3]
  have eg:=Heap.get?_update_self (h:=s.heap) (a:=d) (·.mapDictKeys (·.eraseIdxIfInBounds i)) ho (Obj.isFreed_of_dict (Obj.data_mapDictKeys hd _))
  have hs:=Heap.SameBut.update s.heap d (·.mapDictKeys (·.eraseIdxIfInBounds i))
  have mn:=ph ho Jy hs (lR eg (Obj.data_mapDictKeys hd _) hs)
  refine wpAny_bind (wpAny_updateDictKeys (hz:=NA) (s:={ s with toks:=tk }) ho hd (wpAny_pure (h _ tk _ (ep+1) ⟨_,_,eg,hc.mapDictKeys _,Obj.data_mapDictKeys hd _, ?_, ?_⟩ hs)))
  .have:=ER.mono mn _ _ (yF er nd q)
   obtain ⟨l⟩:=ds
   simpa using this
  .exact (List.filter_sublist.map _).nodup nd
end
section
variable {P:Params} {h:Heap}
theorem pq: ∀ {us:List Int} {es:List (Int×Value)},SR P h us es->es.length=us.length:=by
 intro L9
 induction L9 with
 | nil=>
  rintro _ e
  cases e;rfl
 | cons _ _ ih=>
  rintro _ ⟨_,_,q,_,hr⟩
  subst q;simp [ih hr]
theorem uB: ∀ {us:List Int} {es:List (Int×Value)},SR P h us es-> ∀ {i:Nat} {u:Int},us[i]? =some u-> ∃ v,es[i]? =some (hV P (cd u),v)/\VR h (cd u) v:=by
 intro L9
 induction L9 with
 | nil=>
  rintro _ _ _ _ q
  simp at q
 | cons u us ih=>
  rintro _ ⟨v,r,q,hv,hr⟩ i u' z
  subst q
  cases i with
  | zero=>simp only [List.getElem?_cons_zero,Option.some.injEq] at z|-;subst z;exact ⟨v,rfl,hv⟩
  | succ j=>simp only [List.getElem?_cons_succ] at z|-;exact ih hr z
theorem Ek {us:List Int} {es:List (Int×Value)} (r:SR P h us es) {e:Int×Value} (he:e∈es): ∃ u∈us,e.1=hV P (cd u)/\VR h (cd u) e.2:=by
 obtain ⟨i,hi⟩:=List.mem_iff_getElem?.mp he
 have hl:i<us.length:=(((pq r).symm)▸(List.getElem?_eq_some_iff.mp hi).1)
 obtain ⟨v,e1,e2⟩:=uB r (List.getElem?_eq_getElem hl)
 rw [hi] at e1
 cases Option.some.inj e1
 exact ⟨_,List.getElem_mem hl,rfl,e2⟩
theorem uC {es km:List (Int×Value)} (p:es.Perm km): ∀ {us:List Int},SR P h us es-> ∃ oB,us.Perm oB/\SR P h oB km:=by
 induction p with
 | nil=>intro us r;exact ⟨us, .rfl,r⟩
 | cons x _ ih=>
  intro us r
  match us,r with
  | [],e=>cases e
  | u::us,⟨v,r,q,hv,hr⟩=>
   cases q
   obtain ⟨oB,p',r'⟩:=ih hr
   exact ⟨u::oB,p'.cons _,v,_,rfl,hv,r'⟩
 | swap x y l=>
  intro us r
  match us,r with
  | [],e=>cases e
  | [u],⟨v,r,q,hv,hr⟩=>cases q;cases hr
  | u::u'::us,⟨v,r,q,hv,v',r',q',Jv,hr⟩=>
   cases q
   cases q'
   exact ⟨u'::u::us, .swap ..,v',_,rfl,Jv,v,_,rfl,hv,hr⟩
 | trans _ _ SA NB=>
  intro us r
  obtain ⟨Ur,p1,r1⟩:=SA r
  obtain ⟨NC,p2,r2⟩:=NB r1
  exact ⟨NC,p1.trans p2,r2⟩
end
section
variable {prog:Program} {w:World} {A:Around} {E:PE} {s:Shared}
theorem ND {u k:Int} {v x:Value} {Q:rP} (hu:A.units+9<cLine) (r:VR s.heap (cd u) v) (hk:VR s.heap (cd k) x) (h:Q (decide (cl u=cl k)) s):wpAny (model prog w) A (eqBool v x) Q E s:=by
 rw [<- f9] at h
 exact jh 8 A s _ _ _ _ (dg _) (aV _) (aV _) (by exact Gm hu) r hk prog w E Q h
theorem El {u:Int} {v:Value} {Q:rP} (r:VR s.heap (cd u) v) (h:Q true s):wpAny (model prog w) A (isSame v v) Q E s:=by
 have d:=aV u
 have p:=GJ u
 generalize cd u=x at r d p
 cases x with
 | none=>rw [VR.bJ] at r;subst r;exact wpAny_isSame_plain rfl h
 | bool b=>rw [VR.cz] at r;subst r;exact wpAny_isSame_plain (by cases b <;> rfl) (by rw [beq_self_eq_true];exact h)
 | int=>cases p
 | str=>cases p
 | cD n=>
  rw [VR.dE] at r;obtain ⟨t,rfl⟩:=r
  show wpAny _ _ (if (n == n && smallInt n)=true then isSame.cachedInt (t+1) (t+1) else isSame.created (n == n) (t+1) (t+1)) Q E s
  split
  .skip
   refine az ((by simp)) ?_
   exact wpAny_bind (wpAny_rule (wpAny_pure h))
  .delta isSame.created
   rw [if_neg (by simp),if_pos (beq_self_eq_true _)]
   exact wpAny_pure h
 | cS n=>
  rw [VR.dF] at r;obtain ⟨t,rfl⟩:=r
  show wpAny _ _ (isSame.created (n == n) (t+1) (t+1)) Q E s
  delta isSame.created
  rw [if_neg (by simp),if_pos (beq_self_eq_true _)]
  exact wpAny_pure h
 | tup xs=>replace r:=VR.cM r;obtain ⟨a,vs,ep,rfl,_⟩:=r;exact wpAny_isSame_ref_self h
 | _=>cases d
theorem yH {k:Int} {x:Value} {stored:List Value} {Q:rP} (hk:VR s.heap (cd k) x) (kH: ∀ v∈stored, ∃ i,VR s.heap (cd i) v) (h:Q false s):wpAny (model prog w) A (searchCouldBeSeen x stored) Q E s:=by
 refine wpAny_bind ?_
 refine wpAny_forIn_list _ (fun rest r s'=>s'=s/\r=(none,())/\ ∀ v∈rest, ∃ i,VR s.heap (cd i) v) _ ?_ ?_ _ _ ⟨rfl,rfl,kH⟩
 .rintro y rest r s' ⟨rfl,rfl,hr⟩
  obtain ⟨i,hi⟩:=hr y List.mem_cons_self
  have next: ∀ v∈rest, ∃ i,VR s'.heap (cd i) v:=fun v hv=>hr v (List.mem_cons_of_mem _ hv)
  skip
  have go: ∀ (c:Bool) (K:ForInStep (Option Bool×Unit)->Shared->Prop),K (.yield (none,())) s'->wpAny (model prog w) A (if c=true then pure (ForInStep.yield (none,())) else do
    if !(<- eqIsQuiet 8 x) then return ForInStep.done (some true,())
    if !(<- eqIsQuiet 8 y) then return ForInStep.done (some true,())
    if <- ofAClassStatement 8 x then return ForInStep.done (some true,())
    if <- ofAClassStatement 8 y then return ForInStep.done (some true,())
    return ForInStep.yield (none,())) K E s':=fun c K q=>by
   cases c with
   | true=>rw [if_pos rfl];exact wpAny_pure q
   | false=>
    refine az Bool.false_ne_true ?_
    refine wpAny_bind (kK 8 _ _ _ _ (aV k) (dg k) hk ?_)
    simp only [Bool.not_true,Bool.false_eq_true,if_false]
    refine wpAny_bind (kK 8 _ _ _ _ (aV i) (dg i) hi ?_)
    simp only [Bool.not_true,Bool.false_eq_true,if_false]
    refine wpAny_bind (nW 8 _ _ _ _ (aV k) (dg k) hk ?_)
    refine az Bool.false_ne_true ?_
    refine wpAny_bind (nW 8 _ _ _ _ (aV i) (dg i) hi ?_)
    refine az Bool.false_ne_true ?_
    exact wpAny_pure q
  exact go _ _ ⟨rfl,rfl,next⟩
 .rintro r s' ⟨rfl,rfl,_⟩
  exact wpAny_pure h
end
section
variable {prog:Program} {w:World} {A:Around} {E:PE} {s:Shared}
theorem CT {A:Around}: ∀ (n:Nat) (x:V) (v:Value) (s:Shared) (Q:rP),dat x=true->VR s.heap x v->(∀ b,Q b s)->wpAny (model prog w) A (hashByValue n v) Q E s:=by
 intro n
 induction n with
 | zero=>
  intro x v s Q d r h
  by_cases z: ∃ xs,x= .tup xs
  .obtain ⟨xs,rfl⟩:=z
   replace r:=VR.cM r
   obtain ⟨a,vs,ep,rfl,hg,hw⟩:=r
   exact wpAny_of_eq (by rfl) (h _)
  .have:=fj d r fun xs e=>z ⟨xs,e⟩
   cases v <;> first | (cases this;done) | exact wpAny_of_eq (by rfl) (h _)
 | succ n ih=>
  intro x v s Q d r h
  by_cases z: ∃ xs,x= .tup xs
  .obtain ⟨xs,rfl⟩:=z
   have hT:=o5 r
   replace r:=VR.cM r
   obtain ⟨a,vs,ep,rfl,hg,hw⟩:=r
   refine wpAny_bind (wpAny_specialOf hT F.slot_tuple_hash.lookup ?_)
   skip
   refine wpAny_bind (wpAny_seqItems hg rfl ?_)
   refine wpAny_bind ?_
   skip
   rw [<- Array.forIn_toList]
   have key: ∀ v∈vs, ∀ Q:Bool->Shared->Prop,(∀ b,Q b s)->wpAny (model prog w) A (hashByValue n v) Q E s:=fun v hv Q q=>by
    obtain ⟨y,h1,h2,h3,_⟩:=sJ.pa hw hv (by exact d)
    exact ih y v s Q h2 h3 q
   refine wpAny_forIn_list _ (fun rest r s'=>s'=s/\((r.1=none/\ ∀ v∈rest,v∈vs)\/False)) _ ?_ ?_ _ _ ⟨rfl, .inl ⟨rfl,fun v hv=>hv⟩⟩
   .rintro v rest r s' ⟨rfl,⟨hr,gM⟩ | c⟩
    .refine wpAny_bind (key v (gM v List.mem_cons_self) _ fun b=> ?_)
     cases b with
     | true=>
      simp only [Bool.not_true,Bool.false_eq_true,if_false]
      exact wpAny_pure ⟨rfl, .inl ⟨rfl,fun u vL=>gM u (List.mem_cons_of_mem _ vL)⟩⟩
     | false=>
      simp only [Bool.not_false,if_true]
      exact wpAny_pure (wpAny_pure (h _))
    .exact c.elim
   .rintro ⟨r1,r2⟩ s' ⟨rfl,⟨hr,_⟩ | c⟩
    .simp only at hr
     subst hr
     exact wpAny_pure (h _)
    .exact c.elim
  .have:=fj d r fun xs e=>z ⟨xs,e⟩
   cases v <;> first | (cases this;done) | exact wpAny_of_eq (by rfl) (h _)
noncomputable def sC (us:List Int) (k:Int):Option Nat:=us.findIdx? fun u=>decide (cl u=cl k)
theorem sL {a:Addr} {o:Obj} {es:Array (Int×Value)} {ep:Nat} {t:SetTable} {x:Value} {k:Int} {cF:Bool} (hu:A.units+9<cLine)
  (hk:VR s.heap (cd k) x) (ho:s.heap.get? a=some o) (hd:o.data= .set es ep t) (hf:t.fits es.size=true):
  ∀ (us:List Int) (l:List (Int×Value)) (i:Nat) {Q:ScanMet->Shared->Prop},SR w.params s.heap us l->Q (match sC us k with | some j=> .found (i+j) | none=> .absent) s->
   wpAny (model prog w) A (setScanFrom a x (hV w.params (cd k)) cF l i) Q E s:=by
 intro L9
 induction L9 with
 | nil=>
  rintro _ i Q r h
  cases r;exact wpAny_pure h
 | cons u us ih=>
  rintro _ i Q ⟨v,l,q,rv,rr⟩ h
  subst q
  skip
  delta sC at h
  rw [List.findIdx?_cons] at h
  have next:cl u≠cl k->wpAny (model prog w) A (setScanFrom a x (hV w.params (cd k)) cF l (i+1)) Q E s:=fun c=>by
   rw [decide_eq_false c,if_neg Bool.false_ne_true] at h
   refine ih l (i+1) rr ?_
   delta sC
   cases q:us.findIdx? fun u=>decide (cl u=cl k) with
   | none=>rw [q] at h;exact h
   | some j=>rw [q] at h;dsimp only [Option.map_some] at h|-;rw [Nat.add_assoc,Nat.add_comm 1 j];exact h
  by_cases hq:(hV w.params (cd u) == hV w.params (cd k))=true
  .refine bD hq ?_
   refine wpAny_bind (wpAny_setEpoch_of ho hd hf ?_)
   refine wpAny_bind (ND hu rv hk ?_)
   by_cases c:cl u=cl k
   .rw [decide_eq_true c,if_pos rfl] at h
    rw [decide_eq_true c]
    dsimp only at h
    cases cF
    .skip
     refine wpAny_bind (wpAny_setEpoch_of ho hd hf ?_)
     simp only [bne_self_eq_false,Bool.false_eq_true, ↓reduceIte]
     exact wpAny_pure h
    .simp only [Bool.and_self, ↓reduceIte]
     exact wpAny_pure h
   .rw [decide_eq_false c]
    simp only [Bool.and_false,Bool.false_eq_true, ↓reduceIte]
    refine wpAny_bind (wpAny_setEpoch_of ho hd hf ?_)
    simp only [bne_self_eq_false,Bool.false_eq_true, ↓reduceIte]
    exact next c
  .refine az hq ?_
   exact next fun c=>hq (by rw [tY w.params (aV u) (aV k) (by rw [f9];exact decide_eq_true c)];simp)
set_option tactic.hygienic true in
theorem Em {us:List Int} {l:List (Int×Value)} {P:Params} {h:Heap} {k:Int} {y:Str} (r:SR P h us l) (ek:ck (cd k)= .str y) (gM: ∀ e∈l,isExactStrKey e.2=true):l.findIdx? (fun e=>e.2.isStr y)=sC us k:=by
 induction us generalizing l with
 | nil=>cases r;rfl
 | cons u us ih=>
  obtain ⟨v,l,rfl,rv,rr⟩:=r
  delta sC
  rw [List.findIdx?_cons,List.findIdx?_cons,ih rr fun e he=>gM e (List.mem_cons_of_mem _ he)]
  have hx:=gM _ List.mem_cons_self
  have:(v.isStr y)=decide (cl u=cl k):=by
   rw [<- f9,Bool.eq_iff_iff,k6 _ _ (aV _) (aV _),ek]
   dsimp only at hx
   cases v <;> first | (cases hx;done) | skip
   rename_i z t'
   rw [uA (aV _) rv,V.str.injEq]
   exact beq_iff_eq
  show (if v.isStr y=true then _ else _)=_
  rw [this];rfl
set_option tactic.hygienic true in
theorem sM {a:Addr} {o:Obj} {es:Array (Int×Value)} {ep:Nat} {t:SetTable} {x:Value} {k:Int} {cF:Bool} {us:List Int} {Q:ScanMet->Shared->Prop} (hu:A.units+9<cLine)
  (hk:VR s.heap (cd k) x) (ho:s.heap.get? a=some o) (hd:o.data= .set es ep t) (hf:t.fits es.size=true) (r:SR w.params s.heap us es.toList)
  (h:Q (match sC us k with | some j=> .found (0+j) | none=> .absent) s):wpAny (model prog w) A (setScan a x (hV w.params (cd k)) cF es) Q E s:=by
 have old:wpAny (model prog w) A (setScanFrom a x (hV w.params (cd k)) cF es.toList 0) Q E s:=sL hu hk ho hd hf us es.toList 0 r h
 cases x <;> try exact old
 rename_i y tk
 delta setScan
 dsimp only
 split
 .rename_i gM
  have ek:=uA (aV k) hk
  rw [<- Array.all_toList,List.all_eq_true] at gM
  have e1:=Em r ek gM
  delta setScanStrs
  have NF:es.findIdx? (fun e=>e.2.isStr y)=es.toList.findIdx? (fun e=>e.2.isStr y):=by cases es;simp
  rw [NF,e1]
  cases hr:sC us k with
  | none=>rw [hr] at h;exact wpAny_pure h
  | some j=>
   rw [hr] at h
   obtain ⟨hj,SD,_⟩:=List.findIdx?_eq_some_iff_getElem.mp hr
   obtain ⟨v,e2,rv⟩:=uB r (List.getElem?_eq_getElem hj)
   rw [Array.getElem?_toList] at e2
   simp only [Nat.zero_add] at h
   dsimp only
   rw [e2]
   dsimp only
   refine wpAny_bind (wpAny_setEpoch_of ho hd hf ?_)
   refine wpAny_bind (ND hu rv hk ?_)
   rw [SD]
   cases cF
   .simp only [Bool.false_and,Bool.false_eq_true, ↓reduceIte]
    refine wpAny_bind (wpAny_setEpoch_of ho hd hf ?_)
    simp only [bne_self_eq_false,Bool.false_eq_true, ↓reduceIte]
    exact wpAny_pure h
   .simp only [Bool.and_self, ↓reduceIte]
    exact wpAny_pure h
 .exact old
end
section
variable {P:Params} {h:Heap} {T:IB} {n:Nat} {es:Array (Int×Value)} {t:SetTable} {ps:List Tb.Ent} {us:List Int}
theorem cu.yI (X:cu P h T n es t ps us):SR P h us es.toList:=(X.ti.es▸X.sr)
theorem cu.yJ (X:cu P h T n es t ps us) {k:Int} {j:Nat} (e:sC us k=some j):T (cl k)=true:=by
 obtain ⟨hj,hp,_⟩:=List.findIdx?_eq_some_iff_getElem.mp e
 exact (X.mem _).mpr (List.mem_map.mpr ⟨us[j],List.getElem_mem hj,of_decide_eq_true hp⟩)
theorem cu.yK (X:cu P h T n es t ps us) {k:Int} (e:sC us k=none):T (cl k)=false:=by
 cases q:T (cl k) with
 | false=>rfl
 | true=>
  obtain ⟨u,hu,c⟩:=List.mem_map.mp ((X.mem _).mp q)
  have:=List.findIdx?_eq_none_iff.mp e u hu
  exact Bool.noConfusion ((decide_eq_true c).symm.trans this)
theorem uD {l r:List Int} (nd:l.Nodup) (hs: ∀ x∈l,x∈r):l.length<=r.length:=nd.length_le_of_subset fun z0 h=>hs _ h
theorem cu.small (X:cu P h T n es t ps us):n<=10:=by
 have:=uD (r:=(List.range 10).map Int.ofNat) X.nd fun c hc=>by
  obtain ⟨u,_,rfl⟩:=List.mem_map.mp hc
  have:=xm u
  exact List.mem_map.mpr ⟨(cl u).toNat,List.mem_range.mpr ((Int.toNat_lt this.1).mpr this.2),Int.toNat_of_nonneg this.1⟩
 rw [List.length_map,X.len] at this
 exact this
theorem cu.uE (X:cu P h T n es t ps us):ps.length=n:=by
 have:=pq X.sr
 rw [List.length_map,X.len] at this;exact this
end
section
variable {P:Params} {h:Heap} {T:IB} {n:Nat} {es:Array (Int×Value)} {t:SetTable} {ps:List Tb.Ent} {us:List Int}
theorem cu.at (X:cu P h T n es t ps us) {i:Nat} {u:Int} (e:us[i]? =some u): ∃ v,es[i]? =some (hV P (cd u),v)/\VR h (cd u) v:=by
 obtain ⟨v,e1,e2⟩:=uB X.yI e
 rw [Array.getElem?_toList] at e1
 exact ⟨v,e1,e2⟩
theorem cu.HJ (X:cu P h T n es t ps us) {i:Nat} {q:Tb.Ent} (e:ps[i]? =some q): ∃ u,us[i]? =some u/\q.2.1=hV P (cd u):=by
 have hl:i<us.length:=by rw [X.len, <- X.uE];exact (List.getElem?_eq_some_iff.mp e).1
 obtain ⟨v,e1,e2⟩:=uB X.sr (List.getElem?_eq_getElem hl)
 rw [List.getElem?_map,e] at e1
 refine ⟨us[i],List.getElem?_eq_getElem hl, ?_⟩
 exact congrArg (·.1) (Option.some.inj e1)
noncomputable def Good (t:SetTable) (us:List Int) (hh:Int) (k:Int) (m:Nat):Prop:= ∃ i u,t.slot (Tb.st t.mask hh m).j= .live i/\us[i]? =some u/\cl u≠cl k
theorem cu.search (X:cu P h T n es t ps us) (k:Int): ∃ N,N<10*SetTable.turns t.mask/\(∀ m,m<N->Good t us (hV P (cd k)) k m)/\
  ((T (cl k)=false/\t.slot (Tb.st t.mask (hV P (cd k)) N).j= .empty/\Tb.vi t.mask (ps.map (·.1)) (hV P (cd k)) N)\/(T (cl k)=true/\ ∃ i u,t.slot (Tb.st t.mask (hV P (cd k)) N).j= .live i/\us[i]? =some u/\cl u=cl k)):=by
 obtain ⟨n0,F0⟩:=Tb.AW X.ti.two (occ:=ps.map (·.1)) (by rw [List.length_map];exact X.ti.ln) (hV P (cd k))
 have NI: ¬ Good t us (hV P (cd k)) k n0:=by
  rintro ⟨i,u,e,_⟩
  exact nomatch ((X.ti.empty F0.no).symm.trans e)
 obtain ⟨N,h1,h2,h3⟩:= @Tb.first (fun m=> ¬ Good t us (hV P (cd k)) k m) (fun z0=>Classical.propDecidable _) n0 NI
 have Az: ∀ m,m<N->Good t us (hV P (cd k)) k m:=fun m hm=>Classical.byContradiction (h3 m hm)
 have occ: ∀ m,m<N->(Tb.st t.mask (hV P (cd k)) m).j∈ps.map (·.1):=fun m hm=>Classical.byContradiction fun z=>by
  obtain ⟨i,u,e,_⟩:=Az m hm
  exact nomatch ((X.ti.empty z).symm.trans e)
 refine ⟨N,by have:=F0.lt;exact JT h1 this,Az, ?_⟩
 by_cases z:(Tb.st t.mask (hV P (cd k)) N).j∈ps.map (·.1)
 .obtain ⟨i,q,e1,e2,e3,e4⟩:=X.ti.live z
  obtain ⟨u,e5,e6⟩:=X.HJ e1
  have c:cl u=cl k:=Classical.byContradiction fun c=>h2 ⟨i,u,e3,e5,c⟩
  exact .inr ⟨(X.mem _).mpr (List.mem_map.mpr ⟨u,List.mem_of_getElem? e5,c⟩),i,u,e3,e5,c⟩
 .refine .inl ⟨?_,X.ti.empty z,⟨by have:=F0.lt;exact JT h1 this,z,occ⟩⟩
  cases q:T (cl k) with
  | false=>rfl
  | true=>
   obtain ⟨u,hu,c⟩:=List.mem_map.mp ((X.mem _).mp q)
   obtain ⟨j,hj⟩:=List.mem_iff_getElem?.mp hu
   have hl:j<ps.length:=by rw [X.uE, <- X.len];exact (List.getElem?_eq_some_iff.mp hj).1
   obtain ⟨u',e5,e6⟩:=X.HJ (List.getElem?_eq_getElem hl)
   obtain rfl:=oi hj e5
   have eh:(ps[j]).2.1=hV P (cd k):=e6.trans (tY P (aV u) (aV k) (by rw [f9];exact decide_eq_true c))
   obtain ⟨m,m1,m2,m3⟩:=X.ti.reach _ (List.getElem_mem hl)
   rw [eh] at m2 m3
   have pin:(ps[j]).1∈ps.map (·.1):=List.mem_map_of_mem (List.getElem_mem hl)
   have sl:t.slot (ps[j]).1= .live j:=Tb.nF (by rw [X.ti.pl];exact X.ti.up) (by rw [<- Array.getElem?_toList,X.ti.pl,List.getElem?_map,List.getElem?_eq_getElem hl];rfl)
   rcases Nat.lt_trichotomy m N with w | w | w
   .obtain ⟨i,v,g1,g2,g3⟩:=Az m w
    rw [m2,sl] at g1
    cases g1
    obtain rfl:=oi hj g2
    exact absurd c g3
   .subst w;rw [m2] at z;exact absurd pin z
   .exact absurd (m3 N w) z
end
section
variable {prog:Program} {w:World} {A:Around} {E:PE} {s:Shared}
theorem SE {N m M f:Nat} (a:m<=M) (b:N-m<f+1) (c:M<N):N-(M+1)<f:=by exact J6 a b c
theorem vQ {a:Addr} {o:Obj} {es:Array (Int×Value)} {ep:Nat} {t:SetTable} {x:Value} {h:Int} {cF:Bool} {f:Nat} {gz:Option SetTable.Probe} {j:Nat} {Q:SetFound->Shared->Prop} (ho:s.heap.get? a=some o) (hd:o.data= .set es ep t) (hf:t.fits es.size=true) (gw:t.gaveWay=false)
  (e:t.probe ((fun i=>(es[i]?.map (·.1)).getD 0)) h (gz.getD (t.probeStart h))=some (.empty j none)) (q:Q (.free j false) s):wpAny (model prog w) A (setSearchFrom a x h cF (f+1) gz) Q E s:=by
 refine wpAny_bind<|wpAny_setState_of ho hd hf<|iy gw ?_
 show wpAny _ _ (match t.probe (fun i=>(es[i]?.map (·.1)).getD 0) h (gz.getD (t.probeStart h)) with | some met=>_ | _=>_) _ _ _
 rw [e]
 exact wpAny_pure q
theorem vR {a:Addr} {o:Obj} {es:Array (Int×Value)} {ep:Nat} {t:SetTable} {x:Value} {h:Int} {cF:Bool} {f:Nat} {gz:Option SetTable.Probe} {j i:Nat} {nx:SetTable.Probe} {b:Bool} {v:Value} {hv:Int} {Q:SetFound->Shared->Prop} (ho:s.heap.get? a=some o) (hd:o.data= .set es ep t) (hf:t.fits es.size=true) (gw:t.gaveWay=false)
  (e:t.probe ((fun i=>(es[i]?.map (·.1)).getD 0)) h (gz.getD (t.probeStart h))=some (.candidate j i nx)) (sl:t.slot j= .live i) (ev:es[i]? =some (hv,v)) (same:t.sameMemory t.moves t.mask=some true)
  (hs: ∀ Q:rP,Q false s->wpAny (model prog w) A (searchCouldBeSeen x ((es.filter (·.1 == h)).toList.map (·.2))) Q E s) (he: ∀ Q:rP,Q b s->wpAny (model prog w) A (holding [v] (eqBool v x)) Q E s) (hm: ∀ Q:rP,Q true s->wpAny (model prog w) A (isSame v v) Q E s)
  (q1:b=true-> ∀ r,(cF=false->r.isSome=true)->Q (.there r) s) (q2:b=false->wpAny (model prog w) A (setSearchFrom a x h cF f (some nx)) Q E s):wpAny (model prog w) A (setSearchFrom a x h cF (f+1) gz) Q E s:=by
 have rest: ∀ (R:Sem SetFound),wpAny (model prog w) A R Q E s->wpAny (model prog w) A (if (!t.led)=true then do
   if (<- searchCouldBeSeen x ((es.filter (·.1 == h)).toList.map (·.2)))=true then unsupported "set:the-search-would-show-the-table" else R
   else R) Q E s:=fun R hR=>kQ _ (fun q=>bD q<|wpAny_bind<|hs _<|az Bool.false_ne_true hR) (fun q=>az q hR)
 refine wpAny_bind<|wpAny_setState_of ho hd hf<|iy gw ?_
 show wpAny _ _ (match t.probe (fun i=>(es[i]?.map (·.1)).getD 0) h (gz.getD (t.probeStart h)) with | some met=>_ | _=>_) _ _ _
 rw [e]
 refine rest _ ?_
 rw [ev]
 refine wpAny_bind<|he _<|wpAny_bind<|wpAny_setState_of ho hd hf<|kE (cF && b) (fun q=>bD q<|wpAny_pure<|q1 (Bool.and_eq_true_iff.mp q).2 _ fun q'=>by rw [q'] at q;cases q) fun q=>iy q ?_
 show wpAny _ _ (match t.sameMemory t.moves t.mask with | some same=>_ | _=>_) _ _ _
 rw [same]
 dsimp only
 rw [if_pos rfl,sl]
 dsimp only
 rw [ev]
 refine wpAny_bind (hm _ (wpAny_bind (wpAny_pure ?_)))
 show wpAny _ _ (if b=true then pure (SetFound.there (some i)) else setSearchFrom a x h cF f (some nx)) _ _ _
 exact kE b (fun q=>bD q<|wpAny_pure<|q1 q _ fun z0=>rfl) fun q=>iy q<|q2 q
theorem gi {a:Addr} {o:Obj} {es:Array (Int×Value)} {ep:Nat} {t:SetTable} {ps:List Tb.Ent} {us:List Int} {T:IB} {n:Nat} {x:Value} {k:Int} {cF:Bool} {N:Nat} {Q:SetFound->Shared->Prop} (hu:A.units+9<cLine)
  (hk:VR s.heap (cd k) x) (ho:s.heap.get? a=some o) (hd:o.data= .set es ep t) (X:cu w.params s.heap T n es t ps us) (hN:N<10*SetTable.turns t.mask)
  (Az: ∀ m,m<N->Good t us (hV w.params (cd k)) k m)
  (fin:(t.slot (Tb.st t.mask (hV w.params (cd k)) N).j= .empty/\Q (.free (Tb.st t.mask (hV w.params (cd k)) N).j false) s)\/
   (∃ i u,t.slot (Tb.st t.mask (hV w.params (cd k)) N).j= .live i/\us[i]? =some u/\cl u=cl k)/\ ∀ r,(cF=false->r.isSome=true)->Q (.there r) s):
  ∀ (f m:Nat) (gz:Option SetTable.Probe),gz.getD (t.probeStart (hV w.params (cd k)))=Tb.st t.mask (hV w.params (cd k)) m->m<=N->N-m<f->wpAny (model prog w) A (setSearchFrom a x (hV w.params (cd k)) cF f gz) Q E s:=by
 have gw:t.gaveWay=false:=by
  unfold SetTable.gaveWay
  rcases X.ti.two with e | e <;> rw [e] <;> rfl
 intro f
 induction f with
 | zero=>intro m gz _ _ hf;exact absurd hf (Nat.not_lt_zero _)
 | succ f ih=>
  intro m gz hs hm hf
  obtain ⟨M,h1,h2,h3⟩:= @Tb.first (fun j=>m<=j/\(j=N\/ ∃ i u,t.slot (Tb.st t.mask (hV w.params (cd k)) j).j= .live i/\us[i]? =some u/\hV w.params (cd u)=hV w.params (cd k))) (fun z0=>Classical.propDecidable _) N ⟨hm, .inl rfl⟩
  have skip: ∀ j,m<=j->j<M-> ∃ i,t.slot (Tb.st t.mask (hV w.params (cd k)) j).j= .live i/\(((es[i]?.map (·.1)).getD 0) == hV w.params (cd k))=false:=fun j a b=>by
   obtain ⟨i,u,g1,g2,_⟩:=Az j (by exact JZ h1 b)
   obtain ⟨v,e1,_⟩:=X.at g2
   refine ⟨i,g1, ?_⟩
   rw [e1]
   refine beq_eq_false_iff_ne.mpr fun q=>h3 j b ⟨a, .inr ⟨i,u,g1,g2,q⟩⟩
  have go:=Tb.xA (t:=t) (hashAt:=fun i=>(es[i]?.map (·.1)).getD 0) (h:=hV w.params (cd k)) (10*SetTable.turns t.mask) m M h2.1 (by exact J7 h1 hN) skip
  have NK: ∀ i u,t.slot (Tb.st t.mask (hV w.params (cd k)) M).j= .live i->us[i]? =some u->hV w.params (cd u)=hV w.params (cd k)->
    t.probe (fun i=>(es[i]?.map (·.1)).getD 0) (hV w.params (cd k)) (Tb.st t.mask (hV w.params (cd k)) m)=some (.candidate (Tb.st t.mask (hV w.params (cd k)) M).j i (Tb.st t.mask (hV w.params (cd k)) (M+1))):=fun i u sl eu eh=>by
   obtain ⟨v,e1,_⟩:=X.at eu
   exact go.2 i sl ((e1▸beq_iff_eq.mpr eh))
  have look:(t.slot (Tb.st t.mask (hV w.params (cd k)) M).j= .empty/\Q (.free (Tb.st t.mask (hV w.params (cd k)) M).j false) s)\/
    ∃ i u,t.slot (Tb.st t.mask (hV w.params (cd k)) M).j= .live i/\us[i]? =some u/\hV w.params (cd u)=hV w.params (cd k)/\(cl u=cl k-> ∀ r,(cF=false->r.isSome=true)->Q (.there r) s)/\(cl u≠cl k->M<N):=by
   rcases h2.2 with e | ⟨i,u,g1,g2,g3⟩
   .subst e
    rcases fin with z | ⟨⟨i,u,g1,g2,g3⟩,z⟩
    .exact .inl z
    .exact .inr ⟨i,u,g1,g2,tY _ (aV _) (aV _) (by rw [f9];exact decide_eq_true g3),fun z0=>z,fun c=>absurd g3 c⟩
   .rcases Nat.lt_or_eq_of_le h1 with l | e
    .obtain ⟨i',u',b1,b2,b3⟩:=Az M l
     rw [g1] at b1;cases b1
     obtain rfl:=oi g2 b2
     exact .inr ⟨i,u,g1,g2,g3,fun c=>absurd c b3,fun z0=>l⟩
    .subst e
     rcases fin with z | ⟨⟨i',u',b1,b2,b3⟩,z⟩
     .exact .inl z
     .rw [g1] at b1;cases b1
      obtain rfl:=oi g2 b2
      exact .inr ⟨i,u,g1,g2,g3,fun z0=>z,fun c=>absurd b3 c⟩
  rcases look with ⟨se,qe⟩ | ⟨i,u,sl,eu,eh,q1,q2⟩
  .exact vQ ho hd X.ti.fits gw (by rw [hs];exact go.1 se) qe
  .obtain ⟨v,ev,rv⟩:=X.at eu
   refine vR (b:=decide (cl u=cl k)) ho hd X.ti.fits gw (by rw [hs];exact NK i u sl eu eh) sl ev (by unfold SetTable.sameMemory;rw [if_pos (beq_self_eq_true _)]) (fun Q q=>yH hk (fun v hv=> ?_) q) (fun Q q=>wpAny_holding (ND hu rv hk q)) (fun Q q=>El rv q) (fun c=>q1 (of_decide_eq_true c)) (fun c=>ih (M+1) _ rfl (q2 (of_decide_eq_false c)) (SE h2.1 hf (q2 (of_decide_eq_false c))))
   obtain ⟨e,he,rfl⟩:=List.mem_map.mp hv
   have:=Array.mem_filter.mp (Array.mem_toList_iff.mp he)
   obtain ⟨u',_,_,r'⟩:=Ek X.yI (Array.mem_toList_iff.mpr this.1)
   exact ⟨u',r'⟩
end
section
variable {P:Params} {h:Heap} {T:IB} {n:Nat} {es:Array (Int×Value)} {t:SetTable} {ps:List Tb.Ent} {us:List Int}
theorem cu.sN (X:cu P h T n es t ps us) (k:Int):(sC us k).isSome=T (cl k):=by
 cases e:sC us k with
 | none=>rw [X.yK e];rfl
 | some j=>rw [X.yJ e];rfl
theorem cu.turns (X:cu P h T n es t ps us):10*SetTable.turns t.mask<=460:=by
 rcases X.ti.two with e | e <;> rw [e] <;> decide
theorem cu.sz (X:cu P h T n es t ps us):es.size=n:=by rw [X.ti.size.1,X.uE]
structure eO (P:Params) (h:Heap) (T:IB) (n:Nat) (es:Array (Int×Value)) (t:SetTable) (ps:List Tb.Ent) (us:List Int):Prop where
 ti:Tb.TI t es ps
 sr:SR P h us (ps.map (·.2))
 nd:(us.map cl).Nodup
 len:us.length=n
 mem: ∀ c,T c=true↔c∈us.map cl
 few:t.mask=7->n<=5
 small:n<=12
theorem eO.plain (X:eO P h T n es t ps us) (b:Bool):eO P h T n es { t with plain:=b } ps us:=⟨X.ti.plain b,X.sr,X.nd,X.len,X.mem,X.few,X.small⟩
theorem cu.put (X:cu P h T n es t ps us) {k:Int} {x:Value} (hk:VR h (cd k) x) (no:T (cl k)=false) {N:Nat} (F:Tb.vi t.mask (ps.map (·.1)) (hV P (cd k)) N):
  ∃ oJ oB,eO P h (fun c=>T c || decide (c=cl k)) (n+1) (SetTable.insertAt es (t.put (Tb.st t.mask (hV P (cd k)) N).j).2 (hV P (cd k),x)) (t.put (Tb.st t.mask (hV P (cd k)) N).j).1 oJ oB:=by
 have few:t.mask=7->n+1<=5:=fun e=>by have:=X.room;rw [e] at this;exact J8 this
 have sm:=X.small
 have room:ps.length+1<=t.mask:=by
  rw [X.uE]
  rcases X.ti.two with e | e
  .have:=few e;exact J9 e this
  .exact e▸Nat.le_trans (Nat.succ_le_succ sm) (Nat.le_of_ble_eq_true rfl)
 have I:=X.ti.put F x room
 have pm:=Tb.qf ps (t.put (Tb.st t.mask (hV P (cd k)) N).j).2 ((Tb.st t.mask (hV P (cd k)) N).j,hV P (cd k),x)
 have r0:SR P h (k::us) (((Tb.st t.mask (hV P (cd k)) N).j,hV P (cd k),x)::ps |>.map (·.2)):=⟨x,_,rfl,hk,X.sr⟩
 obtain ⟨oB,p',r'⟩:=uC (pm.symm.map _) r0
 refine ⟨_,oB,I,r', ?_, ?_,fun c=> ?_,few,Nat.le_trans (Nat.succ_le_succ sm) (Nat.le_of_ble_eq_true rfl)⟩
 .refine (p'.map cl).nodup_iff.mp ?_
  rw [List.map_cons,List.nodup_cons]
  refine ⟨fun q=> ?_,X.nd⟩
  exact Bool.noConfusion (((X.mem _).mpr q).symm.trans no)
 .rw [<- p'.length_eq,List.length_cons,X.len]
 .rw [<- (p'.map cl).mem_iff,List.map_cons,List.mem_cons,Bool.or_eq_true,decide_eq_true_eq,X.mem]
  exact Or.comm
theorem eO.done (X:eO P h T n es t ps us) (q:t.tooFull=false):cu P h T n es t ps us:=by
 refine ⟨X.ti, ?_,X.sr,X.nd,X.len,X.mem⟩
 delta SetTable.tooFull SetTable.fill at q
 have e:=X.ti.size.2
 have:=pq X.sr
 rw [List.length_map,X.len] at this
 rw [X.ti.FU,e,this] at q
 simp at q
 exact K5 q
theorem eO.sz (X:eO P h T n es t ps us):es.size=n:=by
 have:=pq X.sr
 rw [List.length_map,X.len] at this
 rw [X.ti.size.1,this]
theorem eO.HK (X:eO P h T n es t ps us) (q:t.tooFull=true):SetTable.sizeAbove (SetTable.grown es.size)=32/\ ∃ t' order oJ oB,t.relaid (es.map (·.1)) (SetTable.grown es.size)=some (t',order)/\order.toList.Perm (List.range es.size)/\
  cu P h T n (order.filterMap (es[·]?)) t' oJ oB:=by
 have sz:=X.sz
 have full:t.mask*3<=n*5:=by
  delta SetTable.tooFull SetTable.fill at q
  have e:=X.ti.size
  rw [X.ti.FU,e.2, <- e.1,sz] at q
  simp at q
  exact K7 q
 have n5:n=5:=by
  rcases X.ti.two with e | e
  .have:=X.few e;rw [e] at full;exact Ka full this
  .have:=X.small;rw [e] at full;omega
 have w:SetTable.sizeAbove (SetTable.grown es.size)=32:=by rw [sz,n5];decide
 refine ⟨w, ?_⟩
 have pl:ps.length=n:=by rw [<- X.ti.size.1,sz]
 obtain ⟨t',order,oJ,e1,e2,e3,e4,e5,_⟩:=X.ti.relaid (by exact Kb pl n5) _ w
 obtain ⟨oB,p',r'⟩:=uC e4.symm X.sr
 exact ⟨t',order,oJ,oB,e1,e2,e3,(e5▸Kc n5),r',(p'.map cl).nodup_iff.mp X.nd,by rw [<- p'.length_eq,X.len],fun c=>(X.mem c).trans (p'.map cl).mem_iff⟩
end
section
variable {prog:Program} {w:World} {A:Around} {E:PE} {s:Shared}
theorem vS {a:Addr} {T:IB} {n:Nat} {k:Int} {x:Value} {Q:Option Nat->Shared->Prop} (hu:A.units+9<cLine) (hk:VR s.heap (cd k) x) (S:ik w.params s.heap a T n)
  (h: ∀ r:Option Nat,r.isSome=T (cl k)->Q r s):wpAny (model prog w) A (setFind a x (hV w.params (cd k))) Q E s:=by
 obtain ⟨o,es,ep,t,ps,us,ho,_,hd,X⟩:=S
 refine wpAny_bind (wpAny_setState_of ho hd X.ti.fits ?_)
 skip
 have NM:wpAny (model prog w) A (do match <- setSearch a x (hV w.params (cd k)) with | .there i=>return i | .free .. =>return none) Q E s:=by
  refine wpAny_bind ?_
  obtain ⟨N,h1,h2,h3⟩:=X.search k
  refine gi hu hk ho hd X h1 h2 ?_ 100000 0 none rfl (Nat.zero_le _) (by have:=X.turns;exact Dt this h1)
  rcases h3 with ⟨a1,a2,a3⟩ | ⟨a1,a2⟩
  .exact .inl ⟨a2,wpAny_pure (h _ a1.symm)⟩
  .exact .inr ⟨a2,fun r hr=>wpAny_pure (h _ ((hr rfl).trans a1.symm))⟩
 by_cases q:byScan x es=true
 .refine bD q ?_
  refine wpAny_bind (wpAny_rule (wpAny_bind (sM hu hk ho hd X.ti.fits X.yI ?_)))
  have:=X.sN k
  cases e:sC us k with
  | none=>rw [e] at this;exact wpAny_pure (h _ this)
  | some j=>rw [e] at this;exact wpAny_pure (h _ this)
 .refine az q ?_
  exact NM
theorem uF {a:Addr} {h:Heap} {o:Obj} {es:Array (Int×Value)} {ep:Nat} {t:SetTable} (km:Array (Int×Value)) (t':SetTable) (ho:h.get? a=some o) (hc:o.ExactSet) (hd:o.data= .set es ep t):
  (h.update a (Obj.putSet km t')).get? a=some { o with data:= .set km (ep+1) t' }/\dY h (h.update a (Obj.putSet km t'))/\Heap.SameBut a h (h.update a (Obj.putSet km t')):=by
 have hg:(h.update a (Obj.putSet km t')).get? a=some { o with data:= .set km (ep+1) t' }:=by
  have:=Heap.get?_update_self (Obj.putSet km t') ho (by rw [putSet_of km t' hd];rfl)
  rw [putSet_of km t' hd] at this;exact this
 have hs:=Heap.SameBut.update h a (Obj.putSet km t')
 refine ⟨hg,⟨fun b o' i eb=> ?_, .of fun b o' km dh eb q=> ?_⟩,hs⟩
 .exact (hs.2 b fun q=>by subst q;rw [ho] at eb;cases eb;have:=i.cls;rw [hc.1] at this;cases this).trans eb
 .exact ⟨o',km,dh,(hs.2 b fun z=>by subst z;rw [ho] at eb;cases eb;rw [hd] at q;cases q).trans eb,q⟩
theorem qF {t t':SetTable} {es:Array (Int×Value)} {wanted:Nat} {od:Array Nat} (e:t.relaid (es.map (·.1)) wanted=some (t',od)) (p:od.toList.Perm (List.range es.size)) (f:t'.fits (od.filterMap (es[·]?)).size=true):
  relayAll t es wanted=(od.filterMap (es[·]?),t',false):=by
 delta relayAll
 rw [e]
 dsimp only
 rw [if_pos]
 rw [f,Bool.and_true]
 exact List.isPerm_iff.mpr p
theorem vT (b:Bool) (av:Shared) (Q':PU) (hq:Q' () av):wpAny (model prog w) A (match b with | true=>rule "set.scan.the-table-gave-way" | false=>pure ()) Q' E av:=by cases b;exact wpAny_pure hq;exact wpAny_rule hq
theorem Bq {a:Addr} {gH:Array (Int×Value)} {t1 t2:SetTable} {k ep:Nat} {o:Obj} {od:Array Nat} {Q:PU} (e1:gH.size=k) (g1:s.heap.get? a=some o) (g2:o.data= .set gH ep t1) (w32:SetTable.sizeAbove (SetTable.grown gH.size)=32)
  (r1:t1.relaid (gH.map (·.1)) (SetTable.grown gH.size)=some (t2,od)) (r2:od.toList.Perm (List.range gH.size)) (f1:t1.fits gH.size=true) (z:(od.filterMap (gH[·]?)).size<=sizeLine)
  (hq:Q () { s with heap:=s.heap.update a (Obj.putSet (od.filterMap (gH[·]?)) t2) }):wpAny (model prog w) A (setRelay a (SetTable.grown k)) Q E s:=by
 subst e1
 have SF:(od.filterMap (gH[·]?)).size=gH.size:=by
  have:=r2.filterMap fun i=>gH[i]?
  rw [<- Array.toList_filterMap] at this
  have:=this.length_eq
  rw [Array.length_toList] at this
  rw [this,filterMap_getElem?_range]
  simp
 refine wpAny_bind (wpAny_setState_of g1 g2 f1 ?_)
 dsimp only
 rw [if_neg (by rw [w32,sizeLine_eq];exact Kd),r1]
 show wpAny _ _ (do let x <- (do
   if (od.filterMap (gH[·]?)).size != gH.size then unsupported "internal:set-table-lost-an-element"
   pure (od.filterMap (gH[·]?),t2):Sem (Array (Int×Value)×SetTable));match x with | (es,t)=>storeSet a es t) _ _ _
 rw [SF]
 simp only [bne_self_eq_false,Bool.false_eq_true,if_false]
 exact wpAny_bind (wpAny_pure (wpAny_storeSet_of g1 g2 hq z))
theorem jS {a:Addr} {o:Obj} {es gH:Array (Int×Value)} {ep:Nat} {t t1:SetTable} {T':IB} {n':Nat} {oJ:List Tb.Ent} {oB:List Int} {Q:rP}
  (ho:s.heap.get? a=some o) (hc:o.ExactSet) (hd:o.data= .set es ep t) (X:eO w.params s.heap T' n' gH t1 oJ oB)
  (h: ∀ h',Heap.SameBut a s.heap h'->ik w.params h' a T' n'-> ∀ b,Q b { s with heap:=h' }) {g:Bool->Sem Unit} (hg: ∀ (b:Bool) (av:Shared) (Q':PU),Q' () av->wpAny (model prog w) A (g b) Q' E av):
  wpAny (model prog w) A (do
    storeSet a gH t1
    if (!false && t1.tooFull)=true then do
      g (relayAll t1 gH (SetTable.grown gH.size)).2.2
      storeSet a (relayAll t1 gH (SetTable.grown gH.size)).1 (relayAll t1 gH (SetTable.grown gH.size)).2.1
      pure (some true)
     else pure (some true)) (fun r s'=>r=some true/\Q true s') E s/\
  ∀ (k:Nat),gH.size=k->wpAny (model prog w) A (do
    storeSet a gH t1
    if (!false && t1.tooFull)=true then do
      setRelay a (SetTable.grown k)
      pure true
     else pure true) Q E s:=by
 have hz:gH.size<=sizeLine:=by rw [X.sz,sizeLine_eq];have:=X.small;exact Gq this
 obtain ⟨e1,m1,b1⟩:=uF gH t1 ho hc hd
 cases q:t1.tooFull with
 | false=>
  have no:Q true { s with heap:=s.heap.update a (Obj.putSet gH t1) }:=h _ b1 ⟨_,gH,ep+1,t1,oJ,oB,e1,hc,rfl,(X.done q).mono m1⟩ true
  exact ⟨wpAny_bind (wpAny_storeSet_of ho hd (az Bool.false_ne_true (wpAny_pure ⟨rfl,no⟩)) hz),fun k z0=>wpAny_bind (wpAny_storeSet_of ho hd (az Bool.false_ne_true (wpAny_pure no)) hz)⟩
 | true=>
  obtain ⟨w32,t2,od,ps2,NC,r1,r2,X2⟩:=X.HK q
  obtain ⟨e2,m2,b2⟩:=uF (od.filterMap (gH[·]?)) t2 e1 hc rfl
  have z2:(od.filterMap (gH[·]?)).size<=sizeLine:=by rw [X2.sz,sizeLine_eq];have:=X.small;exact Gq this
  have fin:Q true { s with heap:=(s.heap.update a (Obj.putSet gH t1)).update a (Obj.putSet (od.filterMap (gH[·]?)) t2) }:=h _ (b1.trans b2) ⟨_,_,_,t2,ps2,NC,e2,hc,rfl,(X2.mono m1).mono m2⟩ true
  refine ⟨wpAny_bind (wpAny_storeSet_of ho hd (bD rfl ?_) hz),fun k hk=>wpAny_bind (wpAny_storeSet_of ho hd (bD rfl (wpAny_bind (Bq hk e1 rfl w32 r1 r2 X.ti.fits z2 (wpAny_pure fin)))) hz)⟩
  rw [qF r1 r2 X2.ti.fits]
  exact wpAny_bind (hg _ _ _ (wpAny_bind (wpAny_storeSet_of e1 rfl (wpAny_pure ⟨rfl,fin⟩) z2)))
theorem HL {P:Params} {h:Heap} {T':IB} {n':Nat} {es:Array (Int×Value)} {t:SetTable} {oJ:List Tb.Ent} {oB:List Int} {y:Int} {x:Value} {j:Nat} (e:t.freeSlot y=some (j,false))
  (X':eO P h T' n' (SetTable.insertAt es (t.put j).2 (y,x)) (t.put j).1 oJ oB):layNew t es y x=(SetTable.insertAt es (t.put j).2 (y,x),(t.put j).1,false,false):=by
 have f:=X'.ti.fits
 unfold layNew
 rw [e]
 dsimp only
 unfold SetTable.orStandIn
 rw [if_pos f,f]
 rfl
theorem sO {a:Addr} {T:IB} {n:Nat} {k:Int} {x:Value} {Q:rP} (hu:A.units+9<cLine) (hk:VR s.heap (cd k) x) (S:ik w.params s.heap a T n) (e:T (cl k)=true) (h: ∀ b,Q b s):
  wpAny (model prog w) A (setAddHashed a x (hV w.params (cd k))) Q E s:=by
 obtain ⟨o,es,ep,t,ps,us,ho,hc,hd,X⟩:=S
 obtain ⟨N,h1,h2,⟨a1,a2,a3⟩ | ⟨a1,a2⟩⟩:=X.search k
 .exact Bool.noConfusion (e.symm.trans a1)
 have fe:=X.sN k
 rw [e] at fe
 obtain ⟨j,fe⟩:=Option.isSome_iff_exists.mp fe
 have ht:N-0<100000:=by have:=X.turns;exact Dt this h1
 refine wpAny_holding (wpAny_bind (wpAny_setState_of ho hd X.ti.fits ?_))
 dsimp only
 by_cases q:byScan x es=true
 .rw [if_pos q]
  refine wpAny_bind (wpAny_bind (wpAny_rule (wpAny_bind (sM hu hk ho hd X.ti.fits X.yI ?_))))
  rw [fe]
  exact wpAny_pure (wpAny_pure (h false))
 .rw [if_neg q]
  exact wpAny_bind (gi hu hk ho hd X h1 h2 (.inr ⟨a2,fun r hr=>wpAny_pure (h false)⟩) 100000 0 none rfl (Nat.zero_le _) ht)
theorem yL {a:Addr} {T:IB} {n:Nat} {k:Int} {x:Value} {Q:rP} (hu:A.units+9<cLine) (hk:VR s.heap (cd k) x) (S:ik w.params s.heap a T n) (e:T (cl k)=false)
  (h: ∀ h',Heap.SameBut a s.heap h'->ik w.params h' a (fun c=>T c || decide (c=cl k)) (n+1)-> ∀ b,Q b { s with heap:=h' }):
  wpAny (model prog w) A (setAddHashed a x (hV w.params (cd k))) Q E s:=by
 obtain ⟨o,es,ep,t,ps,us,ho,hc,hd,X⟩:=S
 obtain ⟨N,h1,h2,⟨a1,a2,a3⟩ | ⟨a1,a2⟩⟩:=X.search k
 case inr=>exact Bool.noConfusion (e.symm.trans a1)
 have fe:=X.sN k
 rw [e,Option.isSome_eq_false_iff,Option.isNone_iff_eq_none] at fe
 have ht:N-0<100000:=by have:=X.turns;exact Dt this h1
 obtain ⟨oJ,oB,X'⟩:=X.put hk a1 a3
 have lay:=HL (X.ti.freeSlot a3) X'
 have sz:(SetTable.insertAt es (t.put (Tb.st t.mask (hV w.params (cd k)) N).j).2 (hV w.params (cd k),x)).size=es.size+1:=by rw [X'.sz,X.sz]
 refine wpAny_holding (wpAny_bind (wpAny_setState_of ho hd X.ti.fits ?_))
 dsimp only
 by_cases q:byScan x es=true
 .rw [if_pos q]
  refine wpAny_bind (wpAny_bind (wpAny_rule (wpAny_bind (sM hu hk ho hd X.ti.fits X.yI ?_))))
  rw [fe]
  dsimp only
  rw [lay]
  refine wpAny_bind (wpAny_pure ?_)
  revert X'
  clear lay sz
  refine mQ (SetTable.insertAt es (t.put (Tb.st t.mask (hV w.params (cd k)) N).j).2 (hV w.params (cd k),x)) fun gH=> ?_
  refine mQ (t.put (Tb.st t.mask (hV w.params (cd k)) N).j).1 fun t1 X'=> ?_
  have wrap: ∀ (P:Sem (Option Bool)),wpAny (model prog w) A P (fun r s'=>r=some true/\Q true s') E s->wpAny (model prog w) A P (fun r s'=>wpAny (model prog w) A (match r with | some added=>pure added | none=>setAddHashedIn a x (hV w.params (cd k)) 99999) Q E s') E s:=fun P hP=>
   wpAny_mono hP (fun r s' z=>by obtain ⟨rfl,z⟩:=z;exact wpAny_pure z) fun z0 z0 z=>z
  split
  .refine wpAny_bind (CT 8 _ _ _ _ (aV k) hk fun b=> ?_)
   cases b
   .exact wrap _ (jS ho hc hd (X'.plain false) h vT).1
   .exact wrap _ (jS ho hc hd X' h vT).1
  .exact wpAny_bind (wpAny_pure (wrap _ (jS ho hc hd X' h vT).1))
 .rw [if_neg q]
  refine wpAny_bind (gi hu hk ho hd X h1 h2 (.inl ⟨a2, ?_⟩) 100000 0 none rfl (Nat.zero_le _) ht)
  dsimp only
  refine wpAny_bind (wpAny_setState_of ho hd X.ti.fits ?_)
  dsimp only
  revert X' sz
  clear lay
  refine mQ (SetTable.insertAt es (t.put (Tb.st t.mask (hV w.params (cd k)) N).j).2 (hV w.params (cd k),x)) fun gH=> ?_
  refine mQ (t.put (Tb.st t.mask (hV w.params (cd k)) N).j).1 fun t1 X' sz=> ?_
  split
  .refine wpAny_bind (CT 8 _ _ _ _ (aV k) hk fun b=> ?_)
   cases b
   .exact (jS ho hc hd (X'.plain false) h vT).2 _ sz
   .exact (jS ho hc hd X' h vT).2 _ sz
  .exact wpAny_bind (wpAny_pure ((jS ho hc hd X' h vT).2 _ sz))
theorem lS {a:Addr} {T:IB} {n:Nat} {k:Int} {x:Value} {Q:rP} (hu:A.units+9<cLine) (hk:VR s.heap (cd k) x) (S:ik w.params s.heap a T n)
  (h: ∀ h',Heap.SameBut a s.heap h'->ik w.params h' a (fun c=>T c || decide (c=cl k)) (if T (cl k) then n else n+1)-> ∀ b,Q b { s with heap:=h' }):
  wpAny (model prog w) A (setAddHashed a x (hV w.params (cd k))) Q E s:=by
 cases q:T (cl k) with
 | true=>
  refine sO hu hk S q (h s.heap (Heap.SameBut.refl a s.heap) ?_)
  rw [if_pos q]
  have:(fun c=>T c || decide (c=cl k))=T:=funext fun c=>by
   by_cases z:c=cl k
   .rw [z,q];rfl
   .rw [decide_eq_false z,Bool.or_false]
  rw [this];exact S
 | false=>exact yL hu hk S q fun h' b1 b2=>h h' b1 (by rw [q,if_neg Bool.false_ne_true];exact b2)
end
section
variable {g:G} {F:Fm} {m:Loc} {H:AH} {X:PX} {Q:PV}
theorem St.small {s:Shared} (S:St g F m H s):F.A.units<=2100/\F.A.depth<=610:=by have:=S.room;exact RL this
theorem SG {f:Value} (h:WE g F (call f []) m H Q X):WC g F f [] m H Q X:=fun s vs S r=>by rw [bh.bL] at r;subst r;exact h s S
theorem uG {f:Value} {x:V} (h:W1 g F VR x (fun v=>call f [v]) m H Q X):WC g F f [x] m H Q X:=fun s vs S r=>by
 obtain ⟨v,r',rfl,rv,rr⟩:=r.aG;rw [bh.bL] at rr;subst rr;exact h s v S rv
theorem HM {f:Value} {x y:V} (h:W2 g F VR x y (fun v u=>call f [v,u]) m H Q X):WC g F f [x,y] m H Q X:=fun s vs S r=>by
 obtain ⟨v,r',rfl,rv,rr⟩:=r.aG
 obtain ⟨u,Us,rfl,ru,rr⟩:=rr.aG;rw [bh.bL] at rr;subst rr;exact h s v u S rv ru
theorem aq {b:Bool} {Q:PB} (h:Q b m H):W1 g F nK (.bool b) truthy m H Q X:=fun s v S r=>by
 rw [VR.cz] at r;subst r;exact wpAny_truthy_bool (bG.now S rfl rfl rfl rfl h)
theorem Br {Q:PB} (h:Q false m H):W1 g F nK .none truthy m H Q X:=fun s v S r=>by
 rw [VR.bJ] at r;subst r;exact truthy_none (bG.now S rfl rfl rfl rfl h)
theorem uH {l:Addr} {xs:List V} {Q:PB} (hl:LA g H l xs) (hz:xs.length<2 ^ 60) (h:Q (!xs.isEmpty) m H):W1 g F nK (.ref l) truthy m H Q X:=fun s v S r=>by
 rw [VR.ay] at r;subst r
 obtain ⟨vs,ep,e,rs⟩:=hl.at S
 refine wpAny_truthy_list (items:=vs.toArray) ⟨_,e,rfl,ep,rfl⟩ (by rw [List.size_toArray,rs.length];exact Dw hz) (bG.now S rfl rfl rfl ?_ h)
 show (!xs.isEmpty)=(!vs.toArray.isEmpty)
 have:=rs.length
 cases xs <;> cases vs <;> simp_all
theorem yM {a b:Int} (h:Q (.int (a+b)) m H):W2 g F VR (.int a) (.int b) (binaryOp .Add) m H Q X:=fun s v u S r r'=>by
 rw [VR.aZ] at r r';obtain ⟨t,rfl⟩:=r;obtain ⟨t',rfl⟩:=r';exact PySem.P.add_int (bG.now S rfl rfl rfl (.fF _ _) h)
theorem HN {a b:Int} (h:Q (.int (a-b)) m H):W2 g F VR (.int a) (.int b) (binaryOp .Sub) m H Q X:=fun s v u S r r'=>by
 rw [VR.aZ] at r r';obtain ⟨t,rfl⟩:=r;obtain ⟨t',rfl⟩:=r';exact PySem.P.sub_int (bG.now S rfl rfl rfl (.fF _ _) h)
theorem pz {a b:Int} (h:Q (.int (a+b)) m H):W2 g F VR (.int a) (.int b) (inplaceOp .Add) m H Q X:=fun s v u S r r'=>by
 rw [VR.aZ] at r r';obtain ⟨t,rfl⟩:=r;obtain ⟨t',rfl⟩:=r';exact PySem.P.iadd_int (bG.now S rfl rfl rfl (.fF _ _) h)
theorem En {a b:Int} (h:Q (.int (a-b)) m H):W2 g F VR (.int a) (.int b) (inplaceOp .Sub) m H Q X:=fun s v u S r r'=>by
 rw [VR.aZ] at r r';obtain ⟨t,rfl⟩:=r;obtain ⟨t',rfl⟩:=r';exact PySem.P.isub_int (bG.now S rfl rfl rfl (.fF _ _) h)
theorem gN {a b:Int} (hb:b≠0) (h:Q (.int (a.fmod b)) m H):W2 g F VR (.int a) (.int b) (binaryOp .Mod) m H Q X:=fun s v u S r r'=>by
 rw [VR.aZ] at r r';obtain ⟨t,rfl⟩:=r;obtain ⟨t',rfl⟩:=r';exact mod_int' hb (bG.now S rfl rfl rfl (.fF _ _) h)
theorem j3 {a b:Int} (hb:b≠0) (hs:b.natAbs<2 ^ 30) (h:Q (.int (a.fdiv b)) m H):W2 g F VR (.int a) (.int b) (binaryOp .FloorDiv) m H Q X:=fun s v u S r r'=>by
 rw [VR.aZ] at r r';obtain ⟨t,rfl⟩:=r;obtain ⟨t',rfl⟩:=r';exact floordiv_int hb (bG.now S rfl rfl rfl (.fF _ _) h) (.inl (PyProof.noPylong_small hs))
theorem qG {a:Int} (h:Q (.int (-a)) m H):W1 g F VR (.int a) (unaryOp .USub) m H Q X:=fun s v S r=>by
 rw [VR.aZ] at r;obtain ⟨t,rfl⟩:=r;exact PySem.P.neg_int (bG.now S rfl rfl rfl (.fF _ _) h)
theorem vU {a b:Int} (h:Q (.bool (decide (a<b))) m H):W2 g F VR (.int a) (.int b) (compareOp .Lt) m H Q X:=fun s v u S r r'=>by
 rw [VR.aZ] at r r';obtain ⟨t,rfl⟩:=r;obtain ⟨t',rfl⟩:=r';exact PySem.P.lt_int (bG.now S rfl rfl rfl (.dm _) h)
theorem Eo {a b:Int} (h:Q (.bool (decide (a > b))) m H):W2 g F VR (.int a) (.int b) (compareOp .Gt) m H Q X:=fun s v u S r r'=>by
 rw [VR.aZ] at r r';obtain ⟨t,rfl⟩:=r;obtain ⟨t',rfl⟩:=r';exact PySem.P.gt_int (bG.now S rfl rfl rfl (.dm _) h)
theorem HO {a b:Int} (h:Q (.bool (decide (a>=b))) m H):W2 g F VR (.int a) (.int b) (compareOp .GtE) m H Q X:=fun s v u S r r'=>by
 rw [VR.aZ] at r r';obtain ⟨t,rfl⟩:=r;obtain ⟨t',rfl⟩:=r';exact PySem.P.ge_int (bG.now S rfl rfl rfl (.dm _) h)
theorem HP {x y:V} (dx:dat x=true) (dy:dat y=true) (hd:dep x<=1000) (h:Q (.bool (eD x y)) m H):W2 g F VR x y (compareOp .Eq) m H Q X:=fun s v u S r r'=>
 HF trivial dx dy (by have:=S.small;have:cLine=9900:=rfl;exact Gv (by assumption) this hd) r r' g.prog g.w _ _ (bG.now S rfl rfl rfl (.dm _) h)
theorem yN {x y:V} (dx:dat x=true) (dy:dat y=true) (hd:dep x<=1000) (h:Q (.bool (!eD x y)) m H):W2 g F VR x y (compareOp .NotEq) m H Q X:=fun s v u S r r'=>
 Bm trivial dx dy (by have:=S.small;have:cLine=9900:=rfl;exact Gv (by assumption) this hd) r r' g.prog g.w _ _ (bG.now S rfl rfl rfl (.dm _) h)
theorem j4 {a b:Int} (h:Q (.bool (a == b)) m H):W2 g F VR (.int a) (.int b) (compareOp .Eq) m H Q X:=HP (by rfl) (by rfl) (by exact PF) (by exact h)
theorem HQ {a b:Int} (h:Q (.bool (!(a == b))) m H):W2 g F VR (.int a) (.int b) (compareOp .NotEq) m H Q X:=yN (by rfl) (by rfl) (by exact Gx) (by exact h)
noncomputable def isNone:V->Bool
 | .none=>true
 | _=>false
theorem VR.isNone {h:Heap} {x:V} {v:Value} (r:VR h x v) (hx: ∀ w,x≠ .cst w):(v == Value.none)=isNone x:=by
 cases x with
 | cst w=>exact absurd rfl (hx w)
 | none=>rw [VR.bJ] at r;subst r;rfl
 | bool=>rw [VR.cz] at r;subst r;rfl
 | int=>rw [VR.aZ] at r;obtain ⟨_,rfl⟩:=r;rfl
 | str=>rw [VR.da] at r;obtain ⟨_,rfl⟩:=r;rfl
 | cD=>rw [VR.dE] at r;obtain ⟨_,rfl⟩:=r;rfl
 | cS=>rw [VR.dF] at r;obtain ⟨_,rfl⟩:=r;rfl
 | ref=>rw [VR.ay] at r;subst r;rfl
 | tup=>replace r:=VR.cM r;obtain ⟨_,_,_,rfl,_⟩:=r;rfl
 | kS=>obtain ⟨_,_,_,_,rfl,_⟩:=r;rfl
 | view=>obtain ⟨_,rfl,_⟩:=r;rfl
theorem gA {x:V} (hx: ∀ w,x≠ .cst w) (h:Q (.bool (isNone x)) m H):W2 g F VR x .none (compareOp .Is) m H Q X:=fun s v u S r r'=>by
 rw [VR.bJ] at r';subst r'
 exact is_none_gen (bG.now S rfl rfl rfl (((r.isNone hx)▸ .dm _)) h)
theorem eP {x:V} (hx: ∀ w,x≠ .cst w) (h:Q (.bool (!isNone x)) m H):W2 g F VR x .none (compareOp .IsNot) m H Q X:=fun s v u S r r'=>by
 rw [VR.bJ] at r';subst r'
 exact isnot_none_gen (bG.now S rfl rfl rfl (((r.isNone hx)▸ .dm _)) h)
theorem HR {a b:Addr} {xs ys:List V} (ha:LA g H a xs) (hb:LA g H b ys) (dx:cJ xs=true) (dy:cJ ys=true) (hd:cQ xs<=1000) (h:Q (.bool (fB xs ys)) m H):W2 g F VR (.ref a) (.ref b) (compareOp .Eq) m H Q X:=fun s v u S r r'=>by
 rw [VR.ay] at r r';subst r r'
 obtain ⟨vs,ep,e,rs⟩:=ha.at S
 obtain ⟨ws,dh,e',w7⟩:=hb.at S
 have sm:=S.small
 have cl:cLine=9900:=rfl
 have l1:s.heap.IsList a vs.toArray:=⟨_,e,rfl,ep,rfl⟩
 have l2:s.heap.IsList b ws.toArray:=⟨_,e',rfl,dh,rfl⟩
 by_cases q:xs.length=ys.length
 .refine eq_listAt (e:=fun j=>eD (xs.getD j .none) (ys.getD j .none)) l1 l2 (by simp [rs.length,w7.length,q]) (by exact PG sm cl) (fun j h1 h2=> ?_) (bG.now S rfl rfl rfl ?_ h)
  .simp only [List.size_toArray] at h1 h2
   simp only [List.getElem_toArray]
   exact jh (cQ xs) F.A.in1 s _ _ _ _ fQ (cK dx) (cK dy) (by show F.A.units+1+cQ xs<cLine;exact Gi sm cl hd) (rs.at h1) (w7.at h2)
  .rw [List.size_toArray,rs.length,iZ xs ys q];exact .dm _
 .have:fB xs ys=false:=by
   cases z:fB xs ys with
   | false=>rfl
   | true=>exact absurd (k7 z) q
  rw [this] at h
  exact eq_list_lengthsAt l1 l2 (by simp [rs.length,w7.length,q]) (by exact PG sm cl) (bG.now S rfl rfl rfl (.dm _) h)
theorem HS {a b:Addr} {xs ys:List V} (ha:LA g H a xs) (hb:LA g H b ys) (dx:cJ xs=true) (dy:cJ ys=true) (hd:cQ xs<=1000) (h:Q (.bool (!fB xs ys)) m H):W2 g F VR (.ref a) (.ref b) (compareOp .NotEq) m H Q X:=fun s v u S r r'=>by
 rw [VR.ay] at r r';subst r r'
 obtain ⟨vs,ep,e,rs⟩:=ha.at S
 obtain ⟨ws,dh,e',w7⟩:=hb.at S
 have sm:=S.small
 have cl:cLine=9900:=rfl
 have l1:s.heap.IsList a vs.toArray:=⟨_,e,rfl,ep,rfl⟩
 have l2:s.heap.IsList b ws.toArray:=⟨_,e',rfl,dh,rfl⟩
 by_cases q:xs.length=ys.length
 .refine RcNeAt.lists (A:=F.A) (s:=s) (e:=fun j=>eD (xs.getD j .none) (ys.getD j .none)) l1 l2 (by simp [rs.length,w7.length,q]) (by exact Dx sm cl) (fun j h1 h2=> ?_) g.prog g.w _ _ (bG.now S rfl rfl rfl ?_ h)
  .simp only [List.size_toArray] at h1 h2
   simp only [List.getElem_toArray]
   exact jh (cQ xs) F.A.in1 s _ _ _ _ fQ (cK dx) (cK dy) (by show F.A.units+1+cQ xs<cLine;exact Gi sm cl hd) (rs.at h1) (w7.at h2)
  .rw [List.size_toArray,rs.length,iZ xs ys q];exact .dm _
 .have:fB xs ys=false:=by
   cases z:fB xs ys with
   | false=>rfl
   | true=>exact absurd (k7 z) q
  rw [this] at h
  exact RcNeAt.lists_lengths (A:=F.A) (s:=s) l1 l2 (by simp [rs.length,w7.length,q]) (by exact Dx sm cl) g.prog g.w _ _ (bG.now S rfl rfl rfl (.dm _) h)
open Classical in
noncomputable def sP (h:Heap) (x:V) (v:Value):Bool:=if q: ∃ y,dat y=true/\VR h y v then eD (choose q) x else false
theorem jl {h:Heap} {x y:V} {v:Value} (dx:dat x=true) (d:dat y=true) (r:VR h y v):sP h x v=eD y x:=by
 delta sP
 have q: ∃ y,dat y=true/\VR h y v:=⟨y,d,r⟩
 rw [dif_pos q]
 have:=Classical.choose_spec q
 exact vg this.1 d dx (VR.inj _ y v this.1 d this.2 r)
theorem qH {h:Heap} {x:V} (dx:dat x=true): ∀ {xs:List V} {vs:List Value},cJ xs=true->bh h xs vs->vs.any (sP h x)=xs.any (fun y=>eD y x):=by
 intro L9
 induction L9 with
 | nil=>
  rintro _ _ r
  rw [bh.bL] at r;subst r;rfl
 | cons y ys ih=>
  rintro _ d r
  obtain ⟨v,r',rfl,rv,rr⟩:=r.aG
  replace d:dat _=true/\cJ _=true:=Bool.and_eq_true_iff.mp d
  rw [List.any_cons,List.any_cons,jl dx d.1 rv,ih d.2 rr]
theorem sQ {h:Heap}: ∀ {xs:List V} {vs:List Value} {v:Value},bh h xs vs->v∈vs->cJ xs=true-> ∃ y,y∈xs/\dat y=true/\VR h y v/\dep y<=cQ xs:=by
 intro L9
 induction L9 with
 | nil=>
  rintro _ _ r hv _
  rw [bh.bL] at r;subst r;cases hv
 | cons y ys ih=>
  rintro _ v r hv d
  obtain ⟨v',r',rfl,rv,rr⟩:=r.aG
  replace d:dat _=true/\cJ _=true:=Bool.and_eq_true_iff.mp d
  rcases List.mem_cons.mp hv with rfl | hv
  .exact ⟨y,List.mem_cons_self,d.1,rv,Nat.le_max_left ..⟩
  .obtain ⟨z,h1,h2,h3,h4⟩:=ih rr hv d.2
   exact ⟨z,List.mem_cons_of_mem _ h1,h2,h3,by exact Nat.le_trans h4 (Nat.le_max_right ..)⟩
theorem NN {x:V} {l:Addr} {xs:List V} (hl:LA g H l xs) (dx:dat x=true) (ds:cJ xs=true) (hd:cQ xs<=1000) (h:Q (.bool (xs.any fun y=>eD y x)) m H):W2 g F VR x (.ref l) (compareOp .In) m H Q X:=fun s v u S r r'=>by
 rw [VR.ay] at r';subst r'
 obtain ⟨vs,ep,e,rs⟩:=hl.at S
 have sm:=S.small
 have cl:cLine=9900:=rfl
 refine in_listAt (items:=vs.toArray) (sP s.heap x) ⟨_,e,rfl,ep,rfl⟩ (fun y hy=> ?_) (bG.now S rfl rfl rfl ?_ h)
 .obtain ⟨z,h1,h2,h3,h4⟩:=sQ rs (by simpa using hy) ds
  rw [jl dx h2 h3]
  exact jh (cQ xs) F.A.in1 s _ _ _ _ h4 h2 dx (by show F.A.units+1+cQ xs<cLine;exact Gi sm cl hd) h3 r
 .rw [List.any_toArray,qH dx ds rs];exact .dm _
theorem CU {x:V} {l:Addr} {xs:List V} (hl:LA g H l xs) (dx:dat x=true) (ds:cJ xs=true) (hd:cQ xs<=1000) (h:Q (.bool (!xs.any fun y=>eD y x)) m H):W2 g F VR x (.ref l) (compareOp .NotIn) m H Q X:=fun s v u S r r'=>by
 rw [VR.ay] at r';subst r'
 obtain ⟨vs,ep,e,rs⟩:=hl.at S
 have sm:=S.small
 have cl:cLine=9900:=rfl
 refine notIn_listAt (items:=vs.toArray) (sP s.heap x) ⟨_,e,rfl,ep,rfl⟩ (fun y hy=> ?_) (bG.now S rfl rfl rfl ?_ h)
 .obtain ⟨z,h1,h2,h3,h4⟩:=sQ rs (by simpa using hy) ds
  rw [jl dx h2 h3]
  exact jh (cQ xs) F.A.in1 s _ _ _ _ h4 h2 dx (by show F.A.units+1+cQ xs<cLine;exact Gi sm cl hd) h3 r
 .rw [List.any_toArray,qH dx ds rs];exact .dm _
end
section
variable {g:G} {F:Fm} {m:Loc} {H:AH} {s:Shared} {X:PX} {Q:PV}
noncomputable def nums (ns:List Int):List V:=ns.map .int
theorem yO {h:Heap}: ∀ {ns:List Int} {vs:List Value},bh h (nums ns) vs->IntsAre vs ns:=by
 intro L9
 induction L9 with
 | nil=>
  rintro _ r
  delta nums at r;rw [List.map_nil,bh.bL] at r;subst r;exact .nil
 | cons n ns ih=>
  rintro _ r
  delta nums at r;rw [List.map_cons] at r
  obtain ⟨v,r',rfl,rv,rr⟩:=r.aG
  rw [VR.aZ] at rv;obtain ⟨t,rfl⟩:=rv
  exact .cons n t (ih rr)
theorem qI {h:Heap}: ∀ {ns:List Int} {vs:List Value},IntsAre vs ns->bh h (nums ns) vs
 | _,_, .nil=> .gC
 | _,_, .cons n t r=> .cons (.fF n t) (qI r)
theorem ints_length (ns:List Int):(nums ns).length=ns.length:=by simp [nums]
theorem jT: ∀ ns:List Int,cJ (nums ns)=true:=by
 intro L9
 induction L9 with
 | nil=>
  exact rfl
 | cons n ns ih=>
  exact ih
theorem vV: ∀ ns:List Int,cQ (nums ns)=0:=by
 intro L9
 induction L9 with
 | nil=>
  exact rfl
 | cons n ns ih=>
  show max 0 (cQ (nums ns))=0;rw [ih];rfl
theorem nX: ∀ ns ms:List Int,fB (nums ns) (nums ms)=(ns == ms)
 | [],[]=>kY
 | [],_::_=>by rfl
 | _::_,[]=>by rfl
 | n::ns,k::ms=>by
  have:=nX ns ms
  unfold nums at this|-
  rw [List.map_cons,List.map_cons,nD,this,tV];rfl
theorem any_ints (x:Int) (ns:List Int):((nums ns).any fun y=>eD y (.int x))=ns.contains x:=by
 induction ns with
 | nil=>rfl
 | cons n ns ih=>
  unfold nums at ih|-
  rw [List.map_cons,List.any_cons,ih,List.contains_cons,tV]
  congr 1
  by_cases q:n=x
  .rw [q]
  .rw [beq_eq_false_iff_ne.mpr q,beq_eq_false_iff_ne.mpr (Ne.symm q)]
theorem St.mut {l:Addr} {xs ys:List V} {vs ws:List Value} {ep:Nat} {f:Array Value->Array Value} {t:Nat} (S:St g F m H s) (hl:H l=some (.list xs)) (e:s.heap.get? l=some (cp vs ep)) (hf:f vs.toArray=ws.toArray) (hr:bh s.heap ys ws):
  (1<=t->St g F m (put H l (.list ys)) { s with heap:=s.heap.update l (Obj.mapSeq f),toks:=t })/\aF F s.heap H (s.heap.update l (Obj.mapSeq f)) (put H l (.list ys)):=by
 have D:=IsL.update (show IsL s.heap l vs.toArray ep from e) f
 rw [hf] at D
 have C:oN (· =l) s.heap (s.heap.update l (Obj.mapSeq f)):= .sameBut ⟨Heap.size_update ..,fun b q=>Heap.get?_update_other _ _ (Ne.symm q)⟩ D fun oO z0 z0 e' q=>by obtain rfl:=oi e e';cases q
 refine S.set C hl ⟨ws,_,D,hr.mono fun b o i e'=>C.same b o e' fun q=> ?_⟩
 subst q;obtain rfl:=oi e e';have:=i.cls;cases this
theorem St.listAt {l:Addr} {xs:List V} (S:St g F m H s) (hl:H l=some (.list xs)):uc s.heap l xs:=(S.obj l _ hl).2
theorem LA.own {l:Addr} {xs:List V} (h:H l=some (.list xs)):LA g H l xs:= .inl h
theorem bh.snoc {h:Heap} {x:V}: ∀ {xs:List V} {vs:List Value},bh h (xs++[x]) vs-> ∃ ws v,vs=ws++[v]/\bh h xs ws/\VR h x v:=by
 intro L9
 induction L9 with
 | nil=>
  rintro _ r
  obtain ⟨v,r',rfl,rv,rr⟩:=r.aG;rw [bh.bL] at rr;subst rr;exact ⟨[],v,rfl, .gC,rv⟩
 | cons y ys ih=>
  rintro _ r
  obtain ⟨u,r',rfl,ru,rr⟩:=r.aG
  obtain ⟨ws,v,rfl,uI,rv⟩:=ih rr
  exact ⟨u::ws,v,rfl, .cons ru uI,rv⟩
theorem o_item {l:Addr} {xs:List V} {k:Int} {x:V} (hl:LA g H l xs) (h0:0<=k) (hz:k<2 ^ 60) (hx:xs[k.toNat]? =some x) (h:Q x m H):W2 g F VR (.ref l) (.int k) getItem m H Q X:=fun s v u S r r'=>by
 rw [VR.ay] at r;subst r;rw [VR.aZ] at r';obtain ⟨t,rfl⟩:=r'
 obtain ⟨vs,ep,e,rs⟩:=hl.at S
 obtain ⟨v,ev,rv⟩:=rs.getElem? hx
 exact wpAny_getItem_list (items:=vs.toArray) ⟨_,e,rfl,ep,rfl⟩ h0 (by exact KH hz) (by simpa using ev) (bG.now S rfl rfl rfl rv h)
theorem sR {l:Addr} {xs:List V} {x:V} (hl:LA g H l xs) (hx:xs[xs.length-1]? =some x) (h:Q x m H):W2 g F VR (.ref l) (.int (-1)) getItem m H Q X:=fun s v u S r r'=>by
 rw [VR.ay] at r;subst r;rw [VR.aZ] at r';obtain ⟨t,rfl⟩:=r'
 obtain ⟨vs,ep,e,rs⟩:=hl.at S
 obtain ⟨v,ev,rv⟩:=rs.getElem? hx
 have F6:=rs.length
 have:xs.length-1<xs.length:=(List.getElem?_eq_some_iff.mp hx).1
 refine wpAny_getItem_list_neg (items:=vs.toArray) (x:=v) ⟨_,e,rfl,ep,rfl⟩ (by exact RM) (by simp;exact RN F6 this) (by exact KI) ?_ (bG.now S rfl rfl rfl rv h)
 rw [show ((-1:Int)+(vs.toArray.size:Int)).toNat=xs.length-1 by simp;exact RO F6]
 simpa using ev
theorem gj {l:Addr} {xs:List V} {i:V} (hl:LA g H l xs) (h:W2 g F VR (.ref l) i getItem m H Q X):GI g F (.ref l) i m H Q X:=
 ⟨"list",_,list_getitem_lookup,fun s v S r=>by rw [VR.ay] at r;subst r;obtain ⟨vs,ep,e,_⟩:=hl.at S;exact ⟨_,e,rfl⟩,h⟩
theorem dO {l:Addr} {xs:List V} {x:V} (hl:H l=some (.list xs)) (hz:xs.length<=16000000) (h:Q .none m (put H l (.list (xs++[x])))):WC g F (.builtin "list.append") [.ref l,x] m H Q X:=HM fun s v u S r ru=>by
 rw [VR.ay] at r;subst r
 obtain ⟨vs,ep,e,rs⟩:=S.listAt hl
 obtain ⟨S',K'⟩:=S.mut (t:=s.toks) (f:=fun z=>z.push u) (ys:=xs++[x]) (ws:=vs++[u]) hl e (by simp) (rs.append (.cons ru .gC))
 exact call_meets PySem.F.slot_list_append ⟨_,e,rfl⟩ PySem.F.entry_list_append (PySem.F.args_list_append_2 _ _) (list_append l vs.toArray ep u (by rw [List.size_toArray,rs.length,sizeLine_eq];exact xd hz)) ⟨e, .none,m,_, .eS,S',K',h⟩
theorem Bs {l:Addr} {xs:List V} (hl:H l=some (.list xs)) (hz:xs.length<=16000000) (h:Q .none m (put H l (.list []))):WC g F (.builtin "list.clear") [.ref l] m H Q X:=uG fun s v S r=>by
 rw [VR.ay] at r;subst r
 obtain ⟨vs,ep,e,rs⟩:=S.listAt hl
 obtain ⟨S',K'⟩:=S.mut (t:=s.toks) (f:=fun z0=> #[]) (ys:=[]) (ws:=[]) hl e rfl .gC
 exact call_meets PySem.F.slot_list_clear ⟨_,e,rfl⟩ PySem.F.entry_list_clear (PySem.F.args_list_clear_1 _) (AutoSeq1.list_clear_list_0 l vs.toArray ep (by rw [List.size_toArray,rs.length,sizeLine_eq];exact xd hz)) ⟨e, .none,m,_, .eS,S',K',h⟩
theorem CV {l:Addr} {xs:List V} {x:V} (hl:H l=some (.list (xs++[x]))) (hz:xs.length<16000000) (h:Q x m (put H l (.list xs))):WC g F (.builtin "list.pop") [.ref l] m H Q X:=uG fun s v S r=>by
 rw [VR.ay] at r;subst r
 obtain ⟨vs,ep,e,rs⟩:=S.listAt hl
 obtain ⟨ws,v,rfl,uI,rv⟩:=rs.snoc
 have hlen:=uI.length
 obtain ⟨S',K'⟩:=S.mut (t:=s.toks) (f:=fun z=>z.eraseIdxIfInBounds ((ws++[v]).toArray.size-1)) (ys:=xs) (ws:=ws) hl e (by simp [Array.eraseIdxIfInBounds,List.eraseIdx_append_of_length_le]) uI
 refine call_meets PySem.F.slot_list_pop ⟨_,e,rfl⟩ PySem.F.entry_list_pop (PySem.F.args_list_pop_1 _) (MeetsSeq.list_pop_last l (ws++[v]).toArray ep v (by simp) (by simp [hlen,sizeLine_eq];exact JW hz)) ⟨e,x,m,_, ?_,S',K',h⟩
 exact rv.mono (K'.mono S).tup
end
section
variable {g:G} {F:Fm} {m:Loc} {H:AH} {s:Shared} {X:PX} {Q:PV}
theorem gB {l:Addr} {xs:List V} (hl:LA g H l xs) (hz:xs.length<2 ^ 60) (h:Q (.int xs.length) m H):WC g F (.builtin "len") [.ref l] m H Q X:=uG fun s v S r=>by
 rw [VR.ay] at r;subst r
 obtain ⟨vs,ep,e,rs⟩:=hl.at S
 refine call_len_list (items:=vs.toArray) ⟨_,e,rfl,ep,rfl⟩ (by rw [List.size_toArray,rs.length];exact Dw hz) (bG.now S rfl rfl rfl ?_ h)
 rw [List.size_toArray,rs.length];exact .fF _ _
theorem yP {xs:List V} (hz:xs.length<2 ^ 60) (h:Q (.int xs.length) m H):WC g F (.builtin "len") [.tup xs] m H Q X:=uG fun s v S r=>by
 replace r:=VR.cM r;obtain ⟨l,vs,ep,rfl,e,rs⟩:=r
 refine PyProof.Rows.len_tuple (items:=vs.toArray) ⟨_,e,rfl,ep,rfl⟩ (by rw [List.size_toArray,rs.length];exact Dw hz) (bG.now S rfl rfl rfl ?_ h)
 rw [List.size_toArray,rs.length];exact .fF _ _
theorem yQ {s:Shared} {a b c:Int} {t u v:Tok} {tk:Nat} (S:St g F m H s) (h:Q (.kS a b c) m H):bG g F VR Q s.heap H (.ref s.heap.objs.size) { s with heap:=s.heap.push { cls:= .type "range",data:= .fields #[.int a t, .int b u, .int c v] },toks:=tk }:=by
 obtain ⟨S',K'⟩:=S.ext (t:=tk) (h':=s.heap.push { cls:= .type "range",data:= .fields #[.int a t, .int b u, .int c v] }) (fun z0 z0 e=>Heap.get?_push_of_some _ e)
 refine ⟨.kS a b c,m,H, ?_,S',K',h⟩
 exact ⟨_,t,u,v,rfl,Heap.get?_push_size _ rfl⟩
theorem qJ {n:Int} (h:Q (.kS 0 n 1) m H):WC g F (.type "range") [.int n] m H Q X:=uG fun s v S r=>by
 rw [VR.aZ] at r;obtain ⟨t,rfl⟩:=r
 exact call_range_1 (yQ S h)
theorem yR {a b:Int} (h:Q (.kS a b 1) m H):WC g F (.type "range") [.int a, .int b] m H Q X:=HM fun s v u S r r'=>by
 rw [VR.aZ] at r r';obtain ⟨t,rfl⟩:=r;obtain ⟨t',rfl⟩:=r'
 exact call_range_2 (yQ S h)
theorem lT {s:Shared} {ys:List V} {vs:List Value} {ep:Nat} {h':Heap} {tk:Nat} {a:Addr} (S:St g F m H s) (kp: ∀ b o,s.heap.get? b=some o->h'.get? b=some o) (n:s.heap.get? a=none) (e:h'.get? a=some (cp vs ep)) (r:bh h' ys vs) (h: ∀ a,H a=none->Q (.ref a) m (put H a (.list ys))):
  bG g F VR Q s.heap H (.ref a) { s with heap:=h',toks:=tk }:=by
 obtain ⟨S',K'⟩:=S.new (t:=tk) (o':= .list ys) kp n ⟨vs,ep,e,r⟩
 exact ⟨.ref a,m,_, .ip a,S',K',h a (S.bZ n)⟩
theorem nY {l:Addr} {ys:List V} (hl:LA g H l ys) (hz:ys.length<=2 ^ 24) (h:Q (.tup ys) m H):WC g F (.type "tuple") [.ref l] m H Q X:=uG fun s v S r=>by
 rw [VR.ay] at r;subst r
 obtain ⟨vs,ep,e,rs⟩:=hl.at S
 refine call_tuple_list (items:=vs.toArray) ⟨_,e,rfl,ep,rfl⟩ (fun h' kp=> ?_) (by rw [List.size_toArray,rs.length,sizeLine_eq];exact hz)
 have A7: ∀ b o,s.heap.get? b=some o->(h'.push (dD vs 0)).get? b=some o:=fun b o q=>Heap.get?_push_of_some _ (kp b o q)
 obtain ⟨S',K'⟩:=S.ext (t:=s.toks) A7
 exact ⟨.tup ys,m,H, .rZ (S.RV kp (Nat.le_refl _)) (Heap.get?_push_size _ rfl) (rs.mono fun z0 z0 z0 q=>A7 _ _ q),S',K',h⟩
end
noncomputable def kn (h:Heap) (d:Addr) (ds:Array DictEntry) (ep:Nat):Prop:= ∃ o,h.get? d=some o/\o.cls= .type "dict"/\o.data= .dict ds ep
theorem kn.typeIs {s:Shared} {d:Addr} {ds:Array DictEntry} {ep:Nat} (x:kn s.heap d ds ep):s.TypeIs (.ref d) "dict":=(x).elim fun o cy=>cy.elim fun e eX=>eX.elim fun c z0=>⟨o,e,c⟩
noncomputable def fV (T:String) (pre:List Value) (h:Heap) (it d:Addr) (i n ep:Nat) (post:List Value):Prop:=
 h.get? it=some { cls:= .type T,dict:=none,data:= .fields (pre++(Value.ref d::Value.int i 0::Value.int n 0::Value.int ep 0::post)).toArray,slots:= #[] }
section
variable {prog:Program} {w:World} {A:Around} {E:PE} {s:Shared}
theorem yS {it d:Addr} {i ep:Nat} {ds:Array DictEntry} {Q:PO} (hit:fV "dict_keyiterator" [] s.heap it d i ds.size ep []) (hm:kn s.heap d ds ep) (hi:i<ds.size)
  (hQ: ∀ h',fV "dict_keyiterator" [] h' it d (i+1) ds.size ep []->Heap.SameBut it s.heap h'->Q (some ds[i].key) { s with heap:=h' }):wpAny (model prog w) A (pyNext (.ref it)) Q E s:=by
 obtain ⟨od,qK,_,qL⟩:=id hm
 have e0:s.heap.get? it=some { cls:= .type "dict_keyiterator",dict:=none,data:= .fields #[.ref d, .int i 0, .int ds.size 0, .int ep 0],slots:= #[] }:=hit
 have hT:s.TypeIs (.ref it) "dict_keyiterator":=⟨_,e0,rfl⟩
 refine wpAny_bind (wpAny_attempt (wpAny_callSpecial?_slot (name:=Str.ofString "__next__") hT F.slot_dict_keyiterator_next (wpAny_call_entry F.slot_dict_keyiterator_next hT F.entry_dict_keyiterator_next ?_ (F.args_dict_keyiterator_next_1 _))))
 refine wpAny_bind (wpAny_pure ?_)
 refine wpAny_bind (wpAny_bind (wpAny_bind (wpAny_typeNameOfWhole_keyiter hT (wpAny_pure ?_))))
 refine wpAny_bind (wpAny_fieldsOf e0 rfl ?_)
 simp only [show Builtin.Dict_items.ownsTuple "dict_keyiterator"=false by decide,Bool.false_eq_true,if_false,if_true]
 skip
 refine az ((show ¬ ((Value.ref d == Value.none)=true) from Bool.false_ne_true)) ?_
 refine wpAny_bind (wpAny_pure (wpAny_bind (wpAny_dictEntries qK qL ?_)))
 refine az ((by simp)) ?_
 refine wpAny_bind (wpAny_pure (wpAny_bind (wpAny_dictEpoch qK qL ?_)))
 refine az ((by simp)) ?_
 refine wpAny_pure ?_
 simp only [show ¬ ((i:Int)<0) from by exact vf,if_false,Int.toNat_natCast,Array.getElem?_eq_getElem hi]
 refine wpAny_bind (wpAny_bind (wpAny_typeNameOfWhole_keyiter hT (wpAny_pure ?_)))
 refine wpAny_bind (wpAny_isOneOf_keyiter hT ?_)
 show wpAny _ _ (setField (.ref it) 1 (rawInt ((i:Int)+1)) >>=_) _ _ s
 refine wpAny_bind (wpAny_setField_rec e0 (by simp) fun h₁ fN c9=> ?_)
 replace c9:Heap.SameBut it s.heap h₁:=c9
 have aA:fV "dict_keyiterator" [] h₁ it d (i+1) ds.size ep []:=by
  unfold fV
  rw [show h₁.get? it=_ from fN,show ((i+1:Nat):Int)=(i:Int)+1 by exact AK]
  simp [rawInt]
 refine wpAny_bind (wpAny_holding ?_)
 refine wpAny_bind (wpAny_isOneOf_keyiter (s:={ s with heap:=h₁ }) ⟨_,fN,rfl⟩ ?_)
 skip
 exact wpAny_pure (wpAny_pure ⟨_,rfl,wpAny_pure (hQ _ aA c9)⟩)
theorem Bt {it d:Addr} {ep:Nat} {ds:Array DictEntry} {Q:PO} (hh:jK A s.heap) (hn: ∀ x,A.handled=some (.ref x)->x≠it) (hit:fV "dict_keyiterator" [] s.heap it d ds.size ds.size ep []) (hm:kn s.heap d ds ep)
  (hQ: ∀ h',(∀ b o,s.heap.get? b=some o->b≠it->h'.get? b=some o)->Q none { s with heap:=h' }):wpAny (model prog w) A (pyNext (.ref it)) Q E s:=by
 obtain ⟨i,hi⟩: ∃ i,i=ds.size:=⟨_,rfl⟩
 have hit:fV "dict_keyiterator" [] s.heap it d i ds.size ep []:=(hi▸hit)
 obtain ⟨od,qK,_,qL⟩:=id hm
 have e0:s.heap.get? it=some { cls:= .type "dict_keyiterator",dict:=none,data:= .fields #[.ref d, .int i 0, .int ds.size 0, .int ep 0],slots:= #[] }:=hit
 have hT:s.TypeIs (.ref it) "dict_keyiterator":=⟨_,e0,rfl⟩
 refine wpAny_bind (wpAny_attempt (wpAny_callSpecial?_slot (name:=Str.ofString "__next__") hT F.slot_dict_keyiterator_next (wpAny_call_entry F.slot_dict_keyiterator_next hT F.entry_dict_keyiterator_next ?_ (F.args_dict_keyiterator_next_1 _))))
 refine wpAny_bind (wpAny_pure ?_)
 refine wpAny_bind (wpAny_bind (wpAny_bind (wpAny_typeNameOfWhole_keyiter hT (wpAny_pure ?_))))
 refine wpAny_bind (wpAny_fieldsOf e0 rfl ?_)
 simp only [show Builtin.Dict_items.ownsTuple "dict_keyiterator"=false by decide,Bool.false_eq_true,if_false,if_true]
 skip
 refine az ((show ¬ ((Value.ref d == Value.none)=true) from Bool.false_ne_true)) ?_
 refine wpAny_bind (wpAny_pure (wpAny_bind (wpAny_dictEntries qK qL ?_)))
 refine az ((by simp)) ?_
 refine wpAny_bind (wpAny_pure (wpAny_bind (wpAny_dictEpoch qK qL ?_)))
 refine az ((by simp)) ?_
 refine wpAny_pure ?_
 simp only [show ¬ ((i:Int)<0) from by exact vf,if_false,Int.toNat_natCast,Array.getElem?_eq_none (show ds.size<=i by exact Du hi)]
 refine wpAny_bind (wpAny_bind (wpAny_typeNameOfWhole_keyiter hT (wpAny_pure ?_)))
 show wpAny _ _ (setField (.ref it) 0 .none >>=_) _ _ s
 refine wpAny_bind (wpAny_setField_rec e0 (by simp) fun h₁ fN c9=> ?_)
 replace c9:Heap.SameBut it s.heap h₁:=c9
 exact gK (it:=it) (hh.same hn c9) rfl fun h' k=>hQ h' fun b o e n=>k b o ((c9.2 b n).trans e)
theorem yT {it d:Addr} {i ep:Nat} {ds:Array DictEntry} {Q:PO} (hit:fV "dict_valueiterator" [] s.heap it d i ds.size ep []) (hm:kn s.heap d ds ep) (hi:i<ds.size)
  (hQ: ∀ h',fV "dict_valueiterator" [] h' it d (i+1) ds.size ep []->Heap.SameBut it s.heap h'->Q (some ds[i].val) { s with heap:=h' }):wpAny (model prog w) A (pyNext (.ref it)) Q E s:=by
 obtain ⟨od,qK,_,qL⟩:=id hm
 have e0:s.heap.get? it=some { cls:= .type "dict_valueiterator",dict:=none,data:= .fields #[.ref d, .int i 0, .int ds.size 0, .int ep 0],slots:= #[] }:=hit
 have hT:s.TypeIs (.ref it) "dict_valueiterator":=⟨_,e0,rfl⟩
 refine wpAny_bind (wpAny_attempt (wpAny_callSpecial?_slot (name:=Str.ofString "__next__") hT F.slot_dict_valueiterator_next (wpAny_call_entry F.slot_dict_valueiterator_next hT F.entry_dict_valueiterator_next ?_ (F.args_dict_valueiterator_next_1 _))))
 refine wpAny_bind (wpAny_pure ?_)
 refine wpAny_bind (wpAny_bind (wpAny_bind (wpAny_typeNameOfWhole_valiter hT (wpAny_pure ?_))))
 refine wpAny_bind (wpAny_fieldsOf e0 rfl ?_)
 simp only [show Builtin.Dict_items.ownsTuple "dict_valueiterator"=false by decide,Bool.false_eq_true,if_false,if_true]
 skip
 refine az ((show ¬ ((Value.ref d == Value.none)=true) from Bool.false_ne_true)) ?_
 refine wpAny_bind (wpAny_pure (wpAny_bind (wpAny_dictEntries qK qL ?_)))
 refine az ((by simp)) ?_
 refine wpAny_bind (wpAny_pure (wpAny_bind (wpAny_dictEpoch qK qL ?_)))
 refine az ((by simp)) ?_
 refine wpAny_pure ?_
 simp only [show ¬ ((i:Int)<0) from by exact vf,if_false,Int.toNat_natCast,Array.getElem?_eq_getElem hi]
 refine wpAny_bind (wpAny_bind (wpAny_typeNameOfWhole_valiter hT (wpAny_pure ?_)))
 refine wpAny_bind (wpAny_isOneOf_valiter hT ?_)
 show wpAny _ _ (setField (.ref it) 1 (rawInt ((i:Int)+1)) >>=_) _ _ s
 refine wpAny_bind (wpAny_setField_rec e0 (by simp) fun h₁ fN c9=> ?_)
 replace c9:Heap.SameBut it s.heap h₁:=c9
 have aA:fV "dict_valueiterator" [] h₁ it d (i+1) ds.size ep []:=by
  unfold fV
  rw [show h₁.get? it=_ from fN,show ((i+1:Nat):Int)=(i:Int)+1 by exact AK]
  simp [rawInt]
 refine wpAny_bind (wpAny_holding ?_)
 refine wpAny_bind (wpAny_isOneOf_valiter (s:={ s with heap:=h₁ }) ⟨_,fN,rfl⟩ ?_)
 refine wpAny_bind (wpAny_isOneOf_valiter (s:={ s with heap:=h₁ }) ⟨_,fN,rfl⟩ ?_)
 skip
 exact wpAny_pure (wpAny_pure ⟨_,rfl,wpAny_pure (hQ _ aA c9)⟩)
theorem Bu {it d:Addr} {ep:Nat} {ds:Array DictEntry} {Q:PO} (hh:jK A s.heap) (hn: ∀ x,A.handled=some (.ref x)->x≠it) (hit:fV "dict_valueiterator" [] s.heap it d ds.size ds.size ep []) (hm:kn s.heap d ds ep)
  (hQ: ∀ h',(∀ b o,s.heap.get? b=some o->b≠it->h'.get? b=some o)->Q none { s with heap:=h' }):wpAny (model prog w) A (pyNext (.ref it)) Q E s:=by
 obtain ⟨i,hi⟩: ∃ i,i=ds.size:=⟨_,rfl⟩
 have hit:fV "dict_valueiterator" [] s.heap it d i ds.size ep []:=(hi▸hit)
 obtain ⟨od,qK,_,qL⟩:=id hm
 have e0:s.heap.get? it=some { cls:= .type "dict_valueiterator",dict:=none,data:= .fields #[.ref d, .int i 0, .int ds.size 0, .int ep 0],slots:= #[] }:=hit
 have hT:s.TypeIs (.ref it) "dict_valueiterator":=⟨_,e0,rfl⟩
 refine wpAny_bind (wpAny_attempt (wpAny_callSpecial?_slot (name:=Str.ofString "__next__") hT F.slot_dict_valueiterator_next (wpAny_call_entry F.slot_dict_valueiterator_next hT F.entry_dict_valueiterator_next ?_ (F.args_dict_valueiterator_next_1 _))))
 refine wpAny_bind (wpAny_pure ?_)
 refine wpAny_bind (wpAny_bind (wpAny_bind (wpAny_typeNameOfWhole_valiter hT (wpAny_pure ?_))))
 refine wpAny_bind (wpAny_fieldsOf e0 rfl ?_)
 simp only [show Builtin.Dict_items.ownsTuple "dict_valueiterator"=false by decide,Bool.false_eq_true,if_false,if_true]
 skip
 refine az ((show ¬ ((Value.ref d == Value.none)=true) from Bool.false_ne_true)) ?_
 refine wpAny_bind (wpAny_pure (wpAny_bind (wpAny_dictEntries qK qL ?_)))
 refine az ((by simp)) ?_
 refine wpAny_bind (wpAny_pure (wpAny_bind (wpAny_dictEpoch qK qL ?_)))
 refine az ((by simp)) ?_
 refine wpAny_pure ?_
 simp only [show ¬ ((i:Int)<0) from by exact vf,if_false,Int.toNat_natCast,Array.getElem?_eq_none (show ds.size<=i by exact Du hi)]
 refine wpAny_bind (wpAny_bind (wpAny_typeNameOfWhole_valiter hT (wpAny_pure ?_)))
 show wpAny _ _ (setField (.ref it) 0 .none >>=_) _ _ s
 refine wpAny_bind (wpAny_setField_rec e0 (by simp) fun h₁ fN c9=> ?_)
 replace c9:Heap.SameBut it s.heap h₁:=c9
 exact gK (it:=it) (hh.same hn c9) rfl fun h' k=>hQ h' fun b o e n=>k b o ((c9.2 b n).trans e)
theorem next_item {it d:Addr} {i ep:Nat} {ds:Array DictEntry} {ok ov:Value} {Q:PO} (hit:fV "dict_itemiterator" [.none, .bool false] s.heap it d i ds.size ep [ok,ov]) (hm:kn s.heap d ds ep) (hi:i<ds.size)
  (hQ: ∀ h',fV "dict_itemiterator" [rawInt s.heap.objs.size, .bool false] h' it d (i+1) ds.size ep [ds[i].key,ds[i].val]->h'.get? s.heap.objs.size=some (dD [ds[i].key,ds[i].val] 0)->(∀ b o,s.heap.get? b=some o->b≠it->h'.get? b=some o)->Q (some (.ref s.heap.objs.size)) { s with heap:=h' }):wpAny (model prog w) A (pyNext (.ref it)) Q E s:=by
 obtain ⟨od,qK,_,qL⟩:=id hm
 have e0:s.heap.get? it=some { cls:= .type "dict_itemiterator",dict:=none,data:= .fields #[.none, .bool false, .ref d, .int i 0, .int ds.size 0, .int ep 0,ok,ov],slots:= #[] }:=hit
 have hT:s.TypeIs (.ref it) "dict_itemiterator":=⟨_,e0,rfl⟩
 refine wpAny_bind (wpAny_attempt (wpAny_callSpecial?_slot (name:=Str.ofString "__next__") hT F.slot_dict_itemiterator_next (wpAny_call_entry F.slot_dict_itemiterator_next hT F.entry_dict_itemiterator_next ?_ (F.args_dict_itemiterator_next_1 _))))
 refine wpAny_bind (wpAny_pure ?_)
 refine wpAny_bind (wpAny_bind (wpAny_bind (wpAny_typeNameOfWhole_itemiter hT (wpAny_pure ?_))))
 refine wpAny_bind (wpAny_fieldsOf e0 rfl ?_)
 simp only [show Builtin.Dict_items.ownsTuple "dict_itemiterator"=true by decide,Bool.false_eq_true,if_false,if_true]
 skip
 refine az ((show ¬ ((Value.ref d == Value.none)=true) from Bool.false_ne_true)) ?_
 refine wpAny_bind (wpAny_pure (wpAny_bind (wpAny_dictEntries qK qL ?_)))
 refine az ((by simp)) ?_
 refine wpAny_bind (wpAny_pure (wpAny_bind (wpAny_dictEpoch qK qL ?_)))
 refine az ((by simp)) ?_
 refine wpAny_pure ?_
 simp only [show ¬ ((i:Int)<0) from by exact vf,if_false,Int.toNat_natCast,Array.getElem?_eq_getElem hi]
 refine wpAny_bind (wpAny_bind (wpAny_typeNameOfWhole_itemiter hT (wpAny_pure ?_)))
 refine wpAny_bind (wpAny_isOneOf_itemiter hT ?_)
 show wpAny _ _ (setField (.ref it) 3 (rawInt ((i:Int)+1)) >>=_) _ _ s
 refine wpAny_bind (wpAny_setField_rec e0 (by simp) fun h₁ fN c9=> ?_)
 replace c9:Heap.SameBut it s.heap h₁:=c9
 replace fN:h₁.get? it=some { cls:= .type "dict_itemiterator",dict:=none,data:= .fields #[.none, .bool false, .ref d, .int ((i+1:Nat):Int) 0, .int ds.size 0, .int ep 0,ok,ov],slots:= #[] }:=by
  rw [show ((i+1:Nat):Int)=(i:Int)+1 by exact AK];simpa [rawInt] using fN
 refine wpAny_bind (wpAny_holding ?_)
 refine wpAny_bind (wpAny_isOneOf_itemiter (s:={ s with heap:=h₁ }) ⟨_,fN,rfl⟩ ?_)
 refine wpAny_bind (wpAny_isOneOf_itemiter (s:={ s with heap:=h₁ }) ⟨_,fN,rfl⟩ ?_)
 skip
 generalize ds[i].key=key at hQ|-
 generalize ds[i].val=val at hQ|-
 have yU:h₁.objs.size=s.heap.objs.size:=c9.1
 have ltI:it<s.heap.objs.size:=Heap.lt_size e0
 refine wpAny_bind (wpAny_newTuple ?_)
 have mU:(h₁.push { cls:= .type "tuple",data:= .seq #[key,val] }).get? s.heap.objs.size=some (dD [key,val] 0):=((yU.symm)▸Heap.get?_push_size _ rfl)
 have mS:(h₁.push { cls:= .type "tuple",data:= .seq #[key,val] }).get? it=_:=Heap.get?_push_of_some _ fN
 have k₂: ∀ b o,s.heap.get? b=some o->b≠it->(h₁.push { cls:= .type "tuple",data:= .seq #[key,val] }).get? b=some o:=fun b o e n=>Heap.get?_push_of_some _ ((c9.2 b n).trans e)
 skip
 rw [show ({ s with heap:=h₁ }:Shared).heap.objs.size=s.heap.objs.size from yU]
 generalize h₁.push { cls:= .type "tuple",data:= .seq #[key,val] }=bB at mU mS k₂|-
 clear fN c9 yU
 refine wpAny_bind ?_
 refine wpAny_bind (wpAny_field (s:={ s with heap:=bB }) mS rfl (x:= .none) rfl (wpAny_pure ?_))
 refine bD rfl ?_
 refine wpAny_bind (wpAny_field (s:={ s with heap:=bB }) mS rfl (x:=ok) rfl (wpAny_bind (wpAny_field (s:={ s with heap:=bB }) mS rfl (x:=ov) rfl ?_)))
 refine wpAny_bind (wpAny_setField_rec (s:={ s with heap:=bB }) mS (by simp) fun fC NP Ep=> ?_)
 refine wpAny_bind (wpAny_setField_rec (s:={ s with heap:=fC }) NP (by simp) fun gE NQ Er=> ?_)
 refine wpAny_bind (wpAny_setField_rec (s:={ s with heap:=gE }) NQ (by simp) fun yr NR Es=> ?_)
 refine wpAny_bind (wpAny_setField_rec (s:={ s with heap:=yr }) NR (by simp) fun Bv NS Et=> ?_)
 replace Ep:Heap.SameBut it bB fC:=Ep
 replace Er:Heap.SameBut it fC gE:=Er
 replace Es:Heap.SameBut it gE yr:=Es
 replace Et:Heap.SameBut it yr Bv:=Et
 have up: ∀ b o,bB.get? b=some o->b≠it->Bv.get? b=some o:=fun b o e n=>(Et.2 b n).trans ((Es.2 b n).trans ((Er.2 b n).trans ((Ep.2 b n).trans e)))
 refine wpAny_bind (wpAny_letGo (wpAny_pure (wpAny_pure ⟨_,rfl,wpAny_pure (hQ Bv ?_ (up _ _ mU (Nat.ne_of_gt ltI)) fun b o e n=>up b o (k₂ b o e n) n)⟩)))
 unfold fV
 rw [show Bv.get? it=_ from NS]
 simp [Array.setIfInBounds,rawInt]
theorem yV {it d:Addr} {ep:Nat} {ds:Array DictEntry} {ok ov:Value} {Q:PO} (hh:jK A s.heap) (hn: ∀ x,A.handled=some (.ref x)->x≠it) (hit:fV "dict_itemiterator" [.none, .bool false] s.heap it d ds.size ds.size ep [ok,ov]) (hm:kn s.heap d ds ep)
  (hQ: ∀ h',(∀ b o,s.heap.get? b=some o->b≠it->h'.get? b=some o)->Q none { s with heap:=h' }):wpAny (model prog w) A (pyNext (.ref it)) Q E s:=by
 obtain ⟨i,hi⟩: ∃ i,i=ds.size:=⟨_,rfl⟩
 have hit:fV "dict_itemiterator" [.none, .bool false] s.heap it d i ds.size ep [ok,ov]:=(hi▸hit)
 obtain ⟨od,qK,_,qL⟩:=id hm
 have e0:s.heap.get? it=some { cls:= .type "dict_itemiterator",dict:=none,data:= .fields #[.none, .bool false, .ref d, .int i 0, .int ds.size 0, .int ep 0,ok,ov],slots:= #[] }:=hit
 have hT:s.TypeIs (.ref it) "dict_itemiterator":=⟨_,e0,rfl⟩
 refine wpAny_bind (wpAny_attempt (wpAny_callSpecial?_slot (name:=Str.ofString "__next__") hT F.slot_dict_itemiterator_next (wpAny_call_entry F.slot_dict_itemiterator_next hT F.entry_dict_itemiterator_next ?_ (F.args_dict_itemiterator_next_1 _))))
 refine wpAny_bind (wpAny_pure ?_)
 refine wpAny_bind (wpAny_bind (wpAny_bind (wpAny_typeNameOfWhole_itemiter hT (wpAny_pure ?_))))
 refine wpAny_bind (wpAny_fieldsOf e0 rfl ?_)
 simp only [show Builtin.Dict_items.ownsTuple "dict_itemiterator"=true by decide,Bool.false_eq_true,if_false,if_true]
 skip
 refine az ((show ¬ ((Value.ref d == Value.none)=true) from Bool.false_ne_true)) ?_
 refine wpAny_bind (wpAny_pure (wpAny_bind (wpAny_dictEntries qK qL ?_)))
 refine az ((by simp)) ?_
 refine wpAny_bind (wpAny_pure (wpAny_bind (wpAny_dictEpoch qK qL ?_)))
 refine az ((by simp)) ?_
 refine wpAny_pure ?_
 simp only [show ¬ ((i:Int)<0) from by exact vf,if_false,Int.toNat_natCast,Array.getElem?_eq_none (show ds.size<=i by exact Du hi)]
 refine wpAny_bind (wpAny_bind (wpAny_typeNameOfWhole_itemiter hT (wpAny_pure ?_)))
 show wpAny _ _ (setField (.ref it) 2 .none >>=_) _ _ s
 refine wpAny_bind (wpAny_setField_rec e0 (by simp) fun h₁ fN c9=> ?_)
 replace c9:Heap.SameBut it s.heap h₁:=c9
 exact gK (it:=it) (hh.same hn c9) rfl fun h' k=>hQ h' fun b o e n=>k b o ((c9.2 b n).trans e)
end
section
variable {prog:Program} {w:World} {A:Around} {E:PE} {s:Shared} {d:Addr} {ds:Array DictEntry} {ep:Nat}
theorem kM {c:String} {v:Addr} (e:s.heap.get? v=some (fD c d)):s.TypeIs (.ref v) c:=⟨_,e,rfl⟩
theorem vW {Q:PE} (hd:(d == sysModules)=false) (hm:kn s.heap d ds ep)
  (h:Q (.ref s.heap.objs.size) { s with heap:=s.heap.push { cls:= .type "dict_keyiterator",data:= .fields #[.ref d, .int 0 0, .int ds.size 0, .int ep 0] } }):wpAny (model prog w) A (pyIter (.ref d)) Q E s:=by
 have hT:=hm.typeIs
 obtain ⟨o,ho,_,qM⟩:=id hm
 refine wpAny_pyIter_slot hT F.slot_dict_iter (wpAny_call_entry F.slot_dict_iter hT F.entry_dict_iter ?_ (F.args_dict_iter_1 _))
 refine wpAny_bind (wpAny_bind (wpAny_notOrdered_dict hT ?_))
 show wpAny _ _ (pure (Value.ref d)) _ _ s
 refine wpAny_pure ?_
 show wpAny _ _ (Builtin.Dict.showsAll d >>=_) _ _ s
 delta Builtin.Dict.showsAll
 rw [if_neg (by rw [hd];exact Bool.false_ne_true)]
 refine wpAny_bind (wpAny_pure (wpAny_bind (wpAny_dictEntries ho qM (wpAny_bind (wpAny_dictEpoch ho qM ?_)))))
 exact wpAny_bind (wpAny_newObj_type (wpAny_pure ⟨_,rfl,"dict_keyiterator",_,⟨_,Heap.get?_push_size _ rfl,rfl⟩,F.slot_dict_keyiterator_next.lookup,h⟩))
theorem vX {v:Addr} {Q:PE} (e:s.heap.get? v=some (fD "dict_values" d)) (hm:kn s.heap d ds ep)
  (h:Q (.ref s.heap.objs.size) { s with heap:=s.heap.push { cls:= .type "dict_valueiterator",data:= .fields #[.ref d, .int 0 0, .int ds.size 0, .int ep 0] } }):wpAny (model prog w) A (pyIter (.ref v)) Q E s:=by
 obtain ⟨o,ho,_,qM⟩:=id hm
 refine wpAny_pyIter_slot (kM e) F.slot_dict_values_iter (wpAny_call_entry F.slot_dict_values_iter (kM e) F.entry_dict_values_iter ?_ (F.args_dict_values_iter_1 _))
 refine wpAny_bind (wpAny_pure (wpAny_bind (wpAny_bind (wpAny_field e rfl (x:= .ref d) rfl (wpAny_pure ?_)))))
 refine wpAny_bind ?_
 refine wpAny_bind (wpAny_dictEntries ho qM (wpAny_bind (wpAny_dictEpoch ho qM ?_)))
 simp only [show Builtin.Dict_items.ownsTuple "dict_valueiterator"=false by decide,Bool.false_eq_true,if_false]
 exact wpAny_newObj_type (wpAny_pure ⟨_,rfl,"dict_valueiterator",_,⟨_,Heap.get?_push_size _ rfl,rfl⟩,F.slot_dict_valueiterator_next.lookup,h⟩)
theorem yW {v:Addr} {Q:PE} (e:s.heap.get? v=some (fD "dict_items" d)) (hm:kn s.heap d ds ep)
  (h:Q (.ref s.heap.objs.size) { s with heap:=s.heap.push { cls:= .type "dict_itemiterator",data:= .fields #[.none, .bool false, .ref d, .int 0 0, .int ds.size 0, .int ep 0, .none, .none] } }):wpAny (model prog w) A (pyIter (.ref v)) Q E s:=by
 obtain ⟨o,ho,_,qM⟩:=id hm
 refine wpAny_pyIter_slot (kM e) F.slot_dict_items_iter (wpAny_call_entry F.slot_dict_items_iter (kM e) F.entry_dict_items_iter ?_ (F.args_dict_items_iter_1 _))
 refine wpAny_bind (wpAny_pure (wpAny_bind (wpAny_bind (wpAny_field e rfl (x:= .ref d) rfl (wpAny_pure ?_)))))
 refine wpAny_bind ?_
 refine wpAny_bind (wpAny_dictEntries ho qM (wpAny_bind (wpAny_dictEpoch ho qM ?_)))
 simp only [show Builtin.Dict_items.ownsTuple "dict_itemiterator"=true by decide,if_true]
 exact wpAny_newObj_type (wpAny_pure ⟨_,rfl,"dict_itemiterator",_,⟨_,Heap.get?_push_size _ rfl,rfl⟩,F.slot_dict_itemiterator_next.lookup,h⟩)
  (by simp only [sizeOk,Builtin.Dict_items.ownedTupleFields,List.size_toArray,List.length_append,List.length_cons,List.length_nil,sizeLine_eq];exact Ke)
theorem nZ {c:String} {K:Builtin} (hd:(d == sysModules)=false) (hT:s.TypeIs (.ref d) "dict") {Q:Fin->Shared->Prop} {nm:String}
  (h:Q (.done (.ret (.ref s.heap.objs.size))) { s with heap:=s.heap.push (fD c d) }):wpAny (model prog w) A (do
   let d <- Builtin.Dict.noArgs nm ⟨[.ref d],[]⟩
   Builtin.Dict.showsAll d
   ret (<- newFields c [.ref d])) Q E s:=by
 refine wpAny_bind (wpAny_bind (wpAny_notOrdered_dict hT ?_))
 skip
 refine wpAny_pure ?_
 delta Builtin.Dict.showsAll
 rw [if_neg (by rw [hd];exact Bool.false_ne_true)]
 refine wpAny_bind (wpAny_pure ?_)
 exact wpAny_bind (wpAny_newObj_type (wpAny_pure h))
end
section
variable {g:G} {F:Fm} {m:Loc} {H:AH} {s:Shared} {X:PX} {Q:PV}
theorem cE.raw {P:Params} {h:Heap} {d:Addr} {es:List (Int×V)} {ep:Nat} (D:cE P h d es ep): ∃ ds,kn h d ds ep/\ds.size=es.length/\ ∀ i (hi:i<ds.size), ∃ e,es[i]? =some e/\VR h (cd e.1) ds[i].key/\VR h e.2 ds[i].val:=by
 obtain ⟨o,ds,ho,hc,hd,er,nd⟩:=D
 have sz:ds.size=es.length:=by have:=pf er;simpa using this
 refine ⟨ds,⟨o,ho,hc.1,hd⟩,sz,fun i hi=> ?_⟩
 have eB:i<es.length:=by exact Gl sz hi
 obtain ⟨key,v,e1,e2,e3⟩:=uz er (List.getElem?_eq_getElem eB)
 rw [Array.getElem?_toList,Array.getElem?_eq_getElem hi] at e1
 have e1:=Option.some.inj e1
 exact ⟨es[i],List.getElem?_eq_getElem eB,by rw [e1];exact e2,by rw [e1];exact e3⟩
theorem St.jn {d:Addr} {o:O} (S:St g F m H s) (hd:H d=some o):(d == sysModules)=false:=by
 have h1:=(S.obj d o hd).1
 obtain ⟨x,hx⟩:=g.vk
 refine beq_eq_false_iff_ne.mpr fun q=> ?_
 subst q;exact nomatch (hx.symm.trans h1)
theorem pA {it:Addr} {h h':Heap} {o:Obj} {c:String} (e:h.get? it=some o) (hc:o.cls= .type c) (hi:ig (.type c)=false) (hs: ∀ b o,h.get? b=some o->b≠it->h'.get? b=some o): ∀ a o,eW a o->h.get? a=some o->h'.get? a=some o:=fun a o' im ea=>
 hs a o' ea fun q=>by subst q;obtain rfl:=oi e ea;have:=im.cls;rw [hc,hi] at this;cases this
theorem Bw {d:Addr} {es:List (Int×V)} {ep:Nat}:bS g (.ref d) es.length (fun i=>cd (es.getD i (0, .none)).1) (fun H=>H d=some (.dict es ep)):=fun F m H s v S c r Q E h=>by
 rw [VR.ay] at r;subst r
 obtain ⟨ds,R,sz,_⟩:=cE.raw (S.obj d _ c).2
 have yX:g.B.get? s.heap.objs.size=none:=(S.lt (Nat.le_refl _)).2.1
 refine vW (S.jn c) R (h _ (fun i h=>fV "dict_keyiterator" [] h s.heap.objs.size d i es.length ep []) (fun F' hh=> ?_) rfl (((sz.symm)▸Heap.get?_push_size _ rfl)))
 refine .plain (S.wZ (Nat.le_refl _)) (fun i h e=>⟨_,_,_,e,rfl,rfl,rfl,rfl⟩) (fun i h h' e q z0=>q.trans e) (fun i m H s Q E hi S p c hq=> ?_) (fun i s Q E p h=> ?_) (fun m H s Q E S p c hq=> ?_)
 .obtain ⟨ds,R,sz,at'⟩:=cE.raw (S.obj d _ c).2
  obtain ⟨e,e1,e2,_⟩:=at' i (by exact Cx sz hi)
  rw [<- sz] at p
  refine yS p R (by exact Cx sz hi) fun h' p' hs=>hq h' s.toks _ ?_ (((sz.symm)▸p')) (fun c o' e' n=>(hs.2 c n).trans e')
  rw [List.getD_eq_getElem?_getD,e1]
  exact e2.mono (pA p rfl rfl fun b o e n=>(hs.2 b n).trans e)
 .refine wpAny_pyIter_slot ⟨_,p,rfl⟩ PySem.F.slot_dict_keyiterator_iter (wpAny_call_entry PySem.F.slot_dict_keyiterator_iter ⟨_,p,rfl⟩ PySem.F.entry_dict_keyiterator_iter ?_ (PySem.F.args_dict_keyiterator_iter_1 _))
  exact wpAny_pure ⟨_,rfl,_,_,⟨_,p,rfl⟩,PySem.F.slot_dict_keyiterator_next.lookup,h⟩
 .obtain ⟨ds,R,sz,_⟩:=cE.raw (S.obj d _ c).2
  rw [<- sz] at p
  exact Bt (hh.at S) (hh.ne yX) p R fun h' hs=>hq h' s.toks hs
theorem vY {d:Addr} {es:List (Int×V)} {ep:Nat}:bS g (.view "dict_values" d) es.length (fun i=>(es.getD i (0, .none)).2) (fun H=>H d=some (.dict es ep)):=fun F m H s v S c r Q E h=>by
 obtain ⟨w,rfl,_,ew⟩:=r
 obtain ⟨ds,R,sz,_⟩:=cE.raw (S.obj d _ c).2
 have yX:g.B.get? s.heap.objs.size=none:=(S.lt (Nat.le_refl _)).2.1
 refine vX ew R (h _ (fun i h=>fV "dict_valueiterator" [] h s.heap.objs.size d i es.length ep []) (fun F' hh=> ?_) rfl (((sz.symm)▸Heap.get?_push_size _ rfl)))
 refine .plain (S.wZ (Nat.le_refl _)) (fun i h e=>⟨_,_,_,e,rfl,rfl,rfl,rfl⟩) (fun i h h' e q z0=>q.trans e) (fun i m H s Q E hi S p c hq=> ?_) (fun i s Q E p h=> ?_) (fun m H s Q E S p c hq=> ?_)
 .obtain ⟨ds,R,sz,at'⟩:=cE.raw (S.obj d _ c).2
  obtain ⟨e,e1,_,e2⟩:=at' i (by exact Cx sz hi)
  rw [<- sz] at p
  refine yT p R (by exact Cx sz hi) fun h' p' hs=>hq h' s.toks _ ?_ (((sz.symm)▸p')) (fun c o' e' n=>(hs.2 c n).trans e')
  rw [List.getD_eq_getElem?_getD,e1]
  exact e2.mono (pA p rfl rfl fun b o e n=>(hs.2 b n).trans e)
 .exact wpAny_pyIter_valiter (i:=i) (n:=es.length) (ep:=ep) (d:=d) ⟨_,p,rfl,rfl⟩ h
 .obtain ⟨ds,R,sz,_⟩:=cE.raw (S.obj d _ c).2
  rw [<- sz] at p
  exact Bu (hh.at S) (hh.ne yX) p R fun h' hs=>hq h' s.toks hs
theorem lU:entryFor table "dict_itemiterator.__iter__"=some Builtin.«dict_keyiterator.__iter__»:=
 entryFor_alias (id':="dict_keyiterator.__iter__") (by kernel_rfl) (by first | rfl | decide+kernel | (simp+decide [String.splitOnAux])) (by decide+kernel) (by kernel_rfl)
set_option tactic.hygienic true in
theorem yY {d:Addr} {es:List (Int×V)} {ep:Nat}:fh g A8 (.view "dict_items" d) es.length (fun i=> .tup [cd (es.getD i (0, .none)).1,(es.getD i (0, .none)).2]) (fun H=>H d=some (.dict es ep)):=fun F m H s v S c r Q E h=>by
 obtain ⟨w,rfl,_,ew⟩:=r
 obtain ⟨ds,R,sz,_⟩:=cE.raw (S.obj d _ c).2
 have yX:g.B.get? s.heap.objs.size=none:=(S.lt (Nat.le_refl _)).2.1
 refine yW ew R (h _ (fun i h=> ∃ ok ov,fV "dict_itemiterator" [.none, .bool false] h s.heap.objs.size d i es.length ep [ok,ov]) (fun F' hh=> ?_) rfl ⟨.none, .none,by rw [<- sz];exact Heap.get?_push_size _ rfl⟩)
 have hk:oK s.heap.objs.size:=S.wZ (Nat.le_refl _)
 refine ⟨fun i h cy=>cy.elim fun ok eX=>eX.elim fun ov e=>one ⟨_,e,fun z0 z0 q=>(by cases q),fun z0 q=>(by cases q),fun z=>(by have:=z.cls;cases this)⟩,fun i h h' iL q z0=>iL.elim fun ok mR=>mR.elim fun ov e=>⟨ok,ov,(q _ (List.mem_singleton_self _)).trans e⟩,fun i m H s Q E hi S p c hq=> ?_,fun i s Q E p h=> ?_,fun m H s Q E S p c hq=> ?_⟩
 .obtain ⟨ok,ov,p⟩:=p
  obtain ⟨ds,R,sz,at'⟩:=cE.raw (S.obj d _ c).2
  obtain ⟨e,e1,e2,e3⟩:=at' i (by exact Cx sz hi)
  rw [<- sz] at p
  refine next_item p R (by exact Cx sz hi) fun h' p' t' hs=>hq h' s.toks _ fun target ht Q' E' k=> ?_
  obtain ⟨elts,cx,pos,rfl⟩:=uh ht
  refine wpAny_letOwnedTupleGo_items (s:={ s with heap:=h',toks:=s.toks }) p' fun vm SH HU=> ?_
  have lt:=Heap.lt_size (show s.heap.get? _=some _ from p)
  have up: ∀ b o,s.heap.get? b=some o->b≠_->vm.get? b=some o:=fun b o e n=>(HU.2 b n).trans (hs b o e n)
  have im:=pA p rfl rfl up
  refine k vm ?_ ⟨_,_,by rw [<- sz];exact SH⟩ fun c o' e' n=>up c o' e' fun z=>n (by rw [z];exact List.mem_singleton_self _)
  rw [List.getD_eq_getElem?_getD,e1]
  exact .rZ (S.wZ (Nat.le_refl _)) ((HU.2 _ (Nat.ne_of_gt lt)).trans t') (.cons (e2.mono im) (.cons (e3.mono im) .gC))
 .obtain ⟨ok,ov,p⟩:=p
  refine wpAny_pyIter_slot ⟨_,p,rfl⟩ PySem.F.slot_dict_itemiterator_iter (wpAny_call_entry PySem.F.slot_dict_itemiterator_iter ⟨_,p,rfl⟩ lU ?_ (PySem.F.args_dict_itemiterator_iter_1 _))
  exact wpAny_pure ⟨_,rfl,_,_,⟨_,p,rfl⟩,PySem.F.slot_dict_itemiterator_next.lookup,h⟩
 .obtain ⟨ok,ov,p⟩:=p
  obtain ⟨ds,R,sz,_⟩:=cE.raw (S.obj d _ c).2
  rw [<- sz] at p
  exact yV (hh.at S) (hh.ne yX) p R fun h' hs=>hq h' s.toks (fun c o' e' n=>hs c o' e' fun z=>n (by rw [z];exact List.mem_singleton_self _)) (one (.inl hk))
theorem St.dictAt {d:Addr} {es:List (Int×V)} {ep:Nat} (S:St g F m H s) (hd:H d=some (.dict es ep)):cE g.w.params s.heap d es ep:=(S.obj d _ hd).2
theorem j5 (S:St g F m H s):F.A.units+2000<cLine:=by
 have h:=S.room
 rw [show cLine=9900 from rfl]
 exact K8 h
theorem cE.typ {d:Addr} {es:List (Int×V)} {ep:Nat} {P:Params} (D:cE P s.heap d es ep):s.TypeIs (.ref d) "dict":=D.casesOn fun o z0 ho hc z0 z0 z0=>⟨o,ho,hc.1⟩
theorem yZ {c:String} {id nm:String} {B:Builtin} {d:Addr} {es:List (Int×V)} {ep:Nat} (hc:i3.contains c=true) (hd:H d=some (.dict es ep)) (h:Q (.view c d) m H)
  (HV: ∀ (A:Around) (s:Shared) (Q':PE) (E:PE),(d == sysModules)=false->s.TypeIs (.ref d) "dict"->Q' (.ref s.heap.objs.size) { s with heap:=s.heap.push (fD c d) }->wpAny (model g.prog g.w) A (call (.builtin id) [.ref d]) Q' E s):WC g F (.builtin id) [.ref d] m H Q X:=uG fun s v S r=>by
 rw [VR.ay] at r;subst r
 obtain ⟨S',K'⟩:=S.ext (t:=s.toks) (h':=s.heap.push (fD c d)) (fun z0 z0 e=>Heap.get?_push_of_some _ e)
 refine HV _ _ _ _ (S.jn hd) (S.dictAt hd).typ ⟨.view c d,m,H, ?_,S',K',h⟩
 exact ⟨_,rfl,hc,Heap.get?_push_size _ rfl⟩
theorem y8 {d:Addr} {es:List (Int×V)} {ep:Nat} (hd:H d=some (.dict es ep)) (h:Q (.view "dict_values" d) m H):WC g F (.builtin "dict.values") [.ref d] m H Q X:=
 yZ (nm:="values") (B:=Builtin.«dict.values») (rfl) hd h fun A s Q' E nm hT k=>wpAny_call_entry PySem.F.slot_dict_values hT PySem.F.entry_dict_values (nZ (c:="dict_values") (nm:="values") (K:=Builtin.«dict.values») nm hT ⟨_,rfl,k⟩) (PySem.F.args_dict_values_1 _)
theorem Bx {d:Addr} {es:List (Int×V)} {ep:Nat} (hd:H d=some (.dict es ep)) (h:Q (.view "dict_items" d) m H):WC g F (.builtin "dict.items") [.ref d] m H Q X:=
 yZ (nm:="items") (B:=Builtin.«dict.items») (rfl) hd h fun A s Q' E nm hT k=>wpAny_call_entry PySem.F.slot_dict_items hT PySem.F.entry_dict_items (nZ (c:="dict_items") (nm:="items") (K:=Builtin.«dict.items») nm hT ⟨_,rfl,k⟩) (PySem.F.args_dict_items_1 _)
end
section
variable {prog:Program} {w:World} {A:Around} {E:PE} {s:Shared}
theorem vZ {d:Addr} {es:List (Int×V)} {ep:Nat} {k:Int} {key:Value} {Q:PE} (hu:A.units+2000<cLine) (hd:(d == sysModules)=false) (D:cE w.params s.heap d es ep) (hk:VR s.heap (cd k) key)
  (h: ∀ tk v,VR s.heap ((d0 es k).getD .none) v->Q v { s with toks:=tk }):wpAny (model prog w) A (call (.builtin "dict.get") [.ref d,key]) Q E s:=by
 refine wpAny_call_entry PySem.F.slot_dict_get D.typ PySem.F.entry_dict_get ?_ (PySem.F.args_dict_get_2 _ _)
 show wpAny _ _ (dictGet d key >>=_) _ _ s
 refine wpAny_bind (jR (by show A.units+1+9<cLine;exact rT hu) D hk fun tk=> ?_)
 cases q:d0 es k with
 | some x=>
  rw [q] at h
  exact fun v rv=>wpAny_pure ⟨v,rfl,h tk v rv⟩
 | none=>
  rw [q] at h
  skip
  exact wpAny_bind (wpAny_missed_other hd (wpAny_pure ⟨.none,rfl,h tk _ .eS⟩))
theorem v3 {d:Addr} {es:List (Int×V)} {ep:Nat} {k:Int} {key:Value} {x:V} {Q:PE} (hu:A.units+2000<cLine) (D:cE w.params s.heap d es ep) (hk:VR s.heap (cd k) key) (hx:d0 es k=some x)
  (h: ∀ tk v,VR s.heap x v->Q v { s with toks:=tk }):wpAny (model prog w) A (getItem (.ref d) key) Q E s:=by
 delta getItem
 try with_reducible refine wpAny_holding ?_
 refine wpAny_bind (wpAny_sequenceKey D.typ (by decide) ?_)
 refine wpAny_bind (wpAny_callSpecial?_slot (name:=Str.ofString "__getitem__") D.typ slot_dict_getitem (wpAny_call_entry slot_dict_getitem D.typ entry_dict_getitem ?_ (args_dict_getitem _ _)))
 show wpAny _ _ (dictGet d key >>=_) _ _ s
 refine wpAny_bind (jR (by show A.units+1+9<cLine;exact rT hu) D hk fun tk=> ?_)
 rw [hx]
 exact fun v rv=>wpAny_pure ⟨v,rfl,wpAny_pure (h tk v rv)⟩
theorem in_dict {d:Addr} {es:List (Int×V)} {ep:Nat} {k:Int} {key:Value} (hu:A.units+2000<cLine) (hd:(d == sysModules)=false) (D:cE w.params s.heap d es ep) (hk:VR s.heap (cd k) key)
  {Q:rP} (h: ∀ tk,Q (d0 es k).isSome { s with toks:=tk }):wpAny (model prog w) A (contains (.ref d) key) Q E s:=by
 delta contains
 try with_reducible refine wpAny_holding ?_
 refine wpAny_bind (wpAny_specialOf D.typ slot_dict_contains.lookup ?_)
 skip
 refine az ((by rw [beq_builtin_none];exact Bool.false_ne_true)) ?_
 refine wpAny_bind (wpAny_callSpecialUnlessNone?_slot (name:=Str.ofString "__contains__") D.typ slot_dict_contains (wpAny_call_entry slot_dict_contains D.typ entry_dict_contains ?_ (args_dict_contains _ _)))
 show wpAny _ _ (dictGet d key >>=_) _ _ s
 refine wpAny_bind (jR (by show A.units+1+9<cLine;exact rT hu) D hk fun tk=> ?_)
 have h:=h tk
 cases q:d0 es k with
 | some x=>rw [q] at h;exact fun v rv=>(show wpAny _ _ (ret (.bool true)) _ _ _ from wpAny_pure ⟨_,rfl,wpAny_truthy_bool h⟩)
 | none=>
  rw [q] at h
  skip
  exact wpAny_bind (wpAny_pendingKey_other hd (wpAny_pure ⟨_,rfl,wpAny_truthy_bool h⟩))
theorem v5 {d:Addr} {es:List (Int×V)} {ep:Nat} {k:Int} {key v:Value} {x:V} {Q:PU} (hu:A.units+2000<cLine) (D:cE w.params s.heap d es ep) (hk:VR s.heap (cd k) key) (hx:VR s.heap x v) (hz:es.length<=sizeLine)
  (h: ∀ tk h' dh,cE w.params h' d (dput es k x) dh->Heap.SameBut d s.heap h'->Q () { s with heap:=h',toks:=tk }):wpAny (model prog w) A (setItem (.ref d) key v) Q E s:=by
 unfold setItem
 try with_reducible refine wpAny_holding ?_
 refine wpAny_bind (wpAny_sequenceKey D.typ (by decide) ?_)
 refine wpAny_bind (wpAny_callSpecial?_slot (name:=Str.ofString "__setitem__") D.typ slot_dict_setitem (wpAny_call_entry slot_dict_setitem D.typ entry_dict_setitem ?_ (args_dict_setitem _ _ _)))
 skip
 refine wpAny_bind (wpAny_notOrdered_dict D.typ ?_)
 show wpAny _ _ (dictSet d key v >>=_) _ _ s
 exact wpAny_bind (vO (by show A.units+1+9<cLine;exact rT hu) D hk hx hz fun tk h' dh D' hs=>wpAny_pure ⟨.none,rfl,wpAny_pure (h tk h' dh D' hs)⟩)
theorem ik.typeIs {a:Addr} {T:IB} {n:Nat} {P:Params} (S:ik P s.heap a T n):s.TypeIs (.ref a) "set":=S.casesOn fun o z0 z0 z0 z0 z0 ho hc z0 z0=>⟨o,ho,hc.1⟩
theorem Eu {a:Addr} {T:IB} {n:Nat} {k:Int} {key:Value} {Q:PE} (hu:A.units+2000<cLine) (S:ik w.params s.heap a T n) (hk:VR s.heap (cd k) key)
  (h: ∀ tk,Q (.bool (T (cl k))) { s with toks:=tk }):wpAny (model prog w) A (compareOp .In key (.ref a)) Q E s:=by
 skip
 refine wpAny_bind ?_
 delta contains
 try with_reducible refine wpAny_holding ?_
 refine wpAny_bind (wpAny_specialOf S.typeIs PySem.F.slot_set_contains.lookup ?_)
 skip
 refine az ((by rw [beq_builtin_none];exact Bool.false_ne_true)) ?_
 refine wpAny_bind (wpAny_callSpecialUnlessNone?_slot (name:=Str.ofString "__contains__") S.typeIs PySem.F.slot_set_contains (wpAny_call_entry PySem.F.slot_set_contains S.typeIs entry_set_contains ?_ (PySem.F.args_set_contains_2 _ _)))
 delta Builtin.«frozenset.__contains__» Builtin.Frozenset.oneOther
 simp only [List.isEmpty_nil,bind_assoc]
 refine wpAny_bind (wpAny_pure ?_)
 try dsimp only
 refine wpAny_bind (wpAny_pure ?_)
 try dsimp only
 refine wpAny_bind (wpAny_tryCatch ?_)
 refine wpAny_holding ?_
 refine wpAny_bind (fU _ _ _ s _ (aV k) hk (by have:=dg k;show A.units+1+dep (cd k)<cLine;exact Gr this hu) fun tk=> ?_)
 refine wpAny_bind (vS (s:={ s with toks:=tk }) (by show A.units+1+9<cLine;exact rT hu) hk S fun r hr=> ?_)
 refine wpAny_pure ?_
 skip
 rw [hr]
 exact wpAny_pure ⟨_,rfl,wpAny_truthy_bool (wpAny_pure (h tk))⟩
theorem qN {a:Addr} {T:IB} {n:Nat} {k:Int} {key:Value} {Q:PE} (hu:A.units+2000<cLine) (S:ik w.params s.heap a T n) (hk:VR s.heap (cd k) key)
  (h: ∀ tk h',Heap.SameBut a s.heap h'->ik w.params h' a (fun c=>T c || decide (c=cl k)) (if T (cl k) then n else n+1)->Q .none { s with heap:=h',toks:=tk }):wpAny (model prog w) A (call (.builtin "set.add") [.ref a,key]) Q E s:=by
 refine wpAny_call_entry PySem.F.slot_set_add S.typeIs PySem.F.entry_set_add ?_ (PySem.F.args_set_add_2 _ _)
 delta Builtin.«set.add» Builtin.Frozenset.oneOther
 simp only [List.isEmpty_nil,bind_assoc]
 refine wpAny_bind (wpAny_pure ?_)
 try dsimp only
 refine wpAny_bind (wpAny_pure ?_)
 try dsimp only
 refine wpAny_bind ?_
 refine wpAny_holding ?_
 refine wpAny_bind (fU _ _ _ s _ (aV k) hk (by have:=dg k;show A.units+1+dep (cd k)<cLine;exact Gr this hu) fun tk=> ?_)
 refine lS (s:={ s with toks:=tk }) (by show A.units+1+9<cLine;exact rT hu) hk S fun h' Bf CX b=> ?_
 skip
 exact wpAny_pure ⟨_,rfl,h tk h' Bf CX⟩
end
section
variable {g:G} {F:Fm} {m:Loc} {H:AH} {s:Shared} {X:PX} {Q:PV}
theorem uJ {pos:Pos} (h: ∀ d,H d=none->Q (.ref d) m (put H d (.dict [] 0))):WE g F (eval (.Dict [] [] pos) F.env) m H Q X:=fun s S=>by
 refine wpAny_Dict_empty ?_
 have n:s.heap.get? s.heap.objs.size=none:=Heap.get?_none_of_le (Nat.le_refl _)
 obtain ⟨S',K'⟩:=S.new (t:=s.toks) (h':=s.heap.push { cls:= .type "dict",data:= .dict #[] }) (o':= .dict [] 0) (fun z0 z0 e=>Heap.get?_push_of_some _ e) n
  ⟨_, #[],Heap.get?_push_size _ rfl,⟨rfl,rfl,rfl⟩,rfl,rfl,List.nodup_nil⟩
 exact ⟨.ref _,m,_, .ip _,S',K',h _ (S.bZ n)⟩
theorem za {d:Addr} {es:List (Int×V)} {ep:Nat} {k:Int} (hd:H d=some (.dict es ep)) (h:Q ((d0 es k).getD .none) m H):WC g F (.builtin "dict.get") [.ref d,cd k] m H Q X:=HM fun s v u S r r'=>by
 rw [VR.ay] at r;subst r
 exact vZ (j5 S) (S.jn hd) (S.dictAt hd) r' fun tk v rv=>bG.now S rfl rfl rfl rv h
theorem jo {d:Addr} {es:List (Int×V)} {ep:Nat} {k:Int} {x:V} (hd:H d=some (.dict es ep)) (hx:d0 es k=some x) (h:Q x m H):W2 g F VR (.ref d) (cd k) getItem m H Q X:=fun s v u S r r'=>by
 rw [VR.ay] at r;subst r
 exact v3 (j5 S) (S.dictAt hd) r' hx fun tk v rv=>bG.now S rfl rfl rfl rv h
theorem jq {d:Addr} {es:List (Int×V)} {ep:Nat} {i:V} (hd:H d=some (.dict es ep)) (h:W2 g F VR (.ref d) i getItem m H Q X):GI g F (.ref d) i m H Q X:=
 ⟨"dict",_,PySem.F.slot_dict_getitem.lookup,fun s v S r=>by rw [VR.ay] at r;subst r;exact (S.dictAt hd).typ,h⟩
theorem HW {d:Addr} {es:List (Int×V)} {ep:Nat} {k:Int} (hd:H d=some (.dict es ep)) (h:Q (.bool (d0 es k).isSome) m H):W2 g F VR (cd k) (.ref d) (compareOp .In) m H Q X:=fun s v u S r' r=>by
 rw [VR.ay] at r;subst r
 exact wpAny_bind (in_dict (j5 S) (S.jn hd) (S.dictAt hd) r' fun tk=>wpAny_pure (bG.now S rfl rfl rfl (.dm _) h))
theorem Ew {d:Addr} {es:List (Int×V)} {ep:Nat} {k:Int} (hd:H d=some (.dict es ep)) (h:Q (.bool (!(d0 es k).isSome)) m H):W2 g F VR (cd k) (.ref d) (compareOp .NotIn) m H Q X:=fun s v u S r' r=>by
 rw [VR.ay] at r;subst r
 exact wpAny_bind (in_dict (j5 S) (S.jn hd) (S.dictAt hd) r' fun tk=>wpAny_pure (bG.now S rfl rfl rfl (.dm _) h))
theorem St.dictPut {d:Addr} {es km:List (Int×V)} {ep dh:Nat} {h':Heap} {t:Nat} (S:St g F m H s) (hd:H d=some (.dict es ep)) (hs:Heap.SameBut d s.heap h') (D':cE g.w.params h' d km dh):
  (1<=t->St g F m (put H d (.dict km dh)) { s with heap:=h',toks:=t })/\aF F s.heap H h' (put H d (.dict km dh)):=by
 obtain ⟨o,ds,e,hc,SJ,r0⟩:=id D'
 have C:oN (· =d) s.heap h':= .sameBut hs e fun z0 z0 z0 z0 z0=>⟨_,_,SJ⟩
 exact S.set C hd D'
theorem sS {d:Addr} {es:List (Int×V)} {ep:Nat} {k:Int} {x:V} {Q:qi} (hd:H d=some (.dict es ep)) (hz:es.length<=16000000) (h: ∀ dh,Q m (put H d (.dict (dput es k x) dh))):
  W3 g F nK (.ref d) (cd k) x (fun ov iv v=>setItem ov iv v) m H (fun (_:Unit) m H=>Q m H) X:=fun s v u w S r r' rx=>by
 rw [VR.ay] at r;subst r
 refine v5 (j5 S) (S.dictAt hd) r' rx ((sizeLine_eq▸xd hz)) fun tk h' dh D' hs=> ?_
 obtain ⟨S',K'⟩:=S.dictPut (t:=tk) hd hs D'
 exact ⟨(),m,_,rfl,S',K',h dh⟩
theorem Ex {d:Addr} {es:List (Int×V)} {ep:Nat} {k:Int} {x:V} {Q:qi} (hd:H d=some (.dict es ep)) (hz:es.length<=16000000) (hx:d0 es k=some x) (h: ∀ dh,Q m (put H d (.dict (vN es k) dh))):
  W2 g F nK (.ref d) (cd k) (fun ov iv=>delItem ov iv) m H (fun (_:Unit) m H=>Q m H) X:=fun s v u S r r'=>by
 rw [VR.ay] at r;subst r
 have hT:=(S.dictAt hd).typ
 refine wpAny_delItem_slot hT (rfl) PySem.F.slot_dict_delitem (wpAny_call_entry PySem.F.slot_dict_delitem hT PySem.F.entry_dict_delitem ?_ (PySem.F.args_dict_delitem_2 _ _))
 refine wpAny_bind ?_
 refine wpAny_bind (wpAny_notOrdered_dict hT ?_)
 show wpAny _ _ (pure (Value.ref d,u)) _ _ s
 refine wpAny_pure ?_
 show wpAny _ _ (Builtin.Dict.takeOut d u >>=_) _ _ s
 refine wpAny_bind (vP (by have:=j5 S;show F.A.units+1+9<cLine;exact rT this) (S.dictAt hd) r' (by rw [sizeLine_eq];exact xd hz) hx fun en tk h' dh D' hs=> ?_)
 obtain ⟨S',K'⟩:=S.dictPut (t:=tk) hd hs D'
 exact wpAny_bind (wpAny_letGo (wpAny_pure ⟨_,rfl,(),m,_,rfl,S',K',h dh⟩))
theorem ik.fresh {P:Params} {h:Heap} {a:Addr} (led:Bool) (e:h.get? a=some { cls:= .type "set",dict:=none,data:= .set #[] 0 (.fresh 0 0 led) }):ik P h a (fun z0=>false) 0:=
 ⟨_, #[],0,_,[],[],e,⟨rfl,rfl,rfl⟩,rfl,Tb.TI.fresh 0 0 led,(by show 5*0<3*7;decide),rfl,List.nodup_nil,rfl,fun c=>by simp⟩
theorem Ey (h: ∀ a,H a=none->Q (.ref a) m (put H a (.set (fun z0=>false) 0))):WC g F (.type "set") [] m H Q X:=SG fun s S=>by
 refine call_set_0 fun led=> ?_
 have n:s.heap.get? s.heap.objs.size=none:=Heap.get?_none_of_le (Nat.le_refl _)
 obtain ⟨S',K'⟩:=S.new (t:=s.toks) (h':=s.heap.push { cls:= .type "set",dict:=none,data:= .set #[] 0 (.fresh 0 0 led) }) (o':= .set (fun z0=>false) 0) (fun z0 z0 e=>Heap.get?_push_of_some _ e) n (ik.fresh led (Heap.get?_push_size _ rfl))
 exact ⟨.ref _,m,_, .ip _,S',K',h _ (S.bZ n)⟩
theorem uK {a:Addr} {T:IB} {n:Nat} {k:Int} (ha:H a=some (.set T n)) (h:Q (.bool (T (cl k))) m H):W2 g F VR (cd k) (.ref a) (compareOp .In) m H Q X:=fun s v u S r' r=>by
 rw [VR.ay] at r;subst r
 exact Eu (j5 S) (S.obj a _ ha).2 r' fun tk=>bG.now S rfl rfl rfl (.dm _) h
theorem zb {a:Addr} {T:IB} {n:Nat} {k:Int} (ha:H a=some (.set T n)) (h:Q .none m (put H a (.set (fun c=>T c || decide (c=cl k)) (if T (cl k) then n else n+1)))):WC g F (.builtin "set.add") [.ref a,cd k] m H Q X:=HM fun s v u S r r'=>by
 rw [VR.ay] at r;subst r
 refine qN (j5 S) (S.obj a _ ha).2 r' fun tk h' Bf CX=> ?_
 obtain ⟨o,es,ep,t,ps,us,e,_,hd,_⟩:=(S.obj a _ ha).2
 obtain ⟨o',_,_,_,_,_,e',_,Qb,_⟩:=id CX
 have C:oN (· =a) s.heap h':= .sameBut Bf e' fun oO z0 z0 NT q=>by obtain rfl:=oi e NT;exact nomatch (hd.symm.trans q)
 obtain ⟨S',K'⟩:=S.set (t:=tk) C ha (o':= .set (fun c=>T c || decide (c=cl k)) (if T (cl k) then n else n+1)) CX
 exact ⟨.none,m,_, .eS,S',K',h⟩
end
section
variable {g:G} {F:Fm} {m:Loc} {H:AH} {s:Shared} {X:PX} {Q:PV}
noncomputable def cut (xs:List V) (lo hi st:Option Int):List V:=(sliceRange (sliceBounds lo hi st xs.length).1 (sliceBounds lo hi st xs.length).2.1 (sliceBounds lo hi st xs.length).2.2).filterMap (xs[·]?)
theorem By {h:Heap} {xs:List V} {vs:List Value} (r:bh h xs vs) (is:List Nat):bh h (is.filterMap (xs[·]?)) (is.filterMap (vs[·]?)):=by
 induction is with
 | nil=>exact .gC
 | cons i is ih=>
  rw [List.filterMap_cons,List.filterMap_cons]
  cases q:xs[i]? with
  | none=>
   have:vs[i]? =none:=by rw [List.getElem?_eq_none_iff] at q|-;rw [r.length];exact q
   rw [this];exact ih
  | some x=>obtain ⟨v,e,rv⟩:=r.getElem? q;rw [e];exact .cons rv ih
inductive lV:V->Option Int->Prop
 | none:lV .none none
 | int (i:Int):lV (.int i) (some i)
theorem lV.is {h:Heap} {x:V} {v:Value} {o:Option Int} (p:lV x o) (r:VR h x v):IsPart v o:=by
 cases p with
 | none=>rw [VR.bJ] at r;subst r;exact .none
 | int i=>rw [VR.aZ] at r;obtain ⟨t,rfl⟩:=r;exact .int i t
theorem cB (h:Q .none m H):WE g F (evalPart none F.env) m H Q X:=fun s S=>by rw [evalPart_none];exact wpAny_pure (bG.now S rfl rfl rfl .eS h)
theorem fK {e:Expr} (h:WE g F (eval e F.env) m H Q X):WE g F (evalPart (some e) F.env) m H Q X:=h
noncomputable def Jz (g:G) (H:AH) (b:Addr) (xs:List V):Prop:= ∀ (F:Fm) (m:Loc) (s:Shared),St g F m H s-> ∃ vs,s.heap.IsList b vs.toArray/\bh s.heap xs vs
theorem Jz.own {b:Addr} {xs:List V} (h:H b=some (.list xs)):Jz g H b xs:=fun F m s S=>uc.casesOn (S.obj b _ h).2 fun vs ep a r=>⟨vs,⟨_,a,rfl,ep,rfl⟩,r⟩
inductive NU (g:G) (Q:PV) (l u st a:V) (m:Loc) (H:AH):Prop
 | mk (b:Addr) (xs:List V) (lo hi s':Option Int) (e:a= .ref b) (hb:Jz g H b xs) (hz:xs.length<=16000000) (pl:lV l lo) (pu:lV u hi) (ps:lV st s') (hn:s'≠some 0) (h: ∀ c,H c=none->Q (.ref c) m (put H c (.list (cut xs lo hi s'))))
theorem d8 {o:Expr} {lower upper step:Option Expr} {p pos:Pos}
  (h:WE g F (eval o F.env) m H (fun a m H=>WE g F (evalPart lower F.env) m H (fun l m H=>WE g F (evalPart upper F.env) m H (fun u m H=>WE g F (evalPart step F.env) m H (fun st m H=>NU g Q l u st a m H) X) X) X) X):
  WE g F (eval (.Subscript o (.Slice lower upper step p) pos) F.env) m H Q X:=fun s S=>iI fun Rz Ez rQ ui=>by
 rw [eval_Subscript]
 refine wpAny_bind (h.run S (fun ov av a m₁ aL aA ah k₁ h₁=>wpAny_bind (wpAny_holding (wpAny_Slice ?_))) fun z0 z0 x=>ui _ _ x)
 refine h₁.run ah (fun lv a9 l m₂ cW cZ aB k₂ bB=> ?_) fun z0 z0 x=>ui _ _ (x.after k₁)
 have bX:=k₁.trans k₂
 refine bB.run aB (fun uv aP u eJ dk dZ bf fm fC=> ?_) fun z0 z0 x=>ui _ _ (x.after bX)
 have dG:=bX.trans fm
 refine fC.run bf (fun sv eM st Bd yg Eb c6 jg cy=> ?_) fun z0 z0 x=>ui _ _ (x.after dG)
 have eZ:=dG.trans jg
 have CY:=((aA.keep ah k₂).keep aB fm).keep bf jg
 clear aA k₁ k₂ fm jg ah aB bf bX dG h h₁ bB fC ui
 refine pg fun G9 hG=> ?_
 obtain ⟨b,xs,lo,hi,s',rfl,hb,hz,pl,pu,ps,hn,gE⟩:=cy
 rw [VR.ay] at CY;subst CY
 obtain ⟨vs,⟨ol,e,ec,ep,ed⟩,rs⟩:=hb _ _ _ c6
 refine hG ?_
 have kp: ∀ b o,eM.heap.get? b=some o->(eM.heap.push { cls:= .type "slice",data:= .fields #[lv,uv,sv] }).get? b=some o:=fun z0 z0 e=>Heap.get?_push_of_some _ e
 have gh:=(c6.ext (t:=eM.toks) kp).1 c6.tk
 have lG:=eZ.trans (c6.ext (t:=eM.toks) kp).2
 have hl:(eM.heap.push { cls:= .type "slice",data:= .fields #[lv,uv,sv] }).IsList b vs.toArray:=⟨_,kp _ _ e,ec,ep,ed⟩
 have hs:=Heap.IsSliceOf.new eM.heap lv uv sv
 revert kp gh lG hl hs
 refine mQ (eM.heap.push { cls:= .type "slice",data:= .fields #[lv,uv,sv] }) fun h5 kp gh lG hl hs=> ?_
 have hT:Shared.TypeIs { eM with heap:=h5 } (.ref b) "list":=hl.typeIs
 have rc:bh eM.heap (cut xs lo hi s') (slicePick vs.toArray lo hi s').toList:=by
  have:=By rs (sliceRange (sliceBounds lo hi s' xs.length).1 (sliceBounds lo hi s' xs.length).2.1 (sliceBounds lo hi s' xs.length).2.2)
  delta slicePick cut
  simp only [List.size_toArray,rs.length,List.getElem?_toArray]
  exact this
 refine wpAny_bind (wpAny_standAt (wpAny_bind ?_))
 rw [getitemInPython_of_ne hT.not_modules]
 refine wpAny_bind (wpAny_specialOf hT list_getitem_lookup (wpAny_pure (wpAny_bind ?_)))
 have fin:wpAny (model g.prog g.w) F.A (getItem (.ref b) (.ref eM.heap.objs.size)) (fun r aP=>wpAny (model g.prog g.w) F.A (letTemporaryGo o (.ref b) r >>=fun z0=>pure r) Rz Ez aP) Ez { eM with heap:=h5 }:=by
  refine wpAny_getItem_list_slice hl hs (pl.is cZ) (pu.is dZ) (ps.is Eb) hn (wpAny_bind (wpAny_letTemporaryGo (wpAny_pure (rQ _ _ ?_)))) (by rw [List.size_toArray,rs.length,sizeLine_eq];exact xd hz)
  refine bG.after lG (lT gh (ys:=cut xs lo hi s') (vs:=(slicePick vs.toArray lo hi s').toList) (ep:=0) (fun z0 z0 e=>Heap.get?_push_of_some _ e) (Heap.get?_none_of_le (Nat.le_refl _)) (Heap.get?_push_size _ rfl) ?_ gE)
  exact rc.mono fun z0 z0 z0 q=>Heap.get?_push_of_some _ (kp _ _ q)
 cases step with
 | none=>exact wpAny_operating fin
 | some st=>exact wpAny_operating fin
theorem cV {a b:Addr} {xs ys:List V} (ha:LA g H a xs) (hb:LA g H b ys) (hz:xs.length+ys.length<=16000000) (h: ∀ c,H c=none->Q (.ref c) m (put H c (.list (xs++ys)))):W2 g F VR (.ref a) (.ref b) (binaryOp .Add) m H Q X:=fun s v u S r r'=>by
 rw [VR.ay] at r r';subst r r'
 obtain ⟨vs,ep,e,rs⟩:=ha.at S
 obtain ⟨ws,dh,e',w7⟩:=hb.at S
 have kp: ∀ b o,s.heap.get? b=some o->(s.heap.push (cp (vs++ws) 0)).get? b=some o:=fun z0 z0 e=>Heap.get?_push_of_some _ e
 refine PySem.P.add_list (items:=vs.toArray) (items2:=ws.toArray) e e' ?_ (by simp [rs.length,w7.length,sizeLine_eq];exact Kf hz)
 rw [List.append_toArray]
 exact lT S kp (Heap.get?_none_of_le (Nat.le_refl _)) (Heap.get?_push_size _ rfl) ((rs.append w7).mono fun z0 z0 z0 q=>kp _ _ q) h
end
section
variable {g:G} {F:Fm} {m:Loc} {H:AH} {s:Shared} {X:PX} {Q:eI}
theorem CZ {h₀:Heap} {H₀:AH} {h':Heap} {e:Addr} {cls:Value} {as:List V} {vs:List Value} {t:Nat} (S:St g F m H s) (K:aF F h₀ H₀ s.heap H) (x:Heap.MadeExcOf s.heap h' e cls vs) (hc:ig cls=false) (r:bh s.heap as vs) (q:X cls as m H) (ht:1<=t):
  dA g F X h₀ H₀ (.ref e) { s with heap:=h',toks:=t }:=by
 obtain ⟨S',K'⟩:=S.ext (t:=t) x.keeps
 replace S':=S' ht
 obtain ⟨T,h1,h2,h3⟩:=x.there
 refine ⟨cls,as,m,H, ?_,S',K.trans K',q⟩
 have n0:h₀.get? e=none:=by
  cases z:h₀.get? e with
  | none=>rfl
  | some o=>obtain ⟨o',w⟩:=K.alive e o z;exact on x.new w
 exact ⟨e,_,_, .ref T,rfl,n0,S.bZ x.new,h1,rfl,hc,rfl,⟨rfl,rfl⟩, .rZ (S.ok h2) h3 (r.mono fun z0 z0 z0 q=>x.keeps _ _ q), .inl rfl⟩
theorem fb {cls newId sT:String} (FC:ExcCallFacts cls newId sT) (FR:ExcRaiseFacts cls) {x:Str} {np sU pos:Pos} {args:List Expr} (hh:F.A.handled=none) (hc:ig (.type cls)=false)
  (hk:F.env.kindOf x=some .globalImplicit) (hv:nsIn g.K mainGlobals x=some none) (hb:g.mb x=some (.type cls))
  (h:WL g F (spliced (backTo sU (starEach args F.env))) m H (fun as m H=>as.length<=1000/\X (.type cls) as m H) X)
  (hp:(backTo sU (starEach args F.env)).any (·.1)=false:=by rfl) (hd:(x == ("__debug__":Str))=false:=by decide):WS g F (exec (.Raise (some (.Call (.Name x np) args [] sU)) none pos) F.env) m H Q X:=fun s S=>by
 refine wpAny_Raise_call FC FR hh hp ((bN (X:=X) (pos:=np) (Q:=fun a m' H'=>a= .cst (.type cls)/\m'=m/\H'=H) hk hv hb ⟨rfl,rfl,rfl⟩ hd).run S (fun f av a m₁ aL aA ah k₁ cy=>cy.elim fun e1 eX=>eX.elim fun e2 e3=> ?_) fun z0 z0 x=>x)
 subst e1 e2 e3
 rw [VR.i7] at aA
 refine ⟨aA,dM hp (h.run ah (fun vs a9 as m₂ cW cZ aB k₂ cy=>cy.elim fun hl q=>⟨rfl, ?_,fun h' e hm=> ?_⟩) fun z0 z0 x=>x.after k₁)⟩
 .show vs.length<=_;rw [cZ.length,sizeLine_eq];exact Gw cy
 .exact CZ aB (k₁.trans k₂) hm.of hc cZ q aB.tk
theorem qO {x:Str} {C:Addr} {B newId sT:String} {bm:List Value} (O:OwnCls x C bm newId g.mg g.B) (FB:ExcBaseFacts B newId sT bm) {np sU pos:Pos} {args:List Expr} (hh:F.A.handled=none)
  (hk:F.env.kindOf x=some .globalImplicit)
  (h:WL g F (spliced (backTo sU (starEach args F.env))) m H (fun as m H=>as.length<=1000/\X (.ref C) as m H) X)
  (hp:(backTo sU (starEach args F.env)).any (·.1)=false:=by rfl) (hd:(x == ("__debug__":Str))=false:=by decide):WS g F (exec (.Raise (some (.Call (.Name x np) args [] sU)) none pos) F.env) m H Q X:=fun s S=>by
 obtain ⟨tl,N,nm,q,bs,hdct,sn,sub,ab,col,dd,k0,k1,k2,k3,k5,mN,hC,hN,AA,T⟩:=O.obj
 refine wpAny_Raise_call_subT (C:=C) (nm:=nm) (q:=q) (N:=N) (bs:=bs) (bm:=tl) (hdct:=hdct) (sn:=sn) (sub:=sub) (ab:=ab) (col:=col) (dd:=dd) (k0:=k0) (k1:=k1) (k2:=k2) (k3:=k3) (k5:=k5) FB (mN:=mN) (T.hasType FB.hasBase) hh hp AA ?_
 refine wpAny_Name ?_ hd
 rw [loadName_read S.loc.kind hk]
 delta loadGlobal
 rw [S.eG.1]
 refine wpAny_bind (wpAny_nsGet (g.glob.keeps S.base) ?_)
 rw [O.bound]
 refine wpAny_pure ⟨rfl,dM hp (h.run S (fun vs a9 as m₂ cW cZ aB k₂ cy=>cy.elim fun hl q=>⟨rfl, ?_,aB.base _ _ hC,hN.keeps aB.base,T.keeps aB.base,fun h' e hm=> ?_⟩) fun z0 z0 x=>x)⟩
 .show vs.length<=_;rw [cZ.length,sizeLine_eq];exact Gw cy
 .exact CZ aB k₂ hm rfl cZ q aB.tk
structure gk (g:G) (spec c:Value) (b:Bool):Prop where
 tup:Looks (model g.prog g.w) g.B (isInstance spec (.type "tuple")) false
 typ:Looks (model g.prog g.w) g.B (isType spec) true
 exc:subIn g.K spec (.type "BaseException")=some true
 sub:subIn g.K c spec=some b
theorem pB {h:Heap} {a:Addr} {o:Obj} {spec:Value} {b:Bool} (B:g.B.StaysIn h) (C:gk g spec o.cls b) (ha:h.get? a=some o):Looks (model g.prog g.w) h (excMatches (.ref a) spec) b:=by
 have X:g.K.In h:=g.gq.keeps B
 have L1:Looks (model g.prog g.w) h (isInstance spec (.type "tuple")) false:=C.tup.keeps B
 have L2:Looks (model g.prog g.w) h (isType spec) true:=C.typ.keeps B
 have L3:Looks (model g.prog g.w) h (isSubtype spec (.type "BaseException")) true:=looks_subIn X C.exc
 have L4:Looks (model g.prog g.w) h (typeOf (.ref a)) o.cls:=(Looks.ld ha).andThen .now
 have L5:Looks (model g.prog g.w) h (isSubtype o.cls spec) b:=looks_subIn X C.sub
 have L6:Looks (model g.prog g.w) h (isExcClass spec) true:=by
  skip
  exact L2.andThen L3
 intro A Q E s k q
 skip
 refine wpAny_bind (L1 A _ E s k ?_)
 refine wpAny_bind (wpAny_pure ?_)
 simp only [List.forIn_cons,List.forIn_nil,bind_assoc,pure_bind]
 refine wpAny_bind (L6 A _ E s k ?_)
 simp only [Bool.not_true,Bool.false_eq_true,if_false,pure_bind,bind_assoc]
 refine wpAny_bind (L4 A _ E s k ?_)
 refine wpAny_bind (L5 A _ E s k ?_)
 cases b
 .simp only [Bool.false_eq_true,if_false,pure_bind];exact wpAny_pure q
 .simp only [if_true,pure_bind];exact wpAny_pure q
end
section
variable {g:G} {F:Fm} {m:Loc} {H:AH} {s:Shared} {X:PX} {Q:eI}
noncomputable def Fm.mark (F:Fm) (e:Value):Fm:={ F with A:=F.A.mark (some e) }
theorem St.mark {e:Value} (S:St g F m H s):St g (F.mark e) m H s:=⟨S.base,S.obj,⟨S.loc.kind,S.loc.val,S.loc.cell,S.loc.apart⟩,S.eF,S.aS,S.jJ,S.gJ,S.frame,S.lA,S.gens,S.os,S.room,S.eG,S.dead,S.tk⟩
theorem St.unmark {e:Value} (S:St g (F.mark e) m H s):St g F m H s:=⟨S.base,S.obj,⟨S.loc.kind,S.loc.val,S.loc.cell,S.loc.apart⟩,S.eF,S.aS,S.jJ,S.gJ,S.frame,S.lA,S.gens,S.os,S.room,S.eG,S.dead,S.tk⟩
theorem aF.unmark {e:Value} {h h':Heap} {H H':AH} (K:aF (F.mark e) h H h' H'):aF F h H h' H':=⟨K.alive,K.dct,K.same⟩
theorem aF.mark {e:Value} {h h':Heap} {H H':AH} (K:aF F h H h' H'):aF (F.mark e) h H h' H':=⟨K.alive,K.dct,K.same⟩
noncomputable def WH (g:G) (F:Fm) (hs:List ExceptHandler) (c:Value) (as:List V) (m:Loc) (H:AH) (Q:eI) (X:PX):Prop:=
 ∀ h₀ H₀ s e,St g F m H s->aF F h₀ H₀ s.heap H->g.B.StaysIn h₀->eY h₀ e c as s.heap H->wpAny (model g.prog g.w) F.A (handleBy e F.env hs) (bG g F FR Q h₀ H₀) (dA g F X h₀ H₀) s
noncomputable abbrev NW (g:G) (F:Fm) (hs:List ExceptHandler) (Q:eI) (X:PX):Value->List V->Loc->AH->Prop:=fun c as m H=>WH g F hs c as m H Q X
theorem zc {body orelse:List Stmt} {h₀:ExceptHandler} {hs:List ExceptHandler} {pos:Pos} (kH:F.stack≠[])
  (h:WS g F (execs body F.env) m H (xI g F orelse Q X) (NW g F (h₀::hs) Q X)):
  WS g F (exec (.Try body (h₀::hs) orelse [] pos) F.env) m H Q X:=fun s S=>by
 refine wpAny_Try_except (aU S.tk (h s S) (fun f av f' m₁ aL aA ah k₁ h₁=> ?_) fun e av yy=>yy.elim fun c as m₁ aL qP ah k₁ h₁=> ?_)
 .cases f' with
  | next=>cases aA;exact h₁.run ah (fun z0 z0 b m H r S' k q=>⟨b,m,H,r,fun z0=>S',k₁.trans k,q⟩) (fun z0 z0 x=>x.after k₁)
  | brk=>cases aA;exact ⟨.brk,m₁,aL,rfl,fun z0=>ah,k₁,h₁⟩
  | cont=>cases aA;exact ⟨.cont,m₁,aL,rfl,fun z0=>ah,k₁,h₁⟩
  | ret x=>obtain ⟨v,rfl,rv⟩:=aA;exact ⟨.ret x,m₁,aL,⟨v,rfl,rv⟩,fun z0=>ah,k₁,h₁⟩
 .refine note ah k₁ S.base qP (ah.oS kH) fun a9 aB k₂ Bz=>iN aB k₂ S.base Bz fun aP bf fm xV=> ?_
  exact h₁ s.heap H aP e bf fm S.base xV
noncomputable def Spec (g:G) (F:Fm) (t:Expr) (m:Loc) (H:AH) (spec:Value):Prop:= ∀ e,WE g (F.mark e) (eval t F.env) m H (fun a m' H'=>a= .cst spec/\m'=m/\H'=H) (fun z0 z0 z0 z0=>False)
theorem v7 {x:Str} {pos:Pos} {v:Value} (hk:F.env.kindOf x=some .globalImplicit) (hv:nsIn g.K mainGlobals x=some (some v)) (hd:(x == ("__debug__":Str))=false:=by decide):Spec g F (.Name x pos) m H v:=fun e=>bp (F:=F.mark e) hk hv (fun z0=> .dT v) ⟨rfl,rfl,rfl⟩ hd
theorem qQ {x:Str} {pos:Pos} {v:Value} (hk:F.env.kindOf x=some .globalImplicit) (hv:nsIn g.K mainGlobals x=some none) (hb:g.mb x=some v) (hd:(x == ("__debug__":Str))=false:=by decide):Spec g F (.Name x pos) m H v:=fun e=>bN (F:=F.mark e) hk hv hb ⟨rfl,rfl,rfl⟩ hd
theorem eY.keep {h₀:Heap} {H':AH} {e c:Value} {as:List V} {s':Shared} (S:St g F m H s) (K:aF F s.heap H s'.heap H') (f:eY h₀ e c as s.heap H):eY h₀ e c as s'.heap H':=by
 obtain ⟨a,o,vs,v,T,oT,ts,x,rfl,h2,h3,h4,h5,h6,h7,h8,h9,t1,t2,t3,t4,t5,t6,t7,t8⟩:=f
 have off: ∀ b ob ws,s.heap.get? b=some ob->ob.data= .fields ws->H b=none->H' b=none/\s'.heap.get? b=some ob:=fun b ob ws e d n=>by
  have nm:b∉F.aS:=fun q=>by
   obtain ⟨_,_,o',e',w⟩:=S.aS b q
   obtain rfl:=oi e e'
   rcases w with ⟨_,_,w⟩ | ⟨_,w⟩ <;> rw [d] at w <;> cases w
  exact K.stay S e n nm fun z0 z0 w=>Data.noConfusion (d.symm.trans w)
 obtain ⟨q1,q2⟩:=off a o vs h4 h7 h3
 obtain ⟨q3,q4⟩:=off T oT ts t5 t7 t4
 exact ⟨a,o,vs,v,T,oT,ts,x,rfl,h2,q1,q2,h5,h6,h7,h8,h9.mono (K.mono S).tup,t1,t2,t3,q3,q4,t6,t7,t8⟩
theorem zf {c spec:Value} {as:List V} {b:Bool} {t:Expr} {name:Option Str} {body:List Stmt} {pos:Pos} {rest:List ExceptHandler} {h₀:Heap} {H₀:AH} {e:Value} (HX:Spec g F t m H spec) (hc:gk g spec c b) (S:St g F m H s) (K:aF F h₀ H₀ s.heap H) (B0:g.B.StaysIn h₀) (f:eY h₀ e c as s.heap H)
  (h: ∀ av,St g F m H av->aF F h₀ H₀ av.heap H->eY h₀ e c as av.heap H->
   if b then codeAny (model g.prog g.w) (F.mark e).A (.handlers e [.ExceptHandler none name body pos] F.env) (fun r a9=>match r with
     | .ok f=>(match name with
      | none=>bG g F FR Q h₀ H₀ f a9
      | some n=>wpAny (model g.prog g.w) F.A (do bindName F.env n .none;unbindBehindTheSuite F.env n pos) (fun z0 aP=>bG g F FR Q h₀ H₀ f aP) (dA g F X h₀ H₀) a9)
     | .error x=>cameBackBy (model g.prog g.w) F.A F.env (dA g F X h₀ H₀) x a9) av
   else wpAny (model g.prog g.w) F.A (handleBy e F.env rest) (bG g F FR Q h₀ H₀) (dA g F X h₀ H₀) av):
  wpAny (model g.prog g.w) F.A (handleBy e F.env (.ExceptHandler (some t) name body pos::rest)) (bG g F FR Q h₀ H₀) (dA g F X h₀ H₀) s:=by
 have uj:e≠byPass:=by obtain ⟨a,o,vs,v,T,oT,ts,x,rfl,_⟩:=f;intro q;cases q
 refine wpAny_handleBy_cons (codeAny_handlers_test ?_) uj
 refine (HX e).run S.mark (fun cv av a m₁ aL aA ah k₁ cy=>cy.elim fun e1 eX=>eX.elim fun e2 e3=> ?_) fun z0 z0 yy=>yy.no
 subst e1 e2 e3
 rw [VR.i7] at aA
 subst aA
 have C4:=ah.unmark
 have bq:=K.trans k₁.unmark
 have qP:=f.keep S k₁.unmark
 obtain ⟨ad,o,vs,v,T,oT,ts,x,rfl,h2,h3,h4,h5,h6⟩:=id qP
 refine (pB C4.base ((h5▸hc)) h4).here ?_
 have z:=h av C4 bq qP
 cases b
 .exact z
 .exact z
theorem EA {c spec:Value} {as:List V} {t:Expr} {zg:Stmt} {body:List Stmt} {pos:Pos} {rest:List ExceptHandler} (HX:Spec g F t m H spec) (hc:gk g spec c true)
  (h: ∀ e,WS g (F.mark e) (execs (zg::body) F.env) m H Q (fun z0 z0 z0 z0=>False)):WH g F (.ExceptHandler (some t) none (zg::body) pos::rest) c as m H Q X:=fun h₀ H₀ s e S K B0 f=>by
 refine zf HX hc S K B0 f fun av ah bq qP=>codeAny_handlers_suite ?_
 refine iN (F:=F.mark e) ah.mark bq.mark B0 qP fun a9 aB bX Bz=> ?_
 refine (h e).run aB (fun fl aP w5 eJ dk dZ bf fm q=>⟨w5,eJ,dk,dZ,fun z0=>bf.unmark,(bX.trans fm).unmark,q⟩) fun z0 z0 yy=>yy.no
noncomputable def rem (H:AH) (a:Addr):AH:=fun b=>if b=a then none else H b
theorem sV {H:AH} {a b:Addr} (h:b≠a):rem H a b=H b:=if_neg h
theorem St.BA {n:Str} {u:Option Value} {h':Heap} {mr:Str->Option Value} (S:St g F m H s) (hn:s.heap.Ns F.env.locals mr) (hv: ∀ x a,m x=some a->LV F.env s.heap mr x a)
  (iJ:h'.Ns F.env.locals fun y=>if y=n then u else mr y) (hs:Heap.SameBut F.env.locals s.heap h'):(St g F (xF m n) H { s with heap:=h' }/\aF F s.heap H h' H)/\ ∀ b o,eW b o->s.heap.get? b=some o->h'.get? b=some o:=by
 obtain ⟨oL,AY,AZ,eL,dL,rL⟩:=id iJ
 have C:oN (· =F.env.locals) s.heap h':= .sameBut hs eL fun z0 z0 z0 z0 z0=>⟨_,_,dL⟩
 have tup:=C.tup S S.eF
 refine ⟨(S.own (t:=s.toks) S.eF C ⟨_,eL, .inl ⟨_,_,dL⟩⟩ (fun z0 z0 z0 z0 z0=>⟨_,_,_,eL,dL⟩) ⟨S.loc.kind,⟨_,iJ,fun y b hy=> ?_⟩,fun y c hy=>⟨(S.loc.cell y c hy).1,((S.loc.cell y c hy).2).elim fun u z=>⟨u,z.sameBut hs (ja z hn)⟩⟩,S.loc.apart⟩).imp (fun z=>z S.tk) id,tup⟩
 unfold xF at hy
 by_cases q:y=n
 .exact on (if_pos q) hy
 .rw [if_neg q] at hy
  cases hv y b hy with
  | loc u ru k e=>exact .loc u (ru.mono tup) k ((if_neg q).trans e)
  | gb u ru k c z2 z3=>exact .gb u (ru.mono tup) k c z2 (z3.sameBut hs (ja z3 hn))
theorem zh {n:Str} {pos:Pos} {a:V} (hx:F.env.kindOf n=some .local) (hm:m n=some a) {h₀:Heap} {H₀:AH} (S:St g F m H s) (K:aF F h₀ H₀ s.heap H) {Q':PU} {E:PE} (h: ∀ s',St g F (xF m n) H s'->aF F h₀ H₀ s'.heap H->(∀ b o,eW b o->s.heap.get? b=some o->s'.heap.get? b=some o)->Q' () s'):
  wpAny (model g.prog g.w) F.A (unbindBehindTheSuite F.env n pos) Q' E s:=by
 obtain ⟨mr,hn,hv⟩:=S.loc.val
 have NX: ∃ v,mr n=some v:=by
  cases hv n a hm with
  | loc v r k e=>exact ⟨v,e⟩
  | gb v r q=>rcases q with q | ⟨q,_⟩ <;> rw [hx] at q <;> cases q
 obtain ⟨v,NX⟩:=NX
 exact wpAny_onRaise (wpAny_unbindName_local hx hn NX (by rw [S.loc.kind];rfl) fun h' u iJ hs=>(S.BA hn hv iJ hs).elim fun y tup=>h _ y.1 (K.trans y.2) tup)
end
theorem HY:typeLookup (.type "list_iterator") "__getattribute__"=pure (some (.builtin "object.__getattribute__")):=by rw [typeLookup_type,builtinLookup_eq_fast];kernel_rfl
theorem pC:typeOf (.builtin "list_iterator.__next__")=pure (.type "wrapper_descriptor"):=by kernel_rfl
theorem EB:typeLookup (.type "wrapper_descriptor") "__get__"=pure (some (.builtin "wrapper_descriptor.__get__")):=by rw [typeLookup_type,builtinLookup_eq_fast];kernel_rfl
theorem EC:typeLookup (.type "wrapper_descriptor") "__set__"=pure none:=by rw [typeLookup_type,builtinLookup_eq_fast];kernel_rfl
theorem ED:typeLookup (.type "wrapper_descriptor") "__delete__"=pure none:=by rw [typeLookup_type,builtinLookup_eq_fast];kernel_rfl
theorem uL:Slot "wrapper_descriptor" "__get__" "wrapper_descriptor.__get__":=
 .of (owner:="wrapper_descriptor") (n:="__get__") (by rw [typeLookup_type,builtinLookup_eq_fast];kernel_rfl) (by decide+kernel) (by decide+kernel) (by decide+kernel)
  (by first | exact .inl (by decide+kernel) | exact .inr (by decide+kernel)) (by rw [isSubtype_type];kernel_rfl)
theorem zi:entryFor table "wrapper_descriptor.__get__"=some Builtin.«wrapper_descriptor.__get__»:=entryFor_of_tree (by kernel_rfl)
theorem BC (a b c:Value):argsOk "wrapper_descriptor.__get__" ⟨[a,b,c],[]⟩:=by unfold argsOk;kernel_rfl
theorem pD:Slot "list_iterator" "__getattribute__" "object.__getattribute__":=
 .of (owner:="object") (n:="__getattribute__") (by rw [typeLookup_type,builtinLookup_eq_fast];kernel_rfl) (by decide+kernel) (by decide+kernel) (by decide+kernel)
  (by first | exact .inl (by decide+kernel) | exact .inr (by decide+kernel)) (by rw [isSubtype_type];kernel_rfl)
theorem BD (a b:Value):argsOk "object.__getattribute__" ⟨[a,b],[]⟩:=by unfold argsOk;kernel_rfl
section
variable {prog:Program} {w:World} {A:Around} {E:PE} {h:Heap} {g:Array GenState} {d:Drawn} {t:Nat} {os:OsState} {a l:Addr} {i:Nat}
theorem BE {R:Result->Shared->Prop} (hx:h.get? a=some (d7 l i)) (hq:R (.ok (.ret (.ref h.objs.size))) ⟨h.push (eA "list_iterator.__next__" a),g,d,t,os⟩):
  codeAny (model prog w) A (.call (.builtin "wrapper_descriptor.__get__") ⟨[.builtin "list_iterator.__next__", .ref a, .type "list_iterator"],[]⟩) R ⟨h,g,d,t,os⟩:=by
 have hT:(⟨h,g,d,t,os⟩:Shared).TypeIs (.ref a) "list_iterator":=⟨_,hx,rfl⟩
 have SK:(⟨h,g,d,t,os⟩:Shared).TypeIs (.builtin "list_iterator.__next__") "wrapper_descriptor":=pC
 refine codeAny_call_builtin uL.plain zi (uL.check _ _ _ _ _ _ _ _ SK (BC _ _ _) ?_)
 unfold Builtin.«wrapper_descriptor.__get__»
 have f8:isSubtype (.type "list_iterator") (.type (".".intercalate ("list_iterator.__next__".cutAt '.').dropLast))=pure true:=by
  have e0:"list_iterator.__next__".cutAt '.'=["list_iterator","__next__"]:=by first | rfl | decide+kernel
  rw [e0]
  have e1:(".".intercalate (["list_iterator","__next__"]:List String).dropLast)="list_iterator":=by decide+kernel
  rw [e1,isSubtype_type];kernel_rfl
 repeat (any_goals (first | assumption | wp_step))
open Builtin.ObjectAttr in
theorem BF {M:Model} (hx:h.get? a=some (d7 l i)):Looks M h (find (.ref a) (.type "list_iterator") "__next__") (.bind (.builtin "wrapper_descriptor.__get__") (.builtin "list_iterator.__next__")):=by
 intro A Q E s k q
 have BG:=k _ _ hx
 unfold find
 refine wpAny_bind (wpAny_of_eq slot_listiter_next.lookup ?_)
 refine wpAny_bind (m:=getOf _) ?_
 unfold getOf specialOf
 refine wpAny_bind (wpAny_of_eq pC (wpAny_of_eq EB ?_))
 refine wpAny_bind (m:=dataDescriptor? _ _) ?_
 unfold dataDescriptor? takesStores specialOf
 refine wpAny_bind (wpAny_bind (wpAny_bind (wpAny_of_eq pC (wpAny_of_eq EC ?_))))
 simp only [Option.isSome_none,Bool.false_eq_true,if_false]
 refine wpAny_bind (wpAny_bind (wpAny_of_eq pC (wpAny_of_eq ED (wpAny_pure ?_))))
 simp only [Option.isSome_none,Bool.false_eq_true,if_false]
 refine wpAny_pure ?_
 unfold ownThenClass
 refine wpAny_bind ?_
 unfold inOwnDict Builtin.ObjectAttr.ownDict loadHead
 refine wpAny_bind (wpAny_bind (wpAny_loadPart BG ?_))
 unfold instanceDict
 refine wpAny_bind (wpAny_loadPart BG (wpAny_pure ?_))
 refine wpAny_pure ?_
 refine wpAny_bind (m:=copiedAttributeGuard _ _) ?_
 unfold copiedAttributeGuard
 refine wpAny_of_eq (a:=()) ?_ ?_
 .rfl
 unfold byTheClass
 exact wpAny_bind (wpAny_rule (wpAny_pure q))
open Builtin.ObjectAttr in
theorem EE {Q:PE} (hx:h.get? a=some (d7 l i))
  (hq:Q (.ref h.objs.size) ⟨h.push (eA "list_iterator.__next__" a),g,d,t+1,os⟩):wpAny (model prog w) A (getAttr (.ref a) "__next__" true) Q E ⟨h,g,d,t,os⟩:=by
 have L0:Looks (model prog w) h (typeOf (.ref a)) (.type "list_iterator"):=(Looks.ld hx).andThen .now
 have hT:(⟨h,g,d,t+1,os⟩:Shared).TypeIs (.ref a) "list_iterator":=⟨_,hx,rfl⟩
 unfold getAttr getAttrBy
 refine wpAny_bind (wpAny_mkText (wpAny_holding (wpAny_bind (L0 _ _ _ _ (fun z0 z0 e=>e) (wpAny_bind (wpAny_of_eq HY ?_))))))
 skip
 refine az ((by decide)) ?_
 unfold getAttrByItsOwn hookBefore
 rw [if_neg (by decide)]
 refine wpAny_bind (wpAny_pure (wpAny_bind (wpAny_attempt (wpAny_holding ?_))))
 unfold callGetattribute
 refine az ((by decide)) ?_
 unfold boundAndCalled
 rw [pD.bind]
 refine wpAny_bind (wpAny_pure (wpAny_call (codeAny_call_builtin pD.plain PySem.F.entry_object_getattribute (pD.check _ _ _ _ _ _ _ _ hT (BD _ _) ?_))))
 unfold Builtin.«object.__getattribute__»
 refine wpAny_bind (wpAny_pure (wpAny_bind (wpAny_pure (wpAny_bind (L0 _ _ _ _ (fun z0 z0 e=>e) (wpAny_bind (BF hx _ _ _ _ (fun z0 z0 e=>e) ?_)))))))
 unfold bindTo
 skip
 refine wpAny_bind (wpAny_holding (wpAny_call (BE hx (wpAny_pure ?_))))
 exact wpAny_pure hq
theorem sW {s:Shared} {id:String} {self p:Addr} {B:Builtin} {R:Result->Shared->Prop} (ho:s.heap.get? p=some (eA id self)) (he:entryFor table id=some B) (hq:(Code.builtin id ⟨[.ref self],[]⟩).quiet=true) (hc:checkBoundCall id ⟨[.ref self],[]⟩=pure ())
  (hw:A.under (.builtin id ⟨[.ref self],[]⟩)=A.in1)
  (h:wpAny (model prog w) A.in1 (B ⟨[.ref self],[]⟩) (fun fin s'=>match fin with | .done f=>R (.ok f) s' | .again c'=>c'.quiet=true/\codeAny (model prog w) A c' R s') (fun e s'=>R (.error e) s') s):codeAny (model prog w) A (.call (.ref p) ⟨[],[]⟩) R s:=by
 obtain ⟨hh,g,dr,t,os⟩:=s
 refine codeAny_of_tree ?_
 skip
 dsimp only at ho
 refine nd_load ho ?_
 show wpAny _ _ (checkBoundCall id ⟨[.ref self],[]⟩ >>=fun z0=>again (.builtin id ⟨[.ref self],[]⟩)) _ _ _
 refine wpAny_bind (wpAny_of_eq hc (wpAny_pure ⟨hq,codeAny_builtin he ?_⟩))
 exact hw▸h
end
section
variable {g:G} {F:Fm} {m:Loc} {H:AH} {s:Shared} {X:PX} {Q:PV}
theorem EF {l:Addr} {xs:List V} (hl:H l=some (.list xs)) (h: ∀ it,H it=none->Q (.ref it) m (put H it (.iter l 0))):WC g F (.builtin "iter") [.ref l] m H Q X:=uG fun s v S r=>by
 rw [VR.ay] at r;subst r
 obtain ⟨vs,ep,e,rs⟩:=S.listAt hl
 refine call_function_entry (by decide+kernel) (by decide+kernel) kdk_entry_iter (kdk_args_iter _) ?_
 unfold Builtin.«iter»
 refine wpAny_bind (m:=someArgs "iter" 1 2 _) (wpAny_of_eq (a:=[Value.ref l]) (by first | rfl | kernel_rfl!) ?_)
 skip
 refine wpAny_bind (wpAny_pyIter_list (items:=vs.toArray) ⟨_,e,rfl,ep,rfl⟩ ?_)
 have n:s.heap.get? s.heap.objs.size=none:=Heap.get?_none_of_le (Nat.le_refl _)
 obtain ⟨S',K'⟩:=S.new (t:=s.toks) (h':=s.heap.push (d7 l 0)) (o':= .iter l 0) (fun z0 z0 e=>Heap.get?_push_of_some _ e) n (Heap.get?_push_size _ rfl)
 exact wpAny_pure ⟨_,rfl, .ref _,m,_, .ip _,S',K',h _ (S.bZ n)⟩
theorem EG {it l:Addr} {i:Nat} (hi:H it=some (.iter l i)) (h: ∀ b,H b=none->Q (.ref b) m (put H b (.bound "list_iterator.__next__" it))):W1 g F VR (.ref it) (fun v=>getAttr v "__next__" true) m H Q X:=fun s v S r=>by
 rw [VR.ay] at r;subst r
 have e:s.heap.get? it=some (d7 l i):=(S.obj it _ hi).2
 have n:s.heap.get? s.heap.objs.size=none:=Heap.get?_none_of_le (Nat.le_refl _)
 obtain ⟨S',K'⟩:=S.new (t:=s.toks+1) (h':=s.heap.push (eA "list_iterator.__next__" it)) (o':= .bound "list_iterator.__next__" it) (fun z0 z0 e=>Heap.get?_push_of_some _ e) n (Heap.get?_push_size _ rfl)
 have fin:bG g F VR Q s.heap H (.ref s.heap.objs.size) { s with heap:=s.heap.push (eA "list_iterator.__next__" it),toks:=s.toks+1 }:=⟨.ref _,m,_, .ip _,S',K',h _ (S.bZ n)⟩
 obtain ⟨hh,gg,d,t,os⟩:=s
 exact EE e fin
theorem sX {xs ys:Array Value} {i:Nat} {v:Value} (h:xs[i]? =some v):(xs++ys)[i]? =some v:=by
 rw [Array.getElem?_append_left (Array.getElem?_eq_some_iff.mp h).1];exact h
theorem zj (a:Value):checkBoundCall "list_iterator.__next__" ⟨[a],[]⟩=pure ():=by kernel_rfl
theorem zk (a:Value):(Code.builtin "list_iterator.__next__" ⟨[a],[]⟩).quiet=true:=Code.quiet_builtin _ (by decide+kernel)
theorem zm:plainId "list_iterator.__next__"=true:=by decide+kernel
theorem St.EH {it l:Addr} {i:Nat} (S:St g F m H s) (hi:H it=some (.iter l i)):(1<=s.toks->St g F m (put H it (.iter l (i+1))) { s with heap:=s.heap.update it (Obj.mapFields (·.setIfInBounds 1 (rawInt (i+1)))),toks:=s.toks })/\aF F s.heap H (s.heap.update it (Obj.mapFields (·.setIfInBounds 1 (rawInt (i+1))))) (put H it (.iter l (i+1))):=by
 have ei:s.heap.get? it=some (d7 l i):=(S.obj it _ hi).2
 have D':(s.heap.update it (Obj.mapFields (·.setIfInBounds 1 (rawInt (i+1))))).get? it=some (d7 l (i+1)):=by rw [Heap.get?_update_self _ ei rfl];rfl
 exact S.set (.sameBut ⟨Heap.size_update ..,fun b q=>Heap.get?_update_other _ _ (Ne.symm q)⟩ D' fun oO z0 z0 e' q=>by obtain rfl:=oi ei e';cases q) hi (o':= .iter l (i+1)) D'
theorem St.BH {it l:Addr} {i:Nat} (S:St g F m H s) (hi:H it=some (.iter l i)):St g F m (Mine.rem H it) { s with heap:=s.heap.update it (Obj.mapFields (·.setIfInBounds 0 Value.none)),toks:=s.toks }/\aF F s.heap H (s.heap.update it (Obj.mapFields (·.setIfInBounds 0 Value.none))) (Mine.rem H it):=by
 have ei:s.heap.get? it=some (d7 l i):=(S.obj it _ hi).2
 have D':(s.heap.update it (Obj.mapFields (·.setIfInBounds 0 Value.none))).get? it=some { cls:= .type "list_iterator",data:= .fields #[.none, .int i 0] }:=by rw [Heap.get?_update_self _ ei rfl];rfl
 refine (S.chg (.sameBut ⟨Heap.size_update ..,fun b q=>Heap.get?_update_other _ _ (Ne.symm q)⟩ D' fun oO z0 z0 e' q=>by obtain rfl:=oi ei e';cases q) (fun b e z0=>by subst e;rw [hi];rfl) (fun b=> ?_) fun b o e=> ?_).imp (fun z=>z S.tk) id
 .by_cases z:b=it
  .exact .inr (.inr (if_pos z))
  .rw [sV z];cases H b <;> simp
 .by_cases z:b=it
  .exact on (if_pos z) e
  .rw [sV z] at e;exact .inl ⟨e,z⟩
inductive CN (Q:PV) (X:PX) (a:V) (m:Loc) (H:AH):Prop
 | mk (b it l:Addr) (i:Nat) (xs:List V) (e:a= .ref b) (hb:H b=some (.bound "list_iterator.__next__" it)) (hi:H it=some (.iter l i)) (hl:H l=some (.list xs))
  (h:match xs[i]? with | some x=>Q x m (put H it (.iter l (i+1))) | none=>X (.type "StopIteration") [] m (rem H it)):CN Q X a m H
theorem sY {fn:Expr} {pos:Pos} (hh:F.A.handled=none) (h:WE g F (eval fn F.env) m H (CN Q X) X)
  (he:eval (.Call fn [] [] pos) F.env=(eval fn F.env >>=fun f=>callWith pos f [] (backTo pos (starEach [] F.env)) []):=by rfl):WE g F (eval (.Call fn [] [] pos) F.env) m H Q X:=fun s S=>by
 rw [he]
 refine wpAny_bind (h.run S (fun v av a m₁ aL aA ah k₁ cy=>iI fun Rz Ez rQ ui=> ?_) fun z0 z0 x=>x)
 obtain ⟨b,it,l,i,xs,rfl,hb,hi,hl,hx⟩:=cy
 rw [VR.ay] at aA;subst aA
 have eb:av.heap.get? b=some (eA "list_iterator.__next__" it):=(ah.obj b _ hb).2
 have ei:av.heap.get? it=some (d7 l i):=(ah.obj it _ hi).2
 obtain ⟨vs,ep,el,rs⟩:=ah.listAt hl
 refine callWith_of (P:=fun h=>h.get? b=some (eA "list_iterator.__next__" it)) rfl (fun h e=>⟨.machine, .inr (.inl rfl),(Looks.ld (part:=none) e).andThen .now⟩) (PySem.evalArgs_none ⟨eb, ?_⟩)
 refine wpAny_call (sW eb entry_listiter_next (zk _) (zj _) (Around.under_plainId zm _) ?_)
 show wpAny _ _ (field (.ref it) 0 >>=_) _ _ av
 refine wpAny_bind (wpAny_field ei rfl (x:= .ref l) rfl ?_)
 refine az ((show ¬ ((Value.ref l == Value.none)=true) from Bool.false_ne_true)) ?_
 refine wpAny_bind (wpAny_field ei rfl (x:= .int i 0) rfl ?_)
 refine wpAny_bind (wpAny_seqItems el rfl ?_)
 simp only [Int.toNat_natCast,List.getElem?_toArray]
 cases q:xs[i]? with
 | some x=>
  rw [q] at hx
  obtain ⟨v,ev,rv⟩:=rs.getElem? q
  rw [ev]
  obtain ⟨S',K'⟩:=ah.EH hi
  exact wpAny_bind (wpAny_setField ei rfl (by simp) (wpAny_pure (rQ _ _ ⟨x,m₁,_,rv.mono (K'.mono ah).tup,S',k₁.trans K',hx⟩)))
 | none=>
  rw [q] at hx
  have hv:vs[i]? =none:=by rw [List.getElem?_eq_none_iff] at q|-;rw [rs.length];exact q
  rw [hv]
  obtain ⟨S',K'⟩:=ah.BH hi
  refine wpAny_bind (wpAny_rule (wpAny_bind (wpAny_setField ei rfl (by simp) ?_)))
  revert S' K'
  refine mQ (av.heap.update it (Obj.mapFields (·.setIfInBounds 0 Value.none))) fun h1 S' K'=> ?_
  skip
  refine wpAny_bind ?_
  simp only [newExc,newTuple]
  refine wpAny_bind (wpAny_newObj_type ?_ (by size_fits))
  refine wpAny_bind (m:=firstArgMember _ _) (wpAny_of_eq (a:=Value.none) (by first | rfl | (simp only [firstArgMember];rfl)) ?_)
  refine wpAny_newObj_type ?_ (by size_fits)
  delta raiseNew;dsimp only
  refine wpAny_bind (wpAny_handled ?_)
  rw [show F.A.in1.handled=none from hh]
  refine wpAny_bind (wpAny_pure (wpAny_throw ?_))
  have bq:=k₁.trans K'
  have kp: ∀ b o,h1.get? b=some o->((h1.push { cls:= .type "tuple",data:= .seq #[] }).push { cls:= .type "StopIteration",data:= .fields (#[.ref h1.objs.size,Value.none,Value.none,Value.none,Value.bool false,Value.none]++ownMembersOf (.type "StopIteration") []) }).get? b=some o:=
   fun b o e=>Heap.get?_push_of_some _ (Heap.get?_push_of_some _ e)
  obtain ⟨aB,bX⟩:=S'.ext (t:=av.toks) kp
  replace aB:=aB (by first | exact S'.tk | exact Nat.le_trans S'.tk (Nat.le_add_right ..) | assumption)
  have nl:=S'.lt (b:=(h1.push { cls:= .type "tuple",data:= .seq #[] }).objs.size) (by rw [Heap.size_push];exact Nat.le_succ _)
  have n0:s.heap.get? (h1.push { cls:= .type "tuple",data:= .seq #[] }).objs.size=none:=by
   cases z:s.heap.get? (h1.push { cls:= .type "tuple",data:= .seq #[] }).objs.size with
   | none=>rfl
   | some o=>
    obtain ⟨o',w⟩:=bq.alive _ o z
    have:=nl.2.2
    rw [show h1.get? _=some o' from w] at this
    cases this
  refine ui _ _ ⟨.type "StopIteration",[],m₁,rem aL it,⟨_,_,_, .ref h1.objs.size,rfl,n0,nl.1,Heap.get?_push_size _ rfl,rfl,rfl,rfl, ?_, ?_, .inl ?_⟩,aB,bq.trans bX,hx⟩
  .exact ⟨sX rfl,sX rfl⟩
  .exact .rZ (vs:=[]) (ep:=0) (S'.wZ (Nat.le_refl _)) (Heap.get?_push_of_some _ (Heap.get?_push_size _ rfl)) .gC
  .exact sX rfl
end
set_option tactic.hygienic true in
theorem zq {α:Type} {K:Frag} {M:Model} {A:Around} {E:PE} {Q:α->Shared->Prop} {s:Shared} {o:Obj} {r:Addr->α} (X:K.In s.heap) (q:Q (r s.heap.objs.size) { s with heap:=s.heap.push o }):
  ∀ (t:Sem α) (g:Addr->Option α),peek1 K ⟨M.prog,M.w.params⟩ t=some (o,g)->(∀ D,g D=some (r D))->wpAny M A t Q E s:=by
 intro t
 induction t with
 | rule _ k ih=>intro g e hg Γ p AQ;exact ih () g e hg Γ p AQ
 | point _ k ih=>intro g e hg Γ p AQ;exact ih () g e hg Γ p AQ
 | ask k ih=>intro g e hg Γ p AQ;exact ih _ g e hg Γ p AQ
 | load a _ k ih=>
  intro g e hg Γ p AQ
  simp only [peek1] at e
  split at e
  .rename_i ob ho;exact ⟨ob,X _ _ ho,ih ob g e hg Γ p AQ⟩
  .cases e
 | alloc ob k _=>
  intro g e hg
  have e:some (ob,fun D=>peek K ⟨M.prog,M.w.params⟩ (k D))=some (o,g):=e
  obtain ⟨e1,e2⟩:=Prod.mk.inj (Option.some.inj e)
  subst e1
  subst e2
  have X':K.In (s.heap.push ob):=X.keeps fun b x hb=>Heap.get?_push_of_some _ hb
  skip
  refine wpAny_bind (wpAny_alloc ?_)
  exact (Looks.of_peek (M:=M) (h:=s.heap.push ob) X' (hg s.heap.objs.size)).here (s:={ s with heap:=s.heap.push ob }) q
 | _=>intro g e;cases e
theorem BR.append {h:Heap}: ∀ {as bs:List (Str×V)} {us vs:List (Str×Value)},BR h as us->BR h bs vs->BR h (as++bs) (us++vs):=by
 intro L9
 induction L9 with
 | nil=>
  rintro _ _ _ e f
  cases e;exact f
 | cons _ _ ih=>
  rintro _ _ _ ⟨v,r,e,hv,hr⟩ f
  subst e;exact ⟨v,_,rfl,hv,ih hr f⟩
theorem bh.drop {h:Heap}: ∀ {xs:List V} {vs:List Value} (k:Nat),bh h xs vs->bh h (xs.drop k) (vs.drop k)
 | _,_,0,r=>by simpa using r
 | [],_,k+1,r=>by rw [bh.bL] at r;subst r;simpa using bh.gC
 | x::xs,_,k+1,r=>by obtain ⟨v,r',rfl,_,rr⟩:=r.aG;simpa using bh.drop k rr
theorem HZ {α:Type} {P:List α->Prop} (h0:P []) (h1: ∀ a:α,P [a]) (h2: ∀ a b:α,P [a,b]) (h3: ∀ a b c:α,P [a,b,c]) (h4: ∀ a b c d:α,P [a,b,c,d]) (h5: ∀ a b c d e:α,P [a,b,c,d,e]) (h6: ∀ a b c d e f:α,P [a,b,c,d,e,f]) (h7: ∀ a b c d e f g:α,P [a,b,c,d,e,f,g]) (h8: ∀ a b c d e f g h:α,P [a,b,c,d,e,f,g,h]) (h9: ∀ a b c d e f g h i:α,P [a,b,c,d,e,f,g,h,i]): ∀ l:List α,l.length<=9->P l:=by
 intro l hl
 rcases l with _ | ⟨a,l⟩
 .exact h0
 rcases l with _ | ⟨b,l⟩
 .exact h1 _
 rcases l with _ | ⟨c,l⟩
 .exact h2 _ _
 rcases l with _ | ⟨d,l⟩
 .exact h3 _ _ _
 rcases l with _ | ⟨e,l⟩
 .exact h4 _ _ _ _
 rcases l with _ | ⟨f,l⟩
 .exact h5 _ _ _ _ _
 rcases l with _ | ⟨g,l⟩
 .exact h6 _ _ _ _ _ _
 rcases l with _ | ⟨h,l⟩
 .exact h7 _ _ _ _ _ _ _
 rcases l with _ | ⟨i,l⟩
 .exact h8 _ _ _ _ _ _ _ _
 rcases l with _ | ⟨j,l⟩
 .exact h9 _ _ _ _ _ _ _ _ _
 exact absurd hl (by simp)
section
variable {g:G} {F:Fm} {m:Loc} {H:AH} {s:Shared} {X:PX} {Q:PV}
theorem hM {fd:FuncData} {xs:List V} {pre:List (Str×V)} {vn:Str} {k:Nat} (rp:List Value->List (Str×Value))
  (e: ∀ vs S,vs.length=xs.length-> ∃ gf,peek1 g.K S (bindArgs fd ⟨vs,[]⟩)=some (dD (vs.drop k) 0,gf)/\ ∀ D,gf D=some (rp vs++[(vn, .ref D)])) (hr: ∀ h vs,bh h xs vs->BR h pre (rp vs)):
  Binds g fd xs (pre++[(vn, .tup (xs.drop k))]):=fun A s vs E Q X dd hv hq=>by
 obtain ⟨gf,e1,e2⟩:=e vs ⟨g.prog,g.w.params⟩ hv.length
 have kp: ∀ b o,s.heap.get? b=some o->(s.heap.push (dD (vs.drop k) 0)).get? b=some o:=fun z0 z0 e=>Heap.get?_push_of_some _ e
 refine zq (M:=model g.prog g.w) X (hq _ _ kp ?_) _ gf e1 e2
 refine ((hr _ _ hv).mono (fun z0 z0 z0 e=>kp _ _ e)).append ⟨_,[],rfl, .rZ (fun z=>by obtain ⟨o,e⟩:=dd _ z;exact on (Heap.get?_none_of_le (Nat.le_refl _)) e) (Heap.get?_push_size _ rfl) ((hv.drop k).mono fun z0 z0 z0 e=>kp _ _ e),rfl⟩
structure uM (K:Frag) (C:Addr) (name:Str) (f:Addr):Prop where
 plain:plainGet K C name=true
 dict:hasDictIn K C=true
 find:findIn K (.ref C) name=some (some (.ref f))
 fn:isFn K (.ref f)=true
 SM:fnIn K f=true
 get:specialIn K (.ref f) "__get__"=some (some (.builtin "function.__get__"))
 takes:takesIn K (.ref f)=some false
 EI:copiedNames.contains name=false
noncomputable def zt (g:G) (F:Fm) (pos:Pos) (args:List Expr) (m:Loc) (H:AH) (Q:lj) (X:PX):Prop:=
 ∀ f s,St g F m H s->wpAny (model g.prog g.w) F.A (evalArgs f true (backTo pos (starEach args F.env)) []) (fun a s'=>a.kw=[]/\bG g F bh Q s.heap H a.pos s') (dA g F X s.heap H) s
theorem v8 {e:Expr} {p pos:Pos} {Q:lj} (h:WE g F (eval e F.env) m H (fun b m H=> ∃ xs,qC g b H xs/\Q xs m H) X):zt g F pos [.Starred e p] m H Q X:=fun f s S=>
 ks_lone (h.run S (fun b aP b' eJ dk dZ bf fm cy=>cy.elim fun xs eX=>eX.elim fun hi fC=>hi.star bf dZ fun vs h' A7 rv=>by
  obtain ⟨c6,jg⟩:=bf.ext (t:=aP.toks) A7
  exact ⟨rfl,xs,eJ,dk,rv,c6,fm.trans jg,fC⟩) fun z0 z0 y=>y)
theorem v9 {e1 e2:Expr} {p pos:Pos} {Q:lj} (h:WE g F (eval e1 F.env) m H (fun a m H=>WE g F (eval e2 F.env) m H (fun b m H=> ∃ xs,qC g b H xs/\Q (a::xs) m H) X) X)
  (he:starEach [e1, .Starred e2 p] F.env=(false,eval e1 F.env)::starEach [.Starred e2 p] F.env:=by rfl):zt g F pos [e1, .Starred e2 p] m H Q X:=fun f s S=>by
 suffices z:wpAny (model g.prog g.w) F.A (spliced (backTo pos (starEach [e1, .Starred e2 p] F.env))) (fun vs s'=>(⟨vs,[]⟩:Args).kw=[]/\bG g F bh Q s.heap H (⟨vs,[]⟩:Args).pos s') (dA g F X s.heap H) s by
  rw [he] at z|-;exact evalArgs_plain z
 refine wpAny_items_cons (env:=F.env) (h.run S (fun v av a m₁ aL aA ah k₁ h₁=> ?_) fun z0 z0 y=>y) he
 refine items_star (env:=F.env) (p:=p) (h₁.run ah (fun b aP b' eJ dk dZ bf fm cy=>cy.elim fun xs eX=>eX.elim fun hi fC=>hi.star bf dZ fun vs h' A7 rv=> ?_) fun z0 z0 y=>y.after k₁)
 obtain ⟨c6,jg⟩:=bf.ext (t:=aP.toks) A7
 refine wpAny_items_nil ?_
 rw [List.append_nil]
 exact ⟨rfl,a::xs,eJ,dk, .cons ((aA.keep ah (fm.trans jg))) rv,c6,(k₁.trans fm).trans jg,fC⟩
inductive MX (g:G) (F:Fm) (pos:Pos) (args:List Expr) (name:Str) (Q:PV) (X:PX) (a:V) (m:Loc) (H:AH):Prop
 | mk (x C dx:Addr) (fs:List (Str×V)) (f:Addr) (e1:a= .ref x) (hx:H x=some (.inst C dx)) (hd:H dx=some (.ns fs)) (M:uM g.K C name f) (hn:fs.lookup name=none)
  (h:zt g F pos args m H (fun xs m H=>aH g F (.ref f) (.ref x::xs) m H Q X) X)
theorem uN {o:Expr} {args:List Expr} {name:Str} {apos pos:Pos}
  (h:WE g F (eval o F.env) m H (MX g F pos args name Q X) X)
  (lP:attributeBase o name F.env (eval o F.env)=eval o F.env:=by rfl) (yo:methodCallForm (args.length+([]:List Keyword).length) (backTo pos (starEach args F.env)) (backToKw pos (keywordEach [] F.env))=false:=by rfl)
  (kH:(backTo pos (starEach args F.env)).any (·.1)=true:=by rfl):WE g F (eval (.Call (.Attribute o name apos) args [] pos) F.env) m H Q X:=fun s S=>by
 rw [arm_eval_Call,lP]
 refine wpAny_bind (h.run S (fun v av a m₁ aL aA ah k₁ cy=>iI fun Rz Ez rQ ui=> ?_) fun z0 z0 x=>x)
 obtain ⟨x,C,dx,fs,f,rfl,hx,hd,M,hn,h₁⟩:=cy
 rw [VR.ay] at aA;subst aA
 obtain ⟨es,n,I,_,hr⟩:=kJ ah hx hd
 have Ea:methodCallPos false o F.env apos pos=pure pos:=rfl
 have kp: ∀ b o,av.heap.get? b=some o->(av.heap.push (methodObj (.ref f) (.ref x))).get? b=some o:=fun z0 z0 e=>Heap.get?_push_of_some _ e
 have aB:=(ah.ext (t:=av.toks+1) kp).1 (Nat.le_succ_of_le ah.tk)
 have bX:=k₁.trans (ah.ext (t:=av.toks+1) kp).2
 refine wpAny_bind (wpAny_standAt ?_)
 delta methodCall
 rw [yo]
 refine wpAny_bind (wpAny_holding ?_)
 refine az ((by decide)) ?_
 refine wpAny_bind (get_bind ah.gq I (plainGet_of M.plain).1 (findObj_fn M.dict M.find M.get M.takes M.EI (by show lookIn name (dictOf es n)=_;rw [lookIn_dict,qD hr hn])) (plainGet_of M.plain).2
  (wpAny_call (fn_get (s:={ av with toks:=av.toks+1 }) ah.gq (beq_iff_eq.mp M.fn) (handed_on rfl ?_))))
 refine wpAny_pure (wpAny_bind (wpAny_of_eq Ea ?_))
 have H0:(av.heap.push (methodObj (.ref f) (.ref x))).get? av.heap.objs.size=some (methodObj (.ref f) (.ref x)):=Heap.get?_push_size _ rfl
 refine ks_call (P:=MethP g.K av.heap.objs.size f (.ref x)) kH (keeps_M M.SM) (wpAny_mono (wpAny_toks aB.tk (h₁ _ _ aB)) (fun a eM z=> ?_) fun z0 z0 y=>ui _ _ (y.2.after bX))
 obtain ⟨tk,SN,xs,Bd,yg,rv,c6,jg,fC⟩:=z
 replace c6:=c6 tk
 have eZ:=bX.trans jg
 have C5:eM.heap.get? av.heap.objs.size=some (methodObj (.ref f) (.ref x)):=(jg.stay aB H0 (ah.lt (Nat.le_refl _)).1 ah.fresh fun z0 z0 q=>by cases q).2
 obtain ⟨ap,ak⟩:=a
 cases SN
 refine ⟨⟨C5,c6.gq⟩,wpAny_call (method_call C5 ?_)⟩
 refine codeAny_mono (fC _ (.ref x::ap) c6 (.cons (.ip x) rv)) fun r s' z=> ?_
 rcases r with e | (v | _ | _ | _)
 .exact ui _ _ (dA.after eZ z)
 all_goals first | exact z.elim | exact rQ _ _ (bG.after eZ z)
theorem sZ {o e:Expr} {name:Str} {apos pos p:Pos}
  (h:WE g F (eval o F.env) m H (fun a m H=> ∃ x C dx fs f,a= .ref x/\H x=some (.inst C dx)/\H dx=some (.ns fs)/\uM g.K C name f/\fs.lookup name=none/\
   WE g F (eval e F.env) m H (fun b m H=> ∃ xs,qC g b H xs/\aH g F (.ref f) (.ref x::xs) m H Q X) X) X)
  (lP:attributeBase o name F.env (eval o F.env)=eval o F.env:=by rfl):WE g F (eval (.Call (.Attribute o name apos) [.Starred e p] [] pos) F.env) m H Q X:=
 uN (h.post fun a m H z=>z.elim fun x z=>z.elim fun C z=>z.elim fun dx z=>z.elim fun fs z=>z.elim fun f z=>⟨x,C,dx,fs,f,z.1,z.2.1,z.2.2.1,z.2.2.2.1,z.2.2.2.2.1,v8 z.2.2.2.2.2⟩) lP
end
noncomputable def Sat (H:AH) (L:List (Addr×O)):Prop:=(L.map (·.1)).Nodup/\ ∀ p∈L,H p.1=some p.2
theorem Sat.get {H:AH} {L:List (Addr×O)} {a:Addr} {o:O} (s:Sat H L) (h:(a,o)∈L):H a=some o:=s.2 _ h
theorem Sat.perm {H:AH} {L L':List (Addr×O)} (s:Sat H L) (p:L.Perm L'):Sat H L':=⟨(p.map _).nodup_iff.mp s.1,fun q hq=>s.2 q (p.mem_iff.mpr hq)⟩
theorem Sat.set {H:AH} {L:List (Addr×O)} {a:Addr} {o:O} (s:Sat H ((a,o)::L)) (o':O):Sat (put H a o') ((a,o')::L):=by
 obtain ⟨n,h⟩:=s
 rw [List.map_cons,List.nodup_cons] at n
 refine ⟨by rw [List.map_cons,List.nodup_cons];exact n,fun p hp=> ?_⟩
 rcases List.mem_cons.mp hp with rfl | hp
 .exact ag ..
 .rw [cU _ _ fun q=>n.1 (List.mem_map.mpr ⟨p,hp,q⟩)]
  exact h p (List.mem_cons_of_mem _ hp)
theorem Sat.new {H:AH} {L:List (Addr×O)} {a:Addr} {o:O} (s:Sat H L) (h:H a=none):Sat (put H a o) ((a,o)::L):=by
 obtain ⟨n,hL⟩:=s
 have ne: ∀ p∈L,p.1≠a:=fun p hp q=>by have:=hL p hp;rw [q,h] at this;cases this
 refine ⟨by rw [List.map_cons,List.nodup_cons];exact ⟨fun q=>by obtain ⟨p,hp,e⟩:=List.mem_map.mp q;exact ne p hp e,n⟩,fun p hp=> ?_⟩
 rcases List.mem_cons.mp hp with rfl | hp
 .exact ag ..
 .rw [cU _ _ (ne p hp)];exact hL p hp
theorem Sat.mid {H:AH} {A C:List (Addr×O)} {a:Addr} {o:O} (s:Sat H (A++(a,o)::C)) (o':O):Sat (put H a o') (A++(a,o')::C):=
 ((s.perm List.perm_middle).set o').perm List.perm_middle.symm
theorem Sat.tail {H:AH} {A C:List (Addr×O)} (s:Sat H (A++C)):Sat H C:=⟨by have:=s.1;rw [List.map_append] at this;exact (List.nodup_append.mp this).2.1,fun p hp=>s.2 p (List.mem_append_right _ hp)⟩
theorem Sat.sublist {H:AH} {L L':List (Addr×O)} (s:Sat H L) (h:L'.Sublist L):Sat H L':=⟨(h.map _).nodup s.1,fun p hp=>s.2 p (h.subset hp)⟩
theorem Sat.rem {H:AH} {L:List (Addr×O)} {a:Addr} {o:O} (s:Sat H ((a,o)::L)):Sat (Mine.rem H a) L:=by
 obtain ⟨n,h⟩:=s
 rw [List.map_cons,List.nodup_cons] at n
 refine ⟨n.2,fun p hp=> ?_⟩
 rw [sV fun q=>n.1 (List.mem_map.mpr ⟨p,hp,q⟩)]
 exact h p (List.mem_cons_of_mem _ hp)
theorem Sat.w8 {H:AH} {L:List (Addr×O)} {a:Addr} {o:O} (s:Sat H ((a,o)::L)):H a=some o:=s.2 _ (.head _)
theorem Sat.rR {H:AH} {L:List (Addr×O)} {a:Addr} {o:O} {p:Addr×O} (s:Sat H (p::(a,o)::L)):H a=some o:=s.2 _ (.tail _ (.head _))
theorem Sat.at2 {H:AH} {L:List (Addr×O)} {a:Addr} {o:O} {p q:Addr×O} (s:Sat H (p::q::(a,o)::L)):H a=some o:=s.2 _ (.tail _ (.tail _ (.head _)))
theorem Sat.Ia {H:AH} {L:List (Addr×O)} {a:Addr} {o:O} {p q r:Addr×O} (s:Sat H (p::q::r::(a,o)::L)):H a=some o:=s.2 _ (.tail _ (.tail _ (.tail _ (.head _))))
theorem Sat.Ib {H:AH} {L:List (Addr×O)} {a:Addr} {o:O} {p:Addr×O} (s:Sat H (p::(a,o)::L)) (o':O):Sat (put H a o') (p::(a,o')::L):=s.mid (A:=[p]) o'
theorem Sat.s9 {H:AH} {L:List (Addr×O)} {a:Addr} {o:O} {p q:Addr×O} (s:Sat H (p::q::(a,o)::L)) (o':O):Sat (put H a o') (p::q::(a,o')::L):=s.mid (A:=[p,q]) o'
theorem Sat.Ic {H:AH} {L:List (Addr×O)} {a:Addr} {o:O} {p q r:Addr×O} (s:Sat H (p::q::r::(a,o)::L)) (o':O):Sat (put H a o') (p::q::r::(a,o')::L):=s.mid (A:=[p,q,r]) o'
theorem Sat.SQ {H:AH} {L:List (Addr×O)} {a:Addr} {o:O} {p q r t u:Addr×O} (s:Sat H (p::q::r::t::u::(a,o)::L)):H a=some o:=s.2 _ (.tail _ (.tail _ (.tail _ (.tail _ (.tail _ (.head _))))))
theorem Sat.NY {H:AH} {L:List (Addr×O)} {a:Addr} {o:O} {p q r t u:Addr×O} (s:Sat H (p::q::r::t::u::(a,o)::L)) (o':O):Sat (put H a o') (p::q::r::t::u::(a,o')::L):=s.mid (A:=[p,q,r,t,u]) o'
theorem n6 (i:Int):handed (cd i)=true:=bK (P:=fun p=>handed p.1=true) (by decide) i.toNat
noncomputable def a8 (ns:List Int):List V:=ns.map cd
theorem aw (ns:List Int):(a8 ns).length=ns.length:=by unfold a8;simp
theorem jr {ns:List Int} {i:Nat} (h:i<ns.length):(a8 ns).getD i .none=cd ns[i]:=by
 delta a8;rw [List.getD_eq_getElem?_getD,List.getElem?_map,List.getElem?_eq_getElem h];rfl
theorem EJ {ns:List Int} {i:Nat} {n:Int} (e:ns[i]? =some n):(a8 ns)[i]? =some (cd n):=by delta a8;simp [e]
theorem jt (ns:List Int) (k:Int):a8 ns++[cd k]=a8 (ns++[k]):=by delta a8;simp
theorem lW: ∀ (ns:List Int),cJ (a8 ns)=true:=by
 intro L9
 induction L9 with
 | nil=>
  rfl
 | cons n ns ih=>
  show cJ (cd n::a8 ns)=true
  unfold cJ
  rw [aV,ih];rfl
theorem zu: ∀ (ns:List Int),cQ (a8 ns)<=8:=by
 intro L9
 induction L9 with
 | nil=>
  decide
 | cons n ns ih=>
  show cQ (cd n::a8 ns)<=8
  skip
  exact Nat.max_le.mpr ⟨dg n,ih⟩
structure Row where
 k:Int
 na:Addr
 np:Int
 la:Addr
 su:List Int
structure au where
 x:Addr
 dx:Addr
 d:Addr
 ep:Nat
 rows:List Row
 rd:Option (Addr×List Int)
 po:Int
 nf:Int
noncomputable def fo (r:Row):List (Addr×O):=[(r.na, .node 40 [cd r.k, .int r.np, .ref r.la]),(r.la, .list (a8 r.su))]
noncomputable def bT (rs:List Row):List (Addr×O):=rs.flatMap fo
noncomputable def j6:Option (Addr×List Int)->List (Addr×O)
 | none=>[]
 | some (a,ns)=>[(a, .list (a8 ns))]
noncomputable def rS:Option (Addr×List Int)->V
 | none=> .none
 | some (a,_)=> .ref a
noncomputable def iR (d:Addr) (rd:V) (po nf:Int):List (Str×V):=[("_node2info", .ref d),("_ready_nodes",rd),("_npassedout", .int po),("_nfinished", .int nf)]
noncomputable def ao (rs:List Row):List (Int×V):=rs.map fun r=>(r.k, .ref r.na)
noncomputable def au.lay (σ:au):List (Addr×O):=(σ.x, .inst 137 σ.dx)::(σ.dx, .ns (iR σ.d (rS σ.rd) σ.po σ.nf))::(σ.d, .dict (ao σ.rows) σ.ep)::(j6 σ.rd++bT σ.rows)
theorem au.inst {σ:au} {B:List (Addr×O)} {H:AH} (s:Sat H (σ.lay++B)):H σ.x=some (.inst 137 σ.dx):=s.get (by simp [au.lay])
theorem au.ns {σ:au} {B:List (Addr×O)} {H:AH} (s:Sat H (σ.lay++B)):H σ.dx=some (.ns (iR σ.d (rS σ.rd) σ.po σ.nf)):=s.get (by simp [au.lay])
theorem au.dict {σ:au} {B:List (Addr×O)} {H:AH} (s:Sat H (σ.lay++B)):H σ.d=some (.dict (ao σ.rows) σ.ep):=s.get (by simp [au.lay])
theorem au.ready {σ:au} {B:List (Addr×O)} {H:AH} {a:Addr} {ns:List Int} (s:Sat H (σ.lay++B)) (e:σ.rd=some (a,ns)):H a=some (.list (a8 ns)):=s.get (by simp [au.lay,e,j6])
theorem au.node {σ:au} {B:List (Addr×O)} {H:AH} {r:Row} (s:Sat H (σ.lay++B)) (h:r∈σ.rows):H r.na=some (.node 40 [cd r.k, .int r.np, .ref r.la]):=s.get (by
 refine List.mem_append_left _ (List.mem_cons_of_mem _ (List.mem_cons_of_mem _ (List.mem_cons_of_mem _ (List.mem_append_right _ (List.mem_flatMap.mpr ⟨r,h, ?_⟩)))))
 simp [fo])
theorem au.ju {σ:au} {B:List (Addr×O)} {H:AH} {r:Row} (s:Sat H (σ.lay++B)) (h:r∈σ.rows):H r.la=some (.list (a8 r.su)):=s.get (by
 refine List.mem_append_left _ (List.mem_cons_of_mem _ (List.mem_cons_of_mem _ (List.mem_cons_of_mem _ (List.mem_append_right _ (List.mem_flatMap.mpr ⟨r,h, ?_⟩)))))
 simp [fo])
structure Gd (g:G):Prop where
 K:g.K=Mine.kx.heap_1 g.w.params
 ve:g.mb "ValueError"=some (.type "ValueError")
 bool:g.mb "bool"=some (.type "bool")
 len:g.mb "len"=some (.builtin "len")
 tuple:g.mb "tuple"=some (.type "tuple")
 iter:g.mb "iter"=some (.builtin "iter")
 set:g.mb "set"=some (.type "set")
 stop:g.mb "StopIteration"=some (.type "StopIteration")
 range:g.mb "range"=some (.type "range")
 list:g.mb "list"=some (.type "list")
 min:g.mb "min"=some (.builtin "min")
 max:g.mb "max"=some (.builtin "max")
 sum:g.mb "sum"=some (.builtin "sum")
 sorted:g.mb "sorted"=some (.builtin "sorted")
 ty:g.mb "type"=some (.type "type")
 enum:g.mb "enumerate"=some (.type "enumerate")
 zip:g.mb "zip"=some (.type "zip")
 own:OwnCls "CycleError" 55 [.type "ValueError", .type "Exception", .type "BaseException", .type "object"] "ValueError.__new__" g.mg g.B
section
variable {g:G}
theorem Gd.nb (D:Gd g) {x:Str} {r:Option (Option Value)} (h:nsIn (Mine.kx.heap_1 g.w.params) mainGlobals x=r):nsIn g.K mainGlobals x=r:=by rw [D.K];exact h
theorem Gd.kp (D:Gd g) {f:Value} (h:keepIn (Mine.kx.heap_1 g.w.params) f=true):Kp g f:= .own (by rw [D.K];exact h)
theorem Gd.lk (D:Gd g) {f:Addr} {r:Option Obj} (h:(Mine.kx.heap_1 g.w.params).lookup f=r):g.K.lookup f=r:=by rw [D.K];exact h
theorem Gd.cd (D:Gd g) {c:Value} {q:Str} (h:codeIn (Mine.kx.heap_1 g.w.params) c q=true):codeIn g.K c q=true:=by rw [D.K];exact h
end
structure NZ (K:Frag):Prop where
 nd:qE K 40 "node" 41 0
 np:qE K 40 "npredecessors" 42 1
 su:qE K 40 "successors" 43 2
structure N0 (K:Frag):Prop where
 n2:nS K 137 "_node2info"
 rd:nS K 137 "_ready_nodes"
 po:nS K 137 "_npassedout"
 nf:nS K 137 "_nfinished"
theorem Gd.sl {g:G} (D:Gd g):NZ g.K:=by
 rw [D.K]
 exact ⟨⟨rfl,rfl,rfl,rfl,rfl,rfl,rfl,rfl,rfl,rfl,by decide⟩,⟨rfl,rfl,rfl,rfl,rfl,rfl,rfl,rfl,rfl,rfl,by decide⟩,⟨rfl,rfl,rfl,rfl,rfl,rfl,rfl,rfl,rfl,rfl,by decide⟩⟩
theorem Gd.ns {g:G} (D:Gd g):N0 g.K:=by
 rw [D.K]
 exact ⟨⟨rfl,rfl,⟨_,rfl,rfl⟩,rfl,rfl,rfl⟩,⟨rfl,rfl,⟨_,rfl,rfl⟩,rfl,rfl,rfl⟩,⟨rfl,rfl,⟨_,rfl,rfl⟩,rfl,rfl,rfl⟩,⟨rfl,rfl,⟨_,rfl,rfl⟩,rfl,rfl,rfl⟩⟩
section
variable {g:G} {F:Fm} {m:Loc} {H:AH} {s:Shared} {X:PX} {Q:PV}
theorem cC {f:Addr} {fd:FuncData} {oc:Value} {od:Option Addr} {A5:Array (Option Value)} {body:List Stmt} {xs:List V} {bs:List (Str×V)}
  (ho:g.K.lookup f=some ⟨oc,od, .func fd,A5⟩) (xU:codeIn g.K fd.code fd.qualname=true) (jc:fd.body= .stmts body) (hg:fd.globals=mainGlobals) (hb:fd.builtins=builtinsNs) (lE:fd.closure=[])
  (vu:fd.scope.isCoroutine=false) (lF:fd.scope.isGenerator=false) (hk:fd.scope.kind= .function) (hl:F.lvl<100) (iz:Binds g fd xs bs)
  (dH:(bs.all fun x=>fd.scope.names.lookup x.1 == some .local || fd.scope.names.lookup x.1 == some .cell)=true)
  (h: ∀ F',aI F' F fd.scope->WS g F' (execs body F'.env) (cP bs fun z0=>none) H (xM Q Fl.val m) (vp X m)):aH g F (.ref f) xs m H Q X:=
 fun s vs S hv=>DW ho xU jc hg hb lE vu lF hk hl iz dH h S hv
theorem BI {f:Addr} {fd:FuncData} {oc:Value} {od:Option Addr} {A5:Array (Option Value)} {body:List Stmt} {xs:List V} {bs:List (Str×V)}
  (ho:g.K.lookup f=some ⟨oc,od, .func fd,A5⟩) (xU:codeIn g.K fd.code fd.qualname=true) (jc:fd.body= .stmts body) (hg:fd.globals=mainGlobals) (hb:fd.builtins=builtinsNs) (lE:fd.closure=[])
  (vu:fd.scope.isCoroutine=false) (lF:fd.scope.isGenerator=false) (hk:fd.scope.kind= .function) (hl:F.lvl<100) (iz:Binds g fd xs bs)
  (dH:(bs.all fun x=>fd.scope.names.lookup x.1 == some .local || fd.scope.names.lookup x.1 == some .cell)=true)
  (h: ∀ F',aI F' F fd.scope->F'.env.code=fd.code/\F'.env.qual=fd.qualname++".<locals>."->WS g F' (execs body F'.env) (cP bs fun z0=>none) H (xM Q Fl.val m) (vp X m)):aH g F (.ref f) xs m H Q X:=
 fun s vs S hv=>ug ho xU jc hg hb lE vu lF hk hl iz dH h S hv
theorem aI.kindOf {F' F:Fm} {sc:Scope} (x:aI F' F sc) (n:Str):F'.env.kindOf n=sc.names.lookup n:=by delta Env.kindOf;rw [x.scope]
theorem aI.st {F' F:Fm} {sc:Scope} (x:aI F' F sc):F'.stack≠[]:=by rw [x.stack];simp
theorem aI.hk {g:G} {F' F:Fm} {sc:Scope} (x:aI F' F sc) (h:Hk g F):Hk g F':=by delta Hk jK;rw [x.handled];exact h
theorem aI.hh {F' F:Fm} {sc:Scope} (x:aI F' F sc) (h:F.A.handled=none):F'.A.handled=none:=x.handled.trans h
theorem aI.loc {F' F:Fm} {sc:Scope} (x:aI F' F sc) {n:Str} (h:sc.names.lookup n=some .local):Stores F' n:= .inl ((x.kindOf n).trans h)
theorem aI.gb {F' F:Fm} {sc:Scope} (x:aI F' F sc) {n:Str} (h:sc.names.lookup n=some .cell):Stores F' n:= .inr ⟨(x.kindOf n).trans h,x.cells n h⟩
theorem aI.cR {F' F:Fm} {sc:Scope} (x:aI F' F sc) {n:Str} (h:sc.names.lookup n=some .globalImplicit):F'.env.kindOf n=some .globalImplicit:=(x.kindOf n).trans h
theorem kr (l:Addr):Meets (Builtin.«bool.__new__» ⟨[.type "bool", .ref l],[]⟩) (fun z0 R s=> ∃ items,s.heap.IsList l items/\(items.size:Int)<2 ^ 63/\R (.ok (.ret (.bool (!items.isEmpty)))) { s with toks:=s.toks+1+1 }):=
 .of_wp fun prog w A R s cy=>cy.elim fun items eX=>eX.elim fun hl iL=>iL.elim fun hf h=>by
  skip
  skip
  refine wpAny_bind (wpAny_pure ?_)
  refine az ((by decide)) ?_
  refine wpAny_bind (wpAny_of_eq (a:=true) (by rw [isSubtype_type];kernel_rfl) ?_)
  refine az ((by decide)) ?_
  refine wpAny_bind (wpAny_pure ?_)
  refine wpAny_bind (wpAny_truthy_list hl hf (wpAny_pure ⟨_,rfl,h⟩))
theorem BJ {l:Addr} {xs:List V} (hl:LA g H l xs) (hz:xs.length<2 ^ 60) (h:Q (.bool (!xs.isEmpty)) m H):WC g F (.type "bool") [.ref l] m H Q X:=uG fun s v S r=>by
 rw [VR.ay] at r;subst r
 obtain ⟨vs,ep,e,rs⟩:=hl.at S
 refine call_bool_1 (kr l) ⟨vs.toArray,⟨_,e,rfl,ep,rfl⟩,by rw [List.size_toArray,rs.length];omega,rfl,bG.now S rfl rfl rfl ?_ h⟩
 have:=rs.length
 have e2:vs.toArray.isEmpty=xs.isEmpty:=by cases xs <;> cases vs <;> simp_all
 exact e2▸ .dm _
theorem aI.lv {F' F:Fm} {sc:Scope} (x:aI F' F sc) {a b:Nat} (hl:F.lvl<a) (h:Nat.ble (a+1) b=true):F'.lvl<b:=by
 have:=Nat.le_of_ble_eq_true h
 exact x.lvl▸Kg this hl
theorem du {n a:Nat} (hl:n<a) (h:Nat.ble a 100=true):n<100:=Nat.lt_of_lt_of_le hl (Nat.le_of_ble_eq_true h)
theorem pE (ns:List Int):cQ (nums ns)<=1000:=by rw [vV];exact PF
theorem uO {ns:List Int} (h:ns.length<=1000):(nums ns).length<=16000000:=by rw [ints_length];exact Ld h
theorem fc {ns:List Int} (h:ns.length<=1000):(nums ns).length<2 ^ 60:=by rw [ints_length];exact Lc h
theorem EK {xs:List V} (h:xs.length<=1000):xs.length<2 ^ 60:=by exact KJ h
theorem N1 {l:Addr} {xs:List V} {k:Nat} {x:V} (hl:LA g H l xs) (hk:k<1000) (hx:xs[k]? =some x) (h:Q x m H):W2 g F VR (.ref l) (.int (0+(k:Int))) getItem m H Q X:=
 o_item hl (by exact Kh) (by exact KL hk) (by rw [show (0+(k:Int)).toNat=k by exact Ki];exact hx) h
theorem Ie {l:Addr} {xs:List V} {k:Nat} {x:V} (hl:LA g H l xs) (hk:k<1000) (hx:xs[k]? =some x) (h:Q x m H):GI g F (.ref l) (.int (0+(k:Int))) m H Q X:=gj hl (N1 hl hk hx h)
theorem wa {n:Nat} {b:Int} (hb:b=n) (hn:n<=1000):bS g (.kS 0 b 1) n (fun i=> .int (0+(i:Int))) (fun z0=>True):=by
 subst hb
 exact qs (by exact KN) (by exact KO hn) (by split <;> omega)
end
section
variable {g:G} {F:Fm} {m:Loc} {H:AH} {X:PX} {Q:PV} {σ:au} {B:List (Addr×O)}
theorem gO (D:Gd g) (hl:F.lvl<90) (hh:F.A.handled=none) (s:Sat H (σ.lay++B))
  (h:match σ.rd with | none=>X (.type "ValueError") [.str "prepare() must be called first"] m H | some (a,ns)=>ns.length<1000/\Q (.bool (decide (σ.nf<σ.po) || !ns.isEmpty)) m H):aH g F (.ref 106) [.ref σ.x] m H Q X:=by
 have A:=D.ns
 refine cC (D.lk rfl) (D.cd rfl) rfl rfl rfl rfl rfl rfl rfl (du hl rfl) (a7 (fun vs=>[("self",vs.getD 0 .none)]) (fun vs S hv=> ?_) (fun h vs r=> ?_)) (bs:=[("self", .ref σ.x)]) rfl fun F' hF=> ?_
 .obtain ⟨v,rfl⟩:=oU hv;rfl
 .obtain ⟨v,r',rfl,rv,rr⟩:=r.aG;exact ⟨v,[],rfl,rv,rfl⟩
 obtain ⟨x,dx,d,ep,rows,rd,po,nf⟩:=σ
 cases rd with
 | none=>
  refine ae (cq (aO rfl (aQ (aa rfl (bO A.rd (au.inst s) (au.ns s) (x:= .none) rfl rfl (bj (gA (fun z0=>by simp) (aq ?_))))))))
  refine ae (fb PySem.F.excCall_ValueError PySem.F.excRaise_ValueError (hF.hh hh) rfl (hF.cR rfl) (D.nb rfl) D.ve (af (gx (aj ⟨by decide,h⟩))))
 | some r=>
  obtain ⟨a,ns⟩:=r
  obtain ⟨hz,h⟩:=h
  refine ae (cq (aO rfl (aQ (aa rfl (bO A.rd (au.inst s) (au.ns s) (x:= .ref a) rfl rfl (bj (gA (fun z0=>by simp) (aq ?_))))))))
  refine aC ?_
  refine ae (dW (G0 (gy rfl (aQ (aa rfl (bO A.nf (au.inst s) (au.ns s) (x:= .int nf) rfl rfl (aQ (aa rfl (bO A.po (au.inst s) (au.ns s) (x:= .int po) rfl rfl (vU (aq ?_)))))))))))
  by_cases q:nf<po
  .simp only [q,decide_true,if_true]
   simp only [q,decide_true,Bool.true_or] at h
   exact h
  .simp only [q,decide_false,Bool.false_eq_true,if_false]
   simp only [q,decide_false,Bool.false_or] at h
   refine aJ (bN (hF.cR rfl) (D.nb rfl) D.bool (aX<|ai (.type _) (af (aQ (aa rfl (bO A.rd (au.inst s) (au.ns s) (x:= .ref a) rfl rfl (aj (BJ (.own (au.ready s rfl)) (by rw [aw];exact Le hz) ?_))))))))
   have e:(a8 ns).isEmpty=ns.isEmpty:=by cases ns <;> rfl
   rw [e]
   exact h
end
structure dP where
 k:Int
 np:Int
 su:List Int
set_option genInjectivity true in
structure PS where
 rows:List dP
 rd:Option (List Int)
 po:Int
 nf:Int
noncomputable def Row.abs (r:Row):dP:=⟨r.k,r.np,r.su⟩
noncomputable def au.abs (σ:au):PS:=⟨σ.rows.map Row.abs,σ.rd.map (·.2),σ.po,σ.nf⟩
noncomputable def PS.names (p:PS):List Int:=p.rows.map (cl ·.k)
noncomputable def PS.upd (p:PS) (k:Int) (f:dP->dP):PS:={ p with rows:=p.rows.map fun r=>if cl r.k=cl k then f r else r }
noncomputable def PS.ku (p:PS) (k:Int):PS:=if cl k∈p.names then p else { p with rows:=p.rows++[⟨k,0,[]⟩] }
noncomputable def PS.tell (p:PS) (k:Int) (q:Int):PS:=(p.ku q).upd q fun r=>{ r with su:=r.su++[k] }
noncomputable def PS.add (p:PS) (k:Int) (ps:List Int):PS:=ps.foldl (fun p q=>p.tell k q) ((p.ku k).upd k fun r=>{ r with np:=r.np+ps.length })
noncomputable def au.upd (σ:au) (k:Int) (f:Row->Row):au:={ σ with rows:=σ.rows.map fun r=>if cl r.k=cl k then f r else r }
theorem au.aR (σ:au):σ.abs.names=σ.rows.map (cl ·.k):=by unfold au.abs PS.names;simp [Row.abs]
theorem gm {rows:List Row} {r:Row} (hr:r∈rows) (hk:(rows.map (cl ·.k)).Nodup): ∃ pre post,rows=pre++r::post/\ ∀ f:Row->Row,(rows.map fun r'=>if cl r'.k=cl r.k then f r' else r')=pre++f r::post:=by
 obtain ⟨pre,post,e⟩:=List.append_of_mem hr
 subst e
 rw [List.map_append,List.map_cons] at hk
 have h1:=List.nodup_append.mp hk
 have h2:=List.nodup_cons.mp h1.2.1
 refine ⟨pre,post,rfl,fun f=> ?_⟩
 rw [List.map_append,List.map_cons,if_pos rfl]
 have e1:pre.map (fun r'=>if cl r'.k=cl r.k then f r' else r')=pre:=by
  conv=>rhs;rw [<- List.map_id pre]
  refine List.map_congr_left fun r' oZ=>if_neg fun q=> ?_
  exact h1.2.2 (cl r'.k) (List.mem_map_of_mem (f:=fun r:Row=>cl r.k) oZ) (cl r.k) List.mem_cons_self q
 have e2:post.map (fun r'=>if cl r'.k=cl r.k then f r' else r')=post:=by
  conv=>rhs;rw [<- List.map_id post]
  refine List.map_congr_left fun r' oZ=>if_neg fun q=>h2.1 ?_
  rw [<- q];exact List.mem_map_of_mem (f:=fun r:Row=>cl r.k) oZ
 rw [e1,e2]
theorem au.pF (σ:au) (k:Int) (f:Row->Row) (f':dP->dP) (h: ∀ r,(f r).abs=f' r.abs):(σ.upd k f).abs=σ.abs.upd k f':=by
 unfold au.upd au.abs PS.upd
 simp only [List.map_map,PS.mk.injEq,and_self,and_true]
 refine List.map_congr_left fun r z0=> ?_
 show Row.abs (if cl r.k=cl k then f r else r)=if cl (Row.abs r).k=cl k then f' (Row.abs r) else Row.abs r
 by_cases q:cl r.k=cl k
 .rw [if_pos q,if_pos (show cl (Row.abs r).k=cl k from q),h]
 .rw [if_neg q,if_neg (show ¬ cl (Row.abs r).k=cl k from q)]
theorem au.jv (σ:au) (k:Int) (f:Row->Row) (h: ∀ r,(f r).k=r.k):((σ.upd k f).rows.map (cl ·.k))=σ.rows.map (cl ·.k):=by
 unfold au.upd
 rw [List.map_map]
 refine List.map_congr_left fun r z0=> ?_
 show cl (if cl r.k=cl k then f r else r).k=cl r.k
 split
 .exact congrArg cl (h r)
 .rfl
theorem lX {α:Type} (X Y B:List α):(X++(Y++B)).Perm (Y++(X++B)):=by
 rw [<- List.append_assoc, <- List.append_assoc];exact List.perm_append_comm.append_right B
section
variable {H:AH} {σ:au} {B:List (Addr×O)} {r:Row}
theorem iF (pre post:List Row) (r:Row):bT (pre++r::post)=bT pre++fo r++bT post:=by unfold bT;simp [List.flatMap_append,List.flatMap_cons]
theorem au.jw (s:Sat H (σ.lay++B)) (hr:r∈σ.rows) (hk:(σ.rows.map (cl ·.k)).Nodup) (np:Int):Sat (put H r.na (.node 40 [cd r.k, .int np, .ref r.la])) ((σ.upd r.k fun r=>{ r with np:=np }).lay++B):=by
 obtain ⟨pre,post,e,hf⟩:=gm hr hk
 have e2:=hf fun r=>{ r with np:=np }
 unfold au.lay au.upd at*
 simp only at*
 have d:ao (pre++{ r with np:=np }::post)=ao (pre++r::post):=by unfold ao;simp
 rw [e2,d]
 rw [e] at s
 rw [iF] at s|-
 have:=Sat.mid (A:=(σ.x, .inst 137 σ.dx)::(σ.dx, .ns (iR σ.d (rS σ.rd) σ.po σ.nf))::(σ.d, .dict (ao (pre++r::post)) σ.ep)::(j6 σ.rd++bT pre)) (a:=r.na) (o:= .node 40 [cd r.k, .int r.np, .ref r.la]) (C:=(r.la, .list (a8 r.su))::(bT post++B)) (by simpa [fo] using s) (.node 40 [cd r.k, .int np, .ref r.la])
 simpa [fo] using this
theorem au.C6 (s:Sat H (σ.lay++B)) (hr:r∈σ.rows) (hk:(σ.rows.map (cl ·.k)).Nodup) (su:List Int):Sat (put H r.la (.list (a8 su))) ((σ.upd r.k fun r=>{ r with su:=su }).lay++B):=by
 obtain ⟨pre,post,e,hf⟩:=gm hr hk
 have e2:=hf fun r=>{ r with su:=su }
 unfold au.lay au.upd at*
 simp only at*
 have d:ao (pre++{ r with su:=su }::post)=ao (pre++r::post):=by unfold ao;simp
 rw [e2,d]
 rw [e] at s
 rw [iF] at s|-
 have:=Sat.mid (A:=(σ.x, .inst 137 σ.dx)::(σ.dx, .ns (iR σ.d (rS σ.rd) σ.po σ.nf))::(σ.d, .dict (ao (pre++r::post)) σ.ep)::(j6 σ.rd++bT pre++[(r.na, .node 40 [cd r.k, .int r.np, .ref r.la])])) (a:=r.la) (o:= .list (a8 r.su)) (C:=bT post++B) (by simpa [fo] using s) (.list (a8 su))
 simpa [fo] using this
theorem au.C7 (s:Sat H (σ.lay++B)) (po nf:Int):Sat (put H σ.dx (.ns (iR σ.d (rS σ.rd) po nf))) (({ σ with po:=po,nf:=nf }:au).lay++B):=
 Sat.mid (A:=[(σ.x, .inst 137 σ.dx)]) (a:=σ.dx) (C:=(σ.d, .dict (ao σ.rows) σ.ep)::((j6 σ.rd++bT σ.rows)++B)) s _
theorem au.qR {a:Addr} {ns:List Int} (s:Sat H (σ.lay++B)) (e:σ.rd=some (a,ns)) (Qc:List Int):Sat (put H a (.list (a8 Qc))) (({ σ with rd:=some (a,Qc) }:au).lay++B):=by
 unfold au.lay at*
 rw [e] at s
 exact Sat.mid (A:=[(σ.x, .inst 137 σ.dx),(σ.dx, .ns (iR σ.d (rS (some (a,ns))) σ.po σ.nf)),(σ.d, .dict (ao σ.rows) σ.ep)]) (a:=a) (C:=bT σ.rows++B) (by simpa [j6] using s) _
theorem au.newRow (s:Sat H (σ.lay++B)) {k:Int} {na la:Addr} {ep:Nat} {H':AH} (s':Sat H' ((na, .node 40 [cd k, .int 0, .ref la])::(la, .list [])::(σ.lay++B))):
  Sat (put H' σ.d (.dict (ao (σ.rows++[⟨k,na,0,la,[]⟩])) ep)) (({ σ with rows:=σ.rows++[⟨k,na,0,la,[]⟩],ep:=ep }:au).lay++B):=by
 have p:((na,O.node 40 [cd k, .int 0, .ref la])::(la,O.list [])::(σ.lay++B)).Perm ([(σ.x, .inst 137 σ.dx),(σ.dx, .ns (iR σ.d (rS σ.rd) σ.po σ.nf))]++(σ.d, .dict (ao σ.rows) σ.ep)::((j6 σ.rd++bT σ.rows)++(fo ⟨k,na,0,la,[]⟩++B))):=by
  unfold au.lay fo
  simp only [List.cons_append,List.nil_append,List.append_assoc,a8,List.map_nil]
  have:=lX [(na,O.node 40 [cd k, .int 0, .ref la]),(la,O.list [])] ([(σ.x,O.inst 137 σ.dx),(σ.dx, .ns (iR σ.d (rS σ.rd) σ.po σ.nf)),(σ.d, .dict (ao σ.rows) σ.ep)]++(j6 σ.rd++bT σ.rows)) B
  simpa using this
 have z:=(s'.perm p).mid (.dict (ao (σ.rows++[⟨k,na,0,la,[]⟩])) ep)
 unfold au.lay
 have e:bT (σ.rows++[⟨k,na,0,la,[]⟩])=bT σ.rows++fo ⟨k,na,0,la,[]⟩:=by unfold bT;simp [List.flatMap_append]
 simp only at z|-
 rw [e]
 simpa using z
end
theorem N2 {H:AH} {L:List (Addr×O)} {a b:Addr} {o o':O} (s:Sat H ((a,o)::(b,o')::L)):Sat H ((b,o')::(a,o)::L):=s.perm (List.Perm.swap ..)
section
variable {g:G} {F:Fm} {m:Loc} {H:AH} {X:PX} {Q:PV} {σ:au} {B:List (Addr×O)}
theorem pG (D:Gd g) (hl:F.lvl<90) (s:Sat H B) (h: ∀ (σ:au) (H':AH),σ.abs=⟨[],none,0,0⟩->Sat H' (σ.lay++B)->Q (.ref σ.x) m H'):aH g F (.ref 137) [] m H Q X:=by
 have A:=D.ns
 refine Ed (by rw [D.K];rfl) (fI:=73) (by rw [D.K];rfl) (by rw [D.K];rfl) (by exact Gs hl) fun A' hA x dx hx Jw uj=> ?_
 refine cC (D.lk rfl) (D.cd rfl) rfl rfl rfl rfl rfl rfl rfl (show F.lvl+1<100 by exact Gu hl) (a7 (fun vs=>[("self",vs.getD 0 .none),("graph", .none)]) (fun vs S hv=> ?_) (fun h vs r=> ?_)) (bs:=[("self", .ref x),("graph", .none)]) rfl fun F' hF=> ?_
 .obtain ⟨v,rfl⟩:=oU hv;rw [D.K];rfl
 .obtain ⟨v,r',rfl,rv,rr⟩:=r.aG;exact ⟨v,_,rfl,rv, .none,[],rfl, .eS,rfl⟩
 have s1:Sat (put (put H dx (.ns [])) x (.inst 137 dx)) ((x, .inst 137 dx)::(dx, .ns [])::B):=(s.new Jw).new (by rw [cU _ _ uj.symm];exact hx)
 refine ae (bF rfl rfl rfl (uJ fun d hd=>fG (aa rfl ?_)))
 have s2:=s1.new (o:= .dict [] 0) hd
 refine lQ A.n2 s2.rR s2.at2 (by decide) ?_
 have s3:=s2.s9 (.ns [("_node2info", .ref d)])
 refine ae (bF rfl rfl rfl (bj (fG (aa rfl (lQ A.rd s3.rR s3.at2 (Nat.le_of_ble_eq_true rfl) ?_)))))
 have s4:=s3.s9 (.ns [("_node2info", .ref d),("_ready_nodes", .none)])
 refine ae (bF rfl rfl rfl (aK (fG (aa rfl (lQ A.po s4.rR s4.at2 (Nat.le_of_ble_eq_true rfl) ?_)))))
 have s5:=s4.s9 (.ns [("_node2info", .ref d),("_ready_nodes", .none),("_npassedout", .int 0)])
 refine ae (bF rfl rfl rfl (aK (fG (aa rfl (lQ A.nf s5.rR s5.at2 (Nat.le_of_ble_eq_true rfl) ?_)))))
 have s6:=s5.s9 (.ns [("_node2info", .ref d),("_ready_nodes", .none),("_npassedout", .int 0),("_nfinished", .int 0)])
 refine ae (cq (aO rfl (aa rfl (bj (eP (fun z0=>by simp) (aq (aC (aC ⟨rfl, ?_⟩))))))))
 refine h ⟨x,dx,d,0,[],none,0,0⟩ _ rfl ?_
 have p:((d,O.dict [] 0)::(x,O.inst 137 dx)::(dx,O.ns [("_node2info", .ref d),("_ready_nodes", .none),("_npassedout", .int 0),("_nfinished", .int 0)])::B).Perm ((⟨x,dx,d,0,[],none,0,0⟩:au).lay++B):=by
  show List.Perm _ ((x,O.inst 137 dx)::(dx,O.ns [("_node2info", .ref d),("_ready_nodes", .none),("_npassedout", .int 0),("_nfinished", .int 0)])::(d,O.dict [] 0)::B)
  exact (List.Perm.swap ..).trans (List.Perm.cons _ (List.Perm.swap ..))
 exact s6.perm p
end
section
variable {g:G} {F:Fm} {m:Loc} {H:AH} {X:PX} {Q:PV} {σ:au} {B:List (Addr×O)}
theorem iG (D:Gd g) (hl:F.lvl<90) {k:Int} (s:Sat H B) (h: ∀ na la H',Sat H' ((na, .node 40 [cd k, .int 0, .ref la])::(la, .list [])::B)->Q (.ref na) m H'):aH g F (.ref 40) [cd k] m H Q X:=by
 have A:=D.sl
 refine Ee (by rw [D.K];rfl) (fI:=36) (by rw [D.K];rfl) (by rw [D.K];rfl) (by exact Gs hl) fun A' hA x hx=> ?_
 refine cC (D.lk rfl) (D.cd rfl) rfl rfl rfl rfl rfl rfl rfl (show F.lvl+1<100 by exact Gu hl) (a7 (fun vs=>[("self",vs.getD 0 .none),("node",vs.getD 1 .none)]) (fun vs S hv=> ?_) (fun h vs r=> ?_)) (bs:=[("self", .ref x),("node",cd k)]) rfl fun F' hF=> ?_
 .obtain ⟨v,u,rfl⟩:=vv hv;rw [D.K];rfl
 .obtain ⟨v,r',rfl,rv,rr⟩:=r.aG;obtain ⟨u,r',rfl,ru,rr⟩:=rr.aG;exact ⟨v,_,rfl,rv,u,[],rfl,ru,rfl⟩
 have s1:Sat (put H x (.node 40 [])) ((x, .node 40 [])::B):=s.new hx
 refine ae (bF rfl rfl rfl (aa rfl (fG (aa rfl (dq A.nd s1.w8 (by decide) ?_)))))
 have s2:=s1.set (.node 40 [cd k])
 refine ae (bF rfl rfl rfl (aK (fG (aa rfl (dq A.np s2.w8 (Nat.le_of_ble_eq_true rfl) ?_)))))
 have s3:=s2.set (.node 40 [cd k, .int 0])
 refine ae (bF rfl rfl rfl (aT (aj ⟨by decide,fun la N3=>fG (aa rfl ?_)⟩)))
 have s4:=s3.new (o:= .list []) N3
 refine dq A.su s4.rR (Nat.le_of_ble_eq_true rfl) ?_
 have s5:=s4.Ib (.node 40 [cd k, .int 0, .ref la])
 exact aC ⟨rfl,h x la _ (N2 s5)⟩
noncomputable def dQ (rows:List Row) (k:Int):Option Row:=rows.find? fun r=>cl r.k=cl k
theorem fW (rows:List Row) (k:Int):d0 (ao rows) k=(dQ rows k).map fun r=> .ref r.na:=by
 unfold d0 ao dQ
 induction rows with
 | nil=>rfl
 | cons r rows ih=>
  rw [List.map_cons,List.find?_cons,List.find?_cons]
  by_cases q:cl r.k=cl k
  .simp [q]
  .simp only [q,decide_false];exact ih
theorem dR {rows:List Row} {k:Int} {r:Row} (h:dQ rows k=some r):r∈rows/\cl r.k=cl k:=⟨List.mem_of_find?_eq_some h,by simpa using List.find?_some h⟩
theorem fg {rows:List Row} {k:Int} (h:dQ rows k=none):cl k∉rows.map (cl ·.k):=fun q=>by
 obtain ⟨r,hr,e⟩:=List.mem_map.mp q
 have:=List.find?_eq_none.mp h r hr
 simp [e] at this
theorem qS {rows:List Row} {k:Int} (h:cl k∈rows.map (cl ·.k)): ∃ r,dQ rows k=some r:=by
 cases q:dQ rows k with
 | some r=>exact ⟨r,rfl⟩
 | none=>exact absurd h (fg q)
theorem lY (D:Gd g) (hl:F.lvl<80) {k:Int} (s:Sat H (σ.lay++B)) (hz:σ.rows.length<1000)
  (h: ∀ (bI:au) (r:Row) (H':AH),bI.x=σ.x->bI.abs=σ.abs.ku k->bI.rd=σ.rd->r∈bI.rows->cl r.k=cl k->Sat H' (bI.lay++B)->Q (.ref r.na) m H'):aH g F (.ref 80) [.ref σ.x,cd k] m H Q X:=by
 have A:=D.ns
 refine cC (D.lk rfl) (D.cd rfl) rfl rfl rfl rfl rfl rfl rfl (du hl rfl) (a7 (fun vs=>[("self",vs.getD 0 .none),("node",vs.getD 1 .none)]) (fun vs S hv=> ?_) (fun h vs r=> ?_)) (bs:=[("self", .ref σ.x),("node",cd k)]) rfl fun F' hF=> ?_
 .obtain ⟨v,u,rfl⟩:=vv hv;rw [D.K];rfl
 .obtain ⟨v,r',rfl,rv,rr⟩:=r.aG;obtain ⟨u,r',rfl,ru,rr⟩:=rr.aG;exact ⟨v,_,rfl,rv,u,[],rfl,ru,rfl⟩
 refine ae (cq (aO rfl (qk (hF.loc rfl) (bg (aQ (aa rfl (bO A.n2 (au.inst s) (au.ns s) (x:= .ref σ.d) rfl rfl (bU (g8 (au.dict s) PySem.F.slot_dict_get PySem.F.type_dict_get)<|ai (.blt _) (af (aa rfl (aj (za (au.dict s) ?_))))))))))))
 rw [fW]
 cases q:dQ σ.rows k with
 | some r=>
  obtain ⟨hr,hk⟩:=dR q
  refine bj (gA (fun z0=>by simp) (aq (aC ?_)))
  refine ae (dW (aa rfl (h σ r H rfl ?_ rfl hr hk s)))
  unfold PS.ku
  rw [if_pos (by rw [au.aR];rw [<- hk];exact List.mem_map_of_mem (f:=fun r:Row=>cl r.k) hr)]
 | none=>
  refine bj (gA (fun z0=>by simp) (aq ?_))
  refine ae (vt rfl rfl (aJ (bp (hF.cR rfl) (D.nb rfl) (fun z0=> .dT _) (aX<|ai (D.kp rfl) (af (aa rfl (aj (aH.call (iG D (hF.lv hl rfl) s fun na la H' s'=> ?_)))))))))
  have sx:=s'.tail (A:=[_,_])
  refine yt (aQ (aa rfl (bO A.n2 (au.inst sx) (au.ns sx) (x:= .ref σ.d) rfl rfl (aa rfl (sS (au.dict sx) (by unfold ao;rw [List.length_map];exact Dv hz) fun dh=> ?_)))))
  have e:dput (ao σ.rows) k (.ref na)=ao (σ.rows++[⟨k,na,0,la,[]⟩]):=by
   unfold dput
   have hn:=fg q
   rw [if_neg]
   .unfold ao;simp
   .intro z
    rw [List.any_eq_true] at z
    obtain ⟨p,hp,SU⟩:=z
    unfold ao at hp
    obtain ⟨r,hr,rfl⟩:=List.mem_map.mp hp
    exact hn (by rw [<- of_decide_eq_true SU];exact List.mem_map_of_mem (f:=fun r:Row=>cl r.k) hr)
  rw [e]
  have sf:=au.newRow (ep:=dh) sx s'
  refine bH (hF.loc rfl) (aC (ae (dW (aa rfl (h ⟨σ.x,σ.dx,σ.d,dh,σ.rows++[⟨k,na,0,la,[]⟩],σ.rd,σ.po,σ.nf⟩ ⟨k,na,0,la,[]⟩ _ rfl ?_ rfl (List.mem_append_right _ (.head _)) rfl sf)))))
  unfold PS.ku
  rw [if_neg (by rw [au.aR];exact fg q)]
  unfold au.abs
  simp [Row.abs]
end
theorem PS.wc (p:PS) (k:Int) (f:dP->dP) (h: ∀ r,(f r).k=r.k):(p.upd k f).names=p.names:=by
 unfold PS.upd PS.names
 rw [List.map_map]
 refine List.map_congr_left fun r z0=> ?_
 show cl (if cl r.k=cl k then f r else r).k=cl r.k
 split
 .exact congrArg cl (h r)
 .rfl
theorem PS.wd (p:PS) (k:Int):(p.ku k).names=if cl k∈p.names then p.names else p.names++[cl k]:=by
 unfold PS.ku
 split
 .rfl
 .unfold PS.names;simp
set_option tactic.hygienic true in
theorem PS.hO {p:PS} (h:p.names.Nodup) (k:Int):(p.ku k).names.Nodup:=by
 rw [PS.wd]
 split
 .exact h
 .rename_i q
  rw [List.nodup_append]
  exact ⟨h,by simp,fun a ha b hb=>by simp at hb;subst hb;intro e;subst e;exact q ha⟩
noncomputable def PS.fits (p:PS) (n:Nat):Prop:=p.rows.length<=n/\ ∀ r∈p.rows,r.su.length<=n
theorem PS.fX {p:PS} {n:Nat} (h:p.fits n) (k:Int):(p.ku k).fits (n+1):=by
 unfold PS.ku
 split
 .exact ⟨Nat.le_succ_of_le h.1,fun r hr=>Nat.le_succ_of_le (h.2 r hr)⟩
 .refine ⟨by simp;exact h.1,fun r hr=> ?_⟩
  rcases List.mem_append.mp hr with hr | hr
  .exact Nat.le_succ_of_le (h.2 r hr)
  .simp at hr;subst hr;simp
theorem PS.jx {p:PS} {n k:Nat} (h:p.fits n) (q:Int) (f:dP->dP) (hf: ∀ r,(f r).su.length<=r.su.length+k):(p.upd q f).fits (n+k):=by
 unfold PS.upd
 refine ⟨by simp;have:=h.1;exact Kn this,fun r hr=> ?_⟩
 obtain ⟨r',oZ,rfl⟩:=List.mem_map.mp hr
 have:=h.2 r' oZ
 split
 .have:=hf r';exact KP this (by assumption)
 .exact K9 this
theorem au.dv {σ:au} {n:Nat} (h:σ.abs.fits n):σ.rows.length<=n/\ ∀ r∈σ.rows,r.su.length<=n:=by
 refine ⟨by have:=h.1;unfold au.abs at this;simpa using this,fun r hr=>h.2 r.abs ?_⟩
 unfold au.abs;exact List.mem_map_of_mem hr
theorem PS.ta (p:PS) {k k':Int} (h:cl k=cl k') (f:dP->dP):p.upd k f=p.upd k' f:=by unfold PS.upd;rw [h]
section
variable {g:G} {F:Fm} {m:Loc} {H:AH} {X:PX} {Q:PV} {σ:au} {B:List (Addr×O)}
theorem zx {gQ:au} {r1:Row} {k:Int} {p:PS} (n:Int) (ea:gQ.abs=p) (zy:r1∈gQ.rows) (Ig:cl r1.k=cl k) (hn:(gQ.rows.map (cl ·.k)).Nodup):(gQ.upd r1.k fun r=>{ r with np:=r1.np+n }).abs=p.upd k fun r=>{ r with np:=r.np+n }:=by
 obtain ⟨pre,post,e,Ih⟩:=gm zy hn
 have e0:(gQ.upd r1.k fun r=>{ r with np:=r1.np+n })=gQ.upd r1.k fun r=>{ r with np:=r.np+n }:=by unfold au.upd;rw [Ih,Ih fun r=>{ r with np:=r.np+n }]
 rw [e0,au.pF gQ r1.k (fun r=>{ r with np:=r.np+n }) (fun r=>{ r with np:=r.np+n }) fun z0=>rfl,ea]
 exact PS.ta p Ig _
theorem zz {pI:au} {r3:Row} {k q:Int} {p:PS} (ea:pI.abs=p.ku q) (pJ:r3∈pI.rows) (Ii:cl r3.k=cl q) (hn:(pI.rows.map (cl ·.k)).Nodup):(pI.upd r3.k fun r=>{ r with su:=r3.su++[k] }).abs=p.tell k q:=by
 unfold PS.tell
 rw [<- ea,PS.ta _ Ii.symm]
 obtain ⟨pre,post,e,Ih⟩:=gm pJ hn
 have:=Ih fun r=>{ r with su:=r.su++[k] }
 rw [<- au.pF pI r3.k (fun r=>{ r with su:=r.su++[k] }) _ (fun z0=>rfl)]
 unfold au.upd
 rw [Ih,this]
theorem C8 (p:Params):j2 (Mine.kx.heap_1 p) 137 "_get_nodeinfo" 80:=⟨rfl,rfl,rfl⟩
theorem zA (D:Gd g) (hl:F.lvl<70) (hh:F.A.handled=none) {k:Int} {ps:List Int} (we:ps.length<=9) (s:Sat H (σ.lay++B)) (hk:σ.abs.names.Nodup) (hf:σ.abs.fits 700)
  (h:match σ.rd with | some _=>X (.type "ValueError") [.str "Nodes cannot be added after a call to prepare()"] m H | none=> ∀ (bI:au) (H':AH),bI.x=σ.x->bI.abs=σ.abs.add k ps->Sat H' (bI.lay++B)->Q .none m H'):
  aH g F (.ref 87) (.ref σ.x::cd k::a8 ps) m H Q X:=by
 have A:=D.ns
 have A2:=D.sl
 have M:=C8 g.w.params
 rw [<- D.K] at M
 refine cC (D.lk rfl) (D.cd rfl) rfl rfl rfl rfl rfl rfl rfl (du hl rfl) (bs:=([("self", .ref σ.x),("node",cd k)]:List (Str×V))++([("predecessors", .tup (a8 ps))]:List (Str×V))) (hM (k:=2) (fun vs=>[("self",vs.getD 0 .none),("node",vs.getD 1 .none)]) (fun vs S hv=> ?_) (fun h vs r=> ?_)) rfl fun F' hF=> ?_
 .rw [D.K]
  match vs,hv with
  | v::u::rest,hv=>
   have hr:rest.length<=9:=by simp [a8] at hv;exact Ko hv we
   clear hv
   revert hr
   revert rest
   refine HZ ?_ ?_ ?_ ?_ ?_ ?_ ?_ ?_ ?_ ?_ <;> intros <;> exact ⟨_,rfl,fun z0=>rfl⟩
 .obtain ⟨v,r',rfl,rv,rr⟩:=r.aG;obtain ⟨u,r',rfl,ru,rr⟩:=rr.aG;exact ⟨v,_,rfl,rv,u,[],rfl,ru,rfl⟩
 cases de:σ.rd with
 | some r=>
  obtain ⟨a,ns⟩:=r
  rw [de] at h
  refine ae (cq (aO rfl (aQ (aa rfl (bO A.rd (au.inst s) (au.ns s) (x:= .ref a) (by rw [de];rfl) rfl (bj (eP (fun z0=>by simp) (aq ?_))))))))
  exact ae (fb PySem.F.excCall_ValueError PySem.F.excRaise_ValueError (hF.hh hh) rfl (hF.cR rfl) (D.nb rfl) D.ve (af (gx (aj ⟨by decide,h⟩))))
 | none=>
  rw [de] at h
  refine ae (cq (aO rfl (aQ (aa rfl (bO A.rd (au.inst s) (au.ns s) (x:= .none) (by rw [de];rfl) rfl (bj (eP (fun z0=>by simp) (aq (aC ?_)))))))))
  refine ae (aD (hF.loc rfl) rfl (bg (aa rfl (bU (b7 M (au.inst s) (au.ns s) rfl)<|ai (D.kp rfl) (af (aa rfl (aj (aH.call (lY D (hF.lv hl rfl) s (by have:=(au.dv hf).1;exact Kq this) fun gQ r1 H1 ex ea Ut zy Ig s1=> ?_)))))))))
  have td:(gQ.rows.map (cl ·.k)).Nodup:=by rw [<- au.aR,ea];exact PS.hO hk k
  have EL:gQ.abs.fits 701:=by rw [ea];exact PS.fX hf k
  refine ae (fT (aa rfl (dN A2.np (au.node s1 zy) rfl rfl (aJ (bN (hF.cR rfl) (D.nb rfl) D.len (aX<|ai (.blt _) (af (aa rfl (aj (yP (by rw [aw];exact KQ we) (pz (dq A2.np (au.node s1 zy) (Nat.le_of_ble_eq_true rfl) ?_))))))))))))
  have s2:=au.jw s1 zy td (r1.np+(a8 ps).length)
  have e2:(gQ.upd r1.k fun r=>{ r with np:=r1.np+(a8 ps).length }).abs=(σ.abs.ku k).upd k fun r=>{ r with np:=r.np+ps.length }:=by rw [zx _ ea zy Ig td,aw]
  have C9:(gQ.upd r1.k fun r=>{ r with np:=r1.np+(a8 ps).length }).abs.names.Nodup:=by rw [au.aR,au.jv gQ r1.k (fun r=>{ r with np:=r1.np+(a8 ps).length }) (fun z0=>rfl)];exact td
  have BK:(gQ.upd r1.k fun r=>{ r with np:=r1.np+(a8 ps).length }).abs.fits 701:=by
   rw [e2];exact PS.jx (k:=0) (by rw [<- ea];exact EL) k _ fun r=>Nat.le_refl _
  obtain ⟨ng,kv⟩: ∃ z,z=(gQ.upd r1.k fun r=>{ r with np:=r1.np+(a8 ps).length }):=⟨_,rfl⟩
  have pW:ng.x=gQ.x:=by rw [kv];rfl
  rw [<- kv] at s2 e2 C9 BK
  refine ae (gL (fun z0=>rfl) (aa rfl (c7 so (fun i m' H'=> ∃ cI:au,cI.x=σ.x/\cI.abs=(ps.take i).foldl (fun p q=>p.tell k q) ((σ.abs.ku k).upd k fun r=>{ r with np:=r.np+ps.length })/\cI.abs.names.Nodup/\cI.abs.fits (701+2*i)/\Sat H' (cI.lay++B)/\m' "self"=some (.ref cI.x)/\m' "node"=some (cd k))
   (.inl (hF.hh hh)) hF.st (fun z0 z0 z0 z0=>trivial) ⟨ng,pW.trans ex,by rw [e2];rfl,C9,BK,s2,(by show some (V.ref σ.x)=_;rw [<- ex, <- pW]),rfl⟩ (fun i m' H' hi cy R hR=>cy.elim fun cI eX=>eX.elim fun ex iL=>iL.elim fun ei mR=>mR.elim fun AA vq=>vq.elim fun JA yc=>yc.elim fun si EP=>EP.elim fun m1 m2=> ?_) (fun m' H' Ij=>Ij.elim fun cI Ik=>Ik.elim fun ex zB=>zB.elim fun ei zC=>zC.elim fun AA zD=>zD.elim fun JA EV=>EV.elim fun si EW=>EW.elim fun m1 m2=> ?_))))
  .have eB:i<ps.length:=by rw [aw] at hi;exact hi
   rw [jr eB]
   refine bH (hF.loc rfl) ?_
   have fa:=(au.dv JA)
   refine ae (aD (hF.loc rfl) rfl (bg (aa (by exact m1) (bU (b7 M (au.inst si) (au.ns si) rfl)<|ai (D.kp rfl) (af (aa rfl (aj (aH.call (lY D (hF.lv hl rfl) si (by exact Kr fa we eB) fun pI r3 H3 JB EX SV pJ Ii s3=> ?_)))))))))
   have EY:(pI.rows.map (cl ·.k)).Nodup:=by rw [<- au.aR,EX];exact PS.hO AA _
   have EZ:pI.abs.fits (701+2*i+1):=by rw [EX];exact PS.fX JA _
   refine ae (eN (bg (aQ (aa rfl (dN A2.su (au.node s3 pJ) rfl rfl (bU (bR (.own (au.ju s3 pJ)) PySem.F.slot_list_append PySem.F.type_list_append)<|ai (.blt _) (af (aa (by exact m2) (aj (dO (au.ju s3 pJ) (by rw [aw];have:=(au.dv EZ).2 r3 pJ;exact Ks this we eB) ?_))))))))))
   have s4:=au.C6 s3 pJ EY (r3.su++[k])
   rw [jt]
   have e4:=zz (k:=k) EX pJ Ii EY
   have E0:(pI.upd r3.k fun r=>{ r with su:=r3.su++[k] }).abs.names.Nodup:=by rw [au.aR,au.jv pI r3.k (fun r=>{ r with su:=r3.su++[k] }) (fun z0=>rfl)];exact EY
   obtain ⟨n7,lZ⟩: ∃ z,z=(pI.upd r3.k fun r=>{ r with su:=r3.su++[k] }):=⟨_,rfl⟩
   have pK:n7.x=pI.x:=by rw [lZ];rfl
   rw [<- lZ] at s4 e4 E0
   refine aC (hR .next _ _ ⟨n7,(pK.trans JB).trans ex, ?_,E0, ?_,s4, ?_,by exact m2⟩)
   .rw [e4,ei,List.take_add_one,List.getElem?_eq_getElem eB,List.foldl_append];rfl
   .rw [e4]
    unfold PS.tell
    have:=PS.jx (k:=1) (PS.fX JA ps[i]) ps[i] (fun r=>{ r with su:=r.su++[k] }) fun r=>by simp
    exact this
   .show m' "self"=_
    rw [m1,pK,JB]
  .refine aC (aC (h cI H' ex ?_ si))
   rw [ei,aw,List.take_of_length_le (Nat.le_refl _)];rfl
end
noncomputable def PS.iH (p:PS) (k np:Int):PS:=p.upd k fun r=>{ r with np:=np }
noncomputable def PS.out (p:PS) (ns:List Int):PS:=ns.foldl (fun p k=>p.iH k (-1)) p
theorem PS.mh (p:PS) {k k':Int} (h:cl k=cl k') (np:Int):p.iH k np=p.iH k' np:=PS.ta p h _
theorem PS.qT (p:PS) (k np:Int):(p.iH k np).names=p.names:=PS.wc p k _ fun z0=>rfl
theorem PS.wg (ns:List Int): ∀ p:PS,(p.out ns).names=p.names:=by
 induction ns with
 | nil=>intro p;rfl
 | cons n ns ih=>intro p;unfold PS.out;rw [List.foldl_cons];exact (ih _).trans (PS.qT ..)
theorem PS.zE (ns:List Int): ∀ p:PS,(p.out ns).rd=p.rd/\(p.out ns).po=p.po/\(p.out ns).nf=p.nf:=by
 induction ns with
 | nil=>intro p;exact ⟨rfl,rfl,rfl⟩
 | cons n ns ih=>intro p;unfold PS.out;rw [List.foldl_cons];exact ih _
theorem au.jU {σ:au} {r:Row} (np:Int):(σ.upd r.k fun r=>{ r with np:=np }).abs=σ.abs.iH r.k np:=au.pF σ r.k (fun r=>{ r with np:=np }) _ fun z0=>rfl
section
variable {g:G} {F:Fm} {m:Loc} {H:AH} {X:PX} {Q:PV} {σ:au} {B:List (Addr×O)}
theorem jy {rows:List Row} {k:Int} (h:cl k∈rows.map (cl ·.k)): ∃ r,r∈rows/\cl r.k=cl k/\d0 (ao rows) k=some (.ref r.na):=by
 obtain ⟨r,e⟩:=qS h
 obtain ⟨h1,h2⟩:=dR e
 exact ⟨r,h1,h2,by rw [fW,e];rfl⟩
theorem gR (D:Gd g) (hl:F.lvl<90) (hh:F.A.handled=none) (s:Sat H (σ.lay++B)) (hk:σ.abs.names.Nodup)
  (h:match σ.rd with | none=>X (.type "ValueError") [.str "prepare() must be called first"] m H | some (a,ns)=>ns.length<1000/\(∀ n∈ns,cl n∈σ.abs.names)/\ ∀ (bI:au) (H':AH),bI.x=σ.x->bI.abs={ σ.abs.out ns with rd:=some [],po:=σ.po+ns.length }->Sat H' (bI.lay++B)->Q (.tup (a8 ns)) m H'):
  aH g F (.ref 99) [.ref σ.x] m H Q X:=by
 have A:=D.ns
 have A2:=D.sl
 refine cC (D.lk rfl) (D.cd rfl) rfl rfl rfl rfl rfl rfl rfl (du hl rfl) (a7 (fun vs=>[("self",vs.getD 0 .none)]) (fun vs S hv=> ?_) (fun h vs r=> ?_)) (bs:=[("self", .ref σ.x)]) rfl fun F' hF=> ?_
 .obtain ⟨v,rfl⟩:=oU hv;rw [D.K];rfl
 .obtain ⟨v,r',rfl,rv,rr⟩:=r.aG;exact ⟨v,[],rfl,rv,rfl⟩
 cases de:σ.rd with
 | none=>
  rw [de] at h
  refine ae (cq (aO rfl (aQ (aa rfl (bO A.rd (au.inst s) (au.ns s) (x:= .none) (by rw [de];rfl) rfl (bj (gA (fun z0=>by simp) (aq ?_))))))))
  exact ae (fb PySem.F.excCall_ValueError PySem.F.excRaise_ValueError (hF.hh hh) rfl (hF.cR rfl) (D.nb rfl) D.ve (af (gx (aj ⟨by decide,h⟩))))
 | some r=>
  obtain ⟨a,ns⟩:=r
  rw [de] at h
  obtain ⟨hz,mZ,h⟩:=h
  refine ae (cq (aO rfl (aQ (aa rfl (bO A.rd (au.inst s) (au.ns s) (x:= .ref a) (by rw [de];rfl) rfl (bj (gA (fun z0=>by simp) (aq (aC ?_)))))))))
  refine ae (aD (hF.loc rfl) rfl (aJ (bN (hF.cR rfl) (D.nb rfl) D.tuple (aX<|ai (.type _) (af (aQ (aa rfl (bO A.rd (au.inst s) (au.ns s) (x:= .ref a) (by rw [de];rfl) rfl (aj (nY (.own (au.ready s de)) (by rw [aw];exact KR hz) ?_))))))))))
  refine ae (aD (hF.loc rfl) rfl (aQ (aa rfl (bO A.n2 (au.inst s) (au.ns s) (x:= .ref σ.d) rfl rfl ?_))))
  refine ae (gL (fun z0=>rfl) (aa rfl (c7 so (fun i m' H'=> ∃ cI:au,cI.x=σ.x/\cI.d=σ.d/\cI.rd=σ.rd/\cI.abs=σ.abs.out (ns.take i)/\Sat H' (cI.lay++B)/\m' "self"=some (.ref σ.x)/\m' "n2i"=some (.ref σ.d)/\m' "result"=some (.tup (a8 ns)))
   (.inl (hF.hh hh)) hF.st (fun z0 z0 z0 z0=>trivial) ⟨σ,rfl,rfl,rfl,rfl,s,rfl,rfl,rfl⟩ (fun i m' H' hi cy R hR=>cy.elim fun cI eX=>eX.elim fun ex iL=>iL.elim fun ed mR=>mR.elim fun er vq=>vq.elim fun ei yc=>yc.elim fun si EP=>EP.elim fun m1 Ij=>Ij.elim fun m2 m3=> ?_) (fun m' H' Ik=>Ik.elim fun cI zB=>zB.elim fun ex zC=>zC.elim fun ed zD=>zD.elim fun er EV=>EV.elim fun ei EW=>EW.elim fun si N4=>N4.elim fun m1 N5=>N5.elim fun m2 m3=> ?_))))
  .have eB:i<ns.length:=by rw [aw] at hi;exact hi
   rw [jr eB]
   have AA:cI.abs.names=σ.abs.names:=by rw [ei,PS.wg]
   obtain ⟨r,hr,w9,Il⟩:=jy (rows:=cI.rows) (k:=ns[i]) (by rw [<- au.aR,AA];exact mZ _ (List.getElem_mem eB))
   have JC:(cI.rows.map (cl ·.k)).Nodup:=by rw [<- au.aR,AA];exact hk
   refine bH (hF.loc rfl) (ae (bF rfl rfl rfl (bp (hF.cR rfl) (D.nb rfl) (fun z0=> .fF (-1) _) (fG (b8 (aa (by exact m2) (aa rfl (jq (ed▸au.dict si) (jo (ed▸au.dict si) Il (dq A2.np (au.node si hr) (by simp) (aC ?_)))))))))))
   have s4:=au.jw si hr JC (-1)
   have e4:=au.jU (σ:=cI) (r:=r) (-1)
   obtain ⟨n7,lZ⟩: ∃ z,z=(cI.upd r.k fun r=>{ r with np:= -1 }):=⟨_,rfl⟩
   have pK:n7.x=cI.x/\n7.d=cI.d/\n7.rd=cI.rd:=by rw [lZ];exact ⟨rfl,rfl,rfl⟩
   rw [<- lZ] at s4 e4
   refine hR .next _ _ ⟨n7,pK.1.trans ex,pK.2.1.trans ed,pK.2.2.trans er, ?_,s4,by exact m1,by exact m2,by exact m3⟩
   rw [e4,ei,PS.mh _ w9,List.take_add_one,List.getElem?_eq_getElem eB]
   unfold PS.out
   rw [List.foldl_append];rfl
  .rw [aw,List.take_of_length_le (Nat.le_refl _)] at ei
   have JD:cI.rd=some (a,ns):=er.trans de
   refine aC (ae (eN (bg (aQ (aa (by exact m1) (bO A.rd (ex▸au.inst si) (au.ns si) (x:= .ref a) (by rw [JD];rfl) rfl (bU (bR (.own (au.ready si JD)) PySem.F.slot_list_clear PySem.F.type_list_clear)<|ai (.blt _) (aj (Bs (au.ready si JD) (by rw [aw];exact Dv hz) ?_)))))))))
   have s5:=au.qR si JD []
   obtain ⟨xa,Im⟩: ∃ z,z=({ cI with rd:=some (a,[]) }:au):=⟨_,rfl⟩
   have F7:xa.x=cI.x/\xa.rd=some (a,[])/\xa.po=cI.po/\xa.nf=cI.nf/\xa.rows=cI.rows:=by rw [Im];exact ⟨rfl,rfl,rfl,rfl,rfl⟩
   rw [<- Im] at s5
   have ix:H' σ.x=some (.inst 137 cI.dx):=ex▸au.inst si
   have Qd:put H' a (.list (a8 [])) σ.x=some (.inst 137 xa.dx):=by rw [<- ex, <- F7.1];exact au.inst s5
   have N6:cI.po=σ.po/\cI.nf=σ.nf:=by
    have:=PS.zE ns σ.abs
    rw [<- ei] at this
    exact ⟨this.2.1,this.2.2⟩
   refine ae (fT (aa (by exact m1) (bO A.po Qd (au.ns s5) (x:= .int xa.po) rfl rfl (aJ (bN (hF.cR rfl) (D.nb rfl) D.len (aX<|ai (.blt _) (af (aa (by exact m3) (aj (yP (by rw [aw];exact KS hz) (pz (lQ A.po Qd (au.ns s5) (by simp [iR]) ?_))))))))))))
   have s6:=au.C7 s5 (xa.po+(a8 ns).length) xa.nf
   refine ae (dW (aa (by exact m3) (h ({ xa with po:=xa.po+(a8 ns).length,nf:=xa.nf }:au) _ (F7.1.trans ex) ?_ s6)))
   unfold au.abs
   simp only [F7.2.1,F7.2.2.1,F7.2.2.2.1,F7.2.2.2.2,aw,Option.map_some]
   have e7:cI.rows.map Row.abs=(σ.abs.out ns).rows:=by rw [<- ei];rfl
   have e8:(σ.abs.out ns).nf=σ.nf:=by rw [<- ei];exact N6.2
   rw [e7,N6.1,N6.2]
   show (⟨_,_,_,_⟩:PS)=⟨_,_,_,_⟩
   congr 1
   exact e8.symm
end
structure Lv where
 b:Addr
 it:Addr
 i:Nat
 r:Row
 k:Int
noncomputable def dS (f:Lv):List (Addr×O):=[(f.b, .bound "list_iterator.__next__" f.it),(f.it, .iter f.r.la f.i)]
noncomputable def idx (ks:List Int):List (Int×V):=ks.zipIdx.map fun p=>(p.1, .int (p.2:Int))
theorem qU (ks:List Int) (k:Int):idx (ks++[k])=idx ks++[(k, .int (ks.length:Int))]:=by unfold idx;simp [List.zipIdx_append]
theorem fY (ks:List Int):(idx ks).map (cl ·.1)=ks.map cl:=by
 unfold idx
 rw [List.map_map]
 have:((fun e:Int×V=>cl e.1) ∘ fun p:Int×Nat=>(p.1,V.int (p.2:Int)))=cl ∘ Prod.fst:=rfl
 rw [this, <- List.map_map,List.zipIdx_map_fst]
theorem qV {es:List (Int×V)} {k:Int} {x:V} (h:cl k∉es.map (cl ·.1)):dput es k x=es++[(k,x)]:=by
 unfold dput
 rw [if_neg]
 intro z
 rw [List.any_eq_true] at z
 obtain ⟨p,hp,q⟩:=z
 exact h (by rw [<- of_decide_eq_true q];exact List.mem_map_of_mem (f:=fun e:Int×V=>cl e.1) hp)
theorem wh {es:List (Int×V)} {k:Int} {x:V} (h:cl k∉es.map (cl ·.1)):vN (es++[(k,x)]) k=es:=by
 unfold vN
 rw [List.filter_append]
 have e1:es.filter (fun e=>decide (cl e.1≠cl k))=es:=List.filter_eq_self.mpr fun p hp=>decide_eq_true fun q=>h (by rw [<- q];exact List.mem_map_of_mem (f:=fun e:Int×V=>cl e.1) hp)
 rw [e1];simp
theorem mj {es:List (Int×V)} {k:Int}:(d0 es k).isSome=true↔cl k∈es.map (cl ·.1):=by
 unfold d0
 rw [Option.isSome_map,List.find?_isSome,List.mem_map]
 simp
theorem wj {es:List (Int×V)} {k:Int} {x:V} (h:cl k∉es.map (cl ·.1)):d0 (es++[(k,x)]) k=some x:=by
 unfold d0
 rw [List.find?_append]
 have:es.find? (fun e=>decide (cl e.1=cl k))=none:=List.find?_eq_none.mpr fun p hp q=>h (by rw [<- of_decide_eq_true q];exact List.mem_map_of_mem (f:=fun e:Int×V=>cl e.1) hp)
 rw [this];simp
noncomputable def wt (rows:List Row) (T:IB):Nat:=(rows.map fun r=>if T (cl r.k) then 0 else r.su.length+1).sum
noncomputable def lw (fs:List Lv):Nat:=(fs.map fun f=>f.r.su.length-f.i).sum
theorem ite_le (a b:Bool) (n:Nat):(if (a || b)=true then 0 else n)<=if a=true then 0 else n:=by cases a <;> cases b <;> first | exact Nat.le_refl _ | exact Nat.zero_le _
theorem E1 {rows:List Row} {r:Row} {T:IB} (hr:r∈rows) (hT:T (cl r.k)=false):wt rows (fun k'=>T k' || decide (k'=cl r.k))+(r.su.length+1)<=wt rows T:=by
 induction rows with
 | nil=>cases hr
 | cons y rows ih=>
  unfold wt at ih|-
  rw [List.map_cons,List.map_cons,List.sum_cons,List.sum_cons]
  have le: ∀ rows:List Row,(rows.map fun r'=>if (T (cl r'.k) || decide (cl r'.k=cl r.k))=true then 0 else r'.su.length+1).sum<=(rows.map fun r'=>if T (cl r'.k)=true then 0 else r'.su.length+1).sum:=by
   intro rows
   induction rows with
   | nil=>exact Nat.le_refl _
   | cons z rows NB=>
    rw [List.map_cons,List.map_cons,List.sum_cons,List.sum_cons]
    exact Nat.add_le_add (ite_le ..) NB
  rcases List.mem_cons.mp hr with e | hr
  .subst e
   rw [if_pos (show (T (cl r.k) || decide (cl r.k=cl r.k))=true by rw [hT,decide_eq_true rfl];rfl),if_neg (show ¬ T (cl r.k)=true by rw [hT];exact Bool.false_ne_true),Nat.zero_add,Nat.add_comm]
   exact Nat.add_le_add_left (le rows) _
  .have h2:=ih hr
   rw [Nat.add_assoc]
   exact Nat.add_le_add (ite_le ..) h2
noncomputable def tf (rows:List Row):Prop:= ∀ r∈rows, ∀ q∈r.su,cl q∈rows.map (cl ·.k)
structure FC (g:G) (σ:au) (B:List (Addr×O)) (eQ eT sn eU:Addr) (fs:List Lv) (T:IB) (n ep:Nat) (m:Loc) (H:AH):Prop where
 sat:Sat H ((eQ, .list (a8 (fs.map (·.k))))::(eT, .list (fs.map fun f=> .ref f.b))::(sn, .set T n)::(eU, .dict (idx (fs.map (·.k))) ep)::(fs.flatMap dS++(σ.lay++B)))
 m1:m "n2i"=some (.ref σ.d)
 m2:m "stack"=some (.ref eQ)
 m3:m "itstack"=some (.ref eT)
 m4:m "seen"=some (.ref sn)
 m5:m "node2stacki"=some (.ref eU)
 rows: ∀ f∈fs,f.r∈σ.rows
 nd:((fs.map (·.k)).map cl).Nodup
 seen: ∀ f∈fs,T (cl f.k)=true
 same: ∀ f∈fs,cl f.k=cl f.r.k
 room:n+wt σ.rows T+lw fs<=3000
 cnt:fs.length<=n
theorem FC.N7 {g:G} {σ:au} {B:List (Addr×O)} {eQ eT sn eU:Addr} {fs:List Lv} {T:IB} {n ep:Nat} {m:Loc} {H:AH} (x:FC g σ B eQ eT sn eU fs T n ep m H):Sat H (σ.lay++B):=by
 have:=x.sat
 exact this.tail (A:=(eQ, .list (a8 (fs.map (·.k))))::(eT, .list (fs.map fun f=> .ref f.b))::(sn, .set T n)::(eU, .dict (idx (fs.map (·.k))) ep)::fs.flatMap dS)
section
variable {g:G} {σ:au} {B:List (Addr×O)} {eQ eT sn eU:Addr} {fs:List Lv} {T:IB} {n ep:Nat} {m:Loc} {H:AH}
theorem FC.f3 (x:FC g σ B eQ eT sn eU fs T n ep m H):fs.length<=3000:=by have:=x.cnt;have:=x.room;exact KU this (by assumption)
theorem FC.n4 (x:FC g σ B eQ eT sn eU fs T n ep m H):n<4000:=by have:=x.room;exact Kt this
theorem FC.ln (x:FC g σ B eQ eT sn eU fs T n ep m H):(a8 (fs.map (·.k))).length<=3000:=by rw [aw,List.length_map];exact x.f3
theorem FC.lb (x:FC g σ B eQ eT sn eU fs T n ep m H):(fs.map fun f=>V.ref f.b).length<=3000:=by rw [List.length_map];exact x.f3
theorem FC.lx (x:FC g σ B eQ eT sn eU fs T n ep m H):(idx (fs.map (·.k))).length<=3000:=by unfold idx;rw [List.length_map,List.length_zipIdx,List.length_map];exact x.f3
theorem FC.loc (x:FC g σ B eQ eT sn eU fs T n ep m H) {m':Loc} (h1:m' "n2i"=m "n2i") (h2:m' "stack"=m "stack") (h3:m' "itstack"=m "itstack") (h4:m' "seen"=m "seen") (h5:m' "node2stacki"=m "node2stacki"):FC g σ B eQ eT sn eU fs T n ep m' H:=
 ⟨x.sat,h1.trans x.m1,h2.trans x.m2,h3.trans x.m3,h4.trans x.m4,h5.trans x.m5,x.rows,x.nd,x.seen,x.same,x.room,x.cnt⟩
theorem FC.push (x:FC g σ B eQ eT sn eU fs T n ep m H) {r:Row} {k:Int} {b it:Addr} {dh:Nat} {H':AH} (hr:r∈σ.rows) (w9:cl r.k=cl k) (hT:T (cl k)=false)
  (y6:Sat H' ((b,O.bound "list_iterator.__next__" it)::(it, .iter r.la 0)::(eQ,O.list (a8 (fs.map (·.k))++[cd k]))::(eT, .list ((fs.map fun f=>V.ref f.b)++[V.ref b]))::(sn, .set (fun k'=>T k' || decide (k'=cl k)) (n+1))::(eU, .dict (dput (idx (fs.map (·.k))) k (V.int (a8 (fs.map (·.k))).length)) dh)::(fs.flatMap dS++(σ.lay++B)))):
  FC g σ B eQ eT sn eU (fs++[⟨b,it,0,r,k⟩]) (fun k'=>T k' || decide (k'=cl k)) (n+1) dh m H'/\wt σ.rows (fun k'=>T k' || decide (k'=cl k))+lw (fs++[⟨b,it,0,r,k⟩])<=wt σ.rows T+lw fs:=by
 have Io:cl k∉(fs.map (·.k)).map cl:=fun q=>by obtain ⟨_,hk,e⟩:=List.mem_map.mp q;obtain ⟨f,hf,rfl⟩:=List.mem_map.mp hk;have:=x.seen f hf;rw [e,hT] at this;cases this
 have y7:=Sat.perm (L:=[(b,O.bound "list_iterator.__next__" it),(it, .iter r.la 0)]++(([(eQ,O.list (a8 (fs.map (·.k))++[cd k])),(eT, .list ((fs.map fun f=>V.ref f.b)++[V.ref b])),(sn, .set (fun k'=>T k' || decide (k'=cl k)) (n+1)),(eU, .dict (dput (idx (fs.map (·.k))) k (V.int (a8 (fs.map (·.k))).length)) dh)]++fs.flatMap dS)++(σ.lay++B))) y6 (lX [(b,O.bound "list_iterator.__next__" it),(it, .iter r.la 0)] ([(eQ,O.list (a8 (fs.map (·.k))++[cd k])),(eT, .list ((fs.map fun f=>V.ref f.b)++[V.ref b])),(sn, .set (fun k'=>T k' || decide (k'=cl k)) (n+1)),(eU, .dict (dput (idx (fs.map (·.k))) k (V.int (a8 (fs.map (·.k))).length)) dh)]++fs.flatMap dS) (σ.lay++B))
 rw [qV (by rw [fY];exact Io)] at y7
 have N8:=E1 (rows:=σ.rows) (r:=r) (T:=T) hr (by rw [w9];exact hT)
 rw [w9] at N8
 have qW:=x.room
 have Qe:lw (fs++[⟨b,it,0,r,k⟩])=lw fs+r.su.length:=by unfold lw;simp
 have hle:wt σ.rows (fun k'=>T k' || decide (k'=cl k))+lw (fs++[⟨b,it,0,r,k⟩])+1<=wt σ.rows T+lw fs:=by rw [Qe];exact Ku N8
 refine ⟨⟨?_,x.m1,x.m2,x.m3,x.m4,x.m5, ?_, ?_, ?_, ?_, ?_, ?_⟩,Nat.le_of_succ_le hle⟩
 .simp only [List.map_append,List.map_cons,List.map_nil,List.flatMap_append,List.flatMap_cons,List.flatMap_nil,dS,qU,w9]
  simp only [a8,List.map_append,List.map_cons,List.map_nil,List.length_map,List.cons_append,List.nil_append,List.append_assoc,List.append_nil] at y7|-
  exact y7
 .intro f hf
  rcases List.mem_append.mp hf with hf | hf
  .exact x.rows f hf
  .rw [List.mem_singleton] at hf;subst hf;exact hr
 .rw [List.map_append,List.map_append,List.nodup_append]
  exact ⟨x.nd,by simp,fun a ha b' gD=>by simp at gD;subst gD;intro e;rw [e] at ha;exact Io ha⟩
 .intro f hf
  rcases List.mem_append.mp hf with hf | hf
  .simp only [x.seen f hf,Bool.true_or]
  .rw [List.mem_singleton] at hf;subst hf;simp
 .intro f hf
  rcases List.mem_append.mp hf with hf | hf
  .exact x.same f hf
  .rw [List.mem_singleton] at hf;subst hf;exact w9.symm
 .exact La Qe qW N8
 .rw [List.length_append];exact Nat.succ_le_succ x.cnt
theorem FC.next {pre:List Lv} {f:Lv} (x:FC g σ B eQ eT sn eU (pre++[f]) T n ep m H) (dX:f.i<f.r.su.length):
  FC g σ B eQ eT sn eU (pre++[{ f with i:=f.i+1 }]) T n ep m (put H f.it (.iter f.r.la (f.i+1)))/\wt σ.rows T+lw (pre++[{ f with i:=f.i+1 }])<wt σ.rows T+lw (pre++[f]):=by
 have y0:=x.sat
 simp only [List.map_append,List.map_cons,List.map_nil,List.flatMap_append,List.flatMap_cons,List.flatMap_nil,dS,List.append_nil,List.append_assoc,List.cons_append,List.nil_append] at y0
 have y1:=Sat.mid (A:=(eQ,O.list (a8 (pre.map (·.k)++[f.k])))::(eT, .list ((pre.map fun f=>V.ref f.b)++[V.ref f.b]))::(sn, .set T n)::(eU, .dict (idx (pre.map (·.k)++[f.k])) ep)::(pre.flatMap dS++[(f.b, .bound "list_iterator.__next__" f.it)])) (a:=f.it) (o:= .iter f.r.la f.i) (C:=σ.lay++B) (by simpa [dS] using y0) (.iter f.r.la (f.i+1))
 have ml:lw (pre++[{ f with i:=f.i+1 }])+1=lw (pre++[f]):=by unfold lw;simp;exact Kv dX
 have qW:=x.room
 have BL:=x.cnt
 refine ⟨⟨by simpa [dS] using y1,x.m1,x.m2,x.m3,x.m4,x.m5, ?_,by simpa using x.nd, ?_, ?_,by exact Kw ml qW,by simpa using BL⟩,by exact Kx ml⟩
 .intro f' j7
  rcases List.mem_append.mp j7 with j7 | j7
  .exact x.rows f' (List.mem_append_left _ j7)
  .rw [List.mem_singleton] at j7;subst j7;exact x.rows f (by simp)
 .intro f' j7
  rcases List.mem_append.mp j7 with j7 | j7
  .exact x.seen f' (List.mem_append_left _ j7)
  .rw [List.mem_singleton] at j7;subst j7;exact x.seen f (by simp)
 .intro f' j7
  rcases List.mem_append.mp j7 with j7 | j7
  .exact x.same f' (List.mem_append_left _ j7)
  .rw [List.mem_singleton] at j7;subst j7;exact x.same f (by simp)
theorem FC.out {pre:List Lv} {f:Lv} (x:FC g σ B eQ eT sn eU (pre++[f]) T n ep m H):
  Sat (rem H f.it) ((eQ,O.list (a8 (pre.map (·.k))++[cd f.k]))::(eT, .list ((pre.map fun f=>V.ref f.b)++[V.ref f.b]))::(sn, .set T n)::(eU, .dict (idx (pre.map (·.k))++[(f.k, .int ((pre.map (·.k)).length:Int))]) ep)::((pre.flatMap dS++[(f.b, .bound "list_iterator.__next__" f.it)])++(σ.lay++B)))/\cl f.k∉(pre.map (·.k)).map cl/\pre.length<=3000:=by
 have y0:=x.sat
 simp only [List.map_append,List.map_cons,List.map_nil,List.flatMap_append,List.flatMap_cons,List.flatMap_nil,dS,List.append_nil,List.append_assoc,List.cons_append,List.nil_append] at y0
 have Dc:=x.nd
 rw [List.map_append,List.map_append,List.nodup_append] at Dc
 refine ⟨?_,fun q=>Dc.2.2 (cl f.k) q (cl f.k) (by simp) rfl,Nat.le_trans (by rw [List.length_append];exact Nat.le_add_right _ _) x.f3⟩
 rw [qU] at y0
 refine Sat.rem (o:= .iter f.r.la f.i) (y0.perm ?_)
 have:=List.perm_middle (a:=(f.it,O.iter f.r.la f.i)) (l₁:=(eQ,O.list (a8 (pre.map (·.k))++[cd f.k]))::(eT, .list ((pre.map fun f=>V.ref f.b)++[V.ref f.b]))::(sn, .set T n)::(eU, .dict (idx (pre.map (·.k))++[(f.k, .int ((pre.map (·.k)).length:Int))]) ep)::(pre.flatMap dS++[(f.b,O.bound "list_iterator.__next__" f.it)])) (l₂:=σ.lay++B)
 simpa [dS,a8] using this
theorem FC.pop {pre:List Lv} {f:Lv} (x:FC g σ B eQ eT sn eU (pre++[f]) T n ep m H) {dh:Nat} {H':AH}
  (y4:Sat H' ((eQ,O.list (a8 (pre.map (·.k))))::(eT, .list (pre.map fun f=>V.ref f.b))::(sn, .set T n)::(eU, .dict (idx (pre.map (·.k))) dh)::((pre.flatMap dS++[(f.b, .bound "list_iterator.__next__" f.it)])++(σ.lay++B)))):
  FC g σ B eQ eT sn eU pre T n dh m H'/\lw pre<=lw (pre++[f]):=by
 have ml:lw pre<=lw (pre++[f]):=by unfold lw;simp
 have qW:=x.room
 have BL:=x.cnt
 have Dc:=x.nd
 rw [List.map_append,List.map_append,List.nodup_append] at Dc
 rw [List.length_append] at BL
 refine ⟨⟨?_,x.m1,x.m2,x.m3,x.m4,x.m5,fun f' j7=>x.rows f' (List.mem_append_left _ j7),Dc.1,fun f' j7=>x.seen f' (List.mem_append_left _ j7),fun f' j7=>x.same f' (List.mem_append_left _ j7),by exact Ky qW ml,Nat.le_trans (Nat.le_add_right _ _) BL⟩,ml⟩
 exact y4.sublist (.cons_cons _ (.cons_cons _ (.cons_cons _ (.cons_cons _ (by rw [List.append_assoc];exact (List.Sublist.refl _).append ((List.Sublist.refl _).cons _))))))
end
end
inductive ky (rows:List Row):List Int->Prop where
 | nil:ky rows []
 | snoc {dn:List Int} {r:Row} {k:Int}:ky rows dn->r∈rows->cl r.k=cl k->cl k∉dn.map cl->(∀ q∈r.su,cl q∈dn.map cl)->ky rows (dn++[k])
structure FD (rows:List Row) (rk:Int) (dn:List Int) (fs:List Lv) (T:IB):Prop where
 mq: ∀ c,T c=true->c∈(fs.map (·.k)).map cl\/c∈dn.map cl
 Iq: ∀ c∈dn.map cl,T c=true
 zF:ky rows dn
 off: ∀ f∈fs,cl f.k∉dn.map cl
 F8: ∀ f∈fs, ∀ q∈f.r.su.take (f.i-1),cl q∈dn.map cl
 chain: ∀ pre f f' post,fs=pre++f::f'::post->1<=f.i/\f.r.su[f.i-1]? =some f'.k
 root: ∀ f rest,fs=f::rest->cl f.k=cl rk
noncomputable def Nx (rk:Int) (fs:List Lv) (k:Int):Prop:=(fs=[]->cl k=cl rk)/\ ∀ pre f,fs=pre++[f]->1<=f.i/\f.r.su[f.i-1]? =some k
noncomputable def wm (dn:List Int) (fs:List Lv):Prop:= ∀ pre f,fs=pre++[f]-> ∀ q∈f.r.su.take f.i,cl q∈dn.map cl
theorem n8 {su:List Int} {i:Nat} {k:Int} (h1:1<=i) (h2:su[i-1]? =some k) {q:Int} (hq:q∈su.take i):q∈su.take (i-1)\/q=k:=by
 obtain ⟨j,rfl⟩: ∃ j,i=j+1:=⟨i-1,(Nat.sub_add_cancel h1).symm⟩
 rw [Nat.add_sub_cancel] at h2|-
 rw [List.take_add_one,h2] at hq
 rcases List.mem_append.mp hq with hq | hq
 .exact .inl hq
 .exact .inr (by simpa using hq)
theorem fZ {α:Type} {a b:List α} {x y:α} (h:a++[x]=b++[y]):a=b/\x=y:=by
 have:=List.append_inj' h rfl
 exact ⟨this.1,by simpa using this.2⟩
section
variable {rows:List Row} {rk k:Int} {dn:List Int} {fs pre:List Lv} {T:IB} {f:Lv}
theorem FD.start (rk:Int) (x:FD rows rk dn [] T) (SW:Int):FD rows SW dn [] T:=⟨x.mq,x.Iq,x.zF,x.off,x.F8,x.chain,fun z0 z0 h=>by cases h⟩
theorem FD.zero (rows:List Row) (rk:Int):FD rows rk [] [] (fun z0=>false):=⟨fun z0 h=>(by cases h),(fun z0 h=>by cases h), .nil,(fun z0 h=>by cases h),(fun z0 h=>by cases h),(fun pre f f' post h=>by cases pre <;> cases h),fun z0 z0 h=>by cases h⟩
theorem FD.skip (x:FD rows rk dn fs T) (nx:Nx rk fs k) (hT:T (cl k)=true) (hn:cl k∉(fs.map (·.k)).map cl):wm dn fs:=fun pre f e q hq=>by
 obtain ⟨h1,h2⟩:=nx.2 pre f e
 rcases n8 h1 h2 hq with hq | rfl
 .exact x.F8 f (by rw [e];simp) q hq
 .exact (x.mq _ hT).resolve_left hn
theorem FD.push (x:FD rows rk dn fs T) (nx:Nx rk fs k) (hT:T (cl k)=false) {b it:Addr} {r:Row}:
  FD rows rk dn (fs++[⟨b,it,0,r,k⟩]) (fun c=>T c || decide (c=cl k))/\wm dn (fs++[⟨b,it,0,r,k⟩]):=by
 refine ⟨⟨fun c h=> ?_,fun c h=>by rw [x.Iq c h];rfl,x.zF,fun f hf=> ?_,fun f hf q hq=> ?_,fun pre f f' post e=> ?_,fun f rest e=> ?_⟩,fun pre f e q hq=> ?_⟩
 .rw [Bool.or_eq_true,decide_eq_true_eq] at h
  rw [List.map_append,List.map_append,List.mem_append]
  rcases h with h | h
  .exact (x.mq c h).imp .inl id
  .exact .inl (.inr (by simp [h]))
 .rcases List.mem_append.mp hf with hf | hf
  .exact x.off f hf
  .rw [List.mem_singleton] at hf;subst hf
   intro q
   have:=x.Iq _ q
   exact Bool.noConfusion (hT.symm.trans this)
 .rcases List.mem_append.mp hf with hf | hf
  .exact x.F8 f hf q hq
  .rw [List.mem_singleton] at hf;subst hf;simp at hq
 .rcases List.eq_nil_or_concat post with rfl | ⟨po,z,rfl⟩
  .have e':fs++[⟨b,it,0,r,k⟩]=(pre++[f])++[f']:=by rw [e];simp
   obtain ⟨e1,e2⟩:=fZ e'
   subst e2
   exact nx.2 pre f e1
  .rw [List.concat_eq_append] at e
   have e':fs++[⟨b,it,0,r,k⟩]=(pre++f::f'::po)++[z]:=by rw [e];simp
   exact x.chain pre f f' po (fZ e').1
 .cases fs with
  | nil=>cases e;exact nx.1 rfl
  | cons f0 fs=>rw [List.cons_append] at e;rw [<- (List.cons.inj e).1];exact x.root f0 fs rfl
 .obtain ⟨_,rfl⟩:=fZ e
  simp at hq
theorem FD.next (x:FD rows rk dn (pre++[f]) T) (t:wm dn (pre++[f])) {q:Int} (hq:f.r.su[f.i]? =some q):FD rows rk dn (pre++[{ f with i:=f.i+1 }]) T/\Nx rk (pre++[{ f with i:=f.i+1 }]) q:=by
 refine ⟨⟨fun c h=>by simpa using x.mq c h,x.Iq,x.zF,fun f' hf=> ?_,fun f' hf z hz=> ?_,fun p g g' post e=> ?_,fun f' rest e=> ?_⟩,fun e=>by simp at e,fun p g e=> ?_⟩
 .rcases List.mem_append.mp hf with hf | hf
  .exact x.off f' (List.mem_append_left _ hf)
  .rw [List.mem_singleton] at hf;subst hf;exact x.off f (by simp)
 .rcases List.mem_append.mp hf with hf | hf
  .exact x.F8 f' (List.mem_append_left _ hf) z hz
  .rw [List.mem_singleton] at hf;subst hf
   exact t pre f rfl z (by simpa using hz)
 .rcases List.eq_nil_or_concat post with rfl | ⟨po,z,rfl⟩
  .have e':pre++[{ f with i:=f.i+1 }]=(p++[g])++[g']:=by rw [e];simp
   obtain ⟨e1,e2⟩:=fZ e'
   subst e2
   exact x.chain p g f [] (by rw [e1];simp)
  .rw [List.concat_eq_append] at e
   have e':pre++[{ f with i:=f.i+1 }]=(p++g::g'::po)++[z]:=by rw [e];simp
   have e1:=(fZ e').1
   exact x.chain p g g' (po++[f]) (by rw [e1];simp)
 .cases pre with
  | nil=>cases e;exact x.root f [] rfl
  | cons f0 pre=>rw [List.cons_append] at e;rw [<- (List.cons.inj e).1];exact x.root f0 (pre++[f]) rfl
 .obtain ⟨_,rfl⟩:=fZ e
  exact ⟨Nat.le_add_left _ _,hq⟩
theorem FD.pop (x:FD rows rk dn (pre++[f]) T) (t:wm dn (pre++[f])) (hn:f.r.su[f.i]? =none) (hr:f.r∈rows) (hk:cl f.k=cl f.r.k) (hT:T (cl f.k)=true) (nd:((pre++[f]).map fun f=>cl f.k).Nodup):
  FD rows rk (dn++[f.k]) pre T/\wm (dn++[f.k]) pre:=by
 have all: ∀ q∈f.r.su,cl q∈dn.map cl:=fun q hq=>t pre f rfl q (by rw [List.take_of_length_le (List.getElem?_eq_none_iff.mp hn)];exact hq)
 have up: ∀ c,c∈dn.map cl->c∈(dn++[f.k]).map cl:=fun c h=>by rw [List.map_append];exact List.mem_append_left _ h
 have me:cl f.k∈(dn++[f.k]).map cl:=by rw [List.map_append];exact List.mem_append_right _ (by simp)
 refine ⟨⟨fun c h=> ?_,fun c h=> ?_, .snoc x.zF hr hk.symm (x.off f (by simp)) all,fun f' hf q=> ?_,fun f' hf z hz=>up _ (x.F8 f' (List.mem_append_left _ hf) z hz),fun p g g' post e=>x.chain p g g' (post++[f]) (by rw [e];simp),fun f' rest e=>x.root f' (rest++[f]) (by rw [e];simp)⟩,fun p g e q hq=> ?_⟩
 .rcases x.mq c h with h | h
  .rw [List.map_append,List.map_append,List.mem_append] at h
   rcases h with h | h
   .exact .inl h
   .have:c=cl f.k:=by simpa using h
    rw [this];exact .inr me
  .exact .inr (up c h)
 .rw [List.map_append,List.mem_append] at h
  rcases h with h | h
  .exact x.Iq c h
  .have:c=cl f.k:=by simpa using h
   rw [this];exact hT
 .rw [List.map_append,List.mem_append] at q
  rcases q with q | q
  .exact x.off f' (List.mem_append_left _ hf) q
  .have q:cl f'.k=cl f.k:=by simpa using q
   rw [List.map_append,List.nodup_append] at nd
   exact nd.2.2 (cl f'.k) (List.mem_map_of_mem (f:=fun f:Lv=>cl f.k) hf) (cl f.k) (by simp) q
 .have e':pre++[f]=p++g::f::[]:=by rw [e];simp
  obtain ⟨h1,h2⟩:=x.chain p g f [] e'
  rcases n8 h1 h2 hq with hq | rfl
  .exact up _ (x.F8 g (by rw [e'];simp) q hq)
  .exact me
end
section
variable [ζ:bW]
theorem pick_run (xs:List V) (m:Nat): ∀ c,((List.range c).map fun k=>m+k).filterMap (xs[·]?)=(xs.drop m).take c:=by
 intro c
 induction c with
 | zero=>rfl
 | succ c ih=>
  rw [List.range_succ,List.map_append,List.filterMap_append,ih,List.take_add_one,List.getElem?_drop]
  show _++List.filterMap (xs[·]?) [m+c]=_
  cases e:xs[m+c]? with
  | none=>simp [e]
  | some v=>simp [e]
theorem uP {a b:Nat} (h:a<=b):sliceRange (a:Int) (b:Int) 1=(List.range (b-a)).map fun k=>a+k:=by
 unfold sliceRange
 have e:(if (1:Int) > 0 then (if (a:Int)<b then ((b:Int)-a+1-1) / 1 else 0) else (if (a:Int) > b then ((a:Int)-b-1-1) / (-1) else 0)).toNat=b-a:=by
  rw [if_pos (by decide)]
  split
  .rw [Int.ediv_one,Int.add_sub_cancel];exact Int.toNat_sub b a
  .next q=>exact (Nat.sub_eq_zero_of_le (Int.ofNat_le.mp (Int.not_lt.mp q))).symm
 show List.map _ (List.range (if (1:Int) > 0 then (if (a:Int)<b then ((b:Int)-a+1-1) / 1 else 0) else (if (a:Int) > b then ((a:Int)-b-1-1) / (-1) else 0)).toNat)=_
 rw [e]
 refine List.map_congr_left fun k z0=> ?_
 show ((a:Int)+1*(k:Int)).toNat=a+k
 rw [Int.one_mul];rfl
theorem uQ (a b:Nat):max 0 (min (a:Int) (b:Int))=((min a b:Nat):Int):=by
 rcases Nat.le_total a b with q | q
 .rw [Nat.min_eq_left q,Int.min_eq_left (Int.ofNat_le.mpr q),Int.max_eq_right (Int.natCast_nonneg _)]
 .rw [Nat.min_eq_right q,Int.min_eq_right (Int.ofNat_le.mpr q),Int.max_eq_right (Int.natCast_nonneg _)]
theorem mz (xs:List V) (j:Nat):cut xs (some (j:Int)) none none=xs.drop j:=by
 have b:sliceBounds (some (j:Int)) none none xs.length=(((min j xs.length:Nat):Int),((xs.length:Nat):Int),1):=by
  unfold sliceBounds
  have: ¬ ((j:Int)<0):=Int.not_lt.mpr (Int.natCast_nonneg _)
  simp only [Option.getD_none,if_neg this]
  refine Prod.ext ?_ (Prod.ext rfl rfl)
  show (if (1:Int) > 0 then max 0 (min (j:Int) (xs.length:Int)) else max (-1) (min (j:Int) ((xs.length:Int)-1)))=((min j xs.length:Nat):Int)
  rw [if_pos (by decide)];exact uQ ..
 unfold cut
 rw [b,uP (Nat.min_le_right _ _),pick_run]
 rcases Nat.le_total j xs.length with h | h
 .rw [Nat.min_eq_left h,List.take_of_length_le (by rw [List.length_drop];exact Nat.le_refl _)]
 .rw [Nat.min_eq_right h,Nat.sub_self,List.take_zero,List.drop_of_length_le h]
theorem qX (xs:List V) (j:Nat):cut xs none (some (j:Int)) none=xs.take j:=by
 have b:sliceBounds none (some (j:Int)) none xs.length=(((0:Nat):Int),((min j xs.length:Nat):Int),1):=by
  unfold sliceBounds
  have: ¬ ((j:Int)<0):=Int.not_lt.mpr (Int.natCast_nonneg _)
  simp only [Option.getD_none,if_neg this]
  refine Prod.ext ?_ (Prod.ext ?_ rfl)
  .show (if (1:Int) > 0 then (0:Int) else (xs.length:Int)-1)=((0:Nat):Int)
   rw [if_pos (by decide)];rfl
  .show (if (1:Int) > 0 then max 0 (min (j:Int) (xs.length:Int)) else max (-1) (min (j:Int) ((xs.length:Int)-1)))=((min j xs.length:Nat):Int)
   rw [if_pos (by decide)];exact uQ ..
 unfold cut
 rw [b,uP (Nat.zero_le _),pick_run,List.drop_zero,Nat.sub_zero]
 rcases Nat.le_total j xs.length with h | h
 .rw [Nat.min_eq_left h]
 .rw [Nat.min_eq_right h,List.take_of_length_le (Nat.le_refl _),List.take_of_length_le h]
theorem zG (ns:List Int) (j:Nat):(a8 ns).drop j=a8 (ns.drop j):=(List.map_drop ..).symm
theorem wo {ks:List Int} {k:Int} (h:cl k∈ks.map cl): ∃ j, ∃ hj:j<ks.length,cl ks[j]=cl k/\d0 (idx ks) k=some (.int (j:Int)):=by
 have:(d0 (idx ks) k).isSome=true:=mj.mpr (by rw [fY];exact h)
 obtain ⟨v,e⟩:=Option.isSome_iff_exists.mp this
 have e':=e
 unfold d0 at e
 obtain ⟨p,hp,rfl⟩:=Option.map_eq_some_iff.mp e
 have hc:=of_decide_eq_true (List.find?_some (p:=fun e:Int×V=>decide (cl e.1=cl k)) hp)
 have hm:=List.mem_of_find?_eq_some hp
 unfold idx at hm
 obtain ⟨⟨x,i⟩,hq,rfl⟩:=List.mem_map.mp hm
 have w:=List.mem_zipIdx hq
 have hi:i<ks.length:=by have:=w.2.1;omega
 refine ⟨i,hi, ?_,e'⟩
 rw [<- hc,w.2.2]
 simp
structure jV (rows:List Row) (ring:List Int):Prop where
 is: ∃ (i:Nat) (hi:i<rows.length) (dn:List Int) (T:IB) (fs:List Lv) (j:Nat) (k:Int) (hj:j<fs.length),FD rows rows[i].k dn fs T/\(∀ r∈rows.take i,cl r.k∈dn.map cl)/\(∀ f∈fs,f.r∈rows/\cl f.k=cl f.r.k)/\
  ((fs.map (·.k)).map cl).Nodup/\Nx rows[i].k fs k/\cl fs[j].k=cl k/\ring=(fs.map (·.k)).drop j++[k]
 len:ring.length<=3001
theorem jV.ne {rows:List Row} {ring:List Int} (x:jV rows ring):(!(a8 ring).isEmpty)=true:=by
 obtain ⟨_,_,_,_,fs,j,k,_,_,_,_,_,_,_,e⟩:=x.is
 rw [e];unfold a8;simp
section
variable {g:G} {F:Fm} {m:Loc} {H:AH} {X:PX} {Q:PV} {σ:au} {B:List (Addr×O)}
structure FM (rows:List Row) (i:Nat) (hi:i<rows.length) (dn:List Int) (fs:List Lv) (T:IB):Prop where
 d:FD rows rows[i].k dn fs T
 pd: ∀ r∈rows.take i,cl r.k∈dn.map cl
theorem uR {rows:List Row} {i:Nat} (hi:i<rows.length) {dn:List Int} (pd: ∀ r∈rows.take i,cl r.k∈dn.map cl) (h:cl rows[i].k∈dn.map cl): ∀ r∈rows.take (i+1),cl r.k∈dn.map cl:=fun r hr=>by
 rw [List.take_add_one,List.getElem?_eq_getElem hi,List.mem_append] at hr
 rcases hr with hr | hr
 .exact pd r hr
 .have:r=rows[i]:=by simpa using hr
  rw [this];exact h
theorem th (D:Gd g):gk g (.type "StopIteration") (.type "StopIteration") true:=⟨(Looks.of_pure rfl:Looks _ _ (typeOf (.type "StopIteration")) _).andThen (Looks.of_pure (by rw [isSubtype_type];kernel_rfl)),Looks.now,by rw [D.K];kernel_rfl,by rw [D.K];kernel_rfl⟩
inductive J1 (g:G) (σ:au) (B:List (Addr×O)) (eQ eT sn eU:Addr) (i:Nat) (m':Loc) (H':AH):Prop where
 | mk (T:IB) (n ep:Nat) (dn:List Int) (x:FC g σ B eQ eT sn eU [] T n ep m' H') (y:FD σ.rows 0 dn [] T) (pd: ∀ r∈σ.rows.take i,cl r.k∈dn.map cl):J1 g σ B eQ eT sn eU i m' H'
inductive J2 (g:G) (σ:au) (B:List (Addr×O)) (eQ eT sn eU:Addr) (i:Nat) (hi:i<σ.rows.length) (μ:Nat) (m':Loc) (H':AH):Prop where
 | mk (fs:List Lv) (T:IB) (n ep:Nat) (k:Int) (dn:List Int) (x:FC g σ B eQ eT sn eU fs T n ep m' H') (mk:m' "node"=some (cd k)) (JC:cl k∈σ.rows.map (cl ·.k)) (N9:wt σ.rows T+lw fs=μ) (y:FM σ.rows i hi dn fs T) (nx:Nx σ.rows[i].k fs k) (Dd:T (cl σ.rows[i].k)=true\/fs=[]):J2 g σ B eQ eT sn eU i hi μ m' H'
inductive J3 (g:G) (σ:au) (B:List (Addr×O)) (eQ eT sn eU:Addr) (i:Nat) (hi:i<σ.rows.length) (μ κ:Nat) (m':Loc) (H':AH):Prop where
 | mk (fs:List Lv) (T:IB) (n ep:Nat) (dn:List Int) (x:FC g σ B eQ eT sn eU fs T n ep m' H') (hm:wt σ.rows T+lw fs<=μ) (Oa:fs.length=κ) (y:FM σ.rows i hi dn fs T) (ti:wm dn fs) (Dd:T (cl σ.rows[i].k)=true):J3 g σ B eQ eT sn eU i hi μ κ m' H'
inductive J4 (g:G) (σ:au) (B:List (Addr×O)) (eQ eT sn eU:Addr) (i:Nat) (hi:i<σ.rows.length) (μ:Nat) (m':Loc) (H':AH):Fl->Prop where
 | go (κ:Nat) (j:J3 g σ B eQ eT sn eU i hi μ κ m' H'):J4 g σ B eQ eT sn eU i hi μ m' H' .next
 | ring (l:Addr) (ring:List Int) (hs:Sat H' ((l, .list (a8 ring))::(σ.lay++B))) (zH:jV σ.rows ring):J4 g σ B eQ eT sn eU i hi μ m' H' (.ret (.ref l))
theorem kz (D:Gd g) (hl:F.lvl<90) (hh:F.A.handled=none) (s:Sat H (σ.lay++B)) (hk:σ.abs.names.Nodup) (hc:tf σ.rows) (hw:wt σ.rows (fun z0=>false)<=3000)
  (h1: ∀ H' dn,Sat H' (σ.lay++B)->ky σ.rows dn->(∀ r∈σ.rows,cl r.k∈dn.map cl)->Q .none m H') (h2: ∀ l ring H',Sat H' ((l, .list (a8 ring))::(σ.lay++B))->jV σ.rows ring->Q (.ref l) m H'):aH g F (.ref 127) [.ref σ.x] m H Q X:=by
 have A:=D.ns
 have A2:=D.sl
 have Uu:(σ.rows.map (cl ·.k)).Nodup:=by rw [<- au.aR];exact hk
 refine cC (D.lk rfl) (D.cd rfl) rfl rfl rfl rfl rfl rfl rfl (du hl rfl) (a7 (fun vs=>[("self",vs.getD 0 .none)]) (fun vs S hv=> ?_) (fun h vs r=> ?_)) (bs:=[("self", .ref σ.x)]) rfl fun F' hF=> ?_
 .obtain ⟨v,rfl⟩:=oU hv;rw [D.K];rfl
 .obtain ⟨v,r',rfl,rv,rr⟩:=r.aG;exact ⟨v,[],rfl,rv,rfl⟩
 refine ae (aD (hF.loc rfl) rfl (aQ (aa rfl (bO A.n2 (au.inst s) (au.ns s) (x:= .ref σ.d) rfl rfl ?_))))
 refine ae (aD (hF.loc rfl) rfl (aT (aj ⟨by decide,fun eQ Ob=> ?_⟩)))
 have s1:=s.new (o:= .list []) Ob
 refine ae (aD (hF.loc rfl) rfl (aT (aj ⟨by decide,fun eT hits=> ?_⟩)))
 have s2:=s1.new (o:= .list []) hits
 refine ae (aD (hF.loc rfl) rfl (aJ (bN (hF.cR rfl) (D.nb rfl) D.set (aX<|ai (.type _) (aj (Ey fun sn SX=> ?_))))))
 have s3:=s2.new (o:= .set (fun z0=>false) 0) SX
 refine ae (aD (hF.loc rfl) rfl (uJ fun eU Oc=> ?_))
 have s4:=s3.new (o:= .dict [] 0) Oc
 have s5:Sat _ ((eQ, .list (a8 (([]:List Lv).map (·.k))))::(eT, .list (([]:List Lv).map fun f=> .ref f.b))::(sn, .set (fun z0=>false) 0)::(eU, .dict (idx (([]:List Lv).map (·.k))) 0)::(([]:List Lv).flatMap dS++(σ.lay++B))):=
  s4.perm (by
   show List.Perm ([(eU,O.dict [] 0),(sn, .set (fun z0=>false) 0),(eT, .list []),(eQ, .list [])]++(σ.lay++B)) ([(eQ,O.list []),(eT, .list []),(sn, .set (fun z0=>false) 0),(eU, .dict [] 0)]++(σ.lay++B))
   exact (List.reverse_perm [(eQ,O.list []),(eT, .list []),(sn, .set (fun z0=>false) 0),(eU, .dict [] 0)]).append_right _)
 refine ae (gL (fun z0=>rfl) (aa rfl (c7 (Bw (d:=σ.d) (es:=ao σ.rows) (ep:=σ.ep)) (J1 g σ B eQ eT sn eU)
  (.inl (hF.hh hh)) hF.st (fun i m' H' j=>by obtain ⟨T,n,ep,dn,x,_⟩:=j;exact au.dict x.N7) ⟨_,_,_,[],⟨s5,rfl,rfl,rfl,rfl,rfl,(fun z0 h=>by cases h),List.nodup_nil,(fun z0 h=>by cases h),(fun z0 h=>by cases h),by show 0+wt σ.rows (fun z0=>false)+0<=3000;exact Kz hw,Nat.le_refl _⟩,FD.zero ..,fun z0 h=>by cases h⟩ (fun i m' H' hi j R hR=> ?_) (fun m' H' j=> ?_))))
 .obtain ⟨T,n,ep,dn,x,y,pd⟩:=j
  have eB:i<σ.rows.length:=by unfold ao at hi;simpa using hi
  have ev:((ao σ.rows).getD i (0, .none)).1=σ.rows[i].k:=by unfold ao;rw [List.getD_eq_getElem?_getD,List.getElem?_map,List.getElem?_eq_getElem eB];rfl
  rw [ev]
  refine bH (hF.loc rfl) (ae (cq (aO rfl (aa rfl (aa (by exact x.m4) (uK x.sat.at2 (aq ?_)))))))
  cases hT:T (cl σ.rows[i].k) with
  | true=>exact ae (xP (hR .cont _ _ ⟨T,n,ep,dn,x.loc rfl rfl rfl rfl rfl,y,uR eB pd ((y.mq _ hT).resolve_left (by simp))⟩))
  | false=>
   refine aC (ae (qw (J2 g σ B eQ eT sn eU i eB) _ hF.st ⟨[],T,n,ep,σ.rows[i].k,dn,x.loc rfl rfl rfl rfl rfl,rfl,List.mem_map_of_mem (f:=fun r:Row=>cl r.k) (List.getElem_mem eB),rfl,⟨y.start ..,pd⟩,⟨fun z0=>rfl,fun p f e=>by simp at e⟩, .inr rfl⟩ (fun μ m' H' j Rb Uv Od SY=> ?_)))
   obtain ⟨fs,T,n,ep,k,dn,x,mk,JC,N9,y,nx,Dd⟩:=j
   have hn:=x.n4
   refine j1 (oP (aq (rU rfl ?_)))
   refine ae (Wt.mono (Q:=fun f m' H'=>J4 g σ B eQ eT sn eU i eB μ m' H' f) (Wt.yd fun R4 h4=> ?_) (fun f m' H' hq=> ?_) (fun z0 z0 z0 z0 z=>z))
   .refine cq (aO rfl (aa (by exact mk) (aa (by exact x.m4) (uK x.sat.at2 (aq ?_)))))
    cases hT:T (cl k) with
    | true=>
     refine ae (cq (aO rfl (aa (by exact mk) (aa (by exact x.m5) (HW x.sat.Ia (aq ?_))))))
     by_cases mZ:cl k∈(fs.map (·.k)).map cl
     .rw [if_pos (mj.mpr (by rw [fY];exact mZ))]
      obtain ⟨j,hj,S0,hg⟩:=wo mZ
      have hlen:=x.ln
      refine ae (dW (bx (d8 (aa (by exact x.m2) (fK (b8 (aa (by exact x.m5) (aa (by exact mk) (jq x.sat.Ia (jo x.sat.Ia hg (cB (cB ⟨eQ,_,some (j:Int),none,none,rfl, .own x.sat.w8,Nat.le_trans hlen (Nat.le_of_ble_eq_true rfl), .int j, .none, .none,(fun q=>nomatch q),fun c hc=> ?_⟩))))))))))))
      rw [mz,zG] at*
      have y1:=x.sat.new (o:= .list (a8 ((fs.map (·.k)).drop j))) hc
      refine aT (af (aa (by exact mk) (aj ⟨Nat.le_of_ble_eq_true rfl,fun c2 JE=> ?_⟩)))
      have y2:=y1.new (o:= .list [cd k]) JE
      have sy:(a8 ((fs.map (·.k)).drop j)).length<=3000:=by rw [aw,List.length_drop];rw [aw] at hlen;exact Nat.le_trans (Nat.sub_le _ _) hlen
      refine cV (.own y2.rR) (.own y2.w8) (Nat.le_trans (Nat.succ_le_succ sy) (Nat.le_of_ble_eq_true rfl)) fun c3 JF=> ?_
      rw [jt] at*
      have y3:=y2.new (o:= .list (a8 ((fs.map (·.k)).drop j++[k]))) JF
      rw [List.length_map] at hj
      refine h4 _ _ _<| .ring c3 ((fs.map (·.k)).drop j++[k]) ?_ ⟨⟨i,eB,dn,T,fs,j,k,hj,y.d,y.pd,fun f hf=>⟨x.rows f hf,x.same f hf⟩,x.nd,nx,by rw [<- S0];simp,rfl⟩,by rw [List.length_append];rw [aw] at sy;exact Nat.succ_le_succ sy⟩
      exact y3.sublist (.cons_cons _ (.cons _ (.cons _ (.cons _ (.cons _ (.cons _ (.cons _ (List.sublist_append_right ..))))))))
     .rw [if_neg (fun q=>mZ (by have:=mj.mp q;rw [fY] at this;exact this))]
      exact aC (aC (h4 _ _ _ (.go _ ⟨fs,T,n,ep,dn,x,Nat.le_of_eq N9,rfl,y,y.d.skip nx hT mZ,Dd.elim id fun e=>by rw [<- nx.1 e];exact hT⟩)))
    | false=>
     obtain ⟨r,hr,w9,Il⟩:=jy (rows:=σ.rows) JC
     refine ae (eN (bg (aa (by exact x.m4) (bU (yp x.sat.at2)<|ai (.blt _) (af (aa (by exact mk) (aj (zb x.sat.at2 ?_))))))))
     rw [hT,if_neg (by decide)]
     have y1:=x.sat.s9 (.set (fun k'=>T k' || decide (k'=cl k)) (n+1))
     have d1:Sat _ (σ.lay++B):=y1.tail (A:=(eQ, .list (a8 (fs.map (·.k))))::(eT, .list (fs.map fun f=> .ref f.b))::(sn, .set _ _)::(eU, .dict (idx (fs.map (·.k))) ep)::fs.flatMap dS)
     refine ae (eN (bg (aa (by exact x.m3) (bU (bR (.own y1.rR) PySem.F.slot_list_append PySem.F.type_list_append)<|ai (.blt _) (af (aQ (aJ (bN (hF.cR rfl) (D.nb rfl) D.iter (aX<|ai (.blt _) (af (aQ (b8 (aa (by exact x.m1) (aa (by exact mk) (jq (au.dict d1) (jo (au.dict d1) Il (dN A2.su (au.node d1 hr) rfl rfl (aj (EF (au.ju d1 hr) fun it hit=> ?_)))))))))))))))))))
     have y2:=y1.new (o:= .iter r.la 0) hit
     refine EG y2.w8 fun b hb=>aj ?_
     have y3:=y2.new (o:= .bound "list_iterator.__next__" it) hb
     refine dO y3.Ia (Nat.le_trans x.lb (Nat.le_of_ble_eq_true rfl)) ?_
     have y4:=y3.Ic (.list ((fs.map fun f=>V.ref f.b)++[.ref b]))
     refine ae (bF rfl rfl rfl (aJ (bN (hF.cR rfl) (D.nb rfl) D.len (aX<|ai (.blt _) (af (aa (by exact x.m2) (aj (gB (.own y4.at2) (Nat.lt_of_le_of_lt x.ln (Nat.le_of_ble_eq_true rfl)) (yt (aa (by exact x.m5) (aa (by exact mk) (sS y4.SQ (Nat.le_trans x.lx (Nat.le_of_ble_eq_true rfl)) fun dh=> ?_))))))))))))
     have y5:=y4.NY (.dict (dput (idx (fs.map (·.k))) k (.int (a8 (fs.map (·.k))).length)) dh)
     refine ae (eN (bg (aa (by exact x.m2) (bU (bR (.own y5.at2) PySem.F.slot_list_append PySem.F.type_list_append)<|ai (.blt _) (af (aa (by exact mk) (aj (dO y5.at2 (Nat.le_trans x.ln (Nat.le_of_ble_eq_true rfl)) ?_))))))))
     have y6:=y5.s9 (.list (a8 (fs.map (·.k))++[cd k]))
     obtain ⟨x',Ir⟩:=x.push hr w9 hT y6
     obtain ⟨z1,z2⟩:=y.d.push nx hT (b:=b) (it:=it) (r:=r)
     exact aC (h4 _ _ _<| .go _ ⟨_,_,_,dh,dn,x'.loc rfl rfl rfl rfl rfl,Nat.le_trans Ir (Nat.le_of_eq N9),rfl,⟨z1,y.pd⟩,z2,Dd.elim (fun e=>by rw [e];rfl) fun e=>by rw [nx.1 e];simp⟩)
   .rcases hq with ⟨κ,j⟩ | ⟨l,ring,hs,zH⟩
    .refine ae (qw (J3 g σ B eQ eT sn eU i eB μ) _ hF.st j (fun κ m' H' j Rc Uw Qf S1=> ?_))
     obtain ⟨fs,T,n,ep,dn,x,hm,Oa,y,ti,Dd⟩:=j
     refine j1 (aa (by exact x.m2) (uH (.own x.sat.w8) (Nat.lt_of_le_of_lt x.ln (Nat.le_of_ble_eq_true rfl)) ?_))
     rcases List.eq_nil_or_concat fs with e | ⟨pre,f,e⟩
     .subst e
      refine xh (by simp [a8]) ?_
      exact ae (oQ (S1 .brk _ _ (Od .brk _ _ (aC (hR .next _ _ ⟨T,n,ep,dn,x,y.d.start ..,uR eB y.pd ((y.d.mq _ Dd).resolve_left (by simp))⟩)))))
     .rw [List.concat_eq_append] at e
      subst e
      refine rU (by simp [a8]) ?_
      have xR:=x.rows f (by simp)
      have hb:H' f.b=some (.bound "list_iterator.__next__" f.it):=x.sat.get (by simp [dS])
      have hit:H' f.it=some (.iter f.r.la f.i):=x.sat.get (by simp [dS])
      have N3:=au.ju x.N7 xR
      refine ae (zc hF.st (ae (aD (hF.loc rfl) rfl (sY (hF.hh hh) (b8 (aa (by exact x.m3) (xO (aK (qG (gj (.own x.sat.rR) (sR (.own x.sat.rR) (x:= .ref f.b) (by simp) ⟨f.b,f.it,f.r.la,f.i,a8 f.r.su,rfl,hb,hit,N3, ?_⟩)))))))))))
      cases hq:f.r.su[f.i]? with
      | some q=>
       have e1:(a8 f.r.su)[f.i]? =some (cd q):=EJ hq
       rw [e1]
       have dX:f.i<f.r.su.length:=(List.getElem?_eq_some_iff.mp hq).1
       obtain ⟨x',Ir⟩:=x.next dX
       obtain ⟨z1,z2⟩:=y.d.next ti hq
       exact ae (oQ (Qf .brk _ _ (aC (Od .next _ _ ⟨_,Nat.lt_of_lt_of_le Ir hm,_,T,n,ep,q,dn,x'.loc rfl rfl rfl rfl rfl,rfl,hc f.r xR q (List.mem_of_getElem? hq),rfl,⟨z1,y.pd⟩,z2, .inl Dd⟩))))
      | none=>
       have e1:(a8 f.r.su)[f.i]? =none:=by unfold a8;rw [List.getElem?_map,hq];rfl
       rw [e1]
       refine EA (qQ (hF.cR rfl) (D.nb rfl) D.stop) (th D) fun e=> ?_
       obtain ⟨y1,AA,FY⟩:=x.out
       have Oe:(a8 (pre.map (·.k))).length<=3000:=by rw [aw,List.length_map];exact FY
       have Of:(pre.map fun f=>V.ref f.b).length<=3000:=by rw [List.length_map];exact FY
       have Og:(idx (pre.map (·.k))++[(f.k,V.int ((pre.map (·.k)).length:Int))]).length<=3001:=by unfold idx;rw [List.length_append,List.length_map,List.length_zipIdx,List.length_map];exact Nat.succ_le_succ FY
       refine ae (yu (aa (by exact x.m5) (bg (aa (by exact x.m2) (bU (bR (.own y1.w8) PySem.F.slot_list_pop PySem.F.type_list_pop)<|ai (.blt _) (aj (CV y1.w8 (Nat.lt_of_le_of_lt Oe (Nat.le_of_ble_eq_true rfl)) ?_)))))))
       have y2:=y1.set (.list (a8 (pre.map (·.k))))
       refine Ex y2.Ia (Nat.le_trans Og (Nat.le_of_ble_eq_true rfl)) (wj (by rw [fY];exact AA)) fun dh=> ?_
       rw [wh (by rw [fY];exact AA)]
       have y3:=y2.Ic (.dict (idx (pre.map (·.k))) dh)
       refine ae (eN (bg (aa (by exact x.m3) (bU (bR (.own y3.rR) PySem.F.slot_list_pop PySem.F.type_list_pop)<|ai (.blt _) (aj (CV y3.rR (Nat.lt_of_le_of_lt Of (Nat.le_of_ble_eq_true rfl)) ?_))))))
       have y4:=y3.Ib (.list (pre.map fun f=>V.ref f.b))
       obtain ⟨x',Ir⟩:=x.pop y4
       rw [List.length_append] at Oa
       obtain ⟨z1,z2⟩:=y.d.pop ti hq xR (x.same f (by simp)) (x.seen f (by simp)) (by have:=x.nd;rw [List.map_map] at this;exact this)
       exact aC (aC (Qf .next _ _ ⟨pre.length,by rw [<- Oa];exact Nat.lt_succ_self _,pre,T,n,dh,dn++[f.k],x'.loc rfl rfl rfl rfl rfl,Nat.le_trans (Nat.add_le_add_left Ir _) hm,rfl,⟨z1,fun r hr=>by rw [List.map_append];exact List.mem_append_left _ (y.pd r hr)⟩,z2,Dd⟩))
    .exact Od (.ret _) _ _ (hR (.ret _) _ _ (h2 l ring _ hs zH))
 .obtain ⟨T,n,ep,dn,x,y,pd⟩:=j
  refine aC (ae (dW (bj (h1 _ dn x.N7 y.zF fun r hr=>pd r ?_))))
  have el:(ao σ.rows).length=σ.rows.length:=by unfold ao;simp
  rw [el,List.take_of_length_le (Nat.le_refl _)];exact hr
end
theorem mA {env:Env} {sc:Scope} (h:env.scope=sc) {ts:List Expr} {v:Expr} {r:Sem (Option (List Str))} (e:swappedStores ts v { env with scope:=sc }=r):swappedStores ts v env=r:=by subst h;exact e
theorem bA {env:Env} {sc:Scope} (h:env.scope=sc) {e:Expr} {t:Option Expr} {n:Nat} {r:Sem Bool} (q:swapsWith e t n { env with scope:=sc }=r):swapsWith e t n env=r:=by subst h;exact q
noncomputable def storeAll:Loc->List Str->List V->Loc
 | m,n::ns,x::xs=>storeAll (bw m n x) ns xs
 | m,_,_=>m
section
variable {g:G} {F:Fm} {m:Loc} {H:AH} {s:Shared} {X:PX} {Q:eI}
theorem n9 {h₀:Heap} {H₀:AH}: ∀ {ns:List Str} {xs:List V} {vs:List Value} {m:Loc} {s:Shared},(∀ n∈ns,Stores F n)->ns.length=xs.length->St g F m H s->aF F h₀ H₀ s.heap H->bh s.heap xs vs->
  wpAny (model g.prog g.w) F.A (assignInOrder (ns.map fun n=>bindName F.env n) vs) (fun z0 s'=>St g F (storeAll m ns xs) H s'/\aF F h₀ H₀ s'.heap H) (dA g F X h₀ H₀) s
 | [],[],vs,m,s,_,_,S,K,r=>wpAny_pure ⟨S,K⟩
 | [],_::_,_,_,_,_,e,_,_,_=>by simp at e
 | _::_,[],_,_,_,_,e,_,_,_=>by simp at e
 | n::ns,x::xs,vs,m,s,hn,e,S,K,r=>by
  obtain ⟨v,r',rfl,rv,rs⟩:=r.aG
  refine wpAny_bind (wpAny_holding (wpAny_bindName (aU S.tk (jb (X:=fun z0 z0 z0 z0=>False) (Q:=fun m' H'=>m'=bw m n x/\H'=H) (hn n List.mem_cons_self) ⟨rfl,rfl⟩ s v S rv) (fun z0 av z0 m₁ aL z0 ah k₁ cy=>cy.elim fun e1 e2=> ?_) fun z0 z0 yy=>yy.no)))
  rw [e1,e2] at ah
  rw [e2] at k₁
  exact n9 (fun n' h'=>hn n' (List.mem_cons_of_mem _ h')) (by simpa using e) ah (K.trans k₁) (rs.keep S k₁)
theorem bh.reverse {h:Heap}: ∀ {xs:List V} {vs:List Value},bh h xs vs->bh h xs.reverse vs.reverse:=by
 intro L9
 induction L9 with
 | nil=>
  rintro _ r
  rw [bh.bL] at r;subst r;exact .gC
 | cons x xs ih=>
  rintro _ r
  obtain ⟨v,r',rfl,rv,rr⟩:=r.aG;rw [List.reverse_cons,List.reverse_cons];exact (ih rr).append (.cons rv .gC)
theorem E2 {ts vs:List Expr} {k k2:Nat} {yq BM pos:Pos} {names:List Str} (hh:F.A.handled=none) (hs:swapsWithSole [.Tuple ts k yq] (.Tuple vs k2 BM) pos.line F.env=pure false)
  (hw:swappedStores [.Tuple ts k yq] (.Tuple vs k2 BM) F.env=pure (some names)) (hn: ∀ n∈names,Stores F n)
  (h:WE g F (eval (.Tuple vs k2 BM) F.env) m H (fun a m H=> ∃ xs,a= .tup xs/\xs.length=names.length/\Q .next (storeAll m names.reverse xs.reverse) H) X):WS g F (exec (.Assign [.Tuple ts k yq] (.Tuple vs k2 BM) pos) F.env) m H Q X:=fun s S=>by
 rw [arm_exec_Assign]
 refine wpAny_bind (wpAny_standAt ?_)
 rw [hs]
 refine wpAny_bind (wpAny_pure ?_)
 refine az ((by decide)) ?_
 refine wpAny_bind (h.run S (fun v av a m₁ aL aA ah k₁ cy=>cy.elim fun xs eX=>eX.elim fun e iL=>iL.elim fun hlen hq=> ?_) fun z0 z0 x=>x)
 subst e
 rw [hw]
 refine wpAny_bind (wpAny_pure ?_)
 skip
 replace aA:=VR.cM aA
 obtain ⟨t,ws,ep,rfl,et,rs⟩:=aA
 refine wpAny_bind (wpAny_rule ?_)
 have hl:names.length=ws.toArray.size:=by rw [List.size_toArray,rs.length,hlen]
 rw [hl]
 refine wpAny_bind (PyProof.Rows.unpackItems_tuple hh (items:=ws.toArray) ⟨_,et,rfl,ep,rfl⟩ fun h' hx=> ?_)
 have kp: ∀ b o,av.heap.get? b=some o->h'.get? b=some o:=fun b o q=>hx b o (Nat.ne_of_lt (Heap.lt_size q)) q
 obtain ⟨aB,k₂⟩:=ah.ext (t:=av.toks) kp
 replace aB:=aB (by first | exact ah.tk | exact Nat.le_trans ah.tk (Nat.le_add_right ..) | assumption)
 rw [List.toList_toArray]
 refine wpAny_bind (wpAny_mono (n9 (X:=X) (xs:=xs.reverse) (fun n' h'=>hn n' (List.mem_reverse.mp h')) (by simp [hlen]) aB (k₁.trans k₂) ((rs.mono fun z0 z0 z0 q=>kp _ _ q).reverse)) (fun z0 aP cy=>cy.elim fun bf dG=>wpAny_pure ⟨.next,_,_,rfl,fun z0=>bf,dG,hq⟩) fun z0 z0 x=>x)
end
noncomputable def De (A:Around) (fd:FuncData) (f L:Addr):Fm where
 A:=A.deeper (callEnvC fd L f)
 env:=callEnvC fd L f
 stack:=[callEnvC fd L f]
 aS:=L::(((cellsFrom (L+1) fd.scope.names []).filter fun p=>(cellsFrom (L+1) fd.scope.names []).lookup p.1 == some p.2).map (·.2))
 lvl:=1
section
variable {g:G} {A:Around} {s:Shared}
end
noncomputable def Df (A:Around) (fd:FuncData) (f L:Addr):Fm where
 A:=A
 env:=callEnvC fd L f
 stack:=[]
 aS:=[]
 lvl:=0
theorem wq {A:Around} {fd:FuncData} {f L:Addr}:aI (De A fd f L) (Df A fd f L) fd.scope:=by
 refine ⟨rfl,rfl,rfl,fun y hy=> ?_,rfl⟩
 have:((cellsFrom (L+1) fd.scope.names []).lookup y).isSome=true:=cellsFrom_some _ _ _ (.inl hy)
 obtain ⟨c,ec⟩:=Option.isSome_iff_exists.mp this
 exact ⟨c,ec,List.mem_cons_of_mem _ (List.mem_map.mpr ⟨(y,c),List.mem_filter.mpr ⟨mem_of_lookup ec,by rw [ec];simp⟩,rfl⟩)⟩
section
variable {g:G} {A:Around} {s:Shared}
end
noncomputable def LB (g:G) (a:Addr) (ns:List Int):Prop:= ∃ vs:List Value,g.B.IsList a vs.toArray/\IntsAre vs ns
section
variable {g:G} {F:Fm} {m:Loc} {H:AH} {s:Shared} {X:PX} {Q:PV} {l:Addr} {ns:List Int}
theorem LB.at (S:St g F m H s) (x:LB g l ns): ∃ vs o ep,s.heap.get? l=some o/\o.cls= .type "list"/\o.data= .seq vs.toArray ep/\bh s.heap (nums ns) vs:=by
 obtain ⟨vs,⟨o,e,c,ep,d⟩,i⟩:=x
 exact ⟨vs,o,ep,S.base _ _ e,c,d,qI i⟩
theorem E3 (hl:LB g l ns) (hz:ns.length<2 ^ 60) (h:Q (.int ns.length) m H):WC g F (.builtin "len") [.ref l] m H Q X:=uG fun s v S r=>by
 rw [VR.ay] at r;subst r
 obtain ⟨vs,o,ep,e,c,d,rs⟩:=hl.at S
 have hlen:=rs.length
 rw [ints_length] at hlen
 refine call_len_list (items:=vs.toArray) ⟨_,e,c,ep,d⟩ (by rw [List.size_toArray];omega) (bG.now S rfl rfl rfl ?_ h)
 rw [List.size_toArray,hlen];exact .fF _ _
end
section
variable {g:G} {F:Fm} {m:Loc} {H:AH} {s:Shared} {X:PX} {Q:PV}
theorem wu {prog:Program} {w:World} {A:Around} {E:PE} {l:Addr} {items:Array Value} {k:Nat} {x:Int} {u:Tok} {Q:PE}
  (hl:s.heap.get? l=some { cls:= .type "list",dict:=none,data:= .seq items k,slots:= #[] })
  (E4: -(2 ^ 63:Int)<=x) (Ux:x<2 ^ 63) (nM:items.size*x.toNat<=2 ^ 24)
  (h:Q (.ref s.heap.objs.size) { s with heap:=s.heap.push { cls:= .type "list",data:= .seq (List.foldl (fun x1 x2=>x1++x2) #[] (List.replicate (if items.isEmpty=true then 0 else x.toNat) items)) } }):
  wpAny (model prog w) A (binaryOp .Mult (.ref l) (.int x u)) Q E s:=
 wpAny_binaryOp_repeat_ref (T:="list") (U:="int") (rfl) ⟨_,hl,rfl⟩ (fun s'=>typeIs_int s' x u) noFill_list_mul PySem.F.fills_int_mul PySem.F.slot_int_rmul repeat_list PySem.F.slot_int_index.lookup
  (call_meets PySem.F.slot_int_rmul (typeIs_int s x u) PySem.F.entry_int_rmul (PySem.F.args_int_rmul_2 _ _) (int___rmul___int_list x u l items k)
   ⟨hl,rfl,⟨_,hl,rfl⟩,call_meets PySem.F.slot_list_mul ⟨_,hl,rfl⟩ PySem.F.entry_list_mul (PySem.F.args_list_mul_2 _ _)
    (AutoListH.list___mul___list_int_3 l items k x u (by simp [Builtin.List.listFitsIndex];omega) (by omega) (by simp [Builtin.List.listTooLong,sizeLine];exact Lf nM))
    ⟨hl,h⟩⟩)
theorem zI {l:Addr} {xs:List V} {n:Nat} (hl:H l=some (.list xs)) (hx:xs≠[]) (hn:xs.length*n<=1000) (h: ∀ c,H c=none->Q (.ref c) m (put H c (.list (List.replicate n xs).flatten))):W2 g F VR (.ref l) (.int (n:Int)) (binaryOp .Mult) m H Q X:=fun s v u S r r'=>by
 rw [VR.ay] at r;subst r
 rw [VR.aZ] at r';obtain ⟨t,rfl⟩:=r'
 obtain ⟨vs,ep,e,rs⟩:=S.listAt hl
 have hlen:=rs.length
 have hv:vs≠[]:=fun q=>by rw [q] at hlen;exact hx (List.eq_nil_of_length_eq_zero hlen.symm)
 have en:List.foldl (fun x1 x2=>x1++x2) #[] (List.replicate (if vs.toArray.isEmpty=true then 0 else ((n:Int)).toNat) vs.toArray)=(List.replicate n vs).flatten.toArray:=by
  have h0:vs.toArray.isEmpty=false:=by cases vs with | nil=>exact absurd rfl hv | cons=>rfl
  rw [h0,Int.toNat_natCast]
  have:=listMul_foldl_if vs.toArray n
  rw [h0] at this
  exact this
 have rr: ∀ n,bh s.heap (List.replicate n xs).flatten (List.replicate n vs).flatten:=fun n=>by
  induction n with
  | zero=>exact .gC
  | succ n ih=>rw [List.replicate_succ,List.replicate_succ,List.flatten_cons,List.flatten_cons];exact rs.append ih
 have kp: ∀ b o,s.heap.get? b=some o->(s.heap.push (cp (List.replicate n vs).flatten 0)).get? b=some o:=fun z0 z0 e=>Heap.get?_push_of_some _ e
 have C9:n<=1000:=Nat.le_trans (Nat.le_mul_of_pos_left n (List.length_pos_iff.mpr hx)) hn
 refine wu (items:=vs.toArray) (k:=ep) e (by omega) (by omega) (by rw [Int.toNat_natCast,List.size_toArray,hlen];exact Nat.le_trans hn (by decide)) ?_
 rw [en]
 exact lT S kp (Heap.get?_none_of_le (Nat.le_refl _)) (Heap.get?_push_size _ rfl) ((rr n).mono fun z0 z0 z0 q=>kp _ _ q) h
theorem E5 {l:Addr} {x:V} {n:Nat} (hl:H l=some (.list [x])) (hn:n<=1000) (h: ∀ c,H c=none->Q (.ref c) m (put H c (.list (List.replicate n x)))):W2 g F VR (.ref l) (.int (n:Int)) (binaryOp .Mult) m H Q X:=
 zI hl (by simp) (by simpa using hn) fun c hc=>by
  have e:(List.replicate n [x]).flatten=List.replicate n x:=by
   clear hn h
   induction n with
   | zero=>rfl
   | succ n ih=>rw [List.replicate_succ,List.replicate_succ,List.flatten_cons,ih];rfl
  exact e▸h c hc
theorem qY {a b:Addr} {xs:List V} (ha:LA g H a xs) (hb:LA g H b []) (h:Q (.bool (!xs.isEmpty)) m H):W2 g F VR (.ref a) (.ref b) (compareOp .NotEq) m H Q X:=by
 cases xs with
 | nil=>exact HS ha hb (by rfl) (by rfl) (by exact Gx) ((kY▸h))
 | cons x xs=>
   intro s v u S r r'
   rw [VR.ay] at r r';subst r r'
   obtain ⟨vs,ep,e,rs⟩:=ha.at S
   obtain ⟨ws,dh,e',w7⟩:=hb.at S
   have sm:=S.small
   have cl:cLine=9900:=rfl
   have l1:s.heap.IsList a vs.toArray:=⟨_,e,rfl,ep,rfl⟩
   have l2:s.heap.IsList b ws.toArray:=⟨_,e',rfl,dh,rfl⟩
   exact RcNeAt.lists_lengths (A:=F.A) (s:=s) l1 l2 (by simp [rs.length,w7.length]) (by exact Dx sm cl) g.prog g.w _ _ (bG.now S rfl rfl rfl (.dm _) h)
end
theorem eV {env:Env} {k0:NameKind} (hk:k0≠ .free): ∀ {names:List (Str×NameKind)} {x:Str},names.lookup x=some k0->
  (names.map fun (n,k)=>if (k == NameKind.free && env.scope.kind == .function && env.kindOf n == some .cell) then (n,NameKind.cell) else (n,k)).lookup x=some k0
 | [],_,h=>by simp at h
 | (n,k)::r,x,h=>by
  have ih:= @eV env k0 hk r x
  show List.lookup x ((if (k == NameKind.free && env.scope.kind == .function && env.kindOf n == some .cell)=true then (n,NameKind.cell) else (n,k))::_)=_
  rw [List.lookup_cons] at h
  by_cases q:x=n
  .subst q
   rw [beq_self_eq_true] at h
   cases h
   rw [if_neg (by simp [hk])]
   rw [List.lookup_cons,beq_self_eq_true]
  .rw [beq_eq_false_iff_ne.mpr q] at h
   split <;> rw [List.lookup_cons,beq_eq_false_iff_ne.mpr q] <;> exact ih h
theorem bM.kindOf {Fc F:Fm} {scope:Scope} (x:bM Fc F scope) {n:Str} {k:NameKind} (hk:k≠ .free) (h:scope.names.lookup n=some k):Fc.env.kindOf n=some k:=by
 unfold Env.kindOf
 rw [x.sc]
 exact eV hk h
theorem bM.cR {Fc F:Fm} {scope:Scope} (x:bM Fc F scope) {n:Str} (h:scope.names.lookup n=some .globalImplicit):Fc.env.kindOf n=some .globalImplicit:=x.kindOf (by decide) h
noncomputable def tj (scope:Scope) (x:Str):Bool:=scope.names.lookup x == some .local || scope.names.lookup x == some .cell
theorem uS {scope:Scope} {x:Str} (h:tj scope x=true):scope.names.lookup x=some .local\/scope.names.lookup x=some .cell:=(Bool.or_eq_true_iff.mp h).imp eq_of_beq eq_of_beq
theorem bM.loc {Fc F:Fm} {scope:Scope} (x:bM Fc F scope) {n:Str} (h:tj scope n=true):Stores Fc n:=by
 rcases uS h with h | h
 .exact .inl (x.kindOf (by decide) h)
 .exact .inr ⟨x.kindOf (by decide) h,x.gb n h⟩
noncomputable def tq (outer names:List (Str×NameKind)):Bool:=names.all fun y=>(y.2 != .cell || names.lookup y.1 == some .cell) && (y.2 != .local || names.lookup y.1 == some .local) && (y.2 != .free || (outer.lookup y.1 == some .cell && !(y.1 == ("__classdict__":Str))))
theorem bE {α β:Type} [BEq α] [LawfulBEq α]: ∀ {l:List (α×β)} {a:α} {b:β},l.lookup a=some b->(a,b)∈l:=by
 intro L9
 induction L9 with
 | nil=>
  rintro _ _ h
  simp at h
 | cons y9 r ih=>
  obtain ⟨x,y⟩:=y9
  rintro a b h
  rw [List.lookup_cons] at h
  by_cases q:a=x
  .subst q;rw [beq_self_eq_true] at h;cases h;exact List.mem_cons_self
  .rw [beq_eq_false_iff_ne.mpr q] at h;exact List.mem_cons_of_mem _ (ih h)
theorem aM.Qg {F':Fm} {sc scope:Scope} (kindOf: ∀ n,F'.env.kindOf n=sc.names.lookup n) (cells: ∀ x,sc.names.lookup x=some .cell-> ∃ c,F'.env.cells.lookup x=some c) (hk:scope.kind= .function) (h:tq sc.names scope.names=true):aM F' scope:=by
 have h':=List.all_eq_true.mp h
 have fr: ∀ x,(x,NameKind.free)∈scope.names->sc.names.lookup x=some .cell/\(x == ("__classdict__":Str))=false:=fun x hx=>by
  have:=h' _ hx
  simp only [Bool.and_eq_true,Bool.or_eq_true,Bool.not_eq_true',beq_iff_eq] at this
  rcases this.2 with z | z
  .exact absurd z (by decide)
  .exact z
 refine ⟨hk,fun y hy q=> ?_,fun x hx q=> ?_,fun x hx=> ?_,fun n hn=> ?_⟩
 .have:=h' y hy
  rw [q] at this
  simpa using this
 .have:=h' x hx
  rw [q] at this
  simpa using this
 .obtain ⟨z1,z2⟩:=fr x (bE hx)
  exact ⟨.inl ((kindOf x).trans z1),z2⟩
 .exact cells n (fr n hn).1
theorem aM.of {F' F:Fm} {sc scope:Scope} (hF:aI F' F sc) (hk:scope.kind= .function) (h:tq sc.names scope.names=true):aM F' scope:= .Qg hF.kindOf (fun n hn=>(hF.cells n hn).elim fun c z=>⟨c,z.1⟩) hk h
noncomputable def zJ (outer names:List (Str×NameKind)):Bool:=names.all fun y=>(y.2 != .cell || names.lookup y.1 == some .cell) && (y.2 != .local || names.lookup y.1 == some .local) && (y.2 != .free || ((outer.lookup y.1 == some .cell || outer.lookup y.1 == some .free) && !(y.1 == ("__classdict__":Str))))
theorem aM.qZ {Fc F:Fm} {sc scope:Scope} (hF:bM Fc F sc) (hk:scope.kind= .function) (h:zJ sc.names scope.names=true):aM Fc scope:=by
 have h':=List.all_eq_true.mp h
 have fr: ∀ x,(x,NameKind.free)∈scope.names->(sc.names.lookup x=some .cell\/sc.names.lookup x=some .free)/\(x == ("__classdict__":Str))=false:=fun x hx=>by
  have:=h' _ hx
  simp only [Bool.and_eq_true,Bool.or_eq_true,Bool.not_eq_true',beq_iff_eq] at this
  rcases this.2 with z | z
  .exact absurd z (by decide)
  .exact z
 refine ⟨hk,fun y hy q=> ?_,fun x hx q=> ?_,fun x hx=> ?_,fun n hn=> ?_⟩
 .have:=h' y hy
  rw [q] at this
  simpa using this
 .have:=h' x hx
  rw [q] at this
  simpa using this
 .obtain ⟨z1,z2⟩:=fr x (bE hx)
  refine ⟨?_,z2⟩
  rcases z1 with z1 | z1
  .exact .inl (hF.kindOf (by decide) z1)
  .unfold Env.kindOf
   rw [hF.sc]
   exact cY z1
 .rcases (fr n hn).1 with z | z
  .obtain ⟨c,hc,_⟩:=hF.gb n z;exact ⟨c,hc⟩
  .exact hF.cells n z
theorem bM.hh {Fc F:Fm} {scope:Scope} (x:bM Fc F scope) (h:F.A.handled=none):Fc.A.handled=none:=(x.A▸h)
theorem bM.hk {g:G} {Fc F:Fm} {scope:Scope} (x:bM Fc F scope) (h:Hk g F):Hk g Fc:=by unfold Hk;rw [x.A];exact h
theorem bM.st {Fc F:Fm} {scope:Scope} (x:bM Fc F scope) (h:F.stack≠[]):Fc.stack≠[]:=(x.stack▸h)
theorem bM.lv {Fc F:Fm} {scope:Scope} (x:bM Fc F scope) {b:Nat} (h:F.lvl<b):Fc.lvl<b:=(x.lvl▸h)
noncomputable def gF (scope:Scope) (m m':Loc):Prop:= ∀ y,scope.names.lookup y=some .free->m' y=m y
theorem gF.start (scope:Scope) (m:Loc):gF scope m (g7 scope m):=fun y h=>if_pos h
theorem gF.set {scope:Scope} {m m':Loc} (s:gF scope m m') {x:Str} {v:V} (h:tj scope x=true):gF scope m (bw m' x v):=fun y hy=>by
 unfold bw
 rw [if_neg (fun q=>by subst q;rcases uS h with h | h <;> rw [h] at hy <;> cases hy)]
 exact s y hy
theorem aY (m:Loc) (x:Str) (v:V):bw m x v x=some v:=if_pos rfl
theorem BO (m:Loc) {x y:Str} (v:V) (h:y≠x):bw m x v y=m y:=if_neg h
section
variable {g:G} {F:Fm} {m:Loc} {H:AH} {s:Shared} {X:PX}
theorem cX {elt target iter:Expr} {ifs:List Expr} {tail:Fm->Addr->Sem Unit} {rest:List Comprehension} {scope:Scope} {pos vH:Pos} {x:Str} {px:Pos} {Q:eI}
  (Ni:swapsWith (.ListComp elt (⟨target,iter,ifs,0⟩::rest) scope pos) (some (.Name x px)) vH.line F.env=pure true\/swapsWith (.ListComp elt (⟨target,iter,ifs,0⟩::rest) scope pos) (some (.Name x px)) vH.line F.env=pure false) (hx:Stores F x)
  (hd:aM F scope) (uk: ∀ x,foldedSetIterable iter F.env x=pure x) (hh:Hk g F) (hs:F.stack≠[])
  (vE: ∀ Fc acc it,compTurn (.ListComp elt (⟨target,iter,ifs,0⟩::rest) scope pos) 0 it (.ref acc) Fc.env=dJ target iter ifs it (tail Fc acc) (.ListComp elt (⟨target,iter,ifs,0⟩::rest) scope pos) 0 (.ref acc) Fc.env)
  (h:WE g F (eval iter F.env) m H (fun a m H=>lK g F scope target ifs tail a m H (fun ys H=> ∀ b,H b=none->Q .next (bw m x (.ref b)) (put H b (.list ys))) (fun c as z0 H=>X c as m H)) X):
  WS g F (exec (.Assign [.Name x px] (.ListComp elt (⟨target,iter,ifs,0⟩::rest) scope pos) vH) F.env) m H Q X:=by
 rcases Ni with q | q
 .exact D9 q hx hd uk hh hs vE h
 .exact aD hx q (dK hd uk hh hs vE h)
end
noncomputable def cf (rows:List Row):List Int:=(rows.filter fun r=>r.np == 0).map (·.k)
theorem q0 (rows:List Row):(cf rows).length<=rows.length:=by unfold cf;rw [List.length_map];exact List.length_filter_le ..
section
variable {g:G} {F:Fm} {m:Loc} {H:AH} {X:PX} {Q:PV} {σ:au} {B:List (Addr×O)}
theorem wx {e:Expr} {pos:Pos} (h:WE g F (eval e F.env) m H Q X):WE g F (eval (.JoinedStr [e] pos) F.env) m H Q X:=fun s S=>wpAny_JoinedStr_one (h s S)
theorem Oh (p:Params):j2 (Mine.kx.heap_1 p) 137 "_find_cycle" 127:=⟨rfl,rfl,rfl⟩
theorem pL (D:Gd g) (hl:F.lvl<80) (hh:F.A.handled=none) (s:Sat H (σ.lay++B)) (hk:σ.abs.names.Nodup) (hc:tf σ.rows) (hw:wt σ.rows (fun z0=>false)<=3000) (de:σ.rd=none) (hz:σ.rows.length<=1000)
  (h1: ∀ (bI:au) (H':AH) (dn:List Int),bI.x=σ.x->bI.abs={ σ.abs with rd:=some (cf σ.rows) }->Sat H' (bI.lay++B)->ky σ.rows dn->(∀ r∈σ.rows,cl r.k∈dn.map cl)->Q .none m H') (h2: ∀ (bI:au) (H':AH) (l:Addr) (ring:List Int),bI.x=σ.x->bI.abs={ σ.abs with rd:=some (cf σ.rows) }->Sat H' ((l, .list (a8 ring))::(bI.lay++B))->jV σ.rows ring->X (.ref 55) [.str "nodes are in a cycle", .ref l] m H'):aH g F (.ref 92) [.ref σ.x] m H Q X:=by
 have A:=D.ns
 have A2:=D.sl
 have M:=Oh g.w.params
 rw [<- D.K] at M
 refine cC (D.lk rfl) (D.cd rfl) rfl rfl rfl rfl rfl rfl rfl (du hl rfl) (a7 (fun vs=>[("self",vs.getD 0 .none)]) (fun vs S hv=> ?_) (fun h vs r=> ?_)) (bs:=[("self", .ref σ.x)]) rfl fun F' hF=> ?_
 .obtain ⟨v,rfl⟩:=oU hv;rw [D.K];rfl
 .obtain ⟨v,r',rfl,rv,rr⟩:=r.aG;exact ⟨v,[],rfl,rv,rfl⟩
 refine ae (cq (aO rfl (aQ (aa rfl (bO A.rd (au.inst s) (au.ns s) (x:= .none) (by rw [de];rfl) rfl (bj (eP (fun z0=>by simp) (aq (aC ?_)))))))))
 refine ae (bF rfl rfl rfl (dK (aM.of hF rfl rfl) (fun z0=>rfl) (.inl (hF.hh hh)) hF.st (fun Fc acc it=>bz ..) (bg (aQ (aa rfl (bO A.n2 (au.inst s) (au.ns s) (x:= .ref σ.d) rfl rfl (bU (g8 (au.dict s) PySem.F.slot_dict_values PySem.F.type_dict_values)<|ai (.blt _) (aj (y8 (au.dict s) ?_)))))))))
 .refine ⟨_,_,_,_,fun i ys m' H'=>H'=H/\ys=a8 (cf (σ.rows.take i)),vY (d:=σ.d) (es:=ao σ.rows) (ep:=σ.ep),rfl,fun i ys m' H' cy=>cy.elim fun e z0=>by rw [e];exact au.dict s,⟨rfl,rfl⟩,fun Fc acc hC i ys m' H' hi eX=>eX.elim fun e1 e2=> ?_,fun ys m' H' iL=>iL.elim fun e1 e2=> ?_⟩
  .subst e1
   have eB:i<σ.rows.length:=by unfold ao at hi;simpa using hi
   have ev:((ao σ.rows).getD i (0, .none)).2= .ref σ.rows[i].na:=by unfold ao;rw [List.getD_eq_getElem?_getD,List.getElem?_map,List.getElem?_eq_getElem eB];rfl
   rw [ev]
   have hr:=List.getElem_mem eB
   refine bH (hC.loc rfl) (bQ (aO rfl (aQ (aa rfl (dN A2.np (au.node s hr) rfl rfl (aK (j4 (aq ?_))))))))
   have es:cf (σ.rows.take (i+1))=cf (σ.rows.take i)++(if σ.rows[i].np == 0 then [σ.rows[i].k] else []):=by
    unfold cf
    rw [List.take_add_one,List.getElem?_eq_getElem eB,List.filter_append,List.map_append]
    cases z:σ.rows[i].np == 0 <;> simp [List.filter_cons,z]
   by_cases q:(σ.rows[i].np == 0)=true
   .rw [if_pos q]
    refine lJ (by rw [e2,aw,sizeLine_eq];have:=q0 (σ.rows.take i);simp at this;exact KA this hz) (aQ (aa rfl (dN A2.nd (au.node s hr) rfl (n6 _) ⟨rfl, ?_⟩)))
    rw [es,if_pos q,e2];unfold a8;simp
   .rw [if_neg q]
    refine ⟨rfl, ?_⟩
    rw [es,if_neg q,e2,List.append_nil]
  .subst e1 e2
   intro b hb
   have el:(ao σ.rows).length=σ.rows.length:=by unfold ao;simp
   rw [el,List.take_of_length_le (Nat.le_refl _)]
   have y1:Sat (put H' b (.list (a8 (cf σ.rows)))) ((b, .list (a8 (cf σ.rows)))::(σ.x, .inst 137 σ.dx)::(σ.dx, .ns (iR σ.d .none σ.po σ.nf))::(σ.d, .dict (ao σ.rows) σ.ep)::(bT σ.rows++B)):=by
    have:=s.new (o:= .list (a8 (cf σ.rows))) hb
    unfold au.lay at this
    rw [de] at this
    exact this
   refine fG (aa rfl (lQ A.rd y1.rR y1.at2 (by simp [iR]) ?_))
   have ep:oY "_ready_nodes" (.ref b) (iR σ.d .none σ.po σ.nf)=iR σ.d (.ref b) σ.po σ.nf:=rfl
   rw [ep]
   have y2:=y1.s9 (.ns (iR σ.d (.ref b) σ.po σ.nf))
   have y3:Sat _ (({ σ with rd:=some (b,cf σ.rows) }:au).lay++B):=y2.perm (lX [(b,O.list (a8 (cf σ.rows)))] [(σ.x,O.inst 137 σ.dx),(σ.dx, .ns (iR σ.d (.ref b) σ.po σ.nf)),(σ.d, .dict (ao σ.rows) σ.ep)] (bT σ.rows++B))
   obtain ⟨ng,kv⟩: ∃ z,z=({ σ with rd:=some (b,cf σ.rows) }:au):=⟨_,rfl⟩
   have pW:ng.x=σ.x/\ng.rows=σ.rows:=by rw [kv];exact ⟨rfl,rfl⟩
   have qd:ng.abs={ σ.abs with rd:=some (cf σ.rows) }:=by rw [kv];rfl
   rw [<- kv] at y3
   have e0:σ.x=ng.x:=pW.1.symm
   rw [e0]
   refine ae (aD (hF.loc rfl) rfl (bg (aa rfl (bU (b7 M (au.inst y3) (au.ns y3) rfl)<|ai (D.kp rfl) (aj (aH.call (kz (σ:=ng) D (hF.lv hl rfl) (hF.hh hh) y3 (by rw [qd];exact hk) (by rw [pW.2];exact hc) (by rw [pW.2];exact hw) (fun H' dn s' ht ha=> ?_) (fun l ring H' s' zH=> ?_))))))))
   .refine ae (cq (j1 (aa rfl (Br (aC (aC ?_))))))
    exact h1 ng _ dn pW.1 qd s' (by rw [pW.2] at ht;exact ht) (by rw [pW.2] at ha;exact ha)
   .refine ae (cq (j1 (aa rfl (uH (.own s'.w8) (by rw [aw];exact Nat.lt_of_le_of_lt zH.len (Nat.le_of_ble_eq_true rfl)) ?_))))
    rw [if_pos zH.ne]
    refine ae (qO D.own PySem.F.excBase_ValueError (hF.hh hh) (hF.cR rfl) (af (wx (gx (af (aa rfl (aj ⟨by simp, ?_⟩)))))))
    exact h2 ng _ l ring pW.1 qd s' (by rw [pW.2] at zH;exact zH)
end
theorem au.pM {σ:au} (h:σ.abs.rd=none):σ.rd=none:=by
 unfold au.abs at h
 simpa using h
theorem It (p:Params):j2 (Mine.kx.heap_1 p) 137 "add" 87:=⟨rfl,rfl,rfl⟩
section
variable {g:G}
theorem Dg (p:Params):j2 (Mine.kx.heap_1 p) 137 "is_active" 106:=⟨rfl,rfl,rfl⟩
theorem BP (D:Gd g):Looks (model g.prog g.w) g.B (isInstance (.ref 55) (.type "tuple")) false:=looks_instIn g.gq (by rw [D.K];rfl)
set_option tactic.hygienic true in
theorem BQ (D:Gd g):Looks (model g.prog g.w) g.B (isType (.ref 55)) true:=by
 have h: ∃ a b cd c,g.K.lookup 55=some ⟨a,b, .cls cd,c⟩:=by rw [D.K];exact ⟨_,_,_,_,rfl⟩
 obtain ⟨a,b,cd,c,ho⟩:=h
 exact (Looks.ld (g.gq _ _ ho)).andThen .now
theorem BU (D:Gd g):gk g (.ref 55) (.ref 55) true:=⟨BP D,BQ D,by rw [D.K];rfl,by rw [D.K];rfl⟩
theorem Iu (D:Gd g):gk g (.type "ValueError") (.type "ValueError") true:=⟨(Looks.of_pure rfl:Looks _ _ (typeOf (.type "ValueError")) _).andThen (Looks.of_pure (by rw [isSubtype_type];kernel_rfl)),Looks.now,by rw [D.K];kernel_rfl,by rw [D.K];kernel_rfl⟩
end
noncomputable def Oi (H:AH):V->String->Prop
 | .none,T=>T="NoneType"
 | .bool _,T=>T="bool"
 | .int _,T=>T="int"
 | .cD _,T=>T="int"
 | .str _,T=>T="str"
 | .cS _,T=>T="str"
 | .tup _,T=>T="tuple"
 | .ref a,T=>(∃ xs,H a=some (.list xs)/\T="list")\/ ∃ as,H a=some (.exc (.type T) as)
 | _,_=>False
section
variable {g:G} {F:Fm} {m:Loc} {H:AH} {s:Shared} {X:PX} {Q:PV}
theorem Oi.is {x:V} {T:String} {v:Value} (S:St g F m H s) (t:Oi H x T) (r:VR s.heap x v):s.TypeIs v T:=by
 cases x with
 | none=>cases t;rw [VR.bJ] at r;subst r;rfl
 | bool=>cases t;rw [VR.cz] at r;subst r;rfl
 | int=>cases t;rw [VR.aZ] at r;obtain ⟨_,rfl⟩:=r;rfl
 | cD=>cases t;rw [VR.dE] at r;obtain ⟨_,rfl⟩:=r;rfl
 | str=>cases t;rw [VR.da] at r;obtain ⟨_,rfl⟩:=r;rfl
 | cS=>cases t;rw [VR.dF] at r;obtain ⟨_,rfl⟩:=r;rfl
 | tup=>cases t;exact o5 r
 | ref a=>
  rw [VR.ay] at r;subst r
  rcases t with ⟨xs,e,rfl⟩ | ⟨as,e⟩
  .obtain ⟨vs,ep,e,_⟩:=S.listAt e;exact ⟨_,e,rfl⟩
  .obtain ⟨o,vs,v,e,c,_⟩:=(S.obj a _ e).2;exact ⟨o,e,c⟩
 | _=>exact t.elim
theorem E6 {x:V} {T:String} (t:Oi H x T) (hn:(Value.type T == Value.type "builtin_function_or_method")=false) (h:Q (.cst (.type T)) m H):WC g F (.type "type") [x] m H Q X:=uG fun s v S r=>
 call_type_of (t.is S r) hn (bG.now S rfl rfl rfl (.dT _) h)
theorem Dh {T U:String} {b:Bool} (e:(Value.type T == Value.type U)=b) (h:Q (.bool b) m H):W2 g F VR (.cst (.type T)) (.cst (.type U)) (compareOp .Is) m H Q X:=fun s v u S r r'=>by
 rw [VR.i7] at r r';subst r r'
 exact wpAny_is_plain rfl (by rw [e];exact bG.now S rfl rfl rfl (.dm _) h)
noncomputable def Iv (g:G) (F:Fm) (m:Loc) (H:AH) (X:PX) (e:Expr) (x:V):Prop:= ∀ Q:V->Loc->AH->Prop,Q x m H->WE g F (eval e F.env) m H Q X
inductive PL (g:G) (F:Fm) (m:Loc) (H:AH) (X:PX):List Expr->List V->Prop
 | nil:PL g F m H X [] []
 | cons {e:Expr} {x:V} {es:List Expr} {xs:List V} (he: ∀ rest,starEach (e::rest) F.env=(false,eval e F.env)::starEach rest F.env) (h:Iv g F m H X e x) (t:PL g F m H X es xs):PL g F m H X (e::es) (x::xs)
theorem E7 {pos:Pos} {es:List Expr} {xs:List V} (p:PL g F m H X es xs): ∀ {Q:lj},Q xs m H->WL g F (spliced (backTo pos (starEach es F.env))) m H Q X:=by
 induction p with
 | nil=>exact fun h=>aj h
 | cons he h t ih=>exact fun {Q} q=>af (h (kL g F pos _ Q X) (ih (Q:=kC Q _) q)) (he _)
end
section
variable {g:G} {F:Fm} {m:Loc} {H:AH} {s:Shared} {X:PX} {Q:PV}
theorem zK {b:Int} {k:Nat} {p p2:Pos} (h:Q (.cD (-b)) m H):WE g F (eval (.UnaryOp .USub (.Constant (.int b) k p) p2) F.env) m H Q X:=fun s S=>
 wpAny_UnaryOp (wpAny_Constant_int (PySem.P.neg_int (bG.now S rfl rfl rfl (VR.CG (Nat.le_add_left ..)) h)))
noncomputable def j8:List Int:=[0,1,2,3,4,5,6,7,8,9]
theorem fq (D:Gd g) (hl:F.lvl<99) (h: ∀ l,H l=none->Q (.ref l) m (put H l (.list (a8 j8)))):aH g F (.ref 148) [] m H Q X:=by
 refine cC (D.lk rfl) (D.cd rfl) rfl rfl rfl rfl rfl rfl rfl (du hl rfl) (a7 (fun vs=>[]) (fun vs S hv=> ?_) (fun h vs r=>rfl)) (bs:=[]) rfl fun F' hF=> ?_
 .obtain rfl:=List.eq_nil_of_length_eq_zero hv;rw [D.K];rfl
 refine ae ?_
 refine dW ?_
 refine aT ?_
 have hz:(a8 j8).length<=sizeLine:=by rw [sizeLine_eq,aw];exact Nat.le_of_ble_eq_true rfl
 generalize hN:a8 j8=N at h hz
 refine E7 (xs:=N) ?p ?q
 case q=>exact ⟨hz,fun l hl=>h l hl⟩
 have hN:[.cD 0, .cS "0", .cD (-1), .cD (-2), .tup [.int 0], .none, .cS "", .tup [], .cD 1, .cS "a"]=N:=hN
 subst hN
 refine .cons (fun z0=>rfl) (fun Q q=>xN q) ?_
 refine .cons (fun z0=>rfl) (fun Q q=>r5 q) ?_
 refine .cons (fun z0=>rfl) (fun Q q=>zK q) ?_
 refine .cons (fun z0=>rfl) (fun Q q=>zK q) ?_
 refine .cons (fun z0=>rfl) (fun Q q=>fR (af (aK (aj ⟨Nat.le_of_ble_eq_true rfl,q⟩)))) ?_
 refine .cons (fun z0=>rfl) (fun Q q=>bj q) ?_
 refine .cons (fun z0=>rfl) (fun Q q=>r5 q) ?_
 refine .cons (fun z0=>rfl) (fun Q q=>fR (aj ⟨Nat.le_of_ble_eq_true rfl,q⟩)) ?_
 refine .cons (fun z0=>rfl) (fun Q q=>xN q) ?_
 exact .cons (fun z0=>rfl) (fun Q q=>r5 q) .nil
end
noncomputable def G.more (g:G) (B:Heap) (k:g.B.StaysIn B):G:={ g with B:=B,gq:=g.gq.keeps k,glob:=g.glob.keeps k,blt:=g.blt.keeps k,nG:=g.nG.keeps k,vk:=g.vk.elim fun o e=>⟨o,k _ _ e⟩ }
noncomputable def df (B h:Heap) (c:Addr):Heap:=hideAll h ((List.range h.objs.size).filter fun b=>(B.get? b).isNone && b != c)
omit ζ in
theorem zL {B h:Heap} {c b:Addr}:b∈((List.range h.objs.size).filter fun b=>(B.get? b).isNone && b != c)->B.get? b=none/\b≠c:=fun q=>by
 have:=(List.mem_filter.mp q).2
 rw [Bool.and_eq_true,Option.isNone_iff_eq_none] at this
 exact ⟨this.1,by simpa using this.2⟩
omit ζ in
theorem f6 {B h:Heap} {c:Addr} (k:B.StaysIn h):B.StaysIn (df B h c):=fun b o e=>hideAll_get _ (k b o e) fun q=>by have:=(zL q).1;exact nomatch (e.symm.trans this)
omit ζ in
theorem BV {B h:Heap} {c:Addr}:(df B h c).StaysIn h:=fun b o e=>of_hideAll _ e
omit ζ in
theorem zM {B h:Heap} {c:Addr} {o:Obj} (e:h.get? c=some o):(df B h c).get? c=some o:=hideAll_get _ e fun q=>(zL q).2 rfl
omit ζ in
theorem tr {B h:Heap} {c b:Addr} (n:B.get? b=none) (hb:b≠c):(df B h c).get? b=none:=by
 by_cases q:b<h.objs.size
 .refine hideAll_none _ (List.mem_filter.mpr ⟨List.mem_range.mpr q, ?_⟩)
  rw [n];simpa using hb
 .exact Heap.get?_none_of_le (by unfold df;rw [hideAll_size];exact Nat.not_lt.mp q)
noncomputable def Fm.q9 (F:Fm) (c:Addr):Fm:={ F with aS:=F.aS.filter (· != c) }
omit ζ in
theorem gS {F:Fm} {b c:Addr}:b∈(F.q9 c).aS↔b∈F.aS/\b≠c:=by unfold Fm.q9;rw [List.mem_filter];simp
section
variable {α β:Type} {g:G} {F:Fm} {m:Loc} {H:AH} {s:Shared} {R:Heap->β->α->Prop} {Q:β->Loc->AH->Prop} {X:PX}
theorem funFrames_base {h B B':Heap}: ∀ {l:List Env},h.FunFrames B l->(∀ b∈l.filterMap (·.frame),B'.get? b=none)->h.FunFrames B' l:=by
 intro L9
 induction L9 with
 | nil=>
  rintro _ _
  exact trivial
 | cons env rest ih=>
  rintro ⟨hk,⟨L,o,hf,hn,ho,hd⟩,hr⟩ k
  rw [List.filterMap_cons,hf] at k
  exact ⟨hk,⟨L,o,hf,k L List.mem_cons_self,ho,hd⟩,ih hr fun b hb=>k b (List.mem_cons_of_mem _ hb)⟩
theorem St.pN {c:Addr} (S:St g F m H s) (hd: ∀ o es ep,s.heap.get? c=some o->o.data≠ .dict es ep) (n:H c=none):St (g.more (df g.B s.heap c) (f6 S.base)) (F.q9 c) m H s:=by
 have nd: ∀ b o es ep,s.heap.get? b=some o->o.data= .dict es ep->b≠c:=fun b o es ep e d q=>by subst q;exact hd o es ep e d
 refine ⟨BV,fun b o e=>⟨tr (S.obj b o e).1 (fun q=>by subst q;exact on n e),(S.obj b o e).2⟩,⟨S.loc.kind,S.loc.val,S.loc.cell,S.loc.apart⟩,gS.mpr ⟨S.eF, ?_⟩,fun b hb=> ?_,funFrames_base S.jJ fun b hb=> ?_,S.gJ,S.frame,S.lA,S.gens,S.os,S.room,S.eG,S.dead,S.tk⟩
 .obtain ⟨mr,⟨o,es,ep,e,d,_⟩,_⟩:=S.loc.val
  exact nd _ o es ep e d
 .obtain ⟨hb,hn⟩:=gS.mp hb
  obtain ⟨a1,a2,a3⟩:=S.aS b hb
  exact ⟨a1,tr a2 hn,a3⟩
 .obtain ⟨_,o,es,ep,e,d⟩:=S.gJ b hb
  exact tr (S.jJ.mem hb).1 (nd b o es ep e d)
theorem St.freeze {c:Addr} {v:Option Value} (S:St g F m H s) (hc:s.heap.IsCell c v) (n:H c=none):St (g.more (df g.B s.heap c) (f6 S.base)) (F.q9 c) m H s:=
 S.pN (fun o es ep e d=>hc.elim fun oc z=>by obtain rfl:=oi z.1 e;exact nomatch (z.2.symm.trans d)) n
theorem St.zN {B:Heap} {k:g.B.StaysIn B} {c:Addr} {v:Option Value} {m':Loc} {H':AH} {s':Shared} (S:St g F m H s) (hc:B.IsCell c v) (S':St (g.more B k) (F.q9 c) m' H' s'):St g F m' H' s':=by
 have up: ∀ b,B.get? b=none->g.B.get? b=none:=fun b e=>by
  cases q:g.B.get? b with
  | none=>rfl
  | some o=>exact nomatch ((k b o q).symm.trans e)
 refine ⟨fun b o e=>S'.base b o (k b o e),fun b o e=>⟨up b (S'.obj b o e).1,(S'.obj b o e).2⟩,⟨S'.loc.kind,S'.loc.val,S'.loc.cell,S'.loc.apart⟩,S.eF,fun b hb=> ?_,funFrames_base S'.jJ fun b hb=>up b (S'.jJ.mem hb).1,S'.gJ,S'.frame,S'.lA,S'.gens,S'.os,S'.room,S'.eG,S'.dead,S'.tk⟩
 by_cases q:b=c
 .subst q
  obtain ⟨o,e,d⟩:=hc
  refine ⟨?_,(S.aS b hb).2.1,o,S'.base b o e, .inr ⟨_,d⟩⟩
  cases z:H' b with
  | none=>rfl
  | some o'=>have:=(S'.obj b o' z).1;exact nomatch ((show (g.more B k).B.get? b=some o from e).symm.trans this)
 .obtain ⟨a1,a2,a3⟩:=S'.aS b (gS.mpr ⟨hb,q⟩)
  exact ⟨a1,up b a2,a3⟩
theorem aF.zN {c:Addr} {h h':Heap} {H':AH} (k:aF (F.q9 c) h H h' H'):aF F h H h' H':=⟨k.alive,k.dct,fun b o e n q=>k.same b o e n fun z=>q (gS.mp z).1⟩
theorem Wt.freeze {t:Sem α} {x:Str} {a:Addr} (hk:F.env.kindOf x=some .cell) (hm:m x=some (.ref a))
  (h: ∀ B (k:g.B.StaysIn B) c,F.env.cells.lookup x=some c->B.IsCell c (some (.ref a))->(∀ y c',y≠x->F.env.cells.lookup y=some c'->c'≠c)->Wt (g.more B k) (F.q9 c) R t m H Q X):Wt g F R t m H Q X:=fun s S=>by
 obtain ⟨mr,_,hv⟩:=S.loc.val
 cases hv x _ hm with
 | loc v r w z0=>exact nomatch (hk.symm.trans w)
 | gb v r z0 c hc ic=>
  obtain rfl:=VR.ay.mp r
  have A1:(df g.B s.heap c).IsCell c (some (.ref a)):=ic.elim fun o z=>⟨o,zM z.1,z.2⟩
  refine wpAny_mono (h _ (f6 S.base) c hc A1 (fun y c' n hy q=>n (S.loc.apart y x c (q▸hy) hc)) s (S.freeze ic (S.loc.cell x c hc).1)) (fun a' s' y=>y.elim fun b m' H' r st kp q=>⟨b,m',H',r,fun ht=>S.zN A1 (st ht),kp.zN,q⟩) fun e s' y=>y.elim fun c' as m' H' r st kp q=>⟨c',as,m',H',r,S.zN A1 st,kp.zN,q⟩
end
structure uT (g:G):Prop where
 is: ∃ bm o,g.mg "__builtins__"=some (.ref bm)/\bm≠builtinsNs/\g.B.get? bm=some o/\o.cls= .type "module"/\o.dict=some builtinsNs/\o.data= .plain
structure mB (env:Env) (sc:Scope) (cl:List (Str×Addr)):Prop where
 up: ∀ x c,cl.lookup x=some c->env.cells.lookup x=some c
 all: ∀ x,(x,NameKind.free)∈sc.names-> ∃ c,cl.lookup x=some c
 only: ∀ x c,cl.lookup x=some c->(x,NameKind.free)∈sc.names
section
variable {g:G} {F:Fm} {m:Loc} {H:AH} {s:Shared} {Q:PV} {X:PX}
theorem zO {a:Addr} {o:O} (h:H a=some o):put H a o=H:=by
 funext b;unfold put
 by_cases q:b=a
 .subst q;rw [if_pos rfl,h]
 .rw [if_neg q]
theorem wy {P:Addr} {h h':Heap} (k:Heap.ExtBut P h h') {o':Obj} (e:h'.get? P=some o'): ∀ b o,h.get? b=some o-> ∃ o',h'.get? b=some o':=fun b o q=>by
 by_cases z:b=P
 .subst z;exact ⟨_,e⟩
 .exact ⟨o,k b o z q⟩
set_option tactic.hygienic true in
theorem tu {pos:Pos} {a b:Int} {c cv:Value} {l:List Value} (h:TriplesOk l) (e:codeAmong pos (l++[rawInt a,rawInt b,c])=some cv):codeAmong pos l=some cv\/cv=c:=by
 fun_induction TriplesOk l with
 | case1=>
  simp only [List.nil_append,rawInt,codeAmong] at e
  split at e
  .exact .inr (Option.some.inj e).symm
  .cases e
 | case2 a' t b' u x rest ih=>
  simp only [List.cons_append,codeAmong] at e|-
  split at e
  .rename_i z;rw [if_pos z];exact .inl e
  .rename_i z;rw [if_neg z];exact ih h e
 | case3 l h1 h2=>exact h.elim
theorem E8 {cl:List (Str×Addr)} {Q:PE} {E:PE} {kk:Value->Sem Value} (k: ∀ ct h',(∀ b o,s.heap.get? b=some o->h'.get? b=some o)->s.heap.objs.size<=h'.objs.size->wpAny (model g.prog g.w) F.A (kk ct) Q E { s with heap:=h' }):
  wpAny (model g.prog g.w) F.A (if cl.isEmpty=true then (do let ct <- pure Value.none;kk ct) else (do let ct <- newTextTuple ((cl.mergeSort fun a b=>a.1.cps.toList<=b.1.cps.toList).map (.ref ·.2));kk ct)) Q E s:=by
 cases cl with
 | nil=>exact wpAny_bind (wpAny_pure (k .none s.heap (fun z0 z0 e=>e) (Nat.le_refl _)))
 | cons=>exact wpAny_bind (wpAny_newTextTuple (k _ _ (fun b o e=>Heap.get?_push_of_some _ e) (by rw [Heap.size_push];exact Nat.le_succ _)))
theorem rg {ar:Arguments} {body:Expr} {sc:Scope} {P:Addr} {q:Str} {cl:List (Str×Addr)} {Q:PE} {E:PE} {ct cv:Value} {h':Heap} {t:Nat} (S:St g F m H s) (hT:H P=some (.tab q)) (hb:uT g)
  (h: ∀ f h' t,s.heap.objs.size<=f->oN (· =P) s.heap h'->OH g h' P (.tab q)->OH g h' f (.lam ar body sc cl q)->Q (.ref f) { s with heap:=h',toks:=t })
  (hx:Heap.ExtBut P s.heap h') (hz:s.heap.objs.size<=h'.objs.size) (hp:OH g h' P (.tab q)) (hc:i5 h' cv q):wpAny (model g.prog g.w) F.A (do
    let bu <- builtinsFor mainGlobals F.env.builtins
    let pm <- nsGet mainGlobals "__name__"
    let doc <- (pure .none:Sem Value)
    newObj (.type "function") (.func { name:="<lambda>",qualname:=q,params:=ar,body:= .expr body,scope:=sc,globals:=mainGlobals,closure:=cl,closureTuple:=ct,code:=cv,builtins:=bu,defaults:= .none,kwdefaults:= .none,annotations:=none,pyModule:=pm.getD .none,doc:=doc })) Q E { s with heap:=h',toks:=t }:=by
 obtain ⟨nP,ps,hP,_⟩:=S.obj P _ hT
 obtain ⟨bm,ob,b1,b2,b3,b4,b5,b6⟩:=hb.is
 have gP:mainGlobals≠P:=fun z=>by obtain ⟨o,es,ep,e,d,_⟩:=g.glob;exact on (z▸nP) e
 have bP:bm≠P:=fun z=>on (z▸nP) b3
 have S2:=S.base _ _ b3
 obtain ⟨oJ,e',_⟩:=id hp
 have AB:=(g.glob.keeps S.base).extBut hx gP
 refine wpAny_bind (wpAny_builtinsFor AB b1 b2 (hx _ _ bP S2) b4 b5 b6 ?_)
 refine wpAny_bind (wpAny_nsGet AB ?_)
 refine wpAny_bind (wpAny_pure (wpAny_newObj_type ?_ (by size_fits)))
 have pu: ∀ b o,h'.get? b=some o->(h'.push (kla_obj "<lambda>" q ar body sc cl ((g.mg "__name__").getD .none) 0 ct)).get? b=some o:=fun b o e=>Heap.get?_push_of_some _ e
 have al:=wy hx e'
 have dc:lu s.heap h':= .of fun b o es ep e d=>⟨o,es,ep,hx b o (fun z=>by subst z;obtain rfl:=oi hP e;cases d) e,d⟩
 have mn: ∀ o:Obj,gr ζ ζ h' (h'.push o):=fun o=>⟨fun b o e1 e=>Heap.get?_push_of_some _ e, .ext fun b o e=>Heap.get?_push_of_some _ e,fun z0 z0 i z0=>i⟩
 refine h h'.objs.size _ t hz ⟨fun b o e=>(al b o e).elim fun o' e'=>⟨o',Heap.get?_push_of_some _ e'⟩,dc.trans (.ext fun b o e=>Heap.get?_push_of_some _ e),fun b o e n=>Heap.get?_push_of_some _ (hx b o n e)⟩
  (OH.shift (mn _) ((Heap.get?_push_of_some _ e').trans e'.symm) hp) ⟨cv,ct,_,Heap.get?_push_size _ rfl,hc.shift (mn _)⟩
theorem E9 {ar:Arguments} {body:Expr} {sc:Scope} {pos:Pos} {cc P:Addr} {q:Str} {cl:List (Str×Addr)} {Q:PE} {E:PE} (S:St g F m H s) (hc:F.env.code= .ref cc) (C:CodeHd g.B cc P) (hT:H P=some (.tab q)) (hb:uT g) (lE:closureFor sc F.env=pure cl)
  (h: ∀ f h' t,s.heap.objs.size<=f->oN (· =P) s.heap h'->OH g h' P (.tab q)->OH g h' f (.lam ar body sc cl q)->Q (.ref f) { s with heap:=h',toks:=t }):
  wpAny (model g.prog g.w) F.A (makeFunction "<lambda>" q ar (.expr body) sc F.env [] [] [] pos pos.line) Q E s:=by
 obtain ⟨nP,ps,hP,ht,hk⟩:=S.obj P _ hT
 rw [makeFunction_eq]
 simp only [List.zip_nil_right,List.filterMap_nil,List.isEmpty_nil,if_true,pure_bind]
 unfold makeTail
 rw [lE,S.eG.1]
 refine wpAny_bind (wpAny_pure ?_)
 refine E8 fun ct h₁ k₁ Iw=> ?_
 have uU:=k₁ _ _ hP
 have Di:gr ζ ζ s.heap h₁:=⟨fun b o z0 e=>k₁ b o e, .ext k₁,fun z0 z0 i z0=>i⟩
 cases hf:codeAmong pos ps.toList with
 | some cv=>
  refine wpAny_bind (wpAny_functionCode_hit (s:={ s with heap:=h₁ }) hc ((C.keeps fun b o e=>k₁ b o (S.base b o e)).code uU ht) hf ?_)
  exact rg (s:=s) S hT hb h (fun b o z0 e=>k₁ b o e) Iw (OH.shift Di (uU.trans hP.symm) ⟨ps,hP,ht,hk⟩) ((hk pos cv hf).shift Di)
 | none=>
  have iO:=C.keeps fun b o e=>k₁ b o (S.base b o e)
  refine wpAny_bind (wpAny_functionCodeX (s:={ s with heap:=h₁ }) hc (iO.code uU ht) (iO.tab uU) hf fun c' h' tk hx S3 dX Uy Oj S4 Ol=> ?_)
  have BG:Heap.ExtBut P s.heap h':=fun b o n e=>hx b o n (k₁ b o e)
  obtain ⟨P',_,_,⟨oc,vs,ec,S5,dc,_⟩,_⟩:=Ol
  obtain ⟨c₂,G5,Iy,mU,mS,Iz,DN,mY⟩:=Oj
  cases mS
  have CI:i5 h' (.ref c') q:=⟨c',G5,Iy,mU,rfl,Iz,by obtain rfl:=oi ec Iz;exact S5,DN,mY⟩
  have S6: ∀ b o,eW b o->s.heap.get? b=some o->h'.get? b=some o:=fun b o i e=>BG b o (fun z=>by subst z;obtain rfl:=oi hP e;exact absurd (show ig Value.none=true from i.cls) (by decide)) e
  refine rg (s:=s) S hT hb h BG (Nat.le_trans Iw (Nat.le_trans S3 (Nat.le_of_lt dX))) ⟨_,S4.2, ?_,fun pos' cv e=> ?_⟩ CI
  .rw [show (ps++ #[rawInt pos.line,rawInt pos.col,Value.ref c']).toList=ps.toList++[rawInt pos.line,rawInt pos.col, .ref c'] by simp]
   exact TriplesOk_snoc _ _ _ _ ht
  .rw [show (ps++ #[rawInt pos.line,rawInt pos.col,Value.ref c']).toList=ps.toList++[rawInt pos.line,rawInt pos.col, .ref c'] by simp] at e
   rcases tu ht e with z | z
   .obtain ⟨c,o,vs,t,e1,e2,e3,e4,e5⟩:=hk pos' cv z
    exact ⟨c,o,vs,t,e1,S6 c o (.code o vs e3 e4) e2,e3,e4,e5⟩
   .subst z;exact CI
end
omit ζ in
theorem uV {F:Fm} {c:Addr} (h:c∉F.aS):F.q9 c=F:=by
 have:F.aS.filter (· != c)=F.aS:=List.filter_eq_self.mpr fun b hb=>by simpa using fun q:b=c=>h (by rw [<- q];exact hb)
 unfold Fm.q9;rw [this]
noncomputable def oa:V->Bool
 | .none=>true
 | .bool _=>true
 | .int _=>true
 | .str _=>true
 | .ref _=>true
 | _=>false
theorem BW {h h':Heap}: ∀ {x:V} {v:Value},oa x=true->VR h x v->VR h' x v:=fun {x} {v} f r=>by
 cases x with
 | none=>exact VR.bJ.mpr (VR.bJ.mp r)
 | bool b=>exact VR.cz.mpr (VR.cz.mp r)
 | int i=>exact VR.aZ.mpr (VR.aZ.mp r)
 | str y=>exact VR.da.mpr (VR.da.mp r)
 | ref a=>exact VR.ay.mpr (VR.ay.mp r)
 | _=>exact Bool.noConfusion f
theorem zP {h h':Heap}: ∀ {xs:List V} {vs:List Value},xs.all oa=true->bh h xs vs->bh h' xs vs:=by
 intro L9
 induction L9 with
 | nil=>
  rintro _ _ r
  exact bh.bL.mpr (bh.bL.mp r)
 | cons x xs ih=>
  rintro _ f r
  obtain ⟨v,r',rfl,rv,rr⟩:=r.aG
  rw [List.all_cons,Bool.and_eq_true] at f
  exact .cons (BW f.1 rv) (ih f.2 rr)
inductive mC (B:Heap) (a:Addr) (c:Value) (as:List V):Prop
 | mk (o:Obj) (vs:Array Value) (v:Value) (e:B.get? a=some o) (hc:o.cls=c) (d:o.data= .fields vs) (h0:vs[0]? =some v) (h2:vs[2]? =some .none) (r:VR B (.tup as) v)
section
variable {g:G} {F:Fm} {m:Loc} {H:AH} {s:Shared} {X:PX} {Q:eI}
theorem St.IA {B:Heap} {k:g.B.StaysIn B} {m':Loc} {H':AH} {s':Shared} (S:St g F m H s) (S':St (g.more B k) F m' H' s'):St g F m' H' s':=by
 have up: ∀ b,B.get? b=none->g.B.get? b=none:=fun b e=>by
  cases q:g.B.get? b with
  | none=>rfl
  | some o=>exact nomatch ((k b o q).symm.trans e)
 exact ⟨fun b o e=>S'.base b o (k b o e),fun b o e=>⟨up b (S'.obj b o e).1,(S'.obj b o e).2⟩,⟨S'.loc.kind,S'.loc.val,S'.loc.cell,S'.loc.apart⟩,S'.eF,fun b hb=>⟨(S'.aS b hb).1,up b (S'.aS b hb).2.1,(S'.aS b hb).2.2⟩,funFrames_base S'.jJ fun b hb=>up b (S'.jJ.mem hb).1,S'.gJ,S'.frame,S'.lA,S'.gens,S'.os,S'.room,S'.eG,S'.dead,S'.tk⟩
theorem Fb {n:Str} {pos:Pos} {h₀:Heap} {H₀:AH} {w5:Fl} {f:Flow} (hx:F.env.kindOf n=some .local) (S:St g F m H s) (K:aF F h₀ H₀ s.heap H) (r:FR s.heap w5 f) (q:Q w5 (xF (bw m n .none) n) H):
  wpAny (model g.prog g.w) F.A (do bindName F.env n .none;unbindBehindTheSuite F.env n pos) (fun z0 aP=>bG g F FR Q h₀ H₀ f aP) (dA g F X h₀ H₀) s:=by
 refine wpAny_bind (wpAny_bindName (aU S.tk (jb (F:=F) (X:=fun z0 z0 z0 z0=>False) (a:= .none) (Q:=fun m' H'=>m'=bw m n .none/\H'=H) (.inl hx) ⟨rfl,rfl⟩ s .none S .eS) (fun z0 S7 z0 S8 S9 z0 Om IC cy=> ?_) fun z0 z0 yy=>yy.no))
 obtain ⟨rfl,rfl⟩:=cy
 refine zh hx (a:= .none) (if_pos rfl) Om (K.trans IC) fun Ta Oo Oq tup=>⟨w5,_,_, ?_,fun z0=>Oo,Oq,q⟩
 cases w5 with
 | ret x=>obtain ⟨v',rfl,rv⟩:=r;exact ⟨v',rfl,(rv.keep S IC).mono tup⟩
 | next=>exact r
 | brk=>exact r
 | cont=>exact r
theorem St.BX {a:Addr} {o:Obj} {vs:Array Value} {v:Value} {as:List V} {c:Value} (S:St g F m H s) (h3:H a=none) (h4:s.heap.get? a=some o) (h5:o.cls=c) (h7:o.data= .fields vs) (h8:vs[0]? =some v/\vs[2]? =some .none) (h9:VR s.heap (.tup as) v) (fl:as.all oa=true):
  ∃ B, ∃ k:g.B.StaysIn B,mC B a c as/\St (g.more B k) F m H s:=by
 have nm:a∉F.aS:=fun q=>by
  obtain ⟨_,_,o',e',w⟩:=S.aS a q
  obtain rfl:=oi h4 e'
  rcases w with ⟨_,_,w⟩ | ⟨_,w⟩ <;> exact Data.noConfusion (h7.symm.trans w)
 obtain ⟨t0,ws,ep,ev,et,rt⟩:=VR.g4.mp h9
 obtain ⟨tH,tm,_⟩:=S.gd (.tup _ _ rt.2) et
 have bf:=S.pN (c:=a) (fun o' es ep e d=>Data.noConfusion ((oi h4 e▸h7).symm.trans d)) h3
 rw [uV nm] at bf
 have c6:=bf.pN (c:=t0) (fun o' es ep e d=>by obtain rfl:=oi et e;cases d) tH
 rw [uV tm] at c6
 exact ⟨df (df g.B s.heap a) s.heap t0,fun b ob e=>f6 (B:=df g.B s.heap a) bf.base b ob (f6 S.base b ob e),⟨o,vs,v,f6 (B:=df g.B s.heap a) bf.base _ _ (zM h4),h5,h7,h8.1,h8.2,VR.g4.mpr ⟨t0,ws,ep,ev,zM et,zP fl rt.1,rt.2⟩⟩,c6⟩
theorem mD {c spec:Value} {as:List V} {t:Expr} {n:Str} {zg:Stmt} {body:List Stmt} {pos:Pos} {rest:List ExceptHandler} (hx:F.env.kindOf n=some .local) (HX:Spec g F t m H spec) (hc:gk g spec c true) (fl:as.all oa=true)
  (h: ∀ B (k:g.B.StaysIn B) a,mC B a c as->WS (g.more B k) (F.mark (.ref a)) (execs (zg::body) F.env) (bw m n (.ref a)) H (fun f m' H'=>Q f (xF (bw m' n .none) n) H') (fun z0 z0 z0 z0=>False)):WH g F (.ExceptHandler (some t) (some n) (zg::body) pos::rest) c as m H Q X:=fun h₀ H₀ s e S K B0 f=>by
 refine zf HX hc S K B0 f fun av ah bq qP=>codeAny_handlers_suite_as (iN (F:=F.mark e) ah.mark bq.mark B0 qP fun a9 aB bX Bz=>iI fun Rq Re Tc Uz=> ?_)
 obtain ⟨a,o,vs,v,T,oT,ts,x,rfl,h2,h3,h4,h5,h6,h7,h8,h9,_⟩:=Bz
 obtain ⟨B,k,A,gh⟩:=aB.BX h3 h4 h5 h7 h8 h9 fl
 refine aU (g:=g.more B k) gh.tk (jb (F:=F.mark (.ref a)) (X:=fun z0 z0 z0 z0=>False) (Q:=fun m' H'=>m'=bw m n (.ref a)/\H'=H) (.inl hx) ⟨rfl,rfl⟩ a9 (.ref a) gh (.ip a)) (fun z0 Td z0 Te Tf z0 r9 Ot cy=> ?_) fun z0 z0 yy=>yy.no
 obtain ⟨rfl,rfl⟩:=cy
 exact Tc _ _ ((h _ k a A).run r9 (fun fl M0 w5 Tg Th Ou D8 Ov q=>(Fb hx (aB.IA D8).unmark ((bX.trans Ot).trans Ov).unmark Ou q)) fun z0 z0 yy=>yy.no)
theorem mC.hk {B:Heap} {k:g.B.StaysIn B} {a:Addr} {c:Value} {as:List V} (x:mC B a c as):Hk (g.more B k) (F.mark (.ref a)):=
 x.casesOn fun o vs z0 e z0 d z0 h2 z0=> .inr ⟨a,o,vs,rfl,e,d,h2⟩
theorem BZ {a:Addr} {T:String} {as:List V} {Q:PV} (x:mC g.B a (.type T) as) (hn:(Value.type T == Value.type "builtin_function_or_method")=false) (h:Q (.cst (.type T)) m H):WC g F (.type "type") [.ref a] m H Q X:=uG fun s v S r=>by
 rw [VR.ay] at r;subst r
 obtain ⟨o,vs,v,e,c,_⟩:=x
 exact call_type_of ⟨o,S.base _ _ e,c⟩ hn (bG.now S rfl rfl rfl (.dT _) h)
theorem B4 {a:Addr} {cls:String} {as:List V} {Q:PV} (FX:ExcAttrFacts cls) (x:mC g.B a (.type cls) as) (h:Q (.tup as) m H):W1 g F VR (.ref a) (fun v=>getAttr v "args" true) m H Q X:=fun s v S r=>by
 rw [VR.ay] at r;subst r
 obtain ⟨o,vs,v,e,hc,hd,h0,_,rv⟩:=x
 have rv:=rv.mono fun b ob z0 e=>S.base b ob e
 have e:=S.base _ _ e
 obtain ⟨t0,ws,ep,rfl,e',r'⟩:=VR.g4.mp rv
 obtain ⟨hh,gg,d,t,os⟩:=s
 exact args_attr FX e hc hd h0 (bG.now S rfl rfl rfl rv h)
end
section
variable {g:G} {F:Fm} {m:Loc} {H:AH} {s:Shared} {Q:PV} {X:PX}
theorem rh {ar:Arguments} {body:Expr} {sc:Scope} {pos:Pos} {cc P:Addr} {q:Str} (hc:F.env.code= .ref cc) (hq:F.env.qual++"<lambda>"=q) (C:CodeHd g.B cc P) (hT:H P=some (.tab q)) (hb:uT g)
  (ye: ∀ n,(n,NameKind.free)∈sc.names-> ∃ c,F.env.cells.lookup n=some c) (h: ∀ f cl,H f=none->mB F.env sc cl->Q (.ref f) m (put H f (.lam ar body sc cl q))) (Ow:defaultsOf ar F.env=([],[]):=by rfl):
  WE g F (eval (.Lambda ar body sc pos) F.env) m H Q X:=fun s S=>by
 obtain ⟨cl,lE,h1,h2,h3⟩:=iE ye
 refine kla_eval Ow ?_
 rw [hq]
 refine E9 S hc C hT hb lE fun f h' t hf ch hp hl=> ?_
 obtain ⟨ah,bq⟩:=S.set (t:=t) ch hT hp
 rw [zO hT] at ah bq
 have n:s.heap.get? f=none:=Heap.get?_none_of_le hf
 have nB:g.B.get? f=none:=(S.lt hf).2.1
 have nm:f∉F.aS:=fun z=>by obtain ⟨_,_,o,e,_⟩:=S.aS f z;exact on n e
 have nf:f∉F.fr:=fun z=>by obtain ⟨_,o,_,_,e,_⟩:=S.gJ f z;exact on n e
 have nc: ∀ y,F.env.cells.lookup y≠some f:=fun y z=>by obtain ⟨_,v,o,e,_⟩:=S.loc.cell y f z;exact on n e
 refine ⟨.ref f,m,_, .ip _,fun ht=>((ah ht).CF bq n nB (S.bZ n) nm nf nc hl).1, ?_,h f cl (S.bZ n) ⟨h1,h2,h3⟩⟩
 exact ⟨bq.alive,bq.dct,fun b o e nn gD=>(bq.same b o e nn gD).imp (fun z=>by rw [cU _ _ fun q=>by subst q;exact on n e];exact z) id⟩
structure IE (F' F:Fm) (sc:Scope) (cl:List (Str×Addr)):Prop where
 scope:F'.env.scope=sc
 cells:F'.env.cells=cl
 handled:F'.A.handled=F.A.handled
 lvl:F'.lvl=F.lvl+1
 stack:F'.stack=F'.env::F.stack
structure Dj (g:G) (sc:Scope) (cl:List (Str×Addr)) (mc:Loc):Prop where
 cell: ∀ x c,cl.lookup x=some c-> ∃ v,g.B.IsCell c v
 apart: ∀ x y c,cl.lookup x=some c->cl.lookup y=some c->x=y
 val: ∀ x v,mc x=some v->sc.names.lookup x=some .free/\(x == ("__classdict__":Str))=false/\ ∃ c a,v= .ref a/\cl.lookup x=some c/\g.B.IsCell c (some (.ref a))
noncomputable def Fm.lam (F:Fm) (q:Str) (sc:Scope) (cl:List (Str×Addr)) (cv:Value) (f L:Addr):Fm where
 A:=F.A.deeper (newEnv sc L mainGlobals cl (q++".<locals>.") (some f) cv none builtinsNs)
 env:=newEnv sc L mainGlobals cl (q++".<locals>.") (some f) cv none builtinsNs
 stack:=newEnv sc L mainGlobals cl (q++".<locals>.") (some f) cv none builtinsNs::F.stack
 aS:=[L]
 lvl:=F.lvl+1
theorem St.zQ {q:Str} {sc:Scope} {cl:List (Str×Addr)} {cv:Value} {f:Addr} {mc:Loc} {h':Heap} {t:Nat} {mr:Str->Option Value} (S:St g F m H s) (hl:F.lvl<100) (hk:sc.kind= .function) (hC:Dj g sc cl mc)
  (hn:h'.Ns s.heap.objs.size mr) (kp: ∀ b o,s.heap.get? b=some o->h'.get? b=some o) (ht:1<=t):St g (F.lam q sc cl cv f s.heap.objs.size) mc H { s with heap:=h',toks:=t }:=by
 have mn:dY s.heap h':=⟨fun z0 z0 z0 e=>kp _ _ e, .ext kp⟩
 obtain ⟨oL,AY,AZ,eL,dL,_⟩:=id hn
 obtain ⟨n1,n2,n3⟩:=S.lt (Nat.le_refl s.heap.objs.size)
 have cell: ∀ c v,g.B.IsCell c v->H c=none/\h'.IsCell c v:=fun c v z=>by
  obtain ⟨o,y1,y2⟩:=z
  refine ⟨?_,o,kp _ _ (S.base _ _ y1),y2⟩
  cases q:H c with
  | none=>rfl
  | some o'=>have:=(S.obj c o' q).1;exact nomatch (y1.symm.trans this)
 refine ⟨fun b o e=>kp b o (S.base b o e),fun b o e=> ?_,⟨hk,⟨mr,hn,fun y a ha=> ?_⟩,fun y c hy=>(hC.cell y c hy).elim fun v z=>⟨(cell c v z).1,v,(cell c v z).2⟩,fun y z c hy hz=>hC.apart y z c hy hz⟩,List.mem_cons_self,fun b hb=> ?_, ?_,fun b hb=> ?_,rfl,Around.frames_deeper S.lA,S.gens,S.os, ?_,⟨rfl,rfl⟩,(S.lB fun b o e=>⟨o,kp b o e⟩),ht⟩
 .obtain ⟨b1,b2⟩:=S.obj b o e
  obtain ⟨r,e',_⟩:=b2.get
  exact ⟨b1,b2.mono mn ((kp b r e').trans e'.symm)⟩
 .obtain ⟨z1,z2,c,a',rfl,z3,z4⟩:=hC.val y a ha
  exact .gb _ (.ip a') (.inr ⟨z1,z2⟩) c z3 (cell c _ z4).2
 .have:b=s.heap.objs.size:=List.mem_singleton.mp hb
  subst this
  exact ⟨n1,n2,oL,eL, .inl ⟨_,_,dL⟩⟩
 .exact ⟨by show sc.kind≠ .module;rw [hk];decide,⟨_,oL,rfl,n2,eL,fun vs q=>by exact Data.noConfusion (dL.symm.trans q)⟩,bc S.jJ fun b gD o e=>⟨o,kp b o e,id⟩⟩
 .have gD:b∈s.heap.objs.size::F.fr:=hb
  rcases List.mem_cons.mp gD with rfl | gD
  .exact ⟨n1,oL,AY,AZ,eL,dL⟩
  .obtain ⟨h1,o,es,ep,h3,h4⟩:=S.gJ b gD
   exact ⟨h1,o,es,ep,kp b o h3,h4⟩
 .obtain ⟨r1,r2,r3,r4⟩:=S.room
  refine ⟨?_, ?_,hl,r4⟩
  .show F.A.depth+1<=310+3*(F.lvl+1);exact Pw r1
  .show F.A.units+3<=100+20*(F.lvl+1);exact Px r2
theorem IG {f:Addr} {ar:Arguments} {body:Expr} {sc:Scope} {cl:List (Str×Addr)} {q:Str} {mc:Loc} (hf:H f=some (.lam ar body sc cl q)) (iz: ∀ pm cv ct,bindArgs (kla_fn "<lambda>" q ar body sc cl pm cv ct) ⟨[],[]⟩=pure [])
  (hk:sc.kind= .function) (vu:sc.isCoroutine=false) (lF:sc.isGenerator=false) (IH: ∀ x∈sc.names,x.2≠ .cell) (hl:F.lvl<100) (hC:Dj g sc cl mc)
  (h: ∀ F',IE F' F sc cl->WE g F' (eval body F'.env) mc H (fun a z0 H'=>Q a m H') (vp X m)):aH g F (.ref f) [] m H Q X:=fun s vs S hv=>by
 rw [bh.bL] at hv;subst hv
 obtain ⟨_,cv,ct,pm,e,Ti⟩:=S.obj f _ hf
 refine kla_callFunE (by rw [show recursionLimit=1000 from rfl];have:=S.room;exact Py this) e rfl vu lF rfl Ti.MH ?_
 rw [iz]
 refine wpAny_pure (wpAny_newFunctionEnv IH (fun x hx=>by cases hx) (fun h' hn hs=> ?_) hk)
 have kp: ∀ b o,s.heap.get? b=some o->h'.get? b=some o:=fun b o e=>hs.extBut b o (Nat.ne_of_lt (Heap.lt_size e)) (Heap.get?_push_of_some _ e)
 have ah:=S.zQ (q:=q) (cv:=cv) (f:=f) (t:=s.toks) hl hk hC hn kp S.tk
 refine ⟨(g.nG.keeps S.base).keeps kp,kla_codeExpr ?_⟩
 have qd: ∀ b∈(F.lam q sc cl cv f s.heap.objs.size).aS,s.heap.objs.size<=b:=fun b hb=>Nat.le_of_eq (List.mem_singleton.mp hb).symm
 refine aU ah.tk (h (F.lam q sc cl cv f s.heap.objs.size) ⟨rfl,rfl,rfl,rfl,rfl⟩ _ ah) (fun v aP a eJ dk dZ bf dG dU=> ?_) fun e aP yy=>yy.elim fun c as eJ dk xV bf dG dU=> ?_
 .obtain ⟨c6,eZ⟩:=S.back kp rfl rfl qd bf dG
  exact ⟨a,m,dk,dZ,fun z0=>c6,eZ,dU⟩
 .have B0:g.B.StaysIn h':=ah.base
  show wpAny (model g.prog g.w) (F.lam q sc cl cv f s.heap.objs.size).A (leaving (F.lam q sc cl cv f s.heap.objs.size).env e) _ _ aP
  refine wpAny_bind (note bf dG B0 xV ⟨_,rfl⟩ fun eM c6 eZ DU=>iN c6 eZ B0 DU fun Ha gh lG DV=> ?_)
  obtain ⟨r9,xW⟩:=S.back kp rfl rfl qd gh lG
  exact ⟨c,as,m,dk,DV.Jr.since (fun b o e=>⟨o,kp b o e⟩),r9,xW,dU⟩
theorem B5 {fn:Expr} {pos:Pos} (h:WE g F (eval fn F.env) m H (fun a m H=> ∃ f ar body sc cl q,a= .ref f/\H f=some (.lam ar body sc cl q)/\WC g F (.ref f) [] m H Q X) X)
  (he:eval (.Call fn [] [] pos) F.env=(eval fn F.env >>=fun f=>callWith pos f [] (backTo pos (starEach [] F.env)) []):=by rfl):WE g F (eval (.Call fn [] [] pos) F.env) m H Q X:=fun s S=>by
 rw [he]
 refine wpAny_bind (h.run S (fun v av a m₁ aL aA ah k₁ hh=> ?_) fun z0 z0 x=>x)
 obtain ⟨f,ar,body,sc,cl,q,rfl,hf,hc⟩:=hh
 rw [VR.ay] at aA;subst aA
 obtain ⟨_,cv,ct,pm,e,_⟩:=ah.obj f _ hf
 refine callWith_of (P:=fun h=>h.get? f=some { cls:= .type "function",data:= .func (kla_fn "<lambda>" q ar body sc cl pm cv ct) }) rfl (fun h e=>⟨.frame, .inl rfl,(Looks.ld (part:=none) e).andThen .now⟩) (dM rfl ?_)
 refine wpAny_items_nil ⟨e, ?_⟩
 exact wpAny_mono (hc av [] ah .gC) (fun z0 z0 x=>x.after k₁) fun z0 z0 x=>x.after k₁
end
end
structure pX (D b:Nat) (d:PyData):Prop where
 sh:d.showable=true
 nd:d.hasDict=false
 ls:d.leavesShort 13=true
 dp:d.depth<=D
 bk:d.bulk<=b
theorem pX.up {D b D' b':Nat} {d:PyData} (x:pX D b d) (h:D<=D') (h':b<=b'):pX D' b' d:=⟨x.sh,x.nd,x.ls,Nat.le_trans x.dp h,Nat.le_trans x.bk h'⟩
theorem pX.fits {D b:Nat} {d:PyData} (x:pX D b d) (h:b<=1000000):d.shown.length<=sizeLine:=by
 have:=PyData.shown_le_bulk 13 (by decide) d x.ls
 have:=x.bk
 rw [sizeLine_eq];omega
structure kA (D b:Nat) (ds:List PyData):Prop where
 sh:PyData.showableAll ds=true
 nd:PyData.hasDictAll ds=false
 ls:PyData.leavesShortAll 13 ds=true
 dp:PyData.depthAll ds<=D
 bk:PyData.bulkAll ds<=ds.length*(b+1)
theorem kA.nil (D b:Nat):kA D b []:=⟨by unfold PyData.showableAll;rfl,by unfold PyData.hasDictAll;rfl,by unfold PyData.leavesShortAll;rfl,by unfold PyData.depthAll;exact Nat.zero_le _,by unfold PyData.bulkAll;exact Nat.zero_le _⟩
theorem kA.cons {D b:Nat} {d:PyData} {ds:List PyData} (x:pX D b d) (y:kA D b ds):kA D b (d::ds):=
 ⟨by unfold PyData.showableAll;rw [x.sh,y.sh];rfl,by unfold PyData.hasDictAll;rw [x.nd,y.nd];rfl,by unfold PyData.leavesShortAll;rw [x.ls,y.ls];rfl,by unfold PyData.depthAll;exact Nat.max_le.mpr ⟨x.dp,y.dp⟩,
  by unfold PyData.bulkAll;rw [List.length_cons,Nat.succ_mul];have:=x.bk;have:=y.bk;exact Lj (by assumption) this⟩
theorem kA.seq {D b n:Nat} {ds:List PyData} (y:kA D b ds) (h:ds.length<=n):pX (D+1) (n*(b+1)) (.list ds)/\pX (D+1) (n*(b+1)) (.tuple ds):=by
 have hb:PyData.bulkAll ds<=n*(b+1):=Nat.le_trans y.bk (Nat.mul_le_mul_right _ h)
 have hd:=Nat.succ_le_succ y.dp
 constructor
 .exact ⟨by unfold PyData.showable;exact y.sh,by unfold PyData.hasDict;exact y.nd,by unfold PyData.leavesShort;exact y.ls,by unfold PyData.depth;exact hd,by unfold PyData.bulk;exact hb⟩
 .exact ⟨by unfold PyData.showable;exact y.sh,by unfold PyData.hasDict;exact y.nd,by unfold PyData.leavesShort;exact y.ls,by unfold PyData.depth;exact hd,by unfold PyData.bulk;exact hb⟩
theorem log2_small {n:Nat} (h:n<10 ^ 12):n.log2<1920:=by
 by_cases q:n=0
 .subst q;decide
 .exact (Nat.log2_lt q).mpr (Nat.lt_trans h (Nat.lt_of_le_of_lt (Nat.le_of_ble_eq_true (by rfl:Nat.ble (10 ^ 12) (2 ^ 50)=true)) (Nat.pow_lt_pow_right (by decide) (by decide))))
theorem gT {n:Int} (h:n.natAbs<10 ^ 12):pX 0 0 (.int n):=
 ⟨by unfold PyData.showable;exact decide_eq_true (log2_small h),by unfold PyData.hasDict;rfl,by unfold PyData.leavesShort;exact decide_eq_true (PyData.shown_int_le h),by unfold PyData.depth;exact Nat.le_refl _,by unfold PyData.bulk;exact Nat.le_refl _⟩
section
variable [ζ:bW]
noncomputable def Rd (g:G) (H:AH) (x:V) (d:PyData):Prop:= ∀ F m s v,St g F m H s->VR s.heap x v-> ∃ as,Reads s.heap v d as
noncomputable def B6 (g:G) (H:AH) (xs:List V) (ds:List PyData):Prop:= ∀ F m s vs,St g F m H s->bh s.heap xs vs-> ∃ as,ReadsAll s.heap vs ds as
section
variable {g:G} {H:AH} {F:Fm} {m:Loc} {Q:PV} {X:PX}
theorem B6.nil:B6 g H [] []:=fun F m s vs S r=>by rw [bh.bL] at r;subst r;exact ⟨[], .nil⟩
theorem B6.cons {x:V} {xs:List V} {d:PyData} {ds:List PyData} (a:Rd g H x d) (b:B6 g H xs ds):B6 g H (x::xs) (d::ds):=fun F m s vs S r=>by
 obtain ⟨v,r',rfl,h1,h2⟩:=r.aG
 obtain ⟨as,h1⟩:=a F m s v S h1
 obtain ⟨bs,h2⟩:=b F m s r' S h2
 exact ⟨as++bs, .cons h1 h2⟩
theorem Rd.none:Rd g H .none .none:=fun F m s v S r=>by rw [VR.bJ] at r;subst r;exact ⟨_, .none⟩
theorem Rd.bool (b:Bool):Rd g H (.bool b) (.bool b):=fun F m s v S r=>by rw [VR.cz] at r;subst r;exact ⟨_, .bool b⟩
theorem Rd.int (n:Int):Rd g H (.int n) (.int n):=fun F m s v S r=>by rw [VR.aZ] at r;obtain ⟨t,rfl⟩:=r;exact ⟨_, .int n t⟩
theorem Rd.cD (n:Int):Rd g H (.cD n) (.int n):=fun F m s v S r=>by rw [VR.dE] at r;obtain ⟨t,rfl⟩:=r;exact ⟨_, .int n _⟩
theorem Rd.str (x:Str):Rd g H (.str x) (.str x):=fun F m s v S r=>by rw [VR.da] at r;obtain ⟨t,rfl⟩:=r;exact ⟨_, .str x t⟩
theorem Rd.cS (x:Str):Rd g H (.cS x) (.str x):=fun F m s v S r=>by rw [VR.dF] at r;obtain ⟨t,rfl⟩:=r;exact ⟨_, .str x _⟩
theorem Rd.tup {xs:List V} {ds:List PyData} (h:B6 g H xs ds):Rd g H (.tup xs) (.tuple ds):=fun F m s v S r=>by
 obtain ⟨a,vs,ep,rfl,e,r⟩:=VR.cM r
 obtain ⟨as,h⟩:=h F m s vs S r
 exact ⟨as, .tuple e rfl rfl h⟩
theorem Rd.list {l:Addr} {xs:List V} {ds:List PyData} (hl:H l=some (.list xs)) (h:B6 g H xs ds):Rd g H (.ref l) (.list ds):=fun F m s v S r=>by
 rw [VR.ay] at r;subst r
 obtain ⟨vs,ep,e,r⟩:=S.listAt hl
 obtain ⟨as,h⟩:=h F m s vs S r
 exact ⟨_, .list e rfl rfl h⟩
noncomputable def gG (g:G) (H:AH) (D b:Nat) (x y:V):Prop:= ∃ d,Rd g H x d/\Rd g H y d/\pX D b d
noncomputable def j9 (g:G) (H:AH) (D b:Nat) (xs ys:List V):Prop:= ∃ ds,B6 g H xs ds/\B6 g H ys ds/\kA D b ds/\ds.length=xs.length
theorem gG.up {D b D' b':Nat} {x y:V} (t:gG g H D b x y) (h:D<=D') (h':b<=b'):gG g H D' b' x y:=t.elim fun d z=>⟨d,z.1,z.2.1,z.2.2.up h h'⟩
theorem j9.nil {D b:Nat}:j9 g H D b [] []:=⟨[], .nil, .nil, .nil ..,rfl⟩
theorem j9.cons {D b:Nat} {x y:V} {xs ys:List V} (t:gG g H D b x y) (u:j9 g H D b xs ys):j9 g H D b (x::xs) (y::ys):=by
 obtain ⟨d,a1,a2,a3⟩:=t
 obtain ⟨ds,b1,b2,b3,b4⟩:=u
 exact ⟨d::ds, .cons a1 b1, .cons a2 b2, .cons a3 b3,by rw [List.length_cons,List.length_cons,b4]⟩
theorem gG.list {D b n:Nat} {l l':Addr} {xs ys:List V} (hl:H l=some (.list xs)) (F6:H l'=some (.list ys)) (t:j9 g H D b xs ys) (hn:xs.length<=n):gG g H (D+1) (n*(b+1)) (.ref l) (.ref l'):=by
 obtain ⟨ds,b1,b2,b3,b4⟩:=t
 exact ⟨_, .list hl b1, .list F6 b2,(b3.seq (by rw [b4];exact hn)).1⟩
theorem St.units {s:Shared} (S:St g F m H s) {k:Nat} (h:k<=100):F.A.units+k<cLine:=by
 have:=S.small.1
 rw [show cLine=9900 from rfl];exact Li this h
theorem zR {e:Expr} {p pos:Pos} {D b:Nat} (hD:D<=90) (hb:b<=1000000) (h:WE g F (eval e F.env) m H (fun a m H=> ∃ l d,a= .ref l/\Rd g H (.ref l) d/\pX D b d/\Q (.str d.shown) m H) X):
  WE g F (eval (.JoinedStr [.FormattedValue e (-1) none p] pos) F.env) m H Q X:=fun s S=>by
 refine wpAny_JoinedStr_one (wpAny_FormattedValue_plain (h.run S (fun v av a m₁ aL aA ah k₁ hh=> ?_) fun z0 z0 x=>x))
 obtain ⟨l,d,rfl,hr,hs,hq⟩:=hh
 obtain ⟨as,rr⟩:=hr F m₁ av v ah aA
 rw [VR.ay] at aA;subst aA
 refine formatField_of_reads rr hs.sh (PyData.noDict_hsm hs.nd) ah.room.2.2.2 (ah.units (by have:=hs.dp;exact Lh this hD)) (fun z0 z0 e=>e) (fun h' u tk hk=> ?_) (hs.fits hb)
 obtain ⟨aB,k₂⟩:=ah.ext (t:=tk) hk
 exact ⟨_,m₁,aL, .DL _ u,aB,k₁.trans k₂,hq⟩
theorem tv {s:Shared} {v:Value} {d:PyData} {as:List Addr} {D b:Nat} {Q:PE} {E:PE} (S:St g F m H s) (r:Reads s.heap v d as) (hs:pX D b d) (hD:D<=90) (hb:b<=1000000)
  (h: ∀ u h' t,(∀ b o,s.heap.get? b=some o->h'.get? b=some o)->Q (.str d.shown u) { s with heap:=h',toks:=t }):wpAny (model g.prog g.w) F.A (pyReprObj v) Q E s:=by
 have z:=hs.fits hb
 have HE:=hs.sh
 cases id r with
 | none=>simp only [PyData.shown] at h;exact pyReprObj_none (h _ _ _ fun z0 z0 e=>e)
 | bool b=>simp only [PyData.shown] at h;exact pyReprObj_bool (h _ _ _ fun z0 z0 e=>e)
 | int i t=>simp only [PyData.shown] at h;unfold PyData.showable at HE;exact pyReprObj_int (of_decide_eq_true HE) (h _ _ _ fun z0 z0 e=>e)
 | str x t=>simp only [PyData.shown] at h z;exact pyReprObj_str (h _ _ _ fun z0 z0 e=>e) z
 | list _ _ _ _=>exact pyReprObj_of_reads r hs.sh (PyData.noDict_hsm hs.nd) S.room.2.2.2 (S.units (by have:=hs.dp;exact Gy this hD)) (fun z0 z0 e=>e) (fun h' u tk hk=>h u h' tk hk) z
 | tuple _ _ _ _=>exact pyReprObj_of_reads r hs.sh (PyData.noDict_hsm hs.nd) S.room.2.2.2 (S.units (by have:=hs.dp;exact Gy this hD)) (fun z0 z0 e=>e) (fun h' u tk hk=>h u h' tk hk) z
 | dict _ _ _ _ _=>have:=hs.nd;unfold PyData.hasDict at this;cases this
noncomputable abbrev wordsOf (c1:Str) (d:PyData) (c2:Str):Str:=Str.empty++c1++d.shown++c2
theorem uW {c1 c2:Str} {e:Expr} {k1 k2:Nat} {p1 p2 p3 pos:Pos} (Tj:c1.length<=100) (Tn:c2.length<=100)
  (h:WE g F (eval e F.env) m H (fun a m H=> ∃ d,Rd g H a d/\pX 2 100 d/\Q (.str (wordsOf c1 d c2)) m H) X):
  WE g F (eval (.JoinedStr [.Constant (.str c1) k1 p1, .FormattedValue e 114 none p2, .Constant (.str c2) k2 p3] pos) F.env) m H Q X:=fun s S=>by
 have e0:(Str.empty++c1).length<=100:=by rw [strLen_append];exact Nat.le_trans (Nat.le_of_eq (Nat.zero_add _)) Tj
 refine wpAny_JoinedStr ?_
 show wpAny _ _ (eval (.Constant (.str c1) k1 p1) F.env) _ _ s
 refine wpAny_mkText ⟨c1,_,rfl,Nat.le_trans e0 (by rw [sizeLine_eq];decide), ?_⟩
 obtain ⟨S',k'⟩:=S.ext (t:=s.toks+1) (h':=s.heap) (fun z0 z0 e=>e)
 have S':=S' (Nat.le_succ_of_le S.tk)
 show wpAny _ _ (eval (.FormattedValue e 114 none p2) F.env) _ _ _
 refine wpAny_FormattedValue_repr (h.run S' (fun v av a m₁ aL aA ah k₁ hh=> ?_) fun z0 z0 x=>x.after k')
 obtain ⟨d,hr,hs,hq⟩:=hh
 obtain ⟨as,rr⟩:=hr F m₁ av v ah aA
 have zd:d.shown.length<=2000:=by have:=PyData.shown_le_bulk 13 (by decide) d hs.ls;have:=hs.bk;omega
 have z2:(Str.empty++c1++d.shown).length<=2100:=by rw [strLen_append];exact Nat.le_trans (Nat.add_le_add e0 zd) (by decide)
 have z3:(wordsOf c1 d c2).length<=sizeLine:=by unfold wordsOf;rw [strLen_append,sizeLine_eq];exact Lg z2 Tn
 refine tv ah rr hs (by decide) (by decide) fun u h' t hk=>formatField_str (fun u' tk=>⟨d.shown,u',rfl,Nat.le_trans z2 (by rw [sizeLine_eq];decide), ?_⟩) (hs.fits (by decide))
 show wpAny _ _ (eval (.Constant (.str c2) k2 p3) F.env) _ _ _
 refine wpAny_mkText ⟨c2,_,rfl,z3,z3, ?_⟩
 obtain ⟨aB,k₂⟩:=ah.ext (t:=tk+1+1) hk
 exact ⟨_,m₁,aL, .DL _ _,aB,(k'.trans k₁).trans k₂,hq⟩
end
end
theorem Fe (i:Int): ∃ d,(∀ (ζ:bW) g H, @Rd ζ g H (cd i) d)/\pX 2 4 d:=by
 unfold cd
 refine bK (P:=fun p=> ∃ d,(∀ (ζ:bW) g H, @Rd ζ g H p.1 d)/\pX 2 4 d) (gZ ?_ ?_ ?_ ?_ ?_ ?_ ?_ ?_ ?_ ?_) i.toNat
 .exact ⟨_,fun ζ g H=>Rd.cD 0,(gT (n:=0) (by decide)).up (by decide) (by decide)⟩
 .exact ⟨_,fun ζ g H=>Rd.cS "0",⟨rfl,rfl,rfl,by decide,by decide⟩⟩
 .exact ⟨_,fun ζ g H=>Rd.cD (-1),(gT (n:= -1) (by decide)).up (by decide) (by decide)⟩
 .exact ⟨_,fun ζ g H=>Rd.cD (-2),(gT (n:= -2) (by decide)).up (by decide) (by decide)⟩
 .exact ⟨_,fun ζ g H=>Rd.tup (.cons (Rd.int 0) .nil),((kA.nil 0 0).cons (gT (n:=0) (by decide))).seq (n:=1) (by decide) |>.2.up (by decide) (by decide)⟩
 .exact ⟨_,fun ζ g H=>Rd.none,⟨rfl,rfl,rfl,by decide,by decide⟩⟩
 .exact ⟨_,fun ζ g H=>Rd.cS "",⟨rfl,rfl,rfl,by decide,by decide⟩⟩
 .exact ⟨_,fun ζ g H=>Rd.tup .nil,((kA.nil 0 0).seq (n:=0) (by decide)).2.up (by decide) (by decide)⟩
 .exact ⟨_,fun ζ g H=>Rd.cD 1,(gT (n:=1) (by decide)).up (by decide) (by decide)⟩
 .exact ⟨_,fun ζ g H=>Rd.cS "a",⟨rfl,rfl,rfl,by decide,by decide⟩⟩
noncomputable def uX (i:Int):PyData:=Classical.choose (Fe i)
theorem pO {ζ:bW} {g:G} {H:AH} (i:Int):Rd g H (cd i) (uX i):=(Classical.choose_spec (Fe i)).1 ζ g H
theorem tx (i:Int):pX 2 4 (uX i):=(Classical.choose_spec (Fe i)).2
section
variable [ζ:bW]
noncomputable def PS.gU (p:PS) (k:Int):Int:=((p.rows.find? fun r=>cl r.k=cl k).map (·.np)).getD 0
noncomputable def PS.nh (p:PS) (k:Int):List Int:=((p.rows.find? fun r=>cl r.k=cl k).map (·.su)).getD []
noncomputable def PS.dec (p:PS) (q:Int):PS:=if p.gU q-1=0 then { p.iH q (p.gU q-1) with rd:=p.rd.map (· ++[q]) } else p.iH q (p.gU q-1)
noncomputable def PS.gV (p:PS) (n:Int):PS:={ (p.nh n).foldl PS.dec (p.iH n (-2)) with nf:=p.nf+1 }
inductive JG (p:PS) (n:Int):Str->Prop where
 | no:cl n∉p.names->JG p n (wordsOf "node " (uX n) " was not added using add()")
 | early:cl n∈p.names->0<=p.gU n->JG p n (wordsOf "node " (uX n) " was not passed out (still not ready)")
 | Ff:cl n∈p.names->p.gU n= -2->JG p n (wordsOf "node " (uX n) " was already marked done")
noncomputable def PS.rl:PS->List Int->PS->Option Str->Prop
 | p,[],p',w=>p'=p/\w=none
 | p,n::ns,p',w=>(∃ e,JG p n e/\p'=p/\w=some e)\/((cl n∈p.names/\p.gU n= -1/\ ∀ q∈p.nh n,cl q∈p.names)/\(p.gV n).rl ns p' w)
theorem PS.uY (p:PS) {k k':Int} (h:cl k=cl k'):p.gU k=p.gU k':=by unfold PS.gU;rw [h]
theorem PS.B7 (p:PS) {k k':Int} (h:cl k=cl k'):p.nh k=p.nh k':=by unfold PS.nh;rw [h]
theorem zS {rows:List Row} {r:Row} (hr:r∈rows) (hk:(rows.map (cl ·.k)).Nodup):(rows.map Row.abs).find? (fun x=>cl x.k=cl r.k)=some r.abs:=by
 induction rows with
 | nil=>cases hr
 | cons y rows ih=>
  rw [List.map_cons,List.nodup_cons] at hk
  rw [List.map_cons,List.find?_cons]
  rcases List.mem_cons.mp hr with rfl | hr
  .simp [Row.abs]
  .have: ¬ cl (Row.abs y).k=cl r.k:=fun q=>hk.1 (by rw [show cl y.k=cl r.k from q];exact List.mem_map_of_mem (f:=fun r:Row=>cl r.k) hr)
   simp only [this,decide_false]
   exact ih hr hk.2
theorem au.gU {σ:au} {r:Row} (hr:r∈σ.rows) (hk:(σ.rows.map (cl ·.k)).Nodup):σ.abs.gU r.k=r.np/\σ.abs.nh r.k=r.su:=by
 unfold PS.gU PS.nh au.abs
 simp only
 rw [zS hr hk]
 exact ⟨rfl,rfl⟩
noncomputable def jW (σ:au):List (Int×Addr×Addr×List Int):=σ.rows.map fun r=>(r.k,r.na,r.la,r.su)
theorem uZ (σ:au) (k:Int) (np:Int):jW (σ.upd k fun r=>{ r with np:=np })=jW σ:=by
 unfold jW au.upd
 rw [List.map_map]
 refine List.map_congr_left fun r z0=> ?_
 show (fun r:Row=>(r.k,r.na,r.la,r.su)) (if cl r.k=cl k then _ else r)=_
 split <;> rfl
theorem mE {σ bI:au} (h:jW bI=jW σ) {r:Row} (hr:r∈σ.rows): ∃ r'∈bI.rows,r'.k=r.k/\r'.na=r.na/\r'.la=r.la/\r'.su=r.su:=by
 have:(r.k,r.na,r.la,r.su)∈jW bI:=by rw [h];exact List.mem_map_of_mem (f:=fun r:Row=>(r.k,r.na,r.la,r.su)) hr
 obtain ⟨r',oZ,e⟩:=List.mem_map.mp this
 simp only [Prod.mk.injEq] at e
 exact ⟨r',oZ,e.1,e.2.1,e.2.2.1,e.2.2.2⟩
theorem hU {σ bI:au} (h:jW bI=jW σ):bI.rows.map (cl ·.k)=σ.rows.map (cl ·.k):=by
 have:=congrArg (fun l=>l.map fun p=>cl p.1) h
 unfold jW at this
 simp only [List.map_map] at this
 exact this
structure DI (σ:au) (B:List (Addr×O)) (a:Addr) (p':PS) (w:Option Str) (ns:List Int) (i:Nat) (m':Loc) (H':AH) (cI:au) (ri:List Int):Prop where
 ex:cI.x=σ.x
 ed:cI.d=σ.d
 er:cI.rd=some (a,ri)
 To:ri.length<=1000+701*i
 xc:jW cI=jW σ
 ok:cI.abs.rl (ns.drop i) p' w
 si:Sat H' (cI.lay++B)
 m1:m' "self"=some (.ref σ.x)
 m2:m' "n2i"=some (.ref σ.d)
structure DJ (σ cI:au) (B:List (Addr×O)) (a:Addr) (su:List Int) (p2:PS) (i j:Nat) (m':Loc) (H':AH) (gW:au) (rj:List Int):Prop where
 ex:gW.x=σ.x
 ed:gW.d=σ.d
 er:gW.rd=some (a,rj)
 JH:rj.length<=1000+701*i+j
 xc:jW gW=jW σ
 nf:gW.nf=cI.nf
 ej:gW.abs=(su.take j).foldl PS.dec p2
 si:Sat H' (gW.lay++B)
 m1:m' "self"=some (.ref σ.x)
 m2:m' "n2i"=some (.ref σ.d)
section
variable {g:G} {F:Fm} {m:Loc} {H:AH} {X:PX} {Q:PV} {σ:au} {B:List (Addr×O)}
theorem wA {rows:List Row} {k:Int} (h:cl k∉rows.map (cl ·.k)):d0 (ao rows) k=none:=by
 rw [fW]
 cases e:dQ rows k with
 | none=>rfl
 | some r=>obtain ⟨h1,h2⟩:=dR e;exact absurd (h2▸List.mem_map_of_mem (f:=fun r:Row=>cl r.k) h1) h
theorem wB (D:Gd g) (hl:F.lvl<90) (hh:F.A.handled=none) {ns:List Int} (Hp:ns.length<=9) (s:Sat H (σ.lay++B)) (hk:σ.abs.names.Nodup) (hf:σ.abs.fits 700) {a:Addr} {rs:List Int} (de:σ.rd=some (a,rs)) (Ox:rs.length<=1000)
  {p':PS} {w:Option Str} (AD:σ.abs.rl ns p' w)
  (h: ∀ (bI:au) (H':AH),bI.x=σ.x->bI.abs=p'->Sat H' (bI.lay++B)->match w with | none=>Q .none m H' | some e=>X (.type "ValueError") [.str e] m H'):aH g F (.ref 120) (.ref σ.x::a8 ns) m H Q X:=by
 have A:=D.ns
 have A2:=D.sl
 refine cC (D.lk rfl) (D.cd rfl) rfl rfl rfl rfl rfl rfl rfl (du hl rfl) (bs:=([("self", .ref σ.x)]:List (Str×V))++([("nodes", .tup (a8 ns))]:List (Str×V))) (hM (k:=1) (fun vs=>[("self",vs.getD 0 .none)]) (fun vs S hv=> ?_) (fun h vs r=> ?_)) rfl fun F' hF=> ?_
 .rw [D.K]
  match vs,hv with
  | v::rest,hv=>
   have hr:rest.length<=9:=by simp [a8] at hv;exact Lp hv Hp
   clear hv
   revert hr
   revert rest
   refine HZ ?_ ?_ ?_ ?_ ?_ ?_ ?_ ?_ ?_ ?_ <;> intros <;> exact ⟨_,rfl,fun z0=>rfl⟩
 .obtain ⟨v,r',rfl,rv,rr⟩:=r.aG;exact ⟨v,[],rfl,rv,rfl⟩
 refine ae (cq (aO rfl (aQ (aa rfl (bO A.rd (au.inst s) (au.ns s) (x:= .ref a) (by rw [de];rfl) rfl (bj (gA (fun z0=>by simp) (aq (aC ?_)))))))))
 refine ae (aD (hF.loc rfl) rfl (aQ (aa rfl (bO A.n2 (au.inst s) (au.ns s) (x:= .ref σ.d) rfl rfl ?_))))
 refine ae (gL (fun z0=>rfl) (aa rfl (c7 so (fun i m' H'=> ∃ cI ri,DI σ B a p' w ns i m' H' cI ri)
  (.inl (hF.hh hh)) hF.st (fun z0 z0 z0 z0=>trivial) ⟨σ,rs,rfl,rfl,de,Ox,rfl,AD,s,rfl,rfl⟩ (fun i m' H' hi jj R hR=>jj.elim fun cI jj=>jj.elim fun ri jj=> ?_) (fun m' H' jj=>jj.elim fun cI jj=>jj.elim fun ri jj=> ?_))))
 .have eB:i<ns.length:=by rw [aw] at hi;exact hi
  rw [jr eB]
  have Qh:(cI.rows.map (cl ·.k)).Nodup:=by rw [hU jj.xc, <- au.aR];exact hk
  have ok:=jj.ok
  rw [List.drop_eq_getElem_cons eB] at ok
  revert ok
  refine mQ ns[i] fun n ok=> ?_
  have di:H' σ.d=some (.dict (ao cI.rows) cI.ep):=jj.ed▸au.dict jj.si
  have word: ∀ {c2:Str} {e:Expr} {m2 H2 k1 k2 p1 p2 p3 pos} {Q2:PV} {X2:PX},c2.length<=100->WE g F' (eval e F'.env) m2 H2 (fun a m H=>a=cd n/\Q2 (.str (wordsOf "node " (uX n) c2)) m H) X2->
    WE g F' (eval (.JoinedStr [.Constant (.str "node ") k1 p1, .FormattedValue e 114 none p2, .Constant (.str c2) k2 p3] pos) F'.env) m2 H2 Q2 X2:=fun hz h=>uW (by decide) hz (h.post fun b m H q=>⟨_,q.1▸pO _,(tx _).up (by decide) (by decide),q.2⟩)
  refine bH (hF.loc rfl) (ae (cq (aO rfl (qk (hF.loc rfl) (bg (aa (by exact jj.m2) (bU (g8 di PySem.F.slot_dict_get PySem.F.type_dict_get)<|ai (.blt _) (af (aa rfl (aj (za di ?_)))))))))))
  by_cases mZ:cl n∈cI.abs.names
  case neg=>
   rw [wA (by rw [<- au.aR];exact mZ)]
   refine bj (gA (fun z0=>by simp) (aq ?_))
   rcases ok with ⟨e,hb,hp,rfl⟩ | ⟨z,_⟩
   .cases hb with
    | no _=>exact ae (fb PySem.F.excCall_ValueError PySem.F.excRaise_ValueError (hF.hh hh) rfl (hF.cR rfl) (D.nb rfl) D.ve (af (word (by decide) (aa rfl ⟨rfl,aj ⟨Nat.le_of_ble_eq_true rfl,h cI H' jj.ex hp.symm jj.si⟩⟩))))
    | early z _=>exact absurd z mZ
    | Ff z _=>exact absurd z mZ
   .exact absurd z.1 mZ
  case pos=>
   obtain ⟨r,hr,w9,Il⟩:=jy (rows:=cI.rows) (k:=n) (by rw [<- au.aR];exact mZ)
   obtain ⟨o1,o2⟩:=au.gU hr Qh
   rw [PS.uY _ w9] at o1
   rw [PS.B7 _ w9] at o2
   rw [Il]
   refine bj (gA (fun z0=>by simp) (aq (aC ?_)))
   refine ae (aD (hF.loc rfl) rfl (aQ (aa rfl (dN A2.np (au.node jj.si hr) rfl rfl ?_))))
   refine ae (cq (aO rfl (aa rfl (bp (hF.cR rfl) (D.nb rfl) (fun z0=> .fF (-1) _) (HQ (aq ?_))))))
   rcases ok with ⟨e,hb,hp,rfl⟩ | ⟨⟨_,Qi,Qj⟩,P0⟩
   .cases hb with
    | no z=>exact absurd mZ z
    | early _ z=>
     rw [o1] at z
     rw [if_pos (show (!r.np == -1)=true by rw [beq_eq_false_iff_ne.mpr fun q=>by rw [q] at z;exact absurd z (by decide)];rfl)]
     refine ae (cq (aO rfl (aa rfl (aK (HO (aq ?_))))))
     rw [if_pos (decide_eq_true z)]
     exact ae (fb PySem.F.excCall_ValueError PySem.F.excRaise_ValueError (hF.hh hh) rfl (hF.cR rfl) (D.nb rfl) D.ve (af (word (by decide) (aa rfl ⟨rfl,aj ⟨Nat.le_of_ble_eq_true rfl,h cI H' jj.ex hp.symm jj.si⟩⟩))))
    | Ff _ z=>
     rw [o1] at z
     rw [z,if_pos (by decide)]
     refine ae (cq (aO rfl (aa rfl (aK (HO (aq ?_))))))
     rw [if_neg (by decide)]
     refine ae (cq (aO rfl (aa rfl (bp (hF.cR rfl) (D.nb rfl) (fun z0=> .fF (-2) _) (j4 (aq ?_))))))
     rw [if_pos (by decide)]
     exact ae (fb PySem.F.excCall_ValueError PySem.F.excRaise_ValueError (hF.hh hh) rfl (hF.cR rfl) (D.nb rfl) D.ve (af (word (by decide) (aa rfl ⟨rfl,aj ⟨Nat.le_of_ble_eq_true rfl,h cI H' jj.ex hp.symm jj.si⟩⟩))))
   rw [o1] at Qi
   rw [o2] at Qj
   rw [Qi,if_neg (by decide)]
   refine aC ?_
   refine ae (bF rfl rfl rfl (bp (hF.cR rfl) (D.nb rfl) (fun z0=> .fF (-2) _) (fG (aa rfl (dq A2.np (au.node jj.si hr) (Nat.le_of_ble_eq_true rfl) ?_)))))
   have s2:=au.jw jj.si hr Qh (-2)
   have e2:=(au.jU (σ:=cI) (r:=r) (-2)).trans (PS.mh _ w9 _)
   have Oy:=uZ cI r.k (-2)
   obtain ⟨ng,kv⟩: ∃ z,z=(cI.upd r.k fun r=>{ r with np:= -2 }):=⟨_,rfl⟩
   have pW:ng.x=cI.x/\ng.d=cI.d/\ng.rd=cI.rd/\ng.nf=cI.nf:=by rw [kv];exact ⟨rfl,rfl,rfl,rfl⟩
   rw [<- kv] at s2 e2 Oy
   obtain ⟨r2,Tp,q1,q2,q3,q4⟩:=mE (Oy) hr
   have Jn:r.su.length<=700:=by
    obtain ⟨r0,Tq,w1,w2,w3,w4⟩:=mE jj.xc.symm hr
    rw [<- w4];exact (au.dv hf).2 r0 Tq
   have nj:put H' r.na (.node 40 [cd r.k, .int (-2), .ref r.la]) r.la=some (.list (a8 r.su)):=by have z:=au.ju s2 Tp;rw [q3,q4] at z;exact z
   have C9:put H' r.na (.node 40 [cd r.k, .int (-2), .ref r.la]) r.na=some (.node 40 [cd r.k, .int (-2), .ref r.la]):=ag ..
   refine ae (gL (fun z0=>rfl) (aQ (aa rfl (dN A2.su C9 rfl rfl (c7 (g6 (l:=r.la) (xs:=a8 r.su)) (fun j yl kl=> ∃ gW rj,DJ σ cI B a r.su ng.abs i j yl kl gW rj)
    (.inl (hF.hh hh)) hF.st (fun j yl kl dB=>dB.elim fun gW dB=>dB.elim fun rj dB=> ?_) ⟨ng,ri,pW.1.trans jj.ex,pW.2.1.trans jj.ed,pW.2.2.1.trans jj.er,jj.To,Oy.trans jj.xc,pW.2.2.2,rfl,s2,jj.m1,jj.m2⟩
    (fun j yl kl hj dB R2 Qk=>dB.elim fun gW dB=>dB.elim fun rj dB=> ?_) (fun yl kl dB=>dB.elim fun gW dB=>dB.elim fun rj dB=> ?_))))))
   .obtain ⟨r3,pJ,w1,w2,w3,w4⟩:=mE (dB.xc.trans jj.xc.symm) hr
    rw [<- w3, <- w4];exact au.ju dB.si pJ
   .have pV:j<r.su.length:=by rw [aw] at hj;exact hj
    rw [jr pV]
    have Ql:(gW.rows.map (cl ·.k)).Nodup:=by rw [hU dB.xc, <- au.aR];exact hk
    have dj:kl σ.d=some (.dict (ao gW.rows) gW.ep):=dB.ed▸au.dict dB.si
    have ext:(r.su.take (j+1)).foldl PS.dec ng.abs=(gW.abs).dec r.su[j]:=by rw [List.take_add_one,List.getElem?_eq_getElem pV,List.foldl_append, <- dB.ej];rfl
    have hm:=List.getElem_mem pV
    revert ext hm
    refine mQ r.su[j] fun q ext hm=> ?_
    obtain ⟨t,ht,oW,Tr⟩:=jy (rows:=gW.rows) (k:=q) (by
     have:=Qj _ hm
     rw [au.aR,hU jj.xc] at this
     rw [hU dB.xc];exact this)
    refine bH (hF.loc rfl) (ae (aD (hF.loc rfl) rfl (b8 (aa (by exact dB.m2) (aa rfl (jq dj (jo dj Tr ?_)))))))
    refine ae (fT (aa rfl (dN A2.np (au.node dB.si ht) rfl rfl (aK (En (dq A2.np (au.node dB.si ht) (Nat.le_of_ble_eq_true rfl) ?_))))))
    have s4:=au.jw dB.si ht Ql (t.np-1)
    have e4:=(au.jU (σ:=gW) (r:=t) (t.np-1)).trans (PS.mh _ oW _)
    have Oz:=uZ gW t.k (t.np-1)
    obtain ⟨n7,lZ⟩: ∃ z,z=(gW.upd t.k fun r=>{ r with np:=t.np-1 }):=⟨_,rfl⟩
    have pK:n7.x=gW.x/\n7.d=gW.d/\n7.rd=gW.rd/\n7.nf=gW.nf/\n7.po=gW.po:=by rw [lZ];exact ⟨rfl,rfl,rfl,rfl,rfl⟩
    rw [<- lZ] at s4 e4 Oz
    have E0:put kl t.na (.node 40 [cd t.k, .int (t.np-1), .ref t.la]) t.na=some (.node 40 [cd t.k, .int (t.np-1), .ref t.la]):=ag ..
    have II:=(PS.uY _ oW).symm.trans (au.gU ht Ql).1
    refine ae (cq (aO rfl (aQ (aa rfl (dN A2.np E0 rfl rfl (aK (j4 (aq ?_))))))))
    by_cases hz:t.np-1=0
    .refine rU (by simpa using hz) ?_
     have JI:n7.rd=some (a,rj):=pK.2.2.1.trans dB.er
     have Ts:put kl t.na (.node 40 [cd t.k, .int (t.np-1), .ref t.la]) σ.x=some (.inst 137 n7.dx):=by rw [<- dB.ex, <- pK.1];exact au.inst s4
     refine ae (eN (bg (aQ (aa (by exact dB.m1) (bO A.rd Ts (au.ns s4) (x:= .ref a) (by rw [JI];rfl) rfl (bU (bR (.own (au.ready s4 JI)) PySem.F.slot_list_append PySem.F.type_list_append)<|ai (.blt _) (af (aa rfl (aj (dO (au.ready s4 JI) (by rw [aw];exact Nat.le_trans (Nat.le_succ_of_le (Nat.le_trans dB.JH (Nat.add_le_add (Nat.add_le_add_left (Nat.mul_le_mul_left 701 (Nat.le_trans (Nat.le_of_lt eB) Hp)) 1000) (Nat.le_trans (Nat.le_of_lt pV) Jn)))) (show 1000+701*9+700+1<=16000000 from Nat.le_of_ble_eq_true rfl)) ?_))))))))))
     rw [jt]
     have s5:=au.qR s4 JI (rj++[q])
     refine aC (aC (Qk .next _ _ ⟨{ n7 with rd:=some (a,rj++[q]) },rj++[q],pK.1.trans dB.ex,pK.2.1.trans dB.ed,rfl,by have:=dB.JH;rw [List.length_append,List.length_singleton];exact Ln this,Oz.trans dB.xc,pK.2.2.2.1.trans dB.nf, ?_,s5,dB.m1,dB.m2⟩))
     rw [ext]
     unfold PS.dec
     rw [II,if_pos hz, <- e4]
     unfold au.abs
     simp [pK,dB.er]
    .refine xh (by simpa using hz) ?_
     refine aC (aC (Qk .next _ _ ⟨n7,rj,pK.1.trans dB.ex,pK.2.1.trans dB.ed,pK.2.2.1.trans dB.er,Nat.le_succ_of_le dB.JH,Oz.trans dB.xc,pK.2.2.2.1.trans dB.nf, ?_,s4,dB.m1,dB.m2⟩))
     rw [ext]
     unfold PS.dec
     rw [II,if_neg hz, <- e4]
   .have ej:=dB.ej
    rw [aw,List.take_of_length_le (Nat.le_refl _)] at ej
    have Qm:kl σ.x=some (.inst 137 gW.dx):=dB.ex▸au.inst dB.si
    refine aC (ae (fT (aa (by exact dB.m1) (bO A.nf Qm (au.ns dB.si) (x:= .int gW.nf) rfl rfl (aK (pz (lQ A.nf Qm (au.ns dB.si) (Nat.le_of_ble_eq_true rfl) ?_)))))))
    have s6:=au.C7 dB.si gW.po (gW.nf+1)
    have e6:({ gW with po:=gW.po,nf:=gW.nf+1 }:au).abs=cI.abs.gV n:=by
     unfold PS.gV
     rw [o2, <- e2, <- ej]
     unfold au.abs
     simp [dB.nf]
    refine aC (hR .next _ _ ⟨{ gW with po:=gW.po,nf:=gW.nf+1 },rj,dB.ex,dB.ed,dB.er,(by have z:=dB.JH;rw [aw] at z;exact Lk Jn z),dB.xc,e6▸P0,s6,dB.m1,dB.m2⟩)
 .have ok:=jj.ok
  rw [aw,List.drop_of_length_le (Nat.le_refl _)] at ok
  obtain ⟨e1,rfl⟩:=ok
  exact aC (aC (h cI H' jj.ex e1.symm jj.si))
end
end
noncomputable def Ext (H H':AH):Prop:= ∀ a o,H a=some o->H' a=some o
theorem Ext.refl (H:AH):Ext H H:=fun z0 z0 e=>e
theorem Ext.trans {a b c:AH} (x:Ext a b) (y:Ext b c):Ext a c:=fun z0 z0 e=>y _ _ (x _ _ e)
theorem Ext.no {H H':AH} (x:Ext H H') {a:Addr} (n:H' a=none):H a=none:=by
 cases q:H a with
 | none=>rfl
 | some o=>exact nomatch ((x a o q).symm.trans n)
theorem Ext.put [ζ:bW] {H H':AH} (x:Ext H H') {a:Addr} {o:O} (n:H' a=none):Ext H (put H' a o):=fun b o' e=>by
 rw [cU _ _ fun q=>by subst q;exact nomatch ((x _ _ e).symm.trans n)];exact x b o' e
theorem Ext.sat [ζ:bW] {H H':AH} {L:List (Addr×O)} (x:Ext H H') (s:Sat H L):Sat H' L:=⟨s.1,fun p hp=>x _ _ (s.2 p hp)⟩
section
variable [ζ:bW]
structure mP (g:G):Prop where
 d:Gd g
 bm:uT g
 c1:CodeHd g.B 183 181
 c2:CodeHd g.B 198 196
theorem Gd.more {g:G} (D:Gd g) (B:Heap) (k:g.B.StaysIn B):Gd (g.more B k):=
 ⟨D.K,D.ve,D.bool,D.len,D.tuple,D.iter,D.set,D.stop,D.range,D.list,D.min,D.max,D.sum,D.sorted,D.ty,D.enum,D.zip,D.own.keeps k⟩
theorem mP.more {g:G} (D:mP g) (B:Heap) (k:g.B.StaysIn B):mP (g.more B k):=
 ⟨D.d.more B k,⟨D.bm.is.elim fun bm z=>z.elim fun o z=>⟨bm,o,z.1,z.2.1,k _ _ z.2.2.1,z.2.2.2⟩⟩,D.c1.keeps k,D.c2.keeps k⟩
structure Fg (ar:Arguments) (sc:Scope):Prop where
 bind: ∀ q body cl pm cv ct,bindArgs (kla_fn "<lambda>" q ar body sc cl pm cv ct) ⟨[],[]⟩=pure []
 kind:sc.kind= .function
 co:sc.isCoroutine=false
 gen:sc.isGenerator=false
 cell: ∀ x∈sc.names,x.2≠ .cell
structure Fh (F':Fm) (sc:Scope) (cl:List (Str×Addr)):Prop where
 scope:F'.env.scope=sc
 cells:F'.env.cells=cl
 st:F'.stack≠[]
 hh:F'.A.handled=none
section
variable {g:G} {F:Fm} {m:Loc} {H:AH} {X:PX} {Q:PV} {σ:au} {B:List (Addr×O)}
theorem og (D:Gd g) (hl:F.lvl<80) (hh:F.A.handled=none) {f:Addr} {ar:Arguments} {body:Expr} {sc:Scope} {cl:List (Str×Addr)} {q:Str} {mc:Loc} (hf:H f=some (.lam ar body sc cl q)) (lk:Fg ar sc) (hC:Dj g sc cl mc)
  (h: ∀ F',F'.lvl=F.lvl+2->Fh F' sc cl->WE g F' (eval body F'.env) mc H (fun a z0 H'=>Q a m H') (fun c as z0 H'=>c= .type "ValueError"/\as.all oa=true/\Q (.tup [.bool true, .tup as]) m H')):aH g F (.ref 179) [.ref f] m H Q X:=by
 refine cC (D.lk rfl) (D.cd rfl) rfl rfl rfl rfl rfl rfl rfl (du hl rfl) (a7 (fun vs=>[("call",vs.getD 0 .none)]) (fun vs S hv=> ?_) (fun h vs r=> ?_)) (bs:=[("call", .ref f)]) rfl fun F' hF=> ?_
 .obtain ⟨v,rfl⟩:=oU hv;rw [D.K];rfl
 .obtain ⟨v,r',rfl,rv,rr⟩:=r.aG;exact ⟨v,[],rfl,rv,rfl⟩
 refine ae<|zc hF.st<|ae<|dW<|B5<|aa rfl ⟨f,ar,body,sc,cl,q,rfl,hf,aH.call<|IG hf (lk.bind _ _ _) lk.kind lk.co lk.gen lk.cell (hF.lv (b:=81) hl rfl |> du<|rfl) hC fun F2 h2=> ?_⟩
 refine (h F2 (by rw [h2.lvl,hF.lvl]) ⟨h2.scope,h2.cells,by rw [h2.stack];simp,h2.handled.trans (hF.hh hh)⟩).mono (fun a z0 H' q=>q) fun c as z0 H' z=> ?_
 obtain ⟨rfl,fl,z⟩:=z
 refine mD ((hF.kindOf _).trans rfl) (qQ (hF.cR rfl) (D.nb rfl) D.ve) (Iu D) fl fun B k e A=> ?_
 have D':=D.more B k
 exact ae<|dW<|fR<|af<|gy rfl<|aJ<|bN (hF.cR rfl) (D'.nb rfl) D'.ty (aX<|ai (.type _)<|af<|aa rfl<|aj<|BZ A rfl<|bN (hF.cR rfl) (D'.nb rfl) D'.ve<|Dh (b:=true) (by decide)<|
  af<|aQ<|aa rfl<|B4 PySem.F.excAttr_ValueError A<|aj ⟨Nat.le_of_ble_eq_true rfl,z⟩)
theorem tA (D:Gd g) (hl:F.lvl<90) (hh:F.A.handled=none) (s:Sat H (σ.lay++B)) (de:σ.rd=none) {y:V} (h:X (.type "ValueError") [.str "prepare() must be called first"] m H):aH g F (.ref 120) [.ref σ.x,y] m H Q X:=by
 have A:=D.ns
 refine cC (D.lk rfl) (D.cd rfl) rfl rfl rfl rfl rfl rfl rfl (du hl rfl) (bs:=([("self", .ref σ.x)]:List (Str×V))++([("nodes", .tup [y])]:List (Str×V))) (hM (k:=1) (fun vs=>[("self",vs.getD 0 .none)]) (fun vs S hv=> ?_) (fun h vs r=> ?_)) rfl fun F' hF=> ?_
 .rw [D.K]
  obtain ⟨v,u,rfl⟩:=vv hv
  exact ⟨_,rfl,fun z0=>rfl⟩
 .obtain ⟨v,r',rfl,rv,rr⟩:=r.aG;exact ⟨v,[],rfl,rv,rfl⟩
 refine ae (cq (aO rfl (aQ (aa rfl (bO A.rd (au.inst s) (au.ns s) (x:= .none) (by rw [de];rfl) rfl (bj (gA (fun z0=>by simp) (aq ?_))))))))
 exact ae (fb PySem.F.excCall_ValueError PySem.F.excRaise_ValueError (hF.hh hh) rfl (hF.cR rfl) (D.nb rfl) D.ve (af (gx (aj ⟨by decide,h⟩))))
theorem wC (D:Gd g) (hl:F.lvl<90) (hh:F.A.handled=none) (s:Sat H (σ.lay++B)) {rd:Addr×List Int} (de:σ.rd=some rd) {x y:V} (h:X (.type "ValueError") [.str "Nodes cannot be added after a call to prepare()"] m H):aH g F (.ref 87) [.ref σ.x,x,y] m H Q X:=by
 have A:=D.ns
 refine cC (D.lk rfl) (D.cd rfl) rfl rfl rfl rfl rfl rfl rfl (du hl rfl) (bs:=([("self", .ref σ.x),("node",x)]:List (Str×V))++([("predecessors", .tup [y])]:List (Str×V))) (hM (k:=2) (fun vs=>[("self",vs.getD 0 .none),("node",vs.getD 1 .none)]) (fun vs S hv=> ?_) (fun h vs r=> ?_)) rfl fun F' hF=> ?_
 .rw [D.K]
  obtain ⟨v,u,w,rfl⟩:=DX hv
  exact ⟨_,rfl,fun z0=>rfl⟩
 .obtain ⟨v,r',rfl,rv,rr⟩:=r.aG;obtain ⟨u,r',rfl,ru,rr⟩:=rr.aG;exact ⟨v,_,rfl,rv,u,[],rfl,ru,rfl⟩
 refine ae (cq (aO rfl (aQ (aa rfl (bO A.rd (au.inst s) (au.ns s) (x:= .ref rd.1) (by rw [de];rfl) rfl (bj (eP (fun z0=>by simp) (aq ?_))))))))
 exact ae (fb PySem.F.excCall_ValueError PySem.F.excRaise_ValueError (hF.hh hh) rfl (hF.cR rfl) (D.nb rfl) D.ve (af (gx (aj ⟨by decide,h⟩))))
theorem nq (D:Gd g) (hl:F.lvl<90) (hh:F.A.handled=none) (s:Sat H (σ.lay++B)) {rd:Addr×List Int} (de:σ.rd=some rd) (h:X (.type "ValueError") [.str "cannot prepare() more than once"] m H):aH g F (.ref 92) [.ref σ.x] m H Q X:=by
 have A:=D.ns
 refine cC (D.lk rfl) (D.cd rfl) rfl rfl rfl rfl rfl rfl rfl (du hl rfl) (a7 (fun vs=>[("self",vs.getD 0 .none)]) (fun vs S hv=> ?_) (fun h vs r=> ?_)) (bs:=[("self", .ref σ.x)]) rfl fun F' hF=> ?_
 .obtain ⟨v,rfl⟩:=oU hv;rw [D.K];rfl
 .obtain ⟨v,r',rfl,rv,rr⟩:=r.aG;exact ⟨v,[],rfl,rv,rfl⟩
 refine ae (cq (aO rfl (aQ (aa rfl (bO A.rd (au.inst s) (au.ns s) (x:= .ref rd.1) (by rw [de];rfl) rfl (bj (eP (fun z0=>by simp) (aq ?_))))))))
 exact ae (fb PySem.F.excCall_ValueError PySem.F.excRaise_ValueError (hF.hh hh) rfl (hF.cR rfl) (D.nb rfl) D.ve (af (gx (aj ⟨by decide,h⟩))))
end
noncomputable abbrev Pb (b:Bool) (m:Loc) (H:AH):Bool->Loc->AH->Prop:=fun b' m' H'=>b'=b/\m'=m/\Ext H H'
noncomputable abbrev Pv (v:V) (m:Loc) (H:AH):V->Loc->AH->Prop:=fun v' m' H'=>v'=v/\m'=m/\Ext H H'
noncomputable abbrev Pl (ns:List Int) (m:Loc) (H:AH):V->Loc->AH->Prop:=fun v' m' H'=> ∃ l,v'= .ref l/\m'=m/\Ext H H'/\H' l=some (.list (nums ns))
section
variable {g:G} {F:Fm} {m:Loc} {H:AH} {X':PX} {Q:List V->AH->Prop}
theorem gX {α:Type} {xs:List α} {i:Nat} (hi:i<xs.length) (t:α->Bool) (e:α->V):((xs.take (i+1)).filter t).map e=((xs.take i).filter t).map e++(if t xs[i] then [e xs[i]] else []):=by
 rw [List.take_add_one,List.getElem?_eq_getElem hi,List.filter_append,List.map_append]
 cases z:t xs[i] <;> simp [z]
theorem cG {α:Type} {scope:Scope} {x:Str} {px:Pos} {ifs:List Expr} {elt:Expr} {a:V} {xs:List α} {C:AH->Prop} {valN:NV} (val:α->V) (t:α->Bool) (e:α->V)
  (I:bS g a xs.length valN C) (Fi: ∀ i (h:i<xs.length),valN i=val xs[i]) (hC: ∀ H',Ext H H'->C H') (hx:tj scope x=true) (hz:xs.length<=1000)
  (ht: ∀ Fc,bM Fc F scope-> ∀ y∈xs, ∀ m' H',gF scope m m'->m' x=some (val y)->Ext H H'->WB g Fc (dI ifs Fc.env) m' H' (Pb (t y) m' H') X')
  (he: ∀ Fc,bM Fc F scope-> ∀ y∈xs,t y=true-> ∀ m' H',gF scope m m'->m' x=some (val y)->Ext H H'->WE g Fc (eval elt Fc.env) m' H' (Pv (e y) m' H') X')
  (hq: ∀ H',Ext H H'->Q ((xs.filter t).map e) H'):lK g F scope (.Name x px) ifs (lN elt) a m H Q X':=by
 refine ⟨qo,xs.length,valN,C,fun i ys m' H'=>Ext H H'/\ys=((xs.take i).filter t).map e/\gF scope m m',I,rfl,fun i ys m' H' z=>hC _ z.1,⟨.refl H,rfl, .start _ _⟩,fun Fc acc hF i ys m' H' hi z=>z.elim fun e1 z=>z.elim fun e2 e3=> ?_,fun ys m' H' z=>z.elim fun e1 z=>z.elim fun e2 z0=> ?_⟩
 .rw [Fi i hi]
  have s':gF scope m (bw m' x (val xs[i])):=e3.set hx
  refine bH (hF.loc hx) ((ht Fc hF xs[i] (List.getElem_mem hi) _ _ s' (aY ..) e1).post fun b m2 H2 z=>z.elim fun q1 z=>z.elim fun q2 q3=> ?_)
  subst q1 q2
  by_cases q:t xs[i]=true
  .rw [if_pos q]
   refine lJ (by rw [e2,List.length_map,sizeLine_eq];have h1:=List.length_filter_le t (xs.take i);have h2:=List.length_take_le i xs;exact Nat.le_trans h1 (Nat.le_trans h2 (Nat.le_trans (Nat.le_of_lt hi) (Nat.le_trans hz (Nat.le_of_ble_eq_true rfl))))) ((he Fc hF xs[i] (List.getElem_mem hi) q _ _ s' (aY ..) (e1.trans q3)).post fun v m3 H3 z=>z.elim fun w1 z=>z.elim fun w2 w3=> ?_)
   subst w1 w2
   exact ⟨(e1.trans q3).trans w3,by rw [gX hi,if_pos q,e2],s'⟩
  .rw [if_neg q]
   exact ⟨e1.trans q3,by rw [gX hi,if_neg q,e2,List.append_nil],s'⟩
 .subst e2
  rw [List.take_of_length_le (Nat.le_refl _)]
  exact hq _ e1
noncomputable def qZ {α:Type} (t0:α->Bool) (ns:α->List Int) (t:α->Int->Bool) (e:α->Int->V) (p:α):List V:=if t0 p then ((ns p).filter (t p)).map (e p) else []
theorem wD {α:Type} {xs:List α} {i:Nat} (hi:i<xs.length) (f:α->List V):(xs.take (i+1)).flatMap f=(xs.take i).flatMap f++f xs[i]:=by
 rw [List.take_add_one,List.getElem?_eq_getElem hi,List.flatMap_append];simp
theorem jz {α:Type} {scope:Scope} {x y:Str} {px py:Pos} {je ifs:List Expr} {elt i0 iter:Expr} {OA:Pos} {a:V} {xs:List α} {C:AH->Prop} {valN:NV} (hh:Hk g F) (hs:F.stack≠[]) (val:α->V) (t0:α->Bool) (ns:α->List Int) (t:α->Int->Bool) (e:α->Int->V)
  (I:bS g a xs.length valN C) (Fi: ∀ i (h:i<xs.length),valN i=val xs[i]) (hC: ∀ H',Ext H H'->C H') (hx:tj scope x=true) (hy:tj scope y=true) (Tt:x≠y) (hz:xs.length<=1000) (Qo: ∀ p∈xs,(ns p).length<=1000)
  (uk: ∀ (env:Env) x,foldedSetIterable iter env x=pure x)
  (Tu: ∀ Fc,bM Fc F scope-> ∀ p∈xs, ∀ m' H',gF scope m m'->m' x=some (val p)->Ext H H'->WB g Fc (dI je Fc.env) m' H' (Pb (t0 p) m' H') X')
  (hi: ∀ Fc,bM Fc F scope-> ∀ p∈xs,t0 p=true-> ∀ m' H',gF scope m m'->m' x=some (val p)->Ext H H'->WE g Fc (eval iter Fc.env) m' H' (Pl (ns p) m' H') X')
  (ht: ∀ Fc,bM Fc F scope-> ∀ p∈xs,t0 p=true-> ∀ n∈ns p, ∀ m' H',gF scope m m'->m' x=some (val p)->m' y=some (.int n)->Ext H H'->WB g Fc (dI ifs Fc.env) m' H' (Pb (t p n) m' H') X')
  (he: ∀ Fc,bM Fc F scope-> ∀ p∈xs,t0 p=true-> ∀ n∈ns p,t p n=true-> ∀ m' H',gF scope m m'->m' x=some (val p)->m' y=some (.int n)->Ext H H'->WE g Fc (eval elt Fc.env) m' H' (Pv (e p n) m' H') X')
  (hq: ∀ H',Ext H H'->Q (xs.flatMap (qZ t0 ns t e)) H'):lK g F scope (.Name x px) je (lO elt (.Name x px) i0 je (.Name y py) iter ifs scope OA) a m H Q X':=by
 have OB: ∀ ps:List α,(∀ p∈ps,p∈xs)->(ps.flatMap (qZ t0 ns t e)).length<=1000*ps.length:=by
  intro ps we
  induction ps with
  | nil=>exact Nat.zero_le _
  | cons p ps ih=>
   rw [List.flatMap_cons,List.length_append,List.length_cons,Nat.mul_succ,Nat.add_comm]
   refine Nat.add_le_add (ih fun q hq=>we q (List.mem_cons_of_mem _ hq)) ?_
   unfold qZ
   split
   .rw [List.length_map];exact Nat.le_trans (List.length_filter_le _ _) (Qo p (we p List.mem_cons_self))
   .exact Nat.zero_le _
 refine ⟨qo,xs.length,valN,C,fun i ys m' H'=>Ext H H'/\ys=(xs.take i).flatMap (qZ t0 ns t e)/\gF scope m m',I,rfl,fun i ys m' H' z=>hC _ z.1,⟨.refl H,rfl, .start _ _⟩,fun Fc acc hF i ys m' H' eB z=>z.elim fun e1 z=>z.elim fun e2 e3=> ?_,fun ys m' H' z=>z.elim fun e1 z=>z.elim fun e2 z0=> ?_⟩
 .rw [Fi i eB]
  have hm:=List.getElem_mem eB
  have s':gF scope m (bw m' x (val xs[i])):=e3.set hx
  have hl:ys.length<=1000000:=by
   rw [e2]
   refine Nat.le_trans (OB _ fun p hp=>List.mem_of_mem_take hp) ?_
   have:=List.length_take_le i xs
   omega
  refine bH (hF.loc hx) ((Tu Fc hF xs[i] hm _ _ s' (aY ..) e1).post fun b m2 H2 z=>z.elim fun q1 z=>z.elim fun q2 q3=> ?_)
  subst q1 q2
  have fs:=wD eB (qZ t0 ns t e)
  by_cases q:t0 xs[i]=true
  .rw [if_pos q]
   have ei:qZ t0 ns t e xs[i]=((ns xs[i]).filter (t xs[i])).map (e xs[i]):=if_pos q
   refine yh (hF.hk hh) (hF.st hs) (uk _) fun tail Tv=> ?_
   subst Tv
   refine (hi Fc hF xs[i] hm q _ _ s' (aY ..) (e1.trans q3)).post fun v m3 H3 z=>z.elim fun l z=>z.elim fun w1 z=>z.elim fun w2 z=>z.elim fun w3 w4=> ?_
   subst w1 w2
   have e5:=(e1.trans q3).trans w3
   refine ⟨qo,(nums (ns xs[i])).length,_,fun H'=>H' l=some (.list (nums (ns xs[i]))),fun j zs m4 H4=>Ext H3 H4/\zs=ys++(((ns xs[i]).take j).filter (t xs[i])).map (e xs[i])/\gF scope m m4/\m4 x=some (val xs[i]),g6,rfl,fun j zs m4 H4 z=>z.1 _ _ w4,⟨.refl _,by simp,s',aY ..⟩,fun j zs m4 H4 hj z=>z.elim fun f1 z=>z.elim fun f2 z=>z.elim fun f3 f4=> ?_,fun zs m4 H4 z=>z.elim fun f1 z=>z.elim fun f2 z=>z.elim fun f3 f4=> ?_⟩
   .rw [ints_length] at hj
    have IJ:=List.getElem_mem hj
    have vj:(nums (ns xs[i])).getD j .none= .int (ns xs[i])[j]:=by unfold nums;rw [List.getD_eq_getElem?_getD,List.getElem?_map,List.getElem?_eq_getElem hj];rfl
    rw [vj]
    have s4:gF scope m (bw m4 y (.int (ns xs[i])[j])):=f3.set hy
    have x4:bw m4 y (.int (ns xs[i])[j]) x=some (val xs[i]):=by rw [BO _ _ Tt];exact f4
    refine bH (hF.loc hy) ((ht Fc hF xs[i] hm q _ IJ _ _ s4 x4 (aY ..) (e5.trans f1)).post fun b m5 H5 z=>z.elim fun q5 z=>z.elim fun q6 q7=> ?_)
    subst q5 q6
    have sn:=gX hj (t xs[i]) (e xs[i])
    by_cases qt:t xs[i] (ns xs[i])[j]=true
    .rw [if_pos qt]
     refine lJ (by
      rw [f2,List.length_append,List.length_map,sizeLine_eq]
      have h1:=List.length_filter_le (t xs[i]) ((ns xs[i]).take j)
      have h2:=List.length_take_le j (ns xs[i])
      have h3:=Qo _ hm
      exact Lq h1 h2 h3 hl hj) ((he Fc hF xs[i] hm q _ IJ qt _ _ s4 x4 (aY ..) ((e5.trans f1).trans q7)).post fun v m6 H6 z=>z.elim fun r1 z=>z.elim fun r2 r3=> ?_)
     subst r1 r2
     exact ⟨(f1.trans q7).trans r3,by rw [sn,if_pos qt,f2,List.append_assoc],s4,x4⟩
    .rw [if_neg qt]
     exact ⟨f1.trans q7,by rw [sn,if_neg qt,f2,List.append_nil],s4,x4⟩
   .rw [ints_length,List.take_of_length_le (Nat.le_refl _)] at f2
    exact ⟨e5.trans f1,by rw [fs,ei,f2,e2],f3⟩
  .rw [if_neg q]
   have ei:qZ t0 ns t e xs[i]=[]:=if_neg q
   exact ⟨e1.trans q3,by rw [fs,ei,e2,List.append_nil],s'⟩
 .subst e2
  rw [List.take_of_length_le (Nat.le_refl _)]
  exact hq _ e1
end
theorem aM.lam {F':Fm} {sc scope:Scope} {cl:List (Str×Addr)} (hF:Fh F' sc cl) (hC: ∀ x,sc.names.lookup x=some .free-> ∃ c,cl.lookup x=some c) (hk:scope.kind= .function) (h:zJ sc.names scope.names=true) (hn:(sc.names.all fun y=>y.2 == .free)=true):aM F' scope:=by
 have h':=List.all_eq_true.mp h
 have fr: ∀ x,(x,NameKind.free)∈scope.names->sc.names.lookup x=some .free/\(x == ("__classdict__":Str))=false:=fun x hx=>by
  have:=h' _ hx
  simp only [Bool.and_eq_true,Bool.or_eq_true,Bool.not_eq_true',beq_iff_eq] at this
  rcases this.2 with z | z
  .exact absurd z (by decide)
  .refine ⟨z.1.resolve_left fun q=> ?_,z.2⟩
   have:=List.all_eq_true.mp hn _ (bE q)
   exact absurd this (by simp)
 refine ⟨hk,fun y hy q=> ?_,fun x hx q=> ?_,fun x hx=> ?_,fun n hn=> ?_⟩
 .have:=h' y hy
  rw [q] at this
  simpa using this
 .have:=h' x hx
  rw [q] at this
  simpa using this
 .obtain ⟨z1,z2⟩:=fr x (bE hx)
  exact ⟨.inr (by unfold Env.kindOf;rw [hF.scope];exact z1),z2⟩
 .obtain ⟨c,e⟩:=hC n (fr n hn).1
  exact ⟨c,by rw [hF.cells];exact e⟩
end
noncomputable def cH (row:List Int):List Int:=((List.range row.length).filter fun k=> !(row.take k).contains (row.getD k 0)).map fun k=>row.getD k 0
noncomputable def aN (told:List (List Int)):List Int:=cH told.flatten
noncomputable def bV (told:List (List Int)) (over:List Int) (v:Int):List Int:=told.flatMap fun c=>if (c.getD 0 0 == v)=true then (c.drop 1).filter fun w=> !over.contains w else []
noncomputable def cN (told:List (List Int)) (u:Int):List Int:=(told.filter fun c=>(c.drop 1).contains u).map fun c=>c.getD 0 0
noncomputable def iq (told:List (List Int)) (over:List Int) (u:Int):List Int:=
 ((List.range (cN told u).length).filter fun k=> !((cN told u).drop (k+1)).contains ((cN told u).getD k 0) && (bV told over ((cN told u).getD k 0)).isEmpty).map fun k=>(cN told u).getD k 0
noncomputable def tl (bk:List (Addr×List Int)):List (List Int):=bk.map (·.2)
section
variable [ζ:bW]
structure TB (H:AH) (lt:Addr) (bk:List (Addr×List Int)):Prop where
 top:H lt=some (.list (bk.map fun p=> .ref p.1))
 each: ∀ p∈bk,H p.1=some (.list (nums p.2))
 ne: ∀ p∈bk,p.2≠[]
 sz: ∀ p∈bk,p.2.length<=3
 few:bk.length<=40
 ok: ∀ p∈bk, ∀ v∈p.2,0<=v/\v<10
theorem TB.ext {H H':AH} {lt:Addr} {bk:List (Addr×List Int)} (x:TB H lt bk) (e:Ext H H'):TB H' lt bk:=⟨e _ _ x.top,fun p hp=>e _ _ (x.each p hp),x.ne,x.sz,x.few,x.ok⟩
theorem oh (ns:List Int) (k:Nat):(nums ns).take k=nums (ns.take k):=(List.map_take ..).symm
theorem oj (ns:List Int) (k:Nat):(nums ns).drop k=nums (ns.drop k):=(List.map_drop ..).symm
theorem kO {ns:List Int} {k:Nat} (h:k<ns.length):(nums ns)[k]? =some (.int (ns.getD k 0)):=by unfold nums;rw [List.getElem?_map,List.getElem?_eq_getElem h,List.getD_eq_getElem?_getD,List.getElem?_eq_getElem h];rfl
section
variable {g:G} {F:Fm} {m:Loc} {H:AH} {X:PX} {Q:PV}
theorem hW {bk:List (Addr×List Int)} {lt:Addr}:bS g (.ref lt) bk.length (fun i=>(bk.map fun p=>V.ref p.1).getD i .none) (fun H=>H lt=some (.list (bk.map fun p=> .ref p.1))):=by
 have:=g6 (g:=g) (l:=lt) (xs:=bk.map fun p=>V.ref p.1)
 rwa [List.length_map] at this
theorem hX {bk:List (Addr×List Int)} (i:Nat) (h:i<bk.length):(bk.map fun p=>V.ref p.1).getD i .none= .ref bk[i].1:=by
 rw [List.getD_eq_getElem?_getD,List.getElem?_map,List.getElem?_eq_getElem h];rfl
theorem d9 {ns:List Int} {l:Addr}:bS g (.ref l) ns.length (fun i=>(nums ns).getD i .none) (fun H=>H l=some (.list (nums ns))):=by
 have:=g6 (g:=g) (l:=l) (xs:=nums ns)
 rwa [ints_length] at this
theorem ft {ns:List Int} (i:Nat) (h:i<ns.length):(nums ns).getD i .none= .int ns[i]:=by
 unfold nums;rw [List.getD_eq_getElem?_getD,List.getElem?_map,List.getElem?_eq_getElem h];rfl
theorem u0 {n:Nat} (hn:n<=1000):bS g (.kS 0 n 1) (List.range n).length (fun i=> .int (0+(i:Int))) (fun z0=>True):=by rw [List.length_range];exact wa rfl hn
theorem u3 {n:Nat} (i:Nat) (h:i<(List.range n).length):(V.int (0+(i:Int)))= .int (0+((List.range n)[i]:Int)):=by rw [List.getElem_range]
theorem jX {l:Addr} {ns:List Int} {x:Int} (hl:H l=some (.list (nums ns))) (h:Q (.bool (!ns.contains x)) m H):W2 g F VR (.int x) (.ref l) (compareOp .NotIn) m H Q X:=
 CU (.own hl) rfl (jT _) (pE _) (by rw [any_ints];exact h)
theorem om {l:Addr} {ns:List Int} {x:Int} (hl:H l=some (.list (nums ns))) (h:Q (.bool (ns.contains x)) m H):W2 g F VR (.int x) (.ref l) (compareOp .In) m H Q X:=
 NN (.own hl) rfl (jT _) (pE _) (by rw [any_ints];exact h)
theorem iS {l:Addr} {ns:List Int} {k:Nat} (hl:H l=some (.list (nums ns))) (hk:k<ns.length) (hz:ns.length<=1000) (h:Q (.int (ns.getD k 0)) m H):GI g F (.ref l) (.int (0+(k:Int))) m H Q X:=
 Ie (.own hl) (Nat.lt_of_lt_of_le hk hz) (kO hk) h
theorem B8 {l:Addr} {ns:List Int} {k:Nat} {a:V} (ha:a= .ref l) (hl:H l=some (.list (nums ns))) (hz:ns.length<=1000) (h: ∀ c,H c=none->Q (.ref c) m (put H c (.list (nums (ns.take k))))):
  NU g Q .none (.int (0+(k:Int))) .none a m H:=
 ⟨l,nums ns,none,some (0+(k:Int)),none,ha, .own hl,uO hz, .none, .int _, .none,(fun q=>nomatch q),fun c hc=>by rw [Int.zero_add,qX,oh];exact h c hc⟩
theorem hY {l:Addr} {ns:List Int} {k:Nat} {i:Int} {a:V} (hi:i=(k:Int)) (ha:a= .ref l) (hl:H l=some (.list (nums ns))) (hz:ns.length<=1000) (h: ∀ c,H c=none->Q (.ref c) m (put H c (.list (nums (ns.drop k))))):
  NU g Q (.int i) .none .none a m H:=
 ⟨l,nums ns,some i,none,none,ha, .own hl,uO hz, .int _, .none, .none,(fun q=>nomatch q),fun c hc=>by rw [hi,mz,oj];exact h c hc⟩
theorem wF (bk:List (Addr×List Int)):bk.flatMap (qZ (fun z0=>true) (fun p=>p.2) (fun z0 z0=>true) fun z0 n=>V.int n)=nums (tl bk).flatten:=by
 unfold tl nums
 rw [List.flatten_eq_flatMap,List.map_flatMap,List.flatMap_map]
 congr 1;funext p
 unfold qZ
 rw [if_pos rfl,List.filter_eq_self.mpr fun z0 z0=>rfl];rfl
theorem rm {bk:List (Addr×List Int)} {lt:Addr} (t:TB H lt bk):(tl bk).flatten.length<=120:=by
 have: ∀ ps:List (Addr×List Int),(∀ p∈ps,p.2.length<=3)->(tl ps).flatten.length<=3*ps.length:=by
  intro ps h
  induction ps with
  | nil=>exact Nat.zero_le _
  | cons p ps ih=>
   unfold tl at ih|-
   rw [List.map_cons,List.flatten_cons,List.length_append,List.length_cons,Nat.mul_succ,Nat.add_comm]
   exact Nat.add_le_add (ih fun q hq=>h q (List.mem_cons_of_mem _ hq)) (h p List.mem_cons_self)
 exact Nat.le_trans (this bk t.sz) (Nat.mul_le_mul_left 3 t.few)
theorem fu (D:Gd g) (hl:F.lvl<90) (hh:F.A.handled=none) {lt:Addr} {bk:List (Addr×List Int)} (t:TB H lt bk) (h: ∀ l H',Ext H H'->H l=none->H' l=some (.list (nums (aN (tl bk))))->Q (.ref l) m H'):aH g F (.ref 167) [.ref lt] m H Q X:=by
 refine cC (D.lk rfl) (D.cd rfl) rfl rfl rfl rfl rfl rfl rfl (du hl rfl) (a7 (fun vs=>[("told",vs.getD 0 .none)]) (fun vs S hv=> ?_) (fun h vs r=> ?_)) (bs:=[("told", .ref lt)]) rfl fun F' hF=> ?_
 .obtain ⟨v,rfl⟩:=oU hv;rw [D.K];rfl
 .obtain ⟨v,r',rfl,rv,rr⟩:=r.aG;exact ⟨v,[],rfl,rv,rfl⟩
 refine ae<|cX (by first | exact .inl (bA hF.scope rfl) | exact .inr (bA hF.scope rfl)) (hF.gb rfl) (aM.of hF rfl rfl) (fun z0=>rfl) (.inl (hF.hh hh)) hF.st (fun Fc acc it=>jf ..)<|aa rfl<|
  jz (xs:=bk) (.inl (hF.hh hh)) hF.st (fun p=> .ref p.1) (fun z0=>true) (fun p=>p.2) (fun z0 z0=>true) (fun z0 n=> .int n) hW hX (fun H' e=>e _ _ t.top) rfl rfl (by decide) (Nat.le_trans t.few (by decide)) (fun p hp=>Nat.le_trans (t.sz p hp) (by decide)) (fun z0 z0=>rfl)
   (fun Fc hC p hp m' H' z0 z0 e=>cA ⟨rfl,rfl, .refl _⟩) (fun Fc hC p hp z0 m' H' z0 mx e=>aa mx ⟨p.1,rfl,rfl, .refl _,e _ _ (t.each p hp)⟩)
   (fun Fc hC p hp z0 n hn m' H' z0 z0 z0 e=>cA ⟨rfl,rfl, .refl _⟩) (fun Fc hC p hp z0 n hn z0 m' H' z0 z0 my e=>aa my ⟨rfl,rfl, .refl _⟩) fun H1 e1 lr hr=> ?_
 rw [wF]
 have fz:=rm t
 unfold aN at h
 generalize (tl bk).flatten=row at h fz
 have hz:row.length<=1000:=Nat.le_trans fz (by decide)
 refine ae<|dW<|dK (aM.of hF rfl rfl) (fun z0=>rfl) (.inl (hF.hh hh)) hF.st (fun Fc acc it=>bz ..)<|aJ<|bN (hF.cR rfl) (D.nb rfl) D.range (aX<|ai (.type _)<|af<|aJ<|bN (hF.cR rfl) (D.nb rfl) D.len (aX<|ai (.blt _)<|af<|aa rfl<|aj<|gB (.own (ag ..)) (fc hz)<|aj<|qJ ?_))
 rw [ints_length]
 refine cG (xs:=List.range row.length) (fun k=> .int (0+(k:Int))) (fun k=> !(row.take k).contains (row.getD k 0)) (fun k=> .int (row.getD k 0)) (u0 hz) u3 (fun z0 z0=>trivial) rfl (by rw [List.length_range];exact hz)
  (fun Fc hC k hk m' H' sees mk e=>bQ<|aO rfl<|b8<|aa ((sees _ rfl).trans rfl)<|aa mk<|iS (e _ _ (ag ..)) (List.mem_range.mp hk) hz<|d8<|aa ((sees _ rfl).trans rfl)<|cB<|fK<|aa mk<|cB<|B8 rfl (e _ _ (ag ..)) hz fun c hc=>jX (ag ..)<|aq ⟨rfl,rfl,(Ext.refl _).put hc⟩)
  (fun Fc hC k hk z0 m' H' sees mk e=>b8<|aa ((sees _ rfl).trans rfl)<|aa mk<|iS (e _ _ (ag ..)) (List.mem_range.mp hk) hz ⟨rfl,rfl, .refl _⟩) fun H2 e2 l nj=> ?_
 have e3:=(e1.put (o:= .list (nums row)) hr).trans e2
 refine h l _ (e3.put nj) (e3.no nj) ?_
 rw [ag]
 unfold cH nums
 rw [List.map_map];rfl
end
theorem wG (bk:List (Addr×List Int)) (over:List Int) (v:Int):bk.flatMap (qZ (fun p=>p.2.getD 0 0 == v) (fun p=>p.2.drop 1) (fun z0 w=> !over.contains w) fun z0 n=>V.int n)=nums (bV (tl bk) over v):=by
 unfold tl nums bV
 rw [List.map_flatMap,List.flatMap_map]
 congr 1;funext p
 unfold qZ
 split <;> rfl
theorem rn {bk:List (Addr×List Int)} {H:AH} {lt:Addr} (t:TB H lt bk) (over:List Int) (v:Int):(bV (tl bk) over v).length<=200:=by
 have: ∀ ps:List (Addr×List Int),(∀ p∈ps,p.2.length<=3)->(bV (tl ps) over v).length<=3*ps.length:=by
  intro ps h
  induction ps with
  | nil=>exact Nat.zero_le _
  | cons p ps ih=>
   unfold tl bV at ih|-
   rw [List.map_cons,List.flatMap_cons,List.length_append,List.length_cons,Nat.mul_succ,Nat.add_comm]
   refine Nat.add_le_add (ih fun q hq=>h q (List.mem_cons_of_mem _ hq)) ?_
   split
   .exact Nat.le_trans (List.length_filter_le _ _) (Nat.le_trans (by rw [List.length_drop];exact Nat.sub_le ..) (h p List.mem_cons_self))
   .exact Nat.zero_le _
 exact Nat.le_trans (this bk t.sz) (Nat.le_trans (Nat.mul_le_mul_left 3 t.few) (by decide))
section
variable {g:G} {F:Fm} {m:Loc} {H:AH} {X:PX} {Q:PV}
theorem ia {l:Addr} {ns:List Int} (hl:H l=some (.list (nums ns))) (hk:ns≠[]) (h:Q (.int (ns.getD 0 0)) m H):GI g F (.ref l) (.int 0) m H Q X:=
 gj (.own hl) (o_item (.own hl) (by decide) (by decide) (kO (k:=0) (List.length_pos_iff.mpr hk)) h)
theorem zT {a b:Addr} {ns:List Int} (ha:H a=some (.list (nums ns))) (hb:H b=some (.list [])) (h:Q (.bool ns.isEmpty) m H):W2 g F VR (.ref a) (.ref b) (compareOp .Eq) m H Q X:=
 HR (.own ha) (.own hb) (jT _) rfl (pE _) (by
  have e:fB (nums ns) []=ns.isEmpty:=by
   have:=nX ns []
   rw [show nums []=[] from rfl] at this
   rw [this];cases ns <;> rfl
  rw [e];exact h)
theorem jY (D:Gd g) (hl:F.lvl<90) (hh:F.A.handled=none) {lt lo:Addr} {bk:List (Addr×List Int)} {over:List Int} {v:Int} (t:TB H lt bk) (ho:H lo=some (.list (nums over))) (h: ∀ l H',Ext H H'->H l=none->H' l=some (.list (nums (bV (tl bk) over v)))->Q (.ref l) m H'):aH g F (.ref 172) [.ref lt, .ref lo, .int v] m H Q X:=by
 refine cC (D.lk rfl) (D.cd rfl) rfl rfl rfl rfl rfl rfl rfl (du hl rfl) (a7 (fun vs=>[("told",vs.getD 0 .none),("over",vs.getD 1 .none),("v",vs.getD 2 .none)]) (fun vs S hv=> ?_) (fun h vs r=> ?_)) (bs:=[("told", .ref lt),("over", .ref lo),("v", .int v)]) rfl fun F' hF=> ?_
 .obtain ⟨v,u,w,rfl⟩:=DX hv;rw [D.K];rfl
 .obtain ⟨v,r',rfl,rv,rr⟩:=r.aG;obtain ⟨u,r',rfl,ru,rr⟩:=rr.aG;obtain ⟨w,r',rfl,uI,rr⟩:=rr.aG;exact ⟨v,_,rfl,rv,u,_,rfl,ru,w,[],rfl,uI,rfl⟩
 refine ae<|dW<|dK (aM.of hF rfl rfl) (fun z0=>rfl) (.inl (hF.hh hh)) hF.st (fun Fc acc it=>jf ..)<|aa rfl<|
  jz (xs:=bk) (.inl (hF.hh hh)) hF.st (fun p=> .ref p.1) (fun p=>p.2.getD 0 0 == v) (fun p=>p.2.drop 1) (fun z0 w=> !over.contains w) (fun z0 n=> .int n) hW hX (fun H' e=>e _ _ t.top) rfl rfl (by decide) (Nat.le_trans t.few (by decide)) (fun p hp=>Nat.le_trans (by rw [List.length_drop];exact Nat.sub_le ..) (Nat.le_trans (t.sz p hp) (by decide))) (fun z0 z0=>rfl)
   (fun Fc hC p hp m' H' sees mp e=>bQ<|aO rfl<|b8<|aa mp<|aK<|ia (e _ _ (t.each p hp)) (t.ne p hp)<|aa ((sees _ rfl).trans rfl)<|j4<|aq ⟨rfl,rfl, .refl _⟩)
   (fun Fc hC p hp z0 m' H' z0 mp e=>d8<|aa mp<|fK<|aK<|cB<|cB<|hY (k:=1) (i:=1) rfl rfl (e _ _ (t.each p hp)) (Nat.le_trans (t.sz p hp) (by decide)) fun c hc=>⟨c,rfl,rfl,(Ext.refl _).put hc,ag ..⟩)
   (fun Fc hC p hp z0 n hn m' H' sees z0 my e=>bQ<|aO rfl<|aa my<|aa ((sees _ rfl).trans rfl)<|jX (e _ _ ho)<|aq ⟨rfl,rfl, .refl _⟩)
   (fun Fc hC p hp z0 n hn z0 m' H' z0 z0 my e=>aa my ⟨rfl,rfl, .refl _⟩) fun H1 e1 lr hr=> ?_
 refine h lr _ (e1.put hr) (e1.no hr) ?_
 rw [ag,wG]
theorem rq (bk:List (Addr×List Int)) (u:Int):(bk.filter fun p=>(p.2.drop 1).contains u).map (fun p=>V.int (p.2.getD 0 0))=nums (cN (tl bk) u):=by
 unfold tl nums cN
 rw [List.filter_map,List.map_map,List.map_map];rfl
theorem oq {bk:List (Addr×List Int)} {lt:Addr} (t:TB H lt bk) (u:Int):(cN (tl bk) u).length<=1000:=by
 unfold cN tl
 rw [List.length_map]
 exact Nat.le_trans (List.length_filter_le _ _) (by rw [List.length_map];exact Nat.le_trans t.few (by decide))
theorem zU (D:Gd g) (hl:F.lvl<80) (hh:F.A.handled=none) {lt lo:Addr} {bk:List (Addr×List Int)} {over:List Int} {u:Int} (t:TB H lt bk) (ho:H lo=some (.list (nums over))) (hu:over[over.length-1]? =some u) (h: ∀ l H',Ext H H'->H l=none->H' l=some (.list (nums (iq (tl bk) over u)))->Q (.ref l) m H'):aH g F (.ref 194) [.ref lt, .ref lo] m H Q X:=by
 refine cC (D.lk rfl) (D.cd rfl) rfl rfl rfl rfl rfl rfl rfl (du hl rfl) (a7 (fun vs=>[("told",vs.getD 0 .none),("over",vs.getD 1 .none)]) (fun vs S hv=> ?_) (fun h vs r=> ?_)) (bs:=[("told", .ref lt),("over", .ref lo)]) rfl fun F' hF=> ?_
 .obtain ⟨v,u,rfl⟩:=vv hv;rw [D.K];rfl
 .obtain ⟨v,r',rfl,rv,rr⟩:=r.aG;obtain ⟨u,r',rfl,ru,rr⟩:=rr.aG;exact ⟨v,_,rfl,rv,u,[],rfl,ru,rfl⟩
 have vL:(nums over)[(nums over).length-1]? =some (.int u):=by rw [ints_length];unfold nums;rw [List.getElem?_map,hu];rfl
 refine ae<|cX (by first | exact .inl (bA hF.scope rfl) | exact .inr (bA hF.scope rfl)) (hF.gb rfl) (aM.of hF rfl rfl) (fun z0=>rfl) (.inl (hF.hh hh)) hF.st (fun Fc acc it=>bz ..)<|aa rfl<|
  cG (xs:=bk) (fun p=> .ref p.1) (fun p=>(p.2.drop 1).contains u) (fun p=> .int (p.2.getD 0 0)) hW hX (fun H' e=>e _ _ t.top) rfl (Nat.le_trans t.few (by decide))
   (fun Fc hC p hp m' H' sees mp e=>bQ<|aO rfl<|b8<|aa ((sees _ rfl).trans rfl)<|xO<|aK<|qG<|gj (.own (e _ _ ho))<|sR (.own (e _ _ ho)) vL<|d8<|aa mp<|fK<|aK<|cB<|cB<|hY (k:=1) (i:=1) rfl rfl (e _ _ (t.each p hp)) (Nat.le_trans (t.sz p hp) (by decide)) fun c hc=>om (ag ..)<|aq ⟨rfl,rfl,(Ext.refl _).put hc⟩)
   (fun Fc hC p hp z0 m' H' z0 mp e=>b8<|aa mp<|aK<|ia (e _ _ (t.each p hp)) (t.ne p hp) ⟨rfl,rfl, .refl _⟩) fun H1 e1 lr hr=> ?_
 rw [rq]
 have hz:=oq t u
 unfold iq at h
 generalize cN (tl bk) u=row at h hz
 have eL:=e1.put (o:= .list (nums row)) hr
 refine ae<|dW<|dK (aM.of hF rfl rfl) (fun z0=>rfl) (.inl (hF.hh hh)) hF.st (fun Fc acc it=>bz ..)<|aJ<|bN (hF.cR rfl) (D.nb rfl) D.range (aX<|ai (.type _)<|af<|aJ<|bN (hF.cR rfl) (D.nb rfl) D.len (aX<|ai (.blt _)<|af<|aa rfl<|aj<|gB (.own (ag ..)) (fc hz)<|aj<|qJ ?_))
 rw [ints_length]
 refine cG (xs:=List.range row.length) (fun k=> .int (0+(k:Int))) (fun k=> !(row.drop (k+1)).contains (row.getD k 0) && (bV (tl bk) over (row.getD k 0)).isEmpty) (fun k=> .int (row.getD k 0)) (u0 hz) u3 (fun z0 z0=>trivial) rfl (by rw [List.length_range];exact hz)
  (fun Fc hC k hk m' H' sees mk e=>bQ<|iM<|nL<|aO rfl<|b8<|aa ((sees _ rfl).trans rfl)<|aa mk<|iS (e _ _ (ag ..)) (List.mem_range.mp hk) hz<|d8<|aa ((sees _ rfl).trans rfl)<|fK<|bx<|aa mk<|aK<|yM<|cB<|cB<|hY (k:=k+1) (by rw [Int.zero_add];rfl) rfl (e _ _ (ag ..)) hz fun c hc=>jX (ag ..)<|aq ?_)
  (fun Fc hC k hk z0 m' H' sees mk e=>b8<|aa ((sees _ rfl).trans rfl)<|aa mk<|iS (e _ _ (ag ..)) (List.mem_range.mp hk) hz ⟨rfl,rfl, .refl _⟩) fun H2 e2 l nj=> ?_
 .have e5:=(Ext.refl H').put (o:= .list (nums (row.drop (k+1)))) hc
  cases q:(row.drop (k+1)).contains (row.getD k 0) with
  | true=>exact ⟨rfl,rfl,e5⟩
  | false=>
   refine nL<|aO rfl<|aJ<|bp (hC.cR rfl) (D.nb rfl) (fun z0=> .dT _) (aX<|ai (D.kp rfl)<|af<|aa ((sees _ rfl).trans rfl)<|af<|aa ((sees _ rfl).trans rfl)<|af<|b8<|aa ((sees _ rfl).trans rfl)<|aa mk<|iS (e5 _ _ (e _ _ (ag ..))) (List.mem_range.mp hk) hz<|aj<|aH.call<|
    jY D (hC.lv (hF.lv hl rfl)) (hC.hh (hF.hh hh)) (t.ext ((eL.trans e).trans e5)) (((eL.trans e).trans e5) _ _ ho) fun l H3 e3 z0 Fj=>aT<|aj ⟨Nat.le_of_ble_eq_true rfl,fun b hb=>zT ((Ext.refl H3).put hb _ _ Fj) (ag ..)<|aq ?_⟩)
   have e6:=(e5.trans e3).put (o:= .list []) hb
   cases z:(bV (tl bk) over (row.getD k 0)).isEmpty with
   | true=>exact jO ⟨rfl,rfl,e6⟩
   | false=>exact ⟨rfl,rfl,e6⟩
 .have e3:=eL.trans e2
  refine h l _ (e3.put nj) (e3.no nj) ?_
  rw [ag]
  unfold nums
  rw [List.map_map];rfl
end
theorem Fn (p:Params):uM (Mine.kx.heap_1 p) 137 "add" 87:=⟨rfl,rfl,rfl,rfl,rfl,rfl,rfl,rfl⟩
theorem zV {rows:List Row} {k:Int} {na la:Addr} (hn:cl k∉rows.map (cl ·.k)):dput (ao rows) k (.ref na)=ao (rows++[⟨k,na,0,la,[]⟩]):=by
 rw [qV (by unfold ao;rw [List.map_map];exact hn)]
 unfold ao;rw [List.map_append];rfl
section
variable {g:G} {F:Fm} {m:Loc} {H:AH} {X:PX} {Q:PV} {σ:au} {B:List (Addr×O)}
theorem kb (D:Gd g) (hl:F.lvl<70) (hh:F.A.handled=none) {k:Int} {own:Bool} (s:Sat H (σ.lay++B)) (hz:σ.rows.length<1000)
  (h: ∀ (bI:au) (r:Row) (H':AH),bI.x=σ.x->bI.abs=σ.abs.ku k->r∈bI.rows->cl r.k=cl k->Sat H' (bI.lay++B)->Q (.ref r.na) m H'):aH g F (.ref 155) [.ref σ.x,cd k, .bool own] m H Q X:=by
 have A:=D.ns
 have M:=C8 g.w.params
 rw [<- D.K] at M
 refine cC (D.lk rfl) (D.cd rfl) rfl rfl rfl rfl rfl rfl rfl (du hl rfl) (a7 (fun vs=>[("sorter",vs.getD 0 .none),("name",vs.getD 1 .none),("own",vs.getD 2 .none)]) (fun vs S hv=> ?_) (fun h vs r=> ?_)) (bs:=[("sorter", .ref σ.x),("name",cd k),("own", .bool own)]) rfl fun F' hF=> ?_
 .obtain ⟨v,u,w,rfl⟩:=DX hv;rw [D.K];rfl
 .obtain ⟨v,r',rfl,rv,rr⟩:=r.aG;obtain ⟨u,r',rfl,ru,rr⟩:=rr.aG;obtain ⟨w,r',rfl,uI,rr⟩:=rr.aG;exact ⟨v,_,rfl,rv,u,_,rfl,ru,w,[],rfl,uI,rfl⟩
 refine ae<|cq<|ue<|j1<|aa rfl<|aq ?_
 cases own with
 | false=>exact ae<|dW<|bg<|aa rfl<|bU (b7 M (au.inst s) (au.ns s) rfl)<|ai (D.kp rfl)<|af<|aa rfl<|aj<|aH.call<|lY D (hF.lv hl rfl) s hz fun gQ r1 H1 ex ea z0 hr hk s1=>h gQ r1 H1 ex ea hr hk s1
 | true=>
  refine aC<|ae<|cq<|aO rfl<|aa rfl<|aQ<|aa rfl<|bO A.n2 (au.inst s) (au.ns s) (x:= .ref σ.d) rfl rfl<|Ew (au.dict s)<|aq ?_
  have fin: ∀ (gQ:au) (r:Row) (m1:Loc) (H1:AH),gQ.x=σ.x->gQ.abs=σ.abs.ku k->dQ gQ.rows k=some r->Sat H1 (gQ.lay++B)->m1 "sorter"=some (.ref σ.x)->m1 "name"=some (cd k)->
    ∀ {p1 p2 p3 p4 p5:Pos},WS g F' (execs [.Return (some (.Subscript (.Attribute (.Name "sorter" p1) "_node2info" p2) (.Name "name" p3) p4)) p5] F'.env) m1 H1 (xM Q Fl.val m) (vp X m):=by
   intro gQ r m1 H1 ex ea er s1 n1 n2 p1 p2 p3 p4 p5
   obtain ⟨hr,hk⟩:=dR er
   exact ae<|dW<|b8<|aQ<|aa (by exact n1)<|bO A.n2 (ex▸au.inst s1) (au.ns s1) (x:= .ref gQ.d) rfl rfl<|aa (by exact n2)<|jq (au.dict s1)<|jo (au.dict s1) (by rw [fW,er];rfl)<|h gQ r H1 ex ea hr hk s1
  rw [fW]
  cases q:dQ σ.rows k with
  | some r=>
   obtain ⟨hr,hk⟩:=dR q
   refine aC (fin σ r _ H rfl ?_ q s rfl rfl)
   unfold PS.ku
   rw [if_pos (by rw [au.aR];rw [<- hk];exact List.mem_map_of_mem (f:=fun r:Row=>cl r.k) hr)]
  | none=>
   refine ae<|bF rfl rfl rfl<|aJ<|bp (hF.cR rfl) (D.nb rfl) (fun z0=> .dT _)<|aX<|ai (D.kp rfl)<|af<|aa rfl<|aj<|aH.call<|iG D (hF.lv hl rfl) s fun na la H' s'=> ?_
   have sx:=s'.tail (A:=[_,_])
   refine yt (aQ (aa rfl (bO A.n2 (au.inst sx) (au.ns sx) (x:= .ref σ.d) rfl rfl (aa rfl (sS (au.dict sx) (by unfold ao;rw [List.length_map];exact Dv hz) fun dh=> ?_)))))
   have hn:=fg q
   rw [zV (la:=la) hn]
   have sf:=au.newRow (ep:=dh) sx s'
   refine aC (fin ⟨σ.x,σ.dx,σ.d,dh,σ.rows++[⟨k,na,0,la,[]⟩],σ.rd,σ.po,σ.nf⟩ ⟨k,na,0,la,[]⟩ _ _ rfl ?_ ?_ sf rfl rfl)
   .unfold PS.ku
    rw [if_neg (by rw [au.aR];exact hn)]
    unfold au.abs
    simp [Row.abs]
   .unfold dQ at q|-
    rw [List.find?_append,q];simp
end
structure TI (σ:au) (B:List (Addr×O)) (k:Int) (ps:List Int) (how:Int) (ln:Addr) (i:Nat) (m':Loc) (H':AH) (cI:au):Prop where
 ex:cI.x=σ.x
 ei:cI.abs=(ps.take i).foldl (fun p q=>p.tell k q) ((σ.abs.ku k).upd k fun r=>{ r with np:=r.np+ps.length })
 nd:cI.abs.names.Nodup
 fi:cI.abs.fits (701+2*i)
 si:Sat H' (cI.lay++B)
 m1:m' "sorter"=some (.ref σ.x)
 m2:m' "how"=some (.int how)
 m3:m' "name"=some (cd k)
section
variable {g:G} {F:Fm} {m:Loc} {H:AH} {X:PX} {Q:PV} {σ:au} {B:List (Addr×O)}
theorem wH (D:Gd g) (hl:F.lvl<60) (hh:F.A.handled=none) {k how:Int} {ps:List Int} {ln:Addr} (we:ps.length<=9) (s:Sat H (σ.lay++B)) (hb:(ln, .list (a8 ps))∈B) (hk:σ.abs.names.Nodup) (hf:σ.abs.fits 700) (de:σ.rd=none)
  (h: ∀ (bI:au) (H':AH),bI.x=σ.x->bI.abs=σ.abs.add k ps->Sat H' (bI.lay++B)->Q .none m H'):aH g F (.ref 162) [.ref σ.x, .int how,cd k, .ref ln] m H Q X:=by
 have A:=D.ns
 have A2:=D.sl
 have M:=Fn g.w.params
 rw [<- D.K] at M
 have OC: ∀ {bI:au} {H':AH},Sat H' (bI.lay++B)->H' ln=some (.list (a8 ps)):=fun z=>z.get (List.mem_append_right _ hb)
 refine cC (D.lk rfl) (D.cd rfl) rfl rfl rfl rfl rfl rfl rfl (du hl rfl) (a7 (fun vs=>[("sorter",vs.getD 0 .none),("how",vs.getD 1 .none),("name",vs.getD 2 .none),("needs",vs.getD 3 .none)]) (fun vs S hv=> ?_) (fun h vs r=> ?_)) (bs:=[("sorter", .ref σ.x),("how", .int how),("name",cd k),("needs", .ref ln)]) rfl fun F' hF=> ?_
 .obtain ⟨v,u,w,z,rfl⟩:=GH hv;rw [D.K];rfl
 .obtain ⟨v,r',rfl,rv,rr⟩:=r.aG;obtain ⟨u,r',rfl,ru,rr⟩:=rr.aG;obtain ⟨w,r',rfl,uI,rr⟩:=rr.aG;obtain ⟨z,r',rfl,rz,rr⟩:=rr.aG;exact ⟨v,_,rfl,rv,u,_,rfl,ru,w,_,rfl,uI,z,[],rfl,rz,rfl⟩
 refine ae<|cq<|aO rfl<|aa rfl<|aK<|vU<|aq ?_
 by_cases q:how<5
 .rw [if_pos (decide_eq_true q)]
  refine ae<|dW<|uN<|aa rfl ⟨_,137,_,_,87,rfl,au.inst s,au.ns s,M,rfl,v9<|aa rfl<|aa rfl ⟨a8 ps,⟨by rw [aw,sizeLine_eq];exact Lz we, .inr ⟨ln,rfl, .own (OC s)⟩⟩, ?_⟩⟩
  refine zA (σ:=σ) D (hF.lv hl rfl) (hF.hh hh) we s hk hf ?_
  rw [de]
  exact fun bI H' ex ea s'=>h bI H' ex ea s'
 .rw [if_neg (by simpa using q)]
  refine aC<|ae<|aD (hF.loc rfl) rfl<|aJ<|bp (hF.cR rfl) (D.nb rfl) (fun z0=> .dT _)<|aX<|ai (D.kp rfl)<|af<|aa rfl<|af<|aa rfl<|af<|gy rfl<|aa rfl<|aK<|Eo<|aj<|aH.call<|kb D (hF.lv hl rfl) (hF.hh hh) s (by have:=(au.dv hf).1;exact Ly this) fun gQ r1 H1 ex ea zy Ig s1=> ?_
  have td:(gQ.rows.map (cl ·.k)).Nodup:=by rw [<- au.aR,ea];exact PS.hO hk k
  have EL:gQ.abs.fits 701:=by rw [ea];exact PS.fX hf k
  refine ae<|fT<|aa rfl<|dN A2.np (au.node s1 zy) rfl rfl<|aJ<|bN (hF.cR rfl) (D.nb rfl) D.len<|aX<|ai (.blt _)<|af<|aa rfl<|aj<|gB (.own (OC s1)) (by rw [aw];exact Lw we)<|pz<|dq A2.np (au.node s1 zy) (Nat.le_of_ble_eq_true rfl) ?_
  have s2:=au.jw s1 zy td (r1.np+(a8 ps).length)
  have e2:(gQ.upd r1.k fun r=>{ r with np:=r1.np+(a8 ps).length }).abs=(σ.abs.ku k).upd k fun r=>{ r with np:=r.np+ps.length }:=by rw [zx _ ea zy Ig td,aw]
  have C9:(gQ.upd r1.k fun r=>{ r with np:=r1.np+(a8 ps).length }).abs.names.Nodup:=by rw [au.aR,au.jv gQ r1.k (fun r=>{ r with np:=r1.np+(a8 ps).length }) (fun z0=>rfl)];exact td
  have BK:(gQ.upd r1.k fun r=>{ r with np:=r1.np+(a8 ps).length }).abs.fits 701:=by
   rw [e2];exact PS.jx (k:=0) (by rw [<- ea];exact EL) k _ fun r=>Nat.le_refl _
  obtain ⟨ng,kv⟩: ∃ z,z=(gQ.upd r1.k fun r=>{ r with np:=r1.np+(a8 ps).length }):=⟨_,rfl⟩
  have pW:ng.x=gQ.x:=by rw [kv];rfl
  rw [<- kv] at s2 e2 C9 BK
  refine ae<|gL (fun z0=>rfl)<|aa rfl<|c7 g6 (fun i m' H'=> ∃ cI,TI σ B k ps how ln i m' H' cI) (.inl (hF.hh hh)) hF.st (fun i m' H' j=>j.elim fun cI j=>OC j.si) ⟨ng,pW.trans ex,e2,C9,BK,s2,rfl,rfl,rfl⟩ (fun i m' H' hi j R hR=>j.elim fun cI j=> ?_) (fun m' H' j=>j.elim fun cI j=> ?_)
  .have eB:i<ps.length:=by rw [aw] at hi;exact hi
   rw [jr eB]
   have fa:=(au.dv j.fi)
   refine bH (hF.loc rfl)<|ae<|eN<|bg<|aQ<|aJ<|bp (hF.cR rfl) (D.nb rfl) (fun z0=> .dT _)<|aX<|ai (D.kp rfl)<|af<|aa (by exact j.m1.trans (by rw [<- j.ex]))<|af<|aa rfl<|af<|gy rfl<|aa (by exact j.m2)<|aK<|Eo<|aj<|aH.call<|kb D (hF.lv hl rfl) (hF.hh hh) j.si (by exact Ls fa we eB) fun pI r3 H3 JB EX pJ Ii s3=> ?_
   have EY:(pI.rows.map (cl ·.k)).Nodup:=by rw [<- au.aR,EX];exact PS.hO j.nd _
   have EZ:pI.abs.fits (701+2*i+1):=by rw [EX];exact PS.fX j.fi _
   refine dN A2.su (au.node s3 pJ) rfl rfl<|bU (bR (.own (au.ju s3 pJ)) PySem.F.slot_list_append PySem.F.type_list_append)<|ai (.blt _)<|af<|aa (by exact j.m3)<|aj<|dO (au.ju s3 pJ) (by rw [aw];have:=(au.dv EZ).2 r3 pJ;exact Lr this we eB) ?_
   have s4:=au.C6 s3 pJ EY (r3.su++[k])
   rw [jt]
   have e4:=zz (k:=k) EX pJ Ii EY
   have E0:(pI.upd r3.k fun r=>{ r with su:=r3.su++[k] }).abs.names.Nodup:=by rw [au.aR,au.jv pI r3.k (fun r=>{ r with su:=r3.su++[k] }) (fun z0=>rfl)];exact EY
   obtain ⟨n7,lZ⟩: ∃ z,z=(pI.upd r3.k fun r=>{ r with su:=r3.su++[k] }):=⟨_,rfl⟩
   have pK:n7.x=pI.x:=by rw [lZ];rfl
   rw [<- lZ] at s4 e4 E0
   refine aC (hR .next _ _ ⟨n7,(pK.trans JB).trans j.ex, ?_,E0, ?_,s4,j.m1,j.m2,j.m3⟩)
   .rw [e4,j.ei,List.take_add_one,List.getElem?_eq_getElem eB,List.foldl_append];rfl
   .rw [e4]
    unfold PS.tell
    exact PS.jx (k:=1) (PS.fX j.fi ps[i]) ps[i] (fun r=>{ r with su:=r.su++[k] }) fun r=>by simp
  .refine aC (aC (h cI H' j.ex ?_ j.si))
   rw [j.ei,aw,List.take_of_length_le (Nat.le_refl _)];rfl
end
end
noncomputable def u5:Option Obj->List Stmt
 | some ⟨_,_, .func fd,_⟩=>match fd.body with | .stmts b=>b | _=>[]
 | _=>[]
noncomputable def rA:Option Obj->Scope
 | some ⟨_,_, .func fd,_⟩=>fd.scope
 | _=>default
noncomputable abbrev lit {α:Type} {x:α} (_:x=x):α:=x
noncomputable def fL (P:Params):List Stmt:=by
 refine lit (x:= ?x) ?h
 case h=>
  have e:u5 ((kx.heap_1 P).lookup 184)= ?x:=by
   conv=>lhs;whnf
  exact rfl
noncomputable def jZ (P:Params):Scope:=by
 refine lit (x:= ?x) ?h
 case h=>
  have e:rA ((kx.heap_1 P).lookup 184)= ?x:=by
   conv=>lhs;whnf
  exact rfl
section
variable [ζ:bW]
structure cO (F1 F:Fm) (sc:Scope) (x:Str):Prop where
 kindOf: ∀ n,F1.env.kindOf n=sc.names.lookup n
 st:F1.stack≠[]
 handled:F1.A.handled=F.A.handled
 lvl:F1.lvl=F.lvl+1
 IK: ∀ n,n≠x->sc.names.lookup n=some .cell->Stores F1 n
 cells: ∀ n,sc.names.lookup n=some .cell-> ∃ c,F1.env.cells.lookup n=some c
theorem aI.q9 {F' F:Fm} {sc:Scope} {x:Str} {c:Addr} (hF:aI F' F sc) (qn: ∀ y c',y≠x->F'.env.cells.lookup y=some c'->c'≠c):cO (F'.q9 c) F sc x where
 kindOf:=hF.kindOf
 st:=hF.st
 handled:=hF.handled
 lvl:=hF.lvl
 IK:=fun n hn h=>(hF.cells n h).elim fun c' z=> .inr ⟨(hF.kindOf n).trans h,c',z.1,gS.mpr ⟨z.2,qn n c' hn z.1⟩⟩
 cells:=fun n h=>(hF.cells n h).elim fun c z=>⟨c,z.1⟩
section
variable {F1 F:Fm} {sc:Scope} {x:Str}
theorem cO.loc (hF:cO F1 F sc x) {n:Str} (h:sc.names.lookup n=some .local):Stores F1 n:= .inl ((hF.kindOf n).trans h)
theorem cO.gb (hF:cO F1 F sc x) {n:Str} (h:sc.names.lookup n=some .cell) (hn:n≠x:=by decide):Stores F1 n:=hF.IK n hn h
theorem cO.cR (hF:cO F1 F sc x) {n:Str} (h:sc.names.lookup n=some .globalImplicit):F1.env.kindOf n=some .globalImplicit:=(hF.kindOf n).trans h
theorem cO.hh (hF:cO F1 F sc x) (h:F.A.handled=none):F1.A.handled=none:=hF.handled.trans h
theorem cO.lv (hF:cO F1 F sc x) {a b:Nat} (hl:F.lvl<a) (h:Nat.ble (a+1) b=true):F1.lvl<b:=by rw [hF.lvl];exact Nat.lt_of_lt_of_le (Nat.succ_lt_succ hl) (Nat.le_of_ble_eq_true h)
theorem cO.comp (hF:cO F1 F sc x) {scope:Scope} (hk:scope.kind= .function) (h:tq sc.names scope.names=true):aM F1 scope:= .Qg hF.kindOf hF.cells hk h
end
theorem Dj.of {g:G} {env:Env} {sc:Scope} {cl:List (Str×Addr)} {mc:Loc} (C:mB env sc cl) (h: ∀ x,(x,NameKind.free)∈sc.names-> ∃ c a,env.cells.lookup x=some c/\g.B.IsCell c (some (.ref a))/\mc x=some (.ref a)/\(∀ y c',y≠x->env.cells.lookup y=some c'->c'≠c)/\sc.names.lookup x=some .free/\(x == ("__classdict__":Str))=false)
  (hm: ∀ x v,mc x=some v->(x,NameKind.free)∈sc.names):Dj g sc cl mc where
 cell:=fun x c e=>by
  obtain ⟨c',a,e1,ic,_⟩:=h x (C.only x c e)
  obtain rfl:=oi (C.up x c e) e1;exact ⟨_,ic⟩
 apart:=fun x y c e e'=>by
  obtain ⟨c',a,e1,_,_,ap,_⟩:=h x (C.only x c e)
  obtain rfl:=oi (C.up x c e) e1
  by_cases q:x=y
  .exact q
  .exact absurd rfl (ap y c (Ne.symm q) (C.up y c e'))
 val:=fun x v e=>by
  have hx:=hm x v e
  obtain ⟨c,a,e1,ic,em,_,hl,hn⟩:=h x hx
  obtain rfl:=oi em e
  obtain ⟨c',e2⟩:=C.all x hx
  have:=C.up x c' e2
  obtain rfl:=oi e1 this
  exact ⟨hl,hn,c,a,rfl,e2,ic⟩
structure Mu (l:Addr) (xs:List V) (K H:AH):Prop where
 no:K l=none
 is:H=put K l (.list xs)
section
variable {l:Addr} {xs ys:List V} {K H H':AH}
theorem Mu.at (x:Mu l xs K H):H l=some (.list xs):=by rw [x.is,ag]
theorem Mu.up (x:Mu l xs K H):Ext K H:=by rw [x.is];exact (Ext.refl K).put x.no
theorem Mu.start {a:Addr} {H:AH} (n:H a=none):Mu a xs H (put H a (.list xs)):=⟨n,rfl⟩
theorem Mu.app (x:Mu l xs K H):Mu l ys K (put H l (.list ys)):=⟨x.no,by
 rw [x.is];funext b;unfold put;by_cases q:b=l <;> simp [q]⟩
theorem Mu.ext (x:Mu l xs K H) (e:Ext H H'): ∃ K',Mu l xs K' H'/\Ext K K':=by
 refine ⟨Mine.rem H' l,⟨if_pos rfl, ?_⟩,fun a o h=> ?_⟩
 .funext b;unfold put Mine.rem
  by_cases q:b=l
  .subst q;rw [if_pos rfl];exact e _ _ x.at
  .rw [if_neg q,if_neg q]
 .have q:a≠l:=fun q=>by subst q;exact on x.no h
  unfold Mine.rem;rw [if_neg q];exact e _ _ (x.up _ _ h)
end
end
theorem zW (p:Params):j2 (Mine.kx.heap_1 p) 137 "prepare" 92:=⟨rfl,rfl,rfl⟩
theorem zX (p:Params):j2 (Mine.kx.heap_1 p) 137 "get_ready" 99:=⟨rfl,rfl,rfl⟩
theorem Fo (p:Params):j2 (Mine.kx.heap_1 p) 137 "done" 120:=⟨rfl,rfl,rfl⟩
noncomputable abbrev OD:Arguments:={ posonlyargs:=[],args:=[],vararg:=none,kwonlyargs:=[],kw_defaults:=[],kwarg:=none,defaults:=[] }
theorem tB {sc:Scope} (hk:sc.kind= .function) (vu:sc.isCoroutine=false) (hg:sc.isGenerator=false) (hn:(sc.names.all fun y=>y.2 == .free)=true):Fg OD sc:=
 ⟨fun z0 z0 z0 z0 z0 z0=>rfl,hk,vu,hg,fun x hx q=>by have:=List.all_eq_true.mp hn x hx;rw [q] at this;exact absurd this (by decide)⟩
noncomputable abbrev refusal (w:Str):V:= .tup [.bool true, .tup [.str w]]
noncomputable def kB:Option (List Int)->List Int->List Int->List V
 | none,_,_=>[refusal "prepare() must be called first",refusal "prepare() must be called first",refusal "prepare() must be called first"]
 | some r,out,over=>[.bool (decide ((over.length:Int)<out.length) || !r.isEmpty),refusal "cannot prepare() more than once",refusal "Nodes cannot be added after a call to prepare()"]
section
variable [ζ:bW]
theorem wI {g:G} {env:Env} {x:Str} {a c:Addr} {sc:Scope} {cl:List (Str×Addr)} (C:mB env sc cl) (hs:sc.names=[(x, .free)]) (hn:(x == ("__classdict__":Str))=false) (hc:env.cells.lookup x=some c) (ic:g.B.IsCell c (some (.ref a))) (qn: ∀ y c',y≠x->env.cells.lookup y=some c'->c'≠c):
  Dj g sc cl (bw (fun z0=>none) x (.ref a)):=by
 refine .of C (fun y hy=> ?_) fun y v e=> ?_
 .rw [hs,List.mem_singleton] at hy
  obtain rfl:y=x:=congrArg Prod.fst hy
  exact ⟨c,a,hc,ic,aY ..,qn,by rw [hs,List.lookup_cons,beq_self_eq_true],hn⟩
 .unfold bw at e
  by_cases q:y=x
  .subst q;rw [hs];exact List.mem_singleton_self _
  .exact on (if_neg q) e
noncomputable def Gives (g:G) (K:AH) (lv:Nat) (f:Addr) (r:V):Prop:= ∀ (F:Fm) (m:Loc) (H':AH) (Q:PV) (X:PX),F.lvl<lv->F.A.handled=none->Ext K H'->(∀ kl,Ext H' kl->Q r m kl)->aH g F (.ref 179) [.ref f] m H' Q X
theorem Gives.ext {g:G} {K K':AH} {lv:Nat} {f:Addr} {r:V} (x:Gives g K lv f r) (e:Ext K K'):Gives g K' lv f r:=fun F m H' Q X h1 h2 h3 h4=>x F m H' Q X h1 h2 (e.trans h3) h4
section
variable {g:G} {F F1:Fm} {m:Loc} {H K:AH} {X:PX} {Q:eI} {σ:au} {B:List (Addr×O)}
theorem f7 (D:Gd g) {lv:Nat} (Fp:lv<=80) {f:Addr} {ar:Arguments} {body:Expr} {sc:Scope} {cl:List (Str×Addr)} {q:Str} {mc:Loc} {r:V} (hf:K f=some (.lam ar body sc cl q)) (lk:Fg ar sc) (hC:Dj g sc cl mc)
  (h: ∀ F2 H2 (Q2:V->AH->Prop),F2.lvl<lv+2->Fh F2 sc cl->Ext K H2->(∀ H3,Ext H2 H3->Q2 r H3)->WE g F2 (eval body F2.env) mc H2 (fun a z0 H'=>Q2 a H') (fun c as z0 H'=>c= .type "ValueError"/\as.all oa=true/\Q2 (.tup [.bool true, .tup as]) H')):Gives g K lv f r:=
 fun F m H' Q X hl hh e hq=>og D (Nat.lt_of_lt_of_le hl Fp) hh (e _ _ hf) lk hC fun F2 h2 h3=>h F2 H' (fun a H=>Q a m H) (by rw [h2];exact Nat.add_lt_add_right hl 2) h3 e hq
theorem Wt.pv {t:Sem Value} {v:V} {Q:PV} (h:WE g F t m H (Pv v m H) X) (k: ∀ H',Ext H H'->Q v m H'):WE g F t m H Q X:=h.post fun z0 z0 z0 z=>by
 obtain ⟨rfl,rfl,e⟩:=z;exact k _ e
theorem pP {α:Type} {xs:List α} {val:α->V} {l:Addr}:bS g (.ref l) xs.length (fun i=>(xs.map val).getD i .none) (fun H=>H l=some (.list (xs.map val))):=by
 have:=g6 (g:=g) (l:=l) (xs:=xs.map val)
 rwa [List.length_map] at this
theorem pQ {α:Type} {xs:List α} {val:α->V} (i:Nat) (h:i<xs.length):(xs.map val).getD i .none=val xs[i]:=by
 rw [List.getD_eq_getElem?_getD,List.getElem?_map,List.getElem?_eq_getElem h];rfl
structure RA (g:G) (P:Prop) (H:AH) (lv:Nat) (pre xs:List V) (m0 m1:Loc) (H1 K:AH) (ld lc ln:Addr) (f1 f2 f3:Addr):Prop where
 mu:Mu ld xs K H1
 ex:Ext H K
 nm:K ln=some (.list (a8 j8))
 cs:K lc=some (.list [.ref f1, .ref f2, .ref f3])
 gv:P-> ∃ p1 p2 p3,pre=[p1,p2,p3]/\Gives g K lv f1 p1/\Gives g K lv f2 p2/\Gives g K lv f3 p3
 md:m1 "due"=some (.ref ld)
 mc:m1 "calls"=some (.ref lc)
 mn:m1 "names"=some (.ref ln)
 m0: ∀ x∈(["sorter","told","ready","out","over"]:List Str),m1 x=m0 x
structure RZ (g:G) (F1:Fm) (σ:au) (c:Addr):Prop where
 code:F1.env.code= .ref 183
 qual:F1.env.qual++"<lambda>"="_law_right.<locals>.<lambda>"
 hc:F1.env.cells.lookup ("sorter":Str)=some c
 ic:g.B.IsCell c (some (.ref σ.x))
 qn: ∀ y c',y≠("sorter":Str)->F1.env.cells.lookup y=some c'->c'≠c
theorem RZ.free {c:Addr} (z:RZ g F1 σ c): ∀ n,(n,NameKind.free)∈[(("sorter":Str),NameKind.free)]-> ∃ c,F1.env.cells.lookup n=some c:=fun n hn=>by
 rw [List.mem_singleton] at hn;cases hn;exact ⟨c,z.hc⟩
theorem ot (D:mP g) {c:Addr} (z:RZ g F1 σ c) (hT:H 181=some (.tab "_law_right.<locals>.<lambda>")) {body:Expr} {sc:Scope} {pos:Pos} {Q:PV} (hs:sc.names=[(("sorter":Str),NameKind.free)])
  (h: ∀ f cl H',Ext H H'->H f=none->H' f=some (.lam OD body sc cl "_law_right.<locals>.<lambda>")->mB F1.env sc cl->Q (.ref f) m H'):WE g F1 (eval (.Lambda OD body sc pos) F1.env) m H Q X:=
 rh z.code z.qual D.c1 hT D.bm (hs▸z.free) fun f cl n C=>h f cl _ ((Ext.refl H).put n) n (ag ..) C
theorem B9 (D:mP g) (hF:cO F1 F (jZ g.w.params) "sorter") (hl:F.lvl<60) (hh:F.A.handled=none) {c:Addr} (z:RZ g F1 σ c) (s:Sat H (σ.lay++B)) (hk:σ.abs.names.Nodup) (hT:H 181=some (.tab "_law_right.<locals>.<lambda>")) {out over:List Int}
  (h: ∀ m1 H1 K ld lc ln f1 f2 f3,RA g (σ.rd=none) H 62 (kB none out over) (kB none out over) m m1 H1 K ld lc ln f1 f2 f3->WS g F1 (execs ((fL g.w.params).drop 3) F1.env) m1 H1 Q X):WS g F1 (execs (fL g.w.params) F1.env) m H Q X:=by
 have M1:=Dg g.w.params
 have M2:=zX g.w.params
 have M3:=Fo g.w.params
 rw [<- D.d.K] at M1 M2 M3
 refine ae<|aD (hF.gb rfl) rfl<|aJ<|bp (hF.cR rfl) (D.d.nb rfl) (fun z0=> .dT _)<|aX<|ai (D.d.kp rfl)<|aj<|aH.call<|fq D.d (hF.lv hl rfl) fun ln Fq=> ?_
 refine ae<|aD (hF.loc rfl) rfl<|bx<|aT<|af<|fR<|af<|oP<|af<|fR<|af<|gx<|aj ⟨Nat.le_of_ble_eq_true rfl,aj ⟨Nat.le_of_ble_eq_true rfl,aj ⟨Nat.le_of_ble_eq_true rfl,fun l0 F9=>aK<|E5 (n:=3) (ag ..) (by decide) fun ld OG=> ?_⟩⟩⟩
 have e1:=(Ext.refl H).put (o:= .list (a8 j8)) Fq
 have e2:=e1.put (o:= .list [refusal "prepare() must be called first"]) F9
 have n2:put (put H ln (.list (a8 j8))) l0 (.list [refusal "prepare() must be called first"]) ln=some (.list (a8 j8)):=(Ext.refl _).put F9 _ _ (ag ..)
 generalize put (put H ln (.list (a8 j8))) l0 (.list [refusal "prepare() must be called first"])=H2 at*
 have mu:=Mu.start (xs:=List.replicate 3 (refusal "prepare() must be called first")) OG
 have eu:=mu.up
 generalize put H2 ld (.list (List.replicate 3 (refusal "prepare() must be called first")))=H3 at*
 have OI:=eu _ _ (e2 _ _ hT)
 refine ae<|aD (hF.loc rfl) rfl<|aT<|af<|ot D z OI rfl fun f1 Tw H4 g1 n1 h1 C1=>af<|ot D z (g1 _ _ OI) rfl fun f2 Tz H5 g2 OJ h2 C2=>af<|ot D z (g2 _ _ (g1 _ _ OI)) rfl fun f3 TA H6 g3 n3 h3 C3=>aj ⟨Nat.le_of_ble_eq_true rfl,fun lc zY=> ?_⟩
 have e3:=(g1.trans g2).trans g3
 have e4:=e3.put (o:= .list [.ref f1, .ref f2, .ref f3]) zY
 have EL:=((g2.trans g3).put (o:= .list [.ref f1, .ref f2, .ref f3]) zY) _ _ h1
 have BK:=(g3.put (o:= .list [.ref f1, .ref f2, .ref f3]) zY) _ _ h2
 have EZ:=((Ext.refl H6).put (o:= .list [.ref f1, .ref f2, .ref f3]) zY) _ _ h3
 have Fs:=ag H6 lc (.list [.ref f1, .ref f2, .ref f3])
 generalize put H6 lc (.list [.ref f1, .ref f2, .ref f3])=H7 at*
 obtain ⟨K,IL,ek⟩:=mu.ext e4
 have nl: ∀ {f:Addr} {o:O},H7 f=some o->H3 f=none->K f=some o:=fun {f} {o} q n=>by
  have w:f≠ld:=fun w=>by subst w;exact nomatch (mu.at.symm.trans n)
  have:=IL.is▸q
  rwa [cU _ _ w] at this
 have eK:Ext H K:=e2.trans ek
 refine h _ H7 K ld lc ln f1 f2 f3 ⟨IL,eK,ek _ _ n2,nl Fs (e3.no zY),fun de=>⟨_,_,_,rfl,f7 D.d (by decide) (nl EL n1) (tB rfl rfl rfl rfl) (wI C1 rfl (by decide) z.hc z.ic z.qn) ?_,f7 D.d (by decide) (nl BK (g1.no OJ)) (tB rfl rfl rfl rfl) (wI C2 rfl (by decide) z.hc z.ic z.qn) ?_,f7 D.d (by decide) (nl EZ ((g1.trans g2).no n3)) (tB rfl rfl rfl rfl) (wI C3 rfl (by decide) z.hc z.ic z.qn) ?_⟩,rfl,rfl,rfl,fun x hx=> ?_⟩
 .intro F2 H5 Q2 l2 L2 e5 hq
  have s5:=(eK.trans e5).sat s
  refine bg<|aa (aY ..)<|bU (b7 M1 (au.inst s5) (au.ns s5) rfl)<|ai (D.d.kp rfl)<|aj<|aH.call<|gO D.d (Nat.lt_of_lt_of_le l2 (by decide)) L2.hh s5 ?_
  rw [de];exact ⟨rfl,rfl,hq _ (.refl _)⟩
 .intro F2 H5 Q2 l2 L2 e5 hq
  have s5:=(eK.trans e5).sat s
  refine bg<|aa (aY ..)<|bU (b7 M2 (au.inst s5) (au.ns s5) rfl)<|ai (D.d.kp rfl)<|aj<|aH.call<|gR D.d (Nat.lt_of_lt_of_le l2 (by decide)) L2.hh s5 hk ?_
  rw [de];exact ⟨rfl,rfl,hq _ (.refl _)⟩
 .intro F2 H5 Q2 l2 L2 e5 hq
  have s5:=(eK.trans e5).sat s
  exact bg<|aa (aY ..)<|bU (b7 M3 (au.inst s5) (au.ns s5) rfl)<|ai (D.d.kp rfl)<|af<|aK<|aj<|aH.call<|tA D.d (Nat.lt_of_lt_of_le l2 (by decide)) L2.hh s5 de ⟨rfl,rfl,hq _ (.refl _)⟩
 .simp only [List.mem_cons,List.not_mem_nil,or_false] at hx
  rcases hx with rfl | rfl | rfl | rfl | rfl <;> rfl
noncomputable def Ft (H:AH) (rd:Option (List Int)) (rv:V):Prop:=match rd with | none=>rv= .none | some r=> ∃ lr,rv= .ref lr/\H lr=some (.list (nums r))
theorem zZ (D:mP g) (hF:cO F1 F (jZ g.w.params) "sorter") (hl:F.lvl<60) (hh:F.A.handled=none) {c:Addr} (z:RZ g F1 σ c) (s:Sat H (σ.lay++B)) (hT:H 181=some (.tab "_law_right.<locals>.<lambda>")) {out over:List Int} {rv:V} {lo lv:Addr} {m0:Loc}
  {H1 K:AH} {ld lc ln f1 f2 f3:Addr} (A:RA g (σ.rd=none) H 62 (kB none out over) (kB none out over) m0 m H1 K ld lc ln f1 f2 f3) (hr:Ft H (σ.rd.map (·.2)) rv) (ho:H lo=some (.list (nums out))) (hv:H lv=some (.list (nums over))) (zo:out.length<=1000) (zv:over.length<=1000) (po:σ.po=out.length) (nf:σ.nf=over.length)
  (zr: ∀ a ns,σ.rd=some (a,ns)->ns.length<1000)
  (m1:m0 "ready"=some rv) (m2:m0 "out"=some (.ref lo)) (m3:m0 "over"=some (.ref lv))
  (h: ∀ m1 H1 K ld lc ln f1 f2 f3,RA g True H 62 (kB (σ.rd.map (·.2)) out over) (kB (σ.rd.map (·.2)) out over) m0 m1 H1 K ld lc ln f1 f2 f3->WS g F1 (execs ((fL g.w.params).drop 4) F1.env) m1 H1 Q X):WS g F1 (execs ((fL g.w.params).drop 3) F1.env) m H1 Q X:=by
 have n1:=(A.m0 "ready" (by decide)).trans m1
 have n2:=(A.m0 "out" (by decide)).trans m2
 have n3:=(A.m0 "over" (by decide)).trans m3
 have e0:=A.ex.trans A.mu.up
 cases de:σ.rd with
 | none=>
  rw [de] at hr h
  have hr:rv= .none:=hr
  subst hr
  exact ae<|cq<|aO rfl<|aa (a:= .none) n1<|bj<|eP (fun z0=>by simp)<|aq<|aC<|h _ _ _ _ _ _ _ _ _ ⟨A.mu,A.ex,A.nm,A.cs,fun z0=>A.gv de,A.md,A.mc,A.mn,A.m0⟩
 | some rd=>
  obtain ⟨ra,r⟩:=rd
  rw [de] at hr h
  obtain ⟨lr,rfl,Ga⟩:=hr
  have M1:=Dg g.w.params
  have M2:=zW g.w.params
  have M3:=It g.w.params
  rw [<- D.d.K] at M1 M2 M3
  refine ae<|cq<|aO rfl<|aa (a:= .ref lr) n1<|bj<|eP (fun z0=>by simp)<|aq ?_
  rw [if_pos (show (!isNone (V.ref lr))=true from rfl)]
  refine ae<|aD (hF.loc rfl) rfl<|aT<|af<|gx<|af<|gx<|aj ⟨Nat.le_of_ble_eq_true rfl,fun lf Qp=> ?_⟩
  have e1:=e0.put (o:= .list [.str "cannot prepare() more than once", .str "Nodes cannot be added after a call to prepare()"]) Qp
  have FW:=ag H1 lf (.list [.str "cannot prepare() more than once", .str "Nodes cannot be added after a call to prepare()"])
  have ea:=(Ext.refl H1).put (o:= .list [.str "cannot prepare() more than once", .str "Nodes cannot be added after a call to prepare()"]) Qp
  generalize put H1 lf (.list [.str "cannot prepare() more than once", .str "Nodes cannot be added after a call to prepare()"])=H2 at*
  refine ae<|aD (hF.loc rfl) rfl<|bx<|aT<|af<|Wt.pv (v:= .bool (decide ((over.length:Int)<out.length) || !r.isEmpty)) ?TC fun H3 q3=>aj ⟨Nat.le_of_ble_eq_true rfl,fun l1 ml=> ?_⟩
  case TC=>
   refine G0<|gy rfl<|aJ<|bN (hF.cR rfl) (D.d.nb rfl) D.d.len<|aX<|ai (.blt _)<|af<|aa (by exact n3)<|aj<|gB (.own (e1 _ _ hv)) (fc zv)<|aJ<|bN (hF.cR rfl) (D.d.nb rfl) D.d.len<|aX<|ai (.blt _)<|af<|aa (by exact n2)<|aj<|gB (.own (e1 _ _ ho)) (fc zo)<|vU<|aq ?_
   rw [ints_length,ints_length]
   cases q:decide ((over.length:Int)<out.length) with
   | true=>exact ⟨rfl,rfl, .refl _⟩
   | false=>
    refine gy rfl<|aa (by exact n1)<|aT<|aj ⟨Nat.le_of_ble_eq_true rfl,fun b hb=>qY (.own ((Ext.refl _).put hb _ _ (e1 _ _ Ga))) (.own (ag ..)) ⟨?_,rfl,(Ext.refl _).put hb⟩⟩
    cases r <;> rfl
  have e2:=(e1.trans q3).put (o:= .list [.bool (decide ((over.length:Int)<out.length) || !r.isEmpty)]) ml
  have eb:=q3.put (o:= .list [.bool (decide ((over.length:Int)<out.length) || !r.isEmpty)]) ml
  have OL:=ag H3 l1 (.list [.bool (decide ((over.length:Int)<out.length) || !r.isEmpty)])
  generalize put H3 l1 (.list [.bool (decide ((over.length:Int)<out.length) || !r.isEmpty)])=H4 at*
  refine dK (hF.comp rfl rfl) (fun z0=>rfl) (.inl (hF.hh hh)) hF.st (fun Fc acc it=>bz ..)<|aa rfl<|cG (xs:=(["cannot prepare() more than once","Nodes cannot be added after a call to prepare()"]:List Str)) .str (fun z0=>true) refusal (pP (val:=V.str)) (pQ (val:=V.str)) (fun H' e=>e _ _ (eb _ _ FW)) rfl (by decide)
   (fun Fc hC y hy m' H' z0 z0 e=>cA ⟨rfl,rfl, .refl _⟩) (fun Fc hC y hy z0 m' H' z0 my e=>fR<|af<|oP<|af<|fR<|af<|aa my<|aj ⟨Nat.le_of_ble_eq_true rfl,aj ⟨Nat.le_of_ble_eq_true rfl,rfl,rfl, .refl _⟩⟩) fun H5 e5 l2 nj=>cV (.own ((e5.put nj) _ _ OL)) (.own (ag ..)) (Nat.le_of_ble_eq_true rfl) fun IM OG=> ?_
  have e6:=(e2.trans e5).put (o:= .list (List.map refusal (List.filter (fun z0=>true) (["cannot prepare() more than once","Nodes cannot be added after a call to prepare()"]:List Str)))) nj
  have eg:=((ea.trans eb).trans e5).put (o:= .list (List.map refusal (List.filter (fun z0=>true) (["cannot prepare() more than once","Nodes cannot be added after a call to prepare()"]:List Str)))) nj
  generalize put H5 l2 _=H6 at*
  have mu:=Mu.start (xs:=kB (some r) out over) OG
  have eu:=mu.up
  have w0:put H6 IM (.list ([V.bool (decide ((over.length:Int)<out.length) || !r.isEmpty)]++List.map refusal (List.filter (fun z0=>true) (["cannot prepare() more than once","Nodes cannot be added after a call to prepare()"]:List Str))))=put H6 IM (.list (kB (some r) out over)):=rfl
  rw [w0]
  generalize put H6 IM (.list (kB (some r) out over))=H7 at*
  have OM:=eu _ _ (e6 _ _ hT)
  refine ae<|aD (hF.loc rfl) rfl<|aT<|af<|ot D z OM rfl fun g1 Tw H8 x1 TF h1 C1=>af<|ot D z (x1 _ _ OM) rfl fun g2 Tz H9 x2 OJ h2 C2=>af<|ot D z (x2 _ _ (x1 _ _ OM)) rfl fun g3 TA HA x3 TG h3 C3=>aj ⟨Nat.le_of_ble_eq_true rfl,fun OO zY=> ?_⟩
  have e7:=(x1.trans x2).trans x3
  have e8:=e7.put (o:= .list [.ref g1, .ref g2, .ref g3]) zY
  have EL:=((x2.trans x3).put (o:= .list [.ref g1, .ref g2, .ref g3]) zY) _ _ h1
  have BK:=(x3.put (o:= .list [.ref g1, .ref g2, .ref g3]) zY) _ _ h2
  have EZ:=((Ext.refl HA).put (o:= .list [.ref g1, .ref g2, .ref g3]) zY) _ _ h3
  have Fs:=ag HA OO (.list [.ref g1, .ref g2, .ref g3])
  generalize put HA OO (.list [.ref g1, .ref g2, .ref g3])=HB at*
  obtain ⟨K',IL,ek⟩:=mu.ext e8
  have nl: ∀ {f:Addr} {o:O},HB f=some o->H7 f=none->K' f=some o:=fun {f} {o} q n=>by
   have w:f≠IM:=fun w=>by subst w;exact nomatch (mu.at.symm.trans n)
   have:=IL.is▸q
   rwa [cU _ _ w] at this
  have eK:Ext H K':=e6.trans ek
  refine aC<|h _ HB K' IM OO ln g1 g2 g3 ⟨IL,eK,ek _ _ (eg _ _ (A.mu.up _ _ A.nm)),nl Fs (e7.no zY),fun z0=>⟨_,_,_,rfl,f7 D.d (by decide) (nl EL TF) (tB rfl rfl rfl rfl) (wI C1 rfl (by decide) z.hc z.ic z.qn) ?_,f7 D.d (by decide) (nl BK (x1.no OJ)) (tB rfl rfl rfl rfl) (wI C2 rfl (by decide) z.hc z.ic z.qn) ?_,f7 D.d (by decide) (nl EZ ((x1.trans x2).no TG)) (tB rfl rfl rfl rfl) (wI C3 rfl (by decide) z.hc z.ic z.qn) ?_⟩,rfl,rfl,by exact A.mn,fun x hx=> ?_⟩
  .intro F2 H5 Q2 l2 L2 e5 hq
   have s5:=(eK.trans e5).sat s
   refine bg<|aa (aY ..)<|bU (b7 M1 (au.inst s5) (au.ns s5) rfl)<|ai (D.d.kp rfl)<|aj<|aH.call<|gO D.d (Nat.lt_of_lt_of_le l2 (by decide)) L2.hh s5 ?_
   rw [de,nf,po]
   exact ⟨zr _ _ de,hq _ (.refl _)⟩
  .intro F2 H5 Q2 l2 L2 e5 hq
   have s5:=(eK.trans e5).sat s
   exact bg<|aa (aY ..)<|bU (b7 M2 (au.inst s5) (au.ns s5) rfl)<|ai (D.d.kp rfl)<|aj<|aH.call<|nq D.d (Nat.lt_of_lt_of_le l2 (by decide)) L2.hh s5 de ⟨rfl,rfl,hq _ (.refl _)⟩
  .intro F2 H5 Q2 l2 L2 e5 hq
   have s5:=(eK.trans e5).sat s
   exact bg<|aa (aY ..)<|bU (b7 M3 (au.inst s5) (au.ns s5) rfl)<|ai (D.d.kp rfl)<|af<|gx<|af<|aK<|aj<|aH.call<|wC D.d (Nat.lt_of_lt_of_le l2 (by decide)) L2.hh s5 de ⟨rfl,rfl,hq _ (.refl _)⟩
  .rw [<- A.m0 x hx]
   simp only [List.mem_cons,List.not_mem_nil,or_false] at hx
   rcases hx with rfl | rfl | rfl | rfl | rfl <;> rfl
end
end
noncomputable def d5 (told:List (List Int)) (out over:List Int) (v:Int):Int:=if out.contains v=true then (if over.contains v=true then -2 else -1) else ((bV told over v).length:Int)
noncomputable def bY (told:List (List Int)) (v:Int):List Int:=told.flatMap fun c=>((c.drop 1).filter fun w=>w == v).map fun z0=>c.getD 0 0
noncomputable def tC (told:List (List Int)) (out over:List Int) (v:Int):dP:=⟨v,d5 told out over v,bY told v⟩
theorem tD {row:List Int} {x:Int} (h:x∈cH row):x∈row:=by
 unfold cH at h
 obtain ⟨k,hk,rfl⟩:=List.mem_map.mp h
 have:=List.mem_range.mp (List.mem_filter.mp hk).1
 rw [List.getD_eq_getElem?_getD,List.getElem?_eq_getElem this];exact List.getElem_mem this
theorem tE (row:List Int):(cH row).length<=row.length:=by
 unfold cH;rw [List.length_map];exact Nat.le_trans (List.length_filter_le _ _) (by rw [List.length_range];exact Nat.le_refl _)
theorem z5 {v:Int} (h0:0<=v) (h1:v<10):(a8 j8)[v.toNat]? =some (cd v):=by
 obtain ⟨n,rfl⟩:=Int.eq_ofNat_of_zero_le h0
 have hn:n<10:=by omega
 have:=gZ (P:=fun n=>(a8 j8)[((n:Nat):Int).toNat]? =some (cd (n:Int))) rfl rfl rfl rfl rfl rfl rfl rfl rfl rfl n hn
 exact this
section
variable [ζ:bW]
theorem TB.in {H:AH} {lt:Addr} {bk:List (Addr×List Int)} (t:TB H lt bk) {v:Int} (h:v∈aN (tl bk)):0<=v/\v<10:=by
 obtain ⟨c,hc,hv⟩:=List.mem_flatten.mp (tD h)
 obtain ⟨p,hp,rfl⟩:=List.mem_map.mp hc
 exact t.ok p hp v hv
theorem TB.head {H:AH} {lt:Addr} {bk:List (Addr×List Int)} (t:TB H lt bk) {p:Addr×List Int} (h:p∈bk):0<=p.2.getD 0 0/\p.2.getD 0 0<10:=by
 have hl:=List.length_pos_iff.mpr (t.ne p h)
 refine t.ok p h _ ?_
 rw [List.getD_eq_getElem?_getD,List.getElem?_eq_getElem hl];exact List.getElem_mem hl
theorem TB.named {H:AH} {lt:Addr} {bk:List (Addr×List Int)} (t:TB H lt bk):(aN (tl bk)).length<=120:=Nat.le_trans (tE _) (rm t)
noncomputable def ke (K:AH) (a:Addr) (r:dP):Prop:= ∃ b,K a=some (.list [cd r.k,cd r.k, .int r.np, .ref b])/\K b=some (.list (a8 r.su))
noncomputable def fM (K:AH) (a:Addr) (rd:Option (List Int)) (po nf:Int):Prop:= ∃ w,K a=some (.list [w, .int po, .int nf])/\match rd with | none=>w= .none | some r=> ∃ b,w= .ref b/\K b=some (.list (a8 r))
noncomputable def Tab (K:AH):List Addr->List dP->Prop
 | [],[]=>True
 | a::as,r::rs=>ke K a r/\Tab K as rs
 | _,_=>False
noncomputable def refs (as:List Addr):List V:=as.map .ref
theorem ke.ext {K K':AH} {a:Addr} {r:dP} (e:Ext K K') (x:ke K a r):ke K' a r:=x.elim fun b z=>⟨b,e _ _ z.1,e _ _ z.2⟩
theorem fM.ext {K K':AH} {a:Addr} {rd:Option (List Int)} {po nf:Int} (e:Ext K K') (x:fM K a rd po nf):fM K' a rd po nf:=by
 obtain ⟨w,h1,h2⟩:=x
 refine ⟨w,e _ _ h1, ?_⟩
 cases rd with
 | none=>exact h2
 | some r=>exact h2.elim fun b z=>⟨b,z.1,e _ _ z.2⟩
theorem Tab.ext {K K':AH} (e:Ext K K'): ∀ {as:List Addr} {rs:List dP},Tab K as rs->Tab K' as rs
 | [],[],_=>trivial
 | _::_,_::_,h=>⟨h.1.ext e,Tab.ext e h.2⟩
theorem Tab.snoc {K:AH} {a:Addr} {r:dP} (x:ke K a r): ∀ {as:List Addr} {rs:List dP},Tab K as rs->Tab K (as++[a]) (rs++[r])
 | [],[],_=>⟨x,trivial⟩
 | _::_,_::_,h=>⟨h.1,Tab.snoc x h.2⟩
theorem Tab.len {K:AH}: ∀ {as:List Addr} {rs:List dP},Tab K as rs->as.length=rs.length
 | [],[],_=>rfl
 | _::_,_::_,h=>by rw [List.length_cons,List.length_cons,Tab.len h.2]
section
variable {g:G} {F F1:Fm} {m:Loc} {H K:AH} {X:PX} {Q:eI} {σ:au} {B:List (Addr×O)}
theorem gn {ln:Addr} {v:Int} {Q:PV} (h0:0<=v/\v<10) (hn:H ln=some (.list (a8 j8))) (h:Q (cd v) m H):GI g F (.ref ln) (.int v) m H Q X:=
 gj (.own hn) (o_item (.own hn) h0.1 (by have:=h0.2;omega) (z5 h0.1 h0.2) h)
theorem z6 (bk:List (Addr×List Int)) (v:Int):bk.flatMap (qZ (fun z0=>true) (fun p=>p.2.drop 1) (fun z0 w=>w == v) fun p z0=>cd (p.2.getD 0 0))=a8 (bY (tl bk) v):=by
 unfold tl a8 bY
 rw [List.map_flatMap,List.flatMap_map]
 congr 1;funext p
 unfold qZ
 rw [if_pos rfl,List.map_map];rfl
theorem RA.app {P:Prop} {lv:Nat} {pre xs:List V} {m0:Loc} {H1:AH} {ld lc ln f1 f2 f3:Addr} (A:RA g P H lv pre xs m0 m H1 K ld lc ln f1 f2 f3) {H2:AH} (e:Ext H1 H2) (y:V) {m2:Loc} (hm: ∀ x∈(["due","calls","names","sorter","told","ready","out","over"]:List Str),m2 x=m x):
  ∃ K',RA g P H lv pre (xs++[y]) m0 m2 (put H2 ld (.list (xs++[y]))) K' ld lc ln f1 f2 f3/\Ext K K'/\H2 ld=some (.list xs)/\Mu ld xs K' H2:=by
 obtain ⟨K',mu,ek⟩:=A.mu.ext e
 refine ⟨K',⟨mu.app,A.ex.trans ek,ek _ _ A.nm,ek _ _ A.cs,fun p=> ?_,(hm _ (by decide)).trans A.md,(hm _ (by decide)).trans A.mc,(hm _ (by decide)).trans A.mn,fun x hx=>(hm x ?_).trans (A.m0 x hx)⟩,ek,mu.at,mu⟩
 .obtain ⟨p1,p2,p3,h0,h1,h2,h3⟩:=A.gv p
  exact ⟨p1,p2,p3,h0,h1.ext ek,h2.ext ek,h3.ext ek⟩
 .exact List.mem_append_right (["due","calls","names"]:List Str) hx
theorem Ca (D:Gd g) (hF:cO F1 F (jZ g.w.params) "sorter") (hl:F.lvl<60) (hh:F.A.handled=none) {rd:Option (List Int)} {out over:List Int} {rv:V} {lo lv:Addr} {m0:Loc} {P:Prop} {pre:List V}
  {H1:AH} {ld lc ln f1 f2 f3:Addr} (A:RA g P H 62 pre pre m0 m H1 K ld lc ln f1 f2 f3) (zp:pre.length<=3) (hr:Ft H rd rv) (ho:H lo=some (.list (nums out))) (hv:H lv=some (.list (nums over))) (zo:out.length<=1000) (zv:over.length<=1000) (zr: ∀ r,rd=some r->r.length<=1000/\ ∀ v∈r,0<=v/\v<10)
  (m1:m0 "ready"=some rv) (m2:m0 "out"=some (.ref lo)) (m3:m0 "over"=some (.ref lv))
  (h: ∀ H1 K a0,RA g P H 62 pre (pre++[.ref a0]) m0 m H1 K ld lc ln f1 f2 f3->fM K a0 rd out.length over.length->WS g F1 (execs ((fL g.w.params).drop 5) F1.env) m H1 Q X):WS g F1 (execs ((fL g.w.params).drop 4) F1.env) m H1 Q X:=by
 have n1:=(A.m0 "ready" (by decide)).trans m1
 have n2:=(A.m0 "out" (by decide)).trans m2
 have n3:=(A.m0 "over" (by decide)).trans m3
 have e0:=A.ex.trans A.mu.up
 refine ae<|eN<|bg<|aa A.md<|bU (bR (.own A.mu.at) PySem.F.slot_list_append PySem.F.type_list_append)<|ai (.blt _)<|af<|aT<|af<|Wt.post (Q:=fun w m' H'=>m'=m/\Ext H1 H'/\match rd with | none=>w= .none | some r=> ∃ b,w= .ref b/\H1 b=none/\H' b=some (.list (a8 r))) ?hw fun w m' H2 q=> ?_
 case hw=>
  cases rd with
  | none=>
   have hr:rv= .none:=hr
   subst hr
   exact AX<|aO rfl<|aa (a:= .none) n1<|bj<|gA (fun z0=>by simp)<|aq<|aa n1 ⟨rfl, .refl _,rfl⟩
  | some r=>
   obtain ⟨lr,rfl,Ga⟩:=hr
   refine AX<|aO rfl<|aa (a:= .ref lr) n1<|bj<|gA (fun z0=>by simp)<|aq ?_
   rw [if_neg (show ¬ isNone (V.ref lr)=true from Bool.false_ne_true)]
   refine dK (hF.comp rfl rfl) (fun z0=>rfl) (.inl (hF.hh hh)) hF.st (fun Fc acc it=>bz ..)<|aa n1<|cG (xs:=r) .int (fun z0=>true) cd d9 ft (fun H' e=>e _ _ (e0 _ _ Ga)) rfl (zr r rfl).1
    (fun Fc hC y hy m' H' z0 z0 e=>cA ⟨rfl,rfl, .refl _⟩) (fun Fc hC y hy z0 m' H' sees my e=>b8<|aa ((sees _ rfl).trans A.mn)<|aa my<|gn ((zr r rfl).2 y hy) (e _ _ (A.mu.up _ _ A.nm)) ⟨rfl,rfl, .refl _⟩) fun H5 e5 b hb=>⟨rfl,e5.put hb,b,rfl,e5.no hb, ?_⟩
   rw [ag,List.filter_eq_self.mpr fun z0 z0=>rfl];rfl
 obtain ⟨rfl,e2,hw⟩:=q
 refine af<|aJ<|bN (hF.cR rfl) (D.nb rfl) D.len<|aX<|ai (.blt _)<|af<|aa n2<|aj<|gB (.own ((e0.trans e2) _ _ ho)) (fc zo)<|af<|aJ<|bN (hF.cR rfl) (D.nb rfl) D.len<|aX<|ai (.blt _)<|af<|aa n3<|aj<|gB (.own ((e0.trans e2) _ _ hv)) (fc zv)<|aj ⟨Nat.le_of_ble_eq_true rfl,fun a0 ha=>aj ?_⟩
 rw [ints_length,ints_length]
 have e3:=e2.put (o:= .list [w, .int out.length, .int over.length]) ha
 obtain ⟨K',A',ek,at',z7⟩:=A.app e3 (.ref a0) (m2:=m') fun z0 z0=>rfl
 refine dO at' (by exact LD zp)<|h _ K' a0 A' ?_
 have nl: ∀ {f:Addr} {o:O},put H2 a0 (.list [w, .int out.length, .int over.length]) f=some o->H1 f=none->K' f=some o:=fun {f} {o} q n=>by
  have w:f≠ld:=fun w=>by subst w;exact nomatch (A.mu.at.symm.trans n)
  have:=z7.is▸q
  rwa [cU _ _ w] at this
 refine ⟨w,nl (ag ..) (e2.no ha), ?_⟩
 cases rd with
 | none=>exact hw
 | some r=>exact hw.elim fun b z=>⟨b,z.1,nl ((Ext.refl H2).put ha _ _ z.2.2) z.2.1⟩
end
noncomputable abbrev Fu (P:qi) (Q:eI):Fl->Loc->AH->Prop:=fun f m H=>match f with | .next=>P m H | f=>Q f m H
section
variable {g:G} {F F1:Fm} {m:Loc} {H K:AH} {X:PX} {Q:eI} {σ:au} {B:List (Addr×O)}
theorem u6 {Q:eI} (P:qi) {st:Stmt} {rest:List Stmt} (h:WS g F (exec st F.env) m H (Fu P Q) X) (t: ∀ m H,P m H->WS g F (execs rest F.env) m H Q X):WS g F (execs (st::rest) F.env) m H Q X:=
 ae fun s S=>h.run S (fun v av a m₁ aL aA ah k₁ h₁=>⟨a,m₁,aL,aA,fun z0=>ah,k₁,by
  cases a with
  | next=>exact t _ _ h₁
  | _=>exact h₁⟩) (fun z0 z0 x=>x)
structure RJ (g:G) (P:Prop) (H:AH) (pre:List V) (m0 m:Loc) (H1 K:AH) (ld lc ln f1 f2 f3 a0:Addr) (as:List Addr) (rd:Option (List Int)) (po nf:Int) (rs:List dP):Prop where
 A:RA g P H 62 pre (pre++ .ref a0::refs as) m0 m H1 K ld lc ln f1 f2 f3
 hd:fM K a0 rd po nf
 tb:Tab K as rs
theorem RA.mm {P:Prop} {lv:Nat} {pre xs:List V} {m0:Loc} {H1:AH} {ld lc ln f1 f2 f3:Addr} (A:RA g P H lv pre xs m0 m H1 K ld lc ln f1 f2 f3) {m2:Loc} (hm: ∀ x∈(["due","calls","names","sorter","told","ready","out","over"]:List Str),m2 x=m x):RA g P H lv pre xs m0 m2 H1 K ld lc ln f1 f2 f3:=
 ⟨A.mu,A.ex,A.nm,A.cs,A.gv,(hm _ (by decide)).trans A.md,(hm _ (by decide)).trans A.mc,(hm _ (by decide)).trans A.mn,fun x hx=>(hm x (List.mem_append_right (["due","calls","names"]:List Str) hx)).trans (A.m0 x hx)⟩
theorem RA.ext {P:Prop} {lv:Nat} {pre xs:List V} {m0:Loc} {H1:AH} {ld lc ln f1 f2 f3:Addr} (A:RA g P H lv pre xs m0 m H1 K ld lc ln f1 f2 f3) {H2:AH} (e:Ext H1 H2): ∃ K',RA g P H lv pre xs m0 m H2 K' ld lc ln f1 f2 f3/\Ext K K':=by
 obtain ⟨K',mu,ek⟩:=A.mu.ext e
 refine ⟨K',⟨mu,A.ex.trans ek,ek _ _ A.nm,ek _ _ A.cs,fun p=> ?_,A.md,A.mc,A.mn,A.m0⟩,ek⟩
 obtain ⟨p1,p2,p3,h0,h1,h2,h3⟩:=A.gv p
 exact ⟨p1,p2,p3,h0,h1.ext ek,h2.ext ek,h3.ext ek⟩
theorem Cb (D:Gd g) (hF:cO F1 F (jZ g.w.params) "sorter") (hl:F.lvl<60) (hh:F.A.handled=none) {rd:Option (List Int)} {out over:List Int} {lt lo lv:Addr} {bk:List (Addr×List Int)} {m0:Loc} {P:Prop} {pre:List V} {po nf:Int}
  {H1:AH} {ld lc ln f1 f2 f3 a0:Addr} (J:RJ g P H pre m0 m H1 K ld lc ln f1 f2 f3 a0 [] rd po nf []) (zp:pre.length<=3) (t:TB H lt bk) (ho:H lo=some (.list (nums out))) (hv:H lv=some (.list (nums over)))
  (m1:m0 "told"=some (.ref lt)) (m2:m0 "out"=some (.ref lo)) (m3:m0 "over"=some (.ref lv))
  (h: ∀ m H1 K as,RJ g P H pre m0 m H1 K ld lc ln f1 f2 f3 a0 as rd po nf ((aN (tl bk)).map (tC (tl bk) out over))->WS g F1 (execs ((fL g.w.params).drop 6) F1.env) m H1 Q X):WS g F1 (execs ((fL g.w.params).drop 5) F1.env) m H1 Q X:=by
 have n1:=(J.A.m0 "told" (by decide)).trans m1
 have e0:=J.A.ex.trans J.A.mu.up
 refine ae<|gL (fun z0=>rfl)<|aJ<|bp (hF.cR rfl) (D.nb rfl) (fun z0=> .dT _)<|aX<|ai (D.kp rfl)<|af<|aa n1<|aj<|aH.call<|fu D (hF.lv hl rfl) (hF.hh hh) (t.ext e0) fun l H2 e2 nl nj=> ?_
 have z:=t.named
 have mZ:=fun v hv=>t.in (v:=v) hv
 generalize aN (tl bk)=named at*
 obtain ⟨K2,A2,IP⟩:=J.A.ext e2
 have F9:K2 l=some (.list (nums named)):=by
  have w:l≠ld:=fun w=>by subst w;exact nomatch (J.A.mu.at.symm.trans nl)
  have:=A2.mu.is▸nj
  rwa [cU _ _ w] at this
 refine c7 d9 (fun i m' H'=> ∃ K' as,RJ g P H pre m0 m' H' K' ld lc ln f1 f2 f3 a0 as rd po nf ((named.take i).map (tC (tl bk) out over))/\K' l=some (.list (nums named))) (.inl (hF.hh hh)) hF.st (fun i m' H' j=>j.elim fun K' j=>j.elim fun as j=>j.1.A.mu.up _ _ j.2) ⟨K2,[],⟨A2,J.hd.ext IP,trivial⟩,F9⟩ (fun i m' H' hi j R hR=>j.elim fun K' j=>j.elim fun as j=>j.elim fun J' F6=> ?_) (fun m' H' j=>j.elim fun K' j=>j.elim fun as j=>aC<|h m' H' K' as ?_)
 .rw [ft i hi]
  have OQ:=mZ _ (List.getElem_mem hi)
  have l1:=(J'.A.m0 "told" (by decide)).trans m1
  have l2:=(J'.A.m0 "out" (by decide)).trans m2
  have l3:=(J'.A.m0 "over" (by decide)).trans m3
  have eH:=J'.A.ex.trans J'.A.mu.up
  have TH:as.length<=120:=by rw [J'.tb.len,List.length_map];exact Nat.le_trans (List.length_take_le ..) (by exact Gz z hi)
  have tk:((named.take (i+1)).map (tC (tl bk) out over))=((named.take i).map (tC (tl bk) out over))++[tC (tl bk) out over named[i]]:=by rw [List.take_add_one,List.getElem?_eq_getElem hi,List.map_append];rfl
  generalize named[i]=v at OQ tk
  refine bH (hF.gb rfl)<|ae<|aD (hF.loc rfl) rfl<|aJ<|bN (hF.cR rfl) (D.nb rfl) D.len<|aX<|ai (.blt _)<|af<|aJ<|bp (hF.cR rfl) (D.nb rfl) (fun z0=> .dT _)<|aX<|ai (D.kp rfl)<|af<|aa (by exact l1)<|af<|aa (by exact l3)<|af<|aa rfl<|aj<|aH.call<|jY D (hF.lv hl rfl) (hF.hh hh) (t.ext eH) (eH _ _ hv) fun ll H3 e3 z0 TJ=>aj<|gB (.own TJ) (fc (Nat.le_trans (rn t over v) (by decide))) ?_
  rw [ints_length]
  refine u6 (fun m4 H4=> ∃ K4,RA g P H 62 pre (pre++ .ref a0::refs as) m0 m4 H4 K4 ld lc ln f1 f2 f3/\Ext K' K4/\m4 "count"=some (.int (d5 (tl bk) out over v))/\m4 "v"=some (.int v)) ?_ fun m4 H4 q=>q.elim fun K4 q=>q.elim fun A4 q=>q.elim fun OS q=>q.elim fun q1 q2=> ?_
  .obtain ⟨K3,A3,OT⟩:=J'.A.ext e3
   refine Wt.yd fun R5 h5=>cq<|aO rfl<|aa rfl<|aa (by exact l2)<|om ((eH.trans e3) _ _ ho)<|aq ?_
   cases q:out.contains v with
   | false=>
    refine aC (h5 .next _ _ ⟨K3,A3.mm (fun x hx=> ?_),OT, ?_,rfl⟩)
    .simp only [List.mem_cons,List.not_mem_nil,or_false] at hx
     rcases hx with rfl | rfl | rfl | rfl | rfl | rfl | rfl | rfl <;> rfl
    .unfold d5;rw [q,if_neg (by decide)];rfl
   | true=>
    refine ae<|aD (hF.loc rfl) rfl<|AX<|aO rfl<|aa rfl<|aa (by exact l3)<|om ((eH.trans e3) _ _ hv)<|aq ?_
    cases q3:over.contains v with
    | true=>
     refine xO<|aK<|qG<|aC (h5 .next _ _ ⟨K3,A3.mm (fun x hx=> ?_),OT, ?_,rfl⟩)
     .simp only [List.mem_cons,List.not_mem_nil,or_false] at hx
      rcases hx with rfl | rfl | rfl | rfl | rfl | rfl | rfl | rfl <;> rfl
     .unfold d5;rw [q,if_pos rfl,q3,if_pos rfl];rfl
    | false=>
     refine xO<|aK<|qG<|aC (h5 .next _ _ ⟨K3,A3.mm (fun x hx=> ?_),OT, ?_,rfl⟩)
     .simp only [List.mem_cons,List.not_mem_nil,or_false] at hx
      rcases hx with rfl | rfl | rfl | rfl | rfl | rfl | rfl | rfl <;> rfl
     .unfold d5;rw [q,if_pos rfl,q3,if_neg (by decide)];rfl
  .have OU:=A4.ex.trans A4.mu.up
   have k1:=(A4.m0 "told" (by decide)).trans m1
   refine ae<|eN<|bg<|aa A4.md<|bU (bR (.own A4.mu.at) PySem.F.slot_list_append PySem.F.type_list_append)<|ai (.blt _)<|af<|aT<|af<|b8<|aa A4.mn<|aa q2<|gn OQ (A4.mu.up _ _ A4.nm)<|af<|b8<|aa A4.mn<|aa q2<|gn OQ (A4.mu.up _ _ A4.nm)<|af<|aa q1<|af<|
    dK (hF.comp rfl rfl) (fun z0=>rfl) (.inl (hF.hh hh)) hF.st (fun Fc acc it=>jf ..)<|aa k1<|
    jz (xs:=bk) (.inl (hF.hh hh)) hF.st (fun p=> .ref p.1) (fun z0=>true) (fun p=>p.2.drop 1) (fun z0 w=>w == v) (fun p z0=>cd (p.2.getD 0 0)) hW hX (fun H' e=>e _ _ (OU _ _ t.top)) rfl rfl (by decide) (Nat.le_trans t.few (by decide)) (fun p hp=>Nat.le_trans (by rw [List.length_drop];exact Nat.sub_le ..) (Nat.le_trans (t.sz p hp) (by decide))) (fun z0 z0=>rfl)
     (fun Fc hC p hp m' H' z0 z0 e=>cA ⟨rfl,rfl, .refl _⟩)
     (fun Fc hC p hp z0 m' H' z0 mp e=>d8<|aa mp<|fK<|aK<|cB<|cB<|hY (k:=1) (i:=1) rfl rfl (e _ _ (OU _ _ (t.each p hp))) (Nat.le_trans (t.sz p hp) (by decide)) fun c hc=>⟨c,rfl,rfl,(Ext.refl _).put hc,ag ..⟩)
     (fun Fc hC p hp z0 n hn m' H' sees z0 my e=>bQ<|aO rfl<|aa my<|aa ((sees _ rfl).trans q2)<|j4<|aq ⟨rfl,rfl, .refl _⟩)
     (fun Fc hC p hp z0 n hn z0 m' H' sees mp my e=>b8<|aa ((sees _ rfl).trans A4.mn)<|b8<|aa mp<|aK<|ia (e _ _ (OU _ _ (t.each p hp))) (t.ne p hp)<|gn (t.head hp) (e _ _ (A4.mu.up _ _ A4.nm)) ⟨rfl,rfl, .refl _⟩) fun H5 e5 b hb=>aj ⟨Nat.le_of_ble_eq_true rfl,fun a ha=>aj ?_⟩
   rw [z6] at ha|-
   have e6:=(e5.put (o:= .list (a8 (bY (tl bk) v))) hb).put (o:= .list [cd v,cd v, .int (d5 (tl bk) out over v), .ref b]) ha
   obtain ⟨K6,A6,OV,TK,TL⟩:=A4.app e6 (.ref a) (m2:=m4) fun z0 z0=>rfl
   have Qq: ∀ {f:Addr} {o:O},put (put H5 b (.list (a8 (bY (tl bk) v)))) a (.list [cd v,cd v, .int (d5 (tl bk) out over v), .ref b]) f=some o->H4 f=none->K6 f=some o:=fun {f} {o} q n=>by
    have w:f≠ld:=fun w=>by subst w;exact nomatch (A4.mu.at.symm.trans n)
    have:=TL.is▸q
    rwa [cU _ _ w] at this
   have OW:ke K6 a (tC (tl bk) out over v):=⟨b,Qq (ag ..) ((e5.put hb).no ha),Qq ((Ext.refl _).put ha _ _ (ag ..)) (e5.no hb)⟩
   refine dO TK (by unfold refs;simp;exact LI zp TH)<|aC (hR .next _ _ ⟨K6,as++[a],⟨?_,J'.hd.ext (OS.trans OV), ?_⟩,(OS.trans OV) _ _ F6⟩)
   .have e7:pre++ .ref a0::refs (as++[a])=pre++ .ref a0::refs as++[.ref a]:=by unfold refs;simp
    rw [e7];exact A6
   .rw [tk];exact (J'.tb.ext (OS.trans OV)).snoc OW
 .have:=j.1
  rwa [List.take_of_length_le (Nat.le_refl _)] at this
end
section
variable {g:G} {F F1:Fm} {m:Loc} {H K:AH} {X:PX} {Q:eI} {σ:au} {B:List (Addr×O)}
theorem z8 (k:Int) {D b:Nat} (hD:2<=D) (hb:4<=b):gG g H D b (cd k) (cd k):=⟨_,pO k,pO k,(tx k).up hD hb⟩
theorem z9: ∀ (ks:List Int),j9 g H 2 4 (a8 ks) (a8 ks)
 | []=> .nil
 | k::ks=> .cons (z8 k (by decide) (by decide)) (z9 ks)
theorem rB {b b':Addr} {ks:List Int} (h:H b=some (.list (a8 ks))) (h':H b'=some (.list (a8 ks))) (z:ks.length<=120):gG g H 3 600 (.ref b) (.ref b'):= .list h h' (z9 ks) (by rw [aw];exact z)
theorem Fv {a a':Addr} {r:dP} (h:ke H a r) (h':ke H a' r) (z:r.su.length<=120) (zn:r.np.natAbs<10 ^ 12):gG g H 4 2404 (.ref a) (.ref a'):=by
 obtain ⟨b,h1,h2⟩:=h
 obtain ⟨b',OX,Gb⟩:=h'
 refine (gG.list (D:=3) (b:=600) (n:=4) h1 OX (.cons (z8 _ (by decide) (by decide)) (.cons (z8 _ (by decide) (by decide)) (.cons ⟨_, .int _, .int _,(gT zn).up (by decide) (by decide)⟩ (.cons (rB h2 Gb z) .nil)))) (by simp)).up (by decide) (by decide)
theorem u9: ∀ {as bs:List Addr} {rs:List dP},Tab H as rs->Tab H bs rs->(∀ r∈rs,r.su.length<=120/\r.np.natAbs<10 ^ 12)->j9 g H 4 2404 (refs as) (refs bs)
 | [],[],[],_,_,_=> .nil
 | [],_::_,[],_,h,_=>h.elim
 | _::_,_,[],h,_,_=>h.elim
 | [],_,_::_,h,_,_=>h.elim
 | _::_,[],_::_,_,h,_=>h.elim
 | _::_,_::_,_::_,h,h',z=> .cons (Fv h.1 h'.1 (z _ List.mem_cons_self).1 (z _ List.mem_cons_self).2) (u9 h.2 h'.2 fun r hr=>z r (List.mem_cons_of_mem _ hr))
theorem Cd {a a':Addr} {rd:Option (List Int)} {po nf:Int} (h:fM H a rd po nf) (h':fM H a' rd po nf) (z: ∀ r,rd=some r->r.length<=120) (z1:po.natAbs<10 ^ 12) (z2:nf.natAbs<10 ^ 12):gG g H 4 2404 (.ref a) (.ref a'):=by
 obtain ⟨w,h1,h2⟩:=h
 obtain ⟨w',OX,Gb⟩:=h'
 refine (gG.list (D:=3) (b:=600) (n:=3) h1 OX (.cons ?_ (.cons ⟨_, .int _, .int _,(gT z1).up (by decide) (by decide)⟩ (.cons ⟨_, .int _, .int _,(gT z2).up (by decide) (by decide)⟩ .nil))) (by simp)).up (by decide) (by decide)
 cases rd with
 | none=>
  have h2:w= .none:=h2
  have Gb:w'= .none:=Gb
  subst h2 Gb
  exact ⟨_, .none, .none,⟨rfl,rfl,rfl,by decide,by decide⟩⟩
 | some r=>
  obtain ⟨b,rfl,hb⟩:=h2
  obtain ⟨b',rfl,gD⟩:=Gb
  exact rB hb gD (z r rfl)
theorem Fw {ld lk a0 b0:Addr} {as bs:List Addr} {p1 p2 p3:V} {rd:Option (List Int)} {po nf:Int} {rs:List dP} (hd:H ld=some (.list ([p1,p2,p3]++ .ref a0::refs as))) (hk:H lk=some (.list ([p1,p2,p3]++ .ref b0::refs bs))) (h0:fM H a0 rd po nf) (h1:fM H b0 rd po nf)
  (t0:Tab H as rs) (t1:Tab H bs rs) (zp: ∀ p∈[p1,p2,p3],gG g H 4 2404 p p) (z: ∀ r,rd=some r->r.length<=120) (z1:po.natAbs<10 ^ 12) (z2:nf.natAbs<10 ^ 12) (zr: ∀ r∈rs,r.su.length<=120/\r.np.natAbs<10 ^ 12) (zl:rs.length<=120):
  ∃ d,Rd g H (.ref lk) d/\Rd g H (.ref ld) d/\pX 5 1000000 d:=by
 have t:=gG.list (n:=124) hk hd (.cons (zp p1 (by simp)) (.cons (zp p2 (by simp)) (.cons (zp p3 (by simp)) (.cons (Cd h1 h0 z z1 z2) (u9 t1 t0 zr))))) (by
  have:=t1.len
  unfold refs;simp;exact LK this zl)
 obtain ⟨d,d1,d2,d3⟩:=t
 exact ⟨d,d1,d2,d3.up (by decide) (by decide)⟩
theorem Ce (D:Gd g) (hF:cO F1 F (jZ g.w.params) "sorter") (hl:F.lvl<60) (hh:F.A.handled=none) {pre:List V} {m0:Loc} {rd:Option (List Int)} {H1:AH} {ld lc ln f1 f2 f3 a0:Addr} {as:List Addr} (s:Sat H (σ.lay++B))
  (J:RJ g True H pre m0 m H1 K ld lc ln f1 f2 f3 a0 as rd σ.po σ.nf σ.abs.rows) (de:rd=σ.rd.map (·.2)) (m1:m0 "sorter"=some (.ref σ.x)) (zp: ∀ H':AH, ∀ p∈pre,gG g H' 4 2404 p p)
  (z: ∀ r,rd=some r->r.length<=120) (z1:σ.po.natAbs<10 ^ 12) (z2:σ.nf.natAbs<10 ^ 12) (zr: ∀ r∈σ.abs.rows,r.su.length<=120/\r.np.natAbs<10 ^ 12) (zl:σ.rows.length<=120)
  (h: ∀ m1 H',Ext H H'->Q (.ret (.bool true)) m1 H'):WS g F1 (execs ((fL g.w.params).drop 6) F1.env) m H1 Q X:=by
 have A:=D.ns
 have A2:=D.sl
 have eH:=J.A.ex.trans J.A.mu.up
 have n1:=(J.A.m0 "sorter" (by decide)).trans m1
 obtain ⟨p1,p2,p3,rfl,G1,G2,G3⟩:=J.A.gv trivial
 have gv: ∀ p∈([(f1,p1),(f2,p2),(f3,p3)]:List (Addr×V)),Gives g H1 62 p.1 p.2:=fun p hp=>by
  simp only [List.mem_cons,List.not_mem_nil,or_false] at hp
  rcases hp with rfl | rfl | rfl
  .exact G1.ext J.A.mu.up
  .exact G2.ext J.A.mu.up
  .exact G3.ext J.A.mu.up
 have Aa:handed (rS σ.rd)=true:=by cases σ.rd <;> rfl
 refine ae<|aD (hF.loc rfl) rfl<|bx<|dK (hF.comp rfl rfl) (fun z0=>rfl) (.inl (hF.hh hh)) hF.st (fun Fc acc it=>bz ..)<|aa J.A.mc<|cG (xs:=([(f1,p1),(f2,p2),(f3,p3)]:List (Addr×V))) (fun p=> .ref p.1) (fun z0=>true) (fun p=>p.2) (pP (val:=fun p:Addr×V=>V.ref p.1)) (pQ (val:=fun p:Addr×V=>V.ref p.1)) (fun H' e=>e _ _ (J.A.mu.up _ _ J.A.cs)) rfl (Nat.le_of_ble_eq_true rfl)
  (fun Fc hC y hy m' H' z0 z0 e=>cA ⟨rfl,rfl, .refl _⟩) (fun Fc hC y hy z0 m' H' z0 my e=>aJ<|bp (hC.cR rfl) (D.nb rfl) (fun z0=> .dT _)<|aX<|ai (D.kp rfl)<|af<|aa my<|aj<|aH.call<|gv y hy Fc m' H' _ _ (hC.lv (hF.lv (b:=62) hl rfl)) (hC.hh (hF.hh hh)) e fun kl i6=>⟨rfl,rfl,i6⟩) fun H5 e5 b hb=> ?_
 have e6:=e5.put (o:= .list (([(f1,p1),(f2,p2),(f3,p3)].filter fun z0=>true).map fun p=>p.2)) hb
 have TN:=ag H5 b (.list (([(f1,p1),(f2,p2),(f3,p3)].filter fun z0=>true).map fun p=>p.2))
 generalize put H5 b _=H6 at*
 have s6:=(eH.trans e6).sat s
 refine aT<|af<|aT<|af<|aQ<|aa n1<|bO A.rd (au.inst s6) (au.ns s6) (x:=rS σ.rd) rfl Aa<|af<|aQ<|aa n1<|bO A.po (au.inst s6) (au.ns s6) (x:= .int σ.po) rfl rfl<|af<|aQ<|aa n1<|bO A.nf (au.inst s6) (au.ns s6) (x:= .int σ.nf) rfl rfl<|aj ⟨Nat.le_of_ble_eq_true rfl,fun b0 Fx=>aj ⟨Nat.le_of_ble_eq_true rfl,fun l1 ml=>cV (.own (((Ext.refl H6).put Fx).put ml _ _ TN)) (.own (ag ..)) (Nat.le_of_ble_eq_true rfl) fun lk TP=> ?_⟩⟩
 have e7:=((e6.put (o:= .list [rS σ.rd, .int σ.po, .int σ.nf]) Fx).put (o:= .list [.ref b0]) ml)
 have x0:=((Ext.refl H6).put (o:= .list [rS σ.rd, .int σ.po, .int σ.nf]) Fx).put (o:= .list [.ref b0]) ml
 have x1:put (put H6 b0 (.list [rS σ.rd, .int σ.po, .int σ.nf])) l1 (.list [.ref b0]) b0=some (.list [rS σ.rd, .int σ.po, .int σ.nf]):=(Ext.refl _).put ml _ _ (ag ..)
 generalize put (put H6 b0 (.list [rS σ.rd, .int σ.po, .int σ.nf])) l1 (.list [.ref b0])=H7 at*
 have TQ:fM H7 b0 rd σ.po σ.nf:=by
  have y: ∀ r,σ.rd=some r->H7 r.1=some (.list (a8 r.2)):=fun r hr=>x0 _ _ (au.ready s6 (a:=r.1) (ns:=r.2) hr)
  refine ⟨rS σ.rd,x1, ?_⟩
  subst de
  generalize σ.rd=q at y
  cases q with
  | none=>rfl
  | some r=>exact ⟨r.1,rfl,y r rfl⟩
 have w0:put H7 lk (.list ((([(f1,p1),(f2,p2),(f3,p3)].filter fun z0=>true).map fun p=>p.2)++[.ref b0]))=put H7 lk (.list ([p1,p2,p3]++ .ref b0::refs [])):=rfl
 rw [w0]
 have mu:=Mu.start (xs:=[p1,p2,p3]++ .ref b0::refs []) TP
 generalize put H7 lk (.list ([p1,p2,p3]++ .ref b0::refs []))=H8 at*
 have e8:=eH.trans e7
 have s8:=(e8.trans mu.up).sat s
 refine ae<|gL (fun z0=>rfl)<|bg<|aQ<|aa (by exact n1)<|bO A.n2 (au.inst s8) (au.ns s8) (x:= .ref σ.d) rfl rfl<|bU (g8 (au.dict s8) PySem.F.slot_dict_items PySem.F.type_dict_items)<|ai (.blt _)<|aj<|Bx (au.dict s8)<|
  vB (yY (d:=σ.d) (es:=ao σ.rows) (ep:=σ.ep)) rfl (fun i m' H'=> ∃ K' bs,Mu lk ([p1,p2,p3]++ .ref b0::refs bs) K' H'/\Ext H7 K'/\Tab K' bs ((σ.rows.take i).map Row.abs)/\m' "kept"=some (.ref lk)/\m' "due"=some (.ref ld)) (.inl (hF.hh hh)) hF.st (fun i m' H' j=>j.elim fun K' j=>j.elim fun bs j=>j.1.up _ _ (j.2.1 _ _ (e8 _ _ (au.dict s))))
   ⟨H7,[],mu, .refl _,trivial,rfl,by exact J.A.md⟩ (fun i m' H' hi j R hR=>j.elim fun K' j=>j.elim fun bs j=>j.elim fun z7 j=>j.elim fun e9 j=>j.elim fun tb j=>j.elim fun q1 q2=> ?_) (fun m' H' j=>j.elim fun K' j=>j.elim fun bs j=>j.elim fun z7 j=>j.elim fun e9 j=>j.elim fun tb j=>j.elim fun q1 q2=> ?_)
 .have eB:i<σ.rows.length:=by unfold ao at hi;simpa using hi
  have ev:(ao σ.rows).getD i (0, .none)=(σ.rows[i].k, .ref σ.rows[i].na):=by unfold ao;rw [List.getD_eq_getElem?_getD,List.getElem?_map,List.getElem?_eq_getElem eB];rfl
  rw [ev]
  have hr:=List.getElem_mem eB
  have eK:=e8.trans e9
  have nd:=(eK.trans z7.up) _ _ (au.node s hr)
  have bl:bs.length<=120:=by rw [tb.len,List.length_map];exact Nat.le_trans (List.length_take_le ..) (by exact Gz zl eB)
  refine kI (.inl (hF.hh hh)) rfl<|bH (hF.loc rfl)<|bH (hF.loc rfl) ?_
  refine ae<|eN<|bg<|aa (by exact q1)<|bU (bR (.own z7.at) PySem.F.slot_list_append PySem.F.type_list_append)<|ai (.blt _)<|af<|aT<|af<|aa rfl<|af<|aQ<|aa rfl<|dN A2.nd nd rfl (n6 _)<|af<|aQ<|aa rfl<|dN A2.np nd rfl rfl<|af<|aQ<|aa rfl<|dN A2.su nd rfl rfl<|aj ⟨Nat.le_of_ble_eq_true rfl,fun a ha=>aj ?_⟩
  obtain ⟨K2,OY,IP⟩:=z7.ext ((Ext.refl H').put (o:= .list [cd σ.rows[i].k,cd σ.rows[i].k, .int σ.rows[i].np, .ref σ.rows[i].la]) ha)
  have ka:K2 a=some (.list [cd σ.rows[i].k,cd σ.rows[i].k, .int σ.rows[i].np, .ref σ.rows[i].la]):=by
   have w:a≠lk:=fun w=>by subst w;rw [z7.at] at ha;cases ha
   have:=OY.is▸ag H' a (.list [cd σ.rows[i].k,cd σ.rows[i].k, .int σ.rows[i].np, .ref σ.rows[i].la])
   rwa [cU _ _ w] at this
  refine dO OY.at (by unfold refs;simp;exact LJ bl)<|aC (hR .next _ _ ⟨K2,bs++[a], ?_,e9.trans IP, ?_,by exact q1,by exact q2⟩)
  .have e7:[p1,p2,p3]++ .ref b0::refs (bs++[a])=[p1,p2,p3]++ .ref b0::refs bs++[.ref a]:=by unfold refs;simp
   rw [e7];exact OY.app
  .rw [List.take_add_one,List.getElem?_eq_getElem eB,List.map_append]
   exact (tb.ext IP).snoc ⟨_,ka,(eK.trans IP) _ _ (au.ju s hr)⟩
 .have el:(ao σ.rows).length=σ.rows.length:=by unfold ao;simp
  rw [el,List.take_of_length_le (Nat.le_refl _)] at tb
  have eE:=(e7.trans e9).trans z7.up
  obtain ⟨d,d1,d2,d3⟩:=Fw (g:=g) (eE _ _ J.A.mu.at) z7.at ((J.hd.ext J.A.mu.up).ext eE) ((TQ.ext e9).ext z7.up) ((J.tb.ext J.A.mu.up).ext eE) (tb.ext z7.up) (zp H') z z1 z2 zr (by unfold au.abs;rw [List.length_map];exact zl)
  refine aC<|ae<|dW<|gy rfl<|zR (by decide) (by decide)<|aa q1 ⟨lk,d,rfl,d1,d3,zR (by decide) (by decide)<|aa q2 ⟨ld,d,rfl,d2,d3,HP rfl rfl (by unfold dep;decide) ?_⟩⟩
  rw [fP _ rfl]
  exact h _ _ (eH.trans eE)
end
end
structure Inv (p:PS) (told:List (List Int)) (rd:Option (List Int)) (out over:List Int):Prop where
 rows:p.rows=(aN told).map (tC told out over)
 rd:p.rd=rd
 po:p.po=out.length
 nf:p.nf=over.length
section
variable [ζ:bW]
section
variable {g:G} {F F1:Fm} {m:Loc} {H K:AH} {X:PX} {Q:PV} {σ:au} {B:List (Addr×O)}
theorem Fy (rd:Option (List Int)) (out over:List Int) (H:AH): ∀ p∈kB rd out over,gG g H 4 2404 p p:=by
 have rf: ∀ w:Str,w.cps.size<=60->(PyData.str w).leavesShort 13=true->gG g H 4 2404 (refusal w) (refusal w):=fun w h1 h2=>
  have t:pX 0 60 (.str w):=⟨rfl,rfl,h2,Nat.le_refl 0,h1⟩
  ⟨_, .tup (.cons (.bool true) (.cons (.tup (.cons (.str w) .nil)) .nil)), .tup (.cons (.bool true) (.cons (.tup (.cons (.str w) .nil)) .nil)),((kA.cons (D:=1) (b:=61) ⟨rfl,rfl,rfl,by decide,by decide⟩ (.cons ((kA.cons t (.nil 0 60)).seq (n:=1) (Nat.le_refl 1)).2 (.nil 1 61))).seq (n:=2) (Nat.le_refl 2)).2.up (by decide) (by decide)⟩
 have bo: ∀ b:Bool,gG g H 4 2404 (.bool b) (.bool b):=fun b=>⟨_, .bool b, .bool b,by cases b <;> exact ⟨rfl,rfl,rfl,by decide,by decide⟩⟩
 intro p hp
 cases rd with
 | none=>
  simp only [kB,List.mem_cons,List.not_mem_nil,or_false] at hp
  rcases hp with rfl | rfl | rfl <;> exact rf _ (by decide) (by decide)
 | some r=>
  simp only [kB,List.mem_cons,List.not_mem_nil,or_false] at hp
  rcases hp with rfl | rfl | rfl
  .exact bo _
  .exact rf _ (by decide) (by decide)
  .exact rf _ (by decide) (by decide)
theorem pR {bk:List (Addr×List Int)} {lt:Addr} (t:TB H lt bk) (v:Int):(bY (tl bk) v).length<=120:=by
 have: ∀ ps:List (Addr×List Int),(∀ p∈ps,p.2.length<=3)->(bY (tl ps) v).length<=3*ps.length:=by
  intro ps h
  induction ps with
  | nil=>exact Nat.zero_le _
  | cons p ps ih=>
   unfold tl bY at ih|-
   rw [List.map_cons,List.flatMap_cons,List.length_append,List.length_cons,Nat.mul_succ,Nat.add_comm]
   refine Nat.add_le_add (ih fun q hq=>h q (List.mem_cons_of_mem _ hq)) ?_
   rw [List.length_map]
   exact Nat.le_trans (List.length_filter_le _ _) (Nat.le_trans (by rw [List.length_drop];exact Nat.sub_le ..) (h p List.mem_cons_self))
 exact Nat.le_trans (this bk t.sz) (Nat.mul_le_mul_left 3 t.few)
theorem mF (D:mP g) (hl:F.lvl<60) (hh:F.A.handled=none) (s:Sat H (σ.lay++B)) (hk:σ.abs.names.Nodup) (hT:H 181=some (.tab "_law_right.<locals>.<lambda>")) {rv:V} {lt lo lv:Addr} {bk:List (Addr×List Int)} {out over:List Int} (t:TB H lt bk)
  (hr:Ft H (σ.rd.map (·.2)) rv) (ho:H lo=some (.list (nums out))) (hv:H lv=some (.list (nums over))) (zo:out.length<=100) (zv:over.length<=100) (zr: ∀ r,σ.rd.map (·.2)=some r->r.length<=100/\ ∀ v∈r,0<=v/\v<10)
  (I:Inv σ.abs (tl bk) (σ.rd.map (·.2)) out over) (h: ∀ H',Ext H H'->Q (.bool true) m H'):aH g F (.ref 184) [.ref σ.x, .ref lt,rv, .ref lo, .ref lv] m H Q X:=by
 refine BI (body:=fL g.w.params) (D.d.lk rfl) (D.d.cd rfl) rfl rfl rfl rfl rfl rfl rfl (du hl rfl) (a7 (fun vs=>[("sorter",vs.getD 0 .none),("told",vs.getD 1 .none),("ready",vs.getD 2 .none),("out",vs.getD 3 .none),("over",vs.getD 4 .none)]) (fun vs S hv=> ?_) (fun h vs r=> ?_)) (bs:=[("sorter", .ref σ.x),("told", .ref lt),("ready",rv),("out", .ref lo),("over", .ref lv)]) rfl fun F' hF hq=> ?_
 .obtain ⟨v,u,w,z,y,rfl⟩:=ME hv;rw [D.d.K];rfl
 .obtain ⟨v,r',rfl,rv,rr⟩:=r.aG;obtain ⟨u,r',rfl,ru,rr⟩:=rr.aG;obtain ⟨w,r',rfl,uI,rr⟩:=rr.aG;obtain ⟨z,r',rfl,rz,rr⟩:=rr.aG;obtain ⟨y,r',rfl,ry,rr⟩:=rr.aG;exact ⟨v,_,rfl,rv,u,_,rfl,ru,w,_,rfl,uI,z,_,rfl,rz,y,[],rfl,ry,rfl⟩
 have JK:aI F' F (jZ g.w.params):=hF
 refine Wt.freeze (x:="sorter") (a:=σ.x) ((JK.kindOf _).trans rfl) rfl fun Bh k c hc ic qn=> ?_
 have D':=D.more Bh k
 have hZ:=JK.q9 qn
 have z:RZ (g.more Bh k) (F'.q9 c) σ c:=⟨hq.1,by show F'.env.qual++_=_;rw [hq.2];rfl,hc,ic,qn⟩
 have OZ:σ.po=out.length:=I.po
 have O0:σ.nf=over.length:=I.nf
 have zl:σ.rows.length<=120:=by
  have:=congrArg List.length I.rows
  unfold au.abs at this
  rw [List.length_map,List.length_map] at this
  rw [this];exact t.named
 have IQ: ∀ r∈σ.abs.rows,r.su.length<=120/\r.np.natAbs<10 ^ 12:=fun r hr=>by
  rw [I.rows] at hr
  obtain ⟨v,_,rfl⟩:=List.mem_map.mp hr
  refine ⟨pR t v, ?_⟩
  show (d5 (tl bk) out over v).natAbs<_
  unfold d5
  have:=rn t over v
  split
  .split <;> decide
  .exact Nat.lt_of_le_of_lt this (Nat.le_of_ble_eq_true rfl)
 have m0: ∀ x∈(["sorter","told","ready","out","over"]:List Str),(cP [("sorter", .ref σ.x),("told", .ref lt),("ready",rv),("out", .ref lo),("over", .ref lv)] fun z0=>none) x=(cP [("sorter", .ref σ.x),("told", .ref lt),("ready",rv),("out", .ref lo),("over", .ref lv)] fun z0=>none) x:=fun z0 z0=>rfl
 refine B9 (g:=g.more Bh k) (F1:=F'.q9 c) (F:=F) (σ:=σ) (B:=B) D' hZ hl hh z s hk hT (out:=out) (over:=over) fun m1 H1 K ld lc ln f1 f2 f3 A=> ?_
 refine zZ (g:=g.more Bh k) D' hZ hl hh z s hT A hr ho hv (by exact AO zo) (by exact AO zv) OZ O0 (fun a ns e=>Nat.lt_of_le_of_lt (zr ns (by rw [e];rfl)).1 (by decide)) rfl rfl rfl fun m1 H1 K ld lc ln f1 f2 f3 A=> ?_
 refine Ca (g:=g.more Bh k) D'.d hZ hl hh A (by cases σ.rd <;> exact Nat.le_refl _) hr ho hv (by exact AO zo) (by exact AO zv) (fun r e=>⟨Nat.le_trans (zr r e).1 (by decide),(zr r e).2⟩) rfl rfl rfl fun H1 K a0 A hd=> ?_
 refine Cb (g:=g.more Bh k) D'.d hZ hl hh ⟨A,hd,trivial⟩ (by cases σ.rd <;> exact Nat.le_refl _) t ho hv rfl rfl rfl fun m1 H1 K as J=> ?_
 rw [<- I.rows, <- OZ, <- O0] at J
 exact Ce (g:=g.more Bh k) D'.d hZ hl hh s J rfl rfl (fun H'=>Fy _ _ _ H') (fun r e=>Nat.le_trans (zr r e).1 (by decide)) (by rw [OZ];omega) (by rw [O0];omega) IQ zl fun m1 H' e=>h H' e
end
end
theorem O1 (ns:List Int):firstMet (fun i=>ns.getD i 0) ns.length=ns.foldl step_dedup []:=by
 unfold firstMet
 congr 1
 refine List.ext_getElem (by simp) fun i h1 h2=> ?_
 simp only [List.getElem_map,List.getElem_range]
 rw [List.getD_eq_getElem?_getD,List.getElem?_eq_getElem h2];rfl
theorem Ab: ∀ (xs:List Int) (acc:List Int),(acc++xs).Nodup->xs.foldl step_dedup acc=acc++xs:=by
 intro L9
 induction L9 with
 | nil=>
  rintro acc _
  exact (List.append_nil _).symm
 | cons x xs ih=>
  rintro acc h
  have n:acc.any (· == x)=false:=by
   cases q:acc.any (· == x) with
   | false=>rfl
   | true=>
    obtain ⟨y,hy,e⟩:=List.any_eq_true.mp q
    have e:=eq_of_beq e
    subst e
    exact absurd rfl ((List.nodup_append.mp h).2.2 y hy y List.mem_cons_self)
  rw [List.foldl_cons]
  have:step_dedup acc x=acc++[x]:=by unfold step_dedup;rw [n];rfl
  rw [this,ih _ (by rw [List.append_assoc];exact h),List.append_assoc];rfl
theorem rD {ring:List Int} (two:2<=ring.length) (ends:ring.getD 0 0=ring.getD (ring.length-1) 0) (once:(ring.take (ring.length-1)).Nodup):(ring.foldl step_dedup []).length=ring.length-1:=by
 obtain ⟨as,z,e⟩: ∃ as z,ring=as++[z]:=by
  rcases List.eq_nil_or_concat ring with rfl | ⟨as,z,e⟩
  .simp at two
  .exact ⟨as,z,by rw [e,List.concat_eq_append]⟩
 subst e
 have hl:(as++[z]).length-1=as.length:=by simp
 rw [hl] at once ends|-
 rw [List.take_left' rfl] at once
 rw [List.foldl_append,Ab as [] (by simpa using once)]
 have ha:1<=as.length:=by simp at two;exact LL two
 have hz:as.any (· == z)=true:=by
  refine List.any_eq_true.mpr ⟨as[0],List.getElem_mem _, ?_⟩
  rw [List.getD_eq_getElem?_getD,List.getD_eq_getElem?_getD,List.getElem?_append_left (by exact GA ha),List.getElem?_eq_getElem (by exact GA ha),List.getElem?_append_right (Nat.le_refl _),Nat.sub_self] at ends
  simpa using ends
 show (step_dedup ([]++as) z).length=_
 unfold step_dedup
 rw [List.nil_append,hz];rfl
section
variable [ζ:bW]
section
variable {g:G} {F:Fm} {m:Loc} {H:AH} {s:Shared} {X:PX} {Q:PV}
theorem FA {a:Addr} {n:Nat} (ha:H a=some (.qh n)) (hz:n<=1000) (h:Q (.int n) m H):WC g F (.builtin "len") [.ref a] m H Q X:=uG fun s v S r=>by
 rw [VR.ay] at r;subst r
 obtain ⟨o,es,ep,t,e,hex,hd,hf,rfl⟩:=(S.obj a _ ha).2
 exact call_len_set e hex hd hf (Int.lt_of_le_of_lt (Int.ofNat_le.mpr hz) (by decide)) (bG.now S rfl rfl rfl (.fF _ _) h)
theorem Ci {l:Addr} {xs:List V} {x:V} {j:Nat} (hl:LA g H l xs) (dx:dat x=true) (ds:cJ xs=true) (hd:cQ xs<=1000) (hj:j<xs.length) (hz:xs.length<=1000) (hit:eD xs[j] x=true) (O2: ∀ i (hi:i<xs.length),i<j->eD xs[i] x=false)
  (h:Q (.int (j:Int)) m H):WC g F (.builtin "list.index") [.ref l,x] m H Q X:=HM fun s v u S r ru=>by
 rw [VR.ay] at r;subst r
 obtain ⟨vs,ep,e,rs⟩:=hl.at S
 have sm:=S.small
 have cl:cLine=9900:=rfl
 have hlen:=rs.length
 have at': ∀ i (h1:i<vs.length) (h2:i<xs.length),sP s.heap x vs[i]=eD xs[i] x:=fun i h1 h2=>by
  obtain ⟨w,ew,uI⟩:=rs.getElem? (List.getElem?_eq_getElem h2)
  rw [List.getElem?_eq_getElem h1] at ew
  cases ew
  have dy:dat xs[i]=true:=by
   have:=cK (j:=i) ds
   rwa [List.getD_eq_getElem?_getD,List.getElem?_eq_getElem h2] at this
  exact jl dx dy uI
 refine call_meets PySem.F.slot_list_index ⟨_,e,rfl⟩ PySem.F.entry_list_index (PySem.F.args_list_index_2 _ _) (list_indexAt l vs.toArray ep none #[] u (sP s.heap x) j (by rw [List.size_toArray,hlen];exact hj) (by omega) ?_ ?_) ⟨e,fun y hy=> ?_,bG.now S rfl rfl rfl (.fF _ _) h⟩
 .rw [List.getElem_toArray,at' j (by rw [hlen];exact hj) hj];exact hit
 .intro i hi dX
  rw [List.size_toArray] at hi
  rw [List.getElem_toArray,at' i hi (hlen▸hi)];exact O2 i _ dX
 .obtain ⟨z,h1,h2,h3,h4⟩:=sQ rs (by simpa using hy) ds
  rw [jl dx h2 h3]
  exact jh (cQ xs) _ s _ _ _ _ h4 h2 dx (by show F.A.units+1+cQ xs<cLine;exact Gi sm cl hd) h3 ru
theorem tF {x y z:Expr} {rest:List Expr} {pos:Pos} (h:WE g F (eval x F.env) m H (fun a m H=>W1 g F nK a truthy m H (fun c m H=>if c then WE g F (eval (.BoolOp .And (y::z::rest) pos) F.env) m H Q X else Q a m H) X) X):WE g F (eval (.BoolOp .And (x::y::z::rest) pos) F.env) m H Q X:=
 fun s S=>BoolOp_and (h.run S (fun v av a m₁ aL aA ah k₁ h₁=>aU ah.tk (h₁ _ _ ah aA) (fun c a9 c' m₂ cW rc aB k₂ bB=>by
  cases rc
  cases c
  .exact ⟨a,m₂,cW,aA.keep ah k₂,fun z0=>aB,k₁.trans k₂,bB⟩
  .exact bB.run aB (fun z0 z0 b m H r S' k q=>⟨b,m,H,r,fun z0=>S',(k₁.trans k₂).trans k,q⟩) (fun z0 z0 x=>x.after (k₁.trans k₂))) (fun z0 z0 x=>x.after k₁)) (fun z0 z0 x=>x))
end
theorem IT {g:G} (D:Gd g):OwnClsQ "CycleError" 55 [.type "ValueError", .type "Exception", .type "BaseException", .type "object"] "ValueError.__new__" g.mg g.B:=by
 have AD: ∀ N,nsOkIn (Mine.kx.heap_1 g.w.params) N=true->nsOkIn g.K N=true:=fun N h=>by rw [D.K];exact h
 have O2: ∀ N x,nsIn (Mine.kx.heap_1 g.w.params) N x=some none->nsIn g.K N x=some none:=fun N x h=>by rw [D.K];exact h
 refine ⟨D.own.bound,_,_,_,_,_,_,_,_,_,_,_,_,_,_,_,_,_,g.gq 55 (excClassObj _ _ _ _ _ _ _ _ _ _ _ _ _ _ _ _ _ _) (by rw [D.K];rfl), .of_isNs (isNs_of_in g.gq (AD _ (by kernel_rfl))),fun n hn=> ?_, .base⟩
 simp only [quietNames,List.mem_cons,List.not_mem_nil,or_false] at hn
 rcases hn with rfl | rfl | rfl | rfl <;> exact nsMap_none_of_in g.gq (AD _ (by kernel_rfl)) (O2 _ _ (by kernel_rfl))
section
variable {g:G} {F:Fm} {m:Loc} {H:AH} {s:Shared} {X:PX}
end
section
variable {g:G} {F:Fm} {m:Loc} {H:AH} {s:Shared} {X:PX} {Q:eI}
theorem Cj {a:Addr} {as:List V} {Q:PV} (D:Gd g) (x:mC g.B a (.ref 55) as) (h:Q (.tup as) m H):W1 g F VR (.ref a) (fun v=>getAttr v "args" true) m H Q X:=fun s v S r=>by
 rw [VR.ay] at r;subst r
 obtain ⟨o,vs,v,e,hc,hd,h0,_,rv⟩:=x
 have rv:=rv.mono fun b ob z0 e=>S.base b ob e
 have e:=S.base _ _ e
 obtain ⟨t0,ws,ep,rfl,e',r'⟩:=VR.g4.mp rv
 have O:=(IT D).keeps S.base
 obtain ⟨hh,gg,d,t,os⟩:=s
 exact args_of_own PySem.F.attrBase_ValueError O e hc hd h0 (bG.now S rfl rfl rfl rv h)
end
section
variable {prog:Program} {w:World} {A:Around} {E:PE} {s:Shared}
theorem tG {hx:List Addr} (BG: ∀ x,A.handled=some (.ref x)->x∈hx) (I ax:Addr) (uj:ax≠I) (hI:I∉hx) (items:Array Value):
  WalksS prog w A I (I::ax::hx) [I] (fun a b=>b=a) items.size (fun i v=>items[i]? =some v) (fun i s=>s.heap.IsListIter I ax i/\s.heap.IsList ax items/\jK A s.heap) where
 sub:=fun b hb=>by rw [List.mem_singleton] at hb;subst hb;exact List.mem_cons_self
 grefl:=fun z0=>rfl
 gtrans:=fun z0 z0 z0 h1 h2=>h2.trans h1
 frame:=fun i s h' tk st z0 hk=>⟨st.1.at fun o e=>hk I List.mem_cons_self o e,st.2.1.at fun o e=>hk ax (.tail _ (.head _)) o e,st.2.2.imp id fun ⟨x,o,vs,e1,e2,e3⟩=>⟨x,o,vs,e1,hk x (.tail _ (.tail _ (BG x e1))) o e2,e3⟩⟩
 item:=fun i s Q E hi st hQ=>wpAny_pyNext_list_item st.1 st.2.1 (x:=items[i]) (by simp [hi]) fun h' TR sb=>hQ _ _ (by simp [hi]) ⟨TR,st.2.1.extBut sb.extBut uj,st.2.2.same (fun x e q=>hI (by rw [<- q];exact BG x e)) sb⟩ ⟨fun b o n e=>sb.extBut b o (fun z=>n (by rw [z];exact List.mem_singleton_self _)) e,rfl,rfl,rfl,Nat.le_refl _⟩
 done:=fun s Q E st hQ=>nO st.2.2 (fun x e q=>hI (by rw [<- q];exact BG x e)) st.1 st.2.1 (by simp) fun h' u=>hQ _ ⟨fun b o n e=>u b o (fun z=>n (by rw [z];exact List.mem_singleton_self _)) e,rfl,rfl,rfl,Nat.le_refl _⟩
 self:=fun z0 z0 z0 z0 st hQ=>wpAny_pyIter_listiter st.1 hQ
theorem IU (A:Around): ∃ hx:List Addr,(∀ x,A.handled=some (.ref x)->x∈hx)/\ ∀ x∈hx,A.handled=some (.ref x):=by
 cases q:A.handled with
 | none=>exact ⟨[],(fun x e=>by cases e),fun x e=>by cases e⟩
 | some v=>
  cases v with
  | ref a=>exact ⟨[a],fun x e=>by cases e;exact List.mem_singleton_self _,fun x e=>by rw [List.mem_singleton] at e;rw [e]⟩
  | _=>exact ⟨[],(fun x e=>by cases e),fun x e=>by cases e⟩
inductive IV (prog:Program) (w:World) (items:Array Value) (ns:List Int) (s:Shared) (r:Value) (a9:Shared):Prop
 | mk (h':Heap) (tk:Nat) (e:r= .none) (mS:a9={ s with heap:=h',toks:=tk }) (S:h'.SetOf (intKind prog w) s.heap.objs.size (fun k'=>(firstMet (fun i=>ns.getD i 0) items.size).any (· == k')) (firstMet (fun i=>ns.getD i 0) items.size).length) (k:(∀ b o,b<s.heap.objs.size->s.heap.get? b=some o->h'.get? b=some o))
theorem wJ {l:Addr} {items:Array Value} {ns:List Int} {Q:PE} (k:jK A s.heap) (hl:s.heap.IsList l items) (hi:IntsAre items.toList ns) (hb:items.size+1<scanBound)
  (h: ∀ (h':Heap) (tk:Nat),h'.SetOf (intKind prog w) s.heap.objs.size (fun k'=>(firstMet (fun i=>ns.getD i 0) items.size).any (· == k')) (firstMet (fun i=>ns.getD i 0) items.size).length->
   (∀ b o,b<s.heap.objs.size->s.heap.get? b=some o->h'.get? b=some o)->Q (.ref s.heap.objs.size) { s with heap:=h',toks:=tk }):
  wpAny (model prog w) A (call (.type "set") [.ref l]) Q E s:=by
 obtain ⟨c,tl,TS⟩:=PySem.F.called_set.mro
 have Qr:=PySem.F.called_set.made
 have TU:=PySem.F.called_set.sub
 have h1:=PySem.F.called_set.notType
 have h2:=PySem.F.called_set.canCreate
 have vE:=PySem.F.typeCall_set_1 (.ref l)
 have UA:=PySem.F.called_set.init.lookup
 refine wpAny_call (codeAny_of_tree ?_)
 show wpAny _ _ (callAny (.type "set") _) _ _ _
 refine wpAny_pure ⟨Code.quiet_builtin _ (by decide+kernel),codeAny_builtin PySem.F.entry_type_call ?_⟩
 rw [Around.under_plain (weight_type_call_type "set" [.ref l] []) rfl]
 repeat (any_goals (first | assumption | wp_step))
 have base:(s.heap.push { cls:= .type "set",dict:=none,data:= .set #[] 0 (.fresh 0 0 true) }).objs.size=s.heap.objs.size+1:=Heap.size_push ..
 refine codeAny_mono (code_set_new_1 (.ref l) (E:=E) (Q₁:=fun obj av=> ∃ led:Bool,obj= .ref s.heap.objs.size/\av={ s with heap:=s.heap.push { cls:= .type "set",dict:=none,data:= .set #[] 0 (.fresh 0 0 led) } }) fun led=>⟨led,rfl,rfl⟩) fun r av hr=> ?_
 match r,hr with
 | .error e,hr=>exact hr
 | .ok (.ret obj),hr=>
  obtain ⟨led,rfl,rfl⟩:=hr
  have hS:(s.heap.push { cls:= .type "set",dict:=none,data:= .set #[] 0 (.fresh 0 0 led) }).get? s.heap.objs.size=some { cls:= .type "set",dict:=none,data:= .set #[] 0 (.fresh 0 0 led) }:=Heap.get?_push_size _ rfl
  have hT:Shared.TypeIs { s with heap:=s.heap.push { cls:= .type "set",dict:=none,data:= .set #[] 0 (.fresh 0 0 led) } } (.ref s.heap.objs.size) "set":=⟨_,hS,rfl⟩
  have UB:=PySem.F.called_set.init.bind (.ref s.heap.objs.size)
  repeat (any_goals (first | assumption | wp_step))
  refine codeAny_mono (codeAny_call_builtin (R:=wants (IV prog w items ns s) E) PySem.F.called_set.init.plain PySem.F.entry_set_init (check_set_init_1 hT ?_)) fun cZ a9 rE=> ?_
  .obtain ⟨⟨_,dl,_,sl⟩,e1,rfl,nl,rfl⟩:=hl
   have kp: ∀ b ob,s.heap.get? b=some ob->(s.heap.push { cls:= .type "set",dict:=none,data:= .set #[] 0 (.fresh 0 0 led) }).get? b=some ob:=fun b ob e=>Heap.get?_push_of_some _ e
   have z1:(s.heap.push { cls:= .type "set",dict:=none,data:= .set #[] 0 (.fresh 0 0 led) }).objs.size=s.heap.objs.size+1:=Heap.size_push ..
   have q1:=PySem.F.sub_list_set
   have q2:=PySem.F.sub_list_frozenset
   have q3:(Value.type "list" == Value.type "dict")=false:=by decide
   obtain ⟨hx,x1,x2⟩:=IU A
   clear hT base h
   revert hS kp z1
   refine mQ (s.heap.push { cls:= .type "set",dict:=none,data:= .set #[] 0 (.fresh 0 0 led) }) fun h1 hS kp z1=> ?_
   have e2:=kp l _ e1
   have l1:h1.IsList l items:=⟨_,e2,rfl,nl,rfl⟩
   have Qs:l<s.heap.objs.size:=Heap.lt_size e1
   have lx: ∀ x∈hx,x<s.heap.objs.size:=fun x q=>by
    rcases k with k | ⟨y,o,vs,y1,y2,_⟩
    .have:=x2 x q;rw [k] at this;cases this
    .have:=x2 x q;rw [y1] at this;cases this;exact Heap.lt_size y2
   refine iI fun Rz Ez rQ ui=> ?_
   unfold Builtin.«set.__init__» noKeywords Builtin.Frozenset.updateFrom
   generalize TV:pyIter=PI
   wp_walk
   subst TV
   refine wpAny_pyIter_list l1 (wpAny_bind (wpAny_runValue ?_))
   refine codeAny_set_update_loopS (tG (prog:=prog) (w:=w) (A:=A.in1.in1.in1) x1 h1.objs.size l (Nat.ne_of_lt (z1▸Nat.lt_succ_of_lt Qs)) (fun q=>Nat.lt_irrefl _ (Nat.lt_trans (Nat.lt_succ_self _) (z1▸lx _ q))) items) s.heap.objs.size ?_ (fun i=>ns.getD i 0)
    (fun i v e=>IntsAre.int_at hi i v (by rw [Array.getElem?_toList];exact e)) hb (items.size-0) 0 _ rfl (Nat.zero_le _) ⟨⟨_,Heap.get?_push_size _ rfl,rfl,rfl⟩,l1.push _,k.up fun b o e=> .inl (Heap.get?_push_of_some _ (kp b o e))⟩ ?_ fun s' hm CX=> ?_
   .rw [z1]
    intro q
    rcases List.mem_cons.mp q with q | q
    .exact absurd q (Nat.ne_of_lt (Nat.lt_succ_self _))
    .rcases List.mem_cons.mp q with q | q
     .exact absurd q (Nat.ne_of_gt Qs)
     .exact absurd (lx _ q) (Nat.lt_irrefl _)
   .exact SetOf_congr ((setObjOf_fresh (knd:=intKind prog w) led).setOf (Heap.get?_push_of_some _ hS) (by unfold scanBound;exact LN)) (fun z0=>rfl) rfl
   .have D7:s'={ s with heap:=s'.heap,toks:=s'.toks }:=by
     obtain ⟨m1,m2,m3,m4,m5⟩:=hm
     obtain ⟨a1,a2,a3,a4,a5⟩:=s'
     cases m2;cases m3;cases m4;rfl
    show wpAny _ _ _ _ _ _
    refine wpAny_pure ?_
    show wpAny _ _ (ret Value.none) _ _ _
    refine wpAny_pure (rQ _ _ ⟨_,_,rfl,D7,CX,fun b o hb e=>hm.heap b o ?_ (Heap.get?_push_of_some _ (kp b o e))⟩)
    rw [z1]
    intro q
    rcases List.mem_cons.mp q with q | q
    .exact absurd q (Nat.ne_of_lt hb)
    .rw [List.mem_singleton] at q;exact absurd q (Nat.ne_of_lt (Nat.lt_succ_of_lt hb))
  .match cZ,rE with
   | .error e,rE=>exact rE
   | .ok (.ret r),rE=>
    obtain ⟨h',tk,rfl,rfl,CX,F5⟩:=rE
    repeat (any_goals (first | assumption | wp_step))
    exact h _ _ CX F5
end
section
variable {g:G} {F:Fm} {m:Loc} {H:AH} {s:Shared} {X:PX} {Q:PV}
theorem FE (hh:Hk g F) {l:Addr} {ns:List Int} (hl:H l=some (.list (nums ns))) (hz:ns.length<=1000) (h: ∀ a,H a=none->Q (.ref a) m (put H a (.qh (ns.foldl step_dedup []).length))):WC g F (.type "set") [.ref l] m H Q X:=uG fun s v S r=>by
 rw [VR.ay] at r;subst r
 obtain ⟨vs,ep,e,rs⟩:=S.listAt hl
 have hlen:vs.length=ns.length:=by rw [rs.length,ints_length]
 refine wJ (items:=vs.toArray) (ns:=ns) (hh.at S) ⟨_,e,rfl,ep,rfl⟩ (by simpa using yO rs) (by rw [List.size_toArray,hlen];exact Nat.lt_of_le_of_lt (Nat.succ_le_succ hz) (Nat.le_of_ble_eq_true rfl)) fun h' tk hS kp=> ?_
 have nM:vs.toArray.size=ns.length:=by rw [List.size_toArray,hlen]
 rw [nM,O1] at hS
 obtain ⟨o,es,dh,t,ho,hex,hd,_,_,_,hf,hn⟩:=hS
 have n:s.heap.get? s.heap.objs.size=none:=Heap.get?_none_of_le (Nat.le_refl _)
 obtain ⟨S',K'⟩:=S.new (t:=tk) (h':=h') (o':= .qh (ns.foldl step_dedup []).length) (fun b o q=>kp b o (Heap.lt_size q) q) n ⟨o,es,dh,t,ho,hex,hd,hf,hn⟩
 exact ⟨.ref _,m,_, .ip _,S',K',h _ (S.bZ n)⟩
end
end
structure tI (told:List (List Int)) (ring:List Int):Prop where
 ok: ∀ v∈ring,0<=v/\v<10
 two:2<=ring.length
 few:ring.length<=100
 ends:ring.getD 0 0=ring.getD (ring.length-1) 0
 once:(ring.take (ring.length-1)).Nodup
 steps: ∀ k,k+1<ring.length-> ∃ c∈told,c.getD 0 0=ring.getD (k+1) 0/\ring.getD k 0∈c.drop 1
theorem tJ (j:Nat) (h:j<10):cl (j:Int)=(j:Int):=by
 exact gZ (P:=fun j=>cl (j:Int)=(j:Int)) rfl rfl rfl rfl rfl rfl rfl rfl rfl rfl j h
theorem ou {v:Int} (h0:0<=v) (h1:v<10):cl v=v:=by
 obtain ⟨j,rfl⟩:=Int.eq_ofNat_of_zero_le h0
 exact tJ j (by omega)
noncomputable abbrev kf (ring:List Int) (k:Nat):V:= .tup [.int (ring.getD k 0), .int (ring.getD (k+1) 0)]
noncomputable abbrev va (c:List Int) (n:Int):V:= .tup [.int n, .int (c.getD 0 0)]
noncomputable def gY (ring:List Int):List V:=(List.range (ring.length-1)).map (kf ring)
noncomputable def iT (told:List (List Int)):List V:=told.flatMap fun c=>(c.drop 1).map (va c)
theorem mG (a b:Int):dat (.tup [.int a, .int b])=true:=rfl
theorem Ac (a b:Int):dep (.tup [.int a, .int b])<=2:=Nat.le_of_ble_eq_true rfl
theorem rF {xs:List V} (h: ∀ x∈xs,dat x=true):cJ xs=true:=by
 induction xs with
 | nil=>rfl
 | cons x xs ih=>exact Bool.and_eq_true_iff.mpr ⟨h x List.mem_cons_self,ih fun y hy=>h y (List.mem_cons_of_mem _ hy)⟩
theorem rG {xs:List V} {n:Nat} (h: ∀ x∈xs,dep x<=n):cQ xs<=n:=by
 induction xs with
 | nil=>exact Nat.zero_le _
 | cons x xs ih=>exact Nat.max_le.mpr ⟨h x List.mem_cons_self,ih fun y hy=>h y (List.mem_cons_of_mem _ hy)⟩
theorem ow (told:List (List Int)): ∀ x∈iT told,dat x=true/\dep x<=2:=fun x hx=>by
 obtain ⟨c,_,hx⟩:=List.mem_flatMap.mp hx
 obtain ⟨n,_,rfl⟩:=List.mem_map.mp hx
 exact ⟨mG _ _,Ac _ _⟩
theorem wK {told:List (List Int)} {ring:List Int} (x:tI told ring) {k:Nat} (hk:k+1<ring.length):((iT told).any fun y=>eD y (kf ring k))=true:=by
 obtain ⟨c,hc,e1,e2⟩:=x.steps k hk
 refine List.any_eq_true.mpr ⟨kf ring k,List.mem_flatMap.mpr ⟨c,hc,List.mem_map.mpr ⟨_,e2, ?_⟩⟩,fP _ (mG _ _)⟩
 unfold va kf;rw [e1]
theorem tK (bk:List (Addr×List Int)):bk.flatMap (qZ (fun z0=>true) (fun p=>p.2.drop 1) (fun z0 z0=>true) fun p n=>va p.2 n)=iT (tl bk):=by
 unfold tl iT
 rw [List.flatMap_map]
 congr 1;funext p
 unfold qZ
 rw [if_pos rfl,List.filter_eq_self.mpr fun z0 z0=>rfl]
section
variable [ζ:bW]
theorem IW {i j:Nat} (hi:i<(a8 j8).length) (hj:j<10):eD (a8 j8)[i] (cd (j:Int))=decide (i=j):=by
 have eB:i<10:=by rw [aw] at hi;exact hi
 have e:=z5 (v:=(i:Int)) (Int.natCast_nonneg i) (by omega)
 rw [Int.toNat_natCast,List.getElem?_eq_getElem hi] at e
 rw [Option.some.inj e,f9,tJ i eB,tJ j hj]
 exact decide_eq_decide.mpr ⟨fun q=>by omega,fun q=>by omega⟩
section
variable {g:G} {F:Fm} {m:Loc} {H:AH} {X:PX} {Q:PV}
theorem Ad {n:Nat} (hn:n<=1000):bS g (.kS 1 n 1) (List.range (n-1)).length (fun i=> .int (1+(i:Int))) (fun z0=>True):=by
 rw [List.length_range]
 exact qs (by decide) (by omega) (by split <;> omega)
theorem wL (D:Gd g) (hl:F.lvl<90) (hh:Hk g F) {lt lr:Addr} {bk:List (Addr×List Int)} {ring:List Int} (t:TB H lt bk) (hr:H lr=some (.list (a8 ring))) (x:tI (tl bk) ring) (h: ∀ H',Ext H H'->Q (.bool true) m H'):aH g F (.ref 189) [.ref lt, .ref lr] m H Q X:=by
 have hz:ring.length<=1000:=Nat.le_trans x.few (by decide)
 refine cC (D.lk rfl) (D.cd rfl) rfl rfl rfl rfl rfl rfl rfl (du hl rfl) (a7 (fun vs=>[("told",vs.getD 0 .none),("ring",vs.getD 1 .none)]) (fun vs S hv=> ?_) (fun h vs r=> ?_)) (bs:=[("told", .ref lt),("ring", .ref lr)]) rfl fun F' hF=> ?_
 .obtain ⟨v,u,rfl⟩:=vv hv;rw [D.K];rfl
 .obtain ⟨v,r',rfl,rv,rr⟩:=r.aG;obtain ⟨u,r',rfl,ru,rr⟩:=rr.aG;exact ⟨v,_,rfl,rv,u,[],rfl,ru,rfl⟩
 refine ae<|cX (by first | exact .inl (bA hF.scope rfl) | exact .inr (bA hF.scope rfl)) (hF.gb rfl) (aM.of hF rfl rfl) (fun z0=>rfl) (hF.hk hh) hF.st (fun Fc acc it=>bz ..)<|aa rfl<|
  cG (xs:=ring) cd (fun z0=>true) (fun v=> .int v) (pP (val:=cd)) pQ (fun z0 e=>e _ _ hr) rfl hz
   (fun Fc hC v hv m' H' sees mv e=>cA ⟨rfl,rfl, .refl _⟩) (fun Fc hC v hv z0 m' H' sees mv e=> ?_) fun H1 e1 lw hw=> ?_
 .refine bg<|aJ<|bp (hC.cR rfl) (D.nb rfl) (fun z0=> .dT _)<|aX<|ai (D.kp rfl)<|aj<|aH.call<|fq D (hC.lv (hF.lv hl rfl)) fun ln Fq=> ?_
  refine bU (bR (.own (ag ..)) PySem.F.slot_list_index PySem.F.type_list_index)<|ai (.blt _)<|af<|aa mv<|aj ?_
  obtain ⟨h0,h1⟩:=x.ok v hv
  obtain ⟨j,rfl⟩:=Int.eq_ofNat_of_zero_le h0
  have hj:j<10:=by omega
  refine Ci (j:=j) (.own (ag ..)) (aV _) (rF fun y hy=> ?_) (Nat.le_trans (rG (n:=8) fun y hy=> ?_) (by decide)) (by rw [aw];exact hj) (by rw [aw];decide) ((IW _ hj).trans (decide_eq_true rfl)) (fun i hi q=>(IW hi hj).trans (decide_eq_false (Nat.ne_of_lt q))) ⟨rfl,rfl,(Ext.refl _).put Fq⟩
  .obtain ⟨i,_,rfl⟩:=List.mem_map.mp hy;exact aV i
  .obtain ⟨i,_,rfl⟩:=List.mem_map.mp hy;exact dg i
 rw [List.filter_eq_self.mpr fun z0 z0=>rfl]
 have ew:ring.map (fun v=>V.int v)=nums ring:=rfl
 rw [ew] at*
 have f1:=e1.put (o:= .list (nums ring)) hw
 have g1:=ag H1 lw (O.list (nums ring))
 generalize put H1 lw (.list (nums ring))=H2 at f1 g1
 refine ae<|cX (by first | exact .inl (bA hF.scope rfl) | exact .inr (bA hF.scope rfl)) (hF.loc rfl) (aM.of hF rfl rfl) (fun z0=>rfl) (hF.hk hh) hF.st (fun Fc acc it=>bz ..)<|
  aJ<|bN (hF.cR rfl) (D.nb rfl) D.range (aX<|ai (.type _)<|af<|aK<|af<|aJ<|bN (hF.cR rfl) (D.nb rfl) D.len (aX<|ai (.blt _)<|af<|aa rfl<|aj<|gB (.own g1) (fc hz)<|aj<|yR ?_))
 rw [ints_length]
 refine cG (xs:=List.range (ring.length-1)) (fun k=> .int (1+(k:Int))) (fun z0=>true) (kf ring) (Ad hz) (fun i h=>by rw [List.getElem_range]) (fun z0 z0=>trivial) rfl (by rw [List.length_range];exact AP hz)
  (fun Fc hC k hk m' H' sees mk e=>cA ⟨rfl,rfl, .refl _⟩) (fun Fc hC k hk z0 m' H' sees mk e=> ?_) fun H3 e3 ls hs=> ?_
 .have F5:k+1<ring.length:=by have:=List.mem_range.mp hk;exact GB this
  refine fR<|af<|b8<|aa ((sees _ rfl).trans rfl)<|bx<|aa mk<|aK<|HN ?_
  rw [show (1:Int)+(k:Int)-1=0+(k:Int) by omega]
  refine iS (e _ _ g1) (by exact LQ F5) hz<|af<|b8<|aa ((sees _ rfl).trans rfl)<|aa mk ?_
  rw [show (1:Int)+(k:Int)=0+((k+1:Nat):Int) by omega]
  exact iS (e _ _ g1) F5 hz<|aj ⟨Nat.le_of_ble_eq_true rfl,rfl,rfl, .refl _⟩
 rw [List.filter_eq_self.mpr fun z0 z0=>rfl]
 have ew:(List.range (ring.length-1)).map (kf ring)=gY ring:=rfl
 rw [ew] at*
 have f2:=e3.put (o:= .list (gY ring)) hs
 have g2:=ag H3 ls (O.list (gY ring))
 generalize put H3 ls (.list (gY ring))=H4 at f2 g2
 refine ae<|cX (by first | exact .inl (bA hF.scope rfl) | exact .inr (bA hF.scope rfl)) (hF.gb rfl) (aM.of hF rfl rfl) (fun z0=>rfl) (hF.hk hh) hF.st (fun Fc acc it=>jf ..)<|aa rfl<|
  jz (xs:=bk) (hF.hk hh) hF.st (fun p=> .ref p.1) (fun z0=>true) (fun p=>p.2.drop 1) (fun z0 z0=>true) (fun p n=>va p.2 n) hW hX (fun H' e=>e _ _ (f2 _ _ (f1 _ _ t.top))) rfl rfl (by decide) (Nat.le_trans t.few (by decide)) (fun p hp=>Nat.le_trans (by rw [List.length_drop];exact Nat.sub_le ..) (Nat.le_trans (t.sz p hp) (by decide))) (fun z0 z0=>rfl)
   (fun Fc hC p hp m' H' z0 z0 e=>cA ⟨rfl,rfl, .refl _⟩)
   (fun Fc hC p hp z0 m' H' z0 mp e=>d8<|aa mp<|fK<|aK<|cB<|cB<|hY (k:=1) (i:=1) rfl rfl (e _ _ (f2 _ _ (f1 _ _ (t.each p hp)))) (Nat.le_trans (t.sz p hp) (by decide)) fun c hc=>⟨c,rfl,rfl,(Ext.refl _).put hc,ag ..⟩)
   (fun Fc hC p hp z0 n hn m' H' z0 z0 z0 e=>cA ⟨rfl,rfl, .refl _⟩)
   (fun Fc hC p hp z0 n hn z0 m' H' z0 mp my e=>fR<|af<|aa my<|af<|b8<|aa mp<|aK<|ia (e _ _ (f2 _ _ (f1 _ _ (t.each p hp)))) (t.ne p hp)<|aj ⟨Nat.le_of_ble_eq_true rfl,rfl,rfl, .refl _⟩) fun H5 e5 le he=> ?_
 rw [tK]
 have f3:=e5.put (o:= .list (iT (tl bk))) he
 have g3:=ag H5 le (O.list (iT (tl bk)))
 generalize put H5 le (.list (iT (tl bk)))=H6 at f3 g3
 have w:=f3 _ _ (f2 _ _ g1)
 have ws:=f3 _ _ g2
 have wr:=f3 _ _ (f2 _ _ (f1 _ _ hr))
 have sl:(gY ring).length=ring.length-1:=by unfold gY;simp
 have s0:(!(gY ring).isEmpty)=true:=by
  cases q:gY ring with
  | nil=>rw [q] at sl;exact absurd (Nat.le_trans (Nat.le_sub_of_add_le x.two:1<=_) (Nat.le_of_eq sl.symm)) (Nat.not_succ_le_zero 0)
  | cons a b=>rfl
 have two:=x.two
 refine ae<|dW<|tF<|gy rfl<|aJ<|bN (hF.cR rfl) (D.nb rfl) D.ty (aX<|ai (.type _)<|af<|aa rfl<|aj<|E6 (.inl ⟨_,wr,rfl⟩) rfl<|bN (hF.cR rfl) (D.nb rfl) D.list<|Dh (b:=true) (by decide)<|aq ?_)
 refine tF<|gy rfl<|aa rfl<|aT<|aj ⟨Nat.le_of_ble_eq_true rfl,fun b hb=>qY (.own ((Ext.refl H6).put hb _ _ ws)) (.own (ag ..))<|aq ?_⟩
 rw [if_pos s0]
 have f4:=(Ext.refl H6).put (o:= .list []) hb
 generalize put H6 b (.list [])=H7 at f4
 refine tF<|gy rfl<|b8<|aa rfl<|aK<|ia (f4 _ _ w) (fun q=>by rw [q] at two;simp at two)<|b8<|aa rfl<|xO<|aK<|qG<|gj (.own (f4 _ _ w))<|sR (.own (f4 _ _ w)) (by rw [ints_length];exact kO (by exact LO two))<|j4<|aq ?_
 rw [if_pos (beq_iff_eq.mpr x.ends)]
 refine G4<|gy rfl<|aJ<|bN (hF.cR rfl) (D.nb rfl) D.len (aX<|ai (.blt _)<|af<|aJ<|bN (hF.cR rfl) (D.nb rfl) D.set (aX<|ai (.type _)<|af<|aa rfl<|aj<|FE (hF.hk hh) (f4 _ _ w) hz fun a ha=>aj<|FA (ag ..) (by rw [rD two x.ends x.once];exact AP hz)<|aJ<|bN (hF.cR rfl) (D.nb rfl) D.len (aX<|ai (.blt _)<|af<|aa rfl<|aj<|gB (.own ((Ext.refl H7).put ha _ _ (f4 _ _ ws))) (EK (by rw [sl];exact AP hz))<|j4<|aq ?_)))
 rw [if_pos (by rw [rD two x.ends x.once,sl];exact beq_self_eq_true _)]
 have f5:=f4.trans ((Ext.refl H7).put (o:= .qh (ring.foldl step_dedup []).length) ha)
 generalize put H7 a (.qh (ring.foldl step_dedup []).length)=H8 at f5
 refine gy rfl<|dK (aM.of hF rfl rfl) (fun z0=>rfl) (hF.hk hh) hF.st (fun Fc acc it=>bz ..)<|aa rfl<|
  cG (xs:=List.range (ring.length-1)) (kf ring) (fun z0=>false) (fun z0=> .int 1) (pP (val:=kf ring)) pQ (fun z0 e=>e _ _ (f5 _ _ ws)) rfl (by rw [List.length_range];exact AP hz)
   (fun Fc hC k hk m' H' sees mk e=>bQ<|aO rfl<|aa mk<|aa ((sees _ rfl).trans rfl)<|CU (.own (e _ _ (f5 _ _ g3))) (mG _ _) (rF fun y hy=>(ow _ y hy).1) (Nat.le_trans (rG (n:=2) fun y hy=>(ow _ y hy).2) (by decide)) ?_)
   (fun Fc hC k hk q=>by cases q) fun H9 e9 l9 h9=> ?_
 .rw [wK x (by have:=List.mem_range.mp hk;exact GB this)]
  exact aq ⟨rfl,rfl, .refl _⟩
 rw [List.filter_eq_nil_iff.mpr (fun z0 z0 q=>by cases q)]
 refine aT<|aj ⟨Nat.le_of_ble_eq_true rfl,fun b9 Qt=>zT (ns:=[]) ((Ext.refl _).put Qt _ _ (ag ..)) (ag ..) ?_⟩
 exact h _ ((((((f1.trans f2).trans f3).trans f5).trans e9).put h9).put Qt)
end
section
variable {g:G} {F:Fm} {m:Loc} {H:AH} {s:Shared} {X:PX}
theorem Ae {x:Str} {T:String} {args:List Expr} {np pos:Pos} {QL:lj} {R:PE} {H₀:AH} {h₀:Heap} (S:St g F m H s) (hk:F.env.kindOf x=some .globalImplicit) (hv:nsIn g.K mainGlobals x=some none) (hb:g.mb x=some (.type T))
  (h:WL g F (spliced (backTo pos (starEach args F.env))) m H QL X)
  (k: ∀ vs av xs m₁ aL,bh av.heap xs vs->St g F m₁ aL av->aF F s.heap H av.heap aL->QL xs m₁ aL->wpAny (model g.prog g.w) F.A (call (.type T) vs) R (dA g F X s.heap H) av)
  (hp:(backTo pos (starEach args F.env)).any (·.1)=false:=by rfl) (hd:(x == ("__debug__":Str))=false:=by decide)
  (he:eval (.Call (.Name x np) args [] pos) F.env=(eval (.Name x np) F.env >>=fun f=>callWith pos f [] (backTo pos (starEach args F.env)) []):=by rfl):
  wpAny (model g.prog g.w) F.A (eval (.Call (.Name x np) args [] pos) F.env) R (dA g F X s.heap H) s:=by
 rw [he]
 refine wpAny_bind ((bN (X:=X) (pos:=np) (Q:=fun a m' H'=>a= .cst (.type T)/\m'=m/\H'=H) hk hv hb ⟨rfl,rfl,rfl⟩ hd).run S (fun f av a m₁ aL aA ah k₁ cy=>cy.elim fun e1 eX=>eX.elim fun e2 e3=> ?_) fun z0 z0 x=>x)
 subst e1 e2 e3
 rw [VR.i7] at aA
 subst aA
 refine callWith_of (P:=g.K.In) (by rw [hp];rfl) (Kp.type T) (dM hp (h.run ah (fun vs a9 xs m₂ cW cZ aB k₂ bB=>⟨g.gq.keeps aB.base, ?_⟩) fun z0 z0 x=>x.after k₁))
 exact k vs a9 xs m₂ cW cZ aB (k₁.trans k₂) bB
noncomputable def IX (l e it:Addr) (i:Nat) (h:Heap):Prop:= ∃ old,IsEnum h e it i old/\h.IsListIter it l i
theorem two {p:Addr->Prop} {a b:Addr} (h:p a) (h':p b): ∀ c∈[a,b],p c:=fun c hc=>by
 rcases List.mem_cons.mp hc with rfl | hc
 .exact h
 .rw [List.mem_singleton] at hc;subst hc;exact h'
set_option tactic.hygienic true in
theorem wM {l e it:Addr} {xs:List V} (h1:oK e) (h2:oK it) (uj:e≠it) (hh:F.A.handled=none):Iter g F e [e,it] (IX l e it) (fun H=>H l=some (.list xs)) xs.length (fun i=> .tup [.int i,xs.getD i .none]) A8:=by
 refine ⟨fun i h cy=>cy.elim fun old eX=>eX.elim fun p q=>two ⟨_,p,fun z0 z0 z=>(by cases z),fun z0 z=>(by cases z),fun z=>(by have:=z.cls;cases this)⟩ ?_,fun i h h' iL w z0=>iL.elim fun old mR=>mR.elim fun p vq=>vq.elim fun o yc=>yc.elim fun q r=>⟨old,(w e (.head _)).trans p,o,(w it (.tail _ (.head _))).trans q,r⟩,fun i m H s Q E hi S EP c hq=>EP.elim fun old Ij=>Ij.elim fun p q=> ?_,fun i s Q E Ik h=>Ik.elim fun old zB=>zB.elim fun p q=>wpAny_pyIter_enum p h,fun m H s Q E S zC c hq=>zC.elim fun old zD=>zD.elim fun p q=> ?_⟩
 .obtain ⟨o,eo,co,dd⟩:=q
  exact ⟨o,eo,fun z0 z0 z=>(by exact Data.noConfusion (dd.symm.trans z)),fun z0 z=>(by exact Data.noConfusion (dd.symm.trans z)),fun z=>(by have:=z.cls;rw [co] at this;cases this)⟩
 .obtain ⟨_,vs,ep,el,hr⟩:=S.obj l _ c
  obtain ⟨v,ev,rv⟩:=hr.getElem? (i:=i) (x:=xs[i]) (List.getElem?_eq_getElem hi)
  refine wpAny_pyNext_enum_item p q (items:=vs.toArray) ⟨_,el,rfl,ep,rfl⟩ (x:=v) (by simpa using ev) uj fun h' a1 a2 a3 a4 a5=>hq h' (s.toks+1) _ fun target ht Q' E' k=> ?_
  obtain ⟨elts,cx,pos,rfl⟩:=uh ht
  refine wpAny_letOwnedTupleGo_enum (s:={ s with heap:=h',toks:=s.toks+1 }) a1 fun vm b1 b2=> ?_
  have TX:=Heap.lt_size p
  have up: ∀ c o,s.heap.get? c=some o->c∉[e,it]->vm.get? c=some o:=fun c o x n=>(b2.2 c fun z=>n (by rw [z];exact .head _)).trans (a5 c o (fun z=>n (by rw [z];exact .head _)) (fun z=>n (by rw [z];exact .tail _ (.head _))) x)
  refine k vm ?_ ⟨v,by rw [show ((i+1:Nat):Int)=(i:Int)+1 by exact AK];exact b1, ?_⟩ up
  .refine .rZ (S.wZ (Nat.le_refl _)) ((b2.2 _ (Nat.ne_of_gt TX)).trans a3) (.cons (.fF _ _) (.cons ?_ .gC))
   rw [List.getD_eq_getElem?_getD,List.getElem?_eq_getElem hi]
   refine rv.mono fun b o im eb=>up b o eb fun z=> ?_
   rcases List.mem_cons.mp z with rfl | z
   .obtain rfl:=oi (show s.heap.get? b=_ from p) eb;have:=im.cls;cases this
   .rw [List.mem_singleton] at z;subst z;obtain ⟨o',e',c',_⟩:=q;rw [e'] at eb;cases eb;have:=im.cls;rw [c'] at this;cases this
  .obtain ⟨o,eo,r⟩:=a2
   exact ⟨o,(b2.2 it (Ne.symm uj)).trans eo,r⟩
 .obtain ⟨_,vs,ep,el,hr⟩:=S.obj l _ c
  refine wpAny_pyNext_enum_end hh p q (items:=vs.toArray) ⟨_,el,rfl,ep,rfl⟩ (by rw [List.getElem?_toArray,List.getElem?_eq_none];rw [hr.length];exact Nat.le_refl _) fun h' hs=>hq h' s.toks (fun c o x n=>hs c o (fun z=>n (by rw [z];exact .tail _ (.head _))) x) (two (.inl h1) (.inl h2))
theorem wN {target e:Expr} {body orelse:List Stmt} {np pos O3:Pos} {Q:eI} (kH:F.stack≠[]) (hh:F.A.handled=none) (ht:A8 target=true) (hk:F.env.kindOf "enumerate"=some .globalImplicit) (hv:nsIn g.K mainGlobals "enumerate"=some none) (hb:g.mb "enumerate"=some (.type "enumerate"))
  (uk: ∀ x,foldedSetIterable (.Call (.Name "enumerate" np) [e] [] pos) F.env x=pure x)
  (h:WL g F (spliced (backTo pos (starEach [e] F.env))) m H (fun as m₁ aL=> ∃ l xs J,as=[.ref l]/\(∀ i m H,J i m H->H l=some (.list xs))/\J 0 m₁ aL/\
   (∀ i m H,i<xs.length->J i m H->ya g F target body J Q X i (.tup [.int i,xs.getD i .none]) m H)/\ ∀ m H,J xs.length m H->WS g F (execs orelse F.env) m H Q X) X)
  (hp:(backTo pos (starEach [e] F.env)).any (·.1)=false:=by rfl)
  (he:eval (.Call (.Name "enumerate" np) [e] [] pos) F.env=(eval (.Name "enumerate" np) F.env >>=fun f=>callWith pos f [] (backTo pos (starEach [e] F.env)) []):=by rfl):
  WS g F (exec (.For target (.Call (.Name "enumerate" np) [e] [] pos) body orelse O3) F.env) m H Q X:=fun s S=>by
 refine wpAny_For (Ae (h₀:=s.heap) (H₀:=H) S hk hv hb h (fun vs av as m₁ aL aA ah k₁ cy=>cy.elim fun l eX=>eX.elim fun xs iL=>iL.elim fun J mR=>mR.elim fun e1 vq=>vq.elim fun hl yc=>yc.elim fun j EP=>EP.elim fun turn fin=> ?_) hp (by decide) he) uk
 subst e1
 obtain ⟨v,r',rfl,rv,rr⟩:=aA.aG
 rw [bh.bL] at rr;subst rr
 rw [VR.ay] at rv;subst rv
 obtain ⟨_,ws,ep,el,hr⟩:=ah.obj l _ (hl _ _ _ j)
 refine call_enumerate_list (items:=ws.toArray) ⟨_,el,rfl,ep,rfl⟩ fun h' ie il sz kp=> ?_
 refine wpAny_pyIter_enum ie ?_
 obtain ⟨aB,bX⟩:=ah.ext (t:=av.toks) kp
 replace aB:=aB ah.tk
 have n1:=ah.lt (b:=av.heap.objs.size+1) (Nat.le_succ _)
 have n2:=ah.lt (b:=av.heap.objs.size) (Nat.le_refl _)
 have since: ∀ b,av.heap.get? b=none->s.heap.get? b=none:=fun b e=>by
  cases q:s.heap.get? b with
  | none=>rfl
  | some o'=>obtain ⟨oR,z⟩:=k₁.alive b o' q;exact on e z
 have nm: ∀ b,av.heap.get? b=none->b∉F.aS:=fun b e q=>by obtain ⟨_,_,o,e',_⟩:=ah.aS b q;exact on e e'
 exact qp (wM (xs:=xs) (ah.wZ (Nat.le_succ _)) (ah.wZ (Nat.le_refl _)) (Nat.ne_of_gt (Nat.lt_succ_self _)) hh) ht kH hl (fun i m H hi hj=>turn i m H hi hj) fin aB (k₁.trans bX) S.base ⟨.none,ie,il⟩
  (two (since _ n1.2.2) (since _ n2.2.2)) (two n1.1 n2.1) (two (nm _ n1.2.2) (nm _ n2.2.2)) j
end
end
noncomputable def O4:Stmt->List Stmt
 | .For _ _ b _ _=>b
 | _=>[]
noncomputable def O5 (n:Nat) (b:List Stmt):List Stmt:=match b.drop n with | .If _ c _ _::_=>c | _=>[]
noncomputable def FG (n:Nat) (b:List Stmt):List Stmt:=match b.drop n with | s::_=>O4 s | _=>[]
noncomputable def mH (P:Params):List Stmt:=by
 refine lit (x:= ?x) ?h
 case h=>
  have e:u5 ((kx.heap_1 P).lookup 199)= ?x:=by
   conv=>lhs;whnf
  exact rfl
noncomputable def jA (P:Params):Scope:=by
 refine lit (x:= ?x) ?h
 case h=>
  have e:rA ((kx.heap_1 P).lookup 199)= ?x:=by
   conv=>lhs;whnf
  exact rfl
noncomputable def IY (P:Params):List Stmt:=by
 refine lit (x:= ?x) ?h
 case h=>
  have e:FG 4 (mH P)= ?x:=by
   conv=>lhs;whnf
  exact rfl
noncomputable def kg (P:Params):List Stmt:=by
 refine lit (x:= ?x) ?h
 case h=>
  have e:FG 10 (mH P)= ?x:=by
   conv=>lhs;whnf
  exact rfl
noncomputable def IZ (P:Params):List Stmt:=by
 refine lit (x:= ?x) ?h
 case h=>
  have e:FG 6 (kg P)= ?x:=by
   conv=>lhs;whnf
  exact rfl
theorem Af (y:Int):0<=y.fmod 10/\y.fmod 10<10:=⟨Int.fmod_nonneg_of_pos y (by decide),Int.fmod_lt_of_pos y (by decide)⟩
structure FH (bk:List (Addr×List Int)):Prop where
 ne: ∀ p∈bk,p.2≠[]
 sz: ∀ p∈bk,p.2.length<=3
 few:bk.length<=40
 ok: ∀ p∈bk, ∀ v∈p.2,0<=v/\v<10
noncomputable def base (ln lt:Addr) (bk:List (Addr×List Int)):List (Addr×O):=
 (ln, .list (a8 j8))::(181, .tab "_law_right.<locals>.<lambda>")::(196, .tab "law.<locals>.<lambda>")::(lt, .list (bk.map fun p=> .ref p.1))::bk.map fun p=>(p.1, .list (nums p.2))
section
variable [ζ:bW]
structure LS (H:AH) (σ:au) (ln lt:Addr) (bk:List (Addr×List Int)) (C:List (Addr×O)):Prop where
 sat:Sat H (σ.lay++(base ln lt bk++C))
 bk:FH bk
section
variable {H H':AH} {σ bI:au} {ln lt:Addr} {bk:List (Addr×List Int)} {C:List (Addr×O)}
theorem LS.ext (x:LS H σ ln lt bk C) (e:Ext H H'):LS H' σ ln lt bk C:=⟨e.sat x.sat,x.bk⟩
theorem LS.re (x:LS H σ ln lt bk C) (s:Sat H' (bI.lay++(base ln lt bk++C))):LS H' bI ln lt bk C:=⟨s,x.bk⟩
theorem LS.at (x:LS H σ ln lt bk C) {a:Addr} {o:O} (h:(a,o)∈base ln lt bk):H a=some o:=x.sat.get (List.mem_append_right _ (List.mem_append_left _ h))
theorem LS.atC (x:LS H σ ln lt bk C) {a:Addr} {o:O} (h:(a,o)∈C):H a=some o:=x.sat.get (List.mem_append_right _ (List.mem_append_right _ h))
theorem LS.n (x:LS H σ ln lt bk C):H ln=some (.list (a8 j8)):=x.at (.head _)
theorem LS.t1 (x:LS H σ ln lt bk C):H 181=some (.tab "_law_right.<locals>.<lambda>"):=x.at (.tail _ (.head _))
theorem LS.t2 (x:LS H σ ln lt bk C):H 196=some (.tab "law.<locals>.<lambda>"):=x.at (.tail _ (.tail _ (.head _)))
theorem LS.tb (x:LS H σ ln lt bk C):TB H lt bk:=⟨x.at (.tail _ (.tail _ (.tail _ (.head _)))),fun p hp=>x.at (.tail _ (.tail _ (.tail _ (.tail _ (List.mem_map_of_mem (f:=fun p:Addr×List Int=>(p.1,O.list (nums p.2))) hp))))),x.bk.ne,x.bk.sz,x.bk.few,x.bk.ok⟩
theorem LS.add (x:LS H σ ln lt bk C) (e:Ext H H') {a:Addr} {o:O} (n:H a=none) (h:H' a=some o):LS H' σ ln lt bk ((a,o)::C):=by
 have s:=x.sat.new (o:=o) n
 refine ⟨?_,x.bk⟩
 refine Sat.perm (L:=(a,o)::(σ.lay++(base ln lt bk++C))) ⟨s.1,fun p hp=> ?_⟩ ?_
 .rcases List.mem_cons.mp hp with rfl | hp
  .exact h
  .exact e _ _ (x.sat.2 p hp)
 .rw [<- List.append_assoc, <- List.append_assoc];exact List.perm_middle.symm
theorem LS.sub {C':List (Addr×O)} (x:LS H σ ln lt bk C) (h:C'.Sublist C):LS H σ ln lt bk C':=⟨x.sat.sublist (List.Sublist.append (.refl _) (List.Sublist.append (.refl _) h)),x.bk⟩
theorem LS.perm {C':List (Addr×O)} (x:LS H σ ln lt bk C) (h:C.Perm C'):LS H σ ln lt bk C':=⟨x.sat.perm (List.Perm.append_left _ (List.Perm.append_left _ h)),x.bk⟩
theorem LS.tell {a:Addr} {c:List Int} (x:LS H σ ln lt bk ((a, .list (nums c))::C)) (h0:c≠[]) (h1:c.length<=3) (h2:bk.length<40) (h3: ∀ v∈c,0<=v/\v<10):LS (put H lt (.list (bk.map (fun p=> .ref p.1)++[.ref a]))) σ ln lt (bk++[(a,c)]) C:=by
 refine ⟨?_,fun p hp=> ?_,fun p hp=> ?_,by rw [List.length_append];exact h2,fun p hp=> ?_⟩
 .have s:=Sat.mid (A:=σ.lay++[(ln, .list (a8 j8)),(181, .tab "_law_right.<locals>.<lambda>"),(196, .tab "law.<locals>.<lambda>")]) (a:=lt) (o:= .list (bk.map fun p=> .ref p.1)) (C:=(bk.map fun p=>(p.1, .list (nums p.2)))++(a, .list (nums c))::C) (by have:=x.sat;unfold base at this;simpa using this) (.list (bk.map (fun p=> .ref p.1)++[.ref a]))
  unfold base
  simpa using s
 all_goals
  rcases List.mem_append.mp hp with hp | hp
  .first | exact x.bk.ne p hp | exact x.bk.sz p hp | exact x.bk.ok p hp
  .rw [List.mem_singleton] at hp;subst hp;assumption
end
section
variable {g:G} {F:Fm} {m:Loc} {H:AH} {X':PX} {Q:List V->AH->Prop}
theorem I0 {a b:Int} {X:PX} {Q:PV} (ha:0<=a/\a<=100000) (hb:0<=b/\b<=100000) (h:Q (.int (a*b)) m H):W2 g F VR (.int a) (.int b) (binaryOp .Mult) m H Q X:=fun s v u S r r'=>by
 rw [VR.aZ] at r r';obtain ⟨t,rfl⟩:=r;obtain ⟨t',rfl⟩:=r';exact PySem.P.mul_int (bG.now S rfl rfl rfl (.fF _ _) h)
theorem Ag {scope:Scope} {x n:Str} {px pn TY ps:Pos} {l ln:Addr} {ns:List Int} (hn:m n=some (.ref ln)) (hl:H l=some (.list (nums ns))) (Fq:H ln=some (.list (a8 j8))) (ok: ∀ v∈ns,0<=v/\v<10) (hz:ns.length<=1000) (hx:tj scope x=true)
  (hs: ∀ m',gF scope m m'->m' n=m n) (hq: ∀ H',Ext H H'->Q (a8 ns) H') (d1:(x == ("__debug__":Str))=false:=by decide) (d2:(n == ("__debug__":Str))=false:=by decide):lK g F scope (.Name x px) [] (lN (.Subscript (.Name n pn) (.Name x TY) ps)) (.ref l) m H Q X':=
 cG (xs:=ns) (fun v=> .int v) (fun z0=>true) cd d9 ft (fun z0 e=>e _ _ hl) hx hz (fun Fc hC v hv m' H' sees mv e=>cA ⟨rfl,rfl, .refl _⟩)
  (fun Fc hC v hv z0 m' H' sees mv e=>b8 (aa ((hs _ sees).trans hn) (aa mv (gn (ok v hv) (e _ _ Fq) ⟨rfl,rfl, .refl _⟩) d1) d2)) (fun H' e=>by rw [List.filter_eq_self.mpr fun z0 z0=>rfl];exact hq H' e)
end
end
theorem snoc_ind {α:Type} {P:List α->Prop} (h0:P []) (h1: ∀ l a,P l->P (l++[a])) (l:List α):P l:=by
 have: ∀ l:List α,P l.reverse:=fun l=>by
  induction l with
  | nil=>exact h0
  | cons a l ih=>rw [List.reverse_cons];exact h1 _ _ ih
 have:=this l.reverse
 rwa [List.reverse_reverse] at this
noncomputable def iu (L:List Int) (q:Int):List Int:=if q∈L then L else L++[q]
theorem mI (row:List Int) (x:Int):cH (row++[x])=if x∈row then cH row else cH row++[x]:=by
 have e1: ∀ k,k<row.length->(row++[x]).take k=row.take k/\(row++[x]).getD k 0=row.getD k 0:=fun k hk=>by
  refine ⟨List.take_append_of_le_length (Nat.le_of_lt hk), ?_⟩
  rw [List.getD_eq_getElem?_getD,List.getD_eq_getElem?_getD,List.getElem?_append_left hk]
 have e2:(row++[x]).take row.length=row:=by rw [List.take_append_of_le_length (Nat.le_refl _),List.take_length]
 have e3:(row++[x]).getD row.length 0=x:=by rw [List.getD_eq_getElem?_getD,List.getElem?_append_right (Nat.le_refl _),Nat.sub_self];rfl
 have e4:(List.range row.length).filter (fun k=> !((row++[x]).take k).contains ((row++[x]).getD k 0))=(List.range row.length).filter fun k=> !(row.take k).contains (row.getD k 0):=
  List.filter_congr fun k hk=>by rw [(e1 k (List.mem_range.mp hk)).1,(e1 k (List.mem_range.mp hk)).2]
 have e5:((List.range row.length).filter fun k=> !(row.take k).contains (row.getD k 0)).map (fun k=>(row++[x]).getD k 0)=cH row:=
  List.map_congr_left fun k hk=>(e1 k (List.mem_range.mp (List.mem_filter.mp hk).1)).2
 conv=>lhs;unfold cH
 rw [List.length_append,List.length_singleton,List.range_succ,List.filter_append,List.map_append,e4,e5,List.filter_cons,e2,e3]
 by_cases q:x∈row
 .rw [if_pos q,if_neg (by simpa using q)];exact List.append_nil _
 .rw [if_neg q,if_pos (by simpa using q),List.filter_nil,List.map_singleton,e3]
set_option tactic.hygienic true in
theorem iU (row:List Int) (x:Int):x∈cH row↔x∈row:=by
 refine snoc_ind (P:=fun row=>x∈cH row↔x∈row) ⟨fun h=>(by cases h),fun h=>(by cases h)⟩ (fun l a ih=> ?_) row
 rw [mI]
 split
 .rename_i q
  rw [ih,List.mem_append,List.mem_singleton]
  exact ⟨.inl,fun h=>h.elim id fun e=>e▸q⟩
 .rw [List.mem_append,List.mem_append,ih]
theorem kh (row:List Int) (x:Int):cH (row++[x])=iu (cH row) x:=by
 rw [mI];unfold iu
 by_cases q:x∈row
 .rw [if_pos q,if_pos ((iU _ _).mpr q)]
 .rw [if_neg q,if_neg fun z=>q ((iU _ _).mp z)]
set_option tactic.hygienic true in
theorem tL {L:List Int} (h:L.Nodup) (q:Int):(iu L q).Nodup:=by
 unfold iu
 split
 .exact h
 .rename_i z
  exact List.nodup_append.mpr ⟨h,by simp,fun a ha b hb e=>by simp at hb;subst hb;subst e;exact z ha⟩
theorem gp (row:List Int):(cH row).Nodup:=snoc_ind (P:=fun row=>(cH row).Nodup) List.nodup_nil (fun l a ih=>by rw [kh];exact tL ih a) row
theorem tM (c row:List Int):cH (row++c)=c.foldl iu (cH row):=by
 induction c generalizing row with
 | nil=>rw [List.append_nil];rfl
 | cons x c ih=>rw [List.foldl_cons, <- kh, <- ih,List.append_assoc];rfl
theorem rH (told:List (List Int)) (c:List Int):aN (told++[c])=c.foldl iu (aN told):=by
 unfold aN
 rw [List.flatten_append, <- tM];simp
theorem fw {told:List (List Int)} {v:Int}:v∈aN told↔ ∃ c∈told,v∈c:=by
 unfold aN;rw [iU];exact List.mem_flatten
noncomputable def rowsOf (L:List Int) (f:Int->Int) (g:Int->List Int):List dP:=L.map fun v=>⟨v,f v,g v⟩
noncomputable def iw (L:List Int):Prop:= ∀ v∈L,0<=v/\v<10
theorem iw.cl {L:List Int} (h:iw L) {v:Int} (hv:v∈L):cl v=v:=ou (h v hv).1 (h v hv).2
theorem jB {L:List Int} (h:iw L) (f:Int->Int) (g:Int->List Int):(rowsOf L f g).map (fun r=>cl r.k)=L:=by
 unfold rowsOf
 rw [List.map_map]
 conv=>rhs;rw [<- List.map_id L]
 exact List.map_congr_left fun v hv=>h.cl hv
theorem jC {L:List Int} (h:iw L) {q:Int} (hq:0<=q/\q<10):iw (iu L q):=fun v hv=>by
 unfold iu at hv
 split at hv
 .exact h v hv
 .rcases List.mem_append.mp hv with hv | hv
  .exact h v hv
  .rw [List.mem_singleton.mp hv];exact hq
theorem rI {p:PS} {L:List Int} {f:Int->Int} {g:Int->List Int} (h:p.rows=rowsOf L f g) (hL:iw L) {q:Int} (hq:0<=q/\q<10) (sup:q∉L->f q=0/\g q=[]):(p.ku q).rows=rowsOf (iu L q) f g:=by
 have hn:p.names=L:=by unfold PS.names;rw [h];exact jB hL f g
 unfold PS.ku iu
 rw [hn,ou hq.1 hq.2]
 by_cases z:q∈L
 .rw [if_pos z,if_pos z];exact h
 .rw [if_neg z,if_neg z]
  show p.rows++_=_
  unfold rowsOf
  rw [List.map_append,h,List.map_singleton,(sup z).1,(sup z).2];rfl
theorem mJ {p:PS} {L:List Int} {f:Int->Int} {g:Int->List Int} (h:p.rows=rowsOf L f g) (hL:iw L) {q:Int} (hq:0<=q/\q<10) (F:dP->dP) {f':Int->Int} {g':Int->List Int} (hF:F ⟨q,f q,g q⟩=⟨q,f' q,g' q⟩) (ho: ∀ v,v≠q->f' v=f v/\g' v=g v):(p.upd q F).rows=rowsOf L f' g':=by
 unfold PS.upd rowsOf
 show List.map _ p.rows=_
 rw [h];unfold rowsOf;rw [List.map_map]
 refine List.map_congr_left fun v hv=> ?_
 show (if cl v=cl q then _ else _)=_
 rw [hL.cl hv,ou hq.1 hq.2]
 by_cases z:v=q
 .subst z;rw [if_pos rfl];exact hF
 .rw [if_neg z,(ho v z).1,(ho v z).2]
theorem wO {p:PS} {L:List Int} {f:Int->Int} {g:Int->List Int} (h:p.rows=rowsOf L f g) (hL:iw L) {k q:Int} (hq:0<=q/\q<10) (sup: ∀ v,v∉L->f v=0/\g v=[]):(p.tell k q).rows=rowsOf (iu L q) f fun v=>g v++if v=q then [k] else []:=by
 unfold PS.tell
 refine mJ (rI h hL hq (sup q)) (jC hL hq) hq _ (f':=f) ?_ fun v z=>⟨rfl,by simp [z]⟩
 simp
set_option tactic.hygienic true in
theorem jD {L:List Int} {q v:Int}:v∈iu L q↔v∈L\/v=q:=by
 unfold iu
 split
 .rename_i z;exact ⟨.inl,fun h=>h.elim id fun e=>e▸z⟩
 .rw [List.mem_append,List.mem_singleton]
theorem tN {k:Int} {f:Int->Int}: ∀ (ps:List Int) {p:PS} {L:List Int} {g:Int->List Int},p.rows=rowsOf L f g->iw L->iw ps->(∀ v,v∉L->f v=0/\g v=[])->
  (ps.foldl (fun p q=>p.tell k q) p).rows=rowsOf (ps.foldl iu L) f fun v=>g v++(ps.filter fun w=>w == v).map fun z0=>k:=by
 intro L9
 induction L9 with
 | nil=>
  rintro p L g h _ _ _
  rw [List.foldl_nil,List.foldl_nil,h]
  simp
 | cons q ps ih=>
  rintro p L g h hL hp sup
  have hq:=hp q List.mem_cons_self
  have e:=ih (wO (k:=k) h hL hq sup) (jC hL hq) (fun v hv=>hp v (List.mem_cons_of_mem _ hv)) fun v hv=>by
   have n1:v∉L:=fun z=>hv (jD.mpr (.inl z))
   have n2:v≠q:=fun z=>hv (jD.mpr (.inr z))
   refine ⟨(sup v n1).1, ?_⟩
   rw [(sup v n1).2,if_neg n2];rfl
  rw [List.foldl_cons,List.foldl_cons,e]
  congr 1;funext v
  rw [List.append_assoc]
  congr 1
  by_cases z:v=q
  .subst z;simp [List.filter_cons]
  .have z':(q == v)=false:=by simpa using fun e=>z e.symm
   rw [if_neg z,List.filter_cons,z'];rfl
theorem iV (told:List (List Int)) (k:Int) (ps over:List Int) (v:Int):bV (told++[k::ps]) over v=bV told over v++if v=k then ps.filter (fun w=> !over.contains w) else []:=by
 unfold bV
 rw [List.flatMap_append]
 congr 1
 rw [List.flatMap_singleton]
 show (if (k == v)=true then _ else _)=_
 by_cases z:v=k
 .subst z;rw [if_pos rfl,if_pos (beq_self_eq_true v)];rfl
 .rw [if_neg z,if_neg (by simpa using fun e=>z e.symm)]
theorem wQ (told:List (List Int)) (k:Int) (ps:List Int) (v:Int):bY (told++[k::ps]) v=bY told v++(ps.filter fun w=>w == v).map fun z0=>k:=by
 unfold bY
 rw [List.flatMap_append]
 congr 1
 rw [List.flatMap_singleton];rfl
theorem Ck {told:List (List Int)} (uj: ∀ c∈told,c≠[]) {v:Int} (hv:v∉aN told) (over:List Int):bV told over v=[]/\bY told v=[]:=by
 refine ⟨List.flatMap_eq_nil_iff.mpr fun c hc=>if_neg fun z=>hv (fw.mpr ⟨c,hc, ?_⟩),List.flatMap_eq_nil_iff.mpr fun c hc=> ?_⟩
 .have z:=eq_of_beq z
  match c,uj c hc with
  | a::c,_=>rw [<- z];exact List.mem_cons_self
 .rw [List.map_eq_nil_iff,List.filter_eq_nil_iff]
  intro w hw z
  have z:=eq_of_beq z
  subst z
  exact hv (fw.mpr ⟨c,hc,List.mem_of_mem_drop hw⟩)
structure pS (told:List (List Int)):Prop where
 ne: ∀ c∈told,c≠[]
 ok: ∀ c∈told,iw c
theorem pS.ins {told:List (List Int)} (t:pS told):iw (aN told):=fun v hv=>(fw.mp hv).elim fun c h=>t.ok c h.1 v h.2
theorem Inv.is {p:PS} {told:List (List Int)} {rd:Option (List Int)} {out over:List Int} (I:Inv p told rd out over):p.rows=rowsOf (aN told) (d5 told out over) (bY told):=I.rows
theorem Inv.names {p:PS} {told:List (List Int)} {rd:Option (List Int)} {out over:List Int} (I:Inv p told rd out over) (t:pS told):p.names=aN told:=by
 unfold PS.names;rw [I.is];exact jB t.ins _ _
theorem Inv.nodup {p:PS} {told:List (List Int)} {rd:Option (List Int)} {out over:List Int} (I:Inv p told rd out over) (t:pS told):p.names.Nodup:=by
 rw [I.names t];exact gp _
theorem tO (told:List (List Int)):d5 told [] []=fun v=>((bV told [] v).length:Int):=by
 funext v;unfold d5;rw [if_neg (by simp)]
theorem rJ (p:PS) (q:Int):(p.ku q).rd=p.rd/\(p.ku q).po=p.po/\(p.ku q).nf=p.nf:=by unfold PS.ku;split <;> exact ⟨rfl,rfl,rfl⟩
theorem Ah (p:PS) (k:Int) (ps:List Int):(p.add k ps).rd=p.rd/\(p.add k ps).po=p.po/\(p.add k ps).nf=p.nf:=by
 unfold PS.add
 refine snoc_ind (P:=fun oJ=> ∀ p0:PS,p0.rd=p.rd/\p0.po=p.po/\p0.nf=p.nf->(oJ.foldl (fun p q=>p.tell k q) p0).rd=p.rd/\(oJ.foldl (fun p q=>p.tell k q) p0).po=p.po/\(oJ.foldl (fun p q=>p.tell k q) p0).nf=p.nf) (fun z0 h=>h) (fun l a ih p0 h=> ?_) ps _ (rJ p k)
 rw [List.foldl_append]
 obtain ⟨a1,a2,a3⟩:=ih p0 h
 obtain ⟨b1,b2,b3⟩:=rJ (l.foldl (fun p q=>p.tell k q) p0) a
 exact ⟨b1.trans a1,b2.trans a2,b3.trans a3⟩
theorem Inv.tell {p:PS} {told:List (List Int)} (I:Inv p told none [] []) (t:pS told) {k:Int} {ps:List Int} (hk:0<=k/\k<10) (hp:iw ps):Inv (p.add k ps) (told++[k::ps]) none [] []:=by
 have ro:=I.is
 have L:=t.ins
 have sup: ∀ v,v∉aN told->d5 told [] [] v=0/\bY told v=[]:=fun v hv=>by
  obtain ⟨a,b⟩:=Ck t.ne hv []
  rw [tO];simp only;rw [a];exact ⟨rfl,b⟩
 have e1:=rI ro L hk (sup k)
 have I2: ∀ v,v∉iu (aN told) k->d5 told [] [] v=0/\bY told v=[]:=fun v hv=>sup v fun z=>hv (jD.mpr (.inl z))
 have e2:=mJ e1 (jC L hk) hk (fun r=>{ r with np:=r.np+ps.length }) (f':=d5 (told++[k::ps]) [] []) (g':=bY told) (by
   rw [tO,tO];simp only
   rw [iV,if_pos rfl,List.length_append,List.filter_eq_self.mpr (fun w z0=>by simp)];simp) fun v z=>⟨by rw [tO,tO];simp only;rw [iV,if_neg z,List.append_nil],rfl⟩
 have O6: ∀ v,v∉iu (aN told) k->d5 (told++[k::ps]) [] [] v=0/\bY told v=[]:=fun v hv=>by
  have z:v≠k:=fun z=>hv (jD.mpr (.inr z))
  refine ⟨?_,(I2 v hv).2⟩
  have:=(I2 v hv).1
  rw [tO] at this|-;simp only at this|-;rw [iV,if_neg z,List.append_nil];exact this
 have e3:=tN (k:=k) ps e2 (jC L hk) hp O6
 have m:=Ah p k ps
 refine ⟨?_,m.1.trans I.rd,m.2.1.trans I.po,m.2.2.trans I.nf⟩
 show (p.add k ps).rows=rowsOf (aN (told++[k::ps])) _ (bY (told++[k::ps]))
 rw [rH,List.foldl_cons]
 refine e3.trans ?_
 congr 1;funext v
 rw [wQ]
noncomputable def d6 (told:List (List Int)):List Int:=(aN told).filter fun v=>(bV told [] v).isEmpty
structure Run (told:List (List Int)) (rd out over:List Int):Prop where
 oo: ∀ v∈over,v∈out
 nd:(out++rd).Nodup
 nv:over.Nodup
 nm: ∀ v∈out++rd,v∈aN told
 fr: ∀ v∈out++rd,bV told over v=[]
theorem Run.start (told:List (List Int)):Run told (d6 told) [] [] where
 oo:=fun v h=>by cases h
 nd:=by rw [List.nil_append];exact (gp _).filter _
 nv:=List.nodup_nil
 nm:=fun v h=>(List.mem_filter.mp h).1
 fr:=fun v h=>List.isEmpty_iff.mp (List.mem_filter.mp h).2
theorem Run.get {told:List (List Int)} {rd out over:List Int} (r:Run told rd out over):Run told [] (out++rd) over where
 oo:=fun v h=>List.mem_append_left _ (r.oo v h)
 nd:=by rw [List.append_nil];exact r.nd
 nv:=r.nv
 nm:=by rw [List.append_nil];exact r.nm
 fr:=by rw [List.append_nil];exact r.fr
section
variable {p:PS} {L:List Int} {f:Int->Int} {g:Int->List Int}
theorem mK (h:p.rows=rowsOf L f g) (hL:iw L) {q:Int} (hq:0<=q/\q<10) (z:Int):(p.iH q z).rows=rowsOf L (fun v=>if v=q then z else f v) g:=
 mJ h hL hq _ (f':=fun v=>if v=q then z else f v) (by simp) fun v hv=>⟨if_neg hv,rfl⟩
theorem Ai: ∀ (ns:List Int) {p:PS} {f:Int->Int},p.rows=rowsOf L f g->iw L->iw ns->(p.out ns).rows=rowsOf L (fun v=>if v∈ns then -1 else f v) g/\(p.out ns).nf=p.nf:=by
 intro L9
 induction L9 with
 | nil=>
  rintro p f h _ _
  refine ⟨?_,rfl⟩
  show p.rows=_
  rw [h];congr 1
 | cons q ns ih=>
  rintro p f h hL hn
  have e:=ih (mK h hL (hn q List.mem_cons_self) (-1)) hL fun v hv=>hn v (List.mem_cons_of_mem _ hv)
  refine ⟨e.1.trans ?_,e.2⟩
  congr 1;funext v
  by_cases z:v∈ns
  .rw [if_pos z,if_pos (List.mem_cons_of_mem _ z)]
  .rw [if_neg z]
   by_cases y:v=q
   .rw [if_pos y,if_pos (y▸List.mem_cons_self)]
   .rw [if_neg y,if_neg fun w=>(List.mem_cons.mp w).elim y z]
theorem j0 (h:p.rows=rowsOf L f g) (hL:iw L) {q:Int} (hq:q∈L):p.gU q=f q/\p.nh q=g q:=by
 have e:p.rows.find? (fun r=>cl r.k=cl q)=some ⟨q,f q,g q⟩:=by
  rw [h];clear h
  unfold rowsOf
  rw [hL.cl hq]
  induction L with
  | nil=>cases hq
  | cons v L ih=>
   rw [List.map_cons,List.find?_cons]
   by_cases z:v=q
   .subst z;simp [hL.cl hq]
   .have c:(decide (cl v=q))=false:=by rw [hL.cl List.mem_cons_self];simpa using z
    simp only [c]
    exact ih (fun v hv=>hL v (List.mem_cons_of_mem _ hv)) ((List.mem_cons.mp hq).resolve_left fun e=>z e.symm)
 unfold PS.gU PS.nh
 rw [e];exact ⟨rfl,rfl⟩
noncomputable def hits (f:Int->Int):List Int->List Int
 | []=>[]
 | q::S=>(if f q-1=0 then [q] else [])++hits (fun v=>if v=q then f q-1 else f v) S
theorem Aj (h:p.rows=rowsOf L f g) (hL:iw L) {q:Int} (hq:q∈L):(p.dec q).rows=rowsOf L (fun v=>if v=q then f q-1 else f v) g/\(p.dec q).rd=p.rd.map (· ++if f q-1=0 then [q] else [])/\(p.dec q).po=p.po/\(p.dec q).nf=p.nf:=by
 have e:=(j0 h hL hq).1
 have s:=mK h hL (hL q hq) (f q-1)
 unfold PS.dec
 rw [e]
 by_cases z:f q-1=0
 .rw [if_pos z,if_pos z];exact ⟨s,rfl,rfl,rfl⟩
 .rw [if_neg z,if_neg z]
  refine ⟨s, ?_,rfl,rfl⟩
  show p.rd=_
  cases p.rd with
  | none=>rfl
  | some r=>simp
theorem wR: ∀ (S:List Int) {p:PS} {f:Int->Int},p.rows=rowsOf L f g->iw L->(∀ q∈S,q∈L)->(S.foldl PS.dec p).rows=rowsOf L (fun v=>f v-S.count v) g/\(S.foldl PS.dec p).rd=p.rd.map (· ++hits f S)/\(S.foldl PS.dec p).po=p.po/\(S.foldl PS.dec p).nf=p.nf:=by
 intro L9
 induction L9 with
 | nil=>
  rintro p f h _ _
  refine ⟨?_, ?_,rfl,rfl⟩
  .show p.rows=_
   rw [h];congr 1;funext v;simp
  .show p.rd=_
   cases p.rd <;> simp [hits]
 | cons q S ih=>
  rintro p f h hL hS
  obtain ⟨a1,a2,a3,a4⟩:=Aj h hL (hS q List.mem_cons_self)
  obtain ⟨b1,b2,b3,b4⟩:=ih a1 hL fun v hv=>hS v (List.mem_cons_of_mem _ hv)
  rw [List.foldl_cons]
  refine ⟨b1.trans ?_,b2.trans ?_,b3.trans a3,b4.trans a4⟩
  .congr 1;funext v
   rw [List.count_cons]
   by_cases z:v=q
   .subst z;simp;omega
   .have z':(q == v)=false:=by simpa using fun e=>z e.symm
    rw [if_neg z,z'];simp
  .rw [a2]
   cases p.rd with
   | none=>rfl
   | some r=>simp [hits]
end
noncomputable def dw:List Int->List Int
 | []=>[]
 | x::xs=>if x∈xs then dw xs else x::dw xs
theorem fx (x:Int) (xs:List Int):dw (x::xs)=if x∈xs then dw xs else x::dw xs:=rfl
theorem fk {x:Int}: ∀ {xs:List Int},x∈dw xs->x∈xs
 | y::xs,h=>by
  unfold dw at h
  split at h
  .exact List.mem_cons_of_mem _ (fk h)
  .rcases List.mem_cons.mp h with h | h
   .exact h▸List.mem_cons_self
   .exact List.mem_cons_of_mem _ (fk h)
set_option tactic.hygienic true in
theorem rK: ∀ xs:List Int,(dw xs).Nodup:=by
 intro L9
 induction L9 with
 | nil=>
  exact List.nodup_nil
 | cons x xs ih=>
  unfold dw
  split
  .exact ih
  .rename_i z
   exact List.nodup_cons.mpr ⟨fun h=>z (fk h),ih⟩
theorem Cm: ∀ (S:List Int) {f:Int->Int},(∀ u∈S,(S.count u:Int)<=f u)->hits f S=(dw S).filter fun u=>decide (f u=S.count u):=by
 intro L9
 induction L9 with
 | nil=>
  rintro _ _
  exact rfl
 | cons q S ih=>
  rintro f h
  have hq:=h q List.mem_cons_self
  rw [List.count_cons_self] at hq
  have ih:=ih (f:=fun v=>if v=q then f q-1 else f v) fun u hu=>by
   have:=h u (List.mem_cons_of_mem _ hu)
   rw [List.count_cons] at this
   by_cases z:u=q
   .subst z;rw [if_pos rfl];simp at this;omega
   .have z':(q == u)=false:=by simpa using fun e=>z e.symm
    rw [z'] at this;rw [if_neg z];simpa using this
  have cg: ∀ u∈dw S,decide ((if u=q then f q-1 else f u)=(S.count u:Int))=decide (f u=((q::S).count u:Int)):=fun u hu=>by
   rw [List.count_cons]
   by_cases z:u=q
   .subst z;rw [if_pos rfl];simp;omega
   .have z':(q == u)=false:=by simpa using fun e=>z e.symm
    rw [if_neg z,z'];simp
  unfold hits
  rw [ih,List.filter_congr cg,fx]
  by_cases m:q∈S
  .have:1<=S.count q:=List.one_le_count_iff.mpr m
   rw [if_pos m,if_neg (by omega)];rfl
  .have c0:S.count q=0:=List.count_eq_zero.mpr m
   rw [if_neg m,List.filter_cons,List.count_cons_self,c0]
   by_cases z:f q-1=0
   .rw [if_pos z,if_pos (by simp;omega)];rfl
   .rw [if_neg z,if_neg (by simp;omega)];rfl
theorem oy (x:Int) (T:List Int): ∀ m:Nat,dw (List.replicate (m+1) x++T)=dw (x::T)
 | 0=>rfl
 | m+1=>by
  rw [List.replicate_succ,List.cons_append]
  rw [fx,if_pos (List.mem_append_left _ (by simp)),oy x T m]
theorem wU {told:List (List Int)} {v u:Int}:u∈bY told v↔u∈cN told v:=by
 unfold bY cN
 rw [List.mem_flatMap,List.mem_map]
 constructor
 .intro ⟨c,hc,h⟩
  obtain ⟨w,hw,e⟩:=List.mem_map.mp h
  obtain ⟨hw,z⟩:=List.mem_filter.mp hw
  exact ⟨c,List.mem_filter.mpr ⟨hc,by rw [<- eq_of_beq z];simpa using hw⟩,e⟩
 .intro ⟨c,hc,e⟩
  obtain ⟨hc,z⟩:=List.mem_filter.mp hc
  exact ⟨c,hc,List.mem_map.mpr ⟨v,List.mem_filter.mpr ⟨by simpa using z,beq_self_eq_true v⟩,e⟩⟩
theorem rM (v:Int): ∀ told:List (List Int),dw (bY told v)=dw (cN told v):=by
 intro L9
 induction L9 with
 | nil=>
  exact rfl
 | cons c told ih=>
  have e1:bY (c::told) v=List.replicate ((c.drop 1).filter (fun w=>w == v)).length (c.getD 0 0)++bY told v:=by
   unfold bY;rw [List.flatMap_cons,List.map_const']
  have e2:cN (c::told) v=(if (c.drop 1).contains v=true then [c.getD 0 0] else [])++cN told v:=by
   unfold cN;rw [List.filter_cons];split <;> rfl
  have O7: ∀ x:Int,dw (x::bY told v)=dw (x::cN told v):=fun x=>by
   rw [fx,fx]
   have m:x∈bY told v↔x∈cN told v:=wU
   by_cases z:x∈bY told v
   .rw [if_pos z,if_pos (m.mp z),ih]
   .rw [if_neg z,if_neg fun q=>z (m.mpr q),ih]
  rw [e1,e2]
  by_cases z:(c.drop 1).contains v=true
  .rw [if_pos z]
   obtain ⟨m,hm⟩: ∃ m,((c.drop 1).filter (fun w=>w == v)).length=m+1:=by
    have:v∈(c.drop 1).filter (fun w=>w == v):=List.mem_filter.mpr ⟨by simpa using z,beq_self_eq_true v⟩
    have:=List.length_pos_of_mem this
    exact ⟨_,(Nat.sub_add_cancel this).symm⟩
   rw [hm,oy];exact O7 _
  .rw [if_neg z]
   have:(c.drop 1).filter (fun w=>w == v)=[]:=List.filter_eq_nil_iff.mpr fun w hw e=>z (by rw [<- eq_of_beq e];simpa using hw)
   rw [this];exact ih
theorem vb (t:IB): ∀ ns:List Int,((List.range ns.length).filter fun k=> !(ns.drop (k+1)).contains (ns.getD k 0) && t (ns.getD k 0)).map (fun k=>ns.getD k 0)=(dw ns).filter t
 | []=>rfl
 | n::ns=>by
  rw [List.length_cons,List.range_succ_eq_map,List.filter_cons,List.filter_map]
  have e:(((List.range ns.length).filter ((fun k=> !((n::ns).drop (k+1)).contains ((n::ns).getD k 0) && t ((n::ns).getD k 0)) ∘ Nat.succ)).map Nat.succ).map (fun k=>(n::ns).getD k 0)=(dw ns).filter t:=by
   rw [List.map_map, <- vb t ns];rfl
  have m:((n::ns).drop (0+1)).contains ((n::ns).getD 0 0)=true↔n∈ns:=by simp
  rw [fx]
  by_cases z:n∈ns
  .rw [if_pos z,if_neg (by rw [m.mpr z];simp)];exact e
  .have c0:((n::ns).drop (0+1)).contains ((n::ns).getD 0 0)=false:=by
    cases q:((n::ns).drop (0+1)).contains ((n::ns).getD 0 0) with
    | false=>rfl
    | true=>exact absurd (m.mp q) z
   rw [if_neg z,c0,List.filter_cons]
   by_cases y:t n=true
   .rw [if_pos y,if_pos (by simpa using y),List.map_cons,e];rfl
   .rw [if_neg y,if_neg (by simpa using y)];exact e
theorem jE (told:List (List Int)) (over:List Int) (v:Int):iq told over v=(dw (bY told v)).filter fun u=>(bV told over u).isEmpty:=by
 unfold iq;rw [vb fun u=>(bV told over u).isEmpty,rM]
theorem wV {a b c:IB} (h: ∀ w,a w=(b w || c w)/\(b w && c w)=false): ∀ l:List Int,(l.filter a).length=(l.filter b).length+(l.filter c).length:=by
 intro L9
 induction L9 with
 | nil=>
  exact rfl
 | cons w l ih=>
  have ih:=ih
  obtain ⟨h1,h2⟩:=h w
  rw [List.filter_cons,List.filter_cons,List.filter_cons,h1]
  cases q:b w <;> cases r:c w <;> simp [q,r] at h2|- <;> omega
theorem fy {over:List Int} {v:Int} (hv:v∉over) (u:Int): ∀ told:List (List Int),(bV told over u).length=(bV told (over++[v]) u).length+(bY told v).count u
 | []=>rfl
 | c::told=>by
  have ih:=fy hv u told
  unfold bV bY at ih|-
  rw [List.flatMap_cons,List.flatMap_cons,List.flatMap_cons,List.length_append,List.length_append,List.count_append,ih,List.map_const',List.count_replicate]
  by_cases z:(c.getD 0 0 == u)=true
  .rw [if_pos z,if_pos z,if_pos z]
   have:=wV (a:=fun w=> !over.contains w) (b:=fun w=> !(over++[v]).contains w) (c:=fun w=>w == v) (fun w=> ?_) (c.drop 1)
   .exact LR this
   .by_cases y:w=v
    .subst y;simp [hv]
    .by_cases x:w∈over <;> simp [x,y]
  .rw [if_neg z,if_neg z,if_neg z];simp
theorem Inv.I4 {p:PS} {told:List (List Int)} (I:Inv p told none [] []) (r:List Int):Inv { p with rd:=some r } told (some r) [] []:=⟨I.rows,rfl,I.po,I.nf⟩
theorem rN {σ:au} {told:List (List Int)} (I:Inv σ.abs told none [] []):cf σ.rows=d6 told:=by
 have e: ∀ rs:List Row,(rs.filter fun r=>r.np == 0).map (·.k)=((rs.map Row.abs).filter fun r=>r.np == 0).map (·.k):=fun rs=>by
  rw [List.filter_map,List.map_map];rfl
 unfold cf
 rw [e]
 have:σ.rows.map Row.abs=rowsOf (aN told) (d5 told [] []) (bY told):=I.is
 rw [this]
 unfold rowsOf d6
 rw [List.filter_map,List.map_map,tO]
 conv=>rhs;rw [<- List.map_id ((aN told).filter _)]
 refine congrArg (List.map _) (List.filter_congr fun v z0=> ?_)
 show (((bV told [] v).length:Int) == 0)=_
 cases bV told [] v with
 | nil=>rfl
 | cons a l=>simp;omega
section
variable {p:PS} {told:List (List Int)} {rd out over:List Int}
theorem Inv.get (I:Inv p told (some rd) out over) (t:pS told) (r:Run told rd out over):Inv { p.out rd with rd:=some [],po:=p.po+rd.length } told (some []) (out++rd) over:=by
 have hr:iw rd:=fun v hv=>t.ins v (r.nm v (List.mem_append_right _ hv))
 obtain ⟨e,e2⟩:=Ai rd I.is t.ins hr
 refine ⟨?_,rfl, ?_,e2.trans I.nf⟩
 .refine e.trans ?_
  show _=rowsOf _ _ _
  congr 1;funext v
  unfold d5
  by_cases z:v∈rd
  .have n1:v∉over:=fun h=>by
    have:=(List.nodup_append.mp r.nd).2.2 v (r.oo v h) v z
    exact this rfl
   rw [if_pos z,if_pos (by simp [z]),if_neg (by simpa using n1)]
  .rw [if_neg z]
   by_cases y:v∈out
   .rw [if_pos (show out.contains v=true by simpa using y),if_pos (show (out++rd).contains v=true by simp [y])]
   .rw [if_neg (show ¬ out.contains v=true by simpa using y),if_neg (show ¬ (out++rd).contains v=true by simp [y,z])]
 .show p.po+(rd.length:Int)=_
  rw [I.po,List.length_append];simp
theorem tP (r:Run told rd out over) {v:Int} (hv:v∉over) {u:Int} (hu:u∈out++rd):(bY told v).count u=0/\bV told (over++[v]) u=[]:=by
 have e:=fy hv u told
 rw [r.fr u hu] at e
 have e:0=(bV told (over++[v]) u).length+(bY told v).count u:=e
 exact ⟨by exact LW e,List.eq_nil_of_length_eq_zero (by exact LU e)⟩
theorem Inv.gV (I:Inv p told (some rd) out over) (t:pS told) (r:Run told rd out over) {v:Int} (ho:v∈out) (hv:v∉over):
  Inv (p.gV v) told (some (rd++iq told (over++[v]) v)) out (over++[v])/\Run told (rd++iq told (over++[v]) v) out (over++[v])/\v∈p.names/\p.gU v= -1/\ ∀ q∈p.nh v,q∈p.names:=by
 have hn:=r.nm v (List.mem_append_left _ ho)
 have hL:=t.ins
 obtain ⟨f1,f2⟩:=j0 I.is hL hn
 have nm:=I.names t
 have sub: ∀ q∈bY told v,q∈aN told:=fun q hq=>by
  obtain ⟨c,hc,h⟩:=List.mem_flatMap.mp hq
  obtain ⟨w,_,e⟩:=List.mem_map.mp h
  refine fw.mpr ⟨c,hc, ?_⟩
  match c,t.ne c hc with
  | a::c,_=>rw [<- e];exact List.mem_cons_self
 have s1:=mK I.is hL (hL v hn) (-2)
 obtain ⟨d1,d2,d3,d4⟩:=wR (bY told v) s1 hL sub
 have fr:=fun u hu=>tP r hv (u:=u) hu
 have cv: ∀ u,u∉out->d5 told out over u=(bV told over u).length:=fun u hu=>by unfold d5;rw [if_neg (by simpa using hu)]
 have tQ: ∀ u∈bY told v,u∉out++rd:=fun u hu z=>by
  have:=(fr u z).1
  exact absurd hu (List.count_eq_zero.mp this)
 have hit:hits (fun u=>if u=v then -2 else d5 told out over u) (bY told v)=iq told (over++[v]) v:=by
  rw [Cm,jE]
  .refine List.filter_congr fun u hu=> ?_
   have hu:=fk hu
   have no:=fun z=>tQ u hu (List.mem_append_left _ z)
   have nv:u≠v:=fun e=>no (e▸ho)
   rw [if_neg nv,cv u no,fy hv u told]
   cases bV told (over++[v]) u with
   | nil=>simp
   | cons a l=>simp;omega
  .intro u hu
   have no:=fun z=>tQ u hu (List.mem_append_left _ z)
   have nv:u≠v:=fun e=>no (e▸ho)
   rw [if_neg nv,cv u no,fy hv u told];omega
 have np:d5 told out over v= -1:=by unfold d5;rw [if_pos (by simpa using ho),if_neg (by simpa using hv)]
 refine ⟨⟨?_, ?_, ?_, ?_⟩,⟨fun u hu=> ?_, ?_,List.nodup_append.mpr ⟨r.nv,by simp,fun a ha b hb e=>hv (by simp at hb;rw [<- hb, <- e];exact ha)⟩,fun u hu=> ?_,fun u hu=> ?_⟩,nm▸hn,f1.trans np,fun q hq=> ?_⟩
 .unfold PS.gV
  rw [f2]
  refine d1.trans ?_
  show _=rowsOf _ _ _
  congr 1;funext u
  by_cases z:u∈out
  .rw [(fr u (List.mem_append_left _ z)).1]
   unfold d5
   rw [if_pos (show out.contains u=true by simpa using z),if_pos (show out.contains u=true by simpa using z)]
   by_cases y:u=v
   .subst y;rw [if_pos rfl,if_pos (by simp)];rfl
   .rw [if_neg y]
    by_cases x:u∈over
    .rw [if_pos (by simpa using x),if_pos (by simp [x])];rfl
    .rw [if_neg (by simpa using x),if_neg (by simp [x,y])];rfl
  .have nv:u≠v:=fun e=>z (e▸ho)
   rw [if_neg nv,cv u z,fy hv u told]
   unfold d5
   rw [if_neg (by simpa using z)];omega
 .unfold PS.gV
  rw [f2]
  show ((bY told v).foldl PS.dec (p.iH v (-2))).rd=_
  rw [d2,hit]
  show p.rd.map _=_
  rw [I.rd];rfl
 .unfold PS.gV
  rw [f2]
  exact d3.trans I.po
 .unfold PS.gV
  rw [f2]
  show p.nf+1=_
  rw [I.nf,List.length_append];simp
 .rcases List.mem_append.mp hu with hu | hu
  .exact r.oo u hu
  .rw [List.mem_singleton.mp hu];exact ho
 .rw [<- List.append_assoc]
  refine List.nodup_append.mpr ⟨r.nd, ?_,fun a ha b hb e=> ?_⟩
  .rw [jE];exact (rK _).filter _
  .subst e
   rw [jE] at hb
   exact tQ a (fk (List.mem_filter.mp hb).1) ha
 .rw [<- List.append_assoc] at hu
  rcases List.mem_append.mp hu with hu | hu
  .exact r.nm u hu
  .rw [jE] at hu
   exact sub u (fk (List.mem_filter.mp hu).1)
 .rw [<- List.append_assoc] at hu
  rcases List.mem_append.mp hu with hu | hu
  .exact (fr u hu).2
  .rw [jE] at hu
   exact List.isEmpty_iff.mp (List.mem_filter.mp hu).2
 .rw [f2] at hq;rw [nm];exact sub q hq
end
noncomputable def eR (told:List (List Int)) (out:List Int):List Int->List Int->List Int->List Int×List Int×Option Str
 | [],over,rd=>(over,rd,none)
 | v::vs,over,rd=>
  if v∉aN told then (over,rd,some (wordsOf "node " (uX v) " was not added using add()"))
  else if v∈over then (over,rd,some (wordsOf "node " (uX v) " was already marked done"))
  else if v∉out then (over,rd,some (wordsOf "node " (uX v) " was not passed out (still not ready)"))
  else eR told out vs (over++[v]) (rd++iq told (over++[v]) v)
theorem Ak {told:List (List Int)} (t:pS told) {out:List Int}: ∀ (row:List Int) {p:PS} {over rd:List Int},iw row->Inv p told (some rd) out over->Run told rd out over->
  ∃ p',p.rl row p' (eR told out row over rd).2.2/\Inv p' told (some (eR told out row over rd).2.1) out (eR told out row over rd).1/\Run told (eR told out row over rd).2.1 out (eR told out row over rd).1:=by
 intro L9
 induction L9 with
 | nil=>
  rintro p over rd _ I r
  exact ⟨p,⟨rfl,rfl⟩,I,r⟩
 | cons v vs ih=>
  rintro p over rd h I r
  have hv:=h v List.mem_cons_self
  have nm:=I.names t
  have ec:=ou hv.1 hv.2
  unfold eR
  by_cases z:v∈aN told
  .rw [if_neg (fun q=>q z)]
   have f1:=(j0 I.is t.ins z).1
   by_cases y:v∈over
   .rw [if_pos y]
    refine ⟨p, .inl ⟨_, .Ff (by rw [ec,nm];exact z) (f1.trans ?_),rfl,rfl⟩,I,r⟩
    unfold d5;rw [if_pos (by simpa using r.oo v y),if_pos (by simpa using y)]
   .rw [if_neg y]
    by_cases x:v∈out
    .rw [if_neg (fun q=>q x)]
     obtain ⟨I',r',a1,a2,a3⟩:=I.gV t r x y
     obtain ⟨p',d,Ip,rp⟩:=ih (fun w hw=>h w (List.mem_cons_of_mem _ hw)) I' r'
     refine ⟨p', .inr ⟨⟨by rw [ec];exact a1,a2,fun q hq=> ?_⟩,d⟩,Ip,rp⟩
     have:=a3 q hq
     rw [nm] at this|-
     rw [t.ins.cl this];exact this
    .rw [if_pos x]
     refine ⟨p, .inl ⟨_, .early (by rw [ec,nm];exact z) ?_,rfl,rfl⟩,I,r⟩
     rw [f1];unfold d5;rw [if_neg (by simpa using x)];exact Int.natCast_nonneg _
  .rw [if_pos z]
   exact ⟨p, .inl ⟨_, .no (by rw [ec,nm];exact z),rfl,rfl⟩,I,r⟩
noncomputable def Dk (told:List (List Int)) (st:List Int):List Int:=st.filter fun v=>told.any fun c=>(c.drop 1).contains v && st.contains (c.getD 0 0)
noncomputable def fA (told:List (List Int)):Nat->List Int
 | 0=>aN told
 | n+1=>Dk told (fA told n)
theorem mL {told:List (List Int)} {v:Int} (n:Nat): ∀ k,v∈fA told (n+k)->v∈fA told n
 | 0,h=>h
 | k+1,h=>mL n k (List.mem_filter.mp h).1
theorem ky.nodup {rows:List Row} {dn:List Int} (t:ky rows dn):(dn.map cl).Nodup:=by
 induction t with
 | nil=>exact List.nodup_nil
 | snoc _ _ _ h _ ih=>
  rw [List.map_append]
  exact List.nodup_append.mpr ⟨ih,by simp,fun a ha b hb e=>by simp at hb;subst hb;subst e;exact h ha⟩
theorem ky.keys {rows:List Row} {dn:List Int} (t:ky rows dn): ∀ x∈dn.map cl,x∈rows.map fun r=>cl r.k:=by
 induction t with
 | nil=>intro x h;cases h
 | snoc _ hr hk _ _ ih=>
  intro x h
  rw [List.map_append,List.mem_append] at h
  rcases h with h | h
  .exact ih x h
  .simp only [List.map_cons,List.map_nil,List.mem_singleton] at h
   subst h;rw [<- hk];exact List.mem_map_of_mem (f:=fun r:Row=>cl r.k) hr
section
variable {σ:au} {told:List (List Int)}
theorem pT (I:Inv σ.abs told none [] []) {r:Row} (hr:r∈σ.rows):r.k∈aN told/\r.su=bY told r.k:=by
 have h:r.abs∈σ.abs.rows:=List.mem_map_of_mem hr
 rw [I.rows] at h
 obtain ⟨v,hv,e⟩:=List.mem_map.mp h
 have e1:v=r.k:=congrArg dP.k e
 have e2:bY told v=r.su:=congrArg dP.su e
 rw [<- e1];exact ⟨hv,e2.symm⟩
theorem mM {v w:Int} (h:w∈bY told v): ∃ c∈told,c.getD 0 0=w/\v∈c.drop 1:=by
 obtain ⟨c,hc,h⟩:=List.mem_flatMap.mp h
 obtain ⟨x,hx,e⟩:=List.mem_map.mp h
 obtain ⟨hx,z⟩:=List.mem_filter.mp hx
 exact ⟨c,hc,e,eq_of_beq z▸hx⟩
theorem Al {v:Int} {c:List Int} (hc:c∈told) (h:v∈c.drop 1):c.getD 0 0∈bY told v:=
 List.mem_flatMap.mpr ⟨c,hc,List.mem_map.mpr ⟨v,List.mem_filter.mpr ⟨h,beq_self_eq_true v⟩,rfl⟩⟩
theorem Am (t:pS told) {v w:Int} (h:w∈bY told v):0<=w/\w<10:=by
 obtain ⟨c,hc,e,_⟩:=mM h
 match c,t.ne c hc with
 | a::c,_=>rw [<- e];exact t.ok _ hc _ List.mem_cons_self
theorem An (I:Inv σ.abs told none [] []) (t:pS told) {dn:List Int} (x:ky σ.rows dn): ∀ v∈dn.map cl,v∉fA told dn.length:=by
 induction x with
 | nil=>intro v h;cases h
 | @snoc dn r k x hr hk hn hs ih=>
  intro v h z
  rw [List.length_append] at z
  rw [List.map_append,List.mem_append] at h
  have z:v∈Dk told (fA told dn.length):=z
  obtain ⟨z1,z2⟩:=List.mem_filter.mp z
  rcases h with h | h
  .exact ih v h z1
  .obtain ⟨r1,r2⟩:=pT I hr
   simp only [List.map_cons,List.map_nil,List.mem_singleton] at h
   rw [<- hk,t.ins.cl r1] at h
   subst h
   obtain ⟨c,hc,w⟩:=List.any_eq_true.mp z2
   rw [Bool.and_eq_true] at w
   have m:=Al hc (by simpa using w.1)
   have:=hs _ (r2▸m)
   have ok:=Am t m
   rw [ou ok.1 ok.2] at this
   exact ih _ this (by simpa using w.2)
theorem Ao [ζ:bW] (I:Inv σ.abs told none [] []) (t:pS told) {dn:List Int} (x:ky σ.rows dn) (all: ∀ r∈σ.rows,cl r.k∈dn.map cl):fA told (aN told).length=[]:=by
 have nm:(σ.rows.map fun r=>cl r.k)=aN told:=by rw [<- I.names t,au.aR]
 have hl:=uD x.nodup x.keys
 rw [nm,List.length_map] at hl
 obtain ⟨k,hk⟩:=Nat.exists_eq_add_of_le hl
 refine List.eq_nil_iff_forall_not_mem.mpr fun v hv=> ?_
 rw [hk] at hv
 have h0:v∈aN told:=by
  have:=mL 0 (dn.length+k) (by rwa [Nat.zero_add])
  exact this
 rw [<- nm] at h0
 obtain ⟨r,hr,e⟩:=List.mem_map.mp h0
 subst e
 exact An I t x _ (all r hr) (mL _ k hv)
theorem I5 (v:Int):cd (cl v)=cd v:=bK (P:=fun p=>(nameAt p.2.toNat).1=p.1) (fun n hn=>gZ (P:=fun n=>(nameAt (nameAt n).2.toNat).1=(nameAt n).1) rfl rfl rfl rfl rfl rfl rfl rfl rfl rfl n hn) v.toNat
theorem FI [ζ:bW] (ns:List Int):a8 (ns.map cl)=a8 ns:=by
 unfold a8;rw [List.map_map]
 exact List.map_congr_left fun v z0=>I5 v
theorem Cp [ζ:bW] (I:Inv σ.abs told none [] []) (t:pS told) {ring:List Int} (x:jV σ.rows ring):tI told (ring.map cl):=by
 obtain ⟨i,hi,dn,T,fs,j,k,hj,D,_,hr,nd,nx,hk,rfl⟩:=x.is
 obtain ⟨ks,Ge⟩: ∃ ks,ks=((fs.drop j).map (·.k)).map cl:=⟨_,rfl⟩
 obtain ⟨n,hn⟩: ∃ n,n=ks.length:=⟨_,rfl⟩
 have iJ:n=fs.length-j:=by rw [hn,Ge];simp
 have e:(((fs.map (·.k)).drop j)++[k]).map cl=ks++[cl k]:=by
  rw [Ge,List.map_append, <- List.map_drop];rfl
 rw [e]
 have Qu:ks.Nodup:=by
  rw [Ge,List.map_drop,List.map_drop];exact nd.sublist (List.drop_sublist _ _)
 have gq: ∀ v∈ks,0<=v/\v<10:=fun v hv=>by
  rw [Ge] at hv
  obtain ⟨w,_,e⟩:=List.mem_map.mp hv
  rw [<- e];exact xm w
 have w8: ∀ m (h:m<n),ks[m]? =some (cl (fs[j+m]'(Nat.add_lt_of_lt_sub' (iJ▸h))).k):=fun m h=>by
  have hm:j+m<fs.length:=Nat.add_lt_of_lt_sub' (iJ▸h)
  show ks[m]? =some (cl (fs[j+m]'hm).k)
  clear hn
  rw [Ge]
  simp only [List.getElem?_map,List.getElem?_drop]
  rw [List.getElem?_eq_getElem hm];rfl
 clear Ge e
 have len:(ks++[cl k]).length=n+1:=by rw [List.length_append,hn];rfl
 have rR: ∀ m (h:m<n),(ks++[cl k]).getD m 0=cl (fs[j+m]'(by exact Mi iJ h)).k:=fun m h=>by
  rw [List.getD_eq_getElem?_getD,List.getElem?_append_left (by exact Mh hn h),w8 m h];rfl
 have at2:(ks++[cl k]).getD n 0=cl k:=by
  rw [List.getD_eq_getElem?_getD,List.getElem?_append_right (by exact GC hn),hn,Nat.sub_self];rfl
 have n1:1<=n:=by exact Mg iJ hj
 have tk:(ks++[cl k]).take n=ks:=by
  rw [List.take_append_of_le_length (by exact Mf hn),List.take_of_length_le (by exact GC hn)]
 have I6:n<=10:=by
  have:=uD (r:=j8) Qu fun v hv=>by
   obtain ⟨h0,h1⟩:=gq v hv
   obtain ⟨q,hq⟩:=Int.eq_ofNat_of_zero_le h0
   rw [hq]
   exact gZ (P:=fun n=>(n:Int)∈j8) (by decide) (by decide) (by decide) (by decide) (by decide) (by decide) (by decide) (by decide) (by decide) (by decide) q (by omega)
  rw [hn];exact this
 have step: ∀ f∈fs, ∀ w,w∈f.r.su-> ∃ c∈told,c.getD 0 0=cl w/\cl f.k∈c.drop 1:=fun f hf w hw=>by
  obtain ⟨h1,h2⟩:=hr f hf
  obtain ⟨r1,r2⟩:=pT I h1
  rw [r2] at hw
  have ok:=Am t hw
  obtain ⟨c,hc,a,b⟩:=mM hw
  exact ⟨c,hc,by rw [ou ok.1 ok.2];exact a,by rw [h2,t.ins.cl r1];exact b⟩
 refine ⟨fun v hv=> ?_,by rw [len];exact Md iJ hj,by rw [len];exact Mb I6, ?_, ?_,fun m hm=> ?_⟩
 .rcases List.mem_append.mp hv with hv | hv
  .exact gq v hv
  .rw [List.mem_singleton.mp hv];exact xm k
 .rw [len,Nat.add_sub_cancel,at2,rR 0 (by exact Ma iJ hj)];exact hk
 .rw [len,Nat.add_sub_cancel,tk];exact Qu
 .rw [len] at hm
  have Jo:m<n:=by exact L8 hm
  have IJ:j+m<fs.length:=by exact L7 iJ hm
  rw [rR m Jo]
  by_cases q:m+1<n
  .rw [rR (m+1) q]
   have O8:j+m+1<fs.length:=by exact LZ iJ q
   obtain ⟨_,h2⟩:=D.chain (fs.take (j+m)) fs[j+m] fs[j+m+1] (fs.drop (j+m+2)) (by
    conv=>lhs;rw [<- List.take_append_drop (j+m) fs,List.drop_eq_getElem_cons IJ,List.drop_eq_getElem_cons O8])
   exact step _ (List.getElem_mem _) _ (List.mem_of_getElem? h2)
  .have TZ:m+1=n:=by exact LY hm q
   rw [TZ,at2]
   obtain ⟨_,h2⟩:=nx.2 (fs.take (j+m)) fs[j+m] (by
    conv=>lhs;rw [<- List.take_append_drop (j+m) fs,List.drop_eq_getElem_cons IJ,List.drop_of_length_le (by exact LX iJ q)])
   exact step _ (List.getElem_mem _) _ (List.mem_of_getElem? h2)
end
theorem FH.tok {bk:List (Addr×List Int)} (b:FH bk):pS (tl bk):=⟨fun c hc=>(List.mem_map.mp hc).elim fun p z=>z.2▸b.ne p z.1,fun c hc=>(List.mem_map.mp hc).elim fun p z=>z.2▸b.ok p z.1⟩
theorem Cq (bk:List (Addr×List Int)) (a:Addr) (c:List Int):tl (bk++[(a,c)])=tl bk++[c]:=by unfold tl;rw [List.map_append];rfl
section
variable [ζ:bW]
theorem LS.fits {H:AH} {σ:au} {ln lt:Addr} {bk:List (Addr×List Int)} {C:List (Addr×O)} (x:LS H σ ln lt bk C) {rd:Option (List Int)} {out over:List Int} (I:Inv σ.abs (tl bk) rd out over):σ.abs.fits 700:=by
 unfold PS.fits
 rw [I.rows]
 refine ⟨by rw [List.length_map];exact Nat.le_trans x.tb.named (by decide),fun r hr=> ?_⟩
 obtain ⟨v,_,rfl⟩:=List.mem_map.mp hr
 exact Nat.le_trans (pR x.tb v) (by decide)
section
variable {g:G} {F F':Fm} {m:Loc} {H:AH} {X:PX} {Q:eI} {σ:au} {ln lt:Addr} {bk:List (Addr×List Int)} {C:List (Addr×O)}
theorem FJ (D:mP g) (hF:aI F' F (jA g.w.params)) (lv:F'.lvl<40) (hh:F.A.handled=none) (x:LS H σ ln lt bk C) (I:Inv σ.abs (tl bk) none [] []) (de:σ.rd=none) (few:bk.length<40)
  (m1:m "names"=some (.ref ln)) (m2:m "sorter"=some (.ref σ.x)) (m3:m "told"=some (.ref lt)) {i:Nat} {v:Int} (hi:i<=100) (mi:m "i"=some (.int i)) (mx:m "x"=some (.int v)) (ms: ∀ y∈(["script","half"]:List Str),m y=m y)
  (h: ∀ bI a c m' H',bI.x=σ.x->LS H' bI ln lt (bk++[(a,c)]) C->Inv bI.abs (tl (bk++[(a,c)])) none [] []->(∀ y∈(["names","sorter","told","script","half"]:List Str),m' y=m y)->Q .next m' H'):
  WS g F' (execs (IY g.w.params) F'.env) m H Q X:=by
 have hz: ∀ {l:Addr} {ns:List Int},True:=trivial
 refine ae<|aD (hF.gb rfl) rfl<|bx<|aa mx<|bx<|aK<|aa mi<|I0 (by decide) ⟨by omega,by omega⟩<|yM ?_
 generalize v+24683*(i:Int)=y
 refine ae<|aD (hF.gb rfl) rfl<|bx<|bx<|aa rfl<|aK<|j3 (by decide) (by decide)<|aK<|gN (by decide) ?_
 have JL:=Af (y.fdiv 10)
 generalize (y.fdiv 10).fmod 10=k at JL
 refine ae<|cX (by first | exact .inl (bA hF.scope rfl) | exact .inr (bA hF.scope rfl)) (hF.loc rfl) (aM.of hF rfl rfl) (fun z0=>rfl) (.inl (hF.hh hh)) hF.st (fun Fc acc it=>bz ..)<|
  aT<|af<|bx<|bx<|aa rfl<|aK<|j3 (by decide) (by decide)<|aK<|gN (by decide)<|af<|bx<|bx<|aa rfl<|aK<|j3 (by decide) (by decide)<|aK<|gN (by decide)<|aj ⟨Nat.le_of_ble_eq_true rfl,fun l0 F9=> ?_⟩
 have x1:=x.ext ((Ext.refl H).put (o:= .list (nums [(y.fdiv 100).fmod 10,(y.fdiv 1000).fmod 10])) F9)
 refine cG (xs:=[(y.fdiv 100).fmod 10,(y.fdiv 1000).fmod 10]) (fun w=> .int w) (fun w=>decide (w<k) || ((y.fdiv 10000).fmod 50 == 49)) (fun w=> .int w) d9 ft (fun z0 e=>e _ _ (ag H l0 (.list (nums [(y.fdiv 100).fmod 10,(y.fdiv 1000).fmod 10])))) rfl (Nat.le_of_ble_eq_true rfl)
  (fun Fc hC w hw m' H' sees mw e=>bQ<|iM<|qj<|aO rfl<|aa mw<|aa ((sees _ rfl).trans rfl)<|vU<|aq ?_) (fun Fc hC w hw z0 m' H' sees mw e=>aa mw ⟨rfl,rfl, .refl _⟩) fun H1 e1 JM I9=> ?_
 .cases q:decide (w<k) with
  | true=>exact ⟨rfl,rfl, .refl _⟩
  | false=>
   refine qj<|aO rfl<|bx<|bx<|aa ((sees _ rfl).trans rfl)<|aK<|j3 (by decide) (by decide)<|aK<|gN (by decide)<|aK<|j4<|aq ?_
   cases z:(y.fdiv 10000).fmod 50 == 49 with
   | true=>exact ⟨rfl,rfl, .refl _⟩
   | false=>exact i9 ⟨rfl,rfl, .refl _⟩
 have nz:(([(y.fdiv 100).fmod 10,(y.fdiv 1000).fmod 10]).filter fun w=>decide (w<k) || ((y.fdiv 10000).fmod 50 == 49)).length<=2:=List.length_filter_le _ _
 have JN: ∀ w∈([(y.fdiv 100).fmod 10,(y.fdiv 1000).fmod 10]).filter fun w=>decide (w<k) || ((y.fdiv 10000).fmod 50 == 49),0<=w/\w<10:=fun w hw=>by
  have:=(List.mem_filter.mp hw).1
  simp only [List.mem_cons,List.not_mem_nil,or_false] at this
  rcases this with rfl | rfl <;> exact Af _
 generalize ([(y.fdiv 100).fmod 10,(y.fdiv 1000).fmod 10]).filter (fun w=>decide (w<k) || ((y.fdiv 10000).fmod 50 == 49))=nd at nz JN
 have en:nd.map (fun w=>V.int w)=nums nd:=rfl
 rw [en]
 have x2:=(x1.ext e1).add ((Ext.refl H1).put (o:= .list (nums (nd))) I9) I9 (ag ..)
 have Dc:=ag H1 JM (O.list (nums (nd)))
 generalize put H1 JM (.list (nums (nd)))=H2 at x2 Dc
 have ok: ∀ w∈k::nd,0<=w/\w<10:=fun w hw=>(List.mem_cons.mp hw).elim (fun e=>e▸JL) (JN w)
 refine ae<|eN<|bg<|aa (by exact m3)<|bU (bR (.own x2.tb.top) PySem.F.slot_list_append PySem.F.type_list_append)<|ai (.blt _)<|af<|bx<|aT<|af<|aa rfl<|aj ⟨Nat.le_of_ble_eq_true rfl,fun l1 ml=>aa rfl<|cV (.own (ag ..)) (.own ((Ext.refl H2).put ml _ _ Dc)) (by rw [ints_length];simp;exact Mo nz) fun l2 nj=>aj ?_⟩
 have x3:=x2.add ((((Ext.refl H2).put (o:= .list [V.int k]) ml)).put (o:= .list ([V.int k]++nums nd)) nj) (((Ext.refl H2).put (o:= .list [V.int k]) ml).no nj) (ag ..)
 replace x3:LS _ σ ln lt bk ((l2, .list (nums (k::nd)))::(JM, .list (nums nd))::C):=x3
 refine dO x3.tb.top (by rw [List.length_map];exact Mm few) ?_
 have x4:=x3.tell (by simp) (by simp;exact Ml nz) few ok
 generalize put (put (put H2 l1 _) l2 _) lt _=H4 at x4
 have O9:H4 JM=some (.list (nums nd)):=x4.atC (.head _)
 refine ae<|aD (hF.loc rfl) rfl<|aJ<|bp (hF.cR rfl) (D.d.nb rfl) (fun z0=> .dT _)<|aX<|ai (D.d.kp rfl)<|af<|aa (by exact m2)<|af<|bx<|aa rfl<|aK<|gN (by decide)<|af<|b8<|aa (by exact m1)<|aa rfl<|gn JL x4.n<|
  af<|dK (aM.of hF rfl rfl) (fun z0=>rfl) (.inl (hF.hh hh)) hF.st (fun Fc acc it=>bz ..)<|aa rfl<|Ag (by exact m1) O9 x4.n JN (by exact Mk nz) rfl (fun m' s=>s _ rfl) fun H5 e5 b hb=>aj<|aH.call ?_
 have x5:=(x4.ext e5).add ((Ext.refl H5).put (o:= .list (a8 nd)) hb) hb (ag ..)
 generalize put H5 b (.list (a8 nd))=H6 at x5
 refine wH (σ:=σ) (ps:=nd) D.d (Nat.lt_of_lt_of_le lv (by decide)) (hF.hh hh) (by exact Mj nz) x5.sat (List.mem_append_right _ (.head _)) (I.nodup x.bk.tok) (x.fits I) de fun bI H7 ex ea s7=> ?_
 have x7:=(x5.re s7).sub (C':=C) ((List.sublist_cons_self _ _).trans (List.sublist_cons_self _ _))
 have I7:Inv bI.abs (tl (bk++[(l2,k::nd)])) none [] []:=by rw [ea,Cq];exact I.tell x.bk.tok JL JN
 have Aa:bI.rd=none:=au.pM I7.rd
 refine ae<|cq<|iM<|qj<|aO rfl<|aa rfl<|bj<|eP (fun z0=>by simp)<|aq<|qj<|ue<|j1<|aJ<|bp (hF.cR rfl) (D.d.nb rfl) (fun z0=> .dT _)<|aX<|ai (D.d.kp rfl)<|af<|aa (by exact m2)<|af<|aa (by exact m3)<|af<|bj<|af<|aT<|aj ⟨Nat.le_of_ble_eq_true rfl,fun lo E4=>af<|aT<|aj ⟨Nat.le_of_ble_eq_true rfl,fun ki Fp=>aj<|aH.call ?_⟩⟩
 have x8:=x7.ext (((Ext.refl H7).put (o:= .list []) E4).put (o:= .list []) Fp)
 rw [<- ex]
 refine mF (out:=[]) (over:=[]) D (Nat.lt_of_lt_of_le lv (by decide)) (hF.hh hh) x8.sat (I7.nodup x8.bk.tok) x8.t1 x8.tb (by rw [Aa];rfl) ((Ext.refl _).put Fp _ _ (ag ..)) (ag ..) (by decide) (by decide) (fun r e=>by rw [Aa] at e;cases e) (by rw [Aa];exact I7) fun H9 e9=>aq<|i9<|aC<|aC ?_
 refine h bI l2 _ _ H9 ex (x8.ext e9) I7 fun y hy=> ?_
 simp only [List.mem_cons,List.not_mem_nil,or_false] at hy
 rcases hy with rfl | rfl | rfl | rfl | rfl <;> rfl
end
theorem LB.Qv {g:G} {a:Addr} {ns:List Int} (x:LB g a ns) (H:AH):Jz g H a (nums ns):=fun F m s S=>(x.at S).elim fun vs z=>z.elim fun o z=>z.elim fun ep z=>⟨vs,⟨o,z.1,z.2.1,ep,z.2.2.1⟩,z.2.2.2⟩
theorem LS.first {H:AH} {σ:au} {ln lt:Addr} (s:Sat H (σ.lay++[(ln,O.list (a8 j8)),(181, .tab "_law_right.<locals>.<lambda>"),(196, .tab "law.<locals>.<lambda>")])) (n:H lt=none):LS (put H lt (.list [])) σ ln lt [] []:=by
 refine ⟨(s.new (o:= .list []) n).perm ?_,fun p hp=> ?_,fun p hp=> ?_,Nat.zero_le _,fun p hp=> ?_⟩
 .show List.Perm _ (σ.lay++([(ln,O.list (a8 j8)),(181, .tab "_law_right.<locals>.<lambda>"),(196, .tab "law.<locals>.<lambda>")]++[(lt,O.list [])]))
  rw [<- List.append_assoc]
  exact List.perm_append_comm (l₁:=[(lt,O.list [])])
 all_goals cases hp
theorem jF (a b:List Int):nums (a++b)=nums a++nums b:=by unfold nums;simp
theorem Inv.zero {p:PS} (h:p=⟨[],none,0,0⟩):Inv p (tl []) none [] []:=by subst h;exact ⟨rfl,rfl,rfl,rfl⟩
section
variable {g:G} {F F':Fm} {m:Loc} {H:AH} {X:PX} {Q:eI} {σ:au} {ln lt:Addr} {bk:List (Addr×List Int)} {C:List (Addr×O)}
structure JO (ns:List Int) (sa:Addr) (σ:au) (ln lt:Addr) (bk:List (Addr×List Int)) (m:Loc) (H:AH):Prop where
 ls:LS H σ ln lt bk []
 inv:Inv σ.abs (tl bk) none [] []
 m1:m "names"=some (.ref ln)
 m2:m "sorter"=some (.ref σ.x)
 m3:m "told"=some (.ref lt)
 m4:m "script"=some (.ref sa)
 m5:m "half"=some (.int (((ns.length+1) / 2:Nat):Int))
theorem Ja (D:mP g) (hF:aI F' F (jA g.w.params)) (lv:F'.lvl<40) (hh:F.A.handled=none) {sa:Addr} {ns:List Int} (Cr:LB g sa ns) (hn:ns.length<=63) (hm:m "script"=some (.ref sa))
  (s0:Sat H [(181, .tab "_law_right.<locals>.<lambda>"),(196, .tab "law.<locals>.<lambda>")])
  (h: ∀ σ ln lt bk m H,JO ns sa σ ln lt bk m H->WS g F' (execs ((mH g.w.params).drop 5) F'.env) m H Q X):WS g F' (execs (mH g.w.params) F'.env) m H Q X:=by
 refine ae<|aD (hF.gb rfl) rfl<|aJ<|bp (hF.cR rfl) (D.d.nb rfl) (fun z0=> .dT _)<|aX<|ai (D.d.kp rfl)<|aj<|aH.call<|fq D.d (Nat.lt_of_lt_of_le lv (by decide)) fun ln Fq=> ?_
 have s1:=s0.new (o:= .list (a8 j8)) Fq
 generalize put H ln (.list (a8 j8))=H1 at s1
 refine ae<|aD (hF.loc rfl) rfl<|bx<|bx<|aJ<|bN (hF.cR rfl) (D.d.nb rfl) D.d.len (aX<|ai (.blt _)<|af<|aa (by exact hm)<|aj<|E3 Cr (by exact Ms hn)<|aK<|yM<|aK<|j3 (by decide) (by decide) ?_)
 have eh:((ns.length:Int)+1).fdiv 2=(((ns.length+1) / 2:Nat):Int):=by
  rw [Int.fdiv_eq_ediv_of_nonneg _ (by decide)];rfl
 rw [eh]
 refine ae<|aD (hF.gb rfl) rfl<|aJ<|bp (hF.cR rfl) (D.d.nb rfl) (fun z0=> .dT _)<|aX<|ai (D.d.kp rfl)<|aj<|aH.call<|pG D.d (Nat.lt_of_lt_of_le lv (by decide)) s1 fun JP H2 a0 s2=> ?_
 refine ae<|aD (hF.gb rfl) rfl<|aT<|aj ⟨Nat.le_of_ble_eq_true rfl,fun lt dX=> ?_⟩
 have x0:LS (put H2 lt (.list [])) JP ln lt [] []:= .first s2 dX
 generalize put H2 lt (.list [])=H3 at x0
 have hk:(ns.take ((ns.length+1) / 2)).length<=32:=by rw [List.length_take];exact GD hn
 refine ae<|wN hF.st (hF.hh hh) rfl (hF.cR rfl) (D.d.nb rfl) D.d.enum (fun z0=>rfl)<|af<|bx<|d8<|aa (by exact hm)<|cB<|fK<|aa rfl<|cB ⟨sa,nums ns,none,some (((ns.length+1) / 2:Nat):Int),none,rfl,Cr.Qv _,by rw [ints_length];exact GF hn, .none, .int _, .none,(fun q=>nomatch q),fun c hc=> ?_⟩
 rw [qX,oh]
 refine aT<|af<|aK<|af<|aK<|aj ⟨Nat.le_of_ble_eq_true rfl,fun c1 Gf=>cV (.own ((Ext.refl _).put Gf _ _ (ag ..))) (.own (ag ..)) (by rw [ints_length];simp;exact Mr hn) fun le hle=>aj ?_⟩
 have ez:nums (ns.take ((ns.length+1) / 2))++[.int 1020, .int 77552]=nums (ns.take ((ns.length+1) / 2)++[1020,77552]):=by rw [jF];rfl
 have x1:=x0.add ((((Ext.refl H3).put (o:= .list (nums (ns.take ((ns.length+1) / 2)))) hc).put (o:= .list [.int 1020, .int 77552]) Gf).put (o:= .list (nums (ns.take ((ns.length+1) / 2))++[.int 1020, .int 77552])) hle) ((((Ext.refl H3).put (o:= .list (nums (ns.take ((ns.length+1) / 2)))) hc).put (o:= .list [.int 1020, .int 77552]) Gf).no hle) (ag ..)
 rw [ez] at*
 have hz:(ns.take ((ns.length+1) / 2)++[1020,77552]).length<=34:=by rw [List.length_append];simp;exact GD hn
 generalize ns.take ((ns.length+1) / 2)++[1020,77552]=row at x1 hz
 refine ⟨le,nums row,fun i m' H'=> ∃ σ bk,LS H' σ ln lt bk [(le, .list (nums row))]/\Inv σ.abs (tl bk) none [] []/\σ.x=JP.x/\bk.length=i/\m' "names"=some (.ref ln)/\m' "sorter"=some (.ref JP.x)/\m' "told"=some (.ref lt)/\m' "script"=some (.ref sa)/\m' "half"=some (.int (((ns.length+1) / 2:Nat):Int)),rfl,
  fun i m' H' j=>j.elim fun σ j=>j.elim fun bk j=>j.1.atC (.head _),⟨JP,[],x1, .zero a0,rfl,rfl,rfl,rfl,rfl,by exact hm,rfl⟩,fun i m' H' hi j=>j.elim fun σ j=>j.elim fun bk j=> ?_,fun m' H' j=>j.elim fun σ j=>j.elim fun bk j=> ?_⟩
 .obtain ⟨x,I,ex,el,n1,n2,n3,n4,n5⟩:=j
  rw [ints_length] at hi
  rw [ft i hi]
  have de:σ.rd=none:=au.pM I.rd
  refine kI (.inl (hF.hh hh)) rfl<|bH (hF.loc rfl)<|bH (hF.loc rfl) ?_
  refine FJ D hF lv hh x I de (by exact Mq el hz hi) (by exact n1) (by rw [ex];exact n2) (by exact n3) (i:=i) (by exact Mp hz hi) rfl rfl (fun z0 z0=>rfl) fun bI a c m2 H2 T1 x' I' keep=>⟨bI,bk++[(a,c)],x',I',T1.trans ex,by rw [List.length_append,el];rfl, ?_⟩
  refine ⟨(keep _ (by decide)).trans n1,(keep _ (by decide)).trans n2,(keep _ (by decide)).trans n3,(keep _ (by decide)).trans n4,(keep _ (by decide)).trans n5⟩
 .obtain ⟨x,I,ex,el,n1,n2,n3,n4,n5⟩:=j
  exact aC (h σ ln lt bk _ _ ⟨x.sub (List.nil_sublist _),I,n1,by rw [ex];exact n2,n3,n4,n5⟩)
end
theorem kP {l:List Int} (nd:l.Nodup) (h:iw l):l.length<=10:=uD (r:=j8) nd fun v hv=>by
 obtain ⟨h0,h1⟩:=h v hv
 obtain ⟨q,hq⟩:=Int.eq_ofNat_of_zero_le h0
 rw [hq]
 exact gZ (P:=fun n=>(n:Int)∈j8) (by decide) (by decide) (by decide) (by decide) (by decide) (by decide) (by decide) (by decide) (by decide) (by decide) q (by omega)
theorem pU {told:List (List Int)} (t:pS told):(aN told).length<=10:=kP (gp _) t.ins
section
variable {σ:au} {told:List (List Int)}
theorem oz (t:pS told) {v q:Int} (hq:q∈bY told v):q∈aN told:=by
 obtain ⟨c,hc,e,_⟩:=mM hq
 refine fw.mpr ⟨c,hc, ?_⟩
 match c,t.ne c hc with
 | a::c,_=>rw [<- e];exact List.mem_cons_self
theorem FK (I:Inv σ.abs told none [] []) (t:pS told):tf σ.rows:=fun r hr q hq=>by
 obtain ⟨_,r2⟩:=pT I hr
 rw [r2] at hq
 have nm:σ.rows.map (fun r=>cl r.k)=aN told:=by rw [<- I.names t,au.aR]
 rw [nm,t.ins.cl (oz t hq)]
 exact oz t hq
theorem T2 (I:Inv σ.abs told none [] []) (t:pS told) (hs: ∀ v,(bY told v).length<=120):wt σ.rows (fun z0=>false)<=3000:=by
 have hl:σ.rows.length<=10:=by
  have nm:σ.rows.map (fun r=>cl r.k)=aN told:=by rw [<- I.names t,au.aR]
  have:=pU t
  rw [<- nm,List.length_map] at this;exact this
 have: ∀ rs:List Row,(∀ r∈rs,r∈σ.rows)->wt rs (fun z0=>false)<=121*rs.length:=by
  intro rs h
  induction rs with
  | nil=>exact Nat.zero_le _
  | cons r rs ih=>
   have h1:=ih fun r hr=>h r (List.mem_cons_of_mem _ hr)
   have h2:=(pT I (h r List.mem_cons_self)).2
   have h3:=hs r.k
   unfold wt at h1|-
   rw [List.map_cons,List.sum_cons,h2,List.length_cons]
   simp only [Bool.false_eq_true,if_false] at h1|-
   exact Mt h3 h1
 have:=this σ.rows fun z0 h=>h
 omega
end
end
theorem Ap (bk:List (Addr×List Int)) (st:List Int) (v:Int):(!((bk.filter fun p=>(p.2.drop 1).contains v && st.contains (p.2.getD 0 0)).map fun p=>V.ref p.1).isEmpty)=(tl bk).any fun c=>(c.drop 1).contains v && st.contains (c.getD 0 0):=by
 unfold tl
 rw [List.any_map,List.isEmpty_map]
 induction bk with
 | nil=>rfl
 | cons p bk ih=>
  rw [List.filter_cons,List.any_cons, <- ih]
  show _=((((p.2.drop 1).contains v && st.contains (p.2.getD 0 0))) || _)
  cases q:((p.2.drop 1).contains v && st.contains (p.2.getD 0 0)) <;> rfl
section
variable [ζ:bW]
section
variable {g:G} {F F':Fm} {m:Loc} {H:AH} {X:PX} {Q:eI} {σ:au} {ln lt:Addr} {bk:List (Addr×List Int)} {C:List (Addr×O)}
theorem Jb (D:mP g) (hF:aI F' F (jA g.w.params)) (lv:F'.lvl<40) (hh:F.A.handled=none) {sa:Addr} {ns:List Int} (A:JO ns sa σ ln lt bk m H)
  (h: ∀ m H ls,JO ns sa σ ln lt bk m H->m "stay"=some (.ref ls)->LS H σ ln lt bk [(ls, .list (nums (fA (tl bk) (aN (tl bk)).length)))]->WS g F' (execs ((mH g.w.params).drop 7) F'.env) m H Q X):WS g F' (execs ((mH g.w.params).drop 5) F'.env) m H Q X:=by
 obtain ⟨x,I,m1,m2,m3,m4,m5⟩:=A
 refine ae<|aD (hF.gb rfl) rfl<|aJ<|bp (hF.cR rfl) (D.d.nb rfl) (fun z0=> .dT _)<|aX<|ai (D.d.kp rfl)<|af<|aa (by exact m3)<|aj<|aH.call<|fu D.d (Nat.lt_of_lt_of_le lv (by decide)) (hF.hh hh) x.tb fun l1 H1 e1 T3 ml=> ?_
 have x1:=x.ext e1
 refine ae<|gL (fun z0=>rfl)<|aJ<|bp (hF.cR rfl) (D.d.nb rfl) (fun z0=> .dT _)<|aX<|ai (D.d.kp rfl)<|af<|aa (by exact m3)<|aj<|aH.call<|fu D.d (Nat.lt_of_lt_of_le lv (by decide)) (hF.hh hh) x1.tb fun l2 H2 e2 z0 nj=> ?_
 have I6:=pU x.bk.tok
 refine c7 d9 (fun i m' H'=> ∃ ls,Ext H2 H'/\H ls=none/\m' "stay"=some (.ref ls)/\H' ls=some (.list (nums (fA (tl bk) i)))/\m' "names"=some (.ref ln)/\m' "sorter"=some (.ref σ.x)/\m' "told"=some (.ref lt)/\m' "script"=some (.ref sa)/\m' "half"=some (.int (((ns.length+1) / 2:Nat):Int))) (.inl (hF.hh hh)) hF.st (fun i m' H' j=>j.elim fun ls j=>j.1 _ _ nj) ⟨l1, .refl _,T3,rfl,e2 _ _ ml,m1,m2,m3,m4,m5⟩ (fun i m' H' hi j R hR=>j.elim fun ls j=> ?_) (fun m' H' j=>j.elim fun ls j=> ?_)
 .obtain ⟨e,k9,k0,k1,n1,n2,n3,n4,n5⟩:=j
  rw [ft i hi]
  have tb:=(x1.ext (e2.trans e)).tb
  have sz:(fA (tl bk) i).length<=1000:=by
   have: ∀ i,(fA (tl bk) i).length<=10:=fun i=>by
    induction i with
    | zero=>exact I6
    | succ i ih=>exact Nat.le_trans (List.length_filter_le _ _) ih
   exact Nat.le_trans (this i) (by decide)
  refine bH (hF.loc rfl)<|ae<|cX (by first | exact .inl (bA hF.scope rfl) | exact .inr (bA hF.scope rfl)) (hF.gb rfl) (aM.of hF rfl rfl) (fun z0=>rfl) (.inl (hF.hh hh)) hF.st (fun Fc acc it=>bz ..)<|aa (by exact k0)<|
   cG (xs:=fA (tl bk) i) (fun v=> .int v) (fun v=>(tl bk).any fun c=>(c.drop 1).contains v && (fA (tl bk) i).contains (c.getD 0 0)) (fun v=> .int v) d9 ft (fun z0 e=>e _ _ k1) rfl sz (fun Fc hC v hv m3 H3 sees mv e3=> ?_) (fun Fc hC v hv z0 m3 H3 sees mv e3=>aa mv ⟨rfl,rfl, .refl _⟩) fun H4 e4 l4 vc=>aC (hR .next _ _ ⟨l4,(e.trans e4).put vc,((e1.trans e2).trans (e.trans e4)).no vc,rfl,ag ..,n1,n2,n3,n4,n5⟩)
  have Gg:=tb.ext e3
  refine bQ<|aO rfl<|dK (aM.qZ hC rfl rfl) (fun z0=>rfl) (.inl (hC.hh (hF.hh hh))) (hC.st hF.st) (fun Fc acc it=>bz ..)<|aa ((sees _ rfl).trans n3)<|
   cG (xs:=bk) (fun p=> .ref p.1) (fun p=>(p.2.drop 1).contains v && (fA (tl bk) i).contains (p.2.getD 0 0)) (fun p=> .ref p.1) hW hX (fun z0 e=>e _ _ Gg.top) rfl (Nat.le_trans Gg.few (by decide)) (fun Fd hD p hp m5 H5 Dl mp e5=> ?_) (fun Fd hD p hp z0 m5 H5 z0 mp e5=>aa mp ⟨rfl,rfl, .refl _⟩) fun H6 e6 l6 T4=>aT<|aj ⟨Nat.le_of_ble_eq_true rfl,fun b hb=>qY (.own ((Ext.refl _).put hb _ _ (ag ..))) (.own (ag ..))<|aq ⟨Ap ..,rfl,(e6.put T4).put hb⟩⟩
  refine bQ<|iM<|nL<|aO rfl<|aa ((Dl _ rfl).trans mv)<|d8<|aa mp<|fK<|aK<|cB<|cB<|hY (k:=1) (i:=1) rfl rfl (e5 _ _ (Gg.each p hp)) (Nat.le_trans (Gg.sz p hp) (by decide)) fun c hc=>om (ag ..)<|aq ?_
  have e7:=(Ext.refl H5).put (o:= .list (nums (p.2.drop 1))) hc
  cases q:(p.2.drop 1).contains v with
  | false=>exact ⟨rfl,rfl,e7⟩
  | true=>
   refine nL<|aO rfl<|b8<|aa mp<|aK<|ia (e7 _ _ (e5 _ _ (Gg.each p hp))) (Gg.ne p hp)<|aa ((Dl _ rfl).trans ((sees _ rfl).trans k0))<|om (e7 _ _ (e5 _ _ (e3 _ _ k1)))<|aq ?_
   cases z:(fA (tl bk) i).contains (p.2.getD 0 0) with
   | true=>exact jO ⟨rfl,rfl,e7⟩
   | false=>exact ⟨rfl,rfl,e7⟩
 .obtain ⟨e,k9,k0,k1,n1,n2,n3,n4,n5⟩:=j
  exact aC (h _ _ ls ⟨x1.ext (e2.trans e),I,n1,n2,n3,n4,n5⟩ k0 (x.add (e1.trans (e2.trans e)) k9 k1))
theorem Jc (D:mP g) (hF:aI F' F (jA g.w.params)) (lv:F'.lvl<40) (hh:F.A.handled=none) {sa ls:Addr} {ns:List Int} (A:JO ns sa σ ln lt bk m H) (hs:m "stay"=some (.ref ls)) (x:LS H σ ln lt bk [(ls, .list (nums (fA (tl bk) (aN (tl bk)).length)))])
  (h: ∀ σ m H,LS H σ ln lt bk []->Inv σ.abs (tl bk) (some (d6 (tl bk))) [] []->m "names"=some (.ref ln)->m "sorter"=some (.ref σ.x)->m "told"=some (.ref lt)->m "script"=some (.ref sa)->m "half"=some (.int (((ns.length+1) / 2:Nat):Int))->WS g F' (execs ((mH g.w.params).drop 8) F'.env) m H Q X):WS g F' (execs ((mH g.w.params).drop 7) F'.env) m H Q X:=by
 have M:=zW g.w.params
 rw [<- D.d.K] at M
 obtain ⟨_,I,m1,m2,m3,m4,m5⟩:=A
 have de:σ.rd=none:=au.pM I.rd
 have t:=x.bk.tok
 refine u6 (fun m' H'=> ∃ bI,LS H' bI ln lt bk []/\bI.x=σ.x/\Inv bI.abs (tl bk) (some (d6 (tl bk))) [] []/\(∀ y∈(["names","sorter","told","script","half"]:List Str),m' y=m y)) ?_ fun m' H' q=>q.elim fun bI q=> ?_
 .refine Wt.yd fun R5 h5=>zc hF.st<|ae<|cq<|iM<|qj<|aO rfl<|bg<|aa (by exact m2)<|(bU (b7 M (au.inst x.sat) (au.ns x.sat) rfl)<|ai (D.d.kp rfl)<|aj<|aH.call<|pL D.d (Nat.lt_of_lt_of_le lv (by decide)) (hF.hh hh) x.sat (I.nodup t) (FK I t) (T2 I t fun v=>pR x.tb v) de (Nat.le_trans (au.dv (x.fits I)).1 (by decide)) (fun bI H' dn ex ea s' tp al=> ?_) (fun bI H' l ring ex ea s' ra=> ?_))
  .have x1:=x.re s'
   have I1:Inv bI.abs (tl bk) (some (d6 (tl bk))) [] []:=by rw [ea,rN I];exact I.I4 _
   have hl:=x1.atC (.head _)
   rw [Ao I t tp al] at hl
   exact bj<|eP (fun z0=>by simp)<|aq<|qj<|aO rfl<|aa hs<|aT<|aj ⟨Nat.le_of_ble_eq_true rfl,fun b hb=>qY (.own ((Ext.refl H').put hb _ _ hl)) (.own (ag ..))<|aq<|i9<|aC<|aC<|aC (h5 .next _ _ ⟨bI,(x1.sub (List.nil_sublist _)).ext ((Ext.refl H').put hb),ex,I1,fun z0 z0=>rfl⟩)⟩
  .have x1:=x.re (Sat.tail (A:=[(l,O.list (a8 ring))]) s')
   have I1:Inv bI.abs (tl bk) (some (d6 (tl bk))) [] []:=by rw [ea,rN I];exact I.I4 _
   have hl:=s'.w8
   rw [<- FI] at hl
   have ro:=Cp I t ra
   refine mD ((hF.kindOf _).trans rfl) (v7 (hF.cR rfl) (D.d.nb rfl)) (BU D.d) rfl fun B k a A=> ?_
   have D':=D.more B k
   refine ae<|bF rfl rfl rfl<|aQ<|aa rfl<|Cj D'.d A<|kI A.hk rfl<|bH (hF.loc rfl)<|bH (hF.loc rfl) ?_
   refine ae<|cq<|iM<|qj<|aO rfl<|aa rfl<|gx<|yN rfl rfl (Nat.le_of_ble_eq_true rfl)<|aq ?_
   rw [fP _ rfl]
   refine qj<|ue<|j1<|aJ<|bp (hF.cR rfl) (D'.d.nb rfl) (fun z0=> .dT _)<|aX<|ai (D'.d.kp rfl)<|af<|aa (by exact m3)<|af<|aa rfl<|aj<|aH.call<|wL (F:=F'.mark (.ref a)) D'.d (Nat.lt_of_lt_of_le lv (by decide)) A.hk x1.tb hl ro fun H2 e2=>aq<|i9<|aC<|aC ?_
   refine h5 .next _ _ ⟨bI,(x1.sub (List.nil_sublist _)).ext e2,ex,I1,fun y hy=> ?_⟩
   simp only [List.mem_cons,List.not_mem_nil,or_false] at hy
   rcases hy with rfl | rfl | rfl | rfl | rfl <;> rfl
 .obtain ⟨x',ex,I',keep⟩:=q
  exact h bI m' H' x' I' ((keep _ (by decide)).trans m1) (((keep _ (by decide)).trans m2).trans (by rw [ex])) ((keep _ (by decide)).trans m3) ((keep _ (by decide)).trans m4) ((keep _ (by decide)).trans m5)
end
structure fE (σ:au) (ln lt lo lv lr:Addr) (bk:List (Addr×List Int)) (out over rd:List Int) (C:List (Addr×O)) (m:Loc) (H:AH):Prop where
 ls:LS H σ ln lt bk ((lo, .list (nums out))::(lv, .list (nums over))::(lr, .list (nums rd))::C)
 m1:m "names"=some (.ref ln)
 m2:m "sorter"=some (.ref σ.x)
 m3:m "told"=some (.ref lt)
 m6:m "out"=some (.ref lo)
 m7:m "over"=some (.ref lv)
 m8:m "ready"=some (.ref lr)
noncomputable abbrev Qw:List Str:=["names","sorter","told","out","over","ready"]
section
variable {σ:au} {ln lt lo lv lr:Addr} {bk:List (Addr×List Int)} {out over rd:List Int} {C C':List (Addr×O)} {m m':Loc} {H H':AH}
theorem fE.ext (x:fE σ ln lt lo lv lr bk out over rd C m H) (e:Ext H H'):fE σ ln lt lo lv lr bk out over rd C m H':=⟨x.ls.ext e,x.m1,x.m2,x.m3,x.m6,x.m7,x.m8⟩
theorem fE.loc (x:fE σ ln lt lo lv lr bk out over rd C m H) (e: ∀ y∈Qw,m' y=m y):fE σ ln lt lo lv lr bk out over rd C m' H:=
 ⟨x.ls,(e _ (by decide)).trans x.m1,(e _ (by decide)).trans x.m2,(e _ (by decide)).trans x.m3,(e _ (by decide)).trans x.m6,(e _ (by decide)).trans x.m7,(e _ (by decide)).trans x.m8⟩
theorem fE.o (x:fE σ ln lt lo lv lr bk out over rd C m H):H lo=some (.list (nums out)):=x.ls.atC (.head _)
theorem fE.v (x:fE σ ln lt lo lv lr bk out over rd C m H):H lv=some (.list (nums over)):=x.ls.atC (.tail _ (.head _))
theorem fE.r (x:fE σ ln lt lo lv lr bk out over rd C m H):H lr=some (.list (nums rd)):=x.ls.atC (.tail _ (.tail _ (.head _)))
theorem fE.tok (x:fE σ ln lt lo lv lr bk out over rd C m H):pS (tl bk):=x.ls.bk.tok
theorem fE.sub (x:fE σ ln lt lo lv lr bk out over rd C m H) (h:C'.Sublist C):fE σ ln lt lo lv lr bk out over rd C' m H:=⟨x.ls.sub (((h.cons_cons _).cons_cons _).cons_cons _),x.m1,x.m2,x.m3,x.m6,x.m7,x.m8⟩
theorem fE.add (x:fE σ ln lt lo lv lr bk out over rd C m H) (e:Ext H H') {a:Addr} {o:O} (n:H a=none) (h:H' a=some o):fE σ ln lt lo lv lr bk out over rd ((a,o)::C) m H':=
 ⟨(x.ls.add e n h).perm (List.Perm.trans (List.Perm.swap ..) (List.Perm.cons _ (List.Perm.trans (List.Perm.swap ..) (List.Perm.cons _ (List.Perm.swap ..))))),x.m1,x.m2,x.m3,x.m6,x.m7,x.m8⟩
end
structure Sz (told:List (List Int)) (out over rd:List Int):Prop where
 o:out.length<=10
 v:over.length<=10
 r:rd.length<=10
 io:iw out
 iv:iw over
 ir:iw rd
theorem Run.sz {told:List (List Int)} {out over rd:List Int} (r:Run told rd out over) (t:pS told):Sz told out over rd:=by
 have io:iw out:=fun v hv=>t.ins v (r.nm v (List.mem_append_left _ hv))
 have iv:iw over:=fun v hv=>io v (r.oo v hv)
 have ir:iw rd:=fun v hv=>t.ins v (r.nm v (List.mem_append_right _ hv))
 have nd:=List.nodup_append.mp r.nd
 exact ⟨kP nd.1 io,kP r.nv iv,kP nd.2.1 ir,io,iv,ir⟩
section
variable {g:G} {F F':Fm} {m:Loc} {H:AH} {X:PX} {Q:eI} {σ:au} {ln lt lo lv lr:Addr} {bk:List (Addr×List Int)} {out over rd:List Int} {C:List (Addr×O)}
theorem vd (D:mP g) (hF:aI F' F (jA g.w.params)) (lvl:F'.lvl<40) (hh:F.A.handled=none) (x:fE σ ln lt lo lv lr bk out over rd C m H) (I:Inv σ.abs (tl bk) (some rd) out over) (r:Run (tl bk) rd out over) {Q:PV} (h: ∀ H',Ext H H'->Q (.bool true) m H'):
  aH g F' (.ref 184) [.ref σ.x, .ref lt, .ref lr, .ref lo, .ref lv] m H Q X:=by
 have sz:=r.sz x.tok
 have de:σ.rd.map (·.2)=some rd:=I.rd
 refine mF (out:=out) (over:=over) D (Nat.lt_of_lt_of_le lvl (by decide)) (hF.hh hh) x.ls.sat (I.nodup x.tok) x.ls.t1 x.ls.tb (by rw [de];exact ⟨lr,rfl,x.r⟩) x.o x.v (Nat.le_trans sz.o (by decide)) (Nat.le_trans sz.v (by decide)) (fun r' e=> ?_) (by rw [de];exact I) h
 rw [de] at e;cases e
 exact ⟨Nat.le_trans sz.r (by decide),sz.ir⟩
theorem jG (a b:List Int):nums a++nums b=nums (a++b):=(jF a b).symm
theorem Aq (D:mP g) (hF:aI F' F (jA g.w.params)) (lvl:F'.lvl<40) (hh:F.A.handled=none) (x:fE σ ln lt lo lv lr bk out over rd C m H) (I:Inv σ.abs (tl bk) (some rd) out over) (r:Run (tl bk) rd out over)
  (h: ∀ bI AF jH m' H',fE bI ln lt AF lv jH bk (out++rd) over [] C m' H'->Inv bI.abs (tl bk) (some []) (out++rd) over->(∀ y:Str,y≠"out"->y≠"ready"->m' y=m y)->Q .cont m' H') {b:List Stmt} (hb:O5 1 (kg g.w.params)=b):
  WS g F' (execs b F'.env) m H Q X:=by
 have M:=zX g.w.params
 rw [<- D.d.K] at M
 subst hb
 have sz:=r.sz x.tok
 have de:σ.rd.map (·.2)=some rd:=I.rd
 obtain ⟨ra,zH⟩: ∃ ra,σ.rd=some (ra,rd):=by
  cases q:σ.rd with
  | none=>rw [q] at de;cases de
  | some p=>rw [q] at de;cases de;exact ⟨p.1,rfl⟩
 refine ae<|cq<|aO rfl<|bg<|aa x.m2<|(bU (b7 M (au.inst x.ls.sat) (au.ns x.ls.sat) rfl)<|ai (D.d.kp rfl)<|aj<|aH.call<|gR D.d (Nat.lt_of_lt_of_le lvl (by decide)) (hF.hh hh) x.ls.sat (I.nodup x.tok) ?_)
 rw [zH]
 refine ⟨Nat.lt_of_le_of_lt sz.r (by decide),fun n hn=> ?_,fun bI H1 ex ea s'=> ?_⟩
 .have hm:=r.nm n (List.mem_append_right _ hn)
  rw [I.names x.tok,x.tok.ins.cl hm];exact hm
 have x1:=x.ls.re s'
 have I1:Inv bI.abs (tl bk) (some []) (out++rd) over:=by rw [ea];exact I.get x.tok r
 have r1:H1 lr=some (.list (nums rd)):=x1.atC (.tail _ (.tail _ (.head _)))
 have o1:H1 lo=some (.list (nums out)):=x1.atC (.head _)
 refine aJ<|bN (hF.cR rfl) (D.d.nb rfl) D.d.tuple (aX<|ai (.type _)<|af<|dK (aM.of hF rfl rfl) (fun z0=>rfl) (.inl (hF.hh hh)) hF.st (fun Fc acc it=>bz ..)<|aa x.m8<|Ag x.m1 r1 x1.n sz.ir (Nat.le_trans sz.r (by decide)) rfl (fun m' s=>s _ rfl) fun H2 e2 b hb=>aj<|nY (.own (ag ..)) (by rw [aw];exact Nat.le_trans sz.r (by decide))<|yN (lW _) (lW _) (by unfold dep;exact Nat.le_trans (Nat.succ_le_succ (zu _)) (by decide))<|aq ?_)
 rw [fP _ (show dat (.tup _)=true from lW _)]
 have x2:=(x1.ext e2).ext ((Ext.refl H2).put (o:= .list (a8 rd)) hb)
 have e3:=e2.put (o:= .list (a8 rd)) hb
 refine aC<|ae<|E2 (names:=["out","ready"]) (hF.hh hh) rfl (mA hF.scope rfl) ?_<|fR<|af<|bx<|aa x.m6<|aa x.m8<|cV (.own (e3 _ _ o1)) (.own (e3 _ _ r1)) (by rw [ints_length,ints_length];have:=sz.o;have:=sz.r;exact Mv (by assumption) this) fun l3 Fj=>af<|aT<|aj ⟨Nat.le_of_ble_eq_true rfl,fun l4 vc=>aj ⟨Nat.le_of_ble_eq_true rfl,_,rfl,rfl, ?_⟩⟩
 .intro n hn
  simp only [List.mem_cons,List.not_mem_nil,or_false] at hn
  rcases hn with rfl | rfl
  .exact hF.loc rfl
  .exact hF.loc rfl
 rw [jG] at vc|-
 have y1:=x2.add ((Ext.refl _).put (o:= .list (nums (out++rd))) Fj) Fj (ag ..)
 have y2:=(y1.add ((Ext.refl _).put (o:= .list []) vc) vc (ag ..)).perm ((List.Perm.swap _ _ _).trans (List.Perm.cons _ (List.perm_middle (l₁:=[(l4,O.list []),(lo, .list (nums out))]))))
 have y3:=y2.sub (C':=(l3, .list (nums (out++rd)))::(lv, .list (nums over))::(l4, .list (nums []))::C) (((((List.sublist_cons_self _ _).trans (List.sublist_cons_self _ _)).cons_cons _).cons_cons _).cons_cons _)
 exact ae<|xP (h bI l3 l4 _ _ ⟨y3,x.m1,by rw [ex];exact x.m2,x.m3,rfl,x.m7,rfl⟩ I1 fun y h1 h2=>by
  show (if y=("out":Str) then _ else if y=("ready":Str) then _ else m y)=m y
  rw [if_neg h1,if_neg h2])
end
end
theorem Ar {α:Type} {l l':List α} (h: ∀ [DecidableEq α] (a:α),l.count a=l'.count a):l.Perm l':=by
 classical
 exact List.perm_iff_count.mpr fun a=>h a
noncomputable def As:Option Str->V
 | none=> .none
 | some w=>refusal w
theorem Ct {told:List (List Int)} {out:List Int} {v:Int} (vs over rd:List Int) (h:v∉aN told):eR told out (v::vs) over rd=(over,rd,some (wordsOf "node " (uX v) " was not added using add()")):=by
 unfold eR;rw [if_pos h]
theorem wW {told:List (List Int)} {out:List Int} {v:Int} (vs:List Int) {over:List Int} (rd:List Int) (h:v∈aN told) (h2:v∈over):eR told out (v::vs) over rd=(over,rd,some (wordsOf "node " (uX v) " was already marked done")):=by
 unfold eR;rw [if_neg (fun q=>q h),if_pos h2]
theorem tR {told:List (List Int)} {out:List Int} {v:Int} (vs:List Int) {over:List Int} (rd:List Int) (h:v∈aN told) (h2:v∉over) (h3:v∉out):eR told out (v::vs) over rd=(over,rd,some (wordsOf "node " (uX v) " was not passed out (still not ready)")):=by
 unfold eR;rw [if_neg (fun q=>q h),if_neg h2,if_pos h3]
theorem Cu {told:List (List Int)} {out:List Int} {v:Int} (vs:List Int) {over:List Int} (rd:List Int) (h:v∈aN told) (h2:v∉over) (h3:v∈out):eR told out (v::vs) over rd=eR told out vs (over++[v]) (rd++iq told (over++[v]) v):=by
 conv=>lhs;unfold eR
 rw [if_neg (fun q=>q h),if_neg h2,if_neg (fun q=>q h3)]
section
variable [ζ:bW]
section
variable {g:G} {F F':Fm} {m:Loc} {H:AH} {X:PX} {Q:eI} {σ:au} {ln lt lo lv lr:Addr} {bk:List (Addr×List Int)} {out over rd:List Int} {C:List (Addr×O)}
theorem Au {v:Int} {c2:Str} {Q:PV} {X:PX} {k0 k1 k2 k3 k4:Nat} {p0 p1 p2 p3 p4 p5 p6 p7 p8 p9:Pos} (hz:c2.length<=100) (hv:0<=v/\v<10) (mn:m "names"=some (.ref ln)) (hn:H ln=some (.list (a8 j8))) (mv:m "v"=some (.int v))
  (h:Q (refusal (wordsOf "node " (uX v) c2)) m H):
  WE g F (eval (.Tuple [.Constant (.bool true) k0 p0, .Tuple [.JoinedStr [.Constant (.str "node ") k1 p1, .FormattedValue (.Subscript (.Name "names" p2) (.Name "v" p3) p4) 114 none p5, .Constant (.str c2) k2 p6] p7] k3 p8] k4 p9) F.env) m H Q X:=
 fR<|af<|oP<|af<|fR<|af<|uW (by decide) hz<|b8<|aa mn<|aa mv<|gn hv hn ⟨uX v,pO v,(tx v).up (by decide) (by decide),aj ⟨Nat.le_of_ble_eq_true rfl,aj ⟨Nat.le_of_ble_eq_true rfl,h⟩⟩⟩
theorem Av (D:mP g) (hF:aI F' F (jA g.w.params)) (lvl:F'.lvl<40) (hh:F.A.handled=none) (x:fE σ ln lt lo lv lr bk out over rd C m H) (r:Run (tl bk) rd out over) {v:Int} (hv:0<=v/\v<10) (mv:m "v"=some (.int v)) (md:m "due"=some .none)
  (Pa: ∀ w m' H',(∀ vs,eR (tl bk) out (v::vs) over rd=(over,rd,some w))->fE σ ln lt lo lv lr bk out over rd C m' H'->m' "due"=some (As (some w))->(∀ y:Str,y∉(["due","over","ready"]:List Str)->m' y=m y)->Q .brk m' H')
  (AD: ∀ ki jH m' H',(∀ vs,eR (tl bk) out (v::vs) over rd=eR (tl bk) out vs (over++[v]) (rd++iq (tl bk) (over++[v]) v))->v∈out->v∉over->fE σ ln lt lo ki jH bk out (over++[v]) (rd++iq (tl bk) (over++[v]) v) C m' H'->m' "due"=some .none->(∀ y:Str,y∉(["due","over","ready"]:List Str)->m' y=m y)->Q .next m' H'):
  WS g F' (execs (IZ g.w.params) F'.env) m H Q X:=by
 have sz:=r.sz x.tok
 have keep: ∀ (y:Str) (a:V),y≠"due"->(bw m "due" a) y=m y:=fun y a h=>if_neg h
 have bad: ∀ w H1,(∀ vs,eR (tl bk) out (v::vs) over rd=(over,rd,some w))->Ext H H1->WS g F' (execs ((IZ g.w.params).drop 1) F'.env) (bw m "due" (refusal w)) H1 Q X:=fun w H1 e e1=>
  ae<|cq<|aO rfl<|aa rfl<|bj<|eP (fun z0=>by simp)<|aq<|ae<|oQ<|Pa w _ H1 e ((x.ext e1).loc fun y hy=>keep y _ (by simp only [List.mem_cons,List.not_mem_nil,or_false] at hy;rcases hy with rfl | rfl | rfl | rfl | rfl | rfl <;> decide)) rfl fun y hy=>keep y _ fun q=>hy (by rw [q];exact .head _)
 refine ae<|cq<|aO rfl<|aa mv<|aJ<|bp (hF.cR rfl) (D.d.nb rfl) (fun z0=> .dT _)<|aX<|ai (D.d.kp rfl)<|af<|aa x.m3<|aj<|aH.call<|fu D.d (Nat.lt_of_lt_of_le lvl (by decide)) (hF.hh hh) x.ls.tb fun l1 H1 e1 z0 ml=>jX ml<|aq ?_
 cases hc:(aN (tl bk)).contains v with
 | false=>
  exact ae<|aD (hF.loc rfl) rfl<|Au (by decide) hv x.m1 (e1 _ _ x.ls.n) mv<|aC<|bad _ H1 (fun vs=>Ct vs over rd (by simpa using hc)) e1
 | true=>
  have hn:v∈aN (tl bk):=by simpa using hc
  refine ae<|cq<|aO rfl<|aa mv<|aa x.m7<|om (e1 _ _ x.v)<|aq ?_
  cases hd:over.contains v with
  | true=>
   exact ae<|aD (hF.loc rfl) rfl<|Au (by decide) hv x.m1 (e1 _ _ x.ls.n) mv<|aC<|aC<|bad _ H1 (fun vs=>wW vs rd hn (by simpa using hd)) e1
  | false=>
   have h2:v∉over:=by simpa using hd
   refine ae<|cq<|aO rfl<|aa mv<|aa x.m6<|jX (e1 _ _ x.o)<|aq ?_
   cases he:out.contains v with
   | false=>
    exact ae<|aD (hF.loc rfl) rfl<|Au (by decide) hv x.m1 (e1 _ _ x.ls.n) mv<|aC<|aC<|aC<|bad _ H1 (fun vs=>tR vs rd hn h2 (by simpa using he)) e1
   | true=>
    have h3:v∈out:=by simpa using he
    have x1:=x.ext e1
    refine aC<|aC<|aC<|ae<|cq<|aO rfl<|aa md<|bj<|eP (fun z0=>by simp)<|aq<|aC ?_
    refine ae<|aD (hF.gb rfl) rfl<|bx<|aa x.m7<|aT<|af<|aa mv<|aj ⟨Nat.le_of_ble_eq_true rfl,fun l2 nj=>cV (.own ((Ext.refl H1).put nj _ _ x1.v)) (.own (ag ..)) (by rw [ints_length];have:=sz.v;simp;exact My this) fun l3 Fj=> ?_⟩
    have ec:nums over++[V.int v]=nums (over++[v]):=jG over [v]
    rw [ec] at*
    have f3:=((Ext.refl H1).put (o:= .list [V.int v]) nj).put (o:= .list (nums (over++[v]))) Fj
    have y1:=x1.ls.add f3 (((Ext.refl H1).put (o:= .list [V.int v]) nj).no Fj) (ag ..)
    generalize put (put H1 l2 _) l3 _=H3 at f3 y1
    have T5:H3 l3=some (.list (nums (over++[v]))):=y1.atC (.head _)
    have last:(over++[v])[(over++[v]).length-1]? =some v:=by simp
    refine ae<|aD (hF.loc rfl) rfl<|bx<|aa (by exact x.m8)<|aJ<|bp (hF.cR rfl) (D.d.nb rfl) (fun z0=> .dT _)<|aX<|ai (D.d.kp rfl)<|af<|aa (by exact x.m3)<|af<|aa rfl<|aj<|aH.call<|zU D.d (Nat.lt_of_lt_of_le lvl (by decide)) (hF.hh hh) y1.tb T5 last fun l4 H4 e4 UC vc=> ?_
    have T6:H4 lr=some (.list (nums rd)):=e4 _ _ (f3 _ _ x1.r)
    have nz:(iq (tl bk) (over++[v]) v).length<=1000:=by
     unfold iq
     rw [List.length_map]
     exact Nat.le_trans (List.length_filter_le _ _) (by rw [List.length_range];exact oq x.ls.tb v)
    refine cV (.own T6) (.own vc) (by rw [ints_length,ints_length];have:=sz.r;exact Mx nz this) fun l5 Jd=>aC ?_
    rw [jG]
    have y2:=y1.add (e4.put (o:= .list (nums (rd++iq (tl bk) (over++[v]) v))) Jd) (e4.no Jd) (ag ..)
    have y3:=y2.perm (C':=(lo, .list (nums out))::(l3, .list (nums (over++[v])))::(l5, .list (nums (rd++iq (tl bk) (over++[v]) v)))::(lv, .list (nums over))::(lr, .list (nums rd))::C) (Ar fun q=>by simp only [List.count_cons];exact Mw)
    have y4:=y3.sub (C':=(lo, .list (nums out))::(l3, .list (nums (over++[v])))::(l5, .list (nums (rd++iq (tl bk) (over++[v]) v)))::C) (((((List.sublist_cons_self _ _).trans (List.sublist_cons_self _ _)).cons_cons _).cons_cons _).cons_cons _)
    refine AD l3 l5 _ _ (fun vs=>Cu vs rd hn h2 h3) h3 h2 ⟨y4,x.m1,x.m2,x.m3,x.m6,rfl,rfl⟩ md fun y hy=> ?_
    show (if y=("ready":Str) then _ else if y=("over":Str) then _ else m y)=m y
    rw [if_neg fun q=>hy (by rw [q];exact .tail _ (.tail _ (.head _))),if_neg fun q=>hy (by rw [q];exact .tail _ (.head _))]
end
end
theorem Cv (p:Params):uM (Mine.kx.heap_1 p) 137 "done" 120:=⟨rfl,rfl,rfl,rfl,rfl,rfl,rfl,rfl⟩
section
variable [ζ:bW]
structure Fz (B:Heap) (env:Env) (x:Str) (a:Addr):Prop where
 is: ∃ c,env.cells.lookup x=some c/\B.IsCell c (some (.ref a))/\ ∀ y c',y≠x->env.cells.lookup y=some c'->c'≠c
theorem Fz.up {B B':Heap} {env:Env} {x:Str} {a:Addr} (z:Fz B env x a) (k:B.StaysIn B'):Fz B' env x a:=⟨z.is.elim fun c y=>⟨c,y.1,y.2.1.elim fun o w=>⟨o,k _ _ w.1,w.2⟩,y.2.2⟩⟩
theorem Pg {g:G} {env:Env} {x y z:Str} {a b d:Addr} {sc:Scope} {cl:List (Str×Addr)} (C:mB env sc cl) (hs: ∀ n,(n,NameKind.free)∈sc.names->n=x\/n=y\/n=z) (hx:sc.names.lookup x=some .free) (hy:sc.names.lookup y=some .free) (hz:sc.names.lookup z=some .free)
  (n1:(x == ("__classdict__":Str))=false) (n2:(y == ("__classdict__":Str))=false) (n3:(z == ("__classdict__":Str))=false) (d1:x≠y) (d2:x≠z) (d3:y≠z) (f1:Fz g.B env x a) (f2:Fz g.B env y b) (f3:Fz g.B env z d):
  Dj g sc cl (bw (bw (bw (fun z0=>none) x (.ref a)) y (.ref b)) z (.ref d)):=by
 refine .of C (fun n hn=> ?_) fun n v e=> ?_
 .rcases hs n hn with rfl | rfl | rfl
  .obtain ⟨c,h1,h2,h3⟩:=f1.is
   exact ⟨c,a,h1,h2,by unfold bw;rw [if_neg d2,if_neg d1,if_pos rfl],h3,hx,n1⟩
  .obtain ⟨c,h1,h2,h3⟩:=f2.is
   exact ⟨c,b,h1,h2,by unfold bw;rw [if_neg d3,if_pos rfl],h3,hy,n2⟩
  .obtain ⟨c,h1,h2,h3⟩:=f3.is
   exact ⟨c,d,h1,h2,by unfold bw;rw [if_pos rfl],h3,hz,n3⟩
 .unfold bw at e
  by_cases q3:n=z
  .subst q3;exact bE hz
  .rw [if_neg q3] at e
   by_cases q2:n=y
   .subst q2;exact bE hy
   .rw [if_neg q2] at e
    by_cases q1:n=x
    .subst q1;exact bE hx
    .rw [if_neg q1] at e;cases e
section
variable {g:G} {F F':Fm} {m:Loc} {H:AH} {X:PX} {Q:eI} {σ:au} {ln lt lo lv lr:Addr} {bk:List (Addr×List Int)} {out over rd:List Int} {C:List (Addr×O)}
theorem wX (D:mP g) (hF:aI F' F (jA g.w.params)) (lvl:F'.lvl<40) (hh:F.A.handled=none) (hq:F'.env.code= .ref 198/\F'.env.qual="law.<locals>.") (x:fE σ ln lt lo lv lr bk out over rd C m H) {lw:Addr} {row:List Int} (hw:(lw, .list (nums row))∈C) (mw:m "row"=some (.ref lw)) (ir:iw row) (zr:row.length<=3)
  (nd:σ.abs.names.Nodup) (hf:σ.abs.fits 700) {ra:Addr} {rs:List Int} (de:σ.rd=some (ra,rs)) (Ox:rs.length<=1000) {p':PS} {w:Option Str} (AD:σ.abs.rl row p' w) (md:m "due"=some (As w))
  (h: ∀ bI H',bI.x=σ.x->bI.abs=p'->fE bI ln lt lo lv lr bk out over rd C m H'->Q .next m H'):WS g F' (execs ((kg g.w.params).drop 7) F'.env) m H Q X:=by
 have M:=Cv g.w.params
 rw [<- D.d.K] at M
 refine ae<|Wt.freeze (x:="sorter") (a:=σ.x) ((hF.kindOf _).trans rfl) x.m2 fun B1 k1 c1 Gf T7 T8=>Wt.freeze (x:="names") (a:=ln) ((hF.kindOf _).trans rfl) x.m1 fun B2 k2 c2 JE T9 Ua=>Wt.freeze (x:="row") (a:=lw) ((hF.kindOf _).trans rfl) mw fun B3 k3 c3 JF Ub Uc=> ?_
 have D3:=((D.more B1 k1).more B2 k2).more B3 k3
 have f1:Fz B3 F'.env "sorter" σ.x:=(Fz.up (B':=B2) ⟨c1,Gf,T7,T8⟩ k2).up k3
 have f2:Fz B3 F'.env "names" ln:=Fz.up (B:=B2) (B':=B3) ⟨c2,JE,T9,Ua⟩ k3
 have f3:Fz B3 F'.env "row" lw:=⟨c3,JF,Ub,Uc⟩
 have Dm: ∀ n,(n,NameKind.free)∈[(("names":Str),NameKind.free),("row", .free),("sorter", .free)]->n="names"\/n="row"\/n="sorter":=fun n hn=>by
  simp only [List.mem_cons,Prod.mk.injEq,and_true,List.not_mem_nil,or_false] at hn;exact hn
 have cells: ∀ n,(n,NameKind.free)∈[(("names":Str),NameKind.free),("row", .free),("sorter", .free)]-> ∃ c,F'.env.cells.lookup n=some c:=fun n hn=>by
  rcases Dm n hn with rfl | rfl | rfl
  .exact ⟨c2,JE⟩
  .exact ⟨c3,JF⟩
  .exact ⟨c1,Gf⟩
 refine cq<|aO rfl<|aJ<|bp (hF.cR rfl) (D3.d.nb rfl) (fun z0=> .dT _)<|aX<|ai (D3.d.kp rfl)<|af<|rh hq.1 (q:="law.<locals>.<lambda>") (by show F'.env.qual++_=_;rw [hq.2];rfl) D3.c2 x.ls.t2 D3.bm cells (fun f cl FW C0=>aj<|aH.call ?_)
 have x1: ∀ o,fE σ ln lt lo lv lr bk out over rd C m (put H f o):=fun o=>x.ext ((Ext.refl H).put FW)
 refine og (F:=((F'.q9 c1).q9 c2).q9 c3) D3.d (Nat.lt_of_lt_of_le (show F'.lvl<40 from lvl) (by decide)) (hF.hh hh) (ag ..) (tB rfl rfl rfl rfl) (Pg C0 Dm rfl rfl rfl rfl rfl rfl (by decide) (by decide) (by decide) f2 f3 f1) fun F2 l2 L2=> ?_
 have w2:F2.lvl<45:=by rw [l2];exact Nat.lt_of_lt_of_le (Nat.add_lt_add_right (show F'.lvl<40 from lvl) 2) (by decide)
 refine sZ<|aa rfl ⟨σ.x,137,_,_,120,rfl,au.inst (x1 _).ls.sat,au.ns (x1 _).ls.sat,M,rfl,dK (aM.lam L2 (fun n e=>(C0.all n (bE e))) rfl rfl rfl) (fun z0=>rfl) (.inl L2.hh) L2.st (fun Fc acc it=>bz ..)<|aa rfl<|Ag (ns:=row) rfl ((x1 _).ls.atC (.tail _ (.tail _ (.tail _ hw)))) (x1 _).ls.n ir (Nat.le_trans zr (by decide)) rfl (fun m' s=>s _ rfl) fun H2 e2 b hb=>⟨a8 row,⟨by rw [aw,sizeLine_eq];exact Nat.le_trans zr (by decide), .inr ⟨b,rfl, .own (ag ..)⟩⟩, ?_⟩⟩
 have x2:=((x1 _).ext e2).ext ((Ext.refl H2).put (o:= .list (a8 row)) hb)
 generalize put H2 b (.list (a8 row))=H3 at x2
 refine wB (σ:=σ) D3.d (Nat.lt_of_lt_of_le w2 (by decide)) L2.hh (Nat.le_trans zr (by decide)) x2.ls.sat nd hf de Ox AD fun bI H4 ex ea s4=> ?_
 have x4:fE bI ln lt lo lv lr bk out over rd C m H4:=⟨x2.ls.re s4,x.m1,by rw [ex];exact x.m2,x.m3,x.m6,x.m7,x.m8⟩
 cases w with
 | none=>
  refine aa md<|yN rfl rfl (Nat.le_of_ble_eq_true rfl)<|aq ?_
  rw [show eD V.none (As none)=true from fP _ rfl]
  exact aC<|aC<|h bI H4 ex ea x4
 | some e=>
  refine ⟨rfl,rfl,aa md<|yN (x:= .tup [.bool true, .tup [.str e]]) rfl rfl (Nat.le_of_ble_eq_true rfl)<|aq ?_⟩
  rw [show eD (.tup [.bool true, .tup [.str e]]) (As (some e))=true from fP _ rfl]
  exact aC<|aC<|h bI H4 ex ea x4
end
section
variable {g:G} {F F':Fm} {m:Loc} {H:AH} {X:PX} {Q:eI} {σ:au} {ln lt lo lv lr:Addr} {bk:List (Addr×List Int)} {out over rd:List Int} {C:List (Addr×O)}
theorem fE.set {y:Str} {a:V} (x:fE σ ln lt lo lv lr bk out over rd C m H) (h:(Qw.contains y)=false):fE σ ln lt lo lv lr bk out over rd C (bw m y a) H:=x.loc fun z hz=>if_neg fun q=>by
 subst q
 rw [List.contains_iff_mem.mpr hz] at h;cases h
theorem wY (D:mP g) (hF:aI F' F (jA g.w.params)) (hh:F.A.handled=none) (x:fE σ ln lt lo lv lr bk out over rd C m H) (sz:Sz (tl bk) out over rd) {v:Int} (mx:m "x"=some (.int v))
  (h: ∀ lw row m' H',fE σ ln lt lo lv lr bk out over rd ((lw, .list (nums row))::C) m' H'->iw row->row.length<=3->m' "row"=some (.ref lw)->WS g F' (execs ((kg g.w.params).drop 5) F'.env) m' H' Q X):WS g F' (execs ((kg g.w.params).drop 2) F'.env) m H Q X:=by
 refine ae<|cX (by first | exact .inl (bA hF.scope rfl) | exact .inr (bA hF.scope rfl)) (hF.loc rfl) (aM.of hF rfl rfl) (fun z0=>rfl) (.inl (hF.hh hh)) hF.st (fun Fc acc it=>bz ..)<|aa x.m6<|
  cG (xs:=out) (fun w=> .int w) (fun w=> !over.contains w) (fun w=> .int w) d9 ft (fun z0 e=>e _ _ x.o) rfl (Nat.le_trans sz.o (by decide)) (fun Fc hC w hw m' H' sees mw e=>bQ<|aO rfl<|aa mw<|aa ((sees _ rfl).trans x.m7)<|jX (e _ _ x.v)<|aq ⟨rfl,rfl, .refl _⟩) (fun Fc hC w hw z0 m' H' sees mw e=>aa mw ⟨rfl,rfl, .refl _⟩) fun H1 e1 lq Ud=> ?_
 have en:(out.filter fun w=> !over.contains w).map (fun w=>V.int w)=nums (out.filter fun w=> !over.contains w):=rfl
 rw [en]
 have wz:(out.filter fun w=> !over.contains w).length<=10:=Nat.le_trans (List.length_filter_le _ _) sz.o
 have wi:iw (out.filter fun w=> !over.contains w):=fun w hw=>sz.io w (List.mem_filter.mp hw).1
 generalize (out.filter fun w=> !over.contains w)=wt at wz wi
 have x1:=(x.ext (e1.put (o:= .list (nums wt)) Ud)).set (y:="waiting") (a:= .ref lq) rfl
 have Je:=ag H1 lq (O.list (nums wt))
 have Jf:bw m "waiting" (.ref lq) "x"=some (.int v):=mx
 have JQ:bw m "waiting" (.ref lq) "waiting"=some (.ref lq):=aY ..
 generalize put H1 lq (.list (nums wt))=H2 at x1 Je
 generalize bw m "waiting" (.ref lq)=m1 at x1 Jf JQ
 refine u6 (fun m' H'=> ∃ lw row,fE σ ln lt lo lv lr bk out over rd ((lw, .list (nums row))::C) m' H'/\iw row/\row.length<=1/\m' "row"=some (.ref lw)/\m' "x"=some (.int v)) ?_ fun m2 H3 q=>q.elim fun lw q=>q.elim fun row q=> ?_
 .refine Wt.yd fun R5 h5=> ?_
  have fin: ∀ b H',Ext H2 H'->H' b=Option.none->R5 .next (bw m1 "row" (.ref b)) (put H' b (.list [])):=fun b H' e hb=>
   h5 .next _ _ ⟨b,[],(((x1.ext e).add ((Ext.refl H').put hb) hb (ag ..)).set rfl),(fun z0 h=>by cases h),Nat.zero_le _,aY ..,Jf⟩
  refine aD (hF.gb rfl) rfl<|AX<|iM<|nL<|aO rfl<|bx<|aa Jf<|aK<|gN (by decide)<|aK<|vU<|aq ?_
  cases decide (v.fmod 10<8) with
  | false=>exact aT<|aj ⟨Nat.le_of_ble_eq_true rfl,fun b hb=>fin b H2 (.refl _) hb⟩
  | true=>
   refine nL<|aO rfl<|aa JQ<|aT<|aj ⟨Nat.le_of_ble_eq_true rfl,fun b hb=>qY (.own ((Ext.refl H2).put hb _ _ Je)) (.own (ag ..))<|aq ?_⟩
   have e2:=(Ext.refl H2).put (o:= .list []) hb
   generalize put H2 b (.list [])=H4 at e2
   cases wt with
   | nil=>exact aT<|aj ⟨Nat.le_of_ble_eq_true rfl,fun b hb=>fin b H4 e2 hb⟩
   | cons w0 ws=>
    obtain ⟨n,hn⟩: ∃ n,n=(w0::ws).length:=⟨_,rfl⟩
    have Ue:0<n:=by rw [hn];exact Nat.succ_pos _
    refine jO<|aT<|af<|b8<|aa JQ<|bx<|bx<|aa Jf<|aK<|j3 (by decide) (by decide)<|aJ<|bN (hF.cR rfl) (D.d.nb rfl) D.d.len (aX<|ai (.blt _)<|af<|aa JQ<|aj<|gB (.own (e2 _ _ Je)) (fc (Nat.le_trans wz (by decide))) ?_)
    rw [ints_length, <- hn]
    refine gN (by omega) ?_
    have f0:=Int.fmod_nonneg_of_pos (v.fdiv 10) (b:=(n:Int)) (by omega)
    have f1:=Int.fmod_lt_of_pos (v.fdiv 10) (b:=(n:Int)) (by omega)
    generalize (v.fdiv 10).fmod n=k at f0 f1
    obtain ⟨j,rfl⟩:=Int.eq_ofNat_of_zero_le f0
    have hj:j<(w0::ws).length:=by omega
    refine gj (.own (e2 _ _ Je))<|o_item (.own (e2 _ _ Je)) f0 (by omega) (by rw [Int.toNat_natCast];exact kO hj)<|aj ⟨Nat.le_of_ble_eq_true rfl,fun b hb=> ?_⟩
    refine h5 .next _ _ ⟨b,[(w0::ws).getD j 0],((x1.ext e2).add ((Ext.refl H4).put hb) hb (ag ..)).set rfl,fun w hw=> ?_,Nat.le_refl _,aY ..,Jf⟩
    rw [List.mem_singleton.mp hw,List.getD_eq_getElem?_getD,List.getElem?_eq_getElem hj]
    exact wi _ (List.getElem_mem hj)
 .obtain ⟨x3,ri,rz,mr,Ph⟩:=q
  refine ae<|cq<|aO rfl<|bx<|aa Ph<|aK<|gN (by decide)<|aK<|Eo<|aq ?_
  cases decide (v.fmod 10 > 6) with
  | false=>exact aC (h lw row m2 H3 x3 ri (Nat.le_trans rz (by decide)) mr)
  | true=>
   have pJ:H3 lw=some (.list (nums row)):=x3.ls.atC (.tail _ (.tail _ (.tail _ (.head _))))
   refine ae<|aD (hF.gb rfl) rfl<|bx<|aa mr<|aT<|af<|bx<|bx<|aa Ph<|aK<|j3 (by decide) (by decide)<|aK<|gN (by decide)<|af<|bx<|bx<|aa Ph<|aK<|j3 (by decide) (by decide)<|aK<|gN (by decide)<|aj ⟨Nat.le_of_ble_eq_true rfl,fun l4 vc=>cV (.own ((Ext.refl H3).put vc _ _ pJ)) (.own (ag ..)) (by rw [ints_length];simp;exact MA rz) fun l5 Jd=>aC ?_⟩
   have ec:nums row++[V.int ((v.fdiv 10).fmod 10),V.int ((v.fdiv 100).fmod 10)]=nums (row++[(v.fdiv 10).fmod 10,(v.fdiv 100).fmod 10]):=jG row [_,_]
   rw [ec]
   have f5:=((Ext.refl H3).put (o:= .list [V.int ((v.fdiv 10).fmod 10),V.int ((v.fdiv 100).fmod 10)]) vc).put (o:= .list (nums (row++[(v.fdiv 10).fmod 10,(v.fdiv 100).fmod 10]))) Jd
   have x5:=((x3.add f5 (((Ext.refl H3).put (o:= .list [V.int ((v.fdiv 10).fmod 10),V.int ((v.fdiv 100).fmod 10)]) vc).no Jd) (ag ..)).sub (C':=(l5, .list (nums (row++[(v.fdiv 10).fmod 10,(v.fdiv 100).fmod 10])))::C) ((List.sublist_cons_self _ _).cons_cons _)).set (y:="row") (a:= .ref l5) rfl
   refine h l5 _ _ _ x5 (fun w hw=> ?_) (by rw [List.length_append];simp;exact Mz rz) (aY ..)
   rcases List.mem_append.mp hw with hw | hw
   .exact ri w hw
   .simp only [List.mem_cons,List.not_mem_nil,or_false] at hw
    rcases hw with rfl | rfl <;> exact Af _
end
section
variable {g:G} {F F':Fm} {m:Loc} {H:AH} {X:PX} {Q:eI} {σ:au} {ln lt lo lv lr:Addr} {bk:List (Addr×List Int)} {out over rd:List Int} {C:List (Addr×O)}
structure Ug (σ:au) (ln lt lo lw:Addr) (bk:List (Addr×List Int)) (out over rd row:List Int) (C:List (Addr×O)) (i:Nat) (ki jH:Addr) (cL kD:List Int) (p':PS) (m':Loc) (H':AH):Prop where
 x:fE σ ln lt lo ki jH bk out cL kD ((lw, .list (nums row))::C) m' H'
 ii:Inv p' (tl bk) (some kD) out cL
 r:Run (tl bk) kD out cL
 e:eR (tl bk) out row over rd=eR (tl bk) out (row.drop i) cL kD
 d:m' "due"=some .none
 w:m' "row"=some (.ref lw)
theorem Dn {y:Str} (h:(["due","over","ready"]:List Str).contains y=false):y∉(["due","over","ready"]:List Str):=fun q=>by rw [List.contains_iff_mem.mpr q] at h;cases h
theorem Aw (D:mP g) (hF:aI F' F (jA g.w.params)) (lvl:F'.lvl<40) (hh:F.A.handled=none) (hq:F'.env.code= .ref 198/\F'.env.qual="law.<locals>.") {lw:Addr} {row:List Int} (x:fE σ ln lt lo lv lr bk out over rd ((lw, .list (nums row))::C) m H) (I:Inv σ.abs (tl bk) (some rd) out over) (r:Run (tl bk) rd out over)
  (ir:iw row) (zr:row.length<=3) (mw:m "row"=some (.ref lw))
  (h: ∀ bI ki jH cL kD m' H',fE bI ln lt lo ki jH bk out cL kD C m' H'->Inv bI.abs (tl bk) (some kD) out cL->Run (tl bk) kD out cL->Q .next m' H'):WS g F' (execs ((kg g.w.params).drop 5) F'.env) m H Q X:=by
 have t:=x.tok
 have sz:=r.sz t
 obtain ⟨p',AD,I',r'⟩:=Ak t row ir I r
 obtain ⟨ra,zH⟩: ∃ ra,σ.rd=some (ra,rd):=by
  have de:σ.rd.map (·.2)=some rd:=I.rd
  cases q:σ.rd with
  | none=>rw [q] at de;cases de
  | some p=>rw [q] at de;cases de;exact ⟨p.1,rfl⟩
 refine ae<|aD (hF.loc rfl) rfl<|bj ?_
 refine u6 (fun m' H'=> ∃ ki jH,fE σ ln lt lo ki jH bk out (eR (tl bk) out row over rd).1 (eR (tl bk) out row over rd).2.1 ((lw, .list (nums row))::C) m' H'/\m' "due"=some (As (eR (tl bk) out row over rd).2.2)/\m' "row"=some (.ref lw)) ?_ fun m2 H2 q=>q.elim fun ki q=>q.elim fun jH q=> ?_
 .have x0:=x.set (y:="due") (a:= .none) rfl
  refine Wt.yd fun R5 h5=>gL (fun z0=>rfl)<|aa (by exact mw)<|c7 d9 (fun i m' H'=> ∃ ki jH cL kD p',Ug σ ln lt lo lw bk out over rd row C i ki jH cL kD p' m' H') (.inl (hF.hh hh)) hF.st (fun i m' H' j=>j.elim fun z0 j=>j.elim fun z0 j=>j.elim fun z0 j=>j.elim fun z0 j=>j.elim fun z0 j=>j.x.ls.atC (.tail _ (.tail _ (.tail _ (.head _))))) ⟨lv,lr,over,rd,σ.abs,x0,I,r,rfl,aY ..,by exact mw⟩ (fun i m' H' hi j R hR=> ?_) (fun m' H' j=> ?_)
  .obtain ⟨ki,jH,cL,kD,q',j⟩:=j
   rw [ft i hi]
   refine bH (hF.loc rfl)<|Av D hF lvl hh (j.x.set (y:="v") rfl) j.r (ir _ (List.getElem_mem hi)) (aY ..) (by exact j.d) (fun w m3 H3 e3 x3 d3 k3=> ?_) fun Uh Ui m3 H3 e3 ho hv x3 d3 k3=> ?_
   .have ee:=j.e
    rw [List.drop_eq_getElem_cons hi,e3] at ee
    refine hR .brk _ _ (h5 .next _ _ ?_)
    show ∃ ki jH,_
    rw [ee]
    exact ⟨ki,jH,x3,d3,(k3 _ (Dn rfl)).trans j.w⟩
   .have ee:=j.e
    rw [List.drop_eq_getElem_cons hi,e3] at ee
    obtain ⟨I3,r3,_⟩:=j.ii.gV t j.r ho hv
    exact hR .next _ _ ⟨Uh,Ui,_,_,_,x3,I3,r3,ee,d3,(k3 _ (Dn rfl)).trans j.w⟩
  .obtain ⟨ki,jH,cL,kD,q',j⟩:=j
   have ee:=j.e
   rw [List.drop_of_length_le (Nat.le_refl _)] at ee
   refine aC (h5 .next _ _ ⟨ki,jH, ?_, ?_,j.w⟩)
   .rw [ee];exact j.x
   .rw [ee];exact j.d
 .obtain ⟨x2,d2,w2⟩:=q
  exact wX D hF lvl hh hq x2 (.head _) w2 ir zr (I.nodup t) (x.ls.fits I) zH (Nat.le_trans sz.r (by decide)) AD d2 fun bI H' ex ea x3=>h bI ki jH _ _ _ _ (x3.sub (List.sublist_cons_self _ _)) (by rw [ea];exact I') r'
theorem FL (D:mP g) (hF:aI F' F (jA g.w.params)) (lvl:F'.lvl<40) (hh:F.A.handled=none) (hq:F'.env.code= .ref 198/\F'.env.qual="law.<locals>.") (x:fE σ ln lt lo lv lr bk out over rd C m H) (I:Inv σ.abs (tl bk) (some rd) out over) (r:Run (tl bk) rd out over) {v:Int} (mx:m "x"=some (.int v))
  (h: ∀ bI AF ki jH nr cL kD m' H',fE bI ln lt AF ki jH bk nr cL kD C m' H'->Inv bI.abs (tl bk) (some kD) nr cL->Run (tl bk) kD nr cL->Q .next m' H'/\Q .cont m' H'):WS g F' (execs (kg g.w.params) F'.env) m H Q X:=by
 refine ae<|cq<|ue<|j1<|aJ<|bp (hF.cR rfl) (D.d.nb rfl) (fun z0=> .dT _)<|aX<|ai (D.d.kp rfl)<|af<|aa x.m2<|af<|aa x.m3<|af<|aa x.m8<|af<|aa x.m6<|af<|aa x.m7<|aj<|aH.call<|vd D hF lvl hh x I r fun H1 e1=>aq<|aC ?_
 have x1:=x.ext e1
 refine ae<|cq<|aO rfl<|bx<|aa mx<|aK<|gN (by decide)<|aK<|vU<|aq ?_
 cases decide (v.fmod 10<5) with
 | true=>
  rw [if_pos rfl]
  refine Aq (Q:=xI g F' ((kg g.w.params).drop 2) Q X) D hF lvl hh x1 I r (fun bI AF jH m' H' x' I' k=>(h bI AF lv jH _ over [] m' H' x' I' r.get).2) ?_
  rfl
 | false=>exact aC<|wY D hF hh x1 (r.sz x.tok) mx fun lw row m2 H2 x2 ri rz mr=>Aw D hF lvl hh hq x2 I r ri rz mr fun bI ki jH cL kD m' H' x' I' r'=>(h bI lo ki jH out cL kD m' H' x' I' r').1
end
section
variable {g:G} {F F':Fm} {m:Loc} {H:AH} {X:PX} {Q:eI} {σ:au} {ln lt:Addr} {bk:List (Addr×List Int)}
theorem Jg (D:mP g) (hF:aI F' F (jA g.w.params)) (lvl:F'.lvl<40) (hh:F.A.handled=none) (hq:F'.env.code= .ref 198/\F'.env.qual="law.<locals>.") {sa:Addr} {ns:List Int} (Cr:LB g sa ns) (hn:ns.length<=63) (x:LS H σ ln lt bk []) (I:Inv σ.abs (tl bk) (some (d6 (tl bk))) [] [])
  (m1:m "names"=some (.ref ln)) (m2:m "sorter"=some (.ref σ.x)) (m3:m "told"=some (.ref lt)) (m4:m "script"=some (.ref sa)) (m5:m "half"=some (.int (((ns.length+1) / 2:Nat):Int))) (h: ∀ m H,H 181=some (.tab "_law_right.<locals>.<lambda>")->H 196=some (.tab "law.<locals>.<lambda>")->Q (.ret (.bool true)) m H):WS g F' (execs ((mH g.w.params).drop 8) F'.env) m H Q X:=by
 have t:=x.bk.tok
 have I6:=pU t
 refine ae<|cX (by first | exact .inl (bA hF.scope rfl) | exact .inr (bA hF.scope rfl)) (hF.loc rfl) (aM.of hF rfl rfl) (fun z0=>rfl) (.inl (hF.hh hh)) hF.st (fun Fc acc it=>bz ..)<|aJ<|bp (hF.cR rfl) (D.d.nb rfl) (fun z0=> .dT _)<|aX<|ai (D.d.kp rfl)<|af<|aa m3<|aj<|aH.call<|fu D.d (Nat.lt_of_lt_of_le lvl (by decide)) (hF.hh hh) x.tb fun l1 H1 e1 z0 ml=> ?_
 have x1:=x.ext e1
 refine cG (xs:=aN (tl bk)) (fun w=> .int w) (fun w=>(bV (tl bk) [] w).isEmpty) (fun w=> .int w) d9 ft (fun z0 e=>e _ _ ml) rfl (Nat.le_trans I6 (by decide)) (fun Fc hC w hw m' H' sees mw e=> ?_) (fun Fc hC w hw z0 m' H' sees mw e=>aa mw ⟨rfl,rfl, .refl _⟩) fun H2 e2 lr Ga=> ?_
 .have x3:=x1.ext e
  refine bQ<|aO rfl<|aJ<|bp (hC.cR rfl) (D.d.nb rfl) (fun z0=> .dT _)<|aX<|ai (D.d.kp rfl)<|af<|aa ((sees _ rfl).trans m3)<|af<|aT<|aj ⟨Nat.le_of_ble_eq_true rfl,fun b hb=>af<|aa mw<|aj<|aH.call<|jY (over:=[]) D.d (Nat.lt_of_lt_of_le (hC.lv lvl) (by decide)) (hC.hh (hF.hh hh)) (x3.tb.ext ((Ext.refl H').put hb)) (ag ..) fun l4 H4 e4 z0 vc=>aT<|aj ⟨Nat.le_of_ble_eq_true rfl,fun b2 JR=>zT ((Ext.refl H4).put JR _ _ vc) (ag ..)<|aq ⟨rfl,rfl,(((Ext.refl H').put hb).trans e4).put JR⟩⟩⟩
 have en:((aN (tl bk)).filter fun w=>(bV (tl bk) [] w).isEmpty).map (fun w=>V.int w)=nums (d6 (tl bk)):=rfl
 rw [en]
 have x2:=x.add ((e1.trans e2).put (o:= .list (nums (d6 (tl bk)))) Ga) ((e1.trans e2).no Ga) (ag ..)
 generalize put H2 lr (.list (nums (d6 (tl bk))))=H3 at x2
 refine ae<|bF rfl (mA hF.scope rfl) rfl<|fR<|af<|aT<|aj ⟨Nat.le_of_ble_eq_true rfl,fun lo E4=>af<|aT<|aj ⟨Nat.le_of_ble_eq_true rfl,fun lv Fp=>aj ⟨Nat.le_of_ble_eq_true rfl,kI (.inl (hF.hh hh)) rfl<|bH (hF.loc rfl)<|bH (hF.gb rfl) ?_⟩⟩⟩
 have x3:=x2.add (o:= .list []) ((Ext.refl H3).put E4) E4 (ag ..)
 have x4:=x3.add (o:= .list []) ((Ext.refl _).put Fp) Fp (ag ..)
 generalize put (put H3 lo (.list [])) lv (.list [])=H4 at x4
 have x5:fE σ ln lt lo lv lr bk [] [] (d6 (tl bk)) [] (bw (bw (bw m "ready" (.ref lr)) "out" (.ref lo)) "over" (.ref lv)) H4:=⟨x4.perm (List.Perm.swap ..),m1,m2,m3,rfl,rfl,rfl⟩
 have r0:=Run.start (tl bk)
 have k4:(bw (bw (bw m "ready" (.ref lr)) "out" (.ref lo)) "over" (.ref lv)) "script"=some (.ref sa):=m4
 have k5:(bw (bw (bw m "ready" (.ref lr)) "out" (.ref lo)) "over" (.ref lv)) "half"=some (.int (((ns.length+1) / 2:Nat):Int)):=m5
 generalize bw (bw (bw m "ready" (.ref lr)) "out" (.ref lo)) "over" (.ref lv)=mm at x5 k4 k5
 refine ae<|gL (fun z0=>rfl)<|bx<|bx<|aT<|af<|aK<|af<|aK<|aj ⟨Nat.le_of_ble_eq_true rfl,fun c1 h1=>d8<|aa k4<|fK<|aa k5<|cB<|cB ⟨sa,nums ns,some (((ns.length+1) / 2:Nat):Int),none,none,rfl,Cr.Qv _,by rw [ints_length];exact GF hn, .int _, .none, .none,(fun q=>nomatch q),fun c2 h2=> ?_⟩⟩
 rw [mz,oj]
 have hz:(ns.drop ((ns.length+1) / 2)).length<=63:=by rw [List.length_drop];exact MD hn
 generalize ns.drop ((ns.length+1) / 2)=nz at hz h2
 have f1:=(Ext.refl H4).put (o:= .list [V.int 0,V.int 7]) h1
 have f2:=f1.put (o:= .list (nums nz)) h2
 refine cV (.own ((Ext.refl _).put h2 _ _ (ag ..))) (.own (ag ..)) (by rw [ints_length];simp;exact MC hz) fun c3 h3=> ?_
 have f3:=f2.put (o:= .list ([V.int 0,V.int 7]++nums nz)) h3
 refine bx<|aT<|af<|aK<|af<|aK<|aj ⟨Nat.le_of_ble_eq_true rfl,fun c4 h4=>aK<|zI (n:=10) (ag ..) (by simp) (by decide) fun c5 h5=> ?_⟩
 have f4:=f3.put (o:= .list [V.int 0,V.int 5]) h4
 have ec:(List.replicate 10 [V.int 0,V.int 5]).flatten=nums (List.replicate 10 [0,5]).flatten:=rfl
 rw [ec] at*
 have f5:=f4.put (o:= .list (nums (List.replicate 10 [0,5]).flatten)) h5
 refine cV (.own ((((Ext.refl _).put h4).put h5) _ _ (ag ..))) (.own (ag ..)) (by simp [ints_length];exact MB hz) fun le h6=> ?_
 have ed:[V.int 0,V.int 7]++nums nz++nums (List.replicate 10 [0,5]).flatten=nums ([0,7]++nz++(List.replicate 10 [0,5]).flatten):=by rw [jF,jF];rfl
 have x6:=x5.add (f5.put (o:= .list ([V.int 0,V.int 7]++nums nz++nums (List.replicate 10 [0,5]).flatten)) h6) (f5.no h6) (ag ..)
 rw [ed] at*
 generalize [0,7]++nz++(List.replicate 10 [0,5]).flatten=row at x6
 refine c7 (d9 (ns:=row) (l:=le)) (fun i m' H'=> ∃ bI AF ki jH nr cL kD,fE bI ln lt AF ki jH bk nr cL kD [(le, .list (nums row))] m' H'/\Inv bI.abs (tl bk) (some kD) nr cL/\Run (tl bk) kD nr cL) (.inl (hF.hh hh)) hF.st (fun i m' H' j=> ?_) ⟨σ,lo,lv,lr,[],[],d6 (tl bk),x6,I,r0⟩ (fun i m' H' hi j R hR=> ?_) (fun m' H' j=> ?_)
 .obtain ⟨bI,AF,ki,jH,nr,cL,kD,x7,_⟩:=j
  exact x7.ls.atC (.tail _ (.tail _ (.tail _ (.head _))))
 .obtain ⟨bI,AF,ki,jH,nr,cL,kD,x7,I7,r7⟩:=j
  rw [ft i hi]
  exact bH (hF.loc rfl)<|FL D hF lvl hh hq (x7.set (y:="x") rfl) I7 r7 (aY ..) fun Qx QA QB QC Jh Dp QD m8 H8 x8 I8 r8=>⟨hR .next _ _ ⟨Qx,QA,QB,QC,Jh,Dp,QD,x8,I8,r8⟩,hR .cont _ _ ⟨Qx,QA,QB,QC,Jh,Dp,QD,x8,I8,r8⟩⟩
 .obtain ⟨bI,AF,ki,jH,nr,cL,kD,x7,I7,r7⟩:=j
  exact aC<|ae<|dW<|aJ<|bp (hF.cR rfl) (D.d.nb rfl) (fun z0=> .dT _)<|aX<|ai (D.d.kp rfl)<|af<|aa x7.m2<|af<|aa x7.m3<|af<|aa x7.m8<|af<|aa x7.m6<|af<|aa x7.m7<|aj<|aH.call<|vd D hF lvl hh x7 I7 r7 fun H9 e9=>h _ _ (x7.ext e9).ls.t1 (x7.ext e9).ls.t2
theorem Cw (D:mP g) (hF:aI F' F (jA g.w.params)) (lvl:F'.lvl<40) (hh:F.A.handled=none) (hq:F'.env.code= .ref 198/\F'.env.qual="law.<locals>.") {sa:Addr} {ns:List Int} (Cr:LB g sa ns) (hn:ns.length<=63) (hm:m "script"=some (.ref sa))
  (s0:Sat H [(181, .tab "_law_right.<locals>.<lambda>"),(196, .tab "law.<locals>.<lambda>")]) (h: ∀ m H,H 181=some (.tab "_law_right.<locals>.<lambda>")->H 196=some (.tab "law.<locals>.<lambda>")->Q (.ret (.bool true)) m H):WS g F' (execs (mH g.w.params) F'.env) m H Q X:=
 Ja D hF lvl hh Cr hn hm s0 fun σ ln lt bk m H A=>Jb D hF lvl hh A fun m H ls A hs x=>Jc D hF lvl hh A hs x fun σ m H x I m1 m2 m3 m4 m5=>Jg D hF lvl hh hq Cr hn x I m1 m2 m3 m4 m5 h
end
section
variable {g:G} {A:Around} {s:Shared} {H₀:AH}
structure Ax (g:G) (s:Shared) (H₀:AH):Prop where
 B:g.B.StaysIn s.heap
 H: ∀ b o,H₀ b=some o->g.B.get? b=none/\OH g s.heap b o
theorem Ax.no (t:Ax g s H₀) {b:Addr} (n:s.heap.objs.size<=b):g.B.get? b=none/\H₀ b=none:=by
 have z:s.heap.get? b=none:=Heap.get?_none_of_le n
 constructor
 .cases q:g.B.get? b with
  | none=>rfl
  | some o=>rw [t.B b o q] at z;cases z
 .cases q:H₀ b with
  | none=>rfl
  | some o=>obtain ⟨r,e,_⟩:=(t.H b o q).2.get;rw [e] at z;cases z
theorem FN {fd:FuncData} {f:Addr} {bs:List (Str×V)} {binds:List (Str×Value)} {s':Shared} (hz:ζ.bad=[]) (t:Ax g s H₀) (rO:s.gens= #[]) (Ji:s.os=g.os) (hA:A.frames=some []) (AB:A.guards=some []) (hd:A.depth<=310) (hu:A.units<=100)
  (hk:fd.scope.kind= .function) (hg:fd.globals=mainGlobals) (hb:fd.builtins=builtinsNs)
  (G8:BR s.heap bs binds) (dH: ∀ x∈bs,fd.scope.names.lookup x.1=some .local\/fd.scope.names.lookup x.1=some .cell)
  (x:InCallC s (callEnvC fd s.heap.objs.size f).locals (bindL (callEnvC fd s.heap.objs.size f).kindOf binds fun z0=>none) (callEnvC fd s.heap.objs.size f).cells (bindC (callEnvC fd s.heap.objs.size f).kindOf binds fun z0=>none) s') (ht:1<=s'.toks):
  St g (De A fd f s.heap.objs.size) (cP bs fun z0=>none) H₀ s':=by
 obtain ⟨⟨⟨h',tk,rfl⟩,hn,kp,_⟩,hc,qn,qd⟩:=x
 have mn:dY s.heap h':=⟨fun z0 z0 z0 e=>kp _ _ e, .ext kp⟩
 have big: ∀ n c,(callEnvC fd s.heap.objs.size f).cells.lookup n=some c->s.heap.objs.size<=c:=fun n c e=>Nat.le_of_lt (qd n c (mem_of_lookup e))
 obtain ⟨oL,AY,AZ,eL,dL,_⟩:=id hn
 refine ⟨fun b o e=>kp b o (t.B b o e),fun b o e=> ?_,⟨hk,⟨_,hn,fun y a ha=> ?_⟩,fun y c hy=>⟨(t.no (big y c hy)).2,_,hc y c hy⟩,fun y z c hy hz=>name_of_addr qn (mem_of_lookup hy) (mem_of_lookup hz)⟩,List.mem_cons_self,fun b gD=> ?_, ?_,fun b gD=> ?_,rfl,Around.frames_deeper hA,rO,Ji, ?_,⟨hg,hb⟩,(fun a ha=>by rw [hz] at ha;cases ha),ht⟩
 .obtain ⟨b1,b2⟩:=t.H b o e
  obtain ⟨r,e',_⟩:=b2.get
  exact ⟨b1,b2.mono mn ((kp b r e').trans e'.symm)⟩
 .obtain ⟨v,rv,w⟩:=qm (kindOf:=(callEnvC fd s.heap.objs.size f).kindOf) (mr:=fun z0=>none) (cm:=fun z0=>none) (BR.mono mn.tup _ _ G8) dH (fun z0 z0 q=>by cases q) y a ha
  rcases w with ⟨w,w'⟩ | ⟨w1,w2⟩
  .exact .loc v rv w w'
  .have:((cellsFrom (s.heap.objs.size+1) fd.scope.names []).lookup y).isSome=true:=cellsFrom_some _ _ _ (.inl w1)
   obtain ⟨c,ec⟩:=Option.isSome_iff_exists.mp this
   exact .gb v rv (.inl w1) c ec (w2▸hc y c ec)
 .rcases List.mem_cons.mp gD with rfl | gD
  .exact ⟨(t.no (Nat.le_refl _)).2,(t.no (Nat.le_refl _)).1,oL,eL, .inl ⟨_,_,dL⟩⟩
  .obtain ⟨p,hp,rfl⟩:=List.mem_map.mp gD
   have e:=eq_of_beq (List.mem_filter.mp hp).2
   obtain ⟨o,eo,d⟩:=hc p.1 p.2 e
   exact ⟨(t.no (big p.1 p.2 e)).2,(t.no (big p.1 p.2 e)).1,o,eo, .inr ⟨_,d⟩⟩
 .exact ⟨by show fd.scope.kind≠ .module;rw [hk];decide,⟨_,oL,rfl,(t.no (Nat.le_refl _)).1,eL,fun vs q=>by rw [dL] at q;cases q⟩,trivial⟩
 .have:b=s.heap.objs.size:=by
   have JR:b∈[s.heap.objs.size]:=gD
   simpa using JR
  subst this
  exact ⟨(t.no (Nat.le_refl _)).2,oL,AY,AZ,eL,dL⟩
 .refine ⟨?_, ?_,by show 1<=100;exact Kj,AB⟩
  .show A.depth+1<=310+3*1;exact Kk hd
  .show A.units+3<=100+20*1;exact Kl hu
theorem FO {f:Addr} {fd:FuncData} {oc:Value} {od:Option Addr} {A5:Array (Option Value)} {body:List Stmt} {bs:List (Str×V)} {R:Result->Shared->Prop} {P:AH->Prop}
  (oW:1<=s.toks) (hz:ζ.bad=[]) (t:Ax g s H₀) (rO:s.gens= #[]) (Ji:s.os=g.os) (hA:A.frames=some []) (AB:A.guards=some []) (hd:A.depth<=310) (hu:A.units<=100)
  (ho:g.K.lookup f=some ⟨oc,od, .func fd,A5⟩) (xU:codeIn g.K fd.code fd.qualname=true) (jc:fd.body= .stmts body) (hg:fd.globals=mainGlobals) (hb:fd.builtins=builtinsNs) (lE:fd.closure=[])
  (vu:fd.scope.isCoroutine=false) (lF:fd.scope.isGenerator=false) (hk:fd.scope.kind= .function) (r:Value->List (Str×Value)) (he: ∀ v S,peek g.K S (bindArgs fd ⟨[v],[]⟩)=some (r v)) {v:Value} (G8:BR s.heap bs (r v))
  (dH: ∀ x∈bs,fd.scope.names.lookup x.1=some .local\/fd.scope.names.lookup x.1=some .cell) (sG: ∀ x∈r v, ∃ y∈bs,y.1=x.1)
  (h: ∀ F' F,F.lvl=0->F.A=A->aI F' F fd.scope->F'.env.code=fd.code/\F'.env.qual=fd.qualname++".<locals>."->WS g F' (execs body F'.env) (cP bs fun z0=>none) H₀ (fun fl z0 H=>fl.val= .bool true/\P H) (fun z0 z0 z0 z0=>False))
  (hq: ∀ s' H,(∀ b o,g.B.get? b=some o->s'.heap.get? b=some o)->(∀ b o,H b=some o->OH g s'.heap b o)->s'.gens= #[]->s'.os=g.os->P H->R (.ok (.ret (.bool true))) s'):codeAny (model g.prog g.w) A (.call (.ref f) ⟨[v],[]⟩) R s:=by
 have X0:g.K.In s.heap:=g.gq.keeps t.B
 refine codeAny_call_function (by rw [show recursionLimit=1000 from rfl];exact Km hd) (X0 _ _ ho) rfl vu lF jc (codeRec_of X0 xU) ?_
 refine (Looks.of_peek (M:=model g.prog g.w) X0 (he v _)).here ?_
 rw [lE]
 refine fO oW (wpAny_newFunctionEnv_cells hk (fun x hx=> ?_) fun env he a9 x Pj=> ?_)
 .obtain ⟨y,hy,e⟩:=sG x hx
  rw [<- e]
  exact (dH y hy).imp id fun q=>⟨q,cellsFrom_some _ _ _ (.inl q)⟩
 .subst he
  have x':InCallC s (callEnvC fd s.heap.objs.size f).locals (bindL (callEnvC fd s.heap.objs.size f).kindOf (r v) fun z0=>none) (callEnvC fd s.heap.objs.size f).cells (bindC (callEnvC fd s.heap.objs.size f).kindOf (r v) fun z0=>none) a9:=x
  have nN: ∀ b o,s.heap.get? b=some o->a9.heap.get? b=some o:=x'.toInCall.keep
  have aB:=FN (g:=g) hz t rO Ji hA AB hd hu hk hg hb G8 dH x' Pj
  refine ⟨(g.nG.keeps t.B).keeps nN,codeAny_func ?_⟩
  refine aU aB.tk (h _ (Df A fd f s.heap.objs.size) rfl rfl wq ⟨rfl,rfl⟩ a9 aB) (fun fl aP w5 eJ dk dZ bf dG dU=> ?_) fun e aP yy=>yy.no
  cases w5 with
  | ret a=>
   obtain ⟨v,rfl,rv⟩:=dZ
   obtain ⟨dU,pH⟩:=dU
   have dU:a= .bool true:=dU
   rw [dU,VR.cz] at rv
   subst rv
   exact hq aP dk bf.base (fun b o e=>(bf.obj b o e).2) bf.gens bf.os pH
  | next=>cases dU.1
  | brk=>cases dU.1
  | cont=>cases dU.1
end
end
theorem Jj:LeftO pw qv ["_NodeInfo"] xt (fun s=>(hk.obs s,decide (0<s.toks))) (fun w=>(hk.val w,true)) 2786:=fun w=>by
 unfold openEnds topFrom
 rw [PySem.W.Fast.te14082659384304107361,PySem.W.Fast.te14364793385576792824,PySem.W.Fast.te4187177175401517315]
 kernel_rfl
noncomputable abbrev jI:List (Addr×Addr):=[(183,181),(198,196)]
noncomputable def H7:AH:=fun b=>if b=181 then some (.tab "_law_right.<locals>.<lambda>") else if b=196 then some (.tab "law.<locals>.<lambda>") else none
section
variable [ζ:bW]
theorem FP:Sat H7 [(181, .tab "_law_right.<locals>.<lambda>"),(196, .tab "law.<locals>.<lambda>")]:=by
 refine ⟨by decide,fun p hp=> ?_⟩
 simp only [List.mem_cons,List.not_mem_nil,or_false] at hp
 rcases hp with rfl | rfl <;> rfl
theorem FQ {g:G} {s:Shared} (hB:g.B=ghostOf s.heap jI) (hT:TabsAt jI s.heap):Ax g s H7 where
 B:=fun b o e=>of_hideAll _ (hB▸e)
 H:=fun b o e=>by
  have one: ∀ c q,(c,q)∈jI-> ∀ w,g.B.get? q=none/\OH g s.heap q (.tab w):=fun c q hq w=>by
   refine ⟨by rw [hB];exact hideAll_none _ (List.mem_map_of_mem hq), #[],(hT _ hq).2,trivial,fun pos cv e=> ?_⟩
   cases e
  unfold H7 at e
  by_cases q:b=181
  .subst q;rw [if_pos rfl] at e;cases e;exact one 183 181 (.head _) _
  .rw [if_neg q] at e
   by_cases q':b=196
   .subst q';rw [if_pos rfl] at e;cases e;exact one 198 196 (.tail _ (.head _)) _
   .rw [if_neg q'] at e;cases e
section
variable {g:G} {A:Around} {s:Shared}
theorem Ay (oW:1<=s.toks) (hz:ζ.bad=[]) (D:mP g) (hB:g.B=ghostOf s.heap jI) (hT:TabsAt jI s.heap) {R:Result->Shared->Prop} {sa:Addr} {ns:List Int} (rO:s.gens= #[]) (Ji:s.os=g.os) (hA:A.frames=some []) (AB:A.guards=some []) (hd:A.depth<=310) (hu:A.units<=100) (hh:A.handled=none)
  (Cr:LB g sa ns) (hn:ns.length<=63)
  (hq: ∀ s',(∀ b o,g.B.get? b=some o->s'.heap.get? b=some o)->GrownAll jI s'.heap->s'.gens= #[]->s'.os=g.os->R (.ok (.ret (.bool true))) s'):codeAny (model g.prog g.w) A (.call (.ref 199) ⟨[.ref sa],[]⟩) R s:=by
 refine FO (bs:=[("script", .ref sa)]) (body:=mH g.w.params) (P:=fun H=>H 181=some (.tab "_law_right.<locals>.<lambda>")/\H 196=some (.tab "law.<locals>.<lambda>")) oW hz (FQ hB hT) rO Ji hA AB hd hu (D.d.lk rfl) (D.d.cd rfl) rfl rfl rfl rfl rfl rfl rfl (fun v=>[("script",v)]) (fun v S=>by rw [D.d.K];rfl) ⟨_,[],rfl, .ip _,rfl⟩ (fun x hx=> ?_) (fun x hx=> ?_) (fun F' F hl Uj hF hc=> ?_) fun s' H k ko h1 h2 h3=>hq s' k ⟨?_, ?_,trivial⟩ h1 h2
 .rw [List.mem_singleton] at hx;subst hx;exact .inl rfl
 .rw [List.mem_singleton] at hx;subst hx;exact ⟨_,List.mem_singleton.mpr rfl,rfl⟩
 .have Uk:F.A.handled=none:=by rw [Uj];exact hh
  have lv:F'.lvl<40:=by rw [hF.lvl,hl];decide
  have JK:aI F' F (jA g.w.params):=hF
  have hm:(cP [("script", .ref sa)] fun z0=>none) "script"=some (.ref sa):=rfl
  have eb:= @Cw ζ g F F' (cP [("script", .ref sa)] fun z0=>none) H7 (fun z0 z0 z0 z0=>False) (fun fl z0 H=>fl.val= .bool true/\H 181=some (.tab "_law_right.<locals>.<lambda>")/\H 196=some (.tab "law.<locals>.<lambda>")) D JK lv Uk ⟨hc.1,hc.2⟩ sa ns Cr hn hm FP fun m H h1 h2=>⟨rfl,h1,h2⟩
  with_reducible exact eb
 .exact (ko _ _ h3.1).elim fun ps z=>⟨ps,z.1⟩
 .exact (ko _ _ h3.2).elim fun ps z=>⟨ps,z.1⟩
end
end
theorem bt {mb:Str->Option Value} {x:Str} {v:Value} (h: ∀ x:Str,x≠"__name__"->mb x=bootBuiltins x) (hx:x≠"__name__") (e:bootBuiltins x=some v):mb x=some v:=(h x hx).trans e
end Mine
set_option tactic.hygienic true in
theorem PySem.Challenge.cw_dv0015_07_holds : PySem.Challenge.rw_dv0015_07.Holds := by
 refine holds_law Mine.JS fun sd=> ?_
 refine holds_openX (q:=Mine.qv) (loose:=["_NodeInfo"]) (Xt:=Mine.xt) (XP:=XL Mine.qv []) (Yf:=fun s=>(Mine.hk.obs s,decide (0<s.toks))) (Ya:=fun w=>(Mine.hk.val w,true)) (N:=2786) Mine.Jj (fun s e=>xl_of s (Bool.and_eq_true_iff.mp e).1) XL.keeps (by rfl) (by rfl) (by rfl) (fun s e=>recFacts_of (Bool.and_eq_true_iff.mp e).2) (by rfl) sd (by decide+kernel) ⟨rfl,rfl,rfl,rfl,rfl,by decide+kernel⟩ ?hw ?hc
 case hw=>w_witness2
 intro w FT av mg mb G Y fa o pm cd doc dV kV ho Qb xU hD QE hg args vals as L Pk Pm de Ul E4
 have KX:(Mine.kx.heap_1 w.params).In av.heap:=Frag.In.keeps (kIn_of (K:=Mine.kx.heap_1) (Mine.hk.of w FT (congrArg Prod.fst Y))) L.keeps
 have oW:1<=av.toks:=L.laid.elim fun ord z=>Nat.le_trans (of_decide_eq_true (congrArg Prod.snd Y)) (layAllW_grows _ _ _ z.2).toks
 refine Ground.open G ?_
 intro T B D TE TW
 have t1:=tab_of T KX (x:="_law_right") (c:=183) (P:=181) (by rfl) (by kernel_rfl)
 have t2:=tab_of T KX (x:="law") (c:=198) (P:=196) (by rfl) (by kernel_rfl)
 wrow_args Pk Pm de Ul E4
 have e:=mg_of KX T.g (n:="law") (v:= .ref 199) rfl
 rw [QE] at e
 cases e
 clear Qb xU hD ho Y TE TW B D QE
 rename_i ns _ _ _ _ _ _ _ sa vs _ hL ra w1 r0 hI hr hc _
 have hT:TabsAt Mine.jI av.heap:=fun q hq=>by
  simp only [List.mem_cons,List.not_mem_nil,or_false] at hq
  rcases hq with rfl | rfl
  .exact t1
  .exact t2
 have seer:=T.seer (by decide+kernel)
 have QF:=ghost_K hT KX (by kernel_rfl)
 have T':=ghost_top hT T
 have vk: ∃ o,(ghostOf av.heap Mine.jI).get? sysModules=some o:=let ⟨_,⟨o,_,_,e,d,_⟩,_⟩:=seer.mods;⟨o,ghost_get hT e fun q=>by rw [q] at d;cases d⟩
 let g:Mine.G:={ prog:=PySem.Challenge.rw_dv0015_07.row.prog,w:=w,B:=ghostOf av.heap Mine.jI,K:=Mine.kx.heap_1 w.params,mg:=mg,mb:=mb,os:=av.os,gq:=QF,glob:=T'.g,blt:=T'.b,nG:=T'.nolimit,vk:=vk }
 have D0:Mine.Gd g:=⟨rfl,Mine.bt T.builtins (by decide) (by decide+kernel),Mine.bt T.builtins (by decide) (by decide+kernel),Mine.bt T.builtins (by decide) (by decide+kernel),Mine.bt T.builtins (by decide) (by decide+kernel),Mine.bt T.builtins (by decide) (by decide+kernel),Mine.bt T.builtins (by decide) (by decide+kernel),Mine.bt T.builtins (by decide) (by decide+kernel),Mine.bt T.builtins (by decide) (by decide+kernel),Mine.bt T.builtins (by decide) (by decide+kernel),Mine.bt T.builtins (by decide) (by decide+kernel),Mine.bt T.builtins (by decide) (by decide+kernel),Mine.bt T.builtins (by decide) (by decide+kernel),Mine.bt T.builtins (by decide) (by decide+kernel),Mine.bt T.builtins (by decide) (by decide+kernel),Mine.bt T.builtins (by decide) (by decide+kernel),Mine.bt T.builtins (by decide) (by decide+kernel),own_of_in QF (topRead_of T') rfl (by kernel_rfl)⟩
 have cc:=ghost_code hT
 have D:Mine.mP g:=⟨D0,⟨let ⟨bm,ob,a1,a2,a3,a4,a5,a6⟩:=T'.bmain;⟨bm,ob,a1,a2,a3,a4,a5,a6⟩⟩,cc.1,cc.2.1⟩
 refine wpAny_call (codeAny_mono (kn_post (cw:=PySem.Challenge.rw_dv0015_07.row.claim) (cl:=classAt FT.heap) (mean:=ExcName.means FT.heap) (args:=[ofPy (PyData.list (List.map PyData.int ns))]) hT (fun a x=>raisesW_false (r:=PySem.Challenge.rw_dv0015_07.row.toRowW) (fun ct h=>nomatch h) x) ?_) fun r s' z=> ?_)
 .refine Mine.Ay (ζ:=⟨[]⟩) (g:=g) (A:=callerA) (s:=av) (sa:=sa) (ns:=ns) oW rfl D rfl hT hg rfl rfl rfl (by decide) (by decide) rfl ⟨vs,ghost_list hT hL,hI⟩ (by omega) fun s' keep grown AB Um=>⟨⟨.inl ⟨.bool true,_,_,rfl, ?_, .bool true, ?_, ?_⟩,keep,Um,AB⟩,grown⟩
  .exact raisesW_false (by wrow_none_raised)
  .wrow_post
  .exact unshared_nil
 .match r,z with
  | .ok (.ret v),z=>exact z
  | .error e,z=>exact z
  | .ok .next,z=>exact (z.1.elim (fun q=>q.elim fun v q=>q.elim fun d q=>q.elim fun as q=>by cases q.1) fun q=>q.elim fun e q=>q.elim fun ob q=>q.elim fun cl q=>by cases q.1)
  | .ok .brk,z=>exact (z.1.elim (fun q=>q.elim fun v q=>q.elim fun d q=>q.elim fun as q=>by cases q.1) fun q=>q.elim fun e q=>q.elim fun ob q=>q.elim fun cl q=>by cases q.1)
  | .ok .cont,z=>exact (z.1.elim (fun q=>q.elim fun v q=>q.elim fun d q=>q.elim fun as q=>by cases q.1) fun q=>q.elim fun e q=>q.elim fun ob q=>q.elim fun cl q=>by cases q.1)
