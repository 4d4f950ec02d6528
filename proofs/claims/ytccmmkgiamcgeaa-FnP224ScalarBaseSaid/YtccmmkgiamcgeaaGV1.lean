/- The table's Select: its runs, one for each number. -/
import Derived.Test.YtccmmkgiamcgeaaGP1
set_option linter.all false
namespace P224
open Go Go.RowKit Go.Proofs
set_option maxRecDepth 100000
set_option linter.unusedVariables false
noncomputable def x97s:List (Nat × X):=with1 (with1 xi3 pointPrims 2000 96 Try.f96) pointPrims 2000 97 Try.f97
theorem x97s_ok:XsOk x97s:=with1_ok pointPrims_ok (with1_ok pointPrims_ok xi3_ok Try.func96 (by kernel_rfl)) Try.func97 (by kernel_rfl)
def mem80:List (Nat × List A0) :=
 (0,ptCells 0) :: (1,limbs 45) :: (2,limbs 46) :: (3,limbs 47) :: (4,(List.range 15).map fun i=>.ptr (5+4*i) 0) :: (List.range 15).flatMap fun i =>
  [(5+4*i,ptCells (5+4*i)),(6+4*i,limbs (3*i)),(7+4*i,limbs (3*i+1)),(8+4*i,limbs (3*i+2))]
def in13 (a:Nat):Bool:=decide (1≤a) && decide (a<4)
def fix80:Fix:={ nt:=31,nold:=66,wr:=in13,sep:=fun a b=>(in13 a || in13 b) && decide (a≠b),dec:=fun _=>none }
def st80 (n:Nat):St:=startSt [.one (.ptr 4 0),.one (.ptr 0 0),.one (.lit (.int .u8 (n:Int)))] mem80 48 66
def selB (n i x y z:Nat):List Ex:=[.sel (.c (if i+1=n then 1 else 0)) (.v z) (.v (3*i+2)),.sel (.c (if i+1=n then 1 else 0)) (.v y) (.v (3*i+1)),.sel (.c (if i+1=n then 1 else 0)) (.v x) (.v (3*i))]
def ex80 (n:Nat):Nat→List Ex
 | 0=>[.fcst 0,.fcst 1,.fcst 0,.fcst 0]
 | 1=>selB n 0 48 50 51 ++ ex80 n 0
 | i+2=>selB n (i+1) (52+3*i) (53+3*i) (54+3*i) ++ ex80 n (i+1)
def out80:Nat→List (Nat × Nat × A0)
 | 0=>outPt 48 50 51
 | i+1=>outPt (52+3*i) (53+3*i) (54+3*i) ++ out80 i
def br80 (n:Nat):BriefR:=⟨.normal,97,ex80 n 15,out80 15,[],[]⟩
theorem run80_0:briefR (tabX true pointPrims x97s) Try.f80 [] (runF (tabX true pointPrims x97s) fix80 3000 Try.f80 (st80 0))=some (br80 0):=by kernel_rfl
theorem run80_1:briefR (tabX true pointPrims x97s) Try.f80 [] (runF (tabX true pointPrims x97s) fix80 3000 Try.f80 (st80 1))=some (br80 1):=by kernel_rfl
theorem run80_2:briefR (tabX true pointPrims x97s) Try.f80 [] (runF (tabX true pointPrims x97s) fix80 3000 Try.f80 (st80 2))=some (br80 2):=by kernel_rfl
theorem run80_3:briefR (tabX true pointPrims x97s) Try.f80 [] (runF (tabX true pointPrims x97s) fix80 3000 Try.f80 (st80 3))=some (br80 3):=by kernel_rfl
theorem run80_4:briefR (tabX true pointPrims x97s) Try.f80 [] (runF (tabX true pointPrims x97s) fix80 3000 Try.f80 (st80 4))=some (br80 4):=by kernel_rfl
theorem run80_5:briefR (tabX true pointPrims x97s) Try.f80 [] (runF (tabX true pointPrims x97s) fix80 3000 Try.f80 (st80 5))=some (br80 5):=by kernel_rfl
theorem run80_6:briefR (tabX true pointPrims x97s) Try.f80 [] (runF (tabX true pointPrims x97s) fix80 3000 Try.f80 (st80 6))=some (br80 6):=by kernel_rfl
theorem run80_7:briefR (tabX true pointPrims x97s) Try.f80 [] (runF (tabX true pointPrims x97s) fix80 3000 Try.f80 (st80 7))=some (br80 7):=by kernel_rfl
theorem run80_8:briefR (tabX true pointPrims x97s) Try.f80 [] (runF (tabX true pointPrims x97s) fix80 3000 Try.f80 (st80 8))=some (br80 8):=by kernel_rfl
theorem run80_9:briefR (tabX true pointPrims x97s) Try.f80 [] (runF (tabX true pointPrims x97s) fix80 3000 Try.f80 (st80 9))=some (br80 9):=by kernel_rfl
theorem run80_10:briefR (tabX true pointPrims x97s) Try.f80 [] (runF (tabX true pointPrims x97s) fix80 3000 Try.f80 (st80 10))=some (br80 10):=by kernel_rfl
theorem run80_11:briefR (tabX true pointPrims x97s) Try.f80 [] (runF (tabX true pointPrims x97s) fix80 3000 Try.f80 (st80 11))=some (br80 11):=by kernel_rfl
theorem run80_12:briefR (tabX true pointPrims x97s) Try.f80 [] (runF (tabX true pointPrims x97s) fix80 3000 Try.f80 (st80 12))=some (br80 12):=by kernel_rfl
theorem run80_13:briefR (tabX true pointPrims x97s) Try.f80 [] (runF (tabX true pointPrims x97s) fix80 3000 Try.f80 (st80 13))=some (br80 13):=by kernel_rfl
theorem run80_14:briefR (tabX true pointPrims x97s) Try.f80 [] (runF (tabX true pointPrims x97s) fix80 3000 Try.f80 (st80 14))=some (br80 14):=by kernel_rfl
theorem run80_15:briefR (tabX true pointPrims x97s) Try.f80 [] (runF (tabX true pointPrims x97s) fix80 3000 Try.f80 (st80 15))=some (br80 15):=by kernel_rfl
def tb (n d:Nat) (f:Nat→Nat):Nat:=if n=0 then d else f (n - 1)
theorem law80 {s:Nums} {n:Nat}:∀ (i:Nat),i≤15→Holds s (52+3*i) (ex80 n i) →
  (if i=0 then s 48=0∧s 50=1∧s 51=0 else
   s (49+3*i)=(if 1≤n∧n≤i then s (3*(n - 1)) else 0)∧s (50+3*i)=(if 1≤n∧n≤i then s (3*(n - 1)+1) else 1)∧s (51+3*i)=(if 1≤n∧n≤i then s (3*(n - 1)+2) else 0))
 | 0,_,h=>by
  rw [if_pos rfl]
  obtain ⟨h51,h50,h49,h48,_⟩:=h
  have e48:s 48=0:=(show s 48=0 % pq from h48).trans (Nat.zero_mod _)
  have e50:s 50=1:=(show s 50=1 % pq from h50).trans mod_one_pq
  have e51:s 51=0:=(show s 51=0 % pq from h51).trans (Nat.zero_mod _)
  exact ⟨e48,e50,e51⟩
 | 1,hi,h=>by
  rw [if_neg (by decide)]
  obtain ⟨h2,h1,h0,hr⟩:=h
  have ih:=law80 0 (by decide) hr
  rw [if_pos rfl] at ih
  obtain ⟨a,b,c⟩:=ih
  have e0:s 52=if (if 0+1=n then 1 else 0)=0 then s 48 else s 0:=h0
  have e1:s 53=if (if 0+1=n then 1 else 0)=0 then s 50 else s 1:=h1
  have e2:s 54=if (if 0+1=n then 1 else 0)=0 then s 51 else s 2:=h2
  by_cases hn:0+1=n
  ·subst hn
   rw [if_pos rfl,if_neg (by decide)] at e0 e1 e2
   exact ⟨by rw [e0,if_pos (by decide)],by rw [e1,if_pos (by decide)],by rw [e2,if_pos (by decide)]⟩
  ·have hh:¬ (1≤n∧n≤1):=by omega
   rw [if_neg hn,if_pos rfl] at e0 e1 e2
   rw [if_neg hh,if_neg hh,if_neg hh]
   exact ⟨e0.trans a,e1.trans b,e2.trans c⟩
 | i+2,hi,h=>by
  rw [if_neg (by omega)]
  obtain ⟨h2,h1,h0,hr⟩:=h
  have ih:=law80 (i+1) (by omega) (by
   have e:52+3*(i+2) - 1 - 1 - 1=52+3*(i+1):=by omega
   exact e ▸ hr)
  rw [if_neg (by omega)] at ih
  obtain ⟨a,b,c⟩:=ih
  have e0:s (55+3*i)=if (if i+1+1=n then 1 else 0)=0 then s (52+3*i) else s (3*(i+1)):=by
   have:s (52+3*(i+2) - 1 - 1 - 1)=_:=h0
   rwa [show 52+3*(i+2) - 1 - 1 - 1=55+3*i by omega] at this
  have e1:s (56+3*i)=if (if i+1+1=n then 1 else 0)=0 then s (53+3*i) else s (3*(i+1)+1):=by
   have:s (52+3*(i+2) - 1 - 1)=_:=h1
   rwa [show 52+3*(i+2) - 1 - 1=56+3*i by omega] at this
  have e2:s (57+3*i)=if (if i+1+1=n then 1 else 0)=0 then s (54+3*i) else s (3*(i+1)+2):=by
   have:s (52+3*(i+2) - 1)=_:=h2
   rwa [show 52+3*(i+2) - 1=57+3*i by omega] at this
  rw [show 49+3*(i+1)=52+3*i by omega] at a
  rw [show 50+3*(i+1)=53+3*i by omega] at b
  rw [show 51+3*(i+1)=54+3*i by omega] at c
  rw [show 49+3*(i+2)=55+3*i by omega,show 50+3*(i+2)=56+3*i by omega,show 51+3*(i+2)=57+3*i by omega]
  by_cases hn:i+1+1=n
  ·subst hn
   have hh:1≤i+1+1∧i+1+1≤i+2:=by omega
   rw [if_pos rfl,if_neg (by decide)] at e0 e1 e2
   rw [if_pos hh,if_pos hh,if_pos hh,e0,e1,e2]
   exact ⟨rfl,rfl,rfl⟩
  ·have hh:(1≤n∧n≤i+2)↔(1≤n∧n≤i+1):=by omega
   rw [if_neg hn,if_pos rfl] at e0 e1 e2
   rw [e0,e1,e2,a,b,c]
   simp only [hh]
   exact ⟨trivial,trivial,trivial⟩
end P224
