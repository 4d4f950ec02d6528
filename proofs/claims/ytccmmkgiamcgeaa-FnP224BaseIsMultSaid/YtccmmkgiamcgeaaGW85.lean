/- ScalarBaseMult of bytes: its code, and one round of its loop. -/
import Derived.Test.YtccmmkgiamcgeaaGW80
import Derived.Test.YtccmmkgiamcgeaaGV12
set_option linter.all false
namespace P224
open Go Go.RowKit Go.Proofs
set_option maxRecDepth 100000
set_option linter.unusedVariables false
noncomputable def c51:Code:=Try.f51.body.getD .skip
noncomputable def b0:Code:=sL c51
noncomputable def b1:Code:=sL (sR c51)
noncomputable def bT:Code:=sL (sR (sR c51))
noncomputable def b4:Code:=sL (sR (sR (sR c51)))
noncomputable def b5:Code:=sL (sR (sR (sR (sR c51))))
noncomputable def b6:Code:=sL (sR (sR (sR (sR (sR c51)))))
noncomputable def bL:Code:=sL (sR (sR (sR (sR (sR (sR c51))))))
noncomputable def b7:Code:=sL bL
noncomputable def bK:Code:=lI (bI (sR bL))
noncomputable def bZ:Code:=sR (sR (sR (sR (sR (sR (sR c51))))))
theorem shape51:c51=.seq b0 (.seq b1 (.seq bT (.seq b4 (.seq b5 (.seq b6 (.seq (.seq b7 (.block 0 (.loop bK))) bZ)))))):=by kernel_rfl
noncomputable def xb6:List (Nat × X):=(80,x80) :: xi5
theorem xb6_ok:XsOk xb6:=xcons_ok x80_ok xi5_ok
def wrB (r:Nat):Bool:=(decide (2≤r) && decide (r≤4)) || (decide (6≤r) && decide (r≤8))
def fixB:Fix:={ nt:=60,nold:=130,wr:=wrB,sep:=fun a b=>(wrB a || wrB b) && decide (a≠b),dec:=fun i=>findT i [(98,true),(106,true)] }
def pts30 (r n:Nat):Nat→List (Nat × List A0)
 | 0=>[]
 | m+1=>(r,ptCells r) :: (r+1,limbs n) :: (r+2,limbs (n+1)) :: (r+3,limbs (n+2)) :: pts30 (r+4) (n+3) m
def byteRow (k:Nat):List A0:=(List.range 28).map fun i=>if i=k then .num .u8 6 else .any
def tabRows (k:Nat):List A0:=(List.range 840).map fun i=>if 15*(55 - 2*k)≤i∧i<15*(55 - 2*k)+15 then .ptr (10+4*(i - 15*(55 - 2*k))) 0 else if 15*(54 - 2*k)≤i∧i<15*(54 - 2*k)+15 then .ptr (70+4*(i - 15*(54 - 2*k))) 0 else .any
def memB (k:Nat):List (Nat × List A0):=(0,byteRow k) :: (1,ptCells 1) :: (2,limbs 0) :: (3,limbs 1) :: (4,limbs 2) :: (5,ptCells 5) :: (6,limbs 3) :: (7,limbs 4) :: (8,limbs 5) :: (9,tabRows k) :: pts30 10 7 30
def tmB (k:Nat):List (Nat × AV):=[(0,.one (.ptr 1 0)),(6,.one (.ptr 9 0)),(7,.one (.ptr 5 0)),(8,.one (.lit (.int .i64 ((55:Int) - 2*((k:Nat):Int))))),(22,.one (.sl 0 0 28)),(23,.one (.lit (.int .i64 28))),(24,.one (.lit (.int .i64 ((k:Nat):Int))))]
def L1:Lay:=⟨7,8,9,10,0⟩
def L2:Lay:=⟨52,53,54,55,0⟩
def exB:List Ex:=half L2 105 102 103 104 (.and (.v 6) (.c 15)) (half L1 97 0 1 2 (.shr 4 (.v 6)) [])
def outB (e:Nat × Nat × A0):Bool:=wrB e.1
def RoundRun (k:Nat):Prop:=peekT (tabX true pointPrims xb6) fixB 3000 bK (headSt (tmB k) (memB k) 97 130) outB [0,6,7,8,22,23,24] [1,2,3,4,5,6,7,8] =
 some ⟨.normal,113,exB,[some (.one (.ptr 1 0)),some (.one (.ptr 9 0)),some (.one (.ptr 5 0)),some (.one (.lit (.int .i64 ((55:Int) - 2*((k+1:Nat):Int))))),some (.one (.sl 0 0 28)),some (.one (.lit (.int .i64 28))),some (.one (.lit (.int .i64 ((k+1:Nat):Int))))],
  [some (ptCells 1),some (limbs 110),some (limbs 111),some (limbs 112),some (ptCells 5),some (limbs 107),some (limbs 108),some (limbs 109)]⟩
end P224
/- ScalarBaseMult: the runs of its rounds. PRINTED BY A PROGRAM OF MY OWN (gen/mkrounds51.py). -/
namespace P224
open Go Go.RowKit Go.Proofs
set_option maxRecDepth 100000
set_option linter.unusedVariables false
theorem rrun0:RoundRun 0:=by unfold RoundRun; kernel_rfl
theorem rrun1:RoundRun 1:=by unfold RoundRun; kernel_rfl
theorem rrun2:RoundRun 2:=by unfold RoundRun; kernel_rfl
theorem rrun3:RoundRun 3:=by unfold RoundRun; kernel_rfl
theorem rrun4:RoundRun 4:=by unfold RoundRun; kernel_rfl
theorem rrun5:RoundRun 5:=by unfold RoundRun; kernel_rfl
theorem rrun6:RoundRun 6:=by unfold RoundRun; kernel_rfl
theorem rrun7:RoundRun 7:=by unfold RoundRun; kernel_rfl
theorem rrun8:RoundRun 8:=by unfold RoundRun; kernel_rfl
theorem rrun9:RoundRun 9:=by unfold RoundRun; kernel_rfl
theorem rrun10:RoundRun 10:=by unfold RoundRun; kernel_rfl
theorem rrun11:RoundRun 11:=by unfold RoundRun; kernel_rfl
theorem rrun12:RoundRun 12:=by unfold RoundRun; kernel_rfl
theorem rrun13:RoundRun 13:=by unfold RoundRun; kernel_rfl
theorem rrun14:RoundRun 14:=by unfold RoundRun; kernel_rfl
theorem rrun15:RoundRun 15:=by unfold RoundRun; kernel_rfl
theorem rrun16:RoundRun 16:=by unfold RoundRun; kernel_rfl
theorem rrun17:RoundRun 17:=by unfold RoundRun; kernel_rfl
theorem rrun18:RoundRun 18:=by unfold RoundRun; kernel_rfl
theorem rrun19:RoundRun 19:=by unfold RoundRun; kernel_rfl
theorem rrun20:RoundRun 20:=by unfold RoundRun; kernel_rfl
theorem rrun21:RoundRun 21:=by unfold RoundRun; kernel_rfl
theorem rrun22:RoundRun 22:=by unfold RoundRun; kernel_rfl
theorem rrun23:RoundRun 23:=by unfold RoundRun; kernel_rfl
theorem rrun24:RoundRun 24:=by unfold RoundRun; kernel_rfl
theorem rrun25:RoundRun 25:=by unfold RoundRun; kernel_rfl
theorem rrun26:RoundRun 26:=by unfold RoundRun; kernel_rfl
theorem rrun27:RoundRun 27:=by unfold RoundRun; kernel_rfl
theorem roundRuns:∀ k,k<28→RoundRun k
 | 0,_=>rrun0
 | 1,_=>rrun1
 | 2,_=>rrun2
 | 3,_=>rrun3
 | 4,_=>rrun4
 | 5,_=>rrun5
 | 6,_=>rrun6
 | 7,_=>rrun7
 | 8,_=>rrun8
 | 9,_=>rrun9
 | 10,_=>rrun10
 | 11,_=>rrun11
 | 12,_=>rrun12
 | 13,_=>rrun13
 | 14,_=>rrun14
 | 15,_=>rrun15
 | 16,_=>rrun16
 | 17,_=>rrun17
 | 18,_=>rrun18
 | 19,_=>rrun19
 | 20,_=>rrun20
 | 21,_=>rrun21
 | 22,_=>rrun22
 | 23,_=>rrun23
 | 24,_=>rrun24
 | 25,_=>rrun25
 | 26,_=>rrun26
 | 27,_=>rrun27
 | k+28,h=>absurd h (by omega)
end P224
