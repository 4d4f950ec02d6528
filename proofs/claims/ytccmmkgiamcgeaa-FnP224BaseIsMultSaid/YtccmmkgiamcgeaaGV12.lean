/- The package's ScalarMult of bytes: its runs. -/
import Derived.Test.YtccmmkgiamcgeaaGV6
import Derived.Test.YtccmmkgiamcgeaaGP7
set_option linter.all false
namespace P224
open Go Go.RowKit Go.Proofs
set_option maxRecDepth 100000
set_option linter.unusedVariables false
def decM (tb:Nat) (l:List (Nat × Bool)) (i:Nat):Option Bool :=
 bif decide (tb+51≤i) && decide (i<tb+1158) && decide ((i - (tb+51)) % 20=0) then some true else findT i l
theorem decM_ok {s:Nums} {tb:Nat} {l:List (Nat × Bool)} {i:Nat} {b:Bool} (h:decM tb l i=some b) (h1:∀ k,k≤55→s (tb+51+20*k)=1) (h2:∀ j c,(j,c) ∈ l→s j=c.toNat):s i=b.toNat:=by
 unfold decM at h
 rw [cond_eq_ite] at h
 split at h
 ·rename_i hc
  cases h
  simp only [Bool.and_eq_true,decide_eq_true_eq] at hc
  obtain ⟨⟨a,c⟩,d⟩:=hc
  have:=h1 ((i - (tb+51)) / 20) (by omega)
  rwa [show tb+51+20*((i - (tb+51)) / 20)=i by omega] at this
 ·exact h2 _ _ (findT_mem h)
def fixM (nt n tb:Nat) (l:List (Nat × Bool)):Fix:={ nt:=nt,nold:=n,wr:=fun _=>false,sep:=fun _ _=>false,dec:=decM tb l }
def newsE:Nat→List Ex→List Ex
 | 0,l=>l
 | n+1,l=>.fcst 0 :: .fcst 1 :: .fcst 0 :: .fcst 0 :: newsE n l
def farT (e:Nat):List Ex:=[.feq (.v e) (.c 1),.feq (.v (e - 1)) (.c 0)]
def onT (e:Nat):List Ex:=[.fmul (.v (e - 2)) (.v (e+3)),.fcst 0,.fmul (.v (e - 3)) (.v (e+3)),.fcst 0,.finv (.v (e - 1)),.fcst 0,.feq (.v e) (.c 1),.feq (.v (e - 1)) (.c 0)]
def layA:Lay:=⟨0,1,31,96,2⟩
def layF:Lay:=⟨32,34,35,100,0⟩
noncomputable def xm75:List (Nat × X):=with1 ((80,x80) :: xm4) pointPrims 2000 75 Try.f75
theorem xm75_ok:XsOk xm75:=with1_ok pointPrims_ok (xcons_ok x80_ok xm4_ok) Try.func75 (by kernel_rfl)
def exA:List Ex:=hsE layA (newsE 2 (fifE layA (newsE 16 [.fcst 1,.op 20 [.v 0,.v 1]]) 7)) 55
def exF:List Ex:=hsE layF (newsE 2 (fifE layF (newsE 18 []) 7)) 55
def stA:St:=startSt [.one (.sl 0 0 57),.one (.sl 1 0 28)] [(0,ptRow 0 1),(1,numsFrom .u8 2 28)] 30 2
def stF:St:=startSt [.one (.sl 0 0 1),.one (.sl 1 0 28)] [(0,[.lit (.int .u8 0)]),(1,numsFrom .u8 0 28)] 28 2
def fix45A (b:Bool):Fix:=fixM 32 2 96 [(30,true),(1254,b),(1255,b)]
def fix45F:Fix:=fixM 32 2 100 [(1258,true),(1259,true)]
def br45A:BriefR:=⟨.ret,1262,onT 1254 ++ exA,[],[.one (.slc 81 0 57 57),.one (.lit (.bool true)),.one (.lit (.bool true))],[some (ptRow 1259 1261)]⟩
def br45B:BriefR:=⟨.ret,1256,farT 1254 ++ exA,[],[.one (.slc 81 0 1 57),.one (.lit (.bool true)),.one (.lit (.bool true))],[some farRow]⟩
def br45F:BriefR:=⟨.ret,1260,farT 1258 ++ exF,[],[.one (.slc 87 0 1 57),.one (.lit (.bool true)),.one (.lit (.bool true))],[some farRow]⟩
theorem run45A:briefR (tabX true pointPrims xm75) Try.f45 [81] (runF (tabX true pointPrims xm75) (fix45A false) 3000 Try.f45 stA)=some br45A:=by kernel_rfl
theorem run45B:briefR (tabX true pointPrims xm75) Try.f45 [81] (runF (tabX true pointPrims xm75) (fix45A true) 3000 Try.f45 stA)=some br45B:=by kernel_rfl
theorem run45F:briefR (tabX true pointPrims xm75) Try.f45 [87] (runF (tabX true pointPrims xm75) fix45F 3000 Try.f45 stF)=some br45F:=by kernel_rfl
end P224
