/- The generator's table: one row of it. -/
import Derived.Test.YtccmmkgiamcgeaaGV6
import Derived.Test.YtccmmkgiamcgeaaGZ0
set_option linter.all false
namespace P224
open Go Go.RowKit Go.Proofs
set_option maxRecDepth 100000
set_option linter.unusedVariables false
noncomputable def c79:Code:=Try.f79.body.getD .skip
noncomputable def g0:Code:=sL c79
noncomputable def g1:Code:=sL (sR c79)
noncomputable def g2:Code:=sL (sR (sR c79))
noncomputable def g3:Code:=sL (sL (sR (sR (sR c79))))
noncomputable def gO:Code:=lI (bI (sR (sL (sR (sR (sR c79))))))
noncomputable def gZ:Code:=sR (sR (sR (sR c79)))
theorem shape79:c79=.seq g0 (.seq g1 (.seq g2 (.seq (.seq g3 (.block 0 (.loop gO))) gZ))):=by kernel_rfl
def wrT (r:Nat):Bool:=decide (r=0) || (decide (2≤r) && decide (r≤4))
def fixT:Fix:={ nt:=56,nold:=5,wr:=wrT,sep:=fun a b=>(wrT a || wrT b) && decide (a≠b),dec:=fun _=>none }
def anyRow (n:Nat):List A0:=List.replicate n .any
def memT:List (Nat × List A0):=[(0,anyRow 840),(1,ptCells 1),(2,limbs 0),(3,limbs 1),(4,limbs 2)]
def tmT (i:Nat):List (Nat × AV):=[(3,.one (.ptr 0 0)),(4,.one (.ptr 1 0)),(5,.one (.lit (.int .i64 i)))]
def tn (j:Nat):Nat:=if j=0 then 0 else 4+7*j
def rowE:Nat→List Ex
 | 0=>newE []
 | j+1=>addE (tn j) (tn j+1) (tn j+2) 0 1 2 ++ newE (rowE j)
where newE (l:List Ex):List Ex:=.fcst 0 :: .fcst 1 :: .fcst 0 :: .fcst 0 :: l
def exT:List Ex:=dbl4 105 0 (rowE 14)
def rowT (i r:Nat):List A0 :=
 if r=0 then (List.range 840).map (fun k=>if 15*i≤k∧k<15*i+15 then .ptr (8+4*(k - 15*i)) 0 else .any)
 else if r=1 then ptCells 1 else if r<5 then limbs (112+r) else if (r - 5) % 4=3 then [.ptr (r - 3) 0,.ptr (r - 2) 0,.ptr (r - 1) 0] else limbs (tn ((r - 5) / 4)+(r - 5) % 4)
def outT (i:Nat) (e:Nat × Nat × A0):Bool:=(decide (e.1=0) && decide (15*i≤e.2.1) && decide (e.2.1<15*i+15)) || (decide (2≤e.1) && decide (e.1≤4))
def peekT (T:Tab) (F:Fix) (f:Nat) (c:Code) (st:St) (chk:Nat × Nat × A0→Bool) (ts rs:List Nat):Option Pk :=
 match run T F f c st with
 | some (o,st')=>bif st'.out.all chk then some ⟨o,st'.nx,st'.exs,ts.map st'.tm.get,rs.map fun r=>lookup r st'.mem⟩ else none
 | none=>none
theorem peekT_spec {T:Tab} {F:Fix} {f:Nat} {c:Code} {st:St} {chk:Nat × Nat × A0→Bool} {ts rs:List Nat} {p:Pk} (h:peekT T F f c st chk ts rs=some p) :
  ∃ st',run T F f c st=some (p.o,st')∧st'.out.all chk=true∧st'.nx=p.nx∧st'.exs=p.exs∧ts.map st'.tm.get=p.tms∧(rs.map fun r=>lookup r st'.mem)=p.mems:=by
 unfold peekT at h
 split at h
 ·rename_i o st' hr
  obtain ⟨h1,h⟩:=bif_some h
  cases h
  exact ⟨st',hr,h1,rfl,rfl,rfl,rfl⟩
 ·cases h
def RowRun (i:Nat):Prop:=peekT (tabX true pointPrims xi5) fixT 3000 gO (headSt (tmT i) memT 3 5) (outT i) [3,4,5] (List.range 65)=some ⟨.normal,117,exT,[some (.one (.ptr 0 0)),some (.one (.ptr 1 0)),some (.one (.lit (.int .i64 ((i+1:Nat):Int))))],(List.range 65).map fun r=>some (rowT i r)⟩
end P224
