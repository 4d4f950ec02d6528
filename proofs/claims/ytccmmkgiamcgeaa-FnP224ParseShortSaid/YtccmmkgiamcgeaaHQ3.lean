/- The reference's Sum, as a call that the executor knows. -/
import Derived.Test.YtccmmkgiamcgeaaHQ1
import Derived.Test.YtccmmkgiamcgeaaHT9
import Derived.Test.YtccmmkgiamcgeaaHL5
set_option linter.all false
namespace P224
open Go Go.RowKit Go.Proofs
set_option maxRecDepth 100000
set_option linter.unusedVariables false
section
variable {s:Nums} {β:Places} {F:Fix} {w0:World} {st:St} {a:Act} {w:World}
end
end P224
/- The laws' table, with Sum and the package's Add by contract. -/
namespace P224
open Go Go.RowKit Go.Proofs
set_option maxRecDepth 100000
set_option linter.unusedVariables false
end P224
/- Laws with two slices of bytes, where one is no point or too long. -/
namespace P224
open Go Go.RowKit Go.Proofs
set_option maxRecDepth 100000
set_option linter.unusedVariables false
end P224
/- The package's Double of a point by its bytes, into a new one and into itself. PRINTED BY A PROGRAM OF MY OWN (gen/mk30.py). -/
namespace P224
open Go Go.RowKit Go.Proofs
set_option maxRecDepth 100000
set_option linter.unusedVariables false
end P224
/- The laws' table, with the package's Add and Double and the reference's Sum by contract. -/
namespace P224
open Go Go.RowKit Go.Proofs
set_option maxRecDepth 100000
set_option linter.unusedVariables false
end P224
/- Small facts on sums of points, as numbers. -/
namespace P224
open Go Go.RowKit Go.Proofs
set_option maxRecDepth 100000
set_option linter.unusedVariables false
end P224
/- More operations: equality of bools. -/
namespace P224
open Go Go.RowKit Go.Proofs
set_option maxRecDepth 100000
set_option linter.unusedVariables false
theorem guard_bool {P:Program} (op:BinOp) (t:TypeId) (ox oy:Operand) (a b:Bool) (w:World):(eqGuard op t ox oy (.bool a) (.bool b)).run P w=.ok () w:=by
 cases op <;> rfl
theorem bool_eql_run {P:Program} {t:TypeId} (hu:P.underlying t=some .bool) (a b:Bool) (w:World):(binOp .eql t (.bool a) (.bool b)).run P w=.ok (.bool (a == b)) w:=by
 have h:∀ d:Nat,(Op.equalIn (d+1) t (.bool a) (.bool b)).run P w=.ok (a == b) w:=fun d=>by
  simp [Op.equalIn,run_underlying hu]
 simp only [binOp]
 simp [Op.equal,Op.maxDepth,h 9999]
def qBool:Qx:=fun F _ st op=>match op with
 | .binOp .eql t x y _=>bif t == 4 then (match st.ev x,st.ev y with
  | .one (.lit (.bool a)),.one (.lit (.bool b))=>some (.one (.lit (.bool (a == b))),[])
  | .one (.bl i),.one (.lit (.bool b))=>match F.dec i with
   | some a=>some (.one (.lit (.bool (a == b))),[])
   | none=>none
  | .one (.lit (.bool b)),.one (.bl i)=>match F.dec i with
   | some a=>some (.one (.lit (.bool (b == a))),[])
   | none=>none
  | .one (.bl i),.one (.bl j)=>match F.dec i,F.dec j with
   | some a,some b=>some (.one (.lit (.bool (a == b))),[])
   | _,_=>none
  | _,_=>none) else none
 | _=>none
theorem bl_dec {s:Nums} {β:Places} {n:Nat} {F:Fix} {i:Nat} {b:Bool} {v:Value} (hd:Dec F s) (h:F.dec i=some b) (hr:(A0.bl i).rep s β n v):v=.bool b:=by
 obtain ⟨h1,_⟩:=hr
 rw [h1,hd i b h]
 cases b <;> rfl
theorem qBool_ok:QextOk Try.prog qBool:=by
 intro s β F L st a o av l m hd h ht hH w0 hw0
 unfold qBool at h
 split at h
 ·rename_i t x y t' ho
  obtain ⟨h4,h⟩:=bif_some h
  have h4:=beq_iff_eq.1 h4
  subst h4
  have hx:=ev_rep ht x
  have hy:=ev_rep ht y
  have main:∀ p q:Bool,a.eval x=.bool p→a.eval y=.bool q→∃ u,(AV.one (.lit (.bool (p == q)))).rep s β st.nr u∧∀ w,Reads s β st.nr L st.mem w→(execOp a.eval o).run Try.prog w=.ok (.value u) w:=fun p q hp hq=>by
   refine ⟨_,rfl,fun w _=>?_⟩
   simp only [execOp,ho,hp,hq,Sem.run_bind,guard_bool,Result.andThen,bool_eql_run Try.underlying4,Sem.run_pure]
  split at h
  ·rename_i p q h1 h2
   cases h
   rw [h1] at hx
   rw [h2] at hy
   exact main p q hx hy
  ·rename_i i q h1 h2
   rw [h1] at hx
   rw [h2] at hy
   split at h
   ·rename_i p hp
    cases h
    exact main p q (bl_dec (β:=β) (n:=st.nr) hd hp hx) hy
   ·cases h
  ·rename_i p j h1 h2
   rw [h1] at hx
   rw [h2] at hy
   split at h
   ·rename_i q hq
    cases h
    exact main p q hx (bl_dec (β:=β) (n:=st.nr) hd hq hy)
   ·cases h
  ·rename_i i j h1 h2
   rw [h1] at hx
   rw [h2] at hy
   split at h
   ·rename_i p q hp hq
    cases h
    exact main p q (bl_dec (β:=β) (n:=st.nr) hd hp hx) (bl_dec (β:=β) (n:=st.nr) hd hq hy)
   ·cases h
  ·cases h
 ·cases h
def remL (i n:Nat):List Ex:=[.feq (.v n) (.c 1),.feq (.v n) (.c 0),.op 28 [.v i,.c 3]]
def qRem:Qx:=fun F _ st op=>match op with
 | .binOp .rem t x (.const (.int .u8 3)) _=>match st.ev x with
  | .one (.num .u8 i)=>match F.dec (st.nx+1),F.dec (st.nx+2) with
   | some true,_=>some (.one (.lit (.int .u8 0)),remL i st.nx)
   | some false,some true=>some (.one (.lit (.int .u8 1)),remL i st.nx)
   | some false,some false=>some (.one (.lit (.int .u8 2)),remL i st.nx)
   | _,_=>none
  | _=>none
 | _=>none
theorem rem_run {P:Program} (t:TypeId) (n r:Nat) (h:n % 3=r) (w:World):(binOp .rem t (.int .u8 (n:Int)) (.int .u8 3)).run P w=.ok (.int .u8 (r:Int)) w:=by
 have h1:=litBin_run (P:=P) (op:=.rem) (k:=.u8) (a:=(n:Int)) (b:=3) (v:=.int .u8 ((n:Int).tmod 3)) rfl t w
 have h2:(n:Int).tmod 3=(r:Int):=by
  rw [Int.tmod_eq_emod_of_nonneg (by omega)]
  omega
 rw [h1,h2]
theorem qRem_ok {P:Program}:QextOk P qRem:=by
 intro s β F L st a o av l m hd h ht hH w0 hw0
 unfold qRem at h
 split at h
 ·rename_i t x t' ho
  split at h
  ·rename_i i hx
   have hr:=ev_rep ht x
   rw [hx] at hr
   obtain ⟨hv,_⟩:=hr
   have fin:∀ r:Nat,av=.one (.lit (.int .u8 (r:Int)))→s i % 3=r→∃ u,av.rep s β st.nr u∧∀ w,Reads s β st.nr L st.mem w→(execOp a.eval o).run P w=.ok (.value u) w:=fun r e hmod=>by
    subst e
    refine ⟨_,rfl,fun w _=>?_⟩
    have hc:a.eval (.const (.int .u8 3))=.int .u8 3:=rfl
    simp only [execOp,ho,hv,hc,Sem.run_bind,guard_int,Result.andThen,rem_run t _ _ hmod,Sem.run_pure]
   have facts:∀ l',l'=remL i st.nx→Holds s (st.nx+l'.length) (l' ++ m)→s (st.nx+2)=(if s st.nx=1 then 1 else 0)∧s (st.nx+1)=(if s st.nx=0 then 1 else 0)∧s st.nx=s i % 3:=fun l' e hh=>by
    subst e
    exact ⟨hh.1,hh.2.1,hh.2.2.1⟩
   split at h
   ·rename_i h1
    cases h
    obtain ⟨e2,e1,e0⟩:=facts _ rfl hH
    have d1:=hd _ _ h1
    refine fin 0 rfl ?_
    rw [← e0]
    rw [d1] at e1
    by_cases hz:s st.nx=0
    ·exact hz
    ·rw [if_neg hz] at e1; cases e1
   ·rename_i h1 h2
    cases h
    obtain ⟨e2,e1,e0⟩:=facts _ rfl hH
    have d2:=hd _ _ h2
    refine fin 1 rfl ?_
    rw [← e0]
    rw [d2] at e2
    by_cases hz:s st.nx=1
    ·exact hz
    ·rw [if_neg hz] at e2; cases e2
   ·rename_i h1 h2
    cases h
    obtain ⟨e2,e1,e0⟩:=facts _ rfl hH
    have d1:=hd _ _ h1
    have d2:=hd _ _ h2
    refine fin 2 rfl ?_
    rw [d1] at e1
    rw [d2] at e2
    have n0:s st.nx≠0:=fun hz=>by rw [if_pos hz] at e1; cases e1
    have n1:s st.nx≠1:=fun hz=>by rw [if_pos hz] at e2; cases e2
    omega
   ·cases h
  ·cases h
 ·cases h
def tabQ (xs:List (Nat × X)):Tab:={ tabZ xs with qext:=Qx.or qRem (Qx.or qBool (tabZ xs).qext) }
theorem tabQ_ok {xs:List (Nat × X)} (hx:∀ f g,(f,g) ∈ xs→XOk Try.prog f g):(tabQ xs).Ok Try.prog :=
 let h:=tabZ_ok hx
 {
  mixed:=h.mixed,arr:=h.arr,fld:=h.fld,var:=h.var,zero:=h.zero,bld:=h.bld,slc:=h.slc,mks:=h.mks,kind:=h.kind,elem:=h.elem,prim:=h.prim,lext:=h.lext
  qext:=QextOk.or qRem_ok (QextOk.or qBool_ok h.qext) }
end P224
