/- The reference's functions of points, in place. -/
import Derived.Test.YtccmmkgiamcgeaaGS11
import Derived.Test.YtccmmkgiamcgeaaGS8
import Derived.Test.YtccmmkgiamcgeaaGH1
import Derived.Laws.BytesString
import Derived.Tactics
import Derived.Tactics2
import Derived.Laws.BytesArg
import Derived.Laws.Slices
set_option linter.all false
namespace P224
open Go Go.RowKit Go.Proofs
set_option maxRecDepth 100000
set_option linter.unusedVariables false
def x60:X:=fun F st args=>match args with
 | [cv,.one (.lit (.string b))]=>match isCurve st cv,hexOf b with
  | some _,some N=>some (.one (.slc st.nr 0 7 7),{ st with mem:=(st.nr,l32s st.nx) :: st.mem,nr:=st.nr+1,nx:=st.nx+1,exs:=.fcst N :: st.exs })
  | _,_=>none
 | _=>none
theorem x60_ok:XOk Try.prog 60 x60:=by
 refine ⟨fun {F st st' args av} h=>?_,fun {s β F w0 st st' a w args vs av} hr h hargs hH=>?_⟩
 ·unfold x60 at h
  split at h
  ·split at h
   ·cases h; exact ⟨⟨[_],rfl,rfl⟩,Nat.le_succ _⟩
   ·cases h
  ·cases h
 ·unfold x60 at h
  split at h
  ·rename_i cv b
   split at h
   ·rename_i q N hcv hN
    cases h
    obtain ⟨u0,u,rfl,hu0,hu⟩:=avs2 hargs
    obtain ⟨rf,of⟩:=q
    obtain ⟨c0,c1,c2⟩:=isCurve_rep hr hcv hu0
    have hu':u=.string b:=hu
    obtain ⟨k1,k2⟩:=hexOf_ok hN
    have hme:=meets60 k1 k2 w (β rf).1 ((β rf).2+of) c1
    intro o' a' next Q hn
    rw [c0,hu']
    exact hme o' a' next Q fun v' w' hnew=>hn _ _ (after_newEl hr hnew hH.1 (Nat.mod_eq_of_lt k2))
   ·cases h
  ·cases h
noncomputable def xq0:List (Nat × X):=(59,x59) :: (70,x70) :: (71,x71) :: (57,x57) :: (58,x58) :: (60,x60) :: (63,x63) :: (64,x64) :: (41,x41) :: with1 (with1 [] [] 2000 54 Try.f54) [] 2000 65 Try.f65
noncomputable def xq1:List (Nat × X):=with1 (with1 (with1 (with1 (with1 (with1 (with1 xq0 [] 2000 20 Try.f20) [] 2000 87 Try.f87) [] 2000 42 Try.f42) [] 2000 25 Try.f25) [] 2000 67 Try.f67) [] 2000 68 Try.f68) [] 2000 36 Try.f36
noncomputable def xq2:List (Nat × X):=with1 xq1 [] 2000 32 Try.f32
theorem xq0_ok:XsOk xq0:=xcons_ok x59_ok (xcons_ok x70_ok (xcons_ok x71_ok (xcons_ok x57_ok (xcons_ok x58_ok (xcons_ok x60_ok (xcons_ok x63_ok (xcons_ok x64_ok (xcons_ok x41_ok
 (with1_ok noPrims_ok (with1_ok noPrims_ok xnil_ok Try.func54 (by kernel_rfl)) Try.func65 (by kernel_rfl))))))))))
theorem xq1_ok:XsOk xq1:=with1_ok noPrims_ok (with1_ok noPrims_ok (with1_ok noPrims_ok (with1_ok noPrims_ok (with1_ok noPrims_ok (with1_ok noPrims_ok (with1_ok noPrims_ok xq0_ok Try.func20 (by kernel_rfl)) Try.func87 (by kernel_rfl)) Try.func42 (by kernel_rfl)) Try.func25 (by kernel_rfl)) Try.func67 (by kernel_rfl)) Try.func68 (by kernel_rfl)) Try.func36 (by kernel_rfl)
theorem xq2_ok:XsOk xq2:=with1_ok noPrims_ok xq1_ok Try.func32 (by kernel_rfl)
end P224
/- More operations of the executor: empty slices that are built, appends that grow; slices.Clone; the comparison of bytes. -/
namespace P224
open Go Go.RowKit Go.Proofs
set_option maxRecDepth 100000
set_option linter.unusedVariables false
def free0:A0→Bool
 | .lit _ | .num _ _ | .bit _ _ | .limb _ _ | .l32 _ _ | .bl _ | .dig _ _ | .byt _ _ | .sg _=>true
 | _=>false
theorem free0_rep {s:Nums} {β β':Places} {n n':Nat} {a:A0} {v:Value} (h:free0 a=true) (hr:a.rep s β n v):a.rep s β' n' v:=by
 cases a <;> first | exact hr | (cases h; done)
def lApp:Lx:=fun F st op=>match op with
 | .buildSlice t n parts=>bif t == 27 && n == 0 && parts.toList.isEmpty then some (.one (.slc st.nr 0 0 0),{ st with mem:=(st.nr,[]) :: st.mem,nr:=st.nr+1 }) else none
 | .call c=>match c.callee,c.args.toList,c.argTypes.toList with
  | .builtin .append,[x,y],[t,t']=>match st.ev x,st.ev y with
   | .one (.slc r o n cap),.one b=>match b.asSl with
    | some (r2,o2,m)=>bif t == 27 && t' == 27 && decide (cap<n+m) && decide (n+m<1000000) then
      (match cellsAt st.mem r o n,cellsAt st.mem r2 o2 m with
      | some l1,some l2=>bif (l1 ++ l2).all (fun x=>definite x && free0 x) then some (.one (.sl st.nr 0 (n+m)),{ st with mem:=(st.nr,l1 ++ l2) :: st.mem,nr:=st.nr+1 }) else none
      | _,_=>none) else none
    | none=>none
   | _,_=>none
  | _,_,_=>none
 | _=>none
theorem byte_info:∃ i,Try.prog.info? 5=some i∧i.size=1∧i.bytes=1∧i.zero=some (.int .u8 0):=by
 have h:(Try.prog.info? 5).map (fun i=>(i.size,i.bytes,i.zero))=some (1,1,some (.int .u8 0)):=by kernel_rfl
 cases hi:Try.prog.info? 5 with
 | none=>rw [hi] at h; cases h
 | some i =>
  rw [hi] at h
  simp only [Option.map_some,Option.some.injEq,Prod.mk.injEq] at h
  exact ⟨i,rfl,h.1,h.2.1,h.2.2⟩
theorem lApp_ok:LextOk Try.prog lApp:=by
 refine ⟨fun {F st st' op av} hq=>?_,fun {s β F w0 st st' a w o av} hr hq hH=>?_⟩
 ·unfold lApp at hq
  split at hq
  ·obtain ⟨_,h2⟩:=bif_some hq
   cases h2
   exact ⟨⟨[],rfl,rfl⟩,Nat.le_succ _⟩
  ·split at hq
   ·split at hq
    ·split at hq
     ·obtain ⟨_,h2⟩:=bif_some hq
      split at h2
      ·obtain ⟨_,h2⟩:=bif_some h2
       cases h2
       exact ⟨⟨[],rfl,rfl⟩,Nat.le_succ _⟩
      ·cases h2
     ·cases hq
    ·cases hq
   ·cases hq
  ·cases hq
 ·intro next Q hn
  obtain ⟨ib,hi,hi1,hi2,hi3⟩:=byte_info
  unfold lApp at hq
  split at hq
  ·rename_i t n parts ho
   obtain ⟨hd,h2⟩:=bif_some hq
   simp only [Bool.and_eq_true,beq_iff_eq] at hd
   obtain ⟨⟨rfl,rfl⟩,hp⟩:=hd
   cases h2
   have hp':parts=#[]:=by
    rw [← Array.toList_inj]
    exact List.isEmpty_iff.1 hp
   subst hp'
   have hrun:(Instr.buildSlice 27 0 #[]).run Try.prog w=.ok (.slice (some ⟨w.heap.size,0,none⟩) 0 0) (w.alloc (.cells #[] 5)):=by
    simp [Instr.buildSlice,run_underlying Try.underlying27,Go.sizeOf,typeInfo,hi,Instr.fill,newRow]
    rw [show Array.range 0=#[] from by apply Array.ext'; simp,Array.map_empty]
   have hrun':(execOp a.eval o).run Try.prog w=.ok (.value (.slice (some ⟨w.heap.size,0,none⟩) 0 0)) (w.alloc (.cells #[] 5)):=by
    simp only [execOp,ho,Sem.run_bind,List.map_toArray,List.map_nil,hrun,Result.andThen,Sem.run_pure]
   refine upon_value_ok hrun' (hn _ _ ?_)
   obtain ⟨β',hag,hnew,hrel⟩:=hr.made 5 (cells:=[]) (l:=[]) rfl (fun j x v hx=>by cases hx) st.nx st.exs
   refine ⟨β',hag,⟨?_,Nat.lt_succ_self _⟩,hrel⟩
   rw [at_,hnew]
  ·rename_i c ho
   split at hq
   ·rename_i x y t t' hcal hargs htys
    have hargs':c.args=#[x,y]:=by rw [← Array.toList_inj]; exact hargs
    have htys':c.argTypes=#[t,t']:=by rw [← Array.toList_inj]; exact htys
    split at hq
    ·rename_i r d n cap b hx hy
     split at hq
     ·rename_i r2 o2 m hsl
      obtain ⟨hd,h2⟩:=bif_some hq
      simp only [Bool.and_eq_true,beq_iff_eq,decide_eq_true_eq] at hd
      obtain ⟨⟨⟨rfl,rfl⟩,hg⟩,hsm⟩:=hd
      split at h2
      ·rename_i l1 l2 hl1 hl2
       obtain ⟨hdef,h2⟩:=bif_some h2
       cases h2
       rw [List.all_eq_true] at hdef
       have hdd:∀ x ∈ l1 ++ l2,definite x=true∧free0 x=true:=fun x hx=>by
        have:=hdef x hx
        rwa [Bool.and_eq_true] at this
       have hxv:=ev_rep hr.tm x
       rw [hx] at hxv
       have hyv:=ev_rep hr.tm y
       rw [hy] at hyv
       obtain ⟨⟨c2,hv2,_⟩,_⟩:=asSl_rep hsl hyv
       have hxv':a.eval x=.slice (some (at_ β r d)) n cap:=hxv.1
       obtain ⟨q1,q2,q3,q4⟩:=cells_vals hr hl1 (fun x hx=>(hdd x (List.mem_append_left _ hx)).1)
       obtain ⟨u1,u2,u3,u4⟩:=cells_vals hr hl2 (fun x hx=>(hdd x (List.mem_append_right _ hx)).1)
       obtain ⟨v',w',hrun,hown,hgr⟩:=run_append_arg_grows (P:=Try.prog) (w:=w) 27 o.type 5 ib (.int .u8 0) 1 1 Try.underlying27 hi hi3 hi1 hi2 rfl (by decide)
        (at_ β r d) n cap (l1.map (A0.conc s β)) (by rw [List.length_map,q1,Nat.mul_one]) q2 (at_ β r2 o2) m c2 (l2.map (A0.conc s β)) (by rw [List.length_map,u1,Nat.mul_one]) u2 hg (by simp only [maxLen]; omega) (by omega)
       have hrun':(execOp a.eval o).run Try.prog w=.ok (.value v') w':=by
        simp only [execOp,ho,resolve,hcal,hargs',htys',Sem.run_bind,Sem.run_pure,Result.andThen,invoke,builtin,List.map_toArray,List.map_cons,List.map_nil,hxv',hv2,hrun]
       refine upon_value_ok hrun' (hn _ _ ?_)
       obtain ⟨hlen,hown⟩:=hown
       rcases hown with ⟨_,h0⟩|⟨g,cp,cur,rfl,hb,hcur,hle,_,hsz,htake⟩
       ·omega
       ·have hlt:g<w'.heap.size:=by
         by_cases h:g<w'.heap.size
         ·exact h
         ·rw [Array.getElem?_eq_none (by omega)] at hcur
          cases hcur
        have hbe:Below w.heap.size w w':=⟨hgr.os,hgr.tape,hgr.output,hgr.size,fun k hk=>hgr.block k hk (fun e=>by cases e)⟩
        have hget:∀ (j:Nat) y,(l1 ++ l2)[j]?=some y→w'.cell? ⟨g,j,none⟩=some (y.conc s β):=fun j y hy=>by
         have h1:((l1 ++ l2).map (A0.conc s β))[j]?=some (y.conc s β):=by rw [List.getElem?_map,hy]; rfl
         rw [List.map_append,← htake] at h1
         have h2:cur.toList[j]?=some (y.conc s β):=by
          have hj:j<(n+m)*1:=by
           have:=(List.getElem?_eq_some_iff.1 h1).1
           rw [List.length_take] at this
           omega
          rwa [List.getElem?_take_of_lt hj] at h1
         simp only [World.cell?,hcur]
         simpa using h2
        obtain ⟨β',hag,hnew,hrel⟩:=hr.came hb hlt hbe (l:=l1 ++ l2) (fun j y hy=>by
         refine ⟨y.conc s β,hget j y hy,fun β' n'=>?_⟩
         have hm:=List.mem_of_getElem? hy
         refine free0_rep (hdd y hm).2 (β:=β) (n:=st.nr) ?_
         rcases List.mem_append.1 hm with h | h
         ·exact q3 y h
         ·exact u3 y h) (fun j hj=>by
         simp only [World.frozen?,hcur]
         simp) st.nx st.exs
        refine ⟨β',hag,⟨cp,hle,?_,Nat.lt_succ_self _⟩,hrel⟩
        rw [at_,hnew]
      ·cases h2
     ·cases hq
    ·cases hq
   ·cases hq
  ·cases hq
def tabA (prims:List (Nat × Prim)) (xs:List (Nat × X)):Tab:={ tabX true prims xs with lext:=Lx.or lApp (Lx.or (lCalls xs) (lBld bldT)) }
theorem tabA_ok {prims:List (Nat × Prim)} {xs:List (Nat × X)} (hp:∀ f p,(f,p) ∈ prims→PrimOk Try.prog f p) (hx:∀ f g,(f,g) ∈ xs→XOk Try.prog f g):(tabA prims xs).Ok Try.prog :=
 let h:=tabX_ok (asElem:=true) hp hx
 {
  mixed:=h.mixed,arr:=h.arr,fld:=h.fld,var:=h.var,zero:=h.zero,bld:=h.bld,slc:=h.slc,mks:=h.mks,kind:=h.kind,elem:=h.elem,prim:=h.prim,qext:=h.qext
  lext:=LextOk.or lApp_ok (LextOk.or (lCalls_ok hx) (lBld_ok bldT_ok)) }
noncomputable def x52:X:=inlX (tabA [] []) 1000 Try.f52
theorem x52_ok:XOk Try.prog 52 x52:=inlX_ok (tabA_ok noPrims_ok xnil_ok) 1000 Try.func52 (by kernel_rfl)
end P224
/- The package's points, in place. -/
namespace P224
open Go Go.RowKit Go.Proofs
set_option maxRecDepth 100000
set_option linter.unusedVariables false
noncomputable def xi0:List (Nat × X):=(94,x94) :: (74,x74) :: (69,x69) :: (52,x52) :: with1 x100 [] 2000 78 Try.f78
theorem xi0_ok:XsOk xi0:=xcons_ok x94_ok (xcons_ok x74_ok (xcons_ok x69_ok (xcons_ok x52_ok (with1_ok noPrims_ok x100_ok Try.func78 (by kernel_rfl)))))
noncomputable def xi1:List (Nat × X):=with1 (with1 (with1 (with1 xi0 pointPrims 2000 98 Try.f98) pointPrims 2000 116 Try.f116) pointPrims 2000 103 Try.f103) pointPrims 2000 50 Try.f50
theorem xi1_ok:XsOk xi1:=with1_ok pointPrims_ok (with1_ok pointPrims_ok (with1_ok pointPrims_ok (with1_ok pointPrims_ok xi0_ok Try.func98 (by kernel_rfl)) Try.func116 (by kernel_rfl)) Try.func103 (by kernel_rfl)) Try.func50 (by kernel_rfl)
noncomputable def xi2:List (Nat × X):=with1 (with1 (with1 xi1 pointPrims 2000 102 Try.f102) pointPrims 2000 73 Try.f73) pointPrims 2000 81 Try.f81
theorem xi2_ok:XsOk xi2:=with1_ok pointPrims_ok (with1_ok pointPrims_ok (with1_ok pointPrims_ok xi1_ok Try.func102 (by kernel_rfl)) Try.func73 (by kernel_rfl)) Try.func81 (by kernel_rfl)
noncomputable def xi3:List (Nat × X):=with1 (with1 xi2 pointPrims 2000 53 Try.f53) pointPrims 2000 85 Try.f85
theorem xi3_ok:XsOk xi3:=with1_ok pointPrims_ok (with1_ok pointPrims_ok xi2_ok Try.func53 (by kernel_rfl)) Try.func85 (by kernel_rfl)
noncomputable def xi4:List (Nat × X):=with1 (with1 xi3 pointPrims 2000 61 Try.f61) pointPrims 2000 49 Try.f49
theorem xi4_ok:XsOk xi4:=with1_ok pointPrims_ok (with1_ok pointPrims_ok xi3_ok Try.func61 (by kernel_rfl)) Try.func49 (by kernel_rfl)
noncomputable def xi5:List (Nat × X):=with1 xi4 pointPrims 2000 72 Try.f72
theorem xi5_ok:XsOk xi5:=with1_ok pointPrims_ok xi4_ok Try.func72 (by kernel_rfl)
end P224
/- The comparison of bytes, as a call that the executor knows. -/
namespace P224
open Go Go.RowKit Go.Proofs
set_option maxRecDepth 100000
set_option linter.unusedVariables false
theorem calls22 (w:World) (u v:Value) (x y:ByteArray) (h1:(convert 27 9 u).run Try.prog w=.ok (.string x) w) (h2:(convert 27 9 v).run Try.prog w=.ok (.string y) w) :
  Calls Try.prog 22 #[u,v] w fun e w'=>∃ v,e=.returned v∧v=.bool (x.toList == y.toList)∧w'=w:=by
 go_enter Try.func22,Try.ntmps22
 go_wp2
 go_ret
 exact ⟨_,rfl,rfl,rfl⟩
theorem bytes_back:∀ (L:List Nat),(∀ n ∈ L,n<256)→((L.map Int.ofNat).map fun n=>UInt8.ofNat n.toNat).map UInt8.toNat=L
 | [],_=>rfl
 | x :: L,h=>by
  have h0:=h x List.mem_cons_self
  rw [List.map_cons,List.map_cons,List.map_cons,bytes_back L fun n hn=>h n (List.mem_cons_of_mem _ hn)]
  congr 1
  simp
  omega
theorem str_eq {A B:List Nat} (hA:∀ n ∈ A,n<256) (hB:∀ n ∈ B,n<256):((strOfNums (A.map Int.ofNat)).toList == (strOfNums (B.map Int.ofNat)).toList)=decide (A=B):=by
 rw [ByteArray.toList_eq,ByteArray.toList_eq,strOfNums_data,strOfNums_data]
 by_cases h:A=B
 ·subst h
  simp
 ·rw [decide_eq_false h,beq_eq_false_iff_ne]
  intro e
  apply h
  rw [← bytes_back A hA,← bytes_back B hB,e]
section
variable {s:Nums} {β:Places} {F:Fix} {w0:World} {st:St} {a:Act} {w:World}
theorem words_str (h:Rel F s β w0 st a w) {r o n:Nat} {l:List Wd} (hw:wordsAt .u8 st.mem r o n=some l) (c:Nat) :
  (convert 27 9 (.slice (some (at_ β r o)) n c)).run Try.prog w=.ok (.string (strOfNums ((vals s l).map Int.ofNat))) w∧(∀ n ∈ vals s l,n<256)∧l.length=n:=by
 obtain ⟨h1,h2,h3⟩:=wordsAt_rep h hw
 refine ⟨run_convert_bytes_arg (w:=w) 27 5 Try.underlying27 Try.underlying5 (β r).1 ((β r).2+o) n c _ (by rw [List.length_map,vals,List.length_map,h1]) (fun i hi=>?_) 9 Try.underlying9,fun x hx=>?_,h1⟩
 ·obtain ⟨x,hx⟩:∃ x,l[i]?=some x:=⟨l[i]'(by omega),List.getElem?_eq_getElem _⟩
  obtain ⟨g1,g2⟩:=h3 i x hx
  have e:((vals s l).map Int.ofNat).getD i 0=(x.val s:Int):=by rw [List.getD_eq_getElem?_getD,vals,List.getElem?_map,List.getElem?_map,hx]; rfl
  rw [e]
  rw [at_,← Nat.add_assoc] at g1
  exact g1
 ·obtain ⟨y,hy,rfl⟩:=List.mem_map.1 hx
  obtain ⟨j,hj⟩:=List.getElem?_of_mem hy
  exact (h3 j y hj).2
end
def x22:X:=fun F st args=>match args with
 | [.one x,.one y]=>match x.asSl,y.asSl with
  | some (r1,o1,n),some (r2,o2,m)=>match wordsAt .u8 st.mem r1 o1 n,wordsAt .u8 st.mem r2 o2 m with
   | some l,some k=>bif n == m then some (.one (.bl st.nx),{ st with nx:=st.nx+1,exs:=.op 19 (l ++ k) :: st.exs }) else some (.one (.lit (.bool false)),st)
   | _,_=>none
  | _,_=>none
 | _=>none
theorem opVal_19 (A B:List Nat) (h:A.length=B.length):opVal 19 (A ++ B)=if A=B then 1 else 0:=by
 have e:opVal 19 (A ++ B)=if (A ++ B).take ((A ++ B).length / 2)=(A ++ B).drop ((A ++ B).length / 2) then 1 else 0:=rfl
 rw [e,List.length_append,show (A.length+B.length) / 2=A.length by omega,List.take_left,List.drop_left]
theorem x22_ok:XOk Try.prog 22 x22:=by
 refine ⟨fun {F st st' args av} h=>?_,fun {s β F w0 st st' a w args vs av} hr h hargs hH=>?_⟩
 ·unfold x22 at h
  split at h
  ·split at h
   ·split at h
    ·rw [cond_eq_ite] at h
     split at h
     ·cases h; exact ⟨⟨[_],rfl,rfl⟩,Nat.le_refl _⟩
     ·cases h; exact .refl _
    ·cases h
   ·cases h
  ·cases h
 ·unfold x22 at h
  split at h
  ·rename_i x y
   split at h
   ·rename_i r1 o1 n r2 o2 m hx hy
    split at h
    ·rename_i l k hl hk
     obtain ⟨u,v,rfl,hu,hv⟩:=avs2 hargs
     obtain ⟨⟨ca,hva,hca⟩,_⟩:=asSl_rep hx hu
     obtain ⟨⟨cb,hvb,hcb⟩,_⟩:=asSl_rep hy hv
     subst hva
     subst hvb
     obtain ⟨a1,a2,a3⟩:=words_str hr hl ca
     obtain ⟨b1,b2,b3⟩:=words_str hr hk cb
     have hme:=meets_of_calls Try.func22 (by kernel_rfl) (by kernel_rfl) (calls22 w _ _ _ _ a1 b1)
     rw [str_eq a2 b2] at hme
     have hA:(vals s l).length=n:=by rw [vals,List.length_map,a3]
     have hB:(vals s k).length=m:=by rw [vals,List.length_map,b3]
     intro o' a' next Q hn
     refine hme o' a' next Q fun v' w' ⟨hv',hw'⟩=>hn _ _ ?_
     subst hw'
     cases hb:(n == m) with
     | true =>
      rw [hb,cond_true] at h
      cases h
      have hnm:=beq_iff_eq.1 hb
      have he:s st.nx=opVal 19 ((l ++ k).map (Wd.val s)):=hH.1
      rw [List.map_append] at he
      have he2:=he.trans (opVal_19 (vals s l) (vals s k) (by omega))
      obtain ⟨e1,e2⟩:=bool_of he2
      exact ⟨β,Agree.refl _ _,⟨by rw [hv',e1],e2⟩,hr.nums _ _⟩
     | false =>
      rw [hb,cond_false] at h
      cases h
      have hnm:n≠m:=by rw [beq_eq_false_iff_ne] at hb; exact hb
      have:¬ vals s l=vals s k:=fun e=>hnm (by rw [← hA,← hB,e])
      exact ⟨β,Agree.refl _ _,by rw [hv',decide_eq_false this]; rfl,hr⟩
    ·cases h
   ·cases h
  ·cases h
end P224
