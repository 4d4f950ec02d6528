/- From a row's array of bytes to the executor's. -/
import Derived.Test.YtccmmkgiamcgeaaGRB
import Derived.Test.YtccmmkgiamcgeaaGV16
set_option linter.all false
namespace Go.Proofs.Ytccmmkgiamcgeaa.Base
open P224
open Go.ChangeShapes Go.WideShapes Go.ChangeAt Go.RowKit
set_option linter.unusedVariables false
set_option maxRecDepth 100000
theorem arr_types:Try.prog.cellTypes Try.prog.depth 22=some (List.replicate 28 5):=by kernel_rfl
theorem arr_of {W:World} {base:Nat} {v:Value} (h:Value.okWide Try.prog W .any base 22 v):∃ ks:List Nat,v=arrV ks∧Is28 ks:=by
 have h1:∃ cs,v=.agg cs∧cs.size=Try.prog.cellsOf 22∧Row.okWide Try.prog W .any base 22 cs:=by
  unfold Value.okWide at h
  rw [Try.underlying22] at h
  exact h
 obtain ⟨cs,rfl,hs,ts,ht,_,hc⟩:=h1
 have hs:cs.size=28:=hs.trans (by kernel_rfl)
 rw [arr_types] at ht
 cases ht
 have cell:∀ i,i<28→∃ m:Nat,cs[i]?=some (.int .u8 (m:Int))∧m<256:=fun i hi=>by
  obtain ⟨u,hu⟩:∃ u,cs[i]?=some u:=⟨cs[i]'(by omega),Array.getElem?_eq_getElem _⟩
  obtain ⟨t,ht,hk⟩:=hc i u hu
  rw [List.length_replicate,List.getElem?_replicate,if_pos (Nat.mod_lt _ (by decide))] at ht
  cases ht
  have hk':∃ n,u=.int .u8 n∧IntKind.has .u8 n:=by
   unfold Cell.okWide at hk
   rw [Try.underlying5] at hk
   unfold Cell.ok at hk
   rw [Try.underlying5] at hk
   cases u with
   | int k n=>obtain ⟨rfl,h⟩:=hk; exact ⟨n,rfl,h⟩
   | _=>simp at hk
  obtain ⟨n,rfl,hn⟩:=hk'
  have hb:0≤n∧n≤255:=by
   simp [IntKind.has,IntKind.min,IntKind.max,IntKind.signed,IntKind.bits] at hn
   omega
  exact ⟨n.toNat,by rw [hu,show ((n.toNat:Nat):Int)=n by omega],by omega⟩
 let f:Nat→Nat:=fun i=>match cs[i]? with | some (.int _ n)=>n.toNat | _=>0
 have hf:∀ i,i<28→cs[i]?=some (.int .u8 (f i:Int))∧f i<256:=fun i hi=>by
  obtain ⟨m,h1,h2⟩:=cell i hi
  have e:f i=m:=by
   show (match cs[i]? with | some (.int _ n)=>n.toNat | _=>0)=m
   rw [h1]
   rfl
  rw [e]
  exact ⟨h1,h2⟩
 refine ⟨(List.range 28).map f,?_,by simp,fun x hx=>?_⟩
 ·unfold arrV
  congr 1
  apply Array.ext_getElem?
  intro i
  rw [List.map_map,show (((List.range 28).map ((fun (x:Nat)=>Value.int .u8 (x:Int)) ∘ f)).toArray)[i]?=((List.range 28).map ((fun (x:Nat)=>Value.int .u8 (x:Int)) ∘ f))[i]? from List.getElem?_toArray,List.getElem?_map]
  by_cases hi:i<28
  ·rw [(hf i hi).1,List.getElem?_range hi]
   rfl
  ·rw [Array.getElem?_eq_none (by omega),List.getElem?_eq_none (by simp; omega)]
   rfl
 ·obtain ⟨i,hi,rfl⟩:=List.mem_map.1 hx
  exact (hf i (List.mem_range.1 hi)).2
end Go.Proofs.Ytccmmkgiamcgeaa.Base
