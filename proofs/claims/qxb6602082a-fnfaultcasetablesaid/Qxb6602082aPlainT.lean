/-
  The plain law of the table: fault's list of faults, joined, is the sentence that the table writes out. And: it is empty just where no fault stands.
-/
import Derived.Test.Qxb6602082aPlainF
import Derived.Laws.Strings
namespace Go.Proofs.Qxb6602082a

def sNm (rN : Bool) : ByteArray := if rN then sAllows else sIsNN
def sG (gw : Bool) : ByteArray := if gw then sGen else sDef

/-- The table's sentence. -/
def wantB (tf nf gf : Bool) (ty nm g : ByteArray) : ByteArray :=
  if tf then
    (if nf then (if gf then ty ++ ⟨#[44, 32]⟩ ++ nm ++ ⟨#[32, 97, 110, 100, 32]⟩ ++ g else ty ++ ⟨#[32, 97, 110, 100, 32]⟩ ++ nm)
     else (if gf then ty ++ ⟨#[32, 97, 110, 100, 32]⟩ ++ g else ty))
  else
    (if nf then (if gf then nm ++ ⟨#[32, 97, 110, 100, 32]⟩ ++ g else nm)
     else (if gf then g else ⟨#[]⟩))

theorem faults_eq (tf : Bool) (ct : ByteArray) (rN cN gen wr hd fe : Bool) :
    faults tf ct rN cN gen wr hd fe = (if tf then [sTy ++ ct] else []) ++ (if (rN != cN) then [sNm rN] else []) ++ (if ((gen && wr) || (hd && fe)) then [sG (gen && wr)] else []) := by
  cases tf <;> cases rN <;> cases cN <;> cases gen <;> cases wr <;> cases hd <;> cases fe <;> rfl

theorem jl_list (tf nf gf : Bool) (ty nm g : ByteArray) : jl ((if tf then [ty] else []) ++ (if nf then [nm] else []) ++ (if gf then [g] else [])) sAnd = wantB tf nf gf ty nm g := by
  cases tf <;> cases nf <;> cases gf <;> (apply ByteArray.ext; apply Array.toList_inj.1; simp [jl, jlL, wantB, Lib.join, List.intercalate, sAnd])

theorem fault_want (tf : Bool) (ct : ByteArray) (rN cN gen wr hd fe : Bool) :
    jl (faults tf ct rN cN gen wr hd fe) sAnd = wantB tf (rN != cN) ((gen && wr) || (hd && fe)) (sTy ++ ct) (sNm rN) (sG (gen && wr)) := by
  rw [faults_eq, jl_list]

theorem fault_leaf (got ct : ByteArray) (tf0 rN cN gen wr hd fe tf nf gf : Bool) (hg : got = jl (faults tf0 ct rN cN gen wr hd fe) sAnd) (h1 : tf0 = tf) (h2 : (rN != cN) = nf) (h3 : ((gen && wr) || (hd && fe)) = gf) :
    got = wantB tf nf gf (sTy ++ ct) (sNm rN) (sG (gen && wr)) := by
  rw [hg, fault_want, h1, h2, h3]

theorem beq_self_str {a b : ByteArray} (h : a = b) : (a.toList == b.toList) = true := by rw [h]; simp

/-- The sentence is empty just where no fault stands. -/
theorem want_empty (tf nf gf gw rN : Bool) (ct : ByteArray) : (wantB tf nf gf (sTy ++ ct) (sNm rN) (sG gw)).toList.isEmpty = (!tf && (!nf && !gf)) := by
  rw [Go.ByteArray.toList_eq]
  cases tf <;> cases nf <;> cases gf <;> cases gw <;> cases rN <;> simp [wantB, sTy, sNm, sG, sAllows, sIsNN, sGen, sDef]

end Go.Proofs.Qxb6602082a
