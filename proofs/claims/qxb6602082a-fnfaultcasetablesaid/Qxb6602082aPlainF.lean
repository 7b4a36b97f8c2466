/-
  The plain words of 'fault': which items it lists. No Go in sight.
-/
import Derived.Test.Qxb6602082aPlainJ
namespace Go.Proofs.Qxb6602082a

def sTy : ByteArray := ⟨#[105, 115, 32, 111, 102, 32, 116, 121, 112, 101, 32]⟩
def sAllows : ByteArray := ⟨#[97, 108, 108, 111, 119, 115, 32, 78, 85, 76, 76]⟩
def sIsNN : ByteArray := ⟨#[105, 115, 32, 78, 79, 84, 32, 78, 85, 76, 76]⟩
def sGen : ByteArray := ⟨#[105, 115, 32, 103, 101, 110, 101, 114, 97, 116, 101, 100]⟩
def sDef : ByteArray := ⟨#[104, 97, 115, 32, 97, 32, 100, 101, 102, 97, 117, 108, 116]⟩
def sAnd : ByteArray := ⟨#[97, 110, 100]⟩

def fTy (tf : Bool) (ct : ByteArray) : List ByteArray := if tf then [sTy ++ ct] else []
def fNull (rN cN : Bool) : List ByteArray := if rN && !cN then [sAllows] else if !rN && cN then [sIsNN] else []
def fGen (gen wr hd fe : Bool) : List ByteArray := if gen && wr then [sGen] else if hd && fe then [sDef] else []
/-- The faults, in the order in which they are listed. -/
def faults (tf : Bool) (ct : ByteArray) (rN cN gen wr hd fe : Bool) : List ByteArray := fTy tf ct ++ fNull rN cN ++ fGen gen wr hd fe

end Go.Proofs.Qxb6602082a
