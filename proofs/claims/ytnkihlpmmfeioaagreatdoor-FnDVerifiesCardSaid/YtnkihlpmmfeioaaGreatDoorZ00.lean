/- Short names for some lemmas. -/
import Derived.Lib.Hide
import Derived.Below
namespace Go.Proofs.YtnkihlpmmfeioaaGreatDoor
open Go.RowKit
theorem zH{p:Prop}(h:p):Hid p:=h
theorem zB(B:Nat)(w:World):Below B w w:=Below.refl B w
theorem zR(n:Nat):n<=n:=Nat.le_refl n
theorem zT{n m k:Nat}(h:n<=m)(g:m<=k):n<=k:=Nat.le_trans h g
theorem zL{n m k:Nat}(h:n < m)(g:m<=k):n < k:=Nat.lt_of_lt_of_le h g
theorem zF{α:Type _}[BEq α][LawfulBEq α]{a b:α}(h:a≠b):(a == b)=false:=beq_eq_false_iff_ne.2 h
theorem zN{α:Type _}[BEq α][LawfulBEq α]{a b:α}(h:a≠b):(a != b)=true:=bne_iff_ne.2 h
theorem zQ{α:Type _}[BEq α][LawfulBEq α]{a b:α}(h:a=b):(a != b)=false:=bne_eq_false_iff_eq.2 h
theorem zE{α:Type _}[BEq α][LawfulBEq α]{a b:α}(h:a=b):(a == b)=true:=beq_iff_eq.2 h
theorem zG{α:Type _}{l:List α}{i:Nat}(h:i < l.length):l[i]?=some l[i]:=List.getElem?_eq_getElem h
theorem zA{α:Type _}{a b:List α}:(a++b).length=a.length+b.length:=List.length_append
end Go.Proofs.YtnkihlpmmfeioaaGreatDoor
