/- Part of the proof that laws.FnDVerifies answers true: A18,A19 -/
import Derived.Lib.QuietBelow
import Derived.RegionTactic
import Derived.IntWalk
import Derived.Test.YtnkihlpmmfeioaaGreatDoorZ04
set_option linter.unusedVariables false
set_option linter.unusedSimpArgs false
set_option maxRecDepth 1000000
set_option maxHeartbeats 16000000
namespace Go.Proofs.YtnkihlpmmfeioaaGreatDoor
open Go.RowKit
abbrev W32 := BitVec 32
def rotr(x:W32)(n:Nat):W32:=x >>> n ||| x <<< (32 - n)
theorem w_ofInt(x:W32):BitVec.ofInt 32 (x.toNat:Int)=x:=by
 apply BitVec.eq_of_toNat_eq;rw[BitVec.ofInt_natCast,BitVec.toNat_ofNat];exact Nat.mod_eq_of_lt x.isLt
theorem w_wrap(x:W32):IntKind.u32.wrap (x.toNat:Int)=(x.toNat:Int):=by
 rw[IntKind.wrap_u32];have:=x.isLt;omega
theorem w_or(x y:W32):bits .or .u32 (x.toNat:Int) (y.toNat:Int)=((x ||| y).toNat:Int):=by
 show IntKind.u32.wrap ((BitVec.ofInt 32 (x.toNat:Int) ||| BitVec.ofInt 32 (y.toNat:Int)).toNat:Int)=_;rw[w_ofInt,w_ofInt,w_wrap]
theorem w_and(x y:W32):bits .and .u32 (x.toNat:Int) (y.toNat:Int)=((x &&& y).toNat:Int):=by
 show IntKind.u32.wrap ((BitVec.ofInt 32 (x.toNat:Int) &&& BitVec.ofInt 32 (y.toNat:Int)).toNat:Int)=_;rw[w_ofInt,w_ofInt,w_wrap]
theorem w_xor(x y:W32):bits .xor .u32 (x.toNat:Int) (y.toNat:Int)=((x ^^^ y).toNat:Int):=by
 show IntKind.u32.wrap ((BitVec.ofInt 32 (x.toNat:Int) ^^^ BitVec.ofInt 32 (y.toNat:Int)).toNat:Int)=_;rw[w_ofInt,w_ofInt,w_wrap]
theorem w_not(x:W32):bits .xor .u32 4294967295 (x.toNat:Int)=((~~~x).toNat:Int):=by
 have h:=w_xor 4294967295#32 x;rw[show 4294967295#32=BitVec.allOnes 32 from rfl,BitVec.allOnes_xor]at h;exact h
theorem w_shr(x:W32)(n:Nat):(x.toNat:Int) / 2 ^ n=((x >>> n).toNat:Int):=by
 rw[BitVec.toNat_ushiftRight,Nat.shiftRight_eq_div_pow];simp
theorem w_shl(x:W32)(n:Nat):(x.toNat:Int)*2 ^ n % 4294967296=((x <<< n).toNat:Int):=by
 rw[BitVec.toNat_shiftLeft,Nat.shiftLeft_eq];simp
theorem w_add(x y:W32):((x.toNat:Int)+(y.toNat:Int)) % 4294967296=((x+y).toNat:Int):=by
 rw[BitVec.toNat_add];simp
theorem c120(x:W32)(n:Nat)(w:World)(hn:n < 32) :
  Calls Tryz.prog 120 #[.int .u32 (x.toNat:Int),.int .i64 (n:Int)] w fun e w'=>e=.returned (.int .u32 ((rotr x n).toNat:Int))/\∃k,w'=w.drewN k:=by
 have hb:(0:Int)<=(n:Int):=by omega
 have hb2:(0:Int)<=32 - (n:Int):=by omega
 go_enter Tryz.func120,Tryz.ntmps120;go_wp2;go_quiet (fail)
 go_wp2;go_ret
 exact⟨ret_eq (by rw[w_shr,w_shl,w_or];rfl),_,rfl⟩
def limb(x:Nat):Value:=.int .u64 (x:Int)
def p64 : Nat:=18446744073709551616
def force{α:Type}(a:Nat)(k:Nat->α):α:=Nat.rec (k 0) (fun m _=>k (m+1)) a
theorem force_eq{α:Type}(a:Nat)(k:Nat->α):force a k=k a:=by cases a <;> rfl
def mulAt(n:List Nat)(x a b:Nat)(m:List Nat):List Nat :=
 let part:=n.getD a 0*(x / 2 ^ (32*b) % 4294967296) % p64
 let m1:=m.set (a+b) ((m.getD (a+b) 0+part % 4294967296) % p64)
 if a+b+1 < 6 then m1.set (a+b+1) ((m1.getD (a+b+1) 0+part / 4294967296) % p64)else m1
def mulN(n:List Nat)(x a:Nat)(m:List Nat):Nat->List Nat
 |0=>m
 |k+1=>mulAt n x a k (mulN n x a m k)
def mulRow(n:List Nat)(x a:Nat)(m:List Nat):List Nat:=mulN n x a m (min 2 (6 - a))
def mulAll(n:List Nat)(x:Nat):Nat->List Nat->List Nat
 |0,m=>m
 |k+1,m=>mulRow n x k (mulAll n x k m)
def carryAt(a:Nat)(m:List Nat):List Nat :=
 let m1:=m.set (a+1) ((m.getD (a+1) 0+m.getD a 0 / 4294967296) % p64)
 m1.set a (m1.getD a 0 % 4294967296)
def carryAll : Nat->List Nat->List Nat
 |0,m=>m
 |k+1,m=>carryAt k (carryAll k m)
def powN(x:Nat):Nat->List Nat
 |0=>[1,0,0,0,0,0]
 |k+1=>carryAll 5 (mulAll (powN x k) x 6 [0,0,0,0,0,0])
def lessL : Nat->List Nat->List Nat->Bool
 |0,_,_=>true
 |k+1,n,m=>if n.getD k 0≠m.getD k 0 then decide (n.getD k 0 < m.getD k 0)else lessL k n m
def power(x d p:Nat):Bool:=lessL 6 (powN x d) ([0,0,0,0,0,0].set d p)
def rootN : Nat->Nat->Nat->Nat->Nat->Nat
 |0,_,_,low,_=>low
 |f+1,p,d,low,high=>if 1 < high - low then(if power ((low+high) / 2) d p=true then rootN f p d ((low+high) / 2) high else rootN f p d low ((low+high) / 2))else low
def root(p d:Nat):Nat:=rootN 64 p d 0 137438953472 % 4294967296
def isPrimeN : Nat->Nat->Nat->Bool->Bool
 |0,_,_,r=>r
 |f+1,p,q,r=>if q*q<=p then isPrimeN f p (q+1) (r && !(p % q == 0))else r
def rootsN : Nat->Nat->Nat->Nat->List Nat->List Nat
 |0,_,_,_,out=>out
 |f+1,many,d,p,out=>if out.length < many then(if isPrimeN 100 p 2 true=true then rootsN f many d (p+1) (out++[root p d])else rootsN f many d (p+1) out)else out
theorem mulAll6(x n0 n1 n2 n3 n4 n5:Nat):mulAll [n0,n1,n2,n3,n4,n5] x 6 [0,0,0,0,0,0]=[((0+(n0*(x / 2 ^ (32*0) % 4294967296) % 18446744073709551616) % 4294967296) % 18446744073709551616),((((((0+(n0*(x / 2 ^ (32*0) % 4294967296) % 18446744073709551616) / 4294967296) % 18446744073709551616)+(n0*(x / 2 ^ (32*1) % 4294967296) % 18446744073709551616) % 4294967296) % 18446744073709551616)+(n1*(x / 2 ^ (32*0) % 4294967296) % 18446744073709551616) % 4294967296) % 18446744073709551616),((((((((0+(n0*(x / 2 ^ (32*1) % 4294967296) % 18446744073709551616) / 4294967296) % 18446744073709551616)+(n1*(x / 2 ^ (32*0) % 4294967296) % 18446744073709551616) / 4294967296) % 18446744073709551616)+(n1*(x / 2 ^ (32*1) % 4294967296) % 18446744073709551616) % 4294967296) % 18446744073709551616)+(n2*(x / 2 ^ (32*0) % 4294967296) % 18446744073709551616) % 4294967296) % 18446744073709551616),((((((((0+(n1*(x / 2 ^ (32*1) % 4294967296) % 18446744073709551616) / 4294967296) % 18446744073709551616)+(n2*(x / 2 ^ (32*0) % 4294967296) % 18446744073709551616) / 4294967296) % 18446744073709551616)+(n2*(x / 2 ^ (32*1) % 4294967296) % 18446744073709551616) % 4294967296) % 18446744073709551616)+(n3*(x / 2 ^ (32*0) % 4294967296) % 18446744073709551616) % 4294967296) % 18446744073709551616),((((((((0+(n2*(x / 2 ^ (32*1) % 4294967296) % 18446744073709551616) / 4294967296) % 18446744073709551616)+(n3*(x / 2 ^ (32*0) % 4294967296) % 18446744073709551616) / 4294967296) % 18446744073709551616)+(n3*(x / 2 ^ (32*1) % 4294967296) % 18446744073709551616) % 4294967296) % 18446744073709551616)+(n4*(x / 2 ^ (32*0) % 4294967296) % 18446744073709551616) % 4294967296) % 18446744073709551616),((((((((0+(n3*(x / 2 ^ (32*1) % 4294967296) % 18446744073709551616) / 4294967296) % 18446744073709551616)+(n4*(x / 2 ^ (32*0) % 4294967296) % 18446744073709551616) / 4294967296) % 18446744073709551616)+(n4*(x / 2 ^ (32*1) % 4294967296) % 18446744073709551616) % 4294967296) % 18446744073709551616)+(n5*(x / 2 ^ (32*0) % 4294967296) % 18446744073709551616) % 4294967296) % 18446744073709551616)]:=by kernel_rfl
theorem carry6(m0 m1 m2 m3 m4 m5:Nat):carryAll 5 [m0,m1,m2,m3,m4,m5]=[m0 % 4294967296,((m1+m0 / 4294967296) % 18446744073709551616) % 4294967296,((m2+((m1+m0 / 4294967296) % 18446744073709551616) / 4294967296) % 18446744073709551616) % 4294967296,((m3+((m2+((m1+m0 / 4294967296) % 18446744073709551616) / 4294967296) % 18446744073709551616) / 4294967296) % 18446744073709551616) % 4294967296,((m4+((m3+((m2+((m1+m0 / 4294967296) % 18446744073709551616) / 4294967296) % 18446744073709551616) / 4294967296) % 18446744073709551616) / 4294967296) % 18446744073709551616) % 4294967296,((m5+((m4+((m3+((m2+((m1+m0 / 4294967296) % 18446744073709551616) / 4294967296) % 18446744073709551616) / 4294967296) % 18446744073709551616) / 4294967296) % 18446744073709551616) / 4294967296) % 18446744073709551616)]:=by kernel_rfl
theorem mulAll6b(x n0 n1 n2 n3 n4 n5:Nat):mulAll [n0,n1,n2,n3,n4,n5] x 6 [0,0,0,0,0,0]=[((0+(n0*(x / 1 % 4294967296) % 18446744073709551616) % 4294967296) % 18446744073709551616),((((((0+(n0*(x / 1 % 4294967296) % 18446744073709551616) / 4294967296) % 18446744073709551616)+(n0*(x / 4294967296 % 4294967296) % 18446744073709551616) % 4294967296) % 18446744073709551616)+(n1*(x / 1 % 4294967296) % 18446744073709551616) % 4294967296) % 18446744073709551616),((((((((0+(n0*(x / 4294967296 % 4294967296) % 18446744073709551616) / 4294967296) % 18446744073709551616)+(n1*(x / 1 % 4294967296) % 18446744073709551616) / 4294967296) % 18446744073709551616)+(n1*(x / 4294967296 % 4294967296) % 18446744073709551616) % 4294967296) % 18446744073709551616)+(n2*(x / 1 % 4294967296) % 18446744073709551616) % 4294967296) % 18446744073709551616),((((((((0+(n1*(x / 4294967296 % 4294967296) % 18446744073709551616) / 4294967296) % 18446744073709551616)+(n2*(x / 1 % 4294967296) % 18446744073709551616) / 4294967296) % 18446744073709551616)+(n2*(x / 4294967296 % 4294967296) % 18446744073709551616) % 4294967296) % 18446744073709551616)+(n3*(x / 1 % 4294967296) % 18446744073709551616) % 4294967296) % 18446744073709551616),((((((((0+(n2*(x / 4294967296 % 4294967296) % 18446744073709551616) / 4294967296) % 18446744073709551616)+(n3*(x / 1 % 4294967296) % 18446744073709551616) / 4294967296) % 18446744073709551616)+(n3*(x / 4294967296 % 4294967296) % 18446744073709551616) % 4294967296) % 18446744073709551616)+(n4*(x / 1 % 4294967296) % 18446744073709551616) % 4294967296) % 18446744073709551616),((((((((0+(n3*(x / 4294967296 % 4294967296) % 18446744073709551616) / 4294967296) % 18446744073709551616)+(n4*(x / 1 % 4294967296) % 18446744073709551616) / 4294967296) % 18446744073709551616)+(n4*(x / 4294967296 % 4294967296) % 18446744073709551616) % 4294967296) % 18446744073709551616)+(n5*(x / 1 % 4294967296) % 18446744073709551616) % 4294967296) % 18446744073709551616)]:=by kernel_rfl
theorem pow6(x d:Nat):∃n0 n1 n2 n3 n4 n5,powN x d=[n0,n1,n2,n3,n4,n5]:=by
 induction d with
 |zero=>exact⟨1,0,0,0,0,0,rfl⟩
 |succ d ih =>
  obtain⟨n0,n1,n2,n3,n4,n5,h⟩:=ih;rw[powN,h,mulAll6,carry6];exact⟨_,_,_,_,_,_,rfl⟩
def powF{α:Type}(x:Nat):Nat->(List Nat->α)->α
 |0,k=>k [1,0,0,0,0,0]
 |d+1,k=>powF x d fun l=>match l with
  |[n0,n1,n2,n3,n4,n5]=>force ((0+(n0*(x / 1 % 4294967296) % 18446744073709551616) % 4294967296) % 18446744073709551616) fun m0=>force ((((((0+(n0*(x / 1 % 4294967296) % 18446744073709551616) / 4294967296) % 18446744073709551616)+(n0*(x / 4294967296 % 4294967296) % 18446744073709551616) % 4294967296) % 18446744073709551616)+(n1*(x / 1 % 4294967296) % 18446744073709551616) % 4294967296) % 18446744073709551616) fun m1=>force ((((((((0+(n0*(x / 4294967296 % 4294967296) % 18446744073709551616) / 4294967296) % 18446744073709551616)+(n1*(x / 1 % 4294967296) % 18446744073709551616) / 4294967296) % 18446744073709551616)+(n1*(x / 4294967296 % 4294967296) % 18446744073709551616) % 4294967296) % 18446744073709551616)+(n2*(x / 1 % 4294967296) % 18446744073709551616) % 4294967296) % 18446744073709551616) fun m2=>force ((((((((0+(n1*(x / 4294967296 % 4294967296) % 18446744073709551616) / 4294967296) % 18446744073709551616)+(n2*(x / 1 % 4294967296) % 18446744073709551616) / 4294967296) % 18446744073709551616)+(n2*(x / 4294967296 % 4294967296) % 18446744073709551616) % 4294967296) % 18446744073709551616)+(n3*(x / 1 % 4294967296) % 18446744073709551616) % 4294967296) % 18446744073709551616) fun m3=>force ((((((((0+(n2*(x / 4294967296 % 4294967296) % 18446744073709551616) / 4294967296) % 18446744073709551616)+(n3*(x / 1 % 4294967296) % 18446744073709551616) / 4294967296) % 18446744073709551616)+(n3*(x / 4294967296 % 4294967296) % 18446744073709551616) % 4294967296) % 18446744073709551616)+(n4*(x / 1 % 4294967296) % 18446744073709551616) % 4294967296) % 18446744073709551616) fun m4=>force ((((((((0+(n3*(x / 4294967296 % 4294967296) % 18446744073709551616) / 4294967296) % 18446744073709551616)+(n4*(x / 1 % 4294967296) % 18446744073709551616) / 4294967296) % 18446744073709551616)+(n4*(x / 4294967296 % 4294967296) % 18446744073709551616) % 4294967296) % 18446744073709551616)+(n5*(x / 1 % 4294967296) % 18446744073709551616) % 4294967296) % 18446744073709551616) fun m5=>force (m0 % 4294967296) fun f0=>force ((m1+m0 / 4294967296) % 18446744073709551616) fun c1=>force (c1 % 4294967296) fun f1=>force ((m2+c1 / 4294967296) % 18446744073709551616) fun c2=>force (c2 % 4294967296) fun f2=>force ((m3+c2 / 4294967296) % 18446744073709551616) fun c3=>force (c3 % 4294967296) fun f3=>force ((m4+c3 / 4294967296) % 18446744073709551616) fun c4=>force (c4 % 4294967296) fun f4=>force ((m5+c4 / 4294967296) % 18446744073709551616) fun c5=>force c5 fun f5=>k [f0,f1,f2,f3,f4,f5]
  |_=>k []
theorem powF_eq{α:Type}(x d:Nat)(k:List Nat->α):powF x d k=k (powN x d):=by
 induction d generalizing k with
 |zero=>rfl
 |succ d ih =>
  rw[powF,ih,powN];obtain⟨n0,n1,n2,n3,n4,n5,h⟩:=pow6 x d;rw[h,mulAll6b,carry6];simp only[force_eq]
def lessF(l m:List Nat):Bool:=match l,m with
 |[n0,n1,n2,n3,n4,n5],[m0,m1,m2,m3,m4,m5]=>cond (Nat.beq n5 m5) (cond (Nat.beq n4 m4) (cond (Nat.beq n3 m3) (cond (Nat.beq n2 m2) (cond (Nat.beq n1 m1) (cond (Nat.beq n0 m0) true (Nat.ble (n0+1) m0)) (Nat.ble (n1+1) m1)) (Nat.ble (n2+1) m2)) (Nat.ble (n3+1) m3)) (Nat.ble (n4+1) m4)) (Nat.ble (n5+1) m5)
 |_,_=>lessL 6 l m
theorem less_step(k:Nat)(n m:List Nat):lessL (k+1) n m=cond (Nat.beq (n.getD k 0) (m.getD k 0)) (lessL k n m) (Nat.ble (n.getD k 0+1) (m.getD k 0)):=by
 rw[lessL];by_cases h:n.getD k 0=m.getD k 0
 ·rw[if_neg (by simpa using h),h,Nat.beq_refl];rfl
 rw[if_pos h,show Nat.beq (n.getD k 0) (m.getD k 0)=false from Bool.eq_false_iff.2 fun q=>h (Nat.eq_of_beq_eq_true q),cond_false,Bool.eq_iff_iff,decide_eq_true_iff,Nat.ble_eq];rfl
theorem lessF_eq(l m:List Nat):lessF l m=lessL 6 l m:=by
 unfold lessF;split
 ·simp only[less_step];rfl
 rfl
def powerF(x d p:Nat):Bool:=powF x d fun l=>lessF l ([0,0,0,0,0,0].set d p)
theorem powerF_eq(x d p:Nat):powerF x d p=power x d p:=by rw[powerF,powF_eq,lessF_eq];rfl
def rootF : Nat->Nat->Nat->Nat->Nat->Nat
 |0,_,_,low,_=>low
 |f+1,p,d,low,high=>cond (Nat.ble 2 (high - low)) (force ((low+high) / 2) (fun x=>cond (powerF x d p) (rootF f p d x high) (rootF f p d low x))) low
theorem rootF_eq(f p d low high:Nat):rootF f p d low high=rootN f p d low high:=by
 induction f generalizing low high with
 |zero=>rfl
 |succ f ih =>
  rw[rootF,rootN];by_cases h:1 < high - low
  ·rw[if_pos h,show Nat.ble 2 (high - low)=true from Nat.ble_eq ▸ h,cond_true,force_eq,powerF_eq,ih,ih]
   cases power ((low+high) / 2) d p <;> rfl
  rw[if_neg h,show Nat.ble 2 (high - low)=false from Bool.eq_false_iff.2 fun q=>h (Nat.le_of_ble_eq_true q)];rfl
theorem root_F(p d:Nat):root p d=rootF 64 p d 0 137438953472 % 4294967296:=by rw[rootF_eq];rfl
def rootsF : Nat->Nat->Nat->Nat->List Nat->List Nat
 |0,_,_,_,out=>out
 |f+1,many,d,p,out=>if out.length < many then cond (isPrimeN 100 p 2 true) (force (rootF 64 p d 0 137438953472 % 4294967296) fun r=>rootsF f many d (p+1) (out++[r])) (rootsF f many d (p+1) out)else out
theorem roots_F(f many d p:Nat)(out:List Nat):rootsF f many d p out=rootsN f many d p out:=by
 induction f generalizing p out with
 |zero=>rfl
 |succ f ih =>
  rw[rootsF,rootsN];split
  ·cases isPrimeN 100 p 2 true with
   |true=>rw[cond_true,if_pos rfl,force_eq,ih,root_F]
   |false=>rw[cond_false,if_neg (by decide),ih]
  rfl
theorem roots8 : rootsN 400 8 2 2 []=[0x6A09E667,0xBB67AE85,0x3C6EF372,0xA54FF53A,0x510E527F,0x9B05688C,0x1F83D9AB,0x5BE0CD19]:=by rw[<-roots_F];decide +kernel
theorem roots64 : rootsN 400 64 3 2 []=[0x428a2f98,0x71374491,0xb5c0fbcf,0xe9b5dba5,0x3956c25b,0x59f111f1,0x923f82a4,0xab1c5ed5,0xd807aa98,0x12835b01,0x243185be,0x550c7dc3,0x72be5d74,0x80deb1fe,0x9bdc06a7,0xc19bf174,0xe49b69c1,0xefbe4786,0x0fc19dc6,0x240ca1cc,0x2de92c6f,0x4a7484aa,0x5cb0a9dc,0x76f988da,0x983e5152,0xa831c66d,0xb00327c8,0xbf597fc7,0xc6e00bf3,0xd5a79147,0x06ca6351,0x14292967,0x27b70a85,0x2e1b2138,0x4d2c6dfc,0x53380d13,0x650a7354,0x766a0abb,0x81c2c92e,0x92722c85,0xa2bfe8a1,0xa81a664b,0xc24b8b70,0xc76c51a3,0xd192e819,0xd6990624,0xf40e3585,0x106aa070,0x19a4c116,0x1e376c08,0x2748774c,0x34b0bcb5,0x391c0cb3,0x4ed8aa4a,0x5b9cca4f,0x682e6ff3,0x748f82ee,0x78a5636f,0x84c87814,0x8cc70208,0x90befffa,0xa4506ceb,0xbef9a3f7,0xc67178f2]:=by rw[<-roots_F];decide +kernel
def limbs(l:List Nat):Array Value:=(l.map limb).toArray
theorem limbs_at(l:List Nat)(k:Nat)(h:k < l.length):(limbs l)[k]?=some (.int .u64 ((l.getD k 0:Nat):Int)):=by
 simp[limbs,limb,zG h]
theorem limbs_set(l:List Nat)(k v:Nat):(limbs l).setIfInBounds k (.int .u64 (v:Int))=limbs (l.set k v):=by
 simp[limbs,limb,List.map_set]
theorem and_mask(a:Nat):bits .and .u64 (a:Int) 4294967295=((a % 4294967296:Nat):Int):=by
 show IntKind.u64.wrap ((BitVec.ofInt 64 (a:Int) &&& BitVec.ofInt 64 4294967295).toNat:Int)=_;have h1:(BitVec.ofInt 64 (a:Int) &&& BitVec.ofInt 64 4294967295).toNat=a % 4294967296:=by
  rw[BitVec.toNat_and,BitVec.ofInt_natCast,BitVec.toNat_ofNat,show(BitVec.ofInt 64 4294967295).toNat=2 ^ 32 - 1 from by decide,Nat.and_two_pow_sub_one_eq_mod];omega
 rw[h1,IntKind.wrap_u64];omega
theorem mulAt_len(n:List Nat)(x a b:Nat)(m:List Nat):(mulAt n x a b m).length=m.length:=by unfold mulAt;dsimp only;split <;> simp
theorem mulN_len(n:List Nat)(x a k:Nat)(m:List Nat):(mulN n x a m k).length=m.length:=by
 induction k with
 |zero=>rfl
 |succ k ih=>rw[mulN,mulAt_len,ih]
theorem mulAll_len(n:List Nat)(x k:Nat)(m:List Nat):(mulAll n x k m).length=m.length:=by
 induction k with
 |zero=>rfl
 |succ k ih=>rw[mulAll,mulRow,mulN_len,ih]
theorem carry_len(k:Nat)(m:List Nat):(carryAll k m).length=m.length:=by
 induction k with
 |zero=>rfl
 |succ k ih=>rw[carryAll,carryAt];simp[ih]
theorem pow_len(x d:Nat):(powN x d).length=6:=by
 obtain⟨_,_,_,_,_,_,h⟩:=pow6 x d;rw[h];rfl
theorem part_eq(na x b:Nat):IntKind.u64.wrap ((na:Int)*bits .and .u64 ((x:Int) / 2 ^ (32*b)) 4294967295)=((na*(x / 2 ^ (32*b) % 4294967296) % p64:Nat):Int):=by
 have h:((x:Int) / 2 ^ (32*b))=((x / 2 ^ (32*b):Nat):Int):=by simp
 rw[h,and_mask,IntKind.wrap_u64];simp[p64]
theorem addlo_eq(c P:Nat):IntKind.u64.wrap ((c:Int)+bits .and .u64 (P:Int) 4294967295)=(((c+P % 4294967296) % p64:Nat):Int):=by
 rw[and_mask,IntKind.wrap_u64];simp[p64]
theorem addhi_eq(c P:Nat):IntKind.u64.wrap ((c:Int)+(P:Int) / 4294967296)=(((c+P / 4294967296) % p64:Nat):Int):=by
 rw[IntKind.wrap_u64];simp[p64]
theorem mulAt_yes{n m:List Nat}{x a b na c0 c1:Nat}(h0:n.getD a 0=na)(h1:m.getD (a+b) 0=c0)(h2:m.getD (a+b+1) 0=c1)(h6:a+b+1 < 6) :
  mulAt n x a b m=(m.set (a+b) ((c0+na*(x / 2 ^ (32*b) % 4294967296) % p64 % 4294967296) % p64)).set (a+b+1) ((c1+na*(x / 2 ^ (32*b) % 4294967296) % p64 / 4294967296) % p64):=by
 unfold mulAt;dsimp only;rw[if_pos h6,h0,h1];congr 2
 rw[List.getD_eq_getElem?_getD,List.getElem?_set_ne (by omega),<-List.getD_eq_getElem?_getD,h2]
theorem mulAt_no{n m:List Nat}{x a b na c0:Nat}(h0:n.getD a 0=na)(h1:m.getD (a+b) 0=c0)(h6:¬a+b+1 < 6) :
  mulAt n x a b m=m.set (a+b) ((c0+na*(x / 2 ^ (32*b) % 4294967296) % p64 % 4294967296) % p64):=by
 unfold mulAt;dsimp only;rw[if_neg h6,h0,h1]
theorem carry_step{m:List Nat}{a c0 c1:Nat}(h0:m.getD a 0=c0)(h1:m.getD (a+1) 0=c1) :
  carryAt a m=(m.set (a+1) ((c1+c0 / 4294967296) % p64)).set a (c0 % 4294967296):=by
 unfold carryAt;dsimp only;rw[h0,h1];congr 2
 rw[List.getD_eq_getElem?_getD,List.getElem?_set_ne (by omega),<-List.getD_eq_getElem?_getD,h0]
def zero6 : List Nat:=[0,0,0,0,0,0]
theorem make6(w:World):(Instr.makeSlice 300 (.int .i64 6) (.int .i64 6)).run Tryz.prog w=.ok (.slice (some ⟨w.heap.size,0,none⟩) 6 6) (w.alloc (.cells (limbs zero6) 102)):=by kernel_rfl
theorem c150(x d p:Nat)(w:World)(hx:x < 18446744073709551616)(hd:d < 6)(hp:p < 18446744073709551616) :
  Calls Tryz.prog 150 #[.int .u64 (x:Int),.int .i64 (d:Int),.int .u64 (p:Int)] w fun e w'=>e=.returned (.bool (power x d p))/\Below w.heap.size w w':=by
 have hmk:=make6;obtain⟨r,hr⟩:∃r,Hid (power x d p=r):=⟨_,rfl⟩;rw[hr.out];go_enter Tryz.func150,Tryz.ntmps150;go_wp2;have hb0:Hid (Blk (w.alloc (.cells #[.int .u64 1,.int .u64 0,.int .u64 0,.int .u64 0,.int .u64 0,.int .u64 0] 102)) w.heap.size (limbs (powN x 0)) 102):=Blk.new w _ 102;go_loopg [7,8] d (fun g v j w'=>∃i gn:Nat,Hid (i+g=d)/\v=.slice (some ⟨gn,0,none⟩) 6 6/\j=.int .i64 (i:Int)/\i<=d/\Hid (Blk w' gn (limbs (powN x i)) 102/\w.heap.size<=gn)/\Hid (Below w.heap.size w w'))
 case atStart=>exact⟨0,w.heap.size,Nat.zero_add _,rfl,rfl,Nat.zero_le _,⟨hb0.out,zR _⟩,(zB _ _).alloc (zR _) _⟩
 clear hb0;obtain⟨i,gn,hk,rfl,rfl,hi,hB,hb⟩:=hrel;by_cases hlt:i < d
 ·obtain⟨ns,hns⟩:∃ns,Hid (powN x i=ns):=⟨_,rfl⟩
  have hnl:Hid (ns.length=6):=by unfold Hid;rw[<-hns.out,pow_len]
  rw[hns.out]at hB;go_wp2;clear hmk;have hgn:=hB.out.1.lt;have hBn:Hid (Blk (wr.alloc (.cells (limbs zero6) 102)) gn (limbs ns) 102):=hB.out.1.below ((zB wr.heap.size wr).alloc (zR _) _) hgn;have hBm:Hid (Blk (wr.alloc (.cells (limbs zero6) 102)) wr.heap.size (limbs (mulAll ns x 0 zero6)) 102):=Blk.new wr _ 102;have hbb:Hid (Below w.heap.size w (wr.alloc (.cells (limbs zero6) 102))):=hb.out.alloc hb.out.size _;have hgnm:gn≠wr.heap.size:=by omega
  have hwgn:=hB.out.2;have hwm:w.heap.size<=wr.heap.size:=hb.out.size;generalize wr.heap.size=gm at *
  generalize wr.alloc (.cells (limbs zero6) 102)=W0 at *
  clear hB hb hgn;go_loopg [10] 6 (fun g j w'=>∃a:Nat,Hid (a+g=6)/\j=.int .i64 (a:Int)/\a<=6/\Hid (Blk w' gn (limbs ns) 102)/\Hid (Blk w' gm (limbs (mulAll ns x a zero6)) 102)/\Hid (Below w.heap.size w w'))
  case atStart=>exact⟨0,Nat.zero_add _,rfl,Nat.zero_le _,hBn,hBm,hbb⟩
  clear hBn hBm hbb;obtain⟨a,ha,rfl,ha6,hBn,hBm,hb⟩:=hrel;by_cases hla:a < 6
  ·obtain⟨ms,hms⟩:∃ms,Hid (mulAll ns x a zero6=ms):=⟨_,rfl⟩
   have hml:Hid (ms.length=6):=by unfold Hid;rw[<-hms.out,mulAll_len];rfl
   rw[hms.out]at hBm;have z2:(a:Int) < 6:=by omega
   go_wp2;go_loopg [11] 2 (fun g j w'=>∃b:Nat,Hid (b+g=2)/\j=.int .i64 (b:Int)/\b<=2/\a+b<=6/\Hid (Blk w' gn (limbs ns) 102)/\Hid (Blk w' gm (limbs (mulN ns x a ms b)) 102)/\Hid (Below w.heap.size w w'))
   case atStart=>exact⟨0,Nat.zero_add _,rfl,Nat.zero_le _,by omega,hBn,hBm,hb⟩
   clear hBn hBm hb;obtain⟨b,hbg,rfl,hb2,hab,hBn,hBm,hb⟩:=hrel;by_cases hlb:b < 2/\a+b < 6
   ·obtain⟨hlb1,hlb2⟩:=hlb
    obtain⟨m,hm⟩:∃m,Hid (mulN ns x a ms b=m):=⟨_,rfl⟩;have hmL:Hid (m.length=6):=by unfold Hid;rw[<-hm.out,mulN_len,hml.out]
    rw[hm.out]at hBm;obtain⟨na,hna⟩:∃na,Hid (ns.getD a 0=na):=⟨_,rfl⟩;obtain⟨c0,hc0⟩:∃c0,Hid (m.getD (a+b) 0=c0):=⟨_,rfl⟩;obtain⟨c1,hc1⟩:∃c1,Hid (m.getD (a+b+1) 0=c1):=⟨_,rfl⟩;have q1:=(hBn.out.cell a).trans (limbs_at ns a (by rw[hnl.out];omega));have q2:=(hBm.out.cell (a+b)).trans (limbs_at m (a+b) (by rw[hmL.out];omega));have qf:=hBm.out.frozen (a+b);rw[hna.out]at q1;rw[hc0.out]at q2;have z1:(0:Int)<=(a:Int):=by omega
    have z3:(0:Int)<=(b:Int):=by omega
    have z4:(a:Int)+(b:Int) < 6:=by omega
    by_cases h6:a+b+1 < 6
    ·go_wp2
     go_quiet (fail)
     have q3:∀u,((wr.drewN nq).setCell ⟨gm,a+b,none⟩ u).cell? ⟨gm,a+b+1,none⟩=some (.int .u64 (c1:Int)):=fun u=>by
      have hB':Blk (wr.drewN nq) gm (limbs m) 102:=hBm.out;rw[(hB'.set_ (a+b) u).cell,Array.getElem?_setIfInBounds_ne (by omega),limbs_at m _ (by rw[hmL.out];omega),hc1.out]
     have q4:∀u,((wr.drewN nq).setCell ⟨gm,a+b,none⟩ u).frozen? ⟨gm,a+b+1,none⟩=false:=fun u=>by
      have hB':Blk (wr.drewN nq) gm (limbs m) 102:=hBm.out;exact(hB'.set_ (a+b) u).frozen _
     go_wp2;have hB':Blk (wr.drewN nq) gm (limbs m) 102:=hBm.out;have hBn':Blk (wr.drewN nq) gn (limbs ns) 102:=hBn.out;have hb':Below w.heap.size w (wr.drewN nq):=below_drewN hb.out nq;have hm1:mulN ns x a ms (b+1)=mulAt ns x a b m:=by rw[mulN,hm.out]
     go_roundg (gk - 1)
     case measure=>have:=hbg.out;omega
     case rel =>
      refine⟨b+1,by have:=hbg.out;unfold Hid;omega,by go_num,by omega,by omega,?_,?_,?_⟩
      ·exact((hBn'.setNe hgnm).setNe hgnm)
      ·unfold Hid;rw[hm1,mulAt_yes hna.out hc0.out hc1.out h6];exact((hB'.set_ (a+b) _).set_ (a+b+1) _).to (by rw[part_eq,addlo_eq,addhi_eq,limbs_set,limbs_set])
      exact below_set (below_set hb' (by omega)) (by omega)
    go_wp2;go_quiet (fail)
    go_wp2;have hB':Blk (wr.drewN nq) gm (limbs m) 102:=hBm.out;have hBn':Blk (wr.drewN nq) gn (limbs ns) 102:=hBn.out;have hb':Below w.heap.size w (wr.drewN nq):=below_drewN hb.out nq;have hm1:mulN ns x a ms (b+1)=mulAt ns x a b m:=by rw[mulN,hm.out]
    go_roundg (gk - 1)
    case measure=>have:=hbg.out;omega
    case rel =>
     refine⟨b+1,by have:=hbg.out;unfold Hid;omega,by go_num,by omega,by omega,?_,?_,?_⟩
     ·exact(hBn'.setNe hgnm)
     ·unfold Hid;rw[hm1,mulAt_no hna.out hc0.out h6];exact((hB'.set_ (a+b) _)).to (by rw[part_eq,addlo_eq,limbs_set])
     exact belowB_set hb' (by omega) (by have:=hb'.size;omega)
   have hrow:Hid (mulAll ns x (a+1) zero6=mulN ns x a ms b):=by
    unfold Hid;rw[mulAll,hms.out,mulRow,show min 2 (6 - a)=b by omega]
   have hlb':¬b < 2\/(b < 2/\¬a+b < 6):=by omega
   clear hlb;rcases hlb' with h2|⟨h2,h3⟩;all_goals
    go_wp2;go_roundg (6 - a - 1)
    case measure=>have:=ha.out;omega
    case rel=>exact⟨a+1,by have:=ha.out;unfold Hid;omega,by go_num,by omega,hBn,by rw[hrow.out];exact hBm,hb⟩
  obtain rfl:a=6:=by omega
  go_wp2;go_loopg [13] 5 (fun g j w'=>∃a:Nat,Hid (a+g=5)/\j=.int .i64 (a:Int)/\a<=5/\Hid (Blk w' gm (limbs (carryAll a (mulAll ns x 6 zero6))) 102)/\Hid (Below w.heap.size w w'))
  case atStart=>exact⟨0,Nat.zero_add _,rfl,Nat.zero_le _,hBm,hb⟩
  clear hBm hb hBn;obtain⟨a,hag,rfl,ha5,hBm,hb⟩:=hrel;by_cases hla:a < 5
  ·obtain⟨m,hm⟩:∃m,Hid (carryAll a (mulAll ns x 6 zero6)=m):=⟨_,rfl⟩
   have hmL:Hid (m.length=6):=by unfold Hid;rw[<-hm.out,carry_len,mulAll_len];rfl
   rw[hm.out]at hBm;obtain⟨c0,hc0⟩:∃c0,Hid (m.getD a 0=c0):=⟨_,rfl⟩;obtain⟨c1,hc1⟩:∃c1,Hid (m.getD (a+1) 0=c1):=⟨_,rfl⟩;have q1:=(hBm.out.cell a).trans (limbs_at m a (by rw[hmL.out];omega));have q2:=(hBm.out.cell (a+1)).trans (limbs_at m (a+1) (by rw[hmL.out];omega));have qf:=hBm.out.frozen (a+1);rw[hc0.out]at q1;rw[hc1.out]at q2;have z2:(a:Int) < 5:=by omega
   go_wp2;have z1:(0:Int)<=(a:Int):=by omega
   have z5:(a:Int) < 6:=by omega
   have z3:(0:Int)<=(a:Int)+1:=by omega
   have z4:(a:Int)+1 < 6:=by omega
   have z6:((a:Int)+1).toNat=a+1:=by omega
   have z7:IntKind.i64.wrap ((a:Int)+1)=(a:Int)+1:=IntWalk.i64_in _ (by omega);have q5:∀u,(wr.setCell ⟨gm,a+1,none⟩ u).cell? ⟨gm,a,none⟩=some (.int .u64 (c0:Int)):=fun u=>by
    rw[(hBm.out.set_ (a+1) u).cell,Array.getElem?_setIfInBounds_ne (by omega),limbs_at m _ (by rw[hmL.out];omega),hc0.out]
   have q6:∀u,(wr.setCell ⟨gm,a+1,none⟩ u).frozen? ⟨gm,a,none⟩=false:=fun u=>(hBm.out.set_ (a+1) u).frozen _
   go_region
   go_wp2;go_roundg (gk - 1)
   case measure=>have:=hag.out;omega
   case rel =>
    refine⟨a+1,by have:=hag.out;unfold Hid;omega,by go_num,by omega,?_,?_⟩
    ·unfold Hid;rw[carryAll,hm.out,carry_step hc0.out hc1.out];refine((hBm.out.set_ (a+1) _).set_ a _).to ?_;rw[addhi_eq,and_mask,limbs_set,limbs_set]
    exact(below_set (below_set hb.out (by omega)) (by omega)).drew
  obtain rfl:a=5:=by omega
  go_wp2;go_roundg (d - i - 1)
  case measure=>have:=hk.out;omega
  case rel=>exact⟨i+1,gm,by have:=hk.out;unfold Hid;omega,rfl,by go_num,by omega,⟨by rw[powN,hns.out];exact hBm.out,by omega⟩,hb⟩
 obtain rfl:i=d:=by omega
 obtain⟨ns,hns⟩:∃ns,Hid (powN x i=ns):=⟨_,rfl⟩;have hnl:Hid (ns.length=6):=by unfold Hid;rw[<-hns.out,pow_len]
 rw[hns.out]at hB;have hgn:=hB.out.1.lt;have q1:(0:Int)<=(i:Int):=by omega
 have q2:(i:Int) < 6:=by omega
 obtain⟨z0,hz0⟩:∃z,Hid (zero6.getD i 0=z):=⟨_,rfl⟩;have q3:(wr.alloc (.cells (limbs zero6) 102)).cell? ⟨wr.heap.size,i,none⟩=some (.int .u64 (z0:Int)):=by
  rw[(Blk.new wr (limbs zero6) 102).cell i,limbs_at zero6 i hd,hz0.out]
 have qf:(wr.alloc (.cells (limbs zero6) 102)).frozen? ⟨wr.heap.size,i,none⟩=false:=(Blk.new wr (limbs zero6) 102).frozen i;go_wp2;have hBn:Hid (Blk (wr.alloc (.cells ((limbs zero6).setIfInBounds i (.int .u64 (p:Int))) 102)) gn (limbs ns) 102):=hB.out.1.below ((zB wr.heap.size wr).alloc (zR _) _) hgn;have hBm:Hid (Blk (wr.alloc (.cells ((limbs zero6).setIfInBounds i (.int .u64 (p:Int))) 102)) wr.heap.size (limbs (zero6.set i p)) 102):=(Blk.new wr _ 102).to (limbs_set _ _ _);have hbb:Hid (Below w.heap.size w (wr.alloc (.cells ((limbs zero6).setIfInBounds i (.int .u64 (p:Int))) 102))):=hb.out.alloc hb.out.size _;have hgnm:gn≠wr.heap.size:=by omega
 generalize (wr.alloc (.cells ((limbs zero6).setIfInBounds i (.int .u64 (p:Int))) 102))=W0 at *
 generalize wr.heap.size=gm at *
 obtain⟨ms,hms⟩:∃ms,Hid (zero6.set i p=ms):=⟨_,rfl⟩;have hml:Hid (ms.length=6):=by unfold Hid;rw[<-hms.out];simp[zero6]
 rw[hms.out]at hBm;have hr2:Hid (lessL 6 ns ms=r):=by unfold Hid;rw[<-hr.out,power,hns.out,<-hms.out];rfl
 clear hB hb hz0 q3 qf;go_loopg [15] 6 (fun g j w'=>∃k:Nat,Hid (k=g)/\j=.int .i64 ((k:Int) - 1)/\k<=6/\Hid (lessL k ns ms=r)/\Hid (Blk w' gn (limbs ns) 102)/\Hid (Blk w' gm (limbs ms) 102)/\Hid (Below w.heap.size w w'))
 case atStart=>exact⟨6,rfl,rfl,zR _,hr2,hBn,hBm,hbb⟩
 clear hBn hBm hbb hr2;obtain⟨k,hkg,rfl,hk6,hr2,hBn,hBm,hb⟩:=hrel;by_cases hk0:0 < k
 ·obtain⟨k1,rfl⟩:∃k1,k=k1+1:=⟨k - 1,by omega⟩
  obtain⟨c0,hc0⟩:∃c0,Hid (ns.getD k1 0=c0):=⟨_,rfl⟩;obtain⟨c1,hc1⟩:∃c1,Hid (ms.getD k1 0=c1):=⟨_,rfl⟩;have e1:=(hBn.out.cell k1).trans (limbs_at ns k1 (by rw[hnl.out];omega));have e2:=(hBm.out.cell k1).trans (limbs_at ms k1 (by rw[hml.out];omega));rw[hc0.out]at e1;rw[hc1.out]at e2;have s1:((k1:Int)+1 - 1)=(k1:Int):=by omega
  have s2:(0:Int)<=(k1:Int):=by omega
  have s3:(k1:Int) < 6:=by omega
  have hl:=hr2.out;rw[lessL,hc0.out,hc1.out]at hl;by_cases hcc:c0=c1
  ·rw[if_neg (by simpa using hcc)]at hl
   have HL:=zH hl;have n1:((c0:Int) != (c1:Int))=false:=zQ (by omega);clear hl hcc;go_wp2;go_quiet (fail)
   go_wp2;go_roundg k1
   case measure=>have:=hkg.out;omega
   case rel=>exact⟨k1,rfl,rfl,by omega,HL,hBn,hBm,below_drewN hb.out _⟩
  rw[if_pos hcc]at hl;have HL:=zH hl;have n1:((c0:Int) != (c1:Int))=true:=zN (by omega);clear hl hcc;by_cases hlt2:c0 < c1
  ·rw[decide_eq_true hlt2]at HL
   go_wp2;go_quiet (fail)
   go_wp2;go_quiet (fail)
   go_wp2;go_ret
   exact⟨ret_eq (bool_eq HL.out),below_drewN (below_drewN hb.out _) _⟩
  rw[decide_eq_false hlt2]at HL;have n2:decide ((c0:Int) < (c1:Int))=false:=decide_eq_false (by omega);go_wp2;go_quiet (fail)
  go_wp2;go_quiet (fail)
  go_wp2;go_ret
  exact⟨ret_eq (bool_eq HL.out),below_drewN (below_drewN hb.out _) _⟩
 obtain rfl:k=0:=by omega
 have HL:=zH (show true=r from hr2.out);go_wp2;go_ret
 exact⟨ret_eq (bool_eq HL.out),hb.out⟩
end Go.Proofs.YtnkihlpmmfeioaaGreatDoor
