/- A part of a proof, joined by a program out of smaller texts (conditions: those that each theorem names). -/
import Derived.Test.YtkdialecadjedaaGreatDoorC1
namespace Go.Proofs.YtkdialecadjedaaGreatDoor
set_option linter.unusedVariables false
set_option linter.unusedSimpArgs false
set_option linter.unusedSectionVars false
set_option maxRecDepth 100000
set_option maxHeartbeats 8000000
open Go IntKind
def H104:Hints:=⟨[],[(0,[(3,71),(11,3)],[3,5,6,8]++rg 11 34),(2,[(23,3)],[8]++rg 23 17)],[]⟩
def SW104 (f:Option Addr) (a n:Nat) (R:RT) (w:World):Prop:=
  ∃o:Option Addr->Nat->Nat->Int->NP,(∃ah,o none 0 0 0 ah w)/\∀(ar:NV) (p:Option Addr) (q r:Nat) (b:Int) (D:Nat) (g:World),o p q r b D g->Br (decide (b < (a:Int))) (∃E,Ix f E b a (∃F G H I J,LdV pg 278 (E.add (b.toNat*3)) (.agg #[.int .u32 F,.int .u16 G,.slice H I J]) g/\gNew #[.int .u32 0,.int .u16 0,.slice none 0 0] 278 (fun i ai=>∃j,StV pg 278 i (.agg #[.int .u32 F,.int .u16 G,.slice H I J]) ai j/\∃K,j.cell? (i.add 0)=some (.int .u32 K)/\∃L,j.cell? (i.add 1)=some (.int .u16 L)/\gNew #[.int .u32 0,.int .u16 0,.slice none 0 0] 176 (fun k aj=>∃s,StV pg 176 k (.agg #[.int .u32 K,.int .u16 L,.slice none 0 0]) aj s/\∃M l ak,s.cell? (i.add 2)=some (.slice M l ak)/\∃t:Int->NP,(∃al,t 0 al s)/\∀(au:NV) (c:Int) (N:Nat) (e:World),t c N e->Br (decide (c < (l:Int))) (∃O,Ix M O c l (∃P Q S,LdV pg 281 (O.add (c.toNat*3)) (.agg #[.bool P,.int .u8 Q,.int .u16 S]) e/\gNew #[.bool false,.int .u8 0,.int .u16 0] 281 (fun m am=>∃d,StV pg 281 m (.agg #[.bool P,.int .u8 Q,.int .u16 S]) am d/\∃T U V,d.cell? (k.add 2)=some (.slice T U V)/\∃u,d.cell? (m.add 0)=some (.bool u)/\∃v,d.cell? (m.add 1)=some (.int .u8 v)/\∃x,d.cell? (m.add 2)=some (.int .u16 x)/\((.agg #[.bool u,.int .u8 v,.int .u16 x]:Value).cells).size=3/\gNew (#[.bool u,.int .u8 v,.int .u16 x]) 177 (fun an ao=>∃W X Y Z,(Builtin.append_ #[174,174] 174 #[.slice T U V,.slice (some an) 1 1]).run pg ao=.ok (.slice W X Y) Z/\∃aa,StV pg 174 (k.add 2) (.slice W X Y) Z aa/\∃ab,ab < N/\t (i64.wrap (c+1)) ab aa) d) e)) (∃y z A B C,LdV pg 176 k (.agg #[.int .u32 y,.int .u16 z,.slice A B C]) e/\((.agg #[.int .u32 y,.int .u16 z,.slice A B C]:Value).cells).size=3/\gNew (#[.int .u32 y,.int .u16 z,.slice A B C]) 176 (fun ap aq=>∃ac ad ae af,(Builtin.append_ #[71,71] 71 #[.slice p q r,.slice (some ap) 1 1]).run pg aq=.ok (.slice ac ad ae) af/\∃ag,ag < D/\o ac ad ae (i64.wrap (b+1)) ag af) e)) j) g)) (R (.returned (.slice p q r)) g)
theorem of104 {f a n R w} (h:SW104 f a n R w):Calls pg 104 #[.slice f a n] w R:=
  calls_by H104 _ Tryz.func104 h
def H108:Hints:=⟨[],[],[]⟩
def SW108 (a:Int) (b:Option Addr) (c d:Nat) (R:RT) (w:World):Prop:=
  gNew (#[.int .u32 a,.slice b c d]) 147 (fun l f=>∃g i j,f.cell? (l.add 1)=some (.slice g i j)/\Calls pg 118 #[.slice g i j] f (fun en k=>∃e,en=.returned (.bool e)/\Br (!e) (R (.returned (.bool false)) k) (R (.returned (.bool true)) k))) w
theorem of108 {a b c d R w} (h:SW108 a b c d R w):Calls pg 108 #[.agg #[.int .u32 a,.slice b c d]] w R:=
  calls_by H108 _ Tryz.func108 h
def H109:Hints:=⟨[],[],[]⟩
def SW109 (a:Int) (b:Int) (c:Option Addr) (d e:Nat) (R:RT) (w:World):Prop:=
  gNew (#[.int .u32 a,.int .u16 b,.slice c d e]) 158 (fun i f=>∃j g k,f.cell? (i.add 2)=some (.slice j g k)/\Br (decide ((g:Int) > 2147483647)) (R (.returned (.bool false)) f) (R (.returned (.bool true)) f)) w
theorem of109 {a b c d e R w} (h:SW109 a b c d e R w):Calls pg 109 #[.agg #[.int .u32 a,.int .u16 b,.slice c d e]] w R:=
  calls_by H109 _ Tryz.func109 h
def H110:Hints:=⟨[],[],[]⟩
def SW110 (a:Bool) (b:Int) (c:Int) (d:Int) (e:Option Addr) (f g:Nat) (R:RT) (w:World):Prop:=
  gNew (#[.bool a,.int .u16 b,.int .u16 c,.int .u16 d,.slice e f g]) 163 (fun k i=>∃l j m,i.cell? (k.add 4)=some (.slice l j m)/\Br (decide ((j:Int) > 2147483647)) (R (.returned (.bool false)) i) (R (.returned (.bool true)) i)) w
theorem of110 {a b c d e f g R w} (h:SW110 a b c d e f g R w):Calls pg 110 #[.agg #[.bool a,.int .u16 b,.int .u16 c,.int .u16 d,.slice e f g]] w R:=
  calls_by H110 _ Tryz.func110 h
def H111:Hints:=⟨[],[],[]⟩
def SW111 (a:Int) (c:Addr) (b:Addr) (R:RT) (w:World):Prop:=
  Br (decide (a > 31)) (∃d,StV pg 4 c (.bool false) w d/\∃e,StV pg 5 (b.add 1) (.int .u8 (u8.wrap (iand .i64 a 31))) d e/\R (.returned (.tuple #[])) e) (∃f,StV pg 5 (b.add 1) (.int .u8 (u8.wrap (iand .i64 a 31))) w f/\R (.returned (.tuple #[])) f)
theorem of111 {a c b R w} (h:SW111 a c b R w):Calls pg 111 #[.int .i64 a,.pointer (some c),.pointer (some b)] w R:=
  calls_by H111 _ Tryz.func111 h
def H112:Hints:=⟨[],[],[]⟩
def SW112 (b:Option Addr) (c d:Nat) (a:Int) (R:RT) (w:World):Prop:=
  Calls pg 49 #[.slice b c d,.int .u16 (u16.wrap (ishr .u32 a 16))] w (fun en l=>∃e f g,en=.returned (.slice e f g)/\Calls pg 49 #[.slice e f g,.int .u16 (u16.wrap a)] l (fun en m=>∃i j k,en=.returned (.slice i j k)/\R (.returned (.slice i j k)) m))
theorem of112 {b c d a R w} (h:SW112 b c d a R w):Calls pg 112 #[.slice b c d,.int .u32 a] w R:=
  calls_by H112 _ Tryz.func112 h
def H113:Hints:=⟨[(3,[0,1,2,0,8,0,32,64,128,0,512,1024,2048,0,8192,16384,37136,65540,262143],262144,ons [1,3,7,9,11,13,15,17,19,21,23,25,27,29,31] (.two 2 16 (ons [32,34,37] .done) (ons [4,34,37] .done))),(4,[0,0,2,5,0,16,40,0,128,320,0,1024,2560,8191,16383],24576,ons [1,3,5,9,11,15,17,21,23,6,12,18,24,27,29] .done)],[],[]⟩
def SW113 (i:Int) (j:Int) (k:Int) (l:Int) (m:Int) (n:Int) (o:Int) (R:RT) (w:World):Prop:=
  gNew (#[.int .u32 i,.int .u8 j,.int .u32 k,.int .u32 l,.int .u32 m,.int .u32 n,.int .u32 o]) 144 (fun a b=>∃p,b.cell? (a.add 2)=some (.int .u32 p)/\Br (decide (p>=16777216)) (R (.returned (.tuple #[.slice none 0 0,.bool false])) b) (∃e:Option Nat,Rk ((a.add 0)) e b.drew (∃q,b.drew.cell? (a.add 0)=some (.int .u32 q)/\Rk ((a.add 1)) e b.drew (∃r,b.drew.cell? (a.add 1)=some (.int .u8 r)/\Rk ((a.add 2)) e b.drew (∃s,b.drew.cell? (a.add 2)=some (.int .u32 s)/\Rk ((a.add 2)) e b.drew (∃t,b.drew.cell? (a.add 2)=some (.int .u32 t)/\Rk ((a.add 2)) e b.drew (∃u,b.drew.cell? (a.add 2)=some (.int .u32 u)/\(Calls pg 112 #[.slice none 0 0,.int .u32 q] b.drew (fun en v=>∃x y z,en=.returned (.slice x y z)/\b.drew.grownBy v e/\gNew #[.int .u8 r,.int .u8 (u8.wrap (ishr .u32 s 16)),.int .u8 (u8.wrap (ishr .u32 t 8)),.int .u8 (u8.wrap u)] 5 (fun aE A=>b.drew.grownBy A e/\∃B C D c,(Builtin.append_ #[22,22] 22 #[.slice x y z,.slice (some aE) 4 4]).run pg A=.ok (.slice B C D) c/\b.drew.grownBy c e/\∃f:Option Nat,Rk ((a.add 3)) f c.drew (∃E,c.drew.cell? (a.add 3)=some (.int .u32 E)/\Rk ((a.add 4)) f c.drew (∃F,c.drew.cell? (a.add 4)=some (.int .u32 F)/\Rk ((a.add 5)) f c.drew (∃G,c.drew.cell? (a.add 5)=some (.int .u32 G)/\Rk ((a.add 6)) f c.drew (∃H,c.drew.cell? (a.add 6)=some (.int .u32 H)/\Calls pg 112 #[.slice B C D,.int .u32 E] c.drew (fun en I=>∃J K L,en=.returned (.slice J K L)/\c.drew.grownBy I f/\Calls pg 112 #[.slice J K L,.int .u32 F] I (fun en M=>∃N O P,en=.returned (.slice N O P)/\c.drew.grownBy M f/\Calls pg 112 #[.slice N O P,.int .u32 G] M (fun en Q=>∃S T U,en=.returned (.slice S T U)/\c.drew.grownBy Q f/\Calls pg 112 #[.slice S T U,.int .u32 H] Q (fun en V=>∃W X Y,en=.returned (.slice W X Y)/\c.drew.grownBy V f/\R (.returned (.tuple #[.slice W X Y,.bool true])) V))))))))) v))/\(gNew #[.int .u8 r,.int .u8 (u8.wrap (ishr .u32 s 16)),.int .u8 (u8.wrap (ishr .u32 t 8)),.int .u8 (u8.wrap u)] 5 (fun aF Z=>b.drew.grownBy Z e/\Calls pg 112 #[.slice none 0 0,.int .u32 q] Z (fun en aa=>∃ab ac ad,en=.returned (.slice ab ac ad)/\b.drew.grownBy aa e/\∃ae af ag d,(Builtin.append_ #[22,22] 22 #[.slice ab ac ad,.slice (some aF) 4 4]).run pg aa=.ok (.slice ae af ag) d/\b.drew.grownBy d e/\∃g:Option Nat,Rk ((a.add 3)) g d.drew (∃ah,d.drew.cell? (a.add 3)=some (.int .u32 ah)/\Rk ((a.add 4)) g d.drew (∃ai,d.drew.cell? (a.add 4)=some (.int .u32 ai)/\Rk ((a.add 5)) g d.drew (∃aj,d.drew.cell? (a.add 5)=some (.int .u32 aj)/\Rk ((a.add 6)) g d.drew (∃ak,d.drew.cell? (a.add 6)=some (.int .u32 ak)/\Calls pg 112 #[.slice ae af ag,.int .u32 ah] d.drew (fun en al=>∃am an ao,en=.returned (.slice am an ao)/\d.drew.grownBy al g/\Calls pg 112 #[.slice am an ao,.int .u32 ai] al (fun en ap=>∃aq ar au,en=.returned (.slice aq ar au)/\d.drew.grownBy ap g/\Calls pg 112 #[.slice aq ar au,.int .u32 aj] ap (fun en av=>∃ax ay az,en=.returned (.slice ax ay az)/\d.drew.grownBy av g/\Calls pg 112 #[.slice ax ay az,.int .u32 ak] av (fun en aA=>∃aB aC aD,en=.returned (.slice aB aC aD)/\d.drew.grownBy aA g/\R (.returned (.tuple #[.slice aB aC aD,.bool true])) aA)))))))))) b.drew)))))))) w
theorem of113 {i j k l m n o R w} (h:SW113 i j k l m n o R w):Calls pg 113 #[.agg #[.int .u32 i,.int .u8 j,.int .u32 k,.int .u32 l,.int .u32 m,.int .u32 n,.int .u32 o]] w R:=
  calls_by H113 _ Tryz.func113 h
def H114:Hints:=⟨[],[(0,[(0,22)],[0]++rg 3 7)],[]⟩
def SW114 (b:Option Addr) (c d:Nat) (R:RT) (w:World):Prop:=
  ∃e:Option Addr->Nat->Nat->NP,(∃p,e b c d p w)/\∀(s:NV) (f:Option Addr) (a g:Nat) (j:Nat) (i:World),e f a g j i->(4:Int)≠0/\Br (((a:Int).tmod 4) != 0) (((.int .u8 0:Value).cells).size=1/\gNew (#[.int .u8 0]) 5 (fun q r=>∃k l m n,(Builtin.append_ #[22,22] 22 #[.slice f a g,.slice (some q) 1 1]).run pg r=.ok (.slice k l m) n/\∃o,o < j/\e k l m o n) i) (R (.returned (.slice f a g)) i)
theorem of114 {b c d R w} (h:SW114 b c d R w):Calls pg 114 #[.slice b c d] w R:=
  calls_by H114 _ Tryz.func114 h
def H115:Hints:=⟨[],[(0,[(4,272),(5,51)],[4,5]++rg 27 6)],[]⟩
def SW115 (b:Int) (R:RT) (w:World):Prop:=
  ∃r s,(callFunc 100 #[.int .u32 b]).run pg w=.ok (.value (.float .f32 r)) s/\∃a f,(convert 236 272 (.float .f32 r)).run pg s=.ok (.float .f64 a) f/\Br ((ishr .u32 b 31) != 0) (R (.returned (.tuple #[.int .u32 0,.bool false])) f) (∃g i,(binOp .neq 272 (.float .f64 a) (.float .f64 a)).run pg f=.ok (.bool g) i/\Br g (R (.returned (.tuple #[.int .u32 0,.bool false])) i) (∃t u,(binOp .sub 272 (.float .f64 a) (.float .f64 a)).run pg i=.ok (.float .f64 t) u/\∃j k,(binOp .neq 272 (.float .f64 t) (.float .f64 0)).run pg u=.ok (.bool j) k/\Br j (R (.returned (.tuple #[.int .u32 0,.bool false])) k) (∃l m,(binOp .eql 272 (.float .f64 a) (.float .f64 0)).run pg k=.ok (.bool l) m/\Br l (R (.returned (.tuple #[.int .u32 0,.bool false])) m) (∃n:Nat->Int->NP,(∃H,n a 0 H m)/\∀(I:NV) (c:Nat) (d:Int) (v:Nat) (x:World),n c d v x->∃o e,(binOp .geq 272 (.float .f64 c) (.float .f64 4688247212092686336)).run pg x=.ok (.bool o) e/\Br o (∃y z,(binOp .quo 272 (.float .f64 c) (.float .f64 4611686018427387904)).run pg e=.ok (.float .f64 y) z/\∃A,A < v/\n y (u32.wrap (d+1)) A z) (Br (decide (d > 63)) (R (.returned (.tuple #[.int .u32 0,.bool false])) e) (∃B C,(convert 272 51 (.float .f64 c)).run pg e=.ok (.int .u32 B) C/\∃D E,(convert 51 272 (.int .u32 B)).run pg C=.ok (.float .f64 D) E/\∃p q,(binOp .neq 272 (.float .f64 c) (.float .f64 D)).run pg E=.ok (.bool p) q/\Br p (R (.returned (.tuple #[.int .u32 0,.bool false])) q) (∃F G,(convert 272 51 (.float .f64 c)).run pg q=.ok (.int .u32 F) G/\R (.returned (.tuple #[.int .u32 (ior .u32 (ishl .u32 d 18) F),.bool true])) G)))))))
theorem of115 {b R w} (h:SW115 b R w):Calls pg 115 #[.int .u32 b] w R:=
  calls_by H115 _ Tryz.func115 h
def H117:Hints:=⟨[],[],[]⟩
def SW117 (c:Int) (d:Int) (e:Int) (f:Int) (g:Int) (i:Int) (j:Int) (R:RT) (w:World):Prop:=
  gNew (#[.int .u32 c,.int .u8 d,.int .u32 e,.int .u32 f,.int .u32 g,.int .u32 i,.int .u32 j]) 275 (fun b B=>gNew #[.int .u32 0,.int .u8 0,.int .u32 0,.int .u32 0,.int .u32 0,.int .u32 0,.int .u32 0] 166 (fun l a=>∃m,a.cell? (b.add 0)=some (.int .u32 m)/\∃n,a.cell? (b.add 1)=some (.int .u8 n)/\∃o,a.cell? (b.add 2)=some (.int .u32 o)/\∃p,a.cell? (b.add 3)=some (.int .u32 p)/\∃q,a.cell? (b.add 4)=some (.int .u32 q)/\∃r,a.cell? (b.add 5)=some (.int .u32 r)/\∃s,a.cell? (b.add 6)=some (.int .u32 s)/\∃k,StV pg 166 l (.agg #[.int .u32 m,.int .u8 n,.int .u32 o,.int .u32 p,.int .u32 q,.int .u32 r,.int .u32 s]) a k/\∃t u v x y z A,LdV pg 166 l (.agg #[.int .u32 t,.int .u8 u,.int .u32 v,.int .u32 x,.int .u32 y,.int .u32 z,.int .u32 A]) k/\R (.returned (.agg #[.int .u32 t,.int .u8 u,.int .u32 v,.int .u32 x,.int .u32 y,.int .u32 z,.int .u32 A])) k) B) w
theorem of117 {c d e f g i j R w} (h:SW117 c d e f g i j R w):Calls pg 117 #[.agg #[.int .u32 c,.int .u8 d,.int .u32 e,.int .u32 f,.int .u32 g,.int .u32 i,.int .u32 j]] w R:=
  calls_by H117 _ Tryz.func117 h
def H118:Hints:=⟨[],[(0,[(10,3)],[2,4]++rg 10 8)],[]⟩
def SW118 (c:Option Addr) (a e:Nat) (R:RT) (w:World):Prop:=
  Br (decide ((a:Int) > 2147483647)) (R (.returned (.bool false)) w) (∃f:Int->NP,(∃s,f 0 s w)/\∀(u:NV) (b:Int) (j:Nat) (d:World),f b j d->Br (decide (b < (a:Int))) (∃k,Ix c k b a (∃l m,LdV pg 149 (k.add (b.toNat*2)) (.agg #[.int .u8 l,.string m]) d/\gNew #[.int .u8 0,.string (ByteArray.mk #[])] 149 (fun n t=>∃g,StV pg 149 n (.agg #[.int .u8 l,.string m]) t g/\∃o p,LdV pg 149 n (.agg #[.int .u8 o,.string p]) g/\Calls pg 119 #[.agg #[.int .u8 o,.string p]] g (fun en q=>∃i,en=.returned (.bool i)/\Br (!i) (R (.returned (.bool false)) q) (∃r,r < j/\f (i64.wrap (b+1)) r q))) d)) (R (.returned (.bool true)) d))
theorem of118 {c a e R w} (h:SW118 c a e R w):Calls pg 118 #[.slice c a e] w R:=
  calls_by H118 _ Tryz.func118 h
def H119:Hints:=⟨[],[],[]⟩
def SW119 (a:Int) (b:ByteArray) (R:RT) (w:World):Prop:=
  gNew (#[.int .u8 a,.string b]) 149 (fun e c=>∃d,c.cell? (e.add 1)=some (.string d)/\Br (decide (((d.size:Nat):Int) > 2147483647)) (R (.returned (.bool false)) c) (R (.returned (.bool true)) c)) w
theorem of119 {a b R w} (h:SW119 a b R w):Calls pg 119 #[.agg #[.int .u8 a,.string b]] w R:=
  calls_by H119 _ Tryz.func119 h
def H136:Hints:=⟨[],[],[]⟩
def SW136 (a:Option Addr) (b c:Nat) (R:RT) (w:World):Prop:=
  R (.returned (.tuple #[.slice a b c,.nilIface])) w
theorem of136 {a b c R w} (h:SW136 a b c R w):Calls pg 136 #[.slice a b c] w R:=
  calls_by H136 _ Tryz.func136 h
def H141:Hints:=⟨[(3,[0,1,0,4,10],31,ons [1,3,5,6,8] .done),(4,[0,1,0,4,10],31,ons [1,3,5,6,8] .done),(5,[0,1,0,4,10],31,ons [1,3,5,6,8] .done),(6,[0,1,0,4,10],31,ons [1,3,5,6,8] .done),(7,[0,1,0,4,10],31,ons [1,3,5,6,8] .done),(19,[0,0,3],7,ons [3,0,5] .done),(20,[0,0,3,0,8,20],63,ons [1,3,5,7,8,10] .done)],[(0,[(6,3),(45,3)],[2,3,6,8,9,10]++rg 45 20)],[]⟩
def SW141 (k:Int) (l:Int) (m:Int) (n:Int) (o:Int) (p:Option Addr) (q r:Nat) (s:Option Addr) (t u:Nat) (R:RT) (w:World):Prop:=
  gNew (#[.int .u32 k,.int .u64 l,.int .u32 m,.int .u32 n,.int .u32 o,.slice p q r,.slice s t u]) 194 (fun d aC=>Calls pg 142 #[.pointer (some d)] aC (fun en aD=>∃x,en=.returned (.int .i64 x)/\∃e b a y,(Instr.makeSlice 22 (.int .i64 x) (.int .i64 x)).run pg aD=.ok (.slice e b a) y/\0<=(4:Int)/\4<=(b:Int)/\0<=(0:Int)/\0<=((b - 4:Nat):Int)/\∃C,y.drew.cell? (d.add 0)=some (.int .u32 C)/\Calls pg 144 #[.slice (cutA (cutA e 4 a 1) 0 (a - 4) 1) (b - 4) (a - 4),.int .u32 C] y.drew (fun en D=>en=.returned (.tuple #[])/\0<=(4:Int)/\4<=((b - 4:Nat):Int)/\∃E,D.drew.cell? (d.add 1)=some (.int .u64 E)/\Calls pg 145 #[.slice (cutA (cutA e 4 a 1) 4 (a - 4) 1) ((b - 4) - 4) ((a - 4) - 4),.int .u64 E] D.drew (fun en F=>en=.returned (.tuple #[])/\0<=(12:Int)/\12<=((b - 4:Nat):Int)/\∃G,F.drew.cell? (d.add 2)=some (.int .u32 G)/\Calls pg 144 #[.slice (cutA (cutA e 4 a 1) 12 (a - 4) 1) ((b - 4) - 12) ((a - 4) - 12),.int .u32 G] F.drew (fun en H=>en=.returned (.tuple #[])/\0<=(16:Int)/\16<=((b - 4:Nat):Int)/\∃I,H.drew.cell? (d.add 3)=some (.int .u32 I)/\Calls pg 144 #[.slice (cutA (cutA e 4 a 1) 16 (a - 4) 1) ((b - 4) - 16) ((a - 4) - 16),.int .u32 I] H.drew (fun en J=>en=.returned (.tuple #[])/\0<=(20:Int)/\20<=((b - 4:Nat):Int)/\∃K,J.drew.cell? (d.add 4)=some (.int .u32 K)/\Calls pg 144 #[.slice (cutA (cutA e 4 a 1) 20 (a - 4) 1) ((b - 4) - 20) ((a - 4) - 20),.int .u32 K] J.drew (fun en L=>en=.returned (.tuple #[])/\∃M v aE,L.cell? (d.add 5)=some (.slice M v aE)/\∃z:Int->Int->NP,(∃aF,z 24 0 aF L)/\∀(aN:NV) (c:Int) (g:Int) (N:Nat) (f:World),z c g N f->Br (decide (g < (v:Int))) (∃O,Ix M O g v (∃P Q S T U V W,LdV pg 275 (O.add (g.toNat*7)) (.agg #[.int .u32 P,.int .u8 Q,.int .u32 S,.int .u32 T,.int .u32 U,.int .u32 V,.int .u32 W]) f/\gNew #[.int .u32 0,.int .u8 0,.int .u32 0,.int .u32 0,.int .u32 0,.int .u32 0,.int .u32 0] 275 (fun X aG=>∃A,StV pg 275 X (.agg #[.int .u32 P,.int .u8 Q,.int .u32 S,.int .u32 T,.int .u32 U,.int .u32 V,.int .u32 W]) aG A/\∃Y Z aa ab ac ad ae,LdV pg 275 X (.agg #[.int .u32 Y,.int .u8 Z,.int .u32 aa,.int .u32 ab,.int .u32 ac,.int .u32 ad,.int .u32 ae]) A/\Calls pg 146 #[.agg #[.int .u32 Y,.int .u8 Z,.int .u32 aa,.int .u32 ab,.int .u32 ac,.int .u32 ad,.int .u32 ae]] A (fun en af=>∃ag ah ai i,en=.returned (.tuple #[.slice ag ah ai,i])/\isIf i/\Br (!(isNilI i)) (R (.returned (.tuple #[.slice none 0 0,i])) af) (0<=c/\c<=((b - 4:Nat):Int)/\∃aH aj,(Builtin.copy_ #[22,22] 3 #[.slice (cutA (cutA e 4 a 1) c.toNat (a - 4) 1) ((b - 4) - c.toNat) ((a - 4) - c.toNat),.slice ag ah ai]).run pg af=.ok (.int .i64 aH) aj/\∃ak,ak < N/\z (i64.wrap (c+24)) (i64.wrap (g+1)) ak aj))) f)) (∃aI B aJ,f.cell? (d.add 5)=some (.slice aI B aJ)/\Br (decide ((B:Int) > 31)) (∃al,f.drew.cell? (⟨8,0,none⟩)=some (al)/\R (.returned (.tuple #[.slice none 0 0,al])) f.drew) (0<=c/\c<=((b - 4:Nat):Int)/\∃am an ao,f.drew.cell? (d.add 6)=some (.slice am an ao)/\∃aK ap,(Builtin.copy_ #[22,22] 3 #[.slice (cutA (cutA e 4 a 1) c.toNat (a - 4) 1) ((b - 4) - c.toNat) ((a - 4) - c.toNat),.slice am an ao]).run pg f.drew=.ok (.int .i64 aK) ap/\Calls pg 147 #[.pointer (some d)] ap (fun en aL=>∃aq ar au av,en=.returned (.agg #[.bool aq,.int .u8 ar,.int .u8 au,.int .u16 av])/\Calls pg 52 #[.agg #[.bool aq,.int .u8 ar,.int .u8 au,.int .u16 av]] aL (fun en ax=>∃ay az aA j,en=.returned (.tuple #[.slice ay az aA,j])/\isIf j/\Br (!(isNilI j)) (R (.returned (.tuple #[.slice none 0 0,j])) ax) (∃aM aB,(Builtin.copy_ #[22,22] 3 #[.slice e b a,.slice ay az aA]).run pg ax=.ok (.int .i64 aM) aB/\R (.returned (.tuple #[.slice e b a,.nilIface])) aB)))))))))))) w
theorem of141 {k l m n o p q r s t u R w} (h:SW141 k l m n o p q r s t u R w):Calls pg 141 #[.agg #[.int .u32 k,.int .u64 l,.int .u32 m,.int .u32 n,.int .u32 o,.slice p q r,.slice s t u]] w R:=
  calls_by H141 _ Tryz.func141 h
def H142:Hints:=⟨[],[(0,[(3,3),(12,3)],[3,5]++rg 12 8)],[]⟩
def SW142 (b:Option Addr) (R:RT) (w:World):Prop:=
  ∃i,b=some i/\∃j d A,w.cell? (i.add 5)=some (.slice j d A)/\∃e:Int->Int->NP,(∃B,e 0 0 B w)/\∀(H:NV) (f:Int) (a:Int) (k:Nat) (c:World),e f a k c->Br (decide (a < (d:Int))) (∃l,Ix j l a d (∃m n o p q r s,LdV pg 275 (l.add (a.toNat*7)) (.agg #[.int .u32 m,.int .u8 n,.int .u32 o,.int .u32 p,.int .u32 q,.int .u32 r,.int .u32 s]) c/\gNew #[.int .u32 0,.int .u8 0,.int .u32 0,.int .u32 0,.int .u32 0,.int .u32 0,.int .u32 0] 275 (fun t C=>∃u,StV pg 275 t (.agg #[.int .u32 m,.int .u8 n,.int .u32 o,.int .u32 p,.int .u32 q,.int .u32 r,.int .u32 s]) C u/\Calls pg 148 #[.pointer (some t)] u (fun en D=>∃v,en=.returned (.int .i64 v)/\∃x,x < k/\e (i64.wrap (f+v)) (i64.wrap (a+1)) x D)) c)) (∃y,b=some y/\∃E g F,c.cell? (y.add 6)=some (.slice E g F)/\Calls pg 149 #[.int .i64 (g:Int)] c (fun en G=>∃z,en=.returned (.int .i64 z)/\R (.returned (.int .i64 (i64.wrap ((i64.wrap ((i64.wrap (28+f))+(g:Int)))+z)))) G))
theorem of142 {b R w} (h:SW142 b R w):Calls pg 142 #[.pointer b] w R:=
  calls_by H142 _ Tryz.func142 h
def H143:Hints:=⟨[(28,[0,0,2,4,8,0,32,80,255,511,767],1792,ons [1,3,5,7,9,11,12,14,17,19,20] .done),(31,[0,1,2,4,8,16,0,64,160],0,ons [1,3,5,7,9,11,13,15,17] .done)],[(0,[(8,3),(9,3)],[4]++rg 8 6++rg 59 35)],[]⟩
def SW143 (d:Option Addr) (e:Option Addr) (b a:Nat) (R:RT) (w:World):Prop:=
  Br (decide ((b:Int) < 28)) (∃H,w.cell? (⟨1,0,none⟩)=some (H)/\R (.returned (H)) w) (gNew #[.bool false,.int .u8 0,.int .u8 0,.int .u16 0] 109 (fun j aq=>Calls pg 55 #[.pointer (some j),.slice e b a] aq (fun en k=>∃l,en=.returned (l)/\isIf l/\Br (!(isNilI l)) (R (.returned (l)) k) (∃p,k.cell? (j.add 2)=some (.int .u8 p)/\Br (p != 200) (∃I,k.cell? (⟨9,0,none⟩)=some (I)/\R (.returned (I)) k) (0<=(4:Int)/\4<=(b:Int)/\0<=(0:Int)/\0<=((b - 4:Nat):Int)/\Calls pg 150 #[.slice (cutA (cutA e 4 a 1) 0 (a - 4) 1) (b - 4) (a - 4)] k (fun en ar=>∃J,en=.returned (.int .u32 J)/\∃K,d=some K/\∃L,StV pg 51 (K.add 0) (.int .u32 J) ar L/\0<=(4:Int)/\4<=((b - 4:Nat):Int)/\Calls pg 151 #[.slice (cutA (cutA e 4 a 1) 4 (a - 4) 1) ((b - 4) - 4) ((a - 4) - 4)] L (fun en au=>∃M,en=.returned (.int .u64 M)/\∃N,d=some N/\∃O,StV pg 52 (N.add 1) (.int .u64 M) au O/\0<=(12:Int)/\12<=((b - 4:Nat):Int)/\Calls pg 150 #[.slice (cutA (cutA e 4 a 1) 12 (a - 4) 1) ((b - 4) - 12) ((a - 4) - 12)] O (fun en av=>∃P,en=.returned (.int .u32 P)/\∃Q,d=some Q/\∃S,StV pg 51 (Q.add 2) (.int .u32 P) av S/\0<=(16:Int)/\16<=((b - 4:Nat):Int)/\Calls pg 150 #[.slice (cutA (cutA e 4 a 1) 16 (a - 4) 1) ((b - 4) - 16) ((a - 4) - 16)] S (fun en ax=>∃T,en=.returned (.int .u32 T)/\∃U,d=some U/\∃V,StV pg 51 (U.add 3) (.int .u32 T) ax V/\0<=(20:Int)/\20<=((b - 4:Nat):Int)/\Calls pg 150 #[.slice (cutA (cutA e 4 a 1) 20 (a - 4) 1) ((b - 4) - 20) ((a - 4) - 20)] V (fun en ay=>∃W,en=.returned (.int .u32 W)/\∃X,d=some X/\∃Y,StV pg 51 (X.add 4) (.int .u32 W) ay Y/\∃q:Int->Int->NP,(∃az,q 24 0 az Y)/\∀(aG:NV) (c:Int) (n:Int) (Z:Nat) (f:World),q c n Z f->∃r,f.cell? (j.add 1)=some (.int .u8 r)/\Br (decide (n < (i64.wrap r))) (Br (decide ((i64.wrap (c+24)) > ((b - 4:Nat):Int))) (∃aa,f.cell? (⟨1,0,none⟩)=some (aa)/\R (.returned (aa)) f) (0<=i64.wrap (c+24)/\i64.wrap (c+24)<=((a - 4:Nat):Int)/\0<=c/\c<=(((i64.wrap (c+24)).toNat:Nat):Int)/\gNew #[.int .u32 0,.int .u8 0,.int .u32 0,.int .u32 0,.int .u32 0,.int .u32 0,.int .u32 0] 275 (fun s aA=>Calls pg 152 #[.pointer (some s),.slice (cutA (cutA e 4 a 1) c.toNat (a - 4) 1) (((i64.wrap (c+24)).toNat) - c.toNat) ((a - 4) - c.toNat)] aA (fun en g=>∃m,en=.returned (m)/\isIf m/\Br (!(isNilI m)) (R (.returned (m)) g) (∃o:Option Nat,∃t,d=some t/\Rk ((t.add 5)) o g.drew (∃ab ac ad,g.drew.cell? (t.add 5)=some (.slice ab ac ad)/\Rk s o g.drew (∃u v x y z A B,LdV pg 275 s (.agg #[.int .u32 u,.int .u8 v,.int .u32 x,.int .u32 y,.int .u32 z,.int .u32 A,.int .u32 B]) g.drew/\((.agg #[.int .u32 u,.int .u8 v,.int .u32 x,.int .u32 y,.int .u32 z,.int .u32 A,.int .u32 B]:Value).cells).size=7/\gNew (#[.int .u32 u,.int .u8 v,.int .u32 x,.int .u32 y,.int .u32 z,.int .u32 A,.int .u32 B]) 275 (fun aB ae=>g.drew.grownBy ae o/\∃af ag ah C,(Builtin.append_ #[191,191] 191 #[.slice ab ac ad,.slice (some aB) 1 1]).run pg ae=.ok (.slice af ag ah) C/\g.drew.grownBy C o/\∃ai,d=some ai/\∃aj,StV pg 191 (ai.add 5) (.slice af ag ah) C aj/\∃ak,ak < Z/\q (i64.wrap (c+24)) (i64.wrap (n+1)) ak aj) g.drew))))) f)) (Br (decide (c < ((b - 4:Nat):Int))) (0<=c/\c<=((b - 4:Nat):Int)/\∃al,d=some al/\∃i,StV pg 22 (al.add 6) (.slice (cutA (cutA e 4 a 1) c.toNat (a - 4) 1) ((b - 4) - c.toNat) ((a - 4) - c.toNat)) f i/\∃am,d=some am/\∃aC D aD,i.drew.cell? (am.add 5)=some (.slice aC D aD)/\∃E,i.drew.cell? (j.add 1)=some (.int .u8 E)/\Br ((u8.wrap (D:Int)) != E) (∃an,i.drew.cell? (⟨0,0,none⟩)=some (an)/\R (.returned (an)) i.drew) (R (.returned (.nilIface)) i.drew)) (∃ao,d=some ao/\∃aE F aF,f.drew.cell? (ao.add 5)=some (.slice aE F aF)/\∃G,f.drew.cell? (j.add 1)=some (.int .u8 G)/\Br ((u8.wrap (F:Int)) != G) (∃ap,f.drew.cell? (⟨0,0,none⟩)=some (ap)/\R (.returned (ap)) f.drew) (R (.returned (.nilIface)) f.drew)))))))))))) w)
theorem of143 {d e b a R w} (h:SW143 d e b a R w):Calls pg 143 #[.pointer d,.slice e b a] w R:=
  calls_by H143 _ Tryz.func143 h
def H144:Hints:=⟨[],[],[]⟩
def SW144 (a:Option Addr) (b d:Nat) (c:Int) (R:RT) (w:World):Prop:=
  ∃e,Ix a e 3 b (∃o,w.cell? (e.add ((3:Int).toNat*1))=some (.int .u8 o)/\∃f,Ix a f 0 b (∃g,StV pg 5 (f.add ((0:Int).toNat*1)) (.int .u8 (u8.wrap (ishr .u32 c 24))) w g/\∃i,Ix a i 1 b (∃j,StV pg 5 (i.add ((1:Int).toNat*1)) (.int .u8 (u8.wrap (ishr .u32 c 16))) g j/\∃k,Ix a k 2 b (∃l,StV pg 5 (k.add ((2:Int).toNat*1)) (.int .u8 (u8.wrap (ishr .u32 c 8))) j l/\∃m,Ix a m 3 b (∃n,StV pg 5 (m.add ((3:Int).toNat*1)) (.int .u8 (u8.wrap c)) l n/\R (.returned (.tuple #[])) n)))))
theorem of144 {a b d c R w} (h:SW144 a b d c R w):Calls pg 144 #[.slice a b d,.int .u32 c] w R:=
  calls_by H144 _ Tryz.func144 h
def H145:Hints:=⟨[],[],[]⟩
def SW145 (b:Option Addr) (a c:Nat) (d:Int) (R:RT) (w:World):Prop:=
  ∃e,Ix b e 7 a (∃f,w.cell? (e.add ((7:Int).toNat*1))=some (.int .u8 f)/\Calls pg 144 #[.slice b a c,.int .u32 (u32.wrap (ishr .u64 d 32))] w (fun en g=>en=.returned (.tuple #[])/\0<=(4:Int)/\4<=(a:Int)/\Calls pg 144 #[.slice (cutA b 4 c 1) (a - 4) (c - 4),.int .u32 (u32.wrap d)] g (fun en i=>en=.returned (.tuple #[])/\R (.returned (.tuple #[])) i)))
theorem of145 {b a c d R w} (h:SW145 b a c d R w):Calls pg 145 #[.slice b a c,.int .u64 d] w R:=
  calls_by H145 _ Tryz.func145 h
def H146:Hints:=⟨[(5,[0,0,3],7,ons [3,0,5] .done),(10,[0,1,0,4,10],31,ons [1,3,5,6,8] .done),(11,[0,1,0,4,10],31,ons [1,3,5,6,8] .done),(12,[0,1,0,4,10],31,ons [1,3,5,6,8] .done),(13,[0,1,0,4,10],31,ons [1,3,5,6,8] .done)],[],[]⟩
def SW146 (f:Int) (g:Int) (i:Int) (j:Int) (k:Int) (l:Int) (m:Int) (R:RT) (w:World):Prop:=
  gNew (#[.int .u32 f,.int .u8 g,.int .u32 i,.int .u32 j,.int .u32 k,.int .u32 l,.int .u32 m]) 275 (fun d L=>∃c a b n,(Instr.makeSlice 22 (.int .i64 24) (.int .i64 24)).run pg L=.ok (.slice c a b) n/\∃s,n.cell? (d.add 0)=some (.int .u32 s)/\Calls pg 144 #[.slice c a b,.int .u32 s] n (fun en t=>en=.returned (.tuple #[])/\∃u,t.cell? (d.add 1)=some (.int .u8 u)/\∃v,Ix c v 4 a (∃e,StV pg 5 (v.add ((4:Int).toNat*1)) (.int .u8 u) t e/\∃o,e.cell? (d.add 2)=some (.int .u32 o)/\Br (decide (o>=33554432)) (∃x,e.drew.cell? (⟨10,0,none⟩)=some (x)/\R (.returned (.tuple #[.slice none 0 0,x])) e.drew) (0<=(5:Int)/\5<=(a:Int)/\∃y,e.cell? (d.add 2)=some (.int .u32 y)/\∃z,cutA c 5 b 1=some z/\0<=(0:Int)/\0 < ((a - 5:Nat):Int)/\∃p,StV pg 5 (z.add ((0:Int).toNat*1)) (.int .u8 (u8.wrap (ishr .u32 y 16))) e p/\∃A,p.cell? (d.add 2)=some (.int .u32 A)/\∃B,cutA c 5 b 1=some B/\0<=(1:Int)/\1 < ((a - 5:Nat):Int)/\∃q,StV pg 5 (B.add ((1:Int).toNat*1)) (.int .u8 (u8.wrap (ishr .u32 A 8))) p q/\∃C,q.cell? (d.add 2)=some (.int .u32 C)/\∃D,cutA c 5 b 1=some D/\0<=(2:Int)/\2 < ((a - 5:Nat):Int)/\∃r,StV pg 5 (D.add ((2:Int).toNat*1)) (.int .u8 (u8.wrap C)) q r/\0<=(8:Int)/\8<=(a:Int)/\∃E,r.drew.cell? (d.add 3)=some (.int .u32 E)/\Calls pg 144 #[.slice (cutA c 8 b 1) (a - 8) (b - 8),.int .u32 E] r.drew (fun en F=>en=.returned (.tuple #[])/\0<=(12:Int)/\12<=(a:Int)/\∃G,F.drew.cell? (d.add 4)=some (.int .u32 G)/\Calls pg 144 #[.slice (cutA c 12 b 1) (a - 12) (b - 12),.int .u32 G] F.drew (fun en H=>en=.returned (.tuple #[])/\0<=(16:Int)/\16<=(a:Int)/\∃I,H.drew.cell? (d.add 5)=some (.int .u32 I)/\Calls pg 144 #[.slice (cutA c 16 b 1) (a - 16) (b - 16),.int .u32 I] H.drew (fun en J=>en=.returned (.tuple #[])/\0<=(20:Int)/\20<=(a:Int)/\∃K,J.drew.cell? (d.add 6)=some (.int .u32 K)/\Calls pg 144 #[.slice (cutA c 20 b 1) (a - 20) (b - 20),.int .u32 K] J.drew (fun en M=>en=.returned (.tuple #[])/\R (.returned (.tuple #[.slice c a b,.nilIface])) M)))))))) w
theorem of146 {f g i j k l m R w} (h:SW146 f g i j k l m R w):Calls pg 146 #[.agg #[.int .u32 f,.int .u8 g,.int .u32 i,.int .u32 j,.int .u32 k,.int .u32 l,.int .u32 m]] w R:=
  calls_by H146 _ Tryz.func146 h
def H147:Hints:=⟨[(1,[0,1,2,4,8,16,0,64,128,256,512,1056,4095],4096,ons [1,3,5,7,9,11,13,14,17,19,21,23,24] .done)],[],[]⟩
def SW147 (a:Option Addr) (R:RT) (w:World):Prop:=
  gNew #[.bool false,.int .u8 0,.int .u8 0,.int .u16 0] 109 (fun e b=>∃f:Option Nat,∃c,a=some c/\Rk ((c.add 5)) f b.drew (∃o g p,b.drew.cell? (c.add 5)=some (.slice o g p)/\Calls pg 142 #[.pointer a] b.drew (fun en i=>∃j,en=.returned (.int .i64 j)/\b.drew.grownBy i f/\(4:Int)≠0/\∃d,StV pg 109 e (.agg #[.bool false,.int .u8 (u8.wrap (g:Int)),.int .u8 200,.int .u16 (u16.wrap (i64.wrap ((i64.wrap (j.tdiv 4)) - 1)))]) i d/\∃k l m n,LdV pg 109 e (.agg #[.bool k,.int .u8 l,.int .u8 m,.int .u16 n]) d/\R (.returned (.agg #[.bool k,.int .u8 l,.int .u8 m,.int .u16 n])) d))) w
theorem of147 {a R w} (h:SW147 a R w):Calls pg 147 #[.pointer a] w R:=
  calls_by H147 _ Tryz.func147 h
def H148:Hints:=⟨[],[],[]⟩
def SW148 (a:Option Addr) (R:RT) (w:World):Prop:=
  R (.returned (.int .i64 24)) w
theorem of148 {a R w} (h:SW148 a R w):Calls pg 148 #[.pointer a] w R:=
  calls_by H148 _ Tryz.func148 h
def H149:Hints:=⟨[],[],[]⟩
def SW149 (a:Int) (R:RT) (w:World):Prop:=
  (4:Int)≠0/\Br ((a.tmod 4) == 0) (R (.returned (.int .i64 0)) w) ((4:Int)≠0/\R (.returned (.int .i64 (i64.wrap (4 - (a.tmod 4))))) w)
theorem of149 {a R w} (h:SW149 a R w):Calls pg 149 #[.int .i64 a] w R:=
  calls_by H149 _ Tryz.func149 h
def H150:Hints:=⟨[(2,[0,1,2,4,0,16,32,64,128,264,0,1024,2048,4096,8192,16896,0,65536,131072,262144,524288,1081344,4194303],4194304,ons [1,3,5,7,9,11,13,15,17,19,21,23,25,27,29,31,33,35,37,39,41,43,45] .done)],[],[]⟩
def SW150 (a:Option Addr) (b c:Nat) (R:RT) (w:World):Prop:=
  ∃d,Ix a d 3 b (∃n,w.cell? (d.add ((3:Int).toNat*1))=some (.int .u8 n)/\∃e,Ix a e 3 b (∃f,w.drew.cell? (e.add ((3:Int).toNat*1))=some (.int .u8 f)/\∃g,Ix a g 2 b (∃i,w.drew.cell? (g.add ((2:Int).toNat*1))=some (.int .u8 i)/\∃j,Ix a j 1 b (∃k,w.drew.cell? (j.add ((1:Int).toNat*1))=some (.int .u8 k)/\∃l,Ix a l 0 b (∃m,w.drew.cell? (l.add ((0:Int).toNat*1))=some (.int .u8 m)/\R (.returned (.int .u32 (ior .u32 (ior .u32 (ior .u32 (u32.wrap f) (ishl .u32 (u32.wrap i) 8)) (ishl .u32 (u32.wrap k) 16)) (ishl .u32 (u32.wrap m) 24)))) w.drew)))))
theorem of150 {a b c R w} (h:SW150 a b c R w):Calls pg 150 #[.slice a b c] w R:=
  calls_by H150 _ Tryz.func150 h
def H151:Hints:=⟨[(2,[0,1,2,4,0,16,34,64,136,511],1023,ons [1,9,11,2,5,7,12,15,17,19] .done)],[],[]⟩
def SW151 (b:Option Addr) (a c:Nat) (R:RT) (w:World):Prop:=
  ∃d,Ix b d 7 a (∃g,w.cell? (d.add ((7:Int).toNat*1))=some (.int .u8 g)/\0<=(4:Int)/\4<=(a:Int)/\Calls pg 150 #[.slice b a c] w.drew (fun en i=>∃e,en=.returned (.int .u32 e)/\Calls pg 150 #[.slice (cutA b 4 c 1) (a - 4) (c - 4)] i (fun en j=>∃f,en=.returned (.int .u32 f)/\R (.returned (.int .u64 (ior .u64 (ishl .u64 (u64.wrap e) 32) (u64.wrap f)))) j)))
theorem of151 {b a c R w} (h:SW151 b a c R w):Calls pg 151 #[.slice b a c] w R:=
  calls_by H151 _ Tryz.func151 h
def H152:Hints:=⟨[(6,[0,0,2,4,8,0,32,64,128,256,528,0,2048,4096,8192,16384,33792,131071,262143,393215],917504,ons [1,3,5,7,9,11,13,15,17,19,21,23,25,27,29,31,33,35,37,38] .done)],[],[]⟩
def SW152 (d:Option Addr) (c:Option Addr) (a b:Nat) (R:RT) (w:World):Prop:=
  Br (decide ((a:Int) < 24)) (∃g,w.cell? (⟨1,0,none⟩)=some (g)/\R (.returned (g)) w) (Calls pg 150 #[.slice c a b] w (fun en I=>∃i,en=.returned (.int .u32 i)/\∃j,d=some j/\∃f,StV pg 51 (j.add 0) (.int .u32 i) I f/\∃k,Ix c k 4 a (∃l,f.cell? (k.add ((4:Int).toNat*1))=some (.int .u8 l)/\∃m,d=some m/\∃e,StV pg 5 (m.add 1) (.int .u8 l) f e/\0<=(5:Int)/\5<=(a:Int)/\∃n,cutA c 5 b 1=some n/\0<=(2:Int)/\2 < ((a - 5:Nat):Int)/\∃o,e.drew.cell? (n.add ((2:Int).toNat*1))=some (.int .u8 o)/\∃p,cutA c 5 b 1=some p/\0<=(1:Int)/\1 < ((a - 5:Nat):Int)/\∃q,e.drew.cell? (p.add ((1:Int).toNat*1))=some (.int .u8 q)/\∃r,cutA c 5 b 1=some r/\0<=(0:Int)/\0 < ((a - 5:Nat):Int)/\∃s,e.drew.cell? (r.add ((0:Int).toNat*1))=some (.int .u8 s)/\∃t,d=some t/\∃u,StV pg 51 (t.add 2) (.int .u32 (ior .u32 (ior .u32 (u32.wrap o) (ishl .u32 (u32.wrap q) 8)) (ishl .u32 (u32.wrap s) 16))) e.drew u/\0<=(8:Int)/\8<=(a:Int)/\Calls pg 150 #[.slice (cutA c 8 b 1) (a - 8) (b - 8)] u (fun en J=>∃v,en=.returned (.int .u32 v)/\∃x,d=some x/\∃y,StV pg 51 (x.add 3) (.int .u32 v) J y/\0<=(12:Int)/\12<=(a:Int)/\Calls pg 150 #[.slice (cutA c 12 b 1) (a - 12) (b - 12)] y (fun en K=>∃z,en=.returned (.int .u32 z)/\∃A,d=some A/\∃B,StV pg 51 (A.add 4) (.int .u32 z) K B/\0<=(16:Int)/\16<=(a:Int)/\Calls pg 150 #[.slice (cutA c 16 b 1) (a - 16) (b - 16)] B (fun en L=>∃C,en=.returned (.int .u32 C)/\∃D,d=some D/\∃E,StV pg 51 (D.add 5) (.int .u32 C) L E/\0<=(20:Int)/\20<=(a:Int)/\Calls pg 150 #[.slice (cutA c 20 b 1) (a - 20) (b - 20)] E (fun en M=>∃F,en=.returned (.int .u32 F)/\∃G,d=some G/\∃H,StV pg 51 (G.add 6) (.int .u32 F) M H/\R (.returned (.nilIface)) H)))))))
theorem of152 {d c a b R w} (h:SW152 d c a b R w):Calls pg 152 #[.pointer d,.slice c a b] w R:=
  calls_by H152 _ Tryz.func152 h
def H154:Hints:=⟨[(14,[0,0,3],7,ons [3,0,5] .done),(15,[0,0,2,4,8,16,33,0,128,320],0,ons [1,3,5,7,9,11,13,15,17,18] .done)],[(0,[(24,3)],[2,3,6,7,8,9,10]++rg 24 22)],[]⟩
def SW154 (k:Int) (l:Option Addr) (m n:Nat) (o:Option Addr) (p q:Nat) (R:RT) (w:World):Prop:=
  gNew (#[.int .u32 k,.slice l m n,.slice o p q]) 197 (fun d ao=>Calls pg 155 #[.pointer (some d)] ao (fun en ap=>∃s,en=.returned (.int .i64 s)/\∃f e b t,(Instr.makeSlice 22 (.int .i64 s) (.int .i64 s)).run pg ap=.ok (.slice f e b) t/\0<=(4:Int)/\4<=(e:Int)/\∃A,t.cell? (d.add 0)=some (.int .u32 A)/\Calls pg 144 #[.slice (cutA f 4 b 1) (e - 4) (b - 4),.int .u32 A] t (fun en B=>en=.returned (.tuple #[])/\∃C r aq,B.cell? (d.add 1)=some (.slice C r aq)/\∃u:Int->NP,(∃ar,u 0 ar B)/\∀(aE:NV) (c:Int) (D:Nat) (a:World),u c D a->Br (decide (c < (r:Int))) (∃E,Ix C E c r (∃F G H I J K L,LdV pg 275 (E.add (c.toNat*7)) (.agg #[.int .u32 F,.int .u8 G,.int .u32 H,.int .u32 I,.int .u32 J,.int .u32 K,.int .u32 L]) a/\gNew #[.int .u32 0,.int .u8 0,.int .u32 0,.int .u32 0,.int .u32 0,.int .u32 0,.int .u32 0] 275 (fun M au=>∃v,StV pg 275 M (.agg #[.int .u32 F,.int .u8 G,.int .u32 H,.int .u32 I,.int .u32 J,.int .u32 K,.int .u32 L]) au v/\∃N O P Q S T U,LdV pg 275 M (.agg #[.int .u32 N,.int .u8 O,.int .u32 P,.int .u32 Q,.int .u32 S,.int .u32 T,.int .u32 U]) v/\Calls pg 146 #[.agg #[.int .u32 N,.int .u8 O,.int .u32 P,.int .u32 Q,.int .u32 S,.int .u32 T,.int .u32 U]] v (fun en V=>∃W X Y i,en=.returned (.tuple #[.slice W X Y,i])/\isIf i/\Br (!(isNilI i)) (R (.returned (.tuple #[.slice none 0 0,i])) V) (0<=i64.wrap (4+(i64.wrap (24*c)))/\i64.wrap (4+(i64.wrap (24*c)))<=((e - 4:Nat):Int)/\∃av Z,(Builtin.copy_ #[22,22] 3 #[.slice (cutA (cutA f 4 b 1) ((i64.wrap (4+(i64.wrap (24*c)))).toNat) (b - 4) 1) ((e - 4) - ((i64.wrap (4+(i64.wrap (24*c)))).toNat)) ((b - 4) - ((i64.wrap (4+(i64.wrap (24*c)))).toNat)),.slice W X Y]).run pg V=.ok (.int .i64 av) Z/\∃aa,aa < D/\u (i64.wrap (c+1)) aa Z))) a)) (∃ax x ay,a.cell? (d.add 1)=some (.slice ax x ay)/\Br (decide ((x:Int) > 31)) (∃ab,a.drew.cell? (⟨8,0,none⟩)=some (ab)/\R (.returned (.tuple #[.slice none 0 0,ab])) a.drew) (∃y:Option Nat,Rk ((d.add 1)) y a.drew (∃az g aA,a.drew.cell? (d.add 1)=some (.slice az g aA)/\0<=i64.wrap (4+(i64.wrap (24*(g:Int))))/\i64.wrap (4+(i64.wrap (24*(g:Int))))<=((e - 4:Nat):Int)/\Rk ((d.add 2)) y a.drew (∃ac ad ae,a.drew.cell? (d.add 2)=some (.slice ac ad ae)/\∃aB z,(Builtin.copy_ #[22,22] 3 #[.slice (cutA (cutA f 4 b 1) ((i64.wrap (4+(i64.wrap (24*(g:Int))))).toNat) (b - 4) 1) ((e - 4) - ((i64.wrap (4+(i64.wrap (24*(g:Int))))).toNat)) ((b - 4) - ((i64.wrap (4+(i64.wrap (24*(g:Int))))).toNat)),.slice ac ad ae]).run pg a.drew=.ok (.int .i64 aB) z/\a.drew.grownBy z y/\Calls pg 157 #[.pointer (some d)] z (fun en aC=>∃af ag ah ai,en=.returned (.agg #[.bool af,.int .u8 ag,.int .u8 ah,.int .u16 ai])/\Calls pg 52 #[.agg #[.bool af,.int .u8 ag,.int .u8 ah,.int .u16 ai]] aC (fun en aj=>∃ak al am j,en=.returned (.tuple #[.slice ak al am,j])/\isIf j/\Br (!(isNilI j)) (R (.returned (.tuple #[.slice none 0 0,j])) aj) (∃aD an,(Builtin.copy_ #[22,22] 3 #[.slice f e b,.slice ak al am]).run pg aj=.ok (.int .i64 aD) an/\R (.returned (.tuple #[.slice f e b,.nilIface])) an)))))))))) w
theorem of154 {k l m n o p q R w} (h:SW154 k l m n o p q R w):Calls pg 154 #[.agg #[.int .u32 k,.slice l m n,.slice o p q]] w R:=
  calls_by H154 _ Tryz.func154 h
def H155:Hints:=⟨[],[(0,[(3,3),(12,3)],[3,5]++rg 12 8)],[]⟩
def SW155 (b:Option Addr) (R:RT) (w:World):Prop:=
  ∃i,b=some i/\∃j d A,w.cell? (i.add 1)=some (.slice j d A)/\∃e:Int->Int->NP,(∃B,e 0 0 B w)/\∀(H:NV) (f:Int) (a:Int) (k:Nat) (c:World),e f a k c->Br (decide (a < (d:Int))) (∃l,Ix j l a d (∃m n o p q r s,LdV pg 275 (l.add (a.toNat*7)) (.agg #[.int .u32 m,.int .u8 n,.int .u32 o,.int .u32 p,.int .u32 q,.int .u32 r,.int .u32 s]) c/\gNew #[.int .u32 0,.int .u8 0,.int .u32 0,.int .u32 0,.int .u32 0,.int .u32 0,.int .u32 0] 275 (fun t C=>∃u,StV pg 275 t (.agg #[.int .u32 m,.int .u8 n,.int .u32 o,.int .u32 p,.int .u32 q,.int .u32 r,.int .u32 s]) C u/\Calls pg 148 #[.pointer (some t)] u (fun en D=>∃v,en=.returned (.int .i64 v)/\∃x,x < k/\e (i64.wrap (f+v)) (i64.wrap (a+1)) x D)) c)) (∃y,b=some y/\∃E g F,c.cell? (y.add 2)=some (.slice E g F)/\Calls pg 149 #[.int .i64 (g:Int)] c (fun en G=>∃z,en=.returned (.int .i64 z)/\R (.returned (.int .i64 (i64.wrap ((i64.wrap ((i64.wrap (8+f))+(g:Int)))+z)))) G))
theorem of155 {b R w} (h:SW155 b R w):Calls pg 155 #[.pointer b] w R:=
  calls_by H155 _ Tryz.func155 h
def H156:Hints:=⟨[(11,[0,0,2,5,8,16,48,80,144,272,16,1040,2064,4624,8208],0,ons [1,3,5,7,9,11,13,15,17,19,21,23,25,27,29] .done),(17,[0,0,2,4,8,0,32,80,255,511,767],1792,ons [1,3,5,7,9,11,12,14,17,19,20] .done),(19,[0,1,2,4,8,16,0,64,160],0,ons [1,3,5,7,9,11,13,15,17] .done)],[(0,[(7,3)],[4,7,8,9]++rg 29 34)],[]⟩
def SW156 (b:Option Addr) (e:Option Addr) (a c:Nat) (R:RT) (w:World):Prop:=
  Br (decide ((a:Int) < 8)) (∃K,w.cell? (⟨1,0,none⟩)=some (K)/\R (.returned (K)) w) (gNew #[.bool false,.int .u8 0,.int .u8 0,.int .u16 0] 109 (fun m ak=>Calls pg 55 #[.pointer (some m),.slice e a c] ak (fun en n=>∃o,en=.returned (o)/\isIf o/\Br (!(isNilI o)) (R (.returned (o)) n) (∃r,n.cell? (m.add 2)=some (.int .u8 r)/\Br (r != 201) (∃L,n.cell? (⟨9,0,none⟩)=some (L)/\R (.returned (L)) n) (0<=(4:Int)/\4<=(a:Int)/\Calls pg 150 #[.slice (cutA e 4 c 1) (a - 4) (c - 4)] n (fun en al=>∃M,en=.returned (.int .u32 M)/\∃N,b=some N/\∃O,StV pg 51 (N.add 0) (.int .u32 M) al O/\∃s:Int->NP,(∃am,s 8 am O)/\∀(aC:NV) (d:Int) (P:Nat) (f:World),s d P f->Br (decide (d < (a:Int))) (∃Q,b=some Q/\∃an t ao,f.drew.cell? (Q.add 1)=some (.slice an t ao)/\∃u,f.drew.cell? (m.add 1)=some (.int .u8 u)/\Br (decide ((t:Int) < (i64.wrap u))) (gNew #[.int .u32 0,.int .u8 0,.int .u32 0,.int .u32 0,.int .u32 0,.int .u32 0,.int .u32 0] 275 (fun v ap=>0<=d/\d<=(a:Int)/\Calls pg 152 #[.pointer (some v),.slice (cutA e d.toNat c 1) (a - d.toNat) (c - d.toNat)] ap (fun en g=>∃p,en=.returned (p)/\isIf p/\Br (!(isNilI p)) (R (.returned (p)) g) (∃q:Option Nat,∃x,b=some x/\Rk ((x.add 1)) q g.drew (∃S T U,g.drew.cell? (x.add 1)=some (.slice S T U)/\Rk v q g.drew (∃y z A B C D E,LdV pg 275 v (.agg #[.int .u32 y,.int .u8 z,.int .u32 A,.int .u32 B,.int .u32 C,.int .u32 D,.int .u32 E]) g.drew/\((.agg #[.int .u32 y,.int .u8 z,.int .u32 A,.int .u32 B,.int .u32 C,.int .u32 D,.int .u32 E]:Value).cells).size=7/\gNew (#[.int .u32 y,.int .u8 z,.int .u32 A,.int .u32 B,.int .u32 C,.int .u32 D,.int .u32 E]) 275 (fun aq V=>g.drew.grownBy V q/\∃W X Y F,(Builtin.append_ #[191,191] 191 #[.slice S T U,.slice (some aq) 1 1]).run pg V=.ok (.slice W X Y) F/\g.drew.grownBy F q/\∃Z,b=some Z/\∃aa,StV pg 191 (Z.add 1) (.slice W X Y) F aa/\∃ab,ab < P/\s (i64.wrap (d+24)) ab aa) g.drew))))) f.drew) (∃ac,b=some ac/\∃ar i au,f.drew.cell? (ac.add 1)=some (.slice ar i au)/\0<=i64.wrap (8+(i64.wrap ((i:Int)*24)))/\i64.wrap (8+(i64.wrap ((i:Int)*24)))<=(a:Int)/\∃ad,b=some ad/\∃j,StV pg 22 (ad.add 2) (.slice (cutA e ((i64.wrap (8+(i64.wrap ((i:Int)*24)))).toNat) c 1) (a - ((i64.wrap (8+(i64.wrap ((i:Int)*24)))).toNat)) (c - ((i64.wrap (8+(i64.wrap ((i:Int)*24)))).toNat))) f.drew j/\∃ae,b=some ae/\∃av G ax,j.drew.cell? (ae.add 1)=some (.slice av G ax)/\∃H,j.drew.cell? (m.add 1)=some (.int .u8 H)/\Br ((u8.wrap (G:Int)) != H) (∃af,j.drew.cell? (⟨0,0,none⟩)=some (af)/\R (.returned (af)) j.drew) (R (.returned (.nilIface)) j.drew))) (∃ag,b=some ag/\∃ay k az,f.drew.cell? (ag.add 1)=some (.slice ay k az)/\0<=i64.wrap (8+(i64.wrap ((k:Int)*24)))/\i64.wrap (8+(i64.wrap ((k:Int)*24)))<=(a:Int)/\∃ah,b=some ah/\∃l,StV pg 22 (ah.add 2) (.slice (cutA e ((i64.wrap (8+(i64.wrap ((k:Int)*24)))).toNat) c 1) (a - ((i64.wrap (8+(i64.wrap ((k:Int)*24)))).toNat)) (c - ((i64.wrap (8+(i64.wrap ((k:Int)*24)))).toNat))) f.drew l/\∃ai,b=some ai/\∃aA I aB,l.drew.cell? (ai.add 1)=some (.slice aA I aB)/\∃J,l.drew.cell? (m.add 1)=some (.int .u8 J)/\Br ((u8.wrap (I:Int)) != J) (∃aj,l.drew.cell? (⟨0,0,none⟩)=some (aj)/\R (.returned (aj)) l.drew) (R (.returned (.nilIface)) l.drew))))))) w)
theorem of156 {b e a c R w} (h:SW156 b e a c R w):Calls pg 156 #[.pointer b,.slice e a c] w R:=
  calls_by H156 _ Tryz.func156 h
def H157:Hints:=⟨[(1,[0,1,2,4,8,16,0,64,128,256,512,1056,4095],4096,ons [1,3,5,7,9,11,13,14,17,19,21,23,24] .done)],[],[]⟩
def SW157 (a:Option Addr) (R:RT) (w:World):Prop:=
  gNew #[.bool false,.int .u8 0,.int .u8 0,.int .u16 0] 109 (fun e b=>∃f:Option Nat,∃c,a=some c/\Rk ((c.add 1)) f b.drew (∃o g p,b.drew.cell? (c.add 1)=some (.slice o g p)/\Calls pg 155 #[.pointer a] b.drew (fun en i=>∃j,en=.returned (.int .i64 j)/\b.drew.grownBy i f/\(4:Int)≠0/\∃d,StV pg 109 e (.agg #[.bool false,.int .u8 (u8.wrap (g:Int)),.int .u8 201,.int .u16 (u16.wrap (i64.wrap ((i64.wrap (j.tdiv 4)) - 1)))]) i d/\∃k l m n,LdV pg 109 e (.agg #[.bool k,.int .u8 l,.int .u8 m,.int .u16 n]) d/\R (.returned (.agg #[.bool k,.int .u8 l,.int .u8 m,.int .u16 n])) d))) w
theorem of157 {a R w} (h:SW157 a R w):Calls pg 157 #[.pointer a] w R:=
  calls_by H157 _ Tryz.func157 h
def H159:Hints:=⟨[(14,[0,0,3],7,ons [3,0,5] .done)],[(0,[(6,3),(20,3)],[2,3,6,8,9,10]++rg 20 22)],[]⟩
def SW159 (i:Option Addr) (j k:Nat) (R:RT) (w:World):Prop:=
  gNew (#[.slice i j k]) 252 (fun l X=>Calls pg 160 #[.pointer (some l)] X (fun en Y=>∃o,en=.returned (.int .i64 o)/\∃m c d p,(Instr.makeSlice 22 (.int .i64 o) (.int .i64 o)).run pg Y=.ok (.slice m c d) p/\0<=(4:Int)/\4<=(c:Int)/\∃u n Z,p.cell? (l.add 0)=some (.slice u n Z)/\∃q:Int->Int->NP,(∃aa,q 0 0 aa p)/\∀(ah:NV) (a:Int) (e:Int) (v:Nat) (b:World),q a e v b->Br (decide (e < (n:Int))) (∃x,Ix u x e n (∃y z A B,LdV pg 255 (x.add (e.toNat*2)) (.agg #[.int .u32 y,.slice z A B]) b/\gNew #[.int .u32 0,.slice none 0 0] 255 (fun C ab=>∃r,StV pg 255 C (.agg #[.int .u32 y,.slice z A B]) ab r/\∃D E F G,LdV pg 255 C (.agg #[.int .u32 D,.slice E F G]) r/\Calls pg 162 #[.agg #[.int .u32 D,.slice E F G]] r (fun en H=>∃I s J f,en=.returned (.tuple #[.slice I s J,f])/\isIf f/\Br (!(isNilI f)) (R (.returned (.tuple #[.slice none 0 0,f])) H) (0<=a/\a<=((c - 4:Nat):Int)/\∃ac K,(Builtin.copy_ #[22,22] 3 #[.slice (cutA (cutA m 4 d 1) a.toNat (d - 4) 1) ((c - 4) - a.toNat) ((d - 4) - a.toNat),.slice I s J]).run pg H=.ok (.int .i64 ac) K/\∃L,L < v/\q (i64.wrap (a+(s:Int))) (i64.wrap (e+1)) L K))) b)) (∃ad t ae,b.cell? (l.add 0)=some (.slice ad t ae)/\Br (decide ((t:Int) > 31)) (∃M,b.drew.cell? (⟨11,0,none⟩)=some (M)/\R (.returned (.tuple #[.slice none 0 0,M])) b.drew) (Calls pg 163 #[.pointer (some l)] b (fun en af=>∃N O P Q,en=.returned (.agg #[.bool N,.int .u8 O,.int .u8 P,.int .u16 Q])/\Calls pg 52 #[.agg #[.bool N,.int .u8 O,.int .u8 P,.int .u16 Q]] af (fun en S=>∃T U V g,en=.returned (.tuple #[.slice T U V,g])/\isIf g/\Br (!(isNilI g)) (R (.returned (.tuple #[.slice none 0 0,g])) S) (∃ag W,(Builtin.copy_ #[22,22] 3 #[.slice m c d,.slice T U V]).run pg S=.ok (.int .i64 ag) W/\R (.returned (.tuple #[.slice m c d,.nilIface])) W))))))) w
theorem of159 {i j k R w} (h:SW159 i j k R w):Calls pg 159 #[.agg #[.slice i j k]] w R:=
  calls_by H159 _ Tryz.func159 h
def H160:Hints:=⟨[],[(0,[(3,3),(11,3)],[3,5]++rg 11 9)],[]⟩
def SW160 (b:Option Addr) (R:RT) (w:World):Prop:=
  ∃i,b=some i/\∃j c y,w.cell? (i.add 0)=some (.slice j c y)/\∃e:Int->Int->NP,(∃z,e 0 0 z w)/\∀(C:NV) (f:Int) (a:Int) (k:Nat) (d:World),e f a k d->Br (decide (a < (c:Int))) (∃l,Ix j l a c (∃m n o p,LdV pg 255 (l.add (a.toNat*2)) (.agg #[.int .u32 m,.slice n o p]) d/\gNew #[.int .u32 0,.slice none 0 0] 255 (fun q A=>∃g,StV pg 255 q (.agg #[.int .u32 m,.slice n o p]) A g/\∃r s t u,LdV pg 255 q (.agg #[.int .u32 r,.slice s t u]) g/\Calls pg 164 #[.agg #[.int .u32 r,.slice s t u]] g (fun en B=>∃v,en=.returned (.int .i64 v)/\∃x,x < k/\e (i64.wrap (f+v)) (i64.wrap (a+1)) x B)) d)) (R (.returned (.int .i64 (i64.wrap (4+f)))) d)
theorem of160 {b R w} (h:SW160 b R w):Calls pg 160 #[.pointer b] w R:=
  calls_by H160 _ Tryz.func160 h
def H161:Hints:=⟨[(13,[0,0,2,4,8,0,32,80,255,511,767],1792,ons [1,3,5,7,9,11,12,14,17,19,20] .done),(15,[0,1,2,4,8,0,32,64,144],0,ons [1,3,5,7,9,11,13,15,17] .done)],[(0,[(7,3)],[4,7,8,9]++rg 19 25)],[]⟩
def SW161 (e:Option Addr) (g:Option Addr) (b f:Nat) (R:RT) (w:World):Prop:=
  gNew #[.bool false,.int .u8 0,.int .u8 0,.int .u16 0] 109 (fun n T=>Calls pg 55 #[.pointer (some n),.slice g b f] T (fun en i=>∃j,en=.returned (j)/\isIf j/\Br (!(isNilI j)) (R (.returned (j)) i) (∃o,i.cell? (n.add 2)=some (.int .u8 o)/\Br (o != 202) (∃A,i.cell? (⟨9,0,none⟩)=some (A)/\R (.returned (A)) i) (∃p:Int->NP,(∃U,p 4 U i)/\∀(aa:NV) (a:Int) (B:Nat) (d:World),p a B d->Br (decide (a < (b:Int))) (gNew #[.int .u32 0,.slice none 0 0] 255 (fun l V=>0<=a/\a<=(b:Int)/\Calls pg 165 #[.pointer (some l),.slice (cutA g a.toNat f 1) (b - a.toNat) (f - a.toNat)] V (fun en c=>∃k,en=.returned (k)/\isIf k/\Br (!(isNilI k)) (R (.returned (k)) c) (∃m:Option Nat,∃q,e=some q/\Rk ((q.add 0)) m c.drew (∃C D E,c.drew.cell? (q.add 0)=some (.slice C D E)/\Rk l m c.drew (∃r s t u,LdV pg 255 l (.agg #[.int .u32 r,.slice s t u]) c.drew/\((.agg #[.int .u32 r,.slice s t u]:Value).cells).size=2/\gNew (#[.int .u32 r,.slice s t u]) 255 (fun W F=>c.drew.grownBy F m/\∃G H I v,(Builtin.append_ #[250,250] 250 #[.slice C D E,.slice (some W) 1 1]).run pg F=.ok (.slice G H I) v/\c.drew.grownBy v m/\∃J,e=some J/\∃x,StV pg 250 (J.add 0) (.slice G H I) v x/\∃K L M N,LdV pg 255 l (.agg #[.int .u32 K,.slice L M N]) x/\Calls pg 164 #[.agg #[.int .u32 K,.slice L M N]] x (fun en X=>∃O,en=.returned (.int .i64 O)/\∃P,P < B/\p (i64.wrap (a+O)) P X)) c.drew))))) d) (∃Q,e=some Q/\∃Y y Z,d.drew.cell? (Q.add 0)=some (.slice Y y Z)/\∃z,d.drew.cell? (n.add 1)=some (.int .u8 z)/\Br ((y:Int) != (i64.wrap z)) (∃S,d.drew.cell? (⟨0,0,none⟩)=some (S)/\R (.returned (S)) d.drew) (R (.returned (.nilIface)) d.drew)))))) w
theorem of161 {e g b f R w} (h:SW161 e g b f R w):Calls pg 161 #[.pointer e,.slice g b f] w R:=
  calls_by H161 _ Tryz.func161 h
def H162:Hints:=⟨[],[(0,[(4,22),(17,3)],[2,3,4,6,7,8]++rg 17 16)],[]⟩
def SW162 (c:Int) (d:Option Addr) (e f:Nat) (R:RT) (w:World):Prop:=
  gNew (#[.int .u32 c,.slice d e f]) 255 (fun t X=>∃j k l m,(Instr.makeSlice 22 (.int .i64 4) (.int .i64 4)).run pg X=.ok (.slice j k l) m/\∃u,m.cell? (t.add 0)=some (.int .u32 u)/\Calls pg 144 #[.slice j k l,.int .u32 u] m (fun en v=>en=.returned (.tuple #[])/\∃x g Y,v.cell? (t.add 1)=some (.slice x g Y)/\∃n:Option Addr->Nat->Nat->Int->NP,(∃Z,n j k l 0 Z v)/\∀(ae:NV) (o:Option Addr) (p q:Nat) (a:Int) (y:Nat) (i:World),n o p q a y i->Br (decide (a < (g:Int))) (∃z,Ix x z a g (∃A B,LdV pg 258 (z.add (a.toNat*2)) (.agg #[.int .u8 A,.string B]) i/\gNew #[.int .u8 0,.string (ByteArray.mk #[])] 258 (fun C aa=>∃r,StV pg 258 C (.agg #[.int .u8 A,.string B]) aa r/\∃D E,LdV pg 258 C (.agg #[.int .u8 D,.string E]) r/\Calls pg 166 #[.agg #[.int .u8 D,.string E]] r (fun en F=>∃G H I b,en=.returned (.tuple #[.slice G H I,b])/\isIf b/\Br (!(isNilI b)) (R (.returned (.tuple #[.slice none 0 0,b])) F) (∃J K L M,(Builtin.append_ #[22,22] 22 #[.slice o p q,.slice G H I]).run pg F=.ok (.slice J K L) M/\∃N,N < y/\n J K L (i64.wrap (a+1)) N M))) i)) (((.int .u8 0:Value).cells).size=1/\gNew (#[.int .u8 0]) 5 (fun ab ac=>∃O s P Q,(Builtin.append_ #[22,22] 22 #[.slice o p q,.slice (some ab) 1 1]).run pg ac=.ok (.slice O s P) Q/\Calls pg 149 #[.int .i64 (s:Int)] Q (fun en ad=>∃S,en=.returned (.int .i64 S)/\∃T U V W,(Builtin.append_ #[22,3] 22 #[.slice O s P,.int .i64 S]).run pg ad=.ok (.slice T U V) W/\R (.returned (.tuple #[.slice T U V,.nilIface])) W)) i))) w
theorem of162 {c d e f R w} (h:SW162 c d e f R w):Calls pg 162 #[.agg #[.int .u32 c,.slice d e f]] w R:=
  calls_by H162 _ Tryz.func162 h
def H163:Hints:=⟨[(1,[0,1,2,4,8,16,0,64,128,256,512,1056,4095],4096,ons [1,3,5,7,9,11,13,14,17,19,21,23,24] .done)],[],[]⟩
def SW163 (a:Option Addr) (R:RT) (w:World):Prop:=
  gNew #[.bool false,.int .u8 0,.int .u8 0,.int .u16 0] 109 (fun e b=>∃f:Option Nat,∃c,a=some c/\Rk ((c.add 0)) f b.drew (∃o g p,b.drew.cell? (c.add 0)=some (.slice o g p)/\Calls pg 160 #[.pointer a] b.drew (fun en i=>∃j,en=.returned (.int .i64 j)/\b.drew.grownBy i f/\(4:Int)≠0/\∃d,StV pg 109 e (.agg #[.bool false,.int .u8 (u8.wrap (g:Int)),.int .u8 202,.int .u16 (u16.wrap (i64.wrap ((i64.wrap (j.tdiv 4)) - 1)))]) i d/\∃k l m n,LdV pg 109 e (.agg #[.bool k,.int .u8 l,.int .u8 m,.int .u16 n]) d/\R (.returned (.agg #[.bool k,.int .u8 l,.int .u8 m,.int .u16 n])) d))) w
theorem of163 {a R w} (h:SW163 a R w):Calls pg 163 #[.pointer a] w R:=
  calls_by H163 _ Tryz.func163 h
def H164:Hints:=⟨[],[(0,[(3,3),(9,3)],[3,5]++rg 9 9)],[]⟩
def SW164 (b:Int) (c:Option Addr) (d e:Nat) (R:RT) (w:World):Prop:=
  gNew (#[.int .u32 b,.slice c d e]) 255 (fun y l=>∃m f z,l.cell? (y.add 1)=some (.slice m f z)/\∃j:Int->Int->NP,(∃A,j 4 0 A l)/\∀(E:NV) (g:Int) (a:Int) (n:Nat) (i:World),j g a n i->Br (decide (a < (f:Int))) (∃o,Ix m o a f (∃p q,LdV pg 258 (o.add (a.toNat*2)) (.agg #[.int .u8 p,.string q]) i/\gNew #[.int .u8 0,.string (ByteArray.mk #[])] 258 (fun r B=>∃k,StV pg 258 r (.agg #[.int .u8 p,.string q]) B k/\∃s t,LdV pg 258 r (.agg #[.int .u8 s,.string t]) k/\Calls pg 167 #[.agg #[.int .u8 s,.string t]] k (fun en C=>∃u,en=.returned (.int .i64 u)/\∃v,v < n/\j (i64.wrap (g+u)) (i64.wrap (a+1)) v C)) i)) (Calls pg 149 #[.int .i64 (i64.wrap (g+1))] i (fun en D=>∃x,en=.returned (.int .i64 x)/\R (.returned (.int .i64 (i64.wrap ((i64.wrap (g+1))+x)))) D))) w
theorem of164 {b c d e R w} (h:SW164 b c d e R w):Calls pg 164 #[.agg #[.int .u32 b,.slice c d e]] w R:=
  calls_by H164 _ Tryz.func164 h
def H165:Hints:=⟨[(13,[0,0,2,4,8,0,32,80,255,511,767],1792,ons [1,3,5,7,9,11,12,14,17,19,20] .done)],[(0,[(5,3)],[4,5,6,7,8]++rg 18 31)],[]⟩
def SW165 (d:Option Addr) (e:Option Addr) (a f:Nat) (R:RT) (w:World):Prop:=
  Br (decide ((a:Int) < 5)) (∃s,w.cell? (⟨1,0,none⟩)=some (s)/\R (.returned (s)) w) (Calls pg 150 #[.slice e a f] w (fun en M=>∃t,en=.returned (.int .u32 t)/\∃u,d=some u/\∃v,StV pg 51 (u.add 0) (.int .u32 t) M v/\∃l:Int->NP,(∃N,l 4 N v)/\∀(S:NV) (b:Int) (x:Nat) (g:World),l b x g->Br (decide (b < (a:Int))) (∃y,Ix e y b a (∃m,g.cell? (y.add (b.toNat*1))=some (.int .u8 m)/\Br (m == 0) (R (.returned (.nilIface)) g) (gNew #[.int .u8 0,.string (ByteArray.mk #[])] 258 (fun j O=>0<=b/\b<=(a:Int)/\Calls pg 168 #[.pointer (some j),.slice (cutA e b.toNat f 1) (a - b.toNat) (f - b.toNat)] O (fun en c=>∃i,en=.returned (i)/\isIf i/\Br (!(isNilI i)) (R (.returned (i)) c) (∃k:Option Nat,∃n,d=some n/\Rk ((n.add 1)) k c.drew (∃z A B,c.drew.cell? (n.add 1)=some (.slice z A B)/\Rk j k c.drew (∃o p,LdV pg 258 j (.agg #[.int .u8 o,.string p]) c.drew/\((.agg #[.int .u8 o,.string p]:Value).cells).size=2/\gNew (#[.int .u8 o,.string p]) 258 (fun P C=>c.drew.grownBy C k/\∃D E F q,(Builtin.append_ #[253,253] 253 #[.slice z A B,.slice (some P) 1 1]).run pg C=.ok (.slice D E F) q/\c.drew.grownBy q k/\∃G,d=some G/\∃r,StV pg 253 (G.add 1) (.slice D E F) q r/\∃H I,LdV pg 258 j (.agg #[.int .u8 H,.string I]) r/\Calls pg 167 #[.agg #[.int .u8 H,.string I]] r (fun en Q=>∃J,en=.returned (.int .i64 J)/\∃K,K < x/\l (i64.wrap (b+J)) K Q)) c.drew))))) g))) (∃L,g.cell? (⟨1,0,none⟩)=some (L)/\R (.returned (L)) g)))
theorem of165 {d e a f R w} (h:SW165 d e a f R w):Calls pg 165 #[.pointer d,.slice e a f] w R:=
  calls_by H165 _ Tryz.func165 h
def H166:Hints:=⟨[(2,[0,0,3],7,ons [3,0,5] .done),(8,[0,0,3],7,ons [3,0,5] .done)],[],[]⟩
def SW166 (b:Int) (c:ByteArray) (R:RT) (w:World):Prop:=
  gNew (#[.int .u8 b,.string c]) 258 (fun i d=>∃j,d.cell? (i.add 0)=some (.int .u8 j)/\Br (j == 0) (∃m,d.drew.cell? (⟨12,0,none⟩)=some (m)/\R (.returned (.tuple #[.slice none 0 0,m])) d.drew) (∃e f n k,(Instr.makeSlice 22 (.int .i64 2) (.int .i64 2)).run pg d=.ok (.slice e f n) k/\∃o,k.cell? (i.add 0)=some (.int .u8 o)/\∃p,Ix e p 0 f (∃l,StV pg 5 (p.add ((0:Int).toNat*1)) (.int .u8 o) k l/\∃q,l.cell? (i.add 1)=some (.string q)/\∃r a s g,(convert 9 22 (.string q)).run pg l=.ok (.slice r a s) g/\Br (decide ((a:Int) > 255)) (∃t,g.drew.cell? (⟨13,0,none⟩)=some (t)/\R (.returned (.tuple #[.slice none 0 0,t])) g.drew) (∃u,Ix e u 1 f (∃v,StV pg 5 (u.add ((1:Int).toNat*1)) (.int .u8 (u8.wrap (a:Int))) g v/\∃x y z A,(Builtin.append_ #[22,22] 22 #[.slice e f n,.slice r a s]).run pg v=.ok (.slice x y z) A/\R (.returned (.tuple #[.slice x y z,.nilIface])) A))))) w
theorem of166 {b c R w} (h:SW166 b c R w):Calls pg 166 #[.agg #[.int .u8 b,.string c]] w R:=
  calls_by H166 _ Tryz.func166 h
def H167:Hints:=⟨[],[],[]⟩
def SW167 (a:Int) (b:ByteArray) (R:RT) (w:World):Prop:=
  gNew (#[.int .u8 a,.string b]) 258 (fun g c=>∃d,c.cell? (g.add 1)=some (.string d)/\∃i e j f,(convert 9 22 (.string d)).run pg c=.ok (.slice i e j) f/\R (.returned (.int .i64 (i64.wrap (2+(e:Int))))) f) w
theorem of167 {a b R w} (h:SW167 a b R w):Calls pg 167 #[.agg #[.int .u8 a,.string b]] w R:=
  calls_by H167 _ Tryz.func167 h
def H168:Hints:=⟨[],[],[]⟩
def SW168 (e:Option Addr) (c:Option Addr) (a d:Nat) (R:RT) (w:World):Prop:=
  Br (decide ((a:Int) < 2)) (∃g,w.cell? (⟨1,0,none⟩)=some (g)/\R (.returned (g)) w) (∃i,Ix c i 0 a (∃j,w.cell? (i.add ((0:Int).toNat*1))=some (.int .u8 j)/\∃k,e=some k/\∃f,StV pg 256 (k.add 0) (.int .u8 j) w f/\∃l,Ix c l 1 a (∃b,f.cell? (l.add ((1:Int).toNat*1))=some (.int .u8 b)/\Br (decide ((i64.wrap (2+(i64.wrap b))) > (a:Int))) (∃m,f.cell? (⟨1,0,none⟩)=some (m)/\R (.returned (m)) f) (0<=i64.wrap (2+(i64.wrap b))/\i64.wrap (2+(i64.wrap b))<=(d:Int)/\0<=(2:Int)/\2<=(((i64.wrap (2+(i64.wrap b))).toNat:Nat):Int)/\∃n o,(convert 22 9 (.slice (cutA c 2 d 1) (((i64.wrap (2+(i64.wrap b))).toNat) - 2) (d - 2))).run pg f=.ok (.string n) o/\∃p,e=some p/\∃q,StV pg 9 (p.add 1) (.string n) o q/\R (.returned (.nilIface)) q))))
theorem of168 {e c a d R w} (h:SW168 e c a d R w):Calls pg 168 #[.pointer e,.slice c a d] w R:=
  calls_by H168 _ Tryz.func168 h
def H170:Hints:=⟨[(4,[0,0,3],7,ons [3,0,5] .done),(13,[0,0,3],7,ons [3,0,5] .done)],[(0,[(24,3)],[6,7]++rg 24 12)],[]⟩
def SW170 (n:Option Addr) (o p:Nat) (q:ByteArray) (R:RT) (w:World):Prop:=
  gNew (#[.slice n o p,.string q]) 203 (fun e ad=>Calls pg 171 #[.pointer (some e)] ad (fun en ae=>∃s,en=.returned (.int .i64 s)/\∃f b a i,(Instr.makeSlice 22 (.int .i64 s) (.int .i64 s)).run pg ae=.ok (.slice f b a) i/\0<=(4:Int)/\4<=(b:Int)/\∃x7 t ag,i.cell? (e.add 0)=some (.slice x7 t ag)/\Br (decide ((t:Int) > 31)) (∃x,i.drew.cell? (⟨14,0,none⟩)=some (x)/\R (.returned (.tuple #[.slice none 0 0,x])) i.drew) (∃y r ah,i.cell? (e.add 0)=some (.slice y r ah)/\∃u:Int->NP,(∃ai,u 0 ai i)/\∀(ar:NV) (c:Int) (z:Nat) (g:World),u c z g->Br (decide (c < (r:Int))) (∃A,Ix y A c r (∃B,g.cell? (A.add (c.toNat*1))=some (.int .u32 B)/\0<=i64.wrap (c*4)/\i64.wrap (c*4)<=((b - 4:Nat):Int)/\Calls pg 144 #[.slice (cutA (cutA f 4 a 1) ((i64.wrap (c*4)).toNat) (a - 4) 1) ((b - 4) - ((i64.wrap (c*4)).toNat)) ((a - 4) - ((i64.wrap (c*4)).toNat)),.int .u32 B] g (fun en aj=>en=.returned (.tuple #[])/\∃C,C < z/\u (i64.wrap (c+1)) C aj))) (∃v,g.cell? (e.add 1)=some (.string v)/\Br (!(v.toList == (ByteArray.mk #[]).toList)) (∃D,g.cell? (e.add 1)=some (.string D)/\∃E j F k,(convert 9 22 (.string D)).run pg g=.ok (.slice E j F) k/\Br (decide ((j:Int) > 255)) (∃G,k.drew.cell? (⟨15,0,none⟩)=some (G)/\R (.returned (.tuple #[.slice none 0 0,G])) k.drew) (∃ak d al,k.cell? (e.add 0)=some (.slice ak d al)/\∃H,cutA f 4 a 1=some H/\0<=i64.wrap ((d:Int)*4)/\i64.wrap ((d:Int)*4) < ((b - 4:Nat):Int)/\∃I,StV pg 5 (H.add ((i64.wrap ((d:Int)*4)).toNat*1)) (.int .u8 (u8.wrap (j:Int))) k I/\0<=i64.wrap ((i64.wrap ((d:Int)*4))+1)/\i64.wrap ((i64.wrap ((d:Int)*4))+1)<=((b - 4:Nat):Int)/\∃am J,(Builtin.copy_ #[22,22] 3 #[.slice (cutA (cutA f 4 a 1) ((i64.wrap ((i64.wrap ((d:Int)*4))+1)).toNat) (a - 4) 1) ((b - 4) - ((i64.wrap ((i64.wrap ((d:Int)*4))+1)).toNat)) ((a - 4) - ((i64.wrap ((i64.wrap ((d:Int)*4))+1)).toNat)),.slice E j F]).run pg I=.ok (.int .i64 am) J/\Calls pg 173 #[.pointer (some e)] J (fun en an=>∃K L M N,en=.returned (.agg #[.bool K,.int .u8 L,.int .u8 M,.int .u16 N])/\Calls pg 52 #[.agg #[.bool K,.int .u8 L,.int .u8 M,.int .u16 N]] an (fun en O=>∃P Q S l,en=.returned (.tuple #[.slice P Q S,l])/\isIf l/\Br (!(isNilI l)) (R (.returned (.tuple #[.slice none 0 0,l])) O) (∃ao T,(Builtin.copy_ #[22,22] 3 #[.slice f b a,.slice P Q S]).run pg O=.ok (.int .i64 ao) T/\R (.returned (.tuple #[.slice f b a,.nilIface])) T))))) (Calls pg 173 #[.pointer (some e)] g (fun en ap=>∃U V W X,en=.returned (.agg #[.bool U,.int .u8 V,.int .u8 W,.int .u16 X])/\Calls pg 52 #[.agg #[.bool U,.int .u8 V,.int .u8 W,.int .u16 X]] ap (fun en Y=>∃Z aa ab m,en=.returned (.tuple #[.slice Z aa ab,m])/\isIf m/\Br (!(isNilI m)) (R (.returned (.tuple #[.slice none 0 0,m])) Y) (∃aq ac,(Builtin.copy_ #[22,22] 3 #[.slice f b a,.slice Z aa ab]).run pg Y=.ok (.int .i64 aq) ac/\R (.returned (.tuple #[.slice f b a,.nilIface])) ac)))))))) w
theorem of170 {n o p q R w} (h:SW170 n o p q R w):Calls pg 170 #[.agg #[.slice n o p,.string q]] w R:=
  calls_by H170 _ Tryz.func170 h
def H171:Hints:=⟨[],[],[]⟩
def SW171 (b:Option Addr) (R:RT) (w:World):Prop:=
  ∃d,b=some d/\∃i c j,w.cell? (d.add 0)=some (.slice i c j)/\∃e,b=some e/\∃a,w.cell? (e.add 1)=some (.string a)/\Br (decide (((a.size:Nat):Int) > 0)) (Calls pg 149 #[.int .i64 (i64.wrap ((i64.wrap (4+(i64.wrap ((c:Int)*4))))+(i64.wrap (((a.size:Nat):Int)+1))))] w (fun en k=>∃f,en=.returned (.int .i64 f)/\R (.returned (.int .i64 (i64.wrap ((i64.wrap ((i64.wrap (4+(i64.wrap ((c:Int)*4))))+(i64.wrap (((a.size:Nat):Int)+1))))+f)))) k)) (Calls pg 149 #[.int .i64 (i64.wrap ((i64.wrap (4+(i64.wrap ((c:Int)*4))))+((a.size:Nat):Int)))] w (fun en l=>∃g,en=.returned (.int .i64 g)/\R (.returned (.int .i64 (i64.wrap ((i64.wrap ((i64.wrap (4+(i64.wrap ((c:Int)*4))))+((a.size:Nat):Int)))+g)))) l))
theorem of171 {b R w} (h:SW171 b R w):Calls pg 171 #[.pointer b] w R:=
  calls_by H171 _ Tryz.func171 h
def H172:Hints:=⟨[(17,[0,1,2,4,0,0,0,96,128,511,1023],1536,ons [1,3,5,7,9,11,13,15,16,19,20] .done)],[(0,[(8,3)],[8,9]++rg 42 20)],[]⟩
def SW172 (i:Option Addr) (f:Option Addr) (b e:Nat) (R:RT) (w:World):Prop:=
  gNew #[.bool false,.int .u8 0,.int .u8 0,.int .u16 0] 109 (fun j T=>Calls pg 55 #[.pointer (some j),.slice f b e] T (fun en k=>∃l,en=.returned (l)/\isIf l/\Br (!(isNilI l)) (R (.returned (l)) k) (∃o,k.cell? (j.add 2)=some (.int .u8 o)/\Br (o != 203) (∃u,k.cell? (⟨9,0,none⟩)=some (u)/\R (.returned (u)) k) (Calls pg 149 #[.int .i64 (b:Int)] k (fun en n=>∃p,en=.returned (.int .i64 p)/\Br (p != 0) (∃v,n.cell? (⟨1,0,none⟩)=some (v)/\R (.returned (v)) n) (∃q,n.cell? (j.add 1)=some (.int .u8 q)/\∃x y z A,(Instr.makeSlice 55 (.int .u8 q) (.int .u8 q)).run pg n=.ok (.slice x y z) A/\∃B,i=some B/\∃m,StV pg 55 (B.add 0) (.slice x y z) A m/\∃a,m.cell? (j.add 1)=some (.int .u8 a)/\Br (decide ((i64.wrap (u8.wrap (4+(u8.wrap (a*4))))) > (b:Int))) (∃C,m.cell? (⟨1,0,none⟩)=some (C)/\R (.returned (C)) m) (∃r:Int->NP,(∃U,r 0 U m)/\∀(W:NV) (c:Int) (D:Nat) (d:World),r c D d->∃s,d.cell? (j.add 1)=some (.int .u8 s)/\Br (decide (c < (i64.wrap s))) (∃E:Option Nat,∃t,i=some t/\Rk ((t.add 0)) E d.drew (∃F G V,d.drew.cell? (t.add 0)=some (.slice F G V)/\0<=i64.wrap (4+(i64.wrap (c*4)))/\i64.wrap (4+(i64.wrap (c*4)))<=(b:Int)/\Calls pg 150 #[.slice (cutA f ((i64.wrap (4+(i64.wrap (c*4)))).toNat) e 1) (b - ((i64.wrap (4+(i64.wrap (c*4)))).toNat)) (e - ((i64.wrap (4+(i64.wrap (c*4)))).toNat))] d.drew (fun en H=>∃I,en=.returned (.int .u32 I)/\d.drew.grownBy H E/\∃J,Ix F J c G (∃K,StV pg 51 (J.add (c.toNat*1)) (.int .u32 I) H K/\∃L,L < D/\r (i64.wrap (c+1)) L K)))) (Br (decide ((i64.wrap (u8.wrap (4+(u8.wrap (a*4))))) < (b:Int))) (∃M,f=some M/\0<=i64.wrap (u8.wrap (4+(u8.wrap (a*4))))/\i64.wrap (u8.wrap (4+(u8.wrap (a*4)))) < (b:Int)/\∃g,d.cell? (M.add ((i64.wrap (u8.wrap (4+(u8.wrap (a*4))))).toNat*1))=some (.int .u8 g)/\Br (decide ((i64.wrap ((i64.wrap ((i64.wrap (u8.wrap (4+(u8.wrap (a*4)))))+1))+(i64.wrap g))) > (b:Int))) (∃N,d.cell? (⟨1,0,none⟩)=some (N)/\R (.returned (N)) d) (0<=i64.wrap ((i64.wrap ((i64.wrap (u8.wrap (4+(u8.wrap (a*4)))))+1))+(i64.wrap g))/\i64.wrap ((i64.wrap ((i64.wrap (u8.wrap (4+(u8.wrap (a*4)))))+1))+(i64.wrap g))<=(e:Int)/\0<=i64.wrap ((i64.wrap (u8.wrap (4+(u8.wrap (a*4)))))+1)/\i64.wrap ((i64.wrap (u8.wrap (4+(u8.wrap (a*4)))))+1)<=(((i64.wrap ((i64.wrap ((i64.wrap (u8.wrap (4+(u8.wrap (a*4)))))+1))+(i64.wrap g))).toNat:Nat):Int)/\∃O P,(convert 22 9 (.slice (cutA f ((i64.wrap ((i64.wrap (u8.wrap (4+(u8.wrap (a*4)))))+1)).toNat) e 1) (((i64.wrap ((i64.wrap ((i64.wrap (u8.wrap (4+(u8.wrap (a*4)))))+1))+(i64.wrap g))).toNat) - ((i64.wrap ((i64.wrap (u8.wrap (4+(u8.wrap (a*4)))))+1)).toNat)) (e - ((i64.wrap ((i64.wrap (u8.wrap (4+(u8.wrap (a*4)))))+1)).toNat)))).run pg d=.ok (.string O) P/\∃Q,i=some Q/\∃S,StV pg 9 (Q.add 1) (.string O) P S/\R (.returned (.nilIface)) S)) (R (.returned (.nilIface)) d))))))))) w
theorem of172 {i f b e R w} (h:SW172 i f b e R w):Calls pg 172 #[.pointer i,.slice f b e] w R:=
  calls_by H172 _ Tryz.func172 h
def H173:Hints:=⟨[(1,[0,1,2,4,8,16,0,64,128,256,512,1056,4095],4096,ons [1,3,5,7,9,11,13,14,17,19,21,23,24] .done)],[],[]⟩
def SW173 (a:Option Addr) (R:RT) (w:World):Prop:=
  gNew #[.bool false,.int .u8 0,.int .u8 0,.int .u16 0] 109 (fun e b=>∃f:Option Nat,∃c,a=some c/\Rk ((c.add 0)) f b.drew (∃o g p,b.drew.cell? (c.add 0)=some (.slice o g p)/\Calls pg 171 #[.pointer a] b.drew (fun en i=>∃j,en=.returned (.int .i64 j)/\b.drew.grownBy i f/\(4:Int)≠0/\∃d,StV pg 109 e (.agg #[.bool false,.int .u8 (u8.wrap (g:Int)),.int .u8 203,.int .u16 (u16.wrap (i64.wrap ((i64.wrap (j.tdiv 4)) - 1)))]) i d/\∃k l m n,LdV pg 109 e (.agg #[.bool k,.int .u8 l,.int .u8 m,.int .u16 n]) d/\R (.returned (.agg #[.bool k,.int .u8 l,.int .u8 m,.int .u16 n])) d))) w
theorem of173 {a R w} (h:SW173 a R w):Calls pg 173 #[.pointer a] w R:=
  calls_by H173 _ Tryz.func173 h
def H175:Hints:=⟨[(3,[0,0,3],7,ons [3,0,5] .done),(5,[0,0,3],7,ons [3,0,5] .done),(16,[0,1,0,4,10],31,ons [1,3,5,6,8] .done),(17,[0,1,0,4,10],31,ons [1,3,5,6,8] .done),(18,[0,1,0,4,10],31,ons [1,3,5,6,8] .done)],[(0,[(11,3)],[11]++rg 68 13)],[]⟩
def SW175 (o:Int) (p:Int) (q:ByteArray) (r:Option Addr) (s t:Nat) (R:RT) (w:World):Prop:=
  gNew (#[.int .u8 o,.int .u32 p,.string q,.slice r s t]) 206 (fun b e=>∃x3 a aJ,e.cell? (b.add 3)=some (.slice x3 a aJ)/\Br (decide ((a:Int) > 65523)) (∃K,e.drew.cell? (⟨16,0,none⟩)=some (K)/\R (.returned (.tuple #[.slice none 0 0,K])) e.drew) (∃x,e.cell? (b.add 2)=some (.string x)/\Br (((x.size:Nat):Int) != 4) (∃L,e.drew.cell? (⟨17,0,none⟩)=some (L)/\R (.returned (.tuple #[.slice none 0 0,L])) e.drew) ((4:Int)≠0/\Br ((i64.wrap (4 - ((a:Int).tmod 4))) == 4) (Calls pg 176 #[.pointer (some b)] e (fun en M=>∃u,en=.returned (.int .i64 u)/\(4:Int)≠0/\∃N,M.cell? (b.add 0)=some (.int .u8 N)/\gNew #[.bool false,.int .u8 0,.int .u8 0,.int .u16 0] 109 (fun O aK=>∃y,StV pg 109 O (.agg #[.bool ((0:Int) != 0),.int .u8 N,.int .u8 204,.int .u16 (u16.wrap (i64.wrap ((i64.wrap (u.tdiv 4)) - 1)))]) aK y/\∃P Q S T,LdV pg 109 O (.agg #[.bool P,.int .u8 Q,.int .u8 S,.int .u16 T]) y/\Calls pg 52 #[.agg #[.bool P,.int .u8 Q,.int .u8 S,.int .u16 T]] y (fun en U=>∃V W X m,en=.returned (.tuple #[.slice V W X,m])/\isIf m/\Br (!(isNilI m)) (R (.returned (.tuple #[.slice none 0 0,m])) U) (∃f i c Y,(Instr.makeSlice 22 (.int .i64 u) (.int .i64 u)).run pg U=.ok (.slice f i c) Y/\∃aL z,(Builtin.copy_ #[22,22] 3 #[.slice f i c,.slice V W X]).run pg Y=.ok (.int .i64 aL) z/\0<=(8:Int)/\8<=(c:Int)/\0<=(4:Int)/\4<=(8:Int)/\∃Z,z.drew.cell? (b.add 1)=some (.int .u32 Z)/\Calls pg 144 #[.slice (cutA f 4 c 1) (8 - 4) (c - 4),.int .u32 Z] z.drew (fun en aa=>en=.returned (.tuple #[])/\0<=(12:Int)/\12<=(c:Int)/\0<=(8:Int)/\8<=(12:Int)/\∃ab,aa.drew.cell? (b.add 2)=some (.string ab)/\∃aM A,(Builtin.copy_ #[22,9] 3 #[.slice (cutA f 8 c 1) (12 - 8) (c - 8),.string ab]).run pg aa.drew=.ok (.int .i64 aM) A/\0<=(12:Int)/\12<=(i:Int)/\∃ac ad ae,A.drew.cell? (b.add 3)=some (.slice ac ad ae)/\∃aN B,(Builtin.copy_ #[22,22] 3 #[.slice (cutA f 12 c 1) (i - 12) (c - 12),.slice ac ad ae]).run pg A.drew=.ok (.int .i64 aN) B/\Br (decide ((0:Int) > 0)) (∃C:Int->NP,(∃aO,C 0 aO B)/\∀(aV:NV) (j:Int) (af:Nat) (D:World),C j af D->Br (decide (j < 0)) (∃ag,f=some ag/\0<=i64.wrap ((i64.wrap (12+(a:Int)))+j)/\i64.wrap ((i64.wrap (12+(a:Int)))+j) < (i:Int)/\∃ah,StV pg 5 (ag.add ((i64.wrap ((i64.wrap (12+(a:Int)))+j)).toNat*1)) (.int .u8 (u8.wrap 0)) D ah/\∃ai,ai < af/\C (i64.wrap (j+1)) ai ah) (R (.returned (.tuple #[.slice f i c,.nilIface])) D)) (R (.returned (.tuple #[.slice f i c,.nilIface])) B))))) M)) (Calls pg 176 #[.pointer (some b)] e (fun en aj=>∃v,en=.returned (.int .i64 v)/\(4:Int)≠0/\∃ak,aj.cell? (b.add 0)=some (.int .u8 ak)/\gNew #[.bool false,.int .u8 0,.int .u8 0,.int .u16 0] 109 (fun al aP=>∃E,StV pg 109 al (.agg #[.bool ((i64.wrap (4 - ((a:Int).tmod 4))) != 0),.int .u8 ak,.int .u8 204,.int .u16 (u16.wrap (i64.wrap ((i64.wrap (v.tdiv 4)) - 1)))]) aP E/\∃am an ao ap,LdV pg 109 al (.agg #[.bool am,.int .u8 an,.int .u8 ao,.int .u16 ap]) E/\Calls pg 52 #[.agg #[.bool am,.int .u8 an,.int .u8 ao,.int .u16 ap]] E (fun en aq=>∃ar au av n,en=.returned (.tuple #[.slice ar au av,n])/\isIf n/\Br (!(isNilI n)) (R (.returned (.tuple #[.slice none 0 0,n])) aq) (∃g k d ax,(Instr.makeSlice 22 (.int .i64 v) (.int .i64 v)).run pg aq=.ok (.slice g k d) ax/\∃aQ F,(Builtin.copy_ #[22,22] 3 #[.slice g k d,.slice ar au av]).run pg ax=.ok (.int .i64 aQ) F/\0<=(8:Int)/\8<=(d:Int)/\0<=(4:Int)/\4<=(8:Int)/\∃ay,F.drew.cell? (b.add 1)=some (.int .u32 ay)/\Calls pg 144 #[.slice (cutA g 4 d 1) (8 - 4) (d - 4),.int .u32 ay] F.drew (fun en az=>en=.returned (.tuple #[])/\0<=(12:Int)/\12<=(d:Int)/\0<=(8:Int)/\8<=(12:Int)/\∃aA,az.drew.cell? (b.add 2)=some (.string aA)/\∃aS G,(Builtin.copy_ #[22,9] 3 #[.slice (cutA g 8 d 1) (12 - 8) (d - 8),.string aA]).run pg az.drew=.ok (.int .i64 aS) G/\0<=(12:Int)/\12<=(k:Int)/\∃aB aC aD,G.drew.cell? (b.add 3)=some (.slice aB aC aD)/\∃aT H,(Builtin.copy_ #[22,22] 3 #[.slice (cutA g 12 d 1) (k - 12) (d - 12),.slice aB aC aD]).run pg G.drew=.ok (.int .i64 aT) H/\Br (decide ((i64.wrap (4 - ((a:Int).tmod 4))) > 0)) (∃I:Int->NP,(∃aU,I 0 aU H)/\∀(aW:NV) (l:Int) (aE:Nat) (J:World),I l aE J->Br (decide (l < (i64.wrap (4 - ((a:Int).tmod 4))))) (∃aF,g=some aF/\0<=i64.wrap ((i64.wrap (12+(a:Int)))+l)/\i64.wrap ((i64.wrap (12+(a:Int)))+l) < (k:Int)/\∃aG,StV pg 5 (aF.add ((i64.wrap ((i64.wrap (12+(a:Int)))+l)).toNat*1)) (.int .u8 (u8.wrap (i64.wrap (4 - ((a:Int).tmod 4))))) J aG/\∃aH,aH < aE/\I (i64.wrap (l+1)) aH aG) (R (.returned (.tuple #[.slice g k d,.nilIface])) J)) (R (.returned (.tuple #[.slice g k d,.nilIface])) H))))) aj))))) w
theorem of175 {o p q r s t R w} (h:SW175 o p q r s t R w):Calls pg 175 #[.agg #[.int .u8 o,.int .u32 p,.string q,.slice r s t]] w R:=
  calls_by H175 _ Tryz.func175 h
def H176:Hints:=⟨[],[],[]⟩
def SW176 (b:Option Addr) (R:RT) (w:World):Prop:=
  ∃c,b=some c/\∃d a e,w.cell? (c.add 3)=some (.slice d a e)/\(4:Int)≠0/\Br ((i64.wrap (4 - ((a:Int).tmod 4))) == 4) (R (.returned (.int .i64 (i64.wrap ((i64.wrap (12+(a:Int)))+0)))) w) (R (.returned (.int .i64 (i64.wrap ((i64.wrap (12+(a:Int)))+(i64.wrap (4 - ((a:Int).tmod 4))))))) w)
theorem of176 {b R w} (h:SW176 b R w):Calls pg 176 #[.pointer b] w R:=
  calls_by H176 _ Tryz.func176 h
def H177:Hints:=⟨[],[],[]⟩
def SW177 (d:Option Addr) (c:Option Addr) (a b:Nat) (R:RT) (w:World):Prop:=
  gNew #[.bool false,.int .u8 0,.int .u8 0,.int .u16 0] 109 (fun i F=>∃m,StV pg 109 i (.agg #[.bool false,.int .u8 0,.int .u8 0,.int .u16 0]) F m/\Calls pg 55 #[.pointer (some i),.slice c a b] m (fun en e=>∃j,en=.returned (j)/\isIf j/\Br (!(isNilI j)) (R (.returned (j)) e) (Br (decide ((a:Int) < 12)) (∃n,e.cell? (⟨1,0,none⟩)=some (n)/\R (.returned (n)) e) (∃k,e.cell? (i.add 3)=some (.int .u16 k)/\Br ((i64.wrap ((i64.wrap ((i64.wrap k)+1))*4)) != (a:Int)) (∃o,e.cell? (⟨18,0,none⟩)=some (o)/\R (.returned (o)) e) (∃p,e.cell? (i.add 1)=some (.int .u8 p)/\∃q,d=some q/\∃r,StV pg 5 (q.add 0) (.int .u8 p) e r/\0<=(8:Int)/\8<=(b:Int)/\0<=(4:Int)/\4<=(8:Int)/\Calls pg 150 #[.slice (cutA c 4 b 1) (8 - 4) (b - 4)] r (fun en G=>∃s,en=.returned (.int .u32 s)/\∃t,d=some t/\∃u,StV pg 51 (t.add 1) (.int .u32 s) G u/\0<=(12:Int)/\12<=(b:Int)/\0<=(8:Int)/\8<=(12:Int)/\∃v x,(convert 22 9 (.slice (cutA c 8 b 1) (12 - 8) (b - 8))).run pg u=.ok (.string v) x/\∃y,d=some y/\∃f,StV pg 9 (y.add 2) (.string v) x f/\∃l,f.cell? (i.add 0)=some (.bool l)/\Br l (∃z,c=some z/\0<=i64.wrap ((a:Int) - 1)/\i64.wrap ((a:Int) - 1) < (a:Int)/\∃g,f.cell? (z.add ((i64.wrap ((a:Int) - 1)).toNat*1))=some (.int .u8 g)/\Br (decide ((i64.wrap g) > (i64.wrap ((a:Int) - 12)))) (∃A,f.cell? (⟨19,0,none⟩)=some (A)/\R (.returned (A)) f) (0<=i64.wrap ((a:Int) - (i64.wrap g))/\i64.wrap ((a:Int) - (i64.wrap g))<=(b:Int)/\0<=(12:Int)/\12<=(((i64.wrap ((a:Int) - (i64.wrap g))).toNat:Nat):Int)/\∃B,d=some B/\∃C,StV pg 22 (B.add 3) (.slice (cutA c 12 b 1) (((i64.wrap ((a:Int) - (i64.wrap g))).toNat) - 12) (b - 12)) f C/\R (.returned (.nilIface)) C)) (0<=i64.wrap ((a:Int) - 0)/\i64.wrap ((a:Int) - 0)<=(b:Int)/\0<=(12:Int)/\12<=(((i64.wrap ((a:Int) - 0)).toNat:Nat):Int)/\∃D,d=some D/\∃E,StV pg 22 (D.add 3) (.slice (cutA c 12 b 1) (((i64.wrap ((a:Int) - 0)).toNat) - 12) (b - 12)) f E/\R (.returned (.nilIface)) E))))))) w
theorem of177 {d c a b R w} (h:SW177 d c a b R w):Calls pg 177 #[.pointer d,.slice c a b] w R:=
  calls_by H177 _ Tryz.func177 h
def H179:Hints:=⟨[(2,[0,0,3],7,ons [3,0,5] .done),(5,[0,1,0,4,10],31,ons [1,3,5,6,8] .done),(9,[0,0,2,4,9,0,32,0,192,256,512,1040],4095,ons [1,3,5,7,9,11,15,12,17,19,20,22] .done),(10,[0,0,2,4,8,17,0,64,0,384,512,1024,2080],8191,ons [1,3,5,7,9,11,13,17,14,19,21,22,24] .done)],[(0,[(5,3)],[5]++rg 30 32)],[]⟩
def SW179 (j:Int) (k:Int) (l:Option Addr) (m n:Nat) (R:RT) (w:World):Prop:=
  gNew (#[.int .u32 j,.int .u32 k,.slice l m n]) 210 (fun d g=>∃x3 o ad,g.cell? (d.add 2)=some (.slice x3 o ad)/\Br (decide ((i64.wrap ((o:Int)+2)) > 255)) (∃v,g.drew.cell? (⟨8,0,none⟩)=some (v)/\R (.returned (.tuple #[.slice none 0 0,v])) g.drew) (∃x5 p af,g.cell? (d.add 2)=some (.slice x5 p af)/\∃e b c q,(Instr.makeSlice 22 (.int .i64 (i64.wrap (8+(i64.wrap ((p:Int)*4))))) (.int .i64 (i64.wrap (8+(i64.wrap ((p:Int)*4)))))).run pg g=.ok (.slice e b c) q/\∃x,q.cell? (d.add 0)=some (.int .u32 x)/\Calls pg 144 #[.slice e b c,.int .u32 x] q (fun en y=>en=.returned (.tuple #[])/\0<=(4:Int)/\4<=(b:Int)/\∃z,y.drew.cell? (d.add 1)=some (.int .u32 z)/\Calls pg 144 #[.slice (cutA e 4 c 1) (b - 4) (c - 4),.int .u32 z] y.drew (fun en ag=>en=.returned (.tuple #[])/\∃r:Int->NP,(∃ah,r 0 ah ag)/\∀(ap:NV) (a:Int) (A:Nat) (f:World),r a A f->∃ai s aj,f.cell? (d.add 2)=some (.slice ai s aj)/\Br (decide (a < (s:Int))) (0<=i64.wrap (8+(i64.wrap (4*a)))/\i64.wrap (8+(i64.wrap (4*a)))<=(b:Int)/\∃B C ak,f.drew.cell? (d.add 2)=some (.slice B C ak)/\∃D,Ix B D a C (∃E,f.drew.cell? ((D.add (a.toNat*2)).add 0)=some (.int .u16 E)/\Calls pg 89 #[.slice (cutA e ((i64.wrap (8+(i64.wrap (4*a)))).toNat) c 1) (b - ((i64.wrap (8+(i64.wrap (4*a)))).toNat)) (c - ((i64.wrap (8+(i64.wrap (4*a)))).toNat)),.int .u16 E] f.drew (fun en t=>en=.returned (.tuple #[])/\0<=i64.wrap ((i64.wrap (8+(i64.wrap (4*a))))+2)/\i64.wrap ((i64.wrap (8+(i64.wrap (4*a))))+2)<=(b:Int)/\∃F G al,t.drew.cell? (d.add 2)=some (.slice F G al)/\∃H,Ix F H a G (∃I,t.drew.cell? ((H.add (a.toNat*2)).add 1)=some (.int .u16 I)/\Calls pg 89 #[.slice (cutA e ((i64.wrap ((i64.wrap (8+(i64.wrap (4*a))))+2)).toNat) c 1) (b - ((i64.wrap ((i64.wrap (8+(i64.wrap (4*a))))+2)).toNat)) (c - ((i64.wrap ((i64.wrap (8+(i64.wrap (4*a))))+2)).toNat)),.int .u16 I] t.drew (fun en am=>en=.returned (.tuple #[])/\∃J,J < A/\r (i64.wrap (a+1)) J am))))) (Calls pg 182 #[.pointer (some d)] f (fun en an=>∃K L M N,en=.returned (.agg #[.bool K,.int .u8 L,.int .u8 M,.int .u16 N])/\gNew #[.bool false,.int .u8 0,.int .u8 0,.int .u16 0] 109 (fun O ao=>∃u,StV pg 109 O (.agg #[.bool K,.int .u8 L,.int .u8 M,.int .u16 N]) ao u/\∃P Q S T,LdV pg 109 O (.agg #[.bool P,.int .u8 Q,.int .u8 S,.int .u16 T]) u/\Calls pg 52 #[.agg #[.bool P,.int .u8 Q,.int .u8 S,.int .u16 T]] u (fun en U=>∃V W X i,en=.returned (.tuple #[.slice V W X,i])/\isIf i/\Br (!(isNilI i)) (R (.returned (.tuple #[.slice none 0 0,i])) U) (∃Y Z aa ab,(Builtin.append_ #[22,22] 22 #[.slice V W X,.slice e b c]).run pg U=.ok (.slice Y Z aa) ab/\R (.returned (.tuple #[.slice Y Z aa,.nilIface])) ab))) an)))))) w
theorem of179 {j k l m n R w} (h:SW179 j k l m n R w):Calls pg 179 #[.agg #[.int .u32 j,.int .u32 k,.slice l m n]] w R:=
  calls_by H179 _ Tryz.func179 h
def H180:Hints:=⟨[],[],[]⟩
def SW180 (a:Option Addr) (R:RT) (w:World):Prop:=
  ∃b,a=some b/\∃d c e,w.cell? (b.add 2)=some (.slice d c e)/\R (.returned (.int .i64 (i64.wrap (12+(i64.wrap ((c:Int)*4)))))) w
theorem of180 {a R w} (h:SW180 a R w):Calls pg 180 #[.pointer a] w R:=
  calls_by H180 _ Tryz.func180 h
def H181:Hints:=⟨[(18,[0,0,2,4,8,0,0,96,128,0,0,1024,2560,4352,8448,16384,40976,131071,262143,393215],917504,ons [1,3,5,7,9,11,13,15,19,21,23,25,16,26,29,30,32,35,37,38] .done)],[(0,[(7,3)],[7]++rg 53 28)],[]⟩
def SW181 (g:Option Addr) (f:Option Addr) (a d:Nat) (R:RT) (w:World):Prop:=
  Br (decide ((a:Int) < 8)) (∃v,w.cell? (⟨1,0,none⟩)=some (v)/\R (.returned (v)) w) (gNew #[.bool false,.int .u8 0,.int .u8 0,.int .u16 0] 109 (fun i V=>Calls pg 55 #[.pointer (some i),.slice f a d] V (fun en b=>∃j,en=.returned (j)/\isIf j/\Br (!(isNilI j)) (R (.returned (j)) b) (∃l,b.cell? (i.add 3)=some (.int .u16 l)/\Br (decide ((a:Int) < (i64.wrap (4+(i64.wrap (4*(i64.wrap l))))))) (∃x,b.cell? (⟨1,0,none⟩)=some (x)/\R (.returned (x)) b) (∃m,b.cell? (i.add 2)=some (.int .u8 m)/\Br (m != 205) (∃y,b.cell? (⟨9,0,none⟩)=some (y)/\R (.returned (y)) b) (∃n,b.cell? (i.add 1)=some (.int .u8 n)/\Br (n != 1) (∃z,b.cell? (⟨9,0,none⟩)=some (z)/\R (.returned (z)) b) (∃o,b.cell? (i.add 3)=some (.int .u16 o)/\Br (decide ((i64.wrap (4*(i64.wrap o)))<=8)) (∃A,b.cell? (⟨20,0,none⟩)=some (A)/\R (.returned (A)) b) (0<=(4:Int)/\4<=(a:Int)/\Calls pg 150 #[.slice (cutA f 4 d 1) (a - 4) (d - 4)] b (fun en W=>∃B,en=.returned (.int .u32 B)/\∃C,g=some C/\∃D,StV pg 51 (C.add 0) (.int .u32 B) W D/\0<=(8:Int)/\8<=(a:Int)/\Calls pg 150 #[.slice (cutA f 8 d 1) (a - 8) (d - 8)] D (fun en X=>∃E,en=.returned (.int .u32 E)/\∃F,g=some F/\∃G,StV pg 51 (F.add 1) (.int .u32 E) X G/\∃p:Int->NP,(∃Y,p 12 Y G)/\∀(aa:NV) (c:Int) (H:Nat) (e:World),p c H e->∃q,e.cell? (i.add 3)=some (.int .u16 q)/\Br (decide (c < (i64.wrap (4+(i64.wrap (4*(i64.wrap q))))))) (∃k:Option Nat,∃r,g=some r/\Rk ((r.add 2)) k e.drew (∃I J K,e.drew.cell? (r.add 2)=some (.slice I J K)/\0<=c/\c<=(a:Int)/\0<=i64.wrap (c+2)/\i64.wrap (c+2)<=(a:Int)/\Calls pg 90 #[.slice (cutA f c.toNat d 1) (a - c.toNat) (d - c.toNat)] e.drew (fun en L=>∃s,en=.returned (.int .u16 s)/\e.drew.grownBy L k/\Calls pg 90 #[.slice (cutA f ((i64.wrap (c+2)).toNat) d 1) (a - ((i64.wrap (c+2)).toNat)) (d - ((i64.wrap (c+2)).toNat))] L (fun en M=>∃t,en=.returned (.int .u16 t)/\e.drew.grownBy M k/\((.agg #[.int .u16 s,.int .u16 t]:Value).cells).size=2/\gNew (#[.int .u16 s,.int .u16 t]) 213 (fun Z N=>e.drew.grownBy N k/\∃O P Q u,(Builtin.append_ #[208,208] 208 #[.slice I J K,.slice (some Z) 1 1]).run pg N=.ok (.slice O P Q) u/\e.drew.grownBy u k/\∃S,g=some S/\∃T,StV pg 208 (S.add 2) (.slice O P Q) u T/\∃U,U < H/\p (i64.wrap (c+4)) U T) M)))) (R (.returned (.nilIface)) e)))))))))) w)
theorem of181 {g f a d R w} (h:SW181 g f a d R w):Calls pg 181 #[.pointer g,.slice f a d] w R:=
  calls_by H181 _ Tryz.func181 h
def H182:Hints:=⟨[],[],[]⟩
def SW182 (a:Option Addr) (R:RT) (w:World):Prop:=
  gNew #[.bool false,.int .u8 0,.int .u8 0,.int .u16 0] 109 (fun c j=>Calls pg 180 #[.pointer a] j (fun en k=>∃d,en=.returned (.int .i64 d)/\(4:Int)≠0/\∃b,StV pg 109 c (.agg #[.bool false,.int .u8 1,.int .u8 205,.int .u16 (u16.wrap (i64.wrap ((i64.wrap (d.tdiv 4)) - 1)))]) k b/\∃e f g i,LdV pg 109 c (.agg #[.bool e,.int .u8 f,.int .u8 g,.int .u16 i]) b/\R (.returned (.agg #[.bool e,.int .u8 f,.int .u8 g,.int .u16 i])) b)) w
theorem of182 {a R w} (h:SW182 a R w):Calls pg 182 #[.pointer a] w R:=
  calls_by H182 _ Tryz.func182 h
def H184:Hints:=⟨[(4,[0,1,0,4,10],31,ons [1,3,5,6,8] .done)],[],[]⟩
def SW184 (e:Int) (f:Int) (R:RT) (w:World):Prop:=
  gNew (#[.int .u32 e,.int .u32 f]) 216 (fun g x=>Calls pg 185 #[.pointer (some g)] x (fun en y=>∃i,en=.returned (.int .i64 i)/\∃c b a j,(Instr.makeSlice 22 (.int .i64 i) (.int .i64 i)).run pg y=.ok (.slice c b a) j/\0<=(4:Int)/\4<=(b:Int)/\∃k,j.cell? (g.add 0)=some (.int .u32 k)/\Calls pg 144 #[.slice (cutA c 4 a 1) (b - 4) (a - 4),.int .u32 k] j (fun en l=>en=.returned (.tuple #[])/\0<=(4:Int)/\4<=((b - 4:Nat):Int)/\∃m,l.drew.cell? (g.add 1)=some (.int .u32 m)/\Calls pg 144 #[.slice (cutA (cutA c 4 a 1) 4 (a - 4) 1) ((b - 4) - 4) ((a - 4) - 4),.int .u32 m] l.drew (fun en z=>en=.returned (.tuple #[])/\Calls pg 187 #[.pointer (some g)] z (fun en A=>∃n o p q,en=.returned (.agg #[.bool n,.int .u8 o,.int .u8 p,.int .u16 q])/\Calls pg 52 #[.agg #[.bool n,.int .u8 o,.int .u8 p,.int .u16 q]] A (fun en r=>∃s t u d,en=.returned (.tuple #[.slice s t u,d])/\isIf d/\Br (!(isNilI d)) (R (.returned (.tuple #[.slice none 0 0,d])) r) (∃B v,(Builtin.copy_ #[22,22] 3 #[.slice c b a,.slice s t u]).run pg r=.ok (.int .i64 B) v/\R (.returned (.tuple #[.slice c b a,.nilIface])) v))))))) w
theorem of184 {e f R w} (h:SW184 e f R w):Calls pg 184 #[.agg #[.int .u32 e,.int .u32 f]] w R:=
  calls_by H184 _ Tryz.func184 h
def H185:Hints:=⟨[],[],[]⟩
def SW185 (a:Option Addr) (R:RT) (w:World):Prop:=
  R (.returned (.int .i64 12)) w
theorem of185 {a R w} (h:SW185 a R w):Calls pg 185 #[.pointer a] w R:=
  calls_by H185 _ Tryz.func185 h
def H186:Hints:=⟨[],[],[]⟩
def SW186 (e:Option Addr) (d:Option Addr) (a b:Nat) (R:RT) (w:World):Prop:=
  Br (decide ((a:Int) < 12)) (∃k,w.cell? (⟨1,0,none⟩)=some (k)/\R (.returned (k)) w) (gNew #[.bool false,.int .u8 0,.int .u8 0,.int .u16 0] 109 (fun g t=>Calls pg 55 #[.pointer (some g),.slice d a b] t (fun en c=>∃f,en=.returned (f)/\isIf f/\Br (!(isNilI f)) (R (.returned (f)) c) (∃i,c.cell? (g.add 2)=some (.int .u8 i)/\Br (i != 205) (∃l,c.cell? (⟨9,0,none⟩)=some (l)/\R (.returned (l)) c) (∃j,c.cell? (g.add 1)=some (.int .u8 j)/\Br (j != 5) (∃m,c.cell? (⟨9,0,none⟩)=some (m)/\R (.returned (m)) c) (0<=(4:Int)/\4<=(a:Int)/\Calls pg 150 #[.slice (cutA d 4 b 1) (a - 4) (b - 4)] c (fun en u=>∃n,en=.returned (.int .u32 n)/\∃o,e=some o/\∃p,StV pg 51 (o.add 0) (.int .u32 n) u p/\0<=(8:Int)/\8<=(a:Int)/\Calls pg 150 #[.slice (cutA d 8 b 1) (a - 8) (b - 8)] p (fun en v=>∃q,en=.returned (.int .u32 q)/\∃r,e=some r/\∃s,StV pg 51 (r.add 1) (.int .u32 q) v s/\R (.returned (.nilIface)) s))))))) w)
theorem of186 {e d a b R w} (h:SW186 e d a b R w):Calls pg 186 #[.pointer e,.slice d a b] w R:=
  calls_by H186 _ Tryz.func186 h
def H187:Hints:=⟨[],[],[]⟩
def SW187 (a:Option Addr) (R:RT) (w:World):Prop:=
  gNew #[.bool false,.int .u8 0,.int .u8 0,.int .u16 0] 109 (fun c i=>∃b,StV pg 109 c (.agg #[.bool false,.int .u8 5,.int .u8 205,.int .u16 2]) i b/\∃d e f g,LdV pg 109 c (.agg #[.bool d,.int .u8 e,.int .u8 f,.int .u16 g]) b/\R (.returned (.agg #[.bool d,.int .u8 e,.int .u8 f,.int .u16 g])) b) w
theorem of187 {a R w} (h:SW187 a R w):Calls pg 187 #[.pointer a] w R:=
  calls_by H187 _ Tryz.func187 h
def H190:Hints:=⟨[(3,[0,0,3],7,ons [3,0,5] .done),(11,[0,1,0,4,10],31,ons [1,3,5,6,8] .done),(22,[0,0,3,0,8,20],63,ons [1,3,5,7,8,10] .done)],[(0,[(10,3),(49,3)],[2,3,10,12,13,14]++rg 49 21)],[]⟩
def SW190 (m:Int) (n:Option Addr) (o p:Nat) (q:Int) (R:RT) (w:World):Prop:=
  gNew (#[.int .u32 m,.slice n o p,.int .u32 q]) 221 (fun g am=>Calls pg 191 #[.pointer (some g)] am (fun en i=>∃d,en=.returned (.int .i64 d)/\(4:Int)≠0/\Br (decide ((i64.wrap ((i64.wrap (d.tdiv 4)) - 1)) > 65535)) (∃y,i.drew.cell? (⟨21,0,none⟩)=some (y)/\R (.returned (.tuple #[.slice none 0 0,y])) i.drew) (Br (decide (d < 4)) (∃z,i.drew.cell? (⟨21,0,none⟩)=some (z)/\R (.returned (.tuple #[.slice none 0 0,z])) i.drew) (Calls pg 193 #[.pointer (some g)] i (fun en an=>∃A B C D,en=.returned (.agg #[.bool A,.int .u8 B,.int .u8 C,.int .u16 D])/\gNew #[.bool false,.int .u8 0,.int .u8 0,.int .u16 0] 109 (fun E ao=>∃s,StV pg 109 E (.agg #[.bool A,.int .u8 B,.int .u8 C,.int .u16 D]) ao s/\∃F G H I,LdV pg 109 E (.agg #[.bool F,.int .u8 G,.int .u8 H,.int .u16 I]) s/\Calls pg 52 #[.agg #[.bool F,.int .u8 G,.int .u8 H,.int .u16 I]] s (fun en J=>∃K L M j,en=.returned (.tuple #[.slice K L M,j])/\isIf j/\Br (!(isNilI j)) (R (.returned (.tuple #[.slice none 0 0,j])) J) (∃e c b N,(Instr.makeSlice 22 (.int .i64 d) (.int .i64 d)).run pg J=.ok (.slice e c b) N/\0<=(4:Int)/\4<=(b:Int)/\∃ap t,(Builtin.copy_ #[22,22] 3 #[.slice (cutA e 0 b 1) 4 b,.slice K L M]).run pg N=.ok (.int .i64 ap) t/\0<=(4:Int)/\4<=(c:Int)/\∃O,t.drew.cell? (g.add 0)=some (.int .u32 O)/\Calls pg 144 #[.slice (cutA e 4 b 1) (c - 4) (b - 4),.int .u32 O] t.drew (fun en P=>en=.returned (.tuple #[])/\∃Q r aq,P.cell? (g.add 1)=some (.slice Q r aq)/\∃u:Int->Int->NP,(∃ar,u 8 0 ar P)/\∀(az:NV) (a:Int) (f:Int) (S:Nat) (k:World),u a f S k->Br (decide (f < (r:Int))) (∃T,Ix Q T f r (∃U V W X Y,LdV pg 278 (T.add (f.toNat*3)) (.agg #[.int .u32 U,.int .u16 V,.slice W X Y]) k/\gNew #[.int .u32 0,.int .u16 0,.slice none 0 0] 278 (fun v au=>∃x,StV pg 278 v (.agg #[.int .u32 U,.int .u16 V,.slice W X Y]) au x/\∃Z aa ab ac ad,LdV pg 278 v (.agg #[.int .u32 Z,.int .u16 aa,.slice ab ac ad]) x/\Calls pg 194 #[.agg #[.int .u32 Z,.int .u16 aa,.slice ab ac ad]] x (fun en ae=>∃af ag ah l,en=.returned (.tuple #[.slice af ag ah,l])/\isIf l/\Br (!(isNilI l)) (R (.returned (.tuple #[.slice none 0 0,l])) ae) (0<=a/\a<=(c:Int)/\∃av ai,(Builtin.copy_ #[22,22] 3 #[.slice (cutA e a.toNat b 1) (c - a.toNat) (b - a.toNat),.slice af ag ah]).run pg ae=.ok (.int .i64 av) ai/\Calls pg 195 #[.pointer (some v)] ai (fun en ax=>∃aj,en=.returned (.int .i64 aj)/\∃ak,ak < S/\u (i64.wrap (a+aj)) (i64.wrap (f+1)) ak ax)))) k)) (0<=a/\a<=(c:Int)/\∃al,k.drew.cell? (g.add 2)=some (.int .u32 al)/\Calls pg 144 #[.slice (cutA e a.toNat b 1) (c - a.toNat) (b - a.toNat),.int .u32 al] k.drew (fun en ay=>en=.returned (.tuple #[])/\R (.returned (.tuple #[.slice e c b,.nilIface])) ay)))))) an))))) w
theorem of190 {m n o p q R w} (h:SW190 m n o p q R w):Calls pg 190 #[.agg #[.int .u32 m,.slice n o p,.int .u32 q]] w R:=
  calls_by H190 _ Tryz.func190 h
def H191:Hints:=⟨[],[(0,[(3,3),(11,3)],[3,5]++rg 11 8)],[]⟩
def SW191 (b:Option Addr) (R:RT) (w:World):Prop:=
  ∃g,b=some g/\∃i c u,w.cell? (g.add 1)=some (.slice i c u)/\∃e:Int->Int->NP,(∃v,e 0 0 v w)/\∀(z:NV) (f:Int) (a:Int) (j:Nat) (d:World),e f a j d->Br (decide (a < (c:Int))) (∃k,Ix i k a c (∃l m n o p,LdV pg 278 (k.add (a.toNat*3)) (.agg #[.int .u32 l,.int .u16 m,.slice n o p]) d/\gNew #[.int .u32 0,.int .u16 0,.slice none 0 0] 278 (fun q x=>∃r,StV pg 278 q (.agg #[.int .u32 l,.int .u16 m,.slice n o p]) x r/\Calls pg 195 #[.pointer (some q)] r (fun en y=>∃s,en=.returned (.int .i64 s)/\∃t,t < j/\e (i64.wrap (f+s)) (i64.wrap (a+1)) t y)) d)) (R (.returned (.int .i64 (i64.wrap ((i64.wrap (8+f))+4)))) d)
theorem of191 {b R w} (h:SW191 b R w):Calls pg 191 #[.pointer b] w R:=
  calls_by H191 _ Tryz.func191 h
def H192:Hints:=⟨[(19,[0,0,2,4,8,0,32,80,255,511,767],1792,ons [1,3,5,7,9,11,12,14,17,19,20] .done)],[(0,[(8,3)],[4,8,9,10]++rg 44 23)],[]⟩
def SW192 (d:Option Addr) (f:Option Addr) (a b:Nat) (R:RT) (w:World):Prop:=
  Br (decide ((a:Int) < 12)) (∃x,w.cell? (⟨1,0,none⟩)=some (x)/\R (.returned (x)) w) (gNew #[.bool false,.int .u8 0,.int .u8 0,.int .u16 0] 109 (fun y V=>Calls pg 55 #[.pointer (some y),.slice f a b] V (fun en g=>∃i,en=.returned (i)/\isIf i/\Br (!(isNilI i)) (R (.returned (i)) g) (∃m,g.cell? (y.add 2)=some (.int .u8 m)/\Br (m != 205) (∃z,g.cell? (⟨9,0,none⟩)=some (z)/\R (.returned (z)) g) (0<=(4:Int)/\4<=(a:Int)/\Calls pg 150 #[.slice (cutA f 4 b 1) (a - 4) (b - 4)] g (fun en W=>∃A,en=.returned (.int .u32 A)/\∃B,d=some B/\∃C,StV pg 51 (B.add 0) (.int .u32 A) W C/\0<=i64.wrap ((a:Int) - 4)/\i64.wrap ((a:Int) - 4)<=(a:Int)/\Calls pg 150 #[.slice (cutA f ((i64.wrap ((a:Int) - 4)).toNat) b 1) (a - ((i64.wrap ((a:Int) - 4)).toNat)) (b - ((i64.wrap ((a:Int) - 4)).toNat))] C (fun en X=>∃D,en=.returned (.int .u32 D)/\∃E,d=some E/\∃F,StV pg 51 (E.add 2) (.int .u32 D) X F/\gNew #[] 278 (fun Y Z=>∃G,d=some G/\∃H,StV pg 218 (G.add 1) (.slice (some Y) 0 0) Z H/\∃n:Int->NP,(∃aa,n 8 aa H)/\∀(ae:NV) (c:Int) (I:Nat) (o:World),n c I o->Br (decide (c < (i64.wrap ((a:Int) - 4)))) (gNew #[.int .u32 0,.int .u16 0,.slice none 0 0] 278 (fun k ab=>0<=c/\c<=(a:Int)/\Calls pg 196 #[.pointer (some k),.slice (cutA f c.toNat b 1) (a - c.toNat) (b - c.toNat)] ab (fun en e=>∃j,en=.returned (j)/\isIf j/\Br (!(isNilI j)) (R (.returned (j)) e) (∃l:Option Nat,∃p,d=some p/\Rk ((p.add 1)) l e.drew (∃J K L,e.drew.cell? (p.add 1)=some (.slice J K L)/\Rk k l e.drew (∃q r s t u,LdV pg 278 k (.agg #[.int .u32 q,.int .u16 r,.slice s t u]) e.drew/\((.agg #[.int .u32 q,.int .u16 r,.slice s t u]:Value).cells).size=3/\gNew (#[.int .u32 q,.int .u16 r,.slice s t u]) 278 (fun ac M=>e.drew.grownBy M l/\∃N O P v,(Builtin.append_ #[218,218] 218 #[.slice J K L,.slice (some ac) 1 1]).run pg M=.ok (.slice N O P) v/\e.drew.grownBy v l/\∃Q,d=some Q/\∃S,StV pg 218 (Q.add 1) (.slice N O P) v S/\Calls pg 195 #[.pointer (some k)] S (fun en ad=>∃T,en=.returned (.int .i64 T)/\∃U,U < I/\n (i64.wrap (c+T)) U ad)) e.drew))))) o) (R (.returned (.nilIface)) o)) F)))))) w)
theorem of192 {d f a b R w} (h:SW192 d f a b R w):Calls pg 192 #[.pointer d,.slice f a b] w R:=
  calls_by H192 _ Tryz.func192 h
def H193:Hints:=⟨[],[],[]⟩
def SW193 (a:Option Addr) (R:RT) (w:World):Prop:=
  gNew #[.bool false,.int .u8 0,.int .u8 0,.int .u16 0] 109 (fun c j=>Calls pg 191 #[.pointer a] j (fun en k=>∃d,en=.returned (.int .i64 d)/\(4:Int)≠0/\∃b,StV pg 109 c (.agg #[.bool false,.int .u8 11,.int .u8 205,.int .u16 (u16.wrap (i64.wrap ((i64.wrap (d.tdiv 4)) - 1)))]) k b/\∃e f g i,LdV pg 109 c (.agg #[.bool e,.int .u8 f,.int .u8 g,.int .u16 i]) b/\R (.returned (.agg #[.bool e,.int .u8 f,.int .u8 g,.int .u16 i])) b)) w
theorem of193 {a R w} (h:SW193 a R w):Calls pg 193 #[.pointer a] w R:=
  calls_by H193 _ Tryz.func193 h
def H194:Hints:=⟨[(2,[0,0,3],7,ons [3,0,5] .done),(4,[0,1,0,4,10],31,ons [1,3,5,6,8] .done),(5,[0,1,0,4,10],31,ons [1,3,5,6,8] .done)],[(0,[(38,3)],[2,3,6,7,8,9]++rg 38 21)],[]⟩
def SW194 (g:Int) (i:Int) (j:Option Addr) (k l:Nat) (R:RT) (w:World):Prop:=
  gNew (#[.int .u32 g,.int .u16 i,.slice j k l]) 278 (fun d m=>∃T p U,m.cell? (d.add 2)=some (.slice T p U)/\Br (decide ((p:Int) > 16384)) (∃u,m.drew.cell? (⟨8,0,none⟩)=some (u)/\R (.returned (.tuple #[.slice none 0 0,u])) m.drew) (Calls pg 195 #[.pointer (some d)] m (fun en V=>∃q,en=.returned (.int .i64 q)/\∃e b c r,(Instr.makeSlice 22 (.int .i64 q) (.int .i64 q)).run pg V=.ok (.slice e b c) r/\0<=(0:Int)/\0<=(b:Int)/\∃v,r.drew.cell? (d.add 0)=some (.int .u32 v)/\Calls pg 144 #[.slice (cutA e 0 c 1) b c,.int .u32 v] r.drew (fun en x=>en=.returned (.tuple #[])/\0<=(4:Int)/\4<=(b:Int)/\∃y,x.drew.cell? (d.add 1)=some (.int .u16 y)/\Calls pg 89 #[.slice (cutA e 4 c 1) (b - 4) (c - 4),.int .u16 y] x.drew (fun en z=>en=.returned (.tuple #[])/\∃W A X,z.cell? (d.add 2)=some (.slice W A X)/\0<=(6:Int)/\6<=(b:Int)/\Calls pg 89 #[.slice (cutA e 6 c 1) (b - 6) (c - 6),.int .u16 (u16.wrap (A:Int))] z (fun en B=>en=.returned (.tuple #[])/\∃C n Y,B.cell? (d.add 2)=some (.slice C n Y)/\∃s:Int->NP,(∃Z,s 0 Z B)/\∀(ac:NV) (a:Int) (D:Nat) (o:World),s a D o->Br (decide (a < (n:Int))) (∃E,Ix C E a n (∃F G H,LdV pg 281 (E.add (a.toNat*3)) (.agg #[.bool F,.int .u8 G,.int .u16 H]) o/\gNew #[.bool false,.int .u8 0,.int .u16 0] 281 (fun I aa=>∃t,StV pg 281 I (.agg #[.bool F,.int .u8 G,.int .u16 H]) aa t/\∃J K L,LdV pg 281 I (.agg #[.bool J,.int .u8 K,.int .u16 L]) t/\Calls pg 197 #[.agg #[.bool J,.int .u8 K,.int .u16 L]] t (fun en M=>∃N O P f,en=.returned (.tuple #[.slice N O P,f])/\isIf f/\Br (!(isNilI f)) (R (.returned (.tuple #[.slice none 0 0,f])) M) (0<=i64.wrap (8+(i64.wrap (a*2)))/\i64.wrap (8+(i64.wrap (a*2)))<=(b:Int)/\∃ab Q,(Builtin.copy_ #[22,22] 3 #[.slice (cutA e ((i64.wrap (8+(i64.wrap (a*2)))).toNat) c 1) (b - ((i64.wrap (8+(i64.wrap (a*2)))).toNat)) (c - ((i64.wrap (8+(i64.wrap (a*2)))).toNat)),.slice N O P]).run pg M=.ok (.int .i64 ab) Q/\∃S,S < D/\s (i64.wrap (a+1)) S Q))) o)) (R (.returned (.tuple #[.slice e b c,.nilIface])) o))))))) w
theorem of194 {g i j k l R w} (h:SW194 g i j k l R w):Calls pg 194 #[.agg #[.int .u32 g,.int .u16 i,.slice j k l]] w R:=
  calls_by H194 _ Tryz.func194 h
def H195:Hints:=⟨[],[],[]⟩
def SW195 (b:Option Addr) (R:RT) (w:World):Prop:=
  ∃c,b=some c/\∃d a e,w.cell? (c.add 2)=some (.slice d a e)/\(2:Int)≠0/\Br (((a:Int).tmod 2) != 0) (R (.returned (.int .i64 (i64.wrap (8+(i64.wrap (2*(i64.wrap ((a:Int)+1)))))))) w) (R (.returned (.int .i64 (i64.wrap (8+(i64.wrap (2*(a:Int))))))) w)
theorem of195 {b R w} (h:SW195 b R w):Calls pg 195 #[.pointer b] w R:=
  calls_by H195 _ Tryz.func195 h
def H196:Hints:=⟨[(21,[0,1,2,4,0,0,63,127],192,ons [1,3,5,7,9,11,13,14] .done)],[(0,[(48,3)],[4,6,7,8,9]++rg 48 23)],[]⟩
def SW196 (e:Option Addr) (f:Option Addr) (d b:Nat) (R:RT) (w:World):Prop:=
  Br (decide ((d:Int) < 8)) (∃m,w.cell? (⟨22,0,none⟩)=some (m)/\R (.returned (m)) w) (0<=(4:Int)/\4<=(b:Int)/\Calls pg 150 #[.slice (cutA f 0 b 1) 4 b] w (fun en N=>∃n,en=.returned (.int .u32 n)/\∃o,e=some o/\∃p,StV pg 51 (o.add 0) (.int .u32 n) N p/\0<=(6:Int)/\6<=(b:Int)/\0<=(4:Int)/\4<=(6:Int)/\Calls pg 90 #[.slice (cutA f 4 b 1) (6 - 4) (b - 4)] p (fun en O=>∃q,en=.returned (.int .u16 q)/\∃r,e=some r/\∃s,StV pg 40 (r.add 1) (.int .u16 q) O s/\0<=(6:Int)/\6<=(d:Int)/\Calls pg 90 #[.slice (cutA f 6 b 1) (d - 6) (b - 6)] s (fun en g=>∃c,en=.returned (.int .u16 c)/\Br ((i64.wrap c) == 0) (R (.returned (.nilIface)) g) (Br (decide ((i64.wrap c) > 65535)) (∃t,g.cell? (⟨23,0,none⟩)=some (t)/\R (.returned (t)) g) (Br (decide ((d:Int) < (i64.wrap (8+(i64.wrap ((i64.wrap c)*2)))))) (∃u,g.cell? (⟨23,0,none⟩)=some (u)/\R (.returned (u)) g) (∃v x y z,(Instr.makeSlice 276 (.int .i64 (i64.wrap c)) (.int .i64 (i64.wrap c))).run pg g=.ok (.slice v x y) z/\∃A,e=some A/\∃B,StV pg 276 (A.add 2) (.slice v x y) z B/\∃k:Int->NP,(∃P,k 0 P B)/\∀(T:NV) (a:Int) (C:Nat) (l:World),k a C l->Br (decide (a < (i64.wrap c))) (gNew #[.bool false,.int .u8 0,.int .u16 0] 281 (fun D Q=>0<=i64.wrap ((i64.wrap (8+(i64.wrap (2*a))))+2)/\i64.wrap ((i64.wrap (8+(i64.wrap (2*a))))+2)<=(b:Int)/\0<=i64.wrap (8+(i64.wrap (2*a)))/\i64.wrap (8+(i64.wrap (2*a)))<=(((i64.wrap ((i64.wrap (8+(i64.wrap (2*a))))+2)).toNat:Nat):Int)/\Calls pg 198 #[.pointer (some D),.slice (cutA f ((i64.wrap (8+(i64.wrap (2*a)))).toNat) b 1) (((i64.wrap ((i64.wrap (8+(i64.wrap (2*a))))+2)).toNat) - ((i64.wrap (8+(i64.wrap (2*a)))).toNat)) (b - ((i64.wrap (8+(i64.wrap (2*a)))).toNat))] Q (fun en j=>∃i,en=.returned (i)/\isIf i/\Br (!(isNilI i)) (R (.returned (i)) j) (∃E,e=some E/\∃F G S,j.drew.cell? (E.add 2)=some (.slice F G S)/\∃H I J,LdV pg 281 D (.agg #[.bool H,.int .u8 I,.int .u16 J]) j.drew/\∃K,Ix F K a G (∃L,StV pg 281 (K.add (a.toNat*3)) (.agg #[.bool H,.int .u8 I,.int .u16 J]) j.drew L/\∃M,M < C/\k (i64.wrap (a+1)) M L)))) l) (R (.returned (.nilIface)) l))))))))
theorem of196 {e f d b R w} (h:SW196 e f d b R w):Calls pg 196 #[.pointer e,.slice f d b] w R:=
  calls_by H196 _ Tryz.func196 h
def H197:Hints:=⟨[],[],[]⟩
def SW197 (l:Bool) (m:Int) (n:Int) (R:RT) (w:World):Prop:=
  gNew (#[.bool l,.int .u8 m,.int .u16 n]) 281 (fun a H=>∃b c d o,(Instr.makeSlice 22 (.int .i64 2) (.int .i64 2)).run pg H=.ok (.slice b c d) o/\∃p,o.cell? (a.add 0)=some (.bool p)/\Br p (Calls pg 199 #[.int .u16 0,.int .u16 1,.int .u16 0,.int .u16 1] o (fun en q=>∃u e,en=.returned (.tuple #[.int .u16 u,e])/\isIf e/\Br (!(isNilI e)) (R (.returned (.tuple #[.slice none 0 0,e])) q) (∃v,q.cell? (a.add 1)=some (.int .u8 v)/\Calls pg 199 #[.int .u16 u,.int .u16 2,.int .u16 1,.int .u16 (u16.wrap v)] q (fun en r=>∃x f,en=.returned (.tuple #[.int .u16 x,f])/\isIf f/\Br (!(isNilI f)) (R (.returned (.tuple #[.slice none 0 0,f])) r) (∃y,r.cell? (a.add 2)=some (.int .u16 y)/\Calls pg 199 #[.int .u16 x,.int .u16 13,.int .u16 3,.int .u16 y] r (fun en z=>∃A g,en=.returned (.tuple #[.int .u16 A,g])/\isIf g/\Br (!(isNilI g)) (R (.returned (.tuple #[.slice none 0 0,g])) z) (Calls pg 89 #[.slice b c d,.int .u16 A] z (fun en I=>en=.returned (.tuple #[])/\R (.returned (.tuple #[.slice b c d,.nilIface])) I)))))))) (Calls pg 199 #[.int .u16 0,.int .u16 1,.int .u16 0,.int .u16 0] o (fun en s=>∃B i,en=.returned (.tuple #[.int .u16 B,i])/\isIf i/\Br (!(isNilI i)) (R (.returned (.tuple #[.slice none 0 0,i])) s) (∃C,s.cell? (a.add 1)=some (.int .u8 C)/\Calls pg 199 #[.int .u16 B,.int .u16 2,.int .u16 1,.int .u16 (u16.wrap C)] s (fun en t=>∃D j,en=.returned (.tuple #[.int .u16 D,j])/\isIf j/\Br (!(isNilI j)) (R (.returned (.tuple #[.slice none 0 0,j])) t) (∃E,t.cell? (a.add 2)=some (.int .u16 E)/\Calls pg 199 #[.int .u16 D,.int .u16 13,.int .u16 3,.int .u16 E] t (fun en F=>∃G k,en=.returned (.tuple #[.int .u16 G,k])/\isIf k/\Br (!(isNilI k)) (R (.returned (.tuple #[.slice none 0 0,k])) F) (Calls pg 89 #[.slice b c d,.int .u16 G] F (fun en J=>en=.returned (.tuple #[])/\R (.returned (.tuple #[.slice b c d,.nilIface])) J))))))))) w
theorem of197 {l m n R w} (h:SW197 l m n R w):Calls pg 197 #[.agg #[.bool l,.int .u8 m,.int .u16 n]] w R:=
  calls_by H197 _ Tryz.func197 h
def H198:Hints:=⟨[],[],[]⟩
def SW198 (a:Option Addr) (c:Option Addr) (b e:Nat) (R:RT) (w:World):Prop:=
  Br ((b:Int) != 2) (∃g,w.cell? (⟨24,0,none⟩)=some (g)/\R (.returned (g)) w) (∃i,Ix c i 0 b (∃j,w.cell? (i.add ((0:Int).toNat*1))=some (.int .u8 j)/\∃k,a=some k/\∃d,StV pg 4 (k.add 0) (.bool ((iand .u8 j 128) != 0)) w d/\∃l,a=some l/\∃f,d.cell? (l.add 0)=some (.bool f)/\Br (!f) (∃m,a=some m/\∃n,StV pg 279 (m.add 1) (.int .u8 0) d n/\∃o,a=some o/\∃p,StV pg 40 (o.add 2) (.int .u16 0) n p/\R (.returned (.nilIface)) p) (∃q,Ix c q 0 b (∃r,d.cell? (q.add ((0:Int).toNat*1))=some (.int .u8 r)/\∃s,a=some s/\∃t,StV pg 279 (s.add 1) (.int .u8 (iand .u8 (ishr .u8 r 5) 3)) d t/\Calls pg 90 #[.slice c b e] t (fun en y=>∃u,en=.returned (.int .u16 u)/\∃v,a=some v/\∃x,StV pg 40 (v.add 2) (.int .u16 (iand .u16 u 8191)) y x/\R (.returned (.nilIface)) x)))))
theorem of198 {a c b e R w} (h:SW198 a c b e R w):Calls pg 198 #[.pointer a,.slice c b e] w R:=
  calls_by H198 _ Tryz.func198 h
def H199:Hints:=⟨[(2,[0,0,3],7,ons [3,0,5] .done)],[],[]⟩
def SW199 (c:Int) (a:Int) (b:Int) (d:Int) (R:RT) (w:World):Prop:=
  Br (decide ((u16.wrap (b+a)) > 16)) (∃e,w.drew.cell? (⟨25,0,none⟩)=some (e)/\R (.returned (.tuple #[.int .u16 0,e])) w.drew) (0<=a/\0<=(u16.wrap ((u16.wrap (16 - a)) - b))/\R (.returned (.tuple #[.int .u16 (ior .u16 c (ishl .u16 (iand .u16 d (u16.wrap ((ishl .u16 1 a) - 1))) (u16.wrap ((u16.wrap (16 - a)) - b)))),.nilIface])) w)
theorem of199 {c a b d R w} (h:SW199 c a b d R w):Calls pg 199 #[.int .u16 c,.int .u16 a,.int .u16 b,.int .u16 d] w R:=
  calls_by H199 _ Tryz.func199 h
def H201:Hints:=⟨[(4,[0,1,0,4,10],31,ons [1,3,5,6,8] .done)],[],[]⟩
def SW201 (e:Int) (f:Int) (R:RT) (w:World):Prop:=
  gNew (#[.int .u32 e,.int .u32 f]) 223 (fun g z=>Calls pg 202 #[.pointer (some g)] z (fun en A=>∃i,en=.returned (.int .i64 i)/\∃c b a j,(Instr.makeSlice 22 (.int .i64 i) (.int .i64 i)).run pg A=.ok (.slice c b a) j/\0<=(4:Int)/\4<=(b:Int)/\∃l,j.cell? (g.add 0)=some (.int .u32 l)/\Calls pg 144 #[.slice (cutA c 4 a 1) (b - 4) (a - 4),.int .u32 l] j (fun en m=>en=.returned (.tuple #[])/\0<=(4:Int)/\4<=((b - 4:Nat):Int)/\∃n,m.drew.cell? (g.add 1)=some (.int .u32 n)/\Calls pg 144 #[.slice (cutA (cutA c 4 a 1) 4 (a - 4) 1) ((b - 4) - 4) ((a - 4) - 4),.int .u32 n] m.drew (fun en B=>en=.returned (.tuple #[])/\gNew #[.bool false,.int .u8 0,.int .u8 0,.int .u16 0] 109 (fun o C=>∃k,StV pg 109 o (.agg #[.bool false,.int .u8 1,.int .u8 206,.int .u16 2]) C k/\∃p q r s,LdV pg 109 o (.agg #[.bool p,.int .u8 q,.int .u8 r,.int .u16 s]) k/\Calls pg 52 #[.agg #[.bool p,.int .u8 q,.int .u8 r,.int .u16 s]] k (fun en t=>∃u v x d,en=.returned (.tuple #[.slice u v x,d])/\isIf d/\Br (!(isNilI d)) (R (.returned (.tuple #[.slice none 0 0,d])) t) (∃D y,(Builtin.copy_ #[22,22] 3 #[.slice c b a,.slice u v x]).run pg t=.ok (.int .i64 D) y/\R (.returned (.tuple #[.slice c b a,.nilIface])) y))) B)))) w
theorem of201 {e f R w} (h:SW201 e f R w):Calls pg 201 #[.agg #[.int .u32 e,.int .u32 f]] w R:=
  calls_by H201 _ Tryz.func201 h
def H202:Hints:=⟨[],[],[]⟩
def SW202 (a:Option Addr) (R:RT) (w:World):Prop:=
  R (.returned (.int .i64 12)) w
theorem of202 {a R w} (h:SW202 a R w):Calls pg 202 #[.pointer a] w R:=
  calls_by H202 _ Tryz.func202 h
def H203:Hints:=⟨[],[],[]⟩
def SW203 (e:Option Addr) (d:Option Addr) (a b:Nat) (R:RT) (w:World):Prop:=
  Br (decide ((a:Int) < 12)) (∃k,w.cell? (⟨1,0,none⟩)=some (k)/\R (.returned (k)) w) (gNew #[.bool false,.int .u8 0,.int .u8 0,.int .u16 0] 109 (fun g t=>Calls pg 55 #[.pointer (some g),.slice d a b] t (fun en c=>∃f,en=.returned (f)/\isIf f/\Br (!(isNilI f)) (R (.returned (f)) c) (∃i,c.cell? (g.add 2)=some (.int .u8 i)/\Br (i != 206) (∃l,c.cell? (⟨9,0,none⟩)=some (l)/\R (.returned (l)) c) (∃j,c.cell? (g.add 1)=some (.int .u8 j)/\Br (j != 1) (∃m,c.cell? (⟨9,0,none⟩)=some (m)/\R (.returned (m)) c) (0<=(4:Int)/\4<=(a:Int)/\Calls pg 150 #[.slice (cutA d 4 b 1) (a - 4) (b - 4)] c (fun en u=>∃n,en=.returned (.int .u32 n)/\∃o,e=some o/\∃p,StV pg 51 (o.add 0) (.int .u32 n) u p/\0<=(8:Int)/\8<=(a:Int)/\Calls pg 150 #[.slice (cutA d 8 b 1) (a - 8) (b - 8)] p (fun en v=>∃q,en=.returned (.int .u32 q)/\∃r,e=some r/\∃s,StV pg 51 (r.add 1) (.int .u32 q) v s/\R (.returned (.nilIface)) s))))))) w)
theorem of203 {e d a b R w} (h:SW203 e d a b R w):Calls pg 203 #[.pointer e,.slice d a b] w R:=
  calls_by H203 _ Tryz.func203 h
def H205:Hints:=⟨[(2,[0,0,3],7,ons [3,0,5] .done),(5,[0,1,0,4,10],31,ons [1,3,5,6,8] .done)],[(0,[(34,3)],[5,6,7]++rg 34 29)],[]⟩
def SW205 (j:Int) (k:Int) (l:Option Addr) (m n:Nat) (R:RT) (w:World):Prop:=
  gNew (#[.int .u32 j,.int .u32 k,.slice l m n]) 227 (fun d e=>∃Y r Z,e.cell? (d.add 2)=some (.slice Y r Z)/\Br (decide ((i64.wrap ((r:Int)+2)) > 255)) (∃v,e.drew.cell? (⟨8,0,none⟩)=some (v)/\R (.returned (.tuple #[.slice none 0 0,v])) e.drew) (∃x5 s ab,e.cell? (d.add 2)=some (.slice x5 s ab)/\∃f b c t,(Instr.makeSlice 22 (.int .i64 (i64.wrap (8+(i64.wrap ((s:Int)*4))))) (.int .i64 (i64.wrap (8+(i64.wrap ((s:Int)*4)))))).run pg e=.ok (.slice f b c) t/\∃x,t.cell? (d.add 0)=some (.int .u32 x)/\Calls pg 144 #[.slice f b c,.int .u32 x] t (fun en y=>en=.returned (.tuple #[])/\0<=(4:Int)/\4<=(b:Int)/\∃z,y.drew.cell? (d.add 1)=some (.int .u32 z)/\Calls pg 144 #[.slice (cutA f 4 c 1) (b - 4) (c - 4),.int .u32 z] y.drew (fun en A=>en=.returned (.tuple #[])/\∃B o ac,A.cell? (d.add 2)=some (.slice B o ac)/\∃u:Int->NP,(∃ad,u 0 ad A)/\∀(ah:NV) (a:Int) (C:Nat) (p:World),u a C p->Br (decide (a < (o:Int))) (∃D,Ix B D a o (∃E F G,LdV pg 228 (D.add (a.toNat*3)) (.agg #[.int .u16 E,.int .u16 F,.int .u8 G]) p/\gNew #[.int .u16 0,.int .u16 0,.int .u8 0] 228 (fun q ae=>∃g,StV pg 228 q (.agg #[.int .u16 E,.int .u16 F,.int .u8 G]) ae g/\∃H,g.cell? (q.add 0)=some (.int .u16 H)/\∃I,g.cell? (q.add 1)=some (.int .u16 I)/\∃J,g.cell? (q.add 2)=some (.int .u8 J)/\0<=i64.wrap (8+(i64.wrap (4*a)))/\i64.wrap (8+(i64.wrap (4*a)))<=(b:Int)/\Calls pg 144 #[.slice (cutA f ((i64.wrap (8+(i64.wrap (4*a)))).toNat) c 1) (b - ((i64.wrap (8+(i64.wrap (4*a)))).toNat)) (c - ((i64.wrap (8+(i64.wrap (4*a)))).toNat)),.int .u32 (ior .u32 (ior .u32 (ishl .u32 (iand .u32 (u32.wrap H) 8191) 19) (ishl .u32 (iand .u32 (u32.wrap I) 8191) 6)) (iand .u32 (u32.wrap J) 63))] g (fun en af=>en=.returned (.tuple #[])/\∃K,K < C/\u (i64.wrap (a+1)) K af)) p)) (Calls pg 208 #[.pointer (some d)] p (fun en ag=>∃L M N O,en=.returned (.agg #[.bool L,.int .u8 M,.int .u8 N,.int .u16 O])/\Calls pg 52 #[.agg #[.bool L,.int .u8 M,.int .u8 N,.int .u16 O]] ag (fun en P=>∃Q S T i,en=.returned (.tuple #[.slice Q S T,i])/\isIf i/\Br (!(isNilI i)) (R (.returned (.tuple #[.slice none 0 0,i])) P) (∃U V W X,(Builtin.append_ #[22,22] 22 #[.slice Q S T,.slice f b c]).run pg P=.ok (.slice U V W) X/\R (.returned (.tuple #[.slice U V W,.nilIface])) X)))))))) w
theorem of205 {j k l m n R w} (h:SW205 j k l m n R w):Calls pg 205 #[.agg #[.int .u32 j,.int .u32 k,.slice l m n]] w R:=
  calls_by H205 _ Tryz.func205 h
def H206:Hints:=⟨[],[],[]⟩
def SW206 (a:Option Addr) (R:RT) (w:World):Prop:=
  ∃b,a=some b/\∃d c e,w.cell? (b.add 2)=some (.slice d c e)/\R (.returned (.int .i64 (i64.wrap (12+(i64.wrap ((c:Int)*4)))))) w
theorem of206 {a R w} (h:SW206 a R w):Calls pg 206 #[.pointer a] w R:=
  calls_by H206 _ Tryz.func206 h
def H207:Hints:=⟨[],[(0,[(7,3)],[7,8]++rg 48 34)],[]⟩
def SW207 (e:Option Addr) (f:Option Addr) (a c:Nat) (R:RT) (w:World):Prop:=
  Br (decide ((a:Int) < 12)) (∃q,w.cell? (⟨1,0,none⟩)=some (q)/\R (.returned (q)) w) (gNew #[.bool false,.int .u8 0,.int .u8 0,.int .u16 0] 109 (fun i O=>Calls pg 55 #[.pointer (some i),.slice f a c] O (fun en b=>∃j,en=.returned (j)/\isIf j/\Br (!(isNilI j)) (R (.returned (j)) b) (∃l,b.cell? (i.add 3)=some (.int .u16 l)/\Br (decide ((a:Int) < (i64.wrap (4+(i64.wrap (4*(i64.wrap l))))))) (∃r,b.cell? (⟨1,0,none⟩)=some (r)/\R (.returned (r)) b) (∃m,b.cell? (i.add 2)=some (.int .u8 m)/\Br (m != 206) (∃s,b.cell? (⟨9,0,none⟩)=some (s)/\R (.returned (s)) b) (∃n,b.cell? (i.add 1)=some (.int .u8 n)/\Br (n != 2) (∃t,b.cell? (⟨9,0,none⟩)=some (t)/\R (.returned (t)) b) (0<=(4:Int)/\4<=(a:Int)/\Calls pg 150 #[.slice (cutA f 4 c 1) (a - 4) (c - 4)] b (fun en P=>∃u,en=.returned (.int .u32 u)/\∃v,e=some v/\∃x,StV pg 51 (v.add 0) (.int .u32 u) P x/\0<=(8:Int)/\8<=(a:Int)/\Calls pg 150 #[.slice (cutA f 8 c 1) (a - 8) (c - 8)] x (fun en Q=>∃y,en=.returned (.int .u32 y)/\∃z,e=some z/\∃A,StV pg 51 (z.add 1) (.int .u32 y) Q A/\∃o:Int->NP,(∃S,o 12 S A)/\∀(V:NV) (d:Int) (B:Nat) (k:World),o d B k->∃p,k.cell? (i.add 3)=some (.int .u16 p)/\Br (decide (d < (i64.wrap (4+(i64.wrap (4*(i64.wrap p))))))) (0<=d/\d<=(a:Int)/\Calls pg 150 #[.slice (cutA f d.toNat c 1) (a - d.toNat) (c - d.toNat)] k (fun en C=>∃g,en=.returned (.int .u32 g)/\∃D,e=some D/\∃E F G,C.cell? (D.add 2)=some (.slice E F G)/\((.agg #[.int .u16 (u16.wrap (iand .u32 (ishr .u32 g 19) 8191)),.int .u16 (u16.wrap (iand .u32 (ishr .u32 g 6) 8191)),.int .u8 (u8.wrap (iand .u32 g 63))]:Value).cells).size=3/\gNew (#[.int .u16 (u16.wrap (iand .u32 (ishr .u32 g 19) 8191)),.int .u16 (u16.wrap (iand .u32 (ishr .u32 g 6) 8191)),.int .u8 (u8.wrap (iand .u32 g 63))]) 228 (fun T U=>∃H I J K,(Builtin.append_ #[225,225] 225 #[.slice E F G,.slice (some T) 1 1]).run pg U=.ok (.slice H I J) K/\∃L,e=some L/\∃M,StV pg 225 (L.add 2) (.slice H I J) K M/\∃N,N < B/\o (i64.wrap (d+4)) N M) C)) (R (.returned (.nilIface)) k))))))))) w)
theorem of207 {e f a c R w} (h:SW207 e f a c R w):Calls pg 207 #[.pointer e,.slice f a c] w R:=
  calls_by H207 _ Tryz.func207 h
def H208:Hints:=⟨[],[],[]⟩
def SW208 (a:Option Addr) (R:RT) (w:World):Prop:=
  gNew #[.bool false,.int .u8 0,.int .u8 0,.int .u16 0] 109 (fun c j=>Calls pg 206 #[.pointer a] j (fun en k=>∃d,en=.returned (.int .i64 d)/\(4:Int)≠0/\∃b,StV pg 109 c (.agg #[.bool false,.int .u8 2,.int .u8 206,.int .u16 (u16.wrap (i64.wrap ((i64.wrap (d.tdiv 4)) - 1)))]) k b/\∃e f g i,LdV pg 109 c (.agg #[.bool e,.int .u8 f,.int .u8 g,.int .u16 i]) b/\R (.returned (.agg #[.bool e,.int .u8 f,.int .u8 g,.int .u16 i])) b)) w
theorem of208 {a R w} (h:SW208 a R w):Calls pg 208 #[.pointer a] w R:=
  calls_by H208 _ Tryz.func208 h
def H210:Hints:=⟨[(3,[0,1,0,4,10],31,ons [1,3,5,6,8] .done),(7,[0,0,2,4,9,0,32,80],255,ons [1,3,5,7,9,11,12,14] .done)],[(0,[(28,3)],[5,6]++rg 28 22)],[]⟩
def SW210 (g:Int) (i:Int) (j:Option Addr) (k l:Nat) (R:RT) (w:World):Prop:=
  gNew (#[.int .u32 g,.int .u32 i,.slice j k l]) 232 (fun e u=>∃x3 o ae,u.cell? (e.add 2)=some (.slice x3 o ae)/\∃d b c p,(Instr.makeSlice 22 (.int .i64 (i64.wrap (8+(i64.wrap ((o:Int)*8))))) (.int .i64 (i64.wrap (8+(i64.wrap ((o:Int)*8)))))).run pg u=.ok (.slice d b c) p/\∃v,p.cell? (e.add 0)=some (.int .u32 v)/\Calls pg 144 #[.slice d b c,.int .u32 v] p (fun en x=>en=.returned (.tuple #[])/\0<=(4:Int)/\4<=(b:Int)/\∃y,x.drew.cell? (e.add 1)=some (.int .u32 y)/\Calls pg 144 #[.slice (cutA d 4 c 1) (b - 4) (c - 4),.int .u32 y] x.drew (fun en z=>en=.returned (.tuple #[])/\∃A m af,z.cell? (e.add 2)=some (.slice A m af)/\∃q:Int->NP,(∃ag,q 0 ag z)/\∀(ak:NV) (a:Int) (B:Nat) (n:World),q a B n->Br (decide (a < (m:Int))) (∃C,Ix A C a m (∃D E,LdV pg 234 (C.add (a.toNat*2)) (.agg #[.int .u32 D,.int .u8 E]) n/\gNew #[.int .u32 0,.int .u8 0] 234 (fun r ah=>∃s,StV pg 234 r (.agg #[.int .u32 D,.int .u8 E]) ah s/\0<=i64.wrap (8+(i64.wrap (8*a)))/\i64.wrap (8+(i64.wrap (8*a)))<=(b:Int)/\∃F,s.drew.cell? (r.add 0)=some (.int .u32 F)/\Calls pg 144 #[.slice (cutA d ((i64.wrap (8+(i64.wrap (8*a)))).toNat) c 1) (b - ((i64.wrap (8+(i64.wrap (8*a)))).toNat)) (c - ((i64.wrap (8+(i64.wrap (8*a)))).toNat)),.int .u32 F] s.drew (fun en G=>en=.returned (.tuple #[])/\∃H,G.cell? (r.add 1)=some (.int .u8 H)/\∃I,d=some I/\0<=i64.wrap ((i64.wrap (8+(i64.wrap (8*a))))+4)/\i64.wrap ((i64.wrap (8+(i64.wrap (8*a))))+4) < (b:Int)/\∃J,StV pg 5 (I.add ((i64.wrap ((i64.wrap (8+(i64.wrap (8*a))))+4)).toNat*1)) (.int .u8 H) G J/\∃K,K < B/\q (i64.wrap (a+1)) K J)) n)) (Calls pg 213 #[.pointer (some e)] n (fun en ai=>∃L M N O,en=.returned (.agg #[.bool L,.int .u8 M,.int .u8 N,.int .u16 O])/\gNew #[.bool false,.int .u8 0,.int .u8 0,.int .u16 0] 109 (fun P aj=>∃t,StV pg 109 P (.agg #[.bool L,.int .u8 M,.int .u8 N,.int .u16 O]) aj t/\∃Q S T U,LdV pg 109 P (.agg #[.bool Q,.int .u8 S,.int .u8 T,.int .u16 U]) t/\Calls pg 52 #[.agg #[.bool Q,.int .u8 S,.int .u8 T,.int .u16 U]] t (fun en V=>∃W X Y f,en=.returned (.tuple #[.slice W X Y,f])/\isIf f/\Br (!(isNilI f)) (R (.returned (.tuple #[.slice none 0 0,f])) V) (∃Z aa ab ac,(Builtin.append_ #[22,22] 22 #[.slice W X Y,.slice d b c]).run pg V=.ok (.slice Z aa ab) ac/\R (.returned (.tuple #[.slice Z aa ab,.nilIface])) ac))) ai))))) w
theorem of210 {g i j k l R w} (h:SW210 g i j k l R w):Calls pg 210 #[.agg #[.int .u32 g,.int .u32 i,.slice j k l]] w R:=
  calls_by H210 _ Tryz.func210 h
def H211:Hints:=⟨[],[],[]⟩
def SW211 (a:Option Addr) (R:RT) (w:World):Prop:=
  ∃b,a=some b/\∃d c e,w.cell? (b.add 2)=some (.slice d c e)/\R (.returned (.int .i64 (i64.wrap (12+(i64.wrap ((c:Int)*8)))))) w
theorem of211 {a R w} (h:SW211 a R w):Calls pg 211 #[.pointer a] w R:=
  calls_by H211 _ Tryz.func211 h
def H212:Hints:=⟨[(19,[0,0,2,4,8,0,32,0,128,256,576,1024,2128,8191,16383,24575],57344,ons [1,3,5,7,9,11,15,17,19,12,21,22,24,27,29,30] .done)],[(0,[(7,3)],[7,8]++rg 63 29)],[]⟩
def SW212 (j:Option Addr) (i:Option Addr) (d e:Nat) (R:RT) (w:World):Prop:=
  Br (decide ((d:Int) < 8)) (∃A,w.cell? (⟨1,0,none⟩)=some (A)/\R (.returned (A)) w) (gNew #[.bool false,.int .u8 0,.int .u8 0,.int .u16 0] 109 (fun k Z=>Calls pg 55 #[.pointer (some k),.slice i d e] Z (fun en a=>∃l,en=.returned (l)/\isIf l/\Br (!(isNilI l)) (R (.returned (l)) a) (∃o,a.cell? (k.add 3)=some (.int .u16 o)/\Br (decide ((d:Int) < (i64.wrap (4+(i64.wrap (4*(i64.wrap o))))))) (∃B,a.cell? (⟨1,0,none⟩)=some (B)/\R (.returned (B)) a) (∃p,a.cell? (k.add 2)=some (.int .u8 p)/\Br (p != 206) (∃C,a.cell? (⟨9,0,none⟩)=some (C)/\R (.returned (C)) a) (∃q,a.cell? (k.add 1)=some (.int .u8 q)/\Br (q != 4) (∃D,a.cell? (⟨9,0,none⟩)=some (D)/\R (.returned (D)) a) (∃r,a.cell? (k.add 3)=some (.int .u16 r)/\Br (decide ((i64.wrap ((i64.wrap (4*(i64.wrap r))) - 8))<=0)) (∃E,a.cell? (⟨20,0,none⟩)=some (E)/\R (.returned (E)) a) (∃s,a.cell? (k.add 3)=some (.int .u16 s)/\(8:Int)≠0/\Br (((i64.wrap (4*(i64.wrap s))).tmod 8) != 0) (∃F,a.cell? (⟨20,0,none⟩)=some (F)/\R (.returned (F)) a) (0<=(4:Int)/\4<=(d:Int)/\Calls pg 150 #[.slice (cutA i 4 e 1) (d - 4) (e - 4)] a (fun en aa=>∃G,en=.returned (.int .u32 G)/\∃H,j=some H/\∃I,StV pg 51 (H.add 0) (.int .u32 G) aa I/\0<=(8:Int)/\8<=(d:Int)/\Calls pg 150 #[.slice (cutA i 8 e 1) (d - 8) (e - 8)] I (fun en ab=>∃J,en=.returned (.int .u32 J)/\∃K,j=some K/\∃L,StV pg 51 (K.add 1) (.int .u32 J) ab L/\∃t:Int->NP,(∃ac,t 12 ac L)/\∀(ae:NV) (b:Int) (M:Nat) (g:World),t b M g->∃u,g.cell? (k.add 3)=some (.int .u16 u)/\Br (decide (b < (i64.wrap (4+(i64.wrap (4*(i64.wrap u))))))) (0<=i64.wrap (b+8)/\i64.wrap (b+8)<=(e:Int)/\0<=b/\b<=(((i64.wrap (b+8)).toNat:Nat):Int)/\∃m:Option Nat,∃v,j=some v/\Rk ((v.add 2)) m g.drew (∃N O P,g.drew.cell? (v.add 2)=some (.slice N O P)/\∃n,cutA i b.toNat e 1=some n/\0<=(4:Int)/\4 < ((((i64.wrap (b+8)).toNat) - b.toNat:Nat):Int)/\some ((n.add ((4:Int).toNat*1))).block≠m/\(∃c ty f,g.drew.heap[((n.add ((4:Int).toNat*1))).block]?=some (.cells c ty f))/\∃x,g.drew.cell? (n.add ((4:Int).toNat*1))=some (.int .u8 x)/\Calls pg 150 #[.slice (cutA i b.toNat e 1) (((i64.wrap (b+8)).toNat) - b.toNat) (e - b.toNat)] g.drew (fun en Q=>∃y,en=.returned (.int .u32 y)/\g.drew.grownBy Q m/\((.agg #[.int .u32 y,.int .u8 x]:Value).cells).size=2/\gNew (#[.int .u32 y,.int .u8 x]) 234 (fun ad S=>g.drew.grownBy S m/\∃T U V z,(Builtin.append_ #[230,230] 230 #[.slice N O P,.slice (some ad) 1 1]).run pg S=.ok (.slice T U V) z/\g.drew.grownBy z m/\∃W,j=some W/\∃X,StV pg 230 (W.add 2) (.slice T U V) z X/\∃Y,Y < M/\t (i64.wrap (b+8)) Y X) Q))) (R (.returned (.nilIface)) g))))))))))) w)
theorem of212 {j i d e R w} (h:SW212 j i d e R w):Calls pg 212 #[.pointer j,.slice i d e] w R:=
  calls_by H212 _ Tryz.func212 h
def H213:Hints:=⟨[],[],[]⟩
def SW213 (a:Option Addr) (R:RT) (w:World):Prop:=
  gNew #[.bool false,.int .u8 0,.int .u8 0,.int .u16 0] 109 (fun c j=>Calls pg 211 #[.pointer a] j (fun en k=>∃d,en=.returned (.int .i64 d)/\(4:Int)≠0/\∃b,StV pg 109 c (.agg #[.bool false,.int .u8 4,.int .u8 206,.int .u16 (u16.wrap (i64.wrap ((i64.wrap (d.tdiv 4)) - 1)))]) k b/\∃e f g i,LdV pg 109 c (.agg #[.bool e,.int .u8 f,.int .u8 g,.int .u16 i]) b/\R (.returned (.agg #[.bool e,.int .u8 f,.int .u8 g,.int .u16 i])) b)) w
theorem of213 {a R w} (h:SW213 a R w):Calls pg 213 #[.pointer a] w R:=
  calls_by H213 _ Tryz.func213 h
def H215:Hints:=⟨[(6,[0,0,3],7,ons [3,0,5] .done)],[],[]⟩
def SW215 (c:Int) (d:Nat) (e:Option Addr) (f g:Nat) (R:RT) (w:World):Prop:=
  gNew (#[.int .u32 c,.float .f32 d,.slice e f g]) 239 (fun o p=>∃q r s t u,LdV pg 239 o (.agg #[.int .u32 q,.float .f32 r,.slice s t u]) p/\Calls pg 216 #[.agg #[.int .u32 q,.float .f32 r,.slice s t u]] p (fun en C=>∃j,en=.returned (.int .i64 j)/\∃k a l m,(Instr.makeSlice 22 (.int .i64 j) (.int .i64 j)).run pg C=.ok (.slice k a l) m/\∃v x y z A,LdV pg 239 o (.agg #[.int .u32 v,.float .f32 x,.slice y z A]) m/\Calls pg 218 #[.agg #[.int .u32 v,.float .f32 x,.slice y z A],.slice k a l] m (fun en i=>∃n b,en=.returned (.tuple #[.int .i64 n,b])/\isIf b/\Br (!(isNilI b)) (R (.returned (.tuple #[.slice none 0 0,b])) i) (Br (n != (a:Int)) (∃B,i.drew.cell? (⟨26,0,none⟩)=some (B)/\R (.returned (.tuple #[.slice none 0 0,B])) i.drew) (R (.returned (.tuple #[.slice k a l,.nilIface])) i))))) w
theorem of215 {c d e f g R w} (h:SW215 c d e f g R w):Calls pg 215 #[.agg #[.int .u32 c,.float .f32 d,.slice e f g]] w R:=
  calls_by H215 _ Tryz.func215 h
def H216:Hints:=⟨[],[],[]⟩
def SW216 (a:Int) (b:Nat) (c:Option Addr) (d e:Nat) (R:RT) (w:World):Prop:=
  gNew (#[.int .u32 a,.float .f32 b,.slice c d e]) 239 (fun i f=>∃j g k,f.cell? (i.add 2)=some (.slice j g k)/\R (.returned (.int .i64 (i64.wrap (20+(i64.wrap (4*(g:Int))))))) f) w
theorem of216 {a b c d e R w} (h:SW216 a b c d e R w):Calls pg 216 #[.agg #[.int .u32 a,.float .f32 b,.slice c d e]] w R:=
  calls_by H216 _ Tryz.func216 h
def H217:Hints:=⟨[(32,[0,1,2,4,8,16,0,64,128,256,512,1056,0,4096,8192,16384,34816,131071],131072,ons [1,3,5,7,9,11,13,15,17,19,21,23,25,27,29,31,33,35] .done)],[(0,[(12,5),(13,51)],[12,13]++rg 117 7),(2,[(14,3)],[14,15]++rg 137 21)],[]⟩
def SW217 (f:Option Addr) (b:Option Addr) (c a:Nat) (R:RT) (w:World):Prop:=
  Br (decide ((c:Int) < 20)) (∃H,w.cell? (⟨1,0,none⟩)=some (H)/\R (.returned (H)) w) (∃I,Ix b I 0 c (∃o,w.cell? (I.add ((0:Int).toNat*1))=some (.int .u8 o)/\Br ((ishr .u8 o 6) != 2) (∃J,w.cell? (⟨2,0,none⟩)=some (J)/\R (.returned (J)) w) (∃K,Ix b K 0 c (∃p,w.cell? (K.add ((0:Int).toNat*1))=some (.int .u8 p)/\Br ((iand .u8 (ishr .u8 p 5) 1) != 0) (∃L,w.cell? (⟨19,0,none⟩)=some (L)/\R (.returned (L)) w) (∃M,Ix b M 0 c (∃q,w.cell? (M.add ((0:Int).toNat*1))=some (.int .u8 q)/\Br ((iand .u8 q 31) != 15) (∃N,w.cell? (⟨27,0,none⟩)=some (N)/\R (.returned (N)) w) (∃O,Ix b O 1 c (∃r,w.cell? (O.add ((1:Int).toNat*1))=some (.int .u8 r)/\Br (r != 206) (∃P,w.cell? (⟨28,0,none⟩)=some (P)/\R (.returned (P)) w) (0<=(4:Int)/\4<=(a:Int)/\0<=(2:Int)/\2<=(4:Int)/\Calls pg 90 #[.slice (cutA b 2 a 1) (4 - 2) (a - 2)] w (fun en j=>∃g,en=.returned (.int .u16 g)/\Br (decide ((i64.wrap (u16.wrap ((u16.wrap (g+1))*4))) < 20)) (∃Q,j.cell? (⟨29,0,none⟩)=some (Q)/\R (.returned (Q)) j) (Br (decide ((c:Int) < (i64.wrap (u16.wrap ((u16.wrap (g+1))*4))))) (∃S,j.cell? (⟨1,0,none⟩)=some (S)/\R (.returned (S)) j) (0<=(8:Int)/\8<=(a:Int)/\0<=(4:Int)/\4<=(8:Int)/\Calls pg 150 #[.slice (cutA b 4 a 1) (8 - 4) (a - 4)] j (fun en aW=>∃T,en=.returned (.int .u32 T)/\∃U,f=some U/\∃V,StV pg 51 (U.add 0) (.int .u32 T) aW V/\0<=(12:Int)/\12<=(a:Int)/\0<=(8:Int)/\8<=(12:Int)/\Calls pg 150 #[.slice (cutA b 8 a 1) (12 - 8) (a - 8)] V (fun en s=>∃t,en=.returned (.int .u32 t)/\Br (t != 0) (∃W,s.cell? (⟨30,0,none⟩)=some (W)/\R (.returned (W)) s) (0<=(16:Int)/\16<=(a:Int)/\0<=(12:Int)/\12<=(16:Int)/\gNew #[.int .u8 82,.int .u8 69,.int .u8 77,.int .u8 66] 5 (fun aX aY=>Calls pg 219 #[.slice (cutA b 12 a 1) (16 - 12) (a - 12),.slice (some aX) 4 4] aY (fun en i=>∃u,en=.returned (.bool u)/\Br (!u) (∃X,i.cell? (⟨31,0,none⟩)=some (X)/\R (.returned (X)) i) (∃Y,Ix b Y 16 c (∃v,i.cell? (Y.add ((16:Int).toNat*1))=some (.int .u8 v)/\Br ((i64.wrap (u16.wrap ((u16.wrap (g+1))*4))) != (i64.wrap (20+(i64.wrap (4*(i64.wrap v)))))) (∃Z,i.cell? (⟨32,0,none⟩)=some (Z)/\R (.returned (Z)) i) (∃aa,Ix b aa 17 c (∃x,i.cell? (aa.add ((17:Int).toNat*1))=some (.int .u8 x)/\∃ab,Ix b ab 17 c (∃k,i.drew.cell? (ab.add ((17:Int).toNat*1))=some (.int .u8 k)/\∃ac,Ix b ac 18 c (∃l,i.drew.cell? (ac.add ((18:Int).toNat*1))=some (.int .u8 l)/\∃ad,Ix b ad 19 c (∃m,i.drew.cell? (ad.add ((19:Int).toNat*1))=some (.int .u8 m)/\Br ((ior .u32 (ior .u32 (ishl .u32 (u32.wrap (iand .u8 k 3)) 16) (ishl .u32 (u32.wrap l) 8)) (u32.wrap m)) != 0) (∃y:Int->Int->NP,(∃aZ,y (u8.wrap ((u8.wrap ((ishr .u8 x 2)+127))+23)) (ior .u32 (ior .u32 (ishl .u32 (u32.wrap (iand .u8 k 3)) 16) (ishl .u32 (u32.wrap l) 8)) (u32.wrap m)) aZ i.drew)/\∀(a6:NV) (z:Int) (n:Int) (ae:Nat) (A:World),y z n ae A->Br ((iand .u32 n 8388608) == 0) (∃af,af < ae/\y (u8.wrap (z - 1)) (u32.wrap (n*2)) af A) (∃ag ah,(callFunc 100 #[.int .u32 (ior .u32 (ishl .u32 (u32.wrap z) 23) (iand .u32 n 8388607))]).run pg A=.ok (.value (.float .f32 ag)) ah/\∃ai,f=some ai/\∃aj,StV pg 236 (ai.add 1) (.float .f32 ag) ah aj/\∃ak,f=some ak/\∃al,StV pg 55 (ak.add 2) (.slice none 0 0) aj al/\∃B:Int->NP,(∃a0,B 20 a0 al)/\∀(a7:NV) (d:Int) (am:Nat) (C:World),B d am C->Br (decide (d < (i64.wrap (u16.wrap ((u16.wrap (g+1))*4))))) (0<=i64.wrap (d+4)/\i64.wrap (d+4)<=(a:Int)/\0<=d/\d<=(((i64.wrap (d+4)).toNat:Nat):Int)/\Calls pg 150 #[.slice (cutA b d.toNat a 1) (((i64.wrap (d+4)).toNat) - d.toNat) (a - d.toNat)] C (fun en an=>∃D,en=.returned (.int .u32 D)/\∃ao,f=some ao/\∃ap aq ar,an.cell? (ao.add 2)=some (.slice ap aq ar)/\((.int .u32 D:Value).cells).size=1/\gNew (#[.int .u32 D]) 51 (fun a1 a2=>∃au av ax ay,(Builtin.append_ #[55,55] 55 #[.slice ap aq ar,.slice (some a1) 1 1]).run pg a2=.ok (.slice au av ax) ay/\∃az,f=some az/\∃aA,StV pg 55 (az.add 2) (.slice au av ax) ay aA/\∃aB,aB < am/\B (i64.wrap (d+4)) aB aA) an)) (R (.returned (.nilIface)) C))) (∃aC aD,(callFunc 100 #[.int .u32 (ior .u32 (ishl .u32 (u32.wrap (u8.wrap ((u8.wrap ((ishr .u8 x 2)+127))+23))) 23) (iand .u32 (ior .u32 (ior .u32 (ishl .u32 (u32.wrap (iand .u8 k 3)) 16) (ishl .u32 (u32.wrap l) 8)) (u32.wrap m)) 8388607))]).run pg i.drew=.ok (.value (.float .f32 aC)) aD/\∃aE,f=some aE/\∃aF,StV pg 236 (aE.add 1) (.float .f32 aC) aD aF/\∃aG,f=some aG/\∃aH,StV pg 55 (aG.add 2) (.slice none 0 0) aF aH/\∃E:Int->NP,(∃a3,E 20 a3 aH)/\∀(a8:NV) (e:Int) (aI:Nat) (F:World),E e aI F->Br (decide (e < (i64.wrap (u16.wrap ((u16.wrap (g+1))*4))))) (0<=i64.wrap (e+4)/\i64.wrap (e+4)<=(a:Int)/\0<=e/\e<=(((i64.wrap (e+4)).toNat:Nat):Int)/\Calls pg 150 #[.slice (cutA b e.toNat a 1) (((i64.wrap (e+4)).toNat) - e.toNat) (a - e.toNat)] F (fun en aJ=>∃G,en=.returned (.int .u32 G)/\∃aK,f=some aK/\∃aL aM aN,aJ.cell? (aK.add 2)=some (.slice aL aM aN)/\((.int .u32 G:Value).cells).size=1/\gNew (#[.int .u32 G]) 51 (fun a4 a5=>∃aO aP aQ aS,(Builtin.append_ #[55,55] 55 #[.slice aL aM aN,.slice (some a4) 1 1]).run pg a5=.ok (.slice aO aP aQ) aS/\∃aT,f=some aT/\∃aU,StV pg 55 (aT.add 2) (.slice aO aP aQ) aS aU/\∃aV,aV < aI/\E (i64.wrap (e+4)) aV aU) aJ)) (R (.returned (.nilIface)) F))))))))))) s)))))))))))))))
theorem of217 {f b c a R w} (h:SW217 f b c a R w):Calls pg 217 #[.pointer f,.slice b c a] w R:=
  calls_by H217 _ Tryz.func217 h
def H218:Hints:=⟨[(3,[0,0,3],7,ons [3,0,5] .done),(8,[0,1,0,4,10],31,ons [1,3,5,6,8] .done),(15,[0,0,3],7,ons [3,0,5] .done),(22,[0,0,3],7,ons [3,0,5] .done),(27,[0,0,3],7,ons [3,0,5] .done)],[(0,[(8,3),(9,236)],[8,9]++rg 67 6),(2,[(4,3),(101,3)],[4,12]++rg 101 14)],[]⟩
def SW218 (o:Int) (p:Nat) (q:Option Addr) (r s:Nat) (a:Option Addr) (b c:Nat) (R:RT) (w:World):Prop:=
  gNew (#[.int .u32 o,.float .f32 p,.slice q r s]) 239 (fun f X=>∃Y Z x5 ab ac,LdV pg 239 f (.agg #[.int .u32 Y,.float .f32 Z,.slice x5 ab ac]) X/\Calls pg 216 #[.agg #[.int .u32 Y,.float .f32 Z,.slice x5 ab ac]] X (fun en F=>∃G,en=.returned (.int .i64 G)/\Br (decide ((b:Int) < G)) (∃x8,F.drew.cell? (⟨1,0,none⟩)=some (x8)/\R (.returned (.tuple #[.int .i64 0,x8])) F.drew) (∃ae,Ix a ae 0 b (∃af,StV pg 5 (ae.add ((0:Int).toNat*1)) (.int .u8 143) F af/\∃ag,Ix a ag 1 b (∃H,StV pg 5 (ag.add ((1:Int).toNat*1)) (.int .u8 206) af H/\∃ah ai aj ak al,LdV pg 239 f (.agg #[.int .u32 ah,.float .f32 ai,.slice aj ak al]) H/\Calls pg 216 #[.agg #[.int .u32 ah,.float .f32 ai,.slice aj ak al]] H (fun en bj=>∃am,en=.returned (.int .i64 am)/\(4:Int)≠0/\0<=(4:Int)/\4<=(c:Int)/\0<=(2:Int)/\2<=(4:Int)/\Calls pg 89 #[.slice (cutA a 2 c 1) (4 - 2) (c - 2),.int .u16 (u16.wrap (i64.wrap ((i64.wrap (am.tdiv 4)) - 1)))] bj (fun en an=>en=.returned (.tuple #[])/\0<=(8:Int)/\8<=(c:Int)/\0<=(4:Int)/\4<=(8:Int)/\∃ao,an.drew.cell? (f.add 0)=some (.int .u32 ao)/\Calls pg 144 #[.slice (cutA a 4 c 1) (8 - 4) (c - 4),.int .u32 ao] an.drew (fun en bk=>en=.returned (.tuple #[])/\0<=(12:Int)/\12<=(c:Int)/\0<=(8:Int)/\8<=(12:Int)/\Calls pg 144 #[.slice (cutA a 8 c 1) (12 - 8) (c - 8),.int .u32 0] bk (fun en bl=>en=.returned (.tuple #[])/\∃ap,Ix a ap 12 b (∃aq,StV pg 5 (ap.add ((12:Int).toNat*1)) (.int .u8 82) bl aq/\∃ar,Ix a ar 13 b (∃au,StV pg 5 (ar.add ((13:Int).toNat*1)) (.int .u8 69) aq au/\∃av,Ix a av 14 b (∃ax,StV pg 5 (av.add ((14:Int).toNat*1)) (.int .u8 77) au ax/\∃ay,Ix a ay 15 b (∃g,StV pg 5 (ay.add ((15:Int).toNat*1)) (.int .u8 66) ax g/\∃bm I bn,g.cell? (f.add 2)=some (.slice bm I bn)/\Br (decide ((I:Int) > 255)) (∃az,g.drew.cell? (⟨33,0,none⟩)=some (az)/\R (.returned (.tuple #[.int .i64 0,az])) g.drew) (∃bo aA bp,g.cell? (f.add 2)=some (.slice bo aA bp)/\∃aB,Ix a aB 16 b (∃J,StV pg 5 (aB.add ((16:Int).toNat*1)) (.int .u8 (u8.wrap (aA:Int))) g J/\∃t,J.cell? (f.add 1)=some (.float .f32 t)/\∃K L,(binOp .geq 236 (.float .f32 t) (.float .f32 1744830400)).run pg J=.ok (.bool K) L/\Br K (∃M u,(binOp .lss 236 (.float .f32 1744830400) (.float .f32 0)).run pg L=.ok (.bool M) u/\Br M (∃aC,u.drew.cell? (⟨34,0,none⟩)=some (aC)/\R (.returned (.tuple #[.int .i64 0,aC])) u.drew) (∃N:Int->Nat->NP,(∃bq,N 0 1744830400 bq u)/\∀(bC:NV) (k:Int) (v:Nat) (aD:Nat) (aE:World),N k v aD aE->∃O l,(binOp .geq 236 (.float .f32 v) (.float .f32 1216348160)).run pg aE=.ok (.bool O) l/\Br O (∃aF aG,(binOp .quo 236 (.float .f32 v) (.float .f32 1073741824)).run pg l=.ok (.float .f32 aF) aG/\∃aH,aH < aD/\N (i64.wrap (k+1)) aF aH aG) (Br (decide (k>=64)) (∃aI,l.drew.cell? (⟨34,0,none⟩)=some (aI)/\R (.returned (.tuple #[.int .i64 0,aI])) l.drew) (∃aJ aK,(convert 236 272 (.float .f32 v)).run pg l=.ok (.float .f64 aJ) aK/\Calls pg 220 #[.float .f64 aJ] aK (fun en br=>∃aL,en=.returned (.float .f64 aL)/\∃x aM,(convert 272 112 (.float .f64 aL)).run pg br=.ok (.int .u64 x) aM/\∃aN,Ix a aN 17 b (∃aO,StV pg 5 (aN.add ((17:Int).toNat*1)) (.int .u8 (ior .u8 (u8.wrap (ishl .i64 k 2)) (u8.wrap (ishr .u64 x 16)))) aM aO/\∃aP,Ix a aP 18 b (∃aQ,StV pg 5 (aP.add ((18:Int).toNat*1)) (.int .u8 (u8.wrap (ishr .u64 x 8))) aO aQ/\∃aS,Ix a aS 19 b (∃P,StV pg 5 (aS.add ((19:Int).toNat*1)) (.int .u8 (u8.wrap x)) aQ P/\∃aT y bs,P.cell? (f.add 2)=some (.slice aT y bs)/\∃Q:Int->Int->NP,(∃bt,Q 20 0 bt P)/\∀(bD:NV) (d:Int) (i:Int) (aU:Nat) (z:World),Q d i aU z->Br (decide (i < (y:Int))) (∃aV,Ix aT aV i y (∃aW,z.cell? (aV.add (i.toNat*1))=some (.int .u32 aW)/\0<=i64.wrap (d+4)/\i64.wrap (d+4)<=(c:Int)/\0<=d/\d<=(((i64.wrap (d+4)).toNat:Nat):Int)/\Calls pg 144 #[.slice (cutA a d.toNat c 1) (((i64.wrap (d+4)).toNat) - d.toNat) (c - d.toNat),.int .u32 aW] z (fun en bu=>en=.returned (.tuple #[])/\∃aX,aX < aU/\Q (i64.wrap (d+4)) (i64.wrap (i+1)) aX bu))) (R (.returned (.tuple #[.int .i64 d,.nilIface])) z))))))))) (∃S A,(binOp .lss 236 (.float .f32 t) (.float .f32 0)).run pg L=.ok (.bool S) A/\Br S (∃aY,A.drew.cell? (⟨34,0,none⟩)=some (aY)/\R (.returned (.tuple #[.int .i64 0,aY])) A.drew) (∃T:Int->Nat->NP,(∃bv,T 0 t bv A)/\∀(bE:NV) (m:Int) (B:Nat) (aZ:Nat) (a0:World),T m B aZ a0->∃U n,(binOp .geq 236 (.float .f32 B) (.float .f32 1216348160)).run pg a0=.ok (.bool U) n/\Br U (∃a1 a2,(binOp .quo 236 (.float .f32 B) (.float .f32 1073741824)).run pg n=.ok (.float .f32 a1) a2/\∃a3,a3 < aZ/\T (i64.wrap (m+1)) a1 a3 a2) (Br (decide (m>=64)) (∃a4,n.drew.cell? (⟨34,0,none⟩)=some (a4)/\R (.returned (.tuple #[.int .i64 0,a4])) n.drew) (∃a5 a6,(convert 236 272 (.float .f32 B)).run pg n=.ok (.float .f64 a5) a6/\Calls pg 220 #[.float .f64 a5] a6 (fun en bx=>∃a7,en=.returned (.float .f64 a7)/\∃C a8,(convert 272 112 (.float .f64 a7)).run pg bx=.ok (.int .u64 C) a8/\∃a9,Ix a a9 17 b (∃ba,StV pg 5 (a9.add ((17:Int).toNat*1)) (.int .u8 (ior .u8 (u8.wrap (ishl .i64 m 2)) (u8.wrap (ishr .u64 C 16)))) a8 ba/\∃bb,Ix a bb 18 b (∃bc,StV pg 5 (bb.add ((18:Int).toNat*1)) (.int .u8 (u8.wrap (ishr .u64 C 8))) ba bc/\∃bd,Ix a bd 19 b (∃V,StV pg 5 (bd.add ((19:Int).toNat*1)) (.int .u8 (u8.wrap C)) bc V/\∃be D bz,V.cell? (f.add 2)=some (.slice be D bz)/\∃W:Int->Int->NP,(∃bA,W 20 0 bA V)/\∀(bF:NV) (e:Int) (j:Int) (bf:Nat) (E:World),W e j bf E->Br (decide (j < (D:Int))) (∃bg,Ix be bg j D (∃bh,E.cell? (bg.add (j.toNat*1))=some (.int .u32 bh)/\0<=i64.wrap (e+4)/\i64.wrap (e+4)<=(c:Int)/\0<=e/\e<=(((i64.wrap (e+4)).toNat:Nat):Int)/\Calls pg 144 #[.slice (cutA a e.toNat c 1) (((i64.wrap (e+4)).toNat) - e.toNat) (c - e.toNat),.int .u32 bh] E (fun en bB=>en=.returned (.tuple #[])/\∃bi,bi < bf/\W (i64.wrap (e+4)) (i64.wrap (j+1)) bi bB))) (R (.returned (.tuple #[.int .i64 e,.nilIface])) E)))))))))))))))))))))))) w
theorem of218 {o p q r s a b c R w} (h:SW218 o p q r s a b c R w):Calls pg 218 #[.agg #[.int .u32 o,.float .f32 p,.slice q r s],.slice a b c] w R:=
  calls_by H218 _ Tryz.func218 h
def H219:Hints:=⟨[],[],[]⟩
def SW219 (a:Option Addr) (b c:Nat) (d:Option Addr) (e f:Nat) (R:RT) (w:World):Prop:=
  ∃g i,(convert 22 9 (.slice a b c)).run pg w=.ok (.string g) i/\∃j k,(convert 22 9 (.slice d e f)).run pg i=.ok (.string j) k/\R (.returned (.bool (g.toList == j.toList))) k
theorem of219 {a b c d e f R w} (h:SW219 a b c d e f R w):Calls pg 219 #[.slice a b c,.slice d e f] w R:=
  calls_by H219 _ Tryz.func219 h
def H220:Hints:=⟨[],[],[]⟩
def SW220 (a:Nat) (R:RT) (w:World):Prop:=
  ∃b c,(callFunc 221 #[.float .f64 a]).run pg w=.ok (.value (.float .f64 b)) c/\R (.returned (.float .f64 b)) c
theorem of220 {a R w} (h:SW220 a R w):Calls pg 220 #[.float .f64 a] w R:=
  calls_by H220 _ Tryz.func220 h
def H248:Hints:=⟨[],[],[]⟩
def SW248 (d:Option Addr) (b:Option Addr) (a c:Nat) (R:RT) (w:World):Prop:=
  Br (decide ((a:Int) < 4)) (∃e,w.cell? (⟨1,0,none⟩)=some (e)/\R (.returned (e)) w) (∃f,d=some f/\∃g,StV pg 129 f (.slice b a c) w g/\gNew #[.bool false,.int .u8 0,.int .u8 0,.int .u16 0] 109 (fun j k=>Calls pg 55 #[.pointer (some j),.slice b a c] k (fun en l=>∃i,en=.returned (i)/\R (.returned (i)) l)) g)
theorem of248 {d b a c R w} (h:SW248 d b a c R w):Calls pg 248 #[.pointer d,.slice b a c] w R:=
  calls_by H248 _ Tryz.func248 h
variable {P:Program} {w w' W:World} {n c b k m i j o g M sz bytes p1 p3:Nat} {t ty T e:TypeId} {a l:Option Addr} {v c0 c1:Value} {xs ys A:List Int} {cells vs:List Value} {r:Option Nat} {f:FuncId} {s x:Int} {G:Nat->Prop} {K:Option Addr->Nat->Nat->World->Prop} {Q:Value->Prop} {R:Ending->World->Prop}
theorem bl {a:Nat} (h:a<=b):Nat.ble a b=true:=by rw [Nat.ble_eq];exact h
structure Blk (w:World) (b:Nat) (t:TypeId) (l:List Value):Prop where
 eq:w.heap[b]?=some (.cells l.toArray t (0,0))
theorem Blk.lt {l:List Value} (h:Blk w b t l):b < w.heap.size:=(aS.1 h.eq).1
theorem Blk.cell {l:List Value} (h:Blk w b t l) (hi:l[i]?=some v):w.cell? ⟨b,i,none⟩=some v:=by
 simp [World.cell?,h.eq,hi]
theorem Blk.thaw {l:List Value} (h:Blk w b t l) (i:Nat):w.frozen? ⟨b,i,none⟩=false:=by
 simp [World.frozen?,h.eq]
theorem Blk.row {l:List Value} (h:Blk w b t l):∃c ty f,w.heap[b]?=some (.cells c ty f):=⟨_,_,_,h.eq⟩
theorem grew_refl (w:World) (r:Option Nat):w.grownBy w r:=⟨rfl,rfl,rfl,aN _,fun _ _ _=>rfl⟩
theorem grew_drew (w:World) (r:Option Nat):w.grownBy w.drew r:=⟨rfl,rfl,rfl,aN _,fun _ _ _=>rfl⟩
theorem grew_step {a b c:World} {s:Option Nat} (k:b.grownBy c s) (hs:∀j,s=some j->a.heap.size<=j\/r=some j) (h:a.grownBy b r):a.grownBy c r:=
 ⟨k.os.trans h.os,k.tape.trans h.tape,k.output.trans h.output,Nat.le_trans h.size k.size,fun i hi hne=>
  (k.block i (ci hi h.size) (fun e=>by rcases hs i e.symm with h1 | h1;omega;exact hne h1.symm)).trans (h.block i hi hne)⟩
theorem grew_none {a b:World} (r:Option Nat) (h:a.grownBy b none):a.grownBy b r:=⟨h.os,h.tape,h.output,h.size,fun i hi _=>h.block i hi (by simp)⟩
theorem add_flat (b i n:Nat):(⟨b,i,none⟩:Addr).add n=⟨b,i+n,none⟩:=by unfold Addr.add;split<;>simp_all
theorem Ce {a:Addr} {l:List Value} (ha:a=⟨b,i,none⟩) (h:Blk w b t l) (hi:l[i]?=some v):w.cell? a=some v:=by
 subst ha;exact h.cell hi
theorem gNew_i {cs:Array Value} {K:Addr->World->Prop}
  (h:∀b w',b=w.heap.size->w'.heap.size=b+1->w.grownBy w' none->Blk w' b t cs.toList->K ⟨b,0,none⟩ w'):gNew cs t K w:=
 h w.heap.size (w.alloc (.cells cs t)) rfl (by simp) (World.grownBy_alloc _ _ _) ⟨by simpa using heap_alloc_new w (.cells cs t)⟩
def scalarT (P:Program) (t:TypeId):Bool:=match P.underlying t with
 | some (.struct _)=>false
 | some (.array _ _)=>false
 | some _=>true
 | none=>false
def aggT (P:Program) (t:TypeId) (n:Nat):Bool:=match P.underlying t with
 | some (.struct _)=>Nat.beq (P.cellsOf t) n && (P.info? t).isSome
 | some (.array _ _)=>Nat.beq (P.cellsOf t) n && (P.info? t).isSome
 | _=>false
theorem run_isAgg_scalar (h:scalarT P t=true) (w:World):(isAgg t).run P w=.ok false w:=by
 unfold scalarT at h
 cases ht:P.underlying t with
 | none=>rw [ht] at h;cases h
 | some k=>rw [ht] at h;cases k<;>first | (simp only [isAgg,aL,aH ht,aB];rfl) | cases h
theorem run_isAgg_agg (h:aggT P t n=true) (w:World):(isAgg t).run P w=.ok true w:=by
 unfold aggT at h
 cases ht:P.underlying t with
 | none=>rw [ht] at h;cases h
 | some k=>rw [ht] at h;cases k<;>first | (simp only [isAgg,aL,aH ht,aB];rfl) | cases h
theorem run_size_agg (h:aggT P t n=true) (w:World):(sizeOf t).run P w=.ok n w:=by
 have h2:Nat.beq (P.cellsOf t) n=true/\(P.info? t).isSome=true:=by
  unfold aggT at h
  cases ht:P.underlying t with
  | none=>rw [ht] at h;cases h
  | some k=>rw [ht] at h;cases k<;>first | (simp only [aM] at h;exact h) | cases h
 rw [run_sizeOf P w t h2.2,aT h2.1]
def sizeB (P:Program) (t:TypeId) (n:Nat):Bool:=Nat.beq (P.cellsOf t) n && (P.info? t).isSome
theorem run_sizeB (h:sizeB P t n=true) (w:World):(sizeOf t).run P w=.ok n w:=by
 simp only [sizeB,aM] at h
 rw [run_sizeOf P w t h.2,aT h.1]
theorem setCell_blk {l:List Value} (h:Blk w b t l):Blk (w.setCell ⟨b,i,none⟩ v) b t (l.set i v):=by
 constructor
 simp [World.setCell,Array.getElem?_modify,h.eq]
theorem setCell_size (w:World) (a:Addr) (v:Value):(w.setCell a v).heap.size=w.heap.size:=by simp [World.setCell]
theorem setCell_grew (w:World) (b i:Nat) (v:Value):w.grownBy (w.setCell ⟨b,i,none⟩ v) (some b):=
 ⟨rfl,rfl,rfl,Nat.le_of_eq (setCell_size _ _ _).symm,fun k _ hne=>by
  simp only [World.setCell,Array.getElem?_modify]
  rw [ap (fun e=>hne (by rw [e]))]⟩
def putL:List Value->Nat->List Value->List Value
 | l,_,[]=>l
 | l,i,v::vs=>putL (l.set i v) (i+1) vs
theorem run_storeCells {P:Program} {b:Nat} {ty:TypeId} {o:Nat}:∀(vs:List Value) (w:World) (l:List Value) (i:Nat),Blk w b ty l->o+i+vs.length<=l.length->(∀u∈vs,u.oneCell'=true) ->
  ∃w',(storeCells ⟨b,o,none⟩ vs i).run P w=.ok () w'/\w'.heap.size=w.heap.size/\w.grownBy w' (some b)/\Blk w' b ty (putL l (o+i) vs)
 | [],w,l,i,hb,_,_=>⟨w,rfl,rfl,grew_refl _ _,hb⟩
 | v::vs,w,l,i,hb,hl,h1=>by
  simp only [aA] at hl
  have hc:=hb.cell (ai (show o+i < l.length by omega))
  have hz:=hb.thaw (o+i)
  obtain ⟨w',hr,hs,hg,hB⟩:=run_storeCells (P:=P) (o:=o) vs _ (l.set (o+i) v) (i+1) (setCell_blk (i:=o+i) (v:=v) hb) (by simp;omega) (fun u hu=>h1 u (by simp [hu]))
  refine ⟨w',?_,hs.trans (setCell_size _ _ _),World.grownBy.trans (setCell_grew _ _ _ _) hg,hB⟩
  simp only [storeCells,aL,add_flat,run_store P w _ v _ (h1 v (by simp)),hc,hz,be,bO,aB]
  exact hr
theorem St {a:Addr} {l:List Value} {K:World->Prop} (ha:a=⟨b,i,none⟩) (hb:Blk w b ty l) (ht:sizeB P t v.cells.toList.length=true) (hi:Nat.ble (i+v.cells.toList.length) l.length=true)
  (h1:v.cells.toList.all Value.oneCell'=true)
  (h:∀w',w'.heap.size=w.heap.size->w.grownBy w' (some b)->Blk w' b ty (putL l i v.cells.toList)->K w'):∃w',StV P t a v w w'/\K w':=by
 subst ha
 have hi:=bV hi
 obtain ⟨w',hr,hs,hg,hB⟩:=run_storeCells (P:=P) (b:=b) (ty:=ty) (o:=i) v.cells.toList w l 0 hb (by omega) (fun u hu=>ch.1 h1 u hu)
 refine ⟨w',?_,h w' hs hg hB⟩
 rw [bD] at ht
 simp only [StV,storeVar,aL,run_sizeB ht,aB,ne_eq,not_true_eq_false,bO]
 exact hr
theorem putL_eq:∀(vs l:List Value) (i:Nat),i+vs.length<=l.length->putL l i vs=l.take i++vs++l.drop (i+vs.length)
 | [],l,i,_=>by simp [putL]
 | v::vs,l,i,h=>by
  simp only [aA] at h
  rw [putL,putL_eq vs (l.set i v) (i+1) (by simp;omega)]
  rw [List.take_set,List.drop_set_of_lt (by omega),List.take_succ_eq_append_getElem (show i < l.length by omega)]
  rw [List.set_append_right _ _ (by simp;omega)]
  simp [cd (show i<=l.length by omega),Nat.add_assoc,Nat.add_comm 1]
theorem St0 {a:Addr} {l:List Value} {K:World->Prop} (ha:a=⟨b,0,none⟩) (hb:Blk w b ty l) (ht:sizeB P t vs.length=true) (hi:Nat.beq vs.length l.length=true)
  (h1:vs.all Value.oneCell'=true)
  (h:∀w',w'.heap.size=w.heap.size->w.grownBy w' (some b)->Blk w' b ty vs->K w'):∃w',StV P t a (.agg vs.toArray) w w'/\K w':=by
 have hi:=aT hi
 refine St ha hb ht (bl (by show 0+vs.length<=_;omega)) h1 fun w' hs hg hB=>h w' hs hg ?_
 have e:(Value.agg vs.toArray).cells.toList=vs:=rfl
 rw [e,putL_eq vs l 0 (by omega)] at hB
 simpa [hi] using hB
theorem run_loadCells {l:List Value} (hb:Blk w b ty l):∀(n i:Nat) (acc:Array Value),o+i+n<=l.length ->
  (loadCellsFrom ⟨b,o,none⟩ i n acc).run P w=.ok (acc++((l.drop (o+i)).take n).toArray) w
 | 0,i,acc,_=>by simp [loadCellsFrom]
 | n+1,i,acc,h=>by
  have hc:=hb.cell (ai (show o+i < l.length by omega))
  simp only [loadCellsFrom,aL,add_flat,run_load,hc,aB]
  rw [run_loadCells hb n (i+1) _ (by omega)]
  congr 1
  rw [bw (show o+i < l.length by omega),List.take_succ_cons]
  simp [Nat.add_assoc]
theorem Ld {a:Addr} {l:List Value} (ha:a=⟨b,i,none⟩) (hb:Blk w b ty l) (ht:aggT P t vs.length=true) (hi:Nat.ble (i+vs.length) l.length=true) (h:(l.drop i).take vs.length=vs) :
  LdV P t a (.agg vs.toArray) w:=by
 subst ha
 have hi:=bV hi
 simp only [LdV,loadVar,aL,run_isAgg_agg ht,aB,if_true,run_size_agg ht,loadCells]
 rw [run_loadCells hb _ 0 #[] (by omega)]
 simp [h]
theorem Ld0 {a:Addr} {l:List Value} (ha:a=⟨b,0,none⟩) (hb:Blk w b ty l) (ht:aggT P t l.length=true):LdV P t a (.agg l.toArray) w:=
 Ld ha hb ht (by rw [aK];exact bl (aN _)) (by simp)

/-! ### Slices of bytes -/
def Row (w:World) (b:Nat):Prop:=∃c ty f,w.heap[b]?=some (.cells c ty f)
theorem Row.lt (h:Row w b):b < w.heap.size:=by
 obtain ⟨_,_,_,h⟩:=h
 exact (aS.1 h).1
structure BS (w:World) (b:Nat) (a:Option Addr) (l c:Nat) (xs:List Int):Prop where
 and:xs.length=l/\l<=c/\c<=maxLen/\(∀x∈xs,0<=x/\x < 256)/\(a=none->c=0)/\(∀p,a=some p->0 < c->∃o,p=⟨b,o,none⟩/\∀i x,xs[i]?=some x->w.cell? ⟨b,o+i,none⟩=some (.int .u8 x))/\Row w b
theorem BS.blk {l:Nat} (h:BS w b a l c xs):Row w b:=h.and.2.2.2.2.2.2
theorem BS.lt {l:Nat} (h:BS w b a l c xs):b < w.heap.size:=h.blk.lt
structure OS (w:World) (base:Nat) (e:TypeId) (size:Nat) (a:Option Addr) (l c:Nat) (r:Option Nat) (xs:List Value):Prop where
 own:w.ownsRow base e size (.slice a l c) l xs
 blk:r=(Value.slice a l c).ownBlock
theorem OS.keep {row:Option Nat} {base:Nat} {size:Nat} {l:Nat} {xs:List Value} (hg:w.grownBy w' row) (hr:r=none\/r≠row) (h:OS w base e size a l c r xs):OS w' base e size a l c r xs:=
 ⟨h.own.kept hg (by rw [<-h.blk];exact hr),h.blk⟩
theorem OS.lt {base:Nat} {size:Nat} {l:Nat} {xs:List Value} (h:OS w base e size a l c r xs) (hk:r=some k):base<=k/\k < w.heap.size:=
 h.own.lt k (by rw [<-h.blk];exact hk)
theorem OS.nil (w:World) (base:Nat) (e:TypeId) (size:Nat):OS w base e size none 0 0 none []:=⟨World.ownsRow_nil _ _ _ _,rfl⟩
theorem OS.of_blk {base:Nat} {size:Nat} {l:List Value} (h:Blk w b e l) (hl:l.length=n*size) (hb:base<=b) (hn:n<=maxLen):OS w base e size (some ⟨b,0,none⟩) n n (some b) l:=
 ⟨⟨hl,.inr ⟨b,n,l.toArray,rfl,hb,h.eq,aN _,hn,by simpa using hl,by simp [<-hl]⟩⟩,rfl⟩
def apT (P:Program) (t e:TypeId) (size bytes:Nat):Bool:=match P.underlying t,P.info? e with
 | some (.slice e'),some i=>(match i.zero with
  | some z=>Nat.beq e' e && Nat.beq i.size size && Nat.beq i.bytes bytes && Nat.beq z.cells.size size && Nat.blt 0 size
  | none=>false)
 | _,_=>false
theorem apT_spec {size:Nat} (h:apT P t e size bytes=true) :
  P.underlying t=some (.slice e)/\∃i z,P.info? e=some i/\i.zero=some z/\i.size=size/\i.bytes=bytes/\z.cells.size=size/\0 < size:=by
 unfold apT at h
 split at h
 ·rename_i e' i ht hi
  split at h
  ·rename_i z hz
   simp only [aM] at h
   obtain ⟨⟨⟨⟨h1,h2⟩,h3⟩,h4⟩,h5⟩:=h
   obtain rfl:=aT h1
   refine ⟨ht,i,z,hi,hz,aT h2,aT h3,aT h4,?_⟩
   simp only [Nat.blt,Nat.ble_eq] at h5
   omega
  ·cases h
 ·cases h
theorem app_i {size:Nat} (hap:apT P t e size bytes=true) {base:Nat} {l:Nat} {xs:List Value} (h:OS w base e size a l c r xs)
  {ad:Addr} (news:List Value) (hl:news.length=m*size) (hnews:∀j u,news[j]?=some u->w.cell? (ad.add j)=some u) (h1:∀u∈news,u.oneCell'=true)
  (h63:l+m<=maxLen) (hbytes:(l+m)*bytes<=140737488355328) (hbase:base<=w.heap.size)
  (hK:∀a' l' c' r' w',l'=l+m->w.heap.size<=w'.heap.size->w.grownBy w' r->OS w' base e size a' l' c' r' (xs++news)->(r'=r\/r'=some w.heap.size)->K a' l' c' w') :
  ∃a' l' c',∃w',(Builtin.append_ #[t,t] ty #[.slice a l c,.slice (some ad) m k]).run P w=.ok (.slice a' l' c') w'/\K a' l' c' w':=by
 obtain ⟨ht,i,z,hi,hz,hs,hb,hzs,h0⟩:=apT_spec hap
 obtain ⟨v',w',hr,ho,hg,_,hat⟩:=run_append_own_at (P:=P) w base t ty e i z size bytes ht hi hz hs hb hzs h0 (.slice a l c) l xs h.own ad m k news hl hnews h1 h63 hbytes hbase
 have hv:∃a' c',v'=.slice a' (l+m) c':=by
  rcases ho.2 with ⟨rfl,h0⟩ | ⟨g,cap,cur,rfl,_⟩
  ·rw [h0];exact ⟨none,0,rfl⟩
  ·exact ⟨_,_,rfl⟩
 obtain ⟨a',c',rfl⟩:=hv
 refine ⟨a',l+m,c',w',hr,hK a' (l+m) c' _ w' rfl hg.size (by rw [h.blk];exact hg) ⟨ho,rfl⟩ ?_⟩
 rw [h.blk]
 exact hat
theorem madeCells_one (v:Value) (n:Nat):(madeCells #[v] n).toList=List.replicate n v:=by
 apply List.ext_getElem
 ·simp [madeCells]
 ·intro i h1 h2
  simp [madeCells,Nat.mod_one]
theorem mk_i {kl kc:IntKind} {z:Value} (hap:apT P t e 1 bytes=true) (hz:(P.info? e).bind (·.zero)=some z) (hzc:z.cells=#[z]) (hn:n<=maxLen) (hb:bytes*n<=281474976710656)
  (hK:∀b w',b=w.heap.size->b < w'.heap.size->w.grownBy w' none->Blk w' b e (List.replicate n z)->K (some ⟨b,0,none⟩) n n w') :
  ∃a l c,∃w',(Instr.makeSlice t (.int kl (n:Int)) (.int kc (n:Int))).run P w=.ok (.slice a l c) w'/\K a l c w':=by
 obtain ⟨ht,i,z',hi,hz',hs,hbb,hzs,h0⟩:=apT_spec hap
 obtain rfl:z'=z:=by rw [hi] at hz;simp only [Option.bind_some] at hz;rw [hz'] at hz;exact Option.some.inj hz
 obtain ⟨w',hr,ho,hg⟩:=run_make_full (P:=P) w w.heap.size t e i z' 1 ht hi hz' hs kl kc n (by rw [hbb];exact hb) hn (aN _)
 refine ⟨_,_,_,w',hr,?_⟩
 rcases ho.2 with ⟨hv,_⟩ | ⟨g,cap,cur,hv,hbg,hgg,hc,hm,hsz,htk⟩
 ·cases hv
 ·simp only [bN,aZ,Addr.mk.injEq] at hv
  obtain ⟨⟨rfl,_⟩,_,rfl⟩:=hv
  rw [hzc,bd,madeCells_one] at htk
  refine hK _ w' rfl (aS.1 hgg).1 hg ?_
  have:cur.toList=List.replicate n z':=by rw [<-htk,bA (by rw [bD];omega)]
  constructor
  rw [<-this]
  exact hgg
theorem cp_i {dT sT elem:TypeId} (hap:apT P dT elem 1 bytes=true) {dLen dCap sLen sCap:Nat} {a:Addr} {l:List Value} (hB:Blk w g t l) (cs:List Value)
  (hn:cs.length=Nat.min sLen dLen) (hsrc:∀j v,cs[j]?=some v->w.cell? (a.add j)=some v) (hfit:o+cs.length<=l.length) (h1:∀v∈cs,v.oneCell'=true) {K:Int->World->Prop}
  (hK:∀w',w'.heap.size=w.heap.size->w.grownBy w' (some g)->Blk w' g t (l.take o++cs++l.drop (o+cs.length))->K cs.length w') :
  ∃n,∃w',(Builtin.copy_ #[dT,sT] ty #[.slice (some ⟨g,o,none⟩) dLen dCap,.slice (some a) sLen sCap]).run P w=.ok (.int .i64 n) w'/\K n w':=by
 obtain ⟨ht,i,z',hi,hz',hs,hbb,hzs,h0⟩:=apT_spec hap
 have hr:=run_copy_row (P:=P) w dT sT ty elem g o dLen dCap a sLen sCap l.toArray t cs ht (by rw [hi];simp [hs]) hB.eq hn hsrc (by simpa using hfit) h1
 refine ⟨_,_,hr,hK _ ?_ ⟨rfl,rfl,rfl,?_,fun k _ hk=>setRow_other w g k _ (fun e=>hk (by rw [e]))⟩ ?_⟩
 ·simp [World.setRow]
 ·simp [World.setRow]
 ·have:=setRow_heap w g l.toArray ((l.take o++cs++l.drop (o+cs.length)).toArray) t (0,0) hB.eq
  exact ⟨by simpa using this⟩
def convB (P:Program) (t e:TypeId):Bool:=match P.underlying t,P.underlying e with
 | some (.slice e'),some (.int .u8)=>Nat.beq e' e
 | _,_=>false
theorem cv_same (h:convB P t e=true) {p:Addr} {l:Nat} (hB:BS w b (some p) l c xs) (hc:0 < c)
  (hK:∀w',w'.heap.size=w.heap.size->w.grownBy w' (some b)->BS w' b (some p) l c xs->K (some p) l c w'):∃a' l' c',∃w',(convert t t (.slice (some p) l c)).run P w=.ok (.slice a' l' c') w'/\K a' l' c' w':=by
 unfold convB at h
 split at h
 ·rename_i e' ht he
  obtain rfl:=aT h
  obtain ⟨h1,h2,h3,h4,h5,h6,cc,ty,f,h7⟩:=hB.and
  obtain ⟨o,rfl,hx⟩:=h6 p rfl hc
  have hr:(convert t t (.slice (some ⟨b,o,none⟩) l c)).run P w=.ok (.slice (some ⟨b,o,none⟩) l c) (w.freeze ⟨b,cc.size,none⟩ 1):=by
   have hsh:w.shape? b=some (ty,cc.size):=by simp [World.shape?,h7]
   simp [convert,aH ht,aH he,markStringish,shape,freeze,Sem.run,hsh]
  have hfz:∀k,k≠b->(w.freeze ⟨b,cc.size,none⟩ 1).heap[k]?=w.heap[k]?:=fun k hk=>by
   simp [World.freeze,Array.getElem?_modify,Ne.symm hk]
  have hfb:∃f',(w.freeze ⟨b,cc.size,none⟩ 1).heap[b]?=some (.cells cc ty f'):=by
   obtain ⟨lo,hi⟩:=f
   exact ⟨_,by simp [World.freeze,Array.getElem?_modify,h7];rfl⟩
  obtain ⟨f',hfb⟩:=hfb
  have hs:(w.freeze ⟨b,cc.size,none⟩ 1).heap.size=w.heap.size:=by simp [World.freeze]
  refine ⟨_,_,_,_,hr,hK _ hs ⟨rfl,rfl,rfl,Nat.le_of_eq hs.symm,fun k _ hk=>hfz k (fun e=>hk (by rw [e]))⟩ ⟨h1,h2,h3,h4,by simp,fun p hp _=>?_,_,_,_,hfb⟩⟩
  cases hp
  refine ⟨o,rfl,fun i x hi=>?_⟩
  have:=hx i x hi
  simp only [World.cell?,h7] at this
  simp only [World.cell?,hfb]
  exact this
 ·cases h
theorem call_j {args:Array Value} {R':Ending->World->Prop} (h:Calls pg f args w R) (hR:∀e w',R e w'->R' e w'):Calls pg f args w R':=h.mono hR

/-! ### Growth that may turn several blocks -/
structure Gr (w w':World) (M:Nat->Prop):Prop where
 os:w'.os=w.os
 tape:w'.tape=w.tape
 output:w'.output=w.output
 size:w.heap.size<=w'.heap.size
 block:∀k,k < w.heap.size->¬M k->w'.heap[k]?=w.heap[k]?
theorem Gr.of (h:w.grownBy w' r):Gr w w' (fun k=>some k=r):=⟨h.os,h.tape,h.output,h.size,fun k hk hn=>h.block k hk hn⟩
theorem Gr.mono {M M':Nat->Prop} (h:Gr w w' M) (hm:∀k,k < w.heap.size->M k->M' k):Gr w w' M':=⟨h.os,h.tape,h.output,h.size,fun k hk hn=>h.block k hk (fun hM=>hn (hm k hk hM))⟩
theorem Gr.refl (w:World) (M:Nat->Prop):Gr w w M:=⟨rfl,rfl,rfl,aN _,fun _ _ _=>rfl⟩
theorem Gr.trans {a b c:World} {M M':Nat->Prop} (h:Gr a b M) (k:Gr b c M') (hm:∀i,M' i->a.heap.size<=i\/M i):Gr a c M:=
 ⟨k.os.trans h.os,k.tape.trans h.tape,k.output.trans h.output,Nat.le_trans h.size k.size,fun i hi hn=>
  (k.block i (ci hi h.size) (fun hM=>by rcases hm i hM with h1 | h1;omega;exact hn h1)).trans (h.block i hi hn)⟩
theorem Gr.none {M:Nat->Prop} (h:Gr w w' M) (hm:∀k,k < w.heap.size->¬M k):w.grownBy w' none:=⟨h.os,h.tape,h.output,h.size,fun k hk _=>h.block k hk (hm k hk)⟩
inductive Dat where
 | one (v:Value)
 | row (sz:Nat) (ds:List Dat)
 | ptr (ds:List Dat)
 | ifc (t:TypeId) (d:Dat)
inductive Deep (w:World) (G:Nat->Prop):Dat->Value->Prop
 | one (v:Value):Deep w G (.one v) v
 | emp (sz:Nat) (a:Option Addr):Deep w G (.row sz []) (.slice a 0 0)
 | row (sz b o n c:Nat) (ds:List Dat) (vs:List Value) (hnc:n<=c) (hc:c<=maxLen) (hlt:b < w.heap.size) (hG:G b) (hl:ds.length=n*sz) (hv:vs.length=ds.length)
   (hcell:∀(i:Nat) (v:Value),vs[i]?=some v->w.cell? ⟨b,o+i,none⟩=some v) (hd:∀(i:Nat) (d:Dat) (v:Value),ds[i]?=some d->vs[i]?=some v->Deep w G d v):Deep w G (.row sz ds) (.slice (some ⟨b,o,none⟩) n c)
 | ptr (b:Nat) (t:TypeId) (fz:Nat×Nat) (ds:List Dat) (vs:List Value) (hG:G b) (hb:w.heap[b]?=some (.cells vs.toArray t fz)) (hv:vs.length=ds.length)
   (hd:∀(i:Nat) (d:Dat) (v:Value),ds[i]?=some d->vs[i]?=some v->Deep w G d v):Deep w G (.ptr ds) (.pointer (some ⟨b,0,none⟩))
 | ifc (t:TypeId) (d:Dat) (v:Value) (h:Deep w G d v):Deep w G (.ifc t d) (.iface t v)
def DeepL (w:World) (G:Nat->Prop) (ds:List Dat) (vs:List Value):Prop:=vs.length=ds.length/\∀(i:Nat) (d:Dat) (v:Value),ds[i]?=some d->vs[i]?=some v->Deep w G d v
theorem Deep.keep {G' M:Nat->Prop} (hg:Gr w w' M) (hG:∀b,b < w.heap.size->G b->¬M b/\G' b) {d:Dat} (h:Deep w G d v):Deep w' G' d v:=by
 induction h with
 | one v=>exact .one v
 | emp sz a=>exact .emp sz a
 | row sz b o n c ds vs hnc hc hlt hGb hl hv hcell _ ih=>
  refine .row sz b o n c ds vs hnc hc (ci hlt hg.size) (hG b hlt hGb).2 hl hv (fun i v hi=>?_) (fun i d v h1 h2=>ih i d v h1 h2)
  rw [World.cell?_of_block (w:=w) (w':=w') (hg.block b hlt (hG b hlt hGb).1)]
  exact hcell i v hi
 | ptr b t fz ds vs hGb hb hv _ ih=>
  have hlt:=(aS.1 hb).1
  exact .ptr b t fz ds vs (hG b hlt hGb).2 ((hg.block b hlt (hG b hlt hGb).1).trans hb) hv (fun i d v h1 h2=>ih i d v h1 h2)
 | ifc t d v _ ih=>exact .ifc t d v ih
theorem DeepL.keep {G' M:Nat->Prop} (hg:Gr w w' M) (hG:∀b,b < w.heap.size->G b->¬M b/\G' b) {ds:List Dat} (h:DeepL w G ds vs):DeepL w' G' ds vs:=
 ⟨h.1,fun i d v h1 h2=>(h.2 i d v h1 h2).keep hg hG⟩
theorem DeepL.nil (w:World) (G:Nat->Prop):DeepL w G [] []:=⟨rfl,by simp⟩
theorem DeepL.cons {d:Dat} {ds:List Dat} (h:Deep w G d v) (hs:DeepL w G ds vs):DeepL w G (d::ds) (v::vs):=by
 refine ⟨by simp [hs.1],fun i d' v' h1 h2=>?_⟩
 cases i with
 | zero=>simp only [List.getElem?_cons_zero,aZ] at h1 h2;subst h1;subst h2;exact h
 | succ i=>simp only [List.getElem?_cons_succ] at h1 h2;exact hs.2 i d' v' h1 h2
theorem DeepL.head {d:Dat} {ds:List Dat} (h:DeepL w G (d::ds) (v::vs)):Deep w G d v:=h.2 0 d v rfl rfl
theorem DeepL.tail {d:Dat} {ds:List Dat} (h:DeepL w G (d::ds) (v::vs)):DeepL w G ds vs:=⟨by have:=h.1;simpa using this,fun i d' v' h1 h2=>h.2 (i+1) d' v' (by simpa using h1) (by simpa using h2)⟩
theorem DeepL.append:∀{ds es:List Dat} {vs us:List Value},DeepL w G ds vs->DeepL w G es us->DeepL w G (ds++es) (vs++us)
 | [],es,[],us,_,h2=>h2
 | [],_,_::_,_,h1,_=>by have:=h1.1;simp at this
 | _::_,_,[],_,h1,_=>by have:=h1.1;simp at this
 | d::ds,es,v::vs,us,h1,h2=>DeepL.cons h1.head (h1.tail.append h2)
theorem DeepL.ones:∀(vs:List Value),DeepL w G (vs.map .one) vs
 | []=>DeepL.nil _ _
 | v::vs=>DeepL.cons (.one v) (DeepL.ones vs)
theorem DeepL.of_ones:∀{us vs:List Value},DeepL w G (us.map .one) vs->vs=us
 | [],[],_=>rfl
 | [],_::_,h=>by have:=h.1;simp at this
 | _::_,[],h=>by have:=h.1;simp at this
 | u::us,v::vs,h=>by
  have h1:=h.head
  cases h1
  rw [DeepL.of_ones (us:=us) (vs:=vs) h.tail]
theorem DeepL.drop {ds:List Dat} (h:DeepL w G ds vs) (k:Nat):DeepL w G (ds.drop k) (vs.drop k):=
 ⟨by simp [h.1],fun i d v h1 h2=>by rw [List.getElem?_drop] at h1 h2;exact h.2 _ d v h1 h2⟩
theorem DeepL.take {ds:List Dat} (h:DeepL w G ds vs) (k:Nat):DeepL w G (ds.take k) (vs.take k):=by
 refine ⟨by simp [h.1],fun i d v h1 h2=>?_⟩
 rw [cj] at h1 h2
 split at h1
 ·rename_i hi;rw [aG hi] at h2;exact h.2 _ d v h1 h2
 ·cases h1
def ob (xs:List Int):List Dat:=xs.map fun x=>.one (.int .u8 x)
theorem ob_length (xs:List Int):(ob xs).length=xs.length:=by simp [ob]
theorem ob_ones (xs:List Int):ob xs=(xs.map (Value.int .u8)).map .one:=by simp [ob]
theorem ob_append (xs ys:List Int):ob (xs++ys)=ob xs++ob ys:=by simp [ob]
theorem ob_drop (xs:List Int) (k:Nat):(ob xs).drop k=ob (xs.drop k):=by simp [ob]
theorem ob_take (xs:List Int) (k:Nat):(ob xs).take k=ob (xs.take k):=by simp [ob]
theorem Deep.len {ds:List Dat} (h:Deep w G (.row sz ds) (.slice a n c)):ds.length=n*sz/\n<=c/\c<=maxLen/\(a=none->c=0):=by
 cases h with
 | emp=>exact ⟨by simp,by simp,by simp,fun _=>rfl⟩
 | row _ b o n c ds vs hnc hc hlt hG hl hv hcell hd=>exact ⟨hl,hnc,hc,fun h=>by cases h⟩
theorem Deep.lenB (h:Deep w G (.row 1 (ob xs)) (.slice a n c)):xs.length=n:=by
 have:=h.len.1;simpa [ob_length] using this
theorem Deep.at_ {ds:List Dat} (h:Deep w G (.row sz ds) (.slice a n c)) (hn:0 < n) :
  ∃(b o:Nat) (vs:List Value),a=some ⟨b,o,none⟩/\b < w.heap.size/\G b/\DeepL w G ds vs/\∀(i:Nat) (v:Value),vs[i]?=some v->w.cell? ⟨b,o+i,none⟩=some v:=by
 cases h with
 | emp=>omega
 | row _ b o n c ds vs hnc hc hlt hG hl hv hcell hd=>exact ⟨_,_,_,rfl,hlt,hG,⟨hv,hd⟩,hcell⟩
theorem cutA_of {l:Nat} (h:a=some ⟨b,o,none⟩):(m=l/\cutA a l m sz=a)\/(m≠l/\cutA a l m sz=some ⟨b,o+l*sz,none⟩):=by
 unfold cutA
 by_cases hm:m=l
 ·rw [aG hm];exact .inl ⟨hm,rfl⟩
 ·rw [ap hm,h];exact .inr ⟨hm,by rw [aU,add_flat]⟩
theorem Deep.cut {ds:List Dat} (h:Deep w G (.row sz ds) (.slice a n c)) (i j m:Nat) (hi:i<=j) (hj:j<=n) (hjm:j<=m) (hm:m<=c) :
  Deep w G (.row sz ((ds.drop (i*sz)).take ((j - i)*sz))) (.slice (cutA a i m sz) (j - i) (m - i)):=by
 have hlen:=h.len
 rcases bL (m - i) with h0 | h0
 ·have hji:j - i=0:=by omega
  rw [h0,hji,Nat.zero_mul,aP]
  exact .emp _ _
 ·cases h with
  | emp=>omega
  | row _ b o n c ds vs hnc hc hlt hG hl hv hcell hd=>
   rcases cutA_of (l:=i) (m:=m) (sz:=sz) (rfl:(some (⟨b,o,none⟩:Addr))=some ⟨b,o,none⟩) with ⟨h1,h2⟩ | ⟨h1,h2⟩
   ·omega
   ·rw [h2]
    have hL:DeepL w G ds vs:=⟨hv,hd⟩
    have hL2:=(hL.drop (i*sz)).take ((j - i)*sz)
    refine .row sz b (o+i*sz) (j - i) (m - i) _ ((vs.drop (i*sz)).take ((j - i)*sz)) (by omega) (by omega) hlt hG ?_ hL2.1 (fun k v hk=>?_) hL2.2
    ·rw [bq,az,hl,<-Nat.sub_mul]
     have:=Nat.mul_le_mul_right sz (show j - i<=n - i by omega)
     omega
    ·rw [cj] at hk
     split at hk
     ·rw [List.getElem?_drop] at hk
      have:=hcell _ v hk
      rwa [<-Nat.add_assoc] at this
     ·cases hk

/-! ### Blocks of one's own -/
inductive Ex where
 | blk (b:Nat) (t:TypeId) (l:List Value)
 | own (e:TypeId) (sz:Nat) (a:Option Addr) (n c:Nat) (r:Option Nat) (ds:List Dat)
 | many (t:TypeId) (bs:List (Nat×List Value))
def Ex.foot:Ex->List Nat
 | .blk b _ _=>[b]
 | .own _ _ _ _ _ r _=>r.toList
 | .many _ bs=>bs.map (·.1)
def Ex.holds (w:World) (G:Nat->Prop):Ex->Prop
 | .blk b t l=>Blk w b t l
 | .own e sz a n c r ds=>∃xs,OS w 0 e sz a n c r xs/\DeepL w G ds xs
 | .many t bs=>∀p∈bs,Blk w p.1 t p.2
inductive Ro where
 | deep (ds:List Dat) (vs:List Value)
 | cell (b o:Nat) (v:Value)
def Ro.holds (w:World) (G:Nat->Prop):Ro->Prop
 | .deep ds vs=>DeepL w G ds vs
 | .cell b o v=>w.cell? ⟨b,o,none⟩=some v/\G b
abbrev Ro.B (xs:List Int) (a:Option Addr) (n c:Nat):Ro:=.deep [.row 1 (ob xs)] [.slice a n c]
def foots (ex:List Ex):List Nat:=ex.flatMap Ex.foot
theorem foots_cons (e:Ex) (ex:List Ex):foots (e::ex)=e.foot++foots ex:=by simp [foots]
theorem foots_append (e ex:List Ex):foots (e++ex)=foots e++foots ex:=by simp [foots]
structure Fr where
 w0:World
 M:Nat->Prop
structure Sat (F:Fr) (w:World) (ex:List Ex) (ro:List Ro):Prop where
 gr:Gr F.w0 w F.M
 nd:(foots ex).Nodup
 lt:∀b∈foots ex,b < w.heap.size/\(F.w0.heap.size<=b\/F.M b)
 he:∀e∈ex,e.holds w (fun b=>b ∉ foots ex)
 hr:∀r∈ro,r.holds w (fun b=>b ∉ foots ex)
theorem Ex.holds.keep {G' M:Nat->Prop} (hg:Gr w w' M) (hG:∀b,b < w.heap.size->G b->¬M b/\G' b) {e:Ex} (hf:∀b∈e.foot,¬M b) (h:e.holds w G):e.holds w' G':=by
 cases e with
 | blk b t l=>
  have h:Blk w b t l:=h
  exact (⟨(hg.block b h.lt (hf b (by simp [Ex.foot]))).trans h.eq⟩:Blk w' b t l)
 | own e sz a n c r ds=>
  obtain ⟨xs,ho,hd⟩:=h
  refine ⟨xs,?_,hd.keep hg hG⟩
  refine ⟨⟨ho.own.1,?_⟩,ho.blk⟩
  rcases ho.own.2 with h1 | ⟨g,cap,cur,hv,hb,hgg,rest⟩
  ·exact .inl h1
  ·refine .inr ⟨g,cap,cur,hv,hb,?_,rest⟩
   have hr:r=some g:=by rw [ho.blk,hv];rfl
   exact (hg.block g (aS.1 hgg).1 (hf g (by simp [Ex.foot,hr]))).trans hgg
 | many t bs=>
  have h:∀p∈bs,Blk w p.1 t p.2:=h
  exact fun p hp=>⟨(hg.block p.1 (h p hp).lt (hf p.1 (by simp only [Ex.foot,bC];exact ⟨p,hp,rfl⟩))).trans (h p hp).eq⟩
theorem Ro.holds.keep {G' M:Nat->Prop} (hg:Gr w w' M) (hG:∀b,b < w.heap.size->G b->¬M b/\G' b) {r:Ro} (h:r.holds w G):r.holds w' G':=by
 cases r with
 | deep ds vs=>exact DeepL.keep hg hG h
 | cell b o v=>
  obtain ⟨h1,h2⟩:=h
  have hlt:=World.block_lt_of_cell? _ _ h1
  exact ⟨(World.cell?_of_block (w:=w) (w':=w') (hg.block b hlt (hG b hlt h2).1)).trans h1,(hG b hlt h2).2⟩
theorem Sat.step {F:Fr} {used used' rest:List Ex} {ro:List Ro} (H:Sat F w (used++rest) ro) (hg:Gr w w' (fun k=>k∈foots used)) (hnd:(foots used').Nodup)
  (hnew:∀b∈foots used',b < w'.heap.size/\(b∈foots used\/w.heap.size<=b)) (hex:∀e∈used',(∀b,b < w.heap.size->b ∉ foots (used++rest)->b ∉ foots (used'++rest))->e.holds w' (fun b=>b ∉ foots (used'++rest))) :
  Sat F w' (used'++rest) ro:=by
 have hnd0:=H.nd
 rw [foots_append,bT] at hnd0
 have hlt:=H.lt
 rw [foots_append] at hlt
 have hsub:∀b,b < w.heap.size->b ∉ foots (used++rest)->b ∉ foots (used'++rest):=by
  intro b hb hn
  rw [foots_append,aV] at hn ⊢
  rintro (h | h)
  ·rcases (hnew b h).2 with h1 | h1
   ·exact hn (.inl h1)
   ·omega
  ·exact hn (.inr h)
 have hG:∀b,b < w.heap.size->b ∉ foots (used++rest)->¬b∈foots used/\b ∉ foots (used'++rest):=fun b hb hn=>
  ⟨fun h=>hn (by rw [foots_append,aV];exact .inl h),hsub b hb hn⟩
 refine ⟨H.gr.trans hg (fun i hi=>(hlt i (bx _ hi)).2),?_,?_,?_,fun r hr=>(H.hr r hr).keep hg hG⟩
 ·rw [foots_append,bT]
  refine ⟨hnd,hnd0.2.1,fun x hx y hy e=>?_⟩
  subst e
  rcases (hnew x hx).2 with h1 | h1
  ·exact hnd0.2.2 x h1 x hy rfl
  ·have:=(hlt x (bh _ hy)).1;omega
 ·intro b hb
  rw [foots_append,aV] at hb
  rcases hb with hb | hb
  ·refine ⟨(hnew b hb).1,?_⟩
   rcases (hnew b hb).2 with h1 | h1
   ·exact (hlt b (bx _ h1)).2
   ·exact .inl (Nat.le_trans H.gr.size h1)
  ·exact ⟨ci (hlt b (bh _ hb)).1 hg.size,(hlt b (bh _ hb)).2⟩
 ·intro e he
  rcases aV.1 he with he | he
  ·exact hex e he hsub
  ·refine (H.he e (bh _ he)).keep hg hG (fun b hb hbu=>?_)
   have hbr:b∈foots rest:=by simp only [foots,List.mem_flatMap];exact ⟨e,he,hb⟩
   exact hnd0.2.2 b hbu b hbr rfl
theorem Sat.grow {F:Fr} {ex:List Ex} {ro:List Ro} (H:Sat F w ex ro) (hg:w.grownBy w' none):Sat F w' ex ro:=
 Sat.step (used:=[]) (used':=[]) (rest:=ex) H ((Gr.of hg).mono (fun k _ h=>by cases h)) (by simp [foots]) (by simp [foots]) (by simp)
theorem Sat.drew {F:Fr} {ex:List Ex} {ro:List Ro} (H:Sat F w ex ro):Sat F w.drew ex ro:=H.grow (grew_drew _ _)
theorem Sat.perm {F:Fr} {ex ex':List Ex} {ro:List Ro} (H:Sat F w ex ro) (hp:ex.Perm ex'):Sat F w ex' ro:=by
 have hf:(foots ex).Perm (foots ex'):=hp.flatMap_right _
 have hm:∀b,b ∉ foots ex↔b ∉ foots ex':=fun b=>not_congr hf.mem_iff
 have hG:(fun b=>b ∉ foots ex)=(fun b=>b ∉ foots ex'):=funext fun b=>propext (hm b)
 exact ⟨H.gr,hf.nodup_iff.1 H.nd,fun b hb=>H.lt b (hf.mem_iff.2 hb),fun e he=>by rw [<-hG];exact H.he e (hp.mem_iff.2 he),fun r hr=>by rw [<-hG];exact H.hr r hr⟩
theorem Sat.sub {F:Fr} {ex ex':List Ex} {ro ro':List Ro} (H:Sat F w ex ro) (hs:ex'.Sublist ex) (hr:∀r∈ro',r∈ro):Sat F w ex' ro':=by
 have hf:(foots ex').Sublist (foots ex):=by
  clear H
  induction hs with
  | slnil=>exact ak _
  | cons a _ ih=>rw [foots_cons];exact ih.trans (List.sublist_append_right _ _)
  | cons_cons a _ ih=>rw [foots_cons,foots_cons];exact (ak _).append ih
 have hG:∀b,b < w.heap.size->b ∉ foots ex->¬False/\b ∉ foots ex':=fun b _ h=>⟨id,fun h'=>h (hf.subset h')⟩
 have hg:=Gr.refl w (fun _=>False)
 exact ⟨H.gr,H.nd.sublist hf,fun b hb=>H.lt b (hf.subset hb),fun e he=>(H.he e (hs.subset he)).keep hg hG (fun _ _=>id),fun r hr'=>(H.hr r (hr r hr')).keep hg hG⟩
theorem Sat.addRo {F:Fr} {ex:List Ex} {ro:List Ro} (H:Sat F w ex ro) {r:Ro} (h:r.holds w (fun b=>b ∉ foots ex)):Sat F w ex (r::ro):=
 ⟨H.gr,H.nd,H.lt,H.he,fun r' hr=>by rcases aI.1 hr with rfl | hr;exact h;exact H.hr r' hr⟩
theorem Sat.addD {F:Fr} {ex:List Ex} {ro:List Ro} (H:Sat F w ex ro) {ds:List Dat} (hD:∀G:Nat->Prop,(∀r∈ro,Ro.holds w G r)->DeepL w G ds vs):Sat F w ex (.deep ds vs::ro):=H.addRo (hD _ H.hr)
theorem Sat.start {ex:List Ex} {ro:List Ro} {M:Nat->Prop} (nd:(foots ex).Nodup) (lt:∀b∈foots ex,b < w.heap.size/\M b) (hex:∀e∈ex,e.holds w (fun b=>b ∉ foots ex)) (hro:∀r∈ro,r.holds w (fun b=>b ∉ foots ex)):Sat ⟨w,M⟩ w ex ro:=
 ⟨Gr.refl _ _,nd,fun b hb=>⟨(lt b hb).1,.inr (lt b hb).2⟩,hex,hro⟩

/-! ### Reading -/
theorem Sat.b0 {F:Fr} {l:List Value} {ex:List Ex} {ro:List Ro} (H:Sat F w (.blk b t l::ex) ro):Blk w b t l:=H.he (.blk b t l) (by simp)
theorem Sat.deep {F:Fr} {ex:List Ex} {ro:List Ro} {ds:List Dat} (H:Sat F w ex ro) (h:Ro.deep ds vs∈ro):DeepL w (fun b=>b ∉ foots ex) ds vs:=H.hr _ h
theorem Sat.deep1 {F:Fr} {ex:List Ex} {ro:List Ro} {d:Dat} (H:Sat F w ex ro) (h:Ro.deep [d] [v]∈ro):Deep w (fun b=>b ∉ foots ex) d v:=(H.hr _ h).head
theorem Sat.cell {F:Fr} {ex:List Ex} {ro:List Ro} (H:Sat F w ex ro) (h:Ro.cell b o v∈ro) {a:Addr} (ha:a=⟨b,o,none⟩):w.cell? a=some v:=by subst ha;exact (H.hr _ h).1
theorem Sat.lenB {F:Fr} {ex:List Ex} {ro:List Ro} (H:Sat F w ex ro) (h:Ro.B xs a n c∈ro):xs.length=n:=(H.deep1 h).lenB
theorem Sat.elt {F:Fr} {ex:List Ex} {ro:List Ro} {ds:List Dat} (H:Sat F w ex ro) (h:Ro.deep [.row sz ds] [.slice a n c]∈ro) (hn:0 < n) :
  ∃b o,a=some ⟨b,o,none⟩/\∀(i:Nat) (u:Value),ds[i]?=some (.one u)->w.cell? ⟨b,o+i,none⟩=some u:=by
 obtain ⟨b,o,vs,ha,_,_,hL,hc⟩:=(H.deep1 h).at_ hn
 refine ⟨b,o,ha,fun i u hu=>?_⟩
 have hlt:i < vs.length:=by rw [hL.1];exact (cm.1 hu).1
 have:=hL.2 i _ _ hu (ai hlt)
 cases this
 exact hc i _ (ai hlt)
theorem Sat.elts {F:Fr} {ex:List Ex} {ro:List Ro} {ds:List Dat} (H:Sat F w ex ro) (h:Ro.deep [.row sz ds] [.slice a n c]∈ro) (hn:0 < n) :
  ∃(b o:Nat) (vs:List Value),a=some ⟨b,o,none⟩/\vs.length=ds.length/\(∀(i:Nat) (u:Value),vs[i]?=some u->w.cell? ⟨b,o+i,none⟩=some u)/\Sat F w ex (.deep ds vs::ro):=by
 obtain ⟨b,o,vs,ha,_,_,hL,hc⟩:=(H.deep1 h).at_ hn
 exact ⟨b,o,vs,ha,hL.1,hc,H.addRo hL⟩
theorem Sat.splitRo {F:Fr} {ex:List Ex} {ro:List Ro} {ds:List Dat} (H:Sat F w ex ro) (h:Ro.deep ds vs∈ro) (i:Nat) {d:Dat} (hd:ds[i]?=some d) (hv:vs[i]?=some v):Sat F w ex (.deep [d] [v]::ro):=
 H.addRo (DeepL.cons ((H.deep h).2 i d v hd hv) (DeepL.nil _ _))
theorem Sat.cutRo {F:Fr} {ex:List Ex} {ro:List Ro} {ds:List Dat} (H:Sat F w ex ro) (h:Ro.deep [.row sz ds] [.slice a n c]∈ro) (i j m:Nat) (hi:i<=j) (hj:j<=n) (hjm:j<=m) (hm:m<=c) :
  Sat F w ex (.deep [.row sz ((ds.drop (i*sz)).take ((j - i)*sz))] [.slice (cutA a i m sz) (j - i) (m - i)]::ro):=
 H.addRo (DeepL.cons ((H.deep1 h).cut i j m hi hj hjm hm) (DeepL.nil _ _))
theorem Sat.skipB {F:Fr} {ex:List Ex} {ro:List Ro} (H:Sat F w ex ro) (h:Ro.B xs a n c∈ro) (i:Nat) (hi:i<=n):Sat F w ex (Ro.B (xs.drop i) (cutA a i c 1) (n - i) (c - i)::ro):=by
 have hl:=(H.deep1 h).len
 have h1:=H.cutRo h i n c hi (aN _) hl.2.1 (aN _)
 rw [bd,bd,ob_drop,ob_take,bA (by rw [az,H.lenB h];exact aN _)] at h1
 exact h1
theorem Sat.cutB {F:Fr} {ex:List Ex} {ro:List Ro} (H:Sat F w ex ro) (h:Ro.B xs a n c∈ro) (i j:Nat) (hi:i<=j) (hj:j<=n):Sat F w ex (Ro.B ((xs.drop i).take (j - i)) (cutA a i c 1) (j - i) (c - i)::ro):=by
 have hl:=(H.deep1 h).len
 have h1:=H.cutRo h i j c hi hj (by omega) (aN _)
 rw [bd,bd,ob_drop,ob_take] at h1
 exact h1
theorem sNew {F:Fr} {ex:List Ex} {ro:List Ro} (H:Sat F w ex ro) {cs:Array Value} {K:Addr->World->Prop} (h:∀b w',w.grownBy w' none->Sat F w' (.blk b t cs.toList::ex) ro->K ⟨b,0,none⟩ w'):gNew cs t K w:=by
 refine gNew_i fun b w' hb hs hg hB=>h b w' hg ?_
 refine Sat.step (used:=[]) (used':=[.blk b t cs.toList]) (rest:=ex) H ((Gr.of hg).mono (fun k _ h=>by cases h)) (by simp [foots,Ex.foot]) (fun q hq=>?_) (fun e he _=>?_)
 ·simp only [foots,Ex.foot,av,aD,aE,aQ] at hq
  subst hq
  exact ⟨by omega,.inr (by omega)⟩
 ·simp only [aQ] at he
  subst he
  exact hB
theorem Sat.turn {F:Fr} {l l':List Value} {ex:List Ex} {ro:List Ro} (H:Sat F w (.blk b t l::ex) ro) (hg:w.grownBy w' (some b)) (hB:Blk w' b t l'):Sat F w' (.blk b t l'::ex) ro:=by
 refine Sat.step (used:=[.blk b t l]) (used':=[.blk b t l']) (rest:=ex) H ((Gr.of hg).mono (fun k _ h=>?_)) (by simp [foots,Ex.foot]) (fun q hq=>?_) (fun e he _=>?_)
 ·injection h with h;subst h;simp [foots,Ex.foot]
 ·simp only [foots,Ex.foot,av,aD,aE,aQ] at hq ⊢
  subst hq
  exact ⟨hB.lt,.inl rfl⟩
 ·simp only [aQ] at he
  subst he
  exact hB
theorem sSt0 {F:Fr} {l:List Value} {ex:List Ex} {ro:List Ro} (H:Sat F w (.blk b ty l::ex) ro) {a:Addr} {K:World->Prop} (ha:a=⟨b,i,none⟩:=by exact add_flat _ _ _)
  (ht:sizeB P t v.cells.toList.length=true:=by kernel_rfl) (hi:Nat.ble (i+v.cells.toList.length) l.length=true:=by rfl) (h1:v.cells.toList.all Value.oneCell'=true:=by rfl)
  (h:∀w',w.grownBy w' (some b)->Sat F w' (.blk b ty (putL l i v.cells.toList)::ex) ro->K w'):∃w',StV P t a v w w'/\K w':=
 St ha H.b0 ht hi h1 fun w' _ hg hB=>h w' hg (H.turn hg hB)
theorem sSw0 {F:Fr} {l:List Value} {ex:List Ex} {ro:List Ro} (H:Sat F w (.blk b ty l::ex) ro) {a:Addr} {K:World->Prop} (ha:a=⟨b,0,none⟩:=by rfl)
  (ht:sizeB P t vs.length=true:=by kernel_rfl) (hi:Nat.beq vs.length l.length=true:=by rfl) (h1:vs.all Value.oneCell'=true:=by rfl)
  (h:∀w',w.grownBy w' (some b)->Sat F w' (.blk b ty vs::ex) ro->K w'):∃w',StV P t a (.agg vs.toArray) w w'/\K w':=
 St0 ha H.b0 ht hi h1 fun w' _ hg hB=>h w' hg (H.turn hg hB)
theorem Sat.owned {F:Fr} {size:Nat} {a':Option Addr} {n' c':Nat} {r':Option Nat} {ds nds:List Dat} {ex:List Ex} {ro:List Ro} (H:Sat F w (.own e size a n c r ds::ex) ro) {xs news:List Value}
  (hxs:DeepL w (fun b=>b ∉ foots (.own e size a n c r ds::ex)) ds xs) (hD:DeepL w (fun b=>b ∉ foots (.own e size a n c r ds::ex)) nds news) (hg:w.grownBy w' r) (ho':OS w' 0 e size a' n' c' r' (xs++news))
  (hr:r'=r\/∃k,r'=some k/\w.heap.size<=k):Sat F w' (.own e size a' n' c' r' (ds++nds)::ex) ro:=by
 have hrr:∀k,r'=some k->k∈r.toList\/w.heap.size<=k:=by
  intro k hk
  rcases hr with h | ⟨j,h,hj⟩
  ·rw [h] at hk;exact .inl (by simp [hk])
  ·rw [h] at hk;injection hk with hk;exact .inr (by omega)
 refine Sat.step (used:=[.own e size a n c r ds]) (used':=[.own e size a' n' c' r' (ds++nds)]) (rest:=ex) H ((Gr.of hg).mono (fun k _ h=>?_)) ?_ (fun q hq=>?_) (fun e' he hsub=>?_)
 ·simp [foots,Ex.foot,<-h]
 ·simp only [foots,Ex.foot,av,aD,aE]
  cases r'<;>simp
 ·simp only [foots,Ex.foot,av,aD,aE] at hq ⊢
  have hq':r'=some q:=by simpa using hq
  exact ⟨(ho'.lt hq').2,hrr q hq'⟩
 ·simp only [aQ] at he
  subst he
  refine ⟨_,ho',(hxs.append hD).keep (Gr.of hg) (fun b hb hn=>⟨fun hM=>hn ?_,hsub b hb hn⟩)⟩
  rw [foots_append,aV]
  exact .inl (by simp [foots,Ex.foot,<-hM])
theorem sApp0 {F:Fr} {size:Nat} {ds:List Dat} {ex:List Ex} {ro:List Ro} (H:Sat F w (.own e size a n c r ds::ex) ro)
  (hap:apT P t e size bytes=true:=by kernel_rfl) {ad:Addr} (news:List Value) (nds:List Dat) (hl:news.length=m*size:=by rfl) (hnews:∀j u,news[j]?=some u->w.cell? (ad.add j)=some u)
  (hD:∀G:Nat->Prop,(∀r∈ro,Ro.holds w G r)->DeepL w G nds news) (h1:∀u∈news,u.oneCell'=true) (h63:n+m<=maxLen:=by unfold maxLen;omega) (hbytes:(n+m)*bytes<=140737488355328:=by omega)
  (hK:∀a' n' c' r' w',n'=n+m->w.grownBy w' r->Sat F w' (.own e size a' n' c' r' (ds++nds)::ex) ro->K a' n' c' w') :
  ∃a' n' c',∃w',(Builtin.append_ #[t,t] ty #[.slice a n c,.slice (some ad) m k]).run P w=.ok (.slice a' n' c') w'/\K a' n' c' w':=by
 obtain ⟨xs,ho,hxs⟩:=H.he (.own e size a n c r ds) (by simp)
 refine app_i hap ho news hl hnews h1 h63 hbytes (bE _) fun a' l' c' r' w' hl' hs hg ho' hr=>hK a' l' c' r' w' hl' hg ?_
 exact H.owned hxs (hD _ H.hr) hg ho' (hr.imp id fun h=>⟨_,h,aN _⟩)
theorem sPush0 {F:Fr} {size:Nat} {ds:List Dat} {ex:List Ex} {ro:List Ro} (H:Sat F w (.own e size a n c r ds::ex) ro)
  {t':TypeId} (hap:apT P t e size bytes=true:=by kernel_rfl) {cs:Array Value} (nds:List Dat) (hl:cs.toList.length=m*size:=by rfl)
  (hD:∀G:Nat->Prop,(∀r∈ro,Ro.holds w G r)->DeepL w G nds cs.toList) (h1:cs.toList.all Value.oneCell'=true:=by rfl) (h63:n+m<=maxLen:=by unfold maxLen;omega) (hbytes:(n+m)*bytes<=140737488355328:=by omega)
  (hK:∀a' n' c' r' w',n'=n+m->w.grownBy w' r->Sat F w' (.own e size a' n' c' r' (ds++nds)::ex) ro->K a' n' c' w') :
  gNew cs t' (fun p w1=>∃a' n' c',∃w',(Builtin.append_ #[t,t] ty #[.slice a n c,.slice (some p) m k]).run P w1=.ok (.slice a' n' c') w'/\K a' n' c' w') w:=by
 refine gNew_i fun b w1 hb hs hg hB=>?_
 obtain ⟨xs,ho,hxs⟩:=H.he (.own e size a n c r ds) (by simp)
 have ho1:OS w1 0 e size a n c r xs:=ho.keep hg (by cases r<;>simp)
 refine app_i hap ho1 cs.toList hl (fun j u hu=>by rw [add_flat,aK];exact hB.cell hu) (fun u hu=>ch.1 h1 u hu) h63 hbytes (bE _) fun a' l' c' r' w' hl' hs' hg' ho' hr=>?_
 have hgg:=World.grownBy.trans (grew_none r hg) hg'
 exact hK a' l' c' r' w' hl' hgg (H.owned hxs (hD _ H.hr) hgg ho' (hr.imp id fun h=>⟨_,h,by omega⟩))
theorem Sat.freeze {F:Fr} {size:Nat} {ds:List Dat} {ex:List Ex} {ro:List Ro} (H:Sat F w (.own e size a n c r ds::ex) ro):Sat F w ex (.deep [.row size ds] [.slice a n c]::ro):=by
 obtain ⟨xs,ho,hxs⟩:=H.he (.own e size a n c r ds) (by simp)
 have H':=H.sub (ex':=ex) (ro':=ro) (co _ _) (fun _ h=>h)
 refine H'.addRo (DeepL.cons ?_ (DeepL.nil _ _))
 have hnd:=H.nd
 rw [foots_cons,bT] at hnd
 have hxs':DeepL w (fun b=>b ∉ foots ex) ds xs:=hxs.keep (Gr.refl w (fun _=>False)) (fun b _ hn=>⟨id,fun h=>hn (by rw [foots_cons,aV];exact .inr h)⟩)
 have hlen:=ho.own.1
 rcases ho.own.2 with ⟨hv,h0⟩ | ⟨g,cap,cur,hv,hb,hgg,hc,hm,hs,ht⟩
 ·simp only [bN] at hv
  obtain ⟨rfl,rfl,rfl⟩:=hv
  have:ds=[]:=aF (by rw [<-hxs.1,hlen];simp)
  subst this
  exact .emp _ _
 ·simp only [bN] at hv
  obtain ⟨rfl,_,rfl⟩:=hv
  have hr:r=some g:=ho.blk
  refine .row size g 0 n c ds xs hc hm (aS.1 hgg).1 (fun h=>hnd.2.2 g (by simp [Ex.foot,hr]) g h rfl) (by rw [<-hxs.1,hlen]) hxs.1 (fun i v hi=>?_) hxs'.2
  have:=ho.own.cells (g:=g) rfl i v hi
  rwa [add_flat] at this
theorem Sat.toOwn {F:Fr} {l:List Value} {ex:List Ex} {ro:List Ro} (H:Sat F w (.blk b e l::ex) ro) (size n:Nat) (ds:List Dat) (hl:l.length=n*size) (hn:n<=maxLen) (hd:∀G:Nat->Prop,(∀r∈ro,Ro.holds w G r)->DeepL w G ds l):Sat F w (.own e size (some ⟨b,0,none⟩) n n (some b) ds::ex) ro:=by
 have hf:foots (.own e size (some ⟨b,0,none⟩) n n (some b) ds::ex)=foots (.blk b e l::ex):=by simp [foots_cons,Ex.foot]
 refine ⟨H.gr,by rw [hf];exact H.nd,by rw [hf];exact H.lt,fun e' he=>?_,by rw [hf];exact H.hr⟩
 rw [hf]
 rcases aI.1 he with rfl | he
 ·exact ⟨l,OS.of_blk H.b0 hl (bE _) hn,hd _ H.hr⟩
 ·exact H.he e' (List.mem_cons_of_mem _ he)
theorem Sat.nilOwn {F:Fr} {ex:List Ex} {ro:List Ro} (H:Sat F w ex ro) (e:TypeId) (size:Nat):Sat F w (.own e size none 0 0 none []::ex) ro:=by
 have hf:foots (.own e size none 0 0 none []::ex)=foots ex:=by simp [foots_cons,Ex.foot]
 refine ⟨H.gr,by rw [hf];exact H.nd,by rw [hf];exact H.lt,fun e' he=>?_,by rw [hf];exact H.hr⟩
 rw [hf]
 rcases aI.1 he with rfl | he
 ·exact ⟨[],OS.nil _ _ _ _,DeepL.nil _ _⟩
 ·exact H.he e' he
theorem Sat.blkRow {F:Fr} {l:List Value} {ex:List Ex} {ro:List Ro} (H:Sat F w (.blk b e l::ex) ro) (size n:Nat) (ds:List Dat) (hl:l.length=n*size) (hn:n<=maxLen) (hd:∀G:Nat->Prop,(∀r∈ro,Ro.holds w G r)->DeepL w G ds l):Sat F w ex (.deep [.row size ds] [.slice (some ⟨b,0,none⟩) n n]::ro):=
 (H.toOwn size n ds hl hn hd).freeze
theorem Sat.blkPtr {F:Fr} {l:List Value} {ex:List Ex} {ro:List Ro} (H:Sat F w (.blk b e l::ex) ro) (ds:List Dat) (hd:∀G:Nat->Prop,(∀r∈ro,Ro.holds w G r)->DeepL w G ds l):Sat F w ex (.deep [.ptr ds] [.pointer (some ⟨b,0,none⟩)]::ro):=by
 have H':=H.sub (ex':=ex) (ro':=ro) (co _ _) (fun _ h=>h)
 have hnd:=H.nd
 rw [foots_cons,bT] at hnd
 have hd':DeepL w (fun b=>b ∉ foots ex) ds l:=hd _ H'.hr
 exact H'.addRo (DeepL.cons (.ptr b e (0,0) ds l (fun h=>hnd.2.2 b (by simp [Ex.foot]) b h rfl) H.b0.eq hd'.1 hd'.2) (DeepL.nil _ _))
theorem sMk {F:Fr} {ex:List Ex} {ro:List Ro} (H:Sat F w ex ro) {kl kc:IntKind} {z:Value} (hap:apT P t e 1 bytes=true) (hz:(P.info? e).bind (·.zero)=some z) (hzc:z.cells=#[z]) (hn:n<=maxLen) (hb:bytes*n<=281474976710656)
  {ln cp:Int} (hln:ln=(n:Int)) (hcp:cp=(n:Int)) (hK:∀b w',w.grownBy w' none->Sat F w' (.blk b e (List.replicate n z)::ex) ro->K (some ⟨b,0,none⟩) n n w') :
  ∃a l c,∃w',(Instr.makeSlice t (.int kl ln) (.int kc cp)).run P w=.ok (.slice a l c) w'/\K a l c w':=by
 subst hln;subst hcp
 refine mk_i hap hz hzc hn hb fun b w' hb hlt hg hB=>hK b w' hg ?_
 refine Sat.step (used:=[]) (used':=[.blk b e (List.replicate n z)]) (rest:=ex) H ((Gr.of hg).mono (fun k _ h=>by cases h)) (by simp [foots,Ex.foot]) (fun q hq=>?_) (fun e he _=>?_)
 ·simp only [foots,Ex.foot,av,aD,aE,aQ] at hq
  subst hq
  exact ⟨by omega,.inr (by omega)⟩
 ·simp only [aQ] at he
  subst he
  exact hB
theorem sCp {F:Fr} {l:List Value} {ex:List Ex} {ro:List Ro} (H:Sat F w (.blk g t l::ex) ro) {dT sT elem:TypeId} (hap:apT P dT elem 1 bytes=true) {dLen dCap sLen sCap:Nat} {a:Addr} (cs:List Value)
  (hn:cs.length=Nat.min sLen dLen) (hsrc:∀j v,cs[j]?=some v->w.cell? (a.add j)=some v) (hfit:o+cs.length<=l.length) (h1:∀v∈cs,v.oneCell'=true) {K:Int->World->Prop}
  (hK:∀w',w.grownBy w' (some g)->Sat F w' (.blk g t (l.take o++cs++l.drop (o+cs.length))::ex) ro->K cs.length w') :
  ∃n,∃w',(Builtin.copy_ #[dT,sT] ty #[.slice (some ⟨g,o,none⟩) dLen dCap,.slice (some a) sLen sCap]).run P w=.ok (.int .i64 n) w'/\K n w':=
 cp_i hap H.b0 cs hn hsrc hfit h1 fun w' _ hg hB=>hK w' hg (H.turn hg hB)
theorem strDeep (hD:Deep w G (.row 1 (ob xs)) (.slice a n c)) {src dst:TypeId} (hs:P.underlying src=some (.slice e)) (he:P.underlying e=some (.int .u8)) (hd:P.underlying dst=some .string) :
  (convert src dst (.slice a n c)).run P w=.ok (.string (strOfNums xs)) w:=by
 have hl:=hD.lenB
 generalize hob:ob xs=ds at hD
 cases hD with
 | emp=>
  have:xs=[]:=aF hl
  subst this
  cases a with
  | none=>exact run_convert_bytes_nil w src e hs he 0 0 dst hd
  | some p=>rw [run_convert_bytes_string w src dst e _ 0 0 hs he hd,run_bytesToString w _ 0 0 [] rfl];rfl
 | row _ b o n c ds vs hnc hc hlt hG hlen hv hcell hdd=>
  subst hob
  obtain rfl:vs=xs.map (Value.int .u8):=DeepL.of_ones (w:=w) (G:=G) (us:=xs.map (Value.int .u8)) ⟨by rw [<-ob_ones];exact hv,by rw [<-ob_ones];exact hdd⟩
  refine run_convert_bytes_arg w src e hs he b o n c xs hl (fun i hi=>?_) dst hd
  have:=hcell i (.int .u8 (xs[i]'(by omega))) (by simp [ai (show i < xs.length by omega)])
  rw [this]
  simp [List.getD,ai (show i < xs.length by omega)]
theorem sStr {F:Fr} {ex:List Ex} {ro:List Ro} (H:Sat F w ex ro) (h:Ro.B xs a n c∈ro) {src dst:TypeId} (hs:P.underlying src=some (.slice e)) (he:P.underlying e=some (.int .u8)) (hd:P.underlying dst=some .string) :
  (convert src dst (.slice a n c)).run P w=.ok (.string (strOfNums xs)) w:=strDeep (H.deep1 h) hs he hd
theorem Sat.in_foots {F:Fr} {ex:List Ex} {ro:List Ro} (_:Sat F w ex ro) {ds:List Dat} (h:Ex.own e sz a n c r ds∈ex) (hr:some b=r):b∈foots ex:=by
 simp only [foots,List.mem_flatMap]
 exact ⟨_,h,by simp [Ex.foot,<-hr]⟩
theorem mem_foots {e:Ex} (hb:b∈e.foot):∀{ex:List Ex},e∈ex->b∈foots ex:=fun {ex} he=>by
 simp only [foots,List.mem_flatMap]
 exact ⟨e,he,hb⟩
theorem foots_disj {e1 e2:Ex}:∀{ex:List Ex},(foots ex).Nodup->e1∈ex->e2∈ex->e1≠e2->b∈e1.foot->b∈e2.foot->False
 | [],_,h1,_,_,_,_=>by cases h1
 | e::ex,hnd,h1,h2,hne,hb1,hb2=>by
  rw [foots_cons,bT] at hnd
  rcases aI.1 h1 with h1 | h1
  ·subst h1
   rcases aI.1 h2 with h2 | h2
   ·exact hne h2.symm
   ·exact hnd.2.2 b hb1 b (mem_foots hb2 h2) rfl
  ·rcases aI.1 h2 with h2 | h2
   ·subst h2;exact hnd.2.2 b hb2 b (mem_foots hb1 (by assumption)) rfl
   ·exact foots_disj hnd.2.1 h1 h2 hne hb1 hb2
theorem Sat.ne {F:Fr} {ex:List Ex} {ro:List Ro} (H:Sat F w ex ro) {l:List Value} {ds:List Dat} (h1:Ex.blk b t l∈ex) (h2:Ex.own e sz a n c r ds∈ex):some b≠r:=
 fun hr=>foots_disj H.nd h1 h2 (by intro e;cases e) (b:=b) (by simp [Ex.foot]) (by simp [Ex.foot,<-hr])
theorem Sat.at_ {F:Fr} {ex:List Ex} {ro:List Ro} (H:Sat F w ex ro) (h:Ro.B xs a n c∈ro) (hn:0 < n) :
  ∃p:Addr,a=some p/\(∀i,i < n->w.cell? (p.add i)=some (.int .u8 (xs.getD i 0)))/\(∀i,∃cc ty f,w.heap[(p.add i).block]?=some (.cells cc ty f))/\∀i,(p.add i).block ∉ foots ex:=by
 have h':=H.deep1 h
 have hl:=h'.lenB
 obtain ⟨b,o,vs,rfl,hlt,hG,hL,hc⟩:=h'.at_ hn
 rw [ob_ones] at hL
 obtain rfl:=hL.of_ones
 have hcell:∀i,i < n->w.cell? ⟨b,o+i,none⟩=some (.int .u8 (xs.getD i 0)):=fun i hi=>hc i _ (by
  rw [aW,ai (by omega),aU]
  simp [List.getD,ai (show i < xs.length by omega)])
 refine ⟨_,rfl,fun i hi=>by rw [add_flat];exact hcell i hi,fun i=>?_,fun i=>by rw [add_flat];exact hG⟩
 rw [add_flat]
 have h0:=hcell 0 hn
 unfold World.cell? at h0
 split at h0
 ·rename_i cc e f hb;exact ⟨cc,e,f,hb⟩
 ·cases h0
theorem Sat.ne_own {F:Fr} {ex:List Ex} {ro:List Ro} (H:Sat F w ex ro) {ds:List Dat} (h:Ex.own e sz a n c r ds∈ex) (hb:b ∉ foots ex):some b≠r:=fun hr=>hb (H.in_foots h hr)
variable {F:Fr} {ex exs:List Ex} {ro ro':List Ro} {e0 e1 e2:Ex} {ds:List Dat} {d:Dat}
theorem Sat.r1 {x:Ex} (H:Sat F w (e0::x::ex) ro):Sat F w (x::e0::ex) ro:=H.perm (bW (l₁:=[e0]) (l₂:=ex) (a:=x))
theorem Sat.u1 {x:Ex} (H:Sat F w (x::e0::ex) ro):Sat F w (e0::x::ex) ro:=H.perm (bW (l₁:=[e0]) (l₂:=ex) (a:=x)).symm
theorem Sat.b1 {l:List Value} (H:Sat F w (e0::.blk b t l::ex) ro):Blk w b t l:=H.r1.b0
theorem sSt1 {l:List Value} (H:Sat F w (e0::.blk b ty l::ex) ro) {a:Addr} {K:World->Prop} (ha:a=⟨b,i,none⟩:=by exact add_flat _ _ _)
  (ht:sizeB P t v.cells.toList.length=true:=by kernel_rfl) (hi:Nat.ble (i+v.cells.toList.length) l.length=true:=by rfl) (h1:v.cells.toList.all Value.oneCell'=true:=by rfl)
  (h:∀w',w.grownBy w' (some b)->Sat F w' (e0::.blk b ty (putL l i v.cells.toList)::ex) ro->K w'):∃w',StV P t a v w w'/\K w':=
 sSt0 H.r1 ha ht hi h1 fun w' hg H'=>h w' hg H'.u1
theorem sSw1 {l:List Value} (H:Sat F w (e0::.blk b ty l::ex) ro) {a:Addr} {K:World->Prop} (ha:a=⟨b,0,none⟩:=by rfl)
  (ht:sizeB P t vs.length=true:=by kernel_rfl) (hi:Nat.beq vs.length l.length=true:=by rfl) (h1:vs.all Value.oneCell'=true:=by rfl)
  (h:∀w',w.grownBy w' (some b)->Sat F w' (e0::.blk b ty vs::ex) ro->K w'):∃w',StV P t a (.agg vs.toArray) w w'/\K w':=
 sSw0 H.r1 ha ht hi h1 fun w' hg H'=>h w' hg H'.u1
theorem sApp1 {size:Nat} (H:Sat F w (e0::.own e size a n c r ds::ex) ro)
  (hap:apT P t e size bytes=true:=by kernel_rfl) {ad:Addr} (news:List Value) (nds:List Dat) (hl:news.length=m*size:=by rfl) (hnews:∀j u,news[j]?=some u->w.cell? (ad.add j)=some u)
  (hD:∀G:Nat->Prop,(∀r∈ro,Ro.holds w G r)->DeepL w G nds news) (h1:∀u∈news,u.oneCell'=true) (h63:n+m<=maxLen:=by unfold maxLen;omega) (hbytes:(n+m)*bytes<=140737488355328:=by omega)
  (hK:∀a' n' c' r' w',n'=n+m->w.grownBy w' r->Sat F w' (e0::.own e size a' n' c' r' (ds++nds)::ex) ro->K a' n' c' w') :
  ∃a' n' c',∃w',(Builtin.append_ #[t,t] ty #[.slice a n c,.slice (some ad) m k]).run P w=.ok (.slice a' n' c') w'/\K a' n' c' w':=
 sApp0 H.r1 hap news nds hl hnews hD h1 h63 hbytes fun a' n' c' r' w' hn hg H'=>hK a' n' c' r' w' hn hg H'.u1
theorem sPush1 {size:Nat} (H:Sat F w (e0::.own e size a n c r ds::ex) ro)
  {t':TypeId} (hap:apT P t e size bytes=true:=by kernel_rfl) {cs:Array Value} (nds:List Dat) (hl:cs.toList.length=m*size:=by rfl)
  (hD:∀G:Nat->Prop,(∀r∈ro,Ro.holds w G r)->DeepL w G nds cs.toList) (h1:cs.toList.all Value.oneCell'=true:=by rfl) (h63:n+m<=maxLen:=by unfold maxLen;omega) (hbytes:(n+m)*bytes<=140737488355328:=by omega)
  (hK:∀a' n' c' r' w',n'=n+m->w.grownBy w' r->Sat F w' (e0::.own e size a' n' c' r' (ds++nds)::ex) ro->K a' n' c' w') :
  gNew cs t' (fun p w1=>∃a' n' c',∃w',(Builtin.append_ #[t,t] ty #[.slice a n c,.slice (some p) m k]).run P w1=.ok (.slice a' n' c') w'/\K a' n' c' w') w:=
 sPush0 H.r1 hap nds hl hD h1 h63 hbytes fun a' n' c' r' w' hn hg H'=>hK a' n' c' r' w' hn hg H'.u1
theorem Sat.r2 {x:Ex} (H:Sat F w (e0::e1::x::ex) ro):Sat F w (x::e0::e1::ex) ro:=H.perm (bW (l₁:=[e0,e1]) (l₂:=ex) (a:=x))
theorem Sat.u2 {x:Ex} (H:Sat F w (x::e0::e1::ex) ro):Sat F w (e0::e1::x::ex) ro:=H.perm (bW (l₁:=[e0,e1]) (l₂:=ex) (a:=x)).symm
theorem Sat.b2 {l:List Value} (H:Sat F w (e0::e1::.blk b t l::ex) ro):Blk w b t l:=H.r2.b0
theorem sSt2 {l:List Value} (H:Sat F w (e0::e1::.blk b ty l::ex) ro) {a:Addr} {K:World->Prop} (ha:a=⟨b,i,none⟩:=by exact add_flat _ _ _)
  (ht:sizeB P t v.cells.toList.length=true:=by kernel_rfl) (hi:Nat.ble (i+v.cells.toList.length) l.length=true:=by rfl) (h1:v.cells.toList.all Value.oneCell'=true:=by rfl)
  (h:∀w',w.grownBy w' (some b)->Sat F w' (e0::e1::.blk b ty (putL l i v.cells.toList)::ex) ro->K w'):∃w',StV P t a v w w'/\K w':=
 sSt0 H.r2 ha ht hi h1 fun w' hg H'=>h w' hg H'.u2
theorem sSw2 {l:List Value} (H:Sat F w (e0::e1::.blk b ty l::ex) ro) {a:Addr} {K:World->Prop} (ha:a=⟨b,0,none⟩:=by rfl)
  (ht:sizeB P t vs.length=true:=by kernel_rfl) (hi:Nat.beq vs.length l.length=true:=by rfl) (h1:vs.all Value.oneCell'=true:=by rfl)
  (h:∀w',w.grownBy w' (some b)->Sat F w' (e0::e1::.blk b ty vs::ex) ro->K w'):∃w',StV P t a (.agg vs.toArray) w w'/\K w':=
 sSw0 H.r2 ha ht hi h1 fun w' hg H'=>h w' hg H'.u2
theorem sPush2 {size:Nat} (H:Sat F w (e0::e1::.own e size a n c r ds::ex) ro)
  {t':TypeId} (hap:apT P t e size bytes=true:=by kernel_rfl) {cs:Array Value} (nds:List Dat) (hl:cs.toList.length=m*size:=by rfl)
  (hD:∀G:Nat->Prop,(∀r∈ro,Ro.holds w G r)->DeepL w G nds cs.toList) (h1:cs.toList.all Value.oneCell'=true:=by rfl) (h63:n+m<=maxLen:=by unfold maxLen;omega) (hbytes:(n+m)*bytes<=140737488355328:=by omega)
  (hK:∀a' n' c' r' w',n'=n+m->w.grownBy w' r->Sat F w' (e0::e1::.own e size a' n' c' r' (ds++nds)::ex) ro->K a' n' c' w') :
  gNew cs t' (fun p w1=>∃a' n' c',∃w',(Builtin.append_ #[t,t] ty #[.slice a n c,.slice (some p) m k]).run P w1=.ok (.slice a' n' c') w'/\K a' n' c' w') w:=
 sPush0 H.r2 hap nds hl hD h1 h63 hbytes fun a' n' c' r' w' hn hg H'=>hK a' n' c' r' w' hn hg H'.u2
theorem Sat.r3 {x:Ex} (H:Sat F w (e0::e1::e2::x::ex) ro):Sat F w (x::e0::e1::e2::ex) ro:=H.perm (bW (l₁:=[e0,e1,e2]) (l₂:=ex) (a:=x))
theorem Sat.u3 {x:Ex} (H:Sat F w (x::e0::e1::e2::ex) ro):Sat F w (e0::e1::e2::x::ex) ro:=H.perm (bW (l₁:=[e0,e1,e2]) (l₂:=ex) (a:=x)).symm
theorem Sat.b3 {l:List Value} (H:Sat F w (e0::e1::e2::.blk b t l::ex) ro):Blk w b t l:=H.r3.b0
theorem sSt3 {l:List Value} (H:Sat F w (e0::e1::e2::.blk b ty l::ex) ro) {a:Addr} {K:World->Prop} (ha:a=⟨b,i,none⟩:=by exact add_flat _ _ _)
  (ht:sizeB P t v.cells.toList.length=true:=by kernel_rfl) (hi:Nat.ble (i+v.cells.toList.length) l.length=true:=by rfl) (h1:v.cells.toList.all Value.oneCell'=true:=by rfl)
  (h:∀w',w.grownBy w' (some b)->Sat F w' (e0::e1::e2::.blk b ty (putL l i v.cells.toList)::ex) ro->K w'):∃w',StV P t a v w w'/\K w':=
 sSt0 H.r3 ha ht hi h1 fun w' hg H'=>h w' hg H'.u3
theorem sSw3 {l:List Value} (H:Sat F w (e0::e1::e2::.blk b ty l::ex) ro) {a:Addr} {K:World->Prop} (ha:a=⟨b,0,none⟩:=by rfl)
  (ht:sizeB P t vs.length=true:=by kernel_rfl) (hi:Nat.beq vs.length l.length=true:=by rfl) (h1:vs.all Value.oneCell'=true:=by rfl)
  (h:∀w',w.grownBy w' (some b)->Sat F w' (e0::e1::e2::.blk b ty vs::ex) ro->K w'):∃w',StV P t a (.agg vs.toArray) w w'/\K w':=
 sSw0 H.r3 ha ht hi h1 fun w' hg H'=>h w' hg H'.u3
theorem sApp3 {size:Nat} (H:Sat F w (e0::e1::e2::.own e size a n c r ds::ex) ro)
  (hap:apT P t e size bytes=true:=by kernel_rfl) {ad:Addr} (news:List Value) (nds:List Dat) (hl:news.length=m*size:=by rfl) (hnews:∀j u,news[j]?=some u->w.cell? (ad.add j)=some u)
  (hD:∀G:Nat->Prop,(∀r∈ro,Ro.holds w G r)->DeepL w G nds news) (h1:∀u∈news,u.oneCell'=true) (h63:n+m<=maxLen:=by unfold maxLen;omega) (hbytes:(n+m)*bytes<=140737488355328:=by omega)
  (hK:∀a' n' c' r' w',n'=n+m->w.grownBy w' r->Sat F w' (e0::e1::e2::.own e size a' n' c' r' (ds++nds)::ex) ro->K a' n' c' w') :
  ∃a' n' c',∃w',(Builtin.append_ #[t,t] ty #[.slice a n c,.slice (some ad) m k]).run P w=.ok (.slice a' n' c') w'/\K a' n' c' w':=
 sApp0 H.r3 hap news nds hl hnews hD h1 h63 hbytes fun a' n' c' r' w' hn hg H'=>hK a' n' c' r' w' hn hg H'.u3
theorem sPush3 {size:Nat} (H:Sat F w (e0::e1::e2::.own e size a n c r ds::ex) ro)
  {t':TypeId} (hap:apT P t e size bytes=true:=by kernel_rfl) {cs:Array Value} (nds:List Dat) (hl:cs.toList.length=m*size:=by rfl)
  (hD:∀G:Nat->Prop,(∀r∈ro,Ro.holds w G r)->DeepL w G nds cs.toList) (h1:cs.toList.all Value.oneCell'=true:=by rfl) (h63:n+m<=maxLen:=by unfold maxLen;omega) (hbytes:(n+m)*bytes<=140737488355328:=by omega)
  (hK:∀a' n' c' r' w',n'=n+m->w.grownBy w' r->Sat F w' (e0::e1::e2::.own e size a' n' c' r' (ds++nds)::ex) ro->K a' n' c' w') :
  gNew cs t' (fun p w1=>∃a' n' c',∃w',(Builtin.append_ #[t,t] ty #[.slice a n c,.slice (some p) m k]).run P w1=.ok (.slice a' n' c') w'/\K a' n' c' w') w:=
 sPush0 H.r3 hap nds hl hD h1 h63 hbytes fun a' n' c' r' w' hn hg H'=>hK a' n' c' r' w' hn hg H'.u3
theorem Sat.r4 {e3 x:Ex} (H:Sat F w (e0::e1::e2::e3::x::ex) ro):Sat F w (x::e0::e1::e2::e3::ex) ro:=H.perm (bW (l₁:=[e0,e1,e2,e3]) (l₂:=ex) (a:=x))
theorem Sat.u4 {e3 x:Ex} (H:Sat F w (x::e0::e1::e2::e3::ex) ro):Sat F w (e0::e1::e2::e3::x::ex) ro:=H.perm (bW (l₁:=[e0,e1,e2,e3]) (l₂:=ex) (a:=x)).symm
theorem Sat.b4 {e3:Ex} {l:List Value} (H:Sat F w (e0::e1::e2::e3::.blk b t l::ex) ro):Blk w b t l:=H.r4.b0
theorem sApp4 {e3:Ex} {size:Nat} (H:Sat F w (e0::e1::e2::e3::.own e size a n c r ds::ex) ro)
  (hap:apT P t e size bytes=true:=by kernel_rfl) {ad:Addr} (news:List Value) (nds:List Dat) (hl:news.length=m*size:=by rfl) (hnews:∀j u,news[j]?=some u->w.cell? (ad.add j)=some u)
  (hD:∀G:Nat->Prop,(∀r∈ro,Ro.holds w G r)->DeepL w G nds news) (h1:∀u∈news,u.oneCell'=true) (h63:n+m<=maxLen:=by unfold maxLen;omega) (hbytes:(n+m)*bytes<=140737488355328:=by omega)
  (hK:∀a' n' c' r' w',n'=n+m->w.grownBy w' r->Sat F w' (e0::e1::e2::e3::.own e size a' n' c' r' (ds++nds)::ex) ro->K a' n' c' w') :
  ∃a' n' c',∃w',(Builtin.append_ #[t,t] ty #[.slice a n c,.slice (some ad) m k]).run P w=.ok (.slice a' n' c') w'/\K a' n' c' w':=
 sApp0 H.r4 hap news nds hl hnews hD h1 h63 hbytes fun a' n' c' r' w' hn hg H'=>hK a' n' c' r' w' hn hg H'.u4
theorem fF {b:Bool} {A B:Prop} (h:B) (e:b=false:=by decide):(b=true->A)/\(b=false->B):=⟨fun hc=>absurd (e.symm.trans hc) (by decide),fun _=>h⟩
theorem fT {b:Bool} {A B:Prop} (h:A) (e:b=true:=by decide):(b=true->A)/\(b=false->B):=⟨fun _=>h,fun hc=>absurd (e.symm.trans hc) (by decide)⟩
theorem ms {α:Type} {a:α} {l:List α}:a∈a::l:=List.mem_cons_self
theorem mt {α:Type} {a b:α} {l:List α} (h:a∈l):a∈b::l:=List.mem_cons_of_mem _ h
theorem sc1 {α:Type} {a:α} {l:List α}:l.Sublist (a::l):=co _ _
theorem fm1 {α β:Type} {f:α->List β} {a:α} {l:List α}:(a::l).flatMap f=f a++l.flatMap f:=av
theorem fm2 {α β:Type} {f:α->List β}:([]:List α).flatMap f=[]:=aD
theorem fm3 {α:Type} (l:List α):l++[]=l:=aE l
theorem cf {l:List Value} (h:Blk w b t l) (hi:l[o+n]?=some v):w.cell? ((⟨b,o,none⟩:Addr).add n)=some v:=Ce (add_flat _ _ _) h hi
theorem sl1 {l m:List Ex} (h:l.Sublist m:=by repeat (first | exact ak _ | apply List.Sublist.cons)):l.Sublist m:=h
theorem sl2 {l m:List Ex} (h:l.Sublist m:=by repeat (first | exact ak _ | apply List.Sublist.cons_cons | apply List.Sublist.cons)):l.Sublist m:=h
theorem nn {a:Nat}:some a≠none:=aC _
theorem Blk.at0 {l:List Value} (B:Blk w b t l) (h:l[i]?=some v):w.cell? ((⟨b,0,none⟩:Addr).add i)=some v:=by rw [add_flat,aK];exact B.cell h
theorem dc (h:Deep w G d v) (t:DeepL w G ds vs):DeepL w G (d::ds) (v::vs):=DeepL.cons h t
theorem dn:DeepL w G [] []:=DeepL.nil w G
theorem gtr {a b c:World} (h:a.grownBy b r) (k:b.grownBy c r):a.grownBy c r:=World.grownBy.trans h k
theorem Sat.d1 {e:Ex} (H:Sat F w (e::ex) ro):Sat F w ex ro:=H.sub (co _ _) (fun _ h=>h)
theorem Sat.dr {ex':List Ex} (H:Sat F w ex ro) (hs:ex'.Sublist ex:=by repeat (first | exact ak _ | exact List.nil_sublist _ | apply List.Sublist.cons_cons | apply List.Sublist.cons)):Sat F w ex' ro:=H.sub hs (fun _ h=>h)
theorem Sat.dq {ex':List Ex} (H:Sat F w ex ro) (hr:∀r∈ro',r∈ro) (hs:ex'.Sublist ex:=by repeat (first | exact ak _ | exact List.nil_sublist _ | apply List.Sublist.cons_cons | apply List.Sublist.cons)):Sat F w ex' ro':=H.sub hs hr
theorem Blk.nws {l:List Value} (B:Blk w b t l) (j:Nat) (u:Value) (h:l[j]?=some u):w.cell? ((⟨b,0,none⟩:Addr).add j)=some u:=by rw [add_flat,aK];exact B.cell h
theorem Blk.ld {l:List Value} (B:Blk w b ty l) (ht:aggT P t l.length=true:=by kernel_rfl):LdV P t ⟨b,0,none⟩ (.agg l.toArray) w:=Ld0 rfl B ht
theorem wu8 (n:Int):u8.wrap n=n % 256:=by simp [IntKind.wrap,IntKind.bits,IntKind.signed]
theorem wu16 (n:Int):u16.wrap n=n % 65536:=by simp [IntKind.wrap,IntKind.bits,IntKind.signed]
theorem wu32 (n:Int):u32.wrap n=n % 4294967296:=by simp [IntKind.wrap,IntKind.bits,IntKind.signed]
theorem wu64 (n:Int):u64.wrap n=n % 18446744073709551616:=by simp [IntKind.wrap,IntKind.bits,IntKind.signed]
theorem wi64 (n:Int):i64.wrap n=if n % 18446744073709551616>=9223372036854775808 then n % 18446744073709551616 - 18446744073709551616 else n % 18446744073709551616:=by
 simp [IntKind.wrap,IntKind.bits,IntKind.signed]
theorem wi64_of {n:Int} (h0:-9223372036854775808<=n) (h1:n < 9223372036854775808):i64.wrap n=n:=by rw [wi64];split<;>omega
theorem wrap_nat {k:IntKind} (hk:k.signed=false) (h:n < 2 ^ k.bits):k.wrap (n:Int)=n:=by
 unfold IntKind.wrap
 simp only [hk,Bool.false_and,be,bO]
 have:((2:Int) ^ k.bits)=((2 ^ k.bits:Nat):Int):=by simp
 rw [this,<-Int.natCast_emod,bf h]
theorem ofInt_nat (m n:Nat):(BitVec.ofInt m (n:Int)).toNat=n % 2 ^ m:=by simp
theorem ior_nat {k:IntKind} (hk:k.signed=false) {a:Nat} (ha:a < 2 ^ k.bits) (hb:b < 2 ^ k.bits):ior k a b=((a ||| b:Nat):Int):=by
 unfold ior
 rw [BitVec.toNat_or,ofInt_nat,ofInt_nat,bf ha,bf hb]
 exact wrap_nat hk (Nat.or_lt_two_pow ha hb)
theorem iand_nat {k:IntKind} (hk:k.signed=false) {a:Nat} (ha:a < 2 ^ k.bits) (hb:b < 2 ^ k.bits):iand k a b=((a &&& b:Nat):Int):=by
 unfold iand
 rw [BitVec.toNat_and,ofInt_nat,ofInt_nat,bf ha,bf hb]
 exact wrap_nat hk (Nat.lt_of_le_of_lt Nat.and_le_left ha)
theorem ior_add {k:IntKind} (hk:k.signed=false) (i:Nat) {a b:Int} (A:Int) (ha:a=A*2 ^ i) (h0:0<=A) (hb0:0<=b) (hb:b < 2 ^ i) (h:a+b < 2 ^ k.bits):ior k a b=a+b:=by
 obtain ⟨A,rfl⟩:=br h0
 obtain ⟨b,rfl⟩:=br hb0
 have ha':a=((A*2 ^ i:Nat):Int):=by rw [ha];simp
 subst ha'
 have hb':b < 2 ^ i:=by exact_mod_cast hb
 have h':A*2 ^ i+b < 2 ^ k.bits:=by exact_mod_cast h
 rw [ior_nat hk (by omega) (by omega)]
 have:A*2 ^ i ||| b=A*2 ^ i+b:=by
  rw [<-Nat.shiftLeft_eq,Nat.shiftLeft_add_eq_or_of_lt hb']
 rw [this];simp
theorem ior_add' {k:IntKind} (hk:k.signed=false) (i:Nat) {a b:Int} (A:Int) (ha:a=A*2 ^ i) (h0:0<=A) (hb0:0<=b) (hb:b < 2 ^ i) (h:a+b < 2 ^ k.bits):ior k b a=a+b:=by
 have:ior k b a=ior k a b:=by unfold ior;rw [BitVec.or_comm]
 rw [this];exact ior_add hk i A ha h0 hb0 hb h
theorem iand_low {k:IntKind} (hk:k.signed=false) (i:Nat) {a m:Int} (h0:0<=a) (ha:a < 2 ^ k.bits) (hm:m=2 ^ i - 1) (hi:i<=k.bits):iand k a m=a % 2 ^ i:=by
 obtain ⟨a,rfl⟩:=br h0
 have ha':a < 2 ^ k.bits:=by exact_mod_cast ha
 have h2:=aR i
 have hm':m=((2 ^ i - 1:Nat):Int):=by rw [hm,Int.natCast_sub (by omega)];simp
 have h3:=bR (show 0 < 2 by omega) hi
 rw [hm',iand_nat hk ha' (by omega),Nat.and_two_pow_sub_one_eq_mod]
 simp
theorem ishr_of {k:IntKind} (i:Nat) {a b:Int} (hb:b=i) (hi:i<=k.bits):ishr k a b=a / 2 ^ i:=by
 unfold ishr
 subst hb
 rw [au,cd hi,Int.fdiv_eq_ediv_of_nonneg _ (by exact_mod_cast bE _)]
theorem ishl_of {k:IntKind} (i:Nat) {a b:Int} (hb:b=i) (hi:i<=k.bits):ishl k a b=k.wrap (a*2 ^ i):=by
 unfold ishl
 subst hb
 rw [au,cd hi]
theorem byte_cases (p:Int->Prop) (h:∀n:Fin 256,p (n.val:Int)) (h0:0<=x) (h1:x < 256):p x:=by
 obtain ⟨n,rfl⟩:=br h0
 exact h ⟨n,by omega⟩
theorem be16 {y:Int} (hx:0<=x/\x < 256) (hy:0<=y/\y < 256):ior .u16 (ishl .u16 (u16.wrap x) (8:Int)) (u16.wrap y)=x*256+y:=by
 rw [ishl_of 8 (by rfl) (by decide),wu16,wu16,wu16]
 rw [show x % 65536*2 ^ 8 % 65536=x*256 by omega,show y % 65536=y by omega]
 exact ior_add (by rfl) 8 x (by omega) hx.1 hy.1 (by omega) (by simp only [IntKind.bits];omega)
theorem be16' {y:Int} (hx:0<=x/\x < 256) (hy:0<=y/\y < 256):ior .u16 (u16.wrap y) (ishl .u16 (u16.wrap x) (8:Int))=x*256+y:=by
 have:∀a b,ior .u16 a b=ior .u16 b a:=fun a b=>by unfold ior;rw [BitVec.or_comm]
 rw [this];exact be16 hx hy
theorem uSl:pg.underlying 22=some (.slice 5):=by kernel_rfl
theorem uU8:pg.underlying 5=some (.int .u8):=by kernel_rfl
theorem uStr:pg.underlying 9=some .string:=by kernel_rfl
/-! ### Bytes and numbers -/
abbrev By (xs:List Int):Prop:=∀x∈xs,0<=x/\x < 256
theorem By.drop (h:By xs) (k:Nat):By (xs.drop k):=fun x hx=>h x (List.mem_of_mem_drop hx)
theorem By.take (h:By xs) (k:Nat):By (xs.take k):=fun x hx=>h x (List.mem_of_mem_take hx)
theorem By.getD (h:By xs) (i:Nat):0<=xs.getD i 0/\xs.getD i 0 < 256:=by
 rw [List.getD]
 cases hi:xs[i]? with
 | none=>simp
 | some x=>exact h x (List.mem_of_getElem? hi)
def n16 (xs:List Int):Int:=xs.getD 0 0*256+xs.getD 1 0
def n24 (xs:List Int):Int:=xs.getD 0 0*65536+xs.getD 1 0*256+xs.getD 2 0
def n32 (xs:List Int):Int:=n16 xs*65536+n16 (xs.drop 2)
def n64 (xs:List Int):Int:=n32 xs*4294967296+n32 (xs.drop 4)
theorem n16_lt (h:By xs):0<=n16 xs/\n16 xs < 65536:=by
 have h0:=h.getD 0
 have h1:=h.getD 1
 unfold n16;omega
theorem n32_lt (h:By xs):0<=n32 xs/\n32 xs < 4294967296:=by
 have h0:=n16_lt h
 have h1:=n16_lt (h.drop 2)
 unfold n32;omega
structure Rd (w:World) (xs:List Int) (a:Option Addr) (n c:Nat):Prop where
 and:∃G,Deep w G (.row 1 (ob xs)) (.slice a n c)
theorem Rd.len (h:Rd w xs a n c):xs.length=n/\n<=c/\c<=maxLen:=by
 obtain ⟨G,h⟩:=h.and
 exact ⟨h.lenB,h.len.2.1,h.len.2.2.1⟩
theorem Rd.cut (h:Rd w xs a n c) (i j:Nat) (hi:i<=j) (hj:j<=n):Rd w ((xs.drop i).take (j - i)) (cutA a i c 1) (j - i) (c - i):=by
 obtain ⟨G,h⟩:=h.and
 have h1:=h.cut i j c hi hj (by have:=h.len;omega) (aN _)
 rw [bd,bd,ob_drop,ob_take] at h1
 exact ⟨G,h1⟩
theorem Rd.skip (h:Rd w xs a n c) (i:Nat) (hi:i<=n):Rd w (xs.drop i) (cutA a i c 1) (n - i) (c - i):=by
 have h1:=h.cut i n hi (aN _)
 rwa [bA (by rw [az,h.len.1];exact aN _)] at h1
theorem Rd.at_ (h:Rd w xs a n c) (hn:0 < n) :
  ∃p:Addr,a=some p/\(∀i,i < n->w.cell? (p.add i)=some (.int .u8 (xs.getD i 0)))/\∀i,∃cc ty f,w.heap[(p.add i).block]?=some (.cells cc ty f):=by
 obtain ⟨G,h⟩:=h.and
 have hl:=h.lenB
 obtain ⟨b,o,vs,rfl,hlt,_,hL,hc⟩:=h.at_ hn
 rw [ob_ones] at hL
 obtain rfl:=hL.of_ones
 have hcell:∀i,i < n->w.cell? ⟨b,o+i,none⟩=some (.int .u8 (xs.getD i 0)):=fun i hi=>hc i _ (by
  rw [aW,ai (by omega),aU]
  simp [List.getD,ai (show i < xs.length by omega)])
 refine ⟨_,rfl,fun i hi=>by rw [add_flat];exact hcell i hi,fun i=>?_⟩
 rw [add_flat]
 have h0:=hcell 0 hn
 unfold World.cell? at h0
 split at h0
 ·rename_i cc e f hb;exact ⟨cc,e,f,hb⟩
 ·cases h0
theorem Sat.rd (H:Sat F w ex ro) (h:Ro.B xs a n c∈ro):Rd w xs a n c:=⟨_,H.deep1 h⟩

/-! ### The readers -/
theorem c53 (h:Rd w xs a n c) (hb:By xs) (hn:2<=n) :
  Calls pg 53 #[.slice a n c] w fun en w'=>en=.returned (.int .u16 (n16 xs))/\w.grownBy w' none:=by
 apply of53
 obtain ⟨p,rfl,hc,_⟩:=h.at_ (by omega)
 refine ⟨_,rfl,by omega,by omega,_,hc 0 (by omega),_,rfl,by omega,by omega,_,hc 1 (by omega),?_,grew_drew _ _⟩
 rw [be16 (hb.getD 0) (hb.getD 1)];rfl
abbrev Rep:=Int×Int×Int×Int×Int×Int×Int
def Rep.dat:Rep->List Dat
 | (a,b,c,d,e,f,g)=>[.one (.int .u32 a),.one (.int .u8 b),.one (.int .u32 c),.one (.int .u32 d),.one (.int .u32 e),.one (.int .u32 f),.one (.int .u32 g)]
abbrev Itm:=Int×ByteArray
def Itm.dat:Itm->List Dat
 | (t,s)=>[.one (.int .u8 t),.one (.string s)]
abbrev Chk:=Int×List Itm
def Chk.dat:Chk->List Dat
 | (s,l)=>[.one (.int .u32 s),.row 2 (l.flatMap Itm.dat)]
abbrev Par:=Int×Int
def Par.dat:Par->List Dat
 | (a,b)=>[.one (.int .u16 a),.one (.int .u16 b)]
abbrev Sli:=Int×Int×Int
def Sli.dat:Sli->List Dat
 | (a,b,c)=>[.one (.int .u16 a),.one (.int .u16 b),.one (.int .u8 c)]
abbrev Ent:=Int×Int
def Ent.dat:Ent->List Dat
 | (a,b)=>[.one (.int .u32 a),.one (.int .u8 b)]
abbrev Met:=Bool×Int×Int
def Met.dat:Met->List Dat
 | (a,b,c)=>[.one (.bool a),.one (.int .u8 b),.one (.int .u16 c)]
abbrev Blo:=Int×Int×List Met
def Blo.dat:Blo->List Dat
 | (a,b,l)=>[.one (.int .u32 a),.one (.int .u16 b),.row 3 (l.flatMap Met.dat)]
def oi (k:IntKind) (l:List Int):List Dat:=l.map fun x=>.one (.int k x)
abbrev Sta:=Bool×Int×Int×Int×List Int
def Sta.dat:Sta->List Dat
 | (v,a,b,c,l)=>[.one (.bool v),.one (.int .u16 a),.one (.int .u16 b),.one (.int .u16 c),.row 1 (oi .u16 l)]
abbrev Del:=Int×Int
def Del.dat:Del->List Dat
 | (a,b)=>[.one (.int .u16 a),.one (.int .i64 b)]
structure Pk where
 kind:Int:=0
 sender:Int:=0
 media:Int:=0
 ntp:Int:=0
 rtp:Int:=0
 packets:Int:=0
 octets:Int:=0
 reports:List Rep:=[]
 ext:List Int:=[]
 chunks:List Chk:=[]
 sources:List Int:=[]
 text:ByteArray:=⟨#[]⟩
 sub:Int:=0
 data:List Int:=[]
 pairs:List Par:=[]
 slices:List Sli:=[]
 entries:List Ent:=[]
 bits:Int:=0
 blocks:List Blo:=[]
 time:Int:=0
 base:Int:=0
 count:Int:=0
 ref:Int:=0
 fb:Int:=0
 statuses:List Sta:=[]
 deltas:List Del:=[]
 hp:Bool:=false
 hc:Int:=0
 ht:Int:=0
 hl:Int:=0
def Pk.dat (p:Pk):List Dat:=
 [.one (.int .i64 p.kind),.one (.int .u32 p.sender),.one (.int .u32 p.media),.one (.int .u64 p.ntp),.one (.int .u32 p.rtp),.one (.int .u32 p.packets),.one (.int .u32 p.octets),
  .row 7 (p.reports.flatMap Rep.dat),.row 1 (ob p.ext),.row 2 (p.chunks.flatMap Chk.dat),.row 1 (oi .u32 p.sources),.one (.string p.text),.one (.int .u8 p.sub),.row 1 (ob p.data),
  .row 2 (p.pairs.flatMap Par.dat),.row 3 (p.slices.flatMap Sli.dat),.row 2 (p.entries.flatMap Ent.dat),.one (.int .u32 p.bits),.row 3 (p.blocks.flatMap Blo.dat),.one (.int .u32 p.time),
  .one (.int .u16 p.base),.one (.int .u16 p.count),.one (.int .u32 p.ref),.one (.int .u8 p.fb),.row 5 (p.statuses.flatMap Sta.dat),.row 2 (p.deltas.flatMap Del.dat),
  .one (.bool p.hp),.one (.int .u8 p.hc),.one (.int .u8 p.ht),.one (.int .u16 p.hl)]
def pk0 (k s m:Int) (hp:Bool) (hc ht hl:Int):List Value:=
 [.int .i64 k,.int .u32 s,.int .u32 m,.int .u64 0,.int .u32 0,.int .u32 0,.int .u32 0,.slice none 0 0,.slice none 0 0,.slice none 0 0,.slice none 0 0,.string ⟨#[]⟩,.int .u8 0,.slice none 0 0,
  .slice none 0 0,.slice none 0 0,.slice none 0 0,.int .u32 0,.slice none 0 0,.int .u32 0,.int .u16 0,.int .u16 0,.int .u32 0,.int .u8 0,.slice none 0 0,.slice none 0 0,.bool hp,.int .u8 hc,.int .u8 ht,.int .u16 hl]

/-! ### How bytes are read -/
def rep1 (xs:List Int):Rep:=(n32 xs,xs.getD 4 0,n24 (xs.drop 5),n32 (xs.drop 8),n32 (xs.drop 12),n32 (xs.drop 16),n32 (xs.drop 20))
def reps:Nat->List Int->List Rep
 | 0,_=>[]
 | n+1,xs=>rep1 xs::reps n (xs.drop 24)
def items (xs:List Int):Nat->Nat->Option (List Itm×Nat)
 | 0,_=>none
 | f+1,i=>if xs.length<=i then none else if xs.getD i 0=0 then some ([],i+1) else
   if xs.length < i+2 then none else if (xs.length:Int) < i+2+xs.getD (i+1) 0 then none else
   (items xs f (i+2+(xs.getD (i+1) 0).toNat)).map fun r=>((xs.getD i 0,strOfNums ((xs.drop (i+2)).take (xs.getD (i+1) 0).toNat))::r.1,r.2)
def zeros (xs:List Int):Nat->Nat->Option Nat
 | 0,i=>if i % 4=0 then some i else none
 | f+1,i=>if i % 4=0 then some i else if xs.length<=i then none else if xs.getD i 0=0 then zeros xs f (i+1) else none
def chks:Nat->List Int->Option (List Chk)
 | 0,xs=>if xs.length=0 then some [] else none
 | n+1,xs=>if xs.length < 8 then none else match items xs xs.length 4 with
  | none=>none
  | some (l,i)=>match zeros xs 3 i with
   | none=>none
   | some j=>(chks n (xs.drop j)).map fun r=>(n32 xs,l)::r
def words:Nat->List Int->List Int
 | 0,_=>[]
 | n+1,xs=>n32 xs::words n (xs.drop 4)
def rdBye (n:Nat) (xs:List Int):Option Pk:=
 if xs.length < 4*n then none else
 let ys:=xs.drop (4*n)
 if ys.length=0 then some { kind:=4,sources:=words n xs } else
 let l:=1+(ys.getD 0 0).toNat
 if ys.length < l then none else if 3 < ys.length - l then none else if l=1 then none else
 if (ys.drop l).all (· == 0) then some { kind:=4,sources:=words n xs,text:=strOfNums ((ys.drop 1).take (l - 1)) } else none
def pairsL:Nat->List Int->List Par
 | 0,_=>[]
 | n+1,xs=>(n16 xs,n16 (xs.drop 2))::pairsL n (xs.drop 4)
def sliceL:Nat->List Int->List Sli
 | 0,_=>[]
 | n+1,xs=>(n32 xs / 524288,n32 xs / 64 % 8192,n32 xs % 64)::sliceL n (xs.drop 4)
def entryL:Nat->List Int->Option (List Ent)
 | 0,xs=>if xs.length=0 then some [] else none
 | n+1,xs=>if n24 (xs.drop 5)≠0 then none else (entryL n (xs.drop 8)).map fun r=>(n32 xs,xs.getD 4 0)::r
def met1 (v:Int):Met:=(v / 32768 == 1,v / 8192 % 4,v % 8192)
def metsL:Nat->List Int->Option (List Met)
 | 0,_=>some []
 | n+1,xs=>let v:=n16 xs;if v / 32768≠1/\v≠0 then none else (metsL n (xs.drop 2)).map fun r=>met1 v::r
def bitAt (v:Int) (i m:Nat):Int:=v / 2 ^ i % m
def symL (v:Int):List Int:=if v / 32768=0 then List.replicate (v % 8192).toNat (v / 8192 % 4) else
 if v / 16384 % 2=0 then [13,12,11,10,9,8,7,6,5,4,3,2,1,0].map fun i=>bitAt v i 2 else [12,10,8,6,4,2,0].map fun i=>bitAt v i 4
def sta1 (v:Int):Sta:=if v / 32768=0 then (false,v / 8192 % 4,0,v % 8192,[]) else (true,0,v / 16384 % 2,0,symL v)
def symOk (left:Int):List Int->Bool
 | []=>true
 | x::r=>(if 0 < left then x != 3 else x == 0) && symOk (left - 1) r
def recv (l:List Int):List Int:=l.filter fun x=>x == 1 || x == 2
def tccC:Nat->Int->List Int->Option (List Int×List Int)
 | 0,_,_=>none
 | f+1,left,xs=>if left<=0 then some ([],xs) else if xs.length < 2 then none else
   let v:=n16 xs
   if v / 32768=0/\(v % 8192=0\/left < v % 8192) then none else if symOk left (symL v) then (tccC f (left - (symL v).length) (xs.drop 2)).map fun r=>(v::r.1,r.2) else none
def del1 (x:Int) (xs:List Int):Del:=(x,if x=2 then i16.wrap (n16 xs)*250 else xs.getD 0 0*250)
def tccD:List Int->List Int->Option (List Del×List Int)
 | [],xs=>some ([],xs)
 | x::r,xs=>if (xs.length:Int) < x then none else (tccD r (xs.drop x.toNat)).map fun q=>(del1 x xs::q.1,q.2)
def rdT (s m:Int) (hp:Bool) (hc ht hl:Int) (xs:List Int):Option Pk:=
 if xs.length < 8 then none else if n16 (xs.drop 2)=0 then none else
 match tccC xs.length (n16 (xs.drop 2)) (xs.drop 8) with
 | none=>none
 | some (vs,ys)=>if (recv (vs.flatMap symL)).length=0 then none else match tccD (recv (vs.flatMap symL)) ys with
  | none=>none
  | some (ds,zs)=>if zs.all (· == 0)/\zs.length<=3 then
    some { kind:=13,sender:=s,media:=m,base:=n16 xs,count:=n16 (xs.drop 2),ref:=n24 (xs.drop 4),fb:=xs.getD 7 0,statuses:=vs.map sta1,deltas:=ds,hp:=hp,hc:=hc,ht:=ht,hl:=hl } else none
variable {p:Pk} {L:List Pk}
theorem Rd.sat (h:Rd w xs a n c):Sat ⟨w,fun _=>False⟩ w [] [Ro.B xs a n c]:=by
 obtain ⟨G,h⟩:=h.and
 refine ⟨Gr.refl _ _,by simp [foots],by simp [foots],by simp,fun r hr=>?_⟩
 simp only [aQ] at hr
 subst hr
 exact dc (h.keep (Gr.refl w (fun _=>False)) (fun _ _ _=>⟨id,by simp [foots]⟩)) dn
theorem Sat.done {w0:World} (H:Sat ⟨w0,fun _=>False⟩ w ex ro):w0.grownBy w none:=H.gr.none (fun _ _ h=>h)
theorem Sat.nothing (w:World):Sat ⟨w,fun _=>False⟩ w [] []:=⟨Gr.refl _ _,by simp [foots],by simp [foots],by simp,by simp⟩
def kindOf (t c:Int):Int:=
 if t=200 then 1 else if t=201 then 2 else if t=202 then 3 else if t=203 then 4 else if t=204 then 5 else
 if t=205 then (if c=1 then 6 else if c=5 then 7 else if c=11 then 8 else if c=15 then 13 else 0) else
 if t=206 then (if c=1 then 9 else if c=2 then 10 else if c=4 then 11 else if c=15 then 12 else 0) else 0
theorem c57 {p:Bool} {c t n:Int}:Calls pg 57 #[.agg #[.bool p,.int .u8 c,.int .u8 t,.int .u16 n]] w fun en w'=>en=.returned (.int .i64 (kindOf t c))/\w.grownBy w' none:=by
 apply of57
 have H:=Sat.nothing w
 unfold kindOf
 refine sNew H ?_;clear H;intro b1 w _ H
 refine ⟨_,(H.b0.at0 rfl),?_⟩
 refine ⟨fun h1=>⟨by rw [aG (by simpa using h1)],H.done⟩,fun h1=>?_⟩
 rw [ap (by simpa using h1)]
 refine ⟨fun h1=>⟨by rw [aG (by simpa using h1)],H.done⟩,fun h1=>?_⟩
 rw [ap (by simpa using h1)]
 refine ⟨fun h1=>⟨by rw [aG (by simpa using h1)],H.done⟩,fun h1=>?_⟩
 rw [ap (by simpa using h1)]
 refine ⟨fun h1=>⟨by rw [aG (by simpa using h1)],H.done⟩,fun h1=>?_⟩
 rw [ap (by simpa using h1)]
 refine ⟨fun h1=>⟨by rw [aG (by simpa using h1)],H.done⟩,fun h1=>?_⟩
 rw [ap (by simpa using h1)]
 refine ⟨fun h1=>?_,fun h1=>?_⟩
 ·rw [aG (by simpa using h1)]
  refine ⟨_,(H.b0.at0 rfl),?_⟩
  refine ⟨fun h1=>⟨by rw [aG (by simpa using h1)],H.done⟩,fun h1=>?_⟩
  rw [ap (by simpa using h1)]
  refine ⟨fun h1=>⟨by rw [aG (by simpa using h1)],H.done⟩,fun h1=>?_⟩
  rw [ap (by simpa using h1)]
  refine ⟨fun h1=>⟨by rw [aG (by simpa using h1)],H.done⟩,fun h1=>?_⟩
  rw [ap (by simpa using h1)]
  refine ⟨fun h1=>⟨by rw [aG (by simpa using h1)],H.done⟩,fun h1=>⟨by rw [ap (by simpa using h1)],H.done⟩⟩
 ·rw [ap (by simpa using h1)]
  refine ⟨fun h1=>?_,fun h1=>⟨by rw [ap (by simpa using h1)],H.done⟩⟩
  rw [aG (by simpa using h1)]
  refine ⟨_,(H.b0.at0 rfl),?_⟩
  refine ⟨fun h1=>⟨by rw [aG (by simpa using h1)],H.done⟩,fun h1=>?_⟩
  rw [ap (by simpa using h1)]
  refine ⟨fun h1=>⟨by rw [aG (by simpa using h1)],H.done⟩,fun h1=>?_⟩
  rw [ap (by simpa using h1)]
  refine ⟨fun h1=>⟨by rw [aG (by simpa using h1)],H.done⟩,fun h1=>?_⟩
  rw [ap (by simpa using h1)]
  refine ⟨fun h1=>⟨by rw [aG (by simpa using h1)],H.done⟩,fun h1=>⟨by rw [ap (by simpa using h1)],H.done⟩⟩
def hdrOk (xs:List Int):Bool:=decide (4<=xs.length) && (xs.getD 0 0 / 64 == 2)
def hP (xs:List Int):Bool:=xs.getD 0 0 / 32 % 2 == 1
def hC (xs:List Int):Int:=xs.getD 0 0 % 32
def hT (xs:List Int):Int:=xs.getD 1 0
def hL (xs:List Int):Int:=n16 (xs.drop 2)
def hdrVal (xs:List Int):Value:=if hdrOk xs then .agg #[.bool (hP xs),.int .u8 (hC xs),.int .u8 (hT xs),.int .u16 (hL xs)] else .agg #[.bool false,.int .u8 0,.int .u8 0,.int .u16 0]
theorem byte_bits (h:0<=x/\x < 256):ishr .u8 x (6:Int)=x / 64/\(iand .u8 x (32:Int) != (0:Int))=(x / 32 % 2 == 1)/\iand .u8 x (31:Int)=x % 32:=by
 refine byte_cases (fun x=>ishr .u8 x (6:Int)=x / 64/\(iand .u8 x (32:Int) != (0:Int))=(x / 32 % 2 == 1)/\iand .u8 x (31:Int)=x % 32) ?_ h.1 h.2
 decide +kernel
theorem c23 {w : World} {xs : List Int} {a : Option Addr} {n c : Nat} (h : Rd w xs a n c) (hb : By xs) :
    Calls pg 23 #[.slice a n c] w fun en w' => en = .returned (.tuple #[hdrVal xs, .bool (hdrOk xs)]) ∧ w.grownBy w' none := by
  apply of23
  have H := h.sat
  have hl := h.len.1
  have hx := byte_bits (hb.getD 0)
  refine sNew H ?_; clear H; intro b1 w _ H
  refine ⟨fun hc => ?_, fun hc => ?_⟩
  · have e1 : hdrOk xs = false := by
      have : ¬ 4 ≤ xs.length := by have : (n : Int) < 4 := by simpa using hc
                                   omega
      simp [hdrOk, this]
    refine sSw0 H rfl (by kernel_rfl) (by rfl) (by rfl) ?_; clear H; intro w _ H
    refine ⟨_, _, _, _, (by exact Ld0 rfl H.b0 (by kernel_rfl)), ?_⟩
    exact ⟨by rw [hdrVal, e1]; rfl, H.done⟩
  · have hn : 4 ≤ n := by
      have : ¬ (n : Int) < 4 := by simpa using hc
      omega
    obtain ⟨p, rfl, hc, _⟩ := Rd.at_ (a := a) (by exact (Sat.rd H (by exact List.mem_cons_self))) (by omega)
    refine ⟨p, rfl, by omega, by omega, _, hc 0 (by omega), ?_⟩
    rw [hx.1]
    refine ⟨fun h2 => ?_, fun h2 => ?_⟩
    · have e1 : hdrOk xs = false := by
        have : ¬ xs.getD 0 0 / 64 = 2 := by simpa using h2
        simp only [hdrOk, Bool.and_eq_false_iff]
        exact .inr (by simpa using this)
      refine sSw0 H rfl (by kernel_rfl) (by rfl) (by rfl) ?_; clear H; intro w _ H
      refine ⟨_, _, _, _, (by exact Ld0 rfl H.b0 (by kernel_rfl)), ?_⟩
      exact ⟨by rw [hdrVal, e1]; rfl, H.done⟩
    · have e1 : hdrOk xs = true := by
        have : xs.getD 0 0 / 64 = 2 := by simpa using h2
        simp only [hdrOk, Bool.and_eq_true, decide_eq_true_eq]
        exact ⟨by omega, by simpa using this⟩
      refine ⟨none, ?_⟩
      replace H := H.drew; generalize w.drew = wd at H ⊢; have K := grew_refl wd (none)
      obtain ⟨p', e, hc, hk⟩ := Rd.at_ (a := some p) (by exact (Sat.rd H (by exact List.mem_cons_self))) (by omega)
      cases e
      refine ⟨p, rfl, by omega, by omega, Option.some_ne_none _, hk 0, _, hc 0 (by omega), p, rfl, by omega, by omega, Option.some_ne_none _, hk 0, _, hc 0 (by omega), p, rfl, by omega, by omega, Option.some_ne_none _, hk 1, _, hc 1 (by omega), by omega, by omega, ?_⟩
      refine call_j (c53 (by exact Rd.skip (Sat.rd H (by exact List.mem_cons_self)) _ (by omega)) (by repeat (first | assumption | apply By.drop)) (by omega)) ?_
      rintro _ w ⟨rfl, g⟩
      replace H := H.grow g; replace K := World.grownBy.trans K (grew_none _ g); clear g
      refine ⟨_, rfl, K, ?_⟩
      refine sSw0 H rfl (by kernel_rfl) (by rfl) (by rfl) ?_; clear H; intro w _ H
      refine ⟨_, _, _, _, (by exact Ld0 rfl H.b0 (by kernel_rfl)), ?_⟩
      refine ⟨?_, H.done⟩
      rw [hdrVal, e1, hx.2.1, hx.2.2]
      rfl
theorem reps_snoc:∀(i:Nat) (xs:List Int),reps (i+1) xs=reps i xs++[rep1 (xs.drop (24*i))]
 | 0,xs=>by simp [reps]
 | i+1,xs=>by
  rw [reps,reps_snoc i,reps]
  simp only [bX,aJ]
  rw [show 24+24*i=24*(i+1) by omega]
theorem log2_of (h0:2 ^ k<=n) (h1:n < 2 ^ (k+1)):n.log2=k:=by
 have hn:n≠0:=by have:=aR k;omega
 exact (Nat.log2_eq_iff hn).2 ⟨h0,h1⟩
theorem cut_exact (q drop:Nat):Ieee.Toward.even.cut false (q*2 ^ drop) drop=q:=by
 unfold Ieee.Toward.cut
 simp only [Nat.one_shiftLeft]
 have hg:=aR (min drop ((q*2 ^ drop).log2+2))
 rcases bL q with h0 | h0
 ·subst h0
  simp only [Nat.zero_mul,Nat.zero_div,Nat.zero_mod]
  generalize 2 ^ min drop (Nat.log2 0+2)=g at hg
  have:(decide (g < 2*0) || (g == 2*0 && 0 % 2 == 1))=false:=by simp
  rw [this];rfl
 ·have hle:drop<=(q*2 ^ drop).log2+2:=by
   have h1:2 ^ drop<=q*2 ^ drop:=Nat.le_mul_of_pos_left _ h0
   have h2:q*2 ^ drop≠0:=by have:=aR drop;omega
   have:=(Nat.le_log2 h2).2 h1
   omega
  rw [cd hle,Nat.mul_div_cancel _ (aR drop),Nat.mul_mod_left]
  have hd:=aR drop
  have:(decide (2 ^ drop < 2*0) || (2 ^ drop == 2*0 && q % 2 == 1))=false:=by
   simp
  rw [this];rfl
theorem nearest_exact (f:Ieee.Format) (M L q d u:Nat) (place:Int) (hM:M≠0) (hL:M.log2=L) (h1:f.leastPlace<=place+L - f.fractionBits) (hd:d=(place+L - f.fractionBits - place).toNat) (hu:u=(place - (place+L - f.fractionBits)).toNat) (hq:M*2 ^ u=q*2 ^ d)
  (hlt:(place+L - f.fractionBits - f.leastPlace).toNat*f.binade+q<=f.infRung):f.nearest false M place=(place+L - f.fractionBits - f.leastPlace).toNat*f.binade+q:=by
 unfold Ieee.Format.nearest
 rw [ap hM]
 simp only [hL]
 rw [Int.max_eq_left h1,<-hd,<-hu,Nat.shiftLeft_eq,hq,cut_exact]
 simp only [Ieee.Format.word,be,bO]
 exact cd hlt
def dbl (m i:Nat):Nat:=(i+m.log2+1022)*4503599627370496+m*2 ^ (52 - m.log2)
def sgl (m i:Nat):Nat:=(i+m.log2+126)*8388608+m*2 ^ (23 - m.log2)
theorem norm_range (h0:0 < m) (h1:m < 262144) (hk:18<=k):m.log2<=17/\2 ^ k<=m*2 ^ (k - m.log2)/\m*2 ^ (k - m.log2) < 2 ^ (k+1):=by
 have hm:m≠0:=by omega
 have hl:m.log2<=17:=by
  have:=(Nat.log2_lt (k:=18) hm).2 (by omega)
  omega
 have h2:=Nat.log2_self_le hm
 have h3:m < 2 ^ (m.log2+1):=Nat.lt_log2_self
 refine ⟨hl,?_,?_⟩
 ·calc 2 ^ k=2 ^ m.log2*2 ^ (k - m.log2):=by rw [<-bS];congr 1;omega
   _<=m*2 ^ (k - m.log2):=Nat.mul_le_mul_right _ h2
 ·calc m*2 ^ (k - m.log2) < 2 ^ (m.log2+1)*2 ^ (k - m.log2):=Nat.mul_lt_mul_of_pos_right h3 (aR _)
   _=2 ^ (k+1):=by rw [<-bS];congr 1;omega
theorem read_normal (f:Ieee.Format) (w:Nat) (h:w < f.signWeight) (h1:f.binade<=w) (h2:w < f.infRung):f.read w=.number false (f.binade+w % f.binade) (f.leastPlace+(w / f.binade - 1:Nat)):=by
 unfold Ieee.Format.read
 simp only
 rw [bf h,ap (by omega),aG h2,Nat.div_eq_of_lt h]
 rfl
theorem dbl_read (h0:0 < m) (h1:m < 262144) (hi:i<=64):Ieee.double.read (dbl m i)=.number false (m*2 ^ (52 - m.log2)) ((i:Int)+m.log2 - 52):=by
 obtain ⟨hl,h2,h3⟩:=norm_range (k:=52) h0 h1 (by omega)
 have hs:Ieee.double.signWeight=9223372036854775808:=by decide
 have hb:Ieee.double.binade=4503599627370496:=by decide
 have hI:Ieee.double.infRung=9218868437227405312:=by decide
 have hp:Ieee.double.leastPlace=-1074:=by decide
 unfold dbl
 generalize hN:m*2 ^ (52 - m.log2)=N at h2 h3
 generalize m.log2=L at hl
 simp only [Nat.reducePow,Nat.reduceAdd] at h2 h3
 rw [read_normal _ _ (by rw [hs];omega) (by rw [hb];omega) (by rw [hI];omega),hb,hp]
 congr 1
 ·omega
 ·omega
theorem dbl_of_int (h0:0 < m) (h1:m < 262144):Ieee.double.nearest false m 0=dbl m 0:=by
 obtain ⟨hl,h2,h3⟩:=norm_range (k:=52) h0 h1 (by omega)
 rw [nearest_exact Ieee.double m m.log2 (m*2 ^ (52 - m.log2)) 0 (52 - m.log2) 0 (by omega) rfl]
 ·simp only [dbl,Ieee.Format.leastPlace,Ieee.double,Ieee.Format.binade,Nat.reducePow,Nat.reduceSub,Int.reducePow,Int.reduceSub]
  congr 2
  omega
 ·simp only [Ieee.Format.leastPlace,Ieee.double,Nat.reducePow,Nat.reduceSub,Int.reducePow,Int.reduceSub];omega
 ·simp only [Ieee.double];omega
 ·simp only [Ieee.double];omega
 ·simp
 ·generalize hN:m*2 ^ (52 - m.log2)=N at h2 h3
  simp only [Ieee.Format.leastPlace,Ieee.double,Ieee.Format.binade,Ieee.Format.infRung,Nat.reducePow,Nat.reduceAdd,Nat.reduceMul,Nat.reduceSub,Int.reducePow,Int.reduceSub] at h3 ⊢
  omega
theorem pow_split {a:Nat} (h:a<=b) (k:Nat) (e:b=a+k):m*2 ^ b=m*2 ^ a*2 ^ k:=by rw [e,bS,Nat.mul_assoc]
def blocksL:Nat->List Int->Option (List Blo×List Int)
 | 0,_=>none
 | f+1,xs=>if xs.length<=4 then some ([],xs) else if xs.length < 12 then none else
   let n:=(n16 (xs.drop 6)).toNat
   if xs.length - 8 < 2*(n+n % 2)+4 then none else match metsL n (xs.drop 8) with
   | none=>none
   | some l=>if n % 2=1/\n16 (xs.drop (8+2*n))≠0 then none else (blocksL f (xs.drop (8+2*(n+n % 2)))).map fun r=>((n32 xs,n16 (xs.drop 4),l)::r.1,r.2)
def rdCc (s:Int) (xs:List Int):Option Pk:=match blocksL xs.length xs with
 | some (l,ys)=>if ys.length=4/\l≠[] then some { kind:=8,sender:=s,blocks:=l,time:=n32 ys } else none
 | none=>none
def rdRemb (s m:Int) (b:List Int):Option Pk:=
 if b.length < 8 then none else if m≠0 then none else if b.take 4≠[82,69,77,66] then none else if b.length≠8+4*(b.getD 4 0).toNat then none else
 if n24 (b.drop 5) % 262144=0 then none else
 some { kind:=12,sender:=s,bits:=sgl (n24 (b.drop 5) % 262144).toNat (n24 (b.drop 5) / 262144).toNat,sources:=words (b.getD 4 0).toNat (b.drop 8) }
def rdFb (k:Int) (hp:Bool) (hc ht hl:Int) (body:List Int):Option Pk:=
 let s:=n32 body
 let m:=n32 (body.drop 4)
 let b:=body.drop 8
 if k=7\/k=9 then (if b.length=0 then some { kind:=k,sender:=s,media:=m } else none) else
 if k=6 then (if b.length / 4=0 then none else some { kind:=6,sender:=s,media:=m,pairs:=pairsL (b.length / 4) b }) else
 if k=10 then (if b.length / 4=0 then none else some { kind:=10,sender:=s,media:=m,slices:=sliceL (b.length / 4) b }) else
 if k=11 then (match entryL (b.length / 8) b with
  | some l=>if l=[] then none else some { kind:=11,sender:=s,media:=m,entries:=l }
  | none=>none) else
 if k=12 then rdRemb s m b else if k=8 then rdCc s (body.drop 4) else rdT s m hp hc ht hl b
def rdBody (xs:List Int):Option Pk:=
 let k:=kindOf (hT xs) (hC xs)
 let n:=(hC xs).toNat
 let body:=xs.drop 4
 if k=1 then (if body.length < 24+24*n then none else some { kind:=1,sender:=n32 body,ntp:=n64 (body.drop 4),rtp:=n32 (body.drop 12),packets:=n32 (body.drop 16),octets:=n32 (body.drop 20),reports:=reps n (body.drop 24),ext:=(body.drop 24).drop (24*n) }) else
 if k=2 then (if body.length < 4+24*n then none else some { kind:=2,sender:=n32 body,reports:=reps n (body.drop 4),ext:=(body.drop 4).drop (24*n) }) else
 if k=3 then (chks n body).map (fun l=>{ kind:=3,chunks:=l }) else
 if k=4 then rdBye n body else
 if k=5 then (if body.length < 8 then none else some { kind:=5,sender:=n32 body,text:=strOfNums ((body.drop 4).take 4),sub:=hC xs,data:=body.drop 8 }) else
 if body.length < 8 then none else rdFb k (hP xs) (hC xs) (hT xs) (hL xs) body
def oneOf (q:Option Pk):Int×Pk:=match q with
 | some p=>(0,p)
 | none=>(2,{})
def rdOne (xs:List Int):Int×Pk:=
 if hdrOk xs=false then (1,{}) else if 4*(hL xs+1)≠xs.length then (1,{}) else
 if kindOf (hT xs) (hC xs)=0 then (if hT xs=207 then (2,{}) else (0,{ data:=xs })) else
 if hP xs then (2,{}) else oneOf (rdBody xs)
theorem words_snoc:∀(i:Nat) (xs:List Int),words (i+1) xs=words i xs++[n32 (xs.drop (4*i))]
 | 0,xs=>by simp [words]
 | i+1,xs=>by
  rw [words,words_snoc i,words]
  simp only [bX,aJ]
  rw [show 4+4*i=4*(i+1) by omega]
theorem oi_snoc (k:IntKind) (l:List Int) (x:Int):oi k (l++[x])=oi k l++[.one (.int k x)]:=by simp [oi]
theorem getD_drop (xs:List Int) (k i:Nat):(xs.drop k).getD i 0=xs.getD (k+i) 0:=by simp [List.getD]
theorem byte_inj {y:Int} (hx:0<=x/\x < 256) (hy:0<=y/\y < 256) (h:UInt8.ofNat x.toNat=UInt8.ofNat y.toNat):x=y:=by
 have:=congrArg UInt8.toNat h
 simp only [UInt8.toNat_ofNat'] at this
 omega
theorem bytes_inj:∀{xs ys:List Int},By xs->By ys->(xs.map fun n=>UInt8.ofNat n.toNat)=(ys.map fun n=>UInt8.ofNat n.toNat)->xs=ys
 | [],[],_,_,_=>rfl
 | [],_::_,_,_,h=>by simp at h
 | _::_,[],_,_,h=>by simp at h
 | x::xs,y::ys,hx,hy,h=>by
  simp only [aX,List.cons.injEq] at h
  rw [byte_inj (hx x (by simp)) (hy y (by simp)) h.1,bytes_inj (fun z hz=>hx z (by simp [hz])) (fun z hz=>hy z (by simp [hz])) h.2]
theorem str_eq (hx:By xs) (hy:By ys):(strOfNums xs).toList=(strOfNums ys).toList↔xs=ys:=by
 rw [Lib.strOfNums_toList,Lib.strOfNums_toList]
 exact ⟨fun h=>bytes_inj hx hy h,fun h=>by rw [h]⟩
theorem run_f32bits:(callFunc 105 #[.float .f32 b]).run pg w=.ok (.value (.int .u32 b)) w:=by
 rw [run_callFunc_extern (fn:=Tryz.f105) (e:=Extern.MathFloatBits.float32bits) Tryz.func105 (by kernel_rfl) (by kernel_rfl) (by kernel_rfl) (by kernel_rfl)]
 rfl
theorem uU32:pg.underlying 51=some (.int .u32):=by kernel_rfl
theorem uF64:pg.underlying 272=some (.float .f64):=by kernel_rfl
theorem uF32:pg.underlying 236=some (.float .f32):=by kernel_rfl
theorem metsL_none (h:n16 xs / 32768≠1/\n16 xs≠0):metsL (n+1) xs=none:=by simp only [metsL];rw [aG h]
theorem metsL_some (h:¬(n16 xs / 32768≠1/\n16 xs≠0)):metsL (n+1) xs=(metsL n (xs.drop 2)).map fun r=>met1 (n16 xs)::r:=by simp only [metsL];rw [ap h]
theorem oi_length (k:IntKind) (l:List Int):(oi k l).length=l.length:=by simp [oi]
theorem oi_get (k:IntKind) (l:List Int) (i:Nat) (h:i < l.length):(oi k l)[i]?=some (.one (.int k (l.getD i 0))):=by
 simp [oi,List.getD,ai h]
theorem pairsL_snoc:∀(i:Nat) (xs:List Int),pairsL (i+1) xs=pairsL i xs++[(n16 (xs.drop (4*i)),n16 ((xs.drop (4*i)).drop 2))]
 | 0,xs=>by simp [pairsL]
 | i+1,xs=>by
  rw [pairsL,pairsL_snoc i,pairsL]
  simp only [bX,aJ]
  rw [show 4+4*i=4*(i+1) by omega]
def sli1 (v:Int):Sli:=(v / 524288,v / 64 % 8192,v % 64)
theorem sliceL_snoc:∀(i:Nat) (xs:List Int),sliceL (i+1) xs=sliceL i xs++[sli1 (n32 (xs.drop (4*i)))]
 | 0,xs=>by simp [sliceL,sli1]
 | i+1,xs=>by
  rw [sliceL,sliceL_snoc i,sliceL]
  simp only [bX,aJ]
  rw [show 4+4*i=4*(i+1) by omega]
theorem pairsL_length:∀(i:Nat) (xs:List Int),(pairsL i xs).length=i
 | 0,_=>rfl
 | i+1,xs=>by simp [pairsL,pairsL_length i]
theorem sliceL_length:∀(i:Nat) (xs:List Int),(sliceL i xs).length=i
 | 0,_=>rfl
 | i+1,xs=>by simp [sliceL,sliceL_length i]
theorem be32r {y z u:Int} (hx:0<=x/\x < 256) (hy:0<=y/\y < 256) (hz:0<=z/\z < 256) (hu:0<=u/\u < 256) :
  ior .u32 (ior .u32 (ior .u32 (u32.wrap u) (ishl .u32 (u32.wrap z) (8:Int))) (ishl .u32 (u32.wrap y) (16:Int))) (ishl .u32 (u32.wrap x) (24:Int))=(x*256+y)*65536+(z*256+u):=by
 rw [ishl_of (b:=(24:Int)) 24 (by rfl) (by decide),ishl_of (b:=(16:Int)) 16 (by rfl) (by decide),ishl_of (b:=(8:Int)) 8 (by rfl) (by decide),wu32,wu32,wu32,wu32,wu32,wu32,wu32]
 rw [show u % 4294967296=u by omega,show z % 4294967296*2 ^ 8 % 4294967296=z*256 by omega,show y % 4294967296*2 ^ 16 % 4294967296=y*65536 by omega,show x % 4294967296*2 ^ 24 % 4294967296=x*16777216 by omega]
 rw [ior_add' (k:=.u32) (by rfl) 8 z (a:=z*256) (b:=u) (by omega) hz.1 hu.1 (by omega) (by simp only [IntKind.bits];omega)]
 rw [ior_add' (k:=.u32) (by rfl) 16 y (a:=y*65536) (b:=z*256+u) (by omega) hy.1 (by omega) (by omega) (by simp only [IntKind.bits];omega)]
 rw [ior_add' (k:=.u32) (by rfl) 24 x (a:=x*16777216) (b:=y*65536+(z*256+u)) (by omega) hx.1 (by omega) (by omega) (by simp only [IntKind.bits];omega)]
 omega
theorem c90 (h:Rd w xs a n c) (hb:By xs) (hn:2<=n) :
  Calls pg 90 #[.slice a n c] w fun en w'=>en=.returned (.int .u16 (n16 xs))/\w.grownBy w' none:=by
 apply of90
 obtain ⟨p,rfl,hc,_⟩:=h.at_ (by omega)
 refine ⟨_,rfl,by omega,by omega,_,hc 1 (by omega),_,rfl,by omega,by omega,_,hc 0 (by omega),?_,grew_drew _ _⟩
 rw [be16' (hb.getD 0) (hb.getD 1)];rfl
theorem c150 (h:Rd w xs a n c) (hb:By xs) (hn:4<=n) :
  Calls pg 150 #[.slice a n c] w fun en w'=>en=.returned (.int .u32 (n32 xs))/\w.grownBy w' none:=by
 apply of150
 obtain ⟨p,rfl,hc,_⟩:=h.at_ (by omega)
 refine ⟨_,rfl,by omega,by omega,_,hc 3 (by omega),_,rfl,by omega,by omega,_,hc 3 (by omega),_,rfl,by omega,by omega,_,hc 2 (by omega),_,rfl,by omega,by omega,_,hc 1 (by omega),_,rfl,by omega,by omega,_,hc 0 (by omega),?_,grew_drew _ _⟩
 rw [be32r (hb.getD 0) (hb.getD 1) (hb.getD 2) (hb.getD 3)]
 unfold n32 n16
 rw [getD_drop,getD_drop]
theorem hdr_bits (h:0<=x/\x < 256):iand .u8 (ishr .u8 x (6:Int)) (3:Int)=x / 64/\decide (iand .u8 (ishr .u8 x (5:Int)) (1:Int) > (0:Int))=(x / 32 % 2 == 1)/\iand .u8 (ishr .u8 x (0:Int)) (31:Int)=x % 32:=by
 refine byte_cases (fun x=>iand .u8 (ishr .u8 x (6:Int)) (3:Int)=x / 64/\decide (iand .u8 (ishr .u8 x (5:Int)) (1:Int) > (0:Int))=(x / 32 % 2 == 1)/\iand .u8 (ishr .u8 x (0:Int)) (31:Int)=x % 32) ?_ h.1 h.2
 decide +kernel
theorem c55 {c2 c3:Value} {rest:List Value} (H:Sat F w (.blk b t (c0::c1::c2::c3::rest)::ex) ro)
  (hx:Ro.B xs a n c∈ro) (hb:By xs) (hok:hdrOk xs=true):Calls pg 55 #[.pointer (some ⟨b,0,none⟩),.slice a n c] w fun en w'=>en=.returned .nilIface /\
   Sat F w' (.blk b t (.bool (hP xs)::.int .u8 (hC xs)::.int .u8 (hT xs)::.int .u16 (hL xs)::rest)::ex) ro:=by
 apply of55
 have hlen:=H.lenB hx
 simp only [hdrOk,aM,ah,beq_iff_eq] at hok
 obtain ⟨e1,e2,e3⟩:=hdr_bits (hb.getD 0)
 refine ⟨fun hc=>?_,fun hc=>?_⟩
 ·rw [ah] at hc;omega
 obtain ⟨p,rfl,hp,kp,fp⟩:=H.at_ (a:=a) hx (by omega)
 refine ⟨p,rfl,by omega,by omega,?_⟩
 refine ⟨_,hp 0 (by omega),?_⟩
 rw [e1,hok.2]
 refine fF ?_
 refine ⟨p,rfl,by omega,by omega,?_⟩
 refine ⟨_,hp 0 (by omega),?_⟩
 rw [e2]
 refine ⟨_,rfl,?_⟩
 refine sSt0 H (h:=?_);clear H;intro w _ H
 obtain ⟨p9,e,hp,kp,fp⟩:=H.at_ (a:=some p) hx (by omega)
 cases e
 refine ⟨p,rfl,by omega,by omega,?_⟩
 refine ⟨_,hp 0 (by omega),?_⟩
 rw [e3]
 refine ⟨_,rfl,?_⟩
 refine sSt0 H (h:=?_);clear H;intro w _ H
 obtain ⟨p9,e,hp,kp,fp⟩:=H.at_ (a:=some p) hx (by omega)
 cases e
 refine ⟨p,rfl,by omega,by omega,?_⟩
 refine ⟨_,hp 1 (by omega),?_⟩
 refine ⟨_,rfl,?_⟩
 refine sSt0 H (h:=?_);clear H;intro w _ H
 refine ⟨by omega,by omega,?_⟩
 refine call_j (c90 (by exact Rd.skip (Sat.rd H (by assumption)) _ (by omega)) (hb.drop 2) (by omega)) ?_
 rintro _ w ⟨rfl,g⟩
 replace H:=H.grow g;clear g
 refine ⟨_,rfl,?_⟩
 refine ⟨_,rfl,?_⟩
 refine sSt0 H (h:=?_);clear H;intro w _ H
 exact ⟨rfl,H⟩
def deD (d:Del):Dat:=.ptr [.one (.int .u16 d.1),.one (.int .i64 d.2)]
theorem n16_take:n16 (ys.take 2)=n16 ys:=by
 unfold n16
 rw [bJ,bJ,cj,cj,aG (by omega),aG (by omega),<-bJ,<-bJ]
theorem flat_len {α:Type} {f:α->List Dat} (hk:∀x,(f x).length=k):∀l:List α,(l.flatMap f).length=l.length*k
 | []=>by simp
 | x::l=>by rw [av,ae,hk,flat_len hk l,aA,Nat.succ_mul,Nat.add_comm]
theorem flat_drop {α:Type} {f:α->List Dat} (hk:∀x,(f x).length=k):∀(l:List α) (j:Nat),(l.flatMap f).drop (j*k)=(l.drop j).flatMap f
 | l,0=>by simp
 | [],j+1=>by simp
 | x::l,j+1=>by
  rw [av,Nat.succ_mul,Nat.add_comm,<-aJ,List.drop_left' (hk x),flat_drop hk l j,List.drop_succ_cons]
theorem Sat.eltF {α:Type} {f:α->List Dat} (hk:∀x,(f x).length=k) (hk0:0 < k) {l:List α} (H:Sat F w ex ro) (h:Ro.deep [.row k (l.flatMap f)] [.slice a n c]∈ro) (hj:j < l.length) :
  ∃p us,a=some p/\us.length=k/\(∀(i:Nat) (u:Value),us[i]?=some u->w.cell? ((p.add (j*k)).add i)=some u)/\Sat F w ex (.deep (f l[j]) us::ro):=by
 have hl:=(H.deep1 h).len.1
 rw [flat_len hk] at hl
 have hn:l.length=n:=Nat.eq_of_mul_eq_mul_right hk0 hl
 obtain ⟨b,o,vs,rfl,hv,hc,H1⟩:=H.elts h (by omega)
 have hd:=H1.deep ms
 have hd1:=(hd.drop (j*k)).take k
 have e:((l.flatMap f).drop (j*k)).take k=f l[j]:=by
  rw [flat_drop hk,bw hj,av,ce (hk _)]
 rw [e] at hd1
 refine ⟨_,(vs.drop (j*k)).take k,rfl,by rw [hd1.1,hk],fun i u hu=>?_,H.addRo hd1⟩
 rw [cj] at hu
 split at hu
 ·rw [List.getElem?_drop] at hu
  rw [add_flat,add_flat,Nat.add_assoc]
  exact hc _ _ hu
 ·cases hu
theorem recover_idle (p:Addr) (w:World) :
  CallsD Tryz.prog 78 #[.pointer (some p)] .returning w fun e u' w'=>e=.returned (.tuple #[])/\u'=.returning/\w'=w:=by
 refine callsD_of_wpS Tryz.func78 rfl fun c₀ cs hu=>?_
 apply wpS_seq
 apply wpS_region
 simp [wpOpsS,go_sem,recoverD,hu,Tryz.ntmps78,Exit.thenS]
 refine wpS_cond (t:=false) (by simp [Act.eval,Array.replicate]) ?_
 simp only [be,bO]
 refine wpS_of_wp (wp_skip ?_)
 cases c₀
 simp_all [bodyPostS,results,Tryz.results78]
theorem ofTry {fid:FuncId} {caps:Array Value} (hb:hasBody pg fid=true)
  (h:Calls pg fid caps (w.alloc (.cells #[.bool false] 4)) fun en w'=>∃b:Bool,en=.returned (.bool b)/\(∃x,w'.cell? ⟨w.heap.size,0,none⟩=some x)/\w'.frozen? ⟨w.heap.size,0,none⟩=false/\R (.returned (.bool b)) (w'.setCell ⟨w.heap.size,0,none⟩ (.bool b))) :
  Calls pg 34 #[.func (.func fid) #[] caps] w R:=by
 have hmf:∀(fn:Fn) (first cap:Array Value) (w:World),(Instr.makeFunc fn first cap).run Tryz.prog w=.ok (.func fn first cap) w:=fun _ _ _ _=>rfl
 have hcf:∀w:World,(callFunc fid caps).run Tryz.prog w=.ok (.enter fid caps) w:=fun w=>run_callFunc_body fine hb
 go_enter_defers Tryz.func34,Tryz.ntmps34
 go_wp2
 rename_i K1 hK1 K0 hK0
 refine h.mono ?_
 rintro e w' ⟨b,rfl,⟨x,hx⟩,hz,hR⟩
 refine hK0 _ _ ?_
 go_wp2
 refine leaves_cons (f:=78) (args:=#[.pointer (some ⟨w.heap.size,0,none⟩)]) (by simp) (by simp [go_sem]) ?_
 refine (recover_idle ⟨w.heap.size,0,none⟩ _).mono ?_
 rintro e u' w'' ⟨rfl,rfl,rfl⟩
 simp [Leaves,settle,results,Tryz.results34,go_sem]
 rw [World.cell?_setCell_same _ _ _ hx]
 exact ⟨_,rfl,hR⟩
def mthB (P:Program) (t:TypeId) (name:String) (f:FuncId) (ptr:Bool):Bool:=match P.info? t with
 | some i=>(match i.methods.find? (·.name == name) with
  | some m=>(match m.func with
   | some (g,q)=>Nat.beq g f && (q == ptr) && m.path.toList.isEmpty
   | none=>false)
  | none=>false)
 | none=>false
theorem fuel_pos:Nat.ble 1 (pg.types.size+Made.depth)=true:=by kernel_rfl
theorem mth_spec {name:String} {ptr:Bool} (h:mthB P t name f ptr=true) :
  ∃i m,P.info? t=some i/\i.methods.find? (·.name == name)=some m/\m.func=some (f,ptr)/\m.path.toList=[]:=by
 unfold mthB at h
 split at h
 ·rename_i i hi
  split at h
  ·rename_i m hm
   split at h
   ·rename_i g q hf
    simp only [aM,beq_iff_eq,List.isEmpty_iff] at h
    obtain ⟨⟨h1,rfl⟩,h3⟩:=h
    obtain rfl:=aT h1
    exact ⟨i,m,hi,hm,hf,h3⟩
   ·cases h
  ·cases h
 ·cases h
theorem run_mth_ptr {name:String} (h:mthB P t name f true=true) (ht:P.underlying t=some (.pointer e)) (w:World) :
  (method (k+1) t v name).run P w=.ok (f,v) w:=by
 obtain ⟨i,m,hi,hm,hf,hp⟩:=mth_spec h
 simp only [method,typeInfo,aL,run_program,aB,hi,bv,hm,hp,follow,hf]
 simp only [receiverAt,aL,aH ht,aB,Place.get,bv]
theorem run_wrapChk {xt:TypeId} {a:Addr} {s n:String}:(Builtin.ssaWrapNilChk_ #[xt] xt #[.pointer (some a),strVal s,strVal n]).run P w=.ok (.pointer (some a)) w:=rfl
theorem run_mth_val {name:String} {a:Addr} (h:mthB P t name f false=true) (ht:P.underlying t=some (.pointer e)) (hl:LdV P e a v w) :
  (method (k+1) t (.pointer (some a)) name).run P w=.ok (f,v) w:=by
 obtain ⟨i,m,hi,hm,hf,hp⟩:=mth_spec h
 have hpe:m.path.isEmpty=true:=by rw [Array.isEmpty_iff,<-Array.toList_eq_nil_iff];exact hp
 unfold LdV at hl
 simp only [method,typeInfo,aL,run_program,aB,hi,bv,hm,hp,follow,hf]
 simp only [receiverAt,aL,aH ht,aB,Place.get,bv,hpe,if_true]
 rw [run_wrapChk]
 simp only [aB,asAddr,bv,hl]
theorem fuel_succ:∃k,pg.types.size+Made.depth=k+1:=by
 have h:=bV fuel_pos
 generalize pg.types.size+Made.depth=n at h
 exact ⟨n - 1,by omega⟩
theorem inv_ptr {name:String} {args:Array Value} (h:mthB pg t name f true=true) (ht:pg.underlying t=some (.pointer e)) (hb:hasBody pg f=true) (hc:Calls pg f (#[v]++args) w R) :
  Invk (.iface t v) name args w R:=by
 obtain ⟨k,hk⟩:=fuel_succ
 exact ⟨t,v,f,v,rfl,by rw [hk];exact run_mth_ptr h ht w,hb,hc⟩
theorem inv_val {name:String} {a:Addr} {args:Array Value} (h:mthB pg t name f false=true) (ht:pg.underlying t=some (.pointer e)) (hb:hasBody pg f=true) (hl:LdV pg e a v w) (hc:Calls pg f (#[v]++args) w R) :
  Invk (.iface t (.pointer (some a))) name args w R:=by
 obtain ⟨k,hk⟩:=fuel_succ
 exact ⟨t,.pointer (some a),f,v,rfl,by rw [hk];exact run_mth_val h ht hl,hb,hc⟩
def ptrB (P:Program) (t:TypeId):Bool:=match P.underlying t,(P.info? t).bind (·.zero) with
 | some (.pointer _),some (.pointer none)=>true
 | _,_=>false
theorem ta_yes {xt:TypeId} {p:Option Addr} (h:ptrB P t=true) (w:World):(Instr.typeAssert (.iface t (.pointer p)) xt t true).run P w=.ok (.tuple #[.pointer p,.bool true]) w:=by
 unfold ptrB at h
 split at h
 ·rename_i e ht hz
  simp only [Instr.typeAssert,aL,aH ht,aB,if_true,bv]
 ·cases h
theorem ta_no {u xt:TypeId} (h:ptrB P u=true) (hne:t≠u) (w:World):(Instr.typeAssert (.iface t v) xt u true).run P w=.ok (.tuple #[.pointer none,.bool false]) w:=by
 unfold ptrB at h
 split at h
 ·rename_i e ht hz
  obtain ⟨i,hi,hz⟩:=bQ.1 hz
  simp only [Instr.typeAssert,aL,aH ht,aB,ap hne,bv,if_true,zeroValue,typeInfo,run_program,hi,hz]
 ·cases h
theorem tno {u xt:TypeId} {A:Option Addr->Bool->Prop} {B:Prop} (h:B) (h1:ptrB P u=true:=by kernel_rfl) (h2:t≠u:=by decide):∃(a:Option Addr) (b:Bool),(∀w,(Instr.typeAssert (.iface t v) xt u true).run P w=.ok (.tuple #[.pointer a,.bool b]) w)/\(b=true->A a b)/\(b=false->B):=⟨none,false,fun w=>ta_no h1 h2 w,fun e=>(by cases e),fun _=>h⟩

/-! ### Reading through -/
theorem Sat.ifc {u:Value} (H:Sat F w ex ro) (h:Ro.deep [.ifc t d] [u]∈ro):∃v,u=.iface t v/\Sat F w ex (.deep [d] [v]::ro):=by
 have hd:=H.deep1 h
 cases hd with
 | ifc _ _ v h1=>exact ⟨v,rfl,H.addRo (dc h1 dn)⟩
theorem Sat.ptr (H:Sat F w ex ro) (h:Ro.deep [.ptr ds] [v]∈ro) :
  ∃b vs,v=.pointer (some ⟨b,0,none⟩)/\(∀(i:Nat) (u:Value),vs[i]?=some u->w.cell? ⟨b,i,none⟩=some u)/\(∃c ty f,w.heap[b]?=some (.cells c ty f))/\b ∉ foots ex/\Sat F w ex (.deep ds vs::ro):=by
 have hd:=H.deep1 h
 cases hd with
 | ptr b t fz _ vs hG hb hv hdd=>
  refine ⟨b,vs,rfl,fun i u hu=>?_,⟨_,_,_,hb⟩,hG,H.addRo ⟨hv,hdd⟩⟩
  simp [World.cell?,hb,hu]
theorem Sat.ones {us:List Value} (H:Sat F w ex ro) (h:Ro.deep (us.map .one) vs∈ro):vs=us:=DeepL.of_ones (H.deep h)
theorem Sat.one1 {u:Value} (H:Sat F w ex ro) (h:Ro.deep (.one u::ds) (v::vs)∈ro):v=u:=by
 have hd:=(H.deep h).head
 cases hd;rfl
theorem Sat.rowS (H:Sat F w ex ro) (h:Ro.deep [.row sz ds] [v]∈ro):∃a n c,v=.slice a n c/\ds.length=n*sz:=by
 have hd:=H.deep1 h
 have hl:∀a n c,v=.slice a n c->ds.length=n*sz:=by rintro a n c rfl;exact hd.len.1
 cases hd with
 | emp=>exact ⟨_,_,_,rfl,by simp⟩
 | row _ b o n c _ vs=>exact ⟨_,_,_,rfl,hl _ _ _ rfl⟩
theorem Sat.uncons (H:Sat F w ex ro) (h:Ro.deep (d::ds) vs∈ro):∃v us,vs=v::us/\Sat F w ex (.deep [d] [v]::.deep ds us::ro):=by
 have hd:=H.deep h
 cases vs with
 | nil=>have:=hd.1;simp at this
 | cons v us=>exact ⟨v,us,rfl,(H.addRo (r:=.deep ds us) hd.tail).addRo (dc hd.head dn)⟩
theorem run_loadC {a:Addr}:∀(vs:List Value) (i:Nat) (acc:Array Value),(∀(j:Nat) (u:Value),vs[j]?=some u->w.cell? (a.add (i+j))=some u) ->
  (loadCellsFrom a i vs.length acc).run P w=.ok (acc++vs.toArray) w
 | [],i,acc,_=>by simp [loadCellsFrom]
 | v::vs,i,acc,h=>by
  have hc:=h 0 v rfl
  rw [Nat.add_zero] at hc
  simp only [aA,loadCellsFrom,aL,run_load,hc,aB]
  rw [run_loadC vs (i+1) _ (fun j u hu=>by rw [Nat.add_assoc,Nat.add_comm 1 j];exact h (j+1) u (by simpa using hu))]
  congr 1
  simp
theorem LdC {a:Addr} (vs:List Value) (ht:aggT P t vs.length=true) (hc:∀(j:Nat) (u:Value),vs[j]?=some u->w.cell? (a.add j)=some u):LdV P t a (.agg vs.toArray) w:=by
 simp only [LdV,loadVar,aL,run_isAgg_agg ht,aB,if_true,run_size_agg ht,loadCells]
 rw [run_loadC vs 0 #[] (fun j u hu=>by rw [aK];exact hc j u hu)]
 simp
theorem sNewB (H:Sat F w ex ro) {cs:Array Value} {K:Addr->World->Prop} (h:∀b w',w.heap.size<=b->w.grownBy w' none->Sat F w' (.blk b t cs.toList::ex) ro->K ⟨b,0,none⟩ w'):gNew cs t K w:=by
 refine gNew_i fun b w' hb hs hg hB=>h b w' (by omega) hg ?_
 refine Sat.step (used:=[]) (used':=[.blk b t cs.toList]) (rest:=ex) H ((Gr.of hg).mono (fun k _ h=>by cases h)) (by simp [foots,Ex.foot]) (fun q hq=>?_) (fun e he _=>?_)
 ·simp only [foots,Ex.foot,av,aD,aE,aQ] at hq
  subst hq
  exact ⟨by omega,.inr (by omega)⟩
 ·simp only [aQ] at he
  subst he
  exact hB
theorem clone_j {us:List Value} (H:Sat F w ex ro) (hx:Ro.deep [.row 1 (us.map .one)] [.slice a n c]∈ro) (hn:n<=10000000) (h1:us.all Value.oneCell'=true) {t e:Nat} (hap:apT pg t e 1 bytes=true) (hb:bytes<=1000)
  (hR:∀a' c' w',w.grownBy w' none->Sat F w' ex (.deep [.row 1 (us.map .one)] [.slice a' n c']::ro)->R (.returned (.slice a' n c')) w') :
  (a.isNone=true->R (.returned (.slice none 0 0)) w)/\(a.isNone=false->gNew #[] e (fun p_1 w_2=>∃(x3:Option Addr) (x3l x3c:Nat),∃w_4,(Builtin.append_ #[t,t] t #[.slice (some p_1) 0 0,.slice a n c]).run pg w_2=.ok (.slice x3 x3l x3c) w_4/\R (.returned (.slice x3 x3l x3c)) w_4) w):=by
 have hl:=(H.deep1 hx).len
 refine ⟨fun hc=>?_,fun hc=>?_⟩
 ·have ha:a=none:=by cases a with
   | none=>rfl
   | some p=>cases hc
  have h0:=hl.2.2.2 ha
  have hn0:n=0:=by omega
  have hu:us=[]:=by have:=hl.1;simpa [hn0] using this
  subst hn0;subst hu
  exact hR none 0 w (grew_refl _ _) (H.addRo (dc (.emp _ _) dn))
 ·refine sNewB H ?_;clear H;intro b1 w1 hsz g1 H
  have H1:=H.toOwn 1 0 [] (by rfl) (by decide) (fun G h=>DeepL.nil _ _)
  obtain ⟨p,rfl⟩:∃p,a=some p:=by cases a with
   | none=>cases hc
   | some p=>exact ⟨p,rfl⟩
  have hlu:us.length=n:=by have:=hl.1;simpa using this
  have hm:n+0<=maxLen:=by unfold maxLen;omega
  have hb2:(0+n)*bytes<=140737488355328:=Nat.le_trans (Nat.mul_le_mul (show 0+n<=10000000 by omega) hb) (by decide)
  refine sApp0 H1 hap us (us.map .one) (by rw [hlu,bd]) ?_ (fun G h=>DeepL.ones us) (fun u hu=>ch.1 h1 u hu) (by unfold maxLen;omega) hb2 ?_
  ·intro j u hu
   have hj:=(cm.1 hu).1
   obtain ⟨bb,oo,ha,hcell⟩:=H1.elt hx (by omega)
   cases ha
   rw [add_flat]
   exact hcell j u (by rw [aW,hu];rfl)
  ·clear H H1;intro x3 x3l x3c x3r w ex3 g H
   rw [aK] at ex3
   subst ex3
   exact hR x3 x3c w (grew_step g (fun j e=>by injection e with e;subst e;exact .inl hsz) g1) H.freeze
theorem all_u8 (xs:List Int):(xs.map (Value.int .u8)).all Value.oneCell'=true:=by rw [ch];intro u hu;obtain ⟨x,_,rfl⟩:=bC.1 hu;rfl
theorem c37 (H:Sat F w ex ro) (hx:Ro.B xs a n c∈ro) (hn:n<=10000000):Calls pg 37 #[.slice a n c] w fun en w'=>
  ∃a' c',en=.returned (.slice a' n c')/\w.grownBy w' none/\Sat F w' ex (Ro.B xs a' n c'::ro):=by
 apply of37
 unfold Ro.B at hx ⊢
 rw [ob_ones] at hx ⊢
 exact clone_j (t:=22) (e:=5) (bytes:=1) (R:=fun en w'=>∃a' c',en=.returned (.slice a' n c')/\w.grownBy w' none/\Sat F w' ex (.deep [.row 1 ((xs.map (Value.int .u8)).map .one)] [.slice a' n c']::ro)) H hx hn (all_u8 xs) (by kernel_rfl) (by decide) (fun a' c' w' g H=>⟨a',c',rfl,g,H⟩)
theorem oi_ones (k:IntKind) (l:List Int):oi k l=(l.map (Value.int k)).map .one:=by simp [oi]
theorem sTry (H:Sat F w ex ro) {fid:FuncId} {caps:Array Value} (hb:hasBody pg fid=true)
  (h:∀tb w1,Sat F w1 (.blk tb 4 [.bool false]::ex) ro->Calls pg fid caps w1 fun en w'=>∃(b:Bool) (ex':List Ex) (ro':List Ro),en=.returned (.bool b)/\Sat F w' (.blk tb 4 [.bool false]::ex') ro'/\∀w'',Sat F w'' ex' ro'->R (.returned (.bool b)) w'') :
  Calls pg 34 #[.func (.func fid) #[] caps] w R:=by
 refine ofTry hb ?_
 have hS:gNew #[.bool false] 4 (fun p w'=>p=⟨w.heap.size,0,none⟩/\w'=w.alloc (.cells #[.bool false] 4)) w:=⟨rfl,rfl⟩
 have H1:Sat F (w.alloc (.cells #[.bool false] 4)) (.blk w.heap.size 4 [.bool false]::ex) ro:=by
  refine Sat.step (used:=[]) (used':=[.blk w.heap.size 4 [.bool false]]) (rest:=ex) H ((Gr.of (World.grownBy_alloc _ _ none)).mono (fun k _ h=>by cases h)) (by simp [foots,Ex.foot]) (fun q hq=>?_) (fun e he _=>?_)
  ·simp only [foots,Ex.foot,av,aD,aE,aQ] at hq
   subst hq
   exact ⟨by simp,.inr (by omega)⟩
  ·simp only [aQ] at he
   subst he
   exact (⟨by simpa using heap_alloc_new w (.cells #[.bool false] 4)⟩:Blk (w.alloc (.cells #[.bool false] 4)) w.heap.size 4 [.bool false])
 refine (h _ _ H1).mono ?_
 rintro en w2 ⟨b,ex',ro',rfl,H2,hR⟩
 refine ⟨b,rfl,⟨_,H2.b0.cell (i:=0) rfl⟩,H2.b0.thaw 0,hR _ ?_⟩
 exact (H2.turn (setCell_grew _ _ _ _) (setCell_blk H2.b0)).sub (sc1) (fun _ h=>h)
def errIds:List Nat:=(List.range 37).filter fun i=>!(i == 7)
def laidIds:List Nat:=[1,0,2]
structure ErrC (P:Prop) (ro:List Ro):Prop where
 laid:∀i,laidIds.contains i=true->∃v,Ro.cell i 0 v∈ro/\isIf v/\(laidIds.contains i=true->isNilI v=false)
 rest:P->∀i,errIds.contains i=true->∃v,Ro.cell i 0 v∈ro/\isIf v
theorem ErrC.mono {P:Prop} (h:ErrC P ro) (hr:∀r∈ro,r∈ro'):ErrC P ro':=
 ⟨fun i hi=>by
  obtain ⟨v,h1,h2⟩:=h.laid i hi
  exact ⟨v,hr _ h1,h2⟩,fun hp i hi=>by
  obtain ⟨v,h1,h2⟩:=h.rest hp i hi
  exact ⟨v,hr _ h1,h2⟩⟩
theorem ErrC.imp {P Q:Prop} (h:ErrC P ro) (hq:Q->P):ErrC Q ro:=⟨h.laid,fun hp=>h.rest (hq hp)⟩
def chS:Sta->Dat
 | (V,s,z,r,l)=>if V then .ifc 282 (.ptr [.one .nilIface,.one (.int .u16 1),.one (.int .u16 z),.row 1 (oi .u16 l)])
  else .ifc 288 (.ptr [.one .nilIface,.one (.int .u16 0),.one (.int .u16 s),.one (.int .u16 r)])
def rtcpD (p:Pk):List Dat:=
 if p.kind=1 then [.one (.int .u32 p.sender),.one (.int .u64 p.ntp),.one (.int .u32 p.rtp),.one (.int .u32 p.packets),.one (.int .u32 p.octets),.row 7 (p.reports.flatMap Rep.dat),.row 1 (ob p.ext)] else
 if p.kind=2 then [.one (.int .u32 p.sender),.row 7 (p.reports.flatMap Rep.dat),.row 1 (ob p.ext)] else
 if p.kind=3 then [.row 2 (p.chunks.flatMap Chk.dat)] else
 if p.kind=4 then [.row 1 (oi .u32 p.sources),.one (.string p.text)] else
 if p.kind=5 then [.one (.int .u8 p.sub),.one (.int .u32 p.sender),.one (.string p.text),.row 1 (ob p.data)] else
 if p.kind=6 then [.one (.int .u32 p.sender),.one (.int .u32 p.media),.row 2 (p.pairs.flatMap Par.dat)] else
 if p.kind=8 then [.one (.int .u32 p.sender),.row 3 (p.blocks.flatMap Blo.dat),.one (.int .u32 p.time)] else
 if p.kind=10 then [.one (.int .u32 p.sender),.one (.int .u32 p.media),.row 3 (p.slices.flatMap Sli.dat)] else
 if p.kind=11 then [.one (.int .u32 p.sender),.one (.int .u32 p.media),.row 2 (p.entries.flatMap Ent.dat)] else
 if p.kind=12 then [.one (.int .u32 p.sender),.one (.float .f32 p.bits.toNat),.row 1 (oi .u32 p.sources)] else
 if p.kind=13 then [.one (.bool p.hp),.one (.int .u8 p.hc),.one (.int .u8 p.ht),.one (.int .u16 p.hl),.one (.int .u32 p.sender),.one (.int .u32 p.media),.one (.int .u16 p.base),.one (.int .u16 p.count),.one (.int .u32 p.ref),.one (.int .u8 p.fb),.row 1 (p.statuses.map chS),.row 1 (p.deltas.map deD)] else
 if p.kind=0 then [.row 1 (ob p.data)] else
 [.one (.int .u32 p.sender),.one (.int .u32 p.media)]
def gd (xs:List Int):Option Pk:=if hP xs then none else rdBody xs
def UPost (F:Fr) (b:Nat) (T:TypeId) (n:Nat) (ex:List Ex) (ro:List Ro) (q:Option Pk) (en:Ending) (w':World):Prop:=
 ∃e cells ro',en=.returned e/\isIf e/\(∀r∈ro,r∈ro')/\cells.length=n/\Sat F w' (.blk b T cells::ex) ro'/\∀p,q=some p->e=.nilIface/\Ro.deep (rtcpD p) cells∈ro'
theorem uErr {q:Option Pk} (H:Sat F w exs ro') (hs:(Ex.blk b T cells::ex).Sublist exs) (hr:∀r∈ro,r∈ro') (hE:ErrC (q=none) ro) (hn:cells.length=n) (hq:q=none) (hi:errIds.contains i=true) :
  ∃x,w.cell? ⟨i,0,none⟩=some x/\UPost F b T n ex ro q (.returned x) w:=by
 obtain ⟨v,h1,h2⟩:=hE.rest hq i hi
 exact ⟨v,H.cell (hr _ h1) rfl,v,cells,ro',rfl,h2,hr,hn,H.sub hs (fun _ h=>h),fun p hp=>by rw [hq] at hp;cases hp⟩
theorem uOk {q:Option Pk} (H:Sat F w exs ro') (hs:(Ex.blk b T cells::ex).Sublist exs) (hr:∀r∈ro,r∈ro') (hn:cells.length=n)
  (hD:∀p,q=some p->∀G:Nat->Prop,(∀r∈ro',Ro.holds w G r)->DeepL w G (rtcpD p) cells):UPost F b T n ex ro q (.returned .nilIface) w:=by
 cases q with
 | none=>exact ⟨_,cells,ro',rfl,trivial,hr,hn,H.sub hs (fun _ h=>h),fun p hp=>by cases hp⟩
 | some p=>exact ⟨_,cells,_,rfl,trivial,fun r h=>mt (hr r h),hn,(H.addD (hD p rfl)).sub hs (fun _ h=>h),fun p' hp=>by cases hp;exact ⟨rfl,ms⟩⟩
theorem rdBody_fb {k:Int} (hk:kindOf (hT xs) (hC xs)=k) (h6:6<=k):rdBody xs=if (xs.drop 4).length < 8 then none else rdFb k (hP xs) (hC xs) (hT xs) (hL xs) (xs.drop 4):=by
 unfold rdBody
 simp only [hk]
 rw [ap (by omega),ap (by omega),ap (by omega),ap (by omega),ap (by omega)]
theorem gd_some (h:gd xs=some p):hP xs=false/\rdBody xs=some p:=by
 unfold gd at h
 split at h
 ·cases h
 ·rename_i hp;exact ⟨by simpa using hp,h⟩
theorem gd_none (h:rdBody xs=none):gd xs=none:=by
 unfold gd;split
 ·rfl
 ·exact h
structure Hd (xs:List Int) (t c:Int):Prop where
 ok:hdrOk xs=true
 len:4*(hL xs+1)=(xs.length:Int)
 typ:hT xs=t
 cnt:hC xs=c
theorem c203 (H:Sat F w (.blk b T [c0,c1]::ex) ro)
  (hx:Ro.B xs a n c∈ro) (hb:By xs) (hE:ErrC (gd xs=none) ro) (hd:Hd xs 206 1):Calls pg 203 #[.pointer (some ⟨b,0,none⟩),.slice a n c] w (UPost F b T 2 ex ro (gd xs)):=by
 apply of203
 have hlen:=H.lenB hx
 have hk:kindOf (hT xs) (hC xs)=9:=by rw [hd.typ,hd.cnt];rfl
 have hU:=rdBody_fb hk (by decide)
 rw [az] at hU
 refine ⟨fun hc=>?_,fun hc=>?_⟩
 ·rw [ah] at hc
  exact uErr H (ak _) (fun _ h=>h) hE rfl (gd_none (by rw [hU,aG (by omega)])) (by decide)
 rw [af] at hc
 refine sNew H ?_;clear H;intro b2 w _ H
 refine call_j (c55 H hx hb hd.ok) ?_
 rintro _ w ⟨rfl,H⟩
 refine ⟨_,rfl,by simp [isIf],fun h=>absurd h (by decide),fun _=>?_⟩
 refine ⟨_,(H.b0.at0 rfl),?_⟩
 rw [hd.typ]
 refine fF ?_
 refine ⟨_,(H.b0.at0 rfl),?_⟩
 rw [hd.cnt]
 refine fF ?_
 refine ⟨by omega,by omega,?_⟩
 refine call_j (c150 (by exact Rd.skip (Sat.rd H (by assumption)) _ (by omega)) (hb.drop 4) (by omega)) ?_
 rintro _ w ⟨rfl,g⟩
 replace H:=H.grow g;clear g
 refine ⟨_,rfl,?_⟩
 refine ⟨_,rfl,?_⟩
 refine sSt1 H (h:=?_);clear H;intro w _ H
 refine ⟨by omega,by omega,?_⟩
 refine call_j (c150 (by exact Rd.skip (Sat.rd H (by assumption)) _ (by omega)) (hb.drop 8) (by omega)) ?_
 rintro _ w ⟨rfl,g⟩
 replace H:=H.grow g;clear g
 refine ⟨_,rfl,?_⟩
 refine ⟨_,rfl,?_⟩
 refine sSt1 H (h:=?_);clear H;intro w _ H
 refine uOk (cells:=[.int .u32 (n32 (xs.drop 4)),.int .u32 (n32 (xs.drop 8))]) H (sc1) (fun _ h=>h) rfl ?_
 intro p hp
 obtain ⟨_,hp⟩:=gd_some hp
 rw [hU,ap (by omega)] at hp
 unfold rdFb at hp
 simp only at hp
 rw [aG (by decide)] at hp
 split at hp
 ·cases hp
  rw [aJ]
  exact fun G h=>DeepL.ones [_,_]
 ·cases hp
theorem c186 (H:Sat F w (.blk b T [c0,c1]::ex) ro)
  (hx:Ro.B xs a n c∈ro) (hb:By xs) (hE:ErrC (gd xs=none) ro) (hd:Hd xs 205 5):Calls pg 186 #[.pointer (some ⟨b,0,none⟩),.slice a n c] w (UPost F b T 2 ex ro (gd xs)):=by
 apply of186
 have hlen:=H.lenB hx
 have hk:kindOf (hT xs) (hC xs)=7:=by rw [hd.typ,hd.cnt];rfl
 have hU:=rdBody_fb hk (by decide)
 rw [az] at hU
 refine ⟨fun hc=>?_,fun hc=>?_⟩
 ·rw [ah] at hc
  exact uErr H (ak _) (fun _ h=>h) hE rfl (gd_none (by rw [hU,aG (by omega)])) (by decide)
 rw [af] at hc
 refine sNew H ?_;clear H;intro b2 w _ H
 refine call_j (c55 H hx hb hd.ok) ?_
 rintro _ w ⟨rfl,H⟩
 refine ⟨_,rfl,by simp [isIf],fun h=>absurd h (by decide),fun _=>?_⟩
 refine ⟨_,(H.b0.at0 rfl),?_⟩
 rw [hd.typ]
 refine fF ?_
 refine ⟨_,(H.b0.at0 rfl),?_⟩
 rw [hd.cnt]
 refine fF ?_
 refine ⟨by omega,by omega,?_⟩
 refine call_j (c150 (by exact Rd.skip (Sat.rd H (by assumption)) _ (by omega)) (hb.drop 4) (by omega)) ?_
 rintro _ w ⟨rfl,g⟩
 replace H:=H.grow g;clear g
 refine ⟨_,rfl,?_⟩
 refine ⟨_,rfl,?_⟩
 refine sSt1 H (h:=?_);clear H;intro w _ H
 refine ⟨by omega,by omega,?_⟩
 refine call_j (c150 (by exact Rd.skip (Sat.rd H (by assumption)) _ (by omega)) (hb.drop 8) (by omega)) ?_
 rintro _ w ⟨rfl,g⟩
 replace H:=H.grow g;clear g
 refine ⟨_,rfl,?_⟩
 refine ⟨_,rfl,?_⟩
 refine sSt1 H (h:=?_);clear H;intro w _ H
 refine uOk (cells:=[.int .u32 (n32 (xs.drop 4)),.int .u32 (n32 (xs.drop 8))]) H (sc1) (fun _ h=>h) rfl ?_
 intro p hp
 obtain ⟨_,hp⟩:=gd_some hp
 rw [hU,ap (by omega)] at hp
 unfold rdFb at hp
 simp only at hp
 rw [aG (by decide)] at hp
 split at hp
 ·cases hp
  rw [aJ]
  exact fun G h=>DeepL.ones [_,_]
 ·cases hp
theorem u_size {L:Int} (h:4*(L+1)=(n:Int)) (hn:n<=1000000):i64.wrap ((4:Int)+(i64.wrap ((4:Int)*(i64.wrap L))))=(n:Int)/\i64.wrap ((4:Int)*(i64.wrap L))=(n:Int) - 4:=by
 rw [wi64_of (n:=L) (by omega) (by omega),wi64_of (n:=4*L) (by omega) (by omega),wi64_of (n:=4+4*L) (by omega) (by omega)]
 omega
theorem c181 (H:Sat F w (.blk b T [c0,c1,.slice none 0 0]::ex) ro)
  (hx:Ro.B xs a n c∈ro) (hb:By xs) (hE:ErrC (gd xs=none) ro) (hd:Hd xs 205 1) (hn:n<=1000000):Calls pg 181 #[.pointer (some ⟨b,0,none⟩),.slice a n c] w (UPost F b T 3 ex ro (gd xs)):=by
 apply of181
 have hlen:=H.lenB hx
 have hk:kindOf (hT xs) (hC xs)=6:=by rw [hd.typ,hd.cnt];rfl
 have hU:=rdBody_fb hk (by decide)
 rw [az] at hU
 have hLn:=hd.len
 rw [hlen] at hLn
 obtain ⟨e1,e2⟩:=u_size hLn hn
 refine ⟨fun hc=>?_,fun hc=>?_⟩
 ·rw [ah] at hc
  exact uErr H (ak _) (fun _ h=>h) hE rfl (gd_none (by rw [hU,aG (by omega)])) (by decide)
 rw [af] at hc
 refine sNew H ?_;clear H;intro b2 w _ H
 refine call_j (c55 H hx hb hd.ok) ?_
 rintro _ w ⟨rfl,H⟩
 refine ⟨_,rfl,by simp [isIf],fun h=>absurd h (by decide),fun _=>?_⟩
 refine ⟨_,(H.b0.at0 rfl),?_⟩
 rw [e1]
 refine ⟨fun h=>by rw [ah] at h;omega,fun _=>?_⟩
 refine ⟨_,(H.b0.at0 rfl),?_⟩
 rw [hd.typ]
 refine fF ?_
 refine ⟨_,(H.b0.at0 rfl),?_⟩
 rw [hd.cnt]
 refine fF ?_
 refine ⟨_,(H.b0.at0 rfl),?_⟩
 rw [e2]
 refine ⟨fun h=>?_,fun h=>?_⟩
 ·rw [ah] at h
  refine uErr H (sc1) (fun _ h=>h) hE rfl (gd_none ?_) (by decide)
  rw [hU]
  split
  ·rfl
  ·unfold rdFb
   simp only
   rw [ap (by decide),aG trivial,aG (by simp;omega)]
 rw [af] at h
 refine ⟨by omega,by omega,?_⟩
 refine call_j (c150 (by exact Rd.skip (Sat.rd H (by assumption)) _ (by omega)) (hb.drop 4) (by omega)) ?_
 rintro _ w ⟨rfl,g⟩
 replace H:=H.grow g;clear g
 refine ⟨_,rfl,?_⟩
 refine ⟨_,rfl,?_⟩
 refine sSt1 H (by exact add_flat _ _ _) (by kernel_rfl) (by rfl) (by rfl) ?_;clear H;intro w _ H
 refine ⟨by omega,by omega,?_⟩
 refine call_j (c150 (by exact Rd.skip (Sat.rd H (by assumption)) _ (by omega)) (hb.drop 8) (by omega)) ?_
 rintro _ w ⟨rfl,g⟩
 replace H:=H.grow g;clear g
 refine ⟨_,rfl,?_⟩
 refine ⟨_,rfl,?_⟩
 refine sSt1 H (by exact add_flat _ _ _) (by kernel_rfl) (by rfl) (by rfl) ?_;clear H;intro w _ H
 obtain ⟨k,hk2⟩:∃k,n=12+4*k:=⟨(n - 12) / 4,by omega⟩
 refine ⟨fun i28 m_24 w=>∃(i:Nat) (o:Option Addr) (oc:Nat) (r:Option Nat),i28=((12+4*i:Nat):Int)/\i+m_24=k /\
  Sat F w (.blk b2 109 [.bool (hP xs),.int .u8 (hC xs),.int .u8 (hT xs),.int .u16 (hL xs)]::.blk b T [.int .u32 (n32 (xs.drop 4)),.int .u32 (n32 (xs.drop 8)),.slice o i oc]::.own 213 2 o i oc r ((pairsL i (xs.drop 12)).flatMap Par.dat)::ex) ro,⟨k,0,none,0,none,rfl,by omega,(H.nilOwn 213 2).u2⟩,?_⟩
 clear H;rintro dd23 i28 m_24 w ⟨i,o,oc,r,rfl,him,H⟩
 refine ⟨_,(H.b0.at0 rfl),?_⟩
 rw [e1]
 refine ⟨fun h=>?_,fun h=>?_⟩
 ·rw [ah] at h
  refine ⟨r,?_⟩;replace H:=H.drew;generalize w.drew=wd1 at H ⊢;have K:=grew_refl wd1 (r)
  refine ⟨_,rfl,?_⟩
  refine ⟨(H.ne (mt ms) (mt (mt ms))),?_⟩
  refine ⟨H.b1.row,?_⟩
  refine ⟨_,_,_,(H.b1.at0 rfl),?_⟩
  rw [wi64_of (n:=((12+4*i:Nat):Int)+2) (by omega) (by omega),show (((12+4*i:Nat):Int)+2).toNat=14+4*i by omega,au]
  refine ⟨by omega,by omega,?_⟩
  refine ⟨by omega,by omega,?_⟩
  refine call_j (c90 (by exact Rd.skip (Sat.rd H (by assumption)) _ (by omega)) (hb.drop (12+4*i)) (by omega)) ?_
  rintro _ w ⟨rfl,g⟩
  replace H:=H.grow g;replace K:=gtr K (grew_none _ g);clear g
  refine ⟨_,rfl,?_⟩
  refine ⟨K,?_⟩
  refine call_j (c90 (by exact Rd.skip (Sat.rd H (by assumption)) _ (by omega)) (hb.drop (14+4*i)) (by omega)) ?_
  rintro _ w ⟨rfl,g⟩
  replace H:=H.grow g;replace K:=gtr K (grew_none _ g);clear g
  refine ⟨_,rfl,?_⟩
  refine ⟨K,?_⟩
  refine ⟨rfl,?_⟩
  refine sNew H ?_;clear H;intro b37 w g H;replace K:=gtr K (grew_none _ g);clear g
  refine ⟨K,?_⟩
  refine sApp3 H (bytes:=4) (by kernel_rfl) [.int .u16 (n16 (xs.drop (12+4*i))),.int .u16 (n16 (xs.drop (14+4*i)))] (Par.dat (n16 (xs.drop (12+4*i)),n16 (xs.drop (14+4*i)))) (by rfl) (fun j u hu=>by rw [add_flat,aK];exact H.b0.cell hu) (fun G h=>by repeat (exact DeepL.ones _)) (by simp [Value.oneCell']) (by unfold maxLen;omega) (by omega) ?_
  clear H;intro x39 x39l x39c x39r w ex39 g H
  replace K:=gtr K g;clear g;replace H:=H.d1
  refine ⟨K,?_⟩
  refine ⟨_,rfl,?_⟩
  refine sSt1 H (by exact add_flat _ _ _) (by kernel_rfl) (by rfl) (by rfl) ?_;clear H;intro w _ H
  subst ex39
  refine ⟨m_24 - 1,by omega,i+1,x39,x39c,x39r,?_,by omega,?_⟩
  ·rw [wi64_of (by omega) (by omega)];omega
  ·rw [pairsL_snoc,aj,aJ,aJ,show 12+4*i+2=14+4*i by omega]
   exact H
 ·rw [af] at h
  obtain rfl:i=k:=by omega
  replace H:=H.r2.freeze
  refine uOk (cells:=[.int .u32 (n32 (xs.drop 4)),.int .u32 (n32 (xs.drop 8)),.slice o i oc]) H (sc1) (fun r hr=>by simp [hr]) rfl ?_
  intro p hp
  obtain ⟨_,hp⟩:=gd_some hp
  rw [hU,ap (by omega)] at hp
  unfold rdFb at hp
  simp only at hp
  rw [ap (by decide),aG trivial] at hp
  split at hp
  ·cases hp
  ·cases hp
   rw [aJ,aJ,az,show (xs.length - (4+8)) / 4=i by omega]
   exact fun G h=>dc (.one _) (dc (.one _) (dc (h (.deep [_] [_]) ms).head dn))
theorem sli_bits2 {v:Int} (h:0<=v/\v < 4294967296):u16.wrap (iand .u32 (ishr .u32 v (19:Int)) (8191:Int))=v / 524288/\u16.wrap (iand .u32 (ishr .u32 v (6:Int)) (8191:Int))=v / 64 % 8192/\u8.wrap (iand .u32 v (63:Int))=v % 64:=by
 have e1:ishr .u32 v (19:Int)=v / 524288:=ishr_of 19 (by rfl) (by decide)
 have e2:ishr .u32 v (6:Int)=v / 64:=ishr_of 6 (by rfl) (by decide)
 have e3:iand .u32 (v / 64) (8191:Int)=v / 64 % 8192:=iand_low (k:=.u32) (by rfl) 13 (by omega) (by simp only [IntKind.bits];omega) (by omega) (by decide)
 have e4:iand .u32 v (63:Int)=v % 64:=iand_low (k:=.u32) (by rfl) 6 h.1 (by simp only [IntKind.bits];omega) (by omega) (by decide)
 have e5:iand .u32 (v / 524288) (8191:Int)=v / 524288 % 8192:=iand_low (k:=.u32) (by rfl) 13 (by omega) (by simp only [IntKind.bits];omega) (by omega) (by decide)
 rw [e1,e2,e3,e4,e5,wu16,wu16,wu8]
 omega
theorem c207 (H:Sat F w (.blk b T [c0,c1,.slice none 0 0]::ex) ro)
  (hx:Ro.B xs a n c∈ro) (hb:By xs) (hE:ErrC (gd xs=none) ro) (hd:Hd xs 206 2) (hn:n<=1000000):Calls pg 207 #[.pointer (some ⟨b,0,none⟩),.slice a n c] w (UPost F b T 3 ex ro (gd xs)):=by
 apply of207
 have hlen:=H.lenB hx
 have hk:kindOf (hT xs) (hC xs)=10:=by rw [hd.typ,hd.cnt];rfl
 have hU:=rdBody_fb hk (by decide)
 rw [az] at hU
 have hLn:=hd.len
 rw [hlen] at hLn
 obtain ⟨e1,e2⟩:=u_size hLn hn
 refine ⟨fun hc=>?_,fun hc=>?_⟩
 ·rw [ah] at hc
  exact uErr H (ak _) (fun _ h=>h) hE rfl (gd_none (by rw [hU,aG (by omega)])) (by decide)
 rw [af] at hc
 refine sNew H ?_;clear H;intro b2 w _ H
 refine call_j (c55 H hx hb hd.ok) ?_
 rintro _ w ⟨rfl,H⟩
 refine ⟨_,rfl,by simp [isIf],fun h=>absurd h (by decide),fun _=>?_⟩
 refine ⟨_,(H.b0.at0 rfl),?_⟩
 rw [e1]
 refine ⟨fun h=>by rw [ah] at h;omega,fun _=>?_⟩
 refine ⟨_,(H.b0.at0 rfl),?_⟩
 rw [hd.typ]
 refine fF ?_
 refine ⟨_,(H.b0.at0 rfl),?_⟩
 rw [hd.cnt]
 refine fF ?_
 refine ⟨by omega,by omega,?_⟩
 refine call_j (c150 (by exact Rd.skip (Sat.rd H (by assumption)) _ (by omega)) (hb.drop 4) (by omega)) ?_
 rintro _ w ⟨rfl,g⟩
 replace H:=H.grow g;clear g
 refine ⟨_,rfl,?_⟩
 refine ⟨_,rfl,?_⟩
 refine sSt1 H (h:=?_);clear H;intro w _ H
 refine ⟨by omega,by omega,?_⟩
 refine call_j (c150 (by exact Rd.skip (Sat.rd H (by assumption)) _ (by omega)) (hb.drop 8) (by omega)) ?_
 rintro _ w ⟨rfl,g⟩
 replace H:=H.grow g;clear g
 refine ⟨_,rfl,?_⟩
 refine ⟨_,rfl,?_⟩
 refine sSt1 H (h:=?_);clear H;intro w _ H
 obtain ⟨k,hk2⟩:∃k,n=12+4*k:=⟨(n - 12) / 4,by omega⟩
 refine ⟨fun i26 m_22 w=>∃(i:Nat) (o:Option Addr) (oc:Nat) (r:Option Nat),i26=((12+4*i:Nat):Int)/\i+m_22=k /\
  Sat F w (.blk b2 109 [.bool (hP xs),.int .u8 (hC xs),.int .u8 (hT xs),.int .u16 (hL xs)]::.blk b T [.int .u32 (n32 (xs.drop 4)),.int .u32 (n32 (xs.drop 8)),.slice o i oc]::.own 228 3 o i oc r ((sliceL i (xs.drop 12)).flatMap Sli.dat)::ex) ro,⟨k,0,none,0,none,rfl,by omega,(H.nilOwn 228 3).u2⟩,?_⟩
 clear H;rintro dd21 i26 m_22 w ⟨i,o,oc,r,rfl,him,H⟩
 refine ⟨_,(H.b0.at0 rfl),?_⟩
 rw [e1]
 refine ⟨fun h=>?_,fun h=>?_⟩
 ·rw [ah] at h
  rw [au]
  refine ⟨by omega,by omega,?_⟩
  refine call_j (c150 (by exact Rd.skip (Sat.rd H (by assumption)) _ (by omega)) (hb.drop (12+4*i)) (by omega)) ?_
  rintro _ w ⟨rfl,g⟩
  replace H:=H.grow g;clear g
  obtain ⟨f1,f2,f3⟩:=sli_bits2 (n32_lt (hb.drop (12+4*i)))
  refine ⟨_,rfl,?_⟩
  rw [f1,f2,f3]
  refine ⟨_,rfl,?_⟩
  refine ⟨_,_,_,(H.b1.at0 rfl),?_⟩
  refine ⟨rfl,?_⟩
  refine sPush2 H (bytes:=6) (nds:=(Sli.dat (sli1 (n32 (xs.drop (12+4*i)))))) (hD:=(fun G h=>by repeat (exact DeepL.ones _))) (hK:=?_)
  clear H;intro x34 x34l x34c x34r w ex34 _ H
  refine ⟨_,rfl,?_⟩
  refine sSt1 H (h:=?_);clear H;intro w _ H
  subst ex34
  refine ⟨m_22 - 1,by omega,i+1,x34,x34c,x34r,?_,by omega,?_⟩
  ·rw [wi64_of (by omega) (by omega)];omega
  ·rw [sliceL_snoc,aj,aJ]
   simp only [fm1,fm2,fm3]
   exact H
 ·rw [af] at h
  obtain rfl:i=k:=by omega
  replace H:=H.r2.freeze
  refine uOk (cells:=[.int .u32 (n32 (xs.drop 4)),.int .u32 (n32 (xs.drop 8)),.slice o i oc]) H (sc1) (fun r hr=>by simp [hr]) rfl ?_
  intro p hp
  obtain ⟨_,hp⟩:=gd_some hp
  rw [hU,ap (by omega)] at hp
  unfold rdFb at hp
  simp only at hp
  rw [ap (by decide),ap (by decide),aG trivial] at hp
  split at hp
  ·cases hp
  ·cases hp
   rw [aJ,aJ,az,show (xs.length - (4+8)) / 4=i by omega]
   exact fun G h=>dc (.one _) (dc (.one _) (dc (h (.deep [_] [_]) ms).head dn))
def entsL:Nat->List Int->List Ent
 | 0,_=>[]
 | n+1,xs=>(n32 xs,xs.getD 4 0)::entsL n (xs.drop 8)
theorem entsL_snoc:∀(i:Nat) (xs:List Int),entsL (i+1) xs=entsL i xs++[(n32 (xs.drop (8*i)),(xs.drop (8*i)).getD 4 0)]
 | 0,xs=>by simp [entsL]
 | i+1,xs=>by
  rw [entsL,entsL_snoc i,entsL]
  simp only [bX,aJ]
  rw [show 8+8*i=8*(i+1) by omega]
theorem entryL_ents:∀(k:Nat) (xs:List Int) (l:List Ent),entryL k xs=some l->l=entsL k xs
 | 0,xs,l,h=>by
  unfold entryL at h
  split at h
  ·cases h;rfl
  ·cases h
 | k+1,xs,l,h=>by
  unfold entryL at h
  split at h
  ·cases h
  ·cases h2:entryL k (xs.drop 8) with
   | none=>rw [h2] at h;cases h
   | some q=>
    rw [h2] at h
    simp only [aU,aZ] at h
    subst h
    rw [entryL_ents k _ _ h2,entsL]
theorem getD_take (h:j < m):(ys.take m).getD j 0=ys.getD j 0:=by
 rw [bJ,cj,aG h,<-bJ]
theorem n32_take8:n32 (ys.take 8)=n32 ys/\(ys.take 8).getD 4 0=ys.getD 4 0:=by
 refine ⟨?_,getD_take (by decide)⟩
 unfold n32 n16
 rw [getD_drop,getD_drop,getD_drop,getD_drop,getD_take (by decide),getD_take (by decide),getD_take (by decide),getD_take (by decide)]
theorem c212 (H:Sat F w (.blk b T [c0,c1,.slice none 0 0]::ex) ro)
  (hx:Ro.B xs a n c∈ro) (hb:By xs) (hE:ErrC (gd xs=none) ro) (hd:Hd xs 206 4) (hn:n<=1000000):Calls pg 212 #[.pointer (some ⟨b,0,none⟩),.slice a n c] w (UPost F b T 3 ex ro (gd xs)):=by
 apply of212
 have hlen:=H.lenB hx
 have hk:kindOf (hT xs) (hC xs)=11:=by rw [hd.typ,hd.cnt];rfl
 have hU:=rdBody_fb hk (by decide)
 rw [az] at hU
 have hLn:=hd.len
 rw [hlen] at hLn
 obtain ⟨e1,e2⟩:=u_size hLn hn
 have hU2:¬xs.length - 4 < 8->rdBody xs=match entryL ((xs.length - 12) / 8) (xs.drop 12) with
   | some l=>if l=[] then none else some { kind:=11,sender:=n32 (xs.drop 4),media:=n32 (xs.drop 8),entries:=l }
   | none=>none:=by
  intro h
  rw [hU,ap h]
  unfold rdFb
  simp only
  rw [ap (by decide),ap (by decide),ap (by decide),aG trivial,aJ,aJ,az]
  try rfl
 refine ⟨fun hc=>?_,fun hc=>?_⟩
 ·rw [ah] at hc
  exact uErr H (ak _) (fun _ h=>h) hE rfl (gd_none (by rw [hU,aG (by omega)])) (by decide)
 rw [af] at hc
 refine sNew H ?_;clear H;intro b2 w _ H
 refine call_j (c55 H hx hb hd.ok) ?_
 rintro _ w ⟨rfl,H⟩
 refine ⟨_,rfl,by simp [isIf],fun h=>absurd h (by decide),fun _=>?_⟩
 refine ⟨_,(H.b0.at0 rfl),?_⟩
 rw [e1]
 refine ⟨fun h=>by rw [ah] at h;omega,fun _=>?_⟩
 refine ⟨_,(H.b0.at0 rfl),?_⟩
 rw [hd.typ]
 refine fF ?_
 refine ⟨_,(H.b0.at0 rfl),?_⟩
 rw [hd.cnt]
 refine fF ?_
 refine ⟨_,(H.b0.at0 rfl),?_⟩
 rw [e2,wi64_of (n:=(n:Int) - 4 - 8) (by omega) (by omega)]
 refine ⟨fun h=>?_,fun h=>?_⟩
 ·rw [ah] at h
  refine uErr H (sc1) (fun _ h=>h) hE rfl (gd_none ?_) (by decide)
  by_cases h8:xs.length - 4 < 8
  ·rw [hU,aG h8]
  ·rw [hU2 h8,show (xs.length - 12) / 8=0 by omega]
   unfold entryL
   split<;>simp_all
 rw [af] at h
 refine ⟨_,(H.b0.at0 rfl),?_⟩
 rw [e2]
 refine ⟨by decide,?_⟩
 have ht:((n:Int) - 4).tmod 8=(((n - 4) % 8:Nat):Int):=by rw [bz (by omega)];omega
 rw [ht]
 refine ⟨fun h2=>?_,fun h2=>?_⟩
 ·have h3:¬(((n - 4) % 8:Nat):Int)=0:=by simpa using h2
  refine uErr H (sc1) (fun _ h=>h) hE rfl (gd_none ?_) (by decide)
  rw [hU2 (by omega)]
  have key:∀(k:Nat) (ys:List Int),8*k < ys.length->entryL k ys=none:=by
   intro k
   induction k with
   | zero=>intro ys hy;unfold entryL;rw [ap (by omega)]
   | succ k ih=>
    intro ys hy
    unfold entryL
    split
    ·rfl
    ·rw [ih (ys.drop 8) (by rw [az];omega)];rfl
  rw [key _ _ (by rw [az];omega)]
 have h3:(((n - 4) % 8:Nat):Int)=0:=by simpa using h2
 refine ⟨by omega,by omega,?_⟩
 refine call_j (c150 (by exact Rd.skip (Sat.rd H (by assumption)) _ (by omega)) (hb.drop 4) (by omega)) ?_
 rintro _ w ⟨rfl,g⟩
 replace H:=H.grow g;clear g
 refine ⟨_,rfl,?_⟩
 refine ⟨_,rfl,?_⟩
 refine sSt1 H (by exact add_flat _ _ _) (by kernel_rfl) (by rfl) (by rfl) ?_;clear H;intro w _ H
 refine ⟨by omega,by omega,?_⟩
 refine call_j (c150 (by exact Rd.skip (Sat.rd H (by assumption)) _ (by omega)) (hb.drop 8) (by omega)) ?_
 rintro _ w ⟨rfl,g⟩
 replace H:=H.grow g;clear g
 refine ⟨_,rfl,?_⟩
 refine ⟨_,rfl,?_⟩
 refine sSt1 H (by exact add_flat _ _ _) (by kernel_rfl) (by rfl) (by rfl) ?_;clear H;intro w _ H
 have hnc:n<=c:=(H.deep1 hx).len.2.1
 obtain ⟨k,hk2⟩:∃k,n=12+8*k:=⟨(n - 12) / 8,by omega⟩
 refine ⟨fun i30 m_26 w=>∃(i:Nat) (o:Option Addr) (oc:Nat) (r:Option Nat),i30=((12+8*i:Nat):Int)/\i+m_26=k /\
  Sat F w (.blk b2 109 [.bool (hP xs),.int .u8 (hC xs),.int .u8 (hT xs),.int .u16 (hL xs)]::.blk b T [.int .u32 (n32 (xs.drop 4)),.int .u32 (n32 (xs.drop 8)),.slice o i oc]::.own 234 2 o i oc r ((entsL i (xs.drop 12)).flatMap Ent.dat)::ex) ro,⟨k,0,none,0,none,rfl,by omega,(H.nilOwn 234 2).u2⟩,?_⟩
 clear H;rintro dd25 i30 m_26 w ⟨i,o,oc,r,rfl,him,H⟩
 refine ⟨_,(H.b0.at0 rfl),?_⟩
 rw [e1]
 refine ⟨fun h=>?_,fun h=>?_⟩
 ·rw [ah] at h
  rw [wi64_of (n:=((12+8*i:Nat):Int)+8) (by omega) (by omega),show (((12+8*i:Nat):Int)+8).toNat=20+8*i by omega,au,show 20+8*i - (12+8*i)=8 by omega]
  refine ⟨by omega,by omega,?_⟩
  refine ⟨by omega,by omega,?_⟩
  replace H:=H.cutB hx (12+8*i) (20+8*i) (by omega) (by omega)
  rw [show 20+8*i - (12+8*i)=8 by omega] at H
  have hby:By ((xs.drop (12+8*i)).take 8):=(hb.drop _).take _
  have hyy:=n32_take8 (ys:=xs.drop (12+8*i))
  refine ⟨r,?_⟩;replace H:=H.drew;generalize w.drew=wd1 at H ⊢;have K:=grew_refl wd1 (r)
  refine ⟨_,rfl,?_⟩
  refine ⟨(H.ne (mt ms) (mt (mt ms))),?_⟩
  refine ⟨H.b1.row,?_⟩
  refine ⟨_,_,_,(H.b1.at0 rfl),?_⟩
  obtain ⟨p_35,ep_35,hp_35,kp_35,fp_35⟩:=H.at_ (a:=cutA a (12+8*i) c 1) ms (by omega)
  refine ⟨p_35,ep_35,by omega,by omega,?_⟩
  refine ⟨H.ne_own (mt (mt ms)) (fp_35 _),?_⟩
  refine ⟨kp_35 _,?_⟩
  refine ⟨_,hp_35 4 (by omega),?_⟩
  refine call_j (c150 (Sat.rd H ms) hby (by omega)) ?_
  clear ep_35 hp_35 kp_35 fp_35
  rintro _ w ⟨rfl,g⟩
  replace H:=H.grow g;replace K:=gtr K (grew_none _ g);clear g
  rw [hyy.1,hyy.2]
  refine ⟨_,rfl,?_⟩
  refine ⟨K,?_⟩
  refine ⟨rfl,?_⟩
  refine sNew H ?_;clear H;intro b39 w g H;replace K:=gtr K (grew_none _ g);clear g
  refine ⟨K,?_⟩
  refine sApp3 H (bytes:=8) (by kernel_rfl) [.int .u32 (n32 (xs.drop (12+8*i))),.int .u8 ((xs.drop (12+8*i)).getD 4 0)] (Ent.dat (n32 (xs.drop (12+8*i)),(xs.drop (12+8*i)).getD 4 0)) (by rfl) (fun j u hu=>by rw [add_flat,aK];exact H.b0.cell hu) (fun G h=>by repeat (exact DeepL.ones _)) (by simp [Value.oneCell']) (by unfold maxLen;omega) (by omega) ?_
  clear H;intro x41 x41l x41c x41r w ex41 g H
  replace K:=gtr K g;clear g;replace H:=H.d1
  refine ⟨K,?_⟩
  refine ⟨_,rfl,?_⟩
  refine sSt1 H (by exact add_flat _ _ _) (by kernel_rfl) (by rfl) (by rfl) ?_;clear H;intro w _ H
  subst ex41
  refine ⟨m_26 - 1,by omega,i+1,x41,x41c,x41r,?_,by omega,?_⟩
  ·omega
  ·rw [entsL_snoc,aj,aJ]
   simp only [fm1,fm2,fm3]
   exact H.sub (ak _) (fun r hr=>mt hr)
 ·rw [af] at h
  obtain rfl:i=k:=by omega
  replace H:=H.r2.freeze
  refine uOk (cells:=[.int .u32 (n32 (xs.drop 4)),.int .u32 (n32 (xs.drop 8)),.slice o i oc]) H (sc1) (fun r hr=>by simp [hr]) rfl ?_
  intro p hp
  obtain ⟨_,hp⟩:=gd_some hp
  rw [hU2 (by omega),show (xs.length - 12) / 8=i by omega] at hp
  cases h5:entryL i (xs.drop 12) with
  | none=>rw [h5] at hp;cases hp
  | some l=>
   rw [h5] at hp
   simp only at hp
   split at hp
   ·cases hp
   ·cases hp
    rw [entryL_ents _ _ _ h5]
    exact fun G h=>dc (.one _) (dc (.one _) (dc (h (.deep [_] [_]) ms).head dn))
theorem c151 (H:Sat F w ex ro) (hx:Ro.B xs a n c∈ro) (hb:By xs) (hn:8<=n) :
  Calls pg 151 #[.slice a n c] w fun en w'=>en=.returned (.int .u64 (n64 xs))/\Sat F w' ex ro:=by
 apply of151
 obtain ⟨p_1,ep_1,hp_1,kp_1,fp_1⟩:=H.at_ (a:=a) hx (by omega)
 refine ⟨p_1,ep_1,by omega,by omega,?_⟩
 refine ⟨_,hp_1 7 (by omega),?_⟩
 refine ⟨by omega,by omega,?_⟩
 clear ep_1 hp_1 kp_1 fp_1
 replace H:=H.drew;generalize w.drew=w at H ⊢
 refine call_j (c150 (Sat.rd H hx) hb (by omega)) ?_
 rintro _ w ⟨rfl,g⟩
 replace H:=H.grow g;clear g
 refine ⟨_,rfl,?_⟩
 refine call_j (c150 (Rd.skip (Sat.rd H hx) _ (by omega)) (hb.drop 4) (by omega)) ?_
 rintro _ w ⟨rfl,g⟩
 replace H:=H.grow g;clear g
 refine ⟨_,rfl,?_,H⟩
 have h1:=n32_lt hb
 have h2:=n32_lt (hb.drop 4)
 have e:ior .u64 (ishl .u64 (u64.wrap (n32 xs)) (32:Int)) (u64.wrap (n32 (xs.drop 4)))=n64 xs:=by
  rw [ishl_of (b:=(32:Int)) 32 (by rfl) (by decide),wu64,wu64,wu64,show n32 xs % 18446744073709551616*2 ^ 32 % 18446744073709551616=n32 xs*4294967296 by omega,show n32 (xs.drop 4) % 18446744073709551616=n32 (xs.drop 4) by omega]
  rw [ior_add (k:=.u64) (by rfl) 32 (n32 xs) (by rfl) h1.1 h2.1 (by omega) (by simp only [IntKind.bits];omega)]
  rfl
 rw [e]
def repV (ys:List Int):List Value:=[.int .u32 (n32 ys),.int .u8 (ys.getD 4 0),.int .u32 (n24 (ys.drop 5)),.int .u32 (n32 (ys.drop 8)),.int .u32 (n32 (ys.drop 12)),.int .u32 (n32 (ys.drop 16)),.int .u32 (n32 (ys.drop 20))]
theorem c152 {P:Prop} {c2 c3 c4 c5 c6:Value} (H:Sat F w (.blk b T [c0,c1,c2,c3,c4,c5,c6]::ex) ro)
  (hx:Ro.B ys a n c∈ro) (hb:By ys) (hE:ErrC P ro):Calls pg 152 #[.pointer (some ⟨b,0,none⟩),.slice a n c] w fun en w'=>
   (n < 24/\∃e,en=.returned e/\isIf e/\isNilI e=false/\Sat F w' (.blk b T [c0,c1,c2,c3,c4,c5,c6]::ex) ro)\/(24<=n/\en=.returned .nilIface/\Sat F w' (.blk b T (repV ys)::ex) ro):=by
 apply of152
 have hlen:=H.lenB hx
 refine ⟨fun hc=>?_,fun hc=>?_⟩
 ·rw [ah] at hc
  obtain ⟨v,h1,h2,h3⟩:=hE.laid 1 (by decide)
  exact ⟨v,H.cell h1 rfl,.inl ⟨by omega,v,rfl,h2,h3 (by decide),H⟩⟩
 rw [af] at hc
 refine call_j (c150 (Sat.rd H hx) hb (by omega)) ?_
 rintro _ w ⟨rfl,g⟩
 replace H:=H.grow g;clear g
 refine ⟨_,rfl,?_⟩
 refine ⟨_,rfl,?_⟩
 refine sSt0 H (h:=?_);clear H;intro w _ H
 obtain ⟨p_6,ep_6,hp_6,kp_6,fp_6⟩:=H.at_ (a:=a) hx (by omega)
 refine ⟨p_6,ep_6,by omega,by omega,?_⟩
 refine ⟨_,hp_6 4 (by omega),?_⟩
 refine ⟨_,rfl,?_⟩
 clear ep_6 hp_6 kp_6 fp_6
 refine sSt0 H (h:=?_);clear H;intro w _ H
 refine ⟨by omega,by omega,?_⟩
 have H5:=H.skipB hx 5 (by omega)
 obtain ⟨p_10,ep_10,_,_,_⟩:=H5.at_ (a:=cutA a 5 c 1) ms (by omega)
 refine ⟨p_10,ep_10,by omega,by omega,?_⟩
 replace H:=H.drew;generalize w.drew=w at H ⊢
 replace H5:=H.skipB hx 5 (by omega)
 obtain ⟨p_11,ep_11,hp_10,_,_⟩:=H5.at_ (a:=cutA a 5 c 1) ms (by omega)
 rw [ep_10] at ep_11
 cases ep_11
 refine ⟨_,hp_10 2 (by omega),?_⟩
 refine ⟨p_10,ep_10,by omega,by omega,?_⟩
 refine ⟨_,hp_10 1 (by omega),?_⟩
 refine ⟨p_10,ep_10,by omega,by omega,?_⟩
 refine ⟨_,hp_10 0 (by omega),?_⟩
 have h0:=(hb.drop 5).getD 0
 have h1:=(hb.drop 5).getD 1
 have h2:=(hb.drop 5).getD 2
 have e24:ior .u32 (ior .u32 (u32.wrap ((ys.drop 5).getD 2 0)) (ishl .u32 (u32.wrap ((ys.drop 5).getD 1 0)) (8:Int))) (ishl .u32 (u32.wrap ((ys.drop 5).getD 0 0)) (16:Int))=n24 (ys.drop 5):=by
  unfold n24
  generalize (ys.drop 5).getD 0 0=x at h0 ⊢
  generalize (ys.drop 5).getD 1 0=y at h1 ⊢
  generalize (ys.drop 5).getD 2 0=z at h2 ⊢
  rw [ishl_of (b:=(16:Int)) 16 (by rfl) (by decide),ishl_of (b:=(8:Int)) 8 (by rfl) (by decide),wu32,wu32,wu32,wu32,wu32]
  rw [show z % 4294967296=z by omega,show y % 4294967296*2 ^ 8 % 4294967296=y*256 by omega,show x % 4294967296*2 ^ 16 % 4294967296=x*65536 by omega]
  rw [ior_add' (k:=.u32) (by rfl) 8 y (a:=y*256) (b:=z) (by omega) h1.1 h2.1 (by omega) (by simp only [IntKind.bits];omega)]
  rw [ior_add' (k:=.u32) (by rfl) 16 x (a:=x*65536) (b:=y*256+z) (by omega) h0.1 (by omega) (by omega) (by simp only [IntKind.bits];omega)]
  omega
 rw [e24]
 refine ⟨_,rfl,?_⟩
 clear hp_10 ep_10 H5 e24
 refine sSt0 H (h:=?_);clear H;intro w _ H
 refine ⟨by omega,by omega,?_⟩
 refine call_j (c150 (Rd.skip (Sat.rd H hx) _ (by omega)) (hb.drop 8) (by omega)) ?_
 rintro _ w ⟨rfl,g⟩
 replace H:=H.grow g;clear g
 refine ⟨_,rfl,?_⟩
 refine ⟨_,rfl,?_⟩
 refine sSt0 H (h:=?_);clear H;intro w _ H
 refine ⟨by omega,by omega,?_⟩
 refine call_j (c150 (Rd.skip (Sat.rd H hx) _ (by omega)) (hb.drop 12) (by omega)) ?_
 rintro _ w ⟨rfl,g⟩
 replace H:=H.grow g;clear g
 refine ⟨_,rfl,?_⟩
 refine ⟨_,rfl,?_⟩
 refine sSt0 H (h:=?_);clear H;intro w _ H
 refine ⟨by omega,by omega,?_⟩
 refine call_j (c150 (Rd.skip (Sat.rd H hx) _ (by omega)) (hb.drop 16) (by omega)) ?_
 rintro _ w ⟨rfl,g⟩
 replace H:=H.grow g;clear g
 refine ⟨_,rfl,?_⟩
 refine ⟨_,rfl,?_⟩
 refine sSt0 H (h:=?_);clear H;intro w _ H
 refine ⟨by omega,by omega,?_⟩
 refine call_j (c150 (Rd.skip (Sat.rd H hx) _ (by omega)) (hb.drop 20) (by omega)) ?_
 rintro _ w ⟨rfl,g⟩
 replace H:=H.grow g;clear g
 refine ⟨_,rfl,?_⟩
 refine ⟨_,rfl,?_⟩
 refine sSt0 H (h:=?_);clear H;intro w _ H
 exact .inr ⟨by omega,rfl,H⟩
theorem repV_take (m:Nat) (h:24<=m):repV (ys.take m)=repV ys:=by
 have hg:∀j,j < 24->(ys.take m).getD j 0=ys.getD j 0:=fun j hj=>getD_take (by omega)
 unfold repV n32 n24 n16
 simp only [getD_drop]
 rw [hg 0 (by decide),hg (0+1) (by decide)]
 simp only [Nat.reduceAdd]
 simp only [hg 1 (by decide),hg 2 (by decide),hg 3 (by decide),hg 4 (by decide),hg 5 (by decide),hg 6 (by decide),hg 7 (by decide),hg 8 (by decide),hg 9 (by decide),hg 10 (by decide),hg 11 (by decide),hg 12 (by decide),hg 13 (by decide),hg 14 (by decide),hg 15 (by decide),hg 16 (by decide),hg 17 (by decide),hg 18 (by decide),hg 19 (by decide),hg 20 (by decide),hg 21 (by decide),hg 22 (by decide),hg 23 (by decide)]
theorem repV_dat (ys:List Int):(repV ys).map .one=Rep.dat (rep1 ys):=rfl
theorem c143 {c2 c3 c4:Value} (H:Sat F w (.blk b T [c0,c1,c2,c3,c4,.slice none 0 0,.slice none 0 0]::ex) ro)
  (hx:Ro.B xs a n c∈ro) (hb:By xs) (hE:ErrC (gd xs=none) ro) (hd:Hd xs 200 (hC xs)) (hn:n<=1000000):Calls pg 143 #[.pointer (some ⟨b,0,none⟩),.slice a n c] w (UPost F b T 7 ex ro (gd xs)):=by
 apply of143
 have hlen:=H.lenB hx
 have hk:kindOf (hT xs) (hC xs)=1:=by rw [hd.typ];rfl
 have hU:rdBody xs=if (xs.drop 4).length < 24+24*(hC xs).toNat then none else some { kind:=1,sender:=n32 (xs.drop 4),ntp:=n64 ((xs.drop 4).drop 4),rtp:=n32 ((xs.drop 4).drop 12),packets:=n32 ((xs.drop 4).drop 16),octets:=n32 ((xs.drop 4).drop 20),reports:=reps (hC xs).toNat ((xs.drop 4).drop 24),ext:=((xs.drop 4).drop 24).drop (24*(hC xs).toNat) }:=by
  unfold rdBody;simp only [hk];rw [aG trivial]
 rw [az] at hU
 have hCr:0<=hC xs/\hC xs < 32:=by unfold hC;omega
 obtain ⟨k,hk2⟩:∃k:Nat,hC xs=(k:Int):=⟨(hC xs).toNat,by omega⟩
 rw [hk2,au] at hU
 refine ⟨fun hc=>?_,fun hc=>?_⟩
 ·rw [ah] at hc
  exact uErr H (ak _) (fun _ h=>h) hE rfl (gd_none (by rw [hU,aG (by omega)])) (by decide)
 rw [af] at hc
 refine sNew H ?_;clear H;intro b2 w _ H
 refine call_j (c55 H hx hb hd.ok) ?_
 rintro _ w ⟨rfl,H⟩
 refine ⟨_,rfl,by simp [isIf],fun h=>absurd h (by decide),fun _=>?_⟩
 refine ⟨_,(H.b0.at0 rfl),?_⟩
 rw [hd.typ]
 refine fF ?_
 refine ⟨by omega,by omega,?_⟩
 refine ⟨by omega,by omega,?_⟩
 have hro:∀r∈ro,r∈(Ro.B (xs.drop 4) (cutA a 4 c 1) (n - 4) (c - 4)::ro):=fun r h=>mt h
 replace H:=H.skipB hx 4 (by omega)
 have hy:By (xs.drop 4):=hb.drop 4
 have hyl:(xs.drop 4).length=n - 4:=by rw [az,hlen]
 have hnc:n - 4<=c - 4:=(H.deep1 ms).len.2.1
 generalize hys:xs.drop 4=ys at H hU hro hy hyl
 refine call_j (c150 (Rd.skip (Sat.rd H ms) 0 (by omega)) (hy.drop 0) (by omega)) ?_
 rintro _ w ⟨rfl,g⟩
 replace H:=H.grow g;clear g
 rw [List.drop_zero]
 refine ⟨_,rfl,?_⟩
 refine ⟨_,rfl,?_⟩
 refine sSt1 H (h:=?_);clear H;intro w _ H
 refine ⟨by omega,by omega,?_⟩
 have H1:=H.skipB ms 4 (by omega)
 refine call_j (c151 H1 ms (hy.drop 4) (by omega)) ?_
 clear H1
 rintro _ w ⟨rfl,H1⟩
 replace H:=H1.sub (ak _) (fun r h=>mt h)
 clear H1
 refine ⟨_,rfl,?_⟩
 refine ⟨_,rfl,?_⟩
 refine sSt1 H (h:=?_);clear H;intro w _ H
 refine ⟨by omega,by omega,?_⟩
 refine call_j (c150 (Rd.skip (Sat.rd H ms) _ (by omega)) (hy.drop 12) (by omega)) ?_
 rintro _ w ⟨rfl,g⟩
 replace H:=H.grow g;clear g
 refine ⟨_,rfl,?_⟩
 refine ⟨_,rfl,?_⟩
 refine sSt1 H (h:=?_);clear H;intro w _ H
 refine ⟨by omega,by omega,?_⟩
 refine call_j (c150 (Rd.skip (Sat.rd H ms) _ (by omega)) (hy.drop 16) (by omega)) ?_
 rintro _ w ⟨rfl,g⟩
 replace H:=H.grow g;clear g
 refine ⟨_,rfl,?_⟩
 refine ⟨_,rfl,?_⟩
 refine sSt1 H (h:=?_);clear H;intro w _ H
 refine ⟨by omega,by omega,?_⟩
 refine call_j (c150 (Rd.skip (Sat.rd H ms) _ (by omega)) (hy.drop 20) (by omega)) ?_
 rintro _ w ⟨rfl,g⟩
 replace H:=H.grow g;clear g
 refine ⟨_,rfl,?_⟩
 refine ⟨_,rfl,?_⟩
 refine sSt1 H (h:=?_);clear H;intro w _ H
 rw [hk2] at H
 refine ⟨fun off i35 m_30 w=>∃(i:Nat) (o:Option Addr) (oc:Nat) (r:Option Nat),i35=(i:Int)/\off=((24+24*i:Nat):Int)/\i+m_30=k/\24+24*i<=n - 4 /\
  Sat F w (.blk b2 109 [.bool (hP xs),.int .u8 (k:Int),.int .u8 (hT xs),.int .u16 (hL xs)]::.blk b T [.int .u32 (n32 ys),.int .u64 (n64 (ys.drop 4)),.int .u32 (n32 (ys.drop 12)),.int .u32 (n32 (ys.drop 16)),.int .u32 (n32 (ys.drop 20)),.slice o i oc,.slice none 0 0]::.own 275 7 o i oc r ((reps i (ys.drop 24)).flatMap Rep.dat)::ex) (Ro.B ys (cutA a 4 c 1) (n - 4) (c - 4)::ro),⟨k,0,none,0,none,rfl,rfl,by omega,by omega,(H.nilOwn 275 7).u2⟩,?_⟩
 clear H;rintro dd29 off i35 m_30 w ⟨i,o,oc,r,rfl,rfl,him,hio,H⟩
 refine ⟨_,(H.b0.at0 rfl),?_⟩
 rw [wi64_of (n:=(k:Int)) (by omega) (by omega)]
 refine ⟨fun h=>?_,fun h=>?_⟩
 ·rw [ah] at h
  rw [wi64_of (n:=((24+24*i:Nat):Int)+24) (by omega) (by omega)]
  refine ⟨fun h2=>?_,fun h2=>?_⟩
  ·rw [ah] at h2
   exact uErr H (by exact List.Sublist.cons _ (List.Sublist.cons_cons _ (sc1))) hro hE (by rfl) (gd_none (by rw [hU,aG (by omega)])) (by decide)
  rw [af] at h2
  rw [show (((24+24*i:Nat):Int)+24).toNat=48+24*i by omega,au,show 48+24*i - (24+24*i)=24 by omega]
  refine ⟨by omega,by omega,?_⟩
  refine ⟨by omega,by omega,?_⟩
  replace H:=H.cutB ms (24+24*i) (48+24*i) (by omega) (by omega)
  rw [show 48+24*i - (24+24*i)=24 by omega] at H
  refine sNew H ?_;clear H;intro b38 w _ H
  refine call_j (c152 H ms ((hy.drop _).take _) (hE.mono (fun r h=>mt (hro r h)))) ?_
  clear H
  rintro en w (⟨hbad,_⟩ | ⟨_,rfl,H⟩)
  ·omega
  rw [repV_take 24 (aN _)] at H
  refine ⟨_,rfl,by simp [isIf],fun h=>absurd h (by decide),fun _=>?_⟩
  refine ⟨r,?_⟩;replace H:=H.drew;generalize w.drew=wd1 at H ⊢;have K:=grew_refl wd1 (r)
  refine ⟨_,rfl,?_⟩
  refine ⟨(H.ne (mt (mt ms)) (mt (mt (mt ms)))),?_⟩
  refine ⟨H.b2.row,?_⟩
  refine ⟨_,_,_,(H.b2.at0 rfl),?_⟩
  refine ⟨(H.ne ms (mt (mt (mt ms)))),?_⟩
  refine ⟨H.b0.row,?_⟩
  refine ⟨_,_,_,_,_,_,_,H.b0.ld,?_⟩
  refine ⟨rfl,?_⟩
  refine sNew H ?_;clear H;intro b52 w g H;replace K:=gtr K (grew_none _ g);clear g
  refine ⟨K,?_⟩
  refine sApp4 H (bytes:=28) (by kernel_rfl) (repV (ys.drop (24+24*i))) (Rep.dat (rep1 (ys.drop (24+24*i)))) (by rfl) (fun j u hu=>by rw [add_flat,aK];exact H.b0.cell hu) (fun G h=>by rw [<-repV_dat];exact DeepL.ones _) (by simp [Value.oneCell',repV]) (by unfold maxLen;omega) (by omega) ?_
  clear H;intro x54 x54l x54c x54r w ex54 g H
  replace K:=gtr K g;clear g;replace H:=H.d1
  refine ⟨K,?_⟩
  refine ⟨_,rfl,?_⟩
  refine sSt2 H (h:=?_);clear H;intro w _ H
  subst ex54
  refine ⟨m_30 - 1,by omega,i+1,x54,x54c,x54r,?_,?_,by omega,by omega,?_⟩
  ·rw [wi64_of (by omega) (by omega)];simp
  ·omega
  ·rw [reps_snoc,aj,aJ]
   simp only [fm1,fm2,fm3]
   exact H.sub (sc1) (fun r hr=>mt hr)
 ·rw [af] at h
  obtain rfl:i=k:=by omega
  replace H:=H.r2.freeze
  have hU3:rdBody xs=some { kind:=1,sender:=n32 ys,ntp:=n64 (ys.drop 4),rtp:=n32 (ys.drop 12),packets:=n32 (ys.drop 16),octets:=n32 (ys.drop 20),reports:=reps i (ys.drop 24),ext:=(ys.drop 24).drop (24*i) }:=by rw [hU,ap (by omega)]
  refine ⟨fun h2=>?_,fun h2=>?_⟩
  ·rw [ah] at h2
   rw [au]
   refine ⟨by omega,by omega,?_⟩
   refine ⟨_,rfl,?_⟩
   refine sSt1 H (h:=?_);clear H;intro w _ H
   refine ⟨_,rfl,?_⟩
   replace H:=H.drew;generalize w.drew=w at H ⊢
   refine ⟨_,_,_,(H.b1.at0 rfl),?_⟩
   refine ⟨_,(H.b0.at0 rfl),?_⟩
   rw [wu8,show ((i:Nat):Int) % 256=(i:Int) by omega]
   refine ⟨fun h3=>absurd h3 (by simp),fun _=>?_⟩
   have H2:=H.skipB (xs:=ys) (a:=cutA a 4 c 1) (n:=n - 4) (c:=c - 4) (by simp) (24+24*i) (by omega)
   refine uOk (cells:=[.int .u32 (n32 ys),.int .u64 (n64 (ys.drop 4)),.int .u32 (n32 (ys.drop 12)),.int .u32 (n32 (ys.drop 16)),.int .u32 (n32 (ys.drop 20)),.slice o i oc,.slice (cutA (cutA a 4 c 1) (24+24*i) (c - 4) 1) (n - 4 - (24+24*i)) (c - 4 - (24+24*i))]) H2 (sc1) (fun r hr=>by simp [hr]) rfl ?_
   intro p hp
   obtain ⟨_,hp⟩:=gd_some hp
   rw [hU3] at hp
   cases hp
   intro G h
   have h1:=(h (.deep [_] [_]) ms).head
   have h2:=(h (.deep [_] [_]) (mt ms)).head
   refine dc (.one _) (dc (.one _) (dc (.one _) (dc (.one _) (dc (.one _) (dc h2 (dc ?_ dn))))))
   show Deep w G (.row 1 (ob ((ys.drop 24).drop (24*i)))) _
   rw [aJ]
   exact h1
  ·rw [af] at h2
   refine ⟨_,rfl,?_⟩
   replace H:=H.drew;generalize w.drew=w at H ⊢
   refine ⟨_,_,_,(H.b1.at0 rfl),?_⟩
   refine ⟨_,(H.b0.at0 rfl),?_⟩
   rw [wu8,show ((i:Nat):Int) % 256=(i:Int) by omega]
   refine ⟨fun h3=>absurd h3 (by simp),fun _=>?_⟩
   refine uOk (cells:=[.int .u32 (n32 ys),.int .u64 (n64 (ys.drop 4)),.int .u32 (n32 (ys.drop 12)),.int .u32 (n32 (ys.drop 16)),.int .u32 (n32 (ys.drop 20)),.slice o i oc,.slice none 0 0]) H (sc1) (fun r hr=>by simp [hr]) rfl ?_
   intro p hp
   obtain ⟨_,hp⟩:=gd_some hp
   rw [hU3] at hp
   cases hp
   intro G h
   have h2':=(h (.deep [_] [_]) ms).head
   refine dc (.one _) (dc (.one _) (dc (.one _) (dc (.one _) (dc (.one _) (dc h2' (dc ?_ dn))))))
   have e0:ys.drop (24+24*i)=[]:=bF (by omega)
   show Deep w G (.row 1 (ob ((ys.drop 24).drop (24*i)))) _
   rw [aJ,e0]
   exact .emp _ _
theorem c156 (H:Sat F w (.blk b T [c0,.slice none 0 0,.slice none 0 0]::ex) ro)
  (hx:Ro.B xs a n c∈ro) (hb:By xs) (hE:ErrC (gd xs=none) ro) (hd:Hd xs 201 (hC xs)) (hn:n<=1000000):Calls pg 156 #[.pointer (some ⟨b,0,none⟩),.slice a n c] w (UPost F b T 3 ex ro (gd xs)):=by
 apply of156
 have hlen:=H.lenB hx
 have hk:kindOf (hT xs) (hC xs)=2:=by rw [hd.typ];rfl
 have hU:rdBody xs=if (xs.drop 4).length < 4+24*(hC xs).toNat then none else some { kind:=2,sender:=n32 (xs.drop 4),reports:=reps (hC xs).toNat ((xs.drop 4).drop 4),ext:=((xs.drop 4).drop 4).drop (24*(hC xs).toNat) }:=by
  unfold rdBody;simp only [hk];rw [ap (by decide),aG trivial]
 rw [az,aJ] at hU
 have hCr:0<=hC xs/\hC xs < 32:=by unfold hC;omega
 obtain ⟨k,hk2⟩:∃k:Nat,hC xs=(k:Int):=⟨(hC xs).toNat,by omega⟩
 rw [hk2,au] at hU
 have hnc:n<=c:=(H.deep1 hx).len.2.1
 refine ⟨fun hc=>?_,fun hc=>?_⟩
 ·rw [ah] at hc
  exact uErr H (ak _) (fun _ h=>h) hE rfl (gd_none (by rw [hU,aG (by omega)])) (by decide)
 rw [af] at hc
 refine sNew H ?_;clear H;intro b2 w _ H
 refine call_j (c55 H hx hb hd.ok) ?_
 rintro _ w ⟨rfl,H⟩
 refine ⟨_,rfl,by simp [isIf],fun h=>absurd h (by decide),fun _=>?_⟩
 refine ⟨_,(H.b0.at0 rfl),?_⟩
 rw [hd.typ]
 refine fF ?_
 refine ⟨by omega,by omega,?_⟩
 refine call_j (c150 (Rd.skip (Sat.rd H hx) _ (by omega)) (hb.drop 4) (by omega)) ?_
 rintro _ w ⟨rfl,g⟩
 replace H:=H.grow g;clear g
 refine ⟨_,rfl,?_⟩
 refine ⟨_,rfl,?_⟩
 refine sSt1 H (h:=?_);clear H;intro w _ H
 rw [hk2] at H

 have hend:∀(w:World) (i:Nat) (o:Option Addr) (oc:Nat) (r:Option Nat),i<=k->8+24*i<=n->(i < k->n < 8+24*k) ->
   Sat F w (.blk b2 109 [.bool (hP xs),.int .u8 (k:Int),.int .u8 (hT xs),.int .u16 (hL xs)]::.blk b T [.int .u32 (n32 (xs.drop 4)),.slice o i oc,.slice (cutA a (8+24*i) c 1) (n - (8+24*i)) (c - (8+24*i))]::.own 275 7 o i oc r ((reps i (xs.drop 8)).flatMap Rep.dat)::ex) ro ->
   (((u8.wrap ((i:Nat):Int)) != (k:Int))=true->∃x,w.cell? ⟨0,0,none⟩=some x/\UPost F b T 3 ex ro (gd xs) (.returned x) w) /\
   (((u8.wrap ((i:Nat):Int)) != (k:Int))=false->UPost F b T 3 ex ro (gd xs) (.returned .nilIface) w):=by
  intro w i o oc r hik hin hshort H
  rw [wu8,show ((i:Nat):Int) % 256=(i:Int) by omega]
  refine ⟨fun h=>?_,fun h=>?_⟩
  ·have hne:¬(i:Int)=(k:Int):=by simpa using h
   exact uErr H (by exact List.Sublist.cons _ (List.Sublist.cons_cons _ (sc1))) (fun _ h=>h) hE (by rfl) (gd_none (by rw [hU,aG (by have:=hshort (by omega);omega)])) (by decide)
  ·have he:(i:Int)=(k:Int):=by simpa using h
   obtain rfl:i=k:=by omega
   have H1:=(H.r2.freeze).skipB (xs:=xs) (a:=a) (n:=n) (c:=c) (by simp [hx]) (8+24*i) (by omega)
   refine uOk (cells:=[.int .u32 (n32 (xs.drop 4)),.slice o i oc,.slice (cutA a (8+24*i) c 1) (n - (8+24*i)) (c - (8+24*i))]) H1 (sc1) (fun r hr=>by simp [hr]) rfl ?_
   intro p hp
   obtain ⟨_,hp⟩:=gd_some hp
   rw [hU,ap (by omega)] at hp
   cases hp
   intro G h
   have h1:=(h (.deep [_] [_]) ms).head
   have h2:=(h (.deep [_] [_]) (mt ms)).head
   refine dc (.one _) (dc h2 (dc ?_ dn))
   show Deep w G (.row 1 (ob ((xs.drop 8).drop (24*i)))) _
   rw [aJ]
   exact h1
 refine ⟨fun i18 m_14 w=>∃(i:Nat) (o:Option Addr) (oc:Nat) (r:Option Nat),i18=((8+24*i:Nat):Int)/\i+m_14=k/\8+24*i<=n /\
  Sat F w (.blk b2 109 [.bool (hP xs),.int .u8 (k:Int),.int .u8 (hT xs),.int .u16 (hL xs)]::.blk b T [.int .u32 (n32 (xs.drop 4)),.slice o i oc,.slice none 0 0]::.own 275 7 o i oc r ((reps i (xs.drop 8)).flatMap Rep.dat)::ex) ro,⟨k,0,none,0,none,rfl,by omega,by omega,(H.nilOwn 275 7).u2⟩,?_⟩
 clear H;rintro dd13 i18 m_14 w ⟨i,o,oc,r,rfl,him,hio,H⟩
 have eoff:i64.wrap ((8:Int)+(i64.wrap (((i:Nat):Int)*(24:Int))))=((8+24*i:Nat):Int):=by rw [wi64_of (n:=(i:Int)*24) (by omega) (by omega),wi64_of (by omega) (by omega)];omega
 refine ⟨fun h=>?_,fun h=>?_⟩
 ·rw [ah] at h
  refine ⟨_,rfl,?_⟩
  replace H:=H.drew;generalize w.drew=w at H ⊢
  refine ⟨_,_,_,(H.b1.at0 rfl),?_⟩
  refine ⟨_,(H.b0.at0 rfl),?_⟩
  rw [wi64_of (n:=(k:Int)) (by omega) (by omega)]
  refine ⟨fun h2=>?_,fun h2=>?_⟩
  ·rw [ah] at h2
   refine sNew H ?_;clear H;intro b22 w _ H
   rw [au]
   refine ⟨by omega,by omega,?_⟩
   have H1:=H.skipB hx (8+24*i) (by omega)
   refine call_j (c152 H1 ms (hb.drop _) (hE.mono (fun r h=>mt h))) ?_
   clear H H1
   rintro en w (⟨hbad,e,rfl,he1,he2,H⟩ | ⟨hgood,rfl,H⟩)
   ·refine ⟨_,rfl,he1,fun _=>?_,fun h=>by rw [he2] at h;cases h⟩
    refine ⟨e,[.int .u32 (n32 (xs.drop 4)),.slice o i oc,.slice none 0 0],ro,rfl,he1,fun _ h=>h,rfl,H.sub ?_ (fun r hr=>mt hr),?_⟩
    ·exact List.Sublist.cons _ (List.Sublist.cons _ (List.Sublist.cons_cons _ (sc1)))
    ·intro p hp
     obtain ⟨_,hp⟩:=gd_some hp
     rw [hU,aG (by omega)] at hp
     cases hp
   refine ⟨_,rfl,by simp [isIf],fun h=>absurd h (by decide),fun _=>?_⟩
   refine ⟨r,?_⟩;replace H:=H.drew;generalize w.drew=wd2 at H ⊢;have K:=grew_refl wd2 (r)
   refine ⟨_,rfl,?_⟩
   refine ⟨(H.ne (mt (mt ms)) (mt (mt (mt ms)))),?_⟩
   refine ⟨H.b2.row,?_⟩
   refine ⟨_,_,_,(H.b2.at0 rfl),?_⟩
   refine ⟨(H.ne ms (mt (mt (mt ms)))),?_⟩
   refine ⟨H.b0.row,?_⟩
   refine ⟨_,_,_,_,_,_,_,H.b0.ld,?_⟩
   refine ⟨rfl,?_⟩
   refine sNew H ?_;clear H;intro b36 w g H;replace K:=gtr K (grew_none _ g);clear g
   refine ⟨K,?_⟩
   refine sApp4 H (bytes:=28) (by kernel_rfl) (repV (xs.drop (8+24*i))) (Rep.dat (rep1 (xs.drop (8+24*i)))) (by rfl) (fun j u hu=>by rw [add_flat,aK];exact H.b0.cell hu) (fun G h=>by rw [<-repV_dat];exact DeepL.ones _) (by simp [Value.oneCell',repV]) (by unfold maxLen;omega) (by omega) ?_
   clear H;intro x38 x38l x38c x38r w ex38 g H
   replace K:=gtr K g;clear g;replace H:=H.d1
   refine ⟨K,?_⟩
   refine ⟨_,rfl,?_⟩
   refine sSt2 H (h:=?_);clear H;intro w _ H
   subst ex38
   refine ⟨m_14 - 1,by omega,i+1,x38,x38c,x38r,?_,by omega,by omega,?_⟩
   ·rw [wi64_of (by omega) (by omega)];omega
   ·rw [reps_snoc,aj,aJ]
    simp only [fm1,fm2,fm3]
    exact H.sub (sc1) (fun r hr=>mt hr)
  ·rw [af] at h2
   refine ⟨_,rfl,?_⟩
   refine ⟨_,_,_,(H.b1.at0 rfl),?_⟩
   rw [eoff,au]
   refine ⟨by omega,by omega,?_⟩
   refine ⟨_,rfl,?_⟩
   refine sSt1 H (h:=?_);clear H;intro w _ H
   refine ⟨_,rfl,?_⟩
   replace H:=H.drew;generalize w.drew=w at H ⊢
   refine ⟨_,_,_,(H.b1.at0 rfl),?_⟩
   refine ⟨_,(H.b0.at0 rfl),?_⟩
   exact hend w i o oc r (by omega) hio (fun h=>by omega) H
 ·rw [af] at h
  refine ⟨_,rfl,?_⟩
  replace H:=H.drew;generalize w.drew=w at H ⊢
  refine ⟨_,_,_,(H.b1.at0 rfl),?_⟩
  rw [eoff,au]
  refine ⟨by omega,by omega,?_⟩
  refine ⟨_,rfl,?_⟩
  refine sSt1 H (h:=?_);clear H;intro w _ H
  refine ⟨_,rfl,?_⟩
  replace H:=H.drew;generalize w.drew=w at H ⊢
  refine ⟨_,_,_,(H.b1.at0 rfl),?_⟩
  refine ⟨_,(H.b0.at0 rfl),?_⟩
  exact hend w i o oc r (by omega) hio (fun h=>by omega) H
theorem n32_takem (h:4<=m):n32 (ys.take m)=n32 ys:=by
 unfold n32 n16
 rw [getD_drop,getD_drop,getD_drop,getD_drop,getD_take (by omega),getD_take (by omega),getD_take (by omega),getD_take (by omega)]
theorem c248 (H:Sat F w (.blk b T [c0]::ex) ro)
  (hx:Ro.B xs a n c∈ro) (hb:By xs) (hok:hdrOk xs=true):Calls pg 248 #[.pointer (some ⟨b,0,none⟩),.slice a n c] w fun en w'=>en=.returned .nilIface/\Sat F w' (.blk b T [.slice a n c]::ex) ro:=by
 apply of248
 have hlen:=H.lenB hx
 have h4:4<=xs.length:=by
  simp only [hdrOk,aM,ah] at hok
  exact hok.1
 refine ⟨fun hc=>?_,fun hc=>?_⟩
 ·rw [ah] at hc;omega
 refine ⟨_,rfl,?_⟩
 refine sSt0 H (by rfl) (h:=?_);clear H;intro w _ H
 refine sNew H ?_;clear H;intro b4 w _ H
 refine call_j (c55 H hx hb hok) ?_
 rintro _ w ⟨rfl,H⟩
 refine ⟨_,rfl,?_⟩
 exact ⟨rfl,H.d1⟩
end Go.Proofs.YtkdialecadjedaaGreatDoor
