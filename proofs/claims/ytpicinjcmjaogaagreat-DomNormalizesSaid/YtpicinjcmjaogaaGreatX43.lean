import Derived.Deep.QuietTactic
import Derived.BigQuiet
import Derived.Test.YtpicinjcmjaogaaGreatX38
import Derived.Test.YtpicinjcmjaogaaGreatX40
import Derived.Test.YtpicinjcmjaogaaGreatX42
set_option maxRecDepth 100000
set_option maxHeartbeats 4000000
set_option linter.unusedVariables false
namespace Go.Proofs.YtpicinjcmjaogaaGreat
section
open Go.RowKit Go.Shelf
attribute [local go_sem] Oper.semAt_some
def dk0 : Ar := Ar.new
def dk1 : Ar := dk0.Xn false
def dk2 : Ar := (dk1.element 1 1 ⟨#[104, 116, 109, 108]⟩ []).2
def dk3 : Ar := (dk2.element 1 1 ⟨#[112]⟩ []).2
def dk4 : Ar := (dk3.make 1 (Xs ⟨#[97, 98]⟩)).2
def dk5 : Ar := (dk4.make 1 (YT ⟨#[104, 116, 109, 108]⟩ ⟨#[]⟩ ⟨#[]⟩)).2
def dk6 : Ar := (dk5.make 1 Zm).2
def dk7 : Ar := (dk6.XX 6 3 0).2
def dk8 : Ar := (dk7.XX 6 4 0).2
def dk9 : Ar := (dk8.XX 1 2 0).2
def XbE : Ar := (dk9.XX 1 3 0).2
def XbF : Ar := (XbE.XX 1 4 0).2
def XbG : Ar := (XbF.XX 1 5 0).2
def XbH : Ar := (XbG.XX 1 5 2).2
def Jo : Ar := (XbH.XX 2 6 0).2
def Z9 : Ar := (Jo.split 4 1).2
def XaD : Ar := (Z9.normalize 2).2
theorem Xph :(dk6.XX 6 3 0).1=0:=by
 decide+kernel
theorem Xpi :(dk7.XX 6 4 0).1=0:=by
 decide+kernel
theorem Xpj :(dk8.XX 1 2 0).1=0:=by
 decide+kernel
theorem Xpk :(dk9.XX 1 3 0).1=4:=by
 decide+kernel
theorem Xpl :(XbE.XX 1 4 0).1=4:=by
 decide+kernel
theorem Xpm :(XbF.XX 1 5 0).1=4:=by
 decide+kernel
theorem Xpn :(XbG.XX 1 5 2).1=0:=by
 decide+kernel
theorem Xpo :(XbH.XX 2 6 0).1=0:=by
 decide+kernel
theorem Xpp :Jo.YN 2= [3,4]:=by
 decide+kernel
theorem Xpq :Jo.YN 6= []:=by
 decide+kernel
theorem Xpr :(Jo.split 4 1).1=(7,0):=by
 decide+kernel
theorem Xps :Z9.YN 2= [3,4,7]:=by
 decide+kernel
theorem Xpt :Z9.Xbl 2=(⟨#[97,98]⟩,0):=by
 decide+kernel
theorem Xpu :(Z9.normalize 2).1=0:=by
 decide+kernel
theorem Xpv :XaD.YN 2= [3,4]:=by
 decide+kernel
theorem Xpw :Z9.Xk≤9223372036854775807:=by
 decide+kernel
theorem Xpx :(Z9.Zi (Z9.below 2)).length≤140737488355328:=by
 decide+kernel
theorem Xac {A:Ar}{t:Nat}(h:A.Inv∧A.XB t)(x:OpD)(hx:x.Xb.length≤20)(h1:20≤t)(h2:t≤900):(A.Xo x).2.Inv∧(A.Xo x).2.XB (t+1):=⟨(Xfk h.1 (h.2.mono h2) x hx).1,XeG h.2 x (Nat.le_trans hx h1)⟩
theorem XaE {A:Ar}{t:Nat}(h:A.Inv∧A.XB t)(a b c:Int)(h1:20≤t)(h2:t≤900):(A.XX a b c).2.Inv∧(A.XX a b c).2.XB (t+1):=Xac h ⟨21,a,b,c,false,0,ByteArray.empty,ByteArray.empty,ByteArray.empty,[]⟩ (Nat.zero_le _) h1 h2
theorem Xpy {A:Ar}{t:Nat}(h:A.Inv∧A.XB t)(a b:Int)(h1:20≤t)(h2:t≤900):(A.split a b).2.Inv∧(A.split a b).2.XB (t+1):=Xac h ⟨35,a,b,0,false,0,ByteArray.empty,ByteArray.empty,ByteArray.empty,[]⟩ (Nat.zero_le _) h1 h2
theorem Xpz {A:Ar}{t:Nat}(h:A.Inv∧A.XB t)(a:Int)(h1:20≤t)(h2:t≤900):(A.normalize a).2.Inv∧(A.normalize a).2.XB (t+1):=Xac h ⟨34,a,0,0,false,0,ByteArray.empty,ByteArray.empty,ByteArray.empty,[]⟩ (Nat.zero_le _) h1 h2
theorem XdN {w0 w:World}{B b:Nat}{A:Ar}{l:List Xf}{h:Int}(o:Own w0 B l w)(hm:Xf.arena b A∈l)(hS:A.YC){y:List Int}(hy:A.YN h=y):Calls Tryz.prog 33 #[.pointer (some ⟨b,0,none⟩),.int .i64 h] w fun e w'=>∃a c,e= .returned (.slice a y.length c)∧Own w0 B (.ints (.slice a y.length c) y::l) w':=by
 subst hy
 exact Xap o hm hS
theorem XpA :dk0.Inv∧dk0.XB 20:=⟨Xen,XcY _⟩
theorem XpB :dk1.Inv∧dk1.XB 21:=Xac XpA ⟨1,0,0,0,false,0,ByteArray.empty,ByteArray.empty,ByteArray.empty,[]⟩ (by decide) (by decide) (by decide)
theorem XpC :dk2.Inv∧dk2.XB 22:=Xac XpB ⟨3,1,0,0,false,1,⟨#[104,116,109,108]⟩,ByteArray.empty,ByteArray.empty,[]⟩ (by decide) (by decide) (by decide)
theorem XpD :dk3.Inv∧dk3.XB 23:=Xac XpC ⟨3,1,0,0,false,1,⟨#[112]⟩,ByteArray.empty,ByteArray.empty,[]⟩ (by decide) (by decide) (by decide)
theorem XpE :dk4.Inv∧dk4.XB 24:=Xac XpD ⟨4,1,0,0,false,0,ByteArray.empty,⟨#[97,98]⟩,ByteArray.empty,[]⟩ (by decide) (by decide) (by decide)
theorem XpF :dk5.Inv∧dk5.XB 25:=Xac XpE ⟨2,1,0,0,false,0,⟨#[104,116,109,108]⟩,⟨#[]⟩,⟨#[]⟩,[]⟩ (by decide) (by decide) (by decide)
theorem Xi7 :dk6.Inv∧dk6.XB 26:=Xac XpF ⟨6,1,0,0,false,0,ByteArray.empty,ByteArray.empty,ByteArray.empty,[]⟩ (by decide) (by decide) (by decide)
theorem Xi8 :dk7.Inv∧dk7.XB 27:=XaE Xi7 6 3 0 (by decide) (by decide)
theorem Xi9 :dk8.Inv∧dk8.XB 28:=XaE Xi8 6 4 0 (by decide) (by decide)
theorem Xja :dk9.Inv∧dk9.XB 29:=XaE Xi9 1 2 0 (by decide) (by decide)
theorem Xjb :XbE.Inv∧XbE.XB 30:=XaE Xja 1 3 0 (by decide) (by decide)
theorem Xjc :XbF.Inv∧XbF.XB 31:=XaE Xjb 1 4 0 (by decide) (by decide)
theorem Xjd :XbG.Inv∧XbG.XB 32:=XaE Xjc 1 5 0 (by decide) (by decide)
theorem Xje :XbH.Inv∧XbH.XB 33:=XaE Xjd 1 5 2 (by decide) (by decide)
theorem XfY :Jo.Inv∧Jo.XB 34:=XaE Xje 2 6 0 (by decide) (by decide)
theorem Xco :Z9.Inv∧Z9.XB 35:=Xpy XfY 4 1 (by decide) (by decide)
theorem XpG :XaD.Inv∧XaD.XB 36:=Xpz Xco 2 (by decide) (by decide)
theorem XpH :dk0.ns.length≤20:=by
 decide+kernel
theorem XpI :dk1.ns.length≤20:=by
 decide+kernel
theorem XpJ :dk2.ns.length≤20:=by
 decide+kernel
theorem XpK :dk3.ns.length≤20:=by
 decide+kernel
theorem XpL :dk4.ns.length≤20:=by
 decide+kernel
theorem XpM :dk5.ns.length≤20:=by
 decide+kernel
theorem XpN :dk6.ns.length≤20:=by
 decide+kernel
theorem XpO :dk7.ns.length≤20:=by
 decide+kernel
theorem XpP :dk8.ns.length≤20:=by
 decide+kernel
theorem XpQ :dk9.ns.length≤20:=by
 decide+kernel
theorem XpR :XbE.ns.length≤20:=by
 decide+kernel
theorem XpS :XbF.ns.length≤20:=by
 decide+kernel
theorem XpT :XbG.ns.length≤20:=by
 decide+kernel
theorem XpU :XbH.ns.length≤20:=by
 decide+kernel
theorem Xjf :Jo.ns.length≤20:=by
 decide+kernel
theorem XfZ :Z9.ns.length≤20:=by
 decide+kernel
theorem XpV :XaD.ns.length≤20:=by
 decide+kernel
theorem Xjg :Jo.YC:=XfY.1.short (Nat.le_trans Xjf (by decide))
theorem XpW :Z9.YC:=Xco.1.short (Nat.le_trans XfZ (by decide))
theorem XpX :XaD.YC:=XpG.1.short (Nat.le_trans XpV (by decide))
theorem XdO (w:World):Calls Tryz.prog 19 #[] w fun e w'=>e= .returned (.bool true)∧Below w.heap.size w w':=by
 have HN:=Xqh (Xgv w)
 go_enter Tryz.func19,Tryz.ntmps19
 go_wp2_with fail
 refine HN.out.mono ?_
 rintro e w0⟨rfl,hw1⟩
 have o:=(Own.start w).XgB
 rw[←hw1]at o
 clear hw1 HN
 have o:Own w w.heap.size [.arena w.heap.size dk0] w0:=o
 obtain⟨g,hg⟩:∃g,w.heap.size=g:=⟨_,rfl⟩
 rw[show(Xf.arena w.heap.size dk0)=Xf.arena g dk0 by(rw[hg])]at o
 rw[show(Value.pointer (some (⟨w.heap.size,0,none⟩:Addr)))=Value.pointer (some ⟨g,0,none⟩)by(rw[hg])]
 clear hg
 have HC:=Xqh (o.call (fun ρ hA=>XbO dk0 ρ g false _ hA (Nat.le_trans XpH (by decide))))
 clear o
 go_wp2_with fail
 refine HC.out.mono ?_
 rintro e w1⟨rfl,o1⟩
 clear HC
 have o:Own w w.heap.size [.arena g dk1] w1:=o1
 clear o1
 generalize w1=w0 at*
 have HC:=Xqh (o.call (fun ρ hA=>XaO dk1 ρ g 1 1 ⟨#[104,116,109,108]⟩ (.slice none 0 0) [] _ hA (Xfu (b:=0) (l:= []) (World.ownsRow_nil _ 0 132 3)) (Nat.le_trans (Nat.add_le_add_right XpI _) (by decide)) (by decide)))
 clear o
 go_wp2_with fail
 refine HC.out.mono ?_
 rintro e w1⟨rfl,o1⟩
 clear HC
 have o:Own w w.heap.size [.arena g dk2] w1:=o1
 clear o1
 generalize w1=w0 at*
 have HC:=Xqh (o.call (fun ρ hA=>XaO dk2 ρ g 1 1 ⟨#[112]⟩ (.slice none 0 0) [] _ hA (Xfu (b:=0) (l:= []) (World.ownsRow_nil _ 0 132 3)) (Nat.le_trans (Nat.add_le_add_right XpJ _) (by decide)) (by decide)))
 clear o
 go_wp2_with fail
 refine HC.out.mono ?_
 rintro e w1⟨rfl,o1⟩
 clear HC
 have o:Own w w.heap.size [.arena g dk3] w1:=o1
 clear o1
 generalize w1=w0 at*
 have HC:=Xqh (o.call (fun ρ hA=>Xbe dk3 ρ g 1 ⟨#[97,98]⟩ _ hA (Nat.le_trans XpK (by decide))))
 clear o
 go_wp2_with fail
 refine HC.out.mono ?_
 rintro e w1⟨rfl,o1⟩
 clear HC
 have o:Own w w.heap.size [.arena g dk4] w1:=o1
 clear o1
 generalize w1=w0 at*
 have HC:=Xqh (o.call (fun ρ hA=>XcE dk4 ρ g 1 ⟨#[104,116,109,108]⟩ ⟨#[]⟩ ⟨#[]⟩ _ hA (Nat.le_trans XpL (by decide))))
 clear o
 go_wp2_with fail
 refine HC.out.mono ?_
 rintro e w1⟨rfl,o1⟩
 clear HC
 have o:Own w w.heap.size [.arena g dk5] w1:=o1
 clear o1
 generalize w1=w0 at*
 have HC:=Xqh (o.call (fun ρ hA=>XcF dk5 ρ g 1 _ hA (Nat.le_trans XpM (by decide))))
 clear o
 go_wp2_with fail
 refine HC.out.mono ?_
 rintro e w1⟨rfl,o1⟩
 clear HC
 have o:Own w w.heap.size [.arena g dk6] w1:=o1
 clear o1
 generalize w1=w0 at*
 have HC:=Xqh (Xas (p:=6) (n:=3) o Xi7.1 (Nat.le_trans (Nat.add_le_add_right XpN _) (by decide)))
 rw[Xph]at HC
 clear o
 go_wp2_with fail
 refine HC.out.mono ?_
 rintro e w1⟨rfl,o1⟩
 clear HC
 have o:Own w w.heap.size [.arena g dk7] w1:=o1
 clear o1
 generalize w1=w0 at*
 have HC:=Xqh (Xas (p:=6) (n:=4) o Xi8.1 (Nat.le_trans (Nat.add_le_add_right XpO _) (by decide)))
 rw[Xpi]at HC
 clear o
 go_wp2_with fail
 refine HC.out.mono ?_
 rintro e w1⟨rfl,o1⟩
 clear HC
 have o:Own w w.heap.size [.arena g dk8] w1:=o1
 clear o1
 generalize w1=w0 at*
 have HC:=Xqh (Xas (p:=1) (n:=2) o Xi9.1 (Nat.le_trans (Nat.add_le_add_right XpP _) (by decide)))
 rw[Xpj]at HC
 clear o
 go_wp2_with fail
 refine HC.out.mono ?_
 rintro e w1⟨rfl,o1⟩
 clear HC
 have o:Own w w.heap.size [.arena g dk9] w1:=o1
 clear o1
 generalize w1=w0 at*
 have HC:=Xqh (Xas (p:=1) (n:=3) o Xja.1 (Nat.le_trans (Nat.add_le_add_right XpQ _) (by decide)))
 rw[Xpk]at HC
 clear o
 go_wp2_with fail
 refine HC.out.mono ?_
 rintro e w1⟨rfl,o1⟩
 clear HC
 have o:Own w w.heap.size [.arena g XbE] w1:=o1
 clear o1
 generalize w1=w0 at*
 have HC:=Xqh (Xas (p:=1) (n:=4) o Xjb.1 (Nat.le_trans (Nat.add_le_add_right XpR _) (by decide)))
 rw[Xpl]at HC
 clear o
 go_wp2_with fail
 refine HC.out.mono ?_
 rintro e w1⟨rfl,o1⟩
 clear HC
 have o:Own w w.heap.size [.arena g XbF] w1:=o1
 clear o1
 generalize w1=w0 at*
 have HC:=Xqh (Xas (p:=1) (n:=5) o Xjc.1 (Nat.le_trans (Nat.add_le_add_right XpS _) (by decide)))
 rw[Xpm]at HC
 clear o
 go_wp2_with fail
 refine HC.out.mono ?_
 rintro e w1⟨rfl,o1⟩
 clear HC
 have o:Own w w.heap.size [.arena g XbG] w1:=o1
 clear o1
 generalize w1=w0 at*
 have HC:=Xqh (Xe0 (p:=1) (n:=5) (c:=2) o Xjd.1 (Nat.le_trans (Nat.add_le_add_right XpT _) (by decide)))
 rw[Xpn]at HC
 clear o
 go_wp2_with fail
 refine HC.out.mono ?_
 rintro e w1⟨rfl,o1⟩
 clear HC
 have o:Own w w.heap.size [.arena g XbH] w1:=o1
 clear o1
 generalize w1=w0 at*
 have HC:=Xqh (Xas (p:=2) (n:=6) o Xje.1 (Nat.le_trans (Nat.add_le_add_right XpU _) (by decide)))
 rw[Xpo]at HC
 clear o
 go_wp2_with fail
 refine HC.out.mono ?_
 rintro e w1⟨rfl,o1⟩
 clear HC
 have o:Own w w.heap.size [.arena g Jo] w1:=o1
 clear o1
 generalize w1=w0 at*
 have HC:=Xqh (XdN (b:=g) (A:=Jo) (h:=2) o (by simp) Xjg Xpp)
 clear o
 go_wp2_with fail
 refine HC.out.mono ?_
 rintro e w1⟨ka,kc,rfl,o1⟩
 clear HC
 simp only[List.length_cons,List.length_nil,Nat.zero_add,Nat.reduceAdd]at o1⊢
 have o2:=o1.alloc (.cells #[.int .i64 3,.int .i64 4] 3)
 have HC:=Xqh (XcU (.slice ka 2 kc) (.slice (some ⟨w1.heap.size,0,none⟩) 2 2) [3,4] [3,4] _ (o2.ints (by simp)) (Xbq w1 [3,4] 3 (by decide)))
 rw[show decide (([3,4]:List Int)= [3,4])=true from by{decide}]at HC
 have HO:=Xqh o2
 clear o1 o2
 go_wp2_with fail
 refine HC.out.mono ?_
 rintro e w2⟨rfl,hB⟩
 clear HC
 have o:Own w w.heap.size [.arena g Jo] w2:=(HO.out.read hB).drop.drop
 clear HO hB
 generalize w2=w0 at*
 have HC:=Xqh (XdN (b:=g) (A:=Jo) (h:=6) o (by simp) Xjg Xpq)
 clear o
 go_wp2_with fail
 refine HC.out.mono ?_
 rintro e w1⟨ka,kc,rfl,o1⟩
 clear HC
 simp only[List.length_nil]at o1⊢
 have o:Own w w.heap.size [.arena g Jo] w1:=o1.drop
 clear o1
 generalize w1=w0 at*
 have HC:=Xqh (Xh9 (h:=4) (at':=1) o XfY.1 (Nat.le_trans (Nat.add_le_add_right Xjf _) (by decide)))
 rw[Xpr,show Xl (7,0)= .tuple #[.int .i64 7,.int .i64 0]from rfl]at HC
 clear o
 go_wp2_with fail
 refine HC.out.mono ?_
 rintro e w1⟨rfl,o1⟩
 clear HC
 have o:Own w w.heap.size [.arena g Z9] w1:=o1
 clear o1
 generalize w1=w0 at*
 have HC:=Xqh (Xnw (h:=2) o Xco.1 (Nat.le_trans XfZ (by decide)) Xpx)
 rw[Xpt]at HC
 clear o
 go_wp2_with fail
 refine HC.out.mono ?_
 rintro e w1⟨rfl,o1⟩
 clear HC
 have o:Own w w.heap.size [.arena g Z9] w1:=o1
 clear o1
 generalize w1=w0 at*
 have HC:=Xqh (XdN (b:=g) (A:=Z9) (h:=2) o (by simp) XpW Xps)
 clear o
 go_wp2_with fail
 refine HC.out.mono ?_
 rintro e w1⟨ka,kc,rfl,o1⟩
 clear HC
 simp only[List.length_cons,List.length_nil,Nat.zero_add,Nat.reduceAdd]at o1⊢
 have o2:=o1.alloc (.cells #[.int .i64 3,.int .i64 4,.int .i64 7] 3)
 have HC:=Xqh (XcU (.slice ka 3 kc) (.slice (some ⟨w1.heap.size,0,none⟩) 3 3) [3,4,7] [3,4,7] _ (o2.ints (by simp)) (Xbq w1 [3,4,7] 3 (by decide)))
 rw[show decide (([3,4,7]:List Int)= [3,4,7])=true from by{decide}]at HC
 have HO:=Xqh o2
 clear o1 o2
 go_wp2_with fail
 refine HC.out.mono ?_
 rintro e w2⟨rfl,hB⟩
 clear HC
 have o:Own w w.heap.size [.arena g Z9] w2:=(HO.out.read hB).drop.drop
 clear HO hB
 generalize w2=w0 at*
 have HC:=Xqh (Xia (h:=2) o Xco.1 (Nat.le_trans XfZ (by decide)) (fun y hy=>Nat.le_trans (Xmg Xco.1 hy) Xpw))
 rw[Xpu]at HC
 clear o
 go_wp2_with fail
 refine HC.out.mono ?_
 rintro e w1⟨rfl,o1⟩
 clear HC
 have o:Own w w.heap.size [.arena g XaD] w1:=o1
 clear o1
 generalize w1=w0 at*
 have HC:=Xqh (XdN (b:=g) (A:=XaD) (h:=2) o (by simp) XpX Xpv)
 clear o
 go_wp2_with fail
 refine HC.out.mono ?_
 rintro e w1⟨ka,kc,rfl,o1⟩
 clear HC
 simp only[List.length_cons,List.length_nil,Nat.zero_add,Nat.reduceAdd]at o1⊢
 have o2:=o1.alloc (.cells #[.int .i64 3,.int .i64 4] 3)
 have HC:=Xqh (XcU (.slice ka 2 kc) (.slice (some ⟨w1.heap.size,0,none⟩) 2 2) [3,4] [3,4] _ (o2.ints (by simp)) (Xbq w1 [3,4] 3 (by decide)))
 rw[show decide (([3,4]:List Int)= [3,4])=true from by{decide}]at HC
 have HO:=Xqh o2
 clear o1 o2
 go_wp2_with fail
 refine HC.out.mono ?_
 rintro e w2⟨rfl,hB⟩
 clear HC
 have o:Own w w.heap.size [.arena g XaD] w2:=(HO.out.read hB).drop.drop
 clear HO hB
 generalize w2=w0 at*
 have HO:=Xqh o
 clear o
 go_wp2
 go_ret
 exact⟨rfl,HO.out.low⟩
end
section
theorem NL.fold {A:Ar}{R:Int→Prop}(hI:A.Inv):∀(L:List Int){dn:List Int}{B:Ar},NL A R dn B→(∀x∈L,A.has x∧x∉dn∧R x∧∀k∈(A.get x).Xc,R k)→L.Nodup→NL A R (dn++L) (L.foldl Ar.join B)
 | [],dn,B,h,_,_=>by{rw[List.append_nil];exact h}
 |x::L,dn,B,h,hL,hn=>by{obtain⟨a1,a2,a3⟩:=hL x (by simp);have h1:=List.nodup_cons.1 hn;have:=NL.fold hI L (h.step hI a1 a2 a3) (fun y hy=>by obtain⟨b1,b2,b3⟩:=hL y (by simp[hy]);refine⟨b1,fun q=>?_,b3⟩;rcases List.mem_append.1 q with r|r;·{exact b2 r};·rw[List.mem_singleton.1 r]at hy;exact h1.1 hy) h1.2;rw[List.append_assoc]at this;exact this}
theorem below_mono {A B:Ar}(hA:A.Inv)(hB:B.Inv)(hh:∀y,B.has y→A.has y)(hs:∀y,B.has y→∀k∈(B.get y).Xc,k∈(A.get y).Xc):∀h,B.has h→∀x∈B.below h,x∈A.below h:=by
 refine Jc hB (fun h hb _ ih x hx=>?_)
 rw[ZD hB hb]at hx
 rw[ZD hA (hh h hb)]
 obtain⟨k,hk,hx⟩:=List.mem_flatMap.1 hx
 refine List.mem_flatMap.2 ⟨k,hs h hb k hk,?_⟩
 rcases List.mem_cons.1 hx with e|e
 ·rw[e];simp
 ·exact List.mem_cons_of_mem _ (ih k hk x e)
theorem root_kid {A:Ar}(hI:A.Inv){x k:Int}(hx:A.has x)(hk:k∈(A.get x).Xc):A.root k=A.root x:=by
 obtain⟨h1,h2⟩:=hI.wf.Xc x hx k hk
 have w1:=hI.wf.wayPlain h1
 have w2:=hI.wf.wayPlain hx
 have w3:A.Way (Ye A false) k (k::A.YR false x):=⟨rfl,h1,by have:Ye A false k=x:=by{unfold Ye;simpa using h2};rw[this];exact w2⟩
 have e:=XaH w1 w3
 have hm:=Xcx w2 hx
 unfold Ar.root
 rw[if_pos h1,if_pos hx,e]
 cases hl:A.YR false x with|nil=>{rw[hl]at hm;cases hm}|cons a l=>rw[List.getLast?_cons_cons]
theorem root_below {A:Ar}(hI:A.Inv):∀h,A.has h→∀x∈A.below h,A.root x=A.root h:=by
 refine Jc hI (fun h hh _ ih x hx=>?_)
 rw[ZD hI hh]at hx
 obtain⟨k,hk,hx⟩:=List.mem_flatMap.1 hx
 rcases List.mem_cons.1 hx with e|e
 ·rw[e];exact root_kid hI hh hk
 ·exact(ih k hk x e).trans (root_kid hI hh hk)
theorem below_trans {A:Ar}(hI:A.Inv):∀h,A.has h→∀x∈A.below h,∀k∈(A.get x).Xc,k∈A.below h:=by
 refine Jc hI (fun h hh _ ih x hx k hk=>?_)
 rw[ZD hI hh]at hx⊢
 obtain⟨y,hy,hx⟩:=List.mem_flatMap.1 hx
 refine List.mem_flatMap.2 ⟨y,hy,List.mem_cons_of_mem _ ?_⟩
 have hyA:=(hI.wf.Xc h hh y hy).1
 rcases List.mem_cons.1 hx with e|e
 ·subst e;rw[ZD hI hyA];exact List.mem_flatMap.2 ⟨k,hk,by simp⟩
 ·exact ih y hy x e k hk
theorem norm_law {A:Ar}(hI:A.Inv){h:Int}(hh:A.has h):∃B,A.normalize h=(0,B)∧B.Inv∧B.ns.length=A.ns.length∧(∀y,A.has y→(B.get y).Xa=(A.get y).Xa∧((A.get y).Xa≠5→(B.Xbl y).1=(A.Xbl y).1))∧(∀y,A.has y→B.Zi (B.below y)=A.Zi (A.below y))∧(∀k,A.has k→A.root k≠A.root h→B.get k=A.get k)∧(∀p,p=h∨p∈B.below h→good B p)∧B.normalize h=(0,B):=by
 obtain⟨A1,hA1⟩:∃A1,A1=A.join h:=⟨_,rfl⟩
 obtain⟨R,hR⟩:∃R:Int→Prop,R=fun k=>A.root k=A.root h:=⟨_,rfl⟩
 have Rr:∀k,R k↔A.root k=A.root h:=fun k=>by rw[hR]
 have n1:NL A R [h] A1:=by rw[hA1];exact(NL.start hI R).step hI hh (by simp) ⟨(Rr h).2 rfl,fun k hk=>(Rr k).2 (root_kid hI hh hk)⟩
 have hI1:=n1.base.inv
 have hh1:=n1.base.has hh
 have hnd:=Xfn hI1 hh1
 have hsub1:=below_mono hI hI1 (fun y hy=>n1.base.XhO hy) (fun y hy=>n1.sub y (n1.base.XhO hy)) h hh1
 have hm1:∀x∈A1.below h,A1.has x:=fun x hx=>(Zt hI1 h hh1 x hx).1
 obtain⟨B,hB⟩:∃B,B=(A1.below h).foldl Ar.join A1:=⟨_,rfl⟩
 have n2:=NL.fold hI (A1.below h) n1 (fun x hx=>by have ax:=n1.base.XhO (hm1 x hx);have rx:=root_below hI h hh x (hsub1 x hx);refine⟨ax,fun q=>?_,(Rr x).2 rx,fun k hk=>(Rr k).2 ((root_kid hI ax hk).trans rx)⟩;rw[List.mem_singleton.1 q]at hx;exact(List.nodup_cons.1 hnd).1 hx) (List.nodup_cons.1 hnd).2
 have n3:=NL.fold hI1 (A1.below h) (NL.start hI1 (fun _=>True)) (fun x hx=>⟨hm1 x hx,by simp,trivial,fun _ _=>trivial⟩) (List.nodup_cons.1 hnd).2
 rw[←hB]at n2 n3
 have hBI:=n2.base.inv
 have hhB:=n2.base.has hh
 have hgood:∀p,p=h∨p∈B.below h→good B p:=fun p hp=>by refine(n2.good p ?_).2;rcases hp with e|e;·{rw[e];simp};·exact List.mem_append.2 (.inr (below_mono hI1 hBI (fun y hy=>n3.base.XhO hy) (fun y hy=>n3.sub y (n3.base.XhO hy)) h hhB p e))
 refine⟨B,?_,hBI,n2.base.len,fun y hy=>?_,n2.text,fun k hk hr=>n2.out k hk (fun q=>hr ((Rr k).1 q)),hgood,?_⟩
 ·unfold Ar.normalize;rw[if_pos hh,←hA1,←hB]
 ·obtain⟨a1,a2⟩:=n2.Xa y hy;refine⟨a1,fun h5=>?_⟩;have hyB:=n2.base.has hy;have tc:∀C:Ar,C.has y→(C.Xbl y).1=if(C.get y).Xa=5∨(C.get y).Xa=6 then(C.get y).data else if(C.get y).Xa=1∨(C.get y).Xa=3 then ByteArray.empty else⟨(C.Zi (C.below y)).toArray⟩:=fun C hC=>by{unfold Ar.Xbl;rw[if_neg (fun q=>q hC)];split;·{rfl};·split;·{rfl};·rfl};rw[tc A hy,tc B hyB,a1,a2 h5,n2.text y hy]
 ·unfold Ar.normalize;rw[if_pos hhB,join_good hBI hhB (hgood h (.inl rfl))];have:∀L:List Int,(∀x∈L,x∈B.below h)→L.foldl Ar.join B=B:=by{intro L;induction L with|nil=>{intro _;rfl}|cons x L ih=>intro hL;have hx:=hL x (by simp);rw[List.foldl_cons,join_good hBI (Zt hBI h hhB x hx).1 (hgood x (.inr hx))];exact ih (fun y hy=>hL y (by simp[hy]))};rw[this _ (fun x hx=>hx)]
theorem below_way {A:Ar}(hI:A.Inv){h:Int}(hh:A.has h):∀(l:List Int)(k:Int),A.Way (Ye A false) k l→h∈l→k=h∨((A.get k).Xd=h∨(A.get k).Xd∈A.below h)∧(A.get k).Xd≠0∧A.has k
 | [],k,_,hm=>by{cases hm}
 |x::l,k,hw,hm=>by{obtain⟨rfl,h1,h2⟩:=hw;by_cases e:x=h;·{exact .inl e};·right;have hm2:h∈l:=(List.mem_cons.1 hm).resolve_left (fun q=>e q.symm);have h3:A.Way (Ye A false) (A.get x).Xd l:=h2;have hp:(A.get x).Xd≠0:=fun q=>by{rw[q]at h3;cases l with|nil=>{cases hm2}|cons y l=>obtain⟨r,s,-⟩:=h3;exact Za _ s};refine⟨?_,hp,h1⟩;rcases below_way hI hh l _ h3 hm2 with q|⟨q1,q2,q3⟩;·{exact .inl q};·right;have hk:=(hI.wf.link _ q3 q2).2.1;rcases q1 with r|r;·{rw[r]at hk;rw[ZD hI hh];exact List.mem_flatMap.2 ⟨_,hk,by simp⟩};·exact below_trans hI h hh _ r _ hk}
end
section
theorem alt_prev {B:Ar}:∀(l:List Int)(b:Bool)(i:Nat)(x y:Int),alt B b l→l[i]?=some x→l[i+1]?=some y→(B.get y).Xa=5→(B.get x).Xa≠5
 |k::l,b,0,x,y,ha,hx,hy,h5=>by{obtain rfl:k=x:=by{simpa using hx};unfold alt at ha;split at ha;·{rename_i q;exact q};·cases l with|nil=>{simp at hy}|cons z l=>obtain rfl:z=y:=by{simpa using hy};have h2:=ha.2;unfold alt at h2;rw[if_neg (fun e=>e h5)]at h2;exact absurd h2.1 (by simp)}
 |k::l,b,i+1,x,y,ha,hx,hy,h5=>by{unfold alt at ha;have hx:l[i]?=some x:=by{simpa using hx};have hy:l[i+1]?=some y:=by{simpa using hy};split at ha;·{exact alt_prev l _ i x y ha hx hy h5};·exact alt_prev l _ i x y ha.2 hx hy h5}
theorem findI_at {l:List Int}{i:Nat}{x:Int}(hn:l.Nodup)(hi:l[i]?=some x):Yt (fun y=>decide (y=x)) l=i:=by
 refine Xbc hi (by simp) (fun j y hj hy=>?_)
 have h1:=(List.getElem?_eq_some_iff.1 hi)
 have h2:=(List.getElem?_eq_some_iff.1 hy)
 simp
 intro e
 subst e
 have:=(List.getElem_inj hn (i:=j) (j:=i) (h₀:=h2.1) (h₁:=h1.1)).1 (h2.2.trans h1.2.symm)
 omega
theorem text_pos {B:Ar}(hI:B.Inv){h k:Int}(hh:B.has h)(hk:B.has k)(hne:k≠h)(hw:h∈B.YR false k)(h5:(B.get k).Xa=5)(hg:∀p,p=h∨p∈B.below h→good B p):∃(p:Int)(i:Nat)(Xc:List Int),(B.get k).Xd=p∧p≠0∧B.has p∧(B.get p).Xc=Xc∧B.index k=i∧Xc[i]?=some k∧(B.get k).data≠ByteArray.empty∧∀j,i=j+1→∃y,Xc[j]?=some y∧B.has y∧(B.get y).Xa≠5:=by
 rcases below_way hI hh _ k (hI.wf.wayPlain hk) hw with e|⟨e1,e2,-⟩
 ·exact absurd e hne
 ·obtain⟨l1,l2,l3⟩:=hI.wf.link k hk e2;obtain⟨i,hi⟩:=List.mem_iff_getElem?.1 l2;obtain⟨g1,g2⟩:=hg _ e1;refine⟨_,i,_,rfl,e2,l1,rfl,?_,hi,g2 k l2 h5,fun j hj=>?_⟩;·{unfold Ar.index;rw[if_pos ⟨hk,e2⟩];exact findI_at l3 hi};·subst hj;have hlt:=(List.getElem?_eq_some_iff.1 hi).1;obtain⟨y,hy⟩:∃y,(B.get (B.get k).Xd).Xc[j]?=some y:=⟨_,List.getElem?_eq_getElem (by omega)⟩;exact⟨y,hy,(hI.wf.Xc _ l1 y (List.mem_of_getElem? hy)).1,alt_prev _ _ j y k g1 hy hi h5⟩
end
section
open Go.RowKit Classical
theorem Copy_own {w0 w:World}{B b:Nat}{A:Ar}{l:List Xf}(o:Own w0 B l w)(hm:Xf.arena b A∈l)(hS:A.YC):Calls Tryz.prog 77 #[.pointer (some ⟨b,0,none⟩)] w fun e w'=>∃bo,e= .returned (.pointer (some ⟨bo,0,none⟩))∧Own w0 B (.arena bo A::l) w':=by
 obtain⟨ρ,hA⟩:=o.arena hm
 refine(Copy_any A ρ b w hA hS).mono ?_
 rintro e w'⟨hB,bo,σ,rfl,hC,hσ⟩
 exact⟨bo,rfl,o.fresh hB ⟨fun k=>σ k≠0,⟨σ,hC,fun _=>Iff.rfl⟩,fun k hk=>hσ k hk⟩⟩
theorem Equal_own {w0 w:World}{D b c:Nat}{A B:Ar}{l:List Xf}{r:Bool}(o:Own w0 D l w)(h1:Xf.arena b A∈l)(h2:Xf.arena c B∈l)(hI:A.Inv)(hJ:B.Inv)(hs:A.ns.length≤100000)(hs':B.ns.length≤100000)(hr:decide (A=B)=r):Calls Tryz.prog 78 #[.pointer (some ⟨b,0,none⟩),.pointer (some ⟨c,0,none⟩)] w fun e w'=>e= .returned (.bool r)∧Own w0 D l w':=by
 obtain⟨ρ,hA⟩:=o.arena h1
 obtain⟨σ,hB⟩:=o.arena h2
 refine(Equal_any A B ρ σ b c hI hJ hs hs' w hA hB).mono ?_
 rintro e w'⟨rfl,hB⟩
 exact⟨by rw[hr],o.read hB⟩
theorem way_get {A:Ar}:∀{l:List Int}{k:Int},A.Way (Ye A false) k l→((l[0]?).getD 0=k)∧∀(j:Nat)(x:Int),l[j]?=some x→A.has x∧A.parentOf x=(l[j+1]?).getD 0
 | [],k,hw=>⟨hw.symm,fun j x h=>by simp at h⟩
 |y::l,k,hw=>by{obtain⟨rfl,h1,h2⟩:=hw;obtain⟨i1,i2⟩:=way_get h2;refine⟨rfl,fun j x h=>?_⟩;cases j with|zero=>{obtain rfl:y=x:=by{simpa using h};refine⟨h1,?_⟩;have e:A.parentOf y=Ye A false y:=by{unfold Ar.parentOf Ye;rw[if_pos h1];rfl};rw[e,←i1];rfl}|succ j=>exact i2 j x (by simpa using h)}
theorem reaches_own {w0 w:World}{B b:Nat}{A:Ar}{l:List Xf}{u k:Int}(o:Own w0 B l w)(hm:Xf.arena b A∈l)(hI:A.Inv)(hs:A.ns.length≤100000)(hk:A.has k):Calls Tryz.prog 81 #[.pointer (some ⟨b,0,none⟩),.int .i64 u,.int .i64 k] w fun e w'=>e= .returned (.bool (decide (u∈A.YR false k)))∧w=w':=by
 have HP:=Xqh (fun x=>Xev o hm (h:=x))
 have HL:=Xqh (XkI o hm)
 have hw:=hI.wf.wayPlain hk
 obtain⟨g1,g2⟩:=way_get hw
 have hlen:=XdV hw
 generalize A.YR false k=W at*
 have G1:=Xqh g1
 have G2:=Xqh g2
 clear g1 g2 hw o hm hI hk
 go_enter Tryz.func81,Tryz.ntmps81
 go_wp2
 go_loop [2,7](fun x s=>∃j:Nat,j≤W.length∧s= .int .i64 j∧∃y:Int,x= .int .i64 y∧Hid (y=(W[j]?).getD 0)∧Hid (u∉W.take j))(fun _ s=>W.length-(intOf s).toNat)
 case atStart=>exact⟨0,Nat.zero_le _,rfl,k,rfl,Xqh G1.out.symm,Xqh (by simp)⟩
 case round=>obtain⟨j,hj,rfl,y,rfl,HY,HU⟩:=hrel;by_cases hlt:j<W.length;·{obtain⟨x,hx⟩:∃x,W[j]?=some x:=⟨_,List.getElem?_eq_getElem hlt⟩;have hyx:y=x:=by{rw[HY.out,hx];rfl};subst hyx;obtain⟨q1,q2⟩:=G2.out j y hx;have hy0:(y !=0)=true:=by{simp;intro e;rw[e]at q1;exact Za _ q1};have HX:=Xqh hx;have HQ2:=Xqh q2;clear hx q1 q2 HY;by_cases hyu:y=u;·{have e1:(y==u)=true:=by{simp[hyu]};have HIN:Hid (decide (u∈W)=true):=Xqh (decide_eq_true (by rw[←hyu];exact List.mem_of_getElem? HX.out));clear hyu;go_wp2_with fail;refine HL.out.mono ?_;rintro e w1⟨rfl,rfl⟩;go_wp2;go_ret;exact⟨XW HIN.out.symm,rfl⟩};·have e1:(y==u)=false:=by{simp[hyu]};have HU2:Hid (u∉W.take (j+1)):=Xqh (by rw[List.take_add_one,HX.out];intro q;rcases List.mem_append.1 q with r|r;·{exact HU.out r};·simp at r;exact hyu r.symm);clear hyu HU;go_wp2_with fail;refine HL.out.mono ?_;rintro e w1⟨rfl,rfl⟩;go_wp2_with fail;refine(HP.out y).mono ?_;rintro e w1⟨rfl,rfl⟩;go_wp2;go_round;(case rel=>exact⟨j+1,hlt,by go_num,_,rfl,HQ2,HU2⟩);case measure=>simp[intOf];omega};·have hje:j=W.length:=by{omega};have hy:y=0:=by{rw[HY.out,List.getElem?_eq_none (by omega)];rfl};subst hy;have HF:Hid (decide (u∈W)=false):=Xqh (decide_eq_false (by have:=HU.out;rw[hje,List.take_length]at this;exact this));clear hje HY HU;go_wp2;go_ret;exact⟨XW HF.out.symm,rfl⟩
theorem row_cell {w:World}{b n:Nat}{e:TypeId}{v:Value}{xs:List Value}(h:w.ownsRow b e 1 v n xs){k:Nat}{s:Value}(hk:xs[k]?=some s):∃g cap,v= .slice (some ⟨g,0,none⟩) n cap∧w.cell? ⟨g,k,none⟩=some s:=by
 have hl:=(List.getElem?_eq_some_iff.1 hk).1
 rcases h.2 with⟨g4,g5⟩|⟨g,cap,cur,rfl,_,hg,hn,hc,hs,ht⟩
 ·have:=h.1;omega
 ·refine⟨g,cap,rfl,?_⟩;rw[cell_of_row w g _ cur _ (0,0) hg];rw[←ht,List.getElem?_take]at hk;split at hk;·{simpa using hk};·cases hk
theorem DomNormalizes_no (v0:Value)(l:List OpD)(h:Int)(w:World)(hv:JW w v0 l)(hs:¬Jj l 100):Calls Tryz.prog 18 #[v0,.int .i64 h] w fun e w'=>e= .returned (.bool true)∧Below w.heap.size w w':=by
 have HS:=Xqh (XdA v0 l 100 w hv)
 have HD:=Xqh (show decide (Jj l 100)=false from decide_eq_false hs)
 obtain⟨av,cv,rfl,-⟩:=hv
 go_enter Tryz.func18,Tryz.ntmps18
 go_wp2_with fail
 refine HS.out.mono ?_
 rintro e w1⟨rfl,hB1⟩
 rw[HD.out]
 go_wp2_with fail
 refine(XdO w1).mono ?_
 rintro e w2⟨rfl,hB2⟩
 go_wp2
 go_ret
 exact⟨rfl,hB1.trans (hB2.mono hB1.size)⟩
/-- What the second loop looks at. -/
structure NFacts (A B : Ar) (h : Int) (ts : Nat → ByteArray) : Prop where
  inv : B.Inv
  len : B.ns.length = A.ns.length
  two : B.normalize h = (0, B)
  tx : ∀ y, B.has y → B.YJ y ≤ 9223372036854775807
  big : ∀ k : Nat, k < A.ns.length → (B.Zi (B.below ((k : Int) + 1))).length ≤ 140737488355328
  text : ∀ (k : Nat) (y : Nd), B.ns[k]? = some y → y.Xa ≠ 5 → (B.Xbl ((k : Int) + 1)).1 = ts k
  same : ∀ (k : Nat) (y : Nd), B.ns[k]? = some y → A.root h ≠ A.root ((k : Int) + 1) → A.ns[k]? = some y
  pos : ∀ (k : Nat) (y : Nd), B.ns[k]? = some y → y.Xa = 5 → (k : Int) + 1 ≠ h → h ∈ B.YR false ((k : Int) + 1) → ∃ (p : Int) (i : Nat) (Xc : List Int), B.parentOf ((k : Int) + 1) = p ∧ B.YN p = Xc ∧ B.index ((k : Int) + 1) = i ∧ i < Xc.length ∧ y.data.toList.isEmpty = false ∧ ∀ j, i = j + 1 → ∃ z nz, Xc[j]? = some z ∧ (if B.has z then B.get z else XL) = nz ∧ (if B.has z then (0 : Int) else 3) = 0 ∧ (nz.Xa == 5) = false
theorem kidsOf_lenN {A:Ar}(hI:A.Inv){p:Int}{Xc:List Int}(h:A.YN p=Xc):Xc.length≤A.ns.length:=by
 subst h
 unfold Ar.YN
 split
 ·rename_i hh;exact Ar.Yz hI.wf hh
 ·exact Nat.zero_le _
theorem ns_has {B:Ar}{k:Nat}{y:Nd}(h:B.ns[k]?=some y):B.has ((k:Int)+1)∧B.get ((k:Int)+1)=y:=Ihas h
theorem norm_facts {A:Ar}(hI:A.Inv){h:Int}(hh:A.has h)(htx:∀y,A.has y→A.YJ y≤9223372036854775807)(hbig:∀y,A.has y→(A.Zi (A.below y)).length≤140737488355328):∃B,A.normalize h=(0,B)∧NFacts A B h (fun k=>(A.Xbl ((k:Int)+1)).1):=by
 obtain⟨B,n1,n2,n3,n4,n5,n6,n7,n8⟩:=norm_law hI hh
 have hasA:∀y,B.has y→A.has y:=fun y hy=>by unfold Ar.has Ar.n at hy⊢;rw[←n3];exact hy
 have hhB:B.has h:=by unfold Ar.has Ar.n at hh⊢;rw[n3];exact hh
 refine⟨B,n1,n2,n3,n8,fun y hy=>?_,fun k hk=>?_,fun k y hy h5=>?_,fun k y hy hr=>?_,fun k y hy h5 hne hw=>?_⟩
 ·have:=Xnc hI h (hasA y hy);rw[n1]at this;exact Nat.le_trans this (htx y (hasA y hy))
 ·have hk2:A.has ((k:Int)+1):=⟨by omega,by unfold Ar.n;omega⟩;rw[n5 _ hk2];exact hbig _ hk2
 ·obtain⟨a1,a2⟩:=ns_has hy;obtain⟨b1,b2⟩:=n4 _ (hasA _ a1);exact b2 (by rw[←b1,a2];exact h5)
 ·obtain⟨a1,a2⟩:=ns_has hy;have:=n6 _ (hasA _ a1) (fun e=>hr e.symm);rw[a2]at this;have h3:=Ar.get_some (hasA _ a1);rw[show((k:Int)+1).toNat-1=k by(omega)]at h3;rw[h3,←this]
 ·obtain⟨a1,a2⟩:=ns_has hy;obtain⟨p,i,Xc,q1,q2,q3,q4,q5,q6,q7,q8⟩:=text_pos n2 hhB a1 hne hw (by rw[a2];exact h5) n7;refine⟨p,i,Xc,by unfold Ar.parentOf;rw[if_pos a1,q1],by unfold Ar.YN;rw[if_pos q3,q4],q5,(List.getElem?_eq_some_iff.1 q6).1,?_,fun j hj=>?_⟩;·{rw[a2]at q7;rw[Xck];exact decide_eq_false q7};·obtain⟨z,z1,z2,z3⟩:=q8 j hj;exact⟨z,_,z1,rfl,if_pos z2,by rw[if_pos z2];simpa using z3⟩
end
end Go.Proofs.YtpicinjcmjaogaaGreat
