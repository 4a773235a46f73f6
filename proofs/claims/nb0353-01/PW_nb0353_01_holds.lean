import PyProof.Rows.All
import Wide.All
import OpenK.AllK
import Wide.FinOn
import Lean
import PySem.Challenge.RW_nb0353_01
open List renaming getElem?_eq_some_iff → zS, getElem?_eq_getElem → zG, getElem?_append_right → zR, getElem?_append_left → zL, getElem?_set_ne → zN, getElem?_set_self → zT, getElem?_eq_none_iff → ZC, contains_iff_mem → ZE, all_eq_true → ZF, range → ZG, mem_cons → ZH, lookup_cons → ZI, getElem?_map → ZK, drop_eq_nil_iff → ZL, map_congr_left → ZO, mem_range → ZP, mem_filter → ZQ, mem_map → ZR, length_map → ZS, mem_append → ZT, replicate → ZV, map_cons → ZZ, getElem?_drop → Z1, length_set → Z4, set_getElem_self → Z7, any_eq_true → Z8, set_append_left → Z9, filter_cons → Zb, length_filter_le → Zc, size_toArray → Ze, mem_of_getElem? → Zg, mem_iff_getElem → Zh, set_set → Zj, length_cons → Zk, filter_congr → Zm, set_append_right → Zn, drop_drop → Zp, map_map → Zr, pairwise_cons → Zs, map_append → Zu, foldl_cons → Zv, mem_filterMap → Zx, set_comm → Zz, forIn_nil → YA, lookup → YB
open PySem.Heap renaming get?_push_of_some → zH, lt_size → ZB, get?_push_size → ZN, get?_update_other → ZU, size_push → Zo, get?_update_self → Zw
open Nat renaming le_refl → ZA, lt_of_lt_of_le → ZD, lt_irrefl → ZJ, le_of_not_lt → ZW, not_lt → ZX, sub_self → ZY, le_trans → Z2, ne_of_lt → Z6, lt_succ_self → Za, lt_succ_of_lt → Zd, le_succ → Zf, zero_le → Zl, add_zero → Zq, add_sub_cancel_left → Zt
open Bool renaming and_eq_true_iff → ZM, false_ne_true → Z0, and_eq_true → Z3, eq_iff_iff → Zi, false_eq_true → Zy
open Option renaming map_eq_some_iff → Z5
open PySem renaming wpAny_bind → YC, wpAny_pure → YD, wpAny_mono → YE, wpAny_holding → YF, wpAny_standAt → YG, wpAny_execs_cons → YH
open PySem PySem.W PyProof.Rows
set_option Elab.async false
set_option linter.all false
set_option maxRecDepth 100000
set_option maxHeartbeats 0
set_option genSizeOf false
set_option genSizeOfSpec false
namespace Mine
local macro_rules | `(tactic|omega) => `(tactic| lia)
local macro_rules | `(tactic| w_on) => `(tactic| kernel_rfl)
section
variable{a b c d e f a6:Sort _}{G:Prop}{P Q R S T U:Prop}{p q r s t:a→Prop}{A B C D E F H I:a→b→Prop}{J K L M N O N'':a→b→c→Prop}{K' L' M' N' O' J' K'' L'':a→b→c→d→Prop}{A' B' C' D' T' U':a→b→c→d→e→Prop}{E' F' H' I' P':a→b→c→d→e→f→Prop}{P'' Q'' R'' S'' T'':a→b→c→d→e→f→a6→Prop}
theorem cc(h:∃x,p x)(k:∀x,p x→G):G:=h.elim k
theorem aV(h:P∧Q)(k:P→Q→G):G:=h.elim k
theorem ah(h:∃x,p x∧q x)(k:∀x,p x→q x→G):G:=h.elim λx h=>aV h (k x)
theorem fv(h:P∧Q∧R)(k:P→Q→R→G):G:=h.elim λi h=>aV h (k i)
theorem mW{b:a→Sort _}{p:∀x,b x→Prop}(h:∃x y,p x y)(k:∀x y,p x y→G):G:=h.elim λx h=>h.elim (k x)
theorem FK(h:P∧∃x,p x)(k:P→∀x,p x→G):G:=h.elim λi h=>cc h (k i)
theorem br(h:∃x,p x∧q x∧r x)(k:∀x,p x→q x→r x→G):G:=h.elim λx h=>fv h (k x)
theorem dk(h:∃x y,A x y∧B x y)(k:∀x y,A x y→B x y→G):G:=h.elim λx h=>ah h (k x)
theorem iY(h:∃x y z,J x y z)(k:∀x y z,J x y z→G):G:=h.elim λx h=>h.elim λy h=>h.elim λz h=>k x y z h
theorem lQ(h:P∧Q∧R∧S)(k:P→Q→R→S→G):G:=h.elim λi h=>fv h (k i)
theorem vU(h:P∧∃x,p x∧q x)(k:P→∀x,p x→q x→G):G:=h.elim λi h=>ah h (k i)
theorem cj(h:∃x y,A x y∧B x y∧C x y)(k:∀x y,A x y→B x y→C x y→G):G:=h.elim λx h=>br h (k x)
theorem cv(h:∃x,p x∧q x∧r x∧s x)(k:∀x,p x→q x→r x→s x→G):G:=h.elim λx h=>lQ h (k x)
theorem dg(h:∃x y z,J x y z∧K x y z)(k:∀x y z,J x y z→K x y z→G):G:=h.elim λx h=>dk h (k x)
theorem qW(h:∃x,p x∧q x∧∃y,A x y)(k:∀x,p x→q x→∀y,A x y→G):G:=h.elim λx h=>h.elim λα h=>h.elim λβ h=>h.elim λy h=>k x α β y h
theorem om(h:∃x,p x∧∃y,A x y∧B x y)(k:∀x,p x→∀y,A x y→B x y→G):G:=h.elim λx h=>vU h (k x)
theorem vC(h:P∧Q∧∃x,p x∧q x)(k:P→Q→∀x,p x→q x→G):G:=h.elim λi h=>vU h (k i)
theorem nU(h:P∧Q∧R∧S∧T)(k:P→Q→R→S→T→G):G:=h.elim λi h=>lQ h (k i)
theorem c7(h:∃x y z,J x y z∧K x y z∧L x y z)(k:∀x y z,J x y z→K x y z→L x y z→G):G:=h.elim λx h=>cj h (k x)
theorem cU(h:∃x y,A x y∧B x y∧C x y∧D x y)(k:∀x y,A x y→B x y→C x y→D x y→G):G:=h.elim λx h=>cv h (k x)
theorem m8(h:P∧Q∧R∧S∧T∧U)(k:P→Q→R→S→T→U→G):G:=h.elim λi h=>nU h (k i)
theorem rG(h:∃x,p x∧q x∧r x∧s x∧t x)(k:∀x,p x→q x→r x→s x→t x→G):G:=h.elim λx h=>nU h (k x)
theorem dT(h:∃x y z,J x y z∧K x y z∧L x y z∧M x y z)(k:∀x y z,J x y z→K x y z→L x y z→M x y z→G):G:=h.elim λx h=>cU h (k x)
theorem i5(h:∃x y,A x y∧B x y∧C x y∧D x y∧E x y)(k:∀x y,A x y→B x y→C x y→D x y→E x y→G):G:=h.elim λx h=>rG h (k x)
theorem lg(h:∃x y z u,K' x y z u∧L' x y z u∧M' x y z u)(k:∀x y z u,K' x y z u→L' x y z u→M' x y z u→G):G:=h.elim λx h=>c7 h (k x)
theorem cP(h:∃x y z,J x y z∧K x y z∧L x y z∧M x y z∧N x y z)(k:∀x y z,J x y z→K x y z→L x y z→M x y z→N x y z→G):G:=h.elim λx h=>i5 h (k x)
theorem dZ(h:∃x y,A x y∧B x y∧C x y∧D x y∧E x y∧F x y)(k:∀x y,A x y→B x y→C x y→D x y→E x y→F x y→G):G:=h.elim λx h=>h.elim λy h=>h.elim λα h=>h.elim λβ h=>h.elim λγ h=>h.elim λδ h=>h.elim λε h=>k x y α β γ δ ε h
theorem hY(h:∃x y z u,K' x y z u∧L' x y z u∧M' x y z u∧N' x y z u)(k:∀x y z u,K' x y z u→L' x y z u→M' x y z u→N' x y z u→G):G:=h.elim λx h=>dT h (k x)
theorem gZ(h:∃x y z u v,A' x y z u v∧B' x y z u v∧C' x y z u v)(k:∀x y z u v,A' x y z u v→B' x y z u v→C' x y z u v→G):G:=h.elim λx h=>lg h (k x)
theorem ku(h:∃x y z,J x y z∧K x y z∧L x y z∧M x y z∧N x y z∧O x y z)(k:∀x y z,J x y z→K x y z→L x y z→M x y z→N x y z→O x y z→G):G:=h.elim λx h=>dZ h (k x)
theorem iz(h:∃x y z u,K' x y z u∧L' x y z u∧M' x y z u∧N' x y z u∧O' x y z u)(k:∀x y z u,K' x y z u→L' x y z u→M' x y z u→N' x y z u→O' x y z u→G):G:=h.elim λx h=>cP h (k x)
theorem dj(h:∃x y,A x y∧B x y∧C x y∧D x y∧E x y∧F x y∧H x y∧I x y)(k:∀x y,A x y→B x y→C x y→D x y→E x y→F x y→H x y→I x y→G):G:=h.elim λx h=>h.elim λy h=>h.elim λα h=>h.elim λβ h=>h.elim λγ h=>h.elim λδ h=>h.elim λε h=>h.elim λζ h=>h.elim λη h=>k x y α β γ δ ε ζ η h
theorem eU(h:P∧∃x y z u,K' x y z u∧L' x y z u∧M' x y z u∧N' x y z u∧O' x y z u)(k:P→∀x y z u,K' x y z u→L' x y z u→M' x y z u→N' x y z u→O' x y z u→G):G:=h.elim λi h=>iz h (k i)
theorem al(x)(α:p x)(β:q x):∃x,p x∧q x:=⟨x,α,β⟩
theorem bh(x y z)(α:J x y z)(β:K x y z):∃x y z,J x y z∧K x y z:=⟨x,y,z,α,β⟩
theorem bO(x)(α:p x)(β:q x)(γ:r x):∃x,p x∧q x∧r x:=⟨x,α,β,γ⟩
theorem bS(α:P)(β:Q)(x y)(γ:A x y)(δ:B x y):P∧Q∧∃x y,A x y∧B x y:=⟨α,β,x,y,γ,δ⟩
theorem cI(x y)(α:A x y)(β:B x y):∃x y,A x y∧B x y:=⟨x,y,α,β⟩
theorem dP(x y)(α:A x y)(β:B x y)(γ:C x y)(δ:D x y):∃x y,A x y∧B x y∧C x y∧D x y:=⟨x,y,α,β,γ,δ⟩
theorem fq(x y)(α:A x y)(β:B x y)(γ:C x y):∃x y,A x y∧B x y∧C x y:=⟨x,y,α,β,γ⟩
theorem cH(x y z)(α:J x y z)(β:K x y z)(γ:L x y z)(δ:M x y z)(ε:N x y z):∃x y z,J x y z∧K x y z∧L x y z∧M x y z∧N x y z:=⟨x,y,z,α,β,γ,δ,ε⟩
theorem gA(x)(α:p x)(β:q x)(γ:r x)(δ:s x):∃x,p x∧q x∧r x∧s x:=⟨x,α,β,γ,δ⟩
theorem tQ{b:a→Sort _}{p:∀x,b x→Prop}(x)(y:b x)(h:p x y):∃x y,p x y:=⟨x,y,h⟩
theorem iG(x)(α:p x)(β:q x)(y)(γ:A x y):∃x,p x∧q x∧∃y,A x y:=⟨x,α,β,y,γ⟩
theorem fG(x y z u)(α:K' x y z u)(β:L' x y z u)(γ:M' x y z u)(δ:N' x y z u):∃x y z u,K' x y z u∧L' x y z u∧M' x y z u∧N' x y z u:=⟨x,y,z,u,α,β,γ,δ⟩
theorem eO(α:P)(x y z u)(β:K' x y z u)(γ:L' x y z u)(δ:M' x y z u)(ε:N' x y z u)(ζ:O' x y z u):P∧∃x y z u,K' x y z u∧L' x y z u∧M' x y z u∧N' x y z u∧O' x y z u:=⟨α,x,y,z,u,β,γ,δ,ε,ζ⟩
theorem jE(x y z)(α:J x y z)(β:K x y z)(γ:L x y z):∃x y z,J x y z∧K x y z∧L x y z:=⟨x,y,z,α,β,γ⟩
theorem iV(x y z)(α:J x y z)(β:K x y z)(γ:L x y z)(δ:M x y z):∃x y z,J x y z∧K x y z∧L x y z∧M x y z:=⟨x,y,z,α,β,γ,δ⟩
theorem ib(x y)(α:A x y)(β:B x y)(γ:C x y)(δ:D x y)(ε:E x y)(ζ:F x y):∃x y,A x y∧B x y∧C x y∧D x y∧E x y∧F x y:=⟨x,y,α,β,γ,δ,ε,ζ⟩
theorem wl(x y z)(α:J x y z):∃x y z,J x y z:=⟨x,y,z,α⟩
theorem kW(x y)(α:A x y)(β:B x y)(γ:C x y)(δ:D x y)(ε:E x y):∃x y,A x y∧B x y∧C x y∧D x y∧E x y:=⟨x,y,α,β,γ,δ,ε⟩
theorem ju(x y z u v)(α:A' x y z u v)(β:B' x y z u v)(γ:C' x y z u v):∃x y z u v,A' x y z u v∧B' x y z u v∧C' x y z u v:=⟨x,y,z,u,v,α,β,γ⟩
theorem uC(x)(α:p x)(y)(β:A x y)(γ:B x y):∃x,p x∧∃y,A x y∧B x y:=⟨x,α,y,β,γ⟩
theorem ko(x y z u)(α:K' x y z u)(β:L' x y z u)(γ:M' x y z u)(δ:N' x y z u)(ε:O' x y z u):∃x y z u,K' x y z u∧L' x y z u∧M' x y z u∧N' x y z u∧O' x y z u:=⟨x,y,z,u,α,β,γ,δ,ε⟩
theorem iq(x y z u)(α:K' x y z u)(β:L' x y z u)(γ:M' x y z u)(δ:N' x y z u)(ε:O' x y z u)(ζ:J' x y z u)(η:K'' x y z u):∃x y z u,K' x y z u∧L' x y z u∧M' x y z u∧N' x y z u∧O' x y z u∧J' x y z u∧K'' x y z u:=⟨x,y,z,u,α,β,γ,δ,ε,ζ,η⟩
theorem tD(x y z u)(α:K' x y z u)(β:L' x y z u)(γ:M' x y z u):∃x y z u,K' x y z u∧L' x y z u∧M' x y z u:=⟨x,y,z,u,α,β,γ⟩
theorem oL(x y z)(α:J x y z)(β:K x y z)(γ:L x y z)(δ:M x y z)(ε:N x y z)(ζ:O x y z):∃x y z,J x y z∧K x y z∧L x y z∧M x y z∧N x y z∧O x y z:=⟨x,y,z,α,β,γ,δ,ε,ζ⟩
theorem j5(x y z u)(α:K' x y z u)(β:L' x y z u)(γ:M' x y z u)(δ:N' x y z u)(ε:O' x y z u)(ζ:J' x y z u)(η:K'' x y z u)(θ:L'' x y z u):∃x y z u,K' x y z u∧L' x y z u∧M' x y z u∧N' x y z u∧O' x y z u∧J' x y z u∧K'' x y z u∧L'' x y z u:=⟨x,y,z,u,α,β,γ,δ,ε,ζ,η,θ⟩
theorem mA(x y z)(α:J x y z)(β:K x y z)(γ:L x y z)(δ:M x y z)(ε:N x y z)(ζ:O x y z)(η:N'' x y z):∃x y z,J x y z∧K x y z∧L x y z∧M x y z∧N x y z∧O x y z∧N'' x y z:=⟨x,y,z,α,β,γ,δ,ε,ζ,η⟩
theorem lJ(x y z u v w)(α:E' x y z u v w)(β:F' x y z u v w)(γ:H' x y z u v w)(δ:I' x y z u v w)(ε:P' x y z u v w):∃x y z u v w,E' x y z u v w∧F' x y z u v w∧H' x y z u v w∧I' x y z u v w∧P' x y z u v w:=⟨x,y,z,u,v,w,α,β,γ,δ,ε⟩
theorem ui(x y z)(α:J x y z)(β:K x y z)(u)(γ:K' x y z u):∃x y z,J x y z∧K x y z∧∃u,K' x y z u:=⟨x,y,z,α,β,u,γ⟩
theorem kV(x y z u v)(α:A' x y z u v)(β:B' x y z u v)(γ:C' x y z u v)(δ:D' x y z u v)(ε:T' x y z u v)(ζ:U' x y z u v):∃x y z u v,A' x y z u v∧B' x y z u v∧C' x y z u v∧D' x y z u v∧T' x y z u v∧U' x y z u v:=⟨x,y,z,u,v,α,β,γ,δ,ε,ζ⟩
theorem o6(x y z u v w l)(α:P'' x y z u v w l)(β:Q'' x y z u v w l)(γ:R'' x y z u v w l)(δ:S'' x y z u v w l)(ε:T'' x y z u v w l):∃x y z u v w l,P'' x y z u v w l∧Q'' x y z u v w l∧R'' x y z u v w l∧S'' x y z u v w l∧T'' x y z u v w l:=⟨x,y,z,u,v,w,l,α,β,γ,δ,ε⟩
end
theorem bb{α:Sort _}{G:Prop}(a:α)(k:∀x,x=a→G):G:=k a rfl
@[elab_as_elim] theorem JC {α:Sort _} {a b:α} {p:α→Prop} (h:a=b) (x:p b):p a:=by subst h;exact x
@[elab_as_elim] theorem Jx {α:Sort _} {a b:α} {p:α→Prop} (h:b=a) (x:p b):p a:=by subst h;exact x
@[elab_as_elim] theorem JG {a b:Prop} {p:Prop→Prop} (h:a↔b) (x:p b):p a:=by rw[h];exact x
theorem Jr{α:Type _}{a:α}{G:Prop}(h:none=some a):G:=(Option.some_ne_none a h.symm).elim
theorem JJ{α:Type _}{a:α}{G:Prop}(h:some a=none):G:=(Option.some_ne_none a h).elim
theorem JH{G:Prop}(h:true=false):G:=(Z0 h.symm).elim
theorem JB{G:Prop}(h:false=true):G:=(Z0 h).elim
theorem JI{α:Type _}{a:α}{G:Prop}(h:a∈[]):G:=(List.not_mem_nil h).elim
local macro_rules
  | `(tactic| rewrite [$t:term]) => `(tactic| first | refine JC $t ?_ | refine JG $t ?_ | fail)
  | `(tactic| rewrite [← $t:term]) => `(tactic| first | refine Jx $t ?_ | fail)
local macro_rules
  | `(tactic| rw [$r, $rs,*]) => `(tactic| (rewrite [$r]; rw [$rs,*]))
local macro_rules
  | `(tactic| cases $h:ident) => `(tactic| first | exact Jr $h | exact JJ $h | exact JH $h | exact JB $h | exact JI $h | (have q := Option.some.inj $h; clear $h; subst q))
def iv:List Obj→Nat→BT→BT
 | [],_,t=>t
 |o::l,n,t=>iv l (n+1) (t.ins n o)
def GQ(n:Nat)(t:BT):Prop:=∀i,i<n→(t.get i).isSome=true
theorem oI(o:Obj):∀(t:BT)(n:Nat),GQ n t→((t.ins n o).get n).isSome=true
 | .nil,n,h=>by
  have e:n=0:=by
   cases n with
   |zero=>rfl
   |succ n=>exact absurd (h 0 (by lia)) (by simp[BT.get])
  subst e
  rfl
 | .node v l r,n,h=>by
  rw[BT.ins_node]
  by_cases h0:n=0
  ·subst h0;rfl
  ·rw[if_neg h0]
   by_cases h1:n % 2=1
   ·rw[if_pos h1,BT.get_node,if_neg h0,if_pos h1]
    refine oI o l (n/2) λj hj=>?_
    have z:=h (2*j+1) (by lia)
    rw[BT.get_node,if_neg (by lia),if_pos (by lia),show(2*j+1)/2=j by lia]at z
    exact z
   ·rw[if_neg h1,BT.get_node,if_neg h0,if_neg h1]
    refine oI o r (n/2 - 1) λj hj=>?_
    have z:=h (2*j+2) (by lia)
    rw[BT.get_node,if_neg (by lia),if_neg (by lia),show(2*j+2)/2 - 1=j by lia]at z
    exact z
theorem oK:∀(l:List Obj)(n:Nat)(t:BT),GQ n t→∀i,i<n+l.length→(iv l n t).get i=if i<n then t.get i else l[i - n]?
 | [],n,t,h,i,hi=>by rw[if_pos (by simpa using hi)];rfl
 |o::l,n,t,h,i,hi=>by
  have g:=BT.get_ins o t n (oI o t n h)
  have f:GQ (n+1) (t.ins n o):= λj hj=>by
   rw[g]
   by_cases e:j=n
   ·rw[if_pos e];rfl
   ·rw[if_neg e];exact h j (by lia)
  show(iv l (n+1) (t.ins n o)).get i=_
  rw[oK l (n+1) (t.ins n o) f i (by simp at hi;lia),g]
  by_cases h1:i<n
  ·rw[if_pos (by lia),if_neg (by lia),if_pos h1]
  ·by_cases h2:i=n
   ·subst h2;simp
   ·rw[if_neg (by lia),if_neg h1,show i - n=(i - (n+1))+1 by lia,List.getElem?_cons_succ]
def I0(s:Shared):SharedT:=⟨iv s.heap.objs.toList 0 .nil,s.heap.objs.size,s.heap.life,s.gens,s.drawn,s.toks,s.os⟩
theorem wQ(s:Shared):(I0 s).abs=s:=by
 obtain⟨⟨objs,life⟩,gens,drawn,toks,os⟩:=s
 show(⟨absHeap (iv objs.toList 0 .nil) objs.size life,gens,drawn,toks,os⟩:Shared)=_
 have:absHeap (iv objs.toList 0 .nil) objs.size life=⟨objs,life⟩:=by
  show Heap.mk _ _=Heap.mk _ _
  congr 1
  apply Array.ext_getElem?
  intro i
  have z:=absHeap_at (iv objs.toList 0 .nil) objs.size life i
  have z:((absHeap (iv objs.toList 0 .nil) objs.size life).objs)[i]?=_:=z
  show((absHeap (iv objs.toList 0 .nil) objs.size life).objs)[i]?=objs[i]?
  rw[z]
  by_cases h:i<objs.size
  ·rw[if_pos h,oK objs.toList 0 .nil (λ_ h=>by lia) i (by simpa using h),if_neg (by lia),Nat.sub_zero]
   simp[h]
  ·rw[if_neg h];simp[h]
 rw[this]
theorem AQ{tb:String→Option Builtin}{p:Program}{w:World}{n:Nat}{s s':SharedT}{t t':Thread}(h:impGoT tb p w n s t=some (s',t'))(e:t'.atExitBegin=some []):importEnds tb p w (n+1) s.abs t=some s'.abs:=
 imp_go (impGo_of h) (by unfold importEnds;rw[e])
theorem uh(t:Thread):(endAt 0 t).isSome=through t:=by
 obtain⟨cur,code,pos,stack⟩:=t
 cases stack with
 |nil=>cases cur with
  |pure f=>cases f<;>rfl
  |_=>rfl
 |cons a l=>cases cur with
  |pure f=>cases f<;>rfl
  |_=>rfl
theorem sV{tb:String→Option Builtin}{p:Program}{w:World}{m:Nat}{ann:Option Value}:∀{n:Nat}{s s':Shared}{t:Thread}{f:Flow}{c:Code}{q:Pos},segRun tb p w m ann 0 n s t=some (f,s',c,q)→topRun tb p w m ann n s t=some s'
 |0,_,_,_,_,_,_,h=>by cases h
 |n+1,s,s',t,f,c,q,h=>by
  unfold segRun at h
  unfold topRun
  have e:=uh t
  cases he:endAt 0 t with
  |some g=>rw[he]at h e;cases h;rw[←e];rfl
  |none=>
   rw[he]at h e
   rw[←e]
   cases hk:stepOk m ann t with
   |false=>rw[hk]at h;cases h
   |true=>
    rw[hk]at h
    cases hs:step (denote tb) p w s t with
    |halt o s₂=>rw[hs]at h;cases h
    |go s₂ t₂=>rw[hs]at h;exact sV h
def Ej(imp:(String→Option Builtin)→Program→World→Nat→SharedT→Thread→Option (SharedT×Thread))(tb:String→Option Builtin)(fence:Program→Shared→Option Shared)(seg:(String→Option Builtin)→Program→World→Nat→Option Value→Nat→Nat→SharedT→Thread→Option (Flow×SharedT×Code×Pos))(p:Program)(w:World)(n1 n2:Nat):Option (Shared×SharedT):=
 match imp tb (opening p) w n1 (I0 (start (opening p)).1) (start (opening p)).2 with
 |some (s,t)=>match t.atExitBegin with
  |some []=>match fence p s.abs with
   |some s0=>match seg tb p w s0.heap.objs.size (s0.heap.nsMap mainGlobals "__annotations__") 0 n2 (I0 s0) (topStub p)with
    |some (_,s1,_,_)=>some (s0,s1)
    |none=>none
   |none=>none
  |_=>none
 |none=>none
theorem yj{p:Program}{w:World}{n1 n2 N:Nat}{s0:Shared}{s1:SharedT}(h:Ej impGoT treeTable fenceModules? segRunT p w n1 n2=some (s0,s1))(l1:n1+1≤N)(l2:n2≤N):
  fencedOpening treeTable p w N=some s0∧topRun treeTable p w s0.heap.objs.size (s0.heap.nsMap mainGlobals "__annotations__") N s0 (topStub p)=some s1.abs:=by
 unfold Ej at h
 split at h
 ·rename_i s t e1
  split at h
  ·rename_i e2
   split at h
   ·rename_i s0' e3
    split at h
    ·rename_i f s1' c q e4
     cases h
     have a:=AQ e1 e2
     rw[wQ]at a
     have b:=sV (segRun_of e4)
     rw[wQ]at b
     refine⟨?_,?_⟩
     ·unfold fencedOpening
      have:=importEnds_mono (N - (n1+1)) _ _ _ _ a
      rw[show n1+1+(N - (n1+1))=N by lia]at this
      rw[this]
      exact e3
     ·have:=topRun_mono (N - n2) _ _ _ _ b
      rw[show n2+(N - n2)=N by lia]at this
      exact this
    ·cases h
   ·cases h
  ·cases h
 ·cases h
def yf(s:SharedT)(a:Addr):Option Obj:=match Nat.blt a s.n with
 |true=>alive ((s.tree.get a).getD default)
 |false=>none
theorem Br(s:SharedT)(a:Addr):yf s a=s.abs.heap.get? a:=by
 obtain⟨T,n,life,_,_,_,_⟩:=s
 show(match Nat.blt a n with|true=>alive ((T.get a).getD default)|false=>none)=(absHeap T n life).get? a
 unfold Heap.get?
 rw[absHeap_at]
 by_cases h:a<n
 ·rw[if_pos h,show Nat.blt a n=true from Nat.ble_eq_true_of_le h]
  show alive ((T.get a).getD default)=_
  generalize (T.get a).getD default=o
  obtain⟨c,d,dt,sl⟩:=o
  cases dt<;>rfl
 ·rw[if_neg h]
  cases q:Nat.blt a n with
  |false=>rfl
  |true=>exact absurd (Nat.le_of_ble_eq_true q) h
theorem EN{imp:(String→Option Builtin)→Program→World→Nat→SharedT→Thread→Option (SharedT×Thread)}{tb:String→Option Builtin}{fence:Program→Shared→Option Shared}{seg:(String→Option Builtin)→Program→World→Nat→Option Value→Nat→Nat→SharedT→Thread→Option (Flow×SharedT×Code×Pos)}
  (i1:impGoT=imp)(i2:treeTable=tb)(i3:fenceModules?=fence)(i4:segRunT=seg){p q:Program}{loose:List Str}{Xt:Shared→Bool}{α:Type}{Yf:Shared→α}{Ya:World→α}{N:Nat}{g0:Bool}{n1 n2:Nat}(l1:n1+1≤N)(l2:n2≤N)
  (h:∀w,(Ej imp tb fence seg p w n1 n2).map (λr=>((r.1.heap.isNs mainGlobals&&r.1.gens.size==0,staticsOk (importedModules p.main.body) r.1.heap r.2.abs.heap&&namesBound p r.2.abs.heap&&gensDone r.2.abs&&laidKept r.1.heap r.2.abs.heap),openSeen q loose (importedModules p.main.body) Xt g0 r.2.abs,Yf r.2.abs))=some ((true,true),openGood q loose,Ya w)):LeftO p q loose Xt Yf Ya N g0:= λw=>by
 subst i1 i2 i3 i4
 obtain⟨⟨s0,s1⟩,e,e'⟩:=Z5.mp (h w)
 obtain⟨a,b⟩:=yj e l1 l2
 obtain⟨z1,z2⟩:=Prod.mk.inj e'
 obtain⟨y1,y2⟩:=Prod.mk.inj z1
 obtain⟨x1,x2⟩:=Prod.mk.inj z2
 have t:topFrom treeTable p w N s0=some s1.abs:=by
  unfold topFrom
  rw[show(s0.heap.isNs mainGlobals&&s0.gens.size==0)=true from y1,b]
  show(match staticsOk (importedModules p.main.body) s0.heap s1.abs.heap&&namesBound p s1.abs.heap&&gensDone s1.abs&&laidKept s0.heap s1.abs.heap with|true=>_|false=>_)=_
  rw[show(staticsOk (importedModules p.main.body) s0.heap s1.abs.heap&&namesBound p s1.abs.heap&&gensDone s1.abs&&laidKept s0.heap s1.abs.heap)=true from y2]
 unfold openEnds
 rw[a]
 show(topFrom treeTable p w N s0).map _=_
 rw[t]
 exact congrArg some (Prod.ext x1 x2)
abbrev pw:=PySem.Challenge.pw_nb0353_01
def qv:Program:=view pw [0,1,2,4,6,7,8,9,10,11,13,14,15,16,17,18,19,20,22,23,24,25,27,28,30,32,33,34,35,37,38,39,40,41,42]
def lo:List Str:=["_NodeInfo","_twin_re_1","UnsupportedOperation","IOBase","BufferedIOBase","TextIOBase","BytesIO","StringIO","join_path","shlex","split","join_shlex","_find_unsafe"]
noncomputable abbrev t7(w:World):=Ej PySem.W.Fast.tw14789777615569096658 PySem.W.Fast.tw14364793385576792824 PySem.W.Fast.tw14289696077712309145 PySem.W.Fast.tw10110043849684766642 pw w 1085 12000
abbrev rr:OpenRow:=PySem.Challenge.rw_nb0353_01.row
abbrev Xt(s:Shared):Bool:=xlAt qv [] s&&recOk (RowW.records rr.toRowW) s
theorem sZ:(defOf qv rr.name).isSome=true:=by kernel_rfl
def Ey:DefRec×List (Str×Expr):=(defOf qv rr.name).get sZ
theorem head_thm(K:Params→Frag)(as:List Addr)(e:∀P,as=(K P).map (·.1))(sd:rr.wellSaid=true)
  (h:∀w,(t7 w).map (λr=>(((r.1.heap.isNs mainGlobals&&r.1.gens.size==0,staticsOk (importedModules pw.main.body) r.1.heap r.2.abs.heap&&namesBound pw r.2.abs.heap&&gensDone r.2.abs&&laidKept r.1.heap r.2.abs.heap),as.map (yf r.2),[873].map (yf r.2)),PySem.W.Fast.tw4187177175401517315 qv lo (importedModules pw.main.body) Xt true r.2.abs))=some (((true,true),(K w.params).map (λp=>some p.2),[some (tabObj #[])]),openGood qv lo))
  (hw:rr.toRowW.promised)(hc:WalkO qv lo (XL qv []) (Hook.says (kmHook K as e [873])) rr.toRowW Ey.1 Ey.2 λf vs=>PySem.call f vs):rr.Holds:=by
 refine holds_open (q:=qv) (loose:=lo) (Xt:=Xt) (XP:=XL qv []) (Yf:=Hook.obs (kmHook K as e [873])) (Ya:=Hook.val (kmHook K as e [873])) (YP:=Hook.says (kmHook K as e [873])) (N:=13000)
  (EN PySem.W.Fast.te14789777615569096658 PySem.W.Fast.te14364793385576792824 PySem.W.Fast.te14289696077712309145 PySem.W.Fast.te10110043849684766642 (n1:=1085) (n2:=12000) (by decide) (by decide) λw=>?_) (Hook.of _) (Hook.keeps _) (λs e=>xl_of s (ZM.mp e).1) XL.keeps (Option.some_get sZ).symm (by kernel_rfl) (by kernel_rfl) (λs e=>recFacts_of (ZM.mp e).2) (by rfl) sd (by kernel_rfl) ⟨rfl,rfl,rfl,rfl,rfl,by decide+kernel⟩ hw hc
 have h1:=h w
 rw[←PySem.W.Fast.te4187177175401517315]at h1
 revert h1
 show(t7 w).map _=_→(t7 w).map _=_
 generalize t7 w=x
 intro h1
 cases x with
 |none=>cases h1
 |some r=>
  obtain⟨h1,h2⟩:=Prod.mk.inj (Option.some.inj h1)
  obtain⟨a,b⟩:=Prod.mk.inj h1
  have g:yf r.2= λa=>r.2.abs.heap.get? a:=funext (Br r.2)
  rw[g]at b
  exact congrArg some (Prod.ext a (Prod.ext h2 b))
theorem said:PySem.Challenge.rw_nb0353_01.wellSaid=true:=by
 rw[PySem.W.Fast.te9446332074065402090]
 unfold PySem.W.Fast.tw9446332074065402090 PySem.W.Fast.tw17960256430627541270 PySem.W.Fast.tw2436336058641802641 PySem.W.Fast.tw12908688711261696721
 simp only[Z3]
 and_intros
 all_goals decide+kernel
noncomputable def Iz:Stmt→List (List Stmt)×Scope×List Expr×Arguments
 | .FunctionDef _ a b _ _ _ sc _ _ _=>([b],sc,[],a)
 | .ClassDef _ _ _ b _ _ _ _ _ _ _=>([b],default,[],default)
 | .While t b _ _=>([b],default,[t],default)
 | .For _ _ b _ _=>([b],default,[],default)
 | .If _ b o _=>([b,o],default,[],default)
 | .Try b h _ f _=>([b,f,match h with| [.ExceptHandler _ _ b _]=>b|_=>[]],default,[],default)
 | .Assign _ e _=>([],default,[e],default)
 | .AugAssign _ _ e _=>([],default,[e],default)
 |_=>([],default,[],default)
noncomputable def jk(l:List Stmt)(i:Nat):List (List Stmt)×Scope×List Expr×Arguments:=(l[i]?.map Iz).getD default
noncomputable def sub(l:List Stmt)(i j:Nat):List Stmt:=(jk l i).1.getD j []
noncomputable def cV(l:List Stmt)(i:Nat):List Stmt:=sub l i 0
noncomputable def bJ:List Stmt:=PySem.Challenge.pw_nb0353_01.main.body
noncomputable def kU(s:String)(t:Nat):Value:=.str (.ofString s) t
noncomputable def ER(P:Params)(l:List (String×Nat×Value))(n:Nat):Data:=.dict (l.map λe=>⟨PyData.keyHash P (.ofString e.1),kU e.1 e.2.1,e.2.2⟩).toArray n
noncomputable def JA(l:List Int):Data:=.seq (l.map λi=>.int i 0).toArray 0
noncomputable def pz(a:Addr)(t:String)(d:Data)(R:Frag):Frag:=(a,⟨.type t,none,d,#[]⟩)::R
noncomputable def F3(a:Addr)(n:String)(b m:List Value)(s:Option Value)(t u:Nat)(w:Value)(h:Bool)(sb:List Value)(sn:List String)(R:Frag):Frag:=
 (a,⟨.type "type",none,.cls {name:=.ofString n,bases:=b,mro:=.ref a::m,ns:=a - 1,qualname:=.ofString n,hasDict:=h,slotNames:=sn.map .ofString,subclasses:=sb},#[s,none,some (kU n t),some (kU n u),some w,some (.bool h)]⟩)::R
noncomputable def kF(i:Nat):Value:=[kU "cpy313.graphlib" 347,kU "io" 569,kU "cpy313.shlex" 1285].getD i (kU "law_nb0353_01" 1453)
noncomputable def jS(p:List (List Stmt)×Scope×List Expr×Arguments)(n q:String)(d m:Value)(a t l np k fl N:Nat)(b:Bool)(R:Frag):Frag:=
 (a - 1,⟨.type "code",none,.fields #[kU n t,kU q (t+1),kU "/claim/cut.py" (t+2),.int l 0,.int np 0,.int k 0,.int 0 0,.int fl 0,.ref (bif b then a - 6 else a - 4),.bool true,.int 318 0,.ref (bif b then a - 5 else a - 3),.none,bif b then .ref (a - 4)else .none,bif b then .ref (a - 3)else .none,.ref (a - 2),.int N 0,.int l 0,kU "/claim/cut.py" (N+1)],#[]⟩)::
  (a,⟨.type "function",none,.func {name:=.ofString n,qualname:=.ofString q,params:=p.2.2.2,body:=.stmts (p.1.headD []),scope:=p.2.1,globals:=3,closure:=[],defaults:=d,kwdefaults:=.none,pyModule:=m,code:=.ref (a - 1)},#[]⟩)::R
noncomputable def Kh(P:Params):Frag:=
 List.cons (2,⟨.none,none,ER P [("im\x70ort.loaded._sre",183,.bool true),("class._frozen_im\x70ortlib.BuiltinImporter",185,.ref 14),("watched.im\x70ort",206,.ref 18),("class._frozen_im\x70ortlib.ModuleSpec",216,.ref 22),("sys.modules.booked-epoch",245,.int 4 0),("im\x70ort.later-laid._sre",270,.bool true),("watched.library",272,.ref 27),("watched.library-objects",0,kU "\x0c\x1e" 0),("watched.library-deep._sre",273,kU "\x04\x00\x00\x0b\x04\x00\x00\x0b\x04\x00\x00\x03\x04\x00\x00\x0b\x08\x04dict\x02" 0),("im\x70ort.loaded._collections",280,.bool true),("sys.modules.landed._collections",294,.bool true),("im\x70ort.later-laid._collections",309,.bool true),("watched.library-deep._collections",311,kU "\x04\x00\x00\x1d\x04\x00\x00\x1d\x04\x00\x00\x03\x04\x00\x00\x1d\x08\x04dict\x02" 0),("type.__subclasses__.OSError.0",605,.int 200 0),("type.__subclasses__.OSError.n",606,.int 1 0)] 15,#[]⟩)<|
 pz 3 "dict" (ER P [("__name__",165,kU "law_nb0353_01" 1453),("__doc__",166,.none),("__package__",167,.none),("__loader__",168,.builtin "__main__.__loader__#opaque"),("__spec__",169,.none),("__annotations__",170,.ref 6),("__builtins__",171,.ref 4),("__file__",173,kU "/claim/cut.py" 172),("__cached__",174,.none),("_sre",275,.ref 12),("deque",317,.type "collections.deque"),("_wall",330,.ref 44),("sorted_list_difference",346,.ref 51),("_NODE_OUT",351,.int (-1) 350),("_NODE_DONE",354,.int (-2) 353),("_NodeInfo",391,.ref 70),("CycleError",409,.ref 85),("TopologicalSorter",528,.ref 167),("_twin_re_1",568,.ref 176),("_whence",578,.ref 183),("_index",586,.ref 190),("UnsupportedOperation",608,.ref 200),("IOBase",640,.ref 220),("BufferedIOBase",658,.ref 235),("TextIOBase",676,.ref 247),("BytesIO",938,.ref 477),("StringIO",1225,.ref 724),("_kind",1236,.ref 733),("_fspath",1245,.ref 740),("_check_arg_types",1255,.ref 747),("isabs",1262,.ref 754),("join",1273,.ref 878),("join_path",1274,.ref 761),("dirname",1284,.ref 768),("shlex",1425,.ref 859),("split",1435,.ref 871),("join_shlex",1443,.ref 878),("_find_unsafe",1445,.ref 879),("quote",1452,.ref 886),("_law_books",1460,.ref 891),("_law_read",1466,.ref 896),("_law_needs",1472,.ref 901),("_law_told",1478,.ref 906),("_law_due",1484,.ref 911),("law",1490,.ref 916)] 45)<|
 jS (jk bJ 4) "sorted_list_difference" "sorted_list_difference" .none (kU "cpy313.unittest.util" 331) 51 333 7 2 0 3 344 true<|
 jS (jk (cV bJ 8) 1) "__init__" "_NodeInfo.__init__" .none (kF 0) 66 371 45 2 0 3 376 true<|
 pz 69 "dict" (ER P [("__module__",362,kU "cpy313.graphlib" 347),("__firstlineno__",366,.int 42 365),("__slots__",370,.ref 59),("__init__",378,.ref 66),("__static_attributes__",382,.ref 67),("node",384,.ref 71),("npredecessors",386,.ref 72),("successors",388,.ref 73),("__doc__",389,.none)] 5)<|
 F3 70 "_NodeInfo" [.type "object"] [.type "object"] none 355 363 (.builtin "object.__new__") false [] ["node","npredecessors","successors"]<|
 pz 71 "member_descriptor" (.fields #[kU "node" 383,.ref 70,.builtin "proto.slot",.builtin "proto.slot#set",.int 2 0])<|
 pz 72 "member_descriptor" (.fields #[kU "npredecessors" 385,.ref 70,.builtin "proto.slot",.builtin "proto.slot#set",.int 1 0])<|
 pz 73 "member_descriptor" (.fields #[kU "successors" 387,.ref 70,.builtin "proto.slot",.builtin "proto.slot#set",.int 0 0])<|
 pz 96 "tuple" (.seq #[.none] 0)<|
 jS (jk (cV bJ 10) 0) "__init__" "TopologicalSorter.__init__" (.ref 96) (kF 0) 103 422 53 2 0 3 429 true<|
 jS (jk (cV bJ 10) 1) "_get_nodeinfo" "TopologicalSorter._get_nodeinfo" .none (kF 0) 110 432 62 2 0 3 438 true<|
 jS (jk (cV bJ 10) 2) "add" "TopologicalSorter.add" .none (kF 0) 117 441 67 2 0 7 450 true<|
 jS (jk (cV bJ 10) 3) "prepare" "TopologicalSorter.prepare" .none (kF 0) 122 453 76 1 0 3 456 false<|
 jS (jk (cV bJ 10) 4) "get_ready" "TopologicalSorter.get_ready" .none (kF 0) 129 459 84 1 0 3 466 true<|
 jS (jk (cV bJ 10) 5) "is_active" "TopologicalSorter.is_active" .none (kF 0) 136 469 95 1 0 3 473 true<|
 jS (jk (cV bJ 10) 6) "__bool__" "TopologicalSorter.__bool__" .none (kF 0) 143 476 100 1 0 3 480 true<|
 jS (jk (cV bJ 10) 7) "done" "TopologicalSorter.done" .none (kF 0) 150 483 103 1 0 7 494 true<|
 jS (jk (cV bJ 10) 8) "_find_cycle" "TopologicalSorter._find_cycle" .none (kF 0) 157 497 126 1 0 3 507 true<|
 pz 166 "dict" (ER P [("__module__",417,kU "cpy313.graphlib" 347),("__firstlineno__",421,.int 51 420),("__init__",431,.ref 103),("_get_nodeinfo",440,.ref 110),("add",452,.ref 117),("prepare",458,.ref 122),("get_ready",468,.ref 129),("is_active",475,.ref 136),("__bool__",482,.ref 143),("done",496,.ref 150),("_find_cycle",509,.ref 157),("static_order",516,.ref 164),("__static_attributes__",521,.ref 165),("__dict__",523,.ref 168),("__weakref__",525,.ref 169),("__doc__",526,.none)] 4)<|
 F3 167 "TopologicalSorter" [.type "object"] [.type "object"] none 410 418 (.builtin "object.__new__") true [] []<|
 pz 175 "tuple" (JA [14,17,4,1,1,21,9,0,604043296,1,0,0,0,0,0,8,4,0,13,14,21,9,0,604043296,1,0,0,0,0,0,8,4,0,1])<|
 pz 176 "re.Pattern" (.fields #[kU "[^\\w@%+=:,./-]" 530,.int 256 567,.int 0 0,.none,.none,.ref 175,.int 0 0])<|
 jS (jk bJ 14) "_index" "_index" .none (kF 1) 190 579 164 2 0 3 584 true<|
 jS (jk (cV bJ 16) 1) "__new__" "IOBase.__new__" .none (kF 1) 217 623 176 1 1 15 629 true<|
 pz 219 "dict" (ER P [("__module__",616,kU "io" 621),("__firstlineno__",620,.int 173 619),("__new__",631,.ref 221),("__static_attributes__",632,.ref 218),("__dict__",635,.ref 222),("__weakref__",637,.ref 223),("__doc__",638,.none)] 4)<|
 F3 220 "IOBase" [.type "object"] [.type "object"] none 609 617 (.none) true [.ref 235,.ref 247] []<|
 pz 221 "staticmethod" (.fields #[.ref 217])<|
 pz 246 "dict" (ER P [("__module__",666,kU "io" 671),("__firstlineno__",670,.int 182 669),("__static_attributes__",673,.ref 245),("__doc__",674,.none)] 2)<|
 F3 247 "TextIOBase" [.ref 220] [.ref 220,.type "object"] (some (.ref 238)) 659 667 (.none) true [.ref 724] []<|
 F3 477 "BytesIO" [.ref 235] [.ref 235,.ref 220,.type "object"] (some (.ref 250)) 677 685 (.none) true [] []<|
 pz 487 "tuple" (.seq #[kU "" 953,kU "\n" 954] 0)<|
 jS (jk (cV bJ 20) 1) "__init__" "StringIO.__init__" (.ref 487) (kF 1) 494 955 357 3 0 3 961 true<|
 jS (jk (cV bJ 20) 2) "__translated" "StringIO.__translated" .none (kF 1) 501 964 370 2 0 3 970 true<|
 jS (jk (cV bJ 20) 3) "__check" "StringIO.__check" .none (kF 1) 508 973 378 1 0 3 977 true<|
 pz 663 "tuple" (.seq #[.int (-1) 1146] 0)<|
 jS (jk (cV bJ 20) 25) "read" "StringIO.read" (.ref 663) (kF 1) 670 1147 500 2 2 3 1154 true<|
 pz 723 "dict" (ER P [("__module__",946,kU "_io" 951),("__firstlineno__",950,.int 354 949),("__init__",963,.ref 494),("_StringIO__translated",972,.ref 501),("_StringIO__check",979,.ref 508),("_StringIO__check_dot",986,.ref 515),("_StringIO__line",1001,.ref 522),("closed",1009,.ref 530),("line_buffering",1017,.ref 538),("newlines",1025,.ref 546),("encoding",1033,.ref 554),("errors",1041,.ref 562),("close",1048,.ref 569),("__enter__",1055,.ref 576),("__exit__",1063,.ref 583),("readable",1070,.ref 590),("writable",1077,.ref 597),("seekable",1084,.ref 604),("isatty",1091,.ref 611),("flush",1098,.ref 618),("fileno",1105,.ref 625),("detach",1112,.ref 632),("getvalue",1119,.ref 639),("tell",1126,.ref 646),("seek",1136,.ref 654),("truncate",1144,.ref 662),("read",1156,.ref 670),("readline",1166,.ref 678),("readlines",1176,.ref 686),("__iter__",1183,.ref 693),("__next__",1191,.ref 700),("write",1203,.ref 707),("writelines",1211,.ref 714),("__repr__",1218,.ref 721),("__static_attributes__",1222,.ref 722),("__doc__",1223,.none)] 2)<|
 F3 724 "StringIO" [.ref 247] [.ref 247,.ref 220,.type "object"] (some (.ref 480)) 939 947 (.none) true [] []<|
 pz 776 "tuple" (.seq #[.none,.none,.bool false,.bool false] 0)<|
 jS (jk (cV bJ 30) 0) "__init__" "shlex.__init__" (.ref 776) (kF 2) 783 1299 626 5 0 3 1308 true<|
 jS (jk (cV bJ 30) 1) "punctuation_chars" "shlex.punctuation_chars" .none (kF 2) 790 1311 667 1 0 3 1315 true<|
 pz 791 "property" (.fields #[.ref 790,.none,.none,.none,kU "punctuation_chars" 1318,.bool false])<|
 jS (jk (cV bJ 30) 5) "get_token" "shlex.get_token" .none (kF 2) 820 1343 694 1 0 3 1352 true<|
 jS (jk (cV bJ 30) 6) "read_token" "shlex.read_token" .none (kF 2) 827 1355 721 1 0 3 1363 true<|
 jS (jk (cV bJ 30) 9) "__iter__" "shlex.__iter__" .none (kF 2) 849 1383 868 1 0 3 1387 true<|
 jS (jk (cV bJ 30) 10) "__next__" "shlex.__next__" .none (kF 2) 856 1390 871 1 0 3 1395 true<|
 pz 858 "dict" (ER P [("__module__",1294,kU "cpy313.shlex" 1285),("__firstlineno__",1298,.int 624 1297),("__init__",1310,.ref 783),("punctuation_chars",1318,.ref 791),("push_token",1326,.ref 798),("push_source",1335,.ref 806),("pop_source",1342,.ref 813),("get_token",1354,.ref 820),("read_token",1365,.ref 827),("sourcehook",1373,.ref 834),("error_leader",1382,.ref 842),("__iter__",1389,.ref 849),("__next__",1397,.ref 856),("__static_attributes__",1418,.ref 857),("__dict__",1420,.ref 860),("__weakref__",1422,.ref 861),("__doc__",1423,.none)] 4)<|
 F3 859 "shlex" [.type "object"] [.type "object"] none 1287 1295 (.builtin "object.__new__") true [] []<|
 pz 864 "tuple" (.seq #[.bool false,.bool true] 0)<|
 jS (jk bJ 31) "split" "split" (.ref 864) (kF 2) 871 1426 876 3 0 3 1433 true<|
 jS (jk bJ 32) "join" "join" .none (kF 2) 878 1436 884 1 0 3 1440 true<|
 pz 879 "builtin_function_or_method" (.fields #[.builtin "re.Pattern.search",.ref 176])<|
 jS (jk bJ 35) "quote" "quote" .none (kF 2) 886 1446 888 1 0 3 1450 true<|
 jS (jk bJ 37) "_law_books" "_law_books" .none (kF 3) 891 1455 895 1 0 3 1458 false<|
 jS (jk bJ 38) "_law_read" "_law_read" .none (kF 3) 896 1461 907 1 0 3 1464 false<|
 jS (jk bJ 39) "_law_needs" "_law_needs" .none (kF 3) 901 1467 909 1 0 3 1470 false<|
 jS (jk bJ 40) "_law_told" "_law_told" .none (kF 3) 906 1473 911 1 0 3 1476 false<|
 jS (jk bJ 41) "_law_due" "_law_due" .none (kF 3) 911 1479 928 1 0 3 1482 false<|
 jS (jk bJ 42) "law" "law" .none (kF 3) 916 1485 935 1 0 3 1488 false<| []
noncomputable def IY:List Addr:=[2,3,50,51,65,66,69,70,71,72,73,96,102,103,109,110,116,117,121,122,128,129,135,136,142,143,149,150,156,157,166,167,175,176,189,190,216,217,219,220,221,246,247,477,487,493,494,500,501,507,508,663,669,670,723,724,776,782,783,789,790,791,819,820,826,827,848,849,855,856,858,859,864,870,871,877,878,879,885,886,890,891,895,896,900,901,905,906,910,911,915,916]
theorem Jp(P:Params):IY=(Kh P).map (·.1):=by kernel_rfl
theorem Jy:rr.toRowW.promised:=by w_witness2
theorem JF(w:World):(t7 w).map (λr=>(((r.1.heap.isNs mainGlobals&&r.1.gens.size==0,staticsOk (importedModules pw.main.body) r.1.heap r.2.abs.heap&&namesBound pw r.2.abs.heap&&gensDone r.2.abs&&laidKept r.1.heap r.2.abs.heap),IY.map (yf r.2),[873].map (yf r.2)),PySem.W.Fast.tw4187177175401517315 qv lo (importedModules pw.main.body) Xt true r.2.abs))=some (((true,true),(Kh w.params).map (λp=>some p.2),[some (tabObj #[])]),openGood qv lo):=by kernel_rfl
theorem hd(h:WalkO qv lo (XL qv []) (Hook.says (kmHook Kh IY Jp [873])) rr.toRowW Ey.1 Ey.2 λf vs=>PySem.call f vs):PySem.Challenge.rw_nb0353_01.Holds:=
 holds_law said λ_=>head_thm Kh IY Jp (row_said said) JF Jy h
local macro_rules | `(tactic| w_on) => `(tactic| kernel_rfl)
theorem ak{α:Type}{H:List α}{x y:Nat}{o z:α}(h:H[y]?=some z)(ne:y≠x):(H.set x o)[y]?=some z:=by rw[zN (Ne.symm ne)];exact h
theorem bF{α:Type}{H:List α}{x:Nat}{o:α}(h:x<H.length):(H.set x o)[x]?=some o:=zT h
theorem aB{α:Type}{H L:List α}{y:Nat}{z:α}(h:H[y]?=some z):(H++L)[y]?=some z:=by rw[zL (zS.mp h).1];exact h
theorem aO{α:Type}{H:List α}{o:α}:(H++[o])[H.length]?=some o:=by rw[zR (ZA _),ZY];rfl
theorem aq{α:Type}{H:List α}{y:Nat}{z:α}(h:H[y]?=some z):y<H.length:=(zS.mp h).1
theorem CA{P:Nat→Prop}{n:Nat}(a:P n)(h:∀k,k<n→P k)(k:Nat)(hk:k<n+1):P k:=(Nat.lt_succ_iff_lt_or_eq.mp hk).elim (h k) λe=>e▸a
theorem Jf{P:Nat→Prop}(k:Nat)(h:k<0):P k:=absurd h (Nat.not_lt_zero k)
@[elab_as_elim] theorem CE {P:Nat→Prop} {k:Nat} (h:k<2) (a:P 0) (b:P 1):P k:=CA b (CA a Jf) k h
@[elab_as_elim] theorem IZ {P:Nat→Prop} {k:Nat} (h:k<3) (a:P 0) (b:P 1) (c:P 2):P k:=CA c (CA b (CA a Jf)) k h
@[elab_as_elim] theorem JD {P:Nat→Prop} {k:Nat} (h:k<5) (a:P 0) (b:P 1) (c:P 2) (d:P 3) (e:P 4):P k:=CA e (CA d (CA c (CA b (CA a Jf)))) k h
theorem bp{P:Prop}(h:∀G:Prop,(P→G)→G):P:=h P id
inductive AV where
 |none
 |bool (b:Bool)
 |int (i:Int)
 |str (s:Str)
 |obj (n:Nat)
 |val (v:Value)
 deriving Inhabited
def VR(ρ:Nat→Addr)(n:Nat):AV→Value→Prop
 | .none,v=>v=.none
 | .bool b,v=>v=.bool b
 | .int i,v=>∃t,v=.int i t
 | .str s,v=>∃t,v=.str s t
 | .obj i,v=>i<n∧v=.ref (ρ i)
 | .val w,v=>v=w
@[elab_as_elim] theorem lU {ρ:Nat→Addr} {n:Nat} {x:Str} {p:Value} {C:Value→Prop} (h:VR ρ n (.str x) p) (k:∀t,C (.str x t)):C p:=h.elim λt h=>by subst h;exact k t
@[elab_as_elim] theorem ma {ρ:Nat→Addr} {n:Nat} {x:Int} {p:Value} {C:Value→Prop} (h:VR ρ n (.int x) p) (k:∀t,C (.int x t)):C p:=h.elim λt h=>by subst h;exact k t
@[elab_as_elim] theorem iR {ρ:Nat→Addr} {n x:Nat} {p:Value} {C:Value→Prop} (h:VR ρ n (.obj x) p) (k:x<n→C (.ref (ρ x))):C p:=h.elim λt h=>by subst h;exact k t
inductive cG(ρ:Nat→Addr)(n:Nat):List AV→List Value→Prop where
 |nil:cG ρ n [] []
 |cons {a v as vs} (h:VR ρ n a v) (t:cG ρ n as vs):cG ρ n (a::as) (v::vs)
@[elab_as_elim] theorem jI {ρ:Nat→Addr} {n:Nat} {a:AV} {as:List AV} {xs:List Value} {G:List Value→Prop} (h:cG ρ n (a::as) xs) (k:∀x xs,VR ρ n a x→cG ρ n as xs→G (x::xs)):G xs:=by
 cases h with
 |cons h t=>exact k _ _ h t
@[elab_as_elim] theorem lW {ρ:Nat→Addr} {n:Nat} {a:AV} {xs:List Value} {G:List Value→Prop} (h:cG ρ n [a] xs) (k:∀x,VR ρ n a x→G [x]):G xs:=by
 refine jI h λx xs h t=>?_
 cases t;exact k _ h
@[elab_as_elim] theorem I6 {ρ:Nat→Addr} {n:Nat} {a b:AV} {xs:List Value} {G:List Value→Prop} (h:cG ρ n [a,b] xs) (k:∀x y,VR ρ n a x→VR ρ n b y→G [x,y]):G xs:=by
 exact jI h λx xs h t=>lW t λy hy=>k _ y h hy
inductive wH(ρ:Nat→Addr)(n:Nat):List (Str×AV)→List DictEntry→Prop where
 |nil:wH ρ n [] []
 |cons {p e ps es} (k:∃t,e.key=.str p.1 t) (h:VR ρ n p.2 e.val) (t:wH ρ n ps es):wH ρ n (p::ps) (e::es)
inductive AO where
 |list (vs:List AV)
 |tuple (vs:List AV)
 |dict (es:List (Str×AV))
 |inst (C:Addr) (d:Nat)
 |cell (v:Option AV)
 |meth (f:Value) (self:AV)
 |fix (o:Obj)
 |is (P:(Nat→Addr)→Nat→Obj→Prop)
 deriving Inhabited
def OR(ρ:Nat→Addr)(n:Nat):AO→Obj→Prop
 | .list vs,o=>∃its e,o={cls:=.type "list",data:=.seq ⟨its⟩ e}∧cG ρ n vs its
 | .tuple vs,o=>∃its e,o={cls:=.type "tuple",data:=.seq ⟨its⟩ e}∧cG ρ n vs its
 | .dict es,o=>∃ents e,o={cls:=.type "dict",data:=.dict ⟨ents⟩ e}∧wH ρ n es ents
 | .inst C d,o=>d<n∧o={cls:=.ref C,dict:=some (ρ d),data:=.plain}
 | .cell v,o=>∃c,o.data=.cell c∧(match v,c with
   |some a,some x=>VR ρ n a x
   |none,none=>True
   |_,_=>False)
 | .meth f a,o=>∃x,o={cls:=.type "method",data:=.fields #[f,x]}∧VR ρ n a x
 | .fix p,o=>o=p
 | .is P,o=>∀ρ' n',(∀i,i<n→ρ' i=ρ i)→n≤n'→P ρ' n' o
structure Cx where
 prog:Program
 w:World
 h₁:Heap
 K:Frag
 tj:Addr
 mg:Str→Option Value
 mb:Str→Option Value
 gq:Array GenState→Drawn→Prop
 rz:Bool
noncomputable abbrev Cx.M(c:Cx):Model:=model c.prog c.w
structure Cx.Ok(c:Cx):Prop where
 X:c.K.In c.h₁
 ktj:c.K.lookup c.tj=none
 tjx:∃o,c.h₁.get? c.tj=some o
 g:c.h₁.Ns mainGlobals c.mg
 gt:mainGlobals≠c.tj
 b:c.h₁.Ns builtinsNs c.mb
 bt:builtinsNs≠c.tj
 lim:c.h₁.NoLimit
 lt:cStatics≠c.tj
 bi:∀x,x≠("__name__":Str)→c.mb x=bootBuiltins x
def GK(c:Cx)(h:Heap):Prop:=∀o,c.h₁.get? c.tj=some o→h.get? c.tj=some o∨
 (isCodeTable c.h₁ c.tj∧o.cls=.none∧∃vs more,(o.data=.fields vs∧(TriplesOk vs.toList→TriplesOk (vs++more).toList))∧h.get? c.tj=some {o with data:=.fields (vs++more)})
theorem GK.there{c:Cx}{h:Heap}(x:GK c h){o:Obj}(e:c.h₁.get? c.tj=some o):∃o',h.get? c.tj=some o':=by
 rcases x o e with h|⟨_,_,vs,more,_,h⟩
 ·exact⟨_,h⟩
 ·exact⟨_,h⟩
structure eE(c:Cx)(ρ:Nat→Addr)(H:List AO)(h:Heap):Prop where
 at_:∀i o,H[i]?=some o→∃ob,h.get? (ρ i)=some ob∧OR ρ H.length o ob
 inj:∀i j,i<H.length→j<H.length→ρ i=ρ j→i=j
 up:∀i,i<H.length→c.h₁.get? (ρ i)=none
 base:∀b o,c.h₁.get? b=some o→b≠c.tj→h.get? b=some o
 tj:GK c h
structure St where
 loc:List (Str×AV)
 H:List AO
structure Fs where
 scope:Scope
 cells:List (Str×Nat)
def yx(c:Cx)(ρ:Nat→Addr)(n:Nat)(h:Heap)(e:Env):Prop:=
 e.scope.kind≠.module∧∃L o es ep,e.frame=some L∧c.h₁.get? L=none∧h.get? L=some o∧o.data=.dict es ep∧∀i,i<n→ρ i≠L
def rC(c:Cx)(A:Around)(ρ:Nat→Addr)(n:Nat)(h:Heap):Prop:=c.rz=true→∃l,A.frames=some l∧∀e∈l,yx c ρ n h e
theorem yx.keep{c:Cx}{ρ ρ':Nat→Addr}{n n':Nat}{h h':Heap}{e:Env}(x:yx c ρ n h e)(ag:∀i,i<n→ρ' i=ρ i)(nw:∀i,n≤i→i<n'→h.get? (ρ' i)=none)
  (kd:∀b o es ep,h.get? b=some o→o.data=.dict es ep→(∀i,i<n→ρ i≠b)→c.h₁.get? b=none→∃o' es' ep',h'.get? b=some o'∧o'.data=.dict es' ep'):yx c ρ' n' h' e:=by
 refine bp λGz kz=>?_
 refine eU x λhk L o es ep h1 h2 h3 h4 h5=>?_
 refine dg (kd L o es ep h3 h4 h5 h2) λo' es' ep' g1 g2=>?_
 refine kz ?_
 refine eO hk L o' es' ep' h1 h2 g1 g2 λi hi q=>?_
 by_cases hn:i<n
 ·rw[ag i hn]at q;exact h5 i hn q
 ·have:=nw i (ZW hn) hi
  rw[q,h3]at this;cases this
theorem rC.keep{c:Cx}{A:Around}{ρ ρ':Nat→Addr}{n n':Nat}{h h':Heap}(x:rC c A ρ n h)(ag:∀i,i<n→ρ' i=ρ i)(nw:∀i,n≤i→i<n'→h.get? (ρ' i)=none)
  (kd:∀b o es ep,h.get? b=some o→o.data=.dict es ep→(∀i,i<n→ρ i≠b)→c.h₁.get? b=none→∃o' es' ep',h'.get? b=some o'∧o'.data=.dict es' ep'):rC c A ρ' n' h':=by
 intro hz
 refine ah (x hz) λl h1 h2=>?_
 exact al l h1 λe he=>(h2 e he).keep ag nw kd
theorem rC.same{c:Cx}{A:Around}{ρ:Nat→Addr}{n n':Nat}{h h':Heap}(x:rC c A ρ n h)(hn:n'=n)
  (kd:∀b o es ep,h.get? b=some o→o.data=.dict es ep→(∀i,i<n→ρ i≠b)→c.h₁.get? b=none→∃o' es' ep',h'.get? b=some o'∧o'.data=.dict es' ep'):rC c A ρ n' h':=
 x.keep (λ_ _=>rfl) (λi h1 h2=>absurd (hn▸h2) (ZX.mpr h1)) kd
structure aW(c:Cx)(A:Around)(F:Fs)(ρ:Nat→Addr)(σ:St)(s:Shared)(env:Env):Prop where
 hr:eE c ρ σ.H s.heap
 sc:env.scope=F.scope
 gl:env.globals=mainGlobals
 bl:env.builtins=builtinsNs
 ce:env.cells=F.cells.map λp=>(p.1,ρ p.2)
 ci:∀p∈F.cells,p.2<σ.H.length
 lo:∃m,s.heap.Ns env.locals m∧∀x v,σ.loc.lookup x=some v→∃v',m x=some v'∧VR ρ σ.H.length v v'
 ap:∀i,i<σ.H.length→ρ i≠env.locals
 lf:c.h₁.get? env.locals=none
 ge:c.gq s.gens s.drawn
 sk:rC c A ρ σ.H.length s.heap
 tp:c.rz=true→env.func.isSome=true→∃outer,A.frames=some (env::outer)
 fl:F.scope.names.lookup (".0":Str)=none→env.func.isSome=true∧env.frame=some env.locals
def me(o o':Obj):Prop:=∃sl,o'={o with slots:=sl}∧((∀es e,o.data≠.dict es e)→sl=o.slots)
theorem me.refl{o:Obj}:me o o:=al o.slots rfl λ_=>rfl
theorem me.trans{o o' o₂:Obj}(a:me o o')(b:me o' o₂):me o o₂:=by
 refine ah a ?_;clear a;intro s1 z0 h1;subst z0
 refine ah b ?_;clear b;intro s2 z0 h2;subst z0
 exact al s2 rfl λh=>(h2 h).trans (h1 h)
theorem me.data{o o':Obj}(a:me o o'):o'.data=o.data:=by refine ah a ?_;clear a;intro s1 z0 h1;subst z0;rfl
theorem me.eq{o o':Obj}(a:me o o')(h:∀es e,o.data≠.dict es e):o'=o:=by refine ah a ?_;clear a;intro s1 z0 h1;subst z0;rw[h1 h]
def Jg(c:Cx)(ρ:Nat→Addr)(n:Nat)(L:Addr→Prop)(h h':Heap):Prop:=
 (∀b o,h.get? b=some o→∃o',h'.get? b=some o')∧∀b o,h.get? b=some o→b≠c.tj→¬L b→(∀i,i<n→ρ i≠b)→∃o',h'.get? b=some o'∧me o o'
structure aM(c:Cx)(ρ:Nat→Addr)(n:Nat)(L:Addr→Prop)(s:Shared)(ρ':Nat→Addr)(n':Nat)(s':Shared):Prop where
 ag:∀i,i<n→ρ' i=ρ i
 le:n≤n'
 nw:∀i,n≤i→i<n'→s.heap.get? (ρ' i)=none
 kp:Jg c ρ n L s.heap s'.heap
 os:s'.os=s.os
section
variable{c:Cx}{ρ ρ' ρ₂:Nat→Addr}{n n' n₂:Nat}{L:Addr→Prop}{s s' s₂:Shared}
theorem VR.mono{a:AV}{v:Value}(h:VR ρ n a v)(ag:∀i,i<n→ρ' i=ρ i)(le:n≤n'):VR ρ' n' a v:=by
 cases a<;>simp only[VR]at h ⊢ <;>try exact h
 refine iR h λhi=>?_
 exact⟨ZD hi le,by rw[ag _ hi]⟩
theorem cG.mono{as:List AV}{vs:List Value}(h:cG ρ n as vs)(ag:∀i,i<n→ρ' i=ρ i)(le:n≤n'):cG ρ' n' as vs:=by
 induction h with
 |nil=>exact .nil
 |cons h _ ih=>exact .cons (h.mono ag le) ih
theorem wH.mono{as:List (Str×AV)}{vs:List DictEntry}(h:wH ρ n as vs)(ag:∀i,i<n→ρ' i=ρ i)(le:n≤n'):wH ρ' n' as vs:=by
 induction h with
 |nil=>exact .nil
 |cons k h _ ih=>exact .cons k (h.mono ag le) ih
theorem OR.mono{o:AO}{ob:Obj}(h:OR ρ n o ob)(ag:∀i,i<n→ρ' i=ρ i)(le:n≤n'):OR ρ' n' o ob:=by
 cases o with
 |list vs=>refine dk h λits e h1 h2=>?_;exact cI its e h1 (h2.mono ag le)
 |tuple vs=>refine dk h λits e h1 h2=>?_;exact cI its e h1 (h2.mono ag le)
 |dict es=>refine dk h λits e h1 h2=>?_;exact cI its e h1 (h2.mono ag le)
 |inst C d=>refine aV h λh1 h2=>?_;exact⟨ZD h1 le,by rw[ag _ h1];exact h2⟩
 |cell v=>
  refine ah h λx h1 h2=>?_
  refine al x h1 ?_
  cases v<;>cases x<;>first|trivial|exact h2.elim|exact VR.mono h2 ag le
 |meth f a=>refine ah h λx h1 h2=>?_;exact al x h1 (h2.mono ag le)
 |fix p=>exact h
 |is P=>exact λρ2 n2 h1 h2=>h ρ2 n2 (λi hi=>(h1 i (ZD hi le)).trans (ag i hi)) (Z2 le h2)
theorem aM.refl:aM c ρ n L s ρ n s:=⟨λ_ _=>rfl,ZA _,λ_ a b=>absurd b (ZX.mpr a),⟨λ_ o e=>⟨o,e⟩,λ_ _ e _ _ _=>al _ e .refl⟩,rfl⟩
theorem aM.toks(t:Nat):aM c ρ n L s ρ n {s with toks:=t}:=⟨λ_ _=>rfl,ZA _,λ_ a b=>absurd b (ZX.mpr a),⟨λ_ o e=>⟨o,e⟩,λ_ _ e _ _ _=>al _ e .refl⟩,rfl⟩
theorem aM.trans(a:aM c ρ n L s ρ' n' s')(b:aM c ρ' n' L s' ρ₂ n₂ s₂):aM c ρ n L s ρ₂ n₂ s₂:=by
 refine⟨λi h=>(b.ag i (ZD h a.le)).trans (a.ag i h),Z2 a.le b.le,λi h1 h2=>?_,⟨λx o e=>?_,λx o e h1 h2 h3=>?_⟩,b.os.trans a.os⟩
 ·by_cases h:i<n'
  ·rw[b.ag i h];exact a.nw i h1 h
  ·cases q:s.heap.get? (ρ₂ i)with
   |none=>rfl
   |some o=>
    refine cc (a.kp.1 _ o q) λo' e=>?_
    rw[b.nw i (ZW h) h2]at e;cases e
 ·refine cc (a.kp.1 x o e) λo' e'=>?_
  exact b.kp.1 x o' e'
 ·refine ah (a.kp.2 x o e h1 h2 h3) λo1 e1 l1=>?_
  have hh:∀i,i<n'→ρ' i≠x:=?_
  ·refine ah (b.kp.2 x o1 e1 h1 h2 hh) λo2 e2 l2=>?_
   exact al o2 e2 (l1.trans l2)
  intro i hi q
  by_cases h:i<n
  ·exact h3 i h (by rw[←a.ag i h];exact q)
  ·have:=a.nw i (ZW h) hi
   rw[q,e]at this;cases this
end
section
variable{c:Cx}{A:Around}{F:Fs}{ρ ρ':Nat→Addr}{σ σ':St}{s s':Shared}{env:Env}
theorem eE.X{H:List AO}{h:Heap}(r:eE c ρ H h)(O:c.Ok):c.K.In h:= λa o e=>r.base a o (O.X a o e) (by rintro rfl;rw[O.ktj]at e;cases e)
theorem aW.X(r:aW c A F ρ σ s env)(O:c.Ok):c.K.In s.heap:=r.hr.X O
theorem fY{h:Heap}{a:Addr}{m}(hb:∀b o,c.h₁.get? b=some o→b≠c.tj→h.get? b=some o)(n:c.h₁.Ns a m)(t:a≠c.tj):h.Ns a m:=
 let⟨o,es,ep,e,r⟩:=n;(bh o es ep (hb _ _ e t) r)
theorem eE.lim{H:List AO}{h:Heap}(r:eE c ρ H h)(O:c.Ok):h.NoLimit:=let⟨mc,h1,h2⟩:=O.lim;(al mc (fY r.base h1 O.lt) h2)
theorem aW.toks(r:aW c A F ρ σ s env)(t:Nat):aW c A F ρ σ {s with toks:=t} env:=⟨r.hr,r.sc,r.gl,r.bl,r.ce,r.ci,r.lo,r.ap,r.lf,r.ge,r.sk,r.tp,r.fl⟩
end
noncomputable def kx(h:Heap)(L d:Addr):List (Addr×Obj):=(ZG h.objs.size).filterMap λa=>if a=L∨a=d then none else(h.get? a).map λo=>(a,o)
theorem ka{h:Heap}{L d:Addr}{p:Addr×Obj}:p∈kx h L d↔p.1≠L∧p.1≠d∧h.get? p.1=some p.2:=by
 unfold kx
 rw[Zx]
 constructor
 ·rintro⟨a,_,e⟩
  split at e
  ·cases e
  ·rename_i q
   refine ah (Z5.mp e) λo h1 h2=>?_
   subst h2
   exact⟨λz=>q (.inl z),λz=>q (.inr z),h1⟩
 ·rintro⟨h1,h2,h3⟩
  refine al p.1 (ZP.mpr (ZB h3)) ?_
  rw[if_neg (by rintro(z|z)<;>contradiction),h3]
  rfl
noncomputable def nR:Heap:=⟨#[],{}⟩
theorem kQ(a:Addr):nR.get? a=none:=by simp[nR,Heap.get?]
theorem mx{h:Heap}{L:Addr}{m:Str→Option Value}(hn:h.Ns L m):Fr nR L h m:=⟨hn,λb o e=>(by rw[kQ]at e;cases e),Zl _⟩
theorem mG{h:Heap}{L d:Addr}{o:Obj}(hd:h.get? d=some o)(hne:d≠L):News nR L h (kx h L d++(d,o)::[]):=by
 intro p hp
 rcases ZT.mp hp with hp|hp
 ·refine fv (ka.mp hp) λh1 _ h3=>?_
  exact⟨h3,h1,kQ _⟩
 ·rcases ZH.mp hp with rfl|hp
  ·exact⟨hd,hne,kQ _⟩
  ·cases hp
theorem qc{h:Heap}{L d:Addr}:∀p∈kx h L d,p.1≠d:= λ_ hp=>(ka.mp hp).2.1
theorem pP{h h':Heap}{L d:Addr}{o':Obj}(N:News nR L h' (kx h L d++(d,o')::[])):
  h'.get? d=some o'∧∀b o,h.get? b=some o→b≠L→b≠d→h'.get? b=some o:=
 ⟨(N (d,o') (by simp)).1,λb o e h1 h2=>(N (b,o) (ZT.mpr (.inl (ka.mpr ⟨h1,h2,e⟩)))).1⟩
section
variable{c:Cx}{A:Around}{F:Fs}{ρ:Nat→Addr}{σ:St}{s:Shared}{env:Env}
theorem aW.upd(r:aW c A F ρ σ s env){d:Nat}{ao:AO}{ob:Obj}{h':Heap}{tk:Nat}(hd:d<σ.H.length)(hg:h'.get? (ρ d)=some ob)(ho:OR ρ σ.H.length ao ob)
  (hk:∀b o,s.heap.get? b=some o→b≠env.locals→b≠ρ d→h'.get? b=some o)(hl:∀m,s.heap.Ns env.locals m→h'.Ns env.locals m):
  aW c A F ρ ⟨σ.loc,σ.H.set d ao⟩ ⟨h',s.gens,s.drawn,tk,s.os⟩ env∧aM c ρ σ.H.length (· =env.locals) s ρ (σ.H.set d ao).length ⟨h',s.gens,s.drawn,tk,s.os⟩:=by
 have len:(σ.H.set d ao).length=σ.H.length:=Z4
 refine ah (r.lo) λm hn hm=>?_
 have hn':=hl m hn
 have nb:∀b o,c.h₁.get? b=some o→b≠env.locals∧b≠ρ d:= λb o e=>⟨(by rintro rfl;rw[r.lf]at e;cases e),(by rintro rfl;rw[r.hr.up d hd]at e;cases e)⟩
 refine⟨⟨⟨λi o e=>?_,λi j hi hj=>r.hr.inj i j (len▸hi) (len▸hj),λi hi=>r.hr.up i (len▸hi),λb o e t=>?_,λo e=>?_⟩,r.sc,r.gl,r.bl,r.ce,λp hp=>by rw[len];exact r.ci p hp,al m hn' λx v hv=>?_,λi hi=>r.ap i (len▸hi),r.lf,r.ge,r.sk.same len λb o es ep e1 e2 e3 e4=>?_,r.tp,r.fl⟩,
  ⟨λ_ _=>rfl,Nat.le_of_eq len.symm,λi h1 h2=>absurd (len▸h2) (ZX.mpr h1),⟨λb o e=>?_,λb o e t hL h3=>al o (hk b o e hL λq=>h3 d hd q.symm) .refl⟩,rfl⟩⟩
 ·rw[len]
  by_cases hi:i=d
  ·subst hi
   rw[zT hd]at e
   cases e
   exact al ob hg ho
  ·rw[zN (Ne.symm hi)]at e
   refine ah (r.hr.at_ i o e) λob' h1 h2=>?_
   have il:i<σ.H.length:=aq e
   exact al ob' (hk _ _ h1 (r.ap i il) λq=>hi (r.hr.inj i d il hd q)) h2
 ·exact hk b o (r.hr.base b o e t) (nb b o e).1 (nb b o e).2
 ·refine aV (nb _ _ e) λn1 n2=>?_
  rcases r.hr.tj o e with z|⟨z1,z2,vs,more,z3,z4⟩
  ·exact .inl (hk _ _ z n1 n2)
  ·exact .inr (bS z1 z2 vs more z3 (hk _ _ z4 n1 n2))
 ·rw[len];exact hm x v hv
 ·by_cases h1:b=env.locals
  ·subst h1
   refine c7 hn' λo' es' ep' q1 q2 _=>?_
   exact bh o' es' ep' q1 q2
  ·exact bh o es ep (hk b o e1 h1 λq=>e3 d hd q.symm) e2
 ·by_cases h1:b=env.locals
  ·subst h1
   refine dg hn' λo' _ _ e' _=>?_
   exact⟨o',e'⟩
  ·by_cases h2:b=ρ d
   ·subst h2;exact⟨ob,hg⟩
   ·exact⟨o,hk b o e h1 h2⟩
end
def cN(k:Nat)(A:Around):Prop:=A.depth+4*k≤900∧A.units+12*k≤9000∧(100≤k→A.handled=none)
def C7(c:Cx)(F:Fs)(k:Nat){α:Type}(t:Env→Sem α)(σ:St)(R:(Nat→Addr)→α→Prop)(σ':St):Prop:=
 ∀(A:Around)(ρ:Nat→Addr)(s:Shared)(env:Env)(Q:α→Shared→Prop)(E:Value→Shared→Prop),cN k A→aW c A F ρ σ s env→
  (∀ρ' s' a,aW c A F ρ' σ' s' env→aM c ρ σ.H.length (· =env.locals) s ρ' σ'.H.length s'→R ρ' a→Q a s')→wpAny c.M A (t env) Q E s
abbrev Ev(c:Cx)(F:Fs)(k:Nat)(e:Expr)(σ:St)(v:AV)(σ':St):Prop:=C7 c F k (eval e) σ (λρ=>VR ρ σ'.H.length v) σ'
section
variable{c:Cx}{F:Fs}{k:Nat}{σ σ':St}
theorem bv{q pos}:Ev c F k (.Constant .none q pos) σ .none σ:= λ_ ρ s _ _ _ _ r h=>Constant_none (h ρ s _ r .refl rfl)
theorem gU{b q pos}:Ev c F k (.Constant (.bool b) q pos) σ (.bool b) σ:= λ_ ρ s _ _ _ _ r h=>Constant_bool (h ρ s _ r .refl rfl)
theorem aJ{i q pos}:Ev c F k (.Constant (.int i) q pos) σ (.int i) σ:= λ_ ρ s _ _ _ _ r h=>wpAny_Constant_int (h ρ _ _ (r.toks _) (.toks _) ⟨_,rfl⟩)
theorem bn{x q pos}:Ev c F k (.Constant (.str x) q pos) σ (.str x) σ:= λ_ ρ s _ _ _ _ r h=>Calls.Constant_str (h ρ _ _ (r.toks _) (.toks _) ⟨_,rfl⟩)
theorem aa{x pos v}(hk:F.scope.kind=.function)(hx:F.scope.names.lookup x=some .local)(hv:σ.loc.lookup x=some v)(hd:(x==("__debug__":Str))=false:=by decide):Ev c F k (.Name x pos) σ v σ:= λA ρ s env Q E _ r h=>by
 refine ah (r.lo) λm hn hm=>?_
 refine ah (hm x v hv) λv' h1 h2=>?_
 exact wpAny_Name (wpAny_loadName_local (by rw[r.sc];exact hk) (by unfold Env.kindOf;rw[r.sc];exact hx) hn h1 (h ρ s v' r .refl h2)) hd
theorem mu{x pos v}(O:c.Ok)(hk:F.scope.kind=.function)(hx:F.scope.names.lookup x=some .globalImplicit)(hv:nsIn c.K mainGlobals x=some (some v))(hd:(x==("__debug__":Str))=false):Ev c F k (.Name x pos) σ (.val v) σ:= λA ρ s env Q E _ r h=>by
 refine Calls.Name_function_global (by rw[r.sc];exact hk) (by unfold Env.kindOf;rw[r.sc];exact hx) (Calls.loadGlobal_global (mg:=c.mg) ?_ (mg_of O.X O.g hv) (h ρ s v r .refl rfl)) hd
 rw[r.gl];exact fY r.hr.base O.g O.gt
theorem fK{x pos v}(O:c.Ok)(hk:F.scope.kind=.function)(hx:F.scope.names.lookup x=some .globalImplicit)(hv:nsIn c.K mainGlobals x=some none)(hb:bootBuiltins x=some v)(hn:x≠("__name__":Str))(hd:(x==("__debug__":Str))=false):Ev c F k (.Name x pos) σ (.val v) σ:= λA ρ s env Q E _ r h=>by
 refine Calls.Name_function_global (by rw[r.sc];exact hk) (by unfold Env.kindOf;rw[r.sc];exact hx) (Calls.loadGlobal_builtin (mg:=c.mg) (mb:=c.mb) ?_ (mg_none_of O.X O.g hv) ?_ ((O.bi x hn).trans hb) (h ρ s v r .refl rfl)) hd
 ·rw[r.gl];exact fY r.hr.base O.g O.gt
 ·rw[r.bl];exact fY r.hr.base O.b O.bt
end
noncomputable def aR{α:Type}(x:Str)(v:α):List (Str×α)→List (Str×α)
 | []=>[(x,v)]
 |p::r=>if p.1==x then(p.1,v)::r else p::aR x v r
theorem gz{α:Type}{x:Str}{v:α}{p:Str×α}{r:List (Str×α)}:aR x v (p::r)=if p.1==x then(p.1,v)::r else p::aR x v r:=rfl
theorem aj{α:Type}(x:Str)(v:α)(l:List (Str×α)):(aR x v l).lookup x=some v:=by
 induction l with
 |nil=>exact List.lookup_cons_self
 |cons p r ih=>
  rw[gz]
  by_cases h:(p.1==x)=true
  ·rw[if_pos h,ZI,BEq.comm.trans h]
  ·rw[if_neg h,ZI,BEq.comm.trans (Bool.eq_false_iff.mpr h)];exact ih
theorem bV{α:Type}(x y:Str)(v:α)(hne:y≠x)(l:List (Str×α)):(aR x v l).lookup y=l.lookup y:=by
 induction l with
 |nil=>show YB y [(x,v)]=none;rw[ZI,beq_false_of_ne hne];rfl
 |cons p r ih=>
  rw[gz]
  by_cases h:(p.1==x)=true
  ·have e:(y==p.1)=false:=by rw[eq_of_beq h];exact beq_false_of_ne hne
   rw[if_pos h,ZI,ZI,e]
  ·rw[if_neg h,ZI,ZI,ih]
theorem dR{α:Type}{x y:Str}{v:α}{l:List (Str×α)}{o:Option α}(h:l.lookup y=o)(hne:y≠x:=by decide):(aR x v l).lookup y=o:=(bV x y v hne l).trans h
section
variable{c:Cx}{A:Around}{F:Fs}{ρ ρ':Nat→Addr}{σ σ':St}{s s':Shared}{env:Env}{n n':Nat}{L:Addr→Prop}
theorem aM.vr(st:aM c ρ n L s ρ' n' s'){a:AV}{v:Value}(h:VR ρ n a v):VR ρ' n' a v:=h.mono st.ag st.le
theorem aM.vrs(st:aM c ρ n L s ρ' n' s'){a:List AV}{v:List Value}(h:cG ρ n a v):cG ρ' n' a v:=h.mono st.ag st.le
theorem aW.bind(r:aW c A F ρ σ s env){x:Str}{a:AV}{v:Value}{h':Heap}{tk:Nat}(hv:VR ρ σ.H.length a v)
  (hn:∀m,s.heap.Ns env.locals m→h'.Ns env.locals (λy=>if y=x then some v else m y))(hs:Heap.SameBut env.locals s.heap h'):
  aW c A F ρ ⟨aR x a σ.loc,σ.H⟩ ⟨h',s.gens,s.drawn,tk,s.os⟩ env∧aM c ρ σ.H.length (· =env.locals) s ρ σ.H.length ⟨h',s.gens,s.drawn,tk,s.os⟩:=by
 refine ah (r.lo) λm hm hl=>?_
 have nb:∀b o,c.h₁.get? b=some o→b≠env.locals:= λb o e=>by rintro rfl;rw[r.lf]at e;cases e
 have kp:∀b o,s.heap.get? b=some o→b≠env.locals→h'.get? b=some o:= λb o e h=>(hs.2 b h).trans e
 refine⟨⟨⟨λi o e=>?_,r.hr.inj,r.hr.up,λb o e t=>kp b o (r.hr.base b o e t) (nb b o e),λo e=>?_⟩,r.sc,r.gl,r.bl,r.ce,r.ci,al _ (hn m hm) λy b hy=>?_,r.ap,r.lf,r.ge,r.sk.same rfl λb o es ep e1 e2 e3 e4=>?_,r.tp,r.fl⟩,
  ⟨λ_ _=>rfl,ZA _,λi h1 h2=>absurd h2 (ZX.mpr h1),⟨λb o e=>?_,λb o e t hL _=>al o (kp b o e hL) .refl⟩,rfl⟩⟩
 ·refine ah (r.hr.at_ i o e) λob h1 h2=>?_
  exact al ob (kp _ _ h1 (r.ap i (aq e))) h2
 ·rcases r.hr.tj o e with z|⟨z1,z2,vs,more,z3,z4⟩
  ·exact .inl (kp _ _ z (nb _ _ e))
  ·exact .inr (bS z1 z2 vs more z3 (kp _ _ z4 (nb _ _ e)))
 ·by_cases hxy:y=x
  ·subst hxy
   rw[show(⟨aR y a σ.loc,σ.H⟩:St).loc=aR y a σ.loc from rfl,aj]at hy
   cases hy
   exact al v (by simp) hv
  ·rw[show(⟨aR x a σ.loc,σ.H⟩:St).loc=aR x a σ.loc from rfl,bV x y a hxy]at hy
   refine ah (hl y b hy) λv' h1 h2=>?_
   exact al v' (by simp only[if_neg hxy];exact h1) h2
 ·by_cases hb:b=env.locals
  ·subst hb
   refine c7 (hn m hm) λo' es' ep' e' d' _=>?_
   exact bh o' es' ep' e' d'
  ·exact bh o es ep (kp b o e1 hb) e2
 ·by_cases hb:b=env.locals
  ·subst hb
   refine dg (hn m hm) λo' _ _ e' _=>?_
   exact⟨o',e'⟩
  ·exact⟨o,kp b o e hb⟩
end
def Fa(c:Cx)(F:Fs)(k:Nat){α:Type}(f:Value→Sem α)(a:AV)(σ:St)(R:(Nat→Addr)→α→Prop)(σ':St):Prop:=
 ∀(A:Around)(ρ:Nat→Addr)(s:Shared)(env:Env)(Q:α→Shared→Prop)(E:Value→Shared→Prop)(x:Value),cN k A→aW c A F ρ σ s env→VR ρ σ.H.length a x→
  (∀ρ' s' r,aW c A F ρ' σ' s' env→aM c ρ σ.H.length (· =env.locals) s ρ' σ'.H.length s'→R ρ' r→Q r s')→wpAny c.M A (f x) Q E s
def wx(c:Cx)(F:Fs)(k:Nat){α:Type}(f:Value→Value→Sem α)(a b:AV)(σ:St)(R:(Nat→Addr)→α→Prop)(σ':St):Prop:=
 ∀(A:Around)(ρ:Nat→Addr)(s:Shared)(env:Env)(Q:α→Shared→Prop)(E:Value→Shared→Prop)(x y:Value),cN k A→aW c A F ρ σ s env→VR ρ σ.H.length a x→VR ρ σ.H.length b y→
  (∀ρ' s' r,aW c A F ρ' σ' s' env→aM c ρ σ.H.length (· =env.locals) s ρ' σ'.H.length s'→R ρ' r→Q r s')→wpAny c.M A (f x y) Q E s
abbrev oW(c:Cx)(F:Fs)(k:Nat)(f:Value→Sem Value)(a:AV)(σ:St)(v:AV)(σ':St):Prop:=Fa c F k f a σ (λρ=>VR ρ σ'.H.length v) σ'
abbrev dz(c:Cx)(F:Fs)(k:Nat)(f:Value→Value→Sem Value)(a b:AV)(σ:St)(v:AV)(σ':St):Prop:=wx c F k f a b σ (λρ=>VR ρ σ'.H.length v) σ'
abbrev Te(c:Cx)(F:Fs)(k:Nat)(e:Expr)(σ:St)(b:Bool)(σ':St):Prop:=C7 c F k (λenv=>isTrue e env (eval e env)) σ (λ_ x=>x=b) σ'
inductive AF where
 |next|brk|cont
 |ret (v:AV)
def FR(ρ:Nat→Addr)(n:Nat):AF→Flow→Prop
 | .next,f=>f=.next
 | .brk,f=>f=.brk
 | .cont,f=>f=.cont
 | .ret a,f=>∃v,f=.ret v∧VR ρ n a v
abbrev Ex(c:Cx)(F:Fs)(k:Nat)(st:Stmt)(σ:St)(f:AF)(σ':St):Prop:=C7 c F k (exec st) σ (λρ=>FR ρ σ'.H.length f) σ'
abbrev dI(c:Cx)(F:Fs)(k:Nat)(st:List Stmt)(σ:St)(f:AF)(σ':St):Prop:=C7 c F k (execs st) σ (λρ=>FR ρ σ'.H.length f) σ'
section
variable{c:Cx}{F:Fs}{k:Nat}{σ σ₁ σ₂ σ₃:St}{a b v:AV}
theorem FR.mono{ρ ρ':Nat→Addr}{n n':Nat}{f:AF}{g:Flow}(h:FR ρ n f g)(ag:∀i,i<n→ρ' i=ρ i)(le:n≤n'):FR ρ' n' f g:=by
 cases f<;>simp only[FR]at h ⊢ <;>try exact h
 refine ah h λx h1 h2=>?_
 exact al x h1 (h2.mono ag le)
theorem i8{e₁ e₂:Expr}{op pos}(h1:Ev c F k e₁ σ a σ₁)(h2:Ev c F k e₂ σ₁ b σ₂)(h3:dz c F k (binaryOp op) a b σ₂ v σ₃):Ev c F k (.BinOp e₁ op e₂ pos) σ v σ₃:= λA ρ s env Q E K r h=>
 wpAny_BinOp (h1 A ρ s env _ E K r λρ1 s1 x r1 st1 va=>h2 A ρ1 s1 env _ E K r1 λρ2 s2 y r2 st2 vb=>h3 A ρ2 s2 env _ E x y K r2 (st2.vr va) vb λρ3 s3 z r3 st3 vz=>h ρ3 s3 z r3 ((st1.trans st2).trans st3) vz)
theorem uJ{e₁ e₂:Expr}{op pos}(hm:behindInMarks op e₂=false)(h1:Ev c F k e₁ σ a σ₁)(h2:Ev c F k e₂ σ₁ b σ₂)(h3:dz c F k (compareOp op) a b σ₂ v σ₃):Ev c F k (.Compare e₁ [op] [e₂] pos) σ v σ₃:= λA ρ s env Q E K r h=>
 wpAny_Compare1 (h1 A ρ s env _ E K r λρ1 s1 x r1 st1 va=>h2 A ρ1 s1 env _ E K r1 λρ2 s2 y r2 st2 vb=>h3 A ρ2 s2 env _ E x y K r2 (st2.vr va) vb λρ3 s3 z r3 st3 vz=>h ρ3 s3 z r3 ((st1.trans st2).trans st3) vz) hm
theorem av{e₁ e₂:Expr}{op pos}{t:Bool}(hm:behindInMarks op e₂=false)(h1:Ev c F k e₁ σ a σ₁)(h2:Ev c F k e₂ σ₁ b σ₂)(h3:dz c F k (compareOp op) a b σ₂ (.bool t) σ₃):Te c F k (.Compare e₁ [op] [e₂] pos) σ t σ₃:= λA ρ s env Q E K r h=>
 wpAny_isTrue_Compare1 (h1 A ρ s env _ E K r λρ1 s1 x r1 st1 va=>h2 A ρ1 s1 env _ E K r1 λρ2 s2 y r2 st2 vb=>h3 A ρ2 s2 env _ E x y K r2 (st2.vr va) vb λρ3 s3 z r3 st3 vz=>by
  subst vz;exact wpAny_truthy_bool (h ρ3 s3 t r3 ((st1.trans st2).trans st3) rfl)) hm
theorem l8{e:Expr}{pos}{t:Bool}(h1:Te c F k e σ t σ₁):Te c F k (.UnaryOp .Not e pos) σ (!t) σ₁:= λA ρ s env Q E K r h=>
 isTrue_not (h1 A ρ s env _ E K r λρ1 s1 x r1 st1 vx=>h ρ1 s1 _ r1 st1 (by rw[vx]))
theorem ie{pos}:Te c F k (.BoolOp .And [] pos) σ true σ:= λA ρ s env Q E K r h=>isTrue_and_nil (h ρ s _ r .refl rfl)
theorem jN{pos}:Te c F k (.BoolOp .Or [] pos) σ false σ:= λA ρ s env Q E K r h=>isTrue_or_nil (h ρ s _ r .refl rfl)
theorem bG{e:Expr}{rest pos}(h1:Te c F k e σ false σ₁):Te c F k (.BoolOp .And (e::rest) pos) σ false σ₁:= λA ρ s env Q E K r h=>
 isTrue_and (h1 A ρ s env _ E K r λρ1 s1 x r1 st1 vx=>by subst vx;exact h ρ1 s1 _ r1 st1 rfl)
theorem bu{e:Expr}{rest pos}{t:Bool}(h1:Te c F k e σ true σ₁)(h2:Te c F k (.BoolOp .And rest pos) σ₁ t σ₂):Te c F k (.BoolOp .And (e::rest) pos) σ t σ₂:= λA ρ s env Q E K r h=>
 isTrue_and (h1 A ρ s env _ E K r λρ1 s1 x r1 st1 vx=>by subst vx;exact h2 A ρ1 s1 env _ E K r1 λρ2 s2 y r2 st2 vy=>h ρ2 s2 y r2 (st1.trans st2) vy)
theorem gB{e:Expr}{rest pos}(h1:Te c F k e σ true σ₁):Te c F k (.BoolOp .Or (e::rest) pos) σ true σ₁:= λA ρ s env Q E K r h=>
 isTrue_or (h1 A ρ s env _ E K r λρ1 s1 x r1 st1 vx=>by subst vx;exact h ρ1 s1 _ r1 st1 rfl)
theorem ej{e:Expr}{rest pos}{t:Bool}(h1:Te c F k e σ false σ₁)(h2:Te c F k (.BoolOp .Or rest pos) σ₁ t σ₂):Te c F k (.BoolOp .Or (e::rest) pos) σ t σ₂:= λA ρ s env Q E K r h=>
 isTrue_or (h1 A ρ s env _ E K r λρ1 s1 x r1 st1 vx=>by subst vx;exact h2 A ρ1 s1 env _ E K r1 λρ2 s2 y r2 st2 vy=>h ρ2 s2 y r2 (st1.trans st2) vy)
theorem bQ{e:Expr}{t:Bool}(he:∀env whole,isTrue e env whole=(do let v←whole;standAt e.pos;holding [v] (truthy v)))(h1:Ev c F k e σ a σ₁)(h2:Fa c F k truthy a σ₁ (λ_ x=>x=t) σ₂):Te c F k e σ t σ₂:= λA ρ s env Q E K r h=>
 isTrue_plain (h1 A ρ s env _ E K r λρ1 s1 x r1 st1 va=>h2 A ρ1 s1 env _ E x K r1 va λρ2 s2 y r2 st2 vy=>h ρ2 s2 y r2 (st1.trans st2) vy) (he _ _)
theorem ar:dI c F k [] σ .next σ:= λA ρ s env Q E K r h=>wpAny_execs_nil (h ρ s _ r .refl rfl)
theorem ae{st:Stmt}{rest:List Stmt}{f:AF}(h1:Ex c F k st σ .next σ₁)(h2:dI c F k rest σ₁ f σ₂):dI c F k (st::rest) σ f σ₂:= λA ρ s env Q E K r h=>
 YH (h1 A ρ s env _ E K r λρ1 s1 x r1 st1 vx=>by
  rw[show x=.next from vx];exact h2 A ρ1 s1 env _ E K r1 λρ2 s2 y r2 st2 vy=>h ρ2 s2 y r2 (st1.trans st2) vy)
theorem bx{st:Stmt}{rest:List Stmt}(h1:Ex c F k st σ (.ret v) σ₁):dI c F k (st::rest) σ (.ret v) σ₁:= λA ρ s env Q E K r h=>
 YH (h1 A ρ s env _ E K r λρ1 s1 x r1 st1 vx=>by
  refine ah vx ?_;clear vx;intro y z0 hy;subst z0;exact h ρ1 s1 _ r1 st1 (al y rfl hy))
theorem gP{st:Stmt}{rest:List Stmt}(h1:Ex c F k st σ .brk σ₁):dI c F k (st::rest) σ .brk σ₁:= λA ρ s env Q E K r h=>
 YH (h1 A ρ s env _ E K r λρ1 s1 x r1 st1 vx=>by rw[show x=.brk from vx];exact h ρ1 s1 _ r1 st1 rfl)
theorem sF{st:Stmt}{rest:List Stmt}(h1:Ex c F k st σ .cont σ₁):dI c F k (st::rest) σ .cont σ₁:= λA ρ s env Q E K r h=>
 YH (h1 A ρ s env _ E K r λρ1 s1 x r1 st1 vx=>by rw[show x=.cont from vx];exact h ρ1 s1 _ r1 st1 rfl)
theorem aL{test:Expr}{body orelse pos}{t:Bool}{f:AF}(h1:Te c F k test σ t σ₁)(h2:dI c F k (if t then body else orelse) σ₁ f σ₂):Ex c F k (.If test body orelse pos) σ f σ₂:= λA ρ s env Q E K r h=>
 wpAny_If (h1 A ρ s env _ E K r λρ1 s1 x r1 st1 vx=>by
  subst vx
  have z:=h2 A ρ1 s1 env Q E K r1 λρ2 s2 y r2 st2 vy=>h ρ2 s2 y r2 (st1.trans st2) vy
  cases x<;>exact z)
theorem hW{pos}:Ex c F k (.Break pos) σ .brk σ:= λA ρ s env Q E K r h=> λ_ _ _=>h ρ s _ r .refl rfl
theorem sL{pos}:Ex c F k (.Continue pos) σ .cont σ:= λA ρ s env Q E K r h=> λ_ _ _=>h ρ s _ r .refl rfl
theorem aX{e:Expr}{pos}(h1:Ev c F k e σ v σ₁):Ex c F k (.Return (some e) pos) σ (.ret v) σ₁:= λA ρ s env Q E K r h=>
 wpAny_Return_some (h1 A ρ s env _ E K r λρ1 s1 x r1 st1 vx=>h ρ1 s1 _ r1 st1 (al x rfl vx))
theorem cu{e:Expr}{pos}(hi:∀env:Env,env.scope=F.scope→interactive env=false)(hs:∀env,swapsWith e none pos.line env=pure false)(h1:Ev c F k e σ v σ₁):Ex c F k (.Expr e pos) σ .next σ₁:= λA ρ s env Q E K r h=>
 wpAny_Expr_any (h1 A ρ s env _ E K r λρ1 s1 x r1 st1 vx=>h ρ1 s1 _ r1 st1 rfl) (hi env r.sc) (hs env)
theorem jb{x:Str}(hk:F.scope.kind=.function)(hx:F.scope.names.lookup x=some .local){A:Around}{ρ:Nat→Addr}{s:Shared}{env:Env}{Q:Unit→Shared→Prop}{E:Value→Shared→Prop}{y:Value}(r:aW c A F ρ σ s env)(hy:VR ρ σ.H.length v y)
  (h:∀s',aW c A F ρ ⟨aR x v σ.loc,σ.H⟩ s' env→aM c ρ σ.H.length (· =env.locals) s ρ σ.H.length s'→Q () s'):wpAny c.M A (storeName env x y) Q E s:=by
 refine ah (r.lo) λm hm hl=>?_
 refine wpAny_storeName_local (m:=m) (by unfold Env.kindOf;rw[r.sc];exact hx) hm (λh' hn hs=>?_) (by rw[r.sc,hk];rfl)
 have z:=r.bind (x:=x) (h':=h') (tk:=s.toks+1) hy (λm' hm'=>?_) hs
 ·exact h _ z.1 z.2
 ·have:m'=m:=by
   refine bp λGz kz=>?_
   refine dT hm λo es ep e1 d1 _ f1=>?_
   refine dT hm' λo2 es2 ep2 e2 d2 _ f2=>?_
   refine kz ?_
   rw[e1]at e2;cases e2
   rw[d1]at d2;cases d2
   funext y;rw[←f1 y,←f2 y]
  subst this;exact hn
theorem aw{x:Str}{e:Expr}{pos' pos}(hk:F.scope.kind=.function)(hx:F.scope.names.lookup x=some .local)(hs:∀env,swapsWith e (some (.Name x pos')) pos.line env=pure false)(h1:Ev c F k e σ v σ₁):
  Ex c F k (.Assign [.Name x pos'] e pos) σ .next ⟨aR x v σ₁.loc,σ₁.H⟩:= λA ρ s env Q E K r h=>
 wpAny_Assign_Name (h1 A ρ s env _ E K r λρ1 s1 y r1 st1 vy=>jb hk hx r1 vy λs2 r2 st2=>h ρ1 s2 _ r2 (st1.trans st2) rfl) (hs env)
theorem nO{x:Str}{e:Expr}{op pos' pos}(hk:F.scope.kind=.function)(hx:F.scope.names.lookup x=some .local)(hd:(x==("__debug__":Str))=false)(hv:σ.loc.lookup x=some a)(h1:Ev c F k e σ b σ₁)(h2:dz c F k (inplaceOp op) a b σ₁ v σ₂):
  Ex c F k (.AugAssign (.Name x pos') op e pos) σ .next ⟨aR x v σ₂.loc,σ₂.H⟩:= λA ρ s env Q E K r h=>by
 refine ah (r.lo) λm hn hm=>?_
 refine ah (hm x a hv) λv' g1 g2=>?_
 exact wpAny_AugAssign_Name (wpAny_loadName_local (by rw[r.sc];exact hk) (by unfold Env.kindOf;rw[r.sc];exact hx) hn g1
  (h1 A ρ s env _ E K r λρ1 s1 y r1 st1 vy=>h2 A ρ1 s1 env _ E v' y K r1 (st1.vr g2) vy λρ2 s2 z r2 st2 vz=>jb hk hx r2 vz λs3 r3 st3=>h ρ2 s3 _ r3 ((st1.trans st2).trans st3) rfl))
end
variable{c:Cx}{F:Fs}{k n tk i d k' n' L fs T kd D S pb j J n₀ m bk N jx jy U j1 ep B:Nat}{σ σ₁ σ₂ σ₃ σ':St}{a b v st st' rd:AV}{α:Type}{f C it:Addr}{R:Result→Shared→Prop}{x y name W tok buf ch cm:Str}{t ex q ws cx hm:Bool}{ρ ρ' ρ₀:Nat→Addr}{es kw loc loc' l l':List (Str×AV)}{A:Around}{s s' s₀:Shared}{env:Env}{xs cs zs:List Str}{H' H H1 H0:List AO}{oc:Value}{od:Option Addr}{osl:Array (Option Value)}{fd:FuncData}{body rest orelse:List Stmt}{args vs as acc:List AV}{e value func test target iter slice elt:Expr}{pos apos p1 p2 p3 p4 p5 p6:Pos}{Q E:Value→Shared→Prop}{o:Obj}{h h' h0:Heap}{id X:String}{p:Str×Str}{M:Model}{ys xm xu sn so:List (Str×Str)}{sc:Scope}{w:World}{prog:Program}{np:Nat→Int}{K:Frag}{r fr:List wv}{fi po:Int}{its:List Value}{gens:List Comprehension}{ifs:List Expr}{rows:Nat→Nat→List Str}{Gz:Prop}{js ey ms us ord seen:List Nat}{ps pi pd:Nat→Nat}{ns:List Int}{f₀:Stmt}{su nd:Nat→List Nat}{ro:List (List Str)}{b1 b0:List Bool}(P:Params)
section
theorem c9{f:Value→Value→Sem α}{R:(Nat→Addr)→α→Prop}(h:∀(A:Around)(ρ:Nat→Addr)(n:Nat)(s:Shared)(Q:α→Shared→Prop)(E:Value→Shared→Prop)(x y:Value),VR ρ n a x→VR ρ n b y→
  (∀t r,R ρ r→Q r {s with toks:=t})→wpAny c.M A (f x y) Q E s):wx c F k f a b σ R σ:= λA ρ s env Q E x y _ r hx hy q=>
 h A ρ _ s Q E x y hx hy λt z hz=>q ρ _ z (r.toks t) (.toks t) hz
theorem uq{f:Value→Sem α}{R:(Nat→Addr)→α→Prop}(h:∀(A:Around)(ρ:Nat→Addr)(n:Nat)(s:Shared)(Q:α→Shared→Prop)(E:Value→Shared→Prop)(x:Value),VR ρ n a x→
  (∀t r,R ρ r→Q r {s with toks:=t})→wpAny c.M A (f x) Q E s):Fa c F k f a σ R σ:= λA ρ s env Q E x _ r hx q=>
 h A ρ _ s Q E x hx λt z hz=>q ρ _ z (r.toks t) (.toks t) hz
theorem ek(h:(x.cps.toList==y.cps.toList)=t):dz c F k (compareOp .Eq) (.str x) (.str y) σ (.bool t) σ:=
 c9 λA ρ n s Q E p q hp hq z=>by refine lU hp λu=>?_;refine lU hq λv=>?_;exact P.eq_str (z s.toks _ (by rw[h];rfl))
theorem wb(h:(x.cps.toList != y.cps.toList)=t):dz c F k (compareOp .NotEq) (.str x) (.str y) σ (.bool t) σ:=
 c9 λA ρ n s Q E p q hp hq z=>by refine lU hp λu=>?_;refine lU hq λv=>?_;exact P.ne_str (z s.toks _ (by rw[h];rfl))
theorem iF(h:(!(Builtin.Str.occurrences y x 0 y.length 1).isEmpty)=t):dz c F k (compareOp .In) (.str x) (.str y) σ (.bool t) σ:=
 c9 λA ρ n s Q E p q hp hq z=>by refine lU hp λu=>?_;refine lU hq λv=>?_;exact P.in_str (z s.toks _ (by rw[h];rfl))
theorem lH:dz c F k (compareOp .Eq) (.str x) .none σ (.bool false) σ:=
 c9 λA ρ n s Q E p q hp hq z=>by refine lU hp λu=>?_;cases hq;exact EqNone.eq_str_none (z s.toks _ rfl)
theorem j6:dz c F k (compareOp .Eq) .none .none σ (.bool true) σ:=
 c9 λA ρ n s Q E p q hp hq z=>by cases hp;cases hq;exact EqNone.eq_none_none (z s.toks _ rfl)
theorem gG{x y:Int}(h:decide (x≥y)=t):dz c F k (compareOp .GtE) (.int x) (.int y) σ (.bool t) σ:=
 c9 λA ρ n s Q E p q hp hq z=>by refine ma hp λu=>?_;refine ma hq λv=>?_;exact P.ge_int (z s.toks _ (by rw[h];rfl))
theorem qt{x y:Int}(h:decide (x > y)=t):dz c F k (compareOp .Gt) (.int x) (.int y) σ (.bool t) σ:=
 c9 λA ρ n s Q E p q hp hq z=>by refine ma hp λu=>?_;refine ma hq λv=>?_;exact P.gt_int (z s.toks _ (by rw[h];rfl))
theorem lG{x y:Int}(h:decide (x<y)=t):dz c F k (compareOp .Lt) (.int x) (.int y) σ (.bool t) σ:=
 c9 λA ρ n s Q E p q hp hq z=>by refine ma hp λu=>?_;refine ma hq λv=>?_;exact P.lt_int (z s.toks _ (by rw[h];rfl))
theorem qR{x y:Int}(h:(x==y)=t):dz c F k (compareOp .Eq) (.int x) (.int y) σ (.bool t) σ:=
 c9 λA ρ n s Q E p q hp hq z=>by refine ma hp λu=>?_;refine ma hq λv=>?_;exact P.eq_int (z s.toks _ (by rw[h];rfl))
theorem DC{x y:Int}(h:(x != y)=t):dz c F k (compareOp .NotEq) (.int x) (.int y) σ (.bool t) σ:=
 c9 λA ρ n s Q E p q hp hq z=>by refine ma hp λu=>?_;refine ma hq λv=>?_;exact P.ne_int (z s.toks _ (by rw[h];rfl))
theorem jc{x y:Int}:dz c F k (binaryOp .Add) (.int x) (.int y) σ (.int (x+y)) σ:=
 c9 λA ρ n s Q E p q hp hq z=>by refine ma hp λu=>?_;refine ma hq λv=>?_;exact P.add_int (z _ _ ⟨_,rfl⟩)
theorem eX{x y:Int}:dz c F k (inplaceOp .Add) (.int x) (.int y) σ (.int (x+y)) σ:=
 c9 λA ρ n s Q E p q hp hq z=>by refine ma hp λu=>?_;refine ma hq λv=>?_;exact P.iadd_int (z _ _ ⟨_,rfl⟩)
noncomputable def AV.isNone:AV→Bool
 | .none=>true
 | .val v=>v== .none
 |_=>false
theorem xt{x:Value}(h:VR ρ n a x):(x== .none)=a.isNone:=by
 cases a<;>simp only[VR]at h
 ·subst h;rfl
 ·subst h;rfl
 ·refine cc h ?_;clear h;intro _ z0;subst z0;rfl
 ·refine cc h ?_;clear h;intro _ z0;subst z0;rfl
 ·refine iR h λ_=>?_;rfl
 ·subst h;rfl
theorem bP(h:a.isNone=t):dz c F k (compareOp .Is) a .none σ (.bool t) σ:=
 c9 λA ρ n s Q E p q hp hq z=>by cases hq;exact is_none_gen (z s.toks _ (by rw[xt hp,h];rfl))
theorem bU(h:(!a.isNone)=t):dz c F k (compareOp .IsNot) a .none σ (.bool t) σ:=
 c9 λA ρ n s Q E p q hp hq z=>by cases hq;exact isnot_none_gen (z s.toks _ (by rw[xt hp,h];rfl))
theorem uB:Fa c F k truthy .none σ (λ_ x=>x=false) σ:=uq λA ρ n s Q E p hp z=>by cases hp;exact truthy_none (z s.toks _ rfl)
theorem bH:Fa c F k truthy (.bool t) σ (λ_ x=>x=t) σ:=uq λA ρ n s Q E p hp z=>by cases hp;exact wpAny_truthy_bool (z s.toks _ rfl)
theorem d7(hz:x.length<2 ^ 62)(h:((x.length:Int) != 0)=t):Fa c F k truthy (.str x) σ (λ_ x=>x=t) σ:=
 uq λA ρ n s Q E p hp z=>by refine lU hp λu=>?_;exact P.truthy_str (by lia) (z _ _ h)
theorem rY(hz:(x++y).length≤sizeLine)(hx:x.length=0→x++y=y)(hy:y.length=0→x++y=x):dz c F k (binaryOp .Add) (.str x) (.str y) σ (.str (x++y)) σ:=
 c9 λA ρ n s Q E p q hp hq z=>by
  refine lU hp λu=>?_;refine lU hq λv=>?_
  refine P.add_str ?_
  split
  ·rename_i h;exact z s.toks _ ⟨v,by rw[hx (by simpa using h)]⟩
  ·split
   ·rename_i h;exact z s.toks _ ⟨u,by rw[hy (by simpa using h)]⟩
   ·exact⟨hz,z _ _ ⟨_,rfl⟩⟩
theorem pY(hz:(x++y).length≤sizeLine)(hx:x.length=0→x++y=y)(hy:y.length=0→x++y=x):dz c F k (inplaceOp .Add) (.str x) (.str y) σ (.str (x++y)) σ:=
 c9 λA ρ n s Q E p q hp hq z=>by
  refine lU hp λu=>?_;refine lU hq λv=>?_
  refine P.iadd_str ?_
  split
  ·rename_i h;exact z s.toks _ ⟨v,by rw[hx (by simpa using h)]⟩
  ·split
   ·rename_i h;exact z s.toks _ ⟨u,by rw[hy (by simpa using h)]⟩
   ·exact⟨hz,z _ _ ⟨_,rfl⟩⟩
end
/-! instances -/
noncomputable def AV.handed:AV→Bool
 | .val v=>handedIn v
 |_=>true
theorem mn{x:Value}(h:VR ρ n a x)(ha:a.handed=true):handedIn x=true:=by
 cases a<;>simp only[VR]at h
 ·subst h;rfl
 ·subst h;rfl
 ·refine cc h ?_;clear h;intro _ z0;subst z0;rfl
 ·refine cc h ?_;clear h;intro _ z0;subst z0;rfl
 ·refine iR h λ_=>?_;rfl
 ·subst h;exact ha
theorem zI{ents:List DictEntry}(h:wH ρ n es ents):es.lookup name=some a→∃e,ents.find? (·.key.isStr name)=some e∧VR ρ n a e.val:=by
 induction h with
 |nil=>intro h;cases h
 | @cons p e ps es k hv t ih=>
  intro h
  refine cc k λu hk=>?_
  rw[ZI]at h
  cases q:(name==p.1)with
  |true=>
   rw[q]at h;cases h
   have q':name=p.1:=by simpa using q
   refine al e ?_ hv
   rw[List.find?_cons,hk]
   simp[Value.isStr,q']
  |false=>
   rw[q]at h
   refine ah (ih h) λe' h1 h2=>?_
   refine al e' ?_ h2
   rw[List.find?_cons,hk]
   have:(Value.str p.1 u).isStr name=false:=by
    simp only[Value.isStr]
    cases z:(p.1==name)with
    |false=>rfl
    |true=>rw[show name=p.1 from(by simpa using z:p.1=name).symm]at q;simp at q
   rw[this];exact h1
theorem th{ents:List DictEntry}(h:wH ρ n es ents):es.lookup name=none→ents.find? (·.key.isStr name)=none:=by
 induction h with
 |nil=>intro _;rfl
 | @cons p e ps es k hv t ih=>
  intro h
  refine cc k λu hk=>?_
  rw[ZI]at h
  cases q:(name==p.1)with
  |true=>rw[q]at h;cases h
  |false=>
   rw[q]at h
   rw[List.find?_cons,hk]
   have:(Value.str p.1 u).isStr name=false:=by
    simp only[Value.isStr]
    cases z:(p.1==name)with
    |false=>rfl
    |true=>rw[show name=p.1 from(by simpa using z:p.1=name).symm]at q;simp at q
   rw[this];exact ih h
theorem kO:∀{es:List (Str×AV)}{ents:List DictEntry},wH ρ n es ents→ents.any (·.refKey)=false:=by
 intro es ents h
 induction h with
 |nil=>rfl
 | @cons p e ps es k hv t ih=>
  refine cc k λu hk=>?_
  rw[List.any_cons,ih]
  simp[DictEntry.refKey,hk]
theorem wi{x:Value}{hsh:Int}{tk:Tok}(hx:VR ρ n a x){ents:List DictEntry}(h:wH ρ n es ents):wH ρ n (aR name a es) (putL name hsh (.str name tk) x ents):=by
 induction h with
 |nil=>exact .cons ⟨tk,rfl⟩ hx .nil
 | @cons p e ps es k hv t ih=>
  refine cc k λu hk=>?_
  rw[gz,show putL name hsh (.str name tk) x (e::_)=if e.key.isStr name then _::_ else e::_ from rfl]
  have e1:e.key.isStr name=(p.1==name):=by rw[hk];rfl
  rw[e1]
  split
  ·exact .cons ⟨u,hk⟩ hx t
  ·exact .cons ⟨u,hk⟩ hv ih
theorem vm:∀{es:List (Str×AV)}{ents:List DictEntry},wH ρ n es ents→es.length=ents.length:=by
 intro es ents h
 induction h with
 |nil=>rfl
 |cons _ _ _ ih=>exact congrArg (· +1) ih
theorem aW.inst(r:aW c A F ρ σ s env)(hi:σ.H[i]?=some (.inst C d))(hd:σ.H[d]?=some (.dict es)):
  ∃ents e,wH ρ σ.H.length es ents∧s.heap.get? (ρ d)=some (dictOf ents e)∧InstAt s.heap (ρ i) {cls:=.ref C,dict:=some (ρ d),data:=.plain} C (some (dictOf ents e)):=by
 refine bp λGz kz=>?_
 refine ah (r.hr.at_ i _ hi) λob h1 h2=>?_
 refine aV h2 ?_;clear h2;intro _ z0;subst z0
 refine ah (r.hr.at_ d _ hd) λod h3 h4=>?_
 refine dk h4 ?_;clear h4;intro ents e z0 h5;subst z0
 refine kz ?_
 exact fq ents e h5 h3 ⟨h1,rfl,rfl,h3⟩
theorem uz{attr:Option Value}(O:c.Ok)(hi:σ.H[i]?=some (.inst C d))(hd:σ.H[d]?=some (.dict es))(hl:es.lookup name=some v)(hv:v.handed=true)
  (hga:findIn c.K (.ref C) "__getattribute__"=some (some (.builtin "object.__getattribute__")))(hh:hasDictIn c.K C=true)(ha:findIn c.K (.ref C) name=some attr)(hn:noGet c.K attr=true):
  oW c F k (λx=>getAttr x name ex) (.obj i) σ v σ:= λA ρ s env Q E x _ r hx q=>by
 refine bp λGz kz=>?_
 refine aV hx ?_;clear hx;intro _ z0;subst z0
 refine cj (r.inst hi hd) λents e h5 h3 I=>?_
 refine ah (zI h5 hl) λen h6 h7=>?_
 refine kz ?_
 refine get_value (v:=en.val) (r.X O) I hga (findObj_own hh ha hn ?_) (mn h7 hv) (q ρ _ _ (r.toks _) (.toks _) h7)
 rw[lookIn_dict];unfold getL;rw[h6]
theorem vN(O:c.Ok)(hi:σ.H[i]?=some (.inst C d))(hd:σ.H[d]?=some (.dict es))(hz:es.length<1000)
  (hs:findIn c.K (.ref C) "__setattr__"=some (some (.builtin "object.__setattr__")))(hp:plainOver c.K C=true)(ht:takerIn c.K C name=some none)(hh:hasDictIn c.K C=true):
  wx c F k (λx y=>setAttr x name y) (.obj i) v σ (λ_ _=>True) ⟨σ.loc,σ.H.set d (.dict (aR name v es))⟩:= λA ρ s env Q E x y _ r hx hy q=>by
 refine bp λGz kz=>?_
 refine aV hx ?_;clear hx;intro _ z0;subst z0
 refine cj (r.inst hi hd) λents e h5 h3 I=>?_
 have dl:d<σ.H.length:=aq hd
 refine ah (r.lo) λm hm _=>?_
 refine kz ?_
 have ne:=r.ap d dl
 refine set_plain (r.X O) I hs (osa_dict (s:={s with toks:=s.toks+1}) (pre:=kx s.heap env.locals (ρ d)) (post:=[]) (es:=putL name (PyData.keyHash c.w.params name) (.str name (s.toks+1)) y ents) (mx hm) (mG h3 ne) (r.X O) I rfl hp ht hh ?_ qc (λ_ h=>nomatch h) (putName_dict ..) rfl ?_ λh' F' N'=>?_)
 ·rw[lookIn_dict];unfold getL
  cases hf:ents.find? (λx=>x.key.isStr name)with
  |some _=>rfl
  |none=>simp only[kO h5];rfl
 ·have:=vm (wi (name:=name) (hsh:=PyData.keyHash c.w.params name) (tk:=s.toks+1) hy h5)
  rw[←this]
  have l2:∀l:List (Str×AV),(aR name v l).length≤l.length+1:=by
   intro l
   induction l with
   |nil=>simp[aR]
   |cons p r ih=>rw[gz];split<;>simp<;>lia
  have:=l2 es
  lia
 ·refine aV (pP N') λg1 g2=>?_
  have z:=r.upd (ao:=.dict (aR name v es)) (tk:=s.toks+1+1) dl g1 (cI _ _ rfl (wi hy h5)) g2 (λm' hm'=>by
   have:m'=m:=by
    refine bp λGz kz=>?_
    refine dT hm λo es ep e1 d1 _ f1=>?_
    refine dT hm' λo2 es2 ep2 e2 d2 _ f2=>?_
    refine kz ?_
    rw[e1]at e2;cases e2
    rw[d1]at d2;cases d2
    funext y;rw[←f1 y,←f2 y]
   subst this;exact F'.ns)
  exact q ρ _ () z.1 z.2 trivial
theorem cN.mono(h:cN k A)(hk:k'≤k):cN k' A:=⟨by have:=h.1;lia,by have:=h.2.1;lia,λz=>h.2.2 (by lia)⟩
theorem cN.deeper{k:Nat}{A:Around}{env:Env}(h:cN (k+1) A):cN k (A.deeper env):=by
 refine fv h λh1 h2 h3=>?_
 exact⟨by show A.depth+1+4*k≤900;lia,by show A.units+3+12*k≤9000;lia,λz=>h3 (by lia)⟩
theorem cN.depth{k:Nat}{A:Around}(h:cN k A):A.depth<recursionLimit:=by have:=h.1;unfold recursionLimit;lia
theorem cN.units{k:Nat}{A:Around}(h:cN k A):A.units<cLine:=by have:=h.2.1;unfold cLine;lia
theorem cN.in1{k:Nat}{A:Around}(h:cN (k+1) A):cN k A.in1:=⟨by have:=h.1;show A.depth+4*k≤900;lia,by have:=h.2.1;show A.units+1+12*k≤9000;lia,λz=>h.2.2 (by lia)⟩
inductive mh(ρ:Nat→Addr)(n:Nat):List (Str×AV)→List (Str×Value)→Prop where
 |nil:mh ρ n [] []
 |cons {x:_} {a:_} {v:_} {as:_} {vs:_} (h:VR ρ n a v) (t:mh ρ n as vs):mh ρ n ((x,a)::as) ((x,v)::vs)
@[elab_as_elim] theorem mC {xs:List Value} {ks:List (Str×Value)} {G:List Value→List (Str×Value)→Prop} (h:cG ρ n [a] xs) (hk:mh ρ n [] ks) (k:∀x,VR ρ n a x→G [x] []):G xs ks:=by
 cases hk
 exact lW h k
@[elab_as_elim] theorem Jj {xs:List Value} {ks:List (Str×Value)} {G:List Value→List (Str×Value)→Prop} (h:cG ρ n [a,b] xs) (hk:mh ρ n [] ks) (k:∀x y,VR ρ n a x→VR ρ n b y→G [x,y] []):G xs ks:=by
 cases hk
 exact I6 h k
theorem mh.mono{ρ ρ':Nat→Addr}{n n':Nat}{as:List (Str×AV)}{vs:List (Str×Value)}(h:mh ρ n as vs)(ag:∀i,i<n→ρ' i=ρ i)(le:n≤n'):mh ρ' n' as vs:=by
 induction h with
 |nil=>exact .nil
 |cons h _ ih=>exact .cons (h.mono ag le) ih
def Fn(c:Cx)(k:Nat)(f:Value)(args:List AV)(kw:List (Str×AV))(H:List AO)(v:AV)(H':List AO):Prop:=
 ∀(A:Around)(ρ:Nat→Addr)(s:Shared)(xs:List Value)(ks:List (Str×Value))(R:Result→Shared→Prop),cN k A→eE c ρ H s.heap→c.gq s.gens s.drawn→rC c A ρ H.length s.heap→cG ρ H.length args xs→mh ρ H.length kw ks→
  (∀ρ' s' x,eE c ρ' H' s'.heap→c.gq s'.gens s'.drawn→aM c ρ H.length (λ_=>False) s ρ' H'.length s'→VR ρ' H'.length v x→R (.ok (.ret x)) s')→codeAny c.M A (.call f ⟨xs,ks⟩) R s
theorem aM.weaken{L L':Addr→Prop}(st:aM c ρ n L s ρ' n' s')(h:∀b,L b→L' b):aM c ρ n L' s ρ' n' s':=⟨st.ag,st.le,st.nw,⟨st.kp.1,λb o e t hL hr=>st.kp.2 b o e t (λz=>hL (h b z)) hr⟩,st.os⟩
theorem aW.ne_tj(O:c.Ok)(r:aW c A F ρ σ s env):env.locals≠c.tj:= λq=>by
 refine cc (O.tjx) λo e=>?_
 have:=r.lf;rw[q,e]at this;cases this
theorem aW.after(O:c.Ok)(r:aW c A F ρ σ s env)(hr:eE c ρ' H' s'.heap)(ge:c.gq s'.gens s'.drawn)(st:aM c ρ σ.H.length (λ_=>False) s ρ' H'.length s'):
  aW c A F ρ' ⟨σ.loc,H'⟩ s' env∧aM c ρ σ.H.length (· =env.locals) s ρ' H'.length s':=by
 refine bp λGz kz=>?_
 refine ah (r.lo) λm hm hl=>?_
 refine dg hm λo es ep e1 d1=>?_
 refine ah (st.kp.2 _ o e1 (r.ne_tj O) (λz=>z) λi hi=>r.ap i hi) λo' kl lk=>?_
 refine kz ?_
 refine⟨⟨hr,r.sc,r.gl,r.bl,?_,λp hp=>ZD (r.ci p hp) st.le,al m (bh o' es ep kl (by rw[lk.data];exact d1)) λx v hv=>?_,λi hi q=>?_,r.lf,ge,r.sk.keep st.ag st.nw λb o2 es2 ep2 g1 g2 g3 g4=>(by
   have ht:b≠c.tj:=(by rintro rfl;refine cc (O.tjx) λo3 e3=>?_;rw[g4]at e3;cases e3)
   refine ah (st.kp.2 b o2 g1 ht (λz=>z) g3) λo3 k3 l3=>?_
   exact bh o3 es2 ep2 k3 (l3.data.trans g2)),r.tp,r.fl⟩,st.weaken λ_ z=>z.elim⟩
 ·rw[r.ce]
  exact ZO λp hp=>by rw[st.ag _ (r.ci p hp)]
 ·refine ah (hl x v hv) λv' h1 h2=>?_
  exact al v' h1 (st.vr h2)
 ·by_cases h:i<σ.H.length
  ·rw[st.ag i h]at q;exact r.ap i h q
  ·have:=st.nw i (ZW h) hi
   rw[q,e1]at this;cases this
noncomputable def AF.val:AF→AV
 | .ret v=>v
 |_=>.none
theorem G1{fl:AF}(O:c.Ok)
  (hf:c.K.lookup f=some ⟨oc,od,.func fd,osl⟩)(hcd:codeIn c.K fd.code fd.qualname=true)(hbody:fd.body=.stmts body)(hcl:fd.closure=[])(hgl:fd.globals=mainGlobals)(hbl:fd.builtins=builtinsNs)
  (hcell:∀x∈fd.scope.names,x.2≠.cell)(hco:fd.scope.isCoroutine=false)(hgen:fd.scope.isGenerator=false)(hk:fd.scope.kind=.function)
  (bd:∀(ρ:Nat→Addr)(s:Shared)(xs:List Value)(ks:List (Str×Value)),c.K.In s.heap→cG ρ H.length args xs→mh ρ H.length kw ks→∃binds,BindsTo s fd ⟨xs,ks⟩ binds∧(∀x∈binds,fd.scope.names.lookup x.1=some .local)∧
   ∀x v,loc.lookup x=some v→∃v',binds.reverse.lookup x=some v'∧VR ρ H.length v v')
  (hb:dI c ⟨fd.scope,[]⟩ k body ⟨loc,H⟩ fl ⟨loc',H'⟩):Fn c (k+1) (.ref f) args kw H fl.val H':= λA ρ s xs ks R K hr ge sk hx hks q=>by
 refine br (bd ρ s xs ks (hr.X O) hx hks) λbinds b1 b2 b3=>?_
 refine codeAny_call_def (o:=⟨oc,od,.func fd,osl⟩) K.depth (hr.X O _ _ hf) rfl (hr.lim O) (codeRec_of (hr.X O) hcd) hbody b1 hcell b2 (λh₀ hns hkp=>?_) hco hgen hk
 have nosz:∀o,c.h₁.get? s.heap.objs.size=some o→False:= λo e=>by
  by_cases t:s.heap.objs.size=c.tj
  ·rw[t]at e
   refine cc (hr.tj.there e) λo' e'=>?_
   rw[←t]at e'
   exact absurd (ZB e') (ZJ _)
  ·exact absurd (ZB (hr.base _ o e t)) (ZJ _)
 have r:aW c (A.deeper (callEnv fd s.heap.objs.size f)) ⟨fd.scope,[]⟩ ρ ⟨loc,H⟩ {s with heap:=h₀,toks:=s.toks+binds.length} (callEnv fd s.heap.objs.size f):=
  ⟨⟨λi o e=>let⟨ob,h1,h2⟩:=hr.at_ i o e;(al ob (hkp _ _ h1) h2),hr.inj,hr.up,λb o e t=>hkp _ _ (hr.base b o e t),λo e=>(hr.tj o e).imp (λz=>hkp _ _ z) λ⟨z1,z2,vs,more,z3,z4⟩=>bS z1 z2 vs more z3 (hkp _ _ z4)⟩,
   rfl,hgl,hbl,(by show fd.closure=_;rw[hcl];rfl),(λp hp=>nomatch hp),al _ hns b3,λi hi q=>(by
   refine ah (hr.at_ i (H[i]) (zG hi)) λob h1 _=>?_
   have:=ZB h1
   rw[show ρ i=s.heap.objs.size from q]at this
   exact ZJ _ this),(by cases q:c.h₁.get? (callEnv fd s.heap.objs.size f).locals with|none=>rfl|some o=>exact(nosz o q).elim),ge,(by
   intro hz
   refine ah (sk hz) λl l1 l2=>?_
   refine al _ (Around.frames_deeper l1) λe he=>?_
   rcases ZH.mp he with rfl|he
   ·refine c7 hns λo es ep g1 g2 _=>?_
    refine eO (by show fd.scope.kind≠.module;rw[hk];decide) s.heap.objs.size o es ep rfl ?_ g1 g2 λi hi q=>?_
    ·cases q:c.h₁.get? s.heap.objs.size with
     |none=>rfl
     |some o=>exact(nosz o q).elim
    ·refine ah (hr.at_ i (H[i]) (zG hi)) λob h1 _=>?_
     have:=ZB h1
     rw[q]at this
     exact ZJ _ this
   ·exact(l2 e he).keep (λ_ _=>rfl) (λi h1 h2=>absurd h2 (ZX.mpr h1)) λb o es ep g1 g2 _ _=>bh o es ep (hkp _ _ g1) g2),(λhz _=>by refine ah (sk hz) λl l1 _=>?_;exact⟨l,Around.frames_deeper l1⟩),λ_=>⟨rfl,rfl⟩⟩
 refine hb (A.deeper (callEnv fd s.heap.objs.size f)) ρ _ _ _ _ K.deeper r λρ' s' fl' r' st vf=>?_
 have st':aM c ρ H.length (λ_=>False) s ρ' H'.length s':=⟨st.ag,st.le,λi h1 h2=>(by
   cases q:s.heap.get? (ρ' i)with
   |none=>rfl
   |some o=>have:=st.nw i h1 h2;rw[hkp _ _ q]at this;cases this),
  ⟨λb o e=>st.kp.1 b o (hkp _ _ e),λb o e t _ h3=>st.kp.2 b o (hkp _ _ e) t (λz=>by
   have:=ZB e
   rw[show b=s.heap.objs.size from z]at this
   exact ZJ _ this) h3⟩,st.os⟩
 cases fl with
 |next=>rw[show fl'=.next from vf];exact q ρ' s' _ r'.hr r'.ge st' rfl
 |brk=>rw[show fl'=.brk from vf];exact q ρ' s' _ r'.hr r'.ge st' rfl
 |cont=>rw[show fl'=.cont from vf];exact q ρ' s' _ r'.hr r'.ge st' rfl
 |ret v=>refine ah vf ?_;clear vf;intro x z0 hx;subst z0;exact q ρ' s' x r'.hr r'.ge st' hx
abbrev Ag(c:Cx)(F:Fs)(k:Nat)(pos:Pos)(args:List Expr)(σ:St)(vs:List AV)(σ':St):Prop:=C7 c F k (λenv=>spliced (backTo pos (starEach args env))) σ (λρ xs=>cG ρ σ'.H.length vs xs) σ'
theorem au{pos:_}:Ag c F k pos [] σ [] σ:= λA ρ s env Q E K r h=>args_nil (h ρ s _ r .refl .nil)
theorem am{pos:_}{rest:List Expr}(he:∀env,starEach (e::rest) env=(false,eval e env)::starEach rest env)(h1:Ev c F k e σ a σ₁)(h2:Ag c F k pos rest σ₁ vs σ₂):Ag c F k pos (e::rest) σ (a::vs) σ₂:= λA ρ s env Q E K r h=>
 args_cons (h1 A ρ s env _ E K r λρ1 s1 x r1 st1 vx=>h2 A ρ1 s1 env _ E K r1 λρ2 s2 y r2 st2 vy=>h ρ2 s2 _ r2 (st1.trans st2) (.cons (st2.vr vx) vy)) (he env)
theorem sP{args:List Expr}{fs:List AV}{first:List Value}(O:c.Ok)
  (hf:c.K.lookup f=some ⟨oc,od,.func fd,osl⟩)(ha:∀(A:Around)(env:Env)(Q:Args→Shared→Prop)(E:Value→Shared→Prop)(s:Shared),wpAny c.M A (spliced (backTo pos (starEach args env))) (λvs s'=>Q ⟨vs,[]⟩ s') E s→wpAny c.M A (evalArgs (.ref f) true (backTo pos (starEach args env)) []) Q E s)
  (h1:Ag c F k pos args σ vs σ₁)(h2:Fn c k (.ref f) (fs++vs) [] σ₁.H v H')(K:cN k A)(r:aW c A F ρ σ s env)(hfirst:cG ρ σ.H.length fs first)
  (h:∀ρ' s' x,aW c A F ρ' ⟨σ₁.loc,H'⟩ s' env→aM c ρ σ.H.length (· =env.locals) s ρ' H'.length s'→VR ρ' H'.length v x→Q x s'):wpAny c.M A (callWith pos (.ref f) first (backTo pos (starEach args env)) []) Q E s:=by
 refine Calls.callWith_function (o:=⟨oc,od,.func fd,osl⟩) (fd:=fd) (ha A env _ E s ?_)
 refine h1 A ρ s env _ E K r λρ1 s1 xs r1 st1 vx=>⟨⟨r1.X O _ _ hf,rfl⟩,wpAny_call (h2 A ρ1 s1 (first++xs) [] _ K r1.hr r1.ge r1.sk ?_ .nil λρ2 s2 x hr2 ge2 st2 vx2=>?_)⟩
 ·have:=st1.vrs hfirst
  clear h2 hfirst
  induction this with
  |nil=>exact vx
  |cons h _ ih=>exact .cons h ih
 ·refine aV (r1.after O hr2 ge2 st2) λr2 st2'=>?_
  exact h ρ2 s2 x r2 (st1.trans st2') vx2
abbrev fR(value:Expr)(attr:Str)(pos:Pos):Prop:=∀env:Env,eval (.Attribute value attr pos) env=(do
   let o←eval value env
   standAt pos.atName
   let r←holding [o] (getAttr o attr true)
   letTemporaryGo value o r
   pure r)
theorem bC{attr:Str}(he:fR value attr pos)(h1:Ev c F k value σ a σ₁)(h2:oW c F k (λx=>getAttr x attr true) a σ₁ v σ₂):Ev c F k (.Attribute value attr pos) σ v σ₂:= λA ρ s env Q E K r h=>
 Attribute_any_ (h1 A ρ s env _ E K r λρ1 s1 x r1 st1 vx=>h2 A ρ1 s1 env _ E x K r1 vx λρ2 s2 y r2 st2 vy=>h ρ2 s2 y r2 (st1.trans st2) vy) (he env)
theorem aP{o:Expr}{attr:Str}{pos':Pos}(hs:∀env,swapsWith e (some (.Attribute o attr pos')) pos.line env=pure false)(h1:Ev c F k e σ v σ₁)(h2:Ev c F k o σ₁ a σ₂)(h3:wx c F k (λx y=>setAttr x attr y) a v σ₂ (λ_ _=>True) σ₃):
  Ex c F k (.Assign [.Attribute o attr pos'] e pos) σ .next σ₃:= λA ρ s env Q E K r h=>
 plainObj_wpAny_Assign_Attribute (h1 A ρ s env _ E K r λρ1 s1 x r1 st1 vx=>h2 A ρ1 s1 env _ E K r1 λρ2 s2 y r2 st2 vy=>h3 A ρ2 s2 env _ E y x K r2 vy (st2.vr vx) λρ3 s3 z r3 st3 _=>h ρ3 s3 _ r3 ((st1.trans st2).trans st3) rfl) (hs env)
theorem eN{o:Expr}{attr:Str}{tpos:Pos}{op:Operator}{σ₄ σ₅:St}{old x:AV}(h1:Ev c F k o σ a σ₁)(h2:oW c F k (λx=>getAttr x attr true) a σ₁ old σ₂)(h3:Ev c F k e σ₂ x σ₃)(h4:dz c F k (inplaceOp op) old x σ₃ v σ₄)(h5:wx c F k (λx y=>setAttr x attr y) a v σ₄ (λ_ _=>True) σ₅):
  Ex c F k (.AugAssign (.Attribute o attr tpos) op e pos) σ .next σ₅:= λA ρ s env Q E K r h=>
 wpAny_AugAssign_AttributeAny (h1 A ρ s env _ E K r λρ1 s1 x r1 st1 vx=>h2 A ρ1 s1 env _ E x K r1 vx λρ2 s2 y r2 st2 vy=>h3 A ρ2 s2 env _ E K r2 λρ3 s3 z r3 st3 vz=>h4 A ρ3 s3 env _ E y z K r3 (st3.vr vy) vz λρ4 s4 u r4 st4 vu=>
  h5 A ρ4 s4 env _ E x u K r4 (st4.vr (st3.vr (st2.vr vx))) vu λρ5 s5 _ r5 st5 _=>h ρ5 s5 _ r5 ((((st1.trans st2).trans st3).trans st4).trans st5) rfl)
abbrev da(c:Cx)(f:Value)(pos:Pos)(args:List Expr):Prop:=∀(A:Around)(env:Env)(Q:Args→Shared→Prop)(E:Value→Shared→Prop)(s:Shared),wpAny c.M A (spliced (backTo pos (starEach args env))) (λvs s'=>Q ⟨vs,[]⟩ s') E s→wpAny c.M A (evalArgs f true (backTo pos (starEach args env)) []) Q E s
theorem aU{f:Value}:da c f pos []:= λA env Q E s h Γ p hΓ=>by
 have z:Q ⟨[],[]⟩ s:=h Γ p hΓ
 exact PyProof.Rows.evalArgs_none (M:=c.M) (A:=A) (E:=E) (f:=f) z Γ p hΓ
theorem af{f:Value}{rest:List Expr}(he:∀env,starEach (e::rest) env=(false,eval e env)::starEach rest env):da c f pos (e::rest):= λA env Q E s h=>by
 rw[he]at h ⊢
 exact Calls.evalArgs_plain h
theorem EE{args:List Expr}(O:c.Ok)
  (he:∀env,eval (.Call func args [] pos) env=(do callWith pos (←eval func env) [] (backTo pos (starEach args env)) (backToKw pos (keywordEach [] env))))
  (h0:Ev c F k func σ (.val (.ref f)) σ₁)(hf:c.K.lookup f=some ⟨oc,od,.func fd,osl⟩)(ha:da c (.ref f) pos args)(h1:Ag c F k pos args σ₁ vs σ₂)(h2:Fn c k (.ref f) vs [] σ₂.H v H'):Ev c F k (.Call func args [] pos) σ v ⟨σ₂.loc,H'⟩:= λA ρ s env Q E K r h=>
 Call_ (h0 A ρ s env _ E K r λρ1 s1 x r1 st1 vx=>by
  subst vx
  exact sP (fs:=[]) O hf ha h1 h2 K r1 .nil λρ2 s2 y r2 st2 vy=>h ρ2 s2 y r2 (st1.trans st2) vy) (he env)
noncomputable def gD(o:Expr)(env:Env):Sem Bool:=do return(←importBound o env).getD true
theorem D3{o:Expr}{args:List Expr}(O:c.Ok)
  (he:∀env,eval (.Call (.Attribute o name apos) args [] pos) env=(do
   let ov←eval o env
   standAt apos.atName
   let(f,first)←holding [ov] (getMethod ov name (gD o env))
   callWith pos f first (backTo pos (starEach args env)) []))
  (h0:Ev c F k o σ (.obj i) σ₁)(hi:σ₁.H[i]?=some (.inst C d))(hd:σ₁.H[d]?=some (.dict es))(hl:es.lookup name=none)
  (hga:findIn c.K (.ref C) "__getattribute__"=some (some (.builtin "object.__getattribute__")))(hk:findIn c.K (.ref C) "__getattr__"=some none)(hn:findIn c.K (.ref C) name=some (some (.ref f)))
  (hf:c.K.lookup f=some ⟨.type "function",od,.func fd,osl⟩)(ha:da c (.ref f) pos args)(h1:Ag c F k pos args σ₁ vs σ₂)(h2:Fn c k (.ref f) (.obj i::vs) [] σ₂.H v H'):Ev c F k (.Call (.Attribute o name apos) args [] pos) σ v ⟨σ₂.loc,H'⟩:= λA ρ s env Q E K r h=>
 MethodCall_ (pl:=gD o env) (h0 A ρ s env _ E K r λρ1 s1 x r1 st1 vx=>by
  refine iR vx λhlt=>?_
  refine cj (r1.inst hi hd) λents e h5 h3 I=>?_
  refine method_fn (r1.X O) I hga hk hn (by show(c.K.lookup f).map (·.cls)=_;rw[hf];rfl) ?_ ?_
  ·show(lookIn name (dictOf ents e)).map _=_
   rw[lookIn_dict];unfold getL;rw[th h5 hl];simp only[kO h5];rfl
  ·exact sP (fs:=[.obj i]) O hf ha h1 h2 K r1 (.cons ⟨hlt,rfl⟩ .nil) λρ2 s2 y r2 st2 vy=>h ρ2 s2 y r2 (st1.trans st2) vy) (he env)
def Wh(c:Cx)(F:Fs)(k:Nat)(test:Expr)(body orelse:List Stmt)(σ:St)(f:AF)(σ':St):Prop:=
 ∀(A:Around)(ρ:Nat→Addr)(s:Shared)(env:Env)(R:Result→Shared→Prop),cN k A→aW c A F ρ σ s env→
  (∀ρ' s' g,aW c A F ρ' σ' s' env→aM c ρ σ.H.length (· =env.locals) s ρ' σ'.H.length s'→FR ρ' σ'.H.length f g→R (.ok g) s')→codeAny c.M A (.whileLoop test body orelse env) R s
theorem iL
  (h:∀E,wpAny c.M A (isTrue test env (eval test env)) (λb s₂=>if b then wpAny c.M A (execs body env) (λf s₃=>match f with
      | .next| .cont=>codeAny c.M A (.whileLoop test body orelse env) R s₃
      | .brk=>R (.ok .next) s₃
      | .ret v=>R (.ok (.ret v)) s₃) E s₂
    else wpAny c.M A (execs orelse env) (λf s₃=>R (.ok f) s₃) E s₂) E s):codeAny c.M A (.whileLoop test body orelse env) R s:=by
 refine codeAny_of_tree ?_
 rw[Around.under_of_weight (c:=.whileLoop test body orelse env) rfl rfl]
 show wpAny c.M A ((whileTurn test body orelse env).onRaise _) _ _ s
 refine wpAny_onRaise ?_
 unfold whileTurn
 refine YC (YE (h _) (λb s₂ h₂=>?_) λ_ _ x=>x)
 cases b with
 |true=>
  refine YC (YE h₂ (λf s₃ h₃=>?_) λ_ _ x=>x)
  cases f with
  |next=>exact YD ⟨rfl,h₃⟩
  |cont=>exact YD ⟨rfl,h₃⟩
  |brk=>exact YD h₃
  |ret v=>exact YD h₃
 |false=>exact YC (YE h₂ (λf s₃ h₃=>YD h₃) λ_ _ x=>x)
theorem jB{f g:AF}(hg:g=.next∨g=.cont)(h1:Te c F k test σ true σ₁)(h2:dI c F k body σ₁ g σ₂)(h3:Wh c F k test body orelse σ₂ f σ₃):Wh c F k test body orelse σ f σ₃:= λA ρ s env R K r h=>
 iL λE=>h1 A ρ s env _ E K r λρ1 s1 x r1 st1 vx=>by
  subst vx
  refine h2 A ρ1 s1 env _ E K r1 λρ2 s2 y r2 st2 vy=>?_
  have z:=h3 A ρ2 s2 env R K r2 λρ3 s3 u r3 st3 vu=>h ρ3 s3 u r3 ((st1.trans st2).trans st3) vu
  rcases hg with rfl|rfl
  ·rw[show y=.next from vy];exact z
  ·rw[show y=.cont from vy];exact z
theorem lZ(h1:Te c F k test σ true σ₁)(h2:dI c F k body σ₁ .brk σ₂):Wh c F k test body orelse σ .next σ₂:= λA ρ s env R K r h=>
 iL λE=>h1 A ρ s env _ E K r λρ1 s1 x r1 st1 vx=>by
  subst vx
  refine h2 A ρ1 s1 env _ E K r1 λρ2 s2 y r2 st2 vy=>?_
  rw[show y=.brk from vy];exact h ρ2 s2 _ r2 (st1.trans st2) rfl
theorem Gy(h1:Te c F k test σ true σ₁)(h2:dI c F k body σ₁ (.ret v) σ₂):Wh c F k test body orelse σ (.ret v) σ₂:= λA ρ s env R K r h=>
 iL λE=>h1 A ρ s env _ E K r λρ1 s1 x r1 st1 vx=>by
  subst vx
  refine h2 A ρ1 s1 env _ E K r1 λρ2 s2 y r2 st2 vy=>?_
  refine ah vy ?_;clear vy;intro u z0 hu;subst z0
  exact h ρ2 s2 _ r2 (st1.trans st2) (al u rfl hu)
theorem ir{f:AF}(h1:Te c F k test σ false σ₁)(h2:dI c F k orelse σ₁ f σ₂):Wh c F k test body orelse σ f σ₂:= λA ρ s env R K r h=>
 iL λE=>h1 A ρ s env _ E K r λρ1 s1 x r1 st1 vx=>by
  subst vx
  exact h2 A ρ1 s1 env _ E K r1 λρ2 s2 y r2 st2 vy=>h ρ2 s2 _ r2 (st1.trans st2) vy
theorem cR{f:AF}(h1:Wh c F k test body orelse σ f σ₁):Ex c F k (.While test body orelse pos) σ f σ₁:= λA ρ s env Q E K r h=>
 wpAny_While (h1 A ρ s env _ K r λρ1 s1 g r1 st1 vg=>h ρ1 s1 g r1 st1 vg)
theorem eE.push{H:List AO}{h:Heap}(r:eE c ρ H h)(o:Obj):eE c ρ H (h.push o):=
 ⟨λi ao e=>let⟨ob,h1,h2⟩:=r.at_ i ao e;(al ob (zH _ h1) h2),r.inj,r.up,λb ob e t=>zH _ (r.base b ob e t),
  λob e=>(r.tj ob e).imp (λz=>zH _ z) λ⟨z1,z2,vs,more,z3,z4⟩=>bS z1 z2 vs more z3 (zH _ z4)⟩
theorem aW.push(r:aW c A F ρ σ s env)(o:Obj)(t:Nat):aW c A F ρ σ {s with heap:=s.heap.push o,toks:=t} env:=
 ⟨r.hr.push o,r.sc,r.gl,r.bl,r.ce,r.ci,let⟨m,hm,hl⟩:=r.lo;(al m (hm.push o) hl),r.ap,r.lf,r.ge,r.sk.same rfl λb o2 es ep g1 g2 _ _=>bh o2 es ep (zH _ g1) g2,r.tp,r.fl⟩
def HP(c:Cx)(A:Around)(F:Fs)(ρ:Nat→Addr)(σ:St)(s:Shared)(env:Env)(h:Heap):Prop:=
 (∀t,aW c A F ρ σ {s with heap:=h,toks:=t} env)∧∀b o,s.heap.get? b=some o→h.get? b=some o
theorem HP.start(r:aW c A F ρ σ s env):HP c A F ρ σ s env s.heap:=⟨λt=>r.toks t,λ_ _ e=>e⟩
theorem HP.kept:KeptH (HP c A F ρ σ s env):= λh ob p=>⟨λt=>(p.1 t).push ob t,λb o e=>zH _ (p.2 b o e)⟩
theorem HP.step(p:HP c A F ρ σ s env h)(t:Nat):aM c ρ σ.H.length (· =env.locals) s ρ σ.H.length {s with heap:=h,toks:=t}:=
 ⟨λ_ _=>rfl,ZA _,λi h1 h2=>absurd h2 (ZX.mpr h1),⟨λb o e=>⟨o,p.2 b o e⟩,λb o e _ _ _=>al o (p.2 b o e) .refl⟩,rfl⟩
theorem HP.of_push(r:aW c A F ρ σ s env):HP c A F ρ σ s env (s.heap.push o):=HP.kept _ _ (HP.start r)
def Jv(c:Cx)(F:Fs)(k:Nat){α:Type}(f:List Value→Sem α)(as:List AV)(σ:St)(R:(Nat→Addr)→α→Prop)(σ':St):Prop:=
 ∀(A:Around)(ρ:Nat→Addr)(s:Shared)(env:Env)(Q:α→Shared→Prop)(E:Value→Shared→Prop)(xs:List Value),cN k A→aW c A F ρ σ s env→cG ρ σ.H.length as xs→
  (∀ρ' s' r,aW c A F ρ' σ' s' env→aM c ρ σ.H.length (· =env.locals) s ρ' σ'.H.length s'→R ρ' r→Q r s')→wpAny c.M A (f xs) Q E s
abbrev cK(c:Cx)(F:Fs)(k:Nat)(f:List Value→Sem Value)(as:List AV)(σ:St)(v:AV)(σ':St):Prop:=Jv c F k f as σ (λρ=>VR ρ σ'.H.length v) σ'
theorem dA{args:List Expr}
  (he:∀env,eval (.Call func args [] pos) env=(do callWith pos (←eval func env) [] (backTo pos (starEach args env)) (backToKw pos (keywordEach [] env))))
  (hp:∀env,(backTo pos (starEach args env)).any (·.1)=false)
  (h0:Ev c F k func σ (.val (.builtin id)) σ₁)(ha:da c (.builtin id) pos args)(h1:Ag c F k pos args σ₁ vs σ₂)(h2:cK c F k (λxs=>call (.builtin id) xs) vs σ₂ v σ₃):Ev c F k (.Call func args [] pos) σ v σ₃:= λA ρ s env Q E K r h=>
 Call_ (h0 A ρ s env _ E K r λρ1 s1 x r1 st1 vx=>by
  subst vx
  refine Calls.callWith_builtin (hp env) (ha A env _ E s1 ?_)
  exact h1 A ρ1 s1 env _ E K r1 λρ2 s2 xs r2 st2 vxs=>h2 A ρ2 s2 env _ E xs K r2 vxs λρ3 s3 z r3 st3 vz=>h ρ3 s3 z r3 ((st1.trans st2).trans st3) vz) (he env)
theorem cQ{T:String}{args:List Expr}
  (he:∀env,eval (.Call func args [] pos) env=(do callWith pos (←eval func env) [] (backTo pos (starEach args env)) (backToKw pos (keywordEach [] env))))
  (hp:∀env,(backTo pos (starEach args env)).any (·.1)=false)
  (h0:Ev c F k func σ (.val (.type T)) σ₁)(ha:da c (.type T) pos args)(h1:Ag c F k pos args σ₁ vs σ₂)(h2:cK c F k (λxs=>call (.type T) xs) vs σ₂ v σ₃):Ev c F k (.Call func args [] pos) σ v σ₃:= λA ρ s env Q E K r h=>
 Call_ (h0 A ρ s env _ E K r λρ1 s1 x r1 st1 vx=>by
  subst vx
  refine PyProof.Rows.callWith_type (hp env) (ha A env _ E s1 ?_)
  exact h1 A ρ1 s1 env _ E K r1 λρ2 s2 xs r2 st2 vxs=>h2 A ρ2 s2 env _ E xs K r2 vxs λρ3 s3 z r3 st3 vz=>h ρ3 s3 z r3 ((st1.trans st2).trans st3) vz) (he env)
theorem rq{f:List Value→Sem α}{R:(Nat→Addr)→α→Prop}(h:∀(A:Around)(ρ:Nat→Addr)(n:Nat)(s:Shared)(Q:α→Shared→Prop)(E:Value→Shared→Prop)(x:Value),VR ρ n a x→
  (∀t r,R ρ r→Q r {s with toks:=t})→wpAny c.M A (f [x]) Q E s):Jv c F k f [a] σ R σ:= λA ρ s env Q E xs _ r hx q=>by
 cases hx with
 |cons hx ht=>cases ht;exact h A ρ _ s Q E _ hx λt z hz=>q ρ _ z (r.toks t) (.toks t) hz
theorem sx(hz:x.length<2 ^ 62):cK c F k (λxs=>call (.builtin "len") xs) [.str x] σ (.int x.length) σ:=
 rq λA ρ n s Q E y hy z=>by refine lU hy λt=>?_;exact P.len_str (by lia) (z _ _ ⟨_,rfl⟩)
theorem Az{i:Int}:cK c F k (λxs=>call (.type "type") xs) [.int i] σ (.val (.type "int")) σ:=
 rq λA ρ n s Q E y hy z=>by refine ma hy λt=>?_;exact call_type_of (typeIs_int s i t) (by decide) (z s.toks _ rfl)
theorem Ep{i:Int}:cK c F k (λxs=>call (.type "int") xs) [.int i] σ (.int i) σ:=
 rq λA ρ n s Q E y hy z=>by refine ma hy λt=>?_;exact call_int_int (z s.toks _ ⟨t,rfl⟩)
theorem iZ{Y:String}(h:(!(Value.type X==Value.type Y))=t):dz c F k (compareOp .IsNot) (.val (.type X)) (.val (.type Y)) σ (.bool t) σ:=
 c9 λA ρ n s Q E p q hp hq z=>by cases hp;cases hq;exact isnot_type (z s.toks _ (by rw[h];rfl))
theorem qP{pos:_}{i:Int}(h1:Ev c F k e σ (.int i) σ₁):Ev c F k (.UnaryOp .USub e pos) σ (.int (-i)) σ₁:= λA ρ s env Q E K r h=>
 UnaryOp_ (h1 A ρ s env _ E K r λρ1 s1 x r1 st1 vx=>by refine ma vx λt=>?_;exact P.neg_int (h ρ1 _ _ (r1.toks _) (st1.trans (.toks _)) ⟨_,rfl⟩))
abbrev Pt(c:Cx)(F:Fs)(k:Nat)(e:Option Expr)(σ:St)(i:Option Int)(σ':St):Prop:=C7 c F k (λenv=>evalPart e env) σ (λ_ x=>∃l:Option (Int×Tok),x=partValue l∧l.map (·.1)=i) σ'
theorem ds:Pt c F k none σ none σ:= λA ρ s env Q E K r h=>evalPart_none_step (h ρ s _ r .refl (al none rfl rfl))
theorem e9{i:Int}(h1:Ev c F k e σ (.int i) σ₁):Pt c F k (some e) σ (some i) σ₁:= λA ρ s env Q E K r h=>
 evalPart_some_step (h1 A ρ s env _ E K r λρ1 s1 x r1 st1 vx=>by refine ma vx λt=>?_;exact h ρ1 s1 _ r1 st1 (al (some (i,t)) rfl rfl))
theorem rm{lower upper:Option Expr}{p:Pos}{l u:Option Int}(hz:x.length≤sizeLine)
  (h0:Ev c F k value σ (.str x) σ₁)(h1:Pt c F k lower σ₁ l σ₂)(h2:Pt c F k upper σ₂ u σ₃):Ev c F k (.Subscript value (.Slice lower upper none p) pos) σ (.str (Txt.slice x l u)) σ₃:= λA ρ s env Q E K r h=>
 Subscript_ (h0 A ρ s env _ E K r λρ1 s1 y r1 st1 vy=>wpAny_Slice (h1 A ρ1 s1 env _ E K r1 λρ2 s2 y2 r2 st2 vl=>h2 A ρ2 s2 env _ E K r2 λρ3 s3 y3 r3 st3 vu=>evalPart_none_step (by
  refine lU vy λt=>?_
  refine ah vl ?_;clear vl;intro l' z0 hl;subst z0
  refine ah vu ?_;clear vu;intro u' z0 hu;subst z0
  have pp:=HP.of_push (o:={cls:=.type "slice",data:=.fields #[partValue l',partValue u',.none]}) r3
  subst hl hu
  exact tail_any (ops:=[_,_]) (typeIs_str _ x t) PySem.F.slot_str_getitem.lookup (wpAny_getItem_str_slice (l:=l') (u:=u') (st:=none) (bO _ (ZN _ rfl) rfl rfl) rfl
   (post_val_or_str (s:={s3 with heap:=s3.heap.push _}) ⟨Z2 (Txt.slice_le x _ _) hz,λt' kk=>h ρ3 _ _ (pp.1 kk) (((st1.trans st2).trans st3).trans (pp.step kk)) ⟨t',rfl⟩⟩)) rfl)))
noncomputable def gg(ρ:Nat→Addr)(n:Nat)(a:Addr):Nat→Addr:= λi=>if i=n then a else ρ i
theorem bc{a:Addr}(h:i<n):gg ρ n a i=ρ i:=if_neg (Z6 h)
theorem aF{a:Addr}:gg ρ n a n=a:=if_pos rfl
theorem rC.in1{n:Nat}{h:Heap}(x:rC c A ρ n h):rC c A.in1 ρ n h:=x
theorem eE.nosz(hr:eE c ρ H h)(o:Obj)(e:c.h₁.get? h.objs.size=some o):False:=by
 by_cases t:h.objs.size=c.tj
 ·rw[t]at e
  refine cc (hr.tj.there e) λo' e'=>?_
  rw[←t]at e'
  exact absurd (ZB e') (ZJ _)
 ·exact absurd (ZB (hr.base _ o e t)) (ZJ _)
theorem fm(h:Heap):h.get? h.objs.size=none:=by
 cases q:h.get? h.objs.size with
 |none=>rfl
 |some o=>exact absurd (ZB q) (ZJ _)
theorem eE.alloc(r:eE c ρ H h){ao:AO}{ob:Obj}(hf:ob.isFreed=false)(ho:OR (gg ρ H.length h.objs.size) (H.length+1) ao ob):eE c (gg ρ H.length h.objs.size) (H++[ao]) (h.push ob):=by
 have len:(H++[ao]).length=H.length+1:=by simp
 have lt:∀i,i<H.length→ρ i<h.objs.size:= λi hi=>by
  refine ah (r.at_ i (H[i]) (zG hi)) λo h1 _=>?_
  exact ZB h1
 refine⟨λi o e=>?_,λi j hi hj q=>?_,λi hi=>?_,λb o e t=>zH _ (r.base b o e t),λo e=>(r.tj o e).imp (λz=>zH _ z) λ⟨z1,z2,vs,more,z3,z4⟩=>bS z1 z2 vs more z3 (zH _ z4)⟩
 ·rw[len]
  by_cases hi:i<H.length
  ·rw[zL hi]at e
   refine ah (r.at_ i o e) λob' h1 h2=>?_
   exact al ob' (by rw[bc hi];exact zH _ h1) (h2.mono (λj hj=>bc hj) (Zf _))
  ·have hi2:i=H.length:=by
    have:=aq e
    rw[len]at this;lia
   subst hi2
   rw[zR (ZA _),ZY]at e
   cases e
   exact al ob (by rw[aF];exact ZN _ hf) ho
 ·rw[len]at hi hj
  by_cases h1:i<H.length
  ·by_cases h2:j<H.length
   ·rw[bc h1,bc h2]at q;exact r.inj i j h1 h2 q
   ·have:j=H.length:=by lia
    subst this
    rw[bc h1,aF]at q
    exact absurd (lt i h1) (by rw[q];exact ZJ _)
  ·have:i=H.length:=by lia
   subst this
   by_cases h2:j<H.length
   ·rw[bc h2,aF]at q
    exact absurd (lt j h2) (by rw[←q];exact ZJ _)
   ·lia
 ·rw[len]at hi
  by_cases h1:i<H.length
  ·rw[bc h1];exact r.up i h1
  ·have:i=H.length:=by lia
   subst this
   rw[aF]
   cases q:c.h₁.get? h.objs.size with
   |none=>rfl
   |some o=>exact(r.nosz o q).elim
theorem aW.alloc(r:aW c A F ρ σ s env){ao:AO}{ob:Obj}(t:Nat)(hf:ob.isFreed=false)(ho:OR (gg ρ σ.H.length s.heap.objs.size) (σ.H.length+1) ao ob):
  aW c A F (gg ρ σ.H.length s.heap.objs.size) ⟨σ.loc,σ.H++[ao]⟩ {s with heap:=s.heap.push ob,toks:=t} env∧aM c ρ σ.H.length (· =env.locals) s (gg ρ σ.H.length s.heap.objs.size) (σ.H++[ao]).length {s with heap:=s.heap.push ob,toks:=t}:=by
 have len:(σ.H++[ao]).length=σ.H.length+1:=by simp
 refine ah (r.lo) λm hm hl=>?_
 refine⟨⟨r.hr.alloc hf ho,r.sc,r.gl,r.bl,?_,λp hp=>?_,al m (hm.push ob) λx v hv=>?_,λi hi q=>?_,r.lf,r.ge,r.sk.keep (λi hi=>bc hi) (λi h1 h2=>?_) λb o2 es ep g1 g2 _ _=>bh o2 es ep (zH _ g1) g2,r.tp,r.fl⟩,
  ⟨λi hi=>bc hi,by rw[len];exact Zf _,λi h1 h2=>?_,⟨λb o e=>⟨o,zH _ e⟩,λb o e _ _ _=>al o (zH _ e) .refl⟩,rfl⟩⟩
 ·rw[r.ce];exact ZO λp hp=>by rw[bc (r.ci p hp)]
 ·show p.2<(σ.H++[ao]).length
  rw[len];exact Zd (r.ci p hp)
 ·refine ah (hl x v hv) λv' h1 h2=>?_
  exact al v' h1 (h2.mono (λj hj=>bc hj) (by show σ.H.length≤(σ.H++[ao]).length;rw[len];exact Zf _))
 ·by_cases h1:i<σ.H.length
  ·rw[bc h1]at q;exact r.ap i h1 q
  ·have hi':i<(σ.H++[ao]).length:=hi
   rw[len]at hi'
   have:i=σ.H.length:=by lia
   subst this
   rw[aF]at q
   have z:=hm.lt
   rw[←q]at z
   exact ZJ _ z
 ·have h2':i<(σ.H++[ao]).length:=h2
  rw[len]at h2'
  have:i=σ.H.length:=by lia
  subst this
  rw[aF];exact fm _
 ·rw[len]at h2
  have:i=σ.H.length:=by lia
  subst this
  rw[aF];exact fm _
theorem vE{p fget:Addr}{rest:List Value}(O:c.Ok)(hi:σ.H[i]?=some (.inst C d))(hd:σ.H[d]?=some (.dict es))(hv:v.handed=true)
  (hga:findIn c.K (.ref C) "__getattribute__"=some (some (.builtin "object.__getattribute__")))(hk:findIn c.K (.ref C) "__getattr__"=some none)(hh:hasDictIn c.K C=true)(ha:findIn c.K (.ref C) name=some (some (.ref p)))
  (hn:specialIn c.K (.ref p) "__get__"=some (some (.builtin "property.__get__")))(ht:takesIn c.K (.ref p)=some true)(hp:recIn c.K p "property"=some (.ref fget::rest))(hf:Fn c k (.ref fget) [.obj i] [] σ.H v H'):
  oW c F (k+1) (λx=>getAttr x name ex) (.obj i) σ v ⟨σ.loc,H'⟩:= λA ρ s env Q E x K r hx q=>by
 refine iR hx λhlt=>?_
 refine cj (r.inst hi hd) λents e h5 h3 I=>?_
 have r':=r.toks (s.toks+1)
 refine get_bind (r.X O) I hga (findObj_data (by refine ah (any_some hh) λcd hc _=>?_;rw[hc];rfl) ha hn ht) hk (wpAny_call (prop_get (s:={s with toks:=s.toks+1}) (r.X O) hp ?_))
 refine hf A.in1 ρ _ _ _ _ K.in1 r'.hr r'.ge r'.sk.in1 (.cons ⟨hlt,rfl⟩ .nil) .nil λρ2 s2 y hr2 ge2 st2 vy=>?_
 refine aV (r'.after O hr2 ge2 st2) λr2 st2'=>?_
 show wpAny _ _ (handedOut y) _ _ _
 rw[handedOut_of (mn vy hv)]
 exact YD (q ρ2 s2 y r2 ((aM.toks _).trans st2') vy)
inductive B5:List Expr→List Str→Prop where
 |nil:B5 [] []
 |cons {x:_} {q:_} {p:_} {es:_} {xs:_} (t:B5 es xs):B5 (.Constant (.str x) q p::es) (x::xs)
theorem qg{es:List Expr}(h:B5 es xs):∀{s:Shared}{Q:List Value→Shared→Prop},(∀vs t,StrsAre vs xs→Q vs {s with toks:=t})→wpAny M A (spliced (backTo pos (starEach es env))) Q E s:=by
 induction h with
 |nil=>intro s Q h;exact args_nil (h [] s.toks .nil)
 | @cons x q p es xs t ih=>intro s Q h;exact args_cons (Calls.Constant_str (ih λvs tk hv=>h (_::vs) tk (.cons x _ hv))) rfl
theorem yI{elts:List Expr}{tp:Pos}{ys:List Str}(hs:B5 elts ys)(hl:ys.length≤100)(hx:ys.any (· ==x)=t)(h1:Ev c F k e σ (.str x) σ₁):Te c F k (.Compare e [.In] [.Tuple elts kd tp] pos) σ t σ₁:= λA ρ s env Q E K r h=>
 wpAny_isTrue_Compare1 (h1 A ρ s env _ E K r λρ1 s1 y r1 st1 vy=>Tuple_ (qg hs λvs tk hv=>by
  refine lU vy λu=>?_
  have ln:vs.length=ys.length:=by
   clear hx h hs hl
   induction hv with
   |nil=>rfl
   |cons _ _ _ ih=>simp[ih]
  refine wpAny_newTuple ?_ (by unfold sizeLine;lia)
  have pp:=HP.of_push (o:={cls:=.type "tuple",data:=.seq vs.toArray}) r1
  refine in_tuple_strs (items:=vs.toArray) (iG _ (ZN _ rfl) rfl _ rfl) (by simpa using hv) (wpAny_truthy_bool ?_)
  exact h ρ1 _ _ (pp.1 tk) (st1.trans (pp.step tk)) hx)) rfl
noncomputable def kr(l:List Stmt)(i:Nat):Scope:=(jk l i).2.1
noncomputable def uE(l:List Stmt)(i:Nat):Expr:=(jk l i).2.2.1.headD (.Constant .none 0 ⟨0,0,0,0⟩)
noncomputable def HJ:Expr→Str
 | .Constant (.str x) _ _=>x
 |_=>""
noncomputable def Kx:Frag:=Kh P
noncomputable def wF(a:Addr):Obj:=((Kx P).lookup a).getD default
noncomputable def dw(a:Addr):FuncData:=match(wF P a).data with| .func fd=>fd|_=>default
structure Cx.Go(c:Cx):Prop where
 ok:c.Ok
 hK:c.K=Kx c.w.params
structure dG(P:Params)(a:Addr)(body:List Stmt)(sc:Scope):Prop where
 lk:(Kx P).lookup a=some ⟨.type "function",(wF P a).dict,.func (dw P a),(wF P a).slots⟩
 cd:codeIn (Kx P) (dw P a).code (dw P a).qualname=true
 bd:(dw P a).body=.stmts body
 se:(dw P a).scope=sc
 cl:(dw P a).closure=[]
 gl:(dw P a).globals=mainGlobals
 bl:(dw P a).builtins=builtinsNs
 ce:(sc.names.all λx=>x.2 != .cell)=true
 co:sc.isCoroutine=false
 ge:sc.isGenerator=false
 ki:sc.kind=.function
theorem iN{binds:List (Str×Value)}(h:mh ρ n loc binds):loc.lookup x=some v→∃v',binds.lookup x=some v'∧VR ρ n v v':=by
 induction h with
 |nil=>intro h;cases h
 | @cons y a w _ _ hv t ih=>
  intro h
  rw[ZI]at h ⊢
  cases q:(x==y)with
  |true=>rw[q]at h;cases h;exact al w rfl hv
  |false=>rw[q]at h;exact ih h
theorem jq{binds:List (Str×Value)}(h:mh ρ n loc binds):binds.map (·.1)=loc.map (·.1):=by
 induction h with
 |nil=>rfl
 |cons _ _ ih=>rw[ZZ,ZZ,ih]
theorem mH{α:Type}{x:Str}:∀{l:List (Str×α)},x∉l.map (·.1)→l.lookup x=none
 | [],_=>rfl
 |(y,w)::r,h=>by
  have h1:(x==y)=false:=by
   cases q:(x==y)with
   |false=>rfl
   |true=>exact absurd (by simp at q;simp[q]) h
  rw[ZI,h1]
  exact mH λz=>h (by simp at z ⊢;exact .inr z)
theorem dV{α:Type}{x:Str}:∀{l:List (Str×α)},(l.map (·.1)).Nodup→l.reverse.lookup x=l.lookup x
 | [],_=>rfl
 |(y,w)::r,h=>by
  rw[ZZ,List.nodup_cons]at h
  rw[List.reverse_cons,List.lookup_append,dV h.2]
  have e1:YB x [(y,w)]=if x==y then some w else none:=by
   rw[ZI];cases(x==y)<;>rfl
  have e2:YB x ((y,w)::r)=if x==y then some w else YB x r:=by
   rw[ZI];cases(x==y)<;>rfl
  rw[e1,e2]
  cases q:(x==y)with
  |false=>cases YB x r<;>simp
  |true=>
   have e:x=y:=by simpa using q
   rw[mH (by rw[e];exact h.1)];simp
theorem aW.forget(r:aW c A F ρ ⟨loc,H⟩ s env):aW c A F ρ ⟨[],H⟩ s env:=
 ⟨r.hr,r.sc,r.gl,r.bl,r.ce,r.ci,let⟨m,hm,_⟩:=r.lo;(al m hm λ_ _ h=>nomatch h),r.ap,r.lf,r.ge,r.sk,r.tp,r.fl⟩
theorem aK{f:AF}(h:dI c F k body σ f ⟨loc,H⟩):dI c F k body σ f ⟨[],H⟩:= λA ρ s env Q E K r q=>
 h A ρ s env Q E K r λρ' s' a r' st v=>q ρ' s' a r'.forget st v
theorem dh{fl:AF}(G:c.Go)(X:dG c.w.params f body sc)
  (nd:decide (loc.map (·.1)).Nodup=true)(lo:(loc.all λp=>sc.names.lookup p.1==some .local)=true)
  (bd:∀(ρ:Nat→Addr)(n:Nat)(s:Shared)(xs:List Value)(ks:List (Str×Value)),(Kx c.w.params).In s.heap→cG ρ n args xs→mh ρ n kw ks→∃binds,BindsTo s (dw c.w.params f) ⟨xs,ks⟩ binds∧mh ρ n loc binds)
  (hb:dI c ⟨sc,[]⟩ k body ⟨loc,H⟩ fl ⟨[],H'⟩):Fn c (k+1) (.ref f) args kw H fl.val H':=by
 have e:=X.se
 subst e
 refine G1 (fd:=dw c.w.params f) (loc:=loc) G.ok (by rw[G.hK];exact X.lk) (by rw[G.hK];exact X.cd) X.bd X.cl X.gl X.bl (λx hx=>?_) X.co X.ge X.ki (λρ s xs ks XX hx hk=>?_) hb
 ·have:=ZF.mp X.ce x hx
  simpa using this
 ·refine ah (bd ρ _ s xs ks (G.hK▸XX) hx hk) λbinds b1 b2=>?_
  have nm:=jq b2
  refine bO binds b1 (λx hx=>?_) λx v hv=>?_
  ·have hm:x.1∈loc.map (·.1):=by rw[←nm];exact List.mem_map_of_mem hx
   refine ah (ZR.mp hm) λp hp e=>?_
   have:=ZF.mp lo p hp
   rw[←e];simpa using this
  ·refine ah (iN b2 hv) λv' h1 h2=>?_
   exact al v' (by rw[dV (by rw[nm];exact of_decide_eq_true nd)];exact h1) h2
structure GN(K:Frag)(C:Addr):Prop where
 ga:findIn K (.ref C) "__getattribute__"=some (some (.builtin "object.__getattribute__"))
 gk:findIn K (.ref C) "__getattr__"=some none
 hd:hasDictIn K C=true
 sa:findIn K (.ref C) "__setattr__"=some (some (.builtin "object.__setattr__"))
 po:plainOver K C=true
theorem bY(G:c.Go)(X:GN (Kx c.w.params) C)(hi:σ.H[i]?=some (.inst C d))(hd:σ.H[d]?=some (.dict es))(hl:es.lookup name=some v)(hv:v.handed=true)
  (ha:findIn (Kx c.w.params) (.ref C) name=some none):oW c F k (λx=>getAttr x name ex) (.obj i) σ v σ:=
 uz G.ok hi hd hl hv (G.hK▸X.ga) (G.hK▸X.hd) (attr:=none) (G.hK▸ha) rfl
theorem cJ(G:c.Go)(X:GN (Kx c.w.params) C)(hi:σ.H[i]?=some (.inst C d))(hd:σ.H[d]?=some (.dict es))(hz:es.length<1000)
  (ha:findIn (Kx c.w.params) (.ref C) name=some none):wx c F k (λx y=>setAttr x name y) (.obj i) v σ (λ_ _=>True) ⟨σ.loc,σ.H.set d (.dict (aR name v es))⟩:=
 vN G.ok hi hd hz (G.hK▸X.sa) (G.hK▸X.po) (by rw[G.hK];unfold takerIn;rw[ha];rfl) (G.hK▸X.hd)
theorem dG.at{a:Addr}{b:List Stmt}(G:c.Go)(X:dG c.w.params a b sc):c.K.lookup a=some ⟨.type "function",(wF c.w.params a).dict,.func (dw c.w.params a),(wF c.w.params a).slots⟩:=by
 rw[G.hK];exact X.lk
theorem jT{args:List Expr}(G:c.Go)(X:dG c.w.params f body sc)
  (he:∀env,eval (.Call func args [] pos) env=(do callWith pos (←eval func env) [] (backTo pos (starEach args env)) (backToKw pos (keywordEach [] env))))
  (h0:Ev c F k func σ (.val (.ref f)) σ₁)(ha:da c (.ref f) pos args)(h1:Ag c F k pos args σ₁ vs σ₂)(h2:Fn c k (.ref f) vs [] σ₂.H v H'):Ev c F k (.Call func args [] pos) σ v ⟨σ₂.loc,H'⟩:=
 EE G.ok he h0 (X.at G) ha h1 h2
theorem gp{o:Expr}{args:List Expr}(G:c.Go)(X:dG c.w.params f body sc)(Y:GN (Kx c.w.params) C)
  (he:∀env,eval (.Call (.Attribute o name apos) args [] pos) env=(do
   let ov←eval o env
   standAt apos.atName
   let(f,first)←holding [ov] (getMethod ov name (gD o env))
   callWith pos f first (backTo pos (starEach args env)) []))
  (h0:Ev c F k o σ (.obj i) σ₁)(hi:σ₁.H[i]?=some (.inst C d))(hd:σ₁.H[d]?=some (.dict es))(hl:es.lookup name=none)(hn:findIn (Kx c.w.params) (.ref C) name=some (some (.ref f)))
  (ha:da c (.ref f) pos args)(h1:Ag c F k pos args σ₁ vs σ₂)(h2:Fn c k (.ref f) (.obj i::vs) [] σ₂.H v H'):Ev c F k (.Call (.Attribute o name apos) args [] pos) σ v ⟨σ₂.loc,H'⟩:=
 D3 G.ok he h0 hi hd hl (G.hK▸Y.ga) (G.hK▸Y.gk) (G.hK▸hn) (X.at G) ha h1 h2
theorem bB{P:Params}{args:Args}{binds:List (Str×Value)}(X:(Kx P).In s.heap)(e:∀S,peek (Kx P) S (bindArgs fd args)=some binds):BindsTo s fd args binds:=
 λM A E Q hq=>(Looks.of_peek X (e _)).here hq
noncomputable def CS:=cV bJ 14
noncomputable def xg:=kr bJ 14
noncomputable def Et:=cV (cV bJ 20) 3
noncomputable def xo:=kr (cV bJ 20) 3
noncomputable def Ge:=cV (cV bJ 20) 25
noncomputable def uS:=kr (cV bJ 20) 25
theorem oJ:dG P 190 CS xg:=by constructor<;>w_on
theorem nF:dG P 508 Et xo:=by constructor<;>w_on
theorem nz:dG P 670 Ge uS:=by constructor<;>w_on
theorem eK:GN (Kx P) 724:=by constructor<;>w_on
theorem di{v:Value}(G:c.Go)(hk:F.scope.kind=.function)(hx:F.scope.names.lookup x=some .globalImplicit)(hv:nsIn (Kx c.w.params) mainGlobals x=some none)(hb:bootBuiltins x=some v)(hn:x≠("__name__":Str):=by decide)(hd:(x==("__debug__":Str))=false:=by decide):Ev c F k (.Name x pos) σ (.val v) σ:=
 fK G.ok hk hx (G.hK▸hv) hb hn hd
theorem dB{v:Value}(G:c.Go)(hk:F.scope.kind=.function)(hx:F.scope.names.lookup x=some .globalImplicit)(hv:nsIn (Kx c.w.params) mainGlobals x=some (some v))(hd:(x==("__debug__":Str))=false:=by decide):Ev c F k (.Name x pos) σ (.val v) σ:=
 mu G.ok hk hx (G.hK▸hv) hd
theorem rp:bootBuiltins "type"=some (.type "type"):=by w_on
theorem Ct:bootBuiltins "int"=some (.type "int"):=by w_on
theorem oS:bootBuiltins "len"=some (.builtin "len"):=by w_on
theorem u0:nsIn (Kx P) mainGlobals "type"=some none:=by w_on
theorem Fc:nsIn (Kx P) mainGlobals "int"=some none:=by w_on
theorem sE:nsIn (Kx P) mainGlobals "len"=some none:=by w_on
theorem xC:nsIn (Kx P) mainGlobals "_index"=some (some (.ref 190)):=by w_on
theorem qJ:findIn (Kx P) (.ref 724) "_StringIO__buf"=some none:=by w_on
theorem t6:findIn (Kx P) (.ref 724) "_StringIO__check"=some (some (.ref 508)):=by w_on
theorem wf:findIn (Kx P) (.ref 724) "read"=some (some (.ref 670)):=by w_on
theorem u7:findIn (Kx P) (.ref 724) "_StringIO__pos"=some none:=by w_on
theorem An(x y:Value):bindArgs (dw P 190) ⟨[x,y],[]⟩=pure [(("n":Str),x),(("what":Str),y)]:=by w_on
theorem sG(G:c.Go){n:Int}{what:Str}(h1:n≤1099511627776)(h2: -1099511627776≤n):Fn c (k+1) (.ref 190) [.int n,.str what] [] H (.int n) H:=by
 refine dh (fl:=.ret (.int n)) (loc:=[(("n":Str),.int n),(("what":Str),.str what)]) G (oJ _) (by w_on) (by w_on) (λρ m s xs ks X hx hk=>?_) ?_
 ·refine Jj hx hk λ_ _ hx hy=>?_
  refine al [(("n":Str),_),(("what":Str),_)] ?_ (.cons hx (.cons hy .nil))
  refine @BindsTo.of_eq _ _ _ _ ?_
  exact An _ _ _
 ·have hk:(Fs.mk xg []).scope.kind=.function:=by w_on
  apply aK
  k_dflt refine' ae ?_ (ae ?_ (ae ?_ (bx (aX ?_))))
  ·refine aL (t:=false) (bG (av rfl (cQ (λ_=>rfl) (λ_=>rfl) (di G hk rfl (u0 _) rp) (af λ_=>rfl) (am (λ_=>rfl) (aa hk rfl rfl) au) Az) (di G hk rfl (Fc _) Ct) (iZ (by decide)))) ar
  ·exact aw hk rfl (λ_=>rfl) (cQ (λ_=>rfl) (λ_=>rfl) (di G hk rfl (Fc _) Ct) (af λ_=>rfl) (am (λ_=>rfl) (aa hk rfl rfl) au) Ep)
  ·refine aL (t:=false) (ej (av rfl (aa hk rfl rfl) aJ (qt (decide_eq_false (by lia)))) (ej (av rfl (aa hk rfl rfl) (qP aJ) (lG (decide_eq_false (by lia)))) jN)) ar
  ·exact aa hk rfl rfl
theorem zq(x:Value)(S:Setting):peek (Kx P) S (bindArgs (dw P 508) ⟨[x],[]⟩)=some [(("self":Str),x)]:=by w_on
theorem te(G:c.Go){b:Str}(hi:H[i]?=some (.inst 724 d))(hd:H[d]?=some (.dict es))(hb:es.lookup ("_StringIO__buf":Str)=some (.str b)):Fn c (k+1) (.ref 508) [.obj i] [] H .none H:=by
 refine dh (fl:=.next) (loc:=[(("self":Str),.obj i)]) G (nF _) (by w_on) (by w_on) (λρ m s xs ks X hx hk=>?_) ?_
 ·refine mC hx hk λ_ hx=>?_
  refine al [(("self":Str),_)] (@bB _ _ _ _ _ X ?_) (.cons hx .nil)
  exact zq _ _
 ·have hk:(Fs.mk xo []).scope.kind=.function:=by w_on
  apply aK
  k_dflt refine' ae (aL (t:=false) ?_ ar) ar
  exact av rfl (bC (λ_=>by k_dflt rfl) (aa hk rfl rfl) (bY G (eK _) hi hd hb rfl (qJ _))) bv (bP rfl)
theorem xw(x y:Value)(S:Setting):peek (Kx P) S (bindArgs (dw P 670) ⟨[x,y],[]⟩)=some [(("self":Str),x),(("size":Str),y)]:=by w_on
theorem uf(G:c.Go){b:Str}{p:Int}(hi:H[i]?=some (.inst 724 d))(hd:H[d]?=some (.dict es))(hb:es.lookup ("_StringIO__buf":Str)=some (.str b))(hp:es.lookup ("_StringIO__pos":Str)=some (.int p))
  (hl:es.lookup ("_StringIO__check":Str)=none)(hz:b.length<2 ^ 20)(hle:(b.length:Int)≤p):Fn c (k+2) (.ref 670) [.obj i,.int 1] [] H (.str "") H:=by
 refine dh (fl:=.ret (.str "")) (loc:=[(("self":Str),.obj i),(("size":Str),.int 1)]) G (nz _) (by w_on) (by w_on) (λρ m s xs ks X hx hk=>?_) ?_
 ·refine Jj hx hk λ_ _ hx hy=>?_
  refine al [(("self":Str),_),(("size":Str),_)] (@bB _ _ _ _ _ X ?_) (.cons hx (.cons hy .nil))
  exact xw _ _ _
 ·have hk:(Fs.mk uS []).scope.kind=.function:=by w_on
  apply aK
  k_dflt refine' ae ?_ (ae ?_ (ae ?_ (ae ?_ (ae ?_ (bx ?_)))))
  ·exact aL (t:=false) (av rfl (aa hk rfl rfl) bv (bP rfl)) ar
  ·exact aw hk rfl (λ_=>rfl) (jT G (oJ _) (λ_=>rfl) (dB G hk rfl (xC _)) (af λ_=>rfl) (am (λ_=>rfl) (aa hk rfl rfl) (am (λ_=>rfl) bn au)) (sG G (by decide) (by decide)))
  ·exact cu (λenv h=>by unfold interactive;rw[h];rfl) (λ_=>rfl) (gp G (nF _) (eK _) (λ_=>rfl) (aa hk rfl rfl) hi hd hl (t6 _) aU au (te G hi hd hb))
  ·exact aw hk rfl (λ_=>rfl) (bC (λ_=>by k_dflt rfl) (aa hk rfl rfl) (bY G (eK _) hi hd hp rfl (u7 _)))
  ·exact aw hk rfl (λ_=>rfl) (dA (λ_=>rfl) (λ_=>rfl) (di G hk rfl (sE _) oS) (af λ_=>rfl) (am (λ_=>rfl) (bC (λ_=>by k_dflt rfl) (aa hk rfl rfl) (bY G (eK _) hi hd hb rfl (qJ _))) au) (sx (by lia)))
  ·exact aL (t:=true) (av rfl (aa hk rfl rfl) (aa hk rfl rfl) (gG (decide_eq_true hle))) (bx (aX bn))
theorem Db(G:c.Go){b:Str}{p:Int}(hi:H[i]?=some (.inst 724 d))(hd:H[d]?=some (.dict es))(hb:es.lookup ("_StringIO__buf":Str)=some (.str b))(hp:es.lookup ("_StringIO__pos":Str)=some (.int p))
  (hl:es.lookup ("_StringIO__check":Str)=none)(hz:b.length<2 ^ 20)(hez:es.length<100)(hne:i≠d)(hlt:p<(b.length:Int)):
  Fn c (k+2) (.ref 670) [.obj i,.int 1] [] H (.str (Txt.slice b (some p) (some (p+1)))) (H.set d (.dict (aR "_StringIO__pos" (.int (p+1)) es))):=by
 refine dh (fl:=.ret (.str _)) (loc:=[(("self":Str),.obj i),(("size":Str),.int 1)]) G (nz _) (by w_on) (by w_on) (λρ m s xs ks X hx hk=>?_) ?_
 ·refine Jj hx hk λ_ _ hx hy=>?_
  refine al [(("self":Str),_),(("size":Str),_)] (@bB _ _ _ _ _ X ?_) (.cons hx (.cons hy .nil))
  exact xw _ _ _
 ·have hk:(Fs.mk uS []).scope.kind=.function:=by w_on
  have dl:d<H.length:=aq hd
  apply aK
  k_dflt refine' ae ?_ (ae ?_ (ae ?_ (ae ?_ (ae ?_ (ae ?_ (ae (σ₁:=⟨[(("self":Str),.obj i),(("size":Str),.int 1),(("start":Str),.int p),(("stop":Str),.int (p+1))],H⟩) ?_ (ae ?_ (bx ?_))))))))
  ·exact aL (t:=false) (av rfl (aa hk rfl rfl) bv (bP rfl)) ar
  ·exact aw hk rfl (λ_=>rfl) (jT G (oJ _) (λ_=>rfl) (dB G hk rfl (xC _)) (af λ_=>rfl) (am (λ_=>rfl) (aa hk rfl rfl) (am (λ_=>rfl) bn au)) (sG G (by decide) (by decide)))
  ·exact cu (λenv h=>by unfold interactive;rw[h];rfl) (λ_=>rfl) (gp G (nF _) (eK _) (λ_=>rfl) (aa hk rfl rfl) hi hd hl (t6 _) aU au (te G hi hd hb))
  ·exact aw hk rfl (λ_=>rfl) (bC (λ_=>by k_dflt rfl) (aa hk rfl rfl) (bY G (eK _) hi hd hp rfl (u7 _)))
  ·exact aw hk rfl (λ_=>rfl) (dA (λ_=>rfl) (λ_=>rfl) (di G hk rfl (sE _) oS) (af λ_=>rfl) (am (λ_=>rfl) (bC (λ_=>by k_dflt rfl) (aa hk rfl rfl) (bY G (eK _) hi hd hb rfl (qJ _))) au) (sx (by lia)))
  ·exact aL (t:=false) (av rfl (aa hk rfl rfl) (aa hk rfl rfl) (gG (decide_eq_false (by lia)))) ar
  ·by_cases q:p+1<(b.length:Int)
   ·exact aL (t:=true) (bu (av rfl (aa hk rfl rfl) aJ (gG (decide_eq_true (by decide)))) (bu (av rfl (i8 (aa hk rfl rfl) (aa hk rfl rfl) jc) (aa hk rfl rfl) (lG (decide_eq_true q))) ie))
     (ae (aw hk rfl (λ_=>rfl) (i8 (aa hk rfl rfl) (aa hk rfl rfl) jc)) ar)
   ·have e:(b.length:Int)=p+1:=by lia
    rw[←e]
    exact aL (t:=false) (bu (av rfl (aa hk rfl rfl) aJ (gG (decide_eq_true (by decide)))) (bG (av rfl (i8 (aa hk rfl rfl) (aa hk rfl rfl) jc) (aa hk rfl rfl) (lG (decide_eq_false q))))) ar
  ·exact aP (λ_=>rfl) (aa hk rfl rfl) (aa hk rfl rfl) (cJ G (eK _) hi hd (by lia) (u7 _))
  ·have hi':(H.set d (.dict (aR "_StringIO__pos" (.int (p+1)) es)))[i]?=some (.inst 724 d):=ak hi hne
   have hd':(H.set d (.dict (aR "_StringIO__pos" (.int (p+1)) es)))[d]?=some (.dict (aR "_StringIO__pos" (.int (p+1)) es)):=zT dl
   have hb':(aR ("_StringIO__pos":Str) (.int (p+1)) es).lookup ("_StringIO__buf":Str)=some (.str b):=dR hb
   exact aX (rm (by unfold sizeLine;lia) (bC (λ_=>by k_dflt rfl) (aa hk rfl rfl) (bY G (eK _) hi' hd' hb' rfl (qJ _))) (e9 (aa hk rfl rfl)) (e9 (aa hk rfl rfl)))
noncomputable def mX:List Stmt:=cV bJ 30
noncomputable def Dq:=cV mX 1
noncomputable def xk:=kr mX 1
noncomputable def BD:=cV mX 5
noncomputable def tF:=kr mX 5
noncomputable def mq:=cV mX 6
noncomputable def pG:=kr mX 6
noncomputable def FQ:=cV mX 10
noncomputable def AU:=kr mX 10
noncomputable def Fj:=cV mX 9
noncomputable def BA:=kr mX 9
noncomputable def uI:=cV mX 0
noncomputable def Bj:=kr mX 0
theorem Cq:dG P 790 Dq xk:=by constructor<;>w_on
theorem jH:dG P 820 BD tF:=by constructor<;>w_on
theorem kL:dG P 827 mq pG:=by constructor<;>w_on
theorem wK:dG P 856 FQ AU:=by constructor<;>w_on
theorem CI:dG P 849 Fj BA:=by constructor<;>w_on
theorem CP:dG P 783 uI Bj:=by constructor<;>w_on
theorem bZ:GN (Kx P) 859:=by constructor<;>w_on
noncomputable def du:List Str:=["instream","infile","posix","eof","commenters","wordchars","whitespace","whitespace_split","quotes","escape","escapedquotes","state","pushback","lineno","debug","token","filestack","source","_punctuation_chars"]
theorem xY:(du.all λn=>findIn (Kx P) (.ref 859) n==some none)=true:=by w_on
theorem df{n:Str}(h:du.contains n=true):findIn (Kx P) (.ref 859) n=some none:=by
 have:=ZF.mp (xY P) n (ZE.mp h)
 simpa using this
theorem Bd:findIn (Kx P) (.ref 859) "punctuation_chars"=some (some (.ref 791)):=by w_on
theorem Be:specialIn (Kx P) (.ref 791) "__get__"=some (some (.builtin "property.__get__")):=by w_on
theorem Ae:takesIn (Kx P) (.ref 791)=some true:=by w_on
theorem BQ:recIn (Kx P) 791 "property"=some (.ref 790::((recIn (Kx P) 791 "property").getD []).drop 1):=by w_on
theorem Ak(x:Value)(S:Setting):peek (Kx P) S (bindArgs (dw P 790) ⟨[x],[]⟩)=some [(("self":Str),x)]:=by w_on
theorem y5(G:c.Go)(hi:H[i]?=some (.inst 859 d))(hd:H[d]?=some (.dict es))(hb:es.lookup ("_punctuation_chars":Str)=some v)(hv:v.handed=true):Fn c (k+1) (.ref 790) [.obj i] [] H v H:=by
 refine dh (fl:=.ret v) (loc:=[(("self":Str),.obj i)]) G (Cq _) (by w_on) (by w_on) (λρ m s xs ks X hx hk=>?_) ?_
 ·refine mC hx hk λ_ hx=>?_
  refine al [(("self":Str),_)] (@bB _ _ _ _ _ X ?_) (.cons hx .nil)
  exact Ak _ _
 ·have hk:(Fs.mk xk []).scope.kind=.function:=by w_on
  apply aK
  k_dflt refine' bx (aX (bC ?_ (aa hk rfl rfl) (bY G (bZ _) hi hd hb hv (df _ (by decide)))))
  exact λ_=>by k_dflt rfl
theorem l9(G:c.Go)(hi:σ.H[i]?=some (.inst 859 d))(hd:σ.H[d]?=some (.dict es))(hb:es.lookup ("_punctuation_chars":Str)=some v)(hv:v.handed=true):
  oW c F (k+2) (λx=>getAttr x "punctuation_chars" ex) (.obj i) σ v σ:=
 vE (H':=σ.H) G.ok hi hd hv (G.hK▸(bZ _).ga) (G.hK▸(bZ _).gk) (G.hK▸(bZ _).hd) (G.hK▸Bd _) (G.hK▸Be _) (G.hK▸Ae _) (G.hK▸BQ _) (y5 G hi hd hb hv)
noncomputable def c8:List Stmt:=cV mq 2
noncomputable def db:Fs:=⟨pG,[]⟩
noncomputable def dQ(W:Str)(ii pb fs:Nat)(st:AV)(tok:Str):List (Str×AV):=
 [("instream",.obj ii),("infile",.none),("posix",.bool true),("eof",.none),("commenters",.str ""),("wordchars",.str W),("whitespace",.str " \t\r\n"),("whitespace_split",.bool true),("quotes",.str "'\""),("escape",.str "\\"),("escapedquotes",.str "\""),
  ("state",st),("pushback",.obj pb),("lineno",.int 1),("debug",.int 0),("token",.str tok),("filestack",.obj fs),("source",.none),("_punctuation_chars",.str "")]
noncomputable def uP(buf:Str)(p:Int):List (Str×AV):=[("_StringIO__newline",.str "\n"),("_StringIO__buf",.str buf),("_StringIO__pos",.int p)]
noncomputable def y0(L:Nat)(q:Bool)(e:Str):List (Str×AV):=[("self",.obj L),("quoted",.bool q),("escapedstate",.str e)]
noncomputable def eY(L:Nat)(q:Bool)(e ch:Str):List (Str×AV):=[("self",.obj L),("quoted",.bool q),("escapedstate",.str e),("nextchar",.str ch)]
structure Lx(H:List AO)(L D S T:Nat)(W:Str)(pb fs:Nat)(st:AV)(tok buf:Str)(p:Int):Prop where
 l:H[L]?=some (.inst 859 D)
 d:H[D]?=some (.dict (dQ W S pb fs st tok))
 s:H[S]?=some (.inst 724 T)
 t:H[T]?=some (.dict (uP buf p))
 lt:L≠T
 dt:D≠T
 st:S≠T
 ld:L≠D
 sd:S≠D
section
variable{p:Int}
theorem Lx.io(x:Lx H L D S T W pb fs st tok buf p)(p':Int):Lx (H.set T (.dict (uP buf p'))) L D S T W pb fs st tok buf p':=by
 have tl:=aq x.t
 exact⟨ak x.l x.lt,ak x.d x.dt,ak x.s x.st,zT tl,x.lt,x.dt,x.st,x.ld,x.sd⟩
theorem Lx.lex(x:Lx H L D S T W pb fs st tok buf p)(st':AV)(tok':Str):Lx (H.set D (.dict (dQ W S pb fs st' tok'))) L D S T W pb fs st' tok' buf p:=by
 have tl:=aq x.d
 exact⟨ak x.l x.ld,zT tl,ak x.s x.sd,ak x.t (Ne.symm x.dt),x.lt,x.dt,x.st,x.ld,x.sd⟩
theorem sw(G:c.Go){e:Str}{fl:AF}(x:Lx H L D S T W pb fs st tok buf p)(hz:buf.length<2 ^ 20)(hlt:p<(buf.length:Int))(hch:Txt.slice buf (some p) (some (p+1))=ch)(hnl:(ch.cps.toList==("\n":Str).cps.toList)=false)
  (h:∀H',H'=H.set T (.dict (uP buf (p+1)))→dI c db (k+3) (c8.drop 3) ⟨eY L q e ch,H'⟩ fl σ'):dI c db (k+3) c8 ⟨y0 L q e,H⟩ fl σ':=by
 have hk:db.scope.kind=.function:=by w_on
 subst hch
 have x':=x.io (p+1)
 k_dflt refine' ae (σ₁:=⟨eY L q e (Txt.slice buf (some p) (some (p+1))),H.set T (.dict (uP buf (p+1)))⟩) ?_ (ae ?_ (ae ?_ (h _ rfl)))
 ·refine aL (t:=false) (bG (bQ (λ_ _=>rfl) (bC (λ_=>by k_dflt rfl) (aa hk rfl rfl) (l9 G x.l x.d rfl rfl)) (d7 (by decide) (by decide)))) (ae (aw hk rfl (λ_=>rfl) (gp G (nz _) (eK _) (λ_=>rfl) (bC (λ_=>by k_dflt rfl) (aa hk rfl rfl) (bY G (bZ _) x.l x.d rfl rfl (df _ (by decide)))) x.s x.t rfl (wf _) (af λ_=>rfl) (am (λ_=>rfl) aJ au) (Db G x.s x.t rfl rfl rfl hz (by show 3<100;decide) x.st hlt))) ar)
 ·exact aL (t:=false) (av rfl (aa hk rfl rfl) bn (ek hnl)) ar
 ·exact aL (t:=false) (av rfl (bC (λ_=>by k_dflt rfl) (aa hk rfl rfl) (bY G (bZ _) x'.l x'.d rfl rfl (df _ (by decide)))) aJ (gG (by decide))) ar
end
theorem aT{st:Stmt}{f:AF}(h:Ex c F k st σ f σ₁):dI c F k [st] σ f σ₁:=by
 cases f with
 |next=>exact ae h ar
 |brk=>exact gP h
 |cont=>exact sF h
 |ret v=>exact bx h
theorem ba{body:_}{orelse:_}{pos:_}{f:AF}(h1:Te c F k test σ false σ₁)(h2:dI c F k orelse σ₁ f σ₂):dI c F k [.If test body orelse pos] σ f σ₂:=aT (aL (t:=false) h1 h2)
theorem cX{body:_}{orelse:_}{pos:_}{f:AF}(h1:Te c F k test σ true σ₁)(h2:dI c F k body σ₁ f σ₂):dI c F k [.If test body orelse pos] σ f σ₂:=aT (aL (t:=true) h1 h2)
section
variable{p:Int}{e:Str}
theorem bD:db.scope.kind=.function:=by w_on
theorem cF(G:c.Go)(x:Lx H L D S T W pb fs st tok buf p)(hl:(dQ W S pb fs st tok).lookup name=some v)(hv:v.handed=true)(ha:du.contains name=true):
  Ev c db k (.Attribute (.Name "self" p1) name p2) ⟨eY L q e ch,H⟩ v ⟨eY L q e ch,H⟩:=
 bC (λ_=>by k_dflt rfl) (aa bD rfl rfl) (bY G (bZ _) x.l x.d hl hv (df _ ha))
theorem gv:Ev c db k (.Name "nextchar" p1) ⟨eY L q e ch,H⟩ (.str ch) ⟨eY L q e ch,H⟩:=aa bD rfl rfl
theorem mt{ii:Nat}{t:Str}:aR "token" (.str t) (dQ W ii pb fs st tok)=dQ W ii pb fs st t:=by w_on
theorem xW{ii:Nat}:aR "state" st' (dQ W ii pb fs st tok)=dQ W ii pb fs st' tok:=by w_on
theorem oQ(G:c.Go){t:Str}(x:Lx H L D S T W pb fs st tok buf p):wx c db k (λa b=>setAttr a "token" b) (.obj L) (.str t) ⟨eY L q e ch,H⟩ (λ_ _=>True) ⟨eY L q e ch,H.set D (.dict (dQ W S pb fs st t))⟩:=by
 have z:=cJ (k:=k) (F:=db) (σ:=⟨eY L q e ch,H⟩) (v:=.str t) G (bZ _) x.l x.d (by show 19<1000;decide) (df _ (n:="token") (by decide))
 rw[mt]at z
 exact z
theorem hG(G:c.Go)(x:Lx H L D S T W pb fs st tok buf p):wx c db k (λa b=>setAttr a "state" b) (.obj L) st' ⟨eY L q e ch,H⟩ (λ_ _=>True) ⟨eY L q e ch,H.set D (.dict (dQ W S pb fs st' tok))⟩:=by
 have z:=cJ (k:=k) (F:=db) (σ:=⟨eY L q e ch,H⟩) (v:=st') G (bZ _) x.l x.d (by show 19<1000;decide) (df _ (n:="state") (by decide))
 rw[xW]at z
 exact z
theorem Fk(G:c.Go){t:Str}(x:Lx H L D S T W pb fs st tok buf p):wx c db k (λa b=>setAttr a "state" b) (.obj L) st' ⟨eY L q e ch,H.set D (.dict (dQ W S pb fs st t))⟩ (λ_ _=>True) ⟨eY L q e ch,H.set D (.dict (dQ W S pb fs st' t))⟩:=by
 have z:=hG (k:=k) (q:=q) (e:=e) (ch:=ch) (st':=st') G (x.lex st t)
 rw[Zj]at z
 exact z
theorem yB(G:c.Go)(x:Lx H L D S T W pb fs (.str " ") tok buf p)(hlen:ch.length=1)
  (h1:(!(Builtin.Str.occurrences " \t\r\n" ch 0 (" \t\r\n":Str).length 1).isEmpty)=false)(h2:(!(Builtin.Str.occurrences "" ch 0 ("":Str).length 1).isEmpty)=false)
  (h3:(!(Builtin.Str.occurrences "\\" ch 0 ("\\":Str).length 1).isEmpty)=false)(h4:(!(Builtin.Str.occurrences W ch 0 W.length 1).isEmpty)=true):
  dI c db (k+3) (c8.drop 3) ⟨eY L q e ch,H⟩ .next ⟨eY L q e ch,H.set D (.dict (dQ W S pb fs (.str "a") ch))⟩:=by
 have x':=x.lex (.str " ") ch
 have dl:D<H.length:=aq x.d
 k_dflt refine' ba (av rfl (cF G x rfl rfl (by decide)) bv (bP rfl)) ?_
 refine cX (av rfl (cF G x rfl rfl (by decide)) bn (ek (by decide))) ?_
 refine ba (l8 (bQ (λ_ _=>rfl) gv (d7 (t:=true) (by lia) (by rw[hlen];decide)))) ?_
 refine ba (av rfl gv (cF G x rfl rfl (by decide)) (iF h1)) ?_
 refine ba (av rfl gv (cF G x rfl rfl (by decide)) (iF h2)) ?_
 refine ba (bu (bQ (λ_ _=>rfl) (cF G x rfl rfl (by decide)) bH) (bG (av rfl gv (cF G x rfl rfl (by decide)) (iF h3)))) ?_
 refine cX (av rfl gv (cF G x rfl rfl (by decide)) (iF h4)) ?_
 exact ae (aP (λ_=>rfl) gv (aa bD rfl rfl) (oQ G x)) (aT (aP (λ_=>rfl) bn (aa bD rfl rfl) (Fk G x)))
end
noncomputable def gS(ch w:Str):Bool:=!(Builtin.Str.occurrences w ch 0 w.length 1).isEmpty
section
variable{p:Int}{e:Str}
theorem tz(hlen:ch.length=1):Te c db k (.UnaryOp .Not (.Name "nextchar" p1) p2) ⟨eY L q e ch,H⟩ false ⟨eY L q e ch,H⟩:=
 l8 (bQ (λ_ _=>rfl) gv (d7 (t:=true) (by lia) (by rw[hlen];decide)))
theorem jU(G:c.Go){w:Str}(x:Lx H L D S T W pb fs st tok buf p)(hl:(dQ W S pb fs st tok).lookup name=some (.str w))(ha:du.contains name=true)(h:gS ch w=t):
  Te c db k (.Compare (.Name "nextchar" p1) [.In] [.Attribute (.Name "self" p2) name p3] p4) ⟨eY L q e ch,H⟩ t ⟨eY L q e ch,H⟩:=
 av rfl gv (cF G x hl rfl ha) (iF h)
theorem lT(G:c.Go)(x:Lx H L D S T W pb fs st tok buf p):Te c db k (.Attribute (.Name "self" p1) "posix" p2) ⟨eY L q e ch,H⟩ true ⟨eY L q e ch,H⟩:=
 bQ (λ_ _=>rfl) (cF G x rfl rfl (by decide)) bH
theorem mM(G:c.Go)(x:Lx H L D S T W pb fs st tok buf p):Te c db k (.UnaryOp .Not (.Attribute (.Name "self" p1) "posix" p2) p3) ⟨eY L q e ch,H⟩ false ⟨eY L q e ch,H⟩:=l8 (lT G x)
theorem gi(G:c.Go)(x:Lx H L D S T W pb fs (.str y) tok buf p):Te c db k (.Compare (.Attribute (.Name "self" p1) "state" p2) [.Is] [.Constant .none kd p3] p4) ⟨eY L q e ch,H⟩ false ⟨eY L q e ch,H⟩:=
 av rfl (cF G x rfl rfl (by decide)) bv (bP rfl)
theorem on(G:c.Go){z:Str}(x:Lx H L D S T W pb fs (.str y) tok buf p)(h:(y.cps.toList==z.cps.toList)=t):Te c db k (.Compare (.Attribute (.Name "self" p1) "state" p2) [.Eq] [.Constant (.str z) kd p3] p4) ⟨eY L q e ch,H⟩ t ⟨eY L q e ch,H⟩:=
 av rfl (cF G x rfl rfl (by decide)) bn (ek h)
theorem gE(G:c.Go){w:Str}(x:Lx H L D S T W pb fs (.str y) tok buf p)(hl:(dQ W S pb fs (.str y) tok).lookup name=some (.str w))(ha:du.contains name=true)(h:gS y w=t):
  Te c db k (.Compare (.Attribute (.Name "self" p1) "state" p2) [.In] [.Attribute (.Name "self" p3) name p4] p5) ⟨eY L q e ch,H⟩ t ⟨eY L q e ch,H⟩:=
 av rfl (cF G x rfl rfl (by decide)) (cF G x hl rfl ha) (iF h)
theorem xO(G:c.Go)(x:Lx H L D S T W pb fs (.str " ") tok buf p)(hlen:ch.length=1)(h1:gS ch " \t\r\n"=false)(h2:gS ch ""=false)(h3:gS ch "\\"=false)(h4:gS ch W=false)(h5:gS ch "'\""=true):
  dI c db (k+3) (c8.drop 3) ⟨eY L q e ch,H⟩ .next ⟨eY L q e ch,H.set D (.dict (dQ W S pb fs (.str ch) tok))⟩:=by
 k_dflt refine' ba (gi G x) ?_
 refine cX (on G x (by decide)) ?_
 refine ba (tz hlen) ?_
 refine ba (jU G x rfl (by decide) h1) ?_
 refine ba (jU G x rfl (by decide) h2) ?_
 refine ba (bu (lT G x) (bG (jU G x rfl (by decide) h3))) ?_
 refine ba (jU G x rfl (by decide) h4) ?_
 refine ba (av rfl gv (bC (λ_=>by k_dflt rfl) (aa bD rfl rfl) (l9 G x.l x.d rfl rfl)) (iF h2)) ?_
 refine cX (jU G x rfl (by decide) h5) ?_
 exact ae (aL (t:=false) (mM G x) ar) (aT (aP (λ_=>rfl) gv (aa bD rfl rfl) (hG G x)))
theorem DO(G:c.Go)(x:Lx H L D S T W pb fs (.str y) tok buf p)(hlen:ch.length=1)(hy1:(y.cps.toList==(" ":Str).cps.toList)=false)(hy2:gS y "'\""=true)(hne:(ch.cps.toList==y.cps.toList)=false)(h3:gS ch "\\"=false)
  (hz:(tok++ch).length≤sizeLine)(ha:tok.length=0→tok++ch=ch):
  dI c db (k+3) (c8.drop 3) ⟨eY L q e ch,H⟩ .next ⟨eY L true e ch,H.set D (.dict (dQ W S pb fs (.str y) (tok++ch)))⟩:=by
 k_dflt refine' ba (gi G x) ?_
 refine ba (on G x hy1) ?_
 refine cX (gE G x rfl (by decide) hy2) ?_
 refine ae (σ₁:=⟨eY L true e ch,H⟩) (aw bD rfl (λ_=>rfl) gU) ?_
 refine ae (aL (t:=false) (tz hlen) ar) ?_
 refine ba (av rfl gv (cF G x rfl rfl (by decide)) (ek hne)) ?_
 refine ba (bu (lT G x) (bG (jU G x rfl (by decide) h3))) ?_
 exact aT (eN (aa bD rfl rfl) (bY G (bZ _) x.l x.d rfl rfl (df _ (by decide))) gv (pY hz ha (λh=>by lia)) (oQ G x))
theorem u9(G:c.Go)(x:Lx H L D S T W pb fs (.str y) tok buf p)(hlen:ch.length=1)(hy1:(y.cps.toList==(" ":Str).cps.toList)=false)(hy2:gS y "'\""=true)(heq:(ch.cps.toList==y.cps.toList)=true):
  dI c db (k+3) (c8.drop 3) ⟨eY L q e ch,H⟩ .next ⟨eY L true e ch,H.set D (.dict (dQ W S pb fs (.str "a") tok))⟩:=by
 k_dflt refine' ba (gi G x) ?_
 refine ba (on G x hy1) ?_
 refine cX (gE G x rfl (by decide) hy2) ?_
 refine ae (σ₁:=⟨eY L true e ch,H⟩) (aw bD rfl (λ_=>rfl) gU) ?_
 refine ae (aL (t:=false) (tz hlen) ar) ?_
 refine cX (av rfl gv (cF G x rfl rfl (by decide)) (ek heq)) ?_
 exact ba (mM G x) (aT (aP (λ_=>rfl) bn (aa bD rfl rfl) (hG G x)))
end
theorem aW.less(hl:∀y a,l'.lookup y=some a→l.lookup y=some a)(r:aW c A F ρ ⟨l,H⟩ s env):aW c A F ρ ⟨l',H⟩ s env:=
 ⟨r.hr,r.sc,r.gl,r.bl,r.ce,r.ci,(by refine ah (r.lo) λm h1 h2=>?_;exact al m h1 λx v hv=>h2 x v (hl x v hv)),r.ap,r.lf,r.ge,r.sk,r.tp,r.fl⟩
section
variable{p:Int}{e:Str}
theorem uc:∀y a,(y0 L q e).lookup y=some a→(eY L q e ch).lookup y=some a:= λy a h=>by
 unfold y0 at h;unfold eY
 simp only[ZI]at h ⊢
 split at h
 ·exact h
 ·split at h
  ·exact h
  ·split at h
   ·exact h
   ·simp[YB]at h
theorem ls(G:c.Go){fl:AF}(x:Lx H L D S T W pb fs st tok buf p)(hz:buf.length<2 ^ 20)(hle:(buf.length:Int)≤p)
  (h:dI c db (k+3) (c8.drop 3) ⟨eY L q e "",H⟩ fl σ'):dI c db (k+3) c8 ⟨y0 L q e,H⟩ fl σ':=by
 have hk:db.scope.kind=.function:=by w_on
 k_dflt refine' ae (σ₁:=⟨eY L q e "",H⟩) ?_ (ae ?_ (ae ?_ h))
 ·refine aL (t:=false) (bG (bQ (λ_ _=>rfl) (bC (λ_=>by k_dflt rfl) (aa hk rfl rfl) (l9 G x.l x.d rfl rfl)) (d7 (by decide) (by decide)))) (ae (aw hk rfl (λ_=>rfl) (gp G (nz _) (eK _) (λ_=>rfl) (bC (λ_=>by k_dflt rfl) (aa hk rfl rfl) (bY G (bZ _) x.l x.d rfl rfl (df _ (by decide)))) x.s x.t rfl (wf _) (af λ_=>rfl) (am (λ_=>rfl) aJ au) (uf G x.s x.t rfl rfl rfl hz hle))) ar)
 ·exact aL (t:=false) (av rfl (aa hk rfl rfl) bn (ek (by decide))) ar
 ·exact aL (t:=false) (av rfl (bC (λ_=>by k_dflt rfl) (aa hk rfl rfl) (bY G (bZ _) x.l x.d rfl rfl (df _ (by decide)))) aJ (gG (by decide))) ar
theorem Gh:Te c db k (.UnaryOp .Not (.Name "nextchar" p1) p2) ⟨eY L q e "",H⟩ true ⟨eY L q e "",H⟩:=
 l8 (bQ (λ_ _=>rfl) gv (d7 (t:=false) (by decide) (by decide)))
theorem vn(G:c.Go){k1 k2 k3:Nat}(x:Lx H L D S T W pb fs (.str "a") tok buf p):Te c db k (.Compare (.Attribute (.Name "self" p1) "state" p2) [.In] [.Tuple [.Constant (.str "a") k1 p3,.Constant (.str "c") k2 p4] k3 p5] p6) ⟨eY L q e ch,H⟩ true ⟨eY L q e ch,H⟩:=
 yI (.cons (.cons .nil)) (by decide) (by decide) (cF G x rfl rfl (by decide))
theorem vj(G:c.Go)(x:Lx H L D S T W pb fs (.str "a") tok buf p)(hlen:ch.length=1)(h1:gS ch " \t\r\n"=false)(h2:gS ch ""=false)(h5:gS ch "'\""=true):
  dI c db (k+3) (c8.drop 3) ⟨eY L q e ch,H⟩ .next ⟨eY L q e ch,H.set D (.dict (dQ W S pb fs (.str ch) tok))⟩:=by
 k_dflt refine' ba (gi G x) ?_
 refine ba (on G x (by decide)) ?_
 refine ba (gE G x rfl (by decide) (by w_on)) ?_
 refine ba (gE G x rfl (by decide) (by w_on)) ?_
 refine cX (vn G x) ?_
 refine ba (tz hlen) ?_
 refine ba (jU G x rfl (by decide) h1) ?_
 refine ba (jU G x rfl (by decide) h2) ?_
 refine ba (on G x (by decide)) ?_
 refine cX (bu (lT G x) (bu (jU G x rfl (by decide) h5) ie)) ?_
 exact aT (aP (λ_=>rfl) gv (aa bD rfl rfl) (hG G x))
theorem uW(G:c.Go)(x:Lx H L D S T W pb fs (.str "a") tok buf p)(hlen:ch.length=1)(h1:gS ch " \t\r\n"=true)(ht:(tok.length:Int)≠0)(hz:tok.length<2 ^ 62):
  dI c db (k+3) (c8.drop 3) ⟨eY L q e ch,H⟩ .brk ⟨eY L q e ch,H.set D (.dict (dQ W S pb fs (.str " ") tok))⟩:=by
 have x':=x.lex (.str " ") tok
 k_dflt refine' ba (gi G x) ?_
 refine ba (on G x (by decide)) ?_
 refine ba (gE G x rfl (by decide) (by w_on)) ?_
 refine ba (gE G x rfl (by decide) (by w_on)) ?_
 refine cX (vn G x) ?_
 refine ba (tz hlen) ?_
 refine cX (jU G x rfl (by decide) h1) ?_
 refine ae (aL (t:=false) (av rfl (cF G x rfl rfl (by decide)) aJ (gG (by decide))) ar) ?_
 refine ae (aP (λ_=>rfl) bn (aa bD rfl rfl) (hG G x)) ?_
 exact cX (gB (bQ (λ_ _=>rfl) (cF G x' rfl rfl (by decide)) (d7 hz (by simpa using ht)))) (gP hW)
theorem Bh(G:c.Go)(x:Lx H L D S T W pb fs (.str "a") tok buf p):
  dI c db (k+3) (c8.drop 3) ⟨eY L q e "",H⟩ .brk ⟨eY L q e "",H.set D (.dict (dQ W S pb fs .none tok))⟩:=by
 k_dflt refine' ba (gi G x) ?_
 refine ba (on G x (by decide)) ?_
 refine ba (gE G x rfl (by decide) (by w_on)) ?_
 refine ba (gE G x rfl (by decide) (by w_on)) ?_
 refine cX (vn G x) ?_
 refine cX Gh ?_
 exact ae (aP (λ_=>rfl) bv (aa bD rfl rfl) (hG G x)) (gP hW)
theorem yq(G:c.Go)(x:Lx H L D S T W pb fs .none tok buf p):
  dI c db (k+3) (c8.drop 3) ⟨eY L q e ch,H⟩ .brk ⟨eY L q e ch,H.set D (.dict (dQ W S pb fs .none ""))⟩:=by
 k_dflt refine' cX (av rfl (cF G x rfl rfl (by decide)) bv (bP rfl)) ?_
 exact ae (aP (λ_=>rfl) bn (aa bD rfl rfl) (oQ G x)) (gP hW)
end
inductive ue(W:Str):Str→Str→Bool→Str→Str→Str→Bool→Prop where
 |word {t:Str} {q:Bool} {ch:Str} (h1:gS ch " \t\r\n"=false) (h2:gS ch ""=false) (h3:gS ch "\\"=false) (h4:gS ch W=true):ue W " " t q ch "a" ch q
 |opn {t:Str} {q:Bool} {ch:Str} (h1:gS ch " \t\r\n"=false) (h2:gS ch ""=false) (h3:gS ch "\\"=false) (h4:gS ch W=false) (h5:gS ch "'\""=true):ue W " " t q ch ch t q
 |inn {y t:Str} {q:Bool} {ch:Str} (hy1:(y.cps.toList==(" ":Str).cps.toList)=false) (hy2:gS y "'\""=true) (hne:(ch.cps.toList==y.cps.toList)=false) (h3:gS ch "\\"=false)
   (hz:(t++ch).length≤sizeLine) (ha:t.length=0→t++ch=ch):ue W y t q ch y (t++ch) true
 |close {y t:Str} {q:Bool} {ch:Str} (hy1:(y.cps.toList==(" ":Str).cps.toList)=false) (hy2:gS y "'\""=true) (heq:(ch.cps.toList==y.cps.toList)=true):ue W y t q ch "a" t true
 |again {t:Str} {q:Bool} {ch:Str} (h1:gS ch " \t\r\n"=false) (h2:gS ch ""=false) (h5:gS ch "'\""=true):ue W "a" t q ch ch t q
inductive jV(W:Str):Str→Str→Bool→List Str→Str→Str→Bool→Prop where
 |nil {y:_} {t:_} {q:_}:jV W y t q [] y t q
 |cons {y t:Str} {q:Bool} {ch:Str} {cs:List Str} {y1 t1:Str} {q1:Bool} {y2 t2:Str} {q2:Bool} (hl:ch.length=1) (hn:(ch.cps.toList==("\n":Str).cps.toList)=false) (h:ue W y t q ch y1 t1 q1) (r:jV W y1 t1 q1 cs y2 t2 q2):jV W y t q (ch::cs) y2 t2 q2
def j8(buf:Str):Int→List Str→Prop
 |_,[]=>True
 |p,ch::cs=>p<(buf.length:Int)∧Txt.slice buf (some p) (some (p+1))=ch∧j8 buf (p+1) cs
noncomputable def nx(H:List AO)(D S T:Nat)(W:Str)(pb fs:Nat)(buf:Str)(st:AV)(tok:Str)(p:Int):List AO:=(H.set T (.dict (uP buf p))).set D (.dict (dQ W S pb fs st tok))
section
variable{tok':Str}{p p':Int}{e:Str}
theorem Lx.nx(x:Lx H L D S T W pb fs st tok buf p)(st':AV)(tok':Str)(p':Int):Lx (nx H D S T W pb fs buf st' tok' p') L D S T W pb fs st' tok' buf p':=(x.io p').lex st' tok'
theorem wE(x:Lx H L D S T W pb fs st tok buf p):nx H D S T W pb fs buf st tok p=H:=by
 unfold nx
 have e1:H.set T (.dict (uP buf p))=H:=by
  refine cc (zS.mp x.t) λh1 h2=>?_
  rw[←h2];exact Z7 h1
 rw[e1]
 refine cc (zS.mp x.d) λh1 h2=>?_
 rw[←h2];exact Z7 h1
theorem Ht(hne:D≠T):(nx H D S T W pb fs buf st tok p).set T (.dict (uP buf p'))=nx H D S T W pb fs buf st tok p':=by
 unfold nx
 rw[Zz _ _ hne,Zj]
theorem ru:(nx H D S T W pb fs buf st tok p).set D (.dict (dQ W S pb fs st' tok'))=nx H D S T W pb fs buf st' tok' p:=by
 unfold nx
 rw[Zj]
theorem z8(G:c.Go){t:Str}{y1 t1:Str}{q1:Bool}{a:Int}(x:Lx H L D S T W pb fs st tok buf p)(h:ue W y t q ch y1 t1 q1):ch.length=1→
  dI c db (k+3) (c8.drop 3) ⟨eY L q e ch,nx H D S T W pb fs buf (.str y) t a⟩ .next ⟨eY L q1 e ch,nx H D S T W pb fs buf (.str y1) t1 a⟩:=by
 induction h with
 | @word t q ch h1 h2 h3 h4=>intro hl;have z:=yB (k:=k) (q:=q) (e:=e) G (x.nx (.str " ") t a) hl h1 h2 h3 h4;rw[ru]at z;exact z
 | @opn t q ch h1 h2 h3 h4 h5=>intro hl;have z:=xO (k:=k) (q:=q) (e:=e) G (x.nx (.str " ") t a) hl h1 h2 h3 h4 h5;rw[ru]at z;exact z
 | @inn y t q ch a1 a2 a3 a4 a5 a6=>intro hl;have z:=DO (k:=k) (q:=q) (e:=e) G (x.nx (.str y) t a) hl a1 a2 a3 a4 a5 a6;rw[ru]at z;exact z
 | @close y t q ch a1 a2 a3=>intro hl;have z:=u9 (k:=k) (q:=q) (e:=e) G (x.nx (.str y) t a) hl a1 a2 a3;rw[ru]at z;exact z
 | @again t q ch h1 h2 h5=>intro hl;have z:=vj (k:=k) (q:=q) (e:=e) G (x.nx (.str "a") t a) hl h1 h2 h5;rw[ru]at z;exact z
theorem Da{f:AF}(hl:∀y a,l'.lookup y=some a→l.lookup y=some a)(h:Wh c F k test body orelse ⟨l',H⟩ f σ₁):Wh c F k test body orelse ⟨l,H⟩ f σ₁:= λA ρ s env R K r q=>
 h A ρ s env R K (r.less hl) q
theorem nj:Te c F k (.Constant (.bool true) kd p1) σ true σ:=bQ (λ_ _=>rfl) gU bH
theorem tW(G:c.Go){f:AF}{y2 t2:Str}{q2:Bool}(hz:buf.length<2 ^ 20)(x:Lx H L D S T W pb fs st tok buf p){t:Str}(r:jV W y t q cs y2 t2 q2):∀{a:Int},j8 buf a cs→
  Wh c db (k+3) (.Constant (.bool true) kd p1) c8 [] ⟨y0 L q2 e,nx H D S T W pb fs buf (.str y2) t2 (a+cs.length)⟩ f σ'→
  Wh c db (k+3) (.Constant (.bool true) kd p1) c8 [] ⟨y0 L q e,nx H D S T W pb fs buf (.str y) t a⟩ f σ':=by
 induction r with
 |nil=>intro a _ h;rw[←Int.add_zero a];exact h
 | @cons y t q ch cs y1 t1 q1 y2 t2 q2 hl hn ht r ih=>
  intro a hs h
  obtain⟨hlt,hch,sr⟩:=hs
  refine jB (σ₂:=⟨eY L q1 e ch,nx H D S T W pb fs buf (.str y1) t1 (a+1)⟩) (.inl rfl) nj (sw G (x.nx _ _ _) hz hlt hch hn λH' z=>?_) (Da uc (ih sr (by rw[Int.add_assoc,Int.add_comm 1];exact h)))
  subst z
  rw[Ht x.dt]
  exact z8 G x ht hl
theorem AJ{e:Expr}{pos:_}(h1:Te c F k e σ true σ₁):Te c F k (.UnaryOp .Not e pos) σ false σ₁:=l8 h1
theorem tV{e:Expr}{pos:_}(h1:Te c F k e σ false σ₁):Te c F k (.UnaryOp .Not e pos) σ true σ₁:=l8 h1
noncomputable def y7(L:Nat)(q:Bool)(e:Str)(r:AV):List (Str×AV):=[("self",.obj L),("quoted",.bool q),("escapedstate",.str e),("result",r)]
noncomputable def uv:List Stmt:=mq.drop 3
theorem un(x:Value)(S:Setting):peek (Kx P) S (bindArgs (dw P 827) ⟨[x],[]⟩)=some [(("self":Str),x)]:=by w_on
theorem iH(G:c.Go)(hs:l.lookup ("self":Str)=some (.obj L))(x:Lx H L D S T W pb fs st tok buf p)(hl:(dQ W S pb fs st tok).lookup name=some v)(hv:v.handed=true)(ha:du.contains name=true):
  Ev c db k (.Attribute (.Name "self" p1) name p2) ⟨l,H⟩ v ⟨l,H⟩:=
 bC (λ_=>by k_dflt rfl) (aa bD rfl hs) (bY G (bZ _) x.l x.d hl hv (df _ ha))
theorem wL(G:c.Go)(x:Lx H L D S T W pb fs st tok buf p)(hq:(tok.cps.toList==("":Str).cps.toList)=false):
  dI c db (k+3) uv ⟨y0 L q e,H⟩ (.ret (.str tok)) ⟨y7 L q e (.str tok),H.set D (.dict (dQ W S pb fs st ""))⟩:=by
 have x':=x.lex st ""
 k_dflt refine' ae (σ₁:=⟨y7 L q e (.str tok),H⟩) ?_ (ae (σ₁:=⟨y7 L q e (.str tok),H.set D (.dict (dQ W S pb fs st ""))⟩) ?_ (ae (σ₁:=⟨y7 L q e (.str tok),H.set D (.dict (dQ W S pb fs st ""))⟩) ?_ (ae (σ₁:=⟨y7 L q e (.str tok),H.set D (.dict (dQ W S pb fs st ""))⟩) ?_ (bx ?_))))
 ·exact aw bD rfl (λ_=>rfl) (iH G rfl x rfl rfl (by decide))
 ·refine aP (λ_=>rfl) bn (aa bD rfl rfl) ?_
  have z:=cJ (k:=k+3) (F:=db) (σ:=⟨y7 L q e (.str tok),H⟩) (v:=.str "") G (bZ _) x.l x.d (by show 19<1000;decide) (df _ (n:="token") (by decide))
  rw[mt]at z
  exact z
 ·cases q with
  |true=>exact aL (t:=false) (bu (bQ (λ_ _=>rfl) (iH G rfl x' rfl rfl (by decide)) bH) (bG (AJ (bQ (λ_ _=>rfl) (aa bD rfl rfl) bH)))) ar
  |false=>exact aL (t:=false) (bu (bQ (λ_ _=>rfl) (iH G rfl x' rfl rfl (by decide)) bH) (bu (tV (bQ (λ_ _=>rfl) (aa bD rfl rfl) bH)) (bG (av rfl (aa bD rfl rfl) bn (ek hq))))) ar
 ·exact aL (t:=false) (av rfl (iH G rfl x' rfl rfl (by decide)) aJ (qt (by decide))) ar
 ·exact aX (aa bD rfl rfl)
theorem qy(G:c.Go)(x:Lx H L D S T W pb fs st "" buf p):
  dI c db (k+3) uv ⟨y0 L false e,H⟩ (.ret .none) ⟨y7 L false e .none,H.set D (.dict (dQ W S pb fs st ""))⟩:=by
 have x':=x.lex st ""
 k_dflt refine' ae (σ₁:=⟨y7 L false e (.str ""),H⟩) ?_ (ae (σ₁:=⟨y7 L false e (.str ""),H.set D (.dict (dQ W S pb fs st ""))⟩) ?_ (ae (σ₁:=⟨y7 L false e .none,H.set D (.dict (dQ W S pb fs st ""))⟩) ?_ (ae ?_ (bx ?_))))
 ·exact aw bD rfl (λ_=>rfl) (iH G rfl x rfl rfl (by decide))
 ·refine aP (λ_=>rfl) bn (aa bD rfl rfl) ?_
  have z:=cJ (k:=k+3) (F:=db) (σ:=⟨y7 L false e (.str ""),H⟩) (v:=.str "") G (bZ _) x.l x.d (by show 19<1000;decide) (df _ (n:="token") (by decide))
  rw[mt]at z
  exact z
 ·refine aL (t:=true) (bu (bQ (λ_ _=>rfl) (iH G rfl x' rfl rfl (by decide)) bH) (bu (tV (bQ (λ_ _=>rfl) (aa bD rfl rfl) bH)) (bu (av rfl (aa bD rfl rfl) bn (ek (by decide))) ie))) ?_
  exact aT (aw bD rfl (λ_=>rfl) bv)
 ·exact aL (t:=false) (av rfl (iH G rfl x' rfl rfl (by decide)) aJ (qt (by decide))) ar
 ·exact aX (aa bD rfl rfl)
end
section
variable{tok':Str}{p p':Int}{e:Str}
theorem zO(G:c.Go){H2:List AO}{l2:List (Str×AV)}(h1:∀kd p1,Wh c db (k+3) (.Constant (.bool true) kd p1) c8 [] ⟨y0 L false " ",H⟩ .next ⟨eY L q " " ch,H1⟩)(h2:dI c db (k+3) uv ⟨y0 L q " ",H1⟩ (.ret v) ⟨l2,H2⟩):Fn c (k+4) (.ref 827) [.obj L] [] H v H2:=by
 refine dh (fl:=.ret v) (loc:=[(("self":Str),.obj L)]) G (kL _) (by w_on) (by w_on) (λρ m s xs ks X hx hk=>?_) ?_
 ·refine mC hx hk λ_ hx=>?_
  refine al [(("self":Str),_)] (@bB _ _ _ _ _ X ?_) (.cons hx .nil)
  exact un _ _
 ·apply aK (loc:=l2)
  k_dflt refine' ae (σ₁:=⟨[("self",.obj L),("quoted",.bool false)],H⟩) ?_ (ae (σ₁:=⟨y0 L false " ",H⟩) ?_ (ae (σ₁:=⟨y0 L q " ",H1⟩) ?_ h2))
  ·exact aw bD rfl (λ_=>rfl) gU
  ·exact aw bD rfl (λ_=>rfl) bn
  ·exact λA ρ s env Q E K r z=>cR (h1 _ _) A ρ s env Q E K r λρ' s' a r' st' v'=>z ρ' s' a (r'.less uc) st' v'
theorem sR(G:c.Go)(hz:buf.length<2 ^ 20)(x:Lx H L D S T W pb fs (.str " ") "" buf p)(ht:jV W " " "" false cs "a" tok q)(hs:j8 buf p (cs++[(" ":Str)]))(h0:tok.length≠0)(h2:tok.length<2 ^ 20):
  Fn c (k+4) (.ref 827) [.obj L] [] H (.str tok) (nx H D S T W pb fs buf (.str " ") "" (p+cs.length+1)):=by
 have hs':∀{a:Int}{cs:List Str},j8 buf a (cs++[(" ":Str)])→j8 buf a cs∧j8 buf (a+cs.length) [" "]:=by
  intro a cs
  induction cs generalizing a with
  |nil=>intro h;exact⟨trivial,by rw[show a+(([]:List Str).length:Int)=a from Int.add_zero a];exact h⟩
  |cons ch cs ih=>
   intro h
   exact⟨⟨h.1,h.2.1,(ih h.2.2).1⟩,by rw[show a+((ch::cs).length:Int)=a+1+(cs.length:Int)by rw[Zk,Int.add_assoc,Int.add_comm 1];rfl];exact(ih h.2.2).2⟩
 refine aV (hs' hs) λs1 s2=>fv s2 λhlt hch _=>?_
 have x1:=x.nx (.str "a") tok (p+cs.length)
 have x2:=x.nx (.str "a") tok (p+cs.length+1)
 have x3:=x.nx (.str " ") tok (p+cs.length+1)
 have t:=wL (k:=k) (q:=q) (e:=" ") G x3 (by
  cases z:(tok.cps.toList==("":Str).cps.toList)with
  |false=>rfl
  |true=>
   have e:tok.cps.toList=("":Str).cps.toList:=by simpa using z
   exact absurd (by show tok.cps.size=0;rw[←Array.length_toList,e];rfl) h0)
 rw[ru]at t
 refine zO (ch:=" ") G (λkd p1=>?_) t
 have w:=tW (k:=k) (e:=" ") (f:=.next) (σ':=⟨eY L q " " " ",nx H D S T W pb fs buf (.str " ") tok (p+cs.length+1)⟩) (kd:=kd) (p1:=p1) G hz x ht s1 ?_
 ·rw[wE x]at w;exact w
 ·refine lZ nj (sw G x1 hz hlt hch (by decide) ?_)
  rintro H' rfl
  rw[Ht x.dt]
  have z:=uW (k:=k) (q:=q) (e:=" ") (ch:=" ") G x2 (by decide) (by w_on) (by lia) (by lia)
  rw[ru]at z
  exact z
theorem yP(G:c.Go)(hz:buf.length<2 ^ 20)(x:Lx H L D S T W pb fs (.str " ") "" buf p)(ht:jV W " " "" false cs "a" tok q)(hs:j8 buf p cs)(he:(buf.length:Int)=p+cs.length)(h0:tok.length≠0):
  Fn c (k+4) (.ref 827) [.obj L] [] H (.str tok) (nx H D S T W pb fs buf .none "" (p+cs.length)):=by
 have x1:=x.nx (.str "a") tok (p+cs.length)
 have x3:=x.nx .none tok (p+cs.length)
 have t:=wL (k:=k) (q:=q) (e:=" ") G x3 (by
  cases z:(tok.cps.toList==("":Str).cps.toList)with
  |false=>rfl
  |true=>
   have e:tok.cps.toList=("":Str).cps.toList:=by simpa using z
   exact absurd (by show tok.cps.size=0;rw[←Array.length_toList,e];rfl) h0)
 rw[ru]at t
 refine zO (ch:="") G (λkd p1=>?_) t
 have w:=tW (k:=k) (e:=" ") (f:=.next) (σ':=⟨eY L q " " "",nx H D S T W pb fs buf .none tok (p+cs.length)⟩) (kd:=kd) (p1:=p1) G hz x ht hs ?_
 ·rw[wE x]at w;exact w
 ·refine lZ nj (ls G x1 hz (by lia) ?_)
  have z:=Bh (k:=k) (q:=q) (e:=" ") G x1
  rw[ru]at z
  exact z
theorem uD(G:c.Go)(hz:buf.length<2 ^ 20)(x:Lx H L D S T W pb fs .none "" buf p)(he:(buf.length:Int)≤p):Fn c (k+4) (.ref 827) [.obj L] [] H .none H:=by
 have t:=qy (k:=k) (e:=" ") G x
 have w:=yq (k:=k) (q:=false) (e:=" ") (ch:="") G x
 have e:H.set D (.dict (dQ W S pb fs .none ""))=H:=by
  refine cc (zS.mp x.d) λh1 h2=>?_
  rw[←h2];exact Z7 h1
 rw[e]at t w
 exact zO (ch:="") G (λkd p1=>lZ nj (ls G x hz he w)) t
end
noncomputable def kS:Obj:={cls:=.type "collections.deque",dict:=none,data:=.fields #[.none,rawInt 0]}
theorem BP:mroOf (.type "collections.deque")=pure [.type "collections.deque",.type "object"]:=by rw[mroOf_type];w_on
theorem oZ:typeLookup (.type "collections.deque") "__new__"=pure (some (.builtin "collections.deque.__new__")):=by rw[typeLookup_type,builtinLookup_eq_fast];w_on
theorem qM:Slot "collections.deque" "__init__" "collections.deque.__init__":=
 .of (owner:="collections.deque") (n:="__init__") (by rw[typeLookup_type,builtinLookup_eq_fast];w_on) (by decide+kernel) (by decide+kernel) (by decide+kernel)
  (by first|exact .inl (by decide+kernel)|exact .inr (by decide+kernel)) (by rw[isSubtype_type];w_on)
theorem gI:Slot "collections.deque" "__len__" "collections.deque.__len__":=
 .of (owner:="collections.deque") (n:="__len__") (by rw[typeLookup_type,builtinLookup_eq_fast];w_on) (by decide+kernel) (by decide+kernel) (by decide+kernel)
  (by first|exact .inl (by decide+kernel)|exact .inr (by decide+kernel)) (by rw[isSubtype_type];w_on)
theorem o9:entryFor table "collections.deque.__init__"=some Builtin.«collections.deque.__init__»:=entryFor_of_tree (by w_on)
theorem ri:entryFor table "collections.deque.__new__"=some Builtin.«collections.deque.__new__»:=entryFor_of_tree (by w_on)
theorem qX:entryFor table "collections.deque.__len__"=some Builtin.«collections.deque.__len__»:=entryFor_of_tree (by w_on)
theorem pH:typeLookup (.type "collections.deque") "__bool__"=pure none:=by rw[typeLookup_type,builtinLookup_eq_fast];w_on
theorem vH:isSubtype (.type "collections.deque") (.type "collections.deque")=pure true:=by rw[isSubtype_type];w_on
theorem yW:TypeCalled "collections.deque" "collections.deque.__new__" "collections.deque.__init__":=
 ⟨by decide+kernel,by decide+kernel,tQ _ _ BP,madeBy_type BP oZ (by decide+kernel),by decide+kernel,vH,qM⟩
theorem oY:checkTypeCall "collections.deque" ⟨[],[]⟩=pure ():=by w_on
theorem rU:checkBuiltinCall "collections.deque.__new__" ⟨[.type "collections.deque"],[]⟩=pure ():=by w_on
theorem tG(a:Value):argsOk "collections.deque.__len__" ⟨[a],[]⟩:=by unfold argsOk;w_on
theorem ql(a:Value):argsOk "collections.deque.__init__" ⟨[a],[]⟩:=by unfold argsOk;w_on
theorem gc{a:Addr}(h:s.heap.get? a=some kS):s.TypeIs (.ref a) "collections.deque":=al _ h rfl
theorem FA{a:Addr}(ho:s.heap.get? a=some kS)
  (h:Q (.int 0 (s.toks+1)) {s with toks:=s.toks+1+1}):wpAny (model prog w) A (Builtin.«len» ⟨[.ref a],[]⟩) (λfin s'=>∃r,fin=.done (.ret r)∧Q r s') E s:=by
 unfold Builtin.«len»
 refine YC (m:=oneArg "len" _) (YD ?_)
 refine YC (m:=callSpecial? (.ref a) (Str.ofString "__len__")) (wpAny_callSpecial?_slot (name:=Str.ofString "__len__") (gc ho) gI
  (wpAny_call_entry gI (gc ho) qX ?_ (tG _)))
 ·unfold Builtin.«collections.deque.__len__» Builtin.Deque.size
  refine YC (m:=slotArgs _ _ _) (YD ?_)
  refine YC (YC (wpAny_fieldsOf ho rfl (YD ?_)))
  refine YC (wpAny_mkInt (YD (al _ rfl ?_)))
  refine YC (YF (YD ?_))
  refine YC (wpAny_letGo ?_)
  exact YC (wpAny_mkInt (YD (al _ rfl h)))
theorem yQ{a:Addr}{Q:Bool→Shared→Prop}(ho:s.heap.get? a=some kS)(h:Q false {s with toks:=s.toks+1+1}):wpAny (model prog w) A (truthy (.ref a)) Q E s:=by
 have key:wpAny (model prog w) A (runValue (.builtin "len" ⟨[.ref a],[]⟩)) (λr s'=>r=.int 0 (s.toks+1)∧Q false s') E s:=by
  refine wpAny_runValue (codeAny_builtin entry_len ?_)
  rw[Around.under_plainId plain_len _]
  exact YE (FA (Q:= λr s'=>r=.int 0 (s.toks+1)∧Q false s') ho ⟨rfl,h⟩)
   (λfin s' h'=>by refine ah h' ?_;clear h';intro r z0 hq;subst z0;exact hq) λ_ _ e=>e
 unfold truthy
 first
  |refine YC (wpAny_callSpecial?_none (name:=Str.ofString "__bool__") (gc ho) pH ?_)
  |refine YC (YD (YC (wpAny_callSpecial?_none (name:=Str.ofString "__bool__") (gc ho) pH ?_)))
 first
  |refine YC (wpAny_specialOf (name:=Str.ofString "__len__") (gc ho) gI.lookup ?_)
  |refine YC (YD (YC (wpAny_specialOf (name:=Str.ofString "__len__") (gc ho) gI.lookup ?_)))
 first
  |exact YC (YE key (λr s' h'=>by refine aV h' ?_;clear h';intro z0 hq;subst z0;exact YD hq) λ_ _ e=>e)
  |exact YC (YD (YC (YE key (λr s' h'=>by obtain⟨rfl,hq⟩:=h';exact YD hq) λ_ _ e=>e)))
theorem FD:Meets (Builtin.«collections.deque.__new__» ⟨[.type "collections.deque"],[]⟩) (λA R s=>R (.ok (.ret (.ref s.heap.objs.size))) {s with heap:=s.heap.push kS}):=by
 refine Meets.of_wp λprog w A R s hs=>?_
 have hsub:=vH
 unfold Builtin.«collections.deque.__new__» Builtin.Deque.newArgs Builtin.Deque.new
 obtain⟨hp,g,d,tk,os⟩:=s
 dsimp only
 wp_walk
 refine wpAny_of_eq vH (YD ?_)
 have e:typeHasDict (.type "collections.deque")=false:=by w_on
 rw[if_neg (by decide),e]
 refine YC (YC (YD (wpAny_newObj_type ?_)))
 exact YD (al _ rfl hs)
theorem C9{a:Addr}:Meets (Builtin.«collections.deque.__init__» ⟨[.ref a],[]⟩) (λA R s=>s.heap.get? a=some kS∧s.heap.update a (Obj.mapFields (·.setIfInBounds 0 .none))=s.heap∧R (.ok (.ret .none)) s):=by
 refine Meets.of_wp λprog w A R s hs=>?_
 refine fv hs λh1 h2 h3=>?_
 unfold Builtin.«collections.deque.__init__» Builtin.Deque.clear Builtin.Deque.items
 obtain⟨hp,g,d,tk,os⟩:=s
 dsimp only at*
 wp_walk
 exact al _ rfl (by rw[h2];exact h3)
theorem yK(h:Heap):(h.push kS).update h.objs.size (Obj.mapFields (·.setIfInBounds 0 .none))=h.push kS:=by
 obtain⟨objs,l⟩:=h
 show Heap.mk _ _=Heap.mk _ _
 congr 1
 apply Array.ext
 ·simp
 ·intro i h1 h2
  rw[Array.getElem_modify]
  split
  ·rename_i e;subst e;simp;rfl
  ·rfl
theorem C5(h:Q (.ref s.heap.objs.size) {s with heap:=s.heap.push kS}):wpAny (model prog w) A (call (.type "collections.deque") []) Q E s:=by
 refine callType_meets (Q₁:= λo s1=>o=.ref s.heap.objs.size∧s1={s with heap:=s.heap.push kS}) yW oY rU ri o9 FD ⟨rfl,rfl⟩ λobj s1 hq=>?_
 refine aV hq ?_;clear hq;intro z0 z1;subst z0;subst z1
 have hS:(s.heap.push kS).get? s.heap.objs.size=some kS:=ZN _ rfl
 exact⟨al _ hS rfl,ql _,_,C9,hS,yK _,rfl,h⟩
section
variable{tok':Str}{p p':Int}{e:Str}
theorem n7(hi:σ.H[i]?=some (.fix kS)):Fa c F k truthy (.obj i) σ (λ_ x=>x=false) σ:= λA ρ s env Q E x K r hx z=>by
 refine iR hx λ_=>?_
 refine ah (r.hr.at_ i _ hi) λob h1 h2=>?_
 have h2':ob=kS:=h2
 subst h2'
 exact yQ h1 (z ρ _ _ (r.toks _) (.toks _) rfl)
theorem oG:findIn (Kx P) (.ref 859) "read_token"=some (some (.ref 827)):=by w_on
theorem pQ:findIn (Kx P) (.ref 859) "get_token"=some (some (.ref 820)):=by w_on
theorem pJ(x:Value)(S:Setting):peek (Kx P) S (bindArgs (dw P 820) ⟨[x],[]⟩)=some [(("self":Str),x)]:=by w_on
noncomputable def mR:Fs:=⟨tF,[]⟩
theorem gT:mR.scope.kind=.function:=by w_on
theorem fX(G:c.Go)(hs:l.lookup ("self":Str)=some (.obj L))(x:Lx H L D S T W pb fs st tok buf p)(hl:(dQ W S pb fs st tok).lookup name=some v)(hv:v.handed=true)(ha:du.contains name=true):
  Ev c mR k (.Attribute (.Name "self" p1) name p2) ⟨l,H⟩ v ⟨l,H⟩:=
 bC (λ_=>by k_dflt rfl) (aa gT rfl hs) (bY G (bZ _) x.l x.d hl hv (df _ ha))
theorem og(G:c.Go){tok1:Str}{st1:AV}{p1:Int}(x:Lx H L D S T W pb fs st tok buf p)(hpb:H[pb]?=some (.fix kS))(h:Fn c (k+4) (.ref 827) [.obj L] [] H (.str tok1) H1)(x1:Lx H1 L D S T W pb fs st1 "" buf p1):
  Fn c (k+5) (.ref 820) [.obj L] [] H (.str tok1) H1:=by
 refine dh (fl:=.ret (.str tok1)) (loc:=[(("self":Str),.obj L)]) G (jH _) (by w_on) (by w_on) (λρ m s xs ks X hx hk=>?_) ?_
 ·refine mC hx hk λ_ hx=>?_
  refine al [(("self":Str),_)] (@bB _ _ _ _ _ X ?_) (.cons hx .nil)
  exact pJ _ _
 ·apply aK (loc:=[("self",.obj L),("raw",.str tok1)])
  k_dflt refine' ae (σ₁:=⟨[("self",.obj L)],H⟩) ?_ (ae (σ₁:=⟨[("self",.obj L),("raw",.str tok1)],H1⟩) ?_ (ae (σ₁:=⟨[("self",.obj L),("raw",.str tok1)],H1⟩) ?_ (ae (σ₁:=⟨[("self",.obj L),("raw",.str tok1)],H1⟩) ?_ (ae (σ₁:=⟨[("self",.obj L),("raw",.str tok1)],H1⟩) ?_ (bx ?_)))))
  ·exact aL (F:=mR) (t:=false) (bQ (λ_ _=>rfl) (fX G rfl x rfl rfl (by decide)) (n7 hpb)) ar
  ·exact aw (F:=mR) gT rfl (λ_=>rfl) (gp G (kL _) (bZ _) (λ_=>rfl) (aa gT rfl rfl) x.l x.d rfl (oG _) aU au h)
  ·exact aL (F:=mR) (t:=false) (av rfl (fX G rfl x1 rfl rfl (by decide)) bv (bU rfl)) ar
  ·exact cR (F:=mR) (ir (av rfl (aa gT rfl rfl) (fX G rfl x1 rfl rfl (by decide)) lH) ar)
  ·exact aL (F:=mR) (t:=false) (av rfl (fX G rfl x1 rfl rfl (by decide)) aJ (gG (by decide))) ar
  ·exact aX (F:=mR) (aa gT rfl rfl)
theorem vv(G:c.Go)(x:Lx H L D S T W pb fs st "" buf p)(hpb:H[pb]?=some (.fix kS))(hfs:H[fs]?=some (.fix kS))(h:Fn c (k+4) (.ref 827) [.obj L] [] H .none H):
  Fn c (k+5) (.ref 820) [.obj L] [] H .none H:=by
 refine dh (fl:=.ret .none) (loc:=[(("self":Str),.obj L)]) G (jH _) (by w_on) (by w_on) (λρ m s xs ks X hx hk=>?_) ?_
 ·refine mC hx hk λ_ hx=>?_
  refine al [(("self":Str),_)] (@bB _ _ _ _ _ X ?_) (.cons hx .nil)
  exact pJ _ _
 ·apply aK (loc:=[("self",.obj L),("raw",.none)])
  k_dflt refine' ae (σ₁:=⟨[("self",.obj L)],H⟩) ?_ (ae (σ₁:=⟨[("self",.obj L),("raw",.none)],H⟩) ?_ (ae (σ₁:=⟨[("self",.obj L),("raw",.none)],H⟩) ?_ (bx ?_)))
  ·exact aL (F:=mR) (t:=false) (bQ (λ_ _=>rfl) (fX G rfl x rfl rfl (by decide)) (n7 hpb)) ar
  ·exact aw (F:=mR) gT rfl (λ_=>rfl) (gp G (kL _) (bZ _) (λ_=>rfl) (aa gT rfl rfl) x.l x.d rfl (oG _) aU au h)
  ·exact aL (F:=mR) (t:=false) (av rfl (fX G rfl x rfl rfl (by decide)) bv (bU rfl)) ar
  ·refine cR (F:=mR) (Gy (av rfl (aa gT rfl rfl) (fX G rfl x rfl rfl (by decide)) j6) ?_)
   refine cX (tV (bQ (λ_ _=>rfl) (fX G rfl x rfl rfl (by decide)) (n7 hfs))) (bx (aX (fX G rfl x rfl rfl (by decide))))
end
noncomputable def fC(A:Around):List Addr:=(A.frames.getD []).filterMap (·.frame)
structure I8(A:Around)(h h':Heap):Prop where
 some_:∀b o,h.get? b=some o→∃o',h'.get? b=some o'∧me o o'
 same:∀b o,h.get? b=some o→b∉fC A→h'.get? b=some o
theorem iA{n:Nat}{h:Heap}:∀{l:List Env},(∀e∈l,yx c ρ n h e)→h.FunFrames c.h₁ l
 | [],_=>trivial
 |e::r,x=>by
  refine bp λGz kz=>?_
  refine eU (x e (.head _)) λhk L o es ep h1 h2 h3 h4 _=>?_
  refine kz ?_
  exact⟨hk,⟨L,o,h1,h2,h3,λvs q=>by rw[h4]at q;cases q⟩,iA λe he=>x e (.tail _ he)⟩
theorem si{e:Addr}{h₁:Heap}{Q:Unit→Shared→Prop}(r:aW c A F ρ σ s env)(hz:c.rz=true)(hfl:env.frame=some env.locals)(hfn:env.func.isSome=true)(hx:Heap.NewExc s.heap h₁ e X)
  (hQ:∀h',I8 A s.heap h'→(∃ob,h'.get? e=some ob∧ob.cls=.type X)→Q () ⟨h',s.gens,s.drawn,tk,s.os⟩):wpAny M A (leaving env (.ref e)) Q E ⟨h₁,s.gens,s.drawn,tk,s.os⟩:=by
 refine cc (r.tp hz hfn) λouter hfr=>?_
 refine ah (r.sk hz) λl h1 h2=>?_
 rw[hfr]at h1
 cases h1
 have ff:=iA h2
 have hin:∀e∈(env::outer),∀b,e.frame=some b→b∈(env::outer).filterMap (·.frame):= λe he b hb=>Zx.mpr (al e he hb)
 refine cj (hx.there) λob tp he hcls hd=>?_
 have hkb:(hideAll s.heap ((env::outer).filterMap (·.frame))).StaysIn s.heap:= λb o q=>of_hideAll _ q
 have hl:=funFrames_hide ff hin
 have hen:(hideAll s.heap ((env::outer).filterMap (·.frame))).get? e=none:=by
  cases hq:(hideAll s.heap ((env::outer).filterMap (·.frame))).get? e with
  |none=>rfl
  |some o'=>have:=hkb e o' hq;rw[hx.new]at this;cases this
 refine wpAny_leaving_firstW (a0:=tp) hfr (hl.of_keeps λb o hb _=>al o (hx.keeps b o hb) rfl) hfl he (λb o hb=>hx.keeps b o (hkb b o hb)) hen hd rfl rfl λh' hL=>?_
 refine lQ hL λk1 z0 k3 k4=>fv z0 λ_ _ k2=>?_
 have fe:fC A=(env::outer).filterMap (·.frame):=by unfold fC;rw[hfr];rfl
 have same:∀b o,s.heap.get? b=some o→b∉fC A→h'.get? b=some o:= λb o e hb=>k1 b o (hideAll_get _ e (by rw[←fe];exact hb))
 refine hQ h' ⟨λb o q=>?_,same⟩ ?_
 ·by_cases hb:b∈fC A
  ·rw[fe]at hb
   refine bp λGz kz=>?_
   refine ah (Zx.mp hb) λev hev hf=>?_
   refine eU (h2 ev hev) λ_ L o' es ep g1 g2 g3 g4 _=>?_
   refine kz ?_
   rw[hf]at g1
   cases g1
   rw[q]at g3
   cases g3
   refine cc (k4 b o (hx.keeps b o q) (λvs z=>by rw[g4]at z;cases z)) λsl hs=>?_
   exact uC _ hs sl rfl λz=>absurd g4 (z es ep)
  ·exact al o (same b o q hb) .refl
 ·refine bp λGz kz=>?_
  refine gZ k3 λoe _ _ _ _ z zc _=>?_
  refine kz ?_
  exact al oe z (zc.1.trans hcls)
theorem Ds(hz:c.rz=true)(r:aW c A F ρ σ s env):(∀i,i<σ.H.length→ρ i∉fC A)∧∀b o,c.h₁.get? b=some o→b∉fC A:=by
 refine ah (r.sk hz) λl h1 h2=>?_
 have fe:fC A=l.filterMap (·.frame):=by unfold fC;rw[h1];rfl
 rw[fe]
 refine⟨λi hi hm=>?_,λb o e hm=>?_⟩
 ·refine bp λGz kz=>?_
  refine ah (Zx.mp hm) λev hev hf=>?_
  refine eU (h2 ev hev) λ_ L o' es ep g1 g2 g3 g4 g5=>?_
  refine kz ?_
  rw[hf]at g1;cases g1
  exact g5 i hi rfl
 ·refine bp λGz kz=>?_
  refine ah (Zx.mp hm) λev hev hf=>?_
  refine eU (h2 ev hev) λ_ L o' es ep g1 g2 g3 g4 g5=>?_
  refine kz ?_
  rw[hf]at g1;cases g1
  rw[g2]at e;cases e
theorem I8.go(hz:c.rz=true)(x:I8 A s.heap h')(r:aW c A F ρ σ s env):eE c ρ σ.H h'∧aM c ρ σ.H.length (λ_=>False) s ρ σ.H.length ⟨h',s.gens,s.drawn,tk,s.os⟩:=by
 refine aV (Ds hz r) λf1 f2=>?_
 refine⟨⟨λi o e=>?_,r.hr.inj,r.hr.up,λb o e t=>x.same b o (r.hr.base b o e t) (f2 b o e),λo e=>?_⟩,
  ⟨λ_ _=>rfl,ZA _,λi h1 h2=>absurd h2 (ZX.mpr h1),⟨λb o e=>(x.some_ b o e).imp λ_ z=>z.1,λb o e _ _ _=>x.some_ b o e⟩,rfl⟩⟩
 ·refine ah (r.hr.at_ i o e) λob h1 h2=>?_
  exact al ob (x.same _ _ h1 (f1 i (aq e))) h2
 ·rcases r.hr.tj o e with z|⟨z1,z2,vs,more,z3,z4⟩
  ·exact .inl (x.same _ _ z (f2 _ _ e))
  ·exact .inr (bS z1 z2 vs more z3 (x.same _ _ z4 (f2 _ _ e)))
def uY(c:Cx)(F:Fs)(k:Nat)(body:List Stmt)(σ:St)(X:String)(σ':St):Prop:=
 ∀(A:Around)(ρ:Nat→Addr)(s:Shared)(env:Env)(Q:Flow→Shared→Prop)(E:Value→Shared→Prop),cN k A→aW c A F ρ σ s env→
  (∀ρ' s₀ e h tk,aW c A F ρ' σ' s₀ env→aM c ρ σ.H.length (· =env.locals) s ρ' σ'.H.length s₀→Heap.NewExc s₀.heap h e X→E (.ref e) ⟨h,s₀.gens,s₀.drawn,tk,s₀.os⟩)→wpAny c.M A (execs body env) Q E s
def G3(c:Cx)(k:Nat)(f:Value)(args:List AV)(kw:List (Str×AV))(H:List AO)(X:String)(H':List AO):Prop:=
 ∀(A:Around)(ρ:Nat→Addr)(s:Shared)(xs:List Value)(ks:List (Str×Value))(R:Result→Shared→Prop),cN k A→eE c ρ H s.heap→c.gq s.gens s.drawn→rC c A ρ H.length s.heap→cG ρ H.length args xs→mh ρ H.length kw ks→
  (∀ρ' s' e,eE c ρ' H' s'.heap→c.gq s'.gens s'.drawn→aM c ρ H.length (λ_=>False) s ρ' H'.length s'→(∃ob,s'.heap.get? e=some ob∧ob.cls=.type X)→R (.error (.ref e)) s')→codeAny c.M A (.call f ⟨xs,ks⟩) R s
theorem DH(hz:c.rz=true)(O:c.Ok)
  (hf:c.K.lookup f=some ⟨oc,od,.func fd,osl⟩)(hcd:codeIn c.K fd.code fd.qualname=true)(hbody:fd.body=.stmts body)(hcl:fd.closure=[])(hgl:fd.globals=mainGlobals)(hbl:fd.builtins=builtinsNs)
  (hcell:∀x∈fd.scope.names,x.2≠.cell)(hco:fd.scope.isCoroutine=false)(hgen:fd.scope.isGenerator=false)(hk:fd.scope.kind=.function)
  (bd:∀(ρ:Nat→Addr)(s:Shared)(xs:List Value)(ks:List (Str×Value)),c.K.In s.heap→cG ρ H.length args xs→mh ρ H.length kw ks→∃binds,BindsTo s fd ⟨xs,ks⟩ binds∧(∀x∈binds,fd.scope.names.lookup x.1=some .local)∧
   ∀x v,loc.lookup x=some v→∃v',binds.reverse.lookup x=some v'∧VR ρ H.length v v')
  (hb:uY c ⟨fd.scope,[]⟩ k body ⟨loc,H⟩ X ⟨loc',H'⟩):G3 c (k+1) (.ref f) args kw H X H':= λA ρ s xs ks R K hr ge sk hx hks q=>by
 refine br (bd ρ s xs ks (hr.X O) hx hks) λbinds b1 b2 b3=>?_
 refine codeAny_call_def (o:=⟨oc,od,.func fd,osl⟩) K.depth (hr.X O _ _ hf) rfl (hr.lim O) (codeRec_of (hr.X O) hcd) hbody b1 hcell b2 (λh₀ hns hkp=>?_) hco hgen hk
 have nosz:∀o,c.h₁.get? s.heap.objs.size=some o→False:= λo e=>by
  by_cases t:s.heap.objs.size=c.tj
  ·rw[t]at e
   refine cc (hr.tj.there e) λo' e'=>?_
   rw[←t]at e'
   exact absurd (ZB e') (ZJ _)
  ·exact absurd (ZB (hr.base _ o e t)) (ZJ _)
 have r:aW c (A.deeper (callEnv fd s.heap.objs.size f)) ⟨fd.scope,[]⟩ ρ ⟨loc,H⟩ {s with heap:=h₀,toks:=s.toks+binds.length} (callEnv fd s.heap.objs.size f):=
  ⟨⟨λi o e=>let⟨ob,h1,h2⟩:=hr.at_ i o e;(al ob (hkp _ _ h1) h2),hr.inj,hr.up,λb o e t=>hkp _ _ (hr.base b o e t),λo e=>(hr.tj o e).imp (λz=>hkp _ _ z) λ⟨z1,z2,vs,more,z3,z4⟩=>bS z1 z2 vs more z3 (hkp _ _ z4)⟩,
   rfl,hgl,hbl,(by show fd.closure=_;rw[hcl];rfl),(λp hp=>nomatch hp),al _ hns b3,λi hi q=>(by
   refine ah (hr.at_ i (H[i]) (zG hi)) λob h1 _=>?_
   have:=ZB h1
   rw[show ρ i=s.heap.objs.size from q]at this
   exact ZJ _ this),(by cases q:c.h₁.get? (callEnv fd s.heap.objs.size f).locals with|none=>rfl|some o=>exact(nosz o q).elim),ge,(by
   intro hz2
   refine ah (sk hz2) λl l1 l2=>?_
   refine al _ (Around.frames_deeper l1) λe he=>?_
   rcases ZH.mp he with rfl|he
   ·refine c7 hns λo es ep g1 g2 _=>?_
    refine eO (by show fd.scope.kind≠.module;rw[hk];decide) s.heap.objs.size o es ep rfl ?_ g1 g2 λi hi q=>?_
    ·cases q:c.h₁.get? s.heap.objs.size with
     |none=>rfl
     |some o=>exact(nosz o q).elim
    ·refine ah (hr.at_ i (H[i]) (zG hi)) λob h1 _=>?_
     have:=ZB h1
     rw[q]at this
     exact ZJ _ this
   ·exact(l2 e he).keep (λ_ _=>rfl) (λi h1 h2=>absurd h2 (ZX.mpr h1)) λb o es ep g1 g2 _ _=>bh o es ep (hkp _ _ g1) g2),(λhz _=>by refine ah (sk hz) λl l1 _=>?_;exact⟨l,Around.frames_deeper l1⟩),λ_=>⟨rfl,rfl⟩⟩
 refine hb (A.deeper (callEnv fd s.heap.objs.size f)) ρ _ _ _ _ K.deeper r λρ' s' e h tk r' st hx=>?_
 have st':aM c ρ H.length (λ_=>False) s ρ' H'.length s':=⟨st.ag,st.le,λi h1 h2=>(by
   cases q:s.heap.get? (ρ' i)with
   |none=>rfl
   |some o=>have:=st.nw i h1 h2;rw[hkp _ _ q]at this;cases this),
  ⟨λb o e=>st.kp.1 b o (hkp _ _ e),λb o e t _ h3=>st.kp.2 b o (hkp _ _ e) t (λz=>by
   have:=ZB e
   rw[show b=s.heap.objs.size from z]at this
   exact ZJ _ this) h3⟩,st.os⟩
 refine si r' hz rfl rfl hx λh' aft ob=>?_
 refine aV (aft.go (tk:=tk) hz r') λhr2 st2=>?_
 exact q ρ' _ e hr2 r'.ge (st'.trans st2) ob
theorem yX{st:Stmt}(h1:Ex c F k st σ .next σ₁)(h2:uY c F k rest σ₁ X σ₂):uY c F k (st::rest) σ X σ₂:= λA ρ s env Q E K r h=>
 YH (h1 A ρ s env _ E K r λρ1 s1 x r1 st1 vx=>by
  rw[show x=.next from vx];exact h2 A ρ1 s1 env _ E K r1 λρ2 s2 e hp tk r2 st2 vy=>h ρ2 s2 e hp tk r2 (st1.trans st2) vy)
theorem DP{body:_}{orelse:_}{rest:_}{pos:_}(h1:Te c F k test σ t σ₁)(h2:uY c F k (if t then body else orelse) σ₁ X σ₂):uY c F k (.If test body orelse pos::rest) σ X σ₂:= λA ρ s env Q E K r h=>
 YH (wpAny_If (h1 A ρ s env _ E K r λρ1 s1 x r1 st1 vx=>by
  subst vx
  have z:= λQ'=>h2 A ρ1 s1 env Q' E K r1 λρ2 s2 e hp tk r2 st2 vy=>h ρ2 s2 e hp tk r2 (st1.trans st2) vy
  cases x<;>exact z _))
theorem yE{np:Pos}(O:c.Ok)(hk:F.scope.kind=.function)(hx:F.scope.names.lookup ("StopIteration":Str)=some .globalImplicit)(hv:nsIn c.K mainGlobals ("StopIteration":Str)=some none)(hb:bootBuiltins ("StopIteration":Str)=some (.type "StopIteration")):
  uY c F (k+100) (.Raise (some (.Name "StopIteration" np)) none pos::rest) σ "StopIteration" σ:= λA ρ s env Q E K r h=>
 YH (owsi_raiseC (K.2.2 (by lia)) (by
   refine Calls.Name_function_global (by rw[r.sc];exact hk) (by unfold Env.kindOf;rw[r.sc];exact hx) (Calls.loadGlobal_builtin (mg:=c.mg) (mb:=c.mb) ?_ (mg_none_of O.X O.g hv) ?_ ((O.bi _ (by decide)).trans hb) ⟨rfl,rfl⟩) (by decide)
   ·rw[r.gl];exact fY r.hr.base O.g O.gt
   ·rw[r.bl];exact fY r.hr.base O.b O.bt) λh' e hm=>h ρ s e h' s.toks r .refl hm.newExc)
theorem FY{X':String}(hz:c.rz=true)(G:c.Go)(X:dG c.w.params f body sc)
  (nd:decide (loc.map (·.1)).Nodup=true)(lo:(loc.all λp=>sc.names.lookup p.1==some .local)=true)
  (bd:∀(ρ:Nat→Addr)(n:Nat)(s:Shared)(xs:List Value)(ks:List (Str×Value)),(Kx c.w.params).In s.heap→cG ρ n args xs→mh ρ n kw ks→∃binds,BindsTo s (dw c.w.params f) ⟨xs,ks⟩ binds∧mh ρ n loc binds)
  (hb:uY c ⟨sc,[]⟩ k body ⟨loc,H⟩ X' ⟨loc',H'⟩):G3 c (k+1) (.ref f) args kw H X' H':=by
 have e:=X.se
 subst e
 refine DH (fd:=dw c.w.params f) (loc:=loc) hz G.ok (by rw[G.hK];exact X.lk) (by rw[G.hK];exact X.cd) X.bd X.cl X.gl X.bl (λx hx=>?_) X.co X.ge X.ki (λρ s xs ks XX hx hk=>?_) hb
 ·have:=ZF.mp X.ce x hx
  simpa using this
 ·refine ah (bd ρ _ s xs ks (G.hK▸XX) hx hk) λbinds b1 b2=>?_
  have nm:=jq b2
  refine bO binds b1 (λx hx=>?_) λx v hv=>?_
  ·have hm:x.1∈loc.map (·.1):=by rw[←nm];exact List.mem_map_of_mem hx
   refine ah (ZR.mp hm) λp hp e=>?_
   have:=ZF.mp lo p hp
   rw[←e];simpa using this
  ·refine ah (iN b2 hv) λv' h1 h2=>?_
   exact al v' (by rw[dV (by rw[nm];exact of_decide_eq_true nd)];exact h1) h2
section
variable{tok':Str}{p p':Int}
theorem wO(x:Value)(S:Setting):peek (Kx P) S (bindArgs (dw P 856) ⟨[x],[]⟩)=some [(("self":Str),x)]:=by w_on
noncomputable def uQ:Fs:=⟨AU,[]⟩
theorem fZ:uQ.scope.kind=.function:=by w_on
theorem wj(G:c.Go)(hs:l.lookup ("self":Str)=some (.obj L))(x:Lx H L D S T W pb fs st tok buf p)(hl:(dQ W S pb fs st tok).lookup name=some v)(hv:v.handed=true)(ha:du.contains name=true):
  Ev c uQ k (.Attribute (.Name "self" p1) name p2) ⟨l,H⟩ v ⟨l,H⟩:=
 bC (λ_=>by k_dflt rfl) (aa fZ rfl hs) (bY G (bZ _) x.l x.d hl hv (df _ ha))
theorem lC(G:c.Go){tok1:Str}{st1:AV}{p1:Int}(x:Lx H L D S T W pb fs st tok buf p)(h:Fn c (k+5) (.ref 820) [.obj L] [] H (.str tok1) H1)(x1:Lx H1 L D S T W pb fs st1 "" buf p1):
  Fn c (k+6) (.ref 856) [.obj L] [] H (.str tok1) H1:=by
 refine dh (fl:=.ret (.str tok1)) (loc:=[(("self":Str),.obj L)]) G (wK _) (by w_on) (by w_on) (λρ m s xs ks X hx hk=>?_) ?_
 ·refine mC hx hk λ_ hx=>?_
  refine al [(("self":Str),_)] (@bB _ _ _ _ _ X ?_) (.cons hx .nil)
  exact wO _ _
 ·apply aK (loc:=[("self",.obj L),("token",.str tok1)])
  k_dflt refine' ae (σ₁:=⟨[("self",.obj L),("token",.str tok1)],H1⟩) ?_ (ae (σ₁:=⟨[("self",.obj L),("token",.str tok1)],H1⟩) ?_ (bx ?_))
  ·exact aw (F:=uQ) fZ rfl (λ_=>rfl) (gp G (jH _) (bZ _) (λ_=>rfl) (aa fZ rfl rfl) x.l x.d rfl (pQ _) aU au h)
  ·exact aL (F:=uQ) (t:=false) (av rfl (aa fZ rfl rfl) (wj G rfl x1 rfl rfl (by decide)) lH) ar
  ·exact aX (F:=uQ) (aa fZ rfl rfl)
theorem FN:nsIn (Kx P) mainGlobals ("StopIteration":Str)=some none:=by w_on
theorem D7:bootBuiltins ("StopIteration":Str)=some (.type "StopIteration"):=PyProof.Rows.Boot.StopIteration
theorem qB(hz:c.rz=true)(G:c.Go)(x:Lx H L D S T W pb fs st "" buf p)(h:Fn c (k+105) (.ref 820) [.obj L] [] H .none H):
  G3 c (k+106) (.ref 856) [.obj L] [] H "StopIteration" H:=by
 refine FY (loc:=[(("self":Str),.obj L)]) (loc':=[("self",.obj L),("token",.none)]) hz G (wK _) (by w_on) (by w_on) (λρ m s xs ks X hx hk=>?_) ?_
 ·refine mC hx hk λ_ hx=>?_
  refine al [(("self":Str),_)] (@bB _ _ _ _ _ X ?_) (.cons hx .nil)
  exact wO _ _
 ·k_dflt refine' yX (σ₁:=⟨[("self",.obj L),("token",.none)],H⟩) ?_ ?_
  ·exact aw (F:=uQ) fZ rfl (λ_=>rfl) (gp G (jH _) (bZ _) (λ_=>rfl) (aa fZ rfl rfl) x.l x.d rfl (pQ _) aU au h)
  ·refine DP (F:=uQ) (t:=true) (av rfl (aa fZ rfl rfl) (wj G rfl x rfl rfl (by decide)) j6) ?_
   exact yE (k:=k+5) G.ok fZ rfl (by rw[G.hK];exact FN _) D7
end
section
variable{x:Addr}{ox:Obj}{od:Option Obj}
theorem vW{Q:Option Value→Shared→Prop}(X:K.In s.heap)(I:InstAt s.heap x ox C od)(hs:findIn K (.ref C) "__next__"=some (some (.ref f)))(hf:isFn K (.ref f)=true)
  (h:wpAny M A (call (.ref f) [.ref x]) (λv s'=>Q (some v) s') (OwitStop M A Q E) s):wpAny M A (pyNext (.ref x)) Q E s:=by
 unfold pyNext
 refine YC (wpAny_attempt (special_fn (name:="__next__") (args:=[]) X I hs (beq_iff_eq.mp hf) (YE h (λv s' hq=>?_) (λe s' he=>?_))))
 ·exact YD hq
 ·refine YC (YE he (λb s₂ hb=>?_) λ_ _ z=>z)
  cases b with
  |true=>exact YD hb
  |false=>exact wpAny_throw hb
theorem IQ{g:Value}(X:K.In s.heap)(I:InstAt s.heap x ox C od)(hs:findIn K (.ref C) "__next__"=some (some g))(h:Q (.ref x) s):OwitIt M A Q E (.ref x) s:=by
 unfold OwitIt
 exact YC (I.type.here ((looks_findIn X hs).here h))
theorem CK(X:K.In s.heap)(I:InstAt s.heap x ox C od)(hs:findIn K (.ref C) "__iter__"=some (some (.ref f)))(hf:isFn K (.ref f)=true)
  (h:wpAny M A (call (.ref f) [.ref x]) (OwitIt M A Q E) E s):wpAny M A (pyIter (.ref x)) Q E s:=by
 have fin:wpAny M A (call (.ref f) [.ref x] >>= λv=>pure (some v)) (λr s'=>∃v,r=some v∧OwitIt M A Q E v s') E s:=
  YC (YE h (λv s' h'=>YD (al v rfl h')) λ_ _ z=>z)
 have one:∀refuse:Sem Value,wpAny M A (callSpecialIfBoundUnlessNone? (.ref x) "__iter__" refuse) (λr s'=>∃v,r=some v∧OwitIt M A Q E v s') E s:=by
  intro refuse
  simp only[callSpecialIfBoundUnlessNone?,bindSpecialIfBound?]
  refine YF (YC (YC (YC (I.type.here ((looks_findIn X hs).here ?_)))))
  refine YC (wpAny_askSetting (wpAny_ite ?_))
  have fin2:wpAny M A (if(Value.ref f==Value.none)=true then(refuse >>= λv=>pure (some v))else(call (.ref f) [.ref x] >>= λv=>pure (some v))) (λr s'=>∃v,r=some v∧OwitIt M A Q E v s') E s:=by
   rw[if_neg (show ¬((Value.ref f==Value.none)=true)from Z0)]
   exact fin
  split
  ·exact YC ((bind_fn X _ (beq_iff_eq.mp hf)).here (YD (by exact fin2)))
  ·exact wpAny_tryCatch (YC ((bind_fn X _ (beq_iff_eq.mp hf)).here (YD (by exact fin2))))
 unfold pyIter
 refine YC (YC (I.type.here ((looks_findIn X hs).here ?_)))
 show wpAny M A (callSpecialIfBoundUnlessNone? (.ref x) "__iter__" _ >>=_) Q E s
 refine YC (YE (one _) (λr s' hr=>?_) λ_ _ z=>z)
 refine ah hr ?_;clear hr;intro v z0 hv;subst z0
 refine YC (YE hv (λr s₂ hr=>?_) λ_ _ z=>z)
 cases r with
 |none=>exact hr.elim
 |some g=>exact YD hr
end
theorem aW.in1(r:aW c A F ρ σ s env):aW c A.in1 F ρ σ s env:=⟨r.hr,r.sc,r.gl,r.bl,r.ce,r.ci,r.lo,r.ap,r.lf,r.ge,r.sk,r.tp,r.fl⟩
theorem aW.out1(r:aW c A.in1 F ρ σ s env):aW c A F ρ σ s env:=⟨r.hr,r.sc,r.gl,r.bl,r.ce,r.ci,r.lo,r.ap,r.lf,r.ge,r.sk,r.tp,r.fl⟩
theorem xB{f:Value}{xs:List Value}(O:c.Ok)(h:Fn c k f args [] σ.H v H')(K:cN k A)(r:aW c A F ρ σ s env)(hx:cG ρ σ.H.length args xs)
  (q:∀ρ' s' x,aW c A F ρ' ⟨σ.loc,H'⟩ s' env→aM c ρ σ.H.length (· =env.locals) s ρ' H'.length s'→VR ρ' H'.length v x→Q x s'):wpAny c.M A (call f xs) Q E s:=
 wpAny_call (h A ρ s xs [] _ K r.hr r.ge r.sk hx .nil λρ2 s2 x hr2 ge2 st2 vx=>by
  refine aV (r.after O hr2 ge2 st2) λr2 st2'=>?_
  exact q ρ2 s2 x r2 st2' vx)
theorem AB{f:Value}{xs:List Value}(O:c.Ok)(h:G3 c k f args [] σ.H X H')(K:cN k A)(r:aW c A F ρ σ s env)(hx:cG ρ σ.H.length args xs)
  (q:∀ρ' s' e,aW c A F ρ' ⟨σ.loc,H'⟩ s' env→aM c ρ σ.H.length (· =env.locals) s ρ' H'.length s'→(∃ob,s'.heap.get? e=some ob∧ob.cls=.type X)→E (.ref e) s'):wpAny c.M A (call f xs) Q E s:=
 wpAny_call (h A ρ s xs [] _ K r.hr r.ge r.sk hx .nil λρ2 s2 x hr2 ge2 st2 vx=>by
  refine aV (r.after O hr2 ge2 st2) λr2 st2'=>?_
  exact q ρ2 s2 x r2 st2' vx)
theorem yz{Q:Option Value→Shared→Prop}(O:c.Ok)(hi:σ.H[i]?=some (.inst C d))(hd:σ.H[d]?=some (.dict es))(hs:findIn c.K (.ref C) "__next__"=some (some (.ref f)))(hf:isFn c.K (.ref f)=true)
  (h:Fn c k (.ref f) [.obj i] [] σ.H v H')(K:cN k A)(r:aW c A F ρ σ s env)
  (q:∀ρ' s' x,aW c A F ρ' ⟨σ.loc,H'⟩ s' env→aM c ρ σ.H.length (· =env.locals) s ρ' H'.length s'→VR ρ' H'.length v x→Q (some x) s'):wpAny c.M A (pyNext (.ref (ρ i))) Q E s:=by
 refine cj (r.inst hi hd) λents e h5 h3 I=>?_
 exact vW (r.X O) I hs hf (xB O h K r (.cons ⟨(aq hi),rfl⟩ .nil) q)
theorem zV:isSubtype (.type "StopIteration") (.type "StopIteration")=pure true:=by rw[isSubtype_type];w_on
theorem yH{Q:Option Value→Shared→Prop}(O:c.Ok)(hi:σ.H[i]?=some (.inst C d))(hd:σ.H[d]?=some (.dict es))(hs:findIn c.K (.ref C) "__next__"=some (some (.ref f)))(hf:isFn c.K (.ref f)=true)
  (h:G3 c k (.ref f) [.obj i] [] σ.H "StopIteration" H')(K:cN k A)(r:aW c A F ρ σ s env)
  (q:∀ρ' s',aW c A F ρ' ⟨σ.loc,H'⟩ s' env→aM c ρ σ.H.length (· =env.locals) s ρ' H'.length s'→Q none s'):wpAny c.M A (pyNext (.ref (ρ i))) Q E s:=by
 refine cj (r.inst hi hd) λents e h5 h3 I=>?_
 refine vW (r.X O) I hs hf (AB O h K r (.cons ⟨(aq hi),rfl⟩ .nil) λρ2 s2 e2 r2 st2 ob=>?_)
 refine ah ob λob g1 g2=>?_
 have hT:s2.TypeIs (.ref e2) "StopIteration":=(show ∃o,s2.heap.get? e2=some o∧o.cls=.type "StopIteration" from al ob g1 g2)
 unfold OwitStop
 refine wpAny_isInstance hT zV ?_
 rw[if_pos rfl]
 exact q ρ2 s2 r2 st2
inductive nB(c:Cx)(k:Nat)(C f:Addr)(i j:Nat):List AO→List AV→List AO→Prop where
 |stop {H H':List AO} {d:Nat} {es:List (Str×AV)} (hi:H[i]?=some (.inst C d)) (hd:H[d]?=some (.dict es)) (h:G3 c k (.ref f) [.obj i] [] H "StopIteration" H'):nB c k C f i j H [] H'
 |more {H H₁ H₂:List AO} {d:Nat} {es:List (Str×AV)} {v:AV} {vs acc:List AV} (hi:H[i]?=some (.inst C d)) (hd:H[d]?=some (.dict es)) (h:Fn c k (.ref f) [.obj i] [] H v H₁) (hj:H₁[j]?=some (.list acc)) (hz:acc.length<1000)
   (r:nB c k C f i j (H₁.set j (.list (acc++[v]))) vs H₂):nB c k C f i j H (v::vs) H₂
theorem Ad{xs:List Value}{x:Value}(h:cG ρ n as xs)(hx:VR ρ n a x):cG ρ n (as++[a]) (xs++[x]):=by
 induction h with
 |nil=>exact .cons hx .nil
 |cons h _ ih=>exact .cons h ih
theorem aH{xs:List Value}(h:cG ρ n as xs):xs.length=as.length:=by
 induction h with
 |nil=>rfl
 |cons h _ ih=>simp[ih]
theorem lY{Q:Unit→Shared→Prop}{x:Value}(r:aW c A F ρ σ s env)(hj:σ.H[j]?=some (.list acc))(hz:acc.length<1000)(hv:VR ρ σ.H.length v x)
  (q:∀s',aW c A F ρ ⟨σ.loc,σ.H.set j (.list (acc++[v]))⟩ s' env→aM c ρ σ.H.length (· =env.locals) s ρ (σ.H.set j (.list (acc++[v]))).length s'→Q () s'):wpAny M A (updateSeq (ρ j) (·.push x)) Q E s:=by
 refine ah (r.hr.at_ j _ hj) λob h1 h2=>?_
 refine dk h2 ?_;clear h2;intro its e z0 h3;subst z0
 have jl:=aq hj
 have ln:=aH h3
 refine wpAny_updateSeq h1 rfl ?_ (by show its.length≤sizeLine;unfold sizeLine;lia) (by simp only[List.push_toArray,Ze,List.length_append,List.length_singleton];unfold sizeLine;lia)
 have hg:=Zw (Obj.mapSeq (·.push x)) h1 rfl
 have oth:∀b o,s.heap.get? b=some o→b≠env.locals→b≠ρ j→(s.heap.update (ρ j) (Obj.mapSeq (·.push x))).get? b=some o:= λb o e _ hb=>(ZU _ _ (Ne.symm hb)).trans e
 have z:=r.upd (tk:=s.toks) (ao:=.list (acc++[v])) jl hg (cI (its++[x]) _ (by simp[Obj.mapSeq];rfl) (Ad h3 hv)) oth (λm hm=>by
  refine dg hm λo es ep g1 g2=>?_
  exact bh o es ep ((ZU _ _ (r.ap j jl)).trans g1) g2)
 exact q _ z.1 z.2
theorem vF{res:Value}(O:c.Ok)(hs:findIn c.K (.ref C) "__next__"=some (some (.ref f)))(hf:isFn c.K (.ref f)=true)(dr:nB c k C f i j H vs H'):
  ∀{A:Around}{ρ:Nat→Addr}{s:Shared}{R:Result→Shared→Prop},cN k A.in1→j<H.length→aW c A F ρ ⟨l,H⟩ s env→(∀ρ' s',aW c A F ρ' ⟨l,H'⟩ s' env→aM c ρ H.length (· =env.locals) s ρ' H'.length s'→R (.ok (.ret res)) s')→
   codeAny c.M A (.builtin "list.extend.loop" ⟨[.ref (ρ j),.ref (ρ i),res],[]⟩) R s:=by
 induction dr with
 |stop hi hd h=>
  intro A ρ s R K jl r q
  refine codeAny_builtin PySem.F.entry_extend_loop ?_
  rw[Around.under_plainId PySem.F.plain_extend_loop _]
  show wpAny _ A.in1 (pyNext (.ref (ρ i)) >>=_) _ _ s
  exact YC (yH (σ:=⟨l,_⟩) O hi hd hs hf h K r.in1 λρ2 s2 r2 st2=>YD (q ρ2 s2 r2.out1 st2))
 | @more H H₁ H₂ d es v vs acc hi hd h hj hz rr ih=>
  intro A ρ s R K jl r q
  have il:=aq hi
  refine codeAny_builtin PySem.F.entry_extend_loop ?_
  rw[Around.under_plainId PySem.F.plain_extend_loop _]
  show wpAny _ A.in1 (pyNext (.ref (ρ i)) >>=_) _ _ s
  refine YC (yz (σ:=⟨l,_⟩) O hi hd hs hf h K r.in1 λρ2 s2 x r2 st2 vx=>?_)
  show wpAny _ A.in1 (updateSeq (ρ j) (·.push x) >>=_) _ _ _
  rw[←st2.ag j jl]
  refine YC (lY (σ:=⟨l,H₁⟩) r2 hj hz vx λs3 r3 st3=>?_)
  have st:aM c ρ H.length (· =env.locals) s ρ2 (H₁.set j (.list (acc++[v]))).length s3:=st2.trans st3
  have z:=ih (A:=A) (ρ:=ρ2) (s:=s3) (R:=R) K (ZD jl st.le) r3.out1 λρ4 s4 r4 st4=>q ρ4 s4 r4 (st.trans st4)
  rw[st2.ag i il]at z
  exact YD ⟨plainId_quiet PySem.F.plain_extend_loop _,z⟩
theorem tT{Q:Unit→Shared→Prop}{acc':List AV}{f:Array Value→Array Value}(r:aW c A F ρ σ s env)(hj:σ.H[j]?=some (.list acc))(hz:acc.length<1000)(hz':acc'.length<2000)
  (hv:∀its,cG ρ σ.H.length acc its→∃its',f ⟨its⟩=⟨its'⟩∧cG ρ σ.H.length acc' its')
  (q:∀s',aW c A F ρ ⟨σ.loc,σ.H.set j (.list acc')⟩ s' env→aM c ρ σ.H.length (· =env.locals) s ρ (σ.H.set j (.list acc')).length s'→Q () s'):wpAny M A (updateSeq (ρ j) f) Q E s:=by
 refine bp λGz kz=>?_
 refine ah (r.hr.at_ j _ hj) λob h1 h2=>?_
 refine dk h2 ?_;clear h2;intro its e z0 h3;subst z0
 have jl:=aq hj
 have ln:=aH h3
 refine ah (hv its h3) λits' e1 e2=>?_
 refine kz ?_
 have ln':=aH e2
 refine wpAny_updateSeq h1 rfl ?_ (by show its.length≤sizeLine;unfold sizeLine;lia) (by rw[e1];show its'.length≤_;unfold sizeLine;lia)
 have hg:=Zw (Obj.mapSeq f) h1 rfl
 have oth:∀b o,s.heap.get? b=some o→b≠env.locals→b≠ρ j→(s.heap.update (ρ j) (Obj.mapSeq f)).get? b=some o:= λb o e _ hb=>(ZU _ _ (Ne.symm hb)).trans e
 have z:=r.upd (tk:=s.toks) (ao:=.list acc') jl hg (cI its' _ (by simp[Obj.mapSeq,e1];rfl) e2) oth (λm hm=>by
  refine dg hm λo es ep g1 g2=>?_
  exact bh o es ep ((ZU _ _ (r.ap j jl)).trans g1) g2)
 exact q _ z.1 z.2
theorem kX{x:Addr}{ox:Obj}{od:Option Obj}{r:Option Value}{Q:Option Value→Shared→Prop}(X:K.In s.heap)(I:InstAt s.heap x ox C od)(hs:findIn K (.ref C) name=some r)(h:Q r s):wpAny M A (specialOf (.ref x) name) Q E s:=by
 unfold specialOf
 exact YC (I.type.here ((looks_findIn X hs).here h))
theorem DA{fi fn:Addr}{res:Value}(O:c.Ok)
  (hi:H[i]?=some (.inst C d))(hd:H[d]?=some (.dict es))(hj:H[j]?=some (.list []))(hit:findIn c.K (.ref C) "__iter__"=some (some (.ref fi)))(hfi:isFn c.K (.ref fi)=true)(hs:findIn c.K (.ref C) "__next__"=some (some (.ref fn)))(hf:isFn c.K (.ref fn)=true)
  (hlen:findIn c.K (.ref C) "__len__"=some none)(hhint:findIn c.K (.ref C) "__length_hint__"=some none)
  (hI:Fn c k (.ref fi) [.obj i] [] H (.obj i) H)(dr:nB c k C fn i j H vs H')(K:cN k A.in1)(r:aW c A.in1 F ρ ⟨l,H⟩ s env)
  (q:∀ρ' s',aW c A.in1 F ρ' ⟨l,H'⟩ s' env→aM c ρ H.length (· =env.locals) s ρ' H'.length s'→R (.ok (.ret res)) s'):
  wpAny c.M A.in1 (Builtin.List.listExtendWith (.ref (ρ j)) (.ref (ρ i)) res)
   (λfin s'=>match fin with| .done f=>R (.ok f) s'| .again c'=>c'.quiet=true∧codeAny c.M A c' R s') (λe s'=>R (.error e) s') s:=by
 have il:=aq hi
 have jl:=aq hj
 have hij:i≠j:=by rintro rfl;rw[hi]at hj;cases hj
 have hne:ρ j≠ρ i:= λe=>hij (r.hr.inj j i jl il e).symm
 refine cj (r.inst hi hd) λents e h5 h3 I=>?_
 unfold Builtin.List.listExtendWith
 refine YC (I.type.here ?_)
 have h1:Builtin.List.listSameRef (.ref (ρ j)) (.ref (ρ i))=false:=by simp[Builtin.List.listSameRef,hne]
 have h2:(Value.ref C==Value.type "list")=false:=rfl
 have h3':(Value.ref C==Value.type "tuple")=false:=rfl
 simp only[h1,h2,h3',Bool.or_false,Zy,if_false]
 refine YC (CK (r.X O) I hit hfi (xB (σ:=⟨l,H⟩) O hI K r (.cons ⟨il,rfl⟩ .nil) λρ1 s1 x r1 st1 vx=>?_))
 refine iR vx λ_=>?_
 refine cj (r1.inst hi hd) λents1 e1 g5 g3 I1=>?_
 refine IQ (r1.X O) I1 hs ?_
 rw[←st1.ag j jl,←st1.ag i il]
 refine YC (YF ?_)
 unfold Builtin.List.listLengthHint
 refine YC (kX (r1.X O) I1 hlen ?_)
 show wpAny _ A.in1 (specialOf (Value.ref (ρ1 i)) (Str.ofString "__length_hint__") >>=_) _ _ _
 refine YC (kX (r1.X O) I1 hhint ?_)
 refine YD ?_
 show wpAny _ A.in1 (rule "list.extend.makes-room" >>= λ_=>Builtin.List.listTouch (.ref (ρ1 j)) >>= λ_=>
  again (.builtin "list.extend.loop" ⟨[.ref (ρ1 j),.ref (ρ1 i),res],[]⟩)) _ _ _
 refine YC (wpAny_rule ?_)
 refine YC ?_
 show wpAny _ A.in1 (updateSeq (ρ1 j) (·.push .none) >>= λ_=>updateSeq (ρ1 j) (·.pop)) _ _ _
 refine YC (lY (σ:=⟨l,H⟩) (v:=.none) r1 hj (by decide) rfl λs2 r2 st2=>?_)
 have hj2:(H.set j (.list ([]++[.none])))[j]?=some (.list ([]++[.none])):=zT jl
 refine tT (σ:=⟨l,H.set j (.list ([]++[.none]))⟩) (acc':=[]) r2 hj2 (by decide) (by decide) (λits hv=>?_) λs3 r3 st3=>?_
 ·cases hv with
  |cons a b=>cases b;exact al [] rfl .nil
 ·have eH:(H.set j (.list ([]++[AV.none]))).set j (.list [])=H:=by
   rw[Zj]
   refine cc (zS.mp hj) λq1 q2=>?_
   rw[←q2];exact Z7 q1
  have r3':aW c A F ρ1 ⟨l,H⟩ s3 env:=by
   have z:=r3.out1
   change aW c A F ρ1 ⟨l,(H.set j (.list ([]++[AV.none]))).set j (.list [])⟩ s3 env at z
   rw[eH]at z;exact z
  have st3':aM c ρ1 (H.set j (.list ([]++[AV.none]))).length (· =env.locals) s2 ρ1 H.length s3:=by
   have z:=st3
   change aM c ρ1 (H.set j (.list ([]++[AV.none]))).length (· =env.locals) s2 ρ1 ((H.set j (.list ([]++[AV.none]))).set j (.list [])).length s3 at z
   rw[eH]at z;exact z
  refine YD ⟨plainId_quiet PySem.F.plain_extend_loop _,vF O hs hf dr K jl r3' λρ4 s4 r4 st4=>q ρ4 s4 r4.in1 ((st1.trans (st2.trans st3')).trans st4)⟩
theorem Bx{fi fn:Addr}(O:c.Ok)
  (hi:H[i]?=some (.inst C d))(hd:H[d]?=some (.dict es))(hit:findIn c.K (.ref C) "__iter__"=some (some (.ref fi)))(hfi:isFn c.K (.ref fi)=true)(hs:findIn c.K (.ref C) "__next__"=some (some (.ref fn)))(hf:isFn c.K (.ref fn)=true)
  (hlen:findIn c.K (.ref C) "__len__"=some none)(hhint:findIn c.K (.ref C) "__length_hint__"=some none)
  (hI:Fn c k (.ref fi) [.obj i] [] (H++[.list []]) (.obj i) (H++[.list []]))(dr:nB c k C fn i H.length (H++[.list []]) vs H')(hle:H.length<H'.length):
  cK c F (k+2) (λxs=>call (.type "list") xs) [.obj i] ⟨l,H⟩ (.obj H.length) ⟨l,H'⟩:= λA ρ s env Q E xs K r hx q=>by
 refine lW hx λ_ hx=>?_
 refine iR hx λil=>?_
 refine callType_codes (Q₁:= λobj s₁=>obj=.ref s.heap.objs.size∧s₁={s with heap:=s.heap.push {cls:=.type "list",data:=.seq #[]}}) PySem.F.called_list (PySem.F.typeCall_list_1 _) PySem.F.entry_list_init
  (code_list_new _ ⟨rfl,rfl⟩) λobj s₁ h₁=>?_
 refine aV h₁ ?_;clear h₁;intro z0 z1;subst z0;subst z1
 have hS:(s.heap.push {cls:=.type "list",data:=.seq #[]}).get? s.heap.objs.size=some {cls:=.type "list",data:=.seq #[]}:=ZN _ rfl
 refine aV (r.alloc (ao:=.list []) (ob:={cls:=.type "list",data:=.seq #[]}) s.toks rfl (cI [] _ rfl .nil)) λr1 st1=>?_
 have e0:gg ρ (St.H ⟨l,H⟩).length s.heap.objs.size H.length=s.heap.objs.size:=aF
 have ei:gg ρ (St.H ⟨l,H⟩).length s.heap.objs.size i=ρ i:=bc il
 refine⟨al _ hS rfl,PySem.F.args_list_init_2 _ _,?_⟩
 generalize gg ρ (St.H ⟨l,H⟩).length s.heap.objs.size=ρ1 at*
 have hi1:(H++[AO.list []])[i]?=some (.inst C d):=aB hi
 have hd1:(H++[AO.list []])[d]?=some (.dict es):=aB hd
 have hj1:(H++[AO.list []])[H.length]?=some (.list []):=aO
 rw[←e0,←ei]
 show wpAny _ A.in1.in1 (do let old←Builtin.List.listItems (.ref (ρ1 H.length));Builtin.List.listUpdate (.ref (ρ1 H.length)) (λ_=> #[]);letGo old.toList.reverse;Builtin.List.listExtendWith (.ref (ρ1 H.length)) (.ref (ρ1 i)) .none) _ _ _
 refine YC ?_
 unfold Builtin.List.listItems
 refine YC (wpAny_seqItems (by rw[e0];exact hS) rfl (YD ?_))
 show wpAny _ A.in1.in1 (updateSeq (ρ1 H.length) (λ_=> #[]) >>= λ_=>letGo (#[]:Array Value).toList.reverse >>= λ_=>Builtin.List.listExtendWith (.ref (ρ1 H.length)) (.ref (ρ1 i)) .none) _ _ _
 refine YC (tT (σ:=⟨l,H++[.list []]⟩) (acc':=[]) r1.in1.in1 hj1 (by decide) (by decide) (λits hv=>al [] rfl .nil) λs2 r2 st2=>?_)
 have eH:(H++[AO.list []]).set H.length (.list [])=H++[.list []]:=by
  refine cc (zS.mp hj1) λq1 q2=>?_
  have:=Z7 q1
  rw[q2]at this;exact this
 change aW c A.in1.in1 F ρ1 ⟨l,(H++[AO.list []]).set H.length (.list [])⟩ s2 env at r2
 change aM c ρ1 (H++[AO.list []]).length (· =env.locals) _ ρ1 ((H++[AO.list []]).set H.length (.list [])).length s2 at st2
 rw[eH]at r2 st2
 refine YC (wpAny_letGo ?_)
 refine DA (A:=A.in1) O hi1 hd1 hj1 hit hfi hs hf hlen hhint hI dr K.in1.in1 r2 λρ3 s3 r3 st3=>⟨rfl,?_⟩
 refine q ρ3 s3 _ r3.out1.out1 (st1.trans (st2.trans st3)) ⟨hle,?_⟩
 rw[st3.ag _ (by simp)]
theorem dc{L:Addr→Prop}(ob:Obj)(t:Nat):aM c ρ n L s (gg ρ n s.heap.objs.size) (n+1) {s with heap:=s.heap.push ob,toks:=t}:=
 ⟨λi hi=>bc hi,Zf _,λi h1 h2=>(by
  have:i=n:=by lia
  subst this
  rw[aF];exact fm _),⟨λb o e=>⟨o,zH _ e⟩,λb o e _ _ _=>al o (zH _ e) .refl⟩,rfl⟩
theorem sK(sk:rC c A ρ n h)(ob:Obj):rC c A (gg ρ n h.objs.size) (n+1) (h.push ob):=
 sk.keep (λi hi=>bc hi) (λi h1 h2=>(by
  have:i=n:=by lia
  subst this
  rw[aF];exact fm _)) λb o2 es ep g1 g2 _ _=>bh o2 es ep (zH _ g1) g2
theorem cG.step{L:Addr→Prop}{xs:List Value}(h:cG ρ n as xs)(st:aM c ρ n L s ρ' n' s'):cG ρ' n' as xs:=h.mono st.ag st.le
theorem xP(A:Around)(a:Args):(A.under (.builtin "type.__call__" a)).frames=A.frames:=by
 show pushEnvs [] A.frames=A.frames
 cases A.frames<;>rfl
theorem qQ{vals:List Value}{kw:List (Str×Value)}(K:cN (k+1) A):cN k (A.under (.builtin "type.__call__" ⟨.ref C::vals,kw⟩)):=by
 refine fv K λh1 h2 h3=>?_
 refine⟨?_,?_,λz=>h3 (by lia)⟩
 ·rw[depth_under_kw];lia
 ·show A.units+(Code.builtin "type.__call__" ⟨.ref C::vals,kw⟩).cUnits+12*k≤9000
  have:(Code.builtin "type.__call__" ⟨.ref C::vals,kw⟩).cUnits≤12:=by
   show(Code.builtin "type.__call__" ⟨[.ref 0],[]⟩).cUnits≤12
   decide+kernel
  lia
theorem vh{a:Args}(sk:rC c A ρ n h):rC c (A.under (.builtin "type.__call__" a)) ρ n h:=by
 intro hz
 refine ah (sk hz) λl h1 h2=>?_
 exact al l ((xP A a).trans h1) h2
theorem rL{fI:Addr}{H2:List AO}(O:c.Ok)(hm:makesIn c.K C=true)(hi:findIn c.K (.ref C) "__init__"=some (some (.ref fI)))(hf:typeIn c.K (.ref fI)=some (.type "function"))
  (h:Fn c k (.ref fI) (.obj (H.length+1)::args) kw (H++[.dict [],.inst C H.length]) .none H2):Fn c (k+1) (.ref C) args kw H (.obj (H.length+1)) H2:= λA ρ s xs ks R K hr ge sk hx hks q=>by
 obtain⟨hp,gn,dr,tk,os⟩:=s
 have hr1:=hr.alloc (ao:=.dict []) (ob:=emptyDict) rfl (cI [] _ rfl .nil)
 have st1:aM c ρ H.length (λ_=>False) ⟨hp,gn,dr,tk,os⟩ _ _ _:=dc emptyDict tk
 have sk1:=sK sk emptyDict
 have ob2:OR (gg (gg ρ H.length hp.objs.size) (H++[AO.dict []]).length (hp.push emptyDict).objs.size) ((H++[AO.dict []]).length+1) (.inst C H.length) (instObj C hp.objs.size):=by
  refine⟨(by simp;lia),?_⟩
  rw[bc (by simp),aF]
 have hr2:=hr1.alloc (ao:=.inst C H.length) (ob:=instObj C hp.objs.size) rfl ob2
 have st2:aM c (gg ρ H.length hp.objs.size) (H.length+1) (λ_=>False) ⟨hp.push emptyDict,gn,dr,tk,os⟩ _ _ _:=dc (instObj C hp.objs.size) tk
 have sk2:=sK sk1 (instObj C hp.objs.size)
 have e2:H++[AO.dict []]++[AO.inst C H.length]=H++[.dict [],.inst C H.length]:=by simp
 have l1:(H++[AO.dict []]).length=H.length+1:=by simp
 have l2:(H++[AO.dict [],AO.inst C H.length]).length=H.length+1+1:=by simp
 rw[e2,l1]at hr2
 have st:=st1.trans st2
 have eS:gg (gg ρ H.length hp.objs.size) (H.length+1) (hp.push emptyDict).objs.size (H.length+1)=hp.objs.size+1:=by rw[aF,Zo]
 dsimp only at st st2
 refine make_core (makes_of (hr.X O) hm) (looks_findIn (hr.X O) hi) (λself=>bind_fn (hr.X O) self hf) (.inl rfl) ?_
 generalize gg (gg ρ H.length hp.objs.size) (H.length+1) (hp.push emptyDict).objs.size=ρ2 at*
 refine h _ ρ2 ⟨(hp.push emptyDict).push (instObj C hp.objs.size),gn,dr,tk,os⟩ _ ks _ (qQ K) hr2 ge (vh (by rw[l2];exact sk2)) ?_ ?_ λρ3 s3 x hr3 ge3 st3 vx=>⟨vx,?_⟩
 ·rw[l2]
  exact .cons ⟨Za _,by rw[eS]⟩ (hx.step st)
 ·rw[l2];exact hks.mono st.ag st.le
 ·rw[l2]at st3
  have:=q ρ3 s3 (.ref (hp.objs.size+1)) hr3 ge3 (st.trans st3) ⟨ZD (Za _) st3.le,by rw[st3.ag _ (Za _),eS]⟩
  exact this
noncomputable def oA(K:Frag)(C:Addr):Bool:=match K.lookup C with
 |some ⟨_,_,.cls cd,_⟩=>!cd.mro.isEmpty&&cd.mro.contains (.ref C)&&specialIn K (.ref C) "__call__"==some (some (.builtin "type.__call__"))&&instIn K (.ref C) (.type "type")==some true
 |_=>false
theorem rC.after(O:c.Ok)(sk:rC c A ρ n s.heap)(st:aM c ρ n (λ_=>False) s ρ' n' s'):rC c A ρ' n' s'.heap:=
 sk.keep st.ag st.nw λb o2 es2 ep2 g1 g2 g3 g4=>by
  have ht:b≠c.tj:=(by rintro rfl;refine cc (O.tjx) λo3 e3=>?_;rw[g4]at e3;cases e3)
  refine ah (st.kp.2 b o2 g1 ht (λz=>z) g3) λo3 k3 l3=>?_
  exact bh o3 es2 ep2 k3 (l3.data.trans g2)
theorem tS{fI fN p:Addr}{rest:List Value}{H2:List AO}{x:Nat}(O:c.Ok)(hm:oA c.K C=true)(hmade:∀S,peek c.K S (Bind.madeBy (.ref C))=some none)
  (hr0:readsIn c.K C (.type "type")=true)(hfc:findCls c.K (.ref C) (.type "type") "__new__"=some (.get (.builtin "staticmethod.__get__") (.ref p) .none (.ref C)))(hp:recIn c.K p "staticmethod"=some (.ref fN::rest))
  (hi:findIn c.K (.ref C) "__init__"=some (some (.ref fI)))(hf:typeIn c.K (.ref fI)=some (.type "function"))
  (hN:Fn c k (.ref fN) (.val (.ref C)::args) kw H (.obj x) H1)(hx1:H1[x]?=some (.inst C d))(hd1:H1[d]?=some (.dict es))
  (hI:Fn c k (.ref fI) (.obj x::args) kw H1 .none H2):Fn c (k+1) (.ref C) args kw H (.obj x) H2:= λA ρ s xs ks R K hr ge sk hx hks q=>by
 unfold oA at hm
 split at hm
 ·rename_i oc od cd sl ho
  simp only[Z3,Bool.not_eq_true',beq_iff_eq]at hm
  refine aV hm λz0 e4=>aV z0 λz1 e3=>aV z1 λe1 e2=>?_
  have X:=hr.X O
  have hC:s.heap.get? C=some ⟨oc,od,.cls cd,sl⟩:=X _ _ ho
  have hc:clsIn c.K C=some cd:=by unfold clsIn;rw[ho]
  have call:Looks c.M s.heap (specialOf (.ref C) "__call__") (some (.builtin "type.__call__")):=looks_specialIn X e3
  have typ:Looks c.M s.heap (isInstance (.ref C) (.type "type")) true:=looks_instIn X e4
  refine codeAny_of_tree ?_
  show wpAny _ _ (callAny (.ref C) _) _ _ _
  obtain⟨hp',gn,dr,tk,os⟩:=s
  refine nd_load hC ?_
  show wpAny _ _ (callAny.viaDunder (.ref C) _) _ _ _
  unfold callAny.viaDunder
  refine YC (call.at ?_)
  dsimp only
  rw[tc_bind]
  refine YC (YD (YC (YD ?_)))
  refine YD (a:=Fin.again (.call (.builtin "type.__call__") ⟨.ref C::xs,ks⟩)) (And.intro rfl ?_)
  refine codeAny_call_builtin_at (Code.quiet_builtin _ (by decide+kernel)) entry_typeCall (check_slot tc_kind tc_split typ (tc_args _ _ _) ?_)
  unfold Builtin.«type.__call__»
  have hm:Looks c.M hp' (mroOf (.ref C)) cd.mro:=((Looks.ld (part:=none) hC).andThen .now).andThen .now
  have made:Looks c.M hp' (Bind.madeBy (.ref C)) none:=Looks.of_peek X (hmade _)
  repeat (first|with_reducible refine cls_bind (s:=⟨hp',gn,dr,tk,os⟩) X hr0 hfc ?_ |with_reducible refine wpAny_call ?_ |simp only[e1,Zy,if_false]|lk)
  refine sm_get (s:=⟨hp',gn,dr,tk+1,os⟩) X hp ?_
  show wpAny _ _ (handedOut (.ref fN)) _ _ _
  rw[handedOut_of rfl]
  refine YD ?_
  have st0:aM c ρ H.length (λ_=>False) ⟨hp',gn,dr,tk,os⟩ ρ H.length ⟨hp',gn,dr,tk+1,os⟩:=.toks _
  refine YC (YF (wpAny_call (hN _ ρ ⟨hp',gn,dr,tk+1,os⟩ _ ks _ (qQ K) hr ge (vh sk) (.cons rfl hx) hks λρ1 s1 y hr1 ge1 st1 vy=>?_)))
  refine iR vy λxl=>?_
  refine ah (hr1.at_ x _ hx1) λob g1 g2=>?_
  refine aV g2 ?_;clear g2;intro dl z0;subst z0
  refine ah (hr1.at_ d _ hd1) λob2 g3 g4=>?_
  have X1:=hr1.X O
  have hty:Looks c.M s1.heap (typeOf (.ref (ρ1 x))) (.ref C):=(Looks.ld g1).andThen .now
  have hsub:Looks c.M s1.heap (isSubtype (.ref C) (.ref C)) true:=looks_mroIn X1 (by unfold mroIn;rw[hc,Option.bind_some,if_neg (by rw[e1];decide),e2])
  have ins:Looks c.M s1.heap (isInstance (.ref (ρ1 x)) (.ref C)) true:=hty.andThen hsub
  refine YC (ins.here ?_)
  show wpAny _ _ (holding [.ref (ρ1 x)] (callSpecial? (.ref (ρ1 x)) (Str.ofString "__init__") xs ks) >>=_) _ _ _
  refine YC (YF ?_)
  unfold callSpecial? specialOf
  refine YC (YC (hty.here ((looks_findIn X1 hi).here ?_)))
  dsimp only
  refine YF (YC ((bind_fn X1 _ hf).here ?_))
  refine YC (wpAny_call (hI _ ρ1 s1 _ ks _ (qQ K) hr1 ge1 ?_ (.cons ⟨xl,rfl⟩ (hx.step (st0.trans st1))) (hks.mono (st0.trans st1).ag (st0.trans st1).le) λρ2 s2 y hr2 ge2 st2 vy=>?_))
  ·exact vh (sk.after O (st0.trans st1))
  ·have vy':y=.none:=vy
   subst vy'
   refine YD (YD ?_)
   have:=q ρ2 s2 (.ref (ρ1 x)) hr2 ge2 ((st0.trans st1).trans st2) ⟨ZD xl st2.le,by rw[st2.ag _ xl]⟩
   exact this
 ·cases hm
def iX(c:Cx)(fd:FuncData)(args:List AV)(kw:List (Str×AV))(H:List AO)(loc:List (Str×AV))(H1:List AO):Prop:=
 ∀(ρ:Nat→Addr)(s:Shared)(xs:List Value)(ks:List (Str×Value)),eE c ρ H s.heap→cG ρ H.length args xs→mh ρ H.length kw ks→
  ∃ρ1 s1 binds,(∀(M:Model)(A':Around)(E:Value→Shared→Prop)(Q:List (Str×Value)→Shared→Prop),M.prog=c.prog→M.w=c.w→Q binds s1→wpAny M A' (bindArgs fd ⟨xs,ks⟩) Q E s)∧
   eE c ρ1 H1 s1.heap∧(s1.gens=s.gens∧s1.drawn=s.drawn)∧aM c ρ H.length (λ_=>False) s ρ1 H1.length s1∧mh ρ1 H1.length loc binds
def FW(c:Cx)(F:Fs)(n k:Nat){α:Type}(t:Env→Sem α)(σ:St)(R:(Nat→Addr)→α→Prop)(σ':St):Prop:=
 ∀(A:Around)(ρ:Nat→Addr)(s:Shared)(env:Env)(Q:α→Shared→Prop)(E:Value→Shared→Prop),n≤s.toks→cN k A→aW c A F ρ σ s env→
  (∀ρ' s' a,aW c A F ρ' σ' s' env→aM c ρ σ.H.length (· =env.locals) s ρ' σ'.H.length s'→R ρ' a→Q a s')→wpAny c.M A (t env) Q E s
theorem C7.toT{t:Env→Sem α}{R:(Nat→Addr)→α→Prop}(h:C7 c F k t σ R σ'):FW c F n k t σ R σ':= λA ρ s env Q E _=>h A ρ s env Q E
abbrev uT(c:Cx)(F:Fs)(n k:Nat)(st:List Stmt)(σ:St)(f:AF)(σ':St):Prop:=FW c F n k (execs st) σ (λρ=>FR ρ σ'.H.length f) σ'
theorem Dw{fl:AF}(O:c.Ok)
  (hf:c.K.lookup f=some ⟨oc,od,.func fd,osl⟩)(hcd:codeIn c.K fd.code fd.qualname=true)(hbody:fd.body=.stmts body)(hcl:fd.closure=[])(hgl:fd.globals=mainGlobals)(hbl:fd.builtins=builtinsNs)
  (hcell:∀x∈fd.scope.names,x.2≠.cell)(hco:fd.scope.isCoroutine=false)(hgen:fd.scope.isGenerator=false)(hk:fd.scope.kind=.function)
  (nd:decide (loc.map (·.1)).Nodup=true)(lo:(loc.all λp=>fd.scope.names.lookup p.1==some .local)=true)
  (bd:iX c fd args kw H loc H1)
  (hb:uT c ⟨fd.scope,[]⟩ loc.length k body ⟨loc,H1⟩ fl ⟨loc',H'⟩):Fn c (k+1) (.ref f) args kw H fl.val H':= λA ρ s xs ks R K hr ge sk hx hks q=>by
 refine bp λGz kz=>?_
 refine cP (bd ρ s xs ks hr hx hks) λρ1 s1 binds b1 hr1 ge1 st1 b2=>?_
 refine kz ?_
 have sk1:=sk.after O st1
 have nm:=jq b2
 have hloc:∀x∈binds,fd.scope.names.lookup x.1=some .local:= λx hx=>by
  have hm:x.1∈loc.map (·.1):=by rw[←nm];exact List.mem_map_of_mem hx
  refine ah (ZR.mp hm) λp hp e=>?_
  have:=ZF.mp lo p hp
  rw[←e];simpa using this
 have b3:∀x v,loc.lookup x=some v→∃v',binds.reverse.lookup x=some v'∧VR ρ1 H1.length v v':= λx v hv=>by
  refine ah (iN b2 hv) λv' h1 h2=>?_
  exact al v' (by rw[dV (by rw[nm];exact of_decide_eq_true nd)];exact h1) h2
 refine codeAny_call_function K.depth (hr.X O _ _ hf) rfl hco hgen hbody (codeRec_of (hr.X O) hcd) (b1 _ _ _ _ rfl rfl ?_)
 refine wpAny_newFunctionEnv hcell hloc (λh₀ hns hsb₀=>⟨(hr1.lim O).fresh _ hsb₀,codeAny_func ?_⟩) hk
 have hkp:∀b o,s1.heap.get? b=some o→h₀.get? b=some o:= λb o e=>hsb₀.extBut b o (Z6 (ZB e)) (zH _ e)
 have r:aW c (A.deeper (callEnv fd s1.heap.objs.size f)) ⟨fd.scope,[]⟩ ρ1 ⟨loc,H1⟩ {s1 with heap:=h₀,toks:=s1.toks+binds.length} (callEnv fd s1.heap.objs.size f):=
  ⟨⟨λi o e=>let⟨ob,h1,h2⟩:=hr1.at_ i o e;(al ob (hkp _ _ h1) h2),hr1.inj,hr1.up,λb o e t=>hkp _ _ (hr1.base b o e t),λo e=>(hr1.tj o e).imp (λz=>hkp _ _ z) λ⟨z1,z2,vs,more,z3,z4⟩=>bS z1 z2 vs more z3 (hkp _ _ z4)⟩,
   rfl,hgl,hbl,(by show fd.closure=_;rw[hcl];rfl),(λp hp=>nomatch hp),al _ hns b3,λi hi q=>(by
   refine ah (hr1.at_ i (H1[i]) (zG hi)) λob h1 _=>?_
   have:=ZB h1
   rw[show ρ1 i=s1.heap.objs.size from q]at this
   exact ZJ _ this),(by cases q:c.h₁.get? (callEnv fd s1.heap.objs.size f).locals with|none=>rfl|some o=>exact(hr1.nosz o q).elim),(by show c.gq s1.gens s1.drawn;rw[ge1.1,ge1.2];exact ge),(by
   intro hz
   refine ah (sk1 hz) λl l1 l2=>?_
   refine al _ (Around.frames_deeper l1) λe he=>?_
   rcases ZH.mp he with rfl|he
   ·refine c7 hns λo es ep g1 g2 _=>?_
    refine eO (by show fd.scope.kind≠.module;rw[hk];decide) s1.heap.objs.size o es ep rfl ?_ g1 g2 λi hi q=>?_
    ·cases q:c.h₁.get? s1.heap.objs.size with
     |none=>rfl
     |some o=>exact(hr1.nosz o q).elim
    ·refine ah (hr1.at_ i (H1[i]) (zG hi)) λob h1 _=>?_
     have:=ZB h1
     rw[q]at this
     exact ZJ _ this
   ·exact(l2 e he).keep (λ_ _=>rfl) (λi h1 h2=>absurd h2 (ZX.mpr h1)) λb o es ep g1 g2 _ _=>bh o es ep (hkp _ _ g1) g2),(λhz _=>by refine ah (sk1 hz) λl l1 _=>?_;exact⟨l,Around.frames_deeper l1⟩),λ_=>⟨rfl,rfl⟩⟩
 have lnb:binds.length=loc.length:=by have:=congrArg List.length nm;simpa using this
 refine hb (A.deeper (callEnv fd s1.heap.objs.size f)) ρ1 _ _ _ _ (by show loc.length≤s1.toks+binds.length;lia) K.deeper r λρ' s' fl' r' st vf=>?_
 have st':aM c ρ1 H1.length (λ_=>False) s1 ρ' H'.length s':=⟨st.ag,st.le,λi h1 h2=>(by
   cases q:s1.heap.get? (ρ' i)with
   |none=>rfl
   |some o=>have:=st.nw i h1 h2;rw[hkp _ _ q]at this;cases this),
  ⟨λb o e=>st.kp.1 b o (hkp _ _ e),λb o e t _ h3=>st.kp.2 b o (hkp _ _ e) t (λz=>by
   have:=ZB e
   rw[show b=s1.heap.objs.size from z]at this
   exact ZJ _ this) h3⟩,st.os⟩
 have st':=st1.trans st'
 cases fl with
 |next=>rw[show fl'=.next from vf];exact q ρ' s' _ r'.hr r'.ge st' rfl
 |brk=>rw[show fl'=.brk from vf];exact q ρ' s' _ r'.hr r'.ge st' rfl
 |cont=>rw[show fl'=.cont from vf];exact q ρ' s' _ r'.hr r'.ge st' rfl
 |ret v=>refine ah vf ?_;clear vf;intro x z0 hx;subst z0;exact q ρ' s' x r'.hr r'.ge st' hx
theorem B4{fl:AF}(G:c.Go)(X:dG c.w.params f body sc)
  (nd:decide (loc.map (·.1)).Nodup=true)(lo:(loc.all λp=>sc.names.lookup p.1==some .local)=true)
  (bd:iX c (dw c.w.params f) args kw H loc H1)
  (hb:uT c ⟨sc,[]⟩ loc.length k body ⟨loc,H1⟩ fl ⟨[],H'⟩):Fn c (k+1) (.ref f) args kw H fl.val H':=by
 have e:=X.se
 subst e
 refine Dw (fd:=dw c.w.params f) (loc:=loc) G.ok (by rw[G.hK];exact X.lk) (by rw[G.hK];exact X.cd) X.bd X.cl X.gl X.bl (λx hx=>?_) X.co X.ge X.ki nd lo bd hb
 have:=ZF.mp X.ce x hx
 simpa using this
theorem qY{fl:AF}(G:c.Go)(X:dG c.w.params f body sc)
  (nd:decide (loc.map (·.1)).Nodup=true)(lo:(loc.all λp=>sc.names.lookup p.1==some .local)=true)
  (bd:iX c (dw c.w.params f) args kw H loc H1)
  (hb:dI c ⟨sc,[]⟩ k body ⟨loc,H1⟩ fl ⟨[],H'⟩):Fn c (k+1) (.ref f) args kw H fl.val H':=B4 G X nd lo bd hb.toT
noncomputable def kT{α:Type}(K:Frag)(S:Setting)(D:Addr):Sem α→Option (List Obj×α)
 | .pure a=>some ([],a)
 | .rule _ k=>kT K S D (k ())
 | .point _ k=>kT K S D (k ())
 | .ask k=>kT K S D (k S)
 | .load a _ k=>(K.lookup a).bind λo=>kT K S D (k o)
 | .alloc o k=>(kT K S (D+1) (k D)).map λp=>(o::p.1,p.2)
 |_=>none
noncomputable def vR(h:Heap)(os:List Obj):Heap:=os.foldl Heap.push h
theorem g9{Q:α→Shared→Prop}{a:α}:
  ∀(t:Sem α)(s:Shared)(os:List Obj),K.In s.heap→kT K ⟨M.prog,M.w.params⟩ s.heap.objs.size t=some (os,a)→Q a {s with heap:=vR s.heap os}→wpAny M A t Q E s:=by
 intro t
 induction t with
 |pure b=>
  intro s os X e q
  have e:=congrArg (λz=>z.getD (os,b)) e
  have e1:[]=os:=congrArg (·.1) e
  have e2:b=a:=congrArg (·.2) e
  subst e1 e2;exact YD q
 |rule _ k ih=>intro s os X e q Γ p hΓ;exact ih () s os X e q Γ p hΓ
 |point _ k ih=>intro s os X e q Γ p hΓ;exact ih () s os X e q Γ p hΓ
 |ask k ih=>intro s os X e q Γ p hΓ;exact ih _ s os X e q Γ p hΓ
 |load a _ k ih=>
  intro s os X e q Γ p hΓ
  refine ah (Option.bind_eq_some_iff.mp e) λob ho e=>?_
  exact al ob (X _ _ ho) (ih ob s os X e q Γ p hΓ)
 |alloc ob k ih=>
  intro s os X e q
  refine ah (Z5.mp e) λp e1 e2=>?_
  have g1:ob::p.1=os:=congrArg (·.1) e2
  have g2:p.2=a:=congrArg (·.2) e2
  subst g1 g2
  refine YC (f:=k) (wpAny_alloc ?_)
  refine ih _ _ p.1 (X.keeps λb x hb=>zH _ hb) ?_ q
  rw[show((s.heap.push ob).objs.size)=s.heap.objs.size+1 from Zo _ _]
  exact e1
 |_=>intro s os X e;exact Jr e
theorem pK{rest fs:List AV}:∀{xs:List Value},cG ρ n (fs++rest) xs→∃x1 x2,xs=x1++x2∧cG ρ n fs x1∧cG ρ n rest x2:=by
 induction fs with
 |nil=>intro xs h;exact fq [] xs rfl .nil h
 |cons a fs ih=>
  intro xs h
  refine jI h ?_
  intro v vs h t
  refine cj (ih t) λx1 x2 z0 h1 h2=>?_
  exact fq (v::x1) x2 (by rw[z0];rfl) (.cons h h1) h2
theorem nQ{b:List (Str×Value)}{v:Value}(h:mh ρ n l b)(hv:VR ρ n a v):mh ρ n (l++[(x,a)]) (b++[(x,v)]):=by
 induction h with
 |nil=>exact .cons hv .nil
 |cons h _ ih=>exact .cons h ih
theorem qH{T:String}{v:Value}{pl:Sem Bool}{Q:Value×List Value→Shared→Prop}(X:K.In s.heap)(ht:typeOf (.type T)=pure (.type "type"))(hs:Manifest.isStub T=false)
  (e:findCls K (.type T) (.type "type") name=some (.val v))(hh:handedIn v=true)(h:Q (v,[]) {s with toks:=s.toks+1}):wpAny c.M A (getMethod (.type T) name pl) Q E s:=by
 have hstub:opaqueClassAbove (.type T)=pure none:=by unfold opaqueClassAbove;dsimp only;rw[hs];rfl
 have L0:Looks c.M s.heap (typeOf (.type T)) (.type "type"):=Looks.of_pure ht
 have hg:findIn K (.type "type") "__getattribute__"=some (some (.builtin "type.__getattribute__")):=type_tga
 unfold getMethod specialOf
 refine YC (YC (L0.here ((looks_findIn X hg).here ?_)))
 dsimp only
 rw[if_pos canon_tga]
 refine YC (YE (Q:= λv=>Q (v,[])) (E:=E) ?_ (λ_ _ z=>YD z) λ_ _ z=>z)
 have LO:Looks c.M s.heap (opaqueClassAbove (.type T)) none:=Looks.of_pure hstub
 refine cls_open X LO L0 hg (looks_hook X (r:=none) (by rfl)) (by show subIn K _ _=_;rfl) e
  (YD (by show wpAny _ _ (handedOut v) _ _ _;rw[handedOut_of hh];exact YD h))
theorem Do(X:K.In s.heap)(hc:∀S,peek K S (checkBuiltinCall "object.__new__" ⟨[.ref C],[]⟩)=some ())
  (hn:∀S D,kT K S D (Builtin.«object.__new__» ⟨[.ref C],[]⟩)=some ([emptyDict,instObj C D],.done (.ret (.ref (D+1)))))
  (hq:R (.ok (.ret (.ref (s.heap.objs.size+1)))) {s with heap:=(s.heap.push emptyDict).push (instObj C s.heap.objs.size)}):
  codeAny c.M A (.call (.builtin "object.__new__") ⟨[.ref C],[]⟩) R s:=by
 refine codeAny_call_builtin_code (Code.quiet_builtin _ PySem.F.objNew.quiet) ?_
 refine(Looks.of_peek X (hc _)).here ?_
 refine codeAny_builtin PySem.F.objNew.entry ?_
 exact g9 _ s _ X (hn _ _) hq
theorem nT{a b:Addr}(O:c.Ok)(h:(!(a==b))=t)(hl:∀S,peek c.K S (isSame (.ref a) (.ref b))=some (a==b)):dz c F k (compareOp .IsNot) (.val (.ref a)) (.val (.ref b)) σ (.bool t) σ:= λA ρ s env Q E p q K r hp hq z=>by
 cases hp;cases hq
 show wpAny _ A (do return Value.bool (!(←isSame (.ref a) (.ref b)))) Q E s
 exact YC ((Looks.of_peek (r.X O) (hl _)).here (YD (z ρ s _ r .refl (by rw[h];rfl))))
theorem xF:findCls (Kx P) (.type "object") (.type "type") "__new__"=some (.val (.builtin "object.__new__")):=by w_on
theorem xJ:handedIn (.builtin "object.__new__")=true:=by decide+kernel
theorem xR:typeOf (.type "object")=pure (.type "type"):=by w_on
theorem yM:Manifest.isStub "object"=false:=by decide+kernel
theorem aW.fresh(r:aW c A F ρ σ s env):∃ρ',aW c A F ρ' ⟨σ.loc,σ.H++[.dict [],.inst C σ.H.length]⟩ {s with heap:=(s.heap.push emptyDict).push (instObj C s.heap.objs.size)} env∧
  aM c ρ σ.H.length (· =env.locals) s ρ' (σ.H++[AO.dict [],AO.inst C σ.H.length]).length {s with heap:=(s.heap.push emptyDict).push (instObj C s.heap.objs.size)}∧ρ' (σ.H.length+1)=s.heap.objs.size+1:=by
 refine aV (r.alloc (ao:=.dict []) (ob:=emptyDict) s.toks rfl (cI [] _ rfl .nil)) λr1 st1=>?_
 have ob2:OR (gg (gg ρ σ.H.length s.heap.objs.size) (σ.H++[AO.dict []]).length (s.heap.push emptyDict).objs.size) ((σ.H++[AO.dict []]).length+1) (.inst C σ.H.length) (instObj C s.heap.objs.size):=by
  refine⟨(by simp;lia),?_⟩
  rw[bc (by simp),aF]
 refine aV (r1.alloc (ao:=.inst C σ.H.length) (ob:=instObj C s.heap.objs.size) s.toks rfl ob2) λr2 st2=>?_
 have e2:σ.H++[AO.dict []]++[AO.inst C σ.H.length]=σ.H++[AO.dict [],AO.inst C σ.H.length]:=by simp
 dsimp only at r2 st2
 rw[e2]at r2 st2
 refine bO _ r2 (st1.trans st2) ?_
 rw[show σ.H.length+1=(σ.H++[AO.dict []]).length by simp,aF,Zo]
theorem AI{o:Expr}{args:List Expr}{T:String}(O:c.Ok)
  (he:∀env,eval (.Call (.Attribute o name apos) args [] pos) env=(do
   let ov←eval o env
   standAt apos.atName
   let(f,first)←holding [ov] (getMethod ov name (gD o env))
   callWith pos f first (backTo pos (starEach args env)) []))
  (hp:∀env,(backTo pos (starEach args env)).any (·.1)=false)(ht:typeOf (.type T)=pure (.type "type"))(hst:Manifest.isStub T=false)(fc:findCls c.K (.type T) (.type "type") name=some (.val (.builtin id)))(hh:handedIn (.builtin id)=true)
  (h0:Ev c F k o σ (.val (.type T)) σ₁)(ha:da c (.builtin id) pos args)(h1:Ag c F k pos args σ₁ vs σ₂)
  (h2:cK c F k (λxs=>call (.builtin id) xs) vs σ₂ v σ₃):
  Ev c F k (.Call (.Attribute o name apos) args [] pos) σ v σ₃:= λA ρ s env Q E K r h=>
 MethodCall_ (pl:=gD o env) (h0 A ρ s env _ E K r λρ1 s1 x r1 st1 vx=>by
  subst vx
  refine qH (r1.X O) ht hst fc hh ?_
  refine Calls.callWith_builtin (hp env) (ha A env _ E _ ?_)
  refine h1 A ρ1 _ env _ E K (r1.toks _) λρ2 s2 xs r2 st2 vxs=>h2 A ρ2 s2 env _ E xs K r2 vxs λρ3 s3 z r3 st3 vz=>h ρ3 s3 z r3 ((st1.trans (.toks _)).trans (st2.trans st3)) vz) (he env)
theorem x9(O:c.Ok)(hc:∀S,peek c.K S (checkBuiltinCall "object.__new__" ⟨[.ref C],[]⟩)=some ())(hn:∀S D,kT c.K S D (Builtin.«object.__new__» ⟨[.ref C],[]⟩)=some ([emptyDict,instObj C D],.done (.ret (.ref (D+1))))):
  cK c F k (λxs=>call (.builtin "object.__new__") xs) [.val (.ref C)] σ (.obj (σ.H.length+1)) ⟨σ.loc,σ.H++[.dict [],.inst C σ.H.length]⟩:= λA ρ s env Q E xs K r vxs q=>by
 refine lW vxs λ_ vx=>?_
 cases vx
 refine br (r.fresh (C:=C)) λρ3 r3 st3 e3=>?_
 have z:=q ρ3 _ (.ref (s.heap.objs.size+1)) r3 st3 ⟨(by simp),(by rw[e3])⟩
 exact wpAny_call (Do (r.X O) hc hn z)
noncomputable def CF:=cV (cV bJ 16) 1
noncomputable def wD:=kr (cV bJ 16) 1
noncomputable def Ca:=cV (cV bJ 20) 1
noncomputable def sT:=kr (cV bJ 20) 1
noncomputable def FV:=cV (cV bJ 20) 2
noncomputable def Cf:=kr (cV bJ 20) 2
theorem BG:dG P 217 CF wD:=by constructor<;>w_on
theorem xI:dG P 494 Ca sT:=by constructor<;>w_on
theorem wt:dG P 501 FV Cf:=by constructor<;>w_on
theorem A4(x y:Value)(S:Setting)(D:Addr):kT (Kx P) S D (bindArgs (dw P 217) ⟨[x,y],[]⟩)=some ([{cls:=.type "tuple",data:=.seq #[y]},emptyDict],[(("cls":Str),x),(("args":Str),.ref D),(("kwargs":Str),.ref (D+1))]):=by w_on
noncomputable def EZ(f:Addr)(i:Nat):Tok:=match(dw P f).defaults with
 | .ref d=>(match(wF P d).data with
  | .seq xs _=>(match xs.toList[i]? with|some (.str _ t)=>t|some (.int _ t)=>t|_=>0)
  |_=>0)
 |_=>0
theorem xX(x y:Value)(S:Setting):peek (Kx P) S (bindArgs (dw P 494) ⟨[x,y],[]⟩)=some [(("self":Str),x),(("initial_value":Str),y),(("newline":Str),.str "\n" (EZ P 494 1))]:=by w_on
theorem DB(x y:Value)(S:Setting):peek (Kx P) S (bindArgs (dw P 501) ⟨[x,y],[]⟩)=some [(("self":Str),x),(("s":Str),y)]:=by w_on
theorem DI(S:Setting):peek (Kx P) S (checkBuiltinCall "object.__new__" ⟨[.ref 724],[]⟩)=some ():=by w_on
theorem CV(S:Setting)(D:Addr):kT (Kx P) S D (Builtin.«object.__new__» ⟨[.ref 724],[]⟩)=some ([emptyDict,instObj 724 D],.done (.ret (.ref (D+1)))):=by w_on
theorem IF(S:Setting):peek (Kx P) S (isSame (.ref 724) (.ref 477))=some ((724:Addr)==477):=by w_on
theorem HO(S:Setting):peek (Kx P) S (isSame (.ref 724) (.ref 724))=some ((724:Addr)==724):=by w_on
theorem yo:nsIn (Kx P) mainGlobals ("BytesIO":Str)=some (some (.ref 477)):=by w_on
theorem nA:nsIn (Kx P) mainGlobals ("StringIO":Str)=some (some (.ref 724)):=by w_on
theorem Bz:nsIn (Kx P) mainGlobals ("object":Str)=some none:=by w_on
theorem Ik:oA (Kx P) 724=true:=by w_on
theorem Ei(S:Setting):peek (Kx P) S (Bind.madeBy (.ref 724))=some none:=by w_on
theorem ze:readsIn (Kx P) 724 (.type "type")=true:=by w_on
noncomputable def Iu:Addr:=match findIn (Kx P) (.ref 724) "__new__" with|some (some (.ref p))=>p|_=>0
theorem Il:∃p rest,findCls (Kx P) (.ref 724) (.type "type") "__new__"=some (.get (.builtin "staticmethod.__get__") (.ref p) .none (.ref 724))∧recIn (Kx P) p "staticmethod"=some (.ref 217::rest):=cI (Iu P) (match recIn (Kx P) (Iu P) "staticmethod" with|some (_::r)=>r|_=>[]) (by w_on) (by w_on)
theorem Ec:findIn (Kx P) (.ref 724) "__init__"=some (some (.ref 494)):=by w_on
theorem Iy:findIn (Kx P) (.ref 724) "_StringIO__translated"=some (some (.ref 501)):=by w_on
theorem IG:typeIn (Kx P) (.ref 494)=some (.type "function"):=by w_on
theorem xQ:bootBuiltins ("object":Str)=some (.type "object"):=PyProof.Rows.Boot.object
theorem oV{fs rest:List AV}{nm nm2:Str}(O:c.Ok)
  (hp:∀(ρ:Nat→Addr)(n:Nat)(xs ys:List Value),cG ρ n fs xs→cG ρ n rest ys→∃b0,mh ρ n loc b0∧∀S D,kT c.K S D (bindArgs fd ⟨xs++ys,[]⟩)=some ([{cls:=.type "tuple",data:=.seq ys.toArray},emptyDict],b0++[(nm,.ref D)]++[(nm2,.ref (D+1))])):
  iX c fd (fs++rest) [] H (loc++[(nm,.obj H.length)]++[(nm2,.obj (H.length+1))]) (H++[.tuple rest]++[.dict []]):= λρ s xs ks hr hx hk=>by
 refine cj (pK hx) λx1 x2 z0 v1 v2=>?_;subst z0
 cases hk
 refine ah (hp ρ H.length x1 x2 v1 v2) λb0 kb hpk=>?_
 have hst:aM c ρ H.length (λ_=>False) s _ _ _:=dc ({cls:=.type "tuple",data:=.seq x2.toArray}:Obj) s.toks
 have hr1:=hr.alloc (ao:=.tuple rest) (ob:={cls:=.type "tuple",data:=.seq x2.toArray}) rfl (cI x2 _ rfl (v2.step hst))
 have hst2:aM c (gg ρ H.length s.heap.objs.size) (H.length+1) (λ_=>False) {s with heap:=s.heap.push {cls:=.type "tuple",data:=.seq x2.toArray}} _ _ _:=dc emptyDict s.toks
 have hr2:=hr1.alloc (ao:=.dict []) (ob:=emptyDict) rfl (cI [] _ rfl .nil)
 have l:(H++[AO.tuple rest]).length=H.length+1:=by simp
 have l2:(H++[AO.tuple rest]++[AO.dict []]).length=H.length+1+1:=by simp
 rw[l]at hr2
 refine cH _ ({s with heap:=(s.heap.push {cls:=.type "tuple",data:=.seq x2.toArray}).push emptyDict}) (b0++[(nm,.ref s.heap.objs.size)]++[(nm2,.ref (s.heap.objs.size+1))]) (λM A' E Q e1 e2 hq=>?_) hr2 ⟨rfl,rfl⟩ (by rw[l2];exact hst.trans hst2) ?_
 ·exact g9 _ s _ (hr.X O) (hpk _ _) hq
 ·rw[l2]
  refine nQ (nQ (kb.mono (hst.trans hst2).ag (hst.trans hst2).le) ⟨by lia,?_⟩) ⟨by lia,?_⟩
  ·rw[bc (Za _),aF]
  ·rw[aF,Zo]
noncomputable def Eo:Fs:=⟨wD,[]⟩
theorem jv:Eo.scope.kind=.function:=by w_on
noncomputable def IL(n:Nat):List (Str×AV):=[("cls",.val (.ref 724)),("args",.obj n),("kwargs",.obj (n+1))]
theorem Ah(G:c.Go):Fn c (k+1) (.ref 217) [.val (.ref 724),.str x] [] H (.obj (H.length+3)) (H++[.tuple [.str x]]++[.dict []]++[.dict [],.inst 724 (H.length+2)]):=by
 have O:=G.ok
 have bd:iX c (dw c.w.params 217) [.val (.ref 724),.str x] [] H (IL H.length) (H++[.tuple [.str x]]++[.dict []]):=by
  refine oV (fs:=[.val (.ref 724)]) (rest:=[.str x]) (loc:=[("cls",.val (.ref 724))]) (nm:="args") (nm2:="kwargs") O λρ n xs ys hx hy=>?_
  refine lW hx λ_ hx=>?_
  cases hy with
  |cons hy ht=>
   cases ht
   refine al [("cls",_)] (.cons hx .nil) λS D=>?_
   rw[G.hK]
   exact A4 _ _ _ _ _
 refine qY (fl:=.ret (.obj (H.length+3))) (loc:=IL H.length) G (BG _) (by w_on) (by w_on) bd ?_
 ·apply aK (loc:=IL H.length)
  k_dflt refine' ae (σ₁:=⟨IL H.length,H++[.tuple [.str x]]++[.dict []]⟩) ?_ (bx ?_)
  ·exact aL (F:=Eo) (t:=false) (bu (av rfl (aa jv rfl rfl) (mu O jv rfl (by rw[G.hK];exact yo _) (by decide)) (nT O rfl (by rw[G.hK];exact IF _))) (bG (av rfl (aa jv rfl rfl) (mu O jv rfl (by rw[G.hK];exact nA _) (by decide)) (nT O rfl (by rw[G.hK];exact HO _))))) ar
  ·have z:=x9 (k:=k) (F:=Eo) (σ:=⟨IL H.length,H++[.tuple [.str x]]++[.dict []]⟩) (C:=724) O (by rw[G.hK];exact DI _) (by rw[G.hK];exact CV _)
   have l:(H++[AO.tuple [.str x]]++[AO.dict []]).length=H.length+2:=by simp
   dsimp only at z
   rw[l]at z
   exact aX (F:=Eo) (AI O (λ_=>rfl) (λ_=>rfl) xR yM (by rw[G.hK];exact xF _) xJ (fK O jv rfl (by rw[G.hK];exact Bz _) xQ (by decide) (by decide)) (af λ_=>rfl) (am (λ_=>rfl) (aa jv rfl rfl) au) z)
theorem ua:cK c F k (λxs=>call (.type "type") xs) [.str x] σ (.val (.type "str")) σ:= λA ρ s env Q E xs K r hx q=>by
 cases hx with
 |cons hx ht=>cases ht;refine lU hx λt=>?_;exact call_type_of (typeIs_str s x t) (by decide) (q ρ s _ r .refl rfl)
noncomputable def A3:Fs:=⟨Cf,[]⟩
theorem jD:A3.scope.kind=.function:=by w_on
noncomputable def mN:Fs:=⟨sT,[]⟩
theorem cC:mN.scope.kind=.function:=by w_on
theorem AM:nsIn (Kx P) mainGlobals ("str":Str)=some none:=by w_on
theorem uO:bootBuiltins ("str":Str)=some (.type "str"):=PyProof.Rows.Boot.str
theorem Fe:findIn (Kx P) (.ref 724) "_StringIO__newline"=some none:=by w_on
theorem zP:findIn (Kx P) (.ref 724) "_StringIO__buf"=some none:=by w_on
theorem Gv:findIn (Kx P) (.ref 724) "_StringIO__pos"=some none:=by w_on
theorem D0(G:c.Go)(hs:H[S]?=some (.inst 724 T))(ht:H[T]?=some (.dict es))(hn:es.lookup ("_StringIO__newline":Str)=some (.str "\n")):Fn c (k+1) (.ref 501) [.obj S,.str x] [] H (.str x) H:=by
 refine dh (fl:=.ret (.str x)) (loc:=[("self",.obj S),("s",.str x)]) G (wt _) (by w_on) (by w_on) (λρ m s xs ks X hx hk=>?_) ?_
 ·cases hx with
  |cons hx h2=>
   refine mC h2 hk λ_ h2=>?_
   refine al [("self",_),("s",_)] (@bB _ _ _ _ _ X ?_) (.cons hx (.cons h2 .nil))
   exact DB _ _ _
 ·apply aK (loc:=[("self",.obj S),("s",.str x),("newline",.str "\n")])
  k_dflt refine' ae (σ₁:=⟨[("self",.obj S),("s",.str x),("newline",.str "\n")],H⟩) ?_ (ae (σ₁:=⟨[("self",.obj S),("s",.str x),("newline",.str "\n")],H⟩) ?_ (ae (σ₁:=⟨[("self",.obj S),("s",.str x),("newline",.str "\n")],H⟩) ?_ (bx ?_)))
  ·exact aw (F:=A3) jD rfl (λ_=>rfl) (bC (λ_=>by k_dflt rfl) (aa jD rfl rfl) (bY G (eK _) hs ht hn rfl (Fe _)))
  ·exact aL (F:=A3) (t:=false) (av rfl (aa jD rfl rfl) bv (bP rfl)) ar
  ·exact aL (F:=A3) (t:=false) (ej (av rfl (aa jD rfl rfl) bn (ek (by decide))) (ej (av rfl (aa jD rfl rfl) bn (ek (by decide))) jN)) ar
  ·exact aX (F:=A3) (aa jD rfl rfl)
noncomputable def yk(S:Nat)(x:Str):List (Str×AV):=[("self",.obj S),("initial_value",.str x),("newline",.str "\n")]
noncomputable def I7:List (Str×AV):=[("_StringIO__newline",.str "\n")]
noncomputable def Jo:List (Str×AV):=[("_StringIO__newline",.str "\n"),("_StringIO__buf",.str "")]
theorem yL(G:c.Go)(hs:H[S]?=some (.inst 724 T))(ht:H[T]?=some (.dict []))(hne:S≠T):Fn c (k+2) (.ref 494) [.obj S,.str x] [] H .none (H.set T (.dict (uP x 0))):=by
 have tl:=aq ht
 have at1:∀es:List (Str×AV),(H.set T (.dict es))[S]?=some (.inst 724 T):= λes=>ak hs hne
 have at2:∀es:List (Str×AV),(H.set T (.dict es))[T]?=some (.dict es):= λes=>zT tl
 have ss:∀es es':List (Str×AV),(H.set T (.dict es)).set T (.dict es')=H.set T (.dict es'):= λes es'=>Zj ..
 have se:∀(σ:St)(v:AV)(name:Str)(es:List (Str×AV)),σ.H=H.set T (.dict es)→es.length<1000→findIn (Kx c.w.params) (.ref 724) name=some none→wx c mN (k+1) (λx y=>setAttr x name y) (.obj S) v σ (λ_ _=>True) ⟨σ.loc,H.set T (.dict (aR name v es))⟩:= λσ v name es e hz ha=>by
  have z:=cJ (k:=k+1) (F:=mN) (σ:=σ) (v:=v) (name:=name) G (eK _) (by rw[e];exact at1 es) (by rw[e];exact at2 es) hz ha
  rw[e,ss]at z
  exact z
 refine dh (fl:=.next) (loc:=yk S x) G (xI _) (by w_on) (by w_on) (λρ m s xs ks X hx hk=>?_) ?_
 ·cases hx with
  |cons hx h2=>
   refine mC h2 hk λ_ h2=>?_
   refine al [("self",_),("initial_value",_),("newline",_)] (@bB _ _ _ _ _ X ?_) (.cons hx (.cons h2 (.cons ⟨EZ c.w.params 494 1,rfl⟩ .nil)))
   exact xX _ _ _
 ·apply aK (loc:=yk S x)
  k_dflt refine' ae (σ₁:=⟨yk S x,H⟩) ?_ (ae (σ₁:=⟨yk S x,H⟩) ?_ (ae (σ₁:=⟨yk S x,H⟩) ?_ (ae (σ₁:=⟨yk S x,H.set T (.dict I7)⟩) ?_ (ae (σ₁:=⟨yk S x,H.set T (.dict Jo)⟩) ?_ (ae (σ₁:=⟨yk S x,H.set T (.dict (uP "" 0))⟩) ?_ (ae (σ₁:=⟨yk S x,H.set T (.dict (uP x 0))⟩) ?_ ar))))))
  ·exact aL (F:=mN) (t:=false) (bu (av rfl (aa cC rfl rfl) bv (bU rfl)) (bG (av rfl (cQ (λ_=>rfl) (λ_=>rfl) (fK G.ok cC rfl (by rw[G.hK];exact u0 _) rp (by decide) (by decide)) (af λ_=>rfl) (am (λ_=>rfl) (aa cC rfl rfl) au) ua) (fK G.ok cC rfl (by rw[G.hK];exact AM _) uO (by decide) (by decide)) (iZ (by decide))))) ar
  ·exact aL (F:=mN) (t:=false) (bu (av rfl (aa cC rfl rfl) bv (bU rfl)) (bu (av rfl (aa cC rfl rfl) bn (wb (by decide))) (bG (av rfl (aa cC rfl rfl) bn (wb (by decide)))))) ar
  ·exact aL (F:=mN) (t:=false) (bu (av rfl (aa cC rfl rfl) bv (bU rfl)) (bG (av rfl (cQ (λ_=>rfl) (λ_=>rfl) (fK G.ok cC rfl (by rw[G.hK];exact u0 _) rp (by decide) (by decide)) (af λ_=>rfl) (am (λ_=>rfl) (aa cC rfl rfl) au) ua) (fK G.ok cC rfl (by rw[G.hK];exact AM _) uO (by decide) (by decide)) (iZ (by decide))))) ar
  ·refine aP (F:=mN) (λ_=>rfl) (aa cC rfl rfl) (aa cC rfl rfl) ?_
   exact cJ (k:=k+1) (F:=mN) (σ:=⟨yk S x,H⟩) (v:=.str "\n") (name:="_StringIO__newline") G (eK _) hs ht (by decide) (Fe _)
  ·exact aP (F:=mN) (λ_=>rfl) bn (aa cC rfl rfl) (se ⟨yk S x,H.set T (.dict I7)⟩ _ _ I7 rfl (by decide) (zP _))
  ·exact aP (F:=mN) (λ_=>rfl) aJ (aa cC rfl rfl) (se ⟨yk S x,H.set T (.dict Jo)⟩ _ _ Jo rfl (by decide) (Gv _))
  ·refine aL (F:=mN) (t:=true) (av rfl (aa cC rfl rfl) bv (bU rfl)) (aT ?_)
   exact aP (F:=mN) (λ_=>rfl) (gp G (wt _) (eK _) (λ_=>rfl) (aa cC rfl rfl) (at1 _) (at2 _) rfl (Iy _) (af λ_=>rfl) (am (λ_=>rfl) (aa cC rfl rfl) au) (D0 G (at1 _) (at2 _) rfl)) (aa cC rfl rfl) (se ⟨yk S x,H.set T (.dict (uP "" 0))⟩ _ _ (uP "" 0) rfl (by show 3<1000;decide) (zP _))
theorem cy{f:Value}{first:List Value}{args:List (Bool×Sem Value)}{kws:List (Option Str×Sem Value)}
  (h:wpAny M A (evalArgs f true args kws) (λa s₁=>(∃kp,Looks M s₁.heap (keeperOf f) kp)∧wpAny M A (call f (first++a.pos) a.kw) Q E s₁) E s):wpAny M A (callWith pos f first args kws) Q E s:=by
 unfold callWith
 refine YC (YF (YE h (λa s₁ h₁=>YC (YG ?_)) λ_ _ x=>x))
 refine aV h₁ λz0 hc=>cc z0 λkp L=>?_
 have tail:∀{t:Sem Value},wpAny M A t Q E s₁→wpAny M A (t >>= λr=>holding [r] point >>= λ_=>pure r) Q E s₁:=
  λht=>YC (YE ht (λr s₂ hr=>YC (YF (wpAny_point (YD hr)))) λ_ _ x=>x)
 have marked (mk:Value):wpAny M A (callMarked mk f (first++a.pos) a.kw) Q E s₁:=by unfold callMarked;exact Calls.wpAny_keep hc
 refine YC (L.here ?_)
 cases hs:(args.any (·.1)||kws.any (·.1.isNone))<;>cases kp<;>dsimp only
 all_goals first
  |exact tail hc
  |exact tail (marked _)
  |exact tail (wpAny_operating hc)
  |(split<;>first|exact tail hc|exact tail (marked _))
abbrev IS(c:Cx)(F:Fs)(k:Nat)(f:Value)(pos:Pos)(args:List Expr)(kws:List Keyword)(σ:St)(vs:List AV)(kvs:List (Str×AV))(σ':St):Prop:=
 C7 c F k (λenv=>evalArgs f true (backTo pos (starEach args env)) (backToKw pos (keywordEach kws env))) σ (λρ a=>cG ρ σ'.H.length vs a.pos∧mh ρ σ'.H.length kvs a.kw) σ'
theorem gL{f:Value}{args:List Expr}(ha:da c f pos args)(h:Ag c F k pos args σ vs σ₁):IS c F k f pos args [] σ vs [] σ₁:= λA ρ s env Q E K r q=>
 ha A env _ E s (h A ρ s env _ E K r λρ1 s1 xs r1 st1 vx=>q ρ1 s1 _ r1 st1 ⟨vx,.nil⟩)
theorem Ez{f:Value}{rest:List Expr}{n:Str}{e₂:Expr}{kp:Pos}(he:∀env,starEach (e::rest) env=(false,eval e env)::starEach rest env)(hk:∀env,backToKw pos (keywordEach [⟨some n,e₂,kp⟩] env)=[(some n,do let v←eval e₂ env;standAt pos;pure v)])
  (h:Ag c F k pos (e::rest) σ vs σ₁)(h2:Ev c F k e₂ σ₁ a σ₂):IS c F k f pos (e::rest) [⟨some n,e₂,kp⟩] σ vs [(n,a)] σ₂:= λA ρ s env Q E K r q=>by
 have h':=h A ρ s env (λxs s1=>wpAny c.M A (evalAll [do let v←eval e₂ env;standAt pos;pure v]) (λks s₂=>Q ⟨xs,[n].zip ks⟩ s₂) E s1) E K r λρ1 s1 xs r1 st1 vx=>wpAny_evalAll_cons (YC (h2 A ρ1 s1 env _ E K r1 λρ2 s2 y r2 st2 vy=>YC (YG (YD (wpAny_evalAll_nil (q ρ2 s2 _ r2 (st1.trans st2) ⟨st2.vrs vx,.cons vy .nil⟩))))))
 show wpAny c.M A (evalArgs f true (backTo pos (starEach (e::rest) env)) (backToKw pos (keywordEach [⟨some n,e₂,kp⟩] env))) Q E s
 rw[hk env]
 dsimp only at h'
 rw[he env]at h' ⊢
 exact evalArgs_kw rfl h'
theorem fS{f:Value}{args:List Expr}{kws:List Keyword}{kvs:List (Str×AV)}(O:c.Ok)
  (he:∀env,eval (.Call func args kws pos) env=(do callWith pos (←eval func env) [] (backTo pos (starEach args env)) (backToKw pos (keywordEach kws env))))
  (h0:Ev c F k func σ (.val f) σ₁)(hkp:∃kp,∀S,peek c.K S (keeperOf f)=some kp)(h1:IS c F k f pos args kws σ₁ vs kvs σ₂)(h2:Fn c k f vs kvs σ₂.H v H'):Ev c F k (.Call func args kws pos) σ v ⟨σ₂.loc,H'⟩:= λA ρ s env Q E K r h=>by
 rw[he env]
 refine YC (h0 A ρ s env _ E K r λρ1 s1 x r1 st1 vx=>?_)
 subst vx
 refine cy (h1 A ρ1 s1 env _ E K r1 λρ2 s2 a r2 st2 va=>⟨?_,?_⟩)
 ·refine cc hkp λkp e=>?_
  exact⟨kp,Looks.of_peek (r2.X O) (e _)⟩
 ·refine wpAny_call (h2 A ρ2 s2 a.pos a.kw _ K r2.hr r2.ge r2.sk va.1 va.2 λρ3 s3 x hr3 ge3 st3 vx3=>?_)
  refine aV (r2.after O hr3 ge3 st3) λr3 st3'=>?_
  exact h ρ3 s3 x r3 (st1.trans (st2.trans st3')) vx3
theorem Iw(S:Setting):peek (Kx P) S (keeperOf (.ref 724))=some .machine:=by w_on
theorem HV(S:Setting):peek (Kx P) S (keeperOf (.ref 859))=some .machine:=by w_on
noncomputable def BU(H:List AO)(x:Str)(a:AO):List AO:=H++[.tuple [.str x]]++[.dict []]++[a,.inst 724 (H.length+2)]
theorem wT(x:Str)(a:AO):(BU H x a)[H.length+3]?=some (.inst 724 (H.length+2)):=by
 unfold BU
 rw[zR (by simp)]
 simp
theorem wI(x:Str)(a:AO):(BU H x a)[H.length+2]?=some a:=by
 unfold BU
 rw[zR (by simp)]
 simp
theorem Dh(x:Str)(a b:AO):(BU H x a).set (H.length+2) b=BU H x b:=by
 unfold BU
 rw[Zn _ _ (by simp)]
 simp
theorem zB(G:c.Go):Fn c (k+3) (.ref 724) [.str x] [] H (.obj (H.length+3)) (BU H x (.dict (uP x 0))):=by
 refine dk (Il c.w.params) λp rest e1 e2=>?_
 have z:=yL (k:=k) (x:=x) G (wT (H:=H) x (.dict [])) (wI x (.dict [])) (by lia)
 rw[Dh]at z
 exact tS (H1:=BU H x (.dict [])) G.ok (by rw[G.hK];exact Ik _) (by rw[G.hK];exact Ei _) (by rw[G.hK];exact ze _) (by rw[G.hK];exact e1) (by rw[G.hK];exact e2) (by rw[G.hK];exact Ec _) (by rw[G.hK];exact IG _)
  (Ah (k:=k+1) G) (wT x (.dict [])) (wI x (.dict [])) z
theorem E1:cK c F k (λxs=>call (.type "collections.deque") xs) [] σ (.obj σ.H.length) ⟨σ.loc,σ.H++[.fix kS]⟩:= λA ρ s env Q E xs K r hx q=>by
 cases hx
 refine aV (r.alloc (ao:=.fix kS) (ob:=kS) s.toks rfl rfl) λr1 st1=>?_
 exact C5 (q _ _ _ r1 st1 ⟨by simp,by rw[aF]⟩)
theorem uH:cK c F k (λxs=>call (.builtin "isinstance") xs) [.str x,.val (.type "str")] σ (.bool true) σ:= λA ρ s env Q E xs K r hx q=>by
 cases hx with
 |cons h1 h2=>
  cases h2 with
  |cons h2 h3=>
   cases h3;refine lU h1 λt=>?_;cases h2
   exact IsiPair.str_str (q ρ s _ r .refl rfl)
noncomputable def ip:Fs:=⟨Bj,[]⟩
theorem ct:ip.scope.kind=.function:=by w_on
theorem xU(x y z:Value)(S:Setting):peek (Kx P) S (bindArgs (dw P 783) ⟨[x,y],[(("posix":Str),z)]⟩)=some [(("self":Str),x),(("instream":Str),y),(("infile":Str),.none),(("posix":Str),z),(("punctuation_chars":Str),.bool false)]:=by w_on
theorem vV:nsIn (Kx P) mainGlobals ("deque":Str)=some (some (.type "collections.deque")):=by w_on
theorem B7:nsIn (Kx P) mainGlobals ("isinstance":Str)=some none:=by w_on
theorem yh:bootBuiltins ("isinstance":Str)=some (.builtin "isinstance"):=PyProof.Rows.Boot.isinstance
noncomputable def W0:Str:=HJ (uE uI 5)
noncomputable def W1:Str:=HJ (uE (cV uI 6) 0)
noncomputable def WW:Str:=W0++W1
noncomputable def CR(W:Str)(ii pb fs:Nat):List (Str×AV):=
 [("instream",.obj ii),("infile",.none),("posix",.bool true),("eof",.none),("commenters",.str "#"),("wordchars",.str W),("whitespace",.str " \t\r\n"),("whitespace_split",.bool false),("quotes",.str "'\""),("escape",.str "\\"),("escapedquotes",.str "\""),
  ("state",.str " "),("pushback",.obj pb),("lineno",.int 1),("debug",.int 0),("token",.str ""),("filestack",.obj fs),("source",.none),("_punctuation_chars",.str "")]
noncomputable def mV(n:Nat)(x:Str):List AO:=[.tuple [.str x],.dict [],.dict (uP x 0),.inst 724 (n+2)]
theorem Gg(x:Str):BU H x (.dict (uP x 0))=H++mV H.length x:=by simp[BU,mV]
noncomputable def mr(L:Nat)(i:AV)(pc:AV):List (Str×AV):=[("self",.obj L),("instream",i),("infile",.none),("posix",.bool true),("punctuation_chars",pc)]
theorem ig(G:c.Go)(hl:H[L]?=some (.inst 859 D))(hne:L≠D)(hd:D<H.length){X X':List AO}(hs:l.lookup ("self":Str)=some (.obj L))(hz:es.length<1000)(ha:du.contains name=true)
  (hsw:∀env,swapsWith e (some (.Attribute (.Name "self" p1) name p2)) p3.line env=pure false)(h:Ev c ip k e ⟨l,H.set D (.dict es)++X⟩ v ⟨l,H.set D (.dict es)++X'⟩):
  Ex c ip k (.Assign [.Attribute (.Name "self" p1) name p2] e p3) ⟨l,H.set D (.dict es)++X⟩ .next ⟨l,H.set D (.dict (aR name v es))++X'⟩:=by
 refine aP hsw h (aa ct rfl hs) ?_
 have ll:=aq hl
 have z:=cJ (k:=k) (F:=ip) (σ:=⟨l,H.set D (.dict es)++X'⟩) (v:=v) (name:=name) (i:=L) (d:=D) (es:=es) G (bZ _)
  (by show(H.set D (.dict es)++X')[L]?=_;rw[zL (by simpa using ll),zN (Ne.symm hne)];exact hl)
  (by show(H.set D (.dict es)++X')[D]?=_;rw[zL (by simpa using hd)];exact zT hd) hz (df _ ha)
 dsimp only at z
 rw[Z9 _ _ (by simpa using hd),Zj]at z
 exact z
theorem Jh(G:c.Go)(hl:H[L]?=some (.inst 859 D))(hne:L≠D)(hd:D<H.length){X:List AO}(hs:l.lookup ("self":Str)=some (.obj L))(ha:du.contains name=true)(hv:es.lookup name=some v)(hh:v.handed=true):
  Ev c ip k (.Attribute (.Name "self" p1) name p2) ⟨l,H.set D (.dict es)++X⟩ v ⟨l,H.set D (.dict es)++X⟩:=by
 have ll:=aq hl
 exact bC (λ_=>by k_dflt rfl) (aa ct rfl hs) (bY (i:=L) (d:=D) (es:=es) G (bZ _)
  (by show(H.set D (.dict es)++X)[L]?=_;rw[zL (by simpa using ll),zN (Ne.symm hne)];exact hl)
  (by show(H.set D (.dict es)++X)[D]?=_;rw[zL (by simpa using hd)];exact zT hd) hv hh (df _ ha))
theorem JE(G:c.Go)(hl:H[L]?=some (.inst 859 D))(hne:L≠D)(hd:D<H.length){X:List AO}(hz:es.length<1000)(ha:du.contains name=true):
  wx c ip k (λx y=>setAttr x name y) (.obj L) v ⟨l,H.set D (.dict es)++X⟩ (λ_ _=>True) ⟨l,H.set D (.dict (aR name v es))++X⟩:=by
 have ll:=aq hl
 have z:=cJ (k:=k) (F:=ip) (σ:=⟨l,H.set D (.dict es)++X⟩) (v:=v) (name:=name) (i:=L) (d:=D) (es:=es) G (bZ _)
  (by show(H.set D (.dict es)++X)[L]?=_;rw[zL (by simpa using ll),zN (Ne.symm hne)];exact hl)
  (by show(H.set D (.dict es)++X)[D]?=_;rw[zL (by simpa using hd)];exact zT hd) hz (df _ ha)
 dsimp only at z
 rw[Z9 _ _ (by simpa using hd),Zj]at z
 exact z
theorem Ja(G:c.Go)(hl:H[L]?=some (.inst 859 D))(hne:L≠D)(hd:D<H.length){X:List AO}(ha:du.contains name=true)(hv:es.lookup name=some v)(hh:v.handed=true):
  oW c ip k (λx=>getAttr x name ex) (.obj L) ⟨l,H.set D (.dict es)++X⟩ v ⟨l,H.set D (.dict es)++X⟩:=by
 have ll:=aq hl
 exact bY (i:=L) (d:=D) (es:=es) G (bZ _)
  (by show(H.set D (.dict es)++X)[L]?=_;rw[zL (by simpa using ll),zN (Ne.symm hne)];exact hl)
  (by show(H.set D (.dict es)++X)[D]?=_;rw[zL (by simpa using hd)];exact zT hd) hv hh (df _ ha)
noncomputable def lx(i:Nat)(W:Str)(n:Nat):List (Str×AV):=(CR W (n+3) (n+4) (n+5)).take i
noncomputable def lV(H:List AO)(D i:Nat)(W:Str)(X:List AO):List AO:=H.set D (.dict (lx i W H.length))++X
noncomputable def Fy(n:Nat)(x:Str):List AO:=mV n x++[.fix kS]
noncomputable def yZ(n:Nat)(x:Str):List AO:=mV n x++[.fix kS]++[.fix kS]
theorem Hn:(W0++W1).length≤sizeLine:=by decide+kernel
theorem Ib:W0.length=0→W0++W1=W1:= λh=>absurd h (by decide+kernel)
theorem HW:W1.length=0→W0++W1=W0:= λh=>absurd h (by decide+kernel)
set_option maxHeartbeats 1000000 in
theorem yr(G:c.Go)(hl:H[L]?=some (.inst 859 D))(hne:L≠D)(hd:H[D]?=some (.dict [])):
  Fn c (k+4) (.ref 783) [.obj L,.str x] [("posix",.bool true)] H .none (lV H D 19 WW (yZ H.length x)):=by
 have O:=G.ok
 have dl:=aq hd
 have H0:H=H.set D (.dict [])++[]:=by
  refine cc (zS.mp hd) λq1 q2=>?_
  rw[List.append_nil,←q2];exact(Z7 q1).symm
 have ln:(H.set D (AO.dict (lx 12 WW H.length))++mV H.length x).length=H.length+4:=by simp[mV]
 have ln2:(H.set D (AO.dict (lx 16 WW H.length))++Fy H.length x).length=H.length+5:=by simp[mV,Fy]
 have es0:∀i W,(lx i W H.length).length<1000:= λi W=>by
  unfold lx;rw[List.length_take]
  have:(CR W (H.length+3) (H.length+4) (H.length+5)).length=19:=rfl
  lia
 refine dh (fl:=.next) (loc:=mr L (.str x) (.bool false)) G (CP _) (by w_on) (by w_on) (λρ m s xs ks X hx hk=>?_) ?_
 ·cases hx with
  |cons hx h2=>
   refine lW h2 λ_ h2=>?_
   cases hk with
   |cons hk h4=>
    cases h4
    refine al [("self",_),("instream",_),("infile",_),("posix",_),("punctuation_chars",_)] (@bB _ _ _ _ _ X ?_) (.cons hx (.cons h2 (.cons rfl (.cons hk (.cons rfl .nil)))))
    exact xU _ _ _ _
 ·apply aK (loc:=mr L (.obj (H.length+3)) (.str ""))
  k_dflt refine' ae (σ₁:=⟨mr L (.obj (H.length+3)) (.bool false),lV H D 0 W0 (mV H.length x)⟩) ?_ (ae (σ₁:=⟨mr L (.obj (H.length+3)) (.bool false),lV H D 2 W0 (mV H.length x)⟩) ?_
   (ae (σ₁:=⟨mr L (.obj (H.length+3)) (.bool false),lV H D 3 W0 (mV H.length x)⟩) ?_ (ae (σ₁:=⟨mr L (.obj (H.length+3)) (.bool false),lV H D 4 W0 (mV H.length x)⟩) ?_
   (ae (σ₁:=⟨mr L (.obj (H.length+3)) (.bool false),lV H D 5 W0 (mV H.length x)⟩) ?_ (ae (σ₁:=⟨mr L (.obj (H.length+3)) (.bool false),lV H D 6 W0 (mV H.length x)⟩) ?_
   (ae (σ₁:=⟨mr L (.obj (H.length+3)) (.bool false),lV H D 6 WW (mV H.length x)⟩) ?_ (ae (σ₁:=⟨mr L (.obj (H.length+3)) (.bool false),lV H D 7 WW (mV H.length x)⟩) ?_
   (ae (σ₁:=⟨mr L (.obj (H.length+3)) (.bool false),lV H D 8 WW (mV H.length x)⟩) ?_ (ae (σ₁:=⟨mr L (.obj (H.length+3)) (.bool false),lV H D 9 WW (mV H.length x)⟩) ?_
   (ae (σ₁:=⟨mr L (.obj (H.length+3)) (.bool false),lV H D 10 WW (mV H.length x)⟩) ?_ (ae (σ₁:=⟨mr L (.obj (H.length+3)) (.bool false),lV H D 11 WW (mV H.length x)⟩) ?_
   (ae (σ₁:=⟨mr L (.obj (H.length+3)) (.bool false),lV H D 12 WW (mV H.length x)⟩) ?_ (ae (σ₁:=⟨mr L (.obj (H.length+3)) (.bool false),lV H D 13 WW (Fy H.length x)⟩) ?_
   (ae (σ₁:=⟨mr L (.obj (H.length+3)) (.bool false),lV H D 14 WW (Fy H.length x)⟩) ?_ (ae (σ₁:=⟨mr L (.obj (H.length+3)) (.bool false),lV H D 15 WW (Fy H.length x)⟩) ?_
   (ae (σ₁:=⟨mr L (.obj (H.length+3)) (.bool false),lV H D 16 WW (Fy H.length x)⟩) ?_ (ae (σ₁:=⟨mr L (.obj (H.length+3)) (.bool false),lV H D 17 WW (yZ H.length x)⟩) ?_
   (ae (σ₁:=⟨mr L (.obj (H.length+3)) (.bool false),lV H D 18 WW (yZ H.length x)⟩) ?_ (ae (σ₁:=⟨mr L (.obj (H.length+3)) (.str ""),lV H D 18 WW (yZ H.length x)⟩) ?_
   (ae (σ₁:=⟨mr L (.obj (H.length+3)) (.str ""),lV H D 19 WW (yZ H.length x)⟩) ?_ (ae (σ₁:=⟨mr L (.obj (H.length+3)) (.str ""),lV H D 19 WW (yZ H.length x)⟩) ?_ ar)))))))))))))))))))))
  ·have z:=zB (k:=k) (H:=H) (x:=x) G
   rw[Gg]at z
   have e0:lV H D 0 W0 (mV H.length x)=H++mV H.length x:=by
    show H.set D (.dict [])++_=_
    rw[List.append_nil]at H0;rw[←H0]
   rw[e0]
   refine aL (F:=ip) (t:=true) (bQ (λ_ _=>rfl) (dA (λ_=>rfl) (λ_=>rfl) (di G ct rfl (B7 _) yh) (af λ_=>rfl) (am (λ_=>rfl) (aa ct rfl rfl) (am (λ_=>rfl) (di G ct rfl (AM _) uO) au)) uH) bH) (aT ?_)
   exact aw (F:=ip) ct rfl (λ_=>rfl) (fS O (λ_=>rfl) (dB G ct rfl (nA _)) ⟨_,by rw[G.hK];exact Iw _⟩ (gL (af λ_=>rfl) (am (λ_=>rfl) (aa ct rfl rfl) au)) z)
  ·refine aL (F:=ip) (t:=true) (av rfl (aa ct rfl rfl) bv (bU rfl)) (ae (σ₁:=⟨mr L (.obj (H.length+3)) (.bool false),lV H D 1 W0 (mV H.length x)⟩) ?_ (aT ?_))
   ·exact ig G hl hne dl rfl (es0 0 W0) (by decide) (λ_=>rfl) (aa ct rfl rfl)
   ·exact ig G hl hne dl rfl (es0 1 W0) (by decide) (λ_=>rfl) (aa ct rfl rfl)
  ·exact ig G hl hne dl rfl (es0 2 W0) (by decide) (λ_=>rfl) (aa ct rfl rfl)
  ·exact aL (F:=ip) (t:=true) (bQ (λ_ _=>rfl) (aa ct rfl rfl) bH) (aT (ig G hl hne dl rfl (es0 3 W0) (by decide) (λ_=>rfl) bv))
  ·exact ig G hl hne dl rfl (es0 4 W0) (by decide) (λ_=>rfl) bn
  ·exact ig G hl hne dl rfl (es0 5 W0) (by decide) (λ_=>rfl) bn
  ·refine aL (F:=ip) (t:=true) (bQ (λ_ _=>rfl) (Jh G hl hne dl rfl (by decide) rfl rfl) bH) (aT ?_)
   exact eN (F:=ip) (aa ct rfl rfl) (Ja G hl hne dl (by decide) rfl rfl) bn (pY (x:=W0) (y:=W1) Hn Ib HW) (JE G hl hne dl (es0 6 W0) (by decide))
  ·exact ig G hl hne dl rfl (es0 6 WW) (by decide) (λ_=>rfl) bn
  ·exact ig G hl hne dl rfl (es0 7 WW) (by decide) (λ_=>rfl) gU
  ·exact ig G hl hne dl rfl (es0 8 WW) (by decide) (λ_=>rfl) bn
  ·exact ig G hl hne dl rfl (es0 9 WW) (by decide) (λ_=>rfl) bn
  ·exact ig G hl hne dl rfl (es0 10 WW) (by decide) (λ_=>rfl) bn
  ·exact ig G hl hne dl rfl (es0 11 WW) (by decide) (λ_=>rfl) bn
  ·have z:=E1 (c:=c) (F:=ip) (k:=k+3) (σ:=⟨mr L (.obj (H.length+3)) (.bool false),H.set D (AO.dict (lx 12 WW H.length))++mV H.length x⟩)
   dsimp only at z
   rw[ln,List.append_assoc]at z
   exact ig G hl hne dl rfl (es0 12 WW) (by decide) (λ_=>rfl) (cQ (λ_=>rfl) (λ_=>rfl) (dB G ct rfl (vV _)) aU au z)
  ·exact ig G hl hne dl rfl (es0 13 WW) (by decide) (λ_=>rfl) aJ
  ·exact ig G hl hne dl rfl (es0 14 WW) (by decide) (λ_=>rfl) aJ
  ·exact ig G hl hne dl rfl (es0 15 WW) (by decide) (λ_=>rfl) bn
  ·have z:=E1 (c:=c) (F:=ip) (k:=k+3) (σ:=⟨mr L (.obj (H.length+3)) (.bool false),H.set D (AO.dict (lx 16 WW H.length))++Fy H.length x⟩)
   dsimp only at z
   rw[ln2,List.append_assoc]at z
   exact ig G hl hne dl rfl (es0 16 WW) (by decide) (λ_=>rfl) (cQ (λ_=>rfl) (λ_=>rfl) (dB G ct rfl (vV _)) aU au z)
  ·exact ig G hl hne dl rfl (es0 17 WW) (by decide) (λ_=>rfl) bv
  ·exact aL (F:=ip) (t:=true) (tV (bQ (λ_ _=>rfl) (aa ct rfl rfl) bH)) (aT (aw (F:=ip) ct rfl (λ_=>rfl) bn))
  ·exact ig G hl hne dl rfl (es0 18 WW) (by decide) (λ_=>rfl) (aa ct rfl rfl)
  ·exact aL (F:=ip) (t:=false) (bQ (λ_ _=>rfl) (aa ct rfl rfl) (d7 (by decide) (by decide))) ar
inductive Rd(W buf:Str):Int→List Str→Prop where
 |last {p:Int} {cs:List Str} {tok:Str} {q:Bool} (ht:jV W " " "" false cs "a" tok q) (hs:j8 buf p cs) (he:(buf.length:Int)=p+cs.length) (h0:tok.length≠0):Rd W buf p [tok]
 |more {p:Int} {cs:List Str} {tok:Str} {q:Bool} {toks:List Str} (ht:jV W " " "" false cs "a" tok q) (hs:j8 buf p (cs++[(" ":Str)])) (h0:tok.length≠0) (h2:tok.length<2 ^ 20) (r:Rd W buf (p+cs.length+1) toks):Rd W buf p (tok::toks)
section
variable{p:Int}
theorem Lx.other(x:Lx H L D S T W pb fs st tok buf p)(a:AO)(h1:J≠L)(h2:J≠D)(h3:J≠S)(h4:J≠T):Lx (H.set J a) L D S T W pb fs st tok buf p:=
 ⟨ak x.l (Ne.symm h1),ak x.d (Ne.symm h2),ak x.s (Ne.symm h3),ak x.t (Ne.symm h4),x.lt,x.dt,x.st,x.ld,x.sd⟩
theorem mL(h1:i≠D)(h2:i≠T):(nx H D S T W pb fs buf st tok p)[i]?=H[i]?:=by
 unfold nx
 rw[zN (Ne.symm h1),zN (Ne.symm h2)]
theorem Ck:(nx H D S T W pb fs buf st tok p).length=H.length:=by unfold nx;simp
theorem Am(hrz:c.rz=true)(G:c.Go)(hz:buf.length<2 ^ 20){toks:List Str}(h:Rd W buf p toks):∀{H:List AO}{acc:List AV},Lx H L D S T W pb fs (.str " ") "" buf p→H[pb]?=some (.fix kS)→H[fs]?=some (.fix kS)→H[J]?=some (.list acc)→acc.length+toks.length<1000→
  J≠L→J≠D→J≠S→J≠T→pb≠D→pb≠T→fs≠D→fs≠T→J≠pb→J≠fs→
  ∃H',nB c (k+106) 859 856 L J H (toks.map .str) H'∧H'[J]?=some (.list (acc++toks.map .str))∧H'.length=H.length∧∀i,i≠J→i≠D→i≠T→H'[i]?=H[i]?:=by
 induction h with
 | @last p cs tok q ht hs he h0=>
  intro H acc x hpb hfs hj hlen jl jd js jt pd pt fd ft jp jf
  have x1:=x.nx .none "" (p+cs.length)
  have w:=lC (k:=k+100) G x (og (k:=k+100) G x hpb (yP (k:=k+100) G hz x ht hs he h0) x1) x1
  have hj1:(nx H D S T W pb fs buf .none "" (p+cs.length))[J]?=some (.list acc):=by rw[mL jd jt];exact hj
  have jlen:=aq hj1
  have x2:=x1.other (J:=J) (.list (acc++[.str tok])) jl jd js jt
  have p2:((nx H D S T W pb fs buf .none "" (p+cs.length)).set J (.list (acc++[.str tok])))[pb]?=some (.fix kS):=by rw[zN jp,mL pd pt];exact hpb
  have f2:((nx H D S T W pb fs buf .none "" (p+cs.length)).set J (.list (acc++[.str tok])))[fs]?=some (.fix kS):=by rw[zN jf,mL fd ft];exact hfs
  have s2:=qB (k:=k) hrz G x2 (vv (k:=k+100) G x2 p2 f2 (uD (k:=k+100) G hz x2 (by lia)))
  refine gA _ (.more x.l x.d w hj1 (by simp at hlen;lia) (.stop x2.l x2.d s2)) (zT jlen) (by rw[Z4,Ck]) λi h1 h2 h3=>?_
  rw[zN (Ne.symm h1),mL h2 h3]
 | @more p cs tok q toks ht hs h0 h2 r ih=>
  intro H acc x hpb hfs hj hlen jl jd js jt pd pt fd ft jp jf
  have x1:=x.nx (.str " ") "" (p+cs.length+1)
  have w:=lC (k:=k+100) G x (og (k:=k+100) G x hpb (sR (k:=k+100) G hz x ht hs h0 h2) x1) x1
  have hj1:(nx H D S T W pb fs buf (.str " ") "" (p+cs.length+1))[J]?=some (.list acc):=by rw[mL jd jt];exact hj
  have jlen:=aq hj1
  have x2:=x1.other (J:=J) (.list (acc++[.str tok])) jl jd js jt
  have p2:((nx H D S T W pb fs buf (.str " ") "" (p+cs.length+1)).set J (.list (acc++[.str tok])))[pb]?=some (.fix kS):=by rw[zN jp,mL pd pt];exact hpb
  have f2:((nx H D S T W pb fs buf (.str " ") "" (p+cs.length+1)).set J (.list (acc++[.str tok])))[fs]?=some (.fix kS):=by rw[zN jf,mL fd ft];exact hfs
  refine cv (ih (acc:=acc++[.str tok]) x2 p2 f2 (zT jlen) (by simp at hlen ⊢;lia) jl jd js jt pd pt fd ft jp jf) λH' d1 d2 d3 d4=>?_
  refine gA H' (.more x.l x.d w hj1 (by simp at hlen;lia) d1) (by rw[d2];simp) (by rw[d3,Z4,Ck]) λi h1 h2 h3=>?_
  rw[d4 i h1 h2 h3,zN (Ne.symm h1),mL h2 h3]
noncomputable def II:Fs:=⟨BA,[]⟩
theorem Eg:II.scope.kind=.function:=by w_on
theorem DK(x:Value)(S:Setting):peek (Kx P) S (bindArgs (dw P 849) ⟨[x],[]⟩)=some [(("self":Str),x)]:=by w_on
theorem D4(G:c.Go):Fn c (k+1) (.ref 849) [.obj L] [] H (.obj L) H:=by
 refine dh (fl:=.ret (.obj L)) (loc:=[("self",.obj L)]) G (CI _) (by w_on) (by w_on) (λρ m s xs ks X hx hk=>?_) ?_
 ·refine mC hx hk λ_ hx=>?_
  refine al [("self",_)] (@bB _ _ _ _ _ X ?_) (.cons hx .nil)
  exact DK _ _
 ·apply aK (loc:=[("self",.obj L)])
  k_dflt refine' bx (aX (F:=II) (aa Eg rfl rfl))
def bW(H H':List AO):Prop:=∀(i:Nat)(o:AO),H[i]?=some o→H'[i]?=some o
theorem bW.refl:bW H H:= λ_ _ h=>h
theorem bW.trans{H'':List AO}(a:bW H H')(b:bW H' H''):bW H H'':= λi o h=>b i o (a i o h)
theorem bW.app{X:List AO}:bW H (H++X):= λi o h=>aB h
theorem bW.len(e:bW H H'):H.length≤H'.length:=by
 cases q:H.length with
 |zero=>exact Zl _
 |succ n=>
  have:=e n H[n] (zG (by lia))
  have:=aq this
  lia
noncomputable def Dc:=cV bJ 31
noncomputable def wa:=kr bJ 31
theorem AS:dG P 871 Dc wa:=by constructor<;>w_on
theorem At(x:Value)(S:Setting):peek (Kx P) S (bindArgs (dw P 871) ⟨[x],[]⟩)=some [(("s":Str),x),(("comments":Str),.bool false),(("posix":Str),.bool true)]:=by w_on
noncomputable def oU:Fs:=⟨wa,[]⟩
theorem fO:oU.scope.kind=.function:=by w_on
theorem DL:nsIn (Kx P) mainGlobals ("shlex":Str)=some (some (.ref 859)):=by w_on
theorem FM:nsIn (Kx P) mainGlobals ("list":Str)=some none:=by w_on
theorem EO:bootBuiltins ("list":Str)=some (.type "list"):=PyProof.Rows.Boot.list
theorem Bo:makesIn (Kx P) 859=true:=by w_on
theorem DZ:findIn (Kx P) (.ref 859) "__init__"=some (some (.ref 783)):=by w_on
theorem ID:typeIn (Kx P) (.ref 783)=some (.type "function"):=by w_on
theorem EA:findIn (Kx P) (.ref 859) "__iter__"=some (some (.ref 849)):=by w_on
theorem CO:findIn (Kx P) (.ref 859) "__next__"=some (some (.ref 856)):=by w_on
theorem Gb:findIn (Kx P) (.ref 859) "__len__"=some none:=by w_on
theorem Es:findIn (Kx P) (.ref 859) "__length_hint__"=some none:=by w_on
theorem Ed:isFn (Kx P) (.ref 849)=true:=by w_on
theorem Eh:isFn (Kx P) (.ref 856)=true:=by w_on
end
noncomputable def ve(H:List AO):List AO:=H++[.dict [],.inst 859 H.length]
theorem et:(ve H).length=H.length+2:=by simp[ve]
theorem zk:(ve H)[H.length+1]?=some (.inst 859 H.length):=by unfold ve;rw[zR (by simp)];simp
theorem Hi:(ve H)[H.length]?=some (.dict []):=by unfold ve;rw[zR (by simp)];simp
theorem Bp(G:c.Go):Fn c (k+5) (.ref 859) [.str x] [("posix",.bool true)] H (.obj (H.length+1)) (lV (ve H) H.length 19 WW (yZ (H.length+2) x)):=by
 have z:=yr (k:=k) (H:=ve H) (x:=x) G zk (by lia) Hi
 rw[et]at z
 exact rL G.ok (by rw[G.hK];exact Bo _) (by rw[G.hK];exact DZ _) (by rw[G.hK];exact ID _) z
noncomputable def lX(H:List AO)(x:Str)(ws:Bool)(cm:Str):List AO:=(ve H).set H.length (.dict (aR ("commenters":Str) (.str cm) (aR ("whitespace_split":Str) (.bool ws) (CR WW (H.length+5) (H.length+6) (H.length+7)))))++yZ (H.length+2) x
theorem DV:(lX H x ws cm).length=H.length+8:=by simp[lX,ve,yZ,mV]
theorem HX:lV (ve H) H.length 19 WW (yZ (H.length+2) x)=lX H x false "#":=by
 unfold lV lX
 rw[et]
 rfl
theorem FH{o:AO}(h:H[i]?=some o):(lX H x ws cm)[i]?=some o:=by
 have il:=aq h
 unfold lX ve
 rw[zL (by simp;lia),zN (by lia),zL il]
 exact h
theorem GY:Lx (lX H x true "") (H.length+1) H.length (H.length+5) (H.length+4) WW (H.length+6) (H.length+7) (.str " ") "" x 0:=by
 have e:lX H x true ""=(ve H).set H.length (.dict (dQ WW (H.length+5) (H.length+6) (H.length+7) (.str " ") ""))++yZ (H.length+2) x:=rfl
 have l1:((ve H).set H.length (AO.dict (dQ WW (H.length+5) (H.length+6) (H.length+7) (.str " ") ""))).length=H.length+2:=by rw[Z4,et]
 refine⟨?_,?_,?_,?_,by lia,by lia,by lia,by lia,by lia⟩
 ·rw[e,zL (by rw[l1];lia),zN (by lia)];exact zk
 ·rw[e,zL (by rw[l1];lia)];exact zT (by rw[et];lia)
 ·rw[e,zR (by rw[l1];lia),l1,show H.length+5 - (H.length+2)=3 by lia];rfl
 ·rw[e,zR (by rw[l1];lia),l1,show H.length+4 - (H.length+2)=2 by lia];rfl
theorem Gd:(lX H x ws cm)[H.length+6]?=some (.fix kS):=by
 unfold lX
 rw[zR (by rw[Z4,et];lia),Z4,et,show H.length+6 - (H.length+2)=4 by lia];rfl
theorem Gp:(lX H x ws cm)[H.length+7]?=some (.fix kS):=by
 unfold lX
 rw[zR (by rw[Z4,et];lia),Z4,et,show H.length+7 - (H.length+2)=5 by lia];rfl
noncomputable def Jw(x:Str):List (Str×AV):=[("s",.str x),("comments",.bool false),("posix",.bool true)]
noncomputable def Gx(x:Str)(L:Nat):List (Str×AV):=[("s",.str x),("comments",.bool false),("posix",.bool true),("lex",.obj L)]
theorem Hk:(lX H x ws cm)[H.length+1]?=some (.inst 859 H.length):=by
 unfold lX
 rw[zL (by rw[Z4,et];lia),zN (by lia)];exact zk
theorem Hu:(lX H x ws cm)[H.length]?=some (.dict (aR ("commenters":Str) (.str cm) (aR ("whitespace_split":Str) (.bool ws) (CR WW (H.length+5) (H.length+6) (H.length+7))))):=by
 unfold lX
 rw[zL (by rw[Z4,et];lia)];exact zT (by rw[et];lia)
theorem AD{a:AO}:(lX H x ws cm).set H.length a=(ve H).set H.length a++yZ (H.length+2) x:=by
 unfold lX
 rw[Z9 _ _ (by rw[Z4,et];lia),Zj]
theorem Aj(hrz:c.rz=true)(G:c.Go){toks:List Str}(hz:x.length<2 ^ 20)(hn:toks.length<900)(hr:Rd WW x 0 toks):
  ∃j H',Fn c (k+110) (.ref 871) [.str x] [] H (.obj j) H'∧H'[j]?=some (.list (toks.map .str))∧bW H H'∧H.length≤j:=by
 have O:=G.ok
 have e8:(lX H x true "").length=H.length+8:=DV
 have at0:∀{i:Nat}{o:AO},(lX H x true "")[i]?=some o→(lX H x true ""++[AO.list []])[i]?=some o:= λ{i o} h=>aB h
 have lx0:=GY (H:=H) (x:=x)
 have lx1:Lx (lX H x true ""++[AO.list []]) (H.length+1) H.length (H.length+5) (H.length+4) WW (H.length+6) (H.length+7) (.str " ") "" x 0:=⟨at0 lx0.l,at0 lx0.d,at0 lx0.s,at0 lx0.t,lx0.lt,lx0.dt,lx0.st,lx0.ld,lx0.sd⟩
 refine cv (Am (c:=c) (k:=k) (J:=H.length+8) (acc:=[]) hrz G hz hr lx1 (at0 Gd) (at0 Gp) (by rw[←e8,zR (ZA _),ZY];rfl) (by simpa using ZD hn (by lia)) (by lia) (by lia) (by lia) (by lia) (by lia) (by lia) (by lia) (by lia) (by lia) (by lia)) λH' d1 d2 d3 d4=>?_
 have hlen:H'.length=H.length+9:=by rw[d3];simp[e8]
 refine dP (H.length+8) H' ?_ (by simpa using d2) (λi o h=>?_) (by lia)
 ·refine dh (fl:=.ret (.obj (H.length+8))) (loc:=Jw x) G (AS _) (by w_on) (by w_on) (λρ m s xs ks X hx hk=>?_) ?_
  ·refine mC hx hk λ_ hx=>?_
   refine al [("s",_),("comments",_),("posix",_)] (@bB _ _ _ _ _ X ?_) (.cons hx (.cons rfl (.cons rfl .nil)))
   exact At _ _
  ·have zz:=Bx (c:=c) (F:=oU) (k:=k+106) (l:=Gx x (H.length+1)) O lx0.l lx0.d (by rw[G.hK];exact EA _) (by rw[G.hK];exact Ed _) (by rw[G.hK];exact CO _) (by rw[G.hK];exact Eh _) (by rw[G.hK];exact Gb _) (by rw[G.hK];exact Es _) (D4 (k:=k+105) G) (by rw[e8];exact d1) (by rw[e8,hlen];lia)
   rw[e8]at zz
   apply aK (loc:=Gx x (H.length+1))
   k_dflt refine' ae (σ₁:=⟨Jw x,H⟩) ?_ (ae (σ₁:=⟨Gx x (H.length+1),lX H x false "#"⟩) ?_ (ae (σ₁:=⟨Gx x (H.length+1),lX H x true "#"⟩) ?_ (ae (σ₁:=⟨Gx x (H.length+1),lX H x true ""⟩) ?_ (bx ?_))))
   ·exact aL (F:=oU) (t:=false) (av rfl (aa fO rfl rfl) bv (bP rfl)) ar
   ·have z:=Bp (c:=c) (k:=k+104) (H:=H) (x:=x) G
    rw[HX]at z
    exact aw (F:=oU) fO rfl (λ_=>rfl) (fS O (λ_=>rfl) (dB G fO rfl (DL _)) ⟨_,by rw[G.hK];exact HV _⟩ (Ez (λ_=>rfl) (λ_=>rfl) (am (λ_=>rfl) (aa fO rfl rfl) au) (aa fO rfl rfl)) z)
   ·refine aP (F:=oU) (λ_=>rfl) gU (aa fO rfl rfl) ?_
    have z:=cJ (k:=k+109) (F:=oU) (σ:=⟨Gx x (H.length+1),lX H x false "#"⟩) (v:=.bool true) (name:="whitespace_split") G (bZ _) Hk Hu (by show 19<1000;decide) (df _ (by decide))
    dsimp only at z
    rw[AD]at z
    exact z
   ·refine aL (F:=oU) (t:=true) (tV (bQ (λ_ _=>rfl) (aa fO rfl rfl) bH)) (aT ?_)
    refine aP (F:=oU) (λ_=>rfl) bn (aa fO rfl rfl) ?_
    have z:=cJ (k:=k+109) (F:=oU) (σ:=⟨Gx x (H.length+1),lX H x true "#"⟩) (v:=.str "") (name:="commenters") G (bZ _) Hk Hu (by show 19<1000;decide) (df _ (by decide))
    dsimp only at z
    rw[AD]at z
    exact z
   ·exact aX (F:=oU) (cQ (λ_=>rfl) (λ_=>rfl) (di G fO rfl (FM _) EO) (af λ_=>rfl) (am (λ_=>rfl) (aa fO rfl rfl) au) (λA ρ s env Q E xs K=>zz A ρ s env Q E xs (K.mono (by lia))))
 ·have il:=aq h
  rw[d4 i (by lia) (by lia) (by lia)]
  exact at0 (FH h)
section
variable{L:Addr→Prop}
structure fx(c:Cx)(ρ:Nat→Addr)(n:Nat)(env:Env)(it:Addr)(o:Obj):Prop where
 ap:∀i,i<n→ρ i≠it
 up:c.h₁.get? it=none
 ne:it≠env.locals
 nd:∀es ep,o.data≠.dict es ep
theorem aW.other(r:aW c A F ρ σ s env)(hit:s.heap.get? it=some o)(f:fx c ρ σ.H.length env it o)(hk:∀b ob,s.heap.get? b=some ob→b≠it→h'.get? b=some ob):aW c A F ρ σ {s with heap:=h',toks:=tk} env:=by
 have nb:∀b ob,c.h₁.get? b=some ob→b≠it:= λb ob e=>by rintro rfl;rw[f.up]at e;cases e
 refine⟨⟨λi ao e=>?_,r.hr.inj,r.hr.up,λb ob e t=>hk b ob (r.hr.base b ob e t) (nb b ob e),λob e=>?_⟩,r.sc,r.gl,r.bl,r.ce,r.ci,?_,r.ap,r.lf,r.ge,r.sk.same rfl λb ob es ep g1 g2 _ _=>?_,r.tp,r.fl⟩
 ·refine ah (r.hr.at_ i ao e) λob h1 h2=>?_
  exact al ob (hk _ _ h1 (f.ap i (aq e))) h2
 ·exact(r.hr.tj ob e).imp (λz=>hk _ _ z (nb _ _ e)) λ⟨z1,z2,vs,more,z3,z4⟩=>bS z1 z2 vs more z3 (hk _ _ z4 (nb _ _ e))
 ·refine bp λGz kz=>?_
  refine ah (r.lo) λm hm hl=>?_
  refine dg hm λob es ep g1 g2=>?_
  refine kz ?_
  exact al m (bh ob es ep (hk _ _ g1 (Ne.symm f.ne)) g2) hl
 ·refine bh ob es ep (hk b ob g1 ?_) g2
  rintro rfl
  rw[hit]at g1;cases g1
  exact f.nd es ep g2
theorem aM.other(st:aM c ρ₀ n₀ L s₀ ρ n s)(h0:s₀.heap.get? it=none)(hk:∀b ob,s.heap.get? b=some ob→b≠it→h'.get? b=some ob):aM c ρ₀ n₀ L s₀ ρ n {s with heap:=h',toks:=tk}:=by
 refine⟨st.ag,st.le,st.nw,⟨λb o e=>?_,λb o e t hL hr=>?_⟩,st.os⟩
 ·refine cc (st.kp.1 b o e) λo' e'=>?_
  have hb:b≠it:=by rintro rfl;rw[h0]at e;cases e
  exact⟨o',hk _ _ e' hb⟩
 ·refine ah (st.kp.2 b o e t hL hr) λo' e' l'=>?_
  have hb:b≠it:=by rintro rfl;rw[h0]at e;cases e
  exact al o' (hk _ _ e' hb) l'
theorem fx.step(O:c.Ok)(f:fx c ρ n env it o)(hit:s.heap.get? it=some o)(st:aM c ρ n (· =env.locals) s ρ' n' s'):fx c ρ' n' env it o∧s'.heap.get? it=some o:=by
 have ht:it≠c.tj:=by rintro rfl;refine cc (O.tjx) λo3 e3=>?_;rw[f.up]at e3;cases e3
 refine ah (st.kp.2 it o hit ht f.ne f.ap) λo' e' l'=>?_
 rw[l'.eq f.nd]at e'
 refine⟨⟨λi hi q=>?_,f.up,f.ne,f.nd⟩,e'⟩
 by_cases h:i<n
 ·rw[st.ag i h]at q;exact f.ap i h q
 ·have:=st.nw i (ZW h) hi
  rw[q,hit]at this;cases this
end
structure qm where
 ok:List AO→Prop
 obj:(Nat→Addr)→Nat→Obj→Prop
 items:List AV
structure qm.Good(I:qm)(c:Cx):Prop where
 nd:∀ρ i o,I.obj ρ i o→∀es ep,o.data≠.dict es ep
 ag:∀ρ ρ' H i o,I.ok H→I.obj ρ i o→(∀j,j<H.length→ρ' j=ρ j)→I.obj ρ' i o
 next:∀{A:Around}{F:Fs}{ρ:Nat→Addr}{σ:St}{s:Shared}{env:Env}{it:Addr}{i:Nat}{o:Obj}{a:AV}{Q:Option Value→Shared→Prop}{E:Value→Shared→Prop},aW c A F ρ σ s env→I.ok σ.H→s.heap.get? it=some o→I.obj ρ i o→I.items[i]?=some a→(∀j,j<σ.H.length→ρ j≠it)→
  (∀h' tk x o',VR ρ σ.H.length a x→h'.get? it=some o'→I.obj ρ (i+1) o'→(∀b ob,s.heap.get? b=some ob→b≠it→h'.get? b=some ob)→Q (some x) {s with heap:=h',toks:=tk})→wpAny c.M A (pyNext (.ref it)) Q E s
 stop:∀{A:Around}{F:Fs}{ρ:Nat→Addr}{σ:St}{s:Shared}{env:Env}{it:Addr}{i:Nat}{o:Obj}{Q:Option Value→Shared→Prop}{E:Value→Shared→Prop},A.handled=none→aW c A F ρ σ s env→I.ok σ.H→s.heap.get? it=some o→I.obj ρ i o→I.items[i]?=none→(∀j,j<σ.H.length→ρ j≠it)→
  (∀h' tk,(∀b ob,s.heap.get? b=some ob→b≠it→h'.get? b=some ob)→Q none {s with heap:=h',toks:=tk})→wpAny c.M A (pyNext (.ref it)) Q E s
 self:∀{A:Around}{s:Shared}{it:Addr}{ρ:Nat→Addr}{o:Obj}{i:Nat}{Q:Value→Shared→Prop}{E:Value→Shared→Prop},s.heap.get? it=some o→I.obj ρ i o→Q (.ref it) s→wpAny c.M A (pyIter (.ref it)) Q E s
noncomputable def aQ(j:Nat)(vs:List AV):qm:=⟨λH=>H[j]?=some (.list vs),λρ i o=>o.cls=.type "list_iterator"∧o.data=.fields #[.ref (ρ j),.int i 0],vs⟩
theorem fp{xs:List Value}(h:cG ρ n as xs):∀{i:Nat}{a:AV},as[i]?=some a→∃x,xs[i]?=some x∧VR ρ n a x:=by
 induction h with
 |nil=>intro i a h;cases h
 |cons hv t ih=>
  intro i a h
  cases i with
  |zero=>cases h;exact al _ rfl hv
  |succ i=>exact ih h
theorem oh{xs:List Value}(h:cG ρ n as xs)(e:as[i]?=none):xs[i]?=none:=by
 rw[ZC]at e ⊢
 rw[aH h];exact e
theorem az:(aQ j vs).Good c where
 nd:= λρ i o h es ep q=>by rw[h.2]at q;cases q
 ag:= λρ ρ' H i o hk h e=>⟨h.1,by rw[e j (aq hk)];exact h.2⟩
 next:= λ{A F ρ σ s env it i o a Q E} r hk hit ho ha hap q=>by
  refine bp λGz kz=>?_
  refine ah (r.hr.at_ j _ hk) λob h1 h2=>?_
  refine dk h2 ?_;clear h2;intro its e z0 h3;subst z0
  refine ah (fp h3 ha) λx hx vx=>?_
  refine kz ?_
  refine wpAny_pyNext_list_item (items:=⟨its⟩) (bO o hit ho.1 ho.2) (iG _ h1 rfl e rfl) (by simpa using hx) λh' hi hs=>?_
  refine br hi λo' g1 g2 g3=>?_
  exact q h' s.toks x o' vx g1 ⟨g2,g3⟩ λb ob hb hne=>(hs.2 b hne).trans hb
 stop:= λ{A F ρ σ s env it i o Q E} hh r hk hit ho ha hap q=>by
  refine ah (r.hr.at_ j _ hk) λob h1 h2=>?_
  refine dk h2 ?_;clear h2;intro its e z0 h3;subst z0
  refine wpAny_pyNext_list_end (items:=⟨its⟩) hh (bO o hit ho.1 ho.2) (iG _ h1 rfl e rfl) (by simpa using oh h3 ha) λh' hx=>?_
  exact q h' s.toks λb ob hb hne=>hx b ob hne hb
 self:= λ{A s it ρ o i Q E} hit ho q=>wpAny_pyIter_listiter (bO o hit ho.1 ho.2) q
theorem lq{it:Value}(ht:∀v,letOwnedTupleGo target it v=pure ())
  (h:∀E,wpAny c.M A (pyNext it) (λr s₁=>match r with
   |none=>wpAny c.M A (execs orelse env) (λf s₃=>R (.ok f) s₃) E s₁
   |some v=>wpAny c.M A (assign target env v) (λ_ s₂=>wpAny c.M A (execs body env) (λf s₃=>match f with
     | .next| .cont=>codeAny c.M A (.forLoop target it body orelse env) R s₃
     | .brk=>R (.ok .next) s₃
     | .ret v=>R (.ok (.ret v)) s₃) E s₂) E s₁) E s):codeAny c.M A (.forLoop target it body orelse env) R s:=by
 refine codeAny_of_tree ?_
 rw[Around.under_of_weight (c:=.forLoop target it body orelse env) rfl rfl]
 show wpAny _ _ ((forTurn target it body orelse env).onRaise (λx=>do noteFrame x env;theTreesLotGoes x)) _ _ s
 refine wpAny_noted ?_
 simp only[forTurn]
 refine YC (YG (YC (wpAny_onRaise (YE (h _) (λr s₁ h₁=>?_) λ_ _ h'=>YG h'))))
 cases r with
 |none=>exact YD (And.intro rfl (codeAny_block h₁))
 |some v=>
  refine YC (wpAny_of_eq (ht v) ?_)
  refine YC (YE h₁ (λ_ s₂ h₂=>YC (YE h₂ (λf s₃ h₃=>?_) λ_ _ h'=>h')) λ_ _ h'=>h')
  cases f with
  |next=>exact YD (And.intro rfl h₃)
  |cont=>exact YD (And.intro rfl h₃)
  |brk=>exact YD h₃
  |ret v=>exact YD h₃
def As(c:Cx)(F:Fs)(k:Nat)(target:Expr)(a:AV)(σ σ':St):Prop:=
 ∀(A:Around)(ρ:Nat→Addr)(s:Shared)(env:Env)(Q:Unit→Shared→Prop)(E:Value→Shared→Prop)(x:Value),cN k A→aW c A F ρ σ s env→VR ρ σ.H.length a x→
  (∀ρ' s',aW c A F ρ' σ' s' env→aM c ρ σ.H.length (· =env.locals) s ρ' σ'.H.length s'→Q () s')→wpAny c.M A (assign target env x) Q E s
theorem bg(hk:F.scope.kind=.function)(hx:F.scope.names.lookup x=some .local):As c F k (.Name x pos) a σ ⟨aR x a σ.loc,σ.H⟩:= λA ρ s env Q E v K r hv q=>
 wpAny_assign_Name (jb hk hx r hv λs' r' st'=>q ρ s' r' st')
inductive fg(c:Cx)(F:Fs)(k:Nat)(I:qm)(target:Expr)(body:List Stmt):List AV→St→AF→St→Prop where
 |nil {σ:St} (ok:I.ok σ.H):fg c F k I target body [] σ .next σ
 |next {a:AV} {rest:List AV} {σ σ₁ σ₂ σ₃:St} {g f:AF} (ok:I.ok σ.H) (hg:g=.next∨g=.cont) (h1:As c F k target a σ σ₁) (h2:dI c F k body σ₁ g σ₂) (h3:fg c F k I target body rest σ₂ f σ₃):fg c F k I target body (a::rest) σ f σ₃
 |brk {a:AV} {rest:List AV} {σ σ₁ σ₂:St} (ok:I.ok σ.H) (h1:As c F k target a σ σ₁) (h2:dI c F k body σ₁ .brk σ₂):fg c F k I target body (a::rest) σ .next σ₂
 |ret {a:AV} {rest:List AV} {σ σ₁ σ₂:St} {v:AV} (ok:I.ok σ.H) (h1:As c F k target a σ σ₁) (h2:dI c F k body σ₁ (.ret v) σ₂):fg c F k I target body (a::rest) σ (.ret v) σ₂
theorem xZ{I:qm}(O:c.Ok)(G:I.Good c)(ht:∀v,letOwnedTupleGo target (.ref it) v=pure ())(hk100:100≤k)(h0:s₀.heap.get? it=none){f:AF}{rest:List AV}(lp:fg c F k I target body rest σ f σ'):
  ∀{A:Around}{ρ:Nat→Addr}{s:Shared}{env:Env}{R:Result→Shared→Prop}{i:Nat}{o:Obj},I.items.drop i=rest→cN k A→aW c A F ρ σ s env→s.heap.get? it=some o→I.obj ρ i o→fx c ρ σ.H.length env it o→aM c ρ₀ n₀ (· =env.locals) s₀ ρ σ.H.length s→
   (∀ρ' s' g,aW c A F ρ' σ' s' env→aM c ρ₀ n₀ (· =env.locals) s₀ ρ' σ'.H.length s'→FR ρ' σ'.H.length f g→R (.ok g) s')→codeAny c.M A (.forLoop target (.ref it) body [] env) R s:=by
 have dropc:∀{i:Nat}{a:AV}{rest:List AV},I.items.drop i=a::rest→I.items[i]?=some a∧I.items.drop (i+1)=rest:= λ{i a rest} e=>by
  have h1:(I.items.drop i)[0]?=some a:=by rw[e];rfl
  rw[Z1,Zq]at h1
  refine⟨h1,?_⟩
  have:(I.items.drop i).drop 1=rest:=by rw[e];rfl
  rw[Zp]at this
  exact this
 induction lp with
 |nil ok=>
  intro A ρ s env R i o e K r hit ho fr st q
  have hn:I.items[i]?=none:=by rw[ZC];exact ZL.mp e
  refine lq ht λE=>G.stop (K.2.2 hk100) r ok hit ho hn fr.ap λh' tk hk=>?_
  exact wpAny_execs_nil (q ρ _ .next (r.other hit fr hk) (st.other h0 hk) rfl)
 | @next a rest σ σ₁ σ₂ σ₃ g f ok hg h1 h2 h3 ih=>
  intro A ρ s env R i o e K r hit ho fr st q
  refine aV (dropc e) λe1 e2=>?_
  refine lq ht λE=>G.next r ok hit ho e1 fr.ap λh' tk x o' vx hit' ho' hk=>?_
  have r':=r.other (tk:=tk) hit fr hk
  have st':=st.other (tk:=tk) h0 hk
  have fr':fx c ρ σ.H.length env it o':=⟨fr.ap,fr.up,fr.ne,G.nd _ _ _ ho'⟩
  refine h1 A ρ _ env _ E x K r' vx λρ1 s1 r1 st1=>h2 A ρ1 s1 env _ E K r1 λρ2 s2 fl r2 st2 vf=>?_
  have st12:=st1.trans st2
  refine aV (fr'.step O (s:={s with heap:=h',toks:=tk}) hit' st12) λfr2 mT=>?_
  have ho2:I.obj ρ2 (i+1) o':=G.ag ρ ρ2 σ.H (i+1) o' ok ho' λj hj=>st12.ag j hj
  have z:=ih e2 K r2 mT ho2 fr2 (st'.trans st12) q
  rcases hg with rfl|rfl
  ·rw[show fl=.next from vf];exact z
  ·rw[show fl=.cont from vf];exact z
 | @brk a rest σ σ₁ σ₂ ok h1 h2=>
  intro A ρ s env R i o e K r hit ho fr st q
  refine aV (dropc e) λe1 e2=>?_
  refine lq ht λE=>G.next r ok hit ho e1 fr.ap λh' tk x o' vx hit' ho' hk=>?_
  have r':=r.other (tk:=tk) hit fr hk
  have st':=st.other (tk:=tk) h0 hk
  refine h1 A ρ _ env _ E x K r' vx λρ1 s1 r1 st1=>h2 A ρ1 s1 env _ E K r1 λρ2 s2 fl r2 st2 vf=>?_
  rw[show fl=.brk from vf]
  exact q ρ2 s2 _ r2 (st'.trans (st1.trans st2)) rfl
 | @ret a rest σ σ₁ σ₂ v ok h1 h2=>
  intro A ρ s env R i o e K r hit ho fr st q
  refine aV (dropc e) λe1 e2=>?_
  refine lq ht λE=>G.next r ok hit ho e1 fr.ap λh' tk x o' vx hit' ho' hk=>?_
  have r':=r.other (tk:=tk) hit fr hk
  have st':=st.other (tk:=tk) h0 hk
  refine h1 A ρ _ env _ E x K r' vx λρ1 s1 r1 st1=>h2 A ρ1 s1 env _ E K r1 λρ2 s2 fl r2 st2 vf=>?_
  refine ah vf ?_;clear vf;intro u z0 hu;subst z0
  exact q ρ2 s2 _ r2 (st'.trans (st1.trans st2)) (al u rfl hu)
def Mk(c:Cx)(I:qm)(a:AV)(σ:St):Prop:=
 ∀{A:Around}{F:Fs}{ρ:Nat→Addr}{s:Shared}{env:Env}{x:Value}{Q:Value→Shared→Prop}{E:Value→Shared→Prop},aW c A F ρ σ s env→VR ρ σ.H.length a x→
  (∀o t,I.obj ρ 0 o→o.isFreed=false→Q (.ref s.heap.objs.size) {s with heap:=s.heap.push o,toks:=t})→wpAny c.M A (pyIter x) Q E s
theorem d6(hj:σ.H[j]?=some (.list vs)):Mk c (aQ j vs) (.obj j) σ:= λ{A F ρ s env x Q E} r hx q=>by
 refine iR hx λ_=>?_
 refine ah (r.hr.at_ j _ hj) λob h1 h2=>?_
 refine dk h2 ?_;clear h2;intro its e z0 h3;subst z0
 exact wpAny_pyIter_list (items:=⟨its⟩) (iG _ h1 rfl e rfl) (q _ s.toks ⟨rfl,rfl⟩ rfl)
theorem gu{I:qm}(O:c.Ok)(G:I.Good c){f:AF}(ht:∀it v,letOwnedTupleGo target (.ref it) v=pure ())(hs:∀env x,foldedSetIterable iter env x=pure x)(hk:100≤k)(h1:Ev c F k iter σ a σ₁)(h2:Mk c I a σ₁)(h3:fg c F k I target body I.items σ₁ f σ₂):
  Ex c F k (.For target iter body [] pos) σ f σ₂:= λA ρ s env Q E K r q=>
 wpAny_For (h1 A ρ s env _ E K r λρ1 s1 x r1 st1 vx=>h2 r1 vx λo t ho hf=>by
  have r2:=r1.push o t
  have hp:=HP.of_push (o:=o) r1
  refine xZ O G (ht _) hk (fm s1.heap) h3 (i:=0) rfl K r2 (ZN _ hf) ho ⟨λi hi q=>?_,?_,?_,G.nd _ _ _ ho⟩ (hp.step t) λρ' s' g r' st' vg=>q ρ' s' g r' (st1.trans st') vg
  ·refine ah (r1.hr.at_ i (σ₁.H[i]) (zG hi)) λob h1 _=>?_
   have:=ZB h1
   rw[q]at this;exact ZJ _ this
  ·cases q:c.h₁.get? s1.heap.objs.size with
   |none=>rfl
   |some o=>exact(r1.hr.nosz o q).elim
  ·intro q
   refine ah (r1.lo) λm hm _=>?_
   have:=hm.lt
   rw[←q]at this;exact ZJ _ this) (hs env)
theorem aW.list(r:aW c A F ρ σ s env)(hj:σ.H[j]?=some (.list vs)):∃its,s.heap.IsList (ρ j) ⟨its⟩∧cG ρ σ.H.length vs its∧s.heap.NoDictAt (.ref (ρ j)):=by
 refine ah (r.hr.at_ j _ hj) λob h1 h2=>?_
 refine dk h2 ?_;clear h2;intro its e z0 h3;subst z0
 exact⟨its,iG _ h1 rfl e rfl,h3,_,h1,rfl⟩
theorem aW.tuple(r:aW c A F ρ σ s env)(hj:σ.H[j]?=some (.tuple vs)):∃its,IsTup s.heap (ρ j) ⟨its⟩∧cG ρ σ.H.length vs its:=by
 refine ah (r.hr.at_ j _ hj) λob h1 h2=>?_
 refine dk h2 ?_;clear h2;intro its e z0 h3;subst z0
 exact al its (iG _ h1 rfl e rfl) h3
theorem dL{elts:List Expr}(hz:vs.length<1000)(h:Ag c F k pos elts σ vs σ₁):Ev c F k (.List elts pos) σ (.obj σ₁.H.length) ⟨σ₁.loc,σ₁.H++[.list vs]⟩:= λA ρ s env Q E K r q=>
 List_ (h A ρ s env _ E K r λρ1 s1 xs r1 st1 vx=>wpAny_newList (by
  have st:aM c ρ1 σ₁.H.length (· =env.locals) s1 _ _ _:=dc ({cls:=.type "list",data:=.seq xs.toArray}:Obj) s1.toks
  refine aV (r1.alloc (ao:=.list vs) (ob:={cls:=.type "list",data:=.seq xs.toArray}) s1.toks rfl (cI xs _ rfl (vx.step st))) λr2 st2=>?_
  exact q _ _ _ r2 (st1.trans st2) ⟨by simp,by rw[aF]⟩) (by rw[aH vx];unfold sizeLine;lia))
theorem tH{elts:List Expr}(hz:vs.length<1000)(h:Ag c F k pos elts σ vs σ₁):Ev c F k (.Tuple elts kd pos) σ (.obj σ₁.H.length) ⟨σ₁.loc,σ₁.H++[.tuple vs]⟩:= λA ρ s env Q E K r q=>
 Tuple_ (h A ρ s env _ E K r λρ1 s1 xs r1 st1 vx=>wpAny_newTuple (by
  have st:aM c ρ1 σ₁.H.length (· =env.locals) s1 _ _ _:=dc ({cls:=.type "tuple",data:=.seq xs.toArray}:Obj) s1.toks
  refine aV (r1.alloc (ao:=.tuple vs) (ob:={cls:=.type "tuple",data:=.seq xs.toArray}) s1.toks rfl (cI xs _ rfl (vx.step st))) λr2 st2=>?_
  exact q _ _ _ r2 (st1.trans st2) ⟨by simp,by rw[aF]⟩) (by rw[aH vx];unfold sizeLine;lia))
theorem cW{i:Int}(h0:0≤i)(h1:i<2 ^ 62)(hs:∀o x,subscripted slice false o x=operate [o,x] (getItem o x))(ht:∀o r,letTemporaryGo value o r=pure ())
  (e0:Ev c F k value σ (.obj j) σ₁)(e1:Ev c F k slice σ₁ (.int i) σ₂)(hj:σ₂.H[j]?=some (.list vs))(hv:vs[i.toNat]?=some v):Ev c F k (.Subscript value slice pos) σ v σ₂:= λA ρ s env Q E K r q=>
 Subscript_ (e0 A ρ s env _ E K r λρ1 s1 x r1 st1 vx=>e1 A ρ1 s1 env _ E K r1 λρ2 s2 y r2 st2 vy=>by
  refine bp λGz kz=>?_
  refine cc vy ?_;clear vy;intro t z0;subst z0
  refine aV (st2.vr vx) λ_ z0=>?_;subst z0
  refine br (r2.list hj) λits h3 h4 _=>?_
  refine ah (fp h4 hv) λz hz vz=>?_
  refine kz ?_
  exact subscriptTail_builtin h3.typeIs slot_list_getitem.lookup (wpAny_getItem_list h3 h0 (by lia) (by simpa using hz) (q ρ2 s2 z r2 (st1.trans st2) vz)) (hs _ _) (ht _))
theorem rE(hz:vs.length<1000)(hs:∀o x,subscripted slice false o x=operate [o,x] (getItem o x))(ht:∀o r,letTemporaryGo value o r=pure ())
  (e0:Ev c F k value σ (.obj j) σ₁)(e1:Ev c F k slice σ₁ (.int (-1)) σ₂)(hj:σ₂.H[j]?=some (.list vs))(hv:vs.getLast?=some v):Ev c F k (.Subscript value slice pos) σ v σ₂:= λA ρ s env Q E K r q=>
 Subscript_ (e0 A ρ s env _ E K r λρ1 s1 x r1 st1 vx=>e1 A ρ1 s1 env _ E K r1 λρ2 s2 y r2 st2 vy=>by
  refine bp λGz kz=>?_
  refine cc vy ?_;clear vy;intro t z0;subst z0
  refine aV (st2.vr vx) λ_ z0=>?_;subst z0
  refine br (r2.list hj) λits h3 h4 _=>?_
  rw[List.getLast?_eq_getElem?]at hv
  refine ah (fp h4 hv) λz hz vz=>?_
  refine kz ?_
  have ln:=aH h4
  have lt:=aq hz
  have pos:0<its.length:=by lia
  refine subscriptTail_builtin h3.typeIs slot_list_getitem.lookup (wpAny_getItem_list_neg h3 (by lia) (by show -((its.length:Nat):Int)≤ -1;lia) (by lia) ?_ (q ρ2 s2 z r2 (st1.trans st2) vz)) (hs _ _) (ht _)
  have e:((-1:Int)+((⟨its⟩:Array Value).size:Nat)).toNat=its.length - 1:=by show((-1:Int)+(its.length:Nat)).toNat=_;lia
  rw[e,ln]
  simpa using hz)
theorem Cm(h1:i<1000)(hs:∀o x,subscripted slice false o x=operate [o,x] (getItem o x))(ht:∀o r,letTemporaryGo value o r=pure ())
  (e0:Ev c F k value σ (.obj j) σ₁)(e1:Ev c F k slice σ₁ (.int i) σ₂)(hj:σ₂.H[j]?=some (.tuple vs))(hv:vs[i]?=some v):Ev c F k (.Subscript value slice pos) σ v σ₂:= λA ρ s env Q E K r q=>
 Subscript_ (e0 A ρ s env _ E K r λρ1 s1 x r1 st1 vx=>e1 A ρ1 s1 env _ E K r1 λρ2 s2 y r2 st2 vy=>by
  refine ma vy λt=>?_
  refine aV (st2.vr vx) λ_ z0=>?_;subst z0
  refine ah (r2.tuple hj) λits h3 h4=>?_
  refine ah (fp h4 hv) λz hz vz=>?_
  have lt:=aq hz
  refine item_tuple (j:=i) h3 (by lia) (by lia) ?_ (by simpa using hz) (q ρ2 s2 z r2 (st1.trans st2) vz) (hs _ _) (ht _)
  show seqIndex? (i:Int) its.length=some i
  unfold seqIndex?
  simp
  lia)
noncomputable def rv(vs:List AV)(lo hi st:Option Int):List AV:=(sliceRange (sliceBounds lo hi st vs.length).1 (sliceBounds lo hi st vs.length).2.1 (sliceBounds lo hi st vs.length).2.2).filterMap (vs[·]?)
theorem s9(h:cG ρ n vs its)(lo hi st:Option Int):cG ρ n (rv vs lo hi st) (slicePick ⟨its⟩ lo hi st).toList:=by
 unfold rv slicePick
 rw[show(⟨its⟩:Array Value).size=vs.length from aH h]
 simp only[List.toList_toArray]
 generalize sliceRange (sliceBounds lo hi st vs.length).1 (sliceBounds lo hi st vs.length).2.1 (sliceBounds lo hi st vs.length).2.2=ix
 induction ix with
 |nil=>exact .nil
 |cons i r ih=>
  rw[List.filterMap_cons,List.filterMap_cons]
  cases e:vs[i]? with
  |none=>
   have e2:=oh h e
   have e3:(⟨its⟩:Array Value)[i]?=none:=by simpa using e2
   rw[e3];exact ih
  |some a=>
   refine ah (fp h e) λx e2 vx=>?_
   have e3:(⟨its⟩:Array Value)[i]?=some x:=by simpa using e2
   rw[e3];exact .cons vx ih
theorem ub(i:Nat)(h:cG ρ n vs its):cG ρ n (vs.drop i) (its.drop i):=by
 induction h generalizing i with
 |nil=>rw[List.drop_nil,List.drop_nil];exact .nil
 |cons h t ih=>cases i with
  |zero=>exact .cons h t
  |succ i=>exact ih i
theorem my{l:Option (Int×Tok)}:IsPart (partValue l) (l.map (·.1)):=by
 cases l with
 |none=>exact .none
 |some p=>obtain⟨i,t⟩:=p;exact .int i t
theorem fE{lower upper step:Option Expr}{p:Pos}{l u t:Option Int}{σ₄:St}{v':List AV}(hz:vs.length<1000)(h0:t≠some 0)(hs:∀o x,∃ops,subscripted (.Slice lower upper step p) false o x=operate ops (getItem o x))
  (e0:Ev c F k value σ (.obj j) σ₁)(h1:Pt c F k lower σ₁ l σ₂)(h2:Pt c F k upper σ₂ u σ₃)(h3:Pt c F k step σ₃ t σ₄)(hj:σ₄.H[j]?=some (.list vs))(hp:∀ρ n its,cG ρ n vs its→cG ρ n v' (slicePick ⟨its⟩ l u t).toList):
  Ev c F k (.Subscript value (.Slice lower upper step p) pos) σ (.obj σ₄.H.length) ⟨σ₄.loc,σ₄.H++[.list v']⟩:= λA ρ s env Q E K r q=>
 Subscript_ (e0 A ρ s env _ E K r λρ1 s1 y r1 st1 vy=>wpAny_Slice (h1 A ρ1 s1 env _ E K r1 λρ2 s2 y2 r2 st2 vl=>h2 A ρ2 s2 env _ E K r2 λρ3 s3 y3 r3 st3 vu=>h3 A ρ3 s3 env _ E K r3 λρ4 s4 y4 r4 st4 vt=>by
  refine aV (st4.vr (st3.vr (st2.vr vy))) λ_ z0=>?_;subst z0
  refine ah vl ?_;clear vl;intro l' z0 hl;subst z0
  refine ah vu ?_;clear vu;intro u' z0 hu;subst z0
  refine ah vt ?_;clear vt;intro t' z0 htt;subst z0
  subst hl hu htt
  refine bp λGz kz=>?_
  refine br (r4.list hj) λits g3 g4 _=>?_
  have pp:=HP.of_push (o:={cls:=.type "slice",data:=.fields #[partValue l',partValue u',partValue t']}) r4
  have r5:=pp.1 s4.toks
  refine cc (hs (.ref (ρ4 j)) (.ref s4.heap.objs.size)) λops hops=>?_
  have st6:aM c ρ4 σ₄.H.length (· =env.locals) {s4 with heap:=s4.heap.push {cls:=.type "slice",data:=.fields #[partValue l',partValue u',partValue t']}} _ _ _:=dc ({cls:=.type "list",data:=.seq (slicePick ⟨its⟩ (l'.map (·.1)) (u'.map (·.1)) (t'.map (·.1)))}:Obj) s4.toks
  refine aV (r5.alloc (ao:=.list v') (ob:={cls:=.type "list",data:=.seq (slicePick ⟨its⟩ (l'.map (·.1)) (u'.map (·.1)) (t'.map (·.1)))}) s4.toks rfl (cI ((slicePick ⟨its⟩ (l'.map (·.1)) (u'.map (·.1)) (t'.map (·.1))).toList) _ rfl ((hp ρ4 _ its g4).step st6))) λr6 st6'=>?_
  refine kz ?_
  refine tail_any (ops:=ops) (g3.push _).typeIs slot_list_getitem.lookup (wpAny_getItem_list_slice (g3.push _) (bO _ (ZN _ rfl) rfl rfl) my my my h0 ?_ (by show its.length≤_;rw[aH g4];unfold sizeLine;lia)) hops
  exact q _ _ _ r6 ((((st1.trans st2).trans st3).trans st4).trans ((pp.step s4.toks).trans st6')) ⟨by simp,by rw[aF]⟩))
def Fh(c:Cx)(A:Around)(env:Env)(ifs:List Expr)(Q:Bool→Shared→Prop)(E:Value→Shared→Prop)(s:Shared):Prop:=match ifs with
 | []=>Q true s
 | [t]=>wpAny c.M A (isTrue t env (eval t env)) Q E s
 |_=>False
theorem mz{it acc:Value}(hg:gens[d]?=some ⟨target,iter,ifs,0⟩)(hn:gens[d+1]?=none)(ht:∀v,letOwnedTupleGo target it v=pure ())
  (h:∀E,wpAny c.M A (pyNext it) (λr s₁=>match r with
   |none=>R (.ok .next) s₁
   |some v=>wpAny c.M A (assign target env v) (λ_ s₂=>Fh c A env ifs (λok s₃=>if ok=true then wpAny c.M A (eval elt env) (λx s₄=>
      wpAny c.M A (call (.builtin "list.append") [acc,x]) (λ_ s₅=>codeAny c.M A (.compLoop (.ListComp elt gens sc pos) d it acc env) R s₅) E s₄) E s₃
     else codeAny c.M A (.compLoop (.ListComp elt gens sc pos) d it acc env) R s₃) E s₂) E s₁) E s):
  codeAny c.M A (.compLoop (.ListComp elt gens sc pos) d it acc env) R s:=by
 refine codeAny_of_tree ?_
 rw[Around.under_of_weight (c:=.compLoop (.ListComp elt gens sc pos) d it acc env) rfl rfl]
 show wpAny _ _ ((compTurn (.ListComp elt gens sc pos) d it acc env).onRaise (λx=>do noteFrame x env;theTreesLotGoes x)) _ _ s
 refine wpAny_noted ?_
 unfold compTurn
 dsimp only
 rw[hg]
 dsimp only
 refine YC (YG ?_)
 show wpAny _ _ (pyNext it >>=_) _ _ s
 refine YC (YE (h _) (λr s₁ h₁=>?_) λ_ _ h'=>h')
 cases r with
 |none=>exact YD h₁
 |some v=>
  refine YC (wpAny_of_eq (ht v) ?_)
  refine YC (YE h₁ (λ_ s₂ h₂=>?_) λ_ _ h'=>h')
  rw[hn]
  have tail:∀(ok:Bool)(s₃:Shared),(if ok=true then wpAny c.M A (eval elt env) (λx s₄=>
      wpAny c.M A (call (.builtin "list.append") [acc,x]) (λ_ s₅=>codeAny c.M A (.compLoop (.ListComp elt gens sc pos) d it acc env) R s₅) (notedBy c.M A env λe s'=>R (.error e) s') s₄) (notedBy c.M A env λe s'=>R (.error e) s') s₃
     else codeAny c.M A (.compLoop (.ListComp elt gens sc pos) d it acc env) R s₃)→wpAny c.M A (if ok=true then((do
       let y←eval elt env
       let _←call (Value.builtin "list.append") [acc,y]
       pure ():Sem Unit) >>= λ_=>again (Code.compLoop (elt.ListComp gens sc pos) d it acc env))else again (Code.compLoop (elt.ListComp gens sc pos) d it acc env))
    (λfin s'=>match fin with| .done f=>R (.ok f) s'| .again c'=>c'.quiet=true∧codeAny c.M A c' R s') (notedBy c.M A env λe s'=>R (.error e) s') s₃:= λok s₃ h₃=>by
   cases ok with
   |true=>
    rw[if_pos rfl]at h₃ ⊢
    exact YC (YC (YE h₃ (λx s₄ h₄=>YC (YE h₄ (λ_ s₅ h₅=>YD (YD (And.intro rfl h₅))) λ_ _ z=>z)) λ_ _ z=>z))
   |false=>
    rw[if_neg Z0]at h₃ ⊢
    exact YD (And.intro rfl h₃)
  cases ifs with
  |nil=>
   refine YC ?_
   rw[YA]
   exact YD (tail true s₂ h₂)
  |cons t l=>
   cases l with
   |cons _ _=>exact h₂.elim
   |nil=>
    refine YC ?_
    rw[List.forIn_cons]
    refine YC ?_
    rw[if_pos rfl]
    refine YC (YE h₂ (λok s₃ h₃=>YD ?_) λ_ _ z=>z)
    show wpAny _ _ (forIn [] ok _) _ _ _
    rw[YA]
    exact YD (tail ok s₃ h₃)
theorem pZ{target2 iter2:Expr}{ifs2:List Expr}{it acc:Value}(hg:gens[d]?=some ⟨target,iter,[],0⟩)(hn:gens[d+1]?=some ⟨target2,iter2,ifs2,0⟩)(ht:∀v,letOwnedTupleGo target it v=pure ())(hs:∀x,foldedSetIterable iter2 env x=pure x)
  (h:∀E,wpAny c.M A (pyNext it) (λr s₁=>match r with
   |none=>R (.ok .next) s₁
   |some v=>wpAny c.M A (assign target env v) (λ_ s₂=>wpAny c.M A (eval iter2 env) (λx s₃=>wpAny c.M A (pyIter x) (λit2 s₄=>
     codeAny c.M A (.compStart (.ListComp elt gens sc pos) (d+1) it2 acc env) (λr s₅=>∃f,r=.ok f∧codeAny c.M A (.compLoop (.ListComp elt gens sc pos) d it acc env) R s₅) s₄) E s₃) E s₂) E s₁) E s):
  codeAny c.M A (.compLoop (.ListComp elt gens sc pos) d it acc env) R s:=by
 refine codeAny_of_tree ?_
 rw[Around.under_of_weight (c:=.compLoop (.ListComp elt gens sc pos) d it acc env) rfl rfl]
 show wpAny _ _ ((compTurn (.ListComp elt gens sc pos) d it acc env).onRaise (λx=>do noteFrame x env;theTreesLotGoes x)) _ _ s
 refine wpAny_noted ?_
 unfold compTurn
 dsimp only
 rw[hg]
 dsimp only
 refine YC (YG ?_)
 show wpAny _ _ (pyNext it >>=_) _ _ s
 refine YC (YE (h _) (λr s₁ h₁=>?_) λ_ _ h'=>h')
 cases r with
 |none=>exact YD h₁
 |some v=>
  refine YC (wpAny_of_eq (ht v) ?_)
  refine YC (YE h₁ (λ_ s₂ h₂=>?_) λ_ _ h'=>h')
  rw[hn]
  refine YC ?_
  rw[YA]
  refine YD ?_
  rw[if_pos rfl]
  dsimp only
  refine YC (YE h₂ (λx s₃ h₃=>YC (YG ?_)) λ_ _ z=>z)
  show wpAny _ _ (foldedSetIterable iter2 env x >>= λx=>holding [x] (pyIter x) >>=_) _ _ _
  refine YC (wpAny_of_eq (hs x) (YC (YF (YE h₃ (λit2 s₄ h₄=>YC (wpAny_runOwn (codeAny_mono h₄ λr s₅ h₅=>?_))) λ_ _ z=>z))))
  refine ah h₅ ?_;clear h₅;intro f z0 h₅;subst z0
  exact YD (And.intro rfl h₅)
theorem ij{acc:Value}{I:qm}(G:I.Good c)(hit:s.heap.get? it=some o)(ho:I.obj ρ i o)(hg:gens[d]?=some ⟨target,iter,ifs,0⟩)
  (h:codeAny c.M A (.compLoop (.ListComp elt gens sc pos) d (.ref it) acc env) R s):codeAny c.M A (.compStart (.ListComp elt gens sc pos) d (.ref it) acc env) R s:=by
 refine codeAny_of_tree ?_
 rw[Around.under_of_weight (c:=.compStart (.ListComp elt gens sc pos) d (.ref it) acc env) rfl rfl]
 show wpAny _ _ ((compStart (.ListComp elt gens sc pos) d (.ref it) acc env).onRaise (λx=>do noteFrame x env;standAt theWindowsPlace)) _ _ s
 refine wpAny_notedAt ?_
 unfold compStart
 have e:clausesOf (.ListComp elt gens sc pos)=gens:=rfl
 rw[e,hg]
 show wpAny _ _ (ask >>=_) _ _ s
 refine YC (wpAny_askSetting (wpAny_ite ?_))
 have z:wpAny c.M A (pyIter (.ref it)) (λit' s'=>codeAny c.M A (.compLoop (.ListComp elt gens sc pos) d it' acc env) R s') (notedBy c.M A env λx s'=>R (.error x) s') s:=G.self hit ho h
 split
 ·first
   |exact YC (YD (YD (And.intro rfl h)))
   |exact YD (And.intro rfl h)
 ·first
   |exact YC (wpAny_rule (YC (YG (YC (YE z (λit' s' h'=>YD (And.intro rfl h')) λ_ _ x=>x)))))
   |(refine YC (wpAny_rule ?_);show wpAny _ _ (standAt iter.pos >>=_) _ _ s;exact YC (YG (YC (YE z (λit' s' h'=>YD (And.intro rfl h')) λ_ _ x=>x))))
section
def yY(c:Cx)(F:Fs)(k:Nat)(ifs:List Expr)(σ:St)(b:Bool)(σ':St):Prop:=match ifs with
 | []=>b=true∧σ'=σ
 | [t]=>Te c F k t σ b σ'
 |_=>False
theorem D5{b:Bool}{Q:Bool→Shared→Prop}(h:yY c F k ifs σ b σ')(K:cN k A)(r:aW c A F ρ σ s env)
  (q:∀ρ' s',aW c A F ρ' σ' s' env→aM c ρ σ.H.length (· =env.locals) s ρ' σ'.H.length s'→Q b s'):Fh c A env ifs Q E s:=by
 match ifs,h with
 | [],h=>refine aV h ?_;clear h;intro z0 z1;subst z0;subst z1;exact q ρ s r .refl
 | [t],h=>exact h A ρ s env Q E K r λρ1 s1 x r1 st1 vx=>by subst vx;exact q ρ1 s1 r1 st1
 |_::_::_,h=>exact h.elim
theorem kN{x:Value}(r:aW c A F ρ σ s env)(hJ:σ.H[J]?=some (.list acc))(hz:acc.length<999)(hv:VR ρ σ.H.length v x)
  (q:∀s',aW c A F ρ ⟨σ.loc,σ.H.set J (.list (acc++[v]))⟩ s' env→aM c ρ σ.H.length (· =env.locals) s ρ (σ.H.set J (.list (acc++[v]))).length s'→Q .none s'):wpAny c.M A (call (.builtin "list.append") [.ref (ρ J),x]) Q E s:=by
 refine br (r.list hJ) λits h1 h2 _=>?_
 refine wpAny_call_entry slot_list_append h1.typeIs entry_list_append ?_ (args_list_append _ _)
 show wpAny _ _ (updateSeq (ρ J) (·.push x) >>= λ_=>ret .none) _ _ s
 exact YC (lY (A:=A.in1) r.in1 hJ (by lia) hv λs' r' st'=>YD (al _ rfl (q s' r'.out1 st')))
def CL(c:Cx)(F:Fs)(k:Nat)(elt:Expr)(gens:List Comprehension)(sc:Scope)(pos:Pos)(d:Nat)(I:qm)(J i:Nat)(σ σ':St):Prop:=
 ∀{A:Around}{ρ:Nat→Addr}{s:Shared}{env:Env}{R:Result→Shared→Prop}{it:Addr}{o:Obj}{s₀:Shared}{ρ₀:Nat→Addr}{n₀:Nat},s₀.heap.get? it=none→cN k A→aW c A F ρ σ s env→s.heap.get? it=some o→I.obj ρ i o→fx c ρ σ.H.length env it o→
  aM c ρ₀ n₀ (· =env.locals) s₀ ρ σ.H.length s→J<σ.H.length→
  (∀ρ' s',aW c A F ρ' σ' s' env→aM c ρ₀ n₀ (· =env.locals) s₀ ρ' σ'.H.length s'→ρ' J=ρ J→R (.ok .next) s')→codeAny c.M A (.compLoop (.ListComp elt gens sc pos) d (.ref it) (.ref (ρ J)) env) R s
variable{I:qm}
theorem im(G:I.Good c)(hg:gens[d]?=some ⟨target,iter,ifs,0⟩)(hn:gens[d+1]?=none)(ht:∀it v,letOwnedTupleGo target (.ref it) v=pure ())(h100:100≤k)(ok:I.ok σ.H)(ha:I.items[i]?=none):CL c F k elt gens sc pos d I J i σ σ:=
 λ{A ρ s env R it o s₀ ρ₀ n₀} h0 K r hit ho fr st jl q=>mz hg hn (ht it) λE=>G.stop (K.2.2 h100) r ok hit ho ha fr.ap λh' tk hk=>q ρ _ (r.other hit fr hk) (st.other h0 hk) rfl
theorem fL(O:c.Ok)(G:I.Good c)(hg:gens[d]?=some ⟨target,iter,ifs,0⟩)(hn:gens[d+1]?=none)(ht:∀it v,letOwnedTupleGo target (.ref it) v=pure ())(ok:I.ok σ.H)(ha:I.items[i]?=some a)
  (h1:As c F k target a σ σ₁)(h2:yY c F k ifs σ₁ true σ₂)(h3:Ev c F k elt σ₂ v σ₃)(hJ:σ₃.H[J]?=some (.list acc))(hz:acc.length<999)(h4:CL c F k elt gens sc pos d I J (i+1) ⟨σ₃.loc,σ₃.H.set J (.list (acc++[v]))⟩ σ'):CL c F k elt gens sc pos d I J i σ σ':=
 λ{A ρ s env R it o s₀ ρ₀ n₀} h0 K r hit ho fr st jl q=>mz hg hn (ht it) λE=>G.next r ok hit ho ha fr.ap λh' tk x o' vx hit' ho' hk=>by
  have r':=r.other (tk:=tk) hit fr hk
  have st':=st.other (tk:=tk) h0 hk
  have fr':fx c ρ σ.H.length env it o':=⟨fr.ap,fr.up,fr.ne,G.nd _ _ _ ho'⟩
  refine h1 A ρ _ env _ E x K r' vx λρ1 s1 r1 st1=>D5 h2 K r1 λρ2 s2 r2 st2=>?_
  rw[if_pos rfl]
  refine h3 A ρ2 s2 env _ E K r2 λρ3 s3 y r3 st3 vy=>?_
  have st13:=(st1.trans st2).trans st3
  rw[←st13.ag J jl]
  refine kN r3 hJ hz vy λs4 r4 st4=>?_
  have st14:=st13.trans st4
  refine aV (fr'.step O (s:={s with heap:=h',toks:=tk}) hit' st14) λfr4 hit4=>?_
  have ho4:I.obj ρ3 (i+1) o':=G.ag ρ ρ3 σ.H (i+1) o' ok ho' λj hj=>st14.ag j hj
  exact h4 h0 K r4 hit4 ho4 fr4 (st'.trans st14) (ZD jl st14.le) λρ' s' rr ss ee=>q ρ' s' rr ss (ee.trans (st13.ag J jl))
theorem nq(O:c.Ok)(G:I.Good c)(hg:gens[d]?=some ⟨target,iter,ifs,0⟩)(hn:gens[d+1]?=none)(ht:∀it v,letOwnedTupleGo target (.ref it) v=pure ())(ok:I.ok σ.H)(ha:I.items[i]?=some a)
  (h1:As c F k target a σ σ₁)(h2:yY c F k ifs σ₁ false σ₂)(h4:CL c F k elt gens sc pos d I J (i+1) σ₂ σ'):CL c F k elt gens sc pos d I J i σ σ':=
 λ{A ρ s env R it o s₀ ρ₀ n₀} h0 K r hit ho fr st jl q=>mz hg hn (ht it) λE=>G.next r ok hit ho ha fr.ap λh' tk x o' vx hit' ho' hk=>by
  have r':=r.other (tk:=tk) hit fr hk
  have st':=st.other (tk:=tk) h0 hk
  have fr':fx c ρ σ.H.length env it o':=⟨fr.ap,fr.up,fr.ne,G.nd _ _ _ ho'⟩
  refine h1 A ρ _ env _ E x K r' vx λρ1 s1 r1 st1=>D5 h2 K r1 λρ2 s2 r2 st2=>?_
  rw[if_neg Z0]
  have st12:=st1.trans st2
  refine aV (fr'.step O (s:={s with heap:=h',toks:=tk}) hit' st12) λfr4 hit4=>?_
  have ho4:I.obj ρ2 (i+1) o':=G.ag ρ ρ2 σ.H (i+1) o' ok ho' λj hj=>st12.ag j hj
  rw[←st12.ag J jl]
  exact h4 h0 K r2 hit4 ho4 fr4 (st'.trans st12) (ZD jl st12.le) λρ' s' rr ss ee=>q ρ' s' rr ss (ee.trans (st12.ag J jl))
theorem aW.newFree(r:aW c A F ρ σ s env)(nd:∀es ep,o.data≠.dict es ep):fx c ρ σ.H.length env s.heap.objs.size o:=by
 refine⟨λi hi q=>?_,?_,?_,nd⟩
 ·refine ah (r.hr.at_ i (σ.H[i]) (zG hi)) λob h1 _=>?_
  have:=ZB h1
  rw[q]at this;exact ZJ _ this
 ·cases q:c.h₁.get? s.heap.objs.size with
  |none=>rfl
  |some o=>exact(r.hr.nosz o q).elim
 ·intro q
  refine ah (r.lo) λm hm _=>?_
  have:=hm.lt
  rw[←q]at this;exact ZJ _ this
theorem FF(G:I.Good c){target2 iter2:Expr}{ifs2:List Expr}(hg:gens[d]?=some ⟨target,iter,[],0⟩)(hn:gens[d+1]?=some ⟨target2,iter2,ifs2,0⟩)(ht:∀it v,letOwnedTupleGo target (.ref it) v=pure ())(hs:∀env x,foldedSetIterable iter2 env x=pure x)(h100:100≤k)(ok:I.ok σ.H)(ha:I.items[i]?=none):CL c F k elt gens sc pos d I J i σ σ:=
 λ{A ρ s env R it o s₀ ρ₀ n₀} h0 K r hit ho fr st jl q=>pZ hg hn (ht it) (hs env) λE=>G.stop (K.2.2 h100) r ok hit ho ha fr.ap λh' tk hk=>q ρ _ (r.other hit fr hk) (st.other h0 hk) rfl
theorem DJ(O:c.Ok)(G:I.Good c){I2:qm}(G2:I2.Good c){target2 iter2:Expr}{ifs2:List Expr}(hg:gens[d]?=some ⟨target,iter,[],0⟩)(hn:gens[d+1]?=some ⟨target2,iter2,ifs2,0⟩)(ht:∀it v,letOwnedTupleGo target (.ref it) v=pure ())(hs:∀env x,foldedSetIterable iter2 env x=pure x)(ok:I.ok σ.H)(ha:I.items[i]?=some a)
  (h1:As c F k target a σ σ₁)(h2:Ev c F k iter2 σ₁ b σ₂)(h3:Mk c I2 b σ₂)(h4:CL c F k elt gens sc pos (d+1) I2 J 0 σ₂ σ₃)(h5:CL c F k elt gens sc pos d I J (i+1) σ₃ σ'):CL c F k elt gens sc pos d I J i σ σ':=
 λ{A ρ s env R it o s₀ ρ₀ n₀} h0 K r hit ho fr st jl q=>pZ hg hn (ht it) (hs env) λE=>G.next r ok hit ho ha fr.ap λh' tk x o' vx hit' ho' hk=>by
  have r':=r.other (tk:=tk) hit fr hk
  have st':=st.other (tk:=tk) h0 hk
  have fr':fx c ρ σ.H.length env it o':=⟨fr.ap,fr.up,fr.ne,G.nd _ _ _ ho'⟩
  refine h1 A ρ _ env _ E x K r' vx λρ1 s1 r1 st1=>h2 A ρ1 s1 env _ E K r1 λρ2 s2 y r2 st2 vy=>h3 r2 vy λo2 t2 ho2 hf2=>?_
  have st12:=st1.trans st2
  have hp:=HP.of_push (o:=o2) r2
  have g2:(s2.heap.push o2).get? s2.heap.objs.size=some o2:=ZN _ hf2
  refine ij (s:={s2 with heap:=s2.heap.push o2,toks:=t2}) G2 g2 ho2 hn ?_
  have jl2:=ZD jl st12.le
  rw[←st12.ag J jl]
  refine h4 (s₀:=s2) (ρ₀:=ρ2) (n₀:=σ₂.H.length) (fm s2.heap) K (r2.push o2 t2) g2 ho2 (r2.newFree (G2.nd _ _ _ ho2)) (hp.step t2) jl2 λρ3 s3 r3 st3 e3=>al _ rfl ?_
  have st13:=st12.trans st3
  refine aV (fr'.step O (s:={s with heap:=h',toks:=tk}) hit' st13) λfr4 hit4=>?_
  have ho4:I.obj ρ3 (i+1) o':=G.ag ρ ρ3 σ.H (i+1) o' ok ho' λj hj=>st13.ag j hj
  rw[←e3]
  exact h5 h0 K r3 hit4 ho4 fr4 (st'.trans st13) (ZD jl st13.le) λρ' s' rr ss ee=>q ρ' s' rr ss (ee.trans (st13.ag J jl))
end
noncomputable def e7(sc:Scope)(env:Env):Scope:={sc with names:=sc.names.map λx=>if(x.2== .free&&env.scope.kind== .function&&env.kindOf x.1==some .cell)=true then(x.1,.cell)else(x.1,x.2)}
theorem sg{scope:Scope}{newAcc first:Sem Value}{g:Comprehension}{gs:List Comprehension}{cl:List (Str×Addr)}(hclo:closureFor scope env=pure cl)
  (hcl:clausesOf e=g::gs)(hs:∀x,foldedSetIterable g.iter env x=pure x)(hkind:scope.kind=.function)(hnames:∀x∈scope.names,x.2=.local→(e7 scope env).names.lookup x.1=some .local)
  (h:wpAny M A first (λx s₁=>wpAny M A (pyIter x) (λit s₂=>wpAny M A newAcc (λacc s₃=>
   wpAny M A (newFunctionEnv scope env.globals cl [] env.qual none .none (some env)) (λcenv s₄=>
    codeAny M A (.compStart e 0 it acc {cenv with scope:=e7 scope env}) (λr s'=>r=.ok .next∧∃m,s'.heap.Ns cenv.locals m∧∀h',Heap.SameBut cenv.locals s'.heap h'→Q acc {s' with heap:=h'}) s₄) E s₃) E s₂) E s₁) E s):
  wpAny M A (comprehension e scope env pos newAcc false first) Q E s:=by
 unfold comprehension
 rw[hclo,hcl]
 refine YC (YE h (λx s₁ h₁=>YC (YG (YC (wpAny_of_eq (hs x) (YC (YF (YE h₁ (λit s₂ h₂=>
  wpAny_standIf (YC (YE h₂ (λacc s₃ h₃=>YC (YD (YC (YE h₃ (λcenv s₄ h₄=>?_) λ_ _ h'=>h')))) λ_ _ h'=>h')))
   λ_ _ h'=>h'))))))) λ_ _ h'=>h')
 dsimp only
 have hv:∀x∈(scope.names.filter λx=>(x.2== .local||x.2== .cell)&&x.1 != (".0":Str)).reverse,x.2=.local→
   Env.kindOf {cenv with scope:=e7 scope env} x.1=some .local:= λx hx hl=>hnames x (ZQ.mp (List.mem_reverse.mp hx)).1 hl
 refine YF (YC (wpAny_attempt (YF (wpAny_run (codeAny_mono h₄ λr s' hr=>?_)))))
 refine vU hr ?_;clear hr;intro z0 m hn hr;subst z0
 exact YC (YF (wpAny_comp_letGo (cenv:={cenv with scope:=e7 scope env}) hkind _ s' m hv hn λh' m' _ hs'=>YD (hr h' hs')))
theorem eE.other(r:eE c ρ H h)(ap:∀i,i<H.length→ρ i≠it)(up:c.h₁.get? it=none)(hk:∀b ob,h.get? b=some ob→b≠it→h'.get? b=some ob):eE c ρ H h':=by
 have nb:∀b ob,c.h₁.get? b=some ob→b≠it:= λb ob e=>by rintro rfl;rw[up]at e;cases e
 refine⟨λi ao e=>?_,r.inj,r.up,λb ob e t=>hk b ob (r.base b ob e t) (nb b ob e),λob e=>?_⟩
 ·refine ah (r.at_ i ao e) λob h1 h2=>?_
  exact al ob (hk _ _ h1 (ap i (aq e))) h2
 ·exact(r.tj ob e).imp (λz=>hk _ _ z (nb _ _ e)) λ⟨z1,z2,vs,more,z3,z4⟩=>bS z1 z2 vs more z3 (hk _ _ z4 (nb _ _ e))
theorem cO{L:Addr→Prop}(hk:∀b o,s.heap.get? b=some o→s'.heap.get? b=some o)(ho:s'.os=s.os):aM c ρ n L s ρ n s':=
 ⟨λ_ _=>rfl,ZA _,λi h1 h2=>absurd h2 (ZX.mpr h1),⟨λb o e=>⟨o,hk b o e⟩,λb o e _ _ _=>al o (hk b o e) .refl⟩,ho⟩
theorem aM.drop{L:Addr}(st:aM c ρ n (· =L) s ρ' n' s')(h0:s.heap.get? L=none)(hk:∀b ob,s'.heap.get? b=some ob→b≠L→h'.get? b=some ob):aM c ρ n (λ_=>False) s ρ' n' {s' with heap:=h'}:=by
 have nb:∀b o,s.heap.get? b=some o→b≠L:= λb o e=>by rintro rfl;rw[h0]at e;cases e
 refine⟨st.ag,st.le,st.nw,⟨λb o e=>?_,λb o e t hL hr=>?_⟩,st.os⟩
 ·refine cc (st.kp.1 b o e) λo' e'=>?_
  exact⟨o',hk _ _ e' (nb b o e)⟩
 ·refine ah (st.kp.2 b o e t (nb b o e) hr) λo' e' l'=>?_
  exact al o' (hk _ _ e' (nb b o e)) l'
structure cz(F:Fs)(sc sc':Scope)(cl:List (Str×Nat)):Prop where
 clo:∀(env:Env)(g:Nat→Addr),env.cells=F.cells.map (λp=>(p.1,g p.2))→closureFor sc env=pure (cl.map λp=>(p.1,g p.2))
 own:∀env:Env,env.scope=F.scope→e7 sc env=sc'
 sub:∀p∈cl,p∈F.cells
 kind:sc.kind=.function
 names:∀x∈sc.names,x.2=.local→sc'.names.lookup x.1=some .local
 nocell:∀x∈sc.names,x.2≠.cell
 dot:sc'.names.lookup (".0":Str)≠none
theorem fV{rest:List Comprehension}{sc':Scope}{cl:List (Str×Nat)}{I:qm}(O:c.Ok)(G:I.Good c)(S:cz F sc sc' cl)(hs:∀env x,foldedSetIterable iter env x=pure x)
  (h1:Ev c F k iter σ a σ₁)(h2:Mk c I a σ₁)(ok:I.ok σ₁.H)(hlt:σ₁.H.length<H'.length)(h3:CL c ⟨sc',cl⟩ k elt (⟨target,iter,ifs,0⟩::rest) sc pos 0 I σ₁.H.length 0 ⟨[],σ₁.H++[.list []]⟩ ⟨loc',H'⟩):
  Ev c F k (.ListComp elt (⟨target,iter,ifs,0⟩::rest) sc pos) σ (.obj σ₁.H.length) ⟨σ₁.loc,H'⟩:= λA ρ s env Q E K r q=>by
 rw[eval_ListComp]
 refine sg (cl:=cl.map λp=>(p.1,ρ p.2)) (S.clo env ρ r.ce) rfl (hs env) S.kind (by rw[S.own env r.sc];exact S.names) ?_
 refine h1 A ρ s env _ E K r λρ1 s1 x r1 st1 vx=>h2 r1 vx λo t ho hf=>?_
 have fr1:=r1.newFree (o:=o) (G.nd _ _ _ ho)
 have r2:=r1.push o t
 have hp:=HP.of_push (o:=o) r1
 have g2:(s1.heap.push o).get? s1.heap.objs.size=some o:=ZN _ hf
 refine bb (({s1 with heap:=s1.heap.push o,toks:=t}:Shared)) λs2 es2=>?_
 rw[←es2]at r2 ⊢
 have g2':s2.heap.get? s1.heap.objs.size=some o:=by rw[es2];exact g2
 have st2:aM c ρ1 σ₁.H.length (· =env.locals) s1 ρ1 σ₁.H.length s2:=by rw[es2];exact hp.step t
 refine wpAny_newList ?_ (by decide)
 refine bp λGz kz=>?_
 refine aV (r2.alloc (ao:=.list []) (ob:={cls:=.type "list",data:=.seq [].toArray}) s2.toks rfl (cI [] _ rfl .nil)) λr3 st3=>?_
 have e3:gg ρ1 σ₁.H.length s2.heap.objs.size σ₁.H.length=s2.heap.objs.size:=aF
 refine aV (fr1.step O (s:=s2) g2' st3) λfr3 g3=>?_
 have ho3:I.obj (gg ρ1 σ₁.H.length s2.heap.objs.size) 0 o:=G.ag ρ1 _ σ₁.H 0 o ok ho λj hj=>bc hj
 have ag3:∀j,j<σ.H.length→gg ρ1 σ₁.H.length s2.heap.objs.size j=ρ j:= λj hj=>(st1.trans (st2.trans st3)).ag j hj
 refine bb (({s2 with heap:=s2.heap.push {cls:=.type "list",data:=.seq [].toArray},toks:=s2.toks}:Shared)) λs3 es3=>?_
 refine kz ?_
 change wpAny _ _ _ _ _ ({s2 with heap:=s2.heap.push {cls:=.type "list",data:=.seq [].toArray},toks:=s2.toks}:Shared)
 rw[←es3]at r3 st3 g3 ⊢
 have l3:(σ₁.H++[AO.list []]).length=σ₁.H.length+1:=by simp
 have k12:∀b ob,s1.heap.get? b=some ob→s2.heap.get? b=some ob:= λb ob e=>by rw[es2];exact zH _ e
 have k23:∀b ob,s2.heap.get? b=some ob→s3.heap.get? b=some ob:= λb ob e=>by rw[es3];exact zH _ e
 have stA:∀L:Addr→Prop,aM c ρ1 σ₁.H.length L s1 (gg ρ1 σ₁.H.length s2.heap.objs.size) (σ₁.H++[AO.list []]).length s3:= λL=>by
  refine(cO k12 (by rw[es2])).trans ?_
  rw[l3,es3]
  exact dc _ _
 generalize gg ρ1 σ₁.H.length s2.heap.objs.size=ρ3 at*
 refine wpAny_newFunctionEnv S.nocell (λx hx=>nomatch hx) (λh' hns hsb=>?_) S.kind
 have k34:∀b ob,s3.heap.get? b=some ob→h'.get? b=some ob:= λb ob e=>hsb.extBut b ob (Z6 (ZB e)) (zH _ e)
 refine bb (({newEnv sc s3.heap.objs.size env.globals (cl.map λp=>(p.1,ρ p.2)) env.qual none .none (some env) builtinsNs with scope:=e7 sc env}:Env)) λcenv ec=>?_
 have cl_l:cenv.locals=s3.heap.objs.size:=by rw[ec];rfl
 have r4:aW c A ⟨sc',cl⟩ ρ3 ⟨[],σ₁.H++[.list []]⟩ {s3 with heap:=h',toks:=s3.toks} cenv:=by
  refine⟨⟨λi ao e=>?_,r3.hr.inj,r3.hr.up,λb ob e t=>k34 _ _ (r3.hr.base b ob e t),λob e=>?_⟩,?_,?_,?_,?_,λp hp=>?_,⟨_,by rw[cl_l];exact hns,λx v hv=>nomatch hv⟩,λi hi=>?_,?_,r3.ge,r3.sk.same rfl λb ob es ep g1 g2 _ _=>⟨ob,es,ep,k34 _ _ g1,g2⟩,λz z2=>?_,λz=>absurd z S.dot⟩
  ·refine ah (r3.hr.at_ i ao e) λob z1 z2=>?_
   exact al ob (k34 _ _ z1) z2
  ·exact(r3.hr.tj ob e).imp (λz=>k34 _ _ z) λ⟨z1,z2,vs,more,z3,z4⟩=>bS z1 z2 vs more z3 (k34 _ _ z4)
  ·rw[ec];exact S.own env r.sc
  ·rw[ec];exact r.gl
  ·rw[ec];exact r.bl
  ·rw[ec]
   show(cl.map λp=>(p.1,ρ p.2))=cl.map λp=>(p.1,ρ3 p.2)
   exact ZO λp hp=>by rw[ag3 _ (r.ci p (S.sub p hp))]
  ·show p.2<(σ₁.H++[AO.list []]).length
   rw[l3];have:=r.ci p (S.sub p hp);have:=st1.le;lia
  ·rw[cl_l];exact(r3.newFree (o:=o) (G.nd _ _ _ ho)).ap i hi
  ·rw[cl_l];exact(r3.newFree (o:=o) (G.nd _ _ _ ho)).up
  ·rw[ec]at z2;cases z2
 have g4:h'.get? s1.heap.objs.size=some o:=k34 _ _ g3
 have fr4:fx c ρ3 (σ₁.H++[AO.list []]).length cenv s1.heap.objs.size o:=⟨fr3.ap,fr3.up,by rw[cl_l];exact Z6 (ZB g3),fr3.nd⟩
 have eg:({newEnv sc s3.heap.objs.size env.globals (cl.map λp=>(p.1,ρ p.2)) env.qual none .none (some env) builtinsNs with scope:=e7 sc env}:Env)=cenv:=ec.symm
 rw[eg]
 have eS:Value.ref s2.heap.objs.size=Value.ref (ρ3 σ₁.H.length):=by rw[e3]
 rw[eS]
 refine ij (s:={s3 with heap:=h',toks:=s3.toks}) G g4 ho3 rfl ?_
 refine h3 (s₀:=s1) (ρ₀:=ρ1) (n₀:=σ₁.H.length) (fm s1.heap) K r4 g4 ho3 fr4 ((stA _).trans (cO k34 rfl)) (by rw[l3];exact Za _) λρ5 s5 r5 st5 e5=>⟨rfl,?_⟩
 refine ah (r5.lo) λm hm _=>?_
 refine al m (by rw[←cl_l];exact hm) λh6 hs6=>?_
 have kk:∀b ob,s5.heap.get? b=some ob→b≠cenv.locals→h6.get? b=some ob:= λb ob e hne=>(hs6.2 b (by rw[cl_l]at hne;exact hne)).trans e
 have n1:s1.heap.get? cenv.locals=none:=by
  cases z:s1.heap.get? cenv.locals with
  |none=>rfl
  |some ob=>
   have:=ZB (k23 _ _ (k12 _ _ z))
   rw[cl_l]at this;exact absurd this (ZJ _)
 have st6:=st5.drop n1 kk
 have hr6:=r5.hr.other r5.ap r5.lf kk
 refine aV (r1.after (s':={s5 with heap:=h6}) O hr6 r5.ge st6) λr7 st7=>?_
 exact q ρ5 _ _ r7 (st1.trans st7) ⟨hlt,by rw[e5]⟩
noncomputable def Du:=cV bJ 35
noncomputable def wu:=kr bJ 35
theorem tA:dG P 886 Du wu:=by constructor<;>w_on
theorem Cg(x:Value)(S:Setting):peek (Kx P) S (bindArgs (dw P 886) ⟨[x],[]⟩)=some [(("s":Str),x)]:=by w_on
theorem sQ:nsIn (Kx P) mainGlobals ("_find_unsafe":Str)=some (some (.ref 879)):=by w_on
theorem G5(S:Setting):peek (Kx P) S (keeperOf (.ref 879))=some .machine:=by w_on
noncomputable def yT:Addr:=match(wF P 879).data with
 | .fields vs=>(match vs.toList with|_::Value.ref a::_=>a|_=>0)
 |_=>0
theorem HK(x:Value)(S:Setting):peek (Kx P) S (callAny (.ref 879) ⟨[x],[]⟩)=some (.again (.builtin "re.Pattern.search" ⟨[.ref (yT P),x],[]⟩)):=by w_on
theorem qC:entryFor table "re.Pattern.search"=some Builtin.«re.Pattern.search»:=entryFor_of_tree (by w_on)
def jA(S:Setting)(x:Str):Prop:=∀t D,kT (Kx P) S D (Builtin.«re.Pattern.search» ⟨[.ref (yT P),.str x t],[]⟩)=some ([],.done (.ret .none))
def gf(S:Setting)(x:Str):Prop:=∀t D,∃os v,kT (Kx P) S D (Builtin.«re.Pattern.search» ⟨[.ref (yT P),.str x t],[]⟩)=some (os,.done (.ret v))∧(v== .none)=false
theorem Jb(S:Setting):jA P S "a":= λt D=>by w_on
theorem Je(S:Setting):jA P S "d":= λt D=>by w_on
noncomputable def AP:Fin→Value
 | .done (.ret v)=>v
 |_=>.none
theorem Bt(S:Setting)(x:Str)(h:∀t D,kT (Kx P) S D (Builtin.«re.Pattern.search» ⟨[.ref (yT P),.str x t],[]⟩)=(kT (Kx P) S D (Builtin.«re.Pattern.search» ⟨[.ref (yT P),.str x t],[]⟩)).bind (λr=>some (r.1,.done (.ret (AP r.2))))∧((kT (Kx P) S D (Builtin.«re.Pattern.search» ⟨[.ref (yT P),.str x t],[]⟩)).map λr=>AP r.2== .none)=some false):gf P S x:= λt D=>by
 refine aV (h t D) λh1 h2=>ah (Z5.mp h2) λr e1 e2=>?_
 rw[e1]at h1
 exact cI r.1 (AP r.2) (by rw[e1];exact h1) e2
theorem Ij(S:Setting):gf P S "b c":=Bt P S _ λt D=>⟨by w_on,by w_on⟩
theorem FS(S:Setting):gf P S "it's":=Bt P S _ λt D=>⟨by w_on,by w_on⟩
theorem D6(S:Setting):gf P S "*":=Bt P S _ λt D=>⟨by w_on,by w_on⟩
abbrev IU(c:Cx)(F:Fs)(n k:Nat)(e:Expr)(σ:St)(v:AV)(σ':St):Prop:=FW c F n k (eval e) σ (λρ=>VR ρ σ'.H.length v) σ'
theorem wh{e₁ e₂:Expr}{op}{pos:_}(h1:IU c F n k e₁ σ a σ₁)(h2:IU c F n k e₂ σ₁ b σ₂)(h3:dz c F k (binaryOp op) a b σ₂ v σ₃):IU c F n k (.BinOp e₁ op e₂ pos) σ v σ₃:= λA ρ s env Q E hn K r h=>
 wpAny_BinOp (wpAny_with_toks hn (h1 A ρ s env _ _ hn K r λρ1 s1 x r1 st1 va hn1=>h2 A ρ1 s1 env _ E hn1 K r1 λρ2 s2 y r2 st2 vb=>h3 A ρ2 s2 env _ E x y K r2 (st2.vr va) vb λρ3 s3 z r3 st3 vz=>h ρ3 s3 z r3 ((st1.trans st2).trans st3) vz))
theorem pv{st:Stmt}{f:AF}(h1:Ex c F k st σ .next σ₁)(h2:uT c F n k rest σ₁ f σ₂):uT c F n k (st::rest) σ f σ₂:= λA ρ s env Q E hn K r h=>
 YH (wpAny_with_toks hn (h1 A ρ s env _ _ K r λρ1 s1 x r1 st1 vx hn1=>by
  rw[show x=.next from vx];exact h2 A ρ1 s1 env _ E hn1 K r1 λρ2 s2 y r2 st2 vy=>h ρ2 s2 y r2 (st1.trans st2) vy))
theorem Ci{pos:_}(h1:IU c F n k e σ v σ₁):uT c F n k (.Return (some e) pos::rest) σ (.ret v) σ₁:= λA ρ s env Q E hn K r h=>
 YH (wpAny_Return_some (h1 A ρ s env _ E hn K r λρ1 s1 x r1 st1 vx=>h ρ1 s1 _ r1 st1 (al x rfl vx)))
theorem tM{f:AF}(h:uT c F n k body σ f ⟨loc,H⟩):uT c F n k body σ f ⟨[],H⟩:= λA ρ s env Q E hn K r q=>
 h A ρ s env Q E hn K r λρ' s' a r' st v=>q ρ' s' a r'.forget st v
theorem tE{o:Expr}{q1 q2:Nat}{z:Str}(hn:0<n)(hyz:(y==z)=false)(hx:x.length≤1048576)(hz:z.length≤14)
  (he:∀env,eval (.Call (.Attribute o "replace" apos) [.Constant (.str y) q1 p1,.Constant (.str z) q2 p2] [] pos) env=(do
   let ov←eval o env
   standAt apos.atName
   let(f,first)←holding [ov] (getMethod ov "replace" (gD o env))
   callWith pos f first (backTo pos (starEach [.Constant (.str y) q1 p1,.Constant (.str z) q2 p2] env)) []))
  (h0:Ev c F k o σ (.str x) σ₁):IU c F n k (.Call (.Attribute o "replace" apos) [.Constant (.str y) q1 p1,.Constant (.str z) q2 p2] [] pos) σ (.str (Txt.replace x y z)) σ₁:= λA ρ s env Q E hns K r h=>
 MethodCall_ (pl:=gD o env) (wpAny_with_toks hns (h0 A ρ s env _ _ K r λρ1 s1 xv r1 st1 vx hn1=>by
  refine lU vx λt=>?_
  refine getMethod_builtin (typeIs_str _ x t) PySem.F.plainAttrs_str PySem.F.slot_str_replace PySem.F.type_str_replace (λa e=>by cases e) ?_
  refine cy ?_
  refine Calls.evalArgs_plain (x:=eval (.Constant (.str y) q1 p1) env) (rest:=backTo pos (starEach [.Constant (.str z) q2 p2] env)) ?_
  refine Calls.spliced_cons (Calls.Constant_str (k:=q1) (pos:=p1) (Calls.spliced_cons (Calls.Constant_str (k:=q2) (pos:=p2) (Calls.spliced_nil ⟨⟨.machine,Looks.of_pure rfl⟩,?_⟩))))
  refine SC.replaceW (by show s1.toks≠(0:Nat);lia) (by show s1.toks+1≠(0:Nat);lia) (by show s1.toks≠(s1.toks+1:Nat);lia) hyz hx hz λt' kk=>?_
  exact h ρ1 _ _ (r1.toks kk) (st1.trans (.toks kk)) ⟨t',rfl⟩)) (he env)
theorem nW{A:Around}{ρ:Nat→Addr}{env:Env}:∀(os:List Obj){s:Shared}(r:aW c A F ρ σ s env),aW c A F ρ σ {s with heap:=vR s.heap os} env∧∀b o,s.heap.get? b=some o→(vR s.heap os).get? b=some o
 | [],s,r=>⟨r,λ_ _ e=>e⟩
 |o::os,s,r=>by
  refine aV (nW os (s:={s with heap:=s.heap.push o}) (r.push o s.toks)) λh1 h2=>?_
  exact⟨h1,λb ob e=>h2 b ob (zH _ e)⟩
theorem pD{cpos:Pos}{q:Nat}(G:c.Go)
  (he:∀env,eval (.Call func [e] [] pos) env=(do callWith pos (←eval func env) [] (backTo pos (starEach [e] env)) (backToKw pos (keywordEach [] env))))
  (hst:∀env,starEach [e] env=[(false,eval e env)])
  (h0:Ev c F k func σ (.val (.ref 879)) σ₁)(h1:Ev c F k e σ₁ (.str x) σ₂)(h2:if t=true then jA c.w.params ⟨c.prog,c.w.params⟩ x else gf c.w.params ⟨c.prog,c.w.params⟩ x):
  Te c F k (.Compare (.Call func [e] [] pos) [.Is] [.Constant .none q p1] cpos) σ t σ₂:= λA ρ s env Q E K r h=>
 wpAny_isTrue_Compare1 (by
  rw[he env]
  refine YC (h0 A ρ s env _ E K r λρ1 s1 f r1 st1 vf=>?_)
  subst vf
  refine cy ?_
  rw[hst env]
  refine Calls.evalArgs_plain (x:=eval e env) (rest:=[]) ?_
  refine Calls.spliced_cons (h1 A ρ1 s1 env _ E K r1 λρ2 s2 xv r2 st2 vx=>Calls.spliced_nil ⟨⟨.machine,Looks.of_peek (r2.X G.ok) (by rw[G.hK];exact G5 _ _)⟩,?_⟩)
  refine lU vx λtk=>?_
  have X2:(Kx c.w.params).In s2.heap:=by have:=r2.X G.ok;rw[G.hK]at this;exact this
  refine wpAny_call (codeAny_of_tree ?_)
  show wpAny _ _ (callAny (.ref 879) ⟨[.str x tk],[]⟩) _ _ _
  refine(Looks.of_peek (M:=c.M) X2 (HK _ _ _)).here ⟨Code.quiet_builtin _ (by decide+kernel),codeAny_builtin qC ?_⟩
  cases t with
  |true=>
   rw[if_pos rfl]at h2
   refine g9 _ s2 _ X2 (h2 tk _) ?_
   refine Constant_none ?_
   refine is_none_gen (wpAny_truthy_bool (h ρ2 s2 _ r2 (st1.trans st2) rfl))
  |false=>
   rw[if_neg Z0]at h2
   refine dk (h2 tk s2.heap.objs.size) λos y e1 e2=>?_
   refine g9 _ s2 _ X2 e1 ?_
   refine aV (nW os r2) λr3 k3=>?_
   refine Constant_none ?_
   refine is_none_gen (wpAny_truthy_bool (h ρ2 _ _ r3 ((st1.trans st2).trans (cO k3 rfl)) e2))) rfl
noncomputable def yS:Fs:=⟨wu,[]⟩
theorem gH:yS.scope.kind=.function:=by w_on
theorem tZ(h:∀(ρ:Nat→Addr)(n:Nat)(s:Shared)(xs:List Value)(ks:List (Str×Value)),c.K.In s.heap→cG ρ n args xs→mh ρ n kw ks→∃binds,BindsTo s fd ⟨xs,ks⟩ binds∧mh ρ n loc binds)(O:c.Ok):iX c fd args kw H loc H:= λρ s xs ks hr hx hk=>by
 refine ah (h ρ _ s xs ks (hr.X O) hx hk) λbinds b1 b2=>?_
 exact cH ρ s binds (λM A' E Q _ _ hq=>b1 M A' E Q hq) hr ⟨rfl,rfl⟩ .refl b2
theorem bq(G:c.Go):iX c (dw c.w.params 886) [.str x] [] H [("s",.str x)] H:=tZ (λρ m s xs ks X hx hk=>by
 refine mC hx hk λ_ hx=>?_
 rw[G.hK]at X
 refine al [("s",_)] (@bB _ _ _ _ _ X ?_) (.cons hx .nil)
 exact Cg _ _) G.ok
theorem jX(G:c.Go)(h1:((x.length:Int) != 0)=true)(h2:x.length<1000)(hs:jA c.w.params ⟨c.prog,c.w.params⟩ x):Fn c (k+1) (.ref 886) [.str x] [] H (.str x) H:=by
 refine qY (fl:=.ret (.str x)) (loc:=[("s",.str x)]) G (tA _) (by w_on) (by w_on) (bq G) ?_
 apply aK (loc:=[("s",.str x)])
 k_dflt refine' ae (σ₁:=⟨[("s",.str x)],H⟩) ?_ (bx ?_)
 ·exact aL (F:=yS) (t:=false) (AJ (bQ (λ_ _=>rfl) (aa gH rfl rfl) (d7 (by lia) h1))) ar
 ·exact aL (F:=yS) (t:=true) (pD G (λ_=>rfl) (λ_=>rfl) (dB G gH rfl (sQ _)) (aa gH rfl rfl) (by rw[if_pos rfl];exact hs)) (bx (aX (aa gH rfl rfl)))
noncomputable def rQ(x:Str):Str:=(("'":Str)++Txt.replace x "'" "'\"'\"'")++("'":Str)
theorem fU(G:c.Go)(h1:((x.length:Int) != 0)=true)(h2:x.length<1000)(hs:gf c.w.params ⟨c.prog,c.w.params⟩ x)(l1:(("'":Str)++Txt.replace x "'" "'\"'\"'").length≤sizeLine)(l2:(rQ x).length≤sizeLine)
  (n1:(Txt.replace x "'" "'\"'\"'").length≠0)(n2:(("'":Str)++Txt.replace x "'" "'\"'\"'").length≠0):Fn c (k+1) (.ref 886) [.str x] [] H (.str (rQ x)) H:=by
 refine B4 (fl:=.ret (.str (rQ x))) (loc:=[("s",.str x)]) G (tA _) (by w_on) (by w_on) (bq G) ?_
 apply tM (loc:=[("s",.str x)])
 k_dflt refine' pv (σ₁:=⟨[("s",.str x)],H⟩) ?_ (pv (σ₁:=⟨[("s",.str x)],H⟩) ?_ (Ci ?_))
 ·exact aL (F:=yS) (t:=false) (AJ (bQ (λ_ _=>rfl) (aa gH rfl rfl) (d7 (by lia) h1))) ar
 ·exact aL (F:=yS) (t:=false) (pD G (λ_=>rfl) (λ_=>rfl) (dB G gH rfl (sQ _)) (aa gH rfl rfl) (by rw[if_neg Z0];exact hs)) ar
 ·exact wh (F:=yS) (wh bn.toT (tE (Nat.succ_pos _) (by decide) (by lia) (by decide) (λ_=>rfl) (aa gH rfl rfl)) (rY l1 (λh=>absurd h (by decide)) (λh=>absurd h n1))) bn.toT (rY l2 (λh=>absurd h n2) (λh=>absurd h (by decide)))
noncomputable def names:List Str:=["a","b c","it's","d","*"]
noncomputable def qf(x:Str):Str:=if x="a"∨x="d" then x else rQ x
theorem BV(G:c.Go)(h:x∈names):Fn c (k+1) (.ref 886) [.str x] [] H (.str (qf x)) H:=by
 simp only[names,ZH,List.mem_nil_iff,or_false]at h
 rcases h with rfl|rfl|rfl|rfl|rfl
 ·exact jX G (by decide) (by decide) (Jb _ _)
 ·exact fU G (by decide) (by decide) (Ij _ _) (by decide+kernel) (by decide+kernel) (by decide+kernel) (by decide+kernel)
 ·exact fU G (by decide) (by decide) (FS _ _) (by decide+kernel) (by decide+kernel) (by decide+kernel) (by decide+kernel)
 ·exact jX G (by decide) (by decide) (Je _ _)
 ·exact fU G (by decide) (by decide) (D6 _ _) (by decide+kernel) (by decide+kernel) (by decide+kernel) (by decide+kernel)
theorem EB:nsIn (Kx P) mainGlobals ("quote":Str)=some (some (.ref 886)):=by w_on
theorem It(S:Setting):peek (Kx P) S (keeperOf (.ref 886))=some .frame:=by w_on
theorem yt(G:c.Go){cenv:Env}{A':Around}{s₂:Shared}{m₂:Str→Option Value}{t:Tok}{E':Value→Shared→Prop}(hns:s₂.heap.Ns cenv.locals m₂)(hm:m₂ ("arg":Str)=some (.str x t))(hx:x∈names)
  (hk:cenv.scope.kind=.function)(ha:cenv.scope.names.lookup ("arg":Str)=some .local)(hq:cenv.scope.names.lookup ("quote":Str)=some .globalImplicit)(hgl:cenv.globals=mainGlobals)
  (X:c.K.In s₂.heap)(hg:s₂.heap.Ns mainGlobals c.mg)(hb:s₂.heap.Ns builtinsNs c.mb)(hl:s₂.heap.NoLimit)(hC:c.K.lookup cenv.locals=none)(h1:mainGlobals≠cenv.locals)(h2:builtinsNs≠cenv.locals)(h3:cStatics≠cenv.locals)
  (hd:A'.depth+4≤900)(hu:A'.units+12≤9000):
  wpAny c.M A' (eval (.Call (.Name "quote" p1) [.Name "arg" p2] [] pos) cenv) (λy s₃=>(∃u,y=.str (qf x) u)∧Keeps s₂ s₃) E' s₂:=by
 refine c7 (id hns) λoC esC epC gC dC _=>?_
 let c':Cx:={c with h₁:=s₂.heap,tj:=cenv.locals,gq:= λg d=>g=s₂.gens∧d=s₂.drawn,rz:=false}
 have O':c'.Ok:=⟨X,hC,⟨oC,gC⟩,hg,h1,hb,h2,hl,h3,G.ok.bi⟩
 have G':c'.Go:=⟨O',G.hK⟩
 show wpAny _ _ (do callWith pos (←eval (.Name "quote" p1) cenv) [] (backTo pos (starEach [.Name "arg" p2] cenv)) (backToKw pos (keywordEach [] cenv))) _ _ _
 refine YC (Calls.Name_function_global hk (by unfold Env.kindOf;exact hq) (Calls.loadGlobal_global (mg:=c.mg) (by rw[hgl];exact hg) (mg_of (K:=c.K) X hg (by rw[G.hK];exact EB _)) ?_) (by decide))
 refine cy ?_
 refine Calls.evalArgs_plain (x:=eval (.Name "arg" p2) cenv) (rest:=[]) ?_
 refine Calls.spliced_cons (wpAny_Name (wpAny_loadName_local hk (by unfold Env.kindOf;exact ha) hns hm (Calls.spliced_nil ⟨⟨.frame,Looks.of_peek X (by rw[G.hK];exact It _ _)⟩,?_⟩)) (by decide))
 refine wpAny_call ((BV (c:=c') (k:=0) (H:=[]) G' hx) A' (λ_=>0) s₂ [.str x t] [] _ ⟨by lia,by lia,λz=>absurd z (by decide)⟩ ?_ ⟨rfl,rfl⟩ (λz=>by cases z) (.cons ⟨t,rfl⟩ .nil) .nil λρ' s' y hr' ge' st' vy=>?_)
 ·exact⟨(λi o e=>(by simp at e)),(λi j hi=>absurd hi (Nat.not_lt_zero _)),(λi hi=>absurd hi (Nat.not_lt_zero _)),(λb o e _=>e),(λo e=>Or.inl e)⟩
 ·refine⟨vy,s'.heap,s'.toks,?_,λb o e=>?_⟩
  ·refine bp λGz kz=>?_
   obtain⟨hp',g',d',t',o'⟩:=s'
   refine aV ge' λe1 e2=>?_
   refine kz ?_
   have e3:=st'.os
   dsimp only at e1 e2 e3
   subst e1 e2 e3
   rfl
  ·by_cases hb:b=cenv.locals
   ·subst hb
    rcases hr'.tj o e with z|⟨_,_,vs,more,⟨z,_⟩,_⟩
    ·exact z
    ·have e':s₂.heap.get? cenv.locals=some o:=e
     rw[gC]at e';cases e'
     rw[dC]at z;cases z
   ·exact hr'.base b o e hb
theorem Ef{fl:AF}(O:c.Ok)
  (hf:c.K.lookup f=some ⟨oc,od,.func fd,osl⟩)(hcd:codeIn c.K fd.code fd.qualname=true)(hbody:fd.body=.stmts body)(hcl:fd.closure=[])(hgl:fd.globals=mainGlobals)(hbl:fd.builtins=builtinsNs)
  (hcell:∀x∈fd.scope.names,x.2≠.cell)(hco:fd.scope.isCoroutine=false)(hgen:fd.scope.isGenerator=false)(hk:fd.scope.kind=.function)
  (nd:decide (loc.map (·.1)).Nodup=true)(lo:(loc.all λp=>fd.scope.names.lookup p.1==some .local)=true)
  (bd:iX c fd args kw H loc H1)
  (hb:∀(A:Around)(ρ:Nat→Addr)(s:Shared)(L:Addr)(Q:Flow→Shared→Prop)(E:Value→Shared→Prop),cN k A→aW c A ⟨fd.scope,[]⟩ ρ ⟨loc,H1⟩ s (callEnv fd L f)→
   (∀ρ' s' a,aW c A ⟨fd.scope,[]⟩ ρ' ⟨loc',H'⟩ s' (callEnv fd L f)→aM c ρ H1.length (· =(callEnv fd L f).locals) s ρ' H'.length s'→FR ρ' H'.length fl a→Q a s')→wpAny c.M A (execs body (callEnv fd L f)) Q E s):Fn c (k+1) (.ref f) args kw H fl.val H':= λA ρ s xs ks R K hr ge sk hx hks q=>by
 refine bp λGz kz=>?_
 refine cP (bd ρ s xs ks hr hx hks) λρ1 s1 binds b1 hr1 ge1 st1 b2=>?_
 refine kz ?_
 have sk1:=sk.after O st1
 have nm:=jq b2
 have hloc:∀x∈binds,fd.scope.names.lookup x.1=some .local:= λx hx=>by
  have hm:x.1∈loc.map (·.1):=by rw[←nm];exact List.mem_map_of_mem hx
  refine ah (ZR.mp hm) λp hp e=>?_
  have:=ZF.mp lo p hp
  rw[←e];simpa using this
 have b3:∀x v,loc.lookup x=some v→∃v',binds.reverse.lookup x=some v'∧VR ρ1 H1.length v v':= λx v hv=>by
  refine ah (iN b2 hv) λv' h1 h2=>?_
  exact al v' (by rw[dV (by rw[nm];exact of_decide_eq_true nd)];exact h1) h2
 refine codeAny_call_function K.depth (hr.X O _ _ hf) rfl hco hgen hbody (codeRec_of (hr.X O) hcd) (b1 _ _ _ _ rfl rfl ?_)
 refine wpAny_newFunctionEnv hcell hloc (λh₀ hns hsb₀=>⟨(hr1.lim O).fresh _ hsb₀,codeAny_func ?_⟩) hk
 have hkp:∀b o,s1.heap.get? b=some o→h₀.get? b=some o:= λb o e=>hsb₀.extBut b o (Z6 (ZB e)) (zH _ e)
 have r:aW c (A.deeper (callEnv fd s1.heap.objs.size f)) ⟨fd.scope,[]⟩ ρ1 ⟨loc,H1⟩ {s1 with heap:=h₀,toks:=s1.toks+binds.length} (callEnv fd s1.heap.objs.size f):=
  ⟨⟨λi o e=>let⟨ob,h1,h2⟩:=hr1.at_ i o e;(al ob (hkp _ _ h1) h2),hr1.inj,hr1.up,λb o e t=>hkp _ _ (hr1.base b o e t),λo e=>(hr1.tj o e).imp (λz=>hkp _ _ z) λ⟨z1,z2,vs,more,z3,z4⟩=>bS z1 z2 vs more z3 (hkp _ _ z4)⟩,
   rfl,hgl,hbl,(by show fd.closure=_;rw[hcl];rfl),(λp hp=>nomatch hp),al _ hns b3,λi hi q=>(by
   refine ah (hr1.at_ i (H1[i]) (zG hi)) λob h1 _=>?_
   have:=ZB h1
   rw[show ρ1 i=s1.heap.objs.size from q]at this
   exact ZJ _ this),(by cases q:c.h₁.get? (callEnv fd s1.heap.objs.size f).locals with|none=>rfl|some o=>exact(hr1.nosz o q).elim),(by show c.gq s1.gens s1.drawn;rw[ge1.1,ge1.2];exact ge),(by
   intro hz
   refine ah (sk1 hz) λl l1 l2=>?_
   refine al _ (Around.frames_deeper l1) λe he=>?_
   rcases ZH.mp he with rfl|he
   ·refine c7 hns λo es ep g1 g2 _=>?_
    refine eO (by show fd.scope.kind≠.module;rw[hk];decide) s1.heap.objs.size o es ep rfl ?_ g1 g2 λi hi q=>?_
    ·cases q:c.h₁.get? s1.heap.objs.size with
     |none=>rfl
     |some o=>exact(hr1.nosz o q).elim
    ·refine ah (hr1.at_ i (H1[i]) (zG hi)) λob h1 _=>?_
     have:=ZB h1
     rw[q]at this
     exact ZJ _ this
   ·exact(l2 e he).keep (λ_ _=>rfl) (λi h1 h2=>absurd h2 (ZX.mpr h1)) λb o es ep g1 g2 _ _=>bh o es ep (hkp _ _ g1) g2),(λhz _=>by refine ah (sk1 hz) λl l1 _=>?_;exact⟨l,Around.frames_deeper l1⟩),λ_=>⟨rfl,rfl⟩⟩
 refine hb (A.deeper (callEnv fd s1.heap.objs.size f)) ρ1 _ _ _ _ K.deeper r λρ' s' fl' r' st vf=>?_
 have st':aM c ρ1 H1.length (λ_=>False) s1 ρ' H'.length s':=⟨st.ag,st.le,λi h1 h2=>(by
   cases q:s1.heap.get? (ρ' i)with
   |none=>rfl
   |some o=>have:=st.nw i h1 h2;rw[hkp _ _ q]at this;cases this),
  ⟨λb o e=>st.kp.1 b o (hkp _ _ e),λb o e t _ h3=>st.kp.2 b o (hkp _ _ e) t (λz=>by
   have:=ZB e
   rw[show b=s1.heap.objs.size from z]at this
   exact ZJ _ this) h3⟩,st.os⟩
 have st':=st1.trans st'
 cases fl with
 |next=>rw[show fl'=.next from vf];exact q ρ' s' _ r'.hr r'.ge st' rfl
 |brk=>rw[show fl'=.brk from vf];exact q ρ' s' _ r'.hr r'.ge st' rfl
 |cont=>rw[show fl'=.cont from vf];exact q ρ' s' _ r'.hr r'.ge st' rfl
 |ret v=>refine ah vf ?_;clear vf;intro x z0 hx;subst z0;exact q ρ' s' x r'.hr r'.ge st' hx
structure Cx.GoJ(c:Cx):Prop where
 go:c.Go
 tj:c.tj=873
 tab:∃ps,c.h₁.get? 873=some {cls:=.none,data:=.fields ps}∧TriplesOk ps.toList
 gq:c.gq= λg _=>AllBare g
 bmod:∃bm ob,c.mg ("__builtins__":Str)=some (.ref bm)∧bm≠builtinsNs∧c.h₁.get? bm=some ob∧ob.cls=.type "module"∧ob.dict=some builtinsNs∧ob.data=.plain∧bm≠c.tj
noncomputable def gK:Array Value:=match(wF P 877).data with| .fields vs=>vs|_=> #[]
noncomputable def Fb:Value→Str×Tok| .str x t=>(x,t)|_=>("",0)
noncomputable def pg:Value→Int×Tok| .int x t=>(x,t)|_=>(0,0)
noncomputable def FO:Value→Bool| .bool x=>x|_=>false
theorem I3:(Kx P).lookup 877=some (wF P 877):=by w_on
theorem Bi:(wF P 877).data=.fields (gK P):=by w_on
theorem EW:(wF P 877).cls=.type "code":=by w_on
theorem Hh:(gK P).getD 11 .none=.ref 873:=by w_on
theorem E0:(gK P)[11]?=some (.ref 873):=by w_on
theorem G7:(gK P).getD 18 .none=.str (Fb ((gK P).getD 18 .none)).1 (Fb ((gK P).getD 18 .none)).2:=by w_on
theorem IH:(gK P).getD 7 .none=.int (pg ((gK P).getD 7 .none)).1 (pg ((gK P).getD 7 .none)).2:=by w_on
theorem Hg:(gK P).getD 9 .none=.bool (FO ((gK P).getD 9 .none)):=by w_on
theorem Hz:(gK P).getD 10 .none=.int (pg ((gK P).getD 10 .none)).1 (pg ((gK P).getD 10 .none)).2:=by w_on
theorem xT{qual:Str}(J:c.GoJ)(r:eE c ρ H s.heap)(hcode:env.code=.ref 877)
  (h:∀code h' tk,(∀b o,s.heap.get? b=some o→b≠873→h'.get? b=some o)→s.heap.objs.size≤h'.objs.size→(∃o',h'.get? 873=some o')→eE c ρ H h'→Q code {s with heap:=h',toks:=tk}):wpAny c.M A (genexprCode env pos qual sc) Q E s:=by
 refine ah (J.tab) λps t1 t2=>?_
 have O:=J.go.ok
 have k877:c.K.lookup 877=some (wF c.w.params 877):=by rw[J.go.hK];exact I3 _
 have g877:=r.X O _ _ k877
 have b877:=O.X _ _ k877
 have ict:isCodeTable c.h₁ c.tj:=by rw[J.tj];exact iV 877 _ _ b877 (EW _) (Bi _) (E0 _)
 have tab:∃more,s.heap.get? 873=some {cls:=.none,data:=.fields (ps++more)}∧TriplesOk (ps++more).toList:=by
  rcases r.tj _ (by rw[J.tj];exact t1)with z|⟨_,_,vs,more,⟨z3,z5⟩,z4⟩
  ·rw[J.tj]at z
   exact al (#[]) (by simpa using z) (by simpa using t2)
  ·cases z3
   rw[J.tj]at z4
   exact al more z4 (z5 t2)
 refine ah tab λmore g873 tr=>?_
 have isC:s.heap.IsCode 877 873 (ps++more):=⟨_,_,_,_,_,_,_,_,_,_,g877,Bi _,Hh _,G7 _,IH _,Hg _,Hz _,g873,rfl,tr,by decide⟩
 have isT:s.heap.TableAt 877 873 (ps++more):=⟨dP _ _ g877 (EW _) (Bi _) (E0 _),g873⟩
 cases hf:codeAmong pos (ps++more).toList with
 |some c'=>exact wpAny_genexprCode_hit hcode isC hf (h c' s.heap s.toks (λ_ _ e _=>e) (ZA _) ⟨_,g873⟩ r)
 |none=>
  refine wpAny_genexprCodeX hcode isC isT hf λc' h' tk hx hge hlt hc' _ ht' _=>?_
  have kk:∀b o,s.heap.get? b=some o→b≠873→h'.get? b=some o:= λb o e hne=>hx b o hne e
  refine h _ h' tk kk (Z2 hge (Nat.le_of_lt hlt)) ⟨_,ht'.2⟩ ⟨λi ao e=>?_,r.inj,r.up,λb o e t=>kk b o (r.base b o e t) (by rw[←J.tj];exact t),λo e=>?_⟩
  ·refine ah (r.at_ i ao e) λob z1 z2=>?_
   refine al ob (kk _ _ z1 ?_) z2
   intro q
   have:=r.up i (aq e)
   rw[q,t1]at this;cases this
  ·rw[J.tj]at e
   rw[t1]at e;cases e
   have z:h'.get? 873=some {cls:=.none,data:=.fields (ps++(more++ #[rawInt pos.line,rawInt pos.col,.ref c']))}:=by rw[←Array.append_assoc];exact ht'.2
   refine .inr (bS ict rfl ps (more++ #[rawInt pos.line,rawInt pos.col,.ref c']) ⟨rfl,λ_=>?_⟩ (by rw[J.tj];exact z))
   refine bp λGz kz=>?_
   obtain⟨_,_,_,_,_,_,_,_,_,op,_,_,_,_,_,_,_,y1,y2,y3,_⟩:=hc'
   refine kz ?_
   rw[ht'.2]at y1
   cases y1
   rw[←Array.append_assoc]
   exact y3
noncomputable def Gl:=cV bJ 32
noncomputable def BL:=kr bJ 32
theorem De:dG P 878 Gl BL:=by constructor<;>w_on
theorem CQ(x:Value)(S:Setting):peek (Kx P) S (bindArgs (dw P 878) ⟨[x],[]⟩)=some [(("split_command":Str),x)]:=by w_on
theorem EJ:(dw P 878).code=.ref 877:=by w_on
noncomputable def IA:Fs:=⟨BL,[]⟩
theorem Dt:IA.scope.kind=.function:=by w_on
theorem jO{names:List (Str×NameKind)}{kd:NameKind}(h:(names.all λx=>x.2 != kd)=true):∀y∈names,y.2≠kd:= λy hy=>by
 have:=ZF.mp h y hy
 simpa using this
theorem mE(n:Nat):passing (λ_=>true) n 0=ZG n:=by
 unfold passing
 rw[List.drop_zero,List.filter_eq_self]
 exact λ_ _=>rfl
theorem y6(h:cG ρ n (xs.map .str) its){v:Value}(e:its[i]?=some v):∃x t,xs[i]?=some x∧v=.str x t:=by
 have il:i<xs.length:=by
  have:=aq e
  have l:=aH h
  simp at l;lia
 refine ah (fp h (i:=i) (a:=.str xs[i]) (by simp[il])) λy h1 h2=>?_
 rw[e]at h1;cases h1
 refine lU h2 λt=>?_
 exact cI (xs[i]) t (zG il) rfl
theorem yp(J:c.GoJ){q0:Nat}{p0 gpos:Pos}
  (hF:F.scope.kind=.function)(hv:F.scope.names.lookup ("split_command":Str)=some .local)(hlo:loc.lookup ("split_command":Str)=some (.obj j))(hj:H[j]?=some (.list (xs.map .str)))(hx:∀x∈xs,x∈names)(hn:xs.length≤100)
  (hco:sc.isCoroutine=false)(hfree:closureFor sc env=pure [])(hcell:∀y∈sc.names,y.2≠.cell)(h0:sc.names.lookup (".0":Str)=some NameKind.local)(ha:sc.names.lookup ("arg":Str)=some .local)(hqt:sc.names.lookup ("quote":Str)=some .globalImplicit)(hsk:sc.kind=.function)
  (he:eval (.Call (.Attribute (.Constant (.str " ") q0 p0) "join" apos) [.GeneratorExp (.Call (.Name "quote" p1) [.Name "arg" p2] [] p3) [⟨.Name "arg" p4,.Name "split_command" p5,[],0⟩] sc gpos] [] pos) env=(do
   let ov←eval (.Constant (.str " ") q0 p0) env
   standAt apos.atName
   let(f,first)←holding [ov] (getMethod ov "join" (gD (.Constant (.str " ") q0 p0) env))
   callWith pos f first (backTo pos (starEach [.GeneratorExp (.Call (.Name "quote" p1) [.Name "arg" p2] [] p3) [⟨.Name "arg" p4,.Name "split_command" p5,[],0⟩] sc gpos] env)) []))
  (hcode:env.code=.ref 877)(K:cN (k+101) A)(r:aW c A F ρ ⟨loc,H⟩ s env)
  (q:∀ρ' s' x,aW c A F ρ' ⟨loc,H⟩ s' env→aM c ρ H.length (· =env.locals) s ρ' H.length s'→VR ρ' H.length (.str (Txt.join " " (xs.map qf))) x→Q x s'):
  wpAny c.M A (eval (.Call (.Attribute (.Constant (.str " ") q0 p0) "join" apos) [.GeneratorExp (.Call (.Name "quote" p1) [.Name "arg" p2] [] p3) [⟨.Name "arg" p4,.Name "split_command" p5,[],0⟩] sc gpos] [] pos) env) Q E s:=by
 have G:=J.go
 have O:=G.ok
 have hh:A.handled=none:=K.2.2 (by lia)
 rw[he]
 refine YC (Calls.Constant_str (YC (YG (YC (YF ?_)))))
 refine getMethod_builtin (typeIs_str _ _ _) PySem.F.plainAttrs_str PySem.F.slot_str_join PySem.F.type_str_join (λa e=>by cases e) ?_
 refine cy ?_
 refine Calls.evalArgs_plain (x:=eval (.GeneratorExp (.Call (.Name "quote" p1) [.Name "arg" p2] [] p3) [⟨.Name "arg" p4,.Name "split_command" p5,[],0⟩] sc gpos) env) (rest:=[]) ?_
 refine Calls.spliced_cons ?_
 refine wpAny_GeneratorExp_walksQD (cl:=[]) hh hco hfree hcell h0 ha hsk K.depth ?_ (λ_=>rfl)
 refine(aa (c:=c) (k:=k+101) (σ:=⟨loc,H⟩) hF hv hlo) A ρ _ env _ E K (r.toks _) λρ1 s1 xv r1 st1 vx=>?_
 refine bp λGz kz=>?_
 refine aV vx ?_;clear vx;intro jl z0;subst z0
 refine br (r1.list hj) λits hl hv1 _=>?_
 have jlt:ρ1 j<s1.heap.objs.size:=by refine ah hl λo e _=>?_;exact ZB e
 have gt873:mainGlobals≠873:=by rw[←J.tj];exact O.gt
 obtain⟨o873,e873⟩:∃o,c.h₁.get? 873=some o:=by refine ah (J.tab) λps z _=>?_;exact⟨_,z⟩
 obtain⟨o8,e8⟩:∃o,s1.heap.get? 873=some o:=by have:=r1.hr.tj.there (o:=o873) (by rw[J.tj];exact e873);rw[J.tj]at this;exact this
 refine kz ?_
 have lt8:873<s1.heap.objs.size:=ZB e8
 have locne:env.locals≠873:=by rw[←J.tj];exact r1.ne_tj O
 refine wpAny_pyIter_list hl ⟨(r1.hr.lim O).push _,?_⟩
 refine xT J (r1.hr.push _) hcode λcode h3 tk3 k3 sz3 t3 hr3=>?_
 rw[Zo]at sz3
 have kA:∀b o,s1.heap.get? b=some o→b≠873→h3.get? b=some o:= λb o e hne=>k3 b o (zH _ e) hne
 have X3:=hr3.X O
 have g3:h3.Ns mainGlobals c.mg:=fY hr3.base O.g O.gt
 have b3:h3.Ns builtinsNs c.mb:=fY hr3.base O.b O.bt
 have l3:=hr3.lim O
 refine bp λGz kz=>?_
 obtain⟨bm,ob,m1,m2,m3,m4,m5,m6,m7⟩:=J.bmod
 refine kz ?_
 have bmh:h3.get? bm=some ob:=hr3.base bm ob m3 m7
 refine wpAny_builtinsFor (m:=c.mg) (by rw[r1.gl];exact g3) m1 m2 bmh m4 m5 m6 ?_
 have it3:h3.get? s1.heap.objs.size=some {cls:=.type "list_iterator",data:=.fields #[.ref (ρ1 j),.int 0 0]}:=k3 _ _ (ZN _ rfl) (Nat.ne_of_gt lt8)
 have ls3:h3.IsList (ρ1 j) ⟨its⟩:=by
  refine ah hl λo e z=>?_
  refine al o (kA _ _ e ?_) z
  intro q
  have:=r1.hr.up j jl
  rw[q,e873]at this;cases this
 have IZ:s1.heap.objs.size<h3.objs.size:=ZB it3
 refine⟨s1.heap.objs.size,[s1.heap.objs.size,ρ1 j],[s1.heap.objs.size],its.length,(λi v=>(⟨its⟩:Array Value)[i]?=some v),(λi h=>h.IsListIter s1.heap.objs.size (ρ1 j) i∧h.IsList (ρ1 j) ⟨its⟩),(λ_=>true),(λi y=>∃u,y=.str (qf (xs.getD i "")) u),rfl,(λA' hA=>Walks.list hA _ _ (Z6 jlt) ⟨its⟩),⟨bO _ it3 rfl rfl,ls3⟩,?_,l3,?_,?_,?_⟩
 ·intro b hb
  show b<h3.objs.size
  rcases ZH.mp hb with rfl|hb
  ·exact IZ
  ·rcases ZH.mp hb with rfl|hb
   ·exact Nat.lt_trans jlt IZ
   ·cases hb
 ·intro hm
  rcases ZH.mp hm with e|hb
  ·refine ah (r1.hr.lim O) λmc z1 _=>?_
   have:=z1.lt
   rw[e]at this;exact ZJ _ this
  ·cases hb
 ·intro href hhref
  have szle:∀b o,h3.get? b=some o→b∈ZG h3.objs.size:= λb o e=>ZP.mpr (ZB e)
  refine⟨λA' E' i v s₂ m₂ hA hD hU hP hns hm hk=>?_,λA' E' i v s₂ m₂ hA hD hU hP hpz hns hm hk=>?_⟩
  ·rw[YA]
   exact YD ⟨rfl,s₂.heap,s₂.toks,rfl,λ_ _ e=>e⟩
  ·have hP':its[i]?=some v:=by simpa using hP
   refine dk (y6 hv1 hP') λx t e1 z0=>?_;subst z0
   have up:∀b o,h3.get? b=some o→b≠s1.heap.objs.size→s₂.heap.get? b=some o:= λb o e hne=>hk b (szle b o e) (λhm=>by
    rcases ZH.mp hm with z|z
    ·exact hne z
    ·cases z) o (hhref b o e)
   have nI:∀b o,c.h₁.get? b=some o→b≠s1.heap.objs.size:= λb o e q=>by rw[q]at e;exact r1.hr.nosz o e
   have nsT:∀a m,a≠s1.heap.objs.size→h3.Ns a m→s₂.heap.Ns a m:= λa m hne z=>let⟨o,es,ep,e,rest⟩:=z;(bh o es ep (up _ _ e hne) rest)
   have bsz:∀a m,c.h₁.Ns a m→a≠s1.heap.objs.size:= λa m z=>let⟨o,es,ep,e,_⟩:=z;nI a o e
   have nC:∀a o,h3.get? a=some o→a≠h3.objs.size:= λa o e q=>by have:=ZB e;rw[q]at this;exact ZJ _ this
   have nCn:∀a m,h3.Ns a m→a≠h3.objs.size:= λa m z=>let⟨o,es,ep,e,_⟩:=z;nC a o e
   have lim2:s₂.heap.NoLimit:=by
    refine ah l3 λmc z1 z2=>?_
    refine ah (O.lim) λmc0 y1 _=>?_
    exact al mc (nsT _ _ (bsz _ _ y1) z1) z2
   have dep:=K.1
   have uni:=K.2.1
   have z:=yt (c:=c) (cenv:=genEnv sc [] h3.objs.size code builtinsNs env) (A':=A') (s₂:=s₂) (m₂:=m₂) (x:=x) (t:=t) (p1:=p1) (p2:=p2) (pos:=p3) (E':=E') G hns hm (hx x (Zg e1)) hsk ha hqt r1.gl
    (λa o e=>up a o (X3 a o e) (nI a o (O.X a o e))) (nsT _ _ (bsz _ _ O.g) g3) (nsT _ _ (bsz _ _ O.b) b3) lim2
    (by cases z:c.K.lookup h3.objs.size with|none=>exact z|some o=>exact absurd rfl (nC _ _ (X3 _ _ z))) (nCn _ _ g3) (nCn _ _ b3) (by refine ah l3 λmc z1 _=>?_;exact nCn _ _ z1)
    (by lia) (by lia)
   refine YE z (λy s₃ hy=>⟨?_,hy.2⟩) λ_ _ z=>z
   rw[List.getD_eq_getElem?_getD,e1]
   exact hy.1
 ·intro a h5 tk gs hgb hag hsz5 hk5 W hat
  refine Calls.spliced_nil ⟨⟨.machine,Looks.of_pure rfl⟩,?_⟩
  refine ah (r1.lo) λm hm hml=>?_
  have hm5:h5.Ns env.locals m:=let⟨o,es,ep,e,rest⟩:=hm;(bh o es ep (hk5 _ _ (kA _ _ e locne)) rest)
  have ln:its.length=xs.length:=by have:=aH hv1;simpa using this
  have ab:AllBare s1.gens:=by have z:=r1.ge;rw[J.gq]at z;exact z
  have len:(passing (λ_=>true) its.length 0).length=xs.length:=by rw[mE,List.length_range,ln]
  have tx:(ZG (passing (λ_=>true) its.length 0).length).map (λi=>qf (xs.getD i ""))=xs.map qf:=by
   rw[len]
   apply List.ext_getElem?
   intro i
   by_cases hi:i<xs.length
   ·simp[hi,zG hi]
   ·simp[hi]
  refine join_rowsK (L:=env.locals) (K:=s1.heap.objs.size - 1) (m:=m) (mx hm5) (ab.push hgb) ⟨_,_,_,_,W,hat,(λi s' st=>st.1.typeIs),List.mem_cons_self,?_,?_⟩ (Nat.le_sub_one_of_lt hm.lt) (λi=>qf (xs.getD i "")) ?_ ?_ ?_ (by rw[len];unfold sizeLine;lia)
  ·intro b hb
   show b<h5.objs.size
   rw[hsz5]
   rcases ZH.mp hb with rfl|hb
   ·exact Za _
   ·rcases ZH.mp hb with rfl|hb
    ·exact Zd hag
    ·exact Zd (Nat.lt_trans (ZP.mp hb) hag)
  ·intro b hb
   rcases ZH.mp hb with rfl|hb
   ·show s1.heap.objs.size - 1<h3.objs.size;lia
   ·rcases ZH.mp hb with rfl|hb
    ·exact Nat.sub_lt (Nat.lt_of_le_of_lt (Zl _) lt8) Nat.one_pos
    ·cases hb
  ·intro i v ⟨i',e1,u,e2⟩
   rw[mE]at e1
   have:i'=i:=by
    have il:=aq e1
    rw[zG il]at e1
    simp at e1
    exact e1.symm
   subst this
   exact⟨u,e2⟩
  ·rw[tx]
   refine joinOk_of_weight ?_ (by decide)
   have b1:∀ys:List Str,(∀x∈ys,x∈names)→((ys.map qf).map (·.length)).sum≤20*ys.length:=by
    intro ys
    induction ys with
    |nil=>intro _;simp
    |cons y ys ih=>
     intro h
     have h1:=ih λx hx=>h x (.tail _ hx)
     have h2:∀x∈names,(qf x).length≤20:=by decide+kernel
     have h3:=h2 y (h y (.head _))
     simp only[ZZ,List.sum_cons,Zk]
     lia
   have:=b1 xs hx
   rw[ZS]
   lia
  ·intro s' t' _ ab' os' kk
   rw[tx]
   have lts:∀b o,s1.heap.get? b=some o→b≤s1.heap.objs.size - 1:= λb o e=>Nat.le_sub_one_of_lt (ZB e)
   have k5:∀b o,s1.heap.get? b=some o→b≠873→s'.heap.get? b=some o:= λb o e hne=>kk b o (lts b o e) (hk5 b o (kA b o e hne))
   have hr':eE c ρ1 H s'.heap:=by
    refine⟨λi ao e=>?_,r1.hr.inj,r1.hr.up,λb o e t=>k5 b o (r1.hr.base b o e t) (by rw[←J.tj];exact t),λo e=>?_⟩
    ·refine ah (r1.hr.at_ i ao e) λob z1 z2=>?_
     refine al ob (k5 _ _ z1 ?_) z2
     intro q
     have:=r1.hr.up i (aq e)
     rw[q,e873]at this;cases this
    ·have up:∀o,h3.get? c.tj=some o→s'.heap.get? c.tj=some o:= λo z=>kk _ _ (by rw[J.tj];exact lts _ _ e8) (hk5 _ _ z)
     exact(hr3.tj o e).imp (λz=>up _ z) λ⟨z1,z2,vs,more,z3,z4⟩=>bS z1 z2 vs more z3 (up _ z4)
   refine cc t3 λo3 t3=>?_
   have ex':∀b o,s1.heap.get? b=some o→∃o',s'.heap.get? b=some o':= λb o e=>by
    by_cases hb:b=873
    ·subst hb;exact⟨o3,kk _ _ (lts _ _ e8) (hk5 _ _ t3)⟩
    ·exact⟨o,k5 b o e hb⟩
   have st':aM c ρ1 H.length (λ_=>False) s1 ρ1 H.length s':=
    ⟨λ_ _=>rfl,ZA _,λi h1 h2=>absurd h2 (ZX.mpr h1),⟨ex',λb o e t _ _=>al o (k5 b o e (by rw[←J.tj];exact t)) .refl⟩,os'⟩
   refine aV (r1.after (s':=s') O hr' (by rw[J.gq];exact ab') st') λr' stt=>?_
   exact q ρ1 s' _ r' (((aM.toks _).trans st1).trans stt) ⟨t',rfl⟩
theorem DY(J:c.GoJ)(hj:H[j]?=some (.list (xs.map .str)))(hx:∀x∈xs,x∈names)(hn:xs.length≤100):Fn c (k+102) (.ref 878) [.obj j] [] H (.str (Txt.join " " (xs.map qf))) H:=by
 have G:=J.go
 have X:=De c.w.params
 have e:=X.se
 refine Ef (fd:=dw c.w.params 878) (loc:=[("split_command",.obj j)]) (fl:=.ret (.str (Txt.join " " (xs.map qf)))) (H1:=H) (loc':=[("split_command",.obj j)]) G.ok (by rw[G.hK];exact X.lk) (by rw[G.hK];exact X.cd) X.bd X.cl X.gl X.bl (λx hx=>?_) (by rw[e];exact X.co) (by rw[e];exact X.ge) (by rw[e];exact X.ki) (by w_on) (by rw[e];w_on) ?_ ?_
 ·rw[e]at hx
  have:=ZF.mp X.ce x hx
  simpa using this
 ·refine tZ (λρ m s xs ks X hx hk=>?_) G.ok
  refine mC hx hk λ_ hx=>?_
  rw[G.hK]at X
  refine al [("split_command",_)] (@bB _ _ _ _ _ X ?_) (.cons hx .nil)
  exact CQ _ _
 ·intro A ρ s L Q E K r q
  rw[e]at r q
  have hcode:(callEnv (dw c.w.params 878) L 878).code=.ref 877:=EJ c.w.params
  generalize callEnv (dw c.w.params 878) L 878=env at*
  k_dflt refine' YH (wpAny_Return_some (yp (F:=IA) J Dt rfl rfl hj hx hn rfl ?_ ?_ rfl rfl rfl rfl rfl hcode K r λρ' s' x r' st' vx=>?_))
  ·exact closureFor_none (jO (by w_on))
  ·exact jO (by w_on)
  ·exact q ρ' s' _ r' st' (al x rfl vx)
theorem Al{c:Prop} [Decidable c]{x y:α}{e:Option α}{G:Prop}(h:(if c then some x else e)=some y)(k:c→x=y→G)(l:e=some y→G):G:=by
 split at h
 ·exact k ‹_› (Option.some.inj h)
 ·exact l h
theorem Gi{c:Prop} [Decidable c]{y:α}{e:Option α}(h:(if c then e else none)=some y):c∧e=some y:=by
 split at h
 ·exact⟨‹_›,h⟩
 ·cases h
noncomputable def Fg(W y t:Str)(q:Bool)(ch:Str):Option (Str×Str×Bool):=
 if y=(" ":Str)∧gS ch " \t\r\n"=false∧gS ch ""=false∧gS ch "\\"=false∧gS ch W=true then some ("a",ch,q)
 else if y=(" ":Str)∧gS ch " \t\r\n"=false∧gS ch ""=false∧gS ch "\\"=false∧gS ch W=false∧gS ch "'\""=true then some (ch,t,q)
 else if y=("a":Str)∧gS ch " \t\r\n"=false∧gS ch ""=false∧gS ch "'\""=true then some (ch,t,q)
 else if(y.cps.toList==(" ":Str).cps.toList)=false∧gS y "'\""=true∧(ch.cps.toList==y.cps.toList)=true then some ("a",t,true)
 else if(y.cps.toList==(" ":Str).cps.toList)=false∧gS y "'\""=true∧(ch.cps.toList==y.cps.toList)=false∧gS ch "\\"=false∧(t++ch).length≤sizeLine∧(t.length≠0∨t++ch=ch)then some (y,t++ch,true)else none
theorem tP{t:Str}{r:Str×Str×Bool}(h:Fg W y t q ch=some r):ue W y t q ch r.1 r.2.1 r.2.2:=by
 refine Al h (λc e=>?_) λh=>Al h (λc e=>?_) λh=>Al h (λc e=>?_) λh=>Al h (λc e=>?_) λh=>Al h (λc e=>?_) λh=>?_
 ·subst e;refine nU c λc0 c1 c2 c3 c4=>?_;subst c0;exact .word c1 c2 c3 c4
 ·subst e;refine m8 c λc0 c1 c2 c3 c4 c5=>?_;subst c0;exact .opn c1 c2 c3 c4 c5
 ·subst e;refine lQ c λc0 c1 c2 c3=>?_;subst c0;exact .again c1 c2 c3
 ·subst e;exact fv c λc1 c2 c3=>.close c1 c2 c3
 ·subst e;exact m8 c λc1 c2 c3 c4 c5 c6=>.inn c1 c2 c3 c4 c5 λz=>c6.elim (λw=>absurd z w) id
 ·cases h
noncomputable def qr(W:Str):List Str→Str→Str→Bool→Option (Str×Str×Bool)
 | [],y,t,q=>some (y,t,q)
 |ch::cs,y,t,q=>if ch.length=1∧(ch.cps.toList==("\n":Str).cps.toList)=false then(Fg W y t q ch).bind λr=>qr W cs r.1 r.2.1 r.2.2 else none
theorem rR:∀{y t:Str}{q:Bool}{r:Str×Str×Bool},qr W cs y t q=some r→jV W y t q cs r.1 r.2.1 r.2.2:=by
 induction cs with
 |nil=>intro y t q r h;have z:=Option.some.inj h;subst z;exact .nil
 |cons ch cs ih=>
  intro y t q r h
  refine aV (Gi h) λc h=>?_
  refine ah (Option.bind_eq_some_iff.mp h) λz e1 e2=>?_
  exact .cons c.1 c.2 (tP e1) (ih e2)
noncomputable def qu(buf:Str):List Str→Nat→Bool
 | [],_=>true
 |ch::cs,p=>decide (p<buf.length)&&(decide ((⟨#[buf.cps.getD p 0]⟩:Str)=ch)&&qu buf cs (p+1))
theorem lz:∀{p:Nat},qu buf cs p=true→j8 buf p cs:=by
 induction cs with
 |nil=>intro p h;trivial
 |cons ch cs ih=>
  intro p h
  refine aV (ZM.mp h) λh1 h=>?_
  refine aV (ZM.mp h) λh2 h3=>?_
  have h1:=of_decide_eq_true h1
  have z:=slice_one_closes (x:=buf) (n:=(p:Int)) (Int.natCast_nonneg p) (Int.ofNat_lt.mpr h1)
  rw[beq_iff_eq]at z
  exact⟨Int.ofNat_lt.mpr h1,z.trans (of_decide_eq_true h2),ih h3⟩
noncomputable def Ju(W:Str)(x:List Str×Str):Bool:=decide (x.2.length≠0)&&(match qr W x.1 " " "" false with|some r=>decide (r.1=("a":Str))&&decide (r.2.1=x.2)|none=>false)
noncomputable def Jk(W buf:Str):List (List Str×Str)→Nat→Bool
 | [],_=>false
 |x::l,p=>Ju W x&&(if l=[]then qu buf x.1 p&&decide (buf.length=p+x.1.length)
  else qu buf (x.1++[(" ":Str)]) p&&(decide (x.2.length<2 ^ 20)&&Jk W buf l (p+x.1.length+1)))
theorem uu{x:List Str×Str}(h:Ju W x=true):x.2.length≠0∧∃q,jV W " " "" false x.1 "a" x.2 q:=by
 refine aV (ZM.mp h) λh0 h=>?_
 refine⟨of_decide_eq_true h0,?_⟩
 cases e:qr W x.1 " " "" false with
 |none=>rw[e]at h;cases h
 |some r=>
  rw[e]at h
  refine aV (ZM.mp h) λh1 h2=>?_
  have z:=rR e
  rw[of_decide_eq_true h1,of_decide_eq_true h2]at z
  exact⟨r.2.2,z⟩
theorem ym{l:List (List Str×Str)}:∀{p:Nat},Jk W buf l p=true→Rd W buf p (l.map (·.2)):=by
 induction l with
 |nil=>intro p h;cases h
 |cons x l ih=>
  intro p h
  refine aV (ZM.mp h) λh1 h=>?_
  refine FK (uu h1) λh0 q ht=>?_
  cases l with
  |nil=>
   refine aV (ZM.mp h) λh2 h3=>?_
   exact .last ht (lz h2) (by rw[of_decide_eq_true h3];rfl) h0
  |cons y l=>
   refine aV (ZM.mp h) λh2 h=>?_
   refine aV (ZM.mp h) λh3 h4=>?_
   exact .more ht (lz h2) h0 (of_decide_eq_true h3) (ih h4)
noncomputable def xp(x:Str):List Str:=x.cps.toList.map λcp=>⟨#[cp]⟩
noncomputable def gy(i:Nat)(b:List Bool):List Str:=names.getD i ""::((names.take i).zip b).filterMap λp=>if p.2 then some p.1 else none
noncomputable def cg:Nat→List (List Bool)
 |0=>[[]]
 |n+1=>(cg n).flatMap λl=>[false::l,true::l]
theorem mm:∀{n:Nat}{b:List Bool},b.length=n→b∈cg n
 |0,[],_=>by simp[cg]
 |n+1,x::b,h=>by
  have:=mm (n:=n) (b:=b) (by simpa using h)
  simp only[cg,List.mem_flatMap]
  exact al b this (by cases x<;>simp)
noncomputable def aS(xs:List Str):Str:=Txt.join " " (xs.map qf)
theorem D9:∀i∈ZG 5,∀b∈cg i,(Jk WW (aS (gy i b)) ((gy i b).map λx=>(xp (qf x),x)) 0&&(aS (gy i b)).length<1000&&(gy i b).all (names.contains ·)&&!((aS (gy i b)).cps.toList.contains 10))=true:=by decide+kernel
theorem v8{c:Nat}:∀{a b x y:List Nat},c∉a→c∉b→a++c::x=b++c::y→a=b∧x=y
 | [],[],x,y,_,_,h=>⟨rfl,by simpa using h⟩
 | [],k::b,x,y,_,hb,h=>by
  simp only[List.nil_append,List.cons_append,List.cons.injEq]at h
  exact absurd (h.1▸List.mem_cons_self) hb
 |k::a,[],x,y,ha,_,h=>by
  simp only[List.nil_append,List.cons_append,List.cons.injEq]at h
  exact absurd (h.1▸List.mem_cons_self) ha
 |k::a,l::b,x,y,ha,hb,h=>by
  simp only[List.cons_append,List.cons.injEq]at h
  refine aV (v8 (λz=>ha (.tail _ z)) (λz=>hb (.tail _ z)) h.2) λh1 h2=>?_
  exact⟨by rw[h.1,h1],h2⟩
theorem ik(c:Nat)(p q:Str)(r:List Str):(Str.join ⟨#[c]⟩ (p::q::r)).cps.toList=p.cps.toList++c::(Str.join ⟨#[c]⟩ (q::r)).cps.toList:=by
 show(p++⟨#[c]⟩++Str.join ⟨#[c]⟩ (q::r)).cps.toList=_
 simp only[Str.cps_append,Array.toList_append]
 simp
theorem wY{a b:Str}(h:a.cps.toList=b.cps.toList):a=b:=by
 obtain⟨x⟩:=a;obtain⟨y⟩:=b
 congr 1
 exact Array.toList_inj.mp h
theorem sO(c:Nat):∀{ts us:List Str},ts≠[]→us≠[]→(∀p∈ts,c∉p.cps.toList)→(∀p∈us,c∉p.cps.toList)→Str.join ⟨#[c]⟩ ts=Str.join ⟨#[c]⟩ us→ts=us
 | [],_,h,_,_,_,_=>absurd rfl h
 |_,[],_,h,_,_,_=>absurd rfl h
 | [p],[q],_,_,_,_,h=>by have:p=q:=h;rw[this]
 | [p],q::q2::r,_,_,hp,_,h=>by
  have:=congrArg (λs:Str=>s.cps.toList) h
  rw[ik]at this
  exact absurd (by rw[show(Str.join ⟨#[c]⟩ [p]).cps.toList=p.cps.toList from rfl]at this;rw[this];simp) (hp p (.head _))
 |p::p2::r,[q],_,_,_,hq,h=>by
  have:=congrArg (λs:Str=>s.cps.toList) h
  rw[ik]at this
  exact absurd (by rw[show(Str.join ⟨#[c]⟩ [q]).cps.toList=q.cps.toList from rfl]at this;rw[←this];simp) (hq q (.head _))
 |p::p2::r,q::q2::r',_,_,hp,hq,h=>by
  have:=congrArg (λs:Str=>s.cps.toList) h
  rw[ik,ik]at this
  refine aV (v8 (hp p (.head _)) (hq q (.head _)) this) λh1 h2=>?_
  have ih:=sO c (ts:=p2::r) (us:=q2::r') (by simp) (by simp) (λx hx=>hp x (.tail _ hx)) (λx hx=>hq x (.tail _ hx)) (wY h2)
  rw[wY h1,ih]
theorem AL(x y:Str):Txt.split x y≠[]:=by
 unfold Txt.split
 split
 ·simp
 ·split
  ·simp
  ·rw[StrLaws.partsBetween_eq]
   refine mW (StrLaws.partsFrom_ne x y.length 0 (Builtin.Str.occurrences x y 0 x.length (x.length+1))) λp r e=>?_
   rw[e];simp
theorem u6(c:Nat){ts:List Str}(h1:ts≠[])(h2:∀p∈ts,c∉p.cps.toList):Txt.split (Txt.join ⟨#[c]⟩ ts) ⟨#[c]⟩=ts:=by
 refine sO c (AL _ _) h1 (StrLaws.split_free _ c) h2 ?_
 rw[StrLaws.join_split]
 exact StrLaws.glued_eq_join _ _
def GM(c:Cx)(F:Fs)(a:AV)(σ:St)(name:Str)(id:String):Prop:=
 ∀{A:Around}{ρ:Nat→Addr}{s:Shared}{env:Env}{x:Value}{pl:Sem Bool}{Q:Value×List Value→Shared→Prop}{E:Value→Shared→Prop},aW c A F ρ σ s env→VR ρ σ.H.length a x→Q (.builtin id,[x]) s→wpAny c.M A (getMethod x name pl) Q E s
theorem zX(slot:Slot "str" name id)(hty:typeOf (.builtin id)=pure (.type "method_descriptor")):GM c F (.str x) σ name id:= λ{A ρ s env y pl Q E} r hx q=>by
 refine cc hx ?_;clear hx;intro t z0;subst z0
 exact getMethod_builtin (typeIs_str _ x t) PySem.F.plainAttrs_str slot hty (λa e=>by cases e) q
theorem dp(slot:Slot "list" name id)(hty:typeOf (.builtin id)=pure (.type "method_descriptor"))(hj:σ.H[j]?=some (.list vs)):GM c F (.obj j) σ name id:= λ{A ρ s env y pl Q E} r hx q=>by
 refine aV hx ?_;clear hx;intro _ z0;subst z0
 refine br (r.list hj) λits h1 _ h3=>?_
 exact getMethod_list_of slot hty h1 h3 q
theorem d9{o:Expr}{args:List Expr}
  (he:∀env,eval (.Call (.Attribute o name apos) args [] pos) env=(do
   let ov←eval o env
   standAt apos.atName
   let(f,first)←holding [ov] (getMethod ov name (gD o env))
   callWith pos f first (backTo pos (starEach args env)) []))
  (h0:Ev c F k o σ a σ₁)(hg:GM c F a σ₁ name id)(ha:da c (.builtin id) pos args)(h1:Ag c F k pos args σ₁ vs σ₂)(h2:cK c F k (λxs=>call (.builtin id) xs) (a::vs) σ₂ v σ₃):Ev c F k (.Call (.Attribute o name apos) args [] pos) σ v σ₃:= λA ρ s env Q E K r h=>by
 rw[he env]
 refine YC (h0 A ρ s env _ E K r λρ1 s1 x r1 st1 vx=>YC (YG (YC (YF (hg r1 vx ?_)))))
 refine cy (ha A env _ E s1 (h1 A ρ1 s1 env _ E K r1 λρ2 s2 xs r2 st2 vxs=>⟨⟨.machine,Looks.of_pure rfl⟩,?_⟩))
 exact h2 A ρ2 s2 env _ E (x::xs) K r2 (.cons (st2.vr vx) vxs) λρ3 s3 z r3 st3 vz=>h ρ3 s3 z r3 ((st1.trans st2).trans st3) vz
theorem eQ(hj:σ.H[j]?=some (.list acc))(hz:acc.length<999):cK c F k (λxs=>call (.builtin "list.append") xs) [.obj j,v] σ .none ⟨σ.loc,σ.H.set j (.list (acc++[v]))⟩:= λA ρ s env Q E xs K r hx q=>by
 cases hx with
 |cons h1 h2=>
  refine lW h2 λ_ h2=>?_
  refine iR h1 λ_=>?_
  exact kN r hj hz h2 λs' r' st'=>q ρ s' _ r' st' rfl
theorem kY{ρ:Nat→Addr}{n:Nat}:∀(t:Nat)(xs:List Str),cG ρ n (xs.map .str) (strsFrom t xs)
 |_,[]=>.nil
 |t,x::r=>.cons ⟨t,rfl⟩ (kY (t+1) r)
theorem kC{vs:List Value}(r:aW c A F ρ σ s env)(hv:∀ρ n,cG ρ n (xs.map .str) vs)
  (q:∀ρ' s' x,aW c A F ρ' ⟨σ.loc,σ.H++[.list (xs.map .str)]⟩ s' env→aM c ρ σ.H.length (· =env.locals) s ρ' (σ.H++[AO.list (xs.map .str)]).length s'→VR ρ' (σ.H++[AO.list (xs.map .str)]).length (.obj σ.H.length) x→Q x s'):
  Q (.ref s.heap.objs.size) {s with heap:=s.heap.push {cls:=.type "list",data:=.seq vs.toArray},toks:=tk}:=by
 refine aV (r.alloc (ao:=.list (xs.map .str)) (ob:={cls:=.type "list",data:=.seq vs.toArray}) tk rfl (cI vs _ rfl (hv _ _))) λr1 st1=>?_
 exact q _ _ _ r1 st1 ⟨by simp,by rw[aF]⟩
theorem AC(hy:(y.length==0)=false)(hx:x.length≤sizeLine)(hn:(Builtin.Str.partsBetween x (Builtin.Str.occurrences x y 0 x.length (x.length+1)) y.length).length≤sizeLine):
  cK c F k (λxs=>call (.builtin "str.split") xs) [.str x,.str y] σ (.obj σ.H.length) ⟨σ.loc,σ.H++[.list ((Txt.split x y).map .str)]⟩:= λA ρ s env Q E xs K r hxs q=>by
 cases hxs with
 |cons h1 h2=>
  refine lW h2 λ_ h2=>?_
  refine lU h1 λt=>?_
  refine lU h2 λu=>?_
  cases h1:(decide (x.length<y.length)||decide (Builtin.Str.strKind x<Builtin.Str.strKind y))with
  |true=>
   have e:Txt.split x y=[x]:=if_pos h1
   rw[e]at q
   exact call_meets PySem.F.slot_str_split (typeIs_str _ _ _) PySem.F.entry_str_split (PySem.F.args_str_split_2 _ _) (meets_str_split_cannot_occur x y t u h1) (kC (tk:=s.toks) (vs:=[.str x t]) (xs:=[x]) r (λ_ _=>.cons ⟨t,rfl⟩ .nil) q)
  |false=>
   cases hf:(Builtin.Str.occurrences x y 0 x.length (x.length+1)).isEmpty with
   |true=>
    have e:Txt.split x y=[x]:=(if_neg (ne_true_of_eq_false h1)).trans (if_pos hf)
    rw[e]at q
    exact call_meets PySem.F.slot_str_split (typeIs_str _ _ _) PySem.F.entry_str_split (PySem.F.args_str_split_2 _ _) (meets_str_split_not_found x y t u h1 hy hf) (kC (tk:=s.toks) (vs:=[.str x t]) (xs:=[x]) r (λ_ _=>.cons ⟨t,rfl⟩ .nil) q)
   |false=>
    have e:Txt.split x y=Builtin.Str.partsBetween x (Builtin.Str.occurrences x y 0 x.length (x.length+1)) y.length:=(if_neg (ne_true_of_eq_false h1)).trans (if_neg (ne_true_of_eq_false hf))
    rw[e]at q
    exact call_meets PySem.F.slot_str_split (typeIs_str _ _ _) PySem.F.entry_str_split (PySem.F.args_str_split_2 _ _) (meets_str_split_sep x y t u h1 hy hf hx hn) (kC r (λ_ _=>kY _ _) q)
theorem cS(h1:(sc.names.all λx=>x.2 != .free)=true)(h2:(sc.names.all λx=>x.2 != .cell)=true)(hk:sc.kind=.function)(h3:(sc.names.lookup (".0":Str)==some .local&&sc.names.all λx=>x.2 != .local||sc.names.lookup x.1==some .local)=true):cz F sc sc []:=by
 rw[Z3]at h3
 refine aV h3 λh0 h3=>?_
 refine⟨λenv g _=>closureFor_none (jO h1),λenv _=>?_,(λp hp=>nomatch hp),hk,λx hx hl=>?_,jO h2,λz=>by rw[z]at h0;cases h0⟩
 ·unfold e7
  have:(sc.names.map λx=>if(x.2== .free&&env.scope.kind== .function&&env.kindOf x.1==some .cell)=true then(x.1,NameKind.cell)else(x.1,x.2))=sc.names:=by
   refine map_eq_self λx hx=>?_
   have:=jO h1 x hx
   have e:(x.2==NameKind.free)=false:=by simpa using this
   rw[e];rfl
  rw[this]
 ·have:=ZF.mp h3 x hx
  rw[hl]at this
  simpa using this
theorem jP:yY c F k [] σ true σ:=⟨rfl,rfl⟩
def oH(H:List AO)(L:Nat)(rows:List (List Str)):Prop:=∃js:List Nat,H[L]?=some (.list (js.map .obj))∧js.length=rows.length∧∀(i j:Nat)(r:List Str),js[i]?=some j→rows[i]?=some r→H[j]?=some (AO.list (r.map .str))
structure jg(r:List Str):Prop where
 rd:Rd WW (aS r) 0 r
 len:(aS r).length<1000
 nm:∀x∈r,x∈names
 nl:10∉(aS r).cps.toList
 sz:r.length<900
theorem zg{b:List Bool}(hi:i<5)(hb:b.length=i):jg (gy i b):=by
 have:=D9 i (ZP.mpr hi) b (mm hb)
 simp only[Z3,decide_eq_true_eq,Bool.not_eq_true',ZF]at this
 refine aV this λz0 h4=>aV z0 λz1 h3=>aV z1 λh1 h2=>?_
 have h1:=ym h1
 rw[Zr,show((·.2)∘ λx=>(xp (qf x),x))=(id:Str→Str)from rfl,List.map_id]at h1
 refine⟨h1,h2,λx hx=>by simpa using h3 x hx,by simpa using h4,?_⟩
 unfold gy
 have:(((names.take i).zip b).filterMap λp=>if p.2 then some p.1 else none).length≤i:=by
  refine Z2 (List.length_filterMap_le _ _) ?_
  simp[hb];lia
 simp only[Zk]
 lia
noncomputable def wG:=cV bJ 38
noncomputable def xz:=kr bJ 38
theorem sy:dG P 896 wG xz:=by constructor<;>w_on
theorem Aa(x:Value)(S:Setting):peek (Kx P) S (bindArgs (dw P 896) ⟨[x],[]⟩)=some [(("text":Str),x)]:=by w_on
theorem Ee:nsIn (Kx P) mainGlobals ("split":Str)=some (some (.ref 871)):=by w_on
theorem G9(S:Setting):peek (Kx P) S (keeperOf (.ref 871))=some .frame:=by w_on
noncomputable def Er:Fs:=⟨xz,[]⟩
theorem Eb:Er.scope.kind=.function:=by w_on
theorem n8(hz:c.rz=true)(G:c.Go){F:Fs}(hk:F.scope.kind=.function)(hrow:F.scope.names.lookup ("row":Str)=some .local)(hsp:F.scope.names.lookup ("split":Str)=some .globalImplicit){gens:List Comprehension}{sc:Scope}{pos p1 p2 p3 p4:Pos}{iter:Expr}{T J:Nat}{texts:List Str}(hg:gens=[⟨.Name "row" p4,iter,[],0⟩])(hTJ:T≠J)(hlt:texts.length<900):
  ∀(rest:List (List Str))(done:List Nat)(i:Nat)(l:List (Str×AV))(H:List AO),(∀r∈rest,jg r)→H[T]?=some (.list (texts.map .str))→H[J]?=some (.list (done.map .obj))→texts.drop i=rest.map aS→done.length=i→
   ∃loc' H' js,CL c F (k+111) (.Call (.Name "split" p1) [.Name "row" p2] [] p3) gens sc pos 0 (aQ T (texts.map .str)) J i ⟨l,H⟩ ⟨loc',H'⟩∧H'[J]?=some (.list ((done++js).map .obj))∧js.length=rest.length∧
    (∀(i j:Nat)(r:List Str),js[i]?=some j→rest[i]?=some r→H'[j]?=some (AO.list (r.map .str))∧j≠J)∧(∀(x:Nat)(o:AO),x≠J→H[x]?=some o→H'[x]?=some o)
 | [],done,i,l,H,_,hT,hJ,hd,hi=>by
  subst hg
  refine cH l H [] (im (σ:=⟨l,H⟩) (I:=aQ T (texts.map .str)) (az) rfl rfl (λ_ _=>rfl) (by lia) hT ?_) (by simpa using hJ) rfl (λi j r h=>by simp at h) λx o _ h=>h
  show(texts.map AV.str)[i]?=none
  rw[ZC]
  have:texts.drop i=[]:=hd
  simp[ZL]at this ⊢
  exact this
 |r::rest,done,i,l,H,hr,hT,hJ,hd,hi=>by
  have ok:=hr r (.head _)
  have hi1:texts[i]?=some (aS r):=by
   have:(texts.drop i)[0]?=some (aS r):=by rw[hd];rfl
   rw[Z1,Zq]at this
   exact this
  have hd1:texts.drop (i+1)=rest.map aS:=by
   have:(texts.drop i).drop 1=rest.map aS:=by rw[hd];rfl
   rw[Zp]at this
   exact this
  have ilt:=aq hi1
  refine bp λGz kz=>?_
  refine cU (Aj (k:=k+1) (H:=H) hz G (ZD ok.len (by decide)) ok.sz ok.rd) λj H1 f1 f2 f3 f4=>?_
  have hJ1:=f3 _ _ hJ
  have Jl:=aq hJ1
  have Jl0:=aq hJ
  have hT1:(H1.set J (.list (done.map .obj++[.obj j])))[T]?=some (.list (texts.map .str)):=ak (f3 _ _ hT) hTJ
  have jJ:j≠J:=by lia
  obtain⟨loc',H',js,c1,c2,c3,c4,c5⟩:=n8 hz G hk hrow hsp hg hTJ hlt rest (done++[j]) (i+1) (aR "row" (.str (aS r)) l) (H1.set J (.list (done.map .obj++[.obj j]))) (λx hx=>hr x (.tail _ hx)) hT1 (by rw[zT Jl];simp) hd1 (by simp[hi])
  refine kz ?_
  subst hg
  refine cH loc' H' (j::js) (fL (a:=.str (aS r)) (v:=.obj j) (σ₁:=⟨aR "row" (.str (aS r)) l,H⟩) (σ₂:=⟨aR "row" (.str (aS r)) l,H⟩) (σ₃:=⟨aR "row" (.str (aS r)) l,H1⟩) (acc:=done.map .obj) (σ:=⟨l,H⟩) (I:=aQ T (texts.map .str)) G.ok (az) rfl rfl (λ_ _=>rfl) hT ?_ (bg hk hrow) jP ?_ hJ1 (by simp;lia) c1) (by simpa using c2) (by simp[c3]) ?_ ?_
  ·show(texts.map AV.str)[i]?=_
   rw[ZK,hi1];rfl
  ·exact fS G.ok (λ_=>rfl) (dB G hk hsp (Ee _)) ⟨_,by rw[G.hK];exact G9 _⟩ (gL (af λ_=>rfl) (am (λ_=>rfl) (aa hk hrow (aj _ _ _)) au)) f1
  ·intro i' j' r' h1 h2
   cases i' with
   |zero=>
    cases h1;cases h2
    exact⟨c5 _ _ jJ (ak f2 jJ),jJ⟩
   |succ i'=>exact c4 i' j' r' h1 h2
  ·intro x o hx h
   exact c5 x o hx (ak (f3 _ _ h) hx)
noncomputable def aI(rows:List (List Str)):Str:=Txt.join "\n" (rows.map aS)
theorem ow{rows:List (List Str)}(h1:rows≠[])(h2:∀r∈rows,jg r):Txt.split (aI rows) "\n"=rows.map aS:=by
 have:("\n":Str)=⟨#[10]⟩:=by decide+kernel
 unfold aI
 rw[this]
 refine u6 10 (by simpa using h1) λp hp=>?_
 refine ah (ZR.mp hp) λr hr z0=>?_;subst z0
 exact(h2 r hr).nl
theorem vJ(kz:∀(sc:Scope)(p1 p2 p3 p4 p5 p6 p7 p8 p9 p10:Pos)(q:Nat),(wG=[.Return (some (.ListComp (.Call (.Name "split" p1) [.Name "row" p2] [] p3) [⟨.Name "row" p4,.Call (.Attribute (.Name "text" p5) "split" p6) [.Constant (.str "\n") q p7] [] p8,[],0⟩] sc p9)) p10]∧
  (∀env,eval (.Call (.Attribute (.Name "text" p5) "split" p6) [.Constant (.str "\n") q p7] [] p8) env=(do
   let ov←eval (.Name "text" p5) env
   standAt p6.atName
   let(f,first)←holding [ov] (getMethod ov "split" (gD (.Name "text" p5) env))
   callWith p8 f first (backTo p8 (starEach [.Constant (.str "\n") q p7] env)) []))∧
  (sc.names.all λx=>x.2 != .free)=true∧(sc.names.all λx=>x.2 != .cell)=true∧sc.kind=.function∧(sc.names.lookup (".0":Str)==some .local&&sc.names.all λx=>x.2 != .local||sc.names.lookup x.1==some .local)=true∧sc.names.lookup ("row":Str)=some .local∧sc.names.lookup ("split":Str)=some .globalImplicit)→Gz):Gz:=kz _ _ _ _ _ _ _ _ _ _ _ _ ⟨by k_dflt rfl,λ_=>rfl,by w_on,by w_on,by w_on,by w_on,by w_on,by w_on⟩
theorem z6(hz:c.rz=true)(G:c.Go){rows:List (List Str)}(h1:rows≠[])(h2:∀r∈rows,jg r)(hn:rows.length<900)(hl:(aI rows).length≤sizeLine)(hp:(Builtin.Str.partsBetween (aI rows) (Builtin.Str.occurrences (aI rows) "\n" 0 (aI rows).length ((aI rows).length+1)) ("\n":Str).length).length≤sizeLine):
  ∃L H',Fn c (k+112) (.ref 896) [.str (aI rows)] [] H (.obj L) H'∧oH H' L rows∧bW H H'∧H.length≤L:=by
 have bs:=ow h1 h2
 refine bp λGz kz=>?_
 refine vJ λsc p1 p2 p3 p4 p5 p6 p7 p8 p9 p10 qq hz_=>?_
 obtain⟨hb,he,s1,s2,s3,s4,k2,k3⟩:=hz_
 have scp:cz Er sc sc []:=cS s1 s2 s3 s4
 have k1:(Fs.mk sc []).scope.kind=.function:=s3
 have l1:(H++[AO.list ((rows.map aS).map .str)]).length=H.length+1:=by simp
 have l2:(H++[AO.list ((rows.map aS).map .str)]++[AO.list []]).length=H.length+2:=by simp
 have hT:(H++[AO.list ((rows.map aS).map .str)]++[AO.list []])[H.length]?=some (.list ((rows.map aS).map .str)):=by
  rw[zL (by rw[l1];lia),zR (ZA _),ZY];rfl
 have hT0:(H++[AO.list ((rows.map aS).map .str)])[H.length]?=some (.list ((rows.map aS).map .str)):=aO
 have hJ:(H++[AO.list ((rows.map aS).map .str)]++[AO.list []])[H.length+1]?=some (.list (([]:List Nat).map .obj)):=by
  rw[zR (by rw[l1];lia),l1,ZY];rfl
 refine cP (n8 (k:=k) (F:=⟨sc,[]⟩) (sc:=sc) (gens:=[⟨.Name "row" p4,.Call (.Attribute (.Name "text" p5) "split" p6) [.Constant (.str "\n") qq p7] [] p8,[],0⟩]) (pos:=p9) (p1:=p1) (p2:=p2) (p3:=p3) hz G k1 k2 k3 (T:=H.length) (J:=H.length+1) (texts:=rows.map aS) rfl (by lia) (by simpa using hn) rows [] 0 [] _ h2 hT hJ rfl rfl) λloc' H' js c1 c2 c3 c4 c5=>?_
 refine kz ?_
 have lt':H.length+1<H'.length:=aq c2
 refine dP (H.length+1) H' ?_ (bO js (by simpa using c2) c3 λi j r h1 h2=>(c4 i j r h1 h2).1) (λi o h=>?_) (by lia)
 ·refine dh (fl:=.ret (.obj (H.length+1))) (loc:=[("text",.str (aI rows))]) G (sy _) (by w_on) (by w_on) (λρ m s xs ks X hx hk=>?_) ?_
  ·refine mC hx hk λ_ hx=>?_
   refine al [("text",_)] (@bB _ _ _ _ _ X ?_) (.cons hx .nil)
   exact Aa _ _
  ·apply aK (loc:=[("text",.str (aI rows))])
   rw[hb]
   have z:=AC (c:=c) (F:=Er) (k:=k+111) (σ:=⟨[("text",.str (aI rows))],H⟩) (x:=aI rows) (y:="\n") (by decide) hl hp
   rw[bs]at z
   have e:=fV (F:=Er) (k:=k+111) (σ:=⟨[("text",.str (aI rows))],H⟩) (σ₁:=⟨[("text",.str (aI rows))],H++[AO.list ((rows.map aS).map .str)]⟩) (I:=aQ H.length ((rows.map aS).map .str)) (loc':=loc') (H':=H') (a:=.obj H.length) (rest:=[]) (ifs:=[]) (target:=.Name "row" p4) (iter:=.Call (.Attribute (.Name "text" p5) "split" p6) [.Constant (.str "\n") qq p7] [] p8) (elt:=.Call (.Name "split" p1) [.Name "row" p2] [] p3) (pos:=p9) G.ok az scp (λ_ _=>rfl)
    (d9 he (aa Eb rfl rfl) (zX PySem.F.slot_str_split PySem.F.type_str_split) (af λ_=>rfl) (am (λ_=>rfl) bn au) z)
    (d6 hT0) hT0 (by show(H++[AO.list ((rows.map aS).map .str)]).length<_;rw[l1];exact lt') (by show CL _ _ _ _ _ _ _ _ _ (H++[AO.list ((rows.map aS).map .str)]).length _ _ _;rw[l1];exact c1)
   dsimp only at e
   rw[l1]at e
   exact bx (aX e)
 ·have il:=aq h
  refine c5 i o (by lia) ?_
  rw[zL (by rw[l1];lia),zL il]
  exact h
noncomputable def Bs:List (Nat×Nat):=[(1,0),(2,0),(2,1),(3,0),(3,1),(3,2),(4,0),(4,1),(4,2),(4,3)]
noncomputable def Gc(p:Nat×Nat):Str×Str:=(names.getD p.1 "",names.getD p.2 "")
noncomputable def CC(a b:Str):Bool:=decide (a.cps.toList<b.cps.toList)
noncomputable def j7(a b:Str×Str):Bool:=if a.1=b.1 then CC a.2 b.2 else CC a.1 b.1
noncomputable def rk(i:Nat):Nat:=[4,8,9,5,6,7,0,1,3,2].getD i 0
noncomputable def iE:List Nat:=[6,7,9,8,0,3,4,5,1,2]
noncomputable def fP(b:List Bool):List Nat:=(ZG 10).filter λi=>b.getD i false
noncomputable def cY{α:Type}(n:Nat)(lt:Nat→Nat→Bool):KasT α→Option α
 | .ret a=>some a
 | .ask i j k=>if i<n∧j<n then cY n lt (k (lt i j))else none
theorem yy{cmp:Nat→Nat→(Bool→Shared→Prop)→Shared→Prop}{lt:Nat→Nat→Bool}(h:∀i j C,i<n→j<n→C (lt i j) s→cmp i j C s){Q:α→Shared→Prop}{a:α}:
  ∀(t:KasT α),cY n lt t=some a→Q a s→t.kasWp cmp Q s:=by
 intro t
 induction t with
 |ret b=>intro e q;have e:=Option.some.inj e;subst e;exact q
 |ask i j k ih=>intro e q;exact aV (Gi e) λc e=>h i j _ c.1 c.2 (ih _ e q)
theorem vP{a:Addr}{vs:List Value}{P:Fin→Shared→Prop}{lt:Nat→Nat→Bool}{p:Array Nat}{κ:SortKind}(ho:s.heap.get? a=some (seqObj "list" vs.toArray n))(h64:vs.length<64)
  (hkk:2≤vs.length→∀s':Shared,(∀b o,b≠a→s.heap.get? b=some o→s'.heap.get? b=some o)→∀(Q:SortKind→Shared→Prop) E',Q κ s'→wpAny (model prog w) A (keyKind' vs.toArray) Q E' s')
  (hcmp:∀i j,i<vs.length→j<vs.length→∀s':Shared,(∀b o,b≠a→s.heap.get? b=some o→s'.heap.get? b=some o)→∀C:Bool→Shared→Prop,C (lt i j) s'→kas_ask prog w A κ vs i j C s')
  (hrun:2≤vs.length→cY vs.length lt (kas_sort vs.length)=some p)
  (h:∀out:List Value,(vs.length<2→out=vs)→(2≤vs.length→out=p.toList.map λi=>vs.getD i Value.none)→P (.done (.ret .none)) {s with heap:=sortedHeap s.heap a vs out.toArray}):
  wpAny (model prog w) A (Builtin.«list.sort» ⟨[.ref a],[]⟩) P E s:=by
 rw[list_sort_plain]
 have ha:a<s.heap.objs.size:=ZB ho
 refine YC (listItems_at ho rfl ?_)
 refine YC (listUpdate_at ho rfl ?_ (by rw[Ze,sizeLine_eq];lia) (Zl _))
 obtain⟨e1,ho1⟩:∃e1,(s.heap.update a (Obj.mapSeq λ_=>(#[]:Array Value))).get? a=some (seqObj "list" #[] e1):=⟨_,get?_update_seq ho (λ_=> #[])⟩
 refine YC (seqEpoch_at ho1 rfl ?_)
 refine YC (wpAny_newTuple ?_ (by show vs.length≤_;rw[sizeLine_eq];lia))
 refine YC (wpAny_newList ?_ (Zl _))
 refine YF ?_
 have ho6:(((s.heap.update a (Obj.mapSeq λ_=>(#[]:Array Value))).push (seqObj "tuple" vs.toArray 0)).push (seqObj "list" #[] 0)).get? a=some (seqObj "list" #[] e1):=zH _ (zH _ ho1)
 have kk:∀b o,b≠a→s.heap.get? b=some o→(((s.heap.update a (Obj.mapSeq λ_=>(#[]:Array Value))).push (seqObj "tuple" vs.toArray 0)).push (seqObj "list" #[] 0)).get? b=some o:= λb o hb e=>
  zH _ (zH _ ((ZU _ _ (Ne.symm hb)).trans e))
 show wpAny (model prog w) A _ P E {s with heap:=((s.heap.update a (Obj.mapSeq λ_=>(#[]:Array Value))).push (seqObj "tuple" vs.toArray 0)).push (seqObj "list" #[] 0)}
 dsimp only
 by_cases h2:vs.length<2
 ·have h2':vs.toArray.size<2:=by simpa using h2
  rw[if_pos h2',if_pos h2']
  refine YC (YD ?_)
  rw[StateT.run_pure]
  refine YC (YD ?_)
  dsimp only
  have em:(arrOf (SortSt.mk' general' (vs.toArray.zip vs.toArray) #[] 7 none)).map (·.2)=vs.toArray:=by
   show(vs.toArray.zip vs.toArray).map (·.2)=vs.toArray
   apply Array.ext
   ·simp
   ·intro i h1 h2;simp
  refine YC (seqEpoch_at ho6 rfl ?_)
  refine YC (listUpdate_at ho6 rfl ?_ (Zl _) (by rw[em,Ze,sizeLine_eq];lia))
  simp only[bne_self_eq_false,Zy,if_false]
  rw[em]
  exact YD (h vs (λ_=>rfl) λz=>absurd h2 (by lia))
 ·have h2':¬vs.toArray.size<2:=by simpa using h2
  have h2n:2≤vs.length:=by lia
  rw[if_neg h2',if_neg h2']
  refine YC (hkk h2n _ kk _ _ ?_)
  have run:=yy (n:=vs.length) (cmp:=kas_ask prog w A κ vs) (lt:=lt) (s:={s with heap:=((s.heap.update a (Obj.mapSeq λ_=>(#[]:Array Value))).push (seqObj "tuple" vs.toArray 0)).push (seqObj "list" #[] 0)})
   (Q:= λq s'=>q=p∧s'={s with heap:=((s.heap.update a (Obj.mapSeq λ_=>(#[]:Array Value))).push (seqObj "tuple" vs.toArray 0)).push (seqObj "list" #[] 0)}) (λi j C hi hj hC=>hcmp i j hi hj _ kk C hC) (kas_sort vs.length) (hrun h2n) ⟨rfl,rfl⟩
  refine YC (YE (kat_run (Q:= λst' s'=>∃q:Array Nat,q.size=vs.length∧arrOf st'=q.map (kas_item (vs.toArray.zip vs.toArray))∧failedOf st'=none∧q=p∧s'={s with heap:=((s.heap.update a (Obj.mapSeq λ_=>(#[]:Array Value))).push (seqObj "tuple" vs.toArray 0)).push (seqObj "list" #[] 0)})
   rfl h2n h64 (λp' st' s' a1 a2 a3 a4=>⟨p',a1,a2,a3,a4.1,a4.2⟩) run) ?_ λ_ _ e=>e)
  rintro⟨⟨⟩,st'⟩ s' ⟨q,hp,har,hf,rfl,rfl⟩
  dsimp only
  have hout:=kat_snds rfl har
  rw[hout]
  have hsz:(List.toArray (q.toList.map λi=>vs.getD i Value.none)).size=vs.length:=by rw[Ze,ZS,Array.length_toList,hp]
  refine YC (seqEpoch_at ho6 rfl ?_)
  refine YC (listUpdate_at ho6 rfl ?_ (Zl _) (Z2 (Nat.le_of_eq hsz) (by rw[sizeLine_eq];lia)))
  rw[hf]
  simp only[bne_self_eq_false,Zy,if_false]
  exact YD (h _ (λz=>absurd z h2) λ_=>rfl)
theorem wR{l:Addr}{vs:List Value}{lt:Nat→Nat→Bool}{p:Array Nat}{κ:SortKind}(hl:s.heap.IsList l vs.toArray)(h64:vs.length<64)
  (hkk:2≤vs.length→∀s':Shared,(∀b o,s.heap.get? b=some o→s'.heap.get? b=some o)→∀(Q:SortKind→Shared→Prop) E',Q κ s'→wpAny (model prog w) A.in1.in1 (keyKind' vs.toArray) Q E' s')
  (hcmp:∀i j,i<vs.length→j<vs.length→∀s':Shared,(∀b o,s.heap.get? b=some o→s'.heap.get? b=some o)→∀C:Bool→Shared→Prop,C (lt i j) s'→kas_ask prog w A.in1.in1 κ vs i j C s')
  (hrun:2≤vs.length→cY vs.length lt (kas_sort vs.length)=some p)
  (h:∀out:List Value,(vs.length<2→out=vs)→(2≤vs.length→out=p.toList.map λi=>vs.getD i Value.none)→Q (.ref (s.heap.objs.size+1)) {s with heap:=sortedAll s.heap vs out.toArray}):
  wpAny (model prog w) A (call (.builtin "sorted") [.ref l]) Q E s:=by
 refine Calls.call_function_entry kind_sorted plain_sorted entry_sorted (args_sorted1 _) ?_
 unfold Builtin.«sorted»
 refine YC (m:=checkCount "sorted" 1 1 _) (YD ?_)
 refine YC (collect_list hl ?_ (by rw[sizeLine_eq];lia))
 refine YC (wpAny_newList ?_ (by rw[sizeLine_eq];lia))
 have hsz:((s.heap.push (seqObj "list" #[] 0)).update s.heap.objs.size (Obj.mapSeq (· ++vs.toArray))).objs.size=s.heap.objs.size+1:=by
  rw[Heap.size_update,size_push']
 have hoL:(((s.heap.push (seqObj "list" #[] 0)).update s.heap.objs.size (Obj.mapSeq (· ++vs.toArray))).push (seqObj "list" vs.toArray 0)).get? (s.heap.objs.size+1)=some (seqObj "list" vs.toArray 0):=by
  rw[←hsz];exact ZN _ rfl
 have keep:∀b o,s.heap.get? b=some o→(((s.heap.push (seqObj "list" #[] 0)).update s.heap.objs.size (Obj.mapSeq (· ++vs.toArray))).push (seqObj "list" vs.toArray 0)).get? b=some o:= λb o q=>by
  have hlt:b<s.heap.objs.size:=ZB q
  rw[Heap.get?_push_ne _ _ _ (by rw[hsz];exact Z6 (Zd hlt)),Heap.get?_update_ne _ _ _ _ (Z6 hlt),Heap.get?_push_ne _ _ _ (Z6 hlt)]
  exact q
 have ne:∀b o,s.heap.get? b=some o→b≠s.heap.objs.size+1:= λb o e=>Z6 (Zd (ZB e))
 show wpAny _ _ _ _ _ {s with heap:=((s.heap.push (seqObj "list" #[] 0)).update s.heap.objs.size (Obj.mapSeq (· ++vs.toArray))).push (seqObj "list" vs.toArray 0)}
 rw[hsz]
 refine YC (YF (wpAny_call_entry slot_list_sort (al _ hoL rfl) entry_list_sort (vP (lt:=lt) (p:=p) (κ:=κ) (s:={s with heap:=((s.heap.push (seqObj "list" #[] 0)).update s.heap.objs.size (Obj.mapSeq (· ++vs.toArray))).push (seqObj "list" vs.toArray 0)}) hoL h64
  (λz s' hk=>hkk z s' λb o e=>hk b o (ne b o e) (keep b o e)) (λi j hi hj s' hk=>hcmp i j hi hj s' λb o e=>hk b o (ne b o e) (keep b o e)) hrun λout a1 a2=>al _ rfl ?_) (args_list_sort _)))
 exact YD (al _ rfl (h out a1 a2))
def aN(H:List AO)(js:List Nat)(ps:List (Str×Str)):Prop:=js.length=ps.length∧∀(i j:Nat)(p:Str×Str),js[i]?=some j→ps[i]?=some p→H[j]?=some (AO.tuple [.str p.1,.str p.2])
theorem tf{a b:Str}(h:cG ρ n [.str a,.str b] its):∃t u,its=[.str a t,.str b u]:=by
 cases h with
 |cons h1 h2=>
  refine lW h2 λ_ h2=>?_
  refine lU h1 λt=>?_;refine lU h2 λu=>?_
  exact tQ t u rfl
theorem fQ:∀{vs:List Value},cG ρ n (js.map .obj) vs→vs=js.map λj=>.ref (ρ j):=by
 induction js with
 |nil=>intro vs h;cases h;rfl
 |cons j js ih=>
  intro vs h
  refine jI h ?_
  intro v vs h t
  rw[ih t,h.2];rfl
theorem sS{ρ:Nat→Addr}{n:Nat}:∀{js:List Nat},(∀j∈js,j<n)→cG ρ n (js.map .obj) (js.map λj=>.ref (ρ j))
 | [],_=>.nil
 |j::js,h=>.cons ⟨h j (.head _),rfl⟩ (sS λx hx=>h x (.tail _ hx))
theorem eE.none1(r:eE c ρ H h){a:Addr}(hn:h.get? a=none):c.h₁.get? a=none:=by
 cases q:c.h₁.get? a with
 |none=>rfl
 |some o=>
  by_cases t:a=c.tj
  ·subst t
   refine cc (r.tj.there q) λo' e'=>?_
   rw[hn]at e';cases e'
  ·have:=r.base _ o q t
   rw[hn]at this;cases this
theorem aW.allocAt(r:aW c A F ρ σ s env){ao:AO}{ob:Obj}{a:Addr}(hk:∀b o,s.heap.get? b=some o→h'.get? b=some o)(hn:s.heap.get? a=none)(ha:h'.get? a=some ob)(ho:OR (gg ρ σ.H.length a) (σ.H.length+1) ao ob):
  aW c A F (gg ρ σ.H.length a) ⟨σ.loc,σ.H++[ao]⟩ {s with heap:=h',toks:=tk} env∧aM c ρ σ.H.length (· =env.locals) s (gg ρ σ.H.length a) (σ.H++[ao]).length {s with heap:=h',toks:=tk}:=by
 have len:(σ.H++[ao]).length=σ.H.length+1:=by simp
 have ne:∀i,i<σ.H.length→ρ i≠a:= λi hi q=>by
  refine ah (r.hr.at_ i (σ.H[i]) (zG hi)) λo h1 _=>?_
  rw[q,hn]at h1;cases h1
 have nn:=r.hr.none1 hn
 refine ah (r.lo) λm hm hl=>?_
 have hm':h'.Ns env.locals m:=let⟨o,es,ep,e,rest⟩:=hm;(bh o es ep (hk _ _ e) rest)
 have last:∀i,σ.H.length≤i→i<(σ.H++[ao]).length→i=σ.H.length:= λi h1 h2=>by rw[len]at h2;lia
 refine⟨⟨⟨λi o e=>?_,λi j hi hj q=>?_,λi hi=>?_,λb o e t=>hk _ _ (r.hr.base b o e t),λo e=>(r.hr.tj o e).imp (λz=>hk _ _ z) λ⟨z1,z2,vs,more,z3,z4⟩=>bS z1 z2 vs more z3 (hk _ _ z4)⟩,r.sc,r.gl,r.bl,?_,λp hp=>?_,al m hm' λx v hv=>?_,λi hi q=>?_,r.lf,r.ge,r.sk.keep (λi hi=>bc hi) (λi h1 h2=>?_) λb o2 es ep g1 g2 _ _=>bh o2 es ep (hk _ _ g1) g2,r.tp,r.fl⟩,
  ⟨λi hi=>bc hi,by rw[len];exact Zf _,λi h1 h2=>?_,⟨λb o e=>⟨o,hk _ _ e⟩,λb o e _ _ _=>al o (hk _ _ e) .refl⟩,rfl⟩⟩
 ·rw[show(St.H ⟨σ.loc,σ.H++[ao]⟩).length=σ.H.length+1 from len]
  by_cases hi:i<σ.H.length
  ·have e':(σ.H++[ao])[i]?=some o:=e
   rw[zL hi]at e'
   refine ah (r.hr.at_ i o e') λob' h1 h2=>?_
   exact al ob' (by rw[bc hi];exact hk _ _ h1) (h2.mono (λj hj=>bc hj) (Zf _))
  ·have hi2:=last i (ZW hi) (aq e)
   subst hi2
   have e':(σ.H++[ao])[σ.H.length]?=some o:=e
   rw[zR (ZA _),ZY]at e'
   cases e'
   exact al ob (by rw[aF];exact ha) ho
 ·by_cases h1:i<σ.H.length
  ·by_cases h2:j<σ.H.length
   ·rw[bc h1,bc h2]at q;exact r.hr.inj i j h1 h2 q
   ·have:=last j (ZW h2) hj
    subst this
    rw[bc h1,aF]at q
    exact absurd q (ne i h1)
  ·have:=last i (ZW h1) hi
   subst this
   by_cases h2:j<σ.H.length
   ·rw[bc h2,aF]at q
    exact absurd q.symm (ne j h2)
   ·exact(last j (ZW h2) hj).symm
 ·by_cases h1:i<σ.H.length
  ·rw[bc h1];exact r.hr.up i h1
  ·have:=last i (ZW h1) hi
   subst this
   rw[aF];exact nn
 ·rw[r.ce];exact ZO λp hp=>by rw[bc (r.ci p hp)]
 ·show p.2<(σ.H++[ao]).length
  rw[len];exact Zd (r.ci p hp)
 ·refine ah (hl x v hv) λv' h1 h2=>?_
  exact al v' h1 (h2.mono (λj hj=>bc hj) (by show σ.H.length≤(σ.H++[ao]).length;rw[len];exact Zf _))
 ·by_cases h1:i<σ.H.length
  ·rw[bc h1]at q;exact r.ap i h1 q
  ·have:=last i (ZW h1) hi
   subst this
   rw[aF]at q
   refine dg hm λo es ep e _=>?_
   rw[←q,hn]at e;cases e
 ·have:=last i h1 h2
  subst this
  rw[aF];exact hn
 ·have:=last i h1 h2
  subst this
  rw[aF];exact hn
theorem Cl{x y:Addr}{ox oy:Obj}{a b:Str×Str}{t u t' u':Tok}{C:Bool→Shared→Prop}(hx:s.heap.get? x=some ox)(dx:ox.data=.seq #[.str a.1 t,.str a.2 u] n)(hy:s.heap.get? y=some oy)(dy:oy.data=.seq #[.str b.1 t',.str b.2 u'] m)
  (h:C (j7 a b) s):wpAny (model prog w) A (keyLt' (tuples' true) (.ref x) (.ref y)) C E s:=by
 refine kat_lt hx dx hy dy ?_
 refine kat_cons (eqBool_str ?_)
 unfold j7 at h
 by_cases e:a.1=b.1
 ·rw[if_pos e]at h
  rw[show(a.1==b.1)=true by simpa using e]
  refine kat_yes (kat_cons (eqBool_str ?_))
  by_cases e2:a.2=b.2
  ·rw[show(a.2==b.2)=true by simpa using e2]
   refine kat_yes (kat_nil ?_)
   have:CC a.2 b.2=false:=by unfold CC;rw[e2];simpa using List.lt_irrefl _
   rw[this]at h
   exact h
  ·rw[show(a.2==b.2)=false by simpa using e2]
   exact kat_no (kat_one _ _ (P.lt_str h))
 ·rw[if_neg e]at h
  rw[show(a.1==b.1)=false by simpa using e]
  exact kat_no (strKind_oneLt prog w A _ s _ _ _ _ rfl rfl h)
theorem mP{ps:List (Str×Str)}{p:Array Nat}(hj:σ.H[j]?=some (.list (js.map .obj)))(hps:aN σ.H js ps)(h64:js.length<64)
  (hrun:2≤js.length→cY js.length (λi j=>j7 (ps.getD i ("","")) (ps.getD j ("",""))) (kas_sort js.length)=some p)(hb:2≤js.length→∀i∈p.toList,i<js.length):
  cK c F k (λxs=>call (.builtin "sorted") xs) [.obj j] σ (.obj σ.H.length) ⟨σ.loc,σ.H++[.list ((if js.length<2 then js else p.toList.map λi=>js.getD i 0).map .obj)]⟩:= λA ρ s env Q E xs K r hx q=>by
 refine lW hx λ_ h1=>?_
 refine iR h1 λ_=>?_
 refine br (r.list hj) λits hl hv _=>?_
 have eits:=fQ hv
 subst eits
 have jlt:∀x∈js,x<σ.H.length:= λx hx=>by
  obtain⟨i,hi,e⟩:=Zh.mp hx
  have hp:i<ps.length:=by rw[←hps.1];exact hi
  have:=hps.2 i x ps[i] (by rw[zG hi,e]) (zG hp)
  exact(aq this)
 have tup:∀i,i<js.length→∃ob t u e,s.heap.get? (ρ (js.getD i 0))=some ob∧ob.cls=.type "tuple"∧ob.data=.seq #[.str (ps.getD i ("","")).1 t,.str (ps.getD i ("","")).2 u] e:= λi hi=>by
  have hp:i<ps.length:=by rw[←hps.1];exact hi
  have z:=hps.2 i js[i] ps[i] (zG hi) (zG hp)
  refine ah (r.hr.at_ _ _ z) λob g1 g2=>?_
  refine dk g2 ?_;clear g2;intro its e z0 g3;subst z0
  refine mW (tf g3) λt u z0=>?_;subst z0
  refine tD _ t u e (by rw[show js.getD i 0=js[i]by simp[hi]];exact g1) rfl ?_
  rw[show ps.getD i ("","")=ps[i]by simp[hp]]
 have ln:(js.map λj=>Value.ref (ρ j)).length=js.length:=by simp
 have gd:∀i,i<js.length→(js.map λj=>Value.ref (ρ j)).getD i Value.none=.ref (ρ (js.getD i 0)):= λi hi=>by simp[hi]
 refine wR (lt:= λi j=>j7 (ps.getD i ("","")) (ps.getD j ("",""))) (p:=p) (κ:=tuples' true) hl (by rw[ln];exact h64) (λh2 s' hk Q E' hq=>?_) (λi j hi hj s' hk C hC=>?_) (by rw[ln];exact hrun) λout o1 o2=>?_
 ·rw[ln]at h2
  have kt:∀(l:List Nat)(f:Nat→Str),(∀x∈l,∃ob t xs e,s'.heap.get? (ρ (js.getD x 0))=some ob∧ob.cls=.type "tuple"∧ob.data=.seq xs e∧xs[0]?=some (.str (f x) t))→∃fs,KatTups s'.heap (l.map λx=>.ref (ρ (js.getD x 0))) fs∧fs.length=l.length∧∀v∈fs,∃y t,v=.str y t:=by
   intro l f
   induction l with
   |nil=>intro _;exact bO [] .nil rfl λv hv=>nomatch hv
   |cons x l ih=>
    intro h
    refine bp λGz kz=>?_
    refine hY (h x (.head _)) λob t xs e g1 g2 g3 g4=>?_
    refine br (ih λy hy=>h y (.tail _ hy)) λfs f1 f2 f3=>?_
    refine kz ?_
    refine bO (.str (f x) t::fs) (.cons g1 g2 g3 g4 f1) (by simp[f2]) λv hv=>?_
    rcases ZH.mp hv with rfl|hv
    ·exact tQ _ _ rfl
    ·exact f3 v hv
  refine br (kt (ZG js.length) (λi=>(ps.getD i ("","")).1) λx hx=>by
   obtain⟨ob,t,u,e,g1,g2,g3⟩:=tup x (ZP.mp hx)
   exact fG ob t _ e (hk _ _ g1) g2 g3 rfl) λfs f1 f2 f3=>?_
  have em:(ZG js.length).map (λx=>Value.ref (ρ (js.getD x 0)))=js.map λj=>.ref (ρ j):=by
   apply List.ext_getElem?
   intro i
   by_cases hi:i<js.length
   ·simp[hi]
   ·simp[hi]
  rw[em]at f1
  refine kat_kind (T:=.type "str") f1 (by rw[f2,List.length_range];lia) (λv hv=>?_) rfl hq
  refine mW (f3 v hv) λy t z0=>?_;subst z0
  exact Looks.of_pure rfl
 ·rw[ln]at hi hj
  unfold kas_ask
  rw[gd i hi,gd j hj]
  refine bp λGz kz=>?_
  refine lg (tup i hi) λob t u e g1 g2 g3=>?_
  refine lg (tup j hj) λob' t' u' e' g1' g2' g3'=>?_
  refine kz ?_
  exact Cl (hk _ _ g1) g3 (hk _ _ g1') g3' hC
 ·rw[ln]at o1 o2
  have eo:out=(if js.length<2 then js else p.toList.map λi=>js.getD i 0).map λj=>.ref (ρ j):=by
   by_cases h2:js.length<2
   ·rw[if_pos h2];exact o1 h2
   ·rw[if_neg h2,o2 (by lia),Zr]
    exact ZO λi hi=>gd i (hb (by lia) i hi)
  refine cc (sortedAll_at s.heap (js.map λj=>Value.ref (ρ j)) out.toArray) λe he=>?_
  have hn:s.heap.get? (s.heap.objs.size+1)=none:=by
   cases z:s.heap.get? (s.heap.objs.size+1)with
   |none=>rfl
   |some o=>exact absurd (ZB z) (ZX.mpr (Zf _))
  have lt':∀x∈(if js.length<2 then js else p.toList.map λi=>js.getD i 0),x<σ.H.length:= λx hx=>by
   by_cases h2:js.length<2
   ·rw[if_pos h2]at hx;exact jlt x hx
   ·rw[if_neg h2]at hx
    refine ah (ZR.mp hx) λi hi z0=>?_;subst z0
    have il:=hb (by lia) i hi
    rw[show js.getD i 0=js[i]by simp[il]]
    exact jlt _ (List.getElem_mem il)
  refine aV (r.allocAt (ao:=.list ((if js.length<2 then js else p.toList.map λi=>js.getD i 0).map .obj)) (a:=s.heap.objs.size+1) (tk:=s.toks) (λb o q=>sortedAll_old q) hn he (cI out e rfl (by
   rw[eo]
   exact(sS lt').mono (λi hi=>bc hi) (Zf _)))) λr1 st1=>?_
  exact q _ _ _ r1 st1 ⟨by simp,by rw[aF]⟩
noncomputable def wo:=cV bJ 39
noncomputable def wU:=kr bJ 39
theorem hH:dG P 901 wo wU:=by constructor<;>w_on
theorem BB(x:Value)(S:Setting):peek (Kx P) S (bindArgs (dw P 901) ⟨[x],[]⟩)=some [(("rows":Str),x)]:=by w_on
theorem lA:nsIn (Kx P) mainGlobals ("sorted":Str)=some none:=by w_on
theorem jL:bootBuiltins ("sorted":Str)=some (.builtin "sorted"):=PyProof.Rows.Boot.sorted
theorem t9(kz:∀(sc:Scope)(p0 p1 p2 p3 p4 p5 p6 p7 p8 p9 p10 p11 p12 p13 p14 p15:Pos)(q1 q2 kd:Nat),(wo=[.Return (some (.Call (.Name "sorted" p1) [.ListComp (.Tuple [.Subscript (.Name "row" p2) (.Constant (.int 0) q1 p3) p4,.Name "need" p5] kd p6) [⟨.Name "row" p7,.Name "rows" p8,[],0⟩,⟨.Name "need" p9,.Subscript (.Name "row" p10) (.Slice (some (.Constant (.int 1) q2 p11)) none none p12) p13,[],0⟩] sc p14] [] p15)) p0]∧
  (sc.names.all λx=>x.2 != .free)=true∧(sc.names.all λx=>x.2 != .cell)=true∧sc.kind=.function∧(sc.names.lookup (".0":Str)==some .local&&sc.names.all λx=>x.2 != .local||sc.names.lookup x.1==some .local)=true∧sc.names.lookup ("row":Str)=some .local∧sc.names.lookup ("need":Str)=some .local)→Gz):Gz:=kz _ _ _ _ _ _ _ _ _ _ _ _ _ _ _ _ _ _ _ _ ⟨by k_dflt rfl,by w_on,by w_on,by w_on,by w_on,by w_on,by w_on⟩
noncomputable def uF(r:List Str):List (Str×Str):=r.tail.map λx=>(r.headD "",x)
noncomputable def bT(rows:List (List Str)):List (Str×Str):=rows.flatMap uF
section
variable{p7 p9 p10 p11 p12 p13:Pos}{q1 q2:Nat}
noncomputable def Cn(p2 p3 p4 p5 p6:Pos)(q1 kd:Nat):Expr:=.Tuple [.Subscript (.Name "row" p2) (.Constant (.int 0) q1 p3) p4,.Name "need" p5] kd p6
noncomputable def qA(p10 p11 p12 p13:Pos)(q2:Nat):Expr:=.Subscript (.Name "row" p10) (.Slice (some (.Constant (.int 1) q2 p11)) none none p12) p13
theorem sY(G:c.Go)(hk:F.scope.kind=.function)(hr:F.scope.names.lookup ("row":Str)=some .local)(hn:F.scope.names.lookup ("need":Str)=some .local){gens:List Comprehension}{iter2:Expr}(hg:gens[1]?=some ⟨.Name "need" p9,iter2,[],0⟩)(hg2:gens[2]?=none){T J jr:Nat}{hd:Str}{tl:List Str}(hTJ:T≠J)(hjJ:jr≠J):
  ∀(rest:List Str)(done:List Nat)(i:Nat)(l:List (Str×AV))(H:List AO),l.lookup ("row":Str)=some (.obj jr)→H[T]?=some (.list (tl.map .str))→H[jr]?=some (.list ((hd::tl).map .str))→H[J]?=some (.list (done.map .obj))→tl.drop i=rest→done.length+rest.length<900→
   ∃loc' H' js,CL c F (k+100) (Cn p2 p3 p4 p5 p6 q1 kd) gens sc pos 1 (aQ T (tl.map .str)) J i ⟨l,H⟩ ⟨loc',H'⟩∧H'[J]?=some (.list ((done++js).map .obj))∧js.length=rest.length∧
    (∀(i j:Nat)(x:Str),js[i]?=some j→rest[i]?=some x→H'[j]?=some (AO.tuple [.str hd,.str x])∧j≠J)∧(∀(x:Nat)(o:AO),x≠J→H[x]?=some o→H'[x]?=some o)
 | [],done,i,l,H,_,hT,hjr,hJ,hd',_=>by
  refine cH l H [] (im (σ:=⟨l,H⟩) (I:=aQ T (tl.map .str)) (az) hg hg2 (λ_ _=>rfl) (by lia) hT ?_) (by simpa using hJ) rfl (λi j r h=>by simp at h) λx o _ h=>h
  show(tl.map AV.str)[i]?=none
  rw[ZC]
  simp[ZL]at hd' ⊢
  exact hd'
 |x::rest,done,i,l,H,hl,hT,hjr,hJ,hd',hz=>by
  have hi1:tl[i]?=some x:=by
   have:(tl.drop i)[0]?=some x:=by rw[hd'];rfl
   rw[Z1,Zq]at this
   exact this
  have hd1:tl.drop (i+1)=rest:=by
   have:(tl.drop i).drop 1=rest:=by rw[hd'];rfl
   rw[Zp]at this
   exact this
  have Jl:=aq hJ
  have up:∀(y:Nat)(o:AO),H[y]?=some o→(H++[AO.tuple [.str hd,.str x]])[y]?=some o:= λy o h=>bW.app y o h
  have up2:∀(y:Nat)(o:AO),y≠J→H[y]?=some o→((H++[AO.tuple [.str hd,.str x]]).set J (.list (done.map .obj++[.obj H.length])))[y]?=some o:= λy o hy h=>ak (up y o h) hy
  have Jl2:J<(H++[AO.tuple [.str hd,.str x]]).length:=by simp;lia
  have hl2:(aR ("need":Str) (.str x) l).lookup ("row":Str)=some (.obj jr):=dR hl
  refine bp λGz kz=>?_
  refine cP (sY G hk hr hn hg hg2 hTJ hjJ rest (done++[H.length]) (i+1) (aR "need" (.str x) l) ((H++[AO.tuple [.str hd,.str x]]).set J (.list (done.map .obj++[.obj H.length]))) hl2 (up2 _ _ hTJ hT) (up2 _ _ hjJ hjr) (by rw[zT Jl2];simp) hd1 (by simp at hz ⊢;lia)) λloc' H' js c1 c2 c3 c4 c5=>?_
  refine kz ?_
  have hne:H.length≠J:=by lia
  refine cH loc' H' (H.length::js) (fL (a:=.str x) (v:=.obj H.length) (σ:=⟨l,H⟩) (σ₁:=⟨aR "need" (.str x) l,H⟩) (σ₂:=⟨aR "need" (.str x) l,H⟩) (σ₃:=⟨aR "need" (.str x) l,H++[AO.tuple [.str hd,.str x]]⟩) (acc:=done.map .obj) (I:=aQ T (tl.map .str)) G.ok (az) hg hg2 (λ_ _=>rfl) hT ?_ (bg hk hn) jP ?_ (up _ _ hJ) (by simp at hz ⊢;lia) c1) (by simpa using c2) (by simp[c3]) ?_ ?_
  ·show(tl.map AV.str)[i]?=_
   rw[ZK,hi1];rfl
  ·exact tH (by show 2<1000;decide) (am (λ_=>rfl) (cW (by decide) (by decide) (λ_ _=>rfl) (λ_ _=>rfl) (aa hk hr hl2) aJ hjr rfl) (am (λ_=>rfl) (aa hk hn (aj _ _ _)) au))
  ·intro i' j' r' h1 h2
   cases i' with
   |zero=>
    cases h1;cases h2
    exact⟨c5 _ _ hne (ak aO hne),hne⟩
   |succ i'=>exact c4 i' j' r' h1 h2
  ·intro y o hy h
   exact c5 y o hy (up2 y o hy h)
theorem kP(h:cG ρ n vs its):cG ρ n (vs.drop 1) (slicePick ⟨its⟩ (some 1) none none).toList:=by
 have:=slicePick_from' ⟨its⟩ 1
 rw[show((1:Nat):Int)=1 from rfl]at this
 rw[this]
 exact ub 1 h
theorem pC(G:c.Go)(hk:F.scope.kind=.function)(hr:F.scope.names.lookup ("row":Str)=some .local)(hn:F.scope.names.lookup ("need":Str)=some .local){T J:Nat}{js0:List Nat}(hTJ:T≠J)(hl0:js0.length<900):
  ∀(rest:List (List Str))(rj:List Nat)(done:List Nat)(i:Nat)(l:List (Str×AV))(H:List AO),(∀r∈rest,r≠[]∧r.length<500)→H[T]?=some (.list (js0.map .obj))→H[J]?=some (.list (done.map .obj))→js0.drop i=rj→rj.length=rest.length→(∀(i j:Nat)(r:List Str),rj[i]?=some j→rest[i]?=some r→H[j]?=some (AO.list (r.map .str))∧j≠J)→done.length+(bT rest).length<900→
   ∃loc' H' js,CL c F (k+100) (Cn p2 p3 p4 p5 p6 q1 kd) [⟨.Name "row" p7,iter,[],0⟩,⟨.Name "need" p9,qA p10 p11 p12 p13 q2,[],0⟩] sc pos 0 (aQ T (js0.map .obj)) J i ⟨l,H⟩ ⟨loc',H'⟩∧H'[J]?=some (.list ((done++js).map .obj))∧js.length=(bT rest).length∧
    (∀(i j:Nat)(x:Str×Str),js[i]?=some j→(bT rest)[i]?=some x→H'[j]?=some (AO.tuple [.str x.1,.str x.2])∧j≠J)∧(∀(x:Nat)(o:AO),x≠J→H[x]?=some o→H'[x]?=some o)
 | [],rj,done,i,l,H,_,hT,hJ,hd,hl,_,_=>by
  have:rj=[]:=by simpa using hl
  subst this
  refine cH l H [] (FF (σ:=⟨l,H⟩) (I:=aQ T (js0.map .obj)) (az) rfl rfl (λ_ _=>rfl) (λ_ _=>rfl) (by lia) hT ?_) (by simpa using hJ) rfl (λi j r h=>by simp at h) λx o _ h=>h
  show(js0.map AV.obj)[i]?=none
  rw[ZC]
  simp[ZL]at hd ⊢
  exact hd
 |r::rest,[],done,i,l,H,_,_,_,_,hl,_,_=>by simp at hl
 |r::rest,jr::rj,done,i,l,H,hok,hT,hJ,hd,hl,hat,hz=>by
  have hi1:js0[i]?=some jr:=by
   have:(js0.drop i)[0]?=some jr:=by rw[hd];rfl
   rw[Z1,Zq]at this
   exact this
  have hd1:js0.drop (i+1)=rj:=by
   have:(js0.drop i).drop 1=rj:=by rw[hd];rfl
   rw[Zp]at this
   exact this
  refine bp λGz kz=>?_
  refine aV (hat 0 jr r rfl rfl) λhr0 hjJ=>?_
  refine aV (hok r (.head _)) λne rl=>?_
  obtain⟨x0,tl,rfl⟩:∃x tl,r=x::tl:=by cases r with|nil=>exact absurd rfl ne|cons x tl=>exact tQ x tl rfl
  have Jl:=aq hJ
  have pr:bT ((x0::tl)::rest)=tl.map (λy=>(x0,y))++bT rest:=rfl
  rw[pr,List.length_append,ZS]at hz
  have up:∀(y:Nat)(o:AO),H[y]?=some o→(H++[AO.list (tl.map .str)])[y]?=some o:= λy o h=>bW.app y o h
  have hTJ2:H.length≠J:=by lia
  refine cP (sY (k:=k) (F:=F) (sc:=sc) (pos:=pos) (p2:=p2) (p3:=p3) (p4:=p4) (p5:=p5) (p6:=p6) (p9:=p9) (q1:=q1) (kd:=kd) (gens:=[⟨.Name "row" p7,iter,[],0⟩,⟨.Name "need" p9,qA p10 p11 p12 p13 q2,[],0⟩]) (T:=H.length) (J:=J) (jr:=jr) (hd:=x0) (tl:=tl) G hk hr hn rfl rfl hTJ2 hjJ tl done 0 (aR "row" (.obj jr) l) (H++[AO.list (tl.map .str)]) (aj _ _ _)
   (aO) (up _ _ hr0) (up _ _ hJ) rfl (by lia)) λloc1 H1 js1 c1 c2 c3 c4 c5=>?_
  refine cP (pC G hk hr hn hTJ hl0 rest rj (done++js1) (i+1) loc1 H1 (λr hr=>hok r (.tail _ hr)) (c5 _ _ hTJ (up _ _ hT)) c2 hd1 (by simpa using hl) (λi' j' r' h1 h2=>⟨c5 _ _ (hat (i'+1) j' r' h1 h2).2 (up _ _ (hat (i'+1) j' r' h1 h2).1),(hat (i'+1) j' r' h1 h2).2⟩) (by simp[c3];lia)) λloc' H' js2 e1 e2 e3 e4 e5=>?_
  refine kz ?_
  refine cH loc' H' (js1++js2) (DJ (a:=.obj jr) (b:=.obj H.length) (σ:=⟨l,H⟩) (σ₁:=⟨aR "row" (.obj jr) l,H⟩) (σ₂:=⟨aR "row" (.obj jr) l,H++[AO.list (tl.map .str)]⟩) (σ₃:=⟨loc1,H1⟩) (I:=aQ T (js0.map .obj)) (I2:=aQ H.length (tl.map .str)) G.ok az az rfl rfl (λ_ _=>rfl) (λ_ _=>rfl) hT ?_ (bg hk hr) ?_ (d6 (by show(H++[AO.list (tl.map .str)])[H.length]?=_;rw[zR (ZA _),ZY];rfl)) c1 e1) (by rw[e2];simp) ?_ ?_ ?_
  ·show(js0.map AV.obj)[i]?=_
   rw[ZK,hi1];rfl
  ·have z:=fE (c:=c) (F:=F) (k:=k+100) (σ:=⟨aR "row" (.obj jr) l,H⟩) (σ₁:=⟨aR "row" (.obj jr) l,H⟩) (σ₂:=⟨aR "row" (.obj jr) l,H⟩) (σ₃:=⟨aR "row" (.obj jr) l,H⟩) (σ₄:=⟨aR "row" (.obj jr) l,H⟩) (value:=.Name "row" p10) (lower:=some (.Constant (.int 1) q2 p11)) (upper:=none) (step:=none) (p:=p12) (pos:=p13) (j:=jr) (vs:=(x0::tl).map .str) (l:=some 1) (u:=none) (t:=none) (v':=tl.map .str) (by simp at rl ⊢;lia) (by simp) (λ_ _=>⟨_,rfl⟩) (aa hk hr (aj _ _ _)) (e9 aJ) ds ds hr0 (λρ n its h=>kP h)
   exact z
  ·rw[pr];simp[c3,e3]
  ·intro i' j' x' h1 h2
   rw[pr]at h2
   by_cases hi:i'<js1.length
   ·rw[zL hi]at h1
    rw[zL (by rw[ZS,←c3];exact hi)]at h2
    rw[ZK]at h2
    refine ah (Z5.mp h2) λy hy z0=>?_;subst z0
    refine aV (c4 i' j' y h1 hy) λz1 z2=>?_
    exact⟨e5 _ _ z2 z1,z2⟩
   ·rw[zR (ZW hi)]at h1
    rw[zR (by rw[ZS,←c3];exact ZW hi),ZS,←c3]at h2
    exact e4 _ j' x' h1 h2
  ·intro y o hy h
   exact e5 y o hy (c5 y o hy (up y o h))
end
def fk(ps ss:List (Str×Str)):Prop:=(ps.length<2→ss=ps)∧(2≤ps.length→∃p:Array Nat,cY ps.length (λi j=>j7 (ps.getD i ("","")) (ps.getD j ("",""))) (kas_sort ps.length)=some p∧(∀i∈p.toList,i<ps.length)∧(p.toList.map λi=>ps.getD i ("",""))=ss)
def cT(H:List AO)(N:Nat)(ps:List (Str×Str)):Prop:=∃js,H[N]?=some (AO.list (js.map .obj))∧aN H js ps
noncomputable def Dx:Fs:=⟨wU,[]⟩
theorem wq:Dx.scope.kind=.function:=by w_on
theorem aN.ext{ps:List (Str×Str)}(h:aN H js ps)(e:bW H H'):aN H' js ps:=⟨h.1,λi j p h1 h2=>e _ _ (h.2 i j p h1 h2)⟩
theorem oH.ext{rows:List (List Str)}(h:oH H L rows)(e:bW H H'):oH H' L rows:=let⟨js,h1,h2,h3⟩:=h;(bO js (e _ _ h1) h2 λi j r a b=>e _ _ (h3 i j r a b))
theorem jn(G:c.Go){rows:List (List Str)}{ss:List (Str×Str)}(hR:oH H L rows)(hok:∀r∈rows,r≠[]∧r.length<500)(hl:rows.length<900)(hp:(bT rows).length<64)(hS:fk (bT rows) ss):
  ∃N H',Fn c (k+101) (.ref 901) [.obj L] [] H (.obj N) H'∧cT H' N ss∧bW H H'∧H.length≤N:=by
 refine bp λGz kz=>?_
 refine t9 λsc p0 p1 p2 p3 p4 p5 p6 p7 p8 p9 p10 p11 p12 p13 p14 p15 q1 q2 kd hz_=>?_
 obtain⟨hb,s1,s2,s3,s4,k1,k2⟩:=hz_
 refine br hR λjs0 hL hlen hat=>?_
 have Ll:=aq hL
 have scp:cz Dx sc sc []:=cS s1 s2 s3 s4
 have ksc:(Fs.mk sc []).scope.kind=.function:=s3
 have up:∀(y:Nat)(o:AO),H[y]?=some o→(H++[AO.list []])[y]?=some o:= λy o h=>bW.app y o h
 have jlt:∀(i j:Nat),js0[i]?=some j→j<H.length:= λi j h=>by
  have il:=aq h
  have:=hat i j rows[i] h (zG (by lia))
  exact(aq this)
 refine cP (pC (k:=k) (F:=⟨sc,[]⟩) (sc:=sc) (pos:=p14) (p2:=p2) (p3:=p3) (p4:=p4) (p5:=p5) (p6:=p6) (p7:=p7) (p9:=p9) (p10:=p10) (p11:=p11) (p12:=p12) (p13:=p13) (q1:=q1) (q2:=q2) (kd:=kd) (iter:=.Name "rows" p8) G ksc k1 k2 (T:=L) (J:=H.length) (js0:=js0) (by lia) (by lia) rows js0 [] 0 [] (H++[AO.list []]) hok (up _ _ hL) (aO) rfl hlen
  (λi j r h1 h2=>⟨up _ _ (hat i j r h1 h2),Z6 (jlt i j h1)⟩) (by simpa using ZD hp (by lia))) λloc' H1 js c1 c2 c3 c4 c5=>?_
 have lt1:H.length<H1.length:=aq c2
 have pat:aN H1 js (bT rows):=⟨c3,λi j p h1 h2=>(c4 i j p h1 h2).1⟩
 have c2':H1[H.length]?=some (AO.list (js.map .obj)):=by simpa using c2
 have ext1:bW H H1:= λi o h=>c5 i o (Z6 (aq h)) (up _ _ h)
 obtain⟨p,hp1,hp2⟩:∃p:Array Nat,(2≤js.length→cY js.length (λi j=>j7 ((bT rows).getD i ("","")) ((bT rows).getD j ("",""))) (kas_sort js.length)=some p∧(∀i∈p.toList,i<js.length))∧(2≤js.length→(p.toList.map λi=>(bT rows).getD i ("",""))=ss):=by
  rw[c3]
  by_cases h2:2≤(bT rows).length
  ·refine br (hS.2 h2) λp a1 a2 a3=>?_
   exact al p (λ_=>⟨a1,a2⟩) λ_=>a3
  ·exact al (#[]) (λz=>absurd z h2) λz=>absurd z h2
 refine kz ?_
 have srt:=mP (c:=c) (F:=Dx) (k:=k+100) (σ:=⟨[("rows",.obj L)],H1⟩) (p:=p) c2' pat (by lia) (λz=>(hp1 z).1) (λz=>(hp1 z).2)
 refine dP H1.length (H1++[AO.list ((if js.length<2 then js else p.toList.map λi=>js.getD i 0).map .obj)]) ?_ (al _ (List.getElem?_concat_length ..) ?_) (ext1.trans bW.app) (by lia)
 ·refine dh (fl:=.ret (.obj H1.length)) (loc:=[("rows",.obj L)]) G (hH _) (by w_on) (by w_on) (λρ m s xs ks X hx hk=>?_) ?_
  ·refine mC hx hk λ_ hx=>?_
   refine al [("rows",_)] (@bB _ _ _ _ _ X ?_) (.cons hx .nil)
   exact BB _ _
  ·apply aK (loc:=[("rows",.obj L)])
   rw[hb]
   have e:=fV (F:=Dx) (k:=k+100) (σ:=⟨[("rows",.obj L)],H⟩) (σ₁:=⟨[("rows",.obj L)],H⟩) (I:=aQ L (js0.map .obj)) (loc':=loc') (H':=H1) (a:=.obj L) (rest:=[⟨.Name "need" p9,qA p10 p11 p12 p13 q2,[],0⟩]) (ifs:=[]) (target:=.Name "row" p7) (iter:=.Name "rows" p8) (elt:=Cn p2 p3 p4 p5 p6 q1 kd) (pos:=p14) G.ok az scp (λ_ _=>rfl)
    (aa wq rfl rfl) (d6 hL) hL lt1 c1
   exact bx (aX (dA (λ_=>rfl) (λ_=>rfl) (di G wq rfl (lA _) jL) (af λ_=>rfl) (am (λ_=>rfl) e au) srt))
 ·by_cases h2:js.length<2
  ·rw[if_pos h2,hS.1 (by lia)]
   exact pat.ext bW.app
  ·rw[if_neg h2,←hp2 (by lia)]
   refine⟨by simp,λi j x h1 h2'=>?_⟩
   rw[ZK]at h1 h2'
   refine ah (Z5.mp h1) λy hy z0=>?_;subst z0
   refine ah (Z5.mp h2') λy' hy' z0=>?_;subst z0
   rw[hy]at hy';cases hy'
   have yl:=(hp1 (by lia)).2 y (Zg hy)
   have yl2:y<(bT rows).length:=by lia
   have:=pat.2 y js[y] (bT rows)[y] (zG yl) (zG yl2)
   rw[show js.getD y 0=js[y]by simp[yl],show(bT rows).getD y ("","")=(bT rows)[y]by simp[yl2]]
   exact bW.app _ _ this
noncomputable def iW(n:Int):AO:=.is λ_ _ o=>∃t u v,o={cls:=.type "range",data:=.fields #[.int 0 t,.int n u,.int 1 v]}
noncomputable def d8(n:Nat):qm:=⟨λ_=>True,λ_ i o=>o={cls:=.type "range_iterator",data:=.fields #[rawInt i,rawInt ((n:Int) - i),rawInt 1]},(ZG n).map λ(i:Nat)=>AV.int (i:Int)⟩
theorem gb:(d8 n).Good c where
 nd:= λρ i o h es ep q=>by rw[show o=_ from h]at q;cases q
 ag:= λρ ρ' H i o hk h e=>h
 next:= λ{A F ρ σ s env it i o a Q E} r hk hit ho ha hap q=>by
  have il:i<n:=by have:=(aq ha);simpa[d8]using this
  have ea:a=.int i:=by
   have:((ZG n).map λ(i:Nat)=>AV.int (i:Int))[i]?=some a:=ha
   rw[ZK,zG (by simpa using il)]at this
   simpa using this.symm
  subst ea
  rw[show o=_ from ho]at hit
  refine wpAny_pyNext_range_item (x:=i) (left:=(n:Int) - i) (step:=1) hit (by lia) λh' hi hs=>?_
  have e1:(i:Int)+1=((i+1:Nat):Int):=by lia
  have e2:(n:Int) - i - 1=(n:Int) - ((i+1:Nat):Int):=by lia
  rw[e1,e2]at hi
  exact q h' _ _ _ ⟨_,rfl⟩ hi rfl λb ob hb hne=>(hs.2 b hne).trans hb
 stop:= λ{A F ρ σ s env it i o Q E} hh r hk hit ho ha hap q=>by
  have il:n≤i:=by have:=ZC.mp ha;simpa[d8]using this
  rw[show o=_ from ho]at hit
  exact wpAny_pyNext_range_end hh hit (by lia) λh' hx=>q h' s.toks λb ob hb hne=>hx b ob hne hb
 self:= λ{A s it ρ o i Q E} hit ho q=>by
  rw[show o=_ from ho]at hit
  exact wpAny_pyIter_rangeiter hit q
theorem k7{n:Int}:cK c F k (λxs=>call (.type "range") xs) [.int n] σ (.obj σ.H.length) ⟨σ.loc,σ.H++[iW n]⟩:= λA ρ s env Q E xs K r hx q=>by
 refine lW hx λ_ h1=>?_
 refine ma h1 λt=>?_
 refine aV (r.alloc (ao:=iW n) (ob:={cls:=.type "range",data:=.fields #[.int 0 s.toks,.int n t,.int 1 (s.toks+1)]}) (s.toks+1+1) rfl (λ_ _ _ _=>wl _ _ _ rfl)) λr1 st1=>?_
 exact call_range_1 (q _ _ _ r1 st1 ⟨by simp,by rw[aF]⟩)
theorem lN(hn:n<1000)(hj:σ.H[j]?=some (iW n)):Mk c (d8 n) (.obj j) σ:= λ{A F ρ s env x Q E} r hx q=>by
 refine iR hx λ_=>?_
 refine ah (r.hr.at_ j _ hj) λob h1 h2=>?_
 refine iY (h2 ρ σ.H.length (λ_ _=>rfl) (ZA _)) λt u v z0=>?_;subst z0
 refine wpAny_pyIter_range h1 (small_one (by lia) (by lia) (by lia) (by lia)) ?_
 have e:Builtin.Range.rangeSize 0 (n:Int) 1=(n:Int) - ((0:Nat):Int):=by rw[rangeSize_one];split<;>lia
 rw[e]
 exact q _ s.toks rfl rfl
theorem rM(a:Int){b:Int}(h:b=1∨b=2):Builtin.divisionGoesByPylong a b=false:=by
 rcases h with rfl|rfl
 ·unfold Builtin.divisionGoesByPylong
  simp
  intro h
  exact absurd h (by decide+kernel)
 ·unfold Builtin.divisionGoesByPylong
  simp
  intro h
  exact absurd h (by decide+kernel)
theorem ye{a b:Int}(h:b=1∨b=2):dz c F k (binaryOp .FloorDiv) (.int a) (.int b) σ (.int (a.fdiv b)) σ:=
 c9 λA ρ n s Q E p q hp hq z=>by
  refine ma hp λu=>?_;refine ma hq λv=>?_
  exact AutoIntOps.floordiv_1 (by rcases h with rfl|rfl<;>decide) (by rw[rM a h];decide) (z _ _ ⟨_,rfl⟩)
theorem yv{a b:Int}(h:b=2):dz c F k (binaryOp .Mod) (.int a) (.int b) σ (.int (a.fmod b)) σ:=
 c9 λA ρ n s Q E p q hp hq z=>by
  refine ma hp λu=>?_;refine ma hq λv=>?_
  exact AutoIntOps.mod_1 (by subst h;decide) (z _ _ ⟨_,rfl⟩)
theorem zv:∀{its:List Value},cG ρ n (ns.map .int) its→∃xs:List (Int×Tok),its=xs.map (λp=>.int p.1 p.2)∧xs.map (·.1)=ns:=by
 induction ns with
 |nil=>intro its h;cases h;exact al [] rfl rfl
 |cons i ns ih=>
  intro its h
  refine jI h ?_
  intro v vs h t
  refine cc h λtk z0=>ah (ih t) λxs h1 h2=>?_
  exact al ((i,tk)::xs) (by rw[z0,h1];rfl) (by rw[ZZ,h2])
theorem FG(hk:100≤k)(hj:σ.H[j]?=some (.list (ns.map .int))):cK c F k (λxs=>call (.builtin "sum") xs) [.obj j] σ (.int ns.sum) σ:= λA ρ s env Q E xs K r hx q=>by
 refine lW hx λ_ h1=>?_
 refine iR h1 λ_=>?_
 refine br (r.list hj) λits hl hv _=>?_
 refine ah (zv hv) λys z0 hy=>?_;subst z0
 refine sum_intListG (xs:=ys.toArray) (K.2.2 hk) (by simpa[intItems]using hl) λh' tk t' kk=>?_
 have e:preSum (numAt ys.toArray) ys.toArray.size=ns.sum:=by
  rw[preSum_eq,List.take_of_length_le (by simp)]
  simp[hy]
 rw[e]
 have r':aW c A F ρ σ {s with heap:=h',toks:=tk} env:=by
  refine⟨⟨λi ao e=>?_,r.hr.inj,r.hr.up,λb o e t=>kk _ _ (r.hr.base b o e t),λo e=>(r.hr.tj o e).imp (λz=>kk _ _ z) λ⟨z1,z2,vs,more,z3,z4⟩=>bS z1 z2 vs more z3 (kk _ _ z4)⟩,r.sc,r.gl,r.bl,r.ce,r.ci,?_,r.ap,r.lf,r.ge,r.sk.same rfl λb ob es ep g1 g2 _ _=>bh ob es ep (kk _ _ g1) g2,r.tp,r.fl⟩
  ·refine ah (r.hr.at_ i ao e) λob z1 z2=>?_
   exact al ob (kk _ _ z1) z2
  ·refine bp λGz kz=>?_
   refine ah (r.lo) λm hm hl=>?_
   refine dg hm λob es ep g1 g2=>?_
   refine kz ?_
   exact al m (bh ob es ep (kk _ _ g1) g2) hl
 exact q ρ _ _ r' (cO kk rfl) ⟨t',rfl⟩
noncomputable def qz:=cV bJ 37
noncomputable def w6:=kr bJ 37
theorem rZ:dG P 891 qz w6:=by constructor<;>w_on
theorem Ao(x:Value)(S:Setting):peek (Kx P) S (bindArgs (dw P 891) ⟨[x],[]⟩)=some [(("script":Str),x)]:=by w_on
noncomputable def iI:=cV qz 3
noncomputable def gN:=cV iI 0
noncomputable def rF:=cV gN 2
noncomputable def cL:Fs:=⟨w6,[]⟩
theorem bI:cL.scope.kind=.function:=by w_on
structure dm(H:List AO)(bk nm:Nat)(a:Nat→Nat)(js:Nat→Nat→Nat)(rows:Nat→Nat→List Str):Prop where
 b:H[bk]?=some (.list [.obj (a 0),.obj (a 1)])
 n:H[nm]?=some (.list (names.map .str))
 l:∀k,k<2→H[a k]?=some (.list ((ZG 5).map λi=>.obj (js k i)))
 r:∀k,k<2→∀i,i<5→H[js k i]?=some (.list ((rows k i).map .str))
 d:∀k k' i i',k<2→k'<2→i<5→i'<5→js k i=js k' i'→k=k'∧i=i'
 o:∀k i,k<2→i<5→js k i≠bk∧js k i≠nm∧js k i≠a 0∧js k i≠a 1
theorem dm.ext{nm:Nat}{a:Nat→Nat}{js:Nat→Nat→Nat}(x:dm H bk nm a js rows)(e:bW H H'):dm H' bk nm a js rows:=
 ⟨e _ _ x.b,e _ _ x.n,λk hk=>e _ _ (x.l k hk),λk hk i hi=>e _ _ (x.r k hk i hi),x.d,x.o⟩
noncomputable def Cz(rows:Nat→Nat→List Str)(k i:Nat)(y:Str):Nat→Nat→List Str:= λk' i'=>if k'=k∧i'=i then rows k i++[y]else rows k' i'
theorem dm.push{nm:Nat}{a:Nat→Nat}{js:Nat→Nat→Nat}(x:dm H bk nm a js rows)(hk:k<2)(hi:i<5)(y:Str):dm (H.set (js k i) (.list ((rows k i).map .str++[.str y]))) bk nm a js (Cz rows k i y):=by
 refine lQ (x.o k i hk hi) λo1 o2 o3 o4=>?_
 have jl:=(aq (x.r k hk i hi))
 refine⟨ak x.b (Ne.symm o1),ak x.n (Ne.symm o2),λk' hk'=>?_,λk' hk' i' hi'=>?_,x.d,x.o⟩
 ·have:js k i≠a k':=by
   match k',hk' with
   |0,_=>exact o3
   |1,_=>exact o4
  rw[zN this];exact x.l k' hk'
 ·unfold Cz
  by_cases e:k'=k∧i'=i
  ·refine aV e ?_;clear e;intro z0 z1;subst z0;subst z1
   rw[if_pos ⟨rfl,rfl⟩,zT jl]
   simp
  ·rw[if_neg e,zN λq=>e (x.d k' k i' i hk' hk hi' hi q.symm)]
   exact x.r k' hk' i' hi'
theorem tX{i:Int}(h0:0≤i)(h1:i<2 ^ 62)(hs:∀o x,subscripted slice false o x=operate [o,x] (getItem o x))
  (e0:Ev c F k value σ (.obj j) σ₁)(e1:Ev c F k slice σ₁ (.int i) σ₂)(hj:σ₂.H[j]?=some (.list vs))(hv:vs[i.toNat]?=some v):Ev c F k (.Subscript value slice pos) σ v σ₂:= λA ρ s env Q E K r q=>
 Subscript_ (e0 A ρ s env _ E K r λρ1 s1 x r1 st1 vx=>e1 A ρ1 s1 env _ E K r1 λρ2 s2 y r2 st2 vy=>by
  refine bp λGz kz=>?_
  refine cc vy ?_;clear vy;intro t z0;subst z0
  refine aV (st2.vr vx) λ_ z0=>?_;subst z0
  refine br (r2.list hj) λits h3 h4 _=>?_
  refine ah (fp h4 hv) λz hz vz=>?_
  refine kz ?_
  exact tail_any h3.typeIs slot_list_getitem.lookup (wpAny_getItem_list h3 h0 (by lia) (by simpa using hz) (q ρ2 s2 z r2 (st1.trans st2) vz)) (hs _ _))
structure mj(l:List (Str×AV))(bk nm S:Nat)(i:Nat):Prop where
 b:l.lookup ("books":Str)=some (.obj bk)
 n:l.lookup ("names":Str)=some (.obj nm)
 s:l.lookup ("script":Str)=some (.obj S)
 i:l.lookup ("i":Str)=some (.int i)
theorem mj.put{l:List (Str×AV)}{bk nm S i:Nat}(x:mj l bk nm S i){y:Str}{a:AV}(h:y="j"∨y="v"∨y="p"∨y="k"):mj (aR y a l) bk nm S i:=by
 rcases h with rfl|rfl|rfl|rfl<;>exact⟨dR x.b,dR x.n,dR x.s,dR x.i⟩
noncomputable def cq(v:Int)(kk:Nat):Bool:=(v.fdiv ((kk:Int)+1)).fmod 2==1
theorem v7(G:c.Go){nm kk:Nat}{v:Int}{a:Nat→Nat}{js:Nat→Nat→Nat}(L:mj l bk nm S i)(hj:l.lookup ("j":Str)=some (.int j))(hv:l.lookup ("v":Str)=some (.int v))(hkl:l.lookup ("k":Str)=some (.int kk))(x:dm H bk nm a js rows)(hk:kk<2)(hi:i<5)(hjn:j<5)(hz:(rows kk i).length<900):
  ∃H',dI c cL (k+100) rF ⟨l,H⟩ .next ⟨l,H'⟩∧dm H' bk nm a js (if cq v kk then Cz rows kk i (names.getD j "")else rows)∧H'.length=H.length∧(∀(y:Nat)(o:AO),(∀i',i'<5→∀k',k'<2→y≠js k' i')→H[y]?=some o→H'[y]?=some o):=by
 have tst:∀{p1 p2 p3 p4 p5 p6 p7 p8 p9:Pos}{q1 q2 q3:Nat},Te c cL (k+100) (.Compare (.BinOp (.BinOp (.Name "v" p1) .FloorDiv (.BinOp (.Name "k" p2) .Add (.Constant (.int 1) q1 p3) p4) p5) .Mod (.Constant (.int 2) q2 p6) p7) [.Eq] [.Constant (.int 1) q3 p8] p9) ⟨l,H⟩ (cq v kk) ⟨l,H⟩:=
  av (F:=cL) rfl (i8 (i8 (aa bI rfl hv) (i8 (aa bI rfl hkl) aJ jc) (ye (by lia))) aJ (yv rfl)) aJ (qR rfl)
 cases hb:cq v kk with
 |false=>
  rw[hb]at tst
  refine gA H ?_ x rfl λy o _ h=>h
  k_dflt refine' aT (aL (F:=cL) (t:=false) tst ar)
 |true=>
  rw[hb]at tst
  have kl:([AV.obj (a 0),AV.obj (a 1)])[((kk:Int)).toNat]?=some (.obj (a kk)):=by
   exact CE hk rfl rfl
  have il:((ZG 5).map λi=>AV.obj (js kk i))[((i:Int)).toNat]?=some (.obj (js kk i)):=by
   rw[ZK,Int.toNat_natCast,zG (by simpa using hi)]
   simp
  have jl:(names.map AV.str)[((j:Int)).toNat]?=some (.str (names.getD j "")):=by
   rw[ZK,Int.toNat_natCast,zG (by show j<5;exact hjn)]
   simp[show j<names.length from hjn]
  have rl:=x.r kk hk i hi
  refine gA (H.set (js kk i) (.list ((rows kk i).map .str++[.str (names.getD j "")]))) ?_ (x.push hk hi _) (by simp) λy o hy h=>?_
  ·k_dflt refine' aT (aL (F:=cL) (t:=true) tst (aT (cu (F:=cL) (v:=.none) ?_ (λ_=>rfl) (d9 (λ_=>rfl) (tX (by lia) (by lia) (λ_ _=>rfl) (cW (by lia) (by lia) (λ_ _=>rfl) (λ_ _=>rfl) (aa bI rfl L.b) (aa bI rfl hkl) x.b kl) (aa bI rfl L.i) (x.l kk hk) il) (dp slot_list_append type_list_append rl) (af λ_=>rfl) (am (λ_=>rfl) (cW (by lia) (by lia) (λ_ _=>rfl) (λ_ _=>rfl) (aa bI rfl L.n) (aa bI rfl hj) x.n jl) au) (eQ rl (by simp;lia))))))
   intro env he
   unfold interactive
   rw[he]
   rfl
  ·rw[zN λq=>hy i hi kk hk q.symm]
   exact h
noncomputable def aY:List Int:=[3,1,2,0,3,3,0,2,1,0]
noncomputable def E2:AV→Int
 | .int i=>i
 |_=>0
noncomputable def gV(ns:List Int)(p:Nat):List Int:=(rv (ns.map .int) (some p) none (some 10)).map E2
theorem Ig(ns:List Int)(p:Nat):rv (ns.map .int) (some p) none (some 10)=(gV ns p).map .int:=by
 unfold gV
 rw[Zr]
 have:∀a∈rv (ns.map AV.int) (some (p:Int)) none (some 10),AV.int (E2 a)=a:=by
  intro a ha
  unfold rv at ha
  refine ah (Zx.mp ha) λi _ h2=>?_
  rw[ZK]at h2
  refine ah (Z5.mp h2) λn _ z0=>?_;subst z0
  rfl
 conv=>lhs;rw[←List.map_id (rv _ _ _ _)]
 exact ZO λa ha=>(this a ha).symm
noncomputable def ca(ns:List Int)(p:Nat):Int:=aY.getD p 0+(gV ns p).sum
theorem ny:nsIn (Kx P) mainGlobals ("range":Str)=some none:=by w_on
theorem lP:bootBuiltins ("range":Str)=some (.type "range"):=PyProof.Rows.Boot.range
theorem Ip:nsIn (Kx P) mainGlobals ("sum":Str)=some none:=by w_on
theorem F6:bootBuiltins ("sum":Str)=some (.builtin "sum"):=PyProof.Rows.Boot.sum
noncomputable def o0(rows:Nat→Nat→List Str)(v:Int)(i:Nat)(y:Str):Nat→Nat→List Str:=
 let r0:=if cq v 0 then Cz rows 0 i y else rows
 if cq v 1 then Cz r0 1 i y else r0
theorem rf{kk:Nat}(h:∀k i,(rows k i).length≤n)(k' i':Nat):(Cz rows kk i y k' i').length≤n+1:=by
 unfold Cz
 split
 ·have:=h kk i;simp;lia
 ·have:=h k' i';lia
theorem Cy:∃(elts:List Expr)(p1 p2 p3 p4 p5 p6 p7 p8 p9 p10 p11 p12 p13 p14 p15 p16 p17 p18 p19 p20 p21:Pos)(q1 q2 q3:Nat),gN=[.Assign [.Name "v" p1] (.BinOp (.Subscript (.List elts p2) (.Name "p" p3) p4) .Add (.Call (.Name "sum" p5) [.Subscript (.Name "script" p6) (.Slice (some (.Name "p" p7)) none (some (.Constant (.int 10) q1 p8)) p9) p10] [] p11) p12) p13,.AugAssign (.Name "p" p14) .Add (.Constant (.int 1) q2 p15) p16,.For (.Name "k" p17) (.Call (.Name "range" p18) [.Constant (.int 2) q3 p19] [] p20) rF [] p21]∧
  (∀(c:Cx)(F:Fs)(k:Nat)(σ:St)(pos:Pos),Ag c F k pos elts σ (aY.map .int) σ):=
 ⟨_,_,_,_,_,_,_,_,_,_,_,_,_,_,_,_,_,_,_,_,_,_,_,_,_,by k_dflt rfl,λc F k σ pos=>am (λ_=>rfl) aJ (am (λ_=>rfl) aJ (am (λ_=>rfl) aJ (am (λ_=>rfl) aJ (am (λ_=>rfl) aJ (am (λ_=>rfl) aJ (am (λ_=>rfl) aJ (am (λ_=>rfl) aJ (am (λ_=>rfl) aJ (am (λ_=>rfl) aJ au)))))))))⟩
theorem C2(G:c.Go){nm p:Nat}{a:Nat→Nat}{js:Nat→Nat→Nat}(L:mj l bk nm S i)(hj:l.lookup ("j":Str)=some (.int j))(hp:l.lookup ("p":Str)=some (.int p))(x:dm H bk nm a js rows)(hS:H[S]?=some (.list (ns.map .int)))(hn:ns.length<900)(hSn:∀k,k<2→∀i,i<5→S≠js k i)(hi:i<5)(hjn:j<5)(hpn:p<10)(hN:N<800)(hz:∀k i,(rows k i).length≤N):
  ∃l' H',dI c cL (k+100) gN ⟨l,H⟩ .next ⟨l',H'⟩∧mj l' bk nm S i∧l'.lookup ("p":Str)=some (.int (p+1:Nat))∧dm H' bk nm a js (o0 rows (ca ns p) i (names.getD j ""))∧H.length≤H'.length∧(∀(y:Nat)(o:AO),(∀i',i'<5→∀k',k'<2→y≠js k' i')→H[y]?=some o→H'[y]?=some o):=by
 have eH1:bW H (H++[AO.list (aY.map .int)]++[AO.list ((gV ns p).map .int)]):=bW.app.trans bW.app
 have eH2:bW H (H++[AO.list (aY.map .int)]++[AO.list ((gV ns p).map .int)]++[iW 2]):=eH1.trans bW.app
 have L1:=L.put (y:="v") (a:=.int (ca ns p)) (by simp)
 have L2:=L1.put (y:="p") (a:=.int (p+1:Nat)) (by simp)
 refine bb (aR ("p":Str) (.int ((p+1:Nat):Int)) (aR ("v":Str) (.int (ca ns p)) l)) λl2 el2=>?_
 rw[←el2]at L2
 have hp2:l2.lookup ("p":Str)=some (.int (p+1:Nat)):=by rw[el2];exact aj _ _ _
 have hv2:l2.lookup ("v":Str)=some (.int (ca ns p)):=by rw[el2,bV _ _ _ (by decide)];exact aj _ _ _
 have hj2:l2.lookup ("j":Str)=some (.int j):=by rw[el2,bV _ _ _ (by decide),bV _ _ _ (by decide)];exact hj
 refine bb (H++[AO.list (aY.map .int)]++[AO.list ((gV ns p).map .int)]++[iW 2]) λH2 eH2'=>?_
 rw[←eH2']at eH2
 have x2:=x.ext eH2
 have rg:H2[(H++[AO.list (aY.map .int)]++[AO.list ((gV ns p).map .int)]).length]?=some (iW 2):=by rw[eH2',zR (ZA _),ZY];rfl
 refine cv (v7 (k:=k) (l:=aR "k" (.int ((0:Nat):Int)) l2) (kk:=0) (v:=ca ns p) G (L2.put (y:="k") (by simp)) (dR hj2) (dR hv2) (aj _ _ _) x2 (by decide) hi hjn (by have:=hz 0 i;lia)) λH3 t0 x3 n3 o3=>?_
 have z1:((if cq (ca ns p) 0=true then Cz rows 0 i (names.getD j "")else rows) 1 i).length<900:=by
  split
  ·have:=rf (kk:=0) (i:=i) (y:=names.getD j "") hz 1 i;lia
  ·have:=hz 1 i;lia
 refine cv (v7 (k:=k) (l:=aR "k" (.int ((1:Nat):Int)) (aR "k" (.int ((0:Nat):Int)) l2)) (kk:=1) (v:=ca ns p) G ((L2.put (y:="k") (by simp)).put (y:="k") (by simp)) (dR (dR hj2)) (dR (dR hv2)) (aj _ _ _) x3 (by decide) hi hjn z1) λH4 t1 x4 n4 o4=>?_
 refine ib (aR "k" (.int ((1:Nat):Int)) (aR "k" (.int ((0:Nat):Int)) l2)) H4 ?_ ((L2.put (y:="k") (by simp)).put (y:="k") (by simp)) (dR (dR hp2)) x4 (by rw[n4,n3,eH2'];simp) λy o hy h=>o4 y o hy (o3 y o hy (eH2 y o h))
 have lp:∀{pp:Pos},fg c cL (k+100) (d8 2) (.Name "k" pp) rF [.int ((0:Nat):Int),.int ((1:Nat):Int)] ⟨l2,H2⟩ .next ⟨_,H4⟩:=
  .next trivial (.inl rfl) (bg bI rfl) t0 (.next trivial (.inl rfl) (bg bI rfl) t1 (.nil trivial))
 have hvl:ca ns p=aY.getD p 0+(gV ns p).sum:=rfl
 have cl:(aY.map AV.int)[((p:Int)).toNat]?=some (.int (aY.getD p 0)):=by
  rw[ZK,Int.toNat_natCast,zG (by show p<10;exact hpn)]
  simp[show p<aY.length from hpn]
 have sl:∀{pa pb pc pd pe:Pos}{q:Nat},Ev c cL (k+100) (.Subscript (.Name "script" pa) (.Slice (some (.Name "p" pb)) none (some (.Constant (.int 10) q pc)) pd) pe) ⟨l,H++[AO.list (aY.map .int)]⟩ (.obj (H++[AO.list (aY.map .int)]).length) ⟨l,H++[AO.list (aY.map .int)]++[AO.list ((gV ns p).map .int)]⟩:= λ{pa pb pc pd pe q}=>
  fE (c:=c) (F:=cL) (k:=k+100) (σ:=⟨l,H++[AO.list (aY.map .int)]⟩) (σ₁:=⟨l,H++[AO.list (aY.map .int)]⟩) (σ₂:=⟨l,H++[AO.list (aY.map .int)]⟩) (σ₃:=⟨l,H++[AO.list (aY.map .int)]⟩) (σ₄:=⟨l,H++[AO.list (aY.map .int)]⟩) (j:=S) (vs:=ns.map .int) (l:=some (p:Int)) (u:=none) (t:=some 10) (v':=(gV ns p).map .int) (by simpa using ZD hn (by lia)) (by simp)
   (λ_ _=>⟨_,rfl⟩) (aa bI rfl L.s) (e9 (aa bI rfl hp)) ds (e9 aJ) (bW.app _ _ hS) (λρ n its h=>by rw[←Ig];exact s9 h _ _ _)
 have cA:(H++[AO.list (aY.map .int)])[H.length]?=some (.list (aY.map .int)):=aO
 have cB:(H++[AO.list (aY.map .int)]++[AO.list ((gV ns p).map .int)])[(H++[AO.list (aY.map .int)]).length]?=some (.list ((gV ns p).map .int)):=aO
 have li:∀{elts:List Expr}{pos:Pos},Ag c cL (k+100) pos elts ⟨l,H⟩ (aY.map .int) ⟨l,H⟩→Ev c cL (k+100) (.List elts pos) ⟨l,H⟩ (.obj H.length) ⟨l,H++[AO.list (aY.map .int)]⟩:= λh=>dL (by decide) h
 have rn:∀{f:Expr}{pos:Pos}{q:Nat}{p2:Pos},(∀env,eval (.Call f [.Constant (.int 2) q p2] [] pos) env=(do callWith pos (←eval f env) [] (backTo pos (starEach [.Constant (.int 2) q p2] env)) (backToKw pos (keywordEach [] env))))→Ev c cL (k+100) f ⟨l2,H++[AO.list (aY.map .int)]++[AO.list ((gV ns p).map .int)]⟩ (.val (.type "range")) ⟨l2,H++[AO.list (aY.map .int)]++[AO.list ((gV ns p).map .int)]⟩→
   Ev c cL (k+100) (.Call f [.Constant (.int 2) q p2] [] pos) ⟨l2,H++[AO.list (aY.map .int)]++[AO.list ((gV ns p).map .int)]⟩ (.obj (H++[AO.list (aY.map .int)]++[AO.list ((gV ns p).map .int)]).length) ⟨l2,H2⟩:= λhe h=>by
  rw[eH2']
  exact cQ he (λ_=>rfl) h (af λ_=>rfl) (am (λ_=>rfl) aJ au) k7
 have sm:∀{f e:Expr}{pos:Pos},(∀env,eval (.Call f [e] [] pos) env=(do callWith pos (←eval f env) [] (backTo pos (starEach [e] env)) (backToKw pos (keywordEach [] env))))→(∀env,starEach [e] env=[(false,eval e env)])→Ev c cL (k+100) f ⟨l,H++[AO.list (aY.map .int)]⟩ (.val (.builtin "sum")) ⟨l,H++[AO.list (aY.map .int)]⟩→Ev c cL (k+100) e ⟨l,H++[AO.list (aY.map .int)]⟩ (.obj (H++[AO.list (aY.map .int)]).length) ⟨l,H++[AO.list (aY.map .int)]++[AO.list ((gV ns p).map .int)]⟩→
   Ev c cL (k+100) (.Call f [e] [] pos) ⟨l,H++[AO.list (aY.map .int)]⟩ (.int ((gV ns p).sum)) ⟨l,H++[AO.list (aY.map .int)]++[AO.list ((gV ns p).map .int)]⟩:= λhe hs h1 h2=>
  dA he (λenv=>by rw[hs env];rfl) h1 (af λenv=>by rw[hs env];rfl) (am (λenv=>by rw[hs env];rfl) h2 au) (FG (by lia) cB)
 generalize H++[AO.list (aY.map .int)]++[AO.list ((gV ns p).map .int)]=HB at*
 generalize H++[AO.list (aY.map .int)]=HA at*
 obtain⟨elts,p1,p2,p3,p4,p5,p6,p7,p8,p9,p10,p11,p12,p13,p14,p15,p16,p17,p18,p19,p20,p21,q1,q2,q3,hb,hag⟩:=Cy
 rw[hb]
 refine ae (σ₁:=⟨aR "v" (.int (ca ns p)) l,HB⟩) ?_ (ae (σ₁:=⟨l2,HB⟩) ?_ (aT (gu (F:=cL) (I:=d8 2) (σ₁:=⟨l2,H2⟩) (a:=.obj HB.length) G.ok gb (λ_ _=>rfl) (λ_ _=>rfl) (by lia) ?_ (lN (by decide) rg) lp)))
 ·refine aw (F:=cL) (x:="v") (v:=.int (ca ns p)) (σ:=⟨l,H⟩) (σ₁:=⟨l,HB⟩) bI rfl (λ_=>rfl) ?_
  exact i8 (F:=cL) (σ₁:=⟨l,HA⟩) (σ₂:=⟨l,HB⟩) (a:=.int (aY.getD p 0)) (b:=.int ((gV ns p).sum)) (tX (σ₁:=⟨l,HA⟩) (j:=H.length) (by lia) (by lia) (λ_ _=>rfl) (li (hag _ _ _ _ _)) (aa bI rfl hp) cA cl) (sm (λ_=>rfl) (λ_=>rfl) (di G bI rfl (Ip _) F6) sl) jc
 ·rw[el2]
  exact nO (F:=cL) (x:="p") (σ:=⟨aR "v" (.int (ca ns p)) l,HB⟩) (σ₁:=⟨aR "v" (.int (ca ns p)) l,HB⟩) (σ₂:=⟨aR "v" (.int (ca ns p)) l,HB⟩) bI rfl (by decide) (dR hp) aJ eX
 ·exact rn (λ_=>rfl) (di G bI rfl (ny _) lP)
noncomputable def eV(ns:List Int):(Nat→Nat→List Str)→Nat→Nat→Nat→Nat→(Nat→Nat→List Str)
 |rows,_,_,0,_=>rows
 |rows,i,t,m+1,p=>eV ns (o0 rows (ca ns p) i (names.getD t "")) i (t+1) m (p+1)
noncomputable def jY(ns:List Int):(Nat→Nat→List Str)→Nat→Nat→Nat→(Nat→Nat→List Str)
 |rows,_,0,_=>rows
 |rows,i,m+1,p=>jY ns (eV ns rows i 0 i p) (i+1) m (p+i)
theorem tv{v:Int}(h:∀k i,(rows k i).length≤n)(k' i':Nat):(o0 rows v i y k' i').length≤n+2:=by
 unfold o0
 have h0:∀k i',((if cq v 0=true then Cz rows 0 i y else rows) k i').length≤n+1:= λk i'=>by
  split
  ·exact rf h k i'
  ·have:=h k i';lia
 split
 ·exact rf h0 k' i'
 ·have:=h0 k' i';lia
theorem mF{t:Nat}(h:t+(m+1)=n):((ZG n).map λ(i:Nat)=>AV.int (i:Int)).drop t=.int (t:Int)::((ZG n).map λ(i:Nat)=>AV.int (i:Int)).drop (t+1):=by
 rw[List.drop_eq_getElem_cons (by simp;lia)]
 simp
theorem sD(G:c.Go){nm:Nat}{a:Nat→Nat}{js:Nat→Nat→Nat}(hn:ns.length<900)(hSn:∀k,k<2→∀i,i<5→S≠js k i)(hi:i<5){pp:Pos}:
  ∀(m t p N:Nat)(l:List (Str×AV))(H:List AO)(rows:Nat→Nat→List Str),t+m=i→mj l bk nm S i→l.lookup ("p":Str)=some (.int p)→dm H bk nm a js rows→H[S]?=some (.list (ns.map .int))→p+m≤10→N+2*m<800→(∀k i,(rows k i).length≤N)→
   ∃l' H',fg c cL (k+100) (d8 i) (.Name "j" pp) gN (((ZG i).map λ(i:Nat)=>AV.int (i:Int)).drop t) ⟨l,H⟩ .next ⟨l',H'⟩∧mj l' bk nm S i∧l'.lookup ("p":Str)=some (.int (p+m:Nat))∧dm H' bk nm a js (eV ns rows i t m p)∧H.length≤H'.length∧(∀(y:Nat)(o:AO),(∀i',i'<5→∀k',k'<2→y≠js k' i')→H[y]?=some o→H'[y]?=some o):=by
 intro m
 induction m with
 |zero=>
  intro t p N l H rows ht L hp x hS hpn hN hz
  refine ib l H ?_ L hp x (ZA _) λy o _ h=>h
  rw[List.drop_of_length_le (by simp;lia)]
  exact .nil trivial
 |succ m ih=>
  intro t p N l H rows ht L hp x hS hpn hN hz
  have L1:=L.put (y:="j") (a:=.int (t:Int)) (by simp)
  refine bp λGz kz=>?_
  refine dZ (C2 (k:=k) (l:=aR "j" (.int (t:Int)) l) (j:=t) (N:=N) G L1 (aj _ _ _) (dR hp) x hS hn hSn hi (by lia) (by lia) (by lia) hz) λl1 H1 e1 e2 e3 e4 e5 e6=>?_
  refine kz ?_
  have hS1:H1[S]?=some (.list (ns.map .int)):=e6 _ _ (λi' hi' k' hk'=>hSn k' hk' i' hi') hS
  have hz1:∀k' i',(o0 rows (ca ns p) i (names.getD t "") k' i').length≤N+2:= λk' i'=>tv hz k' i'
  have er:eV ns rows i t (m+1) p=eV ns (o0 rows (ca ns p) i (names.getD t "")) i (t+1) m (p+1):=by rw[eV]
  rw[er]
  generalize o0 rows (ca ns p) i (names.getD t "")=rows1 at e4 hz1 ⊢
  have t1:t+1+m=i:=by lia
  have p1:p+1+m≤10:=by lia
  have n1:N+2+2*m<800:=by lia
  refine bp λGz kz=>?_
  refine dZ (ih (t+1) (p+1) (N+2) l1 H1 rows1 t1 e2 e3 e4 hS1 p1 n1 hz1) λl2 H2 f1 f2 f3 f4 f5 f7=>?_
  refine kz ?_
  have ep:p+1+m=p+(m+1):=by lia
  rw[ep]at f3
  have hjl:cL.scope.names.lookup ("j":Str)=some .local:=by w_on
  have lp:fg c cL (k+100) (d8 i) (.Name "j" pp) gN (.int (t:Int)::((ZG i).map λ(i:Nat)=>AV.int (i:Int)).drop (t+1)) ⟨l,H⟩ .next ⟨l2,H2⟩:=by
   have as1:As c cL (k+100) (.Name "j" pp) (.int (t:Int)) ⟨l,H⟩ ⟨aR "j" (.int (t:Int)) l,H⟩:=bg bI hjl
   generalize aR "j" (.int (t:Int)) l=lj at as1 e1
   generalize gN=bdy at e1 f1 ⊢
   exact fg.next trivial (.inl rfl) as1 e1 f1
  rw[←mF ht]at lp
  exact ib l2 H2 lp f2 f3 f4 (Z2 e5 f5) λy o hy h=>f7 y o hy (e6 y o hy h)
theorem Cc(kz:∀(p1 p2 p3 p4 p5:Pos),(iI=[.For (.Name "j" p1) (.Call (.Name "range" p2) [.Name "i" p3] [] p4) gN [] p5])→Gz):Gz:=kz _ _ _ _ _ (by k_dflt rfl)
theorem pO{ns:List Int}:∀{m:Nat}{rows:Nat→Nat→List Str}{i t p n:Nat},(∀k i,(rows k i).length≤n)→∀k' i',(eV ns rows i t m p k' i').length≤n+2*m
 |0,rows,i,t,p,n,h,k',i'=>by rw[eV];have:=h k' i';lia
 |m+1,rows,i,t,p,n,h,k',i'=>by
  rw[eV]
  have:=pO (ns:=ns) (m:=m) (i:=i) (t:=t+1) (p:=p+1) (n:=n+2) (λk i'=>tv (v:=ca ns p) (i:=i) (y:=names.getD t "") h k i') k' i'
  lia
theorem EL(G:c.Go){nm p:Nat}{a:Nat→Nat}{js:Nat→Nat→Nat}(L:mj l bk nm S i)(hp:l.lookup ("p":Str)=some (.int p))(x:dm H bk nm a js rows)(hS:H[S]?=some (.list (ns.map .int)))(hn:ns.length<900)(hSn:∀k,k<2→∀i,i<5→S≠js k i)(hi:i<5)(hpn:p+i≤10)(hN:N+2*i<800)(hz:∀k i,(rows k i).length≤N):
  ∃l' H',dI c cL (k+100) iI ⟨l,H⟩ .next ⟨l',H'⟩∧mj l' bk nm S i∧l'.lookup ("p":Str)=some (.int (p+i:Nat))∧dm H' bk nm a js (eV ns rows i 0 i p)∧H.length≤H'.length∧(∀(y:Nat)(o:AO),(∀i',i'<5→∀k',k'<2→y≠js k' i')→H[y]?=some o→H'[y]?=some o):=by
 refine bp λGz kz=>?_
 refine Cc λp1 p2 p3 p4 p5 hb=>?_
 have eH:bW H (H++[iW i]):=bW.app
 have rg:(H++[iW i])[H.length]?=some (iW i):=aO
 refine dZ (sD (k:=k) (pp:=p1) G hn hSn hi i 0 p N l (H++[iW i]) rows (by lia) L hp (x.ext eH) (eH _ _ hS) hpn hN hz) λl1 H1 f1 f2 f3 f4 f5 f7=>?_
 refine kz ?_
 rw[List.drop_zero]at f1
 refine ib l1 H1 ?_ f2 f3 f4 (Z2 (by simp) f5) λy o hy h=>f7 y o hy (eH y o h)
 rw[hb]
 have rn:Ev c cL (k+100) (.Call (.Name "range" p2) [.Name "i" p3] [] p4) ⟨l,H⟩ (.obj H.length) ⟨l,H++[iW i]⟩:=cQ (λ_=>rfl) (λ_=>rfl) (di G bI rfl (ny _) lP) (af λ_=>rfl) (am (λ_=>rfl) (aa bI rfl L.i) au) k7
 generalize gN=bdy at f1 ⊢
 exact aT (gu (F:=cL) (I:=d8 i) G.ok gb (λ_ _=>rfl) (λ_ _=>rfl) (by lia) rn (lN (by lia) rg) f1)
structure qe(l:List (Str×AV))(bk nm S:Nat):Prop where
 b:l.lookup ("books":Str)=some (.obj bk)
 n:l.lookup ("names":Str)=some (.obj nm)
 s:l.lookup ("script":Str)=some (.obj S)
theorem qe.ii{nm:Nat}(x:qe l bk nm S)(i:Nat):mj (aR "i" (.int (i:Int)) l) bk nm S i:=
 ⟨dR x.b,dR x.n,dR x.s,aj _ _ _⟩
theorem mj.z{nm:Nat}(x:mj l bk nm S i):qe l bk nm S:=⟨x.b,x.n,x.s⟩
noncomputable def BR:Nat→Nat→Nat
 |_,0=>0
 |i,m+1=>i+BR (i+1) m
theorem ud(G:c.Go){nm:Nat}{a:Nat→Nat}{js:Nat→Nat→Nat}(hn:ns.length<900)(hSn:∀k,k<2→∀i,i<5→S≠js k i){pp:Pos}:
  ∀(m i p N:Nat)(l:List (Str×AV))(H:List AO)(rows:Nat→Nat→List Str),i+m=5→qe l bk nm S→l.lookup ("p":Str)=some (.int p)→dm H bk nm a js rows→H[S]?=some (.list (ns.map .int))→p+BR i m≤10→N+10*m<800→(∀k i,(rows k i).length≤N)→
   ∃l' H',fg c cL (k+100) (d8 5) (.Name "i" pp) iI (((ZG 5).map λ(i:Nat)=>AV.int (i:Int)).drop i) ⟨l,H⟩ .next ⟨l',H'⟩∧qe l' bk nm S∧dm H' bk nm a js (jY ns rows i m p)∧H.length≤H'.length∧(∀(y:Nat)(o:AO),(∀i',i'<5→∀k',k'<2→y≠js k' i')→H[y]?=some o→H'[y]?=some o):=by
 intro m
 induction m with
 |zero=>
  intro i p N l H rows ht L hp x hS hpn hN hz
  refine kW l H ?_ L x (ZA _) λy o _ h=>h
  rw[List.drop_of_length_le (by simp;lia)]
  exact .nil trivial
 |succ m ih=>
  intro i p N l H rows ht L hp x hS hpn hN hz
  have tr:BR i (m+1)=i+BR (i+1) m:=by rw[BR]
  rw[tr]at hpn
  refine bp λGz kz=>?_
  refine dZ (EL (k:=k) (l:=aR "i" (.int (i:Int)) l) (i:=i) (N:=N) G (L.ii i) (dR hp) x hS hn hSn (by lia) (by lia) (by lia) hz) λl1 H1 e1 e2 e3 e4 e5 e6=>?_
  refine kz ?_
  have hS1:H1[S]?=some (.list (ns.map .int)):=e6 _ _ (λi' hi' k' hk'=>hSn k' hk' i' hi') hS
  have hz1:∀k' i',(eV ns rows i 0 i p k' i').length≤N+10:= λk' i'=>by have:=pO (ns:=ns) (m:=i) (i:=i) (t:=0) (p:=p) hz k' i';lia
  have er:jY ns rows i (m+1) p=jY ns (eV ns rows i 0 i p) (i+1) m (p+i):=by rw[jY]
  rw[er]
  generalize eV ns rows i 0 i p=rows1 at e4 hz1 ⊢
  refine bp λGz kz=>?_
  refine i5 (ih (i+1) (p+i) (N+10) l1 H1 rows1 (by lia) e2.z e3 e4 hS1 (by lia) (by lia) hz1) λl2 H2 f1 f2 f4 f5 f7=>?_
  refine kz ?_
  have hil:cL.scope.names.lookup ("i":Str)=some .local:=by w_on
  have as1:As c cL (k+100) (.Name "i" pp) (.int (i:Int)) ⟨l,H⟩ ⟨aR "i" (.int (i:Int)) l,H⟩:=bg bI hil
  generalize aR "i" (.int (i:Int)) l=lj at as1 e1
  have rI:=mF (n:=5) (t:=i) (m:=m) ht
  rw[rI]
  generalize iI=bdy at e1 f1 ⊢
  exact kW l2 H2 (fg.next trivial (.inl rfl) as1 e1 f1) f2 f4 (Z2 e5 f5) λy o hy h=>f7 y o hy (e6 y o hy h)
theorem Bg(kz:∀(elts:List Expr)(sc1 sc2:Scope)(p1 p2 p3 p4 p5 p6 p7 p8 p9 p10 p11 p12 p13 p14 p15 p16 p17 p18 p19 p20 p21 p22 p23 p24 p25 p26:Pos)(q1 q2:Nat),(qz=[.Assign [.Name "names" p1] (.List elts p2) p3,
  .Assign [.Name "books" p4] (.List [.ListComp (.List [.Name "name" p5] p6) [⟨.Name "name" p7,.Name "names" p8,[],0⟩] sc1 p9,.ListComp (.List [.Name "name" p10] p11) [⟨.Name "name" p12,.Name "names" p13,[],0⟩] sc2 p14] p15) p16,
  .Assign [.Name "p" p17] (.Constant (.int 0) q1 p18) p19,.For (.Name "i" p20) (.Call (.Name "range" p21) [.Constant (.int 5) q2 p22] [] p23) iI [] p24,.Return (some (.Name "books" p25)) p26]∧
  (∀(c:Cx)(F:Fs)(k:Nat)(σ:St)(pos:Pos),Ag c F k pos elts σ (names.map .str) σ)∧
  (sc1.names.all λx=>x.2 != .free)=true∧(sc1.names.all λx=>x.2 != .cell)=true∧sc1.kind=.function∧(sc1.names.lookup (".0":Str)==some .local&&sc1.names.all λx=>x.2 != .local||sc1.names.lookup x.1==some .local)=true∧sc1.names.lookup ("name":Str)=some .local∧
  (sc2.names.all λx=>x.2 != .free)=true∧(sc2.names.all λx=>x.2 != .cell)=true∧sc2.kind=.function∧(sc2.names.lookup (".0":Str)==some .local&&sc2.names.all λx=>x.2 != .local||sc2.names.lookup x.1==some .local)=true∧sc2.names.lookup ("name":Str)=some .local)→Gz):Gz:=kz _ _ _ _ _ _ _ _ _ _ _ _ _ _ _ _ _ _ _ _ _ _ _ _ _ _ _ _ _ _ _ ⟨by k_dflt rfl,λc F k σ pos=>am (λ_=>rfl) bn (am (λ_=>rfl) bn (am (λ_=>rfl) bn (am (λ_=>rfl) bn (am (λ_=>rfl) bn au)))),by w_on,by w_on,by w_on,by w_on,by w_on,by w_on,by w_on,by w_on,by w_on,by w_on⟩
theorem sq(G:c.Go)(hk:F.scope.kind=.function)(hn:F.scope.names.lookup ("name":Str)=some .local)(hg:gens=[⟨.Name "name" p3,iter,[],0⟩])(hTJ:T≠J)(hl:xs.length<900):
  ∀(rest:List Str)(done:List Nat)(i:Nat)(l:List (Str×AV))(H:List AO),H[T]?=some (.list (xs.map .str))→H[J]?=some (.list (done.map .obj))→xs.drop i=rest→done.length=i→
   ∃loc' H' js,CL c F (k+100) (.List [.Name "name" p1] p2) gens sc pos 0 (aQ T (xs.map .str)) J i ⟨l,H⟩ ⟨loc',H'⟩∧H'[J]?=some (.list ((done++js).map .obj))∧js=(ZG rest.length).map (H.length+ ·)∧
    (∀(i:Nat)(x:Str),rest[i]?=some x→H'[H.length+i]?=some (AO.list [.str x]))∧H'.length=H.length+rest.length∧(∀(x:Nat)(o:AO),x≠J→H[x]?=some o→H'[x]?=some o):=by
 intro rest
 induction rest with
 |nil=>
  intro done i l H hT hJ hd hi
  subst hg
  refine oL l H [] (im (σ:=⟨l,H⟩) (I:=aQ T (xs.map .str)) (az) rfl rfl (λ_ _=>rfl) (by lia) hT ?_) (by simpa using hJ) rfl (λi x h=>by simp at h) (by simp) λx o _ h=>h
  show(xs.map AV.str)[i]?=none
  rw[ZC]
  simp[ZL]at hd ⊢
  exact hd
 |cons x rest ih=>
  intro done i l H hT hJ hd hi
  have hi1:xs[i]?=some x:=by
   have:(xs.drop i)[0]?=some x:=by rw[hd];rfl
   rw[Z1,Zq]at this
   exact this
  have hd1:xs.drop (i+1)=rest:=by
   have:(xs.drop i).drop 1=rest:=by rw[hd];rfl
   rw[Zp]at this
   exact this
  have ilt:=aq hi1
  have Jl:=aq hJ
  have up2:∀(y:Nat)(o:AO),y≠J→H[y]?=some o→((H++[AO.list [.str x]]).set J (.list (done.map .obj++[.obj H.length])))[y]?=some o:= λy o hy h=>ak (bW.app y o h) hy
  have Jl2:J<(H++[AO.list [.str x]]).length:=by simp;lia
  have ln:((H++[AO.list [.str x]]).set J (.list (done.map .obj++[.obj H.length]))).length=H.length+1:=by simp
  refine bp λGz kz=>?_
  refine ku (ih (done++[H.length]) (i+1) (aR "name" (.str x) l) _ (up2 _ _ hTJ hT) (by rw[zT Jl2];simp) hd1 (by simp[hi])) λloc' H' js c1 c2 c3 c4 c5 c6=>?_
  refine kz ?_
  rw[ln]at c3 c4 c5
  have hne:H.length≠J:=by lia
  subst hg
  refine oL loc' H' (H.length::js) (fL (a:=.str x) (v:=.obj H.length) (σ:=⟨l,H⟩) (σ₁:=⟨aR "name" (.str x) l,H⟩) (σ₂:=⟨aR "name" (.str x) l,H⟩) (σ₃:=⟨aR "name" (.str x) l,H++[AO.list [.str x]]⟩) (acc:=done.map .obj) (I:=aQ T (xs.map .str)) G.ok (az) rfl rfl (λ_ _=>rfl) hT ?_ (bg hk hn) jP ?_ (bW.app _ _ hJ) (by simp;lia) c1) (by simpa using c2) ?_ ?_ (by rw[c5];simp;lia) ?_
  ·show(xs.map AV.str)[i]?=_
   rw[ZK,hi1];rfl
  ·exact dL (by show 1<1000;decide) (am (λ_=>rfl) (aa hk hn (aj _ _ _)) au)
  ·rw[c3,Zk,List.range_succ_eq_map,ZZ,Zr]
   simp only[Zq,List.cons.injEq,true_and]
   exact ZO λa _=>by simp only[Function.comp];lia
  ·intro i' y h
   cases i' with
   |zero=>
    cases h
    rw[Zq]
    exact c6 _ _ hne (ak aO hne)
   |succ i'=>
    have:=c4 i' y h
    rw[show H.length+(i'+1)=H.length+1+i' by lia]
    exact this
  ·intro y o hy h
   exact c6 y o hy (up2 y o hy h)
noncomputable def mB:Nat→Nat→List Str:= λ_ i=>[names.getD i ""]
theorem oz(G:c.Go){p7 p8 p9:Pos}(S:cz F sc sc [])(hk:F.scope.kind=.function)(hnm:F.scope.names.lookup ("names":Str)=some .local)(hl:l.lookup ("names":Str)=some (.obj T))(hT:H[T]?=some (.list (names.map .str)))(hsk:sc.kind=.function)(hsn:sc.names.lookup ("name":Str)=some .local):
  ∃H',Ev c F (k+100) (.ListComp (.List [.Name "name" p5] p6) [⟨.Name "name" p7,.Name "names" p8,[],0⟩] sc p9) ⟨l,H⟩ (.obj H.length) ⟨l,H'⟩∧H'[H.length]?=some (.list ((ZG 5).map λi=>.obj (H.length+1+i)))∧(∀i,i<5→H'[H.length+1+i]?=some (AO.list [.str (names.getD i "")]))∧H'.length=H.length+6∧bW H H':=by
 have Tl:=aq hT
 have l1:(H++[AO.list []]).length=H.length+1:=by simp
 refine bp λGz kz=>?_
 refine ku (sq (k:=k) (F:=⟨sc,[]⟩) (sc:=sc) (gens:=[⟨.Name "name" p7,.Name "names" p8,[],0⟩]) (pos:=p9) (p1:=p5) (p2:=p6) (T:=T) (J:=H.length) (xs:=names) G hsk hsn rfl (by lia) (by decide) names [] 0 [] (H++[AO.list []]) (bW.app _ _ hT) (aO) rfl rfl) λloc' H' js c1 c2 c3 c4 c5 c6=>?_
 refine kz ?_
 rw[l1]at c3 c4 c5
 have n5:names.length=5:=rfl
 rw[n5]at c3 c5
 refine⟨H',?_,?_,λi hi=>?_,c5,λi o h=>c6 i o (Z6 (aq h)) (bW.app _ _ h)⟩
 ·exact fV (F:=F) (k:=k+100) (σ:=⟨l,H⟩) (σ₁:=⟨l,H⟩) (I:=aQ T (names.map .str)) (loc':=loc') (H':=H') (a:=.obj T) (rest:=[]) (ifs:=[]) G.ok az S (λ_ _=>rfl) (aa hk hnm hl) (d6 hT) hT (by show H.length<H'.length;lia) c1
 ·rw[c2,c3];simp
 ·exact c4 i _ (by rw[zG (by rw[n5];exact hi)];simp[show i<names.length from hi])
theorem zh(G:c.Go)(hS:H[S]?=some (.list (ns.map .int)))(hn:ns.length<900):
  ∃bk H',Fn c (k+101) (.ref 891) [.obj S] [] H (.obj bk) H'∧(∃nm a js,dm H' bk nm a js (jY ns mB 0 5 0))∧bW H H'∧H.length≤bk:=by
 refine bp λGz kz=>?_
 refine Bg λelts sc1 sc2 p1 p2 p3 p4 p5 p6 p7 p8 p9 p10 p11 p12 p13 p14 p15 p16 p17 p18 p19 p20 p21 p22 p23 p24 p25 p26 q1 q2 hz_=>?_
 obtain⟨hb,hag,a1,a2,a3,a4,a5,b1,b2,b3,b4,b5⟩:=hz_
 have Sl:=aq hS
 have S1:cz cL sc1 sc1 []:=cS a1 a2 a3 a4
 have S2:cz cL sc2 sc2 []:=cS b1 b2 b3 b4
 have hnl:cL.scope.names.lookup ("names":Str)=some .local:=by w_on
 have hbl:cL.scope.names.lookup ("books":Str)=some .local:=by w_on
 have hpl:cL.scope.names.lookup ("p":Str)=some .local:=by w_on
 let l0:List (Str×AV):=[("script",.obj S)]
 let l1:=aR ("names":Str) (.obj H.length) l0
 have hT1:(H++[AO.list (names.map .str)])[H.length]?=some (.list (names.map .str)):=aO
 have n1:(H++[AO.list (names.map .str)]).length=H.length+1:=by simp
 refine rG (oz (k:=k) (H:=H++[AO.list (names.map .str)]) (l:=l1) (T:=H.length) (sc:=sc1) (p5:=p5) (p6:=p6) (p7:=p7) (p8:=p8) (p9:=p9) G S1 bI hnl (aj _ _ _) hT1 a3 a5) λH2 c1 c2 c3 c4 c5=>?_
 refine kz ?_
 rw[n1]at c1 c2 c3 c4
 refine rG (oz (k:=k) (H:=H2) (l:=l1) (T:=H.length) (sc:=sc2) (p5:=p10) (p6:=p11) (p7:=p12) (p8:=p13) (p9:=p14) G S2 bI hnl (aj _ _ _) (c5 _ _ hT1) b3 b5) λH3 d1 d2 d3 d4 d5=>?_
 rw[c4]at d1 d2 d3 d4
 have e4:bW H3 (H3++[AO.list [.obj (H.length+1),.obj (H.length+1+6)]]):=bW.app
 have hx:dm (H3++[AO.list [.obj (H.length+1),.obj (H.length+1+6)]]) (H.length+1+6+6) H.length (λk=>if k=0 then H.length+1 else H.length+1+6) (λk i=>(if k=0 then H.length+1 else H.length+1+6)+1+i) mB:=by
  refine⟨?_,e4 _ _ (d5 _ _ (c5 _ _ hT1)),λk hk=>?_,λk hk i hi=>?_,λk k' i i' hk hk' hi hi' q=>?_,λk i hk hi=>?_⟩
  ·rw[←d4,zR (ZA _),ZY];rfl
  ·exact CE hk (e4 _ _ (d5 _ _ c2)) (e4 _ _ d2)
  ·exact CE hk (e4 _ _ (d5 _ _ (c3 i hi))) (e4 _ _ (d3 i hi))
  ·revert q
   refine CE hk (CE hk' (λq=>?_) λq=>?_) (CE hk' (λq=>?_) λq=>?_)
   ·exact⟨rfl,Nat.add_left_cancel q⟩
   ·have q:H.length+1+1+i=H.length+1+6+1+i':=q;lia
   ·have q:H.length+1+6+1+i=H.length+1+1+i':=q;lia
   ·exact⟨rfl,Nat.add_left_cancel q⟩
  ·refine CE hk ?_ ?_
   ·simp;lia
   ·simp;lia
 have extA:bW H (H3++[AO.list [.obj (H.length+1),.obj (H.length+1+6)]]):=((bW.app.trans c5).trans d5).trans e4
 let l2:=aR ("books":Str) (.obj (H.length+1+6+6)) l1
 let l3:=aR ("p":Str) (.int ((0:Nat):Int)) l2
 have L3:qe l3 (H.length+1+6+6) H.length S:=⟨rfl,rfl,rfl⟩
 have rg:((H3++[AO.list [.obj (H.length+1),.obj (H.length+1+6)]])++[iW 5])[(H3++[AO.list [.obj (H.length+1),.obj (H.length+1+6)]]).length]?=some (iW 5):=aO
 refine bp λGz kz=>?_
 refine i5 (ud (k:=k) (pp:=p20) (S:=S) (ns:=ns) G hn (λk hk i hi=>by
  refine CE hk ?_ ?_
  ·show S≠H.length+1+1+i;lia
  ·show S≠H.length+1+6+1+i;lia) 5 0 0 1 l3 ((H3++[AO.list [.obj (H.length+1),.obj (H.length+1+6)]])++[iW 5]) mB rfl L3 rfl (hx.ext bW.app) (bW.app _ _ (extA _ _ hS)) (by decide) (by decide) (λ_ _=>ZA _)) λl' H' f1 f2 f4 f5 f7=>?_
 refine kz ?_
 rw[List.drop_zero]at f1
 refine dP (H.length+1+6+6) H' ?_ (wl _ _ _ f4) (λi o h=>f7 i o (λi' hi' k' hk'=>?_) (bW.app _ _ (extA _ _ h))) (by lia)
 ·refine dh (fl:=.ret (.obj (H.length+1+6+6))) (loc:=l0) G (rZ _) (by w_on) (by w_on) (λρ m s xs ks X hx hk=>?_) ?_
  ·refine mC hx hk λ_ hx=>?_
   refine al [("script",_)] (@bB _ _ _ _ _ X ?_) (.cons hx .nil)
   exact Ao _ _
  ·apply aK (loc:=l')
   rw[hb]
   have ev0:Ev c cL (k+100) (.List elts p2) ⟨l0,H⟩ (.obj H.length) ⟨l0,H++[AO.list (names.map .str)]⟩:=dL (by decide) (hag _ _ _ _ _)
   have ev1:Ev c cL (k+100) (.List [.ListComp (.List [.Name "name" p5] p6) [⟨.Name "name" p7,.Name "names" p8,[],0⟩] sc1 p9,.ListComp (.List [.Name "name" p10] p11) [⟨.Name "name" p12,.Name "names" p13,[],0⟩] sc2 p14] p15) ⟨l1,H++[AO.list (names.map .str)]⟩ (.obj H3.length) ⟨l1,H3++[AO.list [.obj (H.length+1),.obj (H.length+1+6)]]⟩:=dL (by show 2<1000;decide) (am (λ_=>rfl) c1 (am (λ_=>rfl) d1 au))
   rw[d4]at ev1
   have rn:Ev c cL (k+100) (.Call (.Name "range" p21) [.Constant (.int 5) q2 p22] [] p23) ⟨l3,H3++[AO.list [.obj (H.length+1),.obj (H.length+1+6)]]⟩ (.obj (H3++[AO.list [.obj (H.length+1),.obj (H.length+1+6)]]).length) ⟨l3,H3++[AO.list [.obj (H.length+1),.obj (H.length+1+6)]]++[iW 5]⟩:=cQ (λ_=>rfl) (λ_=>rfl) (di G bI rfl (ny _) lP) (af λ_=>rfl) (am (λ_=>rfl) aJ au) k7
   have s0:Ex c cL (k+100) (.Assign [.Name "names" p1] (.List elts p2) p3) ⟨l0,H⟩ .next ⟨l1,H++[AO.list (names.map .str)]⟩:=aw (σ₁:=⟨l0,H++[AO.list (names.map .str)]⟩) bI hnl (λ_=>rfl) ev0
   have s1:Ex c cL (k+100) (.Assign [.Name "books" p4] (.List [.ListComp (.List [.Name "name" p5] p6) [⟨.Name "name" p7,.Name "names" p8,[],0⟩] sc1 p9,.ListComp (.List [.Name "name" p10] p11) [⟨.Name "name" p12,.Name "names" p13,[],0⟩] sc2 p14] p15) p16) ⟨l1,H++[AO.list (names.map .str)]⟩ .next ⟨l2,H3++[AO.list [.obj (H.length+1),.obj (H.length+1+6)]]⟩:=aw (σ₁:=⟨l1,H3++[AO.list [.obj (H.length+1),.obj (H.length+1+6)]]⟩) bI hbl (λ_=>rfl) ev1
   have s2:Ex c cL (k+100) (.Assign [.Name "p" p17] (.Constant (.int 0) q1 p18) p19) ⟨l2,H3++[AO.list [.obj (H.length+1),.obj (H.length+1+6)]]⟩ .next ⟨l3,H3++[AO.list [.obj (H.length+1),.obj (H.length+1+6)]]⟩:=aw (σ₁:=⟨l2,H3++[AO.list [.obj (H.length+1),.obj (H.length+1+6)]]⟩) bI hpl (λ_=>rfl) aJ
   have rt:Ev c cL (k+100) (.Name "books" p25) ⟨l',H'⟩ (.obj (H.length+1+6+6)) ⟨l',H'⟩:=aa bI hbl f2.b
   generalize iI=bdy at f1 ⊢
   have s3:Ex c cL (k+100) (.For (.Name "i" p20) (.Call (.Name "range" p21) [.Constant (.int 5) q2 p22] [] p23) bdy [] p24) ⟨l3,H3++[AO.list [.obj (H.length+1),.obj (H.length+1+6)]]⟩ .next ⟨l',H'⟩:=gu (F:=cL) (I:=d8 5) G.ok gb (λ_ _=>rfl) (λ_ _=>rfl) (by lia) rn (lN (by decide) rg) f1
   exact ae s0 (ae s1 (ae s2 (ae s3 (bx (aX rt)))))
 ·have:=aq h
  match k',hk' with
  |0,_=>simp;lia
  |1,_=>simp;lia
noncomputable def Au(ns:List Int)(k i:Nat):List Bool:=(ZG i).map λj=>cq (ca ns (i*(i - 1)/2+j)) k
theorem vD{i':Nat}:Cz rows k i y k' i'=if k'=k∧i'=i then rows k i++[y]else rows k' i':=rfl
theorem uR{b:Bool}{f g:Nat→Nat→List Str}:(if b=true then f else g) k i=if b=true then f k i else g k i:=by cases b<;>rfl
theorem Dd{v:Int}{i':Nat}(hk:k<2):o0 rows v i y k i'=if i'=i∧cq v k=true then rows k i'++[y]else rows k i':=by
 unfold o0
 rw[uR,vD,uR,vD,uR,vD]
 refine CE hk ?_ ?_
 ·show(if cq v 1=true then(if cq v 0=true then if 0=0∧i'=i then rows 0 i++[y]else rows 0 i' else rows 0 i')else(if cq v 0=true then if 0=0∧i'=i then rows 0 i++[y]else rows 0 i' else rows 0 i'))=_
  rw[ite_self]
  by_cases h:i'=i<;>cases cq v 0<;>simp[h]
 ·show(if cq v 1=true then if 1=1∧i'=i then(if cq v 0=true then rows 1 i else rows 1 i)++[y]else(if cq v 0=true then rows 1 i' else rows 1 i')else if cq v 0=true then rows 1 i' else rows 1 i')=_
  rw[ite_self,ite_self]
  by_cases h:i'=i<;>cases cq v 1<;>simp[h]
noncomputable def GA(ns:List Int)(k:Nat):Nat→Nat→Nat→List Str
 |_,0,_=>[]
 |t,m+1,p=>(if cq (ca ns p) k=true then [names.getD t ""]else [])++GA ns k (t+1) m (p+1)
theorem gY{ns:List Int}{i k i':Nat}(hk:k<2):∀(m t p:Nat)(rows:Nat→Nat→List Str),eV ns rows i t m p k i'=if i'=i then rows k i'++GA ns k t m p else rows k i'
 |0,t,p,rows=>by
  show rows k i'=if i'=i then rows k i'++[]else rows k i'
  rw[List.append_nil,ite_self]
 |m+1,t,p,rows=>by
  show eV ns (o0 rows (ca ns p) i (names.getD t "")) i (t+1) m (p+1) k i'=if i'=i then rows k i'++((if cq (ca ns p) k=true then [names.getD t ""]else [])++GA ns k (t+1) m (p+1))else rows k i'
  rw[gY hk m,Dd hk]
  by_cases h:i'=i
  ·rw[if_pos h,if_pos h]
   cases cq (ca ns p) k
   ·rw[if_neg (by simp)];rfl
   ·rw[if_pos ⟨h,rfl⟩,List.append_assoc];rfl
  ·rw[if_neg h,if_neg h,if_neg λz=>h z.1]
theorem uy(ns:List Int)(k i:Nat)(hk:k<2)(hi:i<5):jY ns mB 0 5 0 k i=gy i (Au ns k i):=by
 show eV ns (eV ns (eV ns (eV ns (eV ns mB 0 0 0 0) 1 0 1 0) 2 0 2 1) 3 0 3 3) 4 0 4 6 k i=_
 rw[gY hk,gY hk,gY hk,gY hk,gY hk]
 refine JD hi rfl ?_ ?_ ?_ ?_
 ·show [names.getD 1 ""]++((if cq (ca ns 0) k=true then [names.getD 0 ""]else [])++[])=gy 1 [cq (ca ns 0) k]
  generalize cq (ca ns 0) k=b0
  cases b0<;>rfl
 ·show [names.getD 2 ""]++((if cq (ca ns 1) k=true then [names.getD 0 ""]else [])++((if cq (ca ns 2) k=true then [names.getD 1 ""]else [])++[]))=gy 2 [cq (ca ns 1) k,cq (ca ns 2) k]
  generalize cq (ca ns 1) k=b0
  generalize cq (ca ns 2) k=b1
  cases b0<;>cases b1<;>rfl
 ·show [names.getD 3 ""]++((if cq (ca ns 3) k=true then [names.getD 0 ""]else [])++((if cq (ca ns 4) k=true then [names.getD 1 ""]else [])++((if cq (ca ns 5) k=true then [names.getD 2 ""]else [])++[])))=gy 3 [cq (ca ns 3) k,cq (ca ns 4) k,cq (ca ns 5) k]
  generalize cq (ca ns 3) k=b0
  generalize cq (ca ns 4) k=b1
  generalize cq (ca ns 5) k=b2
  cases b0<;>cases b1<;>cases b2<;>rfl
 ·show [names.getD 4 ""]++((if cq (ca ns 6) k=true then [names.getD 0 ""]else [])++((if cq (ca ns 7) k=true then [names.getD 1 ""]else [])++((if cq (ca ns 8) k=true then [names.getD 2 ""]else [])++((if cq (ca ns 9) k=true then [names.getD 3 ""]else [])++[]))))=gy 4 [cq (ca ns 6) k,cq (ca ns 7) k,cq (ca ns 8) k,cq (ca ns 9) k]
  generalize cq (ca ns 6) k=b0
  generalize cq (ca ns 7) k=b1
  generalize cq (ca ns 8) k=b2
  generalize cq (ca ns 9) k=b3
  cases b0<;>cases b1<;>cases b2<;>cases b3<;>rfl
theorem BE:∀{its:List Value},cG ρ n (xs.map .str) its→∃l:List (Str×Tok),its=strValues l∧l.map (·.1)=xs:=by
 induction xs with
 |nil=>intro its h;cases h;exact al [] rfl rfl
 |cons x xs ih=>
  intro its h
  refine jI h ?_
  intro v vs h t
  refine cc h λtk z0=>ah (ih t) λl h1 h2=>?_
  exact al ((x,tk)::l) (by rw[z0,h1];rfl) (by rw[ZZ,h2])
theorem AY{sep:Str}(hj:σ.H[j]?=some (.list (xs.map .str)))(hok:JoinOk sep xs=true):cK c F k (λvs=>call (.builtin "str.join") vs) [.str sep,.obj j] σ (.str (Txt.join sep xs)) σ:= λA ρ s env Q E vs K r hx q=>by
 cases hx with
 |cons h1 h2=>
  refine lW h2 λ_ h2=>?_
  refine lU h1 λt=>?_
  refine iR h2 λ_=>?_
  refine br (r.list hj) λits hl hv _=>?_
  refine ah (BE hv) λl z0 e=>?_;subst z0
  exact SC.join hl e hok λt' kk=>q ρ _ _ (r.toks kk) (.toks kk) ⟨t',rfl⟩
theorem Ay:nsIn (Kx P) mainGlobals ("join_shlex":Str)=some (some (.ref 878)):=by w_on
theorem HU(S:Setting):peek (Kx P) S (keeperOf (.ref 878))=some .frame:=by w_on
theorem vi(Jc:c.GoJ)(hk:F.scope.kind=.function)(hx:F.scope.names.lookup ("x":Str)=some .local)(hj:F.scope.names.lookup ("join_shlex":Str)=some .globalImplicit){js0:List Nat}(hg:gens=[⟨.Name "x" p4,iter,[],0⟩])(hTJ:T≠J)(hlt:js0.length<900):
  ∀(rest:List (List Str))(rj:List Nat)(done:List Str)(i:Nat)(l:List (Str×AV))(H:List AO),(∀r∈rest,jg r∧r.length≤100)→H[T]?=some (.list (js0.map .obj))→H[J]?=some (.list (done.map .str))→js0.drop i=rj→rj.length=rest.length→(∀(i j:Nat)(r:List Str),rj[i]?=some j→rest[i]?=some r→H[j]?=some (AO.list (r.map .str))∧j≠J)→done.length=i→
   ∃loc',CL c F (k+102) (.Call (.Name "join_shlex" p1) [.Name "x" p2] [] p3) gens sc pos 0 (aQ T (js0.map .obj)) J i ⟨l,H⟩ ⟨loc',H.set J (.list ((done++rest.map aS).map .str))⟩:=by
 have G:=Jc.go
 intro rest
 induction rest with
 |nil=>
  intro rj done i l H _ hT hJ hd hl _ hi
  have:rj=[]:=by simpa using hl
  subst this
  subst hg
  have eH:H.set J (.list ((done++([]:List (List Str)).map aS).map .str))=H:=by
   refine cc (zS.mp hJ) λq1 q2=>?_
   simp only[List.map_nil,List.append_nil]
   rw[←q2];exact Z7 q1
  rw[eH]
  refine⟨l,im (σ:=⟨l,H⟩) (I:=aQ T (js0.map .obj)) (az) rfl rfl (λ_ _=>rfl) (by lia) hT ?_⟩
  show(js0.map AV.obj)[i]?=none
  rw[ZC]
  simp[ZL]at hd ⊢
  exact hd
 |cons r rest ih=>
  intro rj done i l H hok hT hJ hd hl hat hi
  cases rj with
  |nil=>simp at hl
  |cons jr rj=>
   have hi1:js0[i]?=some jr:=by
    have:(js0.drop i)[0]?=some jr:=by rw[hd];rfl
    rw[Z1,Zq]at this
    exact this
   have hd1:js0.drop (i+1)=rj:=by
    have:(js0.drop i).drop 1=rj:=by rw[hd];rfl
    rw[Zp]at this
    exact this
   have ilt:=aq hi1
   refine aV (hat 0 jr r rfl rfl) λhr0 hjJ=>?_
   refine aV (hok r (.head _)) λok rl=>?_
   have Jl:=aq hJ
   have fj:=DY (k:=k) (H:=H) Jc hr0 ok.nm rl
   refine cc (ih rj (done++[aS r]) (i+1) (aR "x" (.obj jr) l) (H.set J (.list (done.map .str++[.str (aS r)]))) (λr hr=>hok r (.tail _ hr)) (ak hT hTJ) (by rw[zT Jl];simp) hd1 (by simpa using hl) (λi' j' r' h1 h2=>by
    obtain⟨z1,z2⟩:=hat (i'+1) j' r' h1 h2
    exact⟨ak z1 z2,z2⟩) (by simp[hi])) λloc' c1=>?_
   rw[Zj]at c1
   subst hg
   have eL:done++[aS r]++rest.map aS=done++(r::rest).map aS:=by simp
   rw[eL]at c1
   refine⟨loc',fL (a:=.obj jr) (v:=.str (aS r)) (σ:=⟨l,H⟩) (σ₁:=⟨aR "x" (.obj jr) l,H⟩) (σ₂:=⟨aR "x" (.obj jr) l,H⟩) (σ₃:=⟨aR "x" (.obj jr) l,H⟩) (acc:=done.map .str) (I:=aQ T (js0.map .obj)) G.ok (az) rfl rfl (λ_ _=>rfl) hT ?_ (bg hk hx) jP ?_ hJ (by simp;lia) c1⟩
   ·show(js0.map AV.obj)[i]?=_
    rw[ZK,hi1];rfl
   ·exact fS G.ok (λ_=>rfl) (dB G hk hj (Ay _)) ⟨_,by rw[G.hK];exact HU _⟩ (gL (af λ_=>rfl) (am (λ_=>rfl) (aa hk hx (aj _ _ _)) au)) fj
section
variable{L:Addr→Prop}
structure md(A:Around)(Z:Addr→Prop)(h h':Heap):Prop where
 there:∀b o,h.get? b=some o→∃o',h'.get? b=some o'∧(¬Z b→me o o')
 same:∀b o,h.get? b=some o→b∉fC A→¬Z b→h'.get? b=some o
theorem md.trans{Z:Addr→Prop}{h h₁ h₂:Heap}(x:md A Z h h₁)(y:md A Z h₁ h₂):md A Z h h₂:=by
 refine⟨λb o e=>?_,λb o e h1 h2=>y.same b o (x.same b o e h1 h2) h1 h2⟩
 refine ah (x.there b o e) λo' e' l'=>?_
 refine ah (y.there b o' e') λo2 e2 l2=>?_
 exact al o2 e2 λz=>(l' z).trans (l2 z)
theorem md.of_keep{Z:Addr→Prop}(k:∀b o,h.get? b=some o→¬Z b→h'.get? b=some o)(t:∀b o,h.get? b=some o→Z b→∃o',h'.get? b=some o'):md A Z h h':=by
 refine⟨λb o e=>?_,λb o e _ z=>k b o e z⟩
 by_cases z:Z b
 ·refine cc (t b o e z) λo' e'=>?_
  exact al o' e' λn=>absurd z n
 ·exact al o (k b o e z) λ_=>.refl
theorem lw(hz:c.rz=true)(r:aW c A F ρ σ s env){b:Addr}(hb:b∈fC A):∃o es ep,s.heap.get? b=some o∧o.data=.dict es ep∧c.h₁.get? b=none∧∀i,i<σ.H.length→ρ i≠b:=by
 refine bp λGz kz=>?_
 refine ah (r.sk hz) λl h1 h2=>?_
 have fe:fC A=l.filterMap (·.frame):=by unfold fC;rw[h1];rfl
 rw[fe]at hb
 refine ah (Zx.mp hb) λev hev hf=>?_
 refine eU (h2 ev hev) λ_ L o' es ep g1 g2 g3 g4 g5=>?_
 refine kz ?_
 rw[hf]at g1;cases g1
 exact iV o' es ep g3 g4 g2 g5
theorem md.rel{Z:Addr→Prop}(hz:c.rz=true)(r:aW c A F ρ σ s env)(x:md A Z s.heap h')
  (z:∀b,Z b→∃o,fx c ρ σ.H.length env b o∧(∀o',s.heap.get? b=some o'→o'=o)):aW c A F ρ σ ⟨h',s.gens,s.drawn,tk,s.os⟩ env:=by
 have zt:∀i,i<σ.H.length→¬Z (ρ i):= λi hi q=>by refine ah (z _ q) λo f _=>?_;exact f.ap i hi rfl
 have zb:∀b o,c.h₁.get? b=some o→¬Z b:= λb o e q=>by refine ah (z _ q) λo' f _=>?_;have:=f.up;rw[this]at e;cases e
 have fb:∀b o,c.h₁.get? b=some o→b∉fC A:= λb o e q=>by refine dT (lw hz r q) λ_ _ _ _ _ g _=>?_;rw[g]at e;cases e
 have zl:¬Z env.locals:= λq=>by refine ah (z _ q) λo f _=>?_;exact f.ne rfl
 refine⟨⟨λi o e=>?_,r.hr.inj,r.hr.up,λb o e t=>x.same b o (r.hr.base b o e t) (fb b o e) (zb b o e),λo e=>?_⟩,r.sc,r.gl,r.bl,r.ce,r.ci,?_,r.ap,r.lf,r.ge,r.sk.same rfl λb o es ep e1 e2 e3 e4=>?_,r.tp,r.fl⟩
 ·refine ah (r.hr.at_ i o e) λob h1 h2=>?_
  have il:=aq e
  exact al ob (x.same _ _ h1 (λq=>by refine dT (lw hz r q) λ_ _ _ _ _ _ g=>?_;exact g i il rfl) (zt i il)) h2
 ·rcases r.hr.tj o e with q|⟨z1,z2,vs,more,z3,z4⟩
  ·exact .inl (x.same _ _ q (fb _ _ e) (zb _ _ e))
  ·exact .inr (bS z1 z2 vs more z3 (x.same _ _ z4 (fb _ _ e) (zb _ _ e)))
 ·refine bp λGz kz=>?_
  refine ah (r.lo) λm hm hl=>?_
  refine dg hm λo es ep e1 d1=>?_
  refine ah (x.there _ o e1) λo' e' lk=>?_
  refine kz ?_
  exact al m (bh o' es ep e' (by rw[(lk zl).data];exact d1)) hl
 ·refine ah (x.there b o e1) λo' e' lk=>?_
  refine bh o' es ep e' ?_
  rw(config:={}) [(lk λq=>?_).data]
  ·exact e2
  ·refine ah (z _ q) λo2 f g=>?_
   have:=g _ e1
   subst this
   exact f.nd es ep e2
theorem md.step{Z:Addr→Prop}(st:aM c ρ₀ n₀ L s₀ ρ n s)(x:md A Z s.heap h')(z:∀b,Z b→s₀.heap.get? b=none):aM c ρ₀ n₀ L s₀ ρ n ⟨h',s.gens,s.drawn,tk,s.os⟩:=by
 refine⟨st.ag,st.le,st.nw,⟨λb o e=>?_,λb o e t hL hr=>?_⟩,st.os⟩
 ·refine cc (st.kp.1 b o e) λo' e'=>?_
  refine ah (x.there b o' e') λo2 e2 _=>?_
  exact⟨o2,e2⟩
 ·refine ah (st.kp.2 b o e t hL hr) λo' e' l'=>?_
  refine ah (x.there b o' e') λo2 e2 l2=>?_
  exact al o2 e2 (l'.trans (l2 λq=>by rw[z b q]at e;cases e))
structure rV(c:Cx)(ρ:Nat→Addr)(n:Nat)(env:Env)(h0:Heap)(X:String)(e:Addr)(nt cx:Bool)(h:Heap):Prop where
 ob:∃oe vs,h.get? e=some oe∧fx c ρ n env e oe∧h0.get? e=none∧oe.cls=.type X∧oe.data=.fields vs∧vs.size=6∧(cx=true→vs[2]?=some .none)∧
  ((nt=false∧vs[1]?=some .none)∨∃T oT ts fl,vs[1]?=some (.ref T)∧h.get? T=some oT∧fx c ρ n env T oT∧h0.get? T=none∧T≠e∧oT.data=.fields ts∧ts[3]?=some fl)
theorem rV.back{h1:Heap}{e:Addr}{nt:Bool}(x:rV c ρ n env h1 X e nt cx h)(k:∀b o,h0.get? b=some o→∃o',h1.get? b=some o'):rV c ρ n env h0 X e nt cx h:=by
 have kn:∀b,h1.get? b=none→h0.get? b=none:= λb q=>by
  cases w:h0.get? b with
  |none=>rfl
  |some o=>refine cc (k b o w) λo' e'=>?_;rw[q]at e';cases e'
 refine bp λGz kz=>?_
 refine dj (x.ob) λoe vs g1 g2 g3 g4 g5 g6 g7 g8=>?_
 refine kz ?_
 refine⟨oe,vs,g1,g2,kn _ g3,g4,g5,g6,g7,g8.imp id λq=>?_⟩
 refine bp λGz kz=>?_
 refine iz q λT oT ts fl a1 a2 a3 a4 a5=>?_
 refine kz ?_
 exact ko T oT ts fl a1 a2 a3 (kn _ a4) a5
theorem fx.of_data{o':Obj}{vs:Array Value}(f:fx c ρ n env it o)(h:o'.data=.fields vs):fx c ρ n env it o':=⟨f.ap,f.up,f.ne,λes ep q=>by rw[h]at q;cases q⟩
theorem fx.not_frs(hz:c.rz=true)(r:aW c A F ρ σ s env)(f:fx c ρ n env it o)(h:s.heap.get? it=some o):it∉fC A:= λq=>by
 refine c7 (lw hz r q) λo' es ep g1 g2 _=>?_
 rw[h]at g1;cases g1
 exact f.nd es ep g2
theorem pV{vs:Array Value}{x:Value}(h:o.data=.fields vs):(Obj.mapFields (·.setIfInBounds i x) o).data=.fields (vs.setIfInBounds i x):=Obj.data_mapFields h _
theorem nu{a:Addr}{vs:Array Value}(ha:h.get? a=some o)(hd:o.data=.fields vs)(i:Nat)(x:Value):
  ∃o',(h.update a (Obj.mapFields (·.setIfInBounds i x))).get? a=some o'∧o'.cls=o.cls∧o'.data=.fields (vs.setIfInBounds i x)∧∀b,b≠a→(h.update a (Obj.mapFields (·.setIfInBounds i x))).get? b=h.get? b:=
 gA _ (Zw _ ha (Obj.isFreed_of_fields (pV hd))) (Obj.cls_mapFields _ _) (pV hd) λb hb=>ZU _ _ (Ne.symm hb)
end
section
variable{L:Addr→Prop}{e:Addr}{nt:Bool}
theorem pR{head:Value}{hadNext:Bool}{oe:Obj}{vs:Array Value}{Q:Unit→Shared→Prop}(hz:c.rz=true)(r:aW c A F ρ σ s env)(hfn:env.func.isSome=true)(hfl:env.frame=some env.locals)(h0s:∀b o,h0.get? b=some o→∃o',s.heap.get? b=some o')
  (he:s.heap.get? e=some oe)(fe:fx c ρ σ.H.length env e oe)(h0e:h0.get? e=none)(hcls:oe.cls=.type X)(hd:oe.data=.fields vs)(hsz:vs.size=6)(hcx:cx=true→vs[2]?=some .none)
  (q:∀s',aW c A F ρ σ s' env→(∀{s₀:Shared}{ρ₀:_}{n₀:_},s₀.heap=h0→aM c ρ₀ n₀ (· =env.locals) s₀ ρ σ.H.length s→aM c ρ₀ n₀ (· =env.locals) s₀ ρ σ.H.length s')→rV c ρ σ.H.length env h0 X e true cx s'.heap→Q () s'):
  wpAny M A (do setField (.ref e) 1 (←EntryCells.newEntry head (←frameOf env) .none (rawInt f) .none (←entryPlaceOf f hadNext))) Q E s:=by
 refine cc (r.tp hz hfn) λouter hfr=>?_
 refine ah (r.sk hz) λl h1 h2=>?_
 rw[hfr]at h1
 cases h1
 have ff:=iA h2
 have fA:fC A=(env::outer).filterMap (·.frame):=by unfold fC;rw[hfr];rfl
 refine YC (wpAny_frameOf_fun hfr ff hfl λh₁ hs₁=>?_)
 refine YC (wpAny_entryPlaceOf λpl hpl=>?_)
 unfold EntryCells.newEntry newFields
 refine YC (wpAny_newObj_type ?_ (hpl.sizeOk5 _ _ _ _ _))
 have nf:=fe.not_frs hz r he
 have he₁:h₁.get? e=some oe:=(hs₁.2.1 e (by rw[←fA];exact nf)).trans he
 obtain⟨tb,etb⟩:∃tb:Obj,tb={cls:=.type "traceback",dict:=none,data:=.fields ([head,.ref env.locals,.none,rawInt f,.none]++(if pl.isEmpty then ZV 6 Value.none else pl)).toArray}:=⟨_,rfl⟩
 rw[←etb]
 have he₂:=zH (h:=h₁) tb he₁
 refine cv (nu he₂ hd 1 (.ref h₁.objs.size)) λoe' g1 g2 g3 g4=>?_
 refine wpAny_setField he₂ hd (by lia) ?_
 have hTe:h₁.objs.size≠e:=Nat.ne_of_gt (ZB he₁)
 have hT:((h₁.push tb).update e (Obj.mapFields (·.setIfInBounds 1 (.ref h₁.objs.size)))).get? h₁.objs.size=some tb:=(g4 _ hTe).trans (ZN h₁ (by rw[etb];rfl))
 have aft:md A (· =e) s.heap ((h₁.push tb).update e (Obj.mapFields (·.setIfInBounds 1 (.ref h₁.objs.size)))):=by
  refine⟨λb o eb=>?_,λb o eb hb hne=>?_⟩
  ·refine cc (hs₁.2.2 b o eb) λsl hsl=>?_
   by_cases q:b=e
   ·subst q;exact al _ g1 λz=>absurd rfl z
   ·refine al _ ((g4 b q).trans (zH _ hsl)) λ_=>al sl rfl λnd=>?_
    by_cases hb:b∈fC A
    ·refine c7 (lw hz r hb) λo' es ep w1 w2 _=>?_
     rw[eb]at w1;cases w1
     exact absurd w2 (nd es ep)
    ·have:=(hs₁.2.1 b (by rw[←fA];exact hb)).trans eb
     rw[hsl]at this
     exact congrArg Obj.slots (Option.some.inj this)
  ·exact(g4 b hne).trans (zH _ ((hs₁.2.1 b (by rw[←fA];exact hb)).trans eb))
 have r':=aft.rel (tk:=s.toks) hz r λb(hb:b=e)=>by subst hb;exact al oe fe λo' e'=>by rw[he]at e';exact(Option.some.inj e').symm
 have sz:h₁.objs.size=s.heap.objs.size:=hs₁.1
 have fT:fx c ρ σ.H.length env h₁.objs.size tb:=by rw[sz];exact r.newFree (o:=tb) (λes ep q=>by rw[etb]at q;cases q)
 have h0T:h0.get? h₁.objs.size=none:=by
  cases w:h0.get? h₁.objs.size with
  |none=>rfl
  |some o=>
   refine cc (h0s _ _ w) λo' e'=>?_
   rw[sz]at e'
   exact absurd (ZB e') (ZJ _)
 refine q _ r' (λ{s₀ ρ₀ n₀} e0 st=>aft.step (s:=s) (tk:=s.toks) st λb(hb:b=e)=>by rw[hb,e0];exact h0e) ⟨oe',_,g1,fe.of_data g3,h0e,g2.trans hcls,g3,by simp[hsz],λz=>?_,.inr (iq h₁.objs.size tb _ (rawInt f) ?_ hT fT h0T hTe (by rw[etb]) (by simp))⟩
 ·rw[Array.getElem?_setIfInBounds_ne (by decide)];exact hcx z
 ·simp[hsz]
theorem ia{Q:Unit→Shared→Prop}(hz:c.rz=true)(r:aW c A F ρ σ s env)(hfn:env.func.isSome=true)(hfl:env.frame=some env.locals)(h0s:∀b o,h0.get? b=some o→∃o',s.heap.get? b=some o')(x:rV c ρ σ.H.length env h0 X e nt cx s.heap)
  (q:∀s',aW c A F ρ σ s' env→(∀{s₀:Shared}{ρ₀:_}{n₀:_},s₀.heap=h0→aM c ρ₀ n₀ (· =env.locals) s₀ ρ σ.H.length s→aM c ρ₀ n₀ (· =env.locals) s₀ ρ σ.H.length s')→rV c ρ σ.H.length env h0 X e true cx s'.heap→Q () s'):wpAny M A (noteFrame (.ref e) env) Q E s:=by
 refine bp λGz kz=>?_
 refine dj (x.ob) λoe vs h1 h2 h3 h4 h5 h6 h7 h8=>?_
 refine kz ?_
 unfold noteFrame
 simp only[hfl]
 rcases h8 with⟨_,h8⟩|⟨T,oT,ts,fl,a1,a2,a3,a4,a5,a6,a7⟩
 ·refine YC (wpAny_field h1 h5 h8 ?_)
  rw[if_neg (by decide)]
  exact pR hz r hfn hfl h0s h1 h2 h3 h4 h5 h6 h7 q
 ·refine YC (wpAny_field h1 h5 a1 ?_)
  rw[if_pos (show(Value.ref T != Value.none)=true from by simp)]
  refine YC (wpAny_field a2 a6 a7 ?_)
  by_cases hq:(fl==rawInt env.locals)=true
  ·rw[if_pos hq]
   exact YD (q s r (λ_ st=>st) ⟨oe,vs,h1,h2,h3,h4,h5,h6,h7,.inr (iq T oT ts fl a1 a2 a3 a4 a5 a6 a7)⟩)
  ·rw[if_neg hq]
   refine cv (nu a2 a6 3 .none) λoT' g1 g2 g3 g4=>?_
   refine YC (wpAny_setField a2 a6 (Array.getElem?_eq_some_iff.mp a7).1 ?_)
   have aft:md A (· =T) s.heap (s.heap.update T (Obj.mapFields (·.setIfInBounds 3 .none))):=.of_keep (λb o eb hne=>(g4 b hne).trans eb) λb o eb hb=>by subst hb;exact⟨_,g1⟩
   have r':=aft.rel (tk:=s.toks) hz r λb(hb:b=T)=>by subst hb;exact al oT a3 λo' e'=>by rw[a2]at e';exact(Option.some.inj e').symm
   exact pR (h0:=h0) hz r' hfn hfl (λb o eb=>by
    refine cc (h0s b o eb) λo' e'=>?_
    refine ah (aft.there b o' e') λo2 e2 _=>?_
    exact⟨o2,e2⟩) ((g4 e (Ne.symm a5)).trans h1) h2 h3 h4 h5 h6 h7 λs' r2 st2 x2=>q s' r2 (λe0 st=>st2 e0 (aft.step (s:=s) (tk:=s.toks) st λb(hb:b=T)=>by rw[hb,e0];exact a4)) x2
theorem fD{g:Option Addr}{Q:Unit→Shared→Prop}(hz:c.rz=true)(r:aW c A F ρ σ s env)(x:rV c ρ σ.H.length env h0 X e nt cx s.heap)
  (q:∀s',aW c A F ρ σ s' env→(∀{s₀:Shared}{ρ₀:_}{n₀:_},s₀.heap=h0→aM c ρ₀ n₀ (· =env.locals) s₀ ρ σ.H.length s→aM c ρ₀ n₀ (· =env.locals) s₀ ρ σ.H.length s')→rV c ρ σ.H.length env h0 X e nt cx s'.heap→Q () s'):wpAny M A (setFlight (.ref e) g) Q E s:=by
 refine bp λGz kz=>?_
 refine dj (x.ob) λoe vs h1 h2 h3 h4 h5 h6 h7 h8=>?_
 refine kz ?_
 unfold setFlight
 rcases h8 with⟨h9,h8⟩|⟨T,oT,ts,fl,a1,a2,a3,a4,a5,a6,a7⟩
 ·refine YC (wpAny_field h1 h5 h8 ?_)
  rw[if_neg (by decide)]
  exact YD (q s r (λ_ st=>st) x)
 ·refine YC (wpAny_field h1 h5 a1 ?_)
  rw[if_pos (show(Value.ref T != Value.none)=true from by simp)]
  refine cv (nu a2 a6 3 (g.elim Value.none λf=>rawInt f)) λoT' g1 g2 g3 g4=>?_
  refine wpAny_setField a2 a6 (Array.getElem?_eq_some_iff.mp a7).1 ?_
  have aft:md A (· =T) s.heap (s.heap.update T (Obj.mapFields (·.setIfInBounds 3 (g.elim Value.none λf=>rawInt f)))):=.of_keep (λb o eb hne=>(g4 b hne).trans eb) λb o eb hb=>by subst hb;exact⟨_,g1⟩
  have r':=aft.rel (tk:=s.toks) hz r λb(hb:b=T)=>by subst hb;exact al oT a3 λo' e'=>by rw[a2]at e';exact(Option.some.inj e').symm
  exact q _ r' (λe0 st=>aft.step (s:=s) (tk:=s.toks) st λb(hb:b=T)=>by rw[hb,e0];exact a4) ⟨oe,vs,(g4 e (Ne.symm a5)).trans h1,h2,h3,h4,h5,h6,h7,.inr (iq T oT' _ _ a1 g1 (a3.of_data g3) a4 a5 g3 (by
   have:=(Array.getElem?_eq_some_iff.mp a7).1
   rw[Array.getElem?_setIfInBounds_self_of_lt this]))⟩
end
def qS(c:Cx)(A:Around)(ρ:Nat→Addr)(n:Nat)(env:Env)(h:Heap):Bool→Prop
 |false=>A.handled=none
 |true=>∃x o vs,A.handled=some (.ref x)∧h.get? x=some o∧fx c ρ n env x o∧o.data=.fields vs∧vs[2]?=some .none
section
variable{e:Addr}{nt:Bool}
theorem qS.step(O:c.Ok)(x:qS c A ρ n env s.heap hm)(st:aM c ρ n (· =env.locals) s ρ' n' s'):qS c A ρ' n' env s'.heap hm:=by
 cases hm with
 |false=>exact x
 |true=>
  refine bp λGz kz=>?_
  refine cP x λy o vs h1 h2 h3 h4 h5=>?_
  refine aV (h3.step O h2 st) λf g=>?_
  refine kz ?_
  exact cH y o vs h1 g f h4 h5
theorem rV.step(O:c.Ok)(x:rV c ρ n env h0 X e nt cx s.heap)(st:aM c ρ n (· =env.locals) s ρ' n' s'):rV c ρ' n' env h0 X e nt cx s'.heap:=by
 refine bp λGz kz=>?_
 refine dj (x.ob) λoe vs h1 h2 h3 h4 h5 h6 h7 h8=>?_
 refine aV (h2.step O h1 st) λf g=>?_
 refine kz ?_
 refine⟨oe,vs,g,f,h3,h4,h5,h6,h7,h8.imp id λq=>?_⟩
 refine bp λGz kz=>?_
 refine iz q λT oT ts fl a1 a2 a3 a4 a5=>?_
 refine aV (a3.step O a2 st) λf' g'=>?_
 refine kz ?_
 exact ko T oT ts fl a1 g' f' a4 a5
theorem oX:entryFor table "proto.unchain"=some Builtin.«proto.unchain»:=entryFor_of_fast (by w_on)
structure xN(h h':Heap)(e:Addr)(cls:String)(hm:Bool):Prop where
 keeps:∀b o,h.get? b=some o→h'.get? b=some o
 new:h.get? e=none
 there:∃ob vs,h'.get? e=some ob∧ob.cls=.type cls∧ob.data=.fields vs∧vs.size=6∧vs[1]?=some .none∧(hm=false→vs[2]?=some .none)
theorem lB{cls msg:String}{Q:α→Shared→Prop}(hp:PlainExc cls)(hd:qS c A ρ n env s.heap hm)
  (h:∀h' tk e,xN s.heap h' e cls hm→E (.ref e) {s with heap:=h',toks:=tk}):wpAny (model prog w) A (raiseErrorWords cls msg:Sem α) Q E s:=by
 unfold raiseErrorWords
 refine YC (wpAny_mkText (YC ?_))
 unfold newExc newTuple
 refine YC (wpAny_newObj_type ?_)
 refine YC (m:=firstArgMember _ _) (wpAny_of_eq (a:=Value.none) (by simp only[firstArgMember,hp.first];rfl) ?_)
 rw[hp.own]
 refine wpAny_newObj_type ?_
 unfold raiseNew
 refine YC (wpAny_handled ?_)
 have nx:∀tt:Value,xN s.heap ((s.heap.push {cls:=.type "tuple",dict:=none,data:=.seq #[tt]}).push {cls:=.type cls,dict:=none,data:=.fields (#[.ref s.heap.objs.size,.none,.none,.none,.bool false,.none]++ #[])}) (s.heap.objs.size+1) cls false:= λtt=>
  ⟨λb o hb=>zH _ (zH _ hb),Heap.get?_none_of_le (by simp),_,_,by have:=ZN (s.heap.push {cls:=.type "tuple",dict:=none,data:=.seq #[tt]}) (o:={cls:=.type cls,dict:=none,data:=.fields (#[.ref s.heap.objs.size,.none,.none,.none,.bool false,.none]++ #[])}) rfl;simpa using this,rfl,rfl,by simp,by simp,λ_=>by simp⟩
 cases hm with
 |false=>
  rw[show A.handled=none from hd]
  first
   |refine wpAny_throw ?_
   |refine YC (YD (wpAny_throw ?_))
  have:=nx (.str (Str.ofString msg) s.toks)
  have e1:(s.heap.push {cls:=.type "tuple",dict:=none,data:=.seq [Value.str (Str.ofString msg) s.toks].toArray}).objs.size=s.heap.objs.size+1:=Zo ..
  rw[show(s.heap.objs.size+1)=_ from e1.symm]at this
  exact h _ _ _ this
 |true=>
  refine bp λGz kz=>?_
  refine cP hd λx o vs h1 h2 h3 h4 h5=>?_
  refine kz ?_
  rw[h1]
  have N:=nx (.str (Str.ofString msg) s.toks)
  have e1:(s.heap.push {cls:=.type "tuple",dict:=none,data:=.seq [Value.str (Str.ofString msg) s.toks].toArray}).objs.size=s.heap.objs.size+1:=Zo ..
  rw[show(s.heap.objs.size+1)=_ from e1.symm]at N
  have hx:=N.keeps x o h2
  have ne:x≠(s.heap.push {cls:=.type "tuple",dict:=none,data:=.seq [Value.str (Str.ofString msg) s.toks].toArray}).objs.size:= λq=>by
   have:=N.new;rw[←q,h2]at this;cases this
  dsimp only
  rw[if_pos (show(Value.ref x != Value.ref _)=true from by simpa using ne)]
  refine bp λGz kz=>?_
  refine dZ (N.there) λob ws g1 g2 g3 g4 g5 g6=>?_
  refine kz ?_
  refine YC (YF (wpAny_runValue (codeAny_builtin oX ?_)))
  show wpAny _ _ (do let context←field (.ref x) 2;_) _ _ _
  refine YC (wpAny_field hx h4 h5 ?_)
  rw[if_pos (by rfl)]
  refine YC (YD (YD ?_))
  refine cv (nu g1 g3 2 (.ref x)) λob' k1 k2 k3 k4=>?_
  unfold updateField
  refine YC (YC (wpAny_load g1 ?_))
  rw[g3]
  dsimp only
  rw[if_pos (by lia)]
  refine wpAny_update g1 ?_
  refine wpAny_throw ?_
  refine h _ _ _ ⟨λb o hb=>(k4 b λq=>?_).trans (N.keeps b o hb),N.new,ob',_,k1,k2.trans g2,k3,by simp[g4],?_,λq=>nomatch q⟩
  ·have:=N.new;rw[←q,hb]at this;cases this
  ·rw[Array.getElem?_setIfInBounds_ne (by decide)];exact g5
end
def fw(c:Cx)(F:Fs)(k:Nat)(hm cx:Bool){α:Type}(t:Env→Sem α)(σ:St)(X:String)(σ':St):Prop:=
 ∀(A:Around)(ρ:Nat→Addr)(s:Shared)(env:Env)(Q:α→Shared→Prop)(E:Value→Shared→Prop),cN k A→aW c A F ρ σ s env→qS c A ρ σ.H.length env s.heap hm→
  (∀ρ' s' e nt,aW c A F ρ' σ' s' env→aM c ρ σ.H.length (· =env.locals) s ρ' σ'.H.length s'→rV c ρ' σ'.H.length env s.heap X e nt cx s'.heap→E (.ref e) s')→wpAny c.M A (t env) Q E s
def Fs.def(F:Fs):Prop:=F.scope.names.lookup (".0":Str)=none
theorem bL{st:Stmt}(O:c.Ok)(h1:Ex c F k st σ .next σ₁)(h2:fw c F k hm cx (execs rest) σ₁ X σ₂):fw c F k hm cx (execs (st::rest)) σ X σ₂:= λA ρ s env Q E K r hd h=>
 YH (h1 A ρ s env _ E K r λρ1 s1 x r1 st1 vx=>by
  rw[show x=.next from vx]
  exact h2 A ρ1 s1 env _ E K r1 (hd.step O st1) λρ2 s2 e nt r2 st2 x2=>h ρ2 s2 e nt r2 (st1.trans st2) (x2.back st1.kp.1))
theorem bN{st:Stmt}(h1:fw c F k hm cx (exec st) σ X σ₁):fw c F k hm cx (execs (st::rest)) σ X σ₁:= λA ρ s env Q E K r hd h=>
 YH (h1 A ρ s env _ E K r hd h)
theorem lD(O:c.Ok)(h1:Te c F k test σ t σ₁)(h2:fw c F k hm cx (execs (if t then body else orelse)) σ₁ X σ₂):fw c F k hm cx (exec (.If test body orelse pos)) σ X σ₂:= λA ρ s env Q E K r hd h=>
 wpAny_If (h1 A ρ s env _ E K r λρ1 s1 x r1 st1 vx=>by
  subst vx
  have z:=h2 A ρ1 s1 env Q E K r1 (hd.step O st1) λρ2 s2 e nt r2 st2 x2=>h ρ2 s2 e nt r2 (st1.trans st2) (x2.back st1.kp.1)
  cases x<;>exact z)
theorem iJ{pos':Pos}(hs:∀env,swapsWith e (some (.Name x pos')) pos.line env=pure false)(h1:fw c F k hm cx (eval e) σ X σ₁):fw c F k hm cx (exec (.Assign [.Name x pos'] e pos)) σ X σ₁:= λA ρ s env Q E K r hd h=>
 wpAny_Assign_Name (h1 A ρ s env _ E K r hd h) (hs env)
theorem vT{e₁ e₂:Expr}{op:CmpOp}(hb:behindInMarks op e₂=false)(h1:fw c F k hm cx (eval e₁) σ X σ₁):fw c F k hm cx (λenv=>isTrue (.Compare e₁ [op] [e₂] pos) env (eval (.Compare e₁ [op] [e₂] pos) env)) σ X σ₁:= λA ρ s env Q E K r hd h=>
 wpAny_isTrue_Compare1 (h1 A ρ s env _ E K r hd h) hb
theorem BI{l:Addr}{items:Array Value}{k:Int}{t:Tok}(hA:qS c A ρ n env s.heap hm)(hl:s.heap.IsList l items)(hout:(items.size:Int)≤k)(hlo: -(2 ^ 63)≤k)(hhi:k<2 ^ 63)
  (hE:∀h' tk e,xN s.heap h' e "IndexError" hm→E (.ref e) {s with heap:=h',toks:=tk}):
  wpAny (model prog w) A (getItem (.ref l) (.int k t)) Q E s:=by
 refine qW (id hl) λo ho hc ne hd=>?_
 unfold getItem
 try with_reducible refine YF ?_
 first|refine YC (YD ?_)|skip
 refine YC (wpAny_sequenceKey hl.typeIs (by decide) ?_)
 refine YC (wpAny_callSpecial?_slot (name:=Str.ofString "__getitem__") hl.typeIs slot_list_getitem
  (wpAny_call_entry slot_list_getitem hl.typeIs entry_list_getitem ?_ (args_list_getitem _ _)))
 show wpAny _ _ (Builtin.List.listSubscript? (.int k t) >>=_) _ _ s
 refine YC (wpAny_listSubscript_int (fitsIndex_both hlo hhi) ?_)
 clear hlo hhi
 obtain⟨j,rfl⟩:∃j:Nat,k=Int.ofNat j:=⟨k.toNat,by simp only[Int.ofNat_eq_natCast];lia⟩
 have hx:items[j]?=none:=Array.getElem?_eq_none (by have:(items.size:Int)≤(j:Int):=hout;lia)
 show wpAny _ _ ((seqItemAt l j >>= λr=>pure (r.map (j, ·))) >>=_) _ _ s
 refine YC (YC (wpAny_seqItemAt ho hd (YD ?_)))
 rw[hx]
 have hA':qS c A.in1 ρ n env s.heap hm:=by cases hm<;>exact hA
 first
  |exact YC (wpAny_rule (lB plainExc_IndexError hA' hE))
  |exact YC (wpAny_rule (YC (lB plainExc_IndexError hA' hE)))
  |exact YC (YC (wpAny_rule (lB plainExc_IndexError hA' hE)))
  |exact wpAny_rule (lB plainExc_IndexError hA' hE)
theorem xN.exO{e:Addr}(r:aW c A F ρ σ s env)(x:xN s.heap h' e X hm):aW c A F ρ σ {s with heap:=h',toks:=tk} env∧aM c ρ σ.H.length (· =env.locals) s ρ σ.H.length {s with heap:=h',toks:=tk}∧rV c ρ σ.H.length env s.heap X e false (!hm) h':=by
 refine bp λGz kz=>?_
 refine dZ (x.there) λob vs g1 g2 g3 g4 g5 g6=>?_
 refine kz ?_
 have r':aW c A F ρ σ {s with heap:=h',toks:=tk} env:=by
  refine⟨⟨λi ao e=>?_,r.hr.inj,r.hr.up,λb o e t=>x.keeps _ _ (r.hr.base b o e t),λo e=>(r.hr.tj o e).imp (λz=>x.keeps _ _ z) λ⟨z1,z2,vs,more,z3,z4⟩=>bS z1 z2 vs more z3 (x.keeps _ _ z4)⟩,r.sc,r.gl,r.bl,r.ce,r.ci,?_,r.ap,r.lf,r.ge,r.sk.same rfl λb ob es ep g1 g2 _ _=>bh ob es ep (x.keeps _ _ g1) g2,r.tp,r.fl⟩
  ·refine ah (r.hr.at_ i ao e) λob z1 z2=>?_
   exact al ob (x.keeps _ _ z1) z2
  ·refine bp λGz kz=>?_
   refine ah (r.lo) λm hm hl=>?_
   refine dg hm λob es ep g1 g2=>?_
   refine kz ?_
   exact al m (bh ob es ep (x.keeps _ _ g1) g2) hl
 refine⟨r',cO (λb o e=>x.keeps b o e) rfl,ob,vs,g1,⟨λi hi q=>?_,r.hr.none1 x.new,λq=>?_,λes ep q=>by rw[g3]at q;cases q⟩,x.new,g2,g3,g4,λz=>g6 (by cases hm<;>simp_all),.inl ⟨rfl,g5⟩⟩
 ·refine ah (r.hr.at_ i (σ.H[i]) (zG hi)) λo h1 _=>?_
  rw[q,x.new]at h1;cases h1
 ·refine bp λGz kz=>?_
  refine ah (r.lo) λm hm _=>?_
  refine dg hm λo es ep e1 _=>?_
  refine kz ?_
  rw[←q,x.new]at e1;cases e1
theorem jj(O:c.Ok)(h1:vs.length≤i)(h2:i<2 ^ 61)(hs:∀o x,subscripted slice false o x=operate [o,x] (getItem o x))
  (e0:Ev c F k value σ (.obj j) σ₁)(e1:Ev c F k slice σ₁ (.int i) σ₂)(hj:σ₂.H[j]?=some (.list vs)):fw c F k hm (!hm) (eval (.Subscript value slice pos)) σ "IndexError" σ₂:= λA ρ s env Q E K r hd q=>
 Subscript_ (e0 A ρ s env _ E K r λρ1 s1 x r1 st1 vx=>e1 A ρ1 s1 env _ E K r1 λρ2 s2 y r2 st2 vy=>by
  refine ma vy λt=>?_
  refine aV (st2.vr vx) λ_ z0=>?_;subst z0
  refine br (r2.list hj) λits h3 h4 _=>?_
  refine tail_any h3.typeIs slot_list_getitem.lookup (BI ((hd.step O st1).step O st2) h3 (by show((its.length:Nat):Int)≤(i:Int);rw[aH h4];lia) (by lia) (by lia) λh' tk e nx=>?_) (hs _ _)
  refine fv (nx.exO (tk:=tk) r2) λr3 st3 x3=>?_
  exact q ρ2 _ e false r3 ((st1.trans st2).trans st3) (x3.back λb o e=>(st1.trans st2).kp.1 b o e))
section
variable{Y:String}
theorem sh
  (h:wpAny c.M A (isTrue test env (eval test env)) (λb s₂=>if b then wpAny c.M A (execs body env) (λf s₃=>match f with
      | .next| .cont=>codeAny c.M A (.whileLoop test body orelse env) R s₃
      | .brk=>R (.ok .next) s₃
      | .ret v=>R (.ok (.ret v)) s₃) (notedBy c.M A env λe s'=>R (.error e) s') s₂
    else wpAny c.M A (execs orelse env) (λf s₃=>R (.ok f) s₃) (notedBy c.M A env λe s'=>R (.error e) s') s₂) (notedBy c.M A env λe s'=>R (.error e) s') s):codeAny c.M A (.whileLoop test body orelse env) R s:=by
 refine codeAny_of_tree ?_
 rw[Around.under_of_weight (c:=.whileLoop test body orelse env) rfl rfl]
 show wpAny c.M A ((whileTurn test body orelse env).onRaise (λx=>do noteFrame x env;theTreesLotGoes x)) _ _ s
 refine wpAny_noted ?_
 unfold whileTurn
 refine YC (YE h (λb s₂ h₂=>?_) λ_ _ x=>x)
 cases b with
 |true=>
  refine YC (YE h₂ (λf s₃ h₃=>?_) λ_ _ x=>x)
  cases f with
  |next=>exact YD ⟨rfl,h₃⟩
  |cont=>exact YD ⟨rfl,h₃⟩
  |brk=>exact YD h₃
  |ret v=>exact YD h₃
 |false=>exact YC (YE h₂ (λf s₃ h₃=>YD h₃) λ_ _ x=>x)
def Jq(c:Cx)(F:Fs)(k:Nat)(hm cx:Bool)(test:Expr)(body orelse:List Stmt)(σ:St)(X:String)(σ':St):Prop:=
 ∀(A:Around)(ρ:Nat→Addr)(s:Shared)(env:Env)(R:Result→Shared→Prop),cN k A→aW c A F ρ σ s env→qS c A ρ σ.H.length env s.heap hm→
  (∀ρ' s' e,aW c A F ρ' σ' s' env→aM c ρ σ.H.length (· =env.locals) s ρ' σ'.H.length s'→rV c ρ' σ'.H.length env s.heap X e true cx s'.heap→R (.error (.ref e)) s')→codeAny c.M A (.whileLoop test body orelse env) R s
theorem hZ(hz:c.rz=true)(hF:F.def)(h1:fw c F k hm cx (λenv=>isTrue test env (eval test env)) σ X σ₁):Jq c F k hm cx test body orelse σ X σ₁:= λA ρ s env R K r hd q=>by
 refine aV (r.fl hF) λf1 f2=>?_
 refine sh (h1 A ρ s env _ _ K r hd λρ1 s1 e nt r1 st1 x1=>?_)
 exact ia hz r1 f1 f2 (λb o eb=>st1.kp.1 b o eb) x1 λs2 r2 st2 x2=>q ρ1 s2 e r2 (st2 rfl st1) x2
theorem mo{e:Addr}(hz:c.rz=true)(r:aW c A F ρ σ s env)(x:rV c ρ σ.H.length env h0 X e true cx s.heap)
  (q:∀s',aW c A F ρ σ s' env→(∀{s₀:Shared}{ρ₀:_}{n₀:_},s₀.heap=h0→aM c ρ₀ n₀ (· =env.locals) s₀ ρ σ.H.length s→aM c ρ₀ n₀ (· =env.locals) s₀ ρ σ.H.length s')→rV c ρ σ.H.length env h0 X e true cx s'.heap→E (.ref e) s'):cameBackBy M A env E (.ref e) s:=by
 unfold cameBackBy
 refine bp λGz kz=>?_
 refine dj (x.ob) λoe vs h1 h2 h3 h4 h5 h6 h7 h8=>?_
 refine kz ?_
 rcases h8 with⟨w,_⟩|⟨T,oT,ts,fl,a1,a2,a3,a4,a5,a6,a7⟩
 ·cases w
 ·refine YC (wpAny_field h1 h5 a1 ?_)
  rw[if_neg (by simp)]
  first
   |exact YC (YD (fD hz r x q))
   |exact fD hz r x q
theorem gj(hz:c.rz=true)(h1:Jq c F k hm cx test body orelse σ X σ₁):fw c F k hm cx (exec (.While test body orelse pos)) σ X σ₁:= λA ρ s env Q E K r hd q=>
 wpAny_While (h1 A ρ s env _ K r hd λρ1 s1 e r1 st1 x1=>by
  exact mo hz r1 x1 λs2 r2 st2 x2=>q ρ1 s2 e true r2 (st2 rfl st1) x2)
theorem aW.mark{h:Option Value}(r:aW c A F ρ σ s env):aW c (A.mark h) F ρ σ s env:=⟨r.hr,r.sc,r.gl,r.bl,r.ce,r.ci,r.lo,r.ap,r.lf,r.ge,r.sk,r.tp,r.fl⟩
theorem aW.unmark{h:Option Value}(r:aW c (A.mark h) F ρ σ s env):aW c A F ρ σ s env:=⟨r.hr,r.sc,r.gl,r.bl,r.ce,r.ci,r.lo,r.ap,r.lf,r.ge,r.sk,r.tp,r.fl⟩
theorem cN.mark{k':Nat}{h:Option Value}(K:cN k A)(h1:k'≤k)(h2:k'<100):cN k' (A.mark h):=by
 refine fv K λa b _=>?_
 exact⟨by show A.depth+4*k'≤900;lia,by show A.units+12*k'≤9000;lia,λz=>absurd h2 (by lia)⟩
theorem FT{fs:List Stmt}(h1:dI c F k body σ .next σ₁)(h2:dI c F k (f₀::fs) σ₁ .next σ₂):Ex c F k (.Try body [] [] (f₀::fs) pos) σ .next σ₂:= λA ρ s env Q E K r h=>
 wpAny_Try_finally (h1 A ρ s env _ _ K r λρ1 s1 x r1 st1 vx=>by
  rw[show x=.next from vx]
  refine wpAny_execs_nil (h2 A ρ1 s1 env _ _ K r1 λρ2 s2 y r2 st2 vy=>?_)
  rw[show y=.next from vy]
  exact h ρ2 s2 _ r2 (st1.trans st2) rfl)
theorem xV{fs:List Stmt}(hz:c.rz=true)(O:c.Ok)(hF:F.def)(h1:dI c F k body σ .next σ₁)(h2:fw c F k hm cx (execs (f₀::fs)) σ₁ X σ₂):fw c F k hm cx (exec (.Try body [] [] (f₀::fs) pos)) σ X σ₂:= λA ρ s env Q E K r hd q=>
 wpAny_Try_finally (h1 A ρ s env _ _ K r λρ1 s1 x r1 st1 vx=>by
  rw[show x=.next from vx]
  refine wpAny_execs_nil (h2 A ρ1 s1 env _ _ K r1 (hd.step O st1) λρ2 s2 e nt r2 st2 x2=>?_)
  refine aV (r2.fl hF) λf1 f2=>?_
  exact ia hz r2 f1 f2 (λb o eb=>st2.kp.1 b o eb) x2 λs3 r3 st3 x3=>mo hz r3 x3 λs4 r4 st4 x4=>q ρ2 s4 e true r4 (st1.trans (st4 rfl (st3 rfl st2))) (x4.back st1.kp.1))
theorem nK{fs:List Stmt}{Q:Flow→Shared→Prop}{e:Addr}{nt:Bool}(hz:c.rz=true)(hF:F.def)(r:aW c A F ρ σ s env)(st:aM c ρ₀ n₀ (· =env.locals) s₀ ρ σ.H.length s)(x:rV c ρ σ.H.length env s₀.heap X e nt cx s.heap)
  (q:∀s',aW c A F ρ σ s' env→aM c ρ₀ n₀ (· =env.locals) s₀ ρ σ.H.length s'→rV c ρ σ.H.length env s₀.heap X e true cx s'.heap→
   wpAny c.M (A.mark (some (.ref e))) (execs (f₀::fs) env) (λg s₂=>match g with| .next=>wpAny c.M A (PySem.passOn "try.finally" (.ref e) env) Q E s₂|g=>wpAny c.M A (setFlight (.ref e) none) (λ_ s₃=>Q g s₃) E s₂) (notedBy c.M (A.mark (some (.ref e))) env (cameBackBy c.M A env E)) s'):
  wpAny c.M A (noteFrame (.ref e) env) (λ_ s₂=>FinallyRaised c.prog c.w A E env (f₀::fs) Q (.ref e) s₂) (FinallyRaised c.prog c.w A E env (f₀::fs) Q) s:=by
 refine aV (r.fl hF) λf1 f2=>?_
 refine ia hz r f1 f2 (λb o eb=>st.kp.1 b o eb) x λs1 r1 st1 x1=>⟨ref_ne_byPass _,?_⟩
 have st1':=st1 rfl st
 refine ia hz r1 f1 f2 (λb o eb=>st1'.kp.1 b o eb) x1 λs2 r2 st2 x2=>?_
 have st2':=st2 rfl st1'
 exact fD hz r2 x2 λs3 r3 st3 x3=>q s3 r3 (st3 rfl st2') x3
theorem yd{fs:List Stmt}(hk1:k'≤k)(hk2:k'<100)(hz:c.rz=true)(O:c.Ok)(hF:F.def)(h1:fw c F k hm cx (execs body) σ X σ₁)(h2:dI c F k' (f₀::fs) σ₁ .next σ₂):fw c F k hm cx (exec (.Try body [] [] (f₀::fs) pos)) σ X σ₂:= λA ρ s env Q E K r hd q=>
 wpAny_Try_finally (h1 A ρ s env _ _ K r hd λρ1 s1 e nt r1 st1 x1=>nK hz hF r1 st1 x1 λs2 r2 st2 x2=>by
  refine h2 _ ρ1 s2 env _ _ (K.mark hk1 hk2) r2.mark λρ3 s3 y r3 st3 vy=>?_
  rw[show y=.next from vy]
  have r3:=r3.unmark
  have x3:=x2.step O st3
  refine bp λGz kz=>?_
  refine dj (x3.ob) λoe vs g1 g2 g3 g4 g5 g6 g7 g8=>?_
  refine kz ?_
  rcases g8 with⟨w,_⟩|⟨T,oT,ts,fl,a1,a2,a3,a4,a5,a6,a7⟩
  ·cases w
  ·show wpAny c.M A (PySem.passOn "try.finally" (.ref e) env) Q E s3
   unfold PySem.passOn
   refine YC (wpAny_field g1 g5 a1 ?_)
   rw[if_neg (by simp)]
   have fin:wpAny c.M A (setFlight (.ref e) env.frame) (λ_ s'=>E (.ref e) s') E s3:=fD hz r3 x3 λs4 r4 st4 x4=>q ρ3 s4 e true r4 (st4 rfl (st2.trans st3)) x4
   first
    |exact YC (YD (YC (YE fin (λ_ _ z=>wpAny_throw z) λ_ _ z=>z)))
    |exact YC (YE fin (λ_ _ z=>wpAny_throw z) λ_ _ z=>z))
theorem u8{fs:List Stmt}(hk1:k'≤k)(hk2:k'<100)(hz:c.rz=true)(O:c.Ok)(hF:F.def)(h1:fw c F k hm true (execs body) σ X σ₁)(h2:fw c F k' true cx (execs (f₀::fs)) σ₁ Y σ₂):fw c F k hm cx (exec (.Try body [] [] (f₀::fs) pos)) σ Y σ₂:= λA ρ s env Q E K r hd q=>
 wpAny_Try_finally (h1 A ρ s env _ _ K r hd λρ1 s1 e nt r1 st1 x1=>nK hz hF r1 st1 x1 λs2 r2 st2 x2=>by
  have hd2:qS c (A.mark (some (.ref e))) ρ1 σ₁.H.length env s2.heap true:=by
   refine bp λGz kz=>?_
   refine dj (x2.ob) λoe vs g1 g2 g3 g4 g5 g6 g7 g8=>?_
   refine kz ?_
   exact cH e oe vs rfl g1 g2 g5 (g7 rfl)
  refine h2 _ ρ1 s2 env _ _ (K.mark hk1 hk2) r2.mark hd2 λρ3 s3 e3 nt3 r3 st3 x3=>?_
  refine aV (r3.fl hF) λf1 f2=>?_
  refine ia hz r3 f1 f2 (λb o eb=>st3.kp.1 b o eb) x3 λs4 r4 st4 x4=>mo hz r4.unmark x4 λs5 r5 st5 x5=>?_
  exact q ρ3 s5 e3 true r5 (st2.trans (st5 rfl (st4 rfl st3))) (x5.back st2.kp.1))
theorem pX{T:Str}{np hp:Pos}{b₀:Stmt}{suite:List Stmt}{f:AF}{T':String}(hk1:k'≤k)(hk2:k'<100)(hk:100≤k)(hz:c.rz=true)(O:c.Ok)(hF:F.def)(he:Ev c F k' (.Name T np) σ₁ (.val (.type T')) σ₁)
  (hexc:isSubtype (.type T') (.type "BaseException")=pure true)(hnt:isSubtype (.type ((Manifest.find? T').elim "type" λx=>x.metatype)) (.type "tuple")=pure false)(hsub:isSubtype (.type X) (.type T')=pure true)
  (h1:fw c F k false cx (execs body) σ X σ₁)(h2:dI c F k' (b₀::suite) σ₁ f σ₂):Ex c F k (.Try body [.ExceptHandler (some (.Name T np)) none (b₀::suite) hp] [] [] pos) σ f σ₂:= λA ρ s env Q E K r q=>
 wpAny_Try_except (h1 A ρ s env _ _ K r (K.2.2 hk) λρ1 s1 e nt r1 st1 x1=>by
  refine aV (r1.fl hF) λf1 f2=>?_
  refine ia hz r1 f1 f2 (λb o eb=>st1.kp.1 b o eb) x1 λs2 r2 st2 x2=>?_
  have st2':=st2 rfl st1
  refine fD hz r2 x2 λs3 r3 st3 x3=>?_
  have st3':=st3 rfl st2'
  refine wpAny_handleBy_builtin (b:=true) hexc hnt hsub (he _ ρ1 s3 env _ _ (K.mark hk1 hk2) r3.mark λρ4 s4 y r4 st4 vy=>⟨vy,?_,?_⟩)
  ·refine bp λGz kz=>?_
   refine dj ((x3.step O st4).ob) λoe vs g1 g2 g3 g4 g5 g6 g7 g8=>?_
   refine kz ?_
   exact(show ∃o,s4.heap.get? e=some o∧o.cls=.type X from al oe g1 g4)
  ·rw[if_pos rfl]
   have st4':=st3'.trans st4
   refine fD hz r4 (x3.step O st4) λs5 r5 st5 x5=>?_
   have st5':=st5 rfl st4'
   exact h2 _ ρ4 s5 env _ _ (K.mark hk1 hk2) r5 λρ6 s6 g r6 st6 vg=>q ρ6 s6 g r6.unmark (st5'.trans st6) vg)
theorem AR{h₀:ExceptHandler}{hs:List ExceptHandler}{f:AF}(h1:dI c F k body σ f σ₁):Ex c F k (.Try body (h₀::hs) [] [] pos) σ f σ₁:= λA ρ s env Q E K r q=>
 wpAny_Try_except (h1 A ρ s env _ _ K r λρ1 s1 x r1 st1 vx=>by
  cases f with
  |next=>rw[show x=.next from vx];exact wpAny_execs_nil (q ρ1 s1 _ r1 st1 rfl)
  |brk=>rw[show x=.brk from vx];exact q ρ1 s1 _ r1 st1 rfl
  |cont=>rw[show x=.cont from vx];exact q ρ1 s1 _ r1 st1 rfl
  |ret v=>refine ah vx ?_;clear vx;intro y z0 hy;subst z0;exact q ρ1 s1 _ r1 st1 (al y rfl hy))
end
section
theorem wJ{t u:Tok}(h:Q (.bool (x.cps.toList<y.cps.toList)) s):wpAny (model prog w) A (richCompare .Lt (.str x t) (.str y u)) Q E s:=P.lt_str h
theorem wy{t u:Tok}(h:Q (.bool (y.cps.toList<x.cps.toList)) s):wpAny (model prog w) A (richCompare .Gt (.str x t) (.str y u)) Q E s:=P.gt_str h
open PySem.AutoSeq1 (wpAny_loadPart')
theorem yi(l b:Addr)(a1 a2 b1 b2:Str)(t1 t2 u1 u2:Tok)(n n2:Nat)(dd dd2:Option Addr)(sl sl2:Array (Option Value)):
  Meets (Builtin.«tuple.__lt__» ⟨[.ref l,.ref b],[]⟩)
   (λA R s=>s.heap.get? l=some {cls:=.type "tuple",dict:=dd,data:=.seq #[.str a1 t1,.str a2 t2] n,slots:=sl}∧s.heap.get? b=some {cls:=.type "tuple",dict:=dd2,data:=.seq #[.str b1 u1,.str b2 u2] n2,slots:=sl2}∧
    R (.ok (.ret (.bool (j7 (a1,a2) (b1,b2))))) s):=
 .of_wp λprog w A R s h=>by
  obtain⟨hp,g,d,tk,os⟩:=s;refine fv h λhl hb h=>?_
  have f2:=AutoSeq1.sub_tuple_tuple
  wp_walk using wpAny_loadPart' hl,wpAny_loadPart' hb,PyProof.Rows.eqBool_str (x:=a1) (y:=b1) (t:=t1) (u:=u1)
  cases e:(a1==b1)with
  |false=>
   have ne:a1≠b1:=by simpa using e
   have ne':b1≠a1:= λq=>ne q.symm
   unfold j7 at h
   wp_walk using wJ (x:=a1) (y:=b1) (t:=t1) (u:=u1)
   refine al _ rfl ?_
   simpa[CC,ne,ne']using h
  |true=>
   have ne:a1=b1:=by simpa using e
   subst ne
   unfold j7 at h
   wp_walk using PyProof.Rows.eqBool_str (x:=a2) (y:=b2) (t:=t2) (u:=u2)
   cases e2:(a2==b2)with
   |false=>
    wp_walk using wJ (x:=a2) (y:=b2) (t:=t2) (u:=u2)
    refine al _ rfl ?_
    simpa[CC]using h
   |true=>
    have ne:a2=b2:=by simpa using e2
    subst ne
    wp_walk
    refine al _ rfl ?_
    simpa[CC,Builtin.Tuple.tupleCompareSizes,List.lt_irrefl]using h
theorem yg(l b:Addr)(a1 a2 b1 b2:Str)(t1 t2 u1 u2:Tok)(n n2:Nat)(dd dd2:Option Addr)(sl sl2:Array (Option Value)):
  Meets (Builtin.«tuple.__gt__» ⟨[.ref l,.ref b],[]⟩)
   (λA R s=>s.heap.get? l=some {cls:=.type "tuple",dict:=dd,data:=.seq #[.str a1 t1,.str a2 t2] n,slots:=sl}∧s.heap.get? b=some {cls:=.type "tuple",dict:=dd2,data:=.seq #[.str b1 u1,.str b2 u2] n2,slots:=sl2}∧
    R (.ok (.ret (.bool (j7 (b1,b2) (a1,a2))))) s):=
 .of_wp λprog w A R s h=>by
  obtain⟨hp,g,d,tk,os⟩:=s;refine fv h λhl hb h=>?_
  have f2:=AutoSeq1.sub_tuple_tuple
  wp_walk using wpAny_loadPart' hl,wpAny_loadPart' hb,PyProof.Rows.eqBool_str (x:=a1) (y:=b1) (t:=t1) (u:=u1)
  cases e:(a1==b1)with
  |false=>
   have ne:a1≠b1:=by simpa using e
   have ne':b1≠a1:= λq=>ne q.symm
   unfold j7 at h
   wp_walk using wy (x:=a1) (y:=b1) (t:=t1) (u:=u1)
   refine al _ rfl ?_
   simpa[CC,ne,ne']using h
  |true=>
   have ne:a1=b1:=by simpa using e
   subst ne
   unfold j7 at h
   wp_walk using PyProof.Rows.eqBool_str (x:=a2) (y:=b2) (t:=t2) (u:=u2)
   cases e2:(a2==b2)with
   |false=>
    wp_walk using wy (x:=a2) (y:=b2) (t:=t2) (u:=u2)
    refine al _ rfl ?_
    simpa[CC]using h
   |true=>
    have ne:a2=b2:=by simpa using e2
    subst ne
    wp_walk
    refine al _ rfl ?_
    simpa[CC,Builtin.Tuple.tupleCompareSizes,List.lt_irrefl]using h
theorem aW.pair{x:Nat}(r:aW c A F ρ σ s env)(hx:σ.H[x]?=some (.tuple [.str p.1,.str p.2])):∃t u e,s.heap.get? (ρ x)=some {cls:=.type "tuple",data:=.seq #[.str p.1 t,.str p.2 u] e}:=by
 refine ah (r.hr.at_ x _ hx) λob h1 h2=>?_
 refine dk h2 ?_;clear h2;intro its e z0 h3;subst z0
 refine mW (tf h3) λt u z0=>?_;subst z0
 exact wl t u e h1
theorem eW{x y:Nat}{q:Str×Str}(ht:j7 p q=t)(hk:1≤k)(hx:σ.H[x]?=some (.tuple [.str p.1,.str p.2]))(hy:σ.H[y]?=some (.tuple [.str q.1,.str q.2])):dz c F k (compareOp .Lt) (.obj x) (.obj y) σ (.bool t) σ:= λA ρ s env Q E a b K r ha hb h=>by
 refine bp λGz kz=>?_
 refine aV ha ?_;clear ha;intro _ z0;subst z0
 refine aV hb ?_;clear hb;intro _ z0;subst z0
 refine iY (r.pair hx) λt1 u1 e1 g1=>?_
 refine iY (r.pair hy) λt2 u2 e2 g2=>?_
 refine kz ?_
 show wpAny _ _ (richCompare .Lt _ _) Q E s
 refine richCompare_meets_room (op:=.Lt) (al _ g1 rfl) (al _ g2 rfl) PySem.F.slot_tuple_lt PySem.F.entry_tuple_lt (PySem.F.args_tuple_lt_2 _ _) (yi _ _ p.1 p.2 q.1 q.2 t1 u1 t2 u2 e1 e2 none none #[] #[]) ⟨g1,g2,?_⟩ K.units
 exact⟨(λx=>nomatch x),h ρ s _ r .refl (by subst ht;rfl)⟩
theorem gM{x y:Nat}{q:Str×Str}(ht:j7 q p=t)(hk:1≤k)(hx:σ.H[x]?=some (.tuple [.str p.1,.str p.2]))(hy:σ.H[y]?=some (.tuple [.str q.1,.str q.2])):dz c F k (compareOp .Gt) (.obj x) (.obj y) σ (.bool t) σ:= λA ρ s env Q E a b K r ha hb h=>by
 refine bp λGz kz=>?_
 refine aV ha ?_;clear ha;intro _ z0;subst z0
 refine aV hb ?_;clear hb;intro _ z0;subst z0
 refine iY (r.pair hx) λt1 u1 e1 g1=>?_
 refine iY (r.pair hy) λt2 u2 e2 g2=>?_
 refine kz ?_
 show wpAny _ _ (richCompare .Gt _ _) Q E s
 refine richCompare_meets_room (op:=.Gt) (al _ g1 rfl) (al _ g2 rfl) PySem.F.slot_tuple_gt PySem.F.entry_tuple_gt (PySem.F.args_tuple_gt_2 _ _) (yg _ _ p.1 p.2 q.1 q.2 t1 u1 t2 u2 e1 e2 none none #[] #[]) ⟨g1,g2,?_⟩ K.units
 exact⟨(λx=>nomatch x),h ρ s _ r .refl (by subst ht;rfl)⟩
theorem jM{t u:Tok}:SeqAt.EqAt A s (.str x t) (.str y u) (x==y):= λprog w E Q h=>PyProof.Rows.eqBool_str h
theorem oF{x y:Addr}{q:Str×Str}{t1 u1 t2 u2:Tok}{e1 e2:Nat}(hu:A.units<cLine)(g1:s.heap.get? x=some {cls:=.type "tuple",data:=.seq #[.str p.1 t1,.str p.2 u1] e1})(g2:s.heap.get? y=some {cls:=.type "tuple",data:=.seq #[.str q.1 t2,.str q.2 u2] e2}):SeqAt.RcAt A s (.ref x) (.ref y) (decide (p=q)):=by
 have z:=SeqAt.RcAt.tuples (A:=A) (s:=s) (e:= λj=>if j=0 then p.1==q.1 else p.2==q.2) (iG _ g1 rfl _ rfl) (iG _ g2 rfl _ rfl) hu (λj h1 h2=>by
  match j,h1 with
  |0,_=>exact jM
  |1,_=>exact jM)
 have e:((ZG (min (#[Value.str p.1 t1,Value.str p.2 u1]:Array Value).size (#[Value.str q.1 t2,Value.str q.2 u2]:Array Value).size)).all (λj=>if j=0 then p.1==q.1 else p.2==q.2)&&(#[Value.str p.1 t1,Value.str p.2 u1]:Array Value).size==(#[Value.str q.1 t2,Value.str q.2 u2]:Array Value).size)=decide (p=q):=by
  obtain⟨p1,p2⟩:=p
  obtain⟨q1,q2⟩:=q
  show(((p1==q1)&&((p2==q2)&&true))&&true)=_
  by_cases h1:p1=q1<;>by_cases h2:p2=q2<;>simp[h1,h2]
 rw[e]at z
 exact z
theorem mK{x y:Nat}{q:Str×Str}(ht:decide (p=q)=t)(hx:σ.H[x]?=some (.tuple [.str p.1,.str p.2]))(hy:σ.H[y]?=some (.tuple [.str q.1,.str q.2])):dz c F k (compareOp .Eq) (.obj x) (.obj y) σ (.bool t) σ:= λA ρ s env Q E a b K r ha hb h=>by
 refine bp λGz kz=>?_
 refine aV ha ?_;clear ha;intro _ z0;subst z0
 refine aV hb ?_;clear hb;intro _ z0;subst z0
 refine iY (r.pair hx) λt1 u1 e1 g1=>?_
 refine iY (r.pair hy) λt2 u2 e2 g2=>?_
 refine kz ?_
 exact oF K.units g1 g2 c.prog c.w E Q (h ρ s _ r .refl (by subst ht;rfl))
end
theorem ke{bs:List AV}{xs ys:List Value}(h:cG ρ n as xs)(g:cG ρ n bs ys):cG ρ n (as++bs) (xs++ys):=by
 induction h with
 |nil=>exact g
 |cons h _ ih=>exact .cons h ih
theorem aW.listO(r:aW c A F ρ σ s env)(hj:σ.H[j]?=some (.list vs)):∃its e,s.heap.get? (ρ j)=some {cls:=.type "list",data:=.seq ⟨its⟩ e}∧cG ρ σ.H.length vs its:=by
 refine ah (r.hr.at_ j _ hj) λob h1 h2=>?_
 refine dk h2 ?_;clear h2;intro its e z0 h3;subst z0
 exact cI its e h1 h3
theorem aW.updL{acc':List AV}{f:Array Value→Array Value}{e:Nat}{ho:s.heap.get? (ρ j)=some {cls:=.type "list",data:=.seq ⟨its⟩ e}}(r:aW c A F ρ σ s env)(hj:σ.H[j]?=some (.list acc))
  (hv:∃its',f ⟨its⟩=⟨its'⟩∧cG ρ σ.H.length acc' its'):aW c A F ρ ⟨σ.loc,σ.H.set j (.list acc')⟩ {s with heap:=s.heap.update (ρ j) (Obj.mapSeq f),toks:=tk} env∧aM c ρ σ.H.length (· =env.locals) s ρ (σ.H.set j (.list acc')).length {s with heap:=s.heap.update (ρ j) (Obj.mapSeq f),toks:=tk}:=by
 have jl:=aq hj
 refine ah hv λits' e1 e2=>?_
 have hg:=Zw (Obj.mapSeq f) ho rfl
 have oth:∀b o,s.heap.get? b=some o→b≠env.locals→b≠ρ j→(s.heap.update (ρ j) (Obj.mapSeq f)).get? b=some o:= λb o e _ hb=>(ZU _ _ (Ne.symm hb)).trans e
 exact r.upd (tk:=tk) (ao:=.list acc') jl hg (cI its' _ (by simp[Obj.mapSeq,e1];rfl) e2) oth (λm hm=>by
  refine dg hm λo es ep g1 g2=>?_
  exact bh o es ep ((ZU _ _ (r.ap j jl)).trans g1) g2)
theorem pj(hJ:σ.H[J]?=some (.list acc))(hj:σ.H[j]?=some (.list vs))(hz:acc.length<900)(hz':vs.length<900):cK c F k (λxs=>call (.builtin "list.extend") xs) [.obj J,.obj j] σ .none ⟨σ.loc,σ.H.set J (.list (acc++vs))⟩:= λA ρ s env Q E xs K r hx q=>by
 cases hx with
 |cons h1 h2=>
  refine lW h2 λ_ h2=>?_
  refine bp λGz kz=>?_
  refine aV h1 ?_;clear h1;intro _ z0;subst z0
  refine aV h2 ?_;clear h2;intro _ z0;subst z0
  refine dk (r.listO hJ) λits e ho hv=>?_
  refine dk (r.listO hj) λits2 e2 ho2 hv2=>?_
  have ln:=aH hv
  have ln2:=aH hv2
  refine aV (r.updL (ho:=ho) (f:= λx=>x++⟨its2⟩) (acc':=acc++vs) (tk:=s.toks) hJ (al (its++its2) (by simp) (ke hv hv2))) λr1 st1=>?_
  refine kz ?_
  refine call_meets PySem.F.slot_list_extend (al _ ho rfl) PySem.F.entry_list_extend (PySem.F.args_list_extend_2 _ _) (AutoSeq1.list_extend_list_list_0 (ρ J) ⟨its⟩ e (ρ j) ⟨its2⟩ e2 ?_ ?_ ?_) ⟨ho,ho2,?_⟩
  ·have:Builtin.List.listTooLong ((⟨its⟩:Array Value).size+(⟨its2⟩:Array Value).size)=false:=by
    unfold Builtin.List.listTooLong
    simp only[Ze]
    rw[ln,ln2]
    simp
    unfold sizeLine
    lia
   rw[this];simp
  ·show its.length≤sizeLine;unfold sizeLine;lia
  ·show its.length+its2.length≤sizeLine+1;unfold sizeLine;lia
  ·exact q ρ _ _ r1 st1 rfl
noncomputable def wc:=cV bJ 4
noncomputable def E4:=kr bJ 4
theorem By:dG P 51 wc E4:=by constructor<;>w_on
theorem FE(x y:Value)(S:Setting):peek (Kx P) S (bindArgs (dw P 51) ⟨[x,y],[]⟩)=some [(("expected":Str),x),(("actual":Str),y)]:=by w_on
noncomputable def cw:Fs:=⟨E4,[]⟩
theorem aA:cw.scope.kind=.function:=by w_on
theorem gX:cw.def:=by show cw.scope.names.lookup (".0":Str)=none;w_on
noncomputable def FI:=cV wc 3
noncomputable def sM:=cV FI 0
noncomputable def Jm:=sub FI 0 2
noncomputable def Iv:=cV sM 2
noncomputable def E3:=sub sM 2 1
noncomputable def IJ:=cV E3 0
noncomputable def Hl:=sub E3 0 1
noncomputable def cM(xs:List (Str×Str)):List (Str×Str)→List (Str×Str)×List (Str×Str):=
 xs.rec (λys=>([],ys)) λx xs f ys=>ys.rec (x::xs,[]) λy ys q=>if j7 x y then(x::(f (y::ys)).1,(f (y::ys)).2)else if j7 y x then(q.1,y::q.2)else f ys
def um(xs:List (Str×Str)):Prop:=∀i x y,xs[i]?=some x→xs[i+1]?=some y→y≠x
structure SS(l:List (Str×AV))(H:List AO)(jx jy M U:Nat)(ex ey ms us:List Nat)(xs ys xm xu:List (Str×Str))(i j:Nat):Prop where
 lx:l.lookup ("expected":Str)=some (.obj jx)
 ly:l.lookup ("actual":Str)=some (.obj jy)
 lm:l.lookup ("missing":Str)=some (.obj M)
 lu:l.lookup ("unexpected":Str)=some (.obj U)
 li:l.lookup ("i":Str)=some (.int i)
 lj:l.lookup ("j":Str)=some (.int j)
 hx:H[jx]?=some (.list (ex.map .obj))
 hy:H[jy]?=some (.list (ey.map .obj))
 hm:H[M]?=some (.list (ms.map .obj))
 hu:H[U]?=some (.list (us.map .obj))
 px:aN H ex xs
 py:aN H ey ys
 pm:aN H ms xm
 pu:aN H us xu
 d1:M≠U
 d2:jx≠M
 d3:jx≠U
 d4:jy≠M
 d5:jy≠U
 zx:ex.length≤64
 zy:ey.length≤64
 zm:ms.length≤i
 zu:us.length≤j
 zi:i≤ex.length
 zj:j≤ey.length
theorem aN.set{H:List AO}{js:List Nat}{ps:List (Str×Str)}{M:Nat}{vs:List AV}{o:AO}(h:aN H js ps)(hM:H[M]?=some (.list vs)):aN (H.set M o) js ps:=
 ⟨h.1,λi j p h1 h2=>by
  have z:=h.2 i j p h1 h2
  rw[zN (λq=>by subst q;rw[hM]at z;cases z)]
  exact z⟩
theorem aN.snoc{ps:List (Str×Str)}(h:aN H js ps)(hj:H[j]?=some (AO.tuple [.str p.1,.str p.2])):aN H (js++[j]) (ps++[p]):=by
 refine⟨by simp[h.1],λi j' p' h1 h2=>?_⟩
 by_cases hi:i<js.length
 ·rw[zL hi]at h1
  rw[zL (by rw[←h.1];exact hi)]at h2
  exact h.2 i j' p' h1 h2
 ·rw[zR (ZW hi)]at h1
  rw[zR (by rw[←h.1];exact ZW hi),←h.1]at h2
  cases q:i - js.length with
  |zero=>rw[q]at h1 h2;cases h1;cases h2;exact hj
  |succ n=>rw[q]at h1;simp at h1
theorem aN.append{ks:List Nat}{ps qs:List (Str×Str)}(h:aN H js ps)(g:aN H ks qs):aN H (js++ks) (ps++qs):=by
 refine⟨by simp[h.1,g.1],λi j' p' h1 h2=>?_⟩
 by_cases hi:i<js.length
 ·rw[zL hi]at h1
  rw[zL (by rw[←h.1];exact hi)]at h2
  exact h.2 i j' p' h1 h2
 ·rw[zR (ZW hi)]at h1
  rw[zR (by rw[←h.1];exact ZW hi),←h.1]at h2
  exact g.2 _ j' p' h1 h2
theorem aN.drop{H:List AO}{js:List Nat}{ps:List (Str×Str)}(h:aN H js ps)(n:Nat):aN H (js.drop n) (ps.drop n):=by
 refine⟨by simp[h.1],λi j' p' h1 h2=>?_⟩
 rw[Z1]at h1 h2
 exact h.2 _ j' p' h1 h2
theorem aN.keep{ps:List (Str×Str)}(h:aN H js ps)(k:∀(j:Nat)(a b:Str),H[j]?=some (AO.tuple [.str a,.str b])→H'[j]?=some (AO.tuple [.str a,.str b])):aN H' js ps:=
 ⟨h.1,λi j p h1 h2=>k j p.1 p.2 (h.2 i j p h1 h2)⟩
theorem gJ{ex:List Nat}{xi:Nat}(h:ex[i]?=some xi):(ex.map AV.obj)[((i:Nat):Int).toNat]?=some (.obj xi):=by simp[h]
section
variable{M:Nat}{ex:List Nat}{xs:List (Str×Str)}
theorem SS.put(x:SS l H jx jy M U ex ey ms us xs ys xm xu i j){n:Str}{a:AV}(hn:n="e"∨n="a"):SS (aR n a l) H jx jy M U ex ey ms us xs ys xm xu i j:=by
 refine bp λGz kz=>?_
 obtain⟨lx,ly,lm,lu,li,lj,r⟩:=x
 refine kz ?_
 rcases hn with rfl|rfl<;>exact⟨dR lx,dR ly,dR lm,dR lu,dR li,dR lj,‹_›,‹_›,‹_›,‹_›,‹_›,‹_›,‹_›,‹_›,‹_›,‹_›,‹_›,‹_›,‹_›,‹_›,‹_›,‹_›,‹_›,‹_›,‹_›⟩
theorem SS.inci(x:SS l H jx jy M U ex ey ms us xs ys xm xu i j)(h:i<ex.length):SS (aR "i" (.int (i+1:Nat)) l) H jx jy M U ex ey ms us xs ys xm xu (i+1) j:=by
 refine bp λGz kz=>?_
 obtain⟨lx,ly,lm,lu,li,lj,a1,a2,a3,a4,a5,a6,a7,a8,a9,b1,b2,b3,b4,b5,b6,b7,b8,b9,b10⟩:=x
 refine kz ?_
 exact⟨dR lx,dR ly,dR lm,dR lu,aj _ _ _,dR lj,a1,a2,a3,a4,a5,a6,a7,a8,a9,b1,b2,b3,b4,b5,b6,by lia,b8,h,b10⟩
theorem SS.incj(x:SS l H jx jy M U ex ey ms us xs ys xm xu i j)(h:j<ey.length):SS (aR "j" (.int (j+1:Nat)) l) H jx jy M U ex ey ms us xs ys xm xu i (j+1):=by
 refine bp λGz kz=>?_
 obtain⟨lx,ly,lm,lu,li,lj,a1,a2,a3,a4,a5,a6,a7,a8,a9,b1,b2,b3,b4,b5,b6,b7,b8,b9,b10⟩:=x
 refine kz ?_
 exact⟨dR lx,dR ly,dR lm,dR lu,dR li,aj _ _ _,a1,a2,a3,a4,a5,a6,a7,a8,a9,b1,b2,b3,b4,b5,b6,b7,by lia,b9,h⟩
theorem SS.appm(x:SS l H jx jy M U ex ey ms us xs ys xm xu i j)(hn:ex[i]?=some n)(hp:xs[i]?=some p):SS (aR "i" (.int (i+1:Nat)) l) (H.set M (.list (ms.map .obj++[.obj n]))) jx jy M U ex ey (ms++[n]) us xs ys (xm++[p]) xu (i+1) j:=by
 have ml:=aq x.hm
 have z:=x.px.2 i n p hn hp
 refine bp λGz kz=>?_
 obtain⟨lx,ly,lm,lu,li,lj,a1,a2,a3,a4,a5,a6,a7,a8,a9,b1,b2,b3,b4,b5,b6,b7,b8,b9,b10⟩:=x
 refine kz ?_
 have ez:(H.set M (.list (ms.map .obj++[.obj n])))[n]?=some (AO.tuple [.str p.1,.str p.2]):=by rw[zN (λq=>by subst q;rw[a3]at z;cases z)];exact z
 exact⟨dR lx,dR ly,dR lm,dR lu,aj _ _ _,dR lj,
  ak a1 b1,ak a2 b3,by rw[zT ml];simp,ak a4 (Ne.symm a9),a5.set a3,a6.set a3,(a7.set a3).snoc ez,a8.set a3,a9,b1,b2,b3,b4,b5,b6,by simp;lia,b8,(aq hn),b10⟩
theorem SS.appu(x:SS l H jx jy M U ex ey ms us xs ys xm xu i j)(hn:ey[j]?=some n)(hp:ys[j]?=some p):SS (aR "j" (.int (j+1:Nat)) l) (H.set U (.list (us.map .obj++[.obj n]))) jx jy M U ex ey ms (us++[n]) xs ys xm (xu++[p]) i (j+1):=by
 have ml:=aq x.hu
 have z:=x.py.2 j n p hn hp
 refine bp λGz kz=>?_
 obtain⟨lx,ly,lm,lu,li,lj,a1,a2,a3,a4,a5,a6,a7,a8,a9,b1,b2,b3,b4,b5,b6,b7,b8,b9,b10⟩:=x
 refine kz ?_
 have ez:(H.set U (.list (us.map .obj++[.obj n])))[n]?=some (AO.tuple [.str p.1,.str p.2]):=by rw[zN (λq=>by subst q;rw[a4]at z;cases z)];exact z
 exact⟨dR lx,dR ly,dR lm,dR lu,dR li,aj _ _ _,
  ak a1 b2,ak a2 b4,ak a3 a9,by rw[zT ml];simp,a5.set a4,a6.set a4,a7.set a4,(a8.set a4).snoc ez,a9,b1,b2,b3,b4,b5,b6,b7,by simp;lia,b9,(aq hn)⟩
end
theorem oj(i:Nat)(h:cG ρ n vs its):cG ρ n (vs.drop i) (slicePick ⟨its⟩ (some (i:Int)) none none).toList:=by
 rw[slicePick_from' ⟨its⟩ i]
 exact ub i h
theorem l7:∀env:Env,env.scope=cw.scope→interactive env=false:= λenv he=>by
 unfold interactive
 rw[he]
 rfl
section
variable{M:Nat}{ex:List Nat}{xs:List (Str×Str)}
theorem bW.set{H:List AO}{M:Nat}{o:AO}:∀(y:Nat)(p:AO),y≠M→H[y]?=some p→(H.set M o)[y]?=some p:= λy p hy h=>ak h hy
theorem Ir(G:c.Go)(x:SS l H jx jy M U ex ey ms us xs ys xm xu i j):∃H',dI c cw k Jm ⟨l,H⟩ .brk ⟨l,H'⟩∧H'[M]?=some (.list ((ms++ex.drop i).map .obj))∧H'[U]?=some (.list ((us++ey.drop j).map .obj))∧aN H' (ms++ex.drop i) (xm++xs.drop i)∧aN H' (us++ey.drop j) (xu++ys.drop j)∧
  (∀(y:Nat)(o:AO),y≠M→y≠U→H[y]?=some o→H'[y]?=some o):=by
 have Ml:=aq x.hm
 have Ul:=aq x.hu
 refine bp λGz kz=>?_
 refine bb (H++[AO.list ((ex.drop i).map .obj)]) λH1 e1=>?_
 have x1:bW H H1:=by rw[e1];exact bW.app
 have l1:H1.length=H.length+1:=by rw[e1];simp
 have s1:H1[H.length]?=some (.list ((ex.drop i).map .obj)):=by rw[e1,zR (ZA _),ZY];rfl
 refine bb (H1.set M (.list (ms.map .obj++(ex.drop i).map .obj))) λH2 e2=>?_
 have k2:∀(y:Nat)(o:AO),y≠M→H1[y]?=some o→H2[y]?=some o:=by rw[e2];exact bW.set
 have l2:H2.length=H.length+1:=by rw[e2];simp[l1]
 refine bb (H2++[AO.list ((ey.drop j).map .obj)]) λH3 e3=>?_
 have x3:bW H2 H3:=by rw[e3];exact bW.app
 have s3:H3[H2.length]?=some (.list ((ey.drop j).map .obj)):=by rw[e3,zR (ZA _),ZY];rfl
 refine bb (H3.set U (.list (us.map .obj++(ey.drop j).map .obj))) λH4 e4=>?_
 refine kz ?_
 have k4:∀(y:Nat)(o:AO),y≠U→H3[y]?=some o→H4[y]?=some o:=by rw[e4];exact bW.set
 have hM1:=x1 _ _ x.hm
 have hU1:=x1 _ _ x.hu
 have hM2:H2[M]?=some (.list (ms.map .obj++(ex.drop i).map .obj)):=by rw[e2];exact zT (by lia)
 have hU2:=k2 _ _ (Ne.symm x.d1) hU1
 have hy2:=k2 _ _ x.d4 (x1 _ _ x.hy)
 have hU3:=x3 _ _ hU2
 have kk:∀(y:Nat)(o:AO),y≠M→y≠U→H[y]?=some o→H4[y]?=some o:= λy o h1 h2 h=>k4 y o h2 (x3 _ _ (k2 y o h1 (x1 _ _ h)))
 have kp:∀(j:Nat)(a b:Str),H[j]?=some (AO.tuple [.str a,.str b])→H4[j]?=some (AO.tuple [.str a,.str b]):= λj a b h=>kk j _ (λq=>by subst q;rw[x.hm]at h;cases h) (λq=>by subst q;rw[x.hu]at h;cases h) h
 refine⟨H4,?_,?_,?_,?_,?_,kk⟩
 ·have a1:∀{p3 p4 p5 p6:Pos},Ev c cw k (.Subscript (.Name "expected" p3) (.Slice (some (.Name "i" p4)) none none p5) p6) ⟨l,H⟩ (.obj H.length) ⟨l,H1⟩:= λ{p3 p4 p5 p6}=>by
   have z:=fE (c:=c) (F:=cw) (k:=k) (σ:=⟨l,H⟩) (σ₁:=⟨l,H⟩) (σ₂:=⟨l,H⟩) (σ₃:=⟨l,H⟩) (σ₄:=⟨l,H⟩) (value:=.Name "expected" p3) (lower:=some (.Name "i" p4)) (upper:=none) (step:=none) (p:=p5) (pos:=p6) (j:=jx) (vs:=ex.map .obj) (l:=some (i:Int)) (u:=none) (t:=none) (v':=(ex.drop i).map .obj) (by simp;have:=x.zx;lia) (by simp) (λ_ _=>⟨_,rfl⟩) (aa aA rfl x.lx) (e9 (aa aA rfl x.li)) ds ds x.hx (λρ n its h=>by rw[List.map_drop];exact oj i h)
   rw[e1];exact z
  have a2:∀{p3 p4 p5 p6:Pos},Ev c cw k (.Subscript (.Name "actual" p3) (.Slice (some (.Name "j" p4)) none none p5) p6) ⟨l,H2⟩ (.obj H2.length) ⟨l,H3⟩:= λ{p3 p4 p5 p6}=>by
   have z:=fE (c:=c) (F:=cw) (k:=k) (σ:=⟨l,H2⟩) (σ₁:=⟨l,H2⟩) (σ₂:=⟨l,H2⟩) (σ₃:=⟨l,H2⟩) (σ₄:=⟨l,H2⟩) (value:=.Name "actual" p3) (lower:=some (.Name "j" p4)) (upper:=none) (step:=none) (p:=p5) (pos:=p6) (j:=jy) (vs:=ey.map .obj) (l:=some (j:Int)) (u:=none) (t:=none) (v':=(ey.drop j).map .obj) (by simp;have:=x.zy;lia) (by simp) (λ_ _=>⟨_,rfl⟩) (aa aA rfl x.ly) (e9 (aa aA rfl x.lj)) ds ds hy2 (λρ n its h=>by rw[List.map_drop];exact oj j h)
   rw[e3];exact z
  have o1:cK c cw k (λxs=>call (.builtin "list.extend") xs) [.obj M,.obj H.length] ⟨l,H1⟩ .none ⟨l,H2⟩:=by
   have z:=pj (c:=c) (F:=cw) (k:=k) (σ:=⟨l,H1⟩) (J:=M) (j:=H.length) hM1 s1 (by have:=x.zm;have:=x.zi;have:=x.zx;simp;lia) (by have:=x.zx;simp;lia)
   rw[e2];exact z
  have o2:cK c cw k (λxs=>call (.builtin "list.extend") xs) [.obj U,.obj H2.length] ⟨l,H3⟩ .none ⟨l,H4⟩:=by
   have z:=pj (c:=c) (F:=cw) (k:=k) (σ:=⟨l,H3⟩) (J:=U) (j:=H2.length) hU3 s3 (by have:=x.zu;have:=x.zj;have:=x.zy;simp;lia) (by have:=x.zy;simp;lia)
   rw[e4];exact z
  k_dflt refine' ae (σ₁:=⟨l,H2⟩) (cu (F:=cw) (v:=.none) l7 (λ_=>rfl) ?_) (ae (σ₁:=⟨l,H4⟩) (cu (F:=cw) (v:=.none) l7 (λ_=>rfl) ?_) (gP hW))
  ·exact d9 (λ_=>rfl) (aa aA rfl x.lm) (dp PySem.F.slot_list_extend PySem.F.type_list_extend x.hm) (af λ_=>rfl) (am (λ_=>rfl) a1 au) o1
  ·exact d9 (λ_=>rfl) (aa aA rfl x.lu) (dp PySem.F.slot_list_extend PySem.F.type_list_extend hU2) (af λ_=>rfl) (am (λ_=>rfl) a2 au) o2
 ·rw[Zu];exact k4 _ _ x.d1 (x3 _ _ hM2)
 ·rw[Zu,e4];exact zT (by rw[e3];simp;lia)
 ·exact(x.pm.append (x.px.drop i)).keep kp
 ·exact(x.pu.append (x.py.drop j)).keep kp
end
section
variable{M:Nat}{ex:List Nat}{xs:List (Str×Str)}{q:Str×Str}
theorem GR(x:SS l H jx jy M U ex ey ms us xs ys xm xu i j)(he:l.lookup ("e":Str)=some (.obj n))(hn:H[n]?=some (.tuple [.str p.1,.str p.2]))(hi:ex[i]?=some m)(hq:xs[i]?=some q)(ne:q≠p):
  Te c cw k (.Compare (.Subscript (.Name "expected" p1) (.Name "i" p2) p3) [.Eq] [.Name "e" p4] p5) ⟨l,H⟩ false ⟨l,H⟩:=
 av rfl (cW (by lia) (by have:=x.zi;have:=x.zx;lia) (λ_ _=>rfl) (λ_ _=>rfl) (aa aA rfl x.lx) (aa aA rfl x.li) x.hx (gJ hi)) (aa aA rfl he) (mK (by simpa using ne) (x.px.2 i m q hi hq) hn)
theorem BW(O:c.Ok)(x:SS l H jx jy M U ex ey ms us xs ys xm xu i j)(hi:i=ex.length):
  fw c cw k hm (!hm) (λenv=>isTrue (.Compare (.Subscript (.Name "expected" p1) (.Name "i" p2) p3) [.Eq] [.Name "e" p4] p5) env (eval (.Compare (.Subscript (.Name "expected" p1) (.Name "i" p2) p3) [.Eq] [.Name "e" p4] p5) env)) ⟨l,H⟩ "IndexError" ⟨l,H⟩:=
 vT rfl (jj O (by simp;lia) (by have:=x.zx;lia) (λ_ _=>rfl) (aa aA rfl x.lx) (aa aA rfl x.li) x.hx)
theorem FB(x:SS l H jx jy M U ex ey ms us xs ys xm xu i j)(he:l.lookup ("a":Str)=some (.obj n))(hn:H[n]?=some (.tuple [.str p.1,.str p.2]))(hi:ey[j]?=some m)(hq:ys[j]?=some q)(ne:q≠p):
  Te c cw k (.Compare (.Subscript (.Name "actual" p1) (.Name "j" p2) p3) [.Eq] [.Name "a" p4] p5) ⟨l,H⟩ false ⟨l,H⟩:=
 av rfl (cW (by lia) (by have:=x.zj;have:=x.zy;lia) (λ_ _=>rfl) (λ_ _=>rfl) (aa aA rfl x.ly) (aa aA rfl x.lj) x.hy (gJ hi)) (aa aA rfl he) (mK (by simpa using ne) (x.py.2 j m q hi hq) hn)
theorem BY(O:c.Ok)(x:SS l H jx jy M U ex ey ms us xs ys xm xu i j)(hi:j=ey.length):
  fw c cw k hm (!hm) (λenv=>isTrue (.Compare (.Subscript (.Name "actual" p1) (.Name "j" p2) p3) [.Eq] [.Name "a" p4] p5) env (eval (.Compare (.Subscript (.Name "actual" p1) (.Name "j" p2) p3) [.Eq] [.Name "a" p4] p5) env)) ⟨l,H⟩ "IndexError" ⟨l,H⟩:=
 vT rfl (jj O (by simp;lia) (by have:=x.zy;lia) (λ_ _=>rfl) (aa aA rfl x.ly) (aa aA rfl x.lj) x.hy)
theorem HL{q:Nat}(x:SS l H jx jy M U ex ey ms us xs ys xm xu i j):Ex c cw k (.AugAssign (.Name "i" p1) .Add (.Constant (.int 1) q p2) p3) ⟨l,H⟩ .next ⟨aR "i" (.int (i+1:Nat)) l,H⟩:=by
 have z:=nO (c:=c) (F:=cw) (k:=k) (x:="i") (pos':=p1) (pos:=p3) (σ:=⟨l,H⟩) (σ₁:=⟨l,H⟩) (σ₂:=⟨l,H⟩) (e:=.Constant (.int 1) q p2) (op:=.Add) aA rfl (by decide) x.li aJ eX
 exact z
theorem Hj{q:Nat}(x:SS l H jx jy M U ex ey ms us xs ys xm xu i j):Ex c cw k (.AugAssign (.Name "j" p1) .Add (.Constant (.int 1) q p2) p3) ⟨l,H⟩ .next ⟨aR "j" (.int (j+1:Nat)) l,H⟩:=by
 have z:=nO (c:=c) (F:=cw) (k:=k) (x:="j") (pos':=p1) (pos:=p3) (σ:=⟨l,H⟩) (σ₁:=⟨l,H⟩) (σ₂:=⟨l,H⟩) (e:=.Constant (.int 1) q p2) (op:=.Add) aA rfl (by decide) x.lj aJ eX
 exact z
def oD(c:Cx)(k:Nat)(body:List Stmt)(σ σ':St)(go:Bool):Prop:=match go with
 |true=>dI c cw k body σ .next σ'
 |false=>∃cx,fw c cw k false cx (execs body) σ "IndexError" σ'
theorem GV(hz:c.rz=true)(G:c.Go)(x:SS l H jx jy M U ex ey ms us xs ys xm xu i j)(ax:um xs)(hlen:ex.length=xs.length)(he:l.lookup ("e":Str)=some (.obj n))(hn:ex[i]?=some n)(hp:xs[i]?=some p):
  oD c k Iv ⟨l,H⟩ ⟨aR "i" (.int (i+1:Nat)) l,H.set M (.list (ms.map .obj++[.obj n]))⟩ (decide (i+1<ex.length)):=by
 have x':=x.appm hn hp
 have tn:=x'.px.2 i n p hn hp
 have il:=aq hn
 have he':(aR ("i":Str) (.int (i+1:Nat)) l).lookup ("e":Str)=some (.obj n):=dR he
 have xi:SS (aR "i" (.int (i+1:Nat)) l) (H.set M (.list (ms.map .obj++[.obj n]))) jx jy M U ex ey (ms++[n]) us xs ys (xm++[p]) xu (i+1) j:=x'
 have o1:cK c cw k (λxs=>call (.builtin "list.append") xs) [.obj M,.obj n] ⟨l,H⟩ .none ⟨l,H.set M (.list (ms.map .obj++[.obj n]))⟩:=eQ (σ:=⟨l,H⟩) x.hm (by have:=x.zm;have:=x.zi;have:=x.zx;simp;lia)
 have s2:∀{p1 p2 p3:Pos}{q:Nat},Ex c cw k (.AugAssign (.Name "i" p1) .Add (.Constant (.int 1) q p2) p3) ⟨l,H.set M (.list (ms.map .obj++[.obj n]))⟩ .next ⟨aR "i" (.int (i+1:Nat)) l,H.set M (.list (ms.map .obj++[.obj n]))⟩:= λ{p1 p2 p3 q}=>by
  have z:=nO (c:=c) (F:=cw) (k:=k) (x:="i") (pos':=p1) (pos:=p3) (σ:=⟨l,H.set M (.list (ms.map .obj++[.obj n]))⟩) (σ₁:=⟨l,H.set M (.list (ms.map .obj++[.obj n]))⟩) (σ₂:=⟨l,H.set M (.list (ms.map .obj++[.obj n]))⟩) (e:=.Constant (.int 1) q p2) (op:=.Add) aA rfl (by decide) x.li aJ eX
  exact z
 by_cases hi:i+1<ex.length
 ·rw[decide_eq_true hi]
  have h1:ex[i+1]?=some ex[i+1]:=zG hi
  have h2:xs[i+1]?=some (xs[i+1]'(by lia)):=zG _
  have ne:=ax i p _ hp h2
  k_dflt refine' ae (σ₁:=⟨l,H.set M (.list (ms.map .obj++[.obj n]))⟩) (cu (F:=cw) (v:=.none) l7 (λ_=>rfl) ?_) (ae s2 (ae (cR (ir (GR xi he' tn h1 h2 ne) ar)) ar))
  exact d9 (λ_=>rfl) (aa aA rfl x.lm) (dp slot_list_append type_list_append x.hm) (af λ_=>rfl) (am (λ_=>rfl) (aa aA rfl he) au) o1
 ·rw[decide_eq_false hi]
  refine⟨!false,?_⟩
  k_dflt refine' bL (σ₁:=⟨l,H.set M (.list (ms.map .obj++[.obj n]))⟩) G.ok (cu (F:=cw) (v:=.none) l7 (λ_=>rfl) ?_) (bL G.ok s2 (bN (gj hz (hZ hz gX (BW G.ok xi (by lia))))))
  exact d9 (λ_=>rfl) (aa aA rfl x.lm) (dp slot_list_append type_list_append x.hm) (af λ_=>rfl) (am (λ_=>rfl) (aa aA rfl he) au) o1
theorem F8(hz:c.rz=true)(G:c.Go)(x:SS l H jx jy M U ex ey ms us xs ys xm xu i j)(ax:um ys)(hlen:ey.length=ys.length)(he:l.lookup ("a":Str)=some (.obj n))(hn:ey[j]?=some n)(hp:ys[j]?=some p):
  oD c k IJ ⟨l,H⟩ ⟨aR "j" (.int (j+1:Nat)) l,H.set U (.list (us.map .obj++[.obj n]))⟩ (decide (j+1<ey.length)):=by
 have x':=x.appu hn hp
 have tn:=x'.py.2 j n p hn hp
 have il:=aq hn
 have he':(aR ("j":Str) (.int (j+1:Nat)) l).lookup ("a":Str)=some (.obj n):=dR he
 have o1:cK c cw k (λxs=>call (.builtin "list.append") xs) [.obj U,.obj n] ⟨l,H⟩ .none ⟨l,H.set U (.list (us.map .obj++[.obj n]))⟩:=eQ (σ:=⟨l,H⟩) x.hu (by have:=x.zu;have:=x.zj;have:=x.zy;simp;lia)
 have s2:∀{p1 p2 p3:Pos}{q:Nat},Ex c cw k (.AugAssign (.Name "j" p1) .Add (.Constant (.int 1) q p2) p3) ⟨l,H.set U (.list (us.map .obj++[.obj n]))⟩ .next ⟨aR "j" (.int (j+1:Nat)) l,H.set U (.list (us.map .obj++[.obj n]))⟩:= λ{p1 p2 p3 q}=>by
  have z:=nO (c:=c) (F:=cw) (k:=k) (x:="j") (pos':=p1) (pos:=p3) (σ:=⟨l,H.set U (.list (us.map .obj++[.obj n]))⟩) (σ₁:=⟨l,H.set U (.list (us.map .obj++[.obj n]))⟩) (σ₂:=⟨l,H.set U (.list (us.map .obj++[.obj n]))⟩) (e:=.Constant (.int 1) q p2) (op:=.Add) aA rfl (by decide) x.lj aJ eX
  exact z
 by_cases hi:j+1<ey.length
 ·rw[decide_eq_true hi]
  have h1:ey[j+1]?=some ey[j+1]:=zG hi
  have h2:ys[j+1]?=some (ys[j+1]'(by lia)):=zG _
  have ne:=ax j p _ hp h2
  k_dflt refine' ae (σ₁:=⟨l,H.set U (.list (us.map .obj++[.obj n]))⟩) (cu (F:=cw) (v:=.none) l7 (λ_=>rfl) ?_) (ae s2 (ae (cR (ir (FB x' he' tn h1 h2 ne) ar)) ar))
  exact d9 (λ_=>rfl) (aa aA rfl x.lu) (dp slot_list_append type_list_append x.hu) (af λ_=>rfl) (am (λ_=>rfl) (aa aA rfl he) au) o1
 ·rw[decide_eq_false hi]
  refine⟨!false,?_⟩
  k_dflt refine' bL (σ₁:=⟨l,H.set U (.list (us.map .obj++[.obj n]))⟩) G.ok (cu (F:=cw) (v:=.none) l7 (λ_=>rfl) ?_) (bL G.ok s2 (bN (gj hz (hZ hz gX (BY G.ok x' (by lia))))))
  exact d9 (λ_=>rfl) (aa aA rfl x.lu) (dp slot_list_append type_list_append x.hu) (af λ_=>rfl) (am (λ_=>rfl) (aa aA rfl he) au) o1
theorem FU(hz:c.rz=true)(G:c.Go)(hk:50≤k)(x:SS l H jx jy M U ex ey ms us xs ys xm xu i j)(ax:um xs)(ay:um ys)(hlx:ex.length=xs.length)(hly:ey.length=ys.length)(he:l.lookup ("e":Str)=some (.obj n))(ha:l.lookup ("a":Str)=some (.obj m))(hn:ex[i]?=some n)(hm':ey[j]?=some m)(hp:xs[i]?=some p)(hq:ys[j]?=some q):
  oD c k Hl ⟨l,H⟩ ⟨aR "j" (.int (j+1:Nat)) (aR "i" (.int (i+1:Nat)) l),H⟩ (decide (i+1<ex.length)&&decide (j+1<ey.length)):=by
 have il:=aq hn
 have jl:=aq hm'
 have x1:=x.inci il
 have x2:=x1.incj jl
 have tn:=x.px.2 i n p hn hp
 have tm:=x.py.2 j m q hm' hq
 have he1:(aR ("i":Str) (.int (i+1:Nat)) l).lookup ("e":Str)=some (.obj n):=dR he
 have ha2:(aR ("j":Str) (.int (j+1:Nat)) (aR "i" (.int (i+1:Nat)) l)).lookup ("a":Str)=some (.obj m):=dR (dR ha)
 refine bb (aR ("i":Str) (.int ((i+1:Nat):Int)) l) λl1 el1=>?_
 refine bb (aR ("j":Str) (.int ((j+1:Nat):Int)) l1) λl2 el2=>?_
 have s1:∀{p1 p2 p3:Pos}{q:Nat},Ex c cw k (.AugAssign (.Name "i" p1) .Add (.Constant (.int 1) q p2) p3) ⟨l,H⟩ .next ⟨l1,H⟩:= λ{p1 p2 p3 q}=>by rw[el1];exact HL x
 have s2:∀{k:Nat}{p1 p2 p3:Pos}{q:Nat},Ex c cw k (.AugAssign (.Name "j" p1) .Add (.Constant (.int 1) q p2) p3) ⟨l1,H⟩ .next ⟨l2,H⟩:= λ{k p1 p2 p3 q}=>by rw[el2,el1];exact Hj x1
 rw[←el1]at x1 x2 he1 ha2 ⊢
 rw[←el2]at x2 ha2 ⊢
 by_cases hi:i+1<ex.length
 ·have h1:ex[i+1]?=some ex[i+1]:=zG hi
  have h2:xs[i+1]?=some (xs[i+1]'(by lia)):=zG _
  have ne:=ax i p _ hp h2
  by_cases hj:j+1<ey.length
  ·rw[decide_eq_true hi,decide_eq_true hj]
   have g1:ey[j+1]?=some ey[j+1]:=zG hj
   have g2:ys[j+1]?=some (ys[j+1]'(by lia)):=zG _
   have ne':=ay j q _ hq g2
   k_dflt refine' ae s1 (ae (FT (ae (cR (ir (GR x1 he1 tn h1 h2 ne) ar)) ar) (ae s2 (ae (cR (ir (FB x2 ha2 tm g1 g2 ne') ar)) ar))) ar)
  ·rw[decide_eq_true hi,decide_eq_false hj]
   refine⟨!false,?_⟩
   k_dflt refine' bL G.ok s1 (bN (xV hz G.ok gX (ae (cR (ir (GR x1 he1 tn h1 h2 ne) ar)) ar) (bL G.ok s2 (bN (gj hz (hZ hz gX (BY G.ok x2 (by lia))))))))
 ·by_cases hj:j+1<ey.length
  ·rw[decide_eq_false hi,decide_eq_true hj]
   have g1:ey[j+1]?=some ey[j+1]:=zG hj
   have g2:ys[j+1]?=some (ys[j+1]'(by lia)):=zG _
   have ne':=ay j q _ hq g2
   refine⟨!false,?_⟩
   k_dflt refine' bL G.ok s1 (bN (yd (k':=50) hk (by decide) hz G.ok gX (bN (gj hz (hZ hz gX (BW G.ok x1 (by lia))))) (ae s2 (ae (cR (ir (FB x2 ha2 tm g1 g2 ne') ar)) ar))))
  ·rw[decide_eq_false hi,decide_eq_false hj]
   refine⟨!true,?_⟩
   k_dflt refine' bL G.ok s1 (bN (u8 (k':=50) hk (by decide) hz G.ok gX (bN (gj hz (hZ hz gX (BW G.ok x1 (by lia))))) (bL G.ok s2 (bN (gj hz (hZ hz gX (BY G.ok x2 (by lia))))))))
end
theorem qV:nsIn (Kx P) mainGlobals ("IndexError":Str)=some none:=by w_on
theorem o7:bootBuiltins ("IndexError":Str)=some (.type "IndexError"):=PyProof.Rows.Boot.IndexError
theorem dK{xs:List (Str×Str)}(h:xs=[]∨ys=[]):cM xs ys=(xs,ys):=by
 cases h with
 |inl h=>subst h;rfl
 |inr h=>subst h;cases xs<;>rfl
theorem qD{x y:Str×Str}{xs:List (Str×Str)}(h:j7 x y=true):cM (x::xs) (y::ys)=(x::(cM xs (y::ys)).1,(cM xs (y::ys)).2):=if_pos h
theorem rP{x y:Str×Str}{xs:List (Str×Str)}(h:j7 x y=false)(h2:j7 y x=true):cM (x::xs) (y::ys)=((cM (x::xs) ys).1,y::(cM (x::xs) ys).2):=(if_neg (ne_true_of_eq_false h)).trans (if_pos h2)
theorem qG{x y:Str×Str}{xs:List (Str×Str)}(h:j7 x y=false)(h2:j7 y x=false):cM (x::xs) (y::ys)=cM xs ys:=(if_neg (ne_true_of_eq_false h)).trans (if_neg (ne_true_of_eq_false h2))
section
variable{M:Nat}{ex:List Nat}{xs:List (Str×Str)}{q:Str×Str}
def jz(c:Cx)(k:Nat)(l:List (Str×AV))(H:List AO)(M U:Nat)(xm xu rx ry:List (Str×Str)):Prop:=
 ∃l' H' ms' us',Wh c cw k (uE wc 3) FI [] ⟨l,H⟩ .next ⟨l',H'⟩∧l'.lookup ("missing":Str)=some (.obj M)∧l'.lookup ("unexpected":Str)=some (.obj U)∧H'[M]?=some (AO.list (ms'.map .obj))∧H'[U]?=some (AO.list (us'.map .obj))∧
  aN H' ms' (xm++(cM rx ry).1)∧aN H' us' (xu++(cM rx ry).2)∧∀(y:Nat)(o:AO),y≠M→y≠U→H[y]?=some o→H'[y]?=some o
theorem s7:Te c cw k (uE wc 3) σ true σ:=by
 k_dflt refine' bQ (λ_ _=>rfl) gU bH
theorem iu(hz:c.rz=true)(G:c.Go)(hk:100≤k){l1:List (Str×AV)}{xm1 xu1:List (Str×Str)}{ms1 us1:List Nat}{i1:Nat}(h:∃cx,fw c cw k false cx (execs sM) ⟨l,H⟩ "IndexError" ⟨l1,H1⟩)(x:SS l1 H1 jx jy M U ex ey ms1 us1 xs ys xm1 xu1 i1 j1)
  (kp:∀(y:Nat)(o:AO),y≠M→y≠U→H[y]?=some o→H1[y]?=some o){rx ry:List (Str×Str)}(e1:xm1++xs.drop i1=xm++(cM rx ry).1)(e2:xu1++ys.drop j1=xu++(cM rx ry).2):jz c k l H M U xm xu rx ry:=by
 refine bp λGz kz=>?_
 refine cc h λcx h=>?_
 obtain⟨H',h1,h2,h3,h4,h5,h6⟩:=Ir (k:=50) G x
 refine kz ?_
 refine j5 l1 H' _ _ ?_ x.lm x.lu h2 h3 (e1▸h4) (e2▸h5) λy o a b c=>h6 y o a b (kp y o a b c)
 refine lZ s7 ?_
 k_dflt refine' gP (pX (k':=50) (T':="IndexError") (by lia) (by decide) hk hz G.ok gX (di G aA rfl (qV _) o7) PySem.F.isExc_IndexError PySem.F.notTuple_IndexError PySem.F.self_IndexError h h1)
theorem zw(h:dI c cw k sM ⟨l,H⟩ .next ⟨l1,H1⟩)(kp:∀(y:Nat)(o:AO),y≠M→y≠U→H[y]?=some o→H1[y]?=some o){xm1 xu1 rx ry rx1 ry1:List (Str×Str)}(d:jz c k l1 H1 M U xm1 xu1 rx1 ry1)
  (e1:xm1++(cM rx1 ry1).1=xm++(cM rx ry).1)(e2:xu1++(cM rx1 ry1).2=xu++(cM rx ry).2):jz c k l H M U xm xu rx ry:=by
 refine bp λGz kz=>?_
 obtain⟨l',H',ms',us',h1,h2,h3,h4,h5,h6,h7,h8⟩:=d
 refine kz ?_
 refine j5 l' H' ms' us' ?_ h2 h3 h4 h5 (e1▸h6) (e2▸h7) λy o a b c=>h8 y o a b (kp y o a b c)
 refine jB (.inl rfl) s7 ?_ h1
 k_dflt refine' ae (AR h) ar
theorem mi(hz:c.rz=true)(G:c.Go)(hk:100≤k){l1:List (Str×AV)}{xm1 xu1:List (Str×Str)}{ms1 us1:List Nat}{i1:Nat}{go:Bool}(h:oD c k sM ⟨l,H⟩ ⟨l1,H1⟩ go)(x:SS l1 H1 jx jy M U ex ey ms1 us1 xs ys xm1 xu1 i1 j1)
  (kp:∀(y:Nat)(o:AO),y≠M→y≠U→H[y]?=some o→H1[y]?=some o){rx ry:List (Str×Str)}(hs:go=false→xs.drop i1=[]∨ys.drop j1=[])(d:go=true→jz c k l1 H1 M U xm1 xu1 (xs.drop i1) (ys.drop j1))
  (e1:xm1++(cM (xs.drop i1) (ys.drop j1)).1=xm++(cM rx ry).1)(e2:xu1++(cM (xs.drop i1) (ys.drop j1)).2=xu++(cM rx ry).2):jz c k l H M U xm xu rx ry:=by
 cases go with
 |true=>exact zw h kp (d rfl) e1 e2
 |false=>
  rw[dK (hs rfl)]at e1 e2
  exact iu hz G hk h x kp e1 e2
end
section
variable{M:Nat}{ex:List Nat}{xs:List (Str×Str)}{q:Str×Str}
theorem Hr(x:SS l H jx jy M U ex ey ms us xs ys xm xu i j)(hn:ex[i]?=some n):Ex c cw k (.Assign [.Name "e" p1] (.Subscript (.Name "expected" p2) (.Name "i" p3) p4) p5) ⟨l,H⟩ .next ⟨aR "e" (.obj n) l,H⟩:=
 aw (σ₁:=⟨l,H⟩) aA rfl (λ_=>rfl) (cW (by lia) (by have:=x.zi;have:=x.zx;lia) (λ_ _=>rfl) (λ_ _=>rfl) (aa aA rfl x.lx) (aa aA rfl x.li) x.hx (gJ hn))
theorem I4(x:SS l H jx jy M U ex ey ms us xs ys xm xu i j)(hn:ey[j]?=some n):Ex c cw k (.Assign [.Name "a" p1] (.Subscript (.Name "actual" p2) (.Name "j" p3) p4) p5) ⟨l,H⟩ .next ⟨aR "a" (.obj n) l,H⟩:=
 aw (σ₁:=⟨l,H⟩) aA rfl (λ_=>rfl) (cW (by lia) (by have:=x.zj;have:=x.zy;lia) (λ_ _=>rfl) (λ_ _=>rfl) (aa aA rfl x.ly) (aa aA rfl x.lj) x.hy (gJ hn))
theorem GP(hz:c.rz=true)(G:c.Go)(hk:100≤k)(ax:um xs)(ay:um ys):∀(N:Nat){l:List (Str×AV)}{H:List AO}{ms us:List Nat}{xm xu:List (Str×Str)}{i j:Nat},SS l H jx jy M U ex ey ms us xs ys xm xu i j→(xs.length - i)+(ys.length - j)≤N→jz c k l H M U xm xu (xs.drop i) (ys.drop j):=by
 intro N
 induction N with
 |zero=>
  intro l H ms us xm xu i j x hN
  have hlx:=x.px.1
  have hi:i=ex.length:=by have:=x.zi;lia
  have ed:xs.drop i=[]:=ZL.mpr (by lia)
  refine iu (rx:=xs.drop i) (ry:=ys.drop j) hz G hk ⟨!false,?_⟩ x (λ_ _ _ _ h=>h) (by rw[dK (.inl ed)]) (by rw[dK (.inl ed)])
  k_dflt refine' bN (iJ (λ_=>rfl) (jj G.ok (by simp;lia) (by have:=x.zx;lia) (λ_ _=>rfl) (aa aA rfl x.lx) (aa aA rfl x.li) x.hx))
 |succ N ih=>
  intro l H ms us xm xu i j x hN
  have hlx:=x.px.1
  have hly:=x.py.1
  by_cases hi:i=ex.length
  ·have ed:xs.drop i=[]:=ZL.mpr (by lia)
   refine iu (rx:=xs.drop i) (ry:=ys.drop j) hz G hk ⟨!false,?_⟩ x (λ_ _ _ _ h=>h) (by rw[dK (.inl ed)]) (by rw[dK (.inl ed)])
   k_dflt refine' bN (iJ (λ_=>rfl) (jj G.ok (by simp;lia) (by have:=x.zx;lia) (λ_ _=>rfl) (aa aA rfl x.lx) (aa aA rfl x.li) x.hx))
  ·have il:i<ex.length:=by have:=x.zi;lia
   have hn:ex[i]?=some ex[i]:=zG il
   have hp:xs[i]?=some (xs[i]'(by lia)):=zG _
   generalize ex[i]=n at hn
   generalize xs[i]'(by lia)=p at hp
   have x1:=x.put (n:="e") (a:=.obj n) (.inl rfl)
   by_cases hj:j=ey.length
   ·have ed:ys.drop j=[]:=ZL.mpr (by lia)
    refine iu (rx:=xs.drop i) (ry:=ys.drop j) hz G hk ⟨!false,?_⟩ x1 (λ_ _ _ _ h=>h) (by rw[dK (.inr ed)]) (by rw[dK (.inr ed)])
    k_dflt refine' bL G.ok (Hr x hn) (bN (iJ (λ_=>rfl) (jj G.ok (by simp;lia) (by have:=x.zy;lia) (λ_ _=>rfl) (aa aA rfl x1.ly) (aa aA rfl x1.lj) x1.hy)))
   ·have jl:j<ey.length:=by have:=x.zj;lia
    have hm:ey[j]?=some ey[j]:=zG jl
    have hq:ys[j]?=some (ys[j]'(by lia)):=zG _
    generalize ey[j]=m at hm
    generalize ys[j]'(by lia)=q at hq
    have x2:=x1.put (n:="a") (a:=.obj m) (.inr rfl)
    have he2:(aR ("a":Str) (AV.obj m) (aR "e" (.obj n) l)).lookup ("e":Str)=some (.obj n):=dR (aj _ _ _)
    have ha2:(aR ("a":Str) (AV.obj m) (aR "e" (.obj n) l)).lookup ("a":Str)=some (.obj m):=aj _ _ _
    have tn:=x.px.2 i n p hn hp
    have tm:=x.py.2 j m q hm hq
    have s1:= λ(p1 p2 p3 p4 p5:Pos)=>Hr (c:=c) (k:=k) (p1:=p1) (p2:=p2) (p3:=p3) (p4:=p4) (p5:=p5) x hn
    have s2:= λ(p1 p2 p3 p4 p5:Pos)=>I4 (c:=c) (k:=k) (p1:=p1) (p2:=p2) (p3:=p3) (p4:=p4) (p5:=p5) x1 hm
    have dx:xs.drop i=p::xs.drop (i+1):=by
     refine cc (zS.mp hp) λw e=>?_
     rw[List.drop_eq_getElem_cons w,e]
    have dy:ys.drop j=q::ys.drop (j+1):=by
     refine cc (zS.mp hq) λw e=>?_
     rw[List.drop_eq_getElem_cons w,e]
    generalize aR ("a":Str) (AV.obj m) (aR "e" (.obj n) l)=l2 at x2 he2 ha2 s2
    cases h1:j7 p q with
    |true=>
     have h:=GV (k:=k) hz G x2 ax hlx he2 hn hp
     have xx:=x2.appm hn hp
     have ht:oD c k sM ⟨l,H⟩ ⟨aR "i" (.int (i+1:Nat)) l2,H.set M (.list (ms.map .obj++[.obj n]))⟩ (decide (i+1<ex.length)):=by
      generalize decide (i+1<ex.length)=go at h ⊢
      cases go with
      |true=>k_dflt refine' ae (s1 _ _ _ _ _) (ae (s2 _ _ _ _ _) (ae (aL (t:=true) (av rfl (aa aA rfl he2) (aa aA rfl ha2) (eW h1 (by lia) tn tm)) h) ar))
      |false=>
       refine cc h λcx h=>?_
       refine⟨cx,?_⟩
       k_dflt refine' bL G.ok (s1 _ _ _ _ _) (bL G.ok (s2 _ _ _ _ _) (bN (lD (t:=true) G.ok (av rfl (aa aA rfl he2) (aa aA rfl ha2) (eW h1 (by lia) tn tm)) h)))
     refine mi hz G hk ht xx (λy o a b c=>bW.set y o a c) (λe=>.inl (ZL.mpr (by have:=of_decide_eq_false e;lia))) (λe=>ih xx (by lia)) ?_ ?_
     ·rw[dx,dy,qD h1];simp
     ·rw[dx,dy,qD h1]
    |false=>
     cases h2:j7 q p with
     |true=>
      have h:=F8 (k:=k) hz G x2 ay hly ha2 hm hq
      have xx:=x2.appu hm hq
      have ht:oD c k sM ⟨l,H⟩ ⟨aR "j" (.int (j+1:Nat)) l2,H.set U (.list (us.map .obj++[.obj m]))⟩ (decide (j+1<ey.length)):=by
       generalize decide (j+1<ey.length)=go at h ⊢
       cases go with
       |true=>k_dflt refine' ae (s1 _ _ _ _ _) (ae (s2 _ _ _ _ _) (ae (aL (t:=false) (av rfl (aa aA rfl he2) (aa aA rfl ha2) (eW h1 (by lia) tn tm)) (ae (aL (t:=true) (av rfl (aa aA rfl he2) (aa aA rfl ha2) (gM h2 (by lia) tn tm)) h) ar)) ar))
       |false=>
        refine cc h λcx h=>?_
        refine⟨cx,?_⟩
        k_dflt refine' bL G.ok (s1 _ _ _ _ _) (bL G.ok (s2 _ _ _ _ _) (bN (lD (t:=false) G.ok (av rfl (aa aA rfl he2) (aa aA rfl ha2) (eW h1 (by lia) tn tm)) (bN (lD (t:=true) G.ok (av rfl (aa aA rfl he2) (aa aA rfl ha2) (gM h2 (by lia) tn tm)) h)))))
      refine mi hz G hk ht xx (λy o a b c=>bW.set y o b c) (λe=>.inr (ZL.mpr (by have:=of_decide_eq_false e;lia))) (λe=>ih xx (by lia)) ?_ ?_
      ·rw[dx,dy,rP h1 h2]
      ·rw[dx,dy,rP h1 h2];simp
     |false=>
      have h:=FU (k:=k) hz G (by lia) x2 ax ay hlx hly he2 ha2 hn hm hp hq
      have xx:=(x2.inci il).incj jl
      have ht:oD c k sM ⟨l,H⟩ ⟨aR "j" (.int (j+1:Nat)) (aR "i" (.int (i+1:Nat)) l2),H⟩ (decide (i+1<ex.length)&&decide (j+1<ey.length)):=by
       generalize (decide (i+1<ex.length)&&decide (j+1<ey.length))=go at h ⊢
       cases go with
       |true=>k_dflt refine' ae (s1 _ _ _ _ _) (ae (s2 _ _ _ _ _) (ae (aL (t:=false) (av rfl (aa aA rfl he2) (aa aA rfl ha2) (eW h1 (by lia) tn tm)) (ae (aL (t:=false) (av rfl (aa aA rfl he2) (aa aA rfl ha2) (gM h2 (by lia) tn tm)) h) ar)) ar))
       |false=>
        refine cc h λcx h=>?_
        refine⟨cx,?_⟩
        k_dflt refine' bL G.ok (s1 _ _ _ _ _) (bL G.ok (s2 _ _ _ _ _) (bN (lD (t:=false) G.ok (av rfl (aa aA rfl he2) (aa aA rfl ha2) (eW h1 (by lia) tn tm)) (bN (lD (t:=false) G.ok (av rfl (aa aA rfl he2) (aa aA rfl ha2) (gM h2 (by lia) tn tm)) h)))))
      refine mi hz G hk ht xx (λy o a b c=>c) (λe=>?_) (λe=>ih xx (by lia)) ?_ ?_
      ·rw[Bool.and_eq_false_iff]at e
       exact e.imp (λe=>ZL.mpr (by have:=of_decide_eq_false e;lia)) (λe=>ZL.mpr (by have:=of_decide_eq_false e;lia))
      ·rw[dx,dy,qG h1 h2]
      ·rw[dx,dy,qG h1 h2]
end
theorem u5(hk:F.scope.kind=.function)(hx:F.scope.names.lookup x=some .local)(hy:F.scope.names.lookup y=some .local)(hs:∀env,swappedStores [.Name x p1,.Name y p2] e env=pure none)(h1:Ev c F k e σ v σ₁):
  Ex c F k (.Assign [.Name x p1,.Name y p2] e pos) σ .next ⟨aR y v (aR x v σ₁.loc),σ₁.H⟩:= λA ρ s env Q E K r h=>
 wpAny_Assign_two (h1 A ρ s env _ E K r λρ1 s1 z r1 st1 vz=>bg hk hx A ρ1 s1 env _ E z K r1 vz λρ2 s2 r2 st2=>bg hk hy A ρ2 s2 env _ E z K r2 (st2.vr vz) λρ3 s3 r3 st3=>h ρ3 s3 _ r3 ((st1.trans st2).trans st3) rfl) rfl (hs env)
section
variable{ex:List Nat}{xs:List (Str×Str)}
theorem GS(hz:c.rz=true)(G:c.Go)(hx:H[jx]?=some (.list (ex.map .obj)))(hy:H[jy]?=some (.list (ey.map .obj)))(px:aN H ex xs)(py:aN H ey ys)(ax:um xs)(ay:um ys)(zx:ex.length≤64)(zy:ey.length≤64):
  ∃T M U H',Fn c (k+101) (.ref 51) [.obj jx,.obj jy] [] H (.obj T) H'∧H'[T]?=some (AO.tuple [.obj M,.obj U])∧cT H' M (cM xs ys).1∧cT H' U (cM xs ys).2∧bW H H':=by
 have jxl:=aq hx
 have jyl:=aq hy
 refine bp λGz kz=>?_
 refine bb (H++[AO.list []]) λH1 e1=>?_
 refine bb (H1++[AO.list []]) λH2 e2=>?_
 have x1:bW H H1:=by rw[e1];exact bW.app
 have x2:bW H1 H2:=by rw[e2];exact bW.app
 have x12:=x1.trans x2
 have n1:H1.length=H.length+1:=by rw[e1];simp
 have hM:H2[H.length]?=some (AO.list (([]:List Nat).map .obj)):=by refine x2 _ _ ?_;rw[e1,zR (ZA _),ZY];rfl
 have hU:H2[H1.length]?=some (AO.list (([]:List Nat).map .obj)):=by rw[e2,zR (ZA _),ZY];rfl
 let l0:List (Str×AV):=[("expected",.obj jx),("actual",.obj jy)]
 let l1:=aR ("j":Str) (.int 0) (aR ("i":Str) (.int 0) l0)
 let l2:=aR ("missing":Str) (.obj H.length) l1
 let l3:=aR ("unexpected":Str) (.obj H1.length) l2
 have x:SS l3 H2 jx jy H.length H1.length ex ey [] [] xs ys [] [] 0 0:=⟨rfl,rfl,rfl,rfl,rfl,rfl,x12 _ _ hx,x12 _ _ hy,hM,hU,px.ext x12,py.ext x12,⟨rfl,λi j p h=>by simp at h⟩,⟨rfl,λi j p h=>by simp at h⟩,by lia,by lia,by lia,by lia,by lia,zx,zy,ZA _,ZA _,Zl _,Zl _⟩
 obtain⟨l',H',ms',us',h1,h2,h3,h4,h5,h6,h7,h8⟩:=GP (k:=k+100) hz G (by lia) ax ay _ x (ZA _)
 refine kz ?_
 rw[List.drop_zero,List.drop_zero,List.nil_append]at h6 h7
 have ext':bW H H':= λi o h=>h8 i o (by have:=(aq h);lia) (by have:=(aq h);lia) (x12 _ _ h)
 refine ko H'.length H.length H1.length (H'++[AO.tuple [.obj H.length,.obj H1.length]]) ?_ aO (al ms' (bW.app _ _ h4) (h6.ext bW.app)) (al us' (bW.app _ _ h5) (h7.ext bW.app)) (ext'.trans bW.app)
 refine dh (fl:=.ret (.obj H'.length)) (loc:=l0) G (By _) (by w_on) (by w_on) (λρ m s xs ks X hx hk=>?_) ?_
 ·cases hx with
  |cons hx ht=>
   refine mC ht hk λ_ hy=>?_
   refine al [("expected",_),("actual",_)] (@bB _ _ _ _ _ X ?_) (.cons hx (.cons hy .nil))
   exact FE _ _ _
 ·apply aK (loc:=l')
  have t0:∀{p1 p2 p3 p4:Pos}{q:Nat},Ex c cw (k+100) (.Assign [.Name "i" p1,.Name "j" p2] (.Constant (.int 0) q p3) p4) ⟨l0,H⟩ .next ⟨l1,H⟩:= λ{p1 p2 p3 p4 q}=>u5 (σ₁:=⟨l0,H⟩) aA rfl rfl (λ_=>rfl) aJ
  have t1:∀{p1 p2 p3:Pos},Ex c cw (k+100) (.Assign [.Name "missing" p1] (.List [] p2) p3) ⟨l1,H⟩ .next ⟨l2,H1⟩:= λ{p1 p2 p3}=>by
   have z:=dL (c:=c) (F:=cw) (k:=k+100) (σ:=⟨l1,H⟩) (σ₁:=⟨l1,H⟩) (elts:=[]) (pos:=p2) (vs:=[]) (by decide) au
   have z2:=aw (x:="missing") (pos':=p1) (pos:=p3) aA rfl (λ_=>rfl) z
   rw[e1];exact z2
  have t2:∀{p1 p2 p3:Pos},Ex c cw (k+100) (.Assign [.Name "unexpected" p1] (.List [] p2) p3) ⟨l2,H1⟩ .next ⟨l3,H2⟩:= λ{p1 p2 p3}=>by
   have z:=dL (c:=c) (F:=cw) (k:=k+100) (σ:=⟨l2,H1⟩) (σ₁:=⟨l2,H1⟩) (elts:=[]) (pos:=p2) (vs:=[]) (by decide) au
   have z2:=aw (x:="unexpected") (pos':=p1) (pos:=p3) aA rfl (λ_=>rfl) z
   rw[e2];exact z2
  have t4:∀{p1 p2 p3:Pos}{kd:Nat},Ev c cw (k+100) (.Tuple [.Name "missing" p1,.Name "unexpected" p2] kd p3) ⟨l',H'⟩ (.obj H'.length) ⟨l',H'++[AO.tuple [.obj H.length,.obj H1.length]]⟩:= λ{p1 p2 p3 kd}=>
   tH (σ₁:=⟨l',H'⟩) (by show 2<1000;decide) (am (λ_=>rfl) (aa aA rfl h2) (am (λ_=>rfl) (aa aA rfl h3) au))
  k_dflt refine' ae t0 (ae t1 (ae t2 (ae (cR h1) (bx (aX t4)))))
end
inductive fF(ρ:Nat→Addr)(n:Nat):List (Option AV)→List (Option Value)→Prop where
 |nil:fF ρ n [] []
 |no {as:_} {vs:_} (t:fF ρ n as vs):fF ρ n (none::as) (none::vs)
 |yes {a:_} {v:_} {as:_} {vs:_} (h:VR ρ n a v) (t:fF ρ n as vs):fF ρ n (some a::as) (some v::vs)
theorem fF.mono{ρ ρ':Nat→Addr}{n n':Nat}{as:List (Option AV)}{vs:List (Option Value)}(h:fF ρ n as vs)(ag:∀i,i<n→ρ' i=ρ i)(le:n≤n'):fF ρ' n' as vs:=by
 induction h with
 |nil=>exact .nil
 |no _ ih=>exact .no ih
 |yes h _ ih=>exact .yes (h.mono ag le) ih
theorem fF.length{ρ:Nat→Addr}{n:Nat}{as:List (Option AV)}{vs:List (Option Value)}(h:fF ρ n as vs):vs.length=as.length:=by
 induction h with
 |nil=>rfl
 |no _ ih=>simp[ih]
 |yes _ _ ih=>simp[ih]
theorem fF.get{as:List (Option AV)}{vs:List (Option Value)}(h:fF ρ n as vs):∀{i:Nat}{a:AV},as[i]?=some (some a)→∃v,vs[i]?=some (some v)∧VR ρ n a v:=by
 induction h with
 |nil=>intro i a e;simp at e
 |no _ ih=>
  intro i a e
  cases i with
  |zero=>simp at e
  |succ i=>exact ih (by simpa using e)
 |yes h _ ih=>
  intro i a e
  cases i with
  |zero=>simp at e;subst e;exact al _ (by simp) h
  |succ i=>exact ih (by simpa using e)
theorem fF.append{as bs:List (Option AV)}{vs ws:List (Option Value)}(h:fF ρ n as vs)(g:fF ρ n bs ws):fF ρ n (as++bs) (vs++ws):=by
 induction h with
 |nil=>exact g
 |no _ ih=>exact .no ih
 |yes h _ ih=>exact .yes h ih
theorem fF.rep{ρ:Nat→Addr}{n:Nat}:∀(m:Nat),fF ρ n (ZV m .none) (ZV m .none)
 |0=>.nil
 |m+1=>.no (fF.rep m)
theorem fF.set{ρ:Nat→Addr}{n:Nat}{a:AV}{v:Value}(hv:VR ρ n a v){as:List (Option AV)}{vs:List (Option Value)}(h:fF ρ n as vs):∀(i:Nat),fF ρ n (as.set i (.some a)) (vs.set i (.some v)):=by
 induction h with
 |nil=>intro i;exact .nil
 |no t ih=>
  intro i
  cases i with
  |zero=>exact .yes hv t
  |succ i=>exact .no (ih i)
 |yes h t ih=>
  intro i
  cases i with
  |zero=>exact .yes hv t
  |succ i=>exact .yes h (ih i)
noncomputable def m9(C:Addr)(d:Nat)(vs:List (Option AV)):AO:=.is λρ n o=>d<n∧∃xs,o={cls:=.ref C,dict:=some (ρ d),data:=.plain,slots:=⟨xs⟩}∧fF ρ n vs xs
noncomputable def fh(vs:List (Option AV))(i:Nat)(v:AV):List (Option AV):=(vs++ZV (i+1 - vs.length) none).set i (some v)
def C1(H:List AO)(x:Nat)(C:Addr)(d:Nat)(vs:List (Option AV)):Prop:=H[x]?=some (m9 C d vs)∨(vs=[]∧H[x]?=some (.inst C d))
theorem GJ{vs:List (Option AV)}{xs:List (Option Value)}(hd:d<n)(h:fF ρ n vs xs):OR ρ n (m9 C d vs) {cls:=.ref C,dict:=some (ρ d),data:=.plain,slots:=⟨xs⟩}:= λρ' n' ag le=>
 ⟨ZD hd le,xs,by rw[ag d hd],h.mono ag le⟩
theorem aW.slt{x:Nat}{vs:List (Option AV)}(r:aW c A F ρ σ s env)(hx:C1 σ.H x C d vs)(hd:σ.H[d]?=some (.dict es)):
  ∃xs od,fF ρ σ.H.length vs xs∧InstAt s.heap (ρ x) {cls:=.ref C,dict:=some (ρ d),data:=.plain,slots:=⟨xs⟩} C (some od)∧x<σ.H.length∧d<σ.H.length:=by
 refine ah (r.hr.at_ d _ hd) λod h3 h4=>?_
 have dl:=aq hd
 rcases hx with hx|⟨rfl,hx⟩
 ·refine ah (r.hr.at_ x _ hx) λob h1 h2=>?_
  refine vU (h2 ρ _ (λ_ _=>rfl) (ZA _)) λ_ xs z0 h5=>?_;subst z0
  exact dP xs od h5 ⟨h1,rfl,rfl,h3⟩ (aq hx) dl
 ·refine ah (r.hr.at_ x _ hx) λob h1 h2=>?_
  refine aV h2 ?_;clear h2;intro _ z0;subst z0
  exact dP [] od .nil ⟨h1,rfl,rfl,h3⟩ (aq hx) dl
structure kM(K:Frag)(C:Addr)(name:Str)(p:Addr)(i:Nat):Prop where
 ga:findIn K (.ref C) "__getattribute__"=some (some (.builtin "object.__getattribute__"))
 gk:findIn K (.ref C) "__getattr__"=some none
 cl:(clsIn K C).isSome=true
 sa:findIn K (.ref C) "__setattr__"=some (some (.builtin "object.__setattr__"))
 po:plainOver K C=true
 at_:findIn K (.ref C) name=some (some (.ref p))
 gt:specialIn K (.ref p) "__get__"=some (some (.builtin "member_descriptor.__get__"))
 tk:takesIn K (.ref p)=some true
 ty:typeIn K (.ref p)=some (.type "member_descriptor")
 sl:slotIn K p C=some i
theorem t8{x:Nat}{p:Addr}{vs:List (Option AV)}(O:c.Ok)(S:kM c.K C name p i)(hx:C1 σ.H x C d vs)(hd:σ.H[d]?=some (.dict es))(hv:vs[i]?=some (some v))(hh:v.handed=true):
  oW c F k (λx=>getAttr x name ex) (.obj x) σ v σ:= λA ρ s env Q E y K r hy q=>by
 refine bp λGz kz=>?_
 refine aV hy ?_;clear hy;intro _ z0;subst z0
 refine cU (r.slt hx hd) λxs od h1 I _ _=>?_
 refine ah (h1.get hv) λw h2 h3=>?_
 refine kz ?_
 refine PySem.W.get_bind (r.X O) I S.ga (findObj_data S.cl S.at_ S.gt S.tk) S.gk (wpAny_call ?_)
 refine slot_get (s:={s with toks:=s.toks+1}) (r.X O) I S.sl (v:=w) ?_ ?_
 ·show((⟨xs⟩:Array (Option Value))[i]?).join=some w
  rw[List.getElem?_toArray,h2];rfl
 ·show wpAny _ _ (handedOut w) _ _ _
  rw[handedOut_of (mn h3 hh)]
  exact YD (q ρ _ w (r.toks _) (.toks _) h3)
theorem sU{x:Nat}{p:Addr}{vs:List (Option AV)}(O:c.Ok)(S:kM c.K C name p i)(hi:i<100)(hx:C1 σ.H x C d vs)(hd:σ.H[d]?=some (.dict es)):
  wx c F k (λx y=>setAttr x name y) (.obj x) v σ (λ_ _=>True) ⟨σ.loc,σ.H.set x (m9 C d (fh vs i v))⟩:= λA ρ s env Q E y z K r hy hz q=>by
 refine bp λGz kz=>?_
 refine aV hy ?_;clear hy;intro _ z0;subst z0
 refine cU (r.slt hx hd) λxs od h1 I xl dl=>?_
 refine ah (r.lo) λm hm _=>?_
 refine kz ?_
 have ne:=r.ap x xl
 have h3:=I.at_
 have ht:takerIn c.K C name=some (some (.ref p)):=by unfold takerIn;rw[S.at_,Option.bind_some];show Option.map _ (takesIn c.K (.ref p))=_;rw[S.tk];rfl
 have ln:=h1.length
 refine set_plain (r.X O) I S.sa (osa_descr (s:={s with toks:=s.toks+1}) PySem.W.KF.slot_mset (r.X O) I S.po ht S.ty ?_)
 refine slot_set (s:={s with toks:=s.toks+1}) (pre:=kx s.heap env.locals (ρ x)) (post:=[]) (ox':={cls:=.ref C,dict:=some (ρ d),data:=.plain,slots:=⟨(xs++ZV (i+1 - xs.length) none).set i (some z)⟩}) (mx hm) (mG h3 ne) (r.X O) I S.sl (by lia) qc (λ_ h=>nomatch h) ?_ rfl λh' F' N'=>?_
 ·have e1:(⟨xs⟩:Array (Option Value))++Array.replicate (i+1 - xs.length) none=⟨xs++ZV (i+1 - xs.length) none⟩:=by
   apply Array.toList_inj.mp
   simp
  have e2:((⟨xs⟩:Array (Option Value))++Array.replicate (i+1 - xs.length) none).setIfInBounds i (some z)=⟨(xs++ZV (i+1 - xs.length) none).set i (some z)⟩:=by
   rw[e1]
   apply Array.toList_inj.mp
   simp
  exact congrArg (λsl=>({cls:=.ref C,dict:=some (ρ d),data:=.plain,slots:=sl}:Obj)) e2
 ·refine aV (pP N') λg1 g2=>?_
  have z:=r.upd (ao:=m9 C d (fh vs i v)) (tk:=s.toks+1) xl g1 (by
   have w:fF ρ σ.H.length (fh vs i v) ((xs++ZV (i+1 - xs.length) none).set i (some z)):=by
    unfold fh;rw[ln]
    exact((h1.append (fF.rep _))).set hz i
   exact GJ dl w) g2 (λm' hm'=>by
   have:m'=m:=by
    refine bp λGz kz=>?_
    refine dT hm λo es ep e1 d1 _ f1=>?_
    refine dT hm' λo2 es2 ep2 e2 d2 _ f2=>?_
    refine kz ?_
    rw[e1]at e2;cases e2
    rw[d1]at d2;cases d2
    funext y;rw[←f1 y,←f2 y]
   subst this;exact F'.ns)
  exact q ρ _ () z.1 z.2 trivial
def CD(c:Cx)(N ep:Nat)(es:List (Str×AV))(ρ:Nat→Addr)(n:Nat)(o:Obj):Prop:=
 N<n∧(ρ N==sysModules)=false∧∃vs,cG ρ n (es.map (·.2)) vs∧o.ExactDict∧∃ents,o.data=.dict ents ep∧KeysOf (PySem.strKind c.prog c.w) ents∧PySem.Pairs (PySem.strKind c.prog c.w) ents.toList ((es.map (·.1)).zip vs)∧(es.map (·.1)).Nodup
noncomputable def iw(c:Cx)(N ep:Nat)(es:List (Str×AV)):AO:=.is (CD c N ep es)
noncomputable def dq(c:Cx)(N:Nat)(es:List (Str×AV)):AO:=.is λρ n o=>∃ep,CD c N ep es ρ n o
theorem CD.mono{c:Cx}{N ep:Nat}{es:List (Str×AV)}{ρ ρ':Nat→Addr}{n n':Nat}{o:Obj}(h:CD c N ep es ρ n o)(ag:∀i,i<n→ρ' i=ρ i)(le:n≤n'):CD c N ep es ρ' n' o:=by
 refine vC h λh1 h2 vs h3 h4=>?_
 exact⟨ZD h1 le,by rw[ag N h1];exact h2,vs,h3.mono ag le,h4⟩
theorem wB(h:CD c N ep es ρ n o):OR ρ n (iw c N ep es) o:= λρ' n' ag le=>h.mono ag le
theorem nr(h:CD c N ep es ρ n o):OR ρ n (dq c N es) o:= λρ' n' ag le=>⟨ep,h.mono ag le⟩
def oO(c:Cx)(H:List AO)(N:Nat)(es:List (Str×AV)):Prop:=H[N]?=some (dq c N es)∨∃ep,H[N]?=some (iw c N ep es)
theorem oO.is{c:Cx}{H:List AO}{N:Nat}{es:List (Str×AV)}(h:oO c H N es):∃P,H[N]?=some (.is P):=by
 rcases h with h|⟨ep,h⟩<;>exact⟨_,h⟩
theorem oO.lt(h:oO c H N es):N<H.length:=let⟨_,e⟩:=h.is;(aq e)
theorem oO.keep(h:oO c H N es)(k:∀o,H[N]?=some o→H'[N]?=some o):oO c H' N es:=by
 rcases h with h|⟨ep,h⟩
 ·exact .inl (k _ h)
 ·exact .inr ⟨ep,k _ h⟩
theorem xD{ks:List Str}:∀{vs:List Value},vs.length=ks.length→(ks.zip vs).map (·.1)=ks:=by
 induction ks with
 |nil=>intro vs _;rfl
 |cons k ks ih=>
  intro vs h
  cases vs with
  |nil=>simp at h
  |cons v vs=>simp[ih (by simpa using h)]
theorem k8{k:Str}:∀{vs:List Value},cG ρ n (es.map (·.2)) vs→(∀a,es.lookup k=some a→∃v,valueAt ((es.map (·.1)).zip vs) k=some v∧VR ρ n a v)∧(es.lookup k=none→valueAt ((es.map (·.1)).zip vs) k=none):=by
 induction es with
 |nil=>intro vs h;exact⟨λa e=>by simp at e,λ_=>rfl⟩
 |cons p es ih=>
  intro vs h
  obtain⟨x,b⟩:=p
  cases h with
  |cons hv t=>
   rename_i v vs
   refine aV (ih t) λh1 h2=>?_
   unfold valueAt at h1 h2 ⊢
   simp only[ZZ,List.zip_cons_cons,List.find?_cons,ZI]
   by_cases hk:x=k
   ·subst hk
    simp
    exact hv
   ·have e1:(k==x)=false:=by simpa using λq:k=x=>hk q.symm
    rw[e1]
    simp only[decide_eq_false hk]
    exact⟨h1,h2⟩
theorem sH{α:Type}(k:Str)(a:α):∀(es:List (Str×α)),k∈es.map (·.1)→(aR k a es).map (·.1)=es.map (·.1)
 | [],h=>by simp at h
 |p::es,h=>by
  rw[gz]
  by_cases q:(p.1==k)=true
  ·rw[if_pos q];rfl
  ·rw[if_neg q]
   have:k∈es.map (·.1):=by
    rcases ZH.mp h with h|h
    ·exact absurd (by simpa using h.symm) q
    ·exact h
   simp[sH k a es this]
theorem nh{α:Type}(k:Str)(a:α):∀(es:List (Str×α)),k∉es.map (·.1)→aR k a es=es++[(k,a)]
 | [],h=>rfl
 |p::es,h=>by
  rw[gz]
  have h1:¬(p.1==k)=true:= λq=>h (by simp at q;simp[q])
  rw[if_neg h1,nh k a es λz=>h (by simp at z ⊢;exact .inr z)]
  rfl
theorem xL{k:Str}{v:Value}(ha:VR ρ n a v):∀{vs:List Value},cG ρ n (es.map (·.2)) vs→(es.map (·.1)).Nodup→∃vs',cG ρ n ((aR k a es).map (·.2)) vs'∧stored ((es.map (·.1)).zip vs) k v=((aR k a es).map (·.1)).zip vs'∧((aR k a es).map (·.1)).Nodup:=by
 intro vs h hn
 have ln:=aH h
 rw[ZS]at ln
 by_cases hk:k∈es.map (·.1)
 ·have e1:(((es.map (·.1)).zip vs).any λkv=>kv.1=k)=true:=by
   rw[Z8]
   have:k∈((es.map (·.1)).zip vs).map (·.1):=by rw[xD (by simpa using ln)];exact hk
   refine ah (ZR.mp this) λp hp e=>?_
   exact al p hp (by simpa using e)
  unfold stored
  rw[if_pos e1]
  have go:∀(es:List (Str×AV))(vs:List Value),cG ρ n (es.map (·.2)) vs→(es.map (·.1)).Nodup→k∈es.map (·.1)→∃vs',cG ρ n ((aR k a es).map (·.2)) vs'∧((es.map (·.1)).zip vs).map (λkv=>if kv.1=k then(kv.1,v)else kv)=((aR k a es).map (·.1)).zip vs':=by
   intro es
   induction es with
   |nil=>intro vs _ _ h;simp at h
   |cons p es ih=>
    intro vs h hn hk
    obtain⟨x,b⟩:=p
    cases h with
    |cons hv t=>
     rename_i w ws
     rw[ZZ,List.nodup_cons]at hn
     rw[gz]
     by_cases q:x=k
     ·subst q
      rw[if_pos (by simp)]
      refine al (v::ws) (.cons ha t) ?_
      simp only[ZZ,List.zip_cons_cons,if_pos]
      congr 1
      have:∀kv∈(es.map (·.1)).zip ws,(if kv.1=x then(kv.1,v)else kv)=kv:= λkv hm=>by
       rw(config:={}) [if_neg λe=>hn.1 ?_]
       have:=(List.of_mem_zip hm).1
       rw[e]at this;exact this
      rw[ZO this];simp
     ·have q':¬(x==k)=true:=by simpa using q
      rw[if_neg q']
      have hk':k∈es.map (·.1):=by
       rcases ZH.mp hk with h|h
       ·exact absurd h.symm q
       ·exact h
      refine ah (ih ws t hn.2 hk') λvs' h1 h2=>?_
      refine al (w::vs') (.cons hv h1) ?_
      simp only[ZZ,List.zip_cons_cons,if_neg q,h2]
  refine ah (go es vs h hn hk) λvs' h1 h2=>?_
  exact bO vs' h1 h2 (by rw[sH k a es hk];exact hn)
 ·have e1:¬(((es.map (·.1)).zip vs).any λkv=>kv.1=k)=true:=by
   rw[Z8]
   rintro⟨p,hp,e⟩
   exact hk (by have:=(List.of_mem_zip hp).1;rw[show p.1=k by simpa using e]at this;exact this)
  unfold stored
  rw[if_neg e1,nh k a es hk]
  refine bO (vs++[v]) ?_ ?_ ?_
  ·rw[Zu];exact ke h (.cons ha .nil)
  ·rw[Zu,List.zip_append (by simpa using ln.symm)];rfl
  ·rw[Zu,List.nodup_append]
   exact⟨hn,by simp,λx hx y hy e=>by simp at hy;subst hy;subst e;exact hk hx⟩
theorem vd{k:Str}:∀{vs:List Value},cG ρ n (es.map (·.2)) vs→∃vs',cG ρ n ((es.filter λp=>p.1 != k).map (·.2)) vs'∧without ((es.map (·.1)).zip vs) k=((es.filter λp=>p.1 != k).map (·.1)).zip vs':=by
 induction es with
 |nil=>intro vs h;exact al [] .nil rfl
 |cons p es ih=>
  intro vs h
  obtain⟨x,b⟩:=p
  cases h with
  |cons hv t=>
   rename_i w ws
   refine ah (ih t) λvs' h1 h2=>?_
   unfold without at h2 ⊢
   simp only[ZZ,List.zip_cons_cons,Zb]
   by_cases q:x=k
   ·rw[if_neg (by simpa using q),if_neg (by simpa using q)];exact al vs' h1 h2
   ·rw[if_pos (by simpa using q),if_pos (by simpa using q)];exact al (w::vs') (.cons hv h1) (by rw[h2];rfl)
theorem CD.dictOf{a:Addr}(x:CD c N ep es ρ n o)(ha:h.get? a=some o):∃vs,cG ρ n (es.map (·.2)) vs∧h.DictAt (PySem.strKind c.prog c.w) a ((es.map (·.1)).zip vs) ep:=by
 refine bp λGz kz=>?_
 obtain⟨_,_,vs,h3,h4,ents,h5,h6,h7,h8⟩:=x
 refine kz ?_
 exact⟨vs,h3,o,ents,ha,h4,h5,h6,h7,by rw[xD (by have:=aH h3;simpa using this)];exact h8⟩
theorem aW.dct(r:aW c A F ρ σ s env)(hN:oO c σ.H N es):∃vs,cG ρ σ.H.length (es.map (·.2)) vs∧s.heap.DictOf (PySem.strKind c.prog c.w) (ρ N) ((es.map (·.1)).zip vs)∧(ρ N==sysModules)=false∧(es.map (·.1)).Nodup:=by
 refine bp λGz kz=>?_
 obtain⟨ob,ep,h1,h3⟩:∃ob ep,s.heap.get? (ρ N)=some ob∧CD c N ep es ρ σ.H.length ob:=by
  rcases hN with hN|⟨ep,hN⟩
  ·refine ah (r.hr.at_ N _ hN) λob h1 h2=>?_
   refine cc (h2 ρ _ (λ_ _=>rfl) (ZA _)) λep h3=>?_
   exact cI ob ep h1 h3
  ·refine ah (r.hr.at_ N _ hN) λob h1 h2=>?_
   exact cI ob ep h1 (h2 ρ _ (λ_ _=>rfl) (ZA _))
 refine ah (h3.dictOf h1) λvs h4 h5=>?_
 obtain⟨_,h6,I6,_,_,_,_,_,_,h7⟩:=h3
 refine kz ?_
 exact gA vs h4 h5.dictOf h6 h7
theorem dU{t:Tok}:(PySem.strKind prog w).is x (.str x t)=true:=by
 show Value.isStrOf x (.str x t)=true
 simp[Value.isStrOf]
theorem EH:sysModules<mainGlobals:=by decide
theorem aW.size(O:c.Ok)(r:aW c A F ρ σ s env):(s.heap.objs.size==sysModules)=false:=by
 refine dg (fY r.hr.base O.g O.gt) λo es ep e _=>?_
 have:=ZB e
 have g:=EH
 have:s.heap.objs.size≠sysModules:=Nat.ne_of_gt (Nat.lt_trans g this)
 simpa using this
theorem sC(O:c.Ok):Ev c F k (.Dict [] [] pos) σ (.obj σ.H.length) ⟨σ.loc,σ.H++[dq c σ.H.length []]⟩:= λA ρ s env Q E K r q=>
 wpAny_Dict_empty (by
  refine aV (r.alloc (ao:=dq c σ.H.length []) (ob:={cls:=.type "dict",data:=.dict #[]}) s.toks rfl (nr (ep:=0) ⟨Za _,by rw[aF];exact r.size O,[],.nil,⟨rfl,rfl,rfl⟩,#[],rfl,λe he=>by simp at he,.nil,.nil⟩)) λr2 st2=>?_
  exact q _ _ _ r2 st2 ⟨by simp,by rw[aF]⟩)
theorem rK(hN:oO c σ.H N es)(hv:(es.lookup x).getD .none=v):cK c F k (λxs=>call (.builtin "dict.get") xs) [.obj N,.str x] σ v σ:= λA ρ s env Q E xs K r hx q=>by
 cases hx with
 |cons h1 h2=>
  refine lW h2 λ_ h2=>?_
  refine bp λGz kz=>?_
  refine aV h1 ?_;clear h1;intro _ z0;subst z0
  refine cc h2 ?_;clear h2;intro t z0;subst z0
  refine cv (r.dct hN) λvs g1 g2 g3 _=>?_
  refine aV (k8 (k:=x) g1) λd1 d2=>?_
  refine kz ?_
  refine call_meetsIn PySem.F.slot_dict_get g2.typeIs PySem.F.entry_dict_get (PySem.F.args_dict_get_2 _ _) (meets_dict_get (PySem.strKind c.prog c.w) (ρ N) (k:=x) dU g3) (al _ g2.mapOf ?_)
  refine q ρ _ _ (r.toks _) (.toks _) ?_
  cases e:es.lookup x with
  |some a=>
   refine ah (d1 a e) λw e1 e2=>?_
   rw[e]at hv
   rw[e1]
   simpa[←hv]using e2
  |none=>
   rw[e]at hv
   rw[d2 e,←hv]
   rfl
theorem k9(hs:∀o x,subscripted slice false o x=operate [o,x] (getItem o x))
  (e0:Ev c F k value σ (.obj N) σ₁)(e1:Ev c F k slice σ₁ (.str x) σ₂)(hN:oO c σ₂.H N es)(hv:es.lookup x=some v):Ev c F k (.Subscript value slice pos) σ v σ₂:= λA ρ s env Q E K r q=>
 Subscript_ (e0 A ρ s env _ E K r λρ1 s1 y r1 st1 vx=>e1 A ρ1 s1 env _ E K r1 λρ2 s2 z r2 st2 vy=>by
  refine bp λGz kz=>?_
  refine cc vy ?_;clear vy;intro t z0;subst z0
  refine aV (st2.vr vx) λ_ z0=>?_;subst z0
  refine cv (r2.dct hN) λvs g1 g2 g3 _=>?_
  refine ah ((k8 (k:=x) g1).1 v hv) λw w1 w2=>?_
  refine kz ?_
  exact tail_any g2.typeIs slot_dict_getitem.lookup (wpAny_getItem_of (knd:=PySem.strKind c.prog c.w) dU g2.mapOf w1 (q ρ2 _ w (r2.toks _) ((st1.trans st2).trans (.toks _)) w2)) (hs _ _))
theorem Gm(hN:oO c σ.H N es)(hv:(es.lookup x).isSome=t):dz c F k (compareOp .In) (.str x) (.obj N) σ (.bool t) σ:= λA ρ s env Q E a b K r ha hb q=>by
 refine bp λGz kz=>?_
 refine cc ha ?_;clear ha;intro t' z0;subst z0
 refine aV hb ?_;clear hb;intro _ z0;subst z0
 refine cv (r.dct hN) λvs g1 g2 g3 _=>?_
 refine aV (k8 (k:=x) g1) λd1 d2=>?_
 refine kz ?_
 refine wpAny_in_of (knd:=PySem.strKind c.prog c.w) dU g3 g2.mapOf (q ρ _ _ (r.toks _) (.toks _) ?_)
 cases e:es.lookup x with
 |some a=>
  refine ah (d1 a e) λw e1 e2=>?_
  rw[e]at hv;subst hv
  rw[e1];rfl
 |none=>
  rw[e]at hv;subst hv
  rw[d2 e];rfl
theorem aW.updD{es':List (Str×AV)}{vs':List Value}(r:aW c A F ρ σ s env)(hN:oO c σ.H N es)(hv:cG ρ σ.H.length (es'.map (·.2)) vs')(hm:h'.DictOf (PySem.strKind c.prog c.w) (ρ N) ((es'.map (·.1)).zip vs'))(hn:(es'.map (·.1)).Nodup)(hs:Heap.SameBut (ρ N) s.heap h'):
  aW c A F ρ ⟨σ.loc,σ.H.set N (dq c N es')⟩ ⟨h',s.gens,s.drawn,tk,s.os⟩ env∧aM c ρ σ.H.length (· =env.locals) s ρ (σ.H.set N (dq c N es')).length ⟨h',s.gens,s.drawn,tk,s.os⟩:=by
 have nl:=hN.lt
 refine bp λGz kz=>?_
 refine cv (r.dct hN) λ_ _ _ gs _=>?_
 refine ku hm λo ents ep h1 h2 h3 h4 h5 _=>?_
 refine kz ?_
 refine r.upd nl h1 (nr (ep:=ep) ⟨nl,gs,vs',hv,h2,ents,h3,h4,h5,hn⟩) (λb ob e _ hb=>(hs.2 b hb).trans e) λm hm=>?_
 refine dg hm λo es ep g1 g2=>?_
 exact bh o es ep ((hs.2 _ (Ne.symm (r.ap N nl))).trans g1) g2
theorem wC{o i:Expr}{pos':Pos}(hz:es.length<1000)(e0:Ev c F k o σ (.obj N) σ₁)(e1:Ev c F k i σ₁ (.str x) σ₂)(hN:oO c σ₂.H N es):
  As c F k (.Subscript o i pos') a σ ⟨σ₂.loc,σ₂.H.set N (dq c N (aR x a es))⟩:= λA ρ s env Q E v K r hv q=>by
 rw[assign_Subscript]
 refine YC (YF (e0 A ρ s env _ E K r λρ1 s1 y r1 st1 vx=>YC (YF (e1 A ρ1 s1 env _ E K r1 λρ2 s2 z r2 st2 vy=>YC (YG (YC (YF ?_)))))))
 have st12:=st1.trans st2
 have va:=st12.vr hv
 refine bp λGz kz=>?_
 refine cc vy ?_;clear vy;intro t z0;subst z0
 refine aV (st2.vr vx) λ_ z0=>?_;subst z0
 refine cv (r2.dct hN) λvs g1 g2 g3 g4=>?_
 refine br (xL (k:=x) va g1 g4) λvs' w1 w2 w3=>?_
 refine kz ?_
 have ln:=aH g1
 refine wpAny_setItem_pairs (knd:=PySem.strKind c.prog c.w) (k:=x) (hsz:=by rw[List.length_zip];simp at ln ⊢;unfold sizeLine;lia) dU g2 λh' hm hs=>?_
 rw[w2]at hm
 refine aV (r2.updD (tk:=s2.toks+1) hN w1 hm w3 hs) λr3 st3=>?_
 exact wpAny_release (q ρ2 _ r3 (st12.trans st3))
theorem aW.retype{ao ao':AO}(r:aW c A F ρ ⟨l,H⟩ s env)(hN:H[N]?=some ao)(h:∀ob,OR ρ H.length ao ob→OR ρ H.length ao' ob):aW c A F ρ ⟨l,H.set N ao'⟩ s env:=by
 have nl:=aq hN
 have len:(H.set N ao').length=H.length:=by simp
 refine⟨⟨λi o e=>?_,λi j hi hj=>r.hr.inj i j (len▸hi) (len▸hj),λi hi=>r.hr.up i (len▸hi),r.hr.base,r.hr.tj⟩,r.sc,r.gl,r.bl,r.ce,λp hp=>by rw[len];exact r.ci p hp,?_,λi hi=>r.ap i (len▸hi),r.lf,r.ge,r.sk.same len λb o es ep g1 g2 _ _=>bh o es ep g1 g2,r.tp,r.fl⟩
 ·show ∃ob,s.heap.get? (ρ i)=some ob∧OR ρ (H.set N ao').length o ob
  rw[len]
  have e:(H.set N ao')[i]?=some o:=e
  by_cases q:i=N
  ·subst q
   rw[zT nl]at e
   cases e
   refine ah (r.hr.at_ i _ hN) λob h1 h2=>?_
   exact al ob h1 (h _ h2)
  ·rw[zN (Ne.symm q)]at e
   exact r.hr.at_ i o e
 ·refine ah (r.lo) λm hm hl=>?_
  refine al m hm λx v hv=>?_
  show ∃v',m x=some v'∧VR ρ (H.set N ao').length v v'
  rw[len];exact hl x v hv
theorem A8{f:AF}(hN:H[N]?=some (dq c N es))(hN':H'[N]?=some (dq c N es))(h:∀ep,dI c F k body ⟨l,H.set N (iw c N ep es)⟩ f ⟨l',H'.set N (iw c N ep es)⟩):dI c F k body ⟨l,H⟩ f ⟨l',H'⟩:= λA ρ s env Q E K r q=>by
 refine ah (r.hr.at_ N _ hN) λob h1 h2=>?_
 refine cc (h2 ρ _ (λ_ _=>rfl) (ZA _)) λep h3=>?_
 have nl:=aq hN
 have nl':=aq hN'
 have r1:aW c A F ρ ⟨l,H.set N (iw c N ep es)⟩ s env:=by
  have len:(H.set N (iw c N ep es)).length=H.length:=by simp
  have z:=r.retype (ao':=iw c N ep es) hN
  refine⟨⟨λi o e=>?_,λi j hi hj=>r.hr.inj i j (len▸hi) (len▸hj),λi hi=>r.hr.up i (len▸hi),r.hr.base,r.hr.tj⟩,r.sc,r.gl,r.bl,r.ce,λp hp=>by rw[len];exact r.ci p hp,?_,λi hi=>r.ap i (len▸hi),r.lf,r.ge,r.sk.same len λb o es ep g1 g2 _ _=>bh o es ep g1 g2,r.tp,r.fl⟩
  ·show ∃ob,s.heap.get? (ρ i)=some ob∧OR ρ (H.set N (iw c N ep es)).length o ob
   rw[len]
   have e:(H.set N (iw c N ep es))[i]?=some o:=e
   by_cases q:i=N
   ·subst q
    rw[zT nl]at e
    cases e
    exact al ob h1 (wB h3)
   ·rw[zN (Ne.symm q)]at e
    exact r.hr.at_ i o e
  ·refine ah (r.lo) λm hm hl=>?_
   refine al m hm λx v hv=>?_
   show ∃v',m x=some v'∧VR ρ (H.set N (iw c N ep es)).length v v'
   rw[len];exact hl x v hv
 refine h ep A ρ s env Q E K r1 λρ' s' a r' st' va=>?_
 have r2:=r'.retype (ao':=dq c N es) (ao:=iw c N ep es) (zT nl') λob hob=>nr (hob ρ' _ (λ_ _=>rfl) (ZA _))
 rw[Zj,show H'.set N (dq c N es)=H' by
  refine cc (zS.mp hN') λq1 q2=>?_
  rw[←q2];exact Z7 q1]at r2
 have e1:(St.H ⟨l',H'.set N (iw c N ep es)⟩).length=H'.length:=by simp
 have e2:(St.H ⟨l,H.set N (iw c N ep es)⟩).length=H.length:=by simp
 rw[e1]at st' va
 rw[e2]at st'
 exact q ρ' s' a r2 st' va
noncomputable def nm(i:Nat):Str:=names.getD i ""
theorem kH:∀i,i<5→∀j,j<5→nm i=nm j→i=j:=by decide+kernel
noncomputable def ts:=cV bJ 10
noncomputable def Dz:=cV (cV bJ 8) 1
noncomputable def wz:=kr (cV bJ 8) 1
noncomputable def C0:=cV ts 0
noncomputable def wW:=kr ts 0
noncomputable def Ie:=cV ts 1
noncomputable def EY:=kr ts 1
noncomputable def EV:=cV ts 2
noncomputable def Ff:=kr ts 2
noncomputable def Aw:=cV ts 3
noncomputable def y8:=kr ts 3
noncomputable def IN:=cV ts 4
noncomputable def Hs:=kr ts 4
noncomputable def HY:=cV ts 5
noncomputable def E8:=kr ts 5
noncomputable def Ce:=cV ts 7
noncomputable def zW:=kr ts 7
noncomputable def Hf:=cV ts 8
noncomputable def IP:=kr ts 8
theorem Cj:dG P 66 Dz wz:=by constructor<;>w_on
theorem zY:dG P 103 C0 wW:=by constructor<;>w_on
theorem qT:dG P 110 Ie EY:=by constructor<;>w_on
theorem zF:dG P 117 EV Ff:=by constructor<;>w_on
theorem vX:dG P 122 Aw y8:=by constructor<;>w_on
theorem E9:dG P 129 IN Hs:=by constructor<;>w_on
theorem Ap:dG P 136 HY E8:=by constructor<;>w_on
theorem wV:dG P 150 Ce zW:=by constructor<;>w_on
theorem EX:dG P 157 Hf IP:=by constructor<;>w_on
theorem eM:GN (Kx P) 167:=by constructor<;>w_on
theorem v6:kM (Kx P) 70 "node" 71 0:=by constructor<;>w_on
theorem jh:kM (Kx P) 70 "npredecessors" 72 1:=by constructor<;>w_on
theorem wP:kM (Kx P) 70 "successors" 73 2:=by constructor<;>w_on
theorem i9:findIn (Kx P) (.ref 167) "_node2info"=some none:=by w_on
theorem iP:findIn (Kx P) (.ref 167) "_ready_nodes"=some none:=by w_on
theorem tg:findIn (Kx P) (.ref 167) "_npassedout"=some none:=by w_on
theorem sX:findIn (Kx P) (.ref 167) "_nfinished"=some none:=by w_on
theorem BZ:findIn (Kx P) (.ref 167) "_get_nodeinfo"=some (some (.ref 110)):=by w_on
theorem Ft:findIn (Kx P) (.ref 167) "add"=some (some (.ref 117)):=by w_on
theorem CN:findIn (Kx P) (.ref 167) "prepare"=some (some (.ref 122)):=by w_on
theorem Ia:findIn (Kx P) (.ref 167) "get_ready"=some (some (.ref 129)):=by w_on
theorem FJ:findIn (Kx P) (.ref 167) "is_active"=some (some (.ref 136)):=by w_on
theorem EP:findIn (Kx P) (.ref 167) "done"=some (some (.ref 150)):=by w_on
theorem IK:findIn (Kx P) (.ref 167) "_find_cycle"=some (some (.ref 157)):=by w_on
theorem B6(x y:Value)(S:Setting):peek (Kx P) S (bindArgs (dw P 66) ⟨[x,y],[]⟩)=some [(("self":Str),x),(("node":Str),y)]:=by w_on
noncomputable def BF:Fs:=⟨wz,[]⟩
theorem nk:BF.scope.kind=.function:=by w_on
theorem dJ{x:Nat}{p:Addr}{vs:List (Option AV)}(G:c.Go)(S:kM (Kx c.w.params) 70 name p i)(hx:C1 σ.H x 70 d vs)(hd:σ.H[d]?=some (.dict es))(hv:vs[i]?=some (some v))(hh:v.handed=true):
  oW c F k (λx=>getAttr x name ex) (.obj x) σ v σ:=t8 G.ok (G.hK▸S) hx hd hv hh
theorem fH{x:Nat}{p:Addr}{vs:List (Option AV)}(G:c.Go)(S:kM (Kx c.w.params) 70 name p i)(hi:i<100)(hx:C1 σ.H x 70 d vs)(hd:σ.H[d]?=some (.dict es)):
  wx c F k (λx y=>setAttr x name y) (.obj x) v σ (λ_ _=>True) ⟨σ.loc,σ.H.set x (m9 70 d (fh vs i v))⟩:=sU G.ok (G.hK▸S) hi hx hd
theorem Cv(G:c.Go){x:Nat}{node:Str}(hx:H[x]?=some (.inst 70 d))(hd:H[d]?=some (.dict [])):
  Fn c (k+1) (.ref 66) [.obj x,.str node] [] H .none ((H++[AO.list []]).set x (m9 70 d [some (.str node),some (.int 0),some (.obj H.length)])):=by
 have xl:=aq hx
 have dl:=aq hd
 have xd:x≠d:=by rintro rfl;rw[hx]at hd;cases hd
 refine bp λGz kz=>?_
 refine bb (H.set x (m9 70 d [some (.str node)])) λH1 e1=>?_
 refine bb (H.set x (m9 70 d [some (.str node),some (.int 0)])) λH2 e2=>?_
 refine bb (H2++[AO.list []]) λH3 e3=>?_
 refine kz ?_
 have h1:C1 H1 x 70 d [some (.str node)]:=.inl (by rw[e1];exact zT xl)
 have h2:C1 H2 x 70 d [some (.str node),some (.int 0)]:=.inl (by rw[e2];exact zT xl)
 have d1:H1[d]?=some (.dict []):=by rw[e1,zN xd];exact hd
 have d2:H2[d]?=some (.dict []):=by rw[e2,zN xd];exact hd
 have l2:H2.length=H.length:=by rw[e2];simp
 have h3:C1 H3 x 70 d [some (.str node),some (.int 0)]:=.inl (by rw[e3,zL (by lia)];rcases h2 with h|⟨h,_⟩;exact h;cases h)
 have d3:H3[d]?=some (.dict []):=by rw[e3,zL (by lia)];exact d2
 have e12:H1.set x (m9 70 d (fh [some (.str node)] 1 (.int 0)))=H2:=by rw[e1,e2,Zj];rfl
 have e01:H.set x (m9 70 d (fh [] 0 (.str node)))=H1:=by rw[e1];rfl
 have e34:H3.set x (m9 70 d (fh [some (.str node),some (.int 0)] 2 (.obj H2.length)))=(H++[AO.list []]).set x (m9 70 d [some (.str node),some (.int 0),some (.obj H.length)]):=by
  rw[e3,e2,Z9 _ _ (by simpa using xl),Z9 _ _ xl,Zj]
  simp[fh]
 refine dh (fl:=.next) (loc:=[("self",.obj x),("node",.str node)]) G (Cj _) (by w_on) (by w_on) (λρ m s xs ks X hx hk=>?_) ?_
 ·cases hx with
  |cons hx ht=>
   refine mC ht hk λ_ hy=>?_
   refine al [("self",_),("node",_)] (@bB _ _ _ _ _ X ?_) (.cons hx (.cons hy .nil))
   exact B6 _ _ _
 ·apply aK (loc:=[("self",.obj x),("node",.str node)])
  have p1:=fH (c:=c) (F:=BF) (k:=k) (σ:=⟨[("self",.obj x),("node",.str node)],H⟩) (v:=.str node) G (v6 _) (by decide) (.inr ⟨rfl,hx⟩) hd
  have p2:=fH (c:=c) (F:=BF) (k:=k) (σ:=⟨[("self",.obj x),("node",.str node)],H1⟩) (v:=.int 0) G (jh _) (by decide) h1 d1
  have p3:=fH (c:=c) (F:=BF) (k:=k) (σ:=⟨[("self",.obj x),("node",.str node)],H3⟩) (v:=.obj H2.length) G (wP _) (by decide) h3 d3
  rw[e01]at p1
  rw[e12]at p2
  rw[e34]at p3
  have el:∀{pos:Pos},Ev c BF k (.List [] pos) ⟨[("self",.obj x),("node",.str node)],H2⟩ (.obj H2.length) ⟨[("self",.obj x),("node",.str node)],H3⟩:= λ{pos}=>by
   rw[e3];exact dL (σ₁:=⟨_,H2⟩) (by decide) au
  k_dflt refine' ae (σ₁:=⟨[("self",.obj x),("node",.str node)],H1⟩) (aP (λ_=>rfl) (aa nk rfl rfl) (aa nk rfl rfl) p1) (ae (σ₁:=⟨[("self",.obj x),("node",.str node)],H2⟩) (aP (λ_=>rfl) aJ (aa nk rfl rfl) p2) (ae (aP (λ_=>rfl) el (aa nk rfl rfl) p3) ar))
theorem I5:makesIn (Kx P) 70=true:=by w_on
theorem Jn:findIn (Kx P) (.ref 70) "__init__"=some (some (.ref 66)):=by w_on
theorem I9:typeIn (Kx P) (.ref 66)=some (.type "function"):=by w_on
noncomputable def iM(n:Nat)(node:Str):List AO:=[.dict [],m9 70 n [some (.str node),some (.int 0),some (.obj (n+2))],.list []]
theorem DU(G:c.Go){node:Str}:Fn c (k+2) (.ref 70) [.str node] [] H (.obj (H.length+1)) (H++iM H.length node):=by
 have z:=Cv (k:=k) (H:=H++[AO.dict [],AO.inst 70 H.length]) (x:=H.length+1) (d:=H.length) (node:=node) G (by rw[zR (by lia)];simp) (by rw[zR (by lia)];simp)
 have e:((H++[AO.dict [],AO.inst 70 H.length])++[AO.list []]).set (H.length+1) (m9 70 H.length [some (.str node),some (.int 0),some (.obj (H++[AO.dict [],AO.inst 70 H.length]).length)])=H++iM H.length node:=by
  rw[List.append_assoc,Zn _ _ (by lia)]
  simp[iM]
 rw[e]at z
 exact rL G.ok (by rw[G.hK];exact I5 _) (by rw[G.hK];exact Jn _) (by rw[G.hK];exact I9 _) z
theorem Ji(S:Setting):peek (Kx P) S (keeperOf (.ref 70))=some .machine:=by w_on
theorem HM(S:Setting):peek (Kx P) S (keeperOf (.ref 167))=some .machine:=by w_on
theorem B3(x y:Value)(S:Setting):peek (Kx P) S (bindArgs (dw P 110) ⟨[x,y],[]⟩)=some [(("self":Str),x),(("node":Str),y)]:=by w_on
theorem Bv(x:Value)(S:Setting):peek (Kx P) S (bindArgs (dw P 103) ⟨[x],[]⟩)=some [(("self":Str),x),(("graph":Str),.none)]:=by w_on
theorem vq:nsIn (Kx P) mainGlobals ("_NodeInfo":Str)=some (some (.ref 70)):=by w_on
theorem Jd:nsIn (Kx P) mainGlobals ("TopologicalSorter":Str)=some (some (.ref 167)):=by w_on
theorem IB:makesIn (Kx P) 167=true:=by w_on
theorem Ii:findIn (Kx P) (.ref 167) "__init__"=some (some (.ref 103)):=by w_on
theorem Ho:typeIn (Kx P) (.ref 103)=some (.type "function"):=by w_on
noncomputable def yC:Fs:=⟨wW,[]⟩
theorem jG:yC.scope.kind=.function:=by w_on
noncomputable def x8:Fs:=⟨EY,[]⟩
theorem dY:x8.scope.kind=.function:=by w_on
noncomputable def xh(N:Nat)(rd:AV)(po fi:Int):List (Str×AV):=[("_node2info",.obj N),("_ready_nodes",rd),("_npassedout",.int po),("_nfinished",.int fi)]
structure SO(H:List AO)(S D N:Nat)(rd:AV)(po fi:Int):Prop where
 s:H[S]?=some (.inst 167 D)
 d:H[D]?=some (.dict (xh N rd po fi))
structure GH(c:Cx)(H:List AO)(N:Nat)(ord:List Nat)(np:Nat→Int)(su:Nat→List Nat)(pi pd ps:Nat→Nat):Prop where
 n:oO c H N (ord.map λi=>(nm i,.obj (pi i)))
 i:∀i,i∈ord→H[pi i]?=some (m9 70 (pd i) [some (.str (nm i)),some (.int (np i)),some (.obj (ps i))])
 d:∀i,i∈ord→H[pd i]?=some (.dict [])
 s:∀i,i∈ord→H[ps i]?=some (.list ((su i).map λj=>.str (nm j)))
 ji:∀i,i∈ord→∀j,j∈ord→pi i=pi j→i=j
 js:∀i,i∈ord→∀j,j∈ord→ps i=ps j→i=j
 ni:∀i,i∈ord→pi i≠N
 b:∀i,i∈ord→i<5
 nd:ord.Nodup
noncomputable def iT{α:Type}(f:Nat→α)(i:Nat)(v:α):Nat→α:= λj=>if j=i then v else f j
theorem bz{f:Nat→α}{v:α}:iT f i v i=v:=if_pos rfl
theorem ck{f:Nat→α}{v:α}(h:j≠i):iT f i v j=f j:=if_neg h
structure GX(N:Nat)(H:List AO)(ord:List Nat)(pi ps:Nat→Nat)(H':List AO)(ord':List Nat)(pi' ps':Nat→Nat):Prop where
 le:H.length≤H'.length
 old:∀i,i∈ord→i∈ord'∧pi' i=pi i∧ps' i=ps i
 new:∀i,i∈ord'→i∉ord→H.length≤pi' i∧H.length≤ps' i
 kp:∀(y:Nat)(o:AO),H[y]?=some o→y≠N→(∀i,i∈ord→y≠pi i∧y≠ps i)→H'[y]?=some o
theorem GX.refl:GX N H ord pi ps H ord pi ps:=⟨ZA _,λi h=>⟨h,rfl,rfl⟩,λi h1 h2=>absurd h1 h2,λy o h _ _=>h⟩
theorem GX.trans{N:Nat}{H H1 H2:List AO}{ord ord1 ord2:List Nat}{pi ps pi1 ps1 pi2 ps2:Nat→Nat}(a:GX N H ord pi ps H1 ord1 pi1 ps1)(b:GX N H1 ord1 pi1 ps1 H2 ord2 pi2 ps2):GX N H ord pi ps H2 ord2 pi2 ps2:=by
 refine⟨Z2 a.le b.le,λi h=>?_,λi h1 h2=>?_,λy o h h1 h2=>?_⟩
 ·refine fv (a.old i h) λa1 a2 a3=>?_
  refine fv (b.old i a1) λb1 b2 b3=>?_
  exact⟨b1,b2.trans a2,b3.trans a3⟩
 ·by_cases h:i∈ord1
  ·refine fv (b.old i h) λb1 b2 b3=>?_
   rw[b2,b3];exact a.new i h h2
  ·have:=b.new i h1 h
   have:=a.le
   lia
 ·have yl:=aq h
  refine b.kp y o (a.kp y o h h1 h2) h1 λi hi=>?_
  by_cases hh:i∈ord
  ·refine fv (a.old i hh) λ_ a2 a3=>?_
   rw[a2,a3];exact h2 i hh
  ·have:=a.new i hi hh
   lia
theorem GX.sso{ord':List Nat}{pi' ps':Nat→Nat}(a:GX N H ord pi ps H' ord' pi' ps')(g:GH c H N ord np su pi pd ps)(x:SO H S D N rd po fi):SO H' S D N rd po fi:=by
 refine⟨a.kp _ _ x.s ?_ λi hi=>⟨?_,?_⟩,a.kp _ _ x.d ?_ λi hi=>⟨?_,?_⟩⟩
 ·rintro rfl;have:=x.s;refine cc (g.n.is) λP e=>?_;rw[e]at this;cases this
 ·rintro rfl;have:=x.s;rw[g.i i hi]at this;cases this
 ·rintro rfl;have:=x.s;rw[g.s i hi]at this;cases this
 ·rintro rfl;have:=x.d;refine cc (g.n.is) λP e=>?_;rw[e]at this;cases this
 ·rintro rfl;have:=x.d;rw[g.i i hi]at this;cases this
 ·rintro rfl;have:=x.d;rw[g.s i hi]at this;cases this
theorem oR(h1:Ev c F k value σ v σ₁)(h2:As c F k target v σ₁ σ₂):Ev c F k (.NamedExpr target value pos) σ v σ₂:= λA ρ s env Q E K r h=>
 wpAny_NamedExpr (h1 A ρ s env _ E K r λρ1 s1 x r1 st1 vx=>h2 A ρ1 s1 env _ E x K r1 vx λρ2 s2 r2 st2=>h ρ2 s2 x r2 (st1.trans st2) (st2.vr vx))
theorem uK{t1 t2:Expr}(hs:∀env,swappedStores [t1,t2] e env=pure none)(he:∀env,(assignEach [t1,t2] env).map (·.2)=[assign t1 env,assign t2 env])(h1:Ev c F k e σ v σ₁)(h2:As c F k t1 v σ₁ σ₂)(h3:As c F k t2 v σ₂ σ₃):Ex c F k (.Assign [t1,t2] e pos) σ .next σ₃:= λA ρ s env Q E K r h=>
 wpAny_Assign_two (h1 A ρ s env _ E K r λρ1 s1 z r1 st1 vz=>h2 A ρ1 s1 env _ E z K r1 vz λρ2 s2 r2 st2=>h3 A ρ2 s2 env _ E z K r2 (st2.vr vz) λρ3 s3 r3 st3=>h ρ3 s3 _ r3 ((st1.trans st2).trans st3) rfl) (he env) (hs env)
theorem xM(G:c.Go):Fn c (k+2) (.ref 167) [] [] H (.obj (H.length+1)) (H++[AO.dict (xh (H.length+2) .none 0 0),AO.inst 167 H.length,dq c (H.length+2) []]):=by
 refine bp λGz kz=>?_
 refine bb (H++[AO.dict [],AO.inst 167 H.length]) λH0 e0=>?_
 refine bb (H.length) λn en=>?_
 refine kz ?_
 have stp:∀(es:List (Str×AV))(z:AO),(H++[AO.dict es,AO.inst 167 n,dq c (n+2) []])[n]?=some (.dict es)∧(H++[AO.dict es,AO.inst 167 n,dq c (n+2) []])[n+1]?=some (.inst 167 n)∧(H++[AO.dict es,AO.inst 167 n,dq c (n+2) []]).set n z=H++[z,AO.inst 167 n,dq c (n+2) []]:= λes z=>by
  refine⟨?_,?_,?_⟩
  ·rw[zR (by lia),en,ZY];rfl
  ·rw[zR (by lia),en];simp
  ·rw[Zn _ _ (by lia),en,ZY];rfl
 have z:Fn c (k+1) (.ref 103) [.obj (n+1)] [] (H++[AO.dict [],AO.inst 167 n]) .none (H++[AO.dict (xh (n+2) .none 0 0),AO.inst 167 n,dq c (n+2) []]):=by
  refine dh (fl:=.next) (loc:=[("self",.obj (n+1)),("graph",.none)]) G (zY _) (by w_on) (by w_on) (λρ m s xs ks X hx hk=>?_) ?_
  ·refine mC hx hk λ_ hx=>?_
   refine al [("self",_),("graph",.none)] (@bB _ _ _ _ _ X ?_) (.cons hx (.cons rfl .nil))
   exact Bv _ _
  ·apply aK (loc:=[("self",.obj (n+1)),("graph",.none)])
   have s0:Ev c yC k (.Name "self" ⟨0,0,0,0⟩) ⟨[("self",.obj (n+1)),("graph",.none)],H⟩ (.obj (n+1)) ⟨[("self",.obj (n+1)),("graph",.none)],H⟩:=aa jG rfl rfl
   have d0:∀{pos:Pos},Ev c yC k (.Dict [] [] pos) ⟨[("self",.obj (n+1)),("graph",.none)],H++[AO.dict [],AO.inst 167 n]⟩ (.obj (n+2)) ⟨[("self",.obj (n+1)),("graph",.none)],H++[AO.dict [],AO.inst 167 n,dq c (n+2) []]⟩:= λ{pos}=>by
    have z:=sC (c:=c) (F:=yC) (k:=k) (pos:=pos) (σ:=⟨[("self",.obj (n+1)),("graph",.none)],H++[AO.dict [],AO.inst 167 n]⟩) G.ok
    have l:(H++[AO.dict [],AO.inst 167 n]).length=n+2:=by simp[en]
    rw[show(St.H ⟨[("self",.obj (n+1)),("graph",.none)],H++[AO.dict [],AO.inst 167 n]⟩).length=n+2 from l]at z
    simpa using z
   have st:∀(es:List (Str×AV))(name:Str)(v:AV),es.length<1000→findIn (Kx c.w.params) (.ref 167) name=some none→wx c yC k (λx y=>setAttr x name y) (.obj (n+1)) v ⟨[("self",.obj (n+1)),("graph",.none)],H++[AO.dict es,AO.inst 167 n,dq c (n+2) []]⟩ (λ_ _=>True) ⟨[("self",.obj (n+1)),("graph",.none)],H++[AO.dict (aR name v es),AO.inst 167 n,dq c (n+2) []]⟩:= λes name v hz ha=>by
    refine fv (stp es (.dict (aR name v es))) λg1 g2 g3=>?_
    have z:=cJ (c:=c) (F:=yC) (k:=k) (σ:=⟨[("self",.obj (n+1)),("graph",.none)],H++[AO.dict es,AO.inst 167 n,dq c (n+2) []]⟩) (v:=v) G (eM _) g2 g1 hz ha
    rw[show(St.H ⟨[("self",.obj (n+1)),("graph",.none)],H++[AO.dict es,AO.inst 167 n,dq c (n+2) []]⟩).set n (.dict (aR name v es))=_ from g3]at z
    exact z
   k_dflt refine' ae (aP (λ_=>rfl) d0 (aa jG rfl rfl) (st _ _ _ (of_decide_eq_true (by w_on)) (i9 _))) (ae (aP (λ_=>rfl) bv (aa jG rfl rfl) (st _ _ _ (of_decide_eq_true (by w_on)) (iP _))) (ae (aP (λ_=>rfl) aJ (aa jG rfl rfl) (st _ _ _ (of_decide_eq_true (by w_on)) (tg _))) (ae (aP (λ_=>rfl) aJ (aa jG rfl rfl) (st _ _ _ (of_decide_eq_true (by w_on)) (sX _))) (ae (aL (t:=false) (av rfl (aa jG rfl rfl) bv (bU rfl)) ar) ar))))
 rw[en]at z
 exact rL G.ok (by rw[G.hK];exact IB _) (by rw[G.hK];exact Ii _) (by rw[G.hK];exact Ho _) z
theorem jo:∀(n:Nat)(l:List Nat),l.Nodup→(∀x,x∈l→x<n)→l.length≤n
 |0,l,_,h=>by
  cases l with
  |nil=>exact ZA _
  |cons x l=>exact absurd (h x (.head _)) (Nat.not_lt_zero _)
 |n+1,l,hd,h=>by
  have z:=jo n (l.erase n) (hd.erase n) λx hx=>by
   rw[hd.mem_erase_iff]at hx
   have:=h x hx.2
   have:=hx.1
   lia
  rw[List.length_erase]at z
  split at z<;>lia
theorem uZ{f:Nat→AV}:∀{ord:List Nat}{i:Nat},(∀j,j∈ord→j<5)→i<5→(i∈ord→(ord.map λj=>(nm j,f j)).lookup (nm i)=some (f i))∧(i∉ord→(ord.map λj=>(nm j,f j)).lookup (nm i)=none)
 | [],i,_,_=>⟨λh=>by simp at h,λ_=>rfl⟩
 |j::ord,i,hb,hi=>by
  refine aV (uZ (f:=f) (ord:=ord) (i:=i) (λj hj=>hb j (.tail _ hj)) hi) λh1 h2=>?_
  rw[ZZ,ZI]
  by_cases q:i=j
  ·subst q
   simp
  ·have e:(nm i==nm j)=false:=by
    have:nm i≠nm j:= λz=>q (kH i hi j (hb j (.head _)) z)
    simpa using this
   rw[e]
   refine⟨λh=>h1 ?_,λh=>h2 λz=>h (.tail _ z)⟩
   rcases ZH.mp h with h|h
   ·exact absurd h q
   ·exact h
theorem BM{f:Nat→AV}(hb:∀j,j∈ord→j<5)(hi:i<5)(h:i∉ord):nm i∉(ord.map λj=>(nm j,f j)).map (·.1):= λz=>by
 rw[Zr]at z
 refine ah (ZR.mp z) λj hj e=>?_
 exact h (by rw[←kH j (hb j hj) i hi e];exact hj)
theorem GH.look(g:GH c H N ord np su pi pd ps)(hi:i∈ord):(ord.map λj=>(nm j,AV.obj (pi j))).lookup (nm i)=some (.obj (pi i)):=(uZ g.b (g.b i hi)).1 hi
theorem GH.lt(g:GH c H N ord np su pi pd ps)(hi:i∈ord):pi i<H.length∧pd i<H.length∧ps i<H.length:=⟨(aq (g.i i hi)),(aq (g.d i hi)),(aq (g.s i hi))⟩
theorem GH.len(g:GH c H N ord np su pi pd ps):ord.length≤5:=by
 exact jo 5 ord g.nd g.b
theorem cb(G:c.Go)(hk:F.scope.kind=.function)(hx:F.scope.names.lookup ("self":Str)=some .local)(hs:l.lookup ("self":Str)=some (.obj S))(x:SO H S D N rd po fi)(hl:(xh N rd po fi).lookup name=some v)(hv:v.handed=true)(ha:findIn (Kx c.w.params) (.ref 167) name=some none):
  Ev c F k (.Attribute (.Name "self" p1) name p2) ⟨l,H⟩ v ⟨l,H⟩:=
 bC (λ_=>by k_dflt rfl) (aa hk hx hs) (bY G (eM _) x.s x.d hl hv ha)
theorem qn(slot:Slot "dict" name id)(hty:typeOf (.builtin id)=pure (.type "method_descriptor"))(hj:oO c σ.H N es):GM c F (.obj N) σ name id:= λ{A ρ s env y pl Q E} r hx q=>by
 refine bp λGz kz=>?_
 refine aV hx ?_;clear hx;intro _ z0;subst z0
 refine cv (r.dct hj) λvs g1 g2 g3 _=>?_
 refine c7 g2 λo es ep ho hc r=>?_
 refine kz ?_
 exact getMethod_builtin (T:="dict") (al o ho hc.1) PySem.F.plainAttrs_dict slot hty (λa e=>by cases e;exact al o ho hc.2.1) q
theorem uU(G:c.Go)(x:SO H S D N rd po fi)(g:GH c H N ord np su pi pd ps)(hi:i∈ord):Fn c (k+1) (.ref 110) [.obj S,.str (nm i)] [] H (.obj (pi i)) H:=by
 have lk:=g.look hi
 refine dh (fl:=.ret (.obj (pi i))) (loc:=[("self",.obj S),("node",.str (nm i))]) G (qT _) (by w_on) (by w_on) (λρ m s xs ks X hx hk=>?_) ?_
 ·cases hx with
  |cons hx ht=>
   refine mC ht hk λ_ hy=>?_
   refine al [("self",_),("node",_)] (@bB _ _ _ _ _ X ?_) (.cons hx (.cons hy .nil))
   exact B3 _ _ _
 ·let l1:List (Str×AV):=aR ("result":Str) (.obj (pi i)) [("self",.obj S),("node",.str (nm i))]
  apply aK (loc:=l1)
  have t1:∀{p1 p2 p3 p4 p5 p6 p7:Pos},(∀env,eval (.Call (.Attribute (.Attribute (.Name "self" p1) "_node2info" p2) "get" p3) [.Name "node" p4] [] p5) env=(do
   let ov←eval (.Attribute (.Name "self" p1) "_node2info" p2) env
   standAt p3.atName
   let(f,first)←holding [ov] (getMethod ov "get" (gD (.Attribute (.Name "self" p1) "_node2info" p2) env))
   callWith p5 f first (backTo p5 (starEach [.Name "node" p4] env)) []))→Ev c x8 k (.NamedExpr (.Name "result" p6) (.Call (.Attribute (.Attribute (.Name "self" p1) "_node2info" p2) "get" p3) [.Name "node" p4] [] p5) p7) ⟨[("self",.obj S),("node",.str (nm i))],H⟩ (.obj (pi i)) ⟨l1,H⟩:= λ{p1 p2 p3 p4 p5 p6 p7} he=>
   oR (σ₁:=⟨[("self",.obj S),("node",.str (nm i))],H⟩) (d9 he (cb G dY rfl rfl x rfl rfl (i9 _)) (qn PySem.F.slot_dict_get PySem.F.type_dict_get g.n) (af λ_=>rfl) (am (λ_=>rfl) (aa dY rfl rfl) au) (rK g.n (by rw[lk];rfl))) (bg dY rfl)
  k_dflt refine' ae (aL (t:=false) (av rfl (t1 (λ_=>rfl)) bv (bP rfl)) ar) (bx (aX (aa dY rfl rfl)))
noncomputable def oB(c:Cx)(H:List AO)(N:Nat)(ord:List Nat)(pi:Nat→Nat)(i:Nat):List AO:=(H++iM H.length (nm i)).set N (dq c N ((ord++[i]).map λj=>(nm j,.obj (iT pi i (H.length+1) j))))
theorem vA(G:c.Go)(x:SO H S D N rd po fi)(g:GH c H N ord np su pi pd ps)(hi:i∉ord)(h5:i<5):Fn c (k+3) (.ref 110) [.obj S,.str (nm i)] [] H (.obj (H.length+1)) (oB c H N ord pi i):=by
 have lk:=(uZ (f:= λj=>AV.obj (pi j)) g.b h5).2 hi
 have nl:=g.n.lt
 have kn:=BM (f:= λj=>AV.obj (pi j)) g.b h5 hi
 refine dh (fl:=.ret (.obj (H.length+1))) (loc:=[("self",.obj S),("node",.str (nm i))]) G (qT _) (by w_on) (by w_on) (λρ m s xs ks X hx hk=>?_) ?_
 ·cases hx with
  |cons hx ht=>
   refine mC ht hk λ_ hy=>?_
   refine al [("self",_),("node",_)] (@bB _ _ _ _ _ X ?_) (.cons hx (.cons hy .nil))
   exact B3 _ _ _
 ·let l1:List (Str×AV):=aR ("result":Str) .none [("self",.obj S),("node",.str (nm i))]
  let l2:List (Str×AV):=aR ("result":Str) (.obj (H.length+1)) l1
  apply aK (loc:=l2)
  have t1:∀{p1 p2 p3 p4 p5 p6 p7:Pos},(∀env,eval (.Call (.Attribute (.Attribute (.Name "self" p1) "_node2info" p2) "get" p3) [.Name "node" p4] [] p5) env=(do
   let ov←eval (.Attribute (.Name "self" p1) "_node2info" p2) env
   standAt p3.atName
   let(f,first)←holding [ov] (getMethod ov "get" (gD (.Attribute (.Name "self" p1) "_node2info" p2) env))
   callWith p5 f first (backTo p5 (starEach [.Name "node" p4] env)) []))→Ev c x8 (k+2) (.NamedExpr (.Name "result" p6) (.Call (.Attribute (.Attribute (.Name "self" p1) "_node2info" p2) "get" p3) [.Name "node" p4] [] p5) p7) ⟨[("self",.obj S),("node",.str (nm i))],H⟩ .none ⟨l1,H⟩:= λ{p1 p2 p3 p4 p5 p6 p7} he=>
   oR (σ₁:=⟨[("self",.obj S),("node",.str (nm i))],H⟩) (d9 he (cb G dY rfl rfl x rfl rfl (i9 _)) (qn PySem.F.slot_dict_get PySem.F.type_dict_get g.n) (af λ_=>rfl) (am (λ_=>rfl) (aa dY rfl rfl) au) (rK g.n (by rw[lk];rfl))) (bg dY rfl)
  have x1:SO (H++iM H.length (nm i)) S D N rd po fi:=⟨bW.app _ _ x.s,bW.app _ _ x.d⟩
  have g1:oO c (H++iM H.length (nm i)) N (ord.map λj=>(nm j,.obj (pi j))):=g.n.keep λo h=>bW.app _ _ h
  have eP:aR (nm i) (AV.obj (H.length+1)) (ord.map λj=>(nm j,AV.obj (pi j)))=(ord++[i]).map λj=>(nm j,.obj (iT pi i (H.length+1) j)):=by
   rw[nh _ _ _ kn,Zu]
   congr 1
   ·exact ZO λj hj=>by rw[ck (λq:j=i=>hi (q▸hj))]
   ·show [(nm i,AV.obj (H.length+1))]=[(nm i,AV.obj (iT pi i (H.length+1) i))]
    rw[bz]
  have t2:∀{p1 p2 p3 p4:Pos},As c x8 (k+2) (.Subscript (.Attribute (.Name "self" p1) "_node2info" p2) (.Name "node" p3) p4) (.obj (H.length+1)) ⟨l1,H++iM H.length (nm i)⟩ ⟨l1,oB c H N ord pi i⟩:= λ{p1 p2 p3 p4}=>by
   have z:=wC (c:=c) (F:=x8) (k:=k+2) (pos':=p4) (a:=.obj (H.length+1)) (es:=ord.map λj=>(nm j,AV.obj (pi j))) (by have:=g.len;simp;lia) (cb (p1:=p1) (p2:=p2) G dY rfl (l:=l1) rfl x1 rfl rfl (i9 _)) (aa (x:="node") (pos:=p3) dY rfl (v:=.str (nm i)) rfl) g1
   rw[eP]at z
   exact z
  have t3:∀{p1 p2 p3:Pos},Ev c x8 (k+2) (.Call (.Name "_NodeInfo" p1) [.Name "node" p2] [] p3) ⟨l1,H⟩ (.obj (H.length+1)) ⟨l1,H++iM H.length (nm i)⟩:= λ{p1 p2 p3}=>
   fS G.ok (λ_=>rfl) (dB G dY rfl (vq _)) ⟨_,by rw[G.hK];exact Ji _⟩ (gL (af λ_=>rfl) (am (λ_=>rfl) (aa dY rfl rfl) au)) (DU G)
  k_dflt refine' ae (aL (t:=true) (av rfl (t1 (λ_=>rfl)) bv (bP rfl)) (ae (uK (λ_=>rfl) (λ_=>rfl) t3 t2 (bg dY rfl)) ar)) (bx (aX (aa dY rfl rfl)))
theorem GH.new(g:GH c H N ord np su pi pd ps)(hi:i∉ord)(h5:i<5):GH c (oB c H N ord pi i) N (ord++[i]) (iT np i 0) (iT su i []) (iT pi i (H.length+1)) (iT pd i H.length) (iT ps i (H.length+2))∧
  GX N H ord pi ps (oB c H N ord pi i) (ord++[i]) (iT pi i (H.length+1)) (iT ps i (H.length+2)):=by
 have nl:=g.n.lt
 have ne:∀j,j∈ord→j≠i:= λj hj q=>hi (q▸hj)
 have old:∀(y:Nat)(o:AO),y≠N→H[y]?=some o→(oB c H N ord pi i)[y]?=some o:= λy o hy h=>by
  unfold oB
  rw[zN (Ne.symm hy)];exact bW.app _ _ h
 have at_:∀j o,(iM H.length (nm i))[j]?=some o→(oB c H N ord pi i)[H.length+j]?=some o:= λj o h=>by
  unfold oB
  rw[zN (by lia),zR (by lia),Zt];exact h
 have dN:∀j,j∈ord→pd j≠N:= λj hj=>by rintro q;have:=g.d j hj;refine cc (g.n.is) λP e=>?_;rw[q,e]at this;cases this
 have sN:∀j,j∈ord→ps j≠N:= λj hj=>by rintro q;have:=g.s j hj;refine cc (g.n.is) λP e=>?_;rw[q,e]at this;cases this
 refine⟨⟨?_,λj hj=>?_,λj hj=>?_,λj hj=>?_,λj hj j' hj' e=>?_,λj hj j' hj' e=>?_,λj hj=>?_,λj hj=>?_,?_⟩,⟨?_,λj hj=>?_,λj h1 h2=>?_,λy o h h1 _=>old y o h1 h⟩⟩
 ·unfold oB;exact .inl (zT (by simp;lia))
 ·rcases ZT.mp hj with hj|hj
  ·rw[ck (ne j hj),ck (ne j hj),ck (ne j hj),ck (ne j hj)];exact old _ _ (g.ni j hj) (g.i j hj)
  ·simp at hj;subst hj
   rw[bz,bz,bz,bz];exact at_ 1 _ rfl
 ·rcases ZT.mp hj with hj|hj
  ·rw[ck (ne j hj)];exact old _ _ (dN j hj) (g.d j hj)
  ·simp at hj;subst hj
   rw[bz];exact at_ 0 _ rfl
 ·rcases ZT.mp hj with hj|hj
  ·rw[ck (ne j hj),ck (ne j hj)];exact old _ _ (sN j hj) (g.s j hj)
  ·simp at hj;subst hj
   rw[bz,bz];exact at_ 2 _ rfl
 ·rcases ZT.mp hj with ha|ha<;>rcases ZT.mp hj' with hb|hb
  ·rw[ck (ne j ha),ck (ne j' hb)]at e;exact g.ji j ha j' hb e
  ·have q:j'=i:=by simpa using hb
   rw[q,ck (ne j ha),bz]at e
   have:=(g.lt ha).1;lia
  ·have q:j=i:=by simpa using ha
   rw[q,ck (ne j' hb),bz]at e
   have:=(g.lt hb).1;lia
  ·simp at ha hb;rw[ha,hb]
 ·rcases ZT.mp hj with ha|ha<;>rcases ZT.mp hj' with hb|hb
  ·rw[ck (ne j ha),ck (ne j' hb)]at e;exact g.js j ha j' hb e
  ·have q:j'=i:=by simpa using hb
   rw[q,ck (ne j ha),bz]at e
   have:=(g.lt ha).2.2;lia
  ·have q:j=i:=by simpa using ha
   rw[q,ck (ne j' hb),bz]at e
   have:=(g.lt hb).2.2;lia
  ·simp at ha hb;rw[ha,hb]
 ·rcases ZT.mp hj with hj|hj
  ·rw[ck (ne j hj)];exact g.ni j hj
  ·simp at hj;subst hj
   rw[bz];lia
 ·rcases ZT.mp hj with hj|hj
  ·exact g.b j hj
  ·simp at hj;lia
 ·rw[List.nodup_append]
  exact⟨g.nd,by simp,λa ha b hb e=>by simp at hb;subst hb;exact ne a ha e⟩
 ·unfold oB;simp
 ·exact⟨ZT.mpr (.inl hj),ck (ne j hj),ck (ne j hj)⟩
 ·rcases ZT.mp h1 with hj|hj
  ·exact absurd hj h2
  ·simp at hj;subst hj
   rw[bz,bz];lia
noncomputable def fM(j:Nat)(vs:List AV):qm:=⟨λH=>H[j]?=some (.tuple vs),λρ i o=>o.cls=.type "tuple_iterator"∧o.data=.fields #[.ref (ρ j),.int i 0],vs⟩
theorem fW:(fM j vs).Good c where
 nd:= λρ i o h es ep q=>by rw[h.2]at q;cases q
 ag:= λρ ρ' H i o hk h e=>⟨h.1,by rw[e j (aq hk)];exact h.2⟩
 next:= λ{A F ρ σ s env it i o a Q E} r hk hit ho ha hap q=>by
  refine ah (r.tuple hk) λits h1 h3=>?_
  refine ah (fp h3 ha) λx hx vx=>?_
  refine wpAny_pyNext_tuple_item (items:=⟨its⟩) (bO o hit ho.1 ho.2) h1 (by simpa using hx) λh' hi hs=>?_
  refine br hi λo' g1 g2 g3=>?_
  exact q h' s.toks x o' vx g1 ⟨g2,g3⟩ λb ob hb hne=>(hs.2 b hne).trans hb
 stop:= λ{A F ρ σ s env it i o Q E} hh r hk hit ho ha hap q=>by
  refine ah (r.tuple hk) λits h1 h3=>?_
  refine wpAny_pyNext_tuple_end (items:=⟨its⟩) hh (bO o hit ho.1 ho.2) h1 (by simpa using oh h3 ha) λh' hx=>?_
  exact q h' s.toks λb ob hb hne=>hx b ob hne hb
 self:= λ{A s it ρ o i Q E} hit ho q=>wpAny_pyIter_tupleiter (bO o hit ho.1 ho.2) q
structure oP where
 ord:List Nat
 np:Nat→Int
 su:Nat→List Nat
noncomputable def fy(g:oP)(i:Nat):oP:=if i∈g.ord then g else⟨g.ord++[i],iT g.np i 0,iT g.su i []⟩
theorem kZ(hj:σ.H[j]?=some (.tuple vs)):Mk c (fM j vs) (.obj j) σ:= λ{A F ρ s env x Q E} r hx q=>by
 refine iR hx λ_=>?_
 refine ah (r.tuple hj) λits h1 h3=>?_
 exact wpAny_pyIter_tuple (items:=⟨its⟩) h1 (q _ s.toks ⟨rfl,rfl⟩ rfl)
theorem vY(hz:vs.length<1000)(hj:σ.H[j]?=some (.tuple vs)):cK c F k (λxs=>call (.builtin "len") xs) [.obj j] σ (.int vs.length) σ:= λA ρ s env Q E xs K r hx q=>by
 refine lW hx λ_ h1=>?_
 refine iR h1 λ_=>?_
 refine ah (r.tuple hj) λits h1 h3=>?_
 have ln:=aH h3
 exact PyProof.Rows.len_tuple h1 (by show((its.length:Nat):Int)<_;lia) (q ρ _ _ (r.toks _) (.toks _) ⟨_,by show Value.int (its.length:Nat) _=_;rw[ln]⟩)
theorem GH.setnp(g:GH c H N ord np su pi pd ps)(hi:i∈ord)(v:Int):GH c (H.set (pi i) (m9 70 (pd i) [some (.str (nm i)),some (.int v),some (.obj (ps i))])) N ord (iT np i v) su pi pd ps∧GX N H ord pi ps (H.set (pi i) (m9 70 (pd i) [some (.str (nm i)),some (.int v),some (.obj (ps i))])) ord pi ps:=by
 have il:=(g.lt hi).1
 have kp:∀(y:Nat)(o:AO),y≠pi i→H[y]?=some o→(H.set (pi i) (m9 70 (pd i) [some (.str (nm i)),some (.int v),some (.obj (ps i))]))[y]?=some o:= λy o hy h=>ak h hy
 refine⟨⟨g.n.keep λo h=>kp _ _ (Ne.symm (g.ni i hi)) h,λj hj=>?_,λj hj=>kp _ _ (λq=>?_) (g.d j hj),λj hj=>kp _ _ (λq=>?_) (g.s j hj),g.ji,g.js,g.ni,g.b,g.nd⟩,⟨by simp,λj hj=>⟨hj,rfl,rfl⟩,λj h1 h2=>absurd h1 h2,λy o h h1 h2=>kp y o (h2 i hi).1 h⟩⟩
 ·by_cases q:j=i
  ·subst q;rw[bz];exact zT il
  ·rw[ck q];exact kp _ _ (λz=>q (g.ji j hj i hi z)) (g.i j hj)
 ·have:=g.d j hj;rw[q,g.i i hi]at this;cases this
 ·have:=g.s j hj;rw[q,g.i i hi]at this;cases this
theorem GH.setsu(g:GH c H N ord np su pi pd ps)(hi:i∈ord)(l:List Nat):GH c (H.set (ps i) (.list (l.map λj=>.str (nm j)))) N ord np (iT su i l) pi pd ps∧GX N H ord pi ps (H.set (ps i) (.list (l.map λj=>.str (nm j)))) ord pi ps:=by
 have il:=(g.lt hi).2.2
 have kp:∀(y:Nat)(o:AO),y≠ps i→H[y]?=some o→(H.set (ps i) (.list (l.map λj=>.str (nm j))))[y]?=some o:= λy o hy h=>ak h hy
 refine⟨⟨g.n.keep λo h=>kp _ _ (λq=>?_) h,λj hj=>kp _ _ (λq=>?_) (g.i j hj),λj hj=>kp _ _ (λq=>?_) (g.d j hj),λj hj=>?_,g.ji,g.js,g.ni,g.b,g.nd⟩,⟨by simp,λj hj=>⟨hj,rfl,rfl⟩,λj h1 h2=>absurd h1 h2,λy o h h1 h2=>kp y o (h2 i hi).2 h⟩⟩
 ·refine cc (g.n.is) λP e=>?_;rw[q,g.s i hi]at e;cases e
 ·have:=g.i j hj;rw[q,g.s i hi]at this;cases this
 ·have:=g.d j hj;rw[q,g.s i hi]at this;cases this
 ·by_cases q:j=i
  ·subst q;rw[bz];exact zT il
  ·rw[ck q];exact kp _ _ (λz=>q (g.js j hj i hi z)) (g.s j hj)
theorem GH.slt(g:GH c H N ord np su pi pd ps)(hi:i∈ord):C1 H (pi i) 70 (pd i) [some (.str (nm i)),some (.int (np i)),some (.obj (ps i))]:=.inl (g.i i hi)
theorem Af(G:c.Go){g:oP}(x:SO H S D N rd po fi)(gh:GH c H N g.ord g.np g.su pi pd ps)(h5:i<5):
  ∃H' pi' pd' ps',Fn c (k+3) (.ref 110) [.obj S,.str (nm i)] [] H (.obj (pi' i)) H'∧GH c H' N (fy g i).ord (fy g i).np (fy g i).su pi' pd' ps'∧GX N H g.ord pi ps H' (fy g i).ord pi' ps'∧i∈(fy g i).ord:=by
 by_cases hi:i∈g.ord
 ·have e:fy g i=g:=if_pos hi
  rw[e]
  exact fG H pi pd ps (uU (k:=k+2) G x gh hi) gh .refl hi
 ·have e:fy g i=⟨g.ord++[i],iT g.np i 0,iT g.su i []⟩:=if_neg hi
  rw[e]
  refine aV (gh.new hi h5) λh1 h2=>?_
  refine fG (oB c H N g.ord pi i) (iT pi i (H.length+1)) (iT pd i H.length) (iT ps i (H.length+2)) ?_ h1 h2 (by simp)
  have z:=vA (k:=k) G x gh hi h5
  rw[bz];exact z
noncomputable def AO.pl:AO→Bool
 | .is _=>false
 | .list _=>false
 |_=>true
noncomputable def lK:Fs:=⟨Ff,[]⟩
theorem dM:lK.scope.kind=.function:=by w_on
noncomputable def lL:=cV EV 3
noncomputable def fJ(i:Nat)(g:oP)(p:Nat):oP:=⟨(fy g p).ord,(fy g p).np,iT (fy g p).su p ((fy g p).su p++[i])⟩
noncomputable def be(ps:List Nat):List AV:=ps.map λj=>.str (nm j)
theorem Gn:∀env:Env,env.scope=lK.scope→interactive env=false:= λenv he=>by
 unfold interactive
 rw[he]
 rfl
section
variable{g:oP}
theorem GX.keep{ord':List Nat}{pi' ps':Nat→Nat}{y:Nat}{o:AO}(a:GX N H ord pi ps H' ord' pi' ps')(g:GH c H N ord np su pi pd ps)(h:H[y]?=some o)(ho:o.pl=true):H'[y]?=some o:=by
 refine a.kp y o h ?_ λi hi=>⟨?_,?_⟩
 ·rintro rfl;refine cc (g.n.is) λP e=>?_;rw[e]at h;cases h;cases ho
 ·rintro rfl;rw[g.i i hi]at h;cases h;cases ho
 ·rintro rfl;rw[g.s i hi]at h;cases h;cases ho
structure vM(l:List (Str×AV))(S T i:Nat):Prop where
 s:l.lookup ("self":Str)=some (.obj S)
 n:l.lookup ("node":Str)=some (.str (nm i))
 p:l.lookup ("predecessors":Str)=some (.obj T)
theorem vM.put{l:List (Str×AV)}{x:Str}{a:AV}(h:vM l S T i)(hx:x="nodeinfo"∨x="pred"∨x="pred_info"):vM (aR x a l) S T i:=by
 rcases hx with rfl|rfl|rfl<;>exact⟨dR h.s,dR h.n,dR h.p⟩
theorem pI(g:oP)(i p q:Nat):((fJ i g p).su q).length≤(g.su q).length+1:=by
 unfold fJ fy
 by_cases h:p∈g.ord
 ·simp only[if_pos h]
  by_cases hq:q=p
  ·subst hq;rw[bz];simp
  ·rw[ck hq];lia
 ·simp only[if_neg h]
  by_cases hq:q=p
  ·subst hq;rw[bz,bz];simp
  ·rw[ck hq,ck hq];lia
theorem Bu(G:c.Go){p:Nat}(L:vM l S T i)(hp:l.lookup ("pred":Str)=some (.str (nm p)))(x:SO H S D N rd po fi)(gh:GH c H N g.ord g.np g.su pi pd ps)(h5:p<5)(hz:(g.su p).length<900):
  ∃l' H' pi' pd' ps',dI c lK (k+100) lL ⟨l,H⟩ .next ⟨l',H'⟩∧vM l' S T i∧GH c H' N (fJ i g p).ord (fJ i g p).np (fJ i g p).su pi' pd' ps'∧GX N H g.ord pi ps H' (fJ i g p).ord pi' ps':=by
 refine bp λGz kz=>?_
 refine hY (Af (k:=k+97) G x gh h5) λH1 pi1 pd1 ps1 f1 g1 gx1 m1=>?_
 refine aV (g1.setsu m1 ((fy g p).su p++[i])) λg2 gx2=>?_
 refine kz ?_
 have L1:=L.put (x:="pred_info") (a:=.obj (pi1 p)) (by simp)
 have hz1:((fy g p).su p).length<999:=by
  unfold fy
  split
  ·lia
  ·show(iT g.su p [] p).length<999
   rw[bz];decide
 refine⟨aR "pred_info" (.obj (pi1 p)) l,H1.set (ps1 p) (.list (((fy g p).su p++[i]).map λj=>.str (nm j))),pi1,pd1,ps1,?_,L1,g2,gx1.trans gx2⟩
 have o1:cK c lK (k+100) (λxs=>call (.builtin "list.append") xs) [.obj (ps1 p),.str (nm i)] ⟨aR "pred_info" (.obj (pi1 p)) l,H1⟩ .none ⟨aR "pred_info" (.obj (pi1 p)) l,H1.set (ps1 p) (.list (((fy g p).su p++[i]).map λj=>.str (nm j)))⟩:=by
  have z:=eQ (c:=c) (F:=lK) (k:=k+100) (σ:=⟨aR "pred_info" (.obj (pi1 p)) l,H1⟩) (v:=.str (nm i)) (g1.s p m1) (by simpa using hz1)
  rw[Zu]
  exact z
 have hpi:(aR ("pred_info":Str) (AV.obj (pi1 p)) l).lookup ("pred_info":Str)=some (.obj (pi1 p)):=aj _ _ _
 have s1:∀{p1 p2 p3 p4 p5 p6:Pos},(∀env,eval (.Call (.Attribute (.Name "self" p2) "_get_nodeinfo" p3) [.Name "pred" p4] [] p5) env=(do
   let ov←eval (.Name "self" p2) env
   standAt p3.atName
   let(f,first)←holding [ov] (getMethod ov "_get_nodeinfo" (gD (.Name "self" p2) env))
   callWith p5 f first (backTo p5 (starEach [.Name "pred" p4] env)) []))→(∀env,swapsWith (.Call (.Attribute (.Name "self" p2) "_get_nodeinfo" p3) [.Name "pred" p4] [] p5) (some (.Name "pred_info" p1)) p6.line env=pure false)→Ex c lK (k+100) (.Assign [.Name "pred_info" p1] (.Call (.Attribute (.Name "self" p2) "_get_nodeinfo" p3) [.Name "pred" p4] [] p5) p6) ⟨l,H⟩ .next ⟨aR "pred_info" (.obj (pi1 p)) l,H1⟩:= λ{p1 p2 p3 p4 p5 p6} he hs=>
  aw (σ₁:=⟨l,H1⟩) dM rfl hs (gp G (qT _) (eM _) he (aa dM rfl L.s) x.s x.d rfl (BZ _) (af λ_=>rfl) (am (λ_=>rfl) (aa dM rfl hp) au) f1)
 have a1:∀{p1 p2:Pos},fR (.Name "pred_info" p1) "successors" p2→Ev c lK (k+100) (.Attribute (.Name "pred_info" p1) "successors" p2) ⟨aR "pred_info" (.obj (pi1 p)) l,H1⟩ (.obj (ps1 p)) ⟨aR "pred_info" (.obj (pi1 p)) l,H1⟩:= λ{p1 p2} ha=>bC ha (aa dM rfl hpi) (dJ G (wP _) (g1.slt m1) (g1.d p m1) rfl rfl)
 k_dflt refine' ae (s1 (λ_=>rfl) (λ_=>rfl)) (ae (cu (F:=lK) (v:=.none) Gn (λ_=>rfl) (d9 (λ_=>rfl) (a1 (λ_=>by k_dflt rfl)) (dp slot_list_append type_list_append (g1.s p m1)) (af λ_=>rfl) (am (λ_=>rfl) (aa dM rfl L1.n) au) o1)) ar)
theorem z9(G:c.Go){preds:List Nat}:∀(rest:List Nat){l:List (Str×AV)}{H:List AO}{pi pd ps:Nat→Nat}{g:oP},vM l S T i→H[T]?=some (.tuple (be preds))→SO H S D N rd po fi→GH c H N g.ord g.np g.su pi pd ps→(∀p,p∈rest→p<5)→(∀p,(g.su p).length+rest.length<900)→
  ∃l' H' pi' pd' ps',(∀pp:Pos,fg c lK (k+100) (fM T (be preds)) (.Name "pred" pp) lL (be rest) ⟨l,H⟩ .next ⟨l',H'⟩)∧GH c H' N (rest.foldl (fJ i) g).ord (rest.foldl (fJ i) g).np (rest.foldl (fJ i) g).su pi' pd' ps'∧GX N H g.ord pi ps H' (rest.foldl (fJ i) g).ord pi' ps':=by
 intro rest
 induction rest with
 |nil=>
  intro l H pi pd ps g L hT x gh _ _
  exact ju l H pi pd ps (λ_=>.nil hT) gh .refl
 |cons p rest ih=>
  intro l H pi pd ps g L hT x gh h5 hz
  refine bp λGz kz=>?_
  obtain⟨l1,H1,pi1,pd1,ps1,e1,L1,gh1,gx1⟩:=Bu (k:=k) (g:=g) (l:=aR "pred" (.str (nm p)) l) G (L.put (by simp)) (aj _ _ _) x gh (h5 p (.head _)) (by have:=hz p;simp at this;lia)
  refine gZ (ih L1 (gx1.keep gh hT rfl) (gx1.sso gh x) gh1 (λq hq=>h5 q (.tail _ hq)) (λq=>by
   have:=hz q
   have:=pI g i p q
   simp at*;lia)) λl2 H2 pi2 pd2 ps2 e2 gh2 gx2=>?_
  refine kz ?_
  refine ju l2 H2 pi2 pd2 ps2 ?_ gh2 (gx1.trans gx2)
  generalize lL=bdy at e1 e2 ⊢
  exact λpp=>fg.next (a:=.str (nm p)) (rest:=be rest) (σ₁:=⟨aR "pred" (.str (nm p)) l,H⟩) hT (.inl rfl) (bg dM rfl) e1 (e2 pp)
end
theorem DW(x y:Value)(S:Setting)(D:Addr):kT (Kx P) S D (bindArgs (dw P 117) ⟨x::y::[],[]⟩)=some ([{cls:=.type "tuple",data:=.seq #[]}],[(("self":Str),x),(("node":Str),y),(("predecessors":Str),.ref D)]):=by w_on
theorem EF(x y a:Value)(S:Setting)(D:Addr):kT (Kx P) S D (bindArgs (dw P 117) ⟨x::y::[a],[]⟩)=some ([{cls:=.type "tuple",data:=.seq #[a]}],[(("self":Str),x),(("node":Str),y),(("predecessors":Str),.ref D)]):=by w_on
theorem C4(x y a b:Value)(S:Setting)(D:Addr):kT (Kx P) S D (bindArgs (dw P 117) ⟨x::y::[a,b],[]⟩)=some ([{cls:=.type "tuple",data:=.seq #[a,b]}],[(("self":Str),x),(("node":Str),y),(("predecessors":Str),.ref D)]):=by w_on
theorem CY(x y a b d:Value)(S:Setting)(D:Addr):kT (Kx P) S D (bindArgs (dw P 117) ⟨x::y::[a,b,d],[]⟩)=some ([{cls:=.type "tuple",data:=.seq #[a,b,d]}],[(("self":Str),x),(("node":Str),y),(("predecessors":Str),.ref D)]):=by w_on
theorem Dk(x y a b d e:Value)(S:Setting)(D:Addr):kT (Kx P) S D (bindArgs (dw P 117) ⟨x::y::[a,b,d,e],[]⟩)=some ([{cls:=.type "tuple",data:=.seq #[a,b,d,e]}],[(("self":Str),x),(("node":Str),y),(("predecessors":Str),.ref D)]):=by w_on
theorem GG(x y:Value)(S:Setting)(D:Addr):∀(ys:List Value),ys.length≤4→kT (Kx P) S D (bindArgs (dw P 117) ⟨x::y::ys,[]⟩)=some ([{cls:=.type "tuple",data:=.seq ys.toArray}],[(("self":Str),x),(("node":Str),y),(("predecessors":Str),.ref D)])
 | [],_=>DW P x y S D
 | [a],_=>EF P x y a S D
 | [a,b],_=>C4 P x y a b S D
 | [a,b,d],_=>CY P x y a b d S D
 | [a,b,d,e],_=>Dk P x y a b d e S D
 |_::_::_::_::_::_,h=>by simp at h
noncomputable def nL(g:oP)(i n:Nat):oP:=⟨(fy g i).ord,iT (fy g i).np i ((fy g i).np i+n),(fy g i).su⟩
noncomputable def fz(g:oP)(i:Nat)(ps:List Nat):oP:=ps.foldl (fJ i) (nL g i ps.length)
section
variable{g:oP}
theorem mJ{fs rest:List AV}{nm:Str}(O:c.Ok)
  (hp:∀(ρ:Nat→Addr)(n:Nat)(xs ys:List Value),cG ρ n fs xs→ys.length=rest.length→∃b0,mh ρ n loc b0∧∀S D,kT c.K S D (bindArgs fd ⟨xs++ys,[]⟩)=some ([{cls:=.type "tuple",data:=.seq ys.toArray}],b0++[(nm,.ref D)])):
  iX c fd (fs++rest) [] H (loc++[(nm,.obj H.length)]) (H++[.tuple rest]):= λρ s xs ks hr hx hk=>by
 refine cj (pK hx) λx1 x2 z0 v1 v2=>?_;subst z0
 cases hk
 refine ah (hp ρ H.length x1 x2 v1 (aH v2)) λb0 kb hpk=>?_
 have hst:aM c ρ H.length (λ_=>False) s _ _ _:=dc ({cls:=.type "tuple",data:=.seq x2.toArray}:Obj) s.toks
 refine cH (gg ρ H.length s.heap.objs.size) ({s with heap:=s.heap.push {cls:=.type "tuple",data:=.seq x2.toArray}}) (b0++[(nm,.ref s.heap.objs.size)]) (λM A' E Q e1 e2 hq=>?_) (hr.alloc (ao:=.tuple rest) (ob:={cls:=.type "tuple",data:=.seq x2.toArray}) rfl (cI x2 _ rfl (v2.step hst))) ⟨rfl,rfl⟩ (by simpa using hst) ?_
 ·exact g9 _ s _ (hr.X O) (hpk _ _) hq
 ·have l:(H++[AO.tuple rest]).length=H.length+1:=by simp
  rw[l]
  exact nQ (kb.mono hst.ag hst.le) ⟨Za _,by rw[aF]⟩
theorem GH.ext(gh:GH c H N ord np su pi pd ps)(e:bW H H'):GH c H' N ord np su pi pd ps:=
 ⟨gh.n.keep λo h=>e _ _ h,λi hi=>e _ _ (gh.i i hi),λi hi=>e _ _ (gh.d i hi),λi hi=>e _ _ (gh.s i hi),gh.ji,gh.js,gh.ni,gh.b,gh.nd⟩
theorem GX.ofExt(e:bW H H')(l:H.length≤H'.length):GX N H ord pi ps H' ord pi ps:=⟨l,λi hi=>⟨hi,rfl,rfl⟩,λi h1 h2=>absurd h1 h2,λy o h _ _=>e _ _ h⟩
theorem Gq(G:c.Go)(x:SO H S D N .none po fi)(gh:GH c H N g.ord g.np g.su pi pd ps)(h5:i<5){preds:List Nat}(hp:∀p,p∈preds→p<5)(hl:preds.length≤4)(hz:∀p,(g.su p).length<800):
  ∃H' pi' pd' ps',Fn c (k+101) (.ref 117) (.obj S::.str (nm i)::be preds) [] H .none H'∧GH c H' N (fz g i preds).ord (fz g i preds).np (fz g i preds).su pi' pd' ps'∧GX N H g.ord pi ps H' (fz g i preds).ord pi' ps':=by
 have eT:bW H (H++[AO.tuple (be preds)]):=bW.app
 have x0:SO (H++[AO.tuple (be preds)]) S D N .none po fi:=⟨eT _ _ x.s,eT _ _ x.d⟩
 have gh0:=gh.ext eT
 have gx0:GX N H g.ord pi ps (H++[AO.tuple (be preds)]) g.ord pi ps:=.ofExt eT (by simp)
 have hT0:(H++[AO.tuple (be preds)])[H.length]?=some (.tuple (be preds)):=aO
 refine bp λGz kz=>?_
 refine hY (Af (k:=k+97) G x0 gh0 h5) λH1 pi1 pd1 ps1 f1 g1 gx1 m1=>?_
 have x1:=gx1.sso gh0 x0
 have hT1:=gx1.keep gh0 hT0 rfl
 refine aV (g1.setnp m1 ((fy g i).np i+preds.length)) λg2 gx2=>?_
 have x2:=gx2.sso g1 x1
 have hT2:=gx2.keep g1 hT1 rfl
 let l0:List (Str×AV):=[("self",.obj S),("node",.str (nm i)),("predecessors",.obj H.length)]
 let l1:List (Str×AV):=aR ("nodeinfo":Str) (.obj (pi1 i)) l0
 have L1:vM l1 S H.length i:=⟨rfl,rfl,rfl⟩
 refine bb (H1.set (pi1 i) (m9 70 (pd1 i) [some (.str (nm i)),some (.int ((fy g i).np i+preds.length)),some (.obj (ps1 i))])) λH2 e2=>?_
 refine kz ?_
 rw[←e2]at g2 gx2 x2 hT2
 refine bp λGz kz=>?_
 refine gZ (z9 (k:=k) (i:=i) G preds (g:=nL g i preds.length) L1 hT2 x2 g2 hp (λp=>by
  have:((nL g i preds.length).su p).length≤(g.su p).length:=by
   show((fy g i).su p).length≤_
   unfold fy
   split
   ·exact ZA _
   ·show(iT g.su i [] p).length≤_
    by_cases q:p=i
    ·rw[q,bz];exact Zl _
    ·rw[ck q];exact ZA _
  have:=hz p
  lia)) λl' H' pi' pd' ps' lp g3 gx3=>?_
 refine kz ?_
 refine tD H' pi' pd' ps' ?_ g3 (((gx0.trans gx1).trans gx2).trans gx3)
 have bd:iX c (dw c.w.params 117) ([.obj S,.str (nm i)]++be preds) [] H ([(("self":Str),.obj S),(("node":Str),.str (nm i))]++[(("predecessors":Str),.obj H.length)]) (H++[.tuple (be preds)]):=mJ G.ok λρ n xs ys hx hy=>by
  cases hx with
  |cons hx ht=>
   refine lW ht λ_ hx2=>?_
   refine al _ (.cons hx (.cons hx2 .nil)) λS D=>?_
   rw[G.hK]
   exact GG _ _ _ _ _ _ (by show ys.length≤4;rw[hy];simpa[be]using hl)
 refine qY (fl:=.next) (k:=k+100) (loc:=[("self",.obj S),("node",.str (nm i)),("predecessors",.obj H.length)]) G (zF _) (by w_on) (by w_on) bd ?_
 apply aK (loc:=l')
 have s1:∀{p1 p2 p3 p4 p5 p6:Pos},(∀env,eval (.Call (.Attribute (.Name "self" p2) "_get_nodeinfo" p3) [.Name "node" p4] [] p5) env=(do
   let ov←eval (.Name "self" p2) env
   standAt p3.atName
   let(f,first)←holding [ov] (getMethod ov "_get_nodeinfo" (gD (.Name "self" p2) env))
   callWith p5 f first (backTo p5 (starEach [.Name "node" p4] env)) []))→(∀env,swapsWith (.Call (.Attribute (.Name "self" p2) "_get_nodeinfo" p3) [.Name "node" p4] [] p5) (some (.Name "nodeinfo" p1)) p6.line env=pure false)→Ex c lK (k+100) (.Assign [.Name "nodeinfo" p1] (.Call (.Attribute (.Name "self" p2) "_get_nodeinfo" p3) [.Name "node" p4] [] p5) p6) ⟨l0,H++[AO.tuple (be preds)]⟩ .next ⟨l1,H1⟩:= λ{p1 p2 p3 p4 p5 p6} he hs=>
  aw (σ₁:=⟨l0,H1⟩) dM rfl hs (gp G (qT _) (eM _) he (aa dM rfl rfl) x0.s x0.d rfl (BZ _) (af λ_=>rfl) (am (λ_=>rfl) (aa dM rfl rfl) au) f1)
 have s2:∀{p1 p2 p3 p4 p5 p6:Pos},Ex c lK (k+100) (.AugAssign (.Attribute (.Name "nodeinfo" p1) "npredecessors" p2) .Add (.Call (.Name "len" p3) [.Name "predecessors" p4] [] p5) p6) ⟨l1,H1⟩ .next ⟨l1,H2⟩:= λ{p1 p2 p3 p4 p5 p6}=>by
  have w:=fH (c:=c) (F:=lK) (k:=k+100) (σ:=⟨l1,H1⟩) (v:=.int ((fy g i).np i+preds.length)) G (jh _) (by decide) (g1.slt m1) (g1.d i m1)
  rw[e2]
  have ln:=vY (c:=c) (F:=lK) (k:=k+100) (σ:=⟨l1,H1⟩) (vs:=be preds) (by simp[be];lia) hT1
  rw[show(be preds).length=preds.length by simp[be]]at ln
  exact eN (aa dM rfl rfl) (dJ G (jh _) (g1.slt m1) (g1.d i m1) rfl rfl) (dA (λ_=>rfl) (λ_=>rfl) (di G dM rfl (sE _) oS) (af λ_=>rfl) (am (λ_=>rfl) (aa dM rfl rfl) au) ln) eX w
 have s3:∀{p1 p2 p3:Pos},Ex c lK (k+100) (.For (.Name "pred" p1) (.Name "predecessors" p2) lL [] p3) ⟨l1,H2⟩ .next ⟨l',H'⟩:= λ{p1 p2 p3}=>by
  generalize lL=bdy at lp ⊢
  exact gu (I:=fM H.length (be preds)) G.ok fW (λ_ _=>rfl) (λ_ _=>rfl) (by lia) (aa dM rfl rfl) (kZ hT2) (lp p1)
 k_dflt refine' ae (aL (t:=false) (av rfl (cb G dM rfl rfl x0 rfl rfl (iP _)) bv (bU rfl)) ar) (ae (s1 (λ_=>rfl) (λ_=>rfl)) (ae s2 (ae s3 ar)))
end
noncomputable def iD(c:Cx)(N ep:Nat)(es:List (Str×AV)):qm:=⟨λH=>H[N]?=some (iw c N ep es),λρ i o=>o.cls=.type "dict_valueiterator"∧o.data=.fields #[.ref (ρ N),.int i 0,.int es.length 0,.int ep 0],es.map (·.2)⟩
noncomputable def km(c:Cx)(N ep:Nat)(es:List (Str×AV)):qm:=⟨λH=>H[N]?=some (iw c N ep es),λρ i o=>o.cls=.type "dict_keyiterator"∧o.data=.fields #[.ref (ρ N),.int i 0,.int es.length 0,.int ep 0],es.map λp=>.str p.1⟩
theorem aW.dctAt(r:aW c A F ρ σ s env)(hN:σ.H[N]?=some (iw c N ep es)):∃vs,cG ρ σ.H.length (es.map (·.2)) vs∧s.heap.DictAt (PySem.strKind c.prog c.w) (ρ N) ((es.map (·.1)).zip vs) ep∧(ρ N==sysModules)=false∧((es.map (·.1)).zip vs).length=es.length:=by
 refine ah (r.hr.at_ N _ hN) λob h1 h2=>?_
 have h3:=h2 ρ _ (λ_ _=>rfl) (ZA _)
 refine ah (h3.dictOf h1) λvs h4 h5=>?_
 have ln:=aH h4
 exact gA vs h4 h5 h3.2.1 (by rw[List.length_zip];simp at ln ⊢;lia)
theorem wX{ks:List Str}{vs:List Value}{k:Str}{v:Value}(h1:ks[i]?=some k)(h2:vs[i]?=some v):(ks.zip vs)[i]?=some (k,v):=by
 rw[List.getElem?_zip_eq_some]
 exact⟨h1,h2⟩
theorem gQ:(iD c N ep es).Good c where
 nd:= λρ i o h es ep q=>by rw[h.2]at q;cases q
 ag:= λρ ρ' H i o hk h e=>⟨h.1,by rw[e N (aq hk)];exact h.2⟩
 next:= λ{A F ρ σ s env it i o a Q E} r hk hit ho ha hap q=>by
  refine bp λGz kz=>?_
  refine cv (r.dctAt hk) λvs h1 h2 h3 h4=>?_
  refine ah (fp h1 ha) λx hx vx=>?_
  refine kz ?_
  have il:=aq ha
  have il':i<es.length:=by simpa[iD]using il
  have hk':(es.map (·.1))[i]?=some (es[i].1):=by simp[il']
  refine wpAny_pyNext_values_item (bO o hit ho.1 (by rw[h4];exact ho.2)) h2 (wX hk' hx) λh' hi hs=>?_
  refine br hi λo' g1 g2 g3=>?_
  exact q h' s.toks x o' vx g1 ⟨g2,by rw[h4]at g3;exact g3⟩ λb ob hb hne=>(hs.2 b hne).trans hb
 stop:= λ{A F ρ σ s env it i o Q E} hh r hk hit ho ha hap q=>by
  refine cv (r.dctAt hk) λvs h1 h2 h3 h4=>?_
  have il:((es.map (·.1)).zip vs)[i]?=none:=by
   rw[ZC,h4]
   have:=ZC.mp ha
   simpa[iD]using this
  refine wpAny_pyNext_values_end hh (bO o hit ho.1 (by rw[h4];exact ho.2)) h2 il λh' hx=>?_
  exact q h' s.toks λb ob hb hne=>hx b ob hne hb
 self:= λ{A s it ρ o i Q E} hit ho q=>wpAny_pyIter_valiter (bO o hit ho.1 ho.2) q
theorem uj:(km c N ep es).Good c where
 nd:= λρ i o h es ep q=>by rw[h.2]at q;cases q
 ag:= λρ ρ' H i o hk h e=>⟨h.1,by rw[e N (aq hk)];exact h.2⟩
 next:= λ{A F ρ σ s env it i o a Q E} r hk hit ho ha hap q=>by
  refine cv (r.dctAt hk) λvs h1 h2 h3 h4=>?_
  have il:=aq ha
  have il':i<es.length:=by simpa[km]using il
  have ea:a=.str es[i].1:=by
   have:(es.map λp=>AV.str p.1)[i]?=some a:=ha
   rw[ZK,zG il']at this
   simpa using this.symm
  subst ea
  have hk':(es.map (·.1))[i]?=some (es[i].1):=by simp[il']
  have vl:i<vs.length:=by have:=aH h1;simp at this;lia
  refine wpAny_pyNext_dict_item (bO o hit ho.1 (by rw[h4];exact ho.2)) h2 (wX hk' (zG vl)) λkey h' hkey hi hs=>?_
  refine br hi λo' g1 g2 g3=>?_
  refine cc (Value.isStrOf_shape hkey) λt z0=>?_;subst z0
  exact q h' s.toks _ o' ⟨t,rfl⟩ g1 ⟨g2,by rw[h4]at g3;exact g3⟩ λb ob hb hne=>(hs.2 b hne).trans hb
 stop:= λ{A F ρ σ s env it i o Q E} hh r hk hit ho ha hap q=>by
  refine cv (r.dctAt hk) λvs h1 h2 h3 h4=>?_
  have il:((es.map (·.1)).zip vs)[i]?=none:=by
   rw[ZC,h4]
   have:=ZC.mp ha
   simpa[km]using this
  refine wpAny_pyNext_dict_end hh (bO o hit ho.1 (by rw[h4];exact ho.2)) h2 il λh' hx=>?_
  exact q h' s.toks λb ob hb hne=>hx b ob hne hb
 self:= λ{A s it ρ o i Q E} hit ho q=>wpAny_pyIter_keyiter (bO o hit ho.1 ho.2) q
noncomputable def oE(N:Nat):AO:=.is λρ n o=>N<n∧o.cls=.type "dict_values"∧o.data=.fields #[.ref (ρ N)]
theorem yF(hN:oO c σ.H N es):cK c F k (λxs=>call (.builtin "dict.values") xs) [.obj N] σ (.obj σ.H.length) ⟨σ.loc,σ.H++[oE N]⟩:= λA ρ s env Q E xs K r hx q=>by
 refine lW hx λ_ h1=>?_
 refine iR h1 λnl=>?_
 refine cv (r.dct hN) λvs g1 g2 g3 _=>?_
 refine call_meetsIn PySem.F.slot_dict_values g2.typeIs PySem.F.entry_dict_values (PySem.F.args_dict_values_1 _) (meets_dict_values (PySem.strKind c.prog c.w) (ρ N) g3) ⟨⟨_,g2⟩,?_⟩
 refine aV (r.alloc (ao:=oE N) (ob:={cls:=.type "dict_values",data:=.fields #[.ref (ρ N)]}) s.toks rfl (λρ' n' ag le=>⟨ZD nl (Z2 (Zf _) le),rfl,by rw[ag N (Zd nl),bc nl]⟩)) λr2 st2=>?_
 exact q _ _ _ r2 st2 ⟨by simp,by rw[aF]⟩
theorem D8{V:Nat}(hV:σ.H[V]?=some (oE N))(hN:σ.H[N]?=some (iw c N ep es)):Mk c (iD c N ep es) (.obj V) σ:= λ{A F ρ s env x Q E} r hx q=>by
 refine bp λGz kz=>?_
 refine aV hx ?_;clear hx;intro _ z0;subst z0
 refine ah (r.hr.at_ V _ hV) λob h1 h2=>?_
 refine fv (h2 ρ _ (λ_ _=>rfl) (ZA _)) λ_ h3 h4=>?_
 refine cv (r.dctAt hN) λvs g1 g2 g3 g4=>?_
 refine kz ?_
 refine wpAny_pyIter_values (bO ob h1 h3 h4) g2 ?_
 rw[g4]
 exact q _ s.toks ⟨rfl,rfl⟩ rfl
theorem DE(hN:σ.H[N]?=some (iw c N ep es)):Mk c (km c N ep es) (.obj N) σ:= λ{A F ρ s env x Q E} r hx q=>by
 refine iR hx λ_=>?_
 refine cv (r.dctAt hN) λvs g1 g2 g3 g4=>?_
 refine wpAny_pyIter_dict g3 g2 ?_
 rw[g4]
 exact q _ s.toks ⟨rfl,rfl⟩ rfl
section
open PySem PySem.W PyProof.Rows Builtin Builtin.ObjectAttr
def FZ{α:Type}(S:Setting)(x:Addr)(ob:Obj)(R:Heap→α→Prop):Sem α→Heap→Addr→Prop
 | .pure a,h,_=>R h a
 | .rule _ k,h,D=>FZ S x ob R (k ()) h D
 | .point _ k,h,D=>FZ S x ob R (k ()) h D
 | .ask k,h,D=>FZ S x ob R (k S) h D
 | .load a _ k,h,D=>a=x∧FZ S x ob R (k ob) h D
 | .alloc o k,h,D=>FZ S x ob R (k D) (h.push o) (D+1)
 |_,_,_=>False
theorem yc{Q:α→Shared→Prop}{x:Addr}{ob:Obj}{g:Array GenState}{d:Drawn}{os:OsState}:
  ∀(t:Sem α)(h:Heap)(D:Nat),h.objs.size=D→h.get? x=some ob→FZ ⟨M.prog,M.w.params⟩ x ob (λh a=>Q a ⟨h,g,d,tk,os⟩) t h D→wpAny M A t Q E ⟨h,g,d,tk,os⟩:=by
 intro t
 induction t with
 |pure b=>intro h D _ X e;exact YD e
 |rule _ k ih=>intro h D z X e Γ p hΓ;exact ih () h D z X e Γ p hΓ
 |point _ k ih=>intro h D z X e Γ p hΓ;exact ih () h D z X e Γ p hΓ
 |ask k ih=>intro h D z X e Γ p hΓ;exact ih _ h D z X e Γ p hΓ
 |load b _ k ih=>
  intro h D z X e Γ p hΓ
  exact al ob (e.1▸X) (ih ob h D z X e.2 Γ p hΓ)
 |alloc o k ih=>
  intro h D z X e
  subst z
  exact YC (f:=k) (wpAny_alloc (ih _ _ _ (Zo _ _) (zH _ X) e))
 |_=>intro h D z X e;exact e.elim
theorem GC:typeLookup (.type "list_iterator") "__getattribute__"=pure (some (.builtin "object.__getattribute__")):=by rw[typeLookup_type,builtinLookup_eq_fast];w_on
theorem EM:typeLookup (.type "list_iterator") "__next__"=pure (some (.builtin "list_iterator.__next__")):=by rw[typeLookup_type,builtinLookup_eq_fast];w_on
theorem Ga:typeOf (.builtin "list_iterator.__next__")=pure (.type "wrapper_descriptor"):=by show builtinType _=_;rw[builtinType_eq_fast];w_on
theorem Fl:typeLookup (.type "wrapper_descriptor") "__get__"=pure (some (.builtin "wrapper_descriptor.__get__")):=by rw[typeLookup_type,builtinLookup_eq_fast];w_on
theorem Fu:typeLookup (.type "wrapper_descriptor") "__set__"=pure none:=by rw[typeLookup_type,builtinLookup_eq_fast];w_on
theorem GI:typeLookup (.type "wrapper_descriptor") "__delete__"=pure none:=by rw[typeLookup_type,builtinLookup_eq_fast];w_on
theorem Hp:specialOf (.builtin "list_iterator.__next__") "__get__"=pure (some (.builtin "wrapper_descriptor.__get__")):=by
 unfold specialOf;rw[Ga];exact Fl
theorem HT:takesStores (.builtin "list_iterator.__next__")=pure false:=by
 unfold takesStores specialOf
 rw[Ga]
 show(typeLookup (.type "wrapper_descriptor") "__set__" >>=_)=_
 rw[Fu]
 show(typeLookup (.type "wrapper_descriptor") "__delete__" >>=_)=_
 rw[GI]
 rfl
theorem C8{vs:Array Value}{Q:Found→Shared→Prop}(ho:s.heap.get? it=some o)(hc:o.cls=.type "list_iterator")(hd:o.data=.fields vs)(hn:o.dict=none)(h:Q (.bind (.builtin "wrapper_descriptor.__get__") (.builtin "list_iterator.__next__")) s):
  wpAny (model prog w) A (Builtin.ObjectAttr.find (.ref it) (.type "list_iterator") "__next__") Q E s:=by
 unfold Builtin.ObjectAttr.find
 rw[EM]
 refine YC (YD ?_)
 show wpAny _ _ (specialOf (.builtin "list_iterator.__next__") "__get__" >>=_) _ _ _
 rw[Hp]
 refine YC (YD ?_)
 show wpAny _ _ ((takesStores (.builtin "list_iterator.__next__") >>=_) >>=_) _ _ _
 rw[HT]
 refine YC (YC (YD (YD ?_)))
 show wpAny _ _ (ownThenClass _ _ _ _) _ _ _
 unfold ownThenClass inOwnDict Builtin.ObjectAttr.ownDict
 refine YC (YC (YC (wpAny_loadPart ho ?_)))
 rw[hd]
 unfold instanceDict
 refine YC (wpAny_loadPart ho ?_)
 rw[hc,hn]
 exact YD (YD (YC (YD (YC (wpAny_rule (YD h))))))
theorem wp:Slot "list_iterator" "__getattribute__" "object.__getattribute__":=
 .of (owner:="object") (n:="__getattribute__") (by rw[typeLookup_type,builtinLookup_eq_fast];w_on) (by decide+kernel) (by decide+kernel) (by decide+kernel) (.inl (by decide+kernel)) (by rw[isSubtype_type];w_on)
theorem yA:entryFor table "object.__getattribute__"=some Builtin.«object.__getattribute__»:=entryFor_of_tree (by w_on)
theorem y9(a b:Value):argsOk "object.__getattribute__" ⟨[a,b],[]⟩:=by unfold argsOk;w_on
theorem El:Slot "wrapper_descriptor" "__get__" "wrapper_descriptor.__get__":=
 .of (owner:="wrapper_descriptor") (n:="__get__") (by rw[typeLookup_type,builtinLookup_eq_fast];w_on) (by decide+kernel) (by decide+kernel) (by decide+kernel) (.inl (by decide+kernel)) (by rw[isSubtype_type];w_on)
theorem AX:entryFor table "wrapper_descriptor.__get__"=some Builtin.«wrapper_descriptor.__get__»:=entryFor_of_tree (by w_on)
theorem Dm(a b d:Value):argsOk "wrapper_descriptor.__get__" ⟨[a,b,d],[]⟩:=by unfold argsOk;w_on
theorem Gu(S:Setting)(D it:Addr)(vs:Array Value)(sl:Array (Option Value))(h:Heap)(R:Heap→Fin→Prop):FZ S it {cls:=.type "list_iterator",dict:=none,data:=.fields vs,slots:=sl} R (Builtin.«wrapper_descriptor.__get__» ⟨[.builtin "list_iterator.__next__",.ref it,.type "list_iterator"],[]⟩) h D=(it=it∧R (h.push {cls:=.type "method-wrapper",data:=.fields #[.builtin "list_iterator.__next__",.ref it]}) (.done (.ret (.ref D)))):=by w_on
theorem DQ{vs:Array Value}{sl:Array (Option Value)}(ho:s.heap.get? it=some {cls:=.type "list_iterator",dict:=none,data:=.fields vs,slots:=sl})(h:Q (.ref s.heap.objs.size) {s with heap:=s.heap.push {cls:=.type "method-wrapper",data:=.fields #[.builtin "list_iterator.__next__",.ref it]}}):
  wpAny (model prog w) A (call (.builtin "wrapper_descriptor.__get__") [.builtin "list_iterator.__next__",.ref it,.type "list_iterator"]) Q E s:=by
 refine wpAny_call_entry El (show s.TypeIs (.builtin "list_iterator.__next__") "wrapper_descriptor" from Ga) AX ?_ (Dm _ _ _)
 refine yc _ _ _ rfl ho ?_
 rw[Gu]
 exact⟨rfl,_,rfl,h⟩
theorem ur{vs:Array Value}{sl:Array (Option Value)}(ho:s.heap.get? it=some {cls:=.type "list_iterator",dict:=none,data:=.fields vs,slots:=sl})(h:Q (.ref s.heap.objs.size) {s with heap:=s.heap.push {cls:=.type "method-wrapper",data:=.fields #[.builtin "list_iterator.__next__",.ref it]},toks:=s.toks+1}):
  wpAny (model prog w) A (getAttr (.ref it) "__next__" ex) Q E s:=by
 have hT:s.TypeIs (.ref it) "list_iterator":=al _ ho rfl
 unfold getAttr getAttrBy
 refine YC (wpAny_mkText (YF (YC ?_)))
 have hTy:Looks (model prog w) s.heap (typeOf (.ref it)) (.type "list_iterator"):=(Looks.ld ho).andThen .now
 refine hTy.here (s:={s with toks:=s.toks+1}) ?_
 rw[GC]
 refine YC (YD ?_)
 show wpAny _ _ (getAttrByItsOwn (Value.ref it) (Value.str (Str.ofString "__next__") s.toks) (Value.type "list_iterator") (Value.builtin "object.__getattribute__") true ex) _ _ _
 unfold getAttrByItsOwn
 refine YC (show wpAny _ _ (pure none) _ _ _ from YD ?_)
 refine YC (wpAny_attempt (YF ?_))
 have e1:callGetattribute (Value.ref it) (Value.str (Str.ofString "__next__") s.toks) (Value.builtin "object.__getattribute__") ex=boundAndCalled (Value.builtin "object.__getattribute__") (Value.ref it) (Value.str (Str.ofString "__next__") s.toks):=by cases ex<;>rfl
 rw[e1]
 unfold boundAndCalled
 rw[wp.bind]
 refine YC (YD ?_)
 have hT':Shared.TypeIs {s with toks:=s.toks+1} (.ref it) "list_iterator":=hT
 refine wpAny_call_entry wp hT' yA ?_ (y9 _ _)
 unfold Builtin.«object.__getattribute__»
 refine YC (show wpAny _ _ (pure (Value.ref it,[Value.str (Str.ofString "__next__") s.toks])) _ _ _ from YD ?_)
 refine YC (show wpAny _ _ (pure (Str.ofString "__next__")) _ _ _ from YD ?_)
 refine YC (hTy.here (s:={s with toks:=s.toks+1}) ?_)
 refine YC (C8 (s:={s with toks:=s.toks+1}) ho rfl rfl rfl ?_)
 show wpAny _ _ (holding [.builtin "list_iterator.__next__"] (call (.builtin "wrapper_descriptor.__get__") [.builtin "list_iterator.__next__",.ref it,.type "list_iterator"]) >>= λv=>ret v) _ _ _
 refine YC (YF (DQ (s:={s with toks:=s.toks+1}) ho (YD (al _ rfl ?_))))
 show wpAny _ _ (handedOut (.ref _)) _ _ _
 exact YD h
theorem to:plainId "list_iterator.__next__"=true:=by decide+kernel
theorem wZ{u:Addr}(ho:s.heap.get? u=some {cls:=.type "method-wrapper",data:=.fields #[.builtin "list_iterator.__next__",.ref it]})(hT:s.TypeIs (.ref it) "list_iterator")
  (h:wpAny (model prog w) A.in1 (Builtin.«list_iterator.__next__» ⟨[.ref it],[]⟩) (λfin s'=>∃v,fin=.done (.ret v)∧Q v s') E s):wpAny (model prog w) A (call (.ref u) []) Q E s:=by
 refine wpAny_call (codeAny_of_tree ?_)
 show wpAny _ A.in1 (callAny (.ref u) ⟨[],[]⟩) _ _ s
 refine YC (wpAny_load ho ?_)
 simp only[show(Value.type "method-wrapper"==Value.type "method"||Value.type "method-wrapper"==Value.type "builtin_function_or_method"||Value.type "method-wrapper"==Value.type "method-wrapper")=true by decide,if_true]
 show wpAny _ _ (checkBoundCall "list_iterator.__next__" ⟨[.ref it],[]⟩ >>= λ_=>again (.builtin "list_iterator.__next__" ⟨[.ref it],[]⟩)) _ _ _
 have e:checkBoundCall "list_iterator.__next__" ⟨[.ref it],[]⟩=pure ():=by w_on
 rw[e]
 refine YC (YD (YD ⟨plainId_quiet to _,codeAny_builtin entry_listiter_next ?_⟩))
 rw[Around.under_plainId to _]
 refine YE h (λfin s' h'=>?_) λ_ _ h'=>h'
 refine ah h' ?_;clear h';intro v z0 h';subst z0
 exact h'
end
noncomputable def mO(j i:Nat):AO:=.is λρ n o=>j<n∧∃sl,o={cls:=.type "list_iterator",dict:=none,data:=.fields #[.ref (ρ j),.int i 0],slots:=sl}
noncomputable def CB(t:Nat):AO:=.is λρ n o=>t<n∧o={cls:=.type "method-wrapper",data:=.fields #[.builtin "list_iterator.__next__",.ref (ρ t)]}
noncomputable def rH:AO:=.is λ_ _ _=>True
theorem Ek(hj:σ.H[j]?=some (.list vs)):cK c F k (λxs=>call (.builtin "iter") xs) [.obj j] σ (.obj σ.H.length) ⟨σ.loc,σ.H++[mO j 0]⟩:= λA ρ s env Q E xs K r hx q=>by
 refine lW hx λ_ h1=>?_
 refine iR h1 λjl=>?_
 refine br (r.list hj) λits h3 h4 _=>?_
 refine Calls.call_function_entry (by decide+kernel) (by decide+kernel) kdk_entry_iter (kdk_args_iter _) ?_
 unfold Builtin.«iter»
 refine YC (m:=someArgs "iter" 1 2 _) (wpAny_of_eq (a:=[Value.ref (ρ j)]) (by first|rfl|kernel_rfl!) ?_)
 show wpAny _ _ (pyIter (.ref _) >>=_) _ _ _
 refine YC (wpAny_pyIter_list h3 ?_)
 refine aV (r.alloc (ao:=mO j 0) (ob:={cls:=.type "list_iterator",data:=.fields #[.ref (ρ j),.int 0 0]}) s.toks rfl (λρ' n' ag le=>⟨ZD jl (Z2 (Zf _) le),#[],by rw[ag j (Zd jl),bc jl];rfl⟩)) λr2 st2=>?_
 exact YD (al _ rfl (q _ _ _ r2 st2 ⟨by simp,by rw[aF]⟩))
theorem rX{t:Nat}(ht:σ.H[t]?=some (mO j i)):oW c F k (λx=>getAttr x "__next__" ex) (.obj t) σ (.obj σ.H.length) ⟨σ.loc,σ.H++[CB t]⟩:= λA ρ s env Q E x K r hx q=>by
 refine iR hx λtl=>?_
 refine ah (r.hr.at_ t _ ht) λob h1 h2=>?_
 refine FK (h2 ρ _ (λ_ _=>rfl) (ZA _)) λ_ sl h3=>?_
 subst h3
 refine ur h1 ?_
 refine aV (r.alloc (ao:=CB t) (ob:={cls:=.type "method-wrapper",data:=.fields #[.builtin "list_iterator.__next__",.ref (ρ t)]}) (s.toks+1) rfl (λρ' n' ag le=>⟨ZD tl (Z2 (Zf _) le),by rw[ag t (Zd tl),bc tl]⟩)) λr2 st2=>?_
 exact q _ _ _ r2 st2 ⟨by simp,by rw[aF]⟩
theorem pL{u:Addr}(ho:s.heap.get? u=some {cls:=.type "method-wrapper",data:=.fields #[.builtin "list_iterator.__next__",.ref it]}):∃kp,Looks c.M s.heap (keeperOf (.ref u)) kp:=
 ⟨.machine,(Looks.ld ho).andThen .now⟩
theorem aW.mw{u t:Nat}(r:aW c A F ρ σ s env)(hu:σ.H[u]?=some (CB t))(ht:σ.H[t]?=some (mO j i))(hj:σ.H[j]?=some (.list vs)):
  s.heap.get? (ρ u)=some {cls:=.type "method-wrapper",data:=.fields #[.builtin "list_iterator.__next__",.ref (ρ t)]}∧(∃sl,s.heap.get? (ρ t)=some {cls:=.type "list_iterator",dict:=none,data:=.fields #[.ref (ρ j),.int i 0],slots:=sl})∧∃its:List Value,s.heap.IsList (ρ j) its.toArray∧cG ρ σ.H.length vs its:=by
 refine ah (r.hr.at_ u _ hu) λob h1 h2=>?_
 refine aV (h2 ρ _ (λ_ _=>rfl) (ZA _)) λ_ h3=>?_
 subst h3
 refine ah (r.hr.at_ t _ ht) λob' g1 g2=>?_
 refine FK (g2 ρ _ (λ_ _=>rfl) (ZA _)) λ_ sl g3=>?_
 subst g3
 refine br (r.list hj) λits k1 k2 _=>?_
 exact⟨h1,⟨sl,g1⟩,its,k1,k2⟩
theorem yn{u t:Nat}(O:c.Ok)
  (he:∀env,eval (.Call func [] [] pos) env=(do callWith pos (←eval func env) [] (backTo pos (starEach [] env)) (backToKw pos (keywordEach [] env))))
  (h0:Ev c F k func σ (.obj u) σ₁)(hu:σ₁.H[u]?=some (CB t))(ht:σ₁.H[t]?=some (mO j i))(hj:σ₁.H[j]?=some (.list vs))(hv:vs[i]?=some v):Ev c F k (.Call func [] [] pos) σ v ⟨σ₁.loc,σ₁.H.set t (mO j (i+1))⟩:= λA ρ s env Q E K r h=>by
 rw[he env]
 refine YC (h0 A ρ s env _ E K r λρ1 s1 x r1 st1 vx=>?_)
 refine iR vx λ_=>?_
 refine vC (r1.mw hu ht hj) λg1 z0 its g3 g4=>cc z0 λsl g2=>?_
 have tl:=aq ht
 have jl:=aq hj
 refine cy (PySem.evalArgs_none ⟨pL g1,?_⟩)
 refine wZ g1 (al _ g2 rfl) ?_
 refine bp λGz kz=>?_
 refine qW g3 λo ho hc nl hd=>?_
 refine ah (fp g4 hv) λx hx vx=>?_
 refine kz ?_
 refine YC (YD ?_)
 show wpAny _ _ (field (.ref _) 0 >>=_) _ _ s1
 refine YC (wpAny_field g2 rfl (x:=.ref (ρ1 j)) rfl ?_)
 show wpAny _ _ (if(Value.ref _==Value.none)=true then _ else _) _ _ s1
 rw[if_neg (show ¬((Value.ref _==Value.none)=true)from Z0)]
 show wpAny _ _ (field (.ref _) 1 >>=_) _ _ s1
 refine YC (wpAny_field g2 rfl (x:=.int i 0) rfl ?_)
 show wpAny _ _ (seqItems? (.ref _) >>=_) _ _ s1
 refine YC (wpAny_seqItems ho hd ?_)
 simp only[Int.toNat_natCast,List.getElem?_toArray,hx]
 refine YC (wpAny_setField g2 rfl (by simp) (YD (al x rfl ?_)))
 have ne:=r1.ap t tl
 refine aV (r1.upd (ao:=mO j (i+1)) (tk:=s1.toks) tl (Zw _ g2 (Obj.isFreed_of_fields (Obj.data_mapFields rfl (·.setIfInBounds 1 (rawInt ((i:Int)+1)))))) (λρ' n' ag le=>⟨ZD jl le,sl,by rw[ag j jl];rfl⟩) (λb ob hb h1 h2=>by rw[ZU _ _ (Ne.symm h2)];exact hb) (λm hm=>by
  obtain⟨o,es,ep,e1,d1,z⟩:=hm
  exact jE o es ep (by rw[ZU _ _ ne];exact e1) d1 z)) λr2 st2=>?_
 exact h ρ1 _ x r2 (st1.trans st2) (by
  have:(σ₁.H.set t (mO j (i+1))).length=σ₁.H.length:=by simp
  show VR ρ1 (σ₁.H.set t (mO j (i+1))).length v x
  rw[this];exact vx)
theorem CU{Q:α→Shared→Prop}(hh:A.handled=none)
  (h:∀h' e,xN s.heap h' e "StopIteration" false→E (.ref e) {s with heap:=h'}):wpAny c.M A (newExc (.type "StopIteration") [] >>= λe=>(raiseNew e:Sem α)) Q E s:=by
 refine YC ?_
 simp only[newExc,newTuple]
 refine YC (wpAny_newObj_type ?_ (by size_fits))
 refine YC (m:=firstArgMember _ _) (wpAny_of_eq (a:=Value.none) (by first|rfl|(simp only[firstArgMember];rfl)) ?_)
 refine wpAny_newObj_type ?_ (by size_fits)
 simp only[raiseNew]
 refine YC (wpAny_handled ?_)
 rw[hh]
 refine YC (YD (wpAny_throw ?_))
 have e1:(s.heap.push {cls:=.type "tuple",dict:=none,data:=.seq ([]:List Value).toArray}).objs.size=s.heap.objs.size+1:=Zo ..
 refine h _ _ ⟨λb o hb=>zH _ (zH _ hb),Heap.get?_none_of_le (by rw[e1];lia),_,_,ZN _ rfl,rfl,rfl,rfl,rfl,λ_=>rfl⟩
theorem vO{u t:Nat}(O:c.Ok)(hf:F.def)
  (he:∀env,eval (.Call func [] [] pos) env=(do callWith pos (←eval func env) [] (backTo pos (starEach [] env)) (backToKw pos (keywordEach [] env))))
  (h0:Ev c F k func σ (.obj u) σ₁)(hu:σ₁.H[u]?=some (CB t))(ht:σ₁.H[t]?=some (mO j i))(hj:σ₁.H[j]?=some (.list vs))(hv:vs[i]?=none):fw c F k false true (eval (.Call func [] [] pos)) σ "StopIteration" ⟨σ₁.loc,σ₁.H.set t rH⟩:= λA ρ s env Q E K r hd h=>by
 rw[he env]
 refine YC (h0 A ρ s env _ E K r λρ1 s1 x r1 st1 vx=>?_)
 refine iR vx λ_=>?_
 refine vC (r1.mw hu ht hj) λg1 z0 its g3 g4=>cc z0 λsl g2=>?_
 have tl:=aq ht
 have jl:=aq hj
 refine cy (PySem.evalArgs_none ⟨pL g1,?_⟩)
 refine wZ g1 (al _ g2 rfl) ?_
 refine qW g3 λo ho hc nl hdd=>?_
 have hx:its[i]?=none:=by
  rw[ZC]at hv ⊢
  rw[aH g4];exact hv
 refine YC (YD ?_)
 show wpAny _ _ (field (.ref _) 0 >>=_) _ _ s1
 refine YC (wpAny_field g2 rfl (x:=.ref (ρ1 j)) rfl ?_)
 show wpAny _ _ (if(Value.ref _==Value.none)=true then _ else _) _ _ s1
 rw[if_neg (show ¬((Value.ref _==Value.none)=true)from Z0)]
 show wpAny _ _ (field (.ref _) 1 >>=_) _ _ s1
 refine YC (wpAny_field g2 rfl (x:=.int i 0) rfl ?_)
 show wpAny _ _ (seqItems? (.ref _) >>=_) _ _ s1
 refine YC (wpAny_seqItems ho hdd ?_)
 simp only[Int.toNat_natCast,List.getElem?_toArray,hx]
 refine YC (wpAny_rule (YC (wpAny_setField g2 rfl (by simp) ?_)))
 have ne:=r1.ap t tl
 refine aV (r1.upd (ao:=rH) (tk:=s1.toks) tl (Zw _ g2 (Obj.isFreed_of_fields (Obj.data_mapFields rfl (·.setIfInBounds 0 .none)))) (λρ' n' ag le=>trivial) (λb ob hb h1 h2=>by rw[ZU _ _ (Ne.symm h2)];exact hb) (λm hm=>by
  obtain⟨o,es,ep,e1,d1,z⟩:=hm
  exact jE o es ep (by rw[ZU _ _ ne];exact e1) d1 z)) λr2 st2=>?_
 refine CU hd λh' e nx=>?_
 refine fv (nx.exO (tk:=s1.toks) r2) λr3 st3 x3=>?_
 exact h ρ1 _ e false r3 ((st1.trans st2).trans st3) (x3.back λb o e=>(st1.trans st2).kp.1 b o e)
def Jz(c:Cx)(xs:List Str)(o:Obj):Prop:=∃es ep t,o.ExactSet∧o.data=.set es ep t∧ElemsOf (PySem.strKind c.prog c.w) es.toList∧(∀k,xs.contains k=true↔∃e∈es.toList,(PySem.strKind c.prog c.w).is k e.2=true)∧es.size<scanBound∧t.fits es.size=true∧es.size=xs.length
noncomputable def tK(c:Cx)(xs:List Str):AO:=.is λ_ _ o=>Jz c xs o
theorem Gj(xs:List Str)(x k:Str):(xs++[x]).contains k=true↔(xs.contains k||decide (k=x))=true:=by simp[ZE]
theorem aW.set(r:aW c A F ρ σ s env)(hj:σ.H[j]?=some (tK c xs)):s.heap.SetOf (PySem.strKind c.prog c.w) (ρ j) xs.contains xs.length:=by
 refine bp λGz kz=>?_
 refine ah (r.hr.at_ j _ hj) λob h1 h2=>?_
 refine c7 (h2 ρ _ (λ_ _=>rfl) (ZA _)) λes ep t h3 h4 h5=>?_
 refine kz ?_
 exact fG ob es ep t h1 h3 h4 h5
theorem DR:cK c F k (λxs=>call (.type "set") xs) [] σ (.obj σ.H.length) ⟨σ.loc,σ.H++[tK c []]⟩:= λA ρ s env Q E xs K r hx q=>by
 cases hx
 refine call_set_0 λled=>?_
 refine aV (r.alloc (ao:=tK c []) (ob:={cls:=.type "set",dict:=none,data:=.set #[] 0 (.fresh 0 0 led)}) s.toks rfl (λρ' n' ag le=>mA (#[]) 0 (.fresh 0 0 led) ⟨rfl,rfl,rfl⟩ rfl (λe he=>by cases he) (λk=>⟨λh=>(by cases h),λ⟨e,he,_⟩=>(by cases he)⟩) (by decide) rfl rfl)) λr2 st2=>?_
 exact q _ _ _ r2 st2 ⟨by simp,by rw[aF]⟩
theorem Gr(slot:Slot "set" name id)(hty:typeOf (.builtin id)=pure (.type "method_descriptor"))(hj:σ.H[j]?=some (tK c xs)):GM c F (.obj j) σ name id:= λ{A ρ s env y pl Q E} r hx q=>by
 refine aV hx ?_;clear hx;intro _ z0;subst z0
 have hs:=r.set hj
 exact getMethod_builtin hs.typeIs PySem.F.plainAttrs_set slot hty hs.noDict q
theorem rW(hj:σ.H[j]?=some (tK c xs))(hx:xs.contains x=false)(hl:xs.length<100):cK c F k (λxs=>call (.builtin "set.add") xs) [.obj j,.str x] σ .none ⟨σ.loc,σ.H.set j (tK c (xs++[x]))⟩:= λA ρ s env Q E ys K r hy q=>by
 cases hy with
 |cons h1 h2=>
  refine lW h2 λ_ h2=>?_
  refine iR h1 λjl=>?_
  refine lU h2 λt=>?_
  refine call_set_add (knd:=PySem.strKind c.prog c.w) (k:=x) dU rfl (r.set hj) (by show xs.length+1<4096;lia) λh' hs hS=>?_
  rw[hx]at hS
  refine bp λGz kz=>?_
  obtain⟨o,es,ep,t',g1,g2,g3,g4,g5,g6,g7,g8⟩:=hS
  have ne:=r.ap j jl
  refine aV (r.upd (ao:=tK c (xs++[x])) (tk:=s.toks+1) jl g1 (λρ' n' ag le=>mA es ep t' g2 g3 g4 (λk=>(Gj xs x k).trans (g5 k)) g6 g7 (g8.trans (by simp))) (λb ob hb h1 h2=>(hs.2 b h2).trans hb) (λm hm=>by
   obtain⟨o,es,ep,e1,d1,z⟩:=hm
   exact jE o es ep ((hs.2 _ (Ne.symm ne)).trans e1) d1 z)) λr2 st2=>?_
  refine kz ?_
  exact q ρ _ _ r2 st2 rfl
theorem F4(hj:σ.H[j]?=some (tK c xs))(ht:xs.contains x=t):dz c F k (compareOp .In) (.str x) (.obj j) σ (.bool t) σ:= λA ρ s env Q E a b K r ha hb q=>by
 refine lU ha λt'=>?_
 refine iR hb λ_=>?_
 refine wpAny_inSet_of (knd:=PySem.strKind c.prog c.w) (k:=x) dU rfl (r.set hj) ?_
 rw[ht]
 exact q ρ _ _ (r.toks _) (.toks _) rfl
theorem uM(hj:σ.H[j]?=some (.list vs))(hl:vs.length<1000)(ht:(!vs.isEmpty)=t):Fa c F k truthy (.obj j) σ (λ_ x=>x=t) σ:= λA ρ s env Q E x K r hx q=>by
 refine iR hx λ_=>?_
 refine br (r.list hj) λits h1 h2 h3=>?_
 have ln:=aH h2
 refine wpAny_truthy_list h1 (by show((its.length:Nat):Int)<_;lia) ?_
 refine q ρ _ _ (r.toks _) (.toks _) ?_
 rw[←ht]
 cases its<;>cases vs<;>simp_all
theorem qI{xs:List Value}(h:cG ρ n vs xs):cG ρ n vs.dropLast xs.dropLast:=by
 induction h with
 |nil=>exact .nil
 |cons h t ih=>cases t with
  |nil=>exact .nil
  |cons h2 t2=>exact .cons h ih
theorem A6(hj:σ.H[j]?=some (.list (vs++[v])))(hl:vs.length<1000):cK c F k (λxs=>call (.builtin "list.pop") xs) [.obj j] σ v ⟨σ.loc,σ.H.set j (.list vs)⟩:= λA ρ s env Q E ys K r hy q=>by
 refine lW hy λ_ h1=>?_
 refine bp λGz kz=>?_
 refine aV h1 ?_;clear h1;intro jl z0;subst z0
 refine ah (r.hr.at_ j _ hj) λob g1 g2=>?_
 refine dk g2 ?_;clear g2;intro its e z0 h3;subst z0
 have ln:=aH h3
 rw[List.length_append,List.length_singleton]at ln
 refine ah (fp h3 (i:=vs.length) (a:=v) (by simp)) λy hy vy=>?_
 refine kz ?_
 refine call_meets PySem.F.slot_list_pop (al _ g1 rfl) PySem.F.entry_list_pop (PySem.F.args_list_pop_1 _) (PySem.MeetsSeq.list_pop_last (ρ j) ⟨its⟩ e y (by rw[Ze,List.getElem?_toArray,ln];exact hy) (by rw[Ze,ln];unfold sizeLine;lia)) ⟨g1,?_⟩
 have dl:its.eraseIdx vs.length=its.dropLast:=by
  rw[List.dropLast_eq_take,List.eraseIdx_eq_take_drop_succ,ln,List.drop_eq_nil_of_le (by lia)];simp
 refine aV (r.updL (ho:=g1) (acc':=vs) (f:= λxs=>xs.eraseIdxIfInBounds (its.length - 1)) (tk:=s.toks) hj (al its.dropLast (by
  show(Array.mk its).eraseIdxIfInBounds (its.length - 1)=_
  apply Array.toList_inj.mp
  rw[Array.toList_eraseIdxIfInBounds,←dl]
  simp[ln]) (by have:=qI h3;rwa[List.dropLast_concat]at this))) λr2 st2=>?_
 exact q ρ _ _ r2 st2 (by
  have:(σ.H.set j (.list vs)).length=σ.H.length:=by simp
  show VR ρ (σ.H.set j (.list vs)).length v y
  rw[this];exact vy)
theorem vQ{o i:Expr}{sp:Pos}(e0:Ev c F k o σ (.obj N) σ₁)(e1:Ev c F k i σ₁ (.str x) σ₂)(hN:oO c σ₂.H N es)(hx:(es.lookup x).isSome=true)(hl:es.length<1000):
  Ex c F k (.Delete [.Subscript o i sp] pos) σ .next ⟨σ₂.loc,σ₂.H.set N (dq c N (es.filter λp=>p.1 != x))⟩:= λA ρ s env Q E K r q=>
 wpAny_Delete (wpAny_deleteEach_cons (wpAny_delete_Subscript (e0 A ρ s env _ E K r λρ1 s1 y r1 st1 vx=>e1 A ρ1 s1 env _ E K r1 λρ2 s2 z r2 st2 vy=>by
  refine bp λGz kz=>?_
  refine cc vy ?_;clear vy;intro t z0;subst z0
  refine aV (st2.vr vx) λ_ z0=>?_;subst z0
  refine cv (r2.dct hN) λvs g1 g2 g3 g4=>?_
  have ln:=aH g1
  refine ah (vd (k:=x) g1) λvs' w1 w2=>?_
  refine aV (k8 (k:=x) g1) λd1 d2=>?_
  refine kz ?_
  refine wpAny_delItem_slot g2.typeIs (by decide) PySem.F.slot_dict_delitem (call_meetsIn PySem.F.slot_dict_delitem g2.typeIs PySem.F.entry_dict_delitem (PySem.F.args_dict_delitem_2 _ _) (meets_dict_delitem_pairs (PySem.strKind c.prog c.w) (ρ2 N) (k:=x) dU) (gA _ g2 (by rw[List.length_zip];simp at ln ⊢;unfold sizeLine;lia) ?_ λh' hm hs=>?_))
  ·cases e:es.lookup x with
   |none=>rw[e]at hx;cases hx
   |some a=>refine ah (d1 a e) λw k1 _=>?_;rw[k1];rfl
  ·rw[w2]at hm
   refine aV (r2.updD (tk:=s2.toks+1) hN w1 hm (by
    have:((es.filter λp=>p.1 != x).map (·.1)).Sublist (es.map (·.1)):=List.Sublist.map _ List.filter_sublist
    exact this.nodup g4) hs) λr3 st3=>?_
   exact wpAny_deleteEach_nil (q ρ2 _ _ r3 ((st1.trans st2).trans st3) rfl))))
noncomputable abbrev wv:=Nat×Nat×Nat
noncomputable def lO:List wv→List (Str×AV)
 | []=>[]
 |f::r=>lO r++[(nm f.1,.int r.length)]
theorem tu:∀(fr:List wv),(lO fr).map (·.1)=(fr.reverse.map λf=>nm f.1)
 | []=>rfl
 |f::r=>by simp[lO,tu r]
theorem qo:∀(fr:List wv),(lO fr).length=fr.length
 | []=>rfl
 |f::r=>by simp[lO,qo r]
structure FC(c:Cx)(H0 H:List AO)(ps:Nat→Nat)(n:Nat)(fr:List wv)(seen:List Nat):Prop where
 ex:∀(y:Nat)(o:AO),H0[y]?=some o→H[y]?=some o
 n0:H0.length≤n
 len:n+4≤H.length
 st:H[n]?=some (.list (fr.reverse.map λf=>.str (nm f.1)))
 it:H[n+1]?=some (.list (fr.reverse.map λf=>.obj (f.2.2+1)))
 se:H[n+2]?=some (tK c (seen.map nm))
 nd:oO c H (n+3) (lO fr)
 fs:∀f∈fr,H[f.2.2]?=some (mO (ps f.1) f.2.1)∧H[f.2.2+1]?=some (CB f.2.2)
 lo:∀f∈fr,n+4≤f.2.2
 de:fr.Pairwise λa b=>b.1<a.1∧b.2.2+2≤a.2.2
 b:∀f∈fr,f.1<5
 sb:∀i∈seen,i<5
 sn:seen.Nodup
theorem tL(hs:∀i∈seen,i<5)(hi:i<5):(seen.map nm).contains (nm i)=seen.contains i:=by
 rw[Zi,ZE,ZE,ZR]
 exact⟨λ⟨j,h1,h2⟩=>kH j (hs j h1) i hi h2▸h1,λh=>al i h rfl⟩
theorem ug:∀(fr:List wv),(fr.Pairwise λa b=>b.1<a.1∧b.2.2+2≤a.2.2)→∀m,(∀f∈fr,f.1<m)→fr.length≤m
 | [],_,m,_=>Zl _
 |f::r,h,m,hb=>by
  refine aV (Zs.mp h) λh1 h2=>?_
  have:=ug r h2 f.1 λg hg=>(h1 g hg).1
  have:=hb f (.head _)
  simp;lia
theorem FC.l5(x:FC c H0 H ps n fr seen):fr.length≤5:=ug fr x.de 5 x.b
theorem FC.s5(x:FC c H0 H ps n fr seen):seen.length≤5:=jo 5 seen x.sn x.sb
theorem FC.nonew(x:FC c H0 H ps n fr seen)(h5:i<5)(hf:∀f∈fr,f.1<i):nm i∉(lO fr).map (·.1):= λh=>by
 rw[tu]at h
 refine ah (ZR.mp h) λf h1 h2=>?_
 have h3:=List.mem_reverse.mp h1
 have:=kH f.1 (x.b f h3) i h5 h2
 have:=hf f h3
 lia
theorem FC.nolook(x:FC c H0 H ps n fr seen)(h5:i<5)(hf:∀f∈fr,f.1<i):((lO fr).lookup (nm i)).isSome=false:=by
 have h:=x.nonew h5 hf
 generalize lO fr=es at h
 induction es with
 |nil=>rfl
 |cons p es ih=>
  obtain⟨y,b⟩:=p
  simp at h
  rw[ZI]
  have:(nm i==y)=false:=by simpa using h.1
  rw[this]
  exact ih (by simpa using h.2)
theorem FC.step{p t:Nat}(x:FC c H0 H ps n ((i,p,t)::r) seen):FC c H0 (H.set t (mO (ps i) (p+1))) ps n ((i,p+1,t)::r) seen:=by
 have tl:n+4≤t:=x.lo (i,p,t) (.head _)
 have h0:=x.n0
 refine aV (Zs.mp x.de) λd1 d2=>?_
 refine⟨λy o h=>ak (x.ex y o h) (by have:=aq h;lia),x.n0,by simpa using x.len,?_,?_,ak x.se (by lia),?_,λf hf=>?_,λf hf=>?_,?_,λf hf=>?_,x.sb,x.sn⟩
 ·simpa using ak (o:=mO (ps i) (p+1)) x.st (show n≠t by lia)
 ·simpa using ak (o:=mO (ps i) (p+1)) x.it (show n+1≠t by lia)
 ·exact x.nd.keep λo h=>ak h (by lia)
 ·rcases ZH.mp hf with rfl|hf
  ·refine aV (x.fs (i,p,t) (.head _)) λh1 h2=>?_
   exact⟨bF (aq h1),ak h2 (by show t+1≠t;lia)⟩
  ·refine aV (x.fs f (.tail _ hf)) λh1 h2=>?_
   have h3:f.2.2+2≤t:=(d1 f hf).2
   exact⟨ak h1 (by lia),ak h2 (by lia)⟩
 ·rcases ZH.mp hf with rfl|hf
  ·exact tl
  ·exact x.lo f (.tail _ hf)
 ·exact Zs.mpr ⟨d1,d2⟩
 ·rcases ZH.mp hf with rfl|hf
  ·exact x.b (i,p,t) (.head _)
  ·exact x.b f (.tail _ hf)
theorem FC.drop{p t:Nat}(x:FC c H0 H ps n ((i,p,t)::r) seen):
  FC c H0 ((((H.set t rH).set n (.list (r.reverse.map λf=>.str (nm f.1)))).set (n+3) (dq c (n+3) (lO r))).set (n+1) (.list (r.reverse.map λf=>.obj (f.2.2+1)))) ps n r seen:=by
 have tl:n+4≤t:=x.lo (i,p,t) (.head _)
 have h0:=x.n0
 have hl:=x.len
 refine aV (Zs.mp x.de) λd1 d2=>?_
 have kp:∀(y:Nat)(o:AO),H[y]?=some o→y≠t→y≠n→y≠n+3→y≠n+1→((((H.set t rH).set n (.list (r.reverse.map λf=>.str (nm f.1)))).set (n+3) (dq c (n+3) (lO r))).set (n+1) (.list (r.reverse.map λf=>.obj (f.2.2+1))))[y]?=some o:= λy o h a b d e=>ak (ak (ak (ak h a) b) d) e
 refine⟨λy o h=>by have:=aq h;exact kp y o (x.ex y o h) (by lia) (by lia) (by lia) (by lia),x.n0,by simpa using hl,ak (ak (bF (by simp;lia)) (by lia)) (by lia),bF (by simp;lia),kp _ _ x.se (by lia) (by lia) (by lia) (by lia),.inl (ak (bF (by simp;lia)) (by lia)),λf hf=>?_,λf hf=>x.lo f (.tail _ hf),d2,λf hf=>x.b f (.tail _ hf),x.sb,x.sn⟩
 refine aV (x.fs f (.tail _ hf)) λh1 h2=>?_
 have h3:f.2.2+2≤t:=(d1 f hf).2
 have h4:=x.lo f (.tail _ hf)
 exact⟨kp _ _ h1 (by lia) (by lia) (by lia) (by lia),kp _ _ h2 (by lia) (by lia) (by lia) (by lia)⟩
noncomputable def i6(c:Cx)(H:List AO)(ps:Nat→Nat)(n:Nat)(fr:List wv)(seen:List Nat)(i:Nat):List AO:=
 ((((((H.set (n+2) (tK c ((seen++[i]).map nm)))++[mO (ps i) 0])++[CB H.length]).set (n+1) (.list (((i,0,H.length)::fr).reverse.map λf=>.obj (f.2.2+1)))).set (n+3) (dq c (n+3) (lO ((i,0,H.length)::fr)))).set n (.list (((i,0,H.length)::fr).reverse.map λf=>.str (nm f.1))))
theorem FC.push(x:FC c H0 H ps n fr seen)(h5:i<5)(hs:i∉seen)(hf:∀f∈fr,f.1<i):FC c H0 (i6 c H ps n fr seen i) ps n ((i,0,H.length)::fr) (seen++[i]):=by
 have h0:=x.n0
 have hl:=x.len
 have kp:∀(y:Nat)(o:AO),H[y]?=some o→y≠n+2→y≠n+1→y≠n+3→y≠n→(i6 c H ps n fr seen i)[y]?=some o:= λy o h a b d e=>ak (ak (ak (aB (aB (ak h a))) b) d) e
 have l1:(H.set (n+2) (tK c ((seen++[i]).map nm))).length=H.length:=by simp
 have l2:(H.set (n+2) (tK c ((seen++[i]).map nm))++[mO (ps i) 0]).length=H.length+1:=by simp
 refine⟨λy o h=>by have:=aq h;exact kp y o (x.ex y o h) (by lia) (by lia) (by lia) (by lia),x.n0,by simp[i6];lia,bF (by simp;lia),ak (ak (bF (by simp;lia)) (by lia)) (by lia),ak (ak (ak (aB (aB (bF (by lia)))) (by lia)) (by lia)) (by lia),.inl (ak (bF (by simp;lia)) (by lia)),λf hf=>?_,λf hf=>?_,?_,λf hf=>?_,λj hj=>?_,?_⟩
 ·rcases ZH.mp hf with rfl|hf
  ·refine⟨ak (ak (ak (aB ?_) (by show H.length≠_;lia)) (by show H.length≠_;lia)) (by show H.length≠_;lia),ak (ak (ak ?_ (by show H.length+1≠_;lia)) (by show H.length+1≠_;lia)) (by show H.length+1≠_;lia)⟩
   ·have z:=aO (H:=H.set (n+2) (tK c ((seen++[i]).map nm))) (o:=mO (ps i) 0)
    rw[l1]at z;exact z
   ·have z:=aO (H:=H.set (n+2) (tK c ((seen++[i]).map nm))++[mO (ps i) 0]) (o:=CB H.length)
    rw[l2]at z;exact z
  ·refine aV (x.fs f hf) λh1 h2=>?_
   have h4:=x.lo f hf
   exact⟨kp _ _ h1 (by lia) (by lia) (by lia) (by lia),kp _ _ h2 (by lia) (by lia) (by lia) (by lia)⟩
 ·rcases ZH.mp hf with rfl|hf
  ·exact hl
  ·exact x.lo f hf
 ·refine Zs.mpr ⟨λf hm=>⟨hf f hm,?_⟩,x.de⟩
  have:=aq (x.fs f hm).2
  show f.2.2+2≤H.length
  lia
 ·rcases ZH.mp hf with rfl|hf
  ·exact h5
  ·exact x.b f hf
 ·rcases ZT.mp hj with hj|hj
  ·exact x.sb j hj
  ·simp at hj;subst hj;exact h5
 ·rw[List.nodup_append]
  exact⟨x.sn,by simp,λa ha b hb e=>by simp at hb;subst hb;subst e;exact hs ha⟩
noncomputable def bX:Fs:=⟨IP,[]⟩
theorem bo:bX.scope.kind=.function:=by w_on
theorem BH:bX.def:=by unfold Fs.def;w_on
theorem rb:∀env:Env,env.scope=bX.scope→interactive env=false:= λenv he=>by
 unfold interactive
 rw[he]
 rfl
noncomputable def gW:=cV Hf 5
noncomputable def gw:=cV gW 1
noncomputable def xr:=sub gw 0 1
noncomputable def nJ:=cV gw 1
theorem Gk:nsIn (Kx P) mainGlobals ("iter":Str)=some none:=by w_on
theorem CJ:bootBuiltins ("iter":Str)=some (.builtin "iter"):=by w_on
theorem Iq:nsIn (Kx P) mainGlobals ("set":Str)=some none:=by w_on
theorem F0:bootBuiltins ("set":Str)=some (.type "set"):=by w_on
theorem F5:nsIn (Kx P) mainGlobals ("StopIteration":Str)=some none:=by w_on
theorem CX:bootBuiltins ("StopIteration":Str)=some (.type "StopIteration"):=by w_on
structure FL(l:List (Str×AV))(N n:Nat):Prop where
 d:l.lookup ("n2i":Str)=some (.obj N)
 st:l.lookup ("stack":Str)=some (.obj n)
 it:l.lookup ("itstack":Str)=some (.obj (n+1))
 se:l.lookup ("seen":Str)=some (.obj (n+2))
 nd:l.lookup ("node2stacki":Str)=some (.obj (n+3))
theorem FL.put{l:List (Str×AV)}{N n:Nat}(h:FL l N n)(a:AV):FL (aR "node" a l) N n:=
 ⟨dR h.d,dR h.st,dR h.it,dR h.se,dR h.nd⟩
theorem oq{t:Expr}(hq:∀env,swapsWithSole [t] e pos.line env=pure false)(hs:∀env,swappedStores [t] e env=pure none)(he:∀env,(assignEach [t] env).map (·.2)=[assign t env])(h1:Ev c F k e σ v σ₁)(h2:As c F k t v σ₁ σ₂):Ex c F k (.Assign [t] e pos) σ .next σ₂:= λA ρ s env Q E K r h=>
 wpAny_Assign_stores (h1 A ρ s env _ E K r λρ1 s1 z r1 st1 vz=>by
  rw[he env]
  exact h2 A ρ1 s1 env _ E z K r1 vz λρ2 s2 r2 st2=>h ρ2 s2 _ r2 (st1.trans st2) rfl) (hq env) (hs env)
theorem AZ(hz:vs.length<1000)(hj:σ.H[j]?=some (.list vs)):cK c F k (λxs=>call (.builtin "len") xs) [.obj j] σ (.int vs.length) σ:= λA ρ s env Q E xs K r hx q=>by
 refine lW hx λ_ h1=>?_
 refine iR h1 λ_=>?_
 refine br (r.list hj) λits h1 h3 _=>?_
 have ln:=aH h3
 refine Calls.call_function_entry kind_len plain_len entry_len (args_len1 _) (wpAny_len_body_list h1 (by show((its.length:Nat):Int)<_;lia) (q ρ _ _ (r.toks _) (.toks _) ⟨_,by show Value.int (its.length:Nat) _=_;rw[ln]⟩))
theorem ux(G:c.Go)(L:FL l N n)(hn:l.lookup ("node":Str)=some (.str (nm i)))(x:FC c H0 H ps n fr seen)(gh:GH c H0 N ord np su pi pd ps)(hi:i∈ord)(hs:i∉seen)(hf:∀f∈fr,f.1<i):
  dI c bX k xr ⟨l,H⟩ .next ⟨l,i6 c H ps n fr seen i⟩:=by
 have h0:=x.n0
 have hl:=x.len
 have h5:=gh.b i hi
 have f5:=x.l5
 have s5:=x.s5
 refine bp λGz kz=>?_
 refine bb (H.set (n+2) (tK c ((seen++[i]).map nm))) λH1 e1=>?_
 refine bb (H1++[mO (ps i) 0]) λH2 e2=>?_
 refine bb (H2++[CB H.length]) λH3 e3=>?_
 refine bb (H3.set (n+1) (.list (((i,0,H.length)::fr).reverse.map λf=>.obj (f.2.2+1)))) λH4 e4=>?_
 refine bb (H4.set (n+3) (dq c (n+3) (lO ((i,0,H.length)::fr)))) λH5 e5=>?_
 refine bb (H5.set n (.list (((i,0,H.length)::fr).reverse.map λf=>.str (nm f.1)))) λH6 e6=>?_
 refine kz ?_
 have e:i6 c H ps n fr seen i=H6:=by rw[e6,e5,e4,e3,e2,e1];rfl
 rw[e]
 have l1:H1.length=H.length:=by rw[e1];simp
 have l2:H2.length=H.length+1:=by rw[e2];simp[l1]
 have k1:∀(y:Nat)(o:AO),H[y]?=some o→y≠n+2→H1[y]?=some o:= λy o h a=>by rw[e1];exact ak h a
 have k3:∀(y:Nat)(o:AO),H1[y]?=some o→H3[y]?=some o:= λy o h=>by rw[e3,e2];exact aB (aB h)
 have gh1:GH c H1 N ord np su pi pd ps:=gh.ext λy o h=>k1 y o (x.ex y o h) (by have:=aq h;lia)
 have st:∀{σ:St},σ.H[n+1]?=some (.list (fr.reverse.map λf=>.obj (f.2.2+1)))→σ.H=H3→cK c bX k (λxs=>call (.builtin "list.append") xs) [.obj (n+1),.obj (H.length+1)] σ .none ⟨σ.loc,H4⟩:= λ{σ} h e=>by
  have z:=eQ (c:=c) (F:=bX) (k:=k) (v:=.obj (H.length+1)) h (by simp;lia)
  rw[e]at z
  rw[e4]
  simpa using z
 have a1:cK c bX k (λxs=>call (.builtin "set.add") xs) [.obj (n+2),.str (nm i)] ⟨l,H⟩ .none ⟨l,H1⟩:=by
  have z:=rW (c:=c) (F:=bX) (k:=k) (σ:=⟨l,H⟩) (x:=nm i) x.se (by rw[tL x.sb h5];simpa using hs) (by simp;lia)
  rw[e1,Zu]
  exact z
 have b1:∀{p1 p2 p3 p4 p5 p6:Pos},fR (.Subscript (.Name "n2i" p1) (.Name "node" p2) p3) "successors" p4→Ev c bX k (.Call (.Name "iter" p5) [.Attribute (.Subscript (.Name "n2i" p1) (.Name "node" p2) p3) "successors" p4] [] p6) ⟨l,H1⟩ (.obj H.length) ⟨l,H2⟩:= λ{p1 p2 p3 p4 p5 p6} ha=>by
  have z:=Ek (c:=c) (F:=bX) (k:=k) (σ:=⟨l,H1⟩) (gh1.s i hi)
  rw[show(St.H ⟨l,H1⟩).length=H.length from l1,show(St.H ⟨l,H1⟩)++[mO (ps i) 0]=H2 from e2.symm]at z
  exact dA (λ_=>rfl) (λ_=>rfl) (di G bo rfl (Gk _) CJ) (af λ_=>rfl) (am (λ_=>rfl) (bC ha (k9 (λ_ _=>rfl) (aa bo rfl L.d) (aa bo rfl hn) gh1.n (gh1.look hi)) (dJ G (wP _) (gh1.slt hi) (gh1.d i hi) rfl rfl)) au) z
 have b2:∀{p1 p2 p3 p4 p5 p6 p7:Pos},fR (.Subscript (.Name "n2i" p1) (.Name "node" p2) p3) "successors" p4→fR (.Call (.Name "iter" p5) [.Attribute (.Subscript (.Name "n2i" p1) (.Name "node" p2) p3) "successors" p4] [] p6) "__next__" p7→Ev c bX k (.Attribute (.Call (.Name "iter" p5) [.Attribute (.Subscript (.Name "n2i" p1) (.Name "node" p2) p3) "successors" p4] [] p6) "__next__" p7) ⟨l,H1⟩ (.obj (H.length+1)) ⟨l,H3⟩:= λ{p1 p2 p3 p4 p5 p6 p7} ha hb=>by
  have z:=rX (c:=c) (F:=bX) (k:=k) (σ:=⟨l,H2⟩) (t:=H.length) (j:=ps i) (i:=0) (ex:=true) (by show H2[_]?=_;rw[e2,←l1];exact aO)
  rw[show(St.H ⟨l,H2⟩).length=H.length+1 from l2,show(St.H ⟨l,H2⟩)++[CB H.length]=H3 from e3.symm]at z
  exact bC hb (b1 ha) z
 have i1:H1[n+1]?=some (.list (fr.reverse.map λf=>.obj (f.2.2+1))):=k1 _ _ x.it (by lia)
 have s4:H4[n]?=some (.list (fr.reverse.map λf=>.str (nm f.1))):=by rw[e4];exact ak (k3 _ _ (k1 _ _ x.st (by lia))) (by lia)
 have s5:H5[n]?=some (.list (fr.reverse.map λf=>.str (nm f.1))):=by rw[e5];exact ak s4 (by lia)
 have d4:oO c H4 (n+3) (lO fr):=x.nd.keep λo h=>by rw[e4];exact ak (k3 _ _ (k1 _ _ h (by lia))) (by lia)
 have c1:∀{p1 p2 p3 p4 p5 p6 p7:Pos},(∀env,swapsWithSole [.Subscript (.Name "node2stacki" p1) (.Name "node" p2) p3] (.Call (.Name "len" p4) [.Name "stack" p5] [] p6) p7.line env=pure false)→(∀env,swappedStores [.Subscript (.Name "node2stacki" p1) (.Name "node" p2) p3] (.Call (.Name "len" p4) [.Name "stack" p5] [] p6) env=pure none)→Ex c bX k (.Assign [.Subscript (.Name "node2stacki" p1) (.Name "node" p2) p3] (.Call (.Name "len" p4) [.Name "stack" p5] [] p6) p7) ⟨l,H4⟩ .next ⟨l,H5⟩:= λ{p1 p2 p3 p4 p5 p6 p7} hq hw=>by
  have z:=wC (c:=c) (F:=bX) (k:=k) (σ:=⟨l,H4⟩) (pos':=p3) (a:=.int fr.length) (es:=lO fr) (by rw[qo];lia) (aa (x:="node2stacki") (pos:=p1) bo rfl L.nd) (aa (x:="node") (pos:=p2) bo rfl hn) d4
  rw[nh _ _ _ (x.nonew h5 hf),show(St.H ⟨l,H4⟩).set (n+3) (dq c (n+3) (lO fr++[(nm i,AV.int fr.length)]))=H5 from e5.symm]at z
  have ln:=AZ (c:=c) (F:=bX) (k:=k) (σ:=⟨l,H4⟩) (j:=n) (by simp;lia) s4
  rw[show(fr.reverse.map λf=>AV.str (nm f.1)).length=fr.length by simp]at ln
  exact oq hq hw (λ_=>rfl) (dA (λ_=>rfl) (λ_=>rfl) (di G bo rfl (sE _) oS) (af λ_=>rfl) (am (λ_=>rfl) (aa bo rfl L.st) au) ln) z
 have st2:cK c bX k (λxs=>call (.builtin "list.append") xs) [.obj n,.str (nm i)] ⟨l,H5⟩ .none ⟨l,H6⟩:=by
  have z:=eQ (c:=c) (F:=bX) (k:=k) (σ:=⟨l,H5⟩) (v:=.str (nm i)) s5 (by simp;lia)
  rw[e6]
  simpa using z
 k_dflt refine' ae (cu (F:=bX) (v:=.none) rb (λ_=>rfl) (d9 (λ_=>rfl) (aa bo rfl L.se) (Gr PySem.F.slot_set_add PySem.F.type_set_add x.se) (af λ_=>rfl) (am (λ_=>rfl) (aa bo rfl hn) au) a1)) (ae (cu (F:=bX) (v:=.none) rb (λ_=>rfl) (d9 (λ_=>rfl) (aa bo rfl L.it) (dp slot_list_append type_list_append i1) (af λ_=>rfl) (am (λ_=>rfl) (b2 (λ_=>by k_dflt rfl) (λ_=>by k_dflt rfl)) au) (st (σ:=⟨l,H3⟩) (k3 _ _ i1) rfl))) (ae (c1 (λ_=>rfl) (λ_=>rfl)) (ae (cu (F:=bX) (v:=.none) rb (λ_=>rfl) (d9 (λ_=>rfl) (aa bo rfl L.st) (dp slot_list_append type_list_append s5) (af λ_=>rfl) (am (λ_=>rfl) (aa bo rfl hn) au) st2)) ar)))
noncomputable def IX(l:List Stmt)(i:Nat):List Stmt:=match l[i]? with
 |some (.While _ _ b _)=>b
 |_=>[]
noncomputable def lE(su:Nat→List Nat):List wv→Nat
 | []=>0
 |f::r=>((su f.1).length - f.2.1)+lE su r
theorem Bn{p t:Nat}(h:nm i∉(lO r).map (·.1)):(lO ((i,p,t)::r)).filter (λp=>p.1 != nm i)=lO r∧((lO ((i,p,t)::r)).lookup (nm i)).isSome=true:=by
 show(lO r++[(nm i,AV.int r.length)]).filter (λp=>p.1 != nm i)=lO r∧((lO r++[(nm i,AV.int r.length)]).lookup (nm i)).isSome=true
 constructor
 ·rw(config:={}) [List.filter_append,List.filter_eq_self.mpr λa ha=>?_]
  ·simp
  ·have:a.1≠nm i:= λq=>h (ZR.mpr (al a ha q))
   simpa using this
 ·generalize lO r=es
  induction es with
  |nil=>simp
  |cons p es ih=>
   obtain⟨y,b⟩:=p
   rw[List.cons_append,ZI]
   split
   ·rfl
   ·exact ih
theorem qE(L:FL l N n)(hj:H[n]?=some (.list vs))(hl:vs.length<1000)(ht:(!vs.isEmpty)=t):Te c bX k (uE gw 1) ⟨l,H⟩ t ⟨l,H⟩:=by
 have z:=uM (c:=c) (F:=bX) (k:=k) (σ:=⟨l,H⟩) hj hl ht
 k_dflt refine' bQ (λ_ _=>rfl) (aa bo rfl L.st) z
theorem vS(L:FL l N n){p t:Nat}(x:FC c H0 H ps n ((i,p,t)::r) seen)(he:Ev c bX k e ⟨l,H⟩ (.int (-1)) ⟨l,H⟩)(hs:∀o x,subscripted e false o x=operate [o,x] (getItem o x)):Ev c bX k (.Subscript (.Name "itstack" p1) e p3) ⟨l,H⟩ (.obj (t+1)) ⟨l,H⟩:=
 rE (by have:=x.l5;simp at this ⊢;lia) hs (λ_ _=>rfl) (aa bo rfl L.it) he x.it (by simp)
theorem EG(G:c.Go)(L:FL l N n){p t q:Nat}(x:FC c H0 H ps n ((i,p,t)::r) seen)(gh:GH c H0 N ord np su pi pd ps)(hi:i∈ord)(hq:(su i)[p]?=some q):
  Wh c bX k (uE gw 1) nJ (IX gw 1) ⟨l,H⟩ .next ⟨aR "node" (.str (nm q)) l,H.set t (mO (ps i) (p+1))⟩:=by
 refine aV (x.fs (i,p,t) (.head _)) λf1 f2=>?_
 have hj:=x.ex _ _ (gh.s i hi)
 have hv:((su i).map λj=>AV.str (nm j))[p]?=some (.str (nm q)):=by rw[ZK,hq];rfl
 refine lZ (qE L x.st (by have:=x.l5;simp at this ⊢;lia) (by simp)) ?_
 have cl:∀{e:Expr}{p1 p3 p4:Pos},Ev c bX k e ⟨l,H⟩ (.int (-1)) ⟨l,H⟩→(∀o x,subscripted e false o x=operate [o,x] (getItem o x))→(∀env,eval (.Call (.Subscript (.Name "itstack" p1) e p3) [] [] p4) env=(do callWith p4 (←eval (.Subscript (.Name "itstack" p1) e p3) env) [] (backTo p4 (starEach [] env)) (backToKw p4 (keywordEach [] env))))→Ev c bX k (.Call (.Subscript (.Name "itstack" p1) e p3) [] [] p4) ⟨l,H⟩ (.str (nm q)) ⟨l,H.set t (mO (ps i) (p+1))⟩:= λh1 h2 h3=>
  yn G.ok h3 (vS L x h1 h2) f2 f1 hj hv
 k_dflt refine' gP (AR (ae (aw bo rfl (λ_=>rfl) (cl (qP aJ) (λ_ _=>rfl) (λ_=>rfl))) (gP hW)))
theorem uX:isSubtype (.type "StopIteration") (.type "BaseException")=pure true:=by rw[isSubtype_type];w_on
theorem pf:isSubtype (.type ((Manifest.find? "StopIteration").elim "type" λx=>x.metatype)) (.type "tuple")=pure false:=by
 rw[isSubtype_type];w_on
section
noncomputable def mI(c:Cx)(H:List AO)(n t:Nat)(r:List wv):List AO:=((((H.set t rH).set n (.list (r.reverse.map λf=>.str (nm f.1)))).set (n+3) (dq c (n+3) (lO r))).set (n+1) (.list (r.reverse.map λf=>.obj (f.2.2+1))))
theorem CT(hz:c.rz=true)(hk:100≤k)(G:c.Go)(L:FL l N n){p t:Nat}(x:FC c H0 H ps n ((i,p,t)::r) seen)(gh:GH c H0 N ord np su pi pd ps)(hi:i∈ord)(hq:(su i)[p]?=none):
  Te c bX k (uE gw 1) ⟨l,H⟩ true ⟨l,H⟩∧dI c bX k nJ ⟨l,H⟩ .next ⟨l,mI c H n t r⟩:=by
 refine aV (x.fs (i,p,t) (.head _)) λf1 f2=>?_
 have hj:=x.ex _ _ (gh.s i hi)
 have tl:n+4≤t:=x.lo (i,p,t) (.head _)
 have l5:=x.l5
 have hv:((su i).map λj=>AV.str (nm j))[p]?=none:=by rw[ZK,hq];rfl
 refine⟨qE L x.st (by simp at l5 ⊢;lia) (by simp),?_⟩
 have cl:∀{e:Expr}{p1 p3 p4:Pos},Ev c bX k e ⟨l,H⟩ (.int (-1)) ⟨l,H⟩→(∀o x,subscripted e false o x=operate [o,x] (getItem o x))→(∀env,eval (.Call (.Subscript (.Name "itstack" p1) e p3) [] [] p4) env=(do callWith p4 (←eval (.Subscript (.Name "itstack" p1) e p3) env) [] (backTo p4 (starEach [] env)) (backToKw p4 (keywordEach [] env))))→fw c bX k false true (eval (.Call (.Subscript (.Name "itstack" p1) e p3) [] [] p4)) ⟨l,H⟩ "StopIteration" ⟨l,H.set t rH⟩:= λh1 h2 h3=>
  vO G.ok BH h3 (vS L x h1 h2) f2 f1 hj hv
 refine bp λGz kz=>?_
 refine bb (H.set t rH) λH1 e1=>?_
 refine bb (H1.set n (.list (r.reverse.map λf=>.str (nm f.1)))) λH2 e2=>?_
 refine bb (H2.set (n+3) (dq c (n+3) (lO r))) λH3 e3=>?_
 refine bb (H3.set (n+1) (.list (r.reverse.map λf=>.obj (f.2.2+1)))) λH4 e4=>?_
 refine kz ?_
 have e:mI c H n t r=H4:=by rw[e4,e3,e2,e1];rfl
 rw[e]
 rw[←e1]at cl
 have xd:=x.drop
 refine aV (Zs.mp x.de) λd1 _=>?_
 have nn:=xd.nonew (x.b (i,p,t) (.head _)) λf hf=>(d1 f hf).1
 refine aV (Bn (p:=p) (t:=t) nn) λn1 n2=>?_
 have s1:H1[n]?=some (.list ((r.reverse.map λf=>.str (nm f.1))++[.str (nm i)])):=by rw[e1];have z:=ak (o:=rH) x.st (show n≠t by lia);simpa using z
 have i3:H3[n+1]?=some (.list ((r.reverse.map λf=>.obj (f.2.2+1))++[.obj (t+1)])):=by
  rw[e3,e2,e1]
  have z:=ak (o:=dq c (n+3) (lO r)) (ak (o:=AO.list (r.reverse.map λf=>.str (nm f.1))) (ak (o:=rH) x.it (show n+1≠t by lia)) (show n+1≠n by lia)) (show n+1≠n+3 by lia)
  simpa using z
 have d2:oO c H2 (n+3) (lO ((i,p,t)::r)):=x.nd.keep λo h=>by rw[e2,e1];exact ak (ak h (by lia)) (by lia)
 have p1:cK c bX 50 (λxs=>call (.builtin "list.pop") xs) [.obj n] ⟨l,H1⟩ (.str (nm i)) ⟨l,H2⟩:=by
  rw[e2];exact A6 (σ:=⟨l,H1⟩) s1 (by simp at l5 ⊢;lia)
 have p2:cK c bX 50 (λxs=>call (.builtin "list.pop") xs) [.obj (n+1)] ⟨l,H3⟩ (.obj (t+1)) ⟨l,H4⟩:=by
  rw[e4];exact A6 (σ:=⟨l,H3⟩) i3 (by simp at l5 ⊢;lia)
 have q1:∀{p1 p2 p3 p4 p5 p6:Pos},(∀env,eval (.Call (.Attribute (.Name "stack" p2) "pop" p3) [] [] p4) env=(do
   let ov←eval (.Name "stack" p2) env
   standAt p3.atName
   let(f,first)←holding [ov] (getMethod ov "pop" (gD (.Name "stack" p2) env))
   callWith p4 f first (backTo p4 (starEach [] env)) []))→Ex c bX 50 (.Delete [.Subscript (.Name "node2stacki" p1) (.Call (.Attribute (.Name "stack" p2) "pop" p3) [] [] p4) p5] p6) ⟨l,H1⟩ .next ⟨l,H3⟩:= λ{q1 q2 q3 q4 q5 q6} he=>by
  have z:=vQ (c:=c) (F:=bX) (k:=50) (sp:=q5) (pos:=q6) (σ₂:=⟨l,H2⟩) (aa (σ:=⟨l,H1⟩) (x:="node2stacki") (pos:=q1) bo rfl L.nd) (d9 he (aa bo rfl L.st) (dp PySem.F.slot_list_pop PySem.F.type_list_pop s1) aU au p1) d2 n2 (by rw[qo];simp at l5 ⊢;lia)
  rw[n1,show(St.H ⟨l,H2⟩).set (n+3) (dq c (n+3) (lO r))=H3 from e3.symm]at z
  exact z
 have hb:dI c bX 50 (sub nJ 0 2) ⟨l,H1⟩ .next ⟨l,H4⟩:=by
  k_dflt refine' ae (q1 (λ_=>rfl)) (ae (cu (F:=bX) rb (λ_=>rfl) (d9 (λ_=>rfl) (aa bo rfl L.it) (dp PySem.F.slot_list_pop PySem.F.type_list_pop i3) aU au p2)) ar)
 have hr:fw c bX k false true (execs (cV nJ 0)) ⟨l,H⟩ "StopIteration" ⟨l,H1⟩:=by
  k_dflt refine' bN (iJ (λ_=>rfl) (cl (qP aJ) (λ_ _=>rfl) (λ_=>rfl)))
 k_dflt refine' aT (pX (k':=50) (T':="StopIteration") (by lia) (by decide) hk hz G.ok BH (di G bo rfl (F5 _) CX) uX pf isSubtype_stop hr hb)
noncomputable def nX(c:Cx)(N:Nat)(es:List (Str×AV))(e:Nat):AO:=iw c N e es
theorem x7{B:List AO}{X:AO}(hN:N<n)(hl:n+4≤B.length):i6 c (B.set N X) ps n fr seen i=(i6 c B ps n fr seen i).set N X:=by
 unfold i6
 rw[Z4,Zz _ _ (show N≠n+2 by lia)]
 rw[←Z9 _ _ (by simp;lia),←Z9 _ _ (by simp;lia),Zz _ _ (show N≠n+1 by lia),Zz _ _ (show N≠n+3 by lia),Zz _ _ (show N≠n by lia)]
theorem ya{B:List AO}{X:AO}{t:Nat}(hN:N<n)(ht:n+4≤t):mI c (B.set N X) n t r=(mI c B n t r).set N X:=by
 unfold mI
 rw[Zz _ _ (show N≠t by lia),Zz _ _ (show N≠n by lia),Zz _ _ (show N≠n+3 by lia),Zz _ _ (show N≠n+1 by lia)]
variable{G0:Nat→List AO}
def Io(c:Cx)(k:Nat)(l:List (Str×AV))(G0:Nat→List AO)(B:List AO)(ps:Nat→Nat)(su:Nat→List Nat)(ord:List Nat)(N:Nat)(es:List (Str×AV))(n:Nat)(fr:List wv)(seen:List Nat):Prop:=
 (∃B':List AO,(∀e,Wh c bX k (uE gw 1) nJ (IX gw 1) ⟨l,B.set N (nX c N es e)⟩ .brk ⟨l,B'.set N (nX c N es e)⟩)∧∀e,FC c (G0 e) (B'.set N (nX c N es e)) ps n [] seen)∨
 ∃(i p t q:Nat)(r:List wv)(B':List AO),(∀e,Wh c bX k (uE gw 1) nJ (IX gw 1) ⟨l,B.set N (nX c N es e)⟩ .next ⟨aR "node" (.str (nm q)) l,B'.set N (nX c N es e)⟩)∧(∀e,FC c (G0 e) (B'.set N (nX c N es e)) ps n ((i,p+1,t)::r) seen)∧(su i)[p]?=some q∧(∀f∈(i,p+1,t)::r,f.1∈ord)∧lE su ((i,p+1,t)::r)<lE su fr
theorem BS(hz:c.rz=true)(hk:100≤k)(G:c.Go)(L:FL l N n)(gh:∀e,GH c (G0 e) N ord np su pi pd ps)(hN:N<n):∀(fr:List wv)(B:List AO),(∀e,FC c (G0 e) (B.set N (nX c N es e)) ps n fr seen)→(∀f∈fr,f.1∈ord)→Io c k l G0 B ps su ord N es n fr seen:=by
 intro fr
 induction fr with
 |nil=>
  intro B x ho
  refine .inl (al B (λe=>?_) x)
  have t0:=qE (c:=c) (k:=k) (t:=false) L (H:=B.set N (nX c N es e)) (x e).st (by simp) (by simp)
  refine ir t0 ?_
  k_dflt refine' aT hW
 |cons f r ih=>
  intro B x ho
  obtain⟨i,p,t⟩:=f
  have hi:=ho (i,p,t) (.head _)
  have tl:n+4≤t:=(x 0).lo (i,p,t) (.head _)
  cases hq:(su i)[p]? with
  |some q=>
   have pl:=aq hq
   have cm:∀e,(B.set N (nX c N es e)).set t (mO (ps i) (p+1))=(B.set t (mO (ps i) (p+1))).set N (nX c N es e):= λe=>Zz _ _ (show N≠t by lia)
   refine .inr (lJ i p t q r (B.set t (mO (ps i) (p+1))) (λe=>cm e▸EG G L (x e) (gh e) hi hq) (λe=>cm e▸(x e).step) hq (λf hf=>?_) ?_)
   ·rcases ZH.mp hf with rfl|hf
    ·exact hi
    ·exact ho f (.tail _ hf)
   ·show((su i).length - (p+1))+lE su r<((su i).length - p)+lE su r
    lia
  |none=>
   have cm:∀e,mI c (B.set N (nX c N es e)) n t r=(mI c B n t r).set N (nX c N es e):= λe=>ya hN tl
   have h12:= λe=>CT hz hk G L (x e) (gh e) hi hq
   have z:=ih (mI c B n t r) (λe=>cm e▸(x e).drop) λf hf=>ho f (.tail _ hf)
   rcases z with⟨B',w1,w2⟩|⟨i',p',t',q',r',B',w1,w2,w3,w4,w5⟩
   ·exact .inl (al B' (λe=>jB (.inl rfl) (h12 e).1 (h12 e).2 (cm e▸w1 e)) w2)
   ·refine .inr (lJ i' p' t' q' r' B' (λe=>jB (.inl rfl) (h12 e).1 (h12 e).2 (cm e▸w1 e)) w2 w3 w4 ?_)
    have:lE su r≤lE su ((i,p,t)::r):=by show lE su r≤_+lE su r;lia
    lia
end
noncomputable def uw(su:Nat→List Nat)(seen:List Nat)(j:Nat):Nat:=if j∈seen then 0 else(su j).length+1
noncomputable def ET(su:Nat→List Nat)(seen:List Nat):Nat:=uw su seen 0+uw su seen 1+uw su seen 2+uw su seen 3+uw su seen 4
theorem AA(h5:i<5)(hs:i∉seen):ET su (seen++[i])+((su i).length+1)=ET su seen:=by
 have h1:∀j,j≠i→uw su (seen++[i]) j=uw su seen j:= λj hj=>by
  unfold uw
  have:j∈seen++[i]↔j∈seen:=by simp[hj]
  simp only[this]
 have h2:uw su (seen++[i]) i=0:=if_pos (by simp)
 have h3:uw su seen i=(su i).length+1:=if_neg hs
 unfold ET
 have:i=0∨i=1∨i=2∨i=3∨i=4:=by lia
 rcases this with rfl|rfl|rfl|rfl|rfl
 ·rw[h1 1 (by decide),h1 2 (by decide),h1 3 (by decide),h1 4 (by decide),h2,h3];lia
 ·rw[h1 0 (by decide),h1 2 (by decide),h1 3 (by decide),h1 4 (by decide),h2,h3];lia
 ·rw[h1 0 (by decide),h1 1 (by decide),h1 3 (by decide),h1 4 (by decide),h2,h3];lia
 ·rw[h1 0 (by decide),h1 1 (by decide),h1 2 (by decide),h1 4 (by decide),h2,h3];lia
 ·rw[h1 0 (by decide),h1 1 (by decide),h1 2 (by decide),h1 3 (by decide),h2,h3];lia
section
theorem w0:Te c bX k (uE gW 1) σ true σ:=by
 k_dflt refine' bQ (λ_ _=>rfl) gU bH
theorem mZ{e:Str}(L:FL l N n)(hn:l.lookup ("node":Str)=some (.str (nm i)))(x:FC c H0 H ps n fr seen)(h5:i<5)(ht:seen.contains i=t):Te c bX k (.Compare (.Name "node" p1) [.In] [.Name "seen" p2] p3) ⟨l,H⟩ t ⟨l,H⟩:=
 av rfl (aa bo rfl hn) (aa bo rfl L.se) (F4 x.se (by rw[tL x.sb h5];exact ht))
variable{G0:Nat→List AO}
theorem Ar(hz:c.rz=true)(hk:100≤k)(G:c.Go)(gh:∀e,GH c (G0 e) N ord np su pi pd ps)(hN:N<n)(hsu:∀i∈ord,∀q∈su i,i<q∧q∈ord):∀(m:Nat)(l:List (Str×AV))(B:List AO)(fr:List wv)(seen:List Nat)(i:Nat),FL l N n→l.lookup ("node":Str)=some (.str (nm i))→(∀e,FC c (G0 e) (B.set N (nX c N es e)) ps n fr seen)→i∈ord→(∀f∈fr,f.1<i)→(∀f∈fr,f.1∈ord)→lE su fr+ET su seen<m→
  ∃(l':List (Str×AV))(B':List AO)(seen':List Nat),(∀e,Wh c bX k (uE gW 1) gw [] ⟨l,B.set N (nX c N es e)⟩ .next ⟨l',B'.set N (nX c N es e)⟩)∧FL l' N n∧∀e,FC c (G0 e) (B'.set N (nX c N es e)) ps n [] seen':=by
 intro m
 induction m with
 |zero=>intro l B fr seen i _ _ _ _ _ _ h;lia
 |succ m ih=>
  intro l B fr seen i L hn x hi hf ho hm
  have h5:=(gh 0).b i hi
  have bl:n+4≤B.length:=by have:=(x 0).len;simpa using this
  have turn:∃(B1:List AO)(fr1:List wv)(seen1:List Nat),(∀e,FC c (G0 e) (B1.set N (nX c N es e)) ps n fr1 seen1)∧(∀f∈fr1,f.1∈ord)∧lE su fr1+ET su seen1≤lE su fr+ET su seen∧∀e f σ',Wh c bX k (uE gw 1) nJ (IX gw 1) ⟨l,B1.set N (nX c N es e)⟩ f σ'→dI c bX k gw ⟨l,B.set N (nX c N es e)⟩ f σ':=by
   by_cases hs:i∈seen
   ·refine iV B fr seen x ho (ZA _) λe f σ' w=>?_
    have t1:= λp1 p2 p3=>mZ (c:=c) (k:=k) (e:="") (p1:=p1) (p2:=p2) (p3:=p3) L hn (x e) h5 (t:=true) (by simpa using hs)
    have t2:∀{p1 p2 p3:Pos},Te c bX k (.Compare (.Name "node" p1) [.In] [.Name "node2stacki" p2] p3) ⟨l,B.set N (nX c N es e)⟩ false ⟨l,B.set N (nX c N es e)⟩:=av rfl (aa bo rfl hn) (aa bo rfl L.nd) (Gm (x e).nd ((x e).nolook h5 hf))
    k_dflt refine' ae (aL (t:=true) (t1 _ _ _) (aT (aL (t:=false) t2 ar))) (aT (cR w))
   ·have cm:∀e,i6 c (B.set N (nX c N es e)) ps n fr seen i=(i6 c B ps n fr seen i).set N (nX c N es e):= λe=>x7 hN bl
    refine iV (i6 c B ps n fr seen i) ((i,0,B.length)::fr) (seen++[i]) (λe=>?_) (λf hm=>?_) ?_ λe f σ' w=>?_
    ·have z:=(x e).push h5 hs hf
     rw[cm e,Z4]at z
     exact z
    ·rcases ZH.mp hm with rfl|hm
     ·exact hi
     ·exact ho f hm
    ·have:=AA (su:=su) h5 hs
     show(su i).length - 0+lE su fr+ET su (seen++[i])≤_
     lia
    ·have t1:= λp1 p2 p3=>mZ (c:=c) (k:=k) (e:="") (p1:=p1) (p2:=p2) (p3:=p3) L hn (x e) h5 (t:=false) (by simpa using hs)
     have ps1:=ux (k:=k) G L hn (x e) (gh e) hi hs hf
     rw[cm e]at ps1
     generalize eb:xr=bdy at ps1
     k_dflt refine' ae (aL (t:=false) (t1 _ _ _) ?_) (aT (cR w))
     subst eb
     exact ps1
  refine bp λGz kz=>?_
  refine dT turn λB1 fr1 seen1 x1 o1 m1 w1=>?_
  refine kz ?_
  rcases BS (k:=k) hz hk G L gh hN fr1 B1 x1 o1 with⟨B',v1,v2⟩|⟨j,p,t,q,r,B',v1,v2,v3,v4,v5⟩
  ·exact jE l B' seen1 (λe=>lZ w0 (w1 e _ _ (v1 e))) L v2
  ·have hj:=v4 (j,p+1,t) (.head _)
   have hq:=hsu j hj q (Zg v3)
   refine bp λGz kz=>?_
   refine aV (Zs.mp (v2 0).de) λd1 _=>?_
   refine c7 (ih (aR "node" (.str (nm q)) l) B' _ seen1 q (L.put _) (aj _ _ _) v2 hq.2 (λf hf=>by
    rcases ZH.mp hf with rfl|hf
    ·exact hq.1
    ·have h1:f.1<j:=(d1 f hf).1
     lia) v4 (by lia)) λl' B2 seen' u1 u2 u3=>?_
   refine kz ?_
   exact jE l' B2 seen' (λe=>jB (.inl rfl) w0 (w1 e _ _ (v1 e)) (u1 e)) u2 u3
theorem DX(hz:c.rz=true)(hk:100≤k)(G:c.Go)(gh:∀e,GH c (G0 e) N ord np su pi pd ps)(hN:N<n)(hsu:∀i∈ord,∀q∈su i,i<q∧q∈ord):∀(rest:List Nat)(l:List (Str×AV))(B:List AO)(seen:List Nat),FL l N n→(∀e,FC c (G0 e) (B.set N (nX c N es e)) ps n [] seen)→(∀i∈rest,i∈ord)→
  ∃(l':List (Str×AV))(B':List AO)(seen':List Nat),(∀e(pp:Pos),fg c bX k (km c N e es) (.Name "node" pp) gW (rest.map λi=>.str (nm i)) ⟨l,B.set N (nX c N es e)⟩ .next ⟨l',B'.set N (nX c N es e)⟩)∧∀e,FC c (G0 e) (B'.set N (nX c N es e)) ps n [] seen':=by
 intro rest
 induction rest with
 |nil=>
  intro l B seen L x _
  have bl:n+4≤B.length:=by have:=(x 0).len;simpa using this
  exact bh l B seen (λe pp=>.nil (bF (by lia))) x
 |cons i rest ih=>
  intro l B seen L x ho
  have hi:=ho i (.head _)
  have h5:=(gh 0).b i hi
  have bl:n+4≤B.length:=by have:=(x 0).len;simpa using this
  have L1:=L.put (.str (nm i))
  have hn:(aR ("node":Str) (AV.str (nm i)) l).lookup ("node":Str)=some (.str (nm i)):=aj _ _ _
  have turn:∃(l1:List (Str×AV))(B1:List AO)(seen1:List Nat)(g:AF),(g=.next∨g=.cont)∧(∀e,dI c bX k gW ⟨aR "node" (.str (nm i)) l,B.set N (nX c N es e)⟩ g ⟨l1,B1.set N (nX c N es e)⟩)∧FL l1 N n∧∀e,FC c (G0 e) (B1.set N (nX c N es e)) ps n [] seen1:=by
   by_cases hs:i∈seen
   ·refine fG _ B seen .cont (.inr rfl) (λe=>?_) L1 x
    have t1:= λp1 p2 p3=>mZ (c:=c) (k:=k) (e:="") (p1:=p1) (p2:=p2) (p3:=p3) L1 hn (x e) h5 (t:=true) (by simpa using hs)
    k_dflt refine' sF (aL (t:=true) (t1 _ _ _) (aT sL))
   ·refine c7 (Ar (k:=k) hz hk G gh hN hsu (lE su []+ET su seen+1) _ B [] seen i L1 hn x hi (λf hf=>by cases hf) (λf hf=>by cases hf) (by lia)) λl1 B1 seen1 w L2 x2=>?_
    refine fG l1 B1 seen1 .next (.inl rfl) (λe=>?_) L2 x2
    have t1:= λp1 p2 p3=>mZ (c:=c) (k:=k) (e:="") (p1:=p1) (p2:=p2) (p3:=p3) L1 hn (x e) h5 (t:=false) (by simpa using hs)
    have w':=w e
    generalize eb:gw=bdy at w'
    k_dflt refine' ae (aL (t:=false) (t1 _ _ _) ar) (aT (cR ?_))
    subst eb
    exact w'
  refine bp λGz kz=>?_
  refine hY turn λl1 B1 seen1 g hg ex1 L2 x2=>?_
  refine dg (ih l1 B1 seen1 L2 x2 λj hj=>ho j (.tail _ hj)) λl' B' seen' lp x3=>?_
  refine kz ?_
  refine bh l' B' seen' (λe pp=>?_) x3
  have e1:=ex1 e
  have lp1:=lp e pp
  generalize gW=bdy at e1 lp1 ⊢
  exact fg.next (σ₁:=⟨aR "node" (.str (nm i)) l,B.set N (nX c N es e)⟩) (bF (by lia)) hg (bg bo rfl) e1 lp1
end
theorem H8(x:Value)(S:Setting):peek (Kx P) S (bindArgs (dw P 157) ⟨[x],[]⟩)=some [(("self":Str),x)]:=by w_on
theorem qK{B:List α}{a:α}(h:B[N]?=some a):B.set N a=B:=by
 refine cc (zS.mp h) λq1 q2=>?_
 rw[←q2];exact Z7 q1
theorem Bq{body:α→List Stmt}{B B':List AO}{f:AF}(hD:oO c B N es)(h:∀a e,dI c F k (body a) ⟨l,B.set N (nX c N es e)⟩ f ⟨l',B'.set N (nX c N es e)⟩)(hN:N<B'.length):
  ∃H',(∀a,dI c F k (body a) ⟨l,B⟩ f ⟨l',H'⟩)∧H'[N]?=B[N]?∧(∀y,y≠N→H'[y]?=B'[y]?)∧H'.length=B'.length:=by
 rcases hD with hD|⟨e,hD⟩
 ·refine gA (B'.set N (dq c N es)) (λa=>A8 hD (bF hN) λe=>?_) ((bF hN).trans hD.symm) (λy hy=>zN (Ne.symm hy)) (by simp)
  rw[Zj];exact h a e
 ·refine gA (B'.set N (nX c N es e)) (λa=>?_) ((bF hN).trans hD.symm) (λy hy=>zN (Ne.symm hy)) (by simp)
  have z:=h a e
  rw[qK (show B[N]?=some (nX c N es e)from hD)]at z
  exact z
theorem GH.opened(gh:GH c H N ord np su pi pd ps)(e:Nat):GH c (H.set N (nX c N (ord.map λi=>(nm i,.obj (pi i))) e)) N ord np su pi pd ps:=by
 refine cc (gh.n.is) λP hP=>?_
 refine⟨.inr ⟨e,bF gh.n.lt⟩,λi hi=>ak (gh.i i hi) (gh.ni i hi),λi hi=>ak (gh.d i hi) λq=>?_,λi hi=>ak (gh.s i hi) λq=>?_,gh.ji,gh.js,gh.ni,gh.b,gh.nd⟩
 ·have:=gh.d i hi;rw[q,hP]at this;cases this
 ·have:=gh.s i hi;rw[q,hP]at this;cases this
theorem Hq(hz:c.rz=true)(G:c.Go)(x:SO H S D N rd po fi)(gh:GH c H N ord np su pi pd ps)(hsu:∀i∈ord,∀q∈su i,i<q∧q∈ord):
  ∃H',Fn c (k+101) (.ref 157) [.obj S] [] H .none H'∧bW H H':=by
 refine bp λGz kz=>?_
 refine bb (H.length) λn en=>?_
 have Nn:N<n:=by have:=gh.n.lt;lia
 let l0:List (Str×AV):=[("self",.obj S)]
 let l1:List (Str×AV):=aR ("n2i":Str) (.obj N) l0
 let l2:List (Str×AV):=aR ("stack":Str) (.obj n) l1
 let l3:List (Str×AV):=aR ("itstack":Str) (.obj (n+1)) l2
 let l4:List (Str×AV):=aR ("seen":Str) (.obj (n+2)) l3
 let l5:List (Str×AV):=aR ("node2stacki":Str) (.obj (n+3)) l4
 let ns:List (Str×AV):=ord.map λi=>(nm i,.obj (pi i))
 refine bb (H++[AO.list []]) λH1 e1=>?_
 refine bb (H1++[AO.list []]) λH2 e2=>?_
 refine bb (H2++[tK c []]) λH3 e3=>?_
 refine bb (H3++[dq c (n+3) []]) λH4 e4=>?_
 have n1:H1.length=n+1:=by rw[e1];simp[en]
 have n2:H2.length=n+2:=by rw[e2];simp[n1]
 have n3:H3.length=n+3:=by rw[e3];simp[n2]
 have n4:H4.length=n+4:=by rw[e4];simp[n3]
 have ext4:bW H H4:= λy o h=>by rw[e4,e3,e2,e1];exact aB (aB (aB (aB h)))
 have gh4:=gh.ext ext4
 have a0:H4[n]?=some (AO.list []):=by rw[e4,e3,e2,e1,en];exact aB (aB (aB aO))
 have a1:H4[n+1]?=some (AO.list []):=by rw[e4,e3,e2];exact aB (aB (n1▸aO))
 have a2:H4[n+2]?=some (tK c []):=by rw[e4,e3];exact aB (n2▸aO)
 have a3:H4[n+3]?=some (dq c (n+3) []):=by rw[e4];exact n3▸aO
 have x4:∀e,FC c (H.set N (nX c N ns e)) (H4.set N (nX c N ns e)) ps n [] []:= λe=>by
  refine⟨λy o h=>?_,by simp[en],by simp[n4],ak a0 (by lia),ak a1 (by lia),ak a2 (by lia),.inl (ak a3 (by lia)),(λf hf=>by cases hf),(λf hf=>by cases hf),.nil,(λf hf=>by cases hf),(λf hf=>by cases hf),List.nodup_nil⟩
  by_cases q:y=N
  ·subst q
   rw[bF (by lia)]at h ⊢
   exact h
  ·rw[zN (Ne.symm q)]at h
   exact ak (ext4 y o h) q
 refine dg (DX (k:=k+100) hz (by lia) G (λe=>gh.opened e) Nn hsu ord l5 H4 [] ⟨rfl,rfl,rfl,rfl,rfl⟩ x4 (λi hi=>hi)) λl' B' seen' lp xf=>?_
 have bl:n+4≤B'.length:=by have:=(xf 0).len;simpa using this
 have rest:∀(a:Pos×Pos×Pos×Pos×Pos×Nat)(e:Nat),dI c bX (k+100) [.For (.Name "node" a.1) (.Name "n2i" a.2.1) gW [] a.2.2.1,.Return (some (.Constant .none a.2.2.2.2.2 a.2.2.2.1)) a.2.2.2.2.1] ⟨l5,H4.set N (nX c N ns e)⟩ (.ret .none) ⟨l',B'.set N (nX c N ns e)⟩:= λa e=>by
  have lp1:=lp e a.1
  generalize gW=bdy at lp1 ⊢
  have it:(km c N e ns).items=ord.map λi=>.str (nm i):=by
   show(ns.map λp=>AV.str p.1)=_
   simp[ns]
  refine ae (gu (I:=km c N e ns) G.ok uj (λ_ _=>rfl) (λ_ _=>rfl) (by lia) (aa bo rfl rfl) (DE (bF (by lia))) (by rw[it];exact lp1)) (bx (aX bv))
 refine cv (Bq gh4.n rest (by lia)) λH' op h1 h2 h3=>?_
 refine kz ?_
 refine al H' ?_ λy o h=>?_
 ·refine dh (fl:=.ret .none) (loc:=l0) G (EX _) (by w_on) (by w_on) (λρ m s xs ks X hx hk=>?_) ?_
  ·refine mC hx hk λ_ hx=>?_
   refine al [("self",_)] (@bB _ _ _ _ _ X ?_) (.cons hx .nil)
   exact H8 _ _
  ·apply aK (loc:=l')
   have q1:∀{pos:Pos},Ev c bX (k+100) (.List [] pos) ⟨l1,H⟩ (.obj n) ⟨l1,H1⟩:= λ{pos}=>by
    have z:=dL (c:=c) (F:=bX) (k:=k+100) (pos:=pos) (σ₁:=⟨l1,H⟩) (vs:=[]) (by decide) au
    rw[e1,en];exact z
   have q2:∀{pos:Pos},Ev c bX (k+100) (.List [] pos) ⟨l2,H1⟩ (.obj (n+1)) ⟨l2,H2⟩:= λ{pos}=>by
    have z:=dL (c:=c) (F:=bX) (k:=k+100) (pos:=pos) (σ₁:=⟨l2,H1⟩) (vs:=[]) (by decide) au
    rw[e2,←n1];exact z
   have q3:cK c bX (k+100) (λxs=>call (.type "set") xs) [] ⟨l3,H2⟩ (.obj (n+2)) ⟨l3,H3⟩:=by
    have z:=DR (c:=c) (F:=bX) (k:=k+100) (σ:=⟨l3,H2⟩)
    rw[e3,←n2];exact z
   have q4:∀{pos:Pos},Ev c bX (k+100) (.Dict [] [] pos) ⟨l4,H3⟩ (.obj (n+3)) ⟨l4,H4⟩:= λ{pos}=>by
    have z:=sC (c:=c) (F:=bX) (k:=k+100) (pos:=pos) (σ:=⟨l4,H3⟩) G.ok
    rw[e4,←n3];exact z
   have rs:∀(p1 p2 p3 p4 p5:Pos)(kd:Nat),dI c bX (k+100) [.For (.Name "node" p1) (.Name "n2i" p2) gW [] p3,.Return (some (.Constant .none kd p4)) p5] ⟨l5,H4⟩ (.ret .none) ⟨l',H'⟩:= λp1 p2 p3 p4 p5 kd=>op (p1,p2,p3,p4,p5,kd)
   generalize eb:gW=bdy at rs
   k_dflt refine' ae (aw (σ₁:=⟨l0,H⟩) bo rfl (λ_=>rfl) (cb G bo rfl rfl x rfl rfl (i9 _))) (ae (aw bo rfl (λ_=>rfl) q1) (ae (aw bo rfl (λ_=>rfl) q2) (ae (aw bo rfl (λ_=>rfl) (cQ (λ_=>rfl) (λ_=>rfl) (di G bo rfl (Iq _) F0) aU au q3)) (ae (aw bo rfl (λ_=>rfl) q4) ?_))))
   subst eb
   exact rs _ _ _ _ _ _
 ·by_cases q:y=N
  ·subst q;rw[h1];exact ext4 _ _ h
  ·rw[h2 y q]
   have z:=(xf 0).ex y o (ak h q)
   rwa[zN (Ne.symm q)]at z
noncomputable def qx:Fs:=⟨y8,[]⟩
theorem jC:qx.scope.kind=.function:=by w_on
theorem Dj(x:Value)(S:Setting):peek (Kx P) S (bindArgs (dw P 122) ⟨[x],[]⟩)=some [(("self":Str),x)]:=by w_on
noncomputable def pk(p2 p3:Pos):Expr:=.Attribute (.Name "i" p2) "node" p3
noncomputable def tO(p6 p7 p8 p9:Pos)(q:Nat):Expr:=.Compare (.Attribute (.Name "i" p6) "npredecessors" p7) [.Eq] [.Constant (.int 0) q p8] p9
noncomputable def kR(p10 p11 p12 p13:Pos):Expr:=.Call (.Attribute (.Attribute (.Name "self" p10) "_node2info" p11) "values" p12) [] [] p13
theorem uA(kz:∀(sc:Scope)(p1 p2 p3 p4 p5 p6 p7 p8 p9 p10 p11 p12 p13 p14 p15:Pos)(q:Nat)(i0 i2 i3:Stmt),(Aw=[i0,.Assign [.Attribute (.Name "self" p1) "_ready_nodes" p5] (.ListComp (pk p2 p3) [⟨.Name "i" p4,kR p10 p11 p12 p13,[tO p6 p7 p8 p9 q],0⟩] sc p14) p15,i2,i3]∧
  (∀env,eval (kR p10 p11 p12 p13) env=(do
   let ov←eval (.Attribute (.Name "self" p10) "_node2info" p11) env
   standAt p12.atName
   let(f,first)←holding [ov] (getMethod ov "values" (gD (.Attribute (.Name "self" p10) "_node2info" p11) env))
   callWith p13 f first (backTo p13 (starEach [] env)) []))∧
  (∀env,swapsWith (.ListComp (pk p2 p3) [⟨.Name "i" p4,kR p10 p11 p12 p13,[tO p6 p7 p8 p9 q],0⟩] sc p14) (some (.Attribute (.Name "self" p1) "_ready_nodes" p5)) p15.line env=pure false)∧
  (sc.names.all λx=>x.2 != .free)=true∧(sc.names.all λx=>x.2 != .cell)=true∧sc.kind=.function∧(sc.names.lookup (".0":Str)==some .local&&sc.names.all λx=>x.2 != .local||sc.names.lookup x.1==some .local)=true∧sc.names.lookup ("i":Str)=some .local∧
  (∀(c:Cx)(k:Nat)(G:c.Go)(l:List (Str×AV))(H:List AO)(S D N:Nat)(po fi:Int)(r:AV),l.lookup ("self":Str)=some (.obj S)→SO H S D N .none po fi→Ex c qx k i0 ⟨l,H⟩ .next ⟨l,H⟩)∧
  (∀(c:Cx)(k:Nat)(G:c.Go)(l:List (Str×AV))(H H':List AO)(S D N:Nat)(rd:AV)(po fi:Int),l.lookup ("self":Str)=some (.obj S)→SO H S D N rd po fi→Fn c k (.ref 157) [.obj S] [] H .none H'→dI c qx k [i2,i3] ⟨l,H⟩ .next ⟨aR "cycle" .none l,H'⟩))→Gz):Gz:=by
 refine kz _ _ _ _ _ _ _ _ _ _ _ _ _ _ _ _ _ _ _ _ ⟨by k_dflt rfl,λ_=>rfl,λ_=>rfl,by w_on,by w_on,by w_on,by w_on,by w_on,?_,?_⟩
 ·intro c k G l H S D N po fi r hl x
  k_dflt refine' aL (t:=false) (av rfl (cb G jC rfl hl x rfl rfl (iP _)) bv (bU rfl)) ar
 ·intro c k G l H H' S D N rd po fi hl x f
  have hn:(aR ("cycle":Str) AV.none l).lookup ("cycle":Str)=some .none:=aj _ _ _
  k_dflt refine' ae (aw (σ₁:=⟨l,H'⟩) jC rfl (λ_=>rfl) (gp G (EX _) (eM _) (λ_=>rfl) (aa jC rfl hl) x.s x.d rfl (IK _) aU au f)) (aT (aL (t:=false) (bQ (λ_ _=>rfl) (aa jC rfl hn) uB) ar))
theorem EK{B B':List AO}(hD:oO c B N es)(h:∀ep,Ev c F k e ⟨l,B.set N (nX c N es ep)⟩ v ⟨l',B'.set N (nX c N es ep)⟩)(hN:B'[N]?=B[N]?):Ev c F k e ⟨l,B⟩ v ⟨l',B'⟩:=by
 rcases hD with hD|⟨ep,hD⟩
 ·intro A ρ s env Q E K r q
  refine ah (r.hr.at_ N _ hD) λob h1 h2=>?_
  refine cc (h2 ρ _ (λ_ _=>rfl) (ZA _)) λep h3=>?_
  have nl:=aq hD
  have hN':=hN.trans hD
  have nl':=aq hN'
  have r1:aW c A F ρ ⟨l,B.set N (nX c N es ep)⟩ s env:=by
   have len:(B.set N (nX c N es ep)).length=B.length:=by simp
   refine⟨⟨λi o e=>?_,λi j hi hj=>r.hr.inj i j (len▸hi) (len▸hj),λi hi=>r.hr.up i (len▸hi),r.hr.base,r.hr.tj⟩,r.sc,r.gl,r.bl,r.ce,λp hp=>by rw[len];exact r.ci p hp,?_,λi hi=>r.ap i (len▸hi),r.lf,r.ge,r.sk.same len λb o es ep g1 g2 _ _=>bh o es ep g1 g2,r.tp,r.fl⟩
   ·show ∃ob,s.heap.get? (ρ i)=some ob∧OR ρ (B.set N (nX c N es ep)).length o ob
    rw[len]
    have e:(B.set N (nX c N es ep))[i]?=some o:=e
    by_cases q:i=N
    ·subst q
     rw[zT nl]at e
     cases e
     exact al ob h1 (wB h3)
    ·rw[zN (Ne.symm q)]at e
     exact r.hr.at_ i o e
   ·refine ah (r.lo) λm hm hl=>?_
    refine al m hm λx v hv=>?_
    show ∃v',m x=some v'∧VR ρ (B.set N (nX c N es ep)).length v v'
    rw[len];exact hl x v hv
  refine h ep A ρ s env Q E K r1 λρ' s' a r' st' va=>?_
  have r2:=r'.retype (ao':=dq c N es) (ao:=nX c N es ep) (zT nl') λob hob=>nr (hob ρ' _ (λ_ _=>rfl) (ZA _))
  rw[Zj,qK hN']at r2
  have e1:(St.H ⟨l',B'.set N (nX c N es ep)⟩).length=B'.length:=by simp
  have e2:(St.H ⟨l,B.set N (nX c N es ep)⟩).length=B.length:=by simp
  rw[e1]at st' va
  rw[e2]at st'
  exact q ρ' s' a r2 st' va
 ·have z:=h ep
  rw[qK (show B[N]?=some (nX c N es ep)from hD),qK (show B'[N]?=some (nX c N es ep)from hN.trans hD)]at z
  exact z
noncomputable def dS(np:Nat→Int)(ord:List Nat):List Nat:=ord.filter λi=>np i==0
theorem vG(G:c.Go)(hk:F.scope.kind=.function)(hi:F.scope.names.lookup ("i":Str)=some .local)(hk100:100≤k){p7 p8 p9:Pos}{q:Nat}{e:Nat}(hg:gens=[⟨.Name "i" p4,iter,[tO p6 p7 p8 p9 q],0⟩])(gh:GH c H N ord np su pi pd ps)(hN:H[N]?=some (nX c N (ord.map λi=>(nm i,.obj (pi i))) e)):
  ∀(rest:List Nat)(i:Nat)(done:List Nat)(l:List (Str×AV)),ord.drop i=rest→done.length≤i→
   ∃l',CL c F k (pk p2 p3) gens sc pos 0 (iD c N e (ord.map λi=>(nm i,.obj (pi i)))) H.length i ⟨l,H++[AO.list (done.map λj=>.str (nm j))]⟩ ⟨l',H++[AO.list ((done++dS np rest).map λj=>.str (nm j))]⟩:=by
 have its:(iD c N e (ord.map λi=>(nm i,.obj (pi i)))).items=ord.map λi=>.obj (pi i):=by
  show((ord.map λi=>(nm i,AV.obj (pi i))).map λp=>p.2)=_
  simp
 have o5:=gh.len
 have okN:∀(l:List (Str×AV))(L:List AO),(iD c N e (ord.map λi=>(nm i,.obj (pi i)))).ok (St.H ⟨l,H++L⟩):= λl L=>aB hN
 intro rest
 induction rest with
 |nil=>
  intro i done l hd hl
  subst hg
  refine⟨l,?_⟩
  rw[show done++dS np []=done by simp[dS]]
  refine im gQ rfl rfl (λ_ _=>rfl) hk100 (okN _ _) ?_
  rw[its,ZC,ZS]
  exact ZL.mp hd
 |cons j rest ih=>
  intro i done l hd hl
  have hj:ord[i]?=some j:=by
   have:(ord.drop i)[0]?=some j:=by rw[hd];rfl
   rwa[Z1,Zq]at this
  have hd1:ord.drop (i+1)=rest:=by
   have:(ord.drop i).drop 1=rest:=by rw[hd];rfl
   rwa[Zp]at this
  have jm:=Zg hj
  have il:=aq hj
  let l1:List (Str×AV):=aR ("i":Str) (.obj (pi j)) l
  have li:l1.lookup ("i":Str)=some (.obj (pi j)):=aj _ _ _
  have g1:GH c (H++[AO.list (done.map λj=>.str (nm j))]) N ord np su pi pd ps:=gh.ext bW.app
  have ai:(iD c N e (ord.map λi=>(nm i,.obj (pi i)))).items[i]?=some (.obj (pi j)):=by rw[its,ZK,hj];rfl
  have ti:∀{t:Bool},(np j==0)=t→yY c F k [tO p6 p7 p8 p9 q] ⟨l1,H++[AO.list (done.map λj=>.str (nm j))]⟩ t ⟨l1,H++[AO.list (done.map λj=>.str (nm j))]⟩:= λht=>
   av rfl (bC (λ_=>by k_dflt rfl) (aa hk hi li) (dJ G (jh _) (g1.slt jm) (g1.d j jm) rfl rfl)) aJ (qR ht)
  by_cases z:(np j==0)=true
  ·refine cc (ih (i+1) (done++[j]) l1 hd1 (by simp;lia)) λl' h=>?_
   refine⟨l',?_⟩
   rw[show done++dS np (j::rest)=(done++[j])++dS np rest by simp[dS,z]]
   subst hg
   refine fL (σ₁:=⟨l1,H++[AO.list (done.map λj=>.str (nm j))]⟩) (σ₂:=⟨l1,H++[AO.list (done.map λj=>.str (nm j))]⟩) (σ₃:=⟨l1,H++[AO.list (done.map λj=>.str (nm j))]⟩) (v:=.str (nm j)) (acc:=done.map λj=>.str (nm j)) G.ok gQ rfl rfl (λ_ _=>rfl) (okN _ _) ai (bg hk hi) (ti z) (bC (λ_=>by k_dflt rfl) (aa hk hi li) (dJ G (v6 _) (g1.slt jm) (g1.d j jm) rfl rfl)) aO (by simp;lia) ?_
   have e2:(H++[AO.list (done.map λj=>.str (nm j))]).set H.length (.list ((done.map λj=>.str (nm j))++[.str (nm j)]))=H++[AO.list ((done++[j]).map λj=>.str (nm j))]:=by
    rw[Zn _ _ (ZA _),ZY];simp
   show CL _ _ _ _ _ _ _ _ _ _ _ ⟨l1,(H++[AO.list (done.map λj=>.str (nm j))]).set H.length (.list ((done.map λj=>.str (nm j))++[.str (nm j)]))⟩ _
   rw[e2]
   exact h
  ·refine cc (ih (i+1) done l1 hd1 (by lia)) λl' h=>?_
   refine⟨l',?_⟩
   rw[show done++dS np (j::rest)=done++dS np rest by simp[dS,z]]
   subst hg
   exact nq (σ₁:=⟨l1,H++[AO.list (done.map λj=>.str (nm j))]⟩) (σ₂:=⟨l1,H++[AO.list (done.map λj=>.str (nm j))]⟩) G.ok gQ rfl rfl (λ_ _=>rfl) (okN _ _) ai (bg hk hi) (ti (t:=false) (by simpa using z)) h
def Jt(D:Nat)(H H':List AO):Prop:=∀(y:Nat)(o:AO),y≠D→H[y]?=some o→H'[y]?=some o
theorem CG(hz:c.rz=true)(G:c.Go)(x:SO H S D N .none po fi)(gh:GH c H N ord np su pi pd ps)(hsu:∀i∈ord,∀q∈su i,i<q∧q∈ord):
  ∃H' R,Fn c (k+102) (.ref 122) [.obj S] [] H .none H'∧SO H' S D N (.obj R) po fi∧GH c H' N ord np su pi pd ps∧H'[R]?=some (.list ((dS np ord).map λj=>.str (nm j)))∧Jt D H H'∧H.length≤R:=by
 refine bp λGz kz=>?_
 refine uA λsc p1 p2 p3 p4 p5 p6 p7 p8 p9 p10 p11 p12 p13 p14 p15 q i0 i2 i3 hz_=>?_
 obtain⟨hb,he,hsw,s1,s2,s3,s4,k1,st0,st2⟩:=hz_
 have scp:cz qx sc sc []:=cS s1 s2 s3 s4
 have ksc:(Fs.mk sc []).scope.kind=.function:=s3
 let ns:List (Str×AV):=ord.map λi=>(nm i,.obj (pi i))
 let l0:List (Str×AV):=[("self",.obj S)]
 refine bb (H++[oE N]++[AO.list ((dS np ord).map λj=>.str (nm j))]) λH1 e1=>?_
 have nl:=gh.n.lt
 have ex1:bW H H1:= λy o h=>by rw[e1];exact aB (aB h)
 have l1:(H++[oE N]).length=H.length+1:=by simp
 have evc:Ev c qx (k+101) (.ListComp (pk p2 p3) [⟨.Name "i" p4,kR p10 p11 p12 p13,[tO p6 p7 p8 p9 q],0⟩] sc p14) ⟨l0,H⟩ (.obj (H.length+1)) ⟨l0,H1⟩:=by
  refine EK gh.n (λe=>?_) (by rw[e1,zL (by simp;lia),zL nl])
  have ghe:=gh.opened e
  refine bb (H.set N (nX c N ns e)++[oE N]) λHx ex=>?_
  have lx:Hx.length=H.length+1:=by rw[ex];simp
  have hNx:Hx[N]?=some (nX c N ns e):=by rw[ex];exact aB (bF nl)
  have ghx:GH c Hx N ord np su pi pd ps:=by rw[ex];exact ghe.ext bW.app
  refine cc (vG (F:=⟨sc,[]⟩) (k:=k+101) (gens:=[⟨.Name "i" p4,kR p10 p11 p12 p13,[tO p6 p7 p8 p9 q],0⟩]) (sc:=sc) (pos:=p14) (p2:=p2) (p3:=p3) G ksc k1 (by lia) rfl ghx hNx ord 0 [] [] rfl (ZA _)) λl' cl=>?_
  have xe:SO (H.set N (nX c N ns e)) S D N .none po fi:=by
   refine cc (gh.n.is) λP hP=>?_
   exact⟨ak x.s (by rintro rfl;have:=x.s;rw[hP]at this;cases this),ak x.d (by rintro rfl;have:=x.d;rw[hP]at this;cases this)⟩
  have dv:=yF (c:=c) (F:=qx) (k:=k+101) (σ:=⟨l0,H.set N (nX c N ns e)⟩) ghe.n
  have z:=fV (F:=qx) (k:=k+101) (σ:=⟨l0,H.set N (nX c N ns e)⟩) (σ₁:=⟨l0,Hx⟩) (I:=iD c N e ns) (loc':=l') (H':=H1.set N (nX c N ns e)) (a:=.obj H.length) (rest:=[]) (ifs:=[tO p6 p7 p8 p9 q]) (target:=.Name "i" p4) (iter:=kR p10 p11 p12 p13) (elt:=pk p2 p3) (pos:=p14) G.ok gQ scp (λ_ _=>rfl)
   (d9 he (cb G jC rfl rfl xe rfl rfl (i9 _)) (qn PySem.F.slot_dict_values PySem.F.type_dict_values ghe.n) aU au (by rw[ex];rw[show(St.H ⟨l0,H.set N (nX c N ns e)⟩).length=H.length by simp]at dv;exact dv))
   (D8 (by show Hx[_]?=_;rw[ex];have:=aO (H:=H.set N (nX c N ns e)) (o:=oE N);rwa[Z4]at this) hNx) hNx (by rw[e1];simp[lx]) (by
    have:H1.set N (nX c N ns e)=Hx++[AO.list (([]++dS np ord).map λj=>.str (nm j))]:=by
     rw[e1,ex,Z9 _ _ (by simp;lia),Z9 _ _ nl];rfl
    rw[this]
    have e3:(St.H ⟨l0,Hx⟩).length=Hx.length:=rfl
    have e4:(⟨[],St.H ⟨l0,Hx⟩++[AO.list []]⟩:St)=⟨[],Hx++[AO.list (([]:List Nat).map λj=>.str (nm j))]⟩:=rfl
    rw[e3,e4]
    exact @cl)
  rw[show(St.H ⟨l0,Hx⟩).length=H.length+1 from lx]at z
  exact z
 have xx:SO H1 S D N .none po fi:=⟨ex1 _ _ x.s,ex1 _ _ x.d⟩
 have dl:=aq xx.d
 have sd:S≠D:=by rintro rfl;have:=xx.s;rw[xx.d]at this;cases this
 refine bb (H1.set D (.dict (xh N (.obj (H.length+1)) po fi))) λH2 e2=>?_
 have bt2:Jt D H1 H2:= λy o hy h=>by rw[e2];exact ak h hy
 have x2:SO H2 S D N (.obj (H.length+1)) po fi:=⟨bt2 _ _ sd xx.s,by rw[e2];exact bF dl⟩
 have gh2:GH c H2 N ord np su pi pd ps:=by
  have g:=gh.ext ex1
  have dd:=xx.d
  refine⟨g.n.keep λo h=>bt2 _ _ ?_ h,λi hi=>bt2 _ _ ?_ (g.i i hi),λi hi=>bt2 _ _ ?_ (g.d i hi),λi hi=>bt2 _ _ ?_ (g.s i hi),g.ji,g.js,g.ni,g.b,g.nd⟩
  ·rintro rfl;refine cc (g.n.is) λP hP=>?_;rw[hP]at dd;cases dd
  ·intro q;have:=g.i i hi;rw[q,dd]at this;cases this
  ·intro q;have:=g.d i hi;rw[q,dd]at this;cases this
  ·intro q;have:=g.s i hi;rw[q,dd]at this;cases this
 refine ah (Hq (k:=k) hz G x2 gh2 hsu) λH3 f3 ex3=>?_
 refine kz ?_
 have rl:H1[H.length+1]?=some (.list ((dS np ord).map λj=>.str (nm j))):=by rw[e1,←l1];exact aO
 have dH:=aq x.d
 refine ib H3 (H.length+1) ?_ ⟨ex3 _ _ x2.s,ex3 _ _ x2.d⟩ (gh2.ext ex3) (ex3 _ _ (bt2 _ _ (by lia) rl)) (λy o hy h=>ex3 _ _ (bt2 _ _ hy (ex1 _ _ h))) (by lia)
 refine dh (fl:=.next) (loc:=l0) G (vX _) (by w_on) (by w_on) (λρ m s xs ks X hx hk=>?_) ?_
 ·refine mC hx hk λ_ hx=>?_
  refine al [("self",_)] (@bB _ _ _ _ _ X ?_) (.cons hx .nil)
  exact Dj _ _
 ·apply aK (loc:=aR "cycle" .none l0)
  rw[hb]
  have set1:=cJ (c:=c) (F:=qx) (k:=k+101) (σ:=⟨l0,H1⟩) (v:=.obj (H.length+1)) G (eM _) xx.s xx.d (of_decide_eq_true (by w_on)) (iP _)
  rw[show(St.H ⟨l0,H1⟩).set D (.dict (aR "_ready_nodes" (.obj (H.length+1)) (xh N .none po fi)))=H2 from e2.symm]at set1
  have a1:Ex c qx (k+101) (.Assign [.Attribute (.Name "self" p1) "_ready_nodes" p5] (.ListComp (pk p2 p3) [⟨.Name "i" p4,kR p10 p11 p12 p13,[tO p6 p7 p8 p9 q],0⟩] sc p14) p15) ⟨l0,H⟩ .next ⟨l0,H2⟩:=aP hsw evc (aa jC rfl rfl) set1
  have b0:=st0 c (k+101) G l0 H S D N po fi .none rfl x
  have b2:=st2 c (k+101) G l0 H2 H3 S D N (.obj (H.length+1)) po fi rfl x2 f3
  exact ae b0 (ae a1 b2)
theorem jQ(l:Addr)(o:Obj)(items:Array Value)(n:Nat)(hc:o.cls=.type "list")(hd:o.data=.seq items n)(hfit:(items.size:Int)<2 ^ 63):
  Meets (Builtin.«bool.__new__» ⟨[.type "bool",.ref l],[]⟩) (λ_ R s=>s.heap.get? l=some o∧R (.ok (.ret (.bool (!items.isEmpty)))) {s with toks:=s.toks+1+1}):=
 Meets.of_wp λprog w A R s hs=>by
  refine bp λGz kz=>?_
  obtain⟨hp,g,d,tk,os⟩:=s
  refine aV hs λho hs=>?_
  refine kz ?_
  have f1:=PySem.F.conv_sub_bool
  have hl:Shared.heap ⟨hp,g,d,tk,os⟩ |>.IsList l items:=iG o ho hc n hd
  repeat (any_goals (first|assumption|(with_reducible refine wpAny_truthy_list hl hfit ?_)|wp_step))
  all_goals first|exact(al _ rfl hs)|exact hs|skip
theorem E5:∃t,nsIn (Kx P) mainGlobals ("_NODE_OUT":Str)=some (some (.int (-1) t)):=⟨(pg (((nsIn (Kx P) mainGlobals ("_NODE_OUT":Str)).getD none).getD .none)).2,by w_on⟩
theorem Fo:∃t,nsIn (Kx P) mainGlobals ("_NODE_DONE":Str)=some (some (.int (-2) t)):=⟨(pg (((nsIn (Kx P) mainGlobals ("_NODE_DONE":Str)).getD none).getD .none)).2,by w_on⟩
theorem Fx:nsIn (Kx P) mainGlobals ("bool":Str)=some none:=by w_on
theorem Dv:bootBuiltins ("bool":Str)=some (.type "bool"):=by w_on
theorem Di:nsIn (Kx P) mainGlobals ("tuple":Str)=some none:=by w_on
theorem A5:bootBuiltins ("tuple":Str)=some (.type "tuple"):=by w_on
theorem kK{i:Int}{t:Tok}(h:Ev c F k e σ (.val (.int i t)) σ₁):Ev c F k e σ (.int i) σ₁:= λA ρ s env Q E K r q=>
 h A ρ s env Q E K r λρ1 s1 x r1 st1 vx=>q ρ1 s1 x r1 st1 ⟨t,vx⟩
theorem Ew(hj:σ.H[j]?=some (.list vs))(hl:vs.length<1000)(ht:(!vs.isEmpty)=t):cK c F k (λxs=>call (.type "bool") xs) [.obj j] σ (.bool t) σ:= λA ρ s env Q E xs K r hx q=>by
 refine lW hx λ_ h1=>?_
 refine bp λGz kz=>?_
 refine aV h1 ?_;clear h1;intro _ z0;subst z0
 refine br (r.list hj) λits z0 h3 _=>qW z0 λo g1 g2 n g3=>?_
 refine kz ?_
 have ln:=aH h3
 refine call_bool_1 (jQ (ρ j) o ⟨its⟩ n g2 g3 (by show((its.length:Nat):Int)<_;lia)) ⟨g1,rfl,?_⟩
 refine q ρ _ _ (r.toks _) (.toks _) ?_
 show Value.bool _=_
 rw[←ht]
 cases its<;>cases vs<;>simp_all
theorem Ai(hj:σ.H[j]?=some (.list vs))(hl:vs.length<1000):cK c F k (λxs=>call (.type "tuple") xs) [.obj j] σ (.obj σ.H.length) ⟨σ.loc,σ.H++[.tuple vs]⟩:= λA ρ s env Q E xs K r hx q=>by
 refine lW hx λ_ h1=>?_
 refine iR h1 λ_=>?_
 refine br (r.list hj) λits g h3 _=>?_
 have ln:=aH h3
 refine call_tuple_list g (λh' hk=>?_) (by rw[Ze];unfold sizeLine;lia)
 have nn:s.heap.get? h'.objs.size=none:=by
  cases e:s.heap.get? h'.objs.size with
  |none=>rfl
  |some o=>exact absurd (ZB (hk _ _ e)) (ZJ _)
 refine aV (r.allocAt (ao:=.tuple vs) (ob:={cls:=.type "tuple",data:=.seq ⟨its⟩}) (a:=h'.objs.size) (h':=h'.push {cls:=.type "tuple",data:=.seq ⟨its⟩}) (tk:=s.toks) (λb o e=>zH _ (hk b o e)) nn (ZN _ rfl) (cI its _ rfl (h3.mono (λi hi=>bc hi) (Zf _)))) λr2 st2=>?_
 exact q _ _ _ r2 st2 ⟨by simp,by rw[aF]⟩
theorem Cw(hj:σ.H[j]?=some (.list vs))(hl:vs.length<1000):cK c F k (λxs=>call (.builtin "list.clear") xs) [.obj j] σ .none ⟨σ.loc,σ.H.set j (.list [])⟩:= λA ρ s env Q E xs K r hx q=>by
 refine lW hx λ_ h1=>?_
 refine iR h1 λ_=>?_
 refine ah (r.hr.at_ j _ hj) λob g1 g2=>?_
 refine dk g2 ?_;clear g2;intro its e z0 h3;subst z0
 have ln:=aH h3
 refine call_meets PySem.F.slot_list_clear (al _ g1 rfl) PySem.F.entry_list_clear (PySem.F.args_list_clear_1 _) (AutoSeq1.list_clear_list_0 (ρ j) ⟨its⟩ e (by rw[Ze];unfold sizeLine;lia)) ⟨g1,?_⟩
 refine aV (r.updL (ho:=g1) (acc':=[]) (f:= λ_=> #[]) (tk:=s.toks) hj (al [] rfl .nil)) λr2 st2=>?_
 exact q ρ _ _ r2 st2 rfl
theorem vk{x y:Expr}(h1:Ev c F k x σ (.bool true) σ₁):Ev c F k (.BoolOp .Or [x,y] pos) σ (.bool true) σ₁:= λA ρ s env Q E K r q=>
 wpAny_Or2 (h1 A ρ s env _ E K r λρ1 s1 z r1 st1 vz=>by
  rw[show z=Value.bool true from vz]
  refine wpAny_truthy_bool ?_
  rw[if_pos rfl]
  exact q ρ1 s1 _ r1 st1 rfl)
theorem sj{x y:Expr}(h1:Ev c F k x σ (.bool false) σ₁)(h2:Ev c F k y σ₁ v σ₂):Ev c F k (.BoolOp .Or [x,y] pos) σ v σ₂:= λA ρ s env Q E K r q=>
 wpAny_Or2 (h1 A ρ s env _ E K r λρ1 s1 z r1 st1 vz=>by
  rw[show z=Value.bool false from vz]
  refine wpAny_truthy_bool ?_
  rw[if_neg Z0]
  exact h2 A ρ1 s1 env _ E K r1 λρ2 s2 w r2 st2 vw=>q ρ2 s2 w r2 (st1.trans st2) vw)
noncomputable def IC:Fs:=⟨E8,[]⟩
theorem gF:IC.scope.kind=.function:=by w_on
theorem Fq(x:Value)(S:Setting):peek (Kx P) S (bindArgs (dw P 136) ⟨[x],[]⟩)=some [(("self":Str),x)]:=by w_on
section
variable{R:Nat}{rs:List AV}
theorem Fv(G:c.Go)(x:SO H S D N (.obj R) po fi)(hR:H[R]?=some (.list rs))(hl:rs.length<100):Fn c (k+1) (.ref 136) [.obj S] [] H (.bool (decide (fi<po)||!rs.isEmpty)) H:=by
 refine dh (fl:=.ret (.bool (decide (fi<po)||!rs.isEmpty))) (loc:=[("self",.obj S)]) G (Ap _) (by w_on) (by w_on) (λρ m s xs ks X hx hk=>?_) ?_
 ·refine mC hx hk λ_ hx=>?_
  refine al [("self",_)] (@bB _ _ _ _ _ X ?_) (.cons hx .nil)
  exact Fq _ _
 ·apply aK (loc:=[("self",.obj S)])
  by_cases h:fi<po
  ·have e:(decide (fi<po)||!rs.isEmpty)=true:=by simp[h]
   rw[e]
   k_dflt refine' ae (aL (t:=false) (av rfl (cb G gF rfl rfl x rfl rfl (iP _)) bv (bP rfl)) ar) (bx (aX (vk (uJ rfl (cb G gF rfl rfl x rfl rfl (sX _)) (cb G gF rfl rfl x rfl rfl (tg _)) (lG (by simpa using h))))))
  ·have e:(decide (fi<po)||!rs.isEmpty)= !rs.isEmpty:=by simp[h]
   rw[e]
   have ob:=Ew (c:=c) (F:=IC) (k:=k) (σ:=⟨[("self",.obj S)],H⟩) (t:=!rs.isEmpty) hR (by lia) rfl
   k_dflt refine' ae (aL (t:=false) (av rfl (cb G gF rfl rfl x rfl rfl (iP _)) bv (bP rfl)) ar) (bx (aX (sj (uJ rfl (cb G gF rfl rfl x rfl rfl (sX _)) (cb G gF rfl rfl x rfl rfl (tg _)) (lG (by simpa using h))) (cQ (λ_=>rfl) (λ_=>rfl) (di G gF rfl (Fx _) Dv) (af λ_=>rfl) (am (λ_=>rfl) (cb G gF rfl rfl x rfl rfl (iP _)) au) ob))))
end
noncomputable def oM:Fs:=⟨Hs,[]⟩
theorem cZ:oM.scope.kind=.function:=by w_on
theorem F1:∀env:Env,env.scope=oM.scope→interactive env=false:= λenv he=>by
 unfold interactive
 rw[he]
 rfl
theorem H7(x:Value)(S:Setting):peek (Kx P) S (bindArgs (dw P 129) ⟨[x],[]⟩)=some [(("self":Str),x)]:=by w_on
noncomputable def nS:=cV IN 3
noncomputable def mU(np:Nat→Int)(rs:List Nat):Nat→Int:=rs.foldl (λnp i=>iT np i (-1)) np
structure G4(l:List (Str×AV))(S N T:Nat):Prop where
 s:l.lookup ("self":Str)=some (.obj S)
 n:l.lookup ("n2i":Str)=some (.obj N)
 t:l.lookup ("result":Str)=some (.obj T)
theorem G4.put{l:List (Str×AV)}{S N T:Nat}(h:G4 l S N T)(a:AV):G4 (aR "node" a l) S N T:=
 ⟨dR h.s,dR h.n,dR h.t⟩
def w9(ord:List Nat)(pi:Nat→Nat)(H H':List AO):Prop:=∀(y:Nat)(o:AO),H[y]?=some o→(∀i∈ord,y≠pi i)→H'[y]?=some o
section
variable{R:Nat}
theorem w9.setnp(gh:GH c H N ord np su pi pd ps)(hi:i∈ord)(z:AO):w9 ord pi H (H.set (pi i) z):= λy o h hy=>ak h (hy i hi)
theorem CZ(G:c.Go)(L:G4 l S N T)(hn:l.lookup ("node":Str)=some (.str (nm i)))(gh:GH c H N ord np su pi pd ps)(hi:i∈ord):
  ∃H',dI c oM k nS ⟨l,H⟩ .next ⟨l,H'⟩∧GH c H' N ord (iT np i (-1)) su pi pd ps∧w9 ord pi H H':=by
 refine aV (gh.setnp hi (-1)) λg1 _=>?_
 refine bO _ ?_ g1 (.setnp gh hi _)
 refine cc (E5 c.w.params) λt ht=>?_
 have w:=fH (c:=c) (F:=oM) (k:=k) (σ:=⟨l,H⟩) (v:=.int (-1)) G (jh _) (by decide) (gh.slt hi) (gh.d i hi)
 k_dflt refine' aT (aP (λ_=>rfl) (kK (dB G cZ rfl ht)) (k9 (λ_ _=>rfl) (aa cZ rfl L.n) (aa cZ rfl hn) gh.n (gh.look hi)) w)
theorem DM(G:c.Go):∀(rest:List Nat){l:List (Str×AV)}{H:List AO}{np:Nat→Int},G4 l S N T→H[T]?=some (.tuple vs)→GH c H N ord np su pi pd ps→(∀i∈rest,i∈ord)→
  ∃l' H',(∀pp:Pos,fg c oM k (fM T vs) (.Name "node" pp) nS (be rest) ⟨l,H⟩ .next ⟨l',H'⟩)∧G4 l' S N T∧GH c H' N ord (mU np rest) su pi pd ps∧w9 ord pi H H':=by
 intro rest
 induction rest with
 |nil=>
  intro l H np L hT gh _
  exact dP l H (λ_=>.nil hT) L gh λy o h _=>h
 |cons i rest ih=>
  intro l H np L hT gh ho
  have tp:∀j∈ord,T≠pi j:= λj hj q=>by have:=gh.i j hj;rw[←q,hT]at this;cases this
  refine bp λGz kz=>?_
  refine br (CZ (k:=k) (l:=aR "node" (.str (nm i)) l) G (L.put _) (aj _ _ _) gh (ho i (.head _))) λH1 e1 g1 k1=>?_
  refine cU (ih (L.put (.str (nm i))) (k1 _ _ hT tp) g1 λj hj=>ho j (.tail _ hj)) λl2 H2 e2 L2 g2 k2=>?_
  refine kz ?_
  refine dP l2 H2 ?_ L2 g2 λy o h hy=>k2 y o (k1 y o h hy) hy
  generalize nS=bdy at e1 e2 ⊢
  exact λpp=>fg.next (a:=.str (nm i)) (rest:=be rest) (σ₁:=⟨aR "node" (.str (nm i)) l,H⟩) hT (.inl rfl) (bg cZ rfl) e1 (e2 pp)
def sW(D R:Nat)(ord:List Nat)(pi:Nat→Nat)(H H':List AO):Prop:=∀(y:Nat)(o:AO),H[y]?=some o→y≠D→y≠R→(∀i∈ord,y≠pi i)→H'[y]?=some o
theorem GH.keepO(gh:GH c H N ord np su pi pd ps)(h:∀(y:Nat)(o:AO),H[y]?=some o→(y=N∨∃i∈ord,y=pi i∨y=pd i∨y=ps i)→H'[y]?=some o):GH c H' N ord np su pi pd ps:=
 ⟨gh.n.keep λo e=>h _ _ e (.inl rfl),λi hi=>h _ _ (gh.i i hi) (.inr (al i hi (.inl rfl))),λi hi=>h _ _ (gh.d i hi) (.inr (al i hi (.inr (.inl rfl)))),λi hi=>h _ _ (gh.s i hi) (.inr (al i hi (.inr (.inr rfl)))),gh.ji,gh.js,gh.ni,gh.b,gh.nd⟩
theorem GH.setO(gh:GH c H N ord np su pi pd ps){y:Nat}{z:AO}(h:y≠N∧∀i∈ord,y≠pi i∧y≠pd i∧y≠ps i):GH c (H.set y z) N ord np su pi pd ps:=
 gh.keepO λx o e hx=>ak e (by
  rcases hx with rfl|⟨i,hi,rfl|rfl|rfl⟩
  ·exact λq=>h.1 q.symm
  ·exact λq=>(h.2 i hi).1 q.symm
  ·exact λq=>(h.2 i hi).2.1 q.symm
  ·exact λq=>(h.2 i hi).2.2 q.symm)
theorem SO.noG(x:SO H S D N rd po fi)(gh:GH c H N ord np su pi pd ps):D≠N∧∀i∈ord,D≠pi i∧D≠pd i∧D≠ps i:=by
 have dd:=x.d
 refine⟨?_,λi hi=>⟨λq=>?_,λq=>?_,λq=>?_⟩⟩
 ·rintro rfl;refine cc (gh.n.is) λP hP=>?_;rw[hP]at dd;cases dd
 ·have:=gh.i i hi;rw[←q,dd]at this;cases this
 ·have:=gh.d i hi;rw[←q,dd]at this;cases this
 ·have:=gh.s i hi;rw[←q,dd]at this;cases this
theorem Im(G:c.Go)(x:SO H S D N (.obj R) po fi)(gh:GH c H N ord np su pi pd ps){rs:List Nat}(hR:H[R]?=some (.list (be rs)))(hRg:∀i∈ord,R≠ps i)(ho:∀i∈rs,i∈ord)(hl:rs.length≤5):
  ∃H' T,Fn c (k+101) (.ref 129) [.obj S] [] H (.obj T) H'∧H'[T]?=some (.tuple (be rs))∧H.length≤T∧SO H' S D N (.obj R) (po+rs.length) fi∧GH c H' N ord (mU np rs) su pi pd ps∧H'[R]?=some (.list [])∧sW D R ord pi H H':=by
 refine bp λGz kz=>?_
 refine bb (H++[AO.tuple (be rs)]) λH1 e1=>?_
 have ex1:bW H H1:= λy o h=>by rw[e1];exact aB h
 have hT:H1[H.length]?=some (.tuple (be rs)):=by rw[e1];exact aO
 have x1:SO H1 S D N (.obj R) po fi:=⟨ex1 _ _ x.s,ex1 _ _ x.d⟩
 have g1:=gh.ext ex1
 let l0:List (Str×AV):=[("self",.obj S)]
 let l1:List (Str×AV):=aR ("result":Str) (.obj H.length) l0
 let l2:List (Str×AV):=aR ("n2i":Str) (.obj N) l1
 refine cU (DM (k:=k+100) (l:=l2) (T:=H.length) (S:=S) G rs ⟨rfl,rfl,rfl⟩ hT g1 ho) λl' H2 lp L2 g2 k2=>?_
 have no1:=x1.noG g1
 have sN:∀i∈ord,S≠pi i:= λi hi q=>by have:=g1.i i hi;rw[←q,x1.s]at this;cases this
 have rN:∀i∈ord,R≠pi i:= λi hi q=>by have:=gh.i i hi;rw[←q,hR]at this;cases this
 have tN:∀i∈ord,H.length≠pi i:= λi hi q=>by have:=g1.i i hi;rw[←q,hT]at this;cases this
 have x2:SO H2 S D N (.obj R) po fi:=⟨k2 _ _ x1.s sN,k2 _ _ x1.d λi hi=>(no1.2 i hi).1⟩
 have hR2:H2[R]?=some (.list (be rs)):=k2 _ _ (ex1 _ _ hR) rN
 have rd:R≠D:=by rintro rfl;have:=x2.d;rw[hR2]at this;cases this
 have rs':S≠R:=by rintro rfl;have:=x2.s;rw[hR2]at this;cases this
 have sd:S≠D:=by rintro rfl;have:=x2.s;rw[x2.d]at this;cases this
 refine bb (H2.set R (.list [])) λH3 e3=>?_
 have x3:SO H3 S D N (.obj R) po fi:=⟨by rw[e3];exact ak x2.s rs',by rw[e3];exact ak x2.d (Ne.symm rd)⟩
 have g3:GH c H3 N ord (mU np rs) su pi pd ps:=by
  rw[e3]
  refine g2.setO ⟨?_,λi hi=>⟨rN i hi,λq=>?_,hRg i hi⟩⟩
  ·rintro rfl;refine cc (g2.n.is) λP hP=>?_;rw[hP]at hR2;cases hR2
  ·have:=g2.d i hi;rw[←q,hR2]at this;cases this
 refine bb (H3.set D (.dict (xh N (.obj R) (po+rs.length) fi))) λH4 e4=>?_
 refine kz ?_
 have dl:=aq x3.d
 have x4:SO H4 S D N (.obj R) (po+rs.length) fi:=⟨by rw[e4];exact ak x3.s sd,by rw[e4];exact bF dl⟩
 have k14:∀(y:Nat)(o:AO),H1[y]?=some o→y≠D→y≠R→(∀i∈ord,y≠pi i)→H4[y]?=some o:= λy o h a b d=>by rw[e4,e3];exact ak (ak (k2 y o h d) b) a
 have tl:H.length≠D:=by have:=aq x.d;lia
 have tr:H.length≠R:=by have:=aq hR;lia
 refine⟨H4,H.length,?_,k14 _ _ hT tl tr tN,ZA _,x4,?_,?_,λy o h a b d=>k14 y o (ex1 y o h) a b d⟩
 ·refine dh (fl:=.ret (.obj H.length)) (loc:=l0) G (E9 _) (by w_on) (by w_on) (λρ m s xs ks X hx hk=>?_) ?_
  ·refine mC hx hk λ_ hx=>?_
   refine al [("self",_)] (@bB _ _ _ _ _ X ?_) (.cons hx .nil)
   exact H7 _ _
  ·apply aK (loc:=l')
   have lR:(be rs).length<1000:=by simp[be];lia
   have ot:cK c oM (k+100) (λxs=>call (.type "tuple") xs) [.obj R] ⟨l0,H⟩ (.obj H.length) ⟨l0,H1⟩:=by
    rw[e1];exact Ai (σ:=⟨l0,H⟩) hR lR
   have oc:cK c oM (k+100) (λxs=>call (.builtin "list.clear") xs) [.obj R] ⟨l',H2⟩ .none ⟨l',H3⟩:=by
    rw[e3];exact Cw (σ:=⟨l',H2⟩) hR2 lR
   have sp:=cJ (c:=c) (F:=oM) (k:=k+100) (σ:=⟨l',H3⟩) (v:=.int (po+rs.length)) G (eM _) x3.s x3.d (of_decide_eq_true (by w_on)) (tg _)
   rw[show(St.H ⟨l',H3⟩).set D (.dict (aR "_npassedout" (.int (po+rs.length)) (xh N (.obj R) po fi)))=H4 from e4.symm]at sp
   have hT3:H3[H.length]?=some (.tuple (be rs)):=by rw[e3];exact ak (k2 _ _ hT tN) tr
   have ln:=vY (c:=c) (F:=oM) (k:=k+100) (σ:=⟨l',H3⟩) (vs:=be rs) lR hT3
   rw[show(be rs).length=rs.length by simp[be]]at ln
   have fr:∀{p1 p2 p3:Pos},Ex c oM (k+100) (.For (.Name "node" p1) (.Name "result" p2) nS [] p3) ⟨l2,H1⟩ .next ⟨l',H2⟩:= λ{p1 p2 p3}=>by
    have lp1:=lp p1
    generalize nS=bdy at lp1 ⊢
    exact gu (I:=fM H.length (be rs)) G.ok fW (λ_ _=>rfl) (λ_ _=>rfl) (by lia) (aa cZ rfl rfl) (kZ hT) lp1
   k_dflt refine' ae (aL (t:=false) (av rfl (cb G cZ rfl rfl x rfl rfl (iP _)) bv (bP rfl)) ar) (ae (aw (σ₁:=⟨l0,H1⟩) cZ rfl (λ_=>rfl) (cQ (λ_=>rfl) (λ_=>rfl) (di G cZ rfl (Di _) A5) (af λ_=>rfl) (am (λ_=>rfl) (cb G cZ rfl rfl x rfl rfl (iP _)) au) ot)) (ae (aw (σ₁:=⟨l1,H1⟩) cZ rfl (λ_=>rfl) (cb G cZ rfl rfl x1 rfl rfl (i9 _))) (ae fr (ae (cu (F:=oM) (v:=.none) F1 (λ_=>rfl) (d9 (λ_=>rfl) (cb G cZ rfl L2.s x2 rfl rfl (iP _)) (dp PySem.F.slot_list_clear PySem.F.type_list_clear hR2) aU au oc)) (ae (eN (aa cZ rfl L2.s) (bY G (eM _) x3.s x3.d rfl rfl (tg _)) (dA (λ_=>rfl) (λ_=>rfl) (di G cZ rfl (sE _) oS) (af λ_=>rfl) (am (λ_=>rfl) (aa cZ rfl L2.t) au) ln) eX sp) (bx (aX (aa cZ rfl L2.t))))))))
 ·rw[e4];exact g3.setO (x3.noG g3)
 ·rw[e4,e3];exact ak (bF (aq hR2)) rd
end
noncomputable def je:Fs:=⟨zW,[]⟩
theorem bE:je.scope.kind=.function:=by w_on
theorem FX:∀env:Env,env.scope=je.scope→interactive env=false:= λenv he=>by
 unfold interactive
 rw[he]
 rfl
noncomputable def mf:=cV Ce 2
noncomputable def ph:=cV mf 4
noncomputable def kc(s:(Nat→Int)×List Nat)(j:Nat):(Nat→Int)×List Nat:=(iT s.1 j (s.1 j - 1),if s.1 j - 1==0 then s.2++[j]else s.2)
noncomputable def oi(su:Nat→List Nat)(s:(Nat→Int)×List Nat)(i:Nat):(Nat→Int)×List Nat:=(su i).foldl kc (iT s.1 i (-2),s.2)
noncomputable def jZ(su:Nat→List Nat)(s:(Nat→Int)×List Nat)(rs:List Nat):(Nat→Int)×List Nat:=rs.foldl (oi su) s
structure yR(l:List (Str×AV))(S N T:Nat):Prop where
 s:l.lookup ("self":Str)=some (.obj S)
 n:l.lookup ("n2i":Str)=some (.obj N)
 t:l.lookup ("nodes":Str)=some (.obj T)
theorem yR.put{l:List (Str×AV)}{S N T:Nat}(h:yR l S N T){x:Str}(a:AV)(hx:x="node"∨x="nodeinfo"∨x="stat"∨x="successor"∨x="successor_info"):yR (aR x a l) S N T:=by
 rcases hx with rfl|rfl|rfl|rfl|rfl<;>exact⟨dR h.s,dR h.n,dR h.t⟩
def wS(R:Nat)(ord:List Nat)(pi:Nat→Nat)(H H':List AO):Prop:=∀(y:Nat)(o:AO),H[y]?=some o→y≠R→(∀i∈ord,y≠pi i)→H'[y]?=some o
section
variable{R:Nat}{rd:List Nat}{s:(Nat→Int)×List Nat}
theorem pW{x y:Int}:dz c F k (inplaceOp .Sub) (.int x) (.int y) σ (.int (x - y)) σ:=
 c9 λA ρ n s Q E p q hp hq z=>by refine ma hp λu=>?_;refine ma hq λw=>?_;exact P.isub_int (z _ _ ⟨_,rfl⟩)
structure DS(c:Cx)(H:List AO)(S D N R:Nat)(po fi:Int)(ord:List Nat)(np:Nat→Int)(rd:List Nat)(su:Nat→List Nat)(pi pd ps:Nat→Nat):Prop where
 x:SO H S D N (.obj R) po fi
 g:GH c H N ord np su pi pd ps
 r:H[R]?=some (.list (be rd))
 n:∀i∈ord,R≠ps i
theorem DS.rN(d:DS c H S D N R po fi ord np rd su pi pd ps):R≠N∧R≠D∧R≠S∧∀i∈ord,R≠pi i∧R≠pd i∧R≠ps i:=by
 have h:=d.r
 refine⟨?_,?_,?_,λi hi=>⟨λq=>?_,λq=>?_,d.n i hi⟩⟩
 ·rintro rfl;refine cc (d.g.n.is) λP hP=>?_;rw[hP]at h;cases h
 ·rintro rfl;have:=d.x.d;rw[this]at h;cases h
 ·rintro rfl;have:=d.x.s;rw[this]at h;cases h
 ·have:=d.g.i i hi;rw[←q,h]at this;cases this
 ·have:=d.g.d i hi;rw[←q,h]at this;cases this
theorem DS.sN(d:DS c H S D N R po fi ord np rd su pi pd ps):∀i∈ord,S≠pi i∧D≠pi i:= λi hi=>⟨(λq=>by have:=d.g.i i hi;rw[←q,d.x.s]at this;cases this),(λq=>by have:=d.g.i i hi;rw[←q,d.x.d]at this;cases this)⟩
theorem DS.setnp(d:DS c H S D N R po fi ord np rd su pi pd ps)(hi:i∈ord)(v:Int):DS c (H.set (pi i) (m9 70 (pd i) [some (.str (nm i)),some (.int v),some (.obj (ps i))])) S D N R po fi ord (iT np i v) rd su pi pd ps:=
 ⟨⟨ak d.x.s (d.sN i hi).1,ak d.x.d (d.sN i hi).2⟩,(d.g.setnp hi v).1,ak d.r (d.rN.2.2.2 i hi).1,d.n⟩
theorem DS.setr(d:DS c H S D N R po fi ord np rd su pi pd ps)(rd':List Nat):DS c (H.set R (.list (be rd'))) S D N R po fi ord np rd' su pi pd ps:=
 ⟨⟨ak d.x.s (Ne.symm d.rN.2.2.1),ak d.x.d (Ne.symm d.rN.2.1)⟩,d.g.setO ⟨d.rN.1,d.rN.2.2.2⟩,bF (aq d.r),d.n⟩
theorem uV(G:c.Go)(L:yR l S N T)(hn:l.lookup ("successor":Str)=some (.str (nm j)))(d:DS c H S D N R po fi ord s.1 s.2 su pi pd ps)(hj:j∈ord)(hl:s.2.length<900):
  ∃l' H',dI c je k ph ⟨l,H⟩ .next ⟨l',H'⟩∧yR l' S N T∧DS c H' S D N R po fi ord (kc s j).1 (kc s j).2 su pi pd ps∧wS R ord pi H H':=by
 have d1:=d.setnp hj (s.1 j - 1)
 refine bb (H.set (pi j) (m9 70 (pd j) [some (.str (nm j)),some (.int (s.1 j - 1)),some (.obj (ps j))])) λH1 e1=>?_
 rw[←e1]at d1
 let l1:List (Str×AV):=aR ("successor_info":Str) (.obj (pi j)) l
 have L1:yR l1 S N T:=L.put _ (by simp)
 have li:l1.lookup ("successor_info":Str)=some (.obj (pi j)):=aj _ _ _
 have ln:l1.lookup ("successor":Str)=some (.str (nm j)):=by show(aR _ _ l).lookup _=_;rw[bV _ _ _ (by decide)];exact hn
 have k1:wS R ord pi H H1:= λy o h _ hy=>by rw[e1];exact ak h (hy j hj)
 have w:=fH (c:=c) (F:=je) (k:=k) (σ:=⟨l1,H⟩) (v:=.int (s.1 j - 1)) G (jh _) (by decide) (d.g.slt hj) (d.g.d j hj)
 rw[show(St.H ⟨l1,H⟩).set (pi j) (m9 70 (pd j) (fh [some (.str (nm j)),some (.int (s.1 j)),some (.obj (ps j))] 1 (.int (s.1 j - 1))))=H1 by rw[e1];rfl]at w
 have sl1:=d1.g.slt hj
 rw[bz]at sl1
 have tst:∀{t:Bool}{p1 p2 p3 p4:Pos}{q:Nat},(s.1 j - 1==0)=t→fR (.Name "successor_info" p1) "npredecessors" p2→Te c je k (.Compare (.Attribute (.Name "successor_info" p1) "npredecessors" p2) [.Eq] [.Constant (.int 0) q p3] p4) ⟨l1,H1⟩ t ⟨l1,H1⟩:= λht ha=>
  av rfl (bC ha (aa bE rfl li) (dJ G (jh _) sl1 (d1.g.d j hj) rfl rfl)) aJ (qR ht)
 by_cases z:(s.1 j - 1==0)=true
 ·have e:kc s j=(iT s.1 j (s.1 j - 1),s.2++[j]):=by unfold kc;rw[if_pos z]
  rw[e]
  refine dP l1 (H1.set R (.list (be (s.2++[j])))) ?_ L1 (d1.setr _) λy o h a b=>ak (k1 y o h a b) a
  have oa:cK c je k (λxs=>call (.builtin "list.append") xs) [.obj R,.str (nm j)] ⟨l1,H1⟩ .none ⟨l1,H1.set R (.list (be (s.2++[j])))⟩:=by
   have z:=eQ (c:=c) (F:=je) (k:=k) (σ:=⟨l1,H1⟩) (v:=.str (nm j)) d1.r (by simp[be];lia)
   rw[show be (s.2++[j])=be s.2++[.str (nm j)]by simp[be]]
   exact z
  k_dflt refine' ae (aw (σ₁:=⟨l,H⟩) bE rfl (λ_=>rfl) (k9 (λ_ _=>rfl) (aa bE rfl L.n) (aa bE rfl hn) d.g.n (d.g.look hj))) (ae (eN (aa bE rfl li) (dJ G (jh _) (d.g.slt hj) (d.g.d j hj) rfl rfl) aJ pW w) (aT (aL (t:=true) (tst z (λ_=>by k_dflt rfl)) (aT (cu (F:=je) (v:=.none) FX (λ_=>rfl) (d9 (λ_=>rfl) (cb G bE rfl L1.s d1.x rfl rfl (iP _)) (dp slot_list_append type_list_append d1.r) (af λ_=>rfl) (am (λ_=>rfl) (aa bE rfl ln) au) oa))))))
 ·have e:kc s j=(iT s.1 j (s.1 j - 1),s.2):=by unfold kc;rw[if_neg z]
  rw[e]
  refine dP l1 H1 ?_ L1 d1 k1
  k_dflt refine' ae (aw (σ₁:=⟨l,H⟩) bE rfl (λ_=>rfl) (k9 (λ_ _=>rfl) (aa bE rfl L.n) (aa bE rfl hn) d.g.n (d.g.look hj))) (ae (eN (aa bE rfl li) (dJ G (jh _) (d.g.slt hj) (d.g.d j hj) rfl rfl) aJ pW w) (aT (aL (t:=false) (tst (by simpa using z) (λ_=>by k_dflt rfl)) ar)))
end
theorem BJ(x:Value)(S:Setting)(D:Addr):kT (Kx P) S D (bindArgs (dw P 150) ⟨x::[],[]⟩)=some ([{cls:=.type "tuple",data:=.seq #[]}],[(("self":Str),x),(("nodes":Str),.ref D)]):=by w_on
theorem Bb(x a:Value)(S:Setting)(D:Addr):kT (Kx P) S D (bindArgs (dw P 150) ⟨x::[a],[]⟩)=some ([{cls:=.type "tuple",data:=.seq #[a]}],[(("self":Str),x),(("nodes":Str),.ref D)]):=by w_on
theorem zU(x a b:Value)(S:Setting)(D:Addr):kT (Kx P) S D (bindArgs (dw P 150) ⟨x::[a,b],[]⟩)=some ([{cls:=.type "tuple",data:=.seq #[a,b]}],[(("self":Str),x),(("nodes":Str),.ref D)]):=by w_on
theorem zD(x a b d:Value)(S:Setting)(D:Addr):kT (Kx P) S D (bindArgs (dw P 150) ⟨x::[a,b,d],[]⟩)=some ([{cls:=.type "tuple",data:=.seq #[a,b,d]}],[(("self":Str),x),(("nodes":Str),.ref D)]):=by w_on
theorem Co(x a b d e:Value)(S:Setting)(D:Addr):kT (Kx P) S D (bindArgs (dw P 150) ⟨x::[a,b,d,e],[]⟩)=some ([{cls:=.type "tuple",data:=.seq #[a,b,d,e]}],[(("self":Str),x),(("nodes":Str),.ref D)]):=by w_on
theorem A7(x a b d e f:Value)(S:Setting)(D:Addr):kT (Kx P) S D (bindArgs (dw P 150) ⟨x::[a,b,d,e,f],[]⟩)=some ([{cls:=.type "tuple",data:=.seq #[a,b,d,e,f]}],[(("self":Str),x),(("nodes":Str),.ref D)]):=by w_on
theorem DG(x:Value)(S:Setting)(D:Addr):∀(ys:List Value),ys.length≤5→kT (Kx P) S D (bindArgs (dw P 150) ⟨x::ys,[]⟩)=some ([{cls:=.type "tuple",data:=.seq ys.toArray}],[(("self":Str),x),(("nodes":Str),.ref D)])
 | [],_=>BJ P x S D
 | [a],_=>Bb P x a S D
 | [a,b],_=>zU P x a b S D
 | [a,b,d],_=>zD P x a b d S D
 | [a,b,d,e],_=>Co P x a b d e S D
 | [a,b,d,e,f],_=>A7 P x a b d e f S D
 |_::_::_::_::_::_::_,h=>by simp at h
noncomputable def pS(su:Nat→List Nat):(Nat→Int)×List Nat→List Nat→Prop
 |_,[]=>True
 |s,i::r=>s.1 i= -1∧pS su (oi su s i) r
theorem wM(s:(Nat→Int)×List Nat)(j:Nat):(kc s j).2.length≤s.2.length+1:=by
 unfold kc
 split<;>simp
theorem tB:∀(js:List Nat)(s:(Nat→Int)×List Nat),(js.foldl kc s).2.length≤s.2.length+js.length
 | [],s=>ZA _
 |j::js,s=>by
  have:=tB js (kc s j)
  have:=wM s j
  simp only[Zv,Zk]
  lia
section
variable{R:Nat}{rd:List Nat}{s:(Nat→Int)×List Nat}
theorem uo(G:c.Go)(hi:i∈ord):∀(rest:List Nat){l:List (Str×AV)}{H:List AO}{s:(Nat→Int)×List Nat},yR l S N T→DS c H S D N R po fi ord s.1 s.2 su pi pd ps→(∀j∈rest,j∈ord)→s.2.length+rest.length<900→
  ∃l' H',(∀pp:Pos,fg c je k (aQ (ps i) ((su i).map λj=>.str (nm j))) (.Name "successor" pp) ph (be rest) ⟨l,H⟩ .next ⟨l',H'⟩)∧yR l' S N T∧DS c H' S D N R po fi ord (rest.foldl kc s).1 (rest.foldl kc s).2 su pi pd ps∧wS R ord pi H H':=by
 intro rest
 induction rest with
 |nil=>
  intro l H s L d _ _
  exact dP l H (λ_=>.nil (d.g.s i hi)) L d λy o h _ _=>h
 |cons j rest ih=>
  intro l H s L d ho hl
  refine bp λGz kz=>?_
  refine cU (uV (k:=k) (l:=aR "successor" (.str (nm j)) l) G (L.put _ (by simp)) (aj _ _ _) d (ho j (.head _)) (by simp at hl;lia)) λl1 H1 e1 L1 d1 k1=>?_
  refine cU (ih (s:=kc s j) L1 d1 (λx hx=>ho x (.tail _ hx)) (by have:=wM s j;simp at hl ⊢;lia)) λl2 H2 e2 L2 d2 k2=>?_
  refine kz ?_
  refine dP l2 H2 ?_ L2 d2 λy o h a b=>k2 y o (k1 y o h a b) a b
  generalize ph=bdy at e1 e2 ⊢
  exact λpp=>fg.next (a:=.str (nm j)) (rest:=be rest) (σ₁:=⟨aR "successor" (.str (nm j)) l,H⟩) (d.g.s i hi) (.inl rfl) (bg bE rfl) e1 (e2 pp)
theorem DS.fin(d:DS c H S D N R po fi ord np rd su pi pd ps)(fi':Int):DS c (H.set D (.dict (xh N (.obj R) po fi'))) S D N R po fi' ord np rd su pi pd ps:=by
 have no:=d.x.noG d.g
 have sd:S≠D:=by rintro rfl;have:=d.x.s;rw[d.x.d]at this;cases this
 exact⟨⟨ak d.x.s sd,bF (aq d.x.d)⟩,d.g.setO no,ak d.r d.rN.2.1,d.n⟩
theorem DN(G:c.Go)(h100:100≤k)(L:yR l S N T)(hn:l.lookup ("node":Str)=some (.str (nm i)))(d:DS c H S D N R po fi ord s.1 s.2 su pi pd ps)(hi:i∈ord)(ho:s.1 i= -1)(hsu:∀j∈su i,j∈ord)(hl:s.2.length+(su i).length<900):
  ∃l' H',dI c je k mf ⟨l,H⟩ .next ⟨l',H'⟩∧yR l' S N T∧DS c H' S D N R po (fi+1) ord (oi su s i).1 (oi su s i).2 su pi pd ps∧sW D R ord pi H H':=by
 let l1:List (Str×AV):=aR ("nodeinfo":Str) (.obj (pi i)) l
 let l2:List (Str×AV):=aR ("stat":Str) (.int (s.1 i)) l1
 have L1:yR l1 S N T:=L.put _ (by simp)
 have L2:yR l2 S N T:=L1.put _ (by simp)
 have i1:l1.lookup ("nodeinfo":Str)=some (.obj (pi i)):=aj _ _ _
 have i2:l2.lookup ("nodeinfo":Str)=some (.obj (pi i)):=by show(aR _ _ l1).lookup _=_;rw[bV _ _ _ (by decide)];exact i1
 have t2:l2.lookup ("stat":Str)=some (.int (s.1 i)):=aj _ _ _
 have d1:=d.setnp hi (-2)
 refine bp λGz kz=>?_
 refine bb (H.set (pi i) (m9 70 (pd i) [some (.str (nm i)),some (.int (-2)),some (.obj (ps i))])) λH1 e1=>?_
 rw[←e1]at d1
 have k1:wS R ord pi H H1:= λy o h _ hy=>by rw[e1];exact ak h (hy i hi)
 refine cU (uo (k:=k) (s:=(iT s.1 i (-2),s.2)) G hi (su i) L2 d1 hsu hl) λl' H2 lp L3 d2 k2=>?_
 have d3:=d2.fin (fi+1)
 refine bb (H2.set D (.dict (xh N (.obj R) po (fi+1)))) λH3 e3=>?_
 refine kz ?_
 rw[←e3]at d3
 refine dP l' H3 ?_ L3 d3 λy o h a b d=>by rw[e3];exact ak (k2 y o (k1 y o h b d) b d) a
 refine cc (E5 c.w.params) λt ht=>?_
 refine cc (Fo c.w.params) λt' ht'=>?_
 have lk:=d.g.look hi
 have w:=fH (c:=c) (F:=je) (k:=k) (σ:=⟨l2,H⟩) (v:=.int (-2)) G (jh _) (by decide) (d.g.slt hi) (d.g.d i hi)
 rw[show(St.H ⟨l2,H⟩).set (pi i) (m9 70 (pd i) (fh [some (.str (nm i)),some (.int (s.1 i)),some (.obj (ps i))] 1 (.int (-2))))=H1 by rw[e1];rfl]at w
 have tw:∀{p1 p2 p3 p4 p5 p6:Pos},(∀env,eval (.Call (.Attribute (.Name "n2i" p1) "get" p3) [.Name "node" p4] [] p5) env=(do
   let ov←eval (.Name "n2i" p1) env
   standAt p3.atName
   let(f,first)←holding [ov] (getMethod ov "get" (gD (.Name "n2i" p1) env))
   callWith p5 f first (backTo p5 (starEach [.Name "node" p4] env)) []))→Ev c je k (.NamedExpr (.Name "nodeinfo" p6) (.Call (.Attribute (.Name "n2i" p1) "get" p3) [.Name "node" p4] [] p5) p2) ⟨l,H⟩ (.obj (pi i)) ⟨l1,H⟩:= λ{p1 p2 p3 p4 p5 p6} he=>
  oR (σ₁:=⟨l,H⟩) (d9 he (aa bE rfl L.n) (qn PySem.F.slot_dict_get PySem.F.type_dict_get d.g.n) (af λ_=>rfl) (am (λ_=>rfl) (aa bE rfl hn) au) (rK d.g.n (by rw[lk];rfl))) (bg bE rfl)
 have sf:=cJ (c:=c) (F:=je) (k:=k) (σ:=⟨l',H2⟩) (v:=.int (fi+1)) G (eM _) d2.x.s d2.x.d (of_decide_eq_true (by w_on)) (sX _)
 rw[show(St.H ⟨l',H2⟩).set D (.dict (aR "_nfinished" (.int (fi+1)) (xh N (.obj R) po fi)))=H3 from e3.symm]at sf
 have sl1:=d1.g.slt hi
 have fr:∀{p1 p2 p3 p4:Pos},fR (.Name "nodeinfo" p2) "successors" p3→Ex c je k (.For (.Name "successor" p1) (.Attribute (.Name "nodeinfo" p2) "successors" p3) ph [] p4) ⟨l2,H1⟩ .next ⟨l',H2⟩:= λ{p1 p2 p3 p4} ha=>by
  have lp1:=lp p1
  generalize ph=bdy at lp1 ⊢
  exact gu (I:=aQ (ps i) ((su i).map λj=>.str (nm j))) G.ok az (λ_ _=>rfl) (λ_ _=>rfl) h100 (bC ha (aa bE rfl i2) (dJ G (wP _) sl1 (d1.g.d i hi) rfl rfl)) (d6 (d1.g.s i hi)) lp1
 have st:∀{p1 p2 p3 p4:Pos},fR (.Name "nodeinfo" p2) "npredecessors" p3→(∀env,swapsWith (.Attribute (.Name "nodeinfo" p2) "npredecessors" p3) (some (.Name "stat" p1)) p4.line env=pure false)→Ex c je k (.Assign [.Name "stat" p1] (.Attribute (.Name "nodeinfo" p2) "npredecessors" p3) p4) ⟨l1,H⟩ .next ⟨l2,H⟩:= λ{p1 p2 p3 p4} ha hs=>
  aw (σ₁:=⟨l1,H⟩) bE rfl hs (bC ha (aa bE rfl i1) (dJ G (jh _) (d.g.slt hi) (d.g.d i hi) rfl rfl))
 generalize eb:ph=bdy at fr
 k_dflt refine' ae (aL (t:=false) (av rfl (tw (λ_=>rfl)) bv (bP rfl)) ar) (ae (st (λ_=>by k_dflt rfl) (λ_=>rfl)) (ae (aL (t:=false) (av rfl (aa bE rfl t2) (kK (dB G bE rfl ht)) (DC (by rw[ho];rfl))) ar) (ae (aP (λ_=>rfl) (kK (dB G bE rfl ht')) (aa bE rfl i2) w) (ae ?_ (aT (eN (aa bE rfl L3.s) (bY G (eM _) d2.x.s d2.x.d rfl rfl (sX _)) aJ eX sf))))))
 subst eb
 exact fr (λ_=>by k_dflt rfl)
end
section
variable{R:Nat}{rd:List Nat}
theorem Cd(su:Nat→List Nat)(hz:∀i,(su i).length≤100)(s:(Nat→Int)×List Nat)(i:Nat):(oi su s i).2.length≤s.2.length+100:=by
 have:=tB (su i) (iT s.1 i (-2),s.2)
 have:=hz i
 show((su i).foldl kc (iT s.1 i (-2),s.2)).2.length≤_
 simp at*;lia
theorem EC(G:c.Go)(h100:100≤k)(hsu:∀i∈ord,∀j∈su i,j∈ord)(hz:∀i,(su i).length≤100):∀(rest:List Nat){l:List (Str×AV)}{H:List AO}{s:(Nat→Int)×List Nat}{fi:Int},yR l S N T→H[T]?=some (.tuple vs)→DS c H S D N R po fi ord s.1 s.2 su pi pd ps→(∀i∈rest,i∈ord)→pS su s rest→s.2.length+100*rest.length<800→
  ∃l' H',(∀pp:Pos,fg c je k (fM T vs) (.Name "node" pp) mf (be rest) ⟨l,H⟩ .next ⟨l',H'⟩)∧DS c H' S D N R po (fi+rest.length) ord (jZ su s rest).1 (jZ su s rest).2 su pi pd ps∧sW D R ord pi H H':=by
 intro rest
 induction rest with
 |nil=>
  intro l H s fi L hT d _ _ _
  exact fq l H (λ_=>.nil hT) (by rw[show fi+(([]:List Nat).length:Nat)=fi by simp];exact d) λy o h _ _ _=>h
 |cons i rest ih=>
  intro l H s fi L hT d ho oo hl
  have hi:=ho i (.head _)
  have zi:=hz i
  refine bp λGz kz=>?_
  refine cU (DN (l:=aR "node" (.str (nm i)) l) G h100 (L.put _ (by simp)) (aj _ _ _) d hi oo.1 (hsu i hi) (by simp at hl;lia)) λl1 H1 e1 L1 d1 k1=>?_
  have t1:H1[T]?=some (.tuple vs):=k1 _ _ hT (by rintro rfl;have:=d.x.d;rw[hT]at this;cases this) (by rintro rfl;have:=d.r;rw[hT]at this;cases this) λj hj q=>by have:=d.g.i j hj;rw[←q,hT]at this;cases this
  refine cj (ih (s:=oi su s i) L1 t1 d1 (λx hx=>ho x (.tail _ hx)) oo.2 (by have:=Cd su hz s i;simp at hl ⊢;lia)) λl2 H2 e2 d2 k2=>?_
  refine kz ?_
  refine fq l2 H2 ?_ ?_ λy o h a b d=>k2 y o (k1 y o h a b d) a b d
  ·generalize mf=bdy at e1 e2 ⊢
   exact λpp=>fg.next (a:=.str (nm i)) (rest:=be rest) (σ₁:=⟨aR "node" (.str (nm i)) l,H⟩) hT (.inl rfl) (bg bE rfl) e1 (e2 pp)
  ·have:fi+((i::rest).length:Nat)=fi+1+(rest.length:Nat):=by simp;lia
   rw[this];exact d2
theorem Dg(G:c.Go){rs:List Nat}(d:DS c H S D N R po fi ord np rd su pi pd ps)(hsu:∀i∈ord,∀j∈su i,j∈ord)(hz:∀i,(su i).length≤100)(ho:∀i∈rs,i∈ord)(oo:pS su (np,rd) rs)(hr:rs.length≤5)(hd:rd.length<100):
  ∃H',Fn c (k+101) (.ref 150) (.obj S::be rs) [] H .none H'∧DS c H' S D N R po (fi+rs.length) ord (jZ su (np,rd) rs).1 (jZ su (np,rd) rs).2 su pi pd ps∧sW D R ord pi H H':=by
 refine bp λGz kz=>?_
 refine bb (H++[AO.tuple (be rs)]) λH1 e1=>?_
 have ex1:bW H H1:= λy o h=>by rw[e1];exact aB h
 have hT:H1[H.length]?=some (.tuple (be rs)):=by rw[e1];exact aO
 have d1:DS c H1 S D N R po fi ord np rd su pi pd ps:=⟨⟨ex1 _ _ d.x.s,ex1 _ _ d.x.d⟩,d.g.ext ex1,ex1 _ _ d.r,d.n⟩
 let l0:List (Str×AV):=[("self",.obj S),("nodes",.obj H.length)]
 let l1:List (Str×AV):=aR ("n2i":Str) (.obj N) l0
 refine cj (EC (k:=k+100) (l:=l1) (T:=H.length) (s:=(np,rd)) G (by lia) hsu hz rs ⟨rfl,rfl,rfl⟩ hT d1 ho oo (by simp;lia)) λl' H2 lp d2 k2=>?_
 refine kz ?_
 refine bO H2 ?_ d2 λy o h a b d=>k2 y o (ex1 y o h) a b d
 have bd:iX c (dw c.w.params 150) ([.obj S]++be rs) [] H ([(("self":Str),.obj S)]++[(("nodes":Str),.obj H.length)]) (H++[.tuple (be rs)]):=mJ G.ok λρ n xs ys hx hy=>by
  refine lW hx λ_ hx=>?_
  refine al _ (.cons hx .nil) λS D=>?_
  rw[G.hK]
  exact DG _ _ _ _ _ (by show ys.length≤5;rw[hy];simpa[be]using hr)
 rw[←e1]at bd
 refine qY (fl:=.next) (k:=k+100) (loc:=l0) G (wV _) (by w_on) (by w_on) bd ?_
 apply aK (loc:=l')
 have fr:∀{p1 p2 p3:Pos},Ex c je (k+100) (.For (.Name "node" p1) (.Name "nodes" p2) mf [] p3) ⟨l1,H1⟩ .next ⟨l',H2⟩:= λ{p1 p2 p3}=>by
  have lp1:=lp p1
  generalize mf=bdy at lp1 ⊢
  exact gu (I:=fM H.length (be rs)) G.ok fW (λ_ _=>rfl) (λ_ _=>rfl) (by lia) (aa bE rfl rfl) (kZ hT) lp1
 k_dflt refine' ae (aL (t:=false) (av rfl (cb G bE rfl rfl d1.x rfl rfl (iP _)) bv (bP rfl)) ar) (ae (aw (σ₁:=⟨l0,H1⟩) bE rfl (λ_=>rfl) (cb G bE rfl rfl d1.x rfl rfl (i9 _))) (aT fr))
end
theorem dO(hk:F.scope.kind=.function)(hx:F.scope.names.lookup x=some .cell)(hc:F.cells.lookup x=some j)(hj:σ.H[j]?=some (.cell (some v)))(hd:(x==("__debug__":Str))=false):Ev c F k (.Name x pos) σ v σ:= λA ρ s env Q E _ r h=>by
 refine om (r.hr.at_ j _ hj) λob h1 w h2 h3=>?_
 cases w with
 |none=>exact h3.elim
 |some w=>
  refine wpAny_Name (wpAny_loadName_cell (c:=ρ j) (by rw[r.sc];exact hk) (by unfold Env.kindOf;rw[r.sc];exact hx) ?_ (al ob h1 h2) (h ρ s w r .refl h3)) hd
  rw[r.ce]
  clear h1 h2 h3 h r
  have hc':=hc
  clear hc
  generalize F.cells=cs at hc'
  induction cs with
  |nil=>cases hc'
  |cons p cs ih=>
   obtain⟨y,i⟩:=p
   rw[ZZ,ZI]
   rw[ZI]at hc'
   cases q:x==y with
   |true=>rw[q]at hc';cases hc';rfl
   |false=>rw[q]at hc';exact ih hc'
theorem iC{cs:List (Str×Nat)}(h:cs.lookup x=some j):(cs.map λp=>(p.1,ρ p.2)).lookup x=some (ρ j):=by
 induction cs with
 |nil=>cases h
 |cons p cs ih=>
  obtain⟨y,i⟩:=p
  rw[ZZ,ZI]
  rw[ZI]at h
  cases q:x==y with
  |true=>rw[q]at h;cases h;rfl
  |false=>rw[q]at h;exact ih h
theorem nV{v0:Option AV}(hk:F.scope.kind=.function)(hx:F.scope.names.lookup x=some .cell)(hc:F.cells.lookup x=some j){Q:Unit→Shared→Prop}{y:Value}(r:aW c A F ρ σ s env)(hj:σ.H[j]?=some (.cell v0))(hy:VR ρ σ.H.length v y)
  (h:∀s',aW c A F ρ ⟨σ.loc,σ.H.set j (.cell (some v))⟩ s' env→aM c ρ σ.H.length (· =env.locals) s ρ (σ.H.set j (.cell (some v))).length s'→Q () s'):wpAny c.M A (storeName env x y) Q E s:=by
 refine om (r.hr.at_ j _ hj) λob h1 w h2 h3=>?_
 refine wpAny_storeName_cell (c:=ρ j) (v₀:=w) (by rw[r.sc];exact hk) (by unfold Env.kindOf;rw[r.sc];exact hx) (by rw[r.ce];exact iC hc) (al ob h1 h2) λh' hc' hs=>?_
 refine ah hc' λo' g1 g2=>?_
 have jl:=aq hj
 have ne:=r.ap j jl
 refine aV (r.upd (ao:=.cell (some v)) (tk:=s.toks) jl g1 (al (some y) g2 hy) (λb ob hb h1 h2=>(hs.2 b h2).trans hb) (λm hm=>by
  obtain⟨o,es,ep,e1,d1,z⟩:=hm
  exact jE o es ep ((hs.2 _ (Ne.symm ne)).trans e1) d1 z)) λr2 st2=>?_
 exact h _ r2 st2
theorem wN{v0:Option AV}(hk:F.scope.kind=.function)(hx:F.scope.names.lookup x=some .cell)(hc:F.cells.lookup x=some j)(hj:σ.H[j]?=some (.cell v0)):As c F k (.Name x pos) a σ ⟨σ.loc,σ.H.set j (.cell (some a))⟩:= λA ρ s env Q E v K r hv q=>
 wpAny_assign_Name (nV hk hx hc r hj hv λs' r' st'=>q ρ s' r' st')
theorem dX{pos':Pos}{v0:Option AV}(hk:F.scope.kind=.function)(hx:F.scope.names.lookup x=some .cell)(hc:F.cells.lookup x=some j)(hs:∀env,swapsWith e (some (.Name x pos')) pos.line env=pure false)(h1:Ev c F k e σ v σ₁)(hj:σ₁.H[j]?=some (.cell v0)):
  Ex c F k (.Assign [.Name x pos'] e pos) σ .next ⟨σ₁.loc,σ₁.H.set j (.cell (some v))⟩:= λA ρ s env Q E K r h=>
 wpAny_Assign_Name (h1 A ρ s env _ E K r λρ1 s1 y r1 st1 vy=>nV hk hx hc r1 hj vy λs2 r2 st2=>h ρ1 s2 _ r2 (st1.trans st2) rfl) (hs env)
theorem xK{p:Str}{cs:List (Str×Nat)}{fl:AF}(O:c.Ok)
  (hf:c.K.lookup f=some ⟨oc,od,.func fd,osl⟩)(hcd:codeIn c.K fd.code fd.qualname=true)(hbody:fd.body=.stmts body)(hcl:fd.closure=[])(hgl:fd.globals=mainGlobals)(hbl:fd.builtins=builtinsNs)
  (hcs:∀n,cellsFrom n fd.scope.names []=cs.map λq=>(q.1,n+q.2))(hall:∀j,j<cs.length→∃x,cs.lookup x=some j)(hci:∀q∈cs,q.2<cs.length)
  (hco:fd.scope.isCoroutine=false)(hgen:fd.scope.isGenerator=false)(hk:fd.scope.kind=.function)(hp:fd.scope.names.lookup p=some .local)
  (bd:∀(s:Shared)(x:Value),c.K.In s.heap→BindsTo s fd ⟨[x],[]⟩ [(p,x)])
  (hb:dI c ⟨fd.scope,cs.map λq=>(q.1,H.length+q.2)⟩ k body ⟨[(p,a)],H++ZV cs.length (.cell none)⟩ fl ⟨loc',H'⟩):Fn c (k+1) (.ref f) [a] [] H fl.val H':= λA ρ s xs ks R K hr ge sk hx hks q=>by
 cases hks
 refine lW hx λ_ hx=>?_
 rename_i x
 refine codeAny_call_function K.depth (hr.X O _ _ hf) rfl hco hgen hbody (codeRec_of (hr.X O) hcd) (bd s x (hr.X O) _ _ _ _ ?_)
 rw[hcl]
 refine wpAny_newFunctionEnv_cells hk (λy hy=>by simp at hy;subst hy;exact .inl hp) λenv he s1 X=>?_
 subst he
 refine⟨(hr.lim O).keeps X.toInCall.keep,codeAny_func ?_⟩
 refine mW (X.toInCall.same) λh1 tk es1=>?_
 have kpp:=X.toInCall.keep
 obtain⟨L,eL⟩:∃L:Nat,L=s.heap.objs.size:=⟨_,rfl⟩
 have env_l:(callEnvC fd s.heap.objs.size f).locals=L:=eL▸rfl
 have env_c:(callEnvC fd s.heap.objs.size f).cells=cs.map λq=>(q.1,(L+1)+q.2):=by rw[eL];exact hcs _
 have ns:s1.heap.Ns L λy=>if y=p then some x else none:=by
  have z:=X.toInCall.ns
  have e:bindL (callEnvC fd s.heap.objs.size f).kindOf [(p,x)] (λ_=>none)= λy=>if y=p then some x else none:=by
   unfold bindL bindL
   rw[if_pos (show(callEnvC fd s.heap.objs.size f).kindOf p=some .local from hp)]
  rw[←env_l]
  exact e▸z
 let ρ':Nat→Addr:= λi=>if i<H.length then ρ i else L+1+(i - H.length)
 have r0:∀i,i<H.length→ρ' i=ρ i:= λi hi=>if_pos hi
 have r1:∀i,H.length≤i→ρ' i=L+1+(i - H.length):= λi hi=>if_neg (ZX.mpr hi)
 have len:(H++ZV cs.length (AO.cell none)).length=H.length+cs.length:=by simp
 have cell:∀j,j<cs.length→∃o,s1.heap.get? (L+1+j)=some o∧o.data=.cell none:= λj hj=>by
  refine cc (hall j hj) λy hy=>?_
  have z:=X.cell y (L+1+j) (by
   show(callEnvC fd s.heap.objs.size f).cells.lookup y=_
   rw[env_c]
   exact iC (ρ:= λi=>L+1+i) hy)
  have e:bindC (callEnvC fd s.heap.objs.size f).kindOf [(p,x)] (λ_=>none)= λ_=>none:=by
   unfold bindC bindC
   rw[if_pos (show(callEnvC fd s.heap.objs.size f).kindOf p=some .local from hp)]
  have z2:s1.heap.IsCell (L+1+j) (bindC (callEnvC fd s.heap.objs.size f).kindOf [(p,x)] (λ_=>none) y):=z
  rw[e]at z2
  exact z2
 have sz:∀i,i<H.length→@LT.lt Nat _ (ρ i) L:= λi hi=>by
  refine ah (hr.at_ i (H[i]) (zG hi)) λob h1 _=>?_
  rw[eL];exact ZB h1
 have nn:∀b,L≤b→s.heap.get? b=none:= λb hb=>Heap.get?_none_of_le (eL▸hb)
 have hr':eE c ρ' (H++ZV cs.length (.cell none)) s1.heap:=by
  refine⟨λi o e=>?_,λi j hi hj e=>?_,λi hi=>?_,λb o e t=>kpp _ _ (hr.base b o e t),λo e=>(hr.tj o e).imp (λz=>kpp _ _ z) λ⟨z1,z2,vs,more,z3,z4⟩=>bS z1 z2 vs more z3 (kpp _ _ z4)⟩
  ·rw[len]
   by_cases q:i<H.length
   ·rw[zL q]at e
    refine ah (hr.at_ i o e) λob h1 h2=>?_
    exact al ob (by rw[r0 i q];exact kpp _ _ h1) (h2.mono r0 (Nat.le_add_right _ _))
   ·have q':=ZX.mp q
    have il:=aq e
    rw[len]at il
    rw[zR q',List.getElem?_replicate,if_pos (by lia)]at e
    cases e
    refine ah (cell (i - H.length) (by lia)) λob h1 h2=>?_
    exact uC ob (by rw[r1 i q'];exact h1) none h2 trivial
  ·rw[len]at hi hj
   by_cases qi:i<H.length<;>by_cases qj:j<H.length
   ·rw[r0 i qi,r0 j qj]at e;exact hr.inj i j qi qj e
   ·have:=sz i qi;rw[r0 i qi,r1 j (ZX.mp qj)]at e;have e:@Eq Nat (ρ i) (L+1+(j - H.length)):=e;lia
   ·have:=sz j qj;rw[r1 i (ZX.mp qi),r0 j qj]at e;have e:@Eq Nat (L+1+(i - H.length)) (ρ j):=e;lia
   ·rw[r1 i (ZX.mp qi),r1 j (ZX.mp qj)]at e;have e:@Eq Nat (L+1+(i - H.length)) (L+1+(j - H.length)):=e;lia
  ·by_cases q:i<H.length
   ·rw[r0 i q];exact hr.up i q
   ·rw[r1 i (ZX.mp q)];exact hr.none1 (nn _ (by lia))
 have apL:∀i,ρ' i≠L∨H.length+cs.length≤i:= λi=>by
  by_cases q:i<H.length
  ·left;rw[r0 i q];have:=sz i q;exact Z6 this
  ·left;rw[r1 i (ZX.mp q)];exact Nat.ne_of_gt (by lia)
 have hL1:c.h₁.get? L=none:=hr.none1 (nn L (ZA _))
 have r:aW c (A.deeper (callEnvC fd s.heap.objs.size f)) ⟨fd.scope,cs.map λq=>(q.1,H.length+q.2)⟩ ρ' ⟨[(p,a)],H++ZV cs.length (.cell none)⟩ s1 (callEnvC fd s.heap.objs.size f):=by
  refine⟨hr',rfl,hgl,hbl,?_,λq hq=>?_,al _ (env_l▸ns) λy v hv=>?_,λi hi e=>?_,env_l▸hL1,?_,λhz=>?_,λhz _=>by refine ah (sk hz) λl l1 _=>?_;exact⟨l,Around.frames_deeper l1⟩,λ_=>⟨rfl,rfl⟩⟩
  ·rw[env_c]
   show _=(cs.map λq=>(q.1,H.length+q.2)).map λp=>(p.1,ρ' p.2)
   rw[Zr]
   refine ZO λq hq=>?_
   show(q.1,L+1+q.2)=(q.1,ρ' (H.length+q.2))
   rw[r1 _ (Nat.le_add_right _ _),Zt]
  ·show q.2<(H++ZV cs.length (AO.cell none)).length
   rw[len]
   refine ah (ZR.mp hq) λq' hq' z0=>?_;subst z0
   have:=hci q' hq'
   show H.length+q'.2<_
   lia
  ·have hv':[(p,a)].lookup y=some v:=hv
   rw[ZI]at hv'
   cases e:y==p with
   |false=>rw[e]at hv';cases hv'
   |true=>
    rw[e]at hv';cases hv'
    refine al x (if_pos (by simpa using e)) ?_
    show VR ρ' (H++ZV cs.length (AO.cell none)).length a x
    rw[len];exact hx.mono r0 (Nat.le_add_right _ _)
  ·have hi':i<H.length+cs.length:=by rw[←len];exact hi
   rw[env_l]at e
   rcases apL i with z|z
   ·exact z e
   ·lia
  ·rw[es1];exact ge
  ·refine ah (sk hz) λl l1 l2=>?_
   refine al _ (Around.frames_deeper l1) λe he=>?_
   show yx c ρ' (H++ZV cs.length (AO.cell none)).length s1.heap e
   rw[len]
   rcases ZH.mp he with rfl|he
   ·refine c7 ns λo es ep g1 g2 _=>?_
    refine eO (by show fd.scope.kind≠.module;rw[hk];decide) L o es ep (congrArg some env_l) hL1 g1 g2 λi hi e=>?_
    rcases apL i with z|z
    ·exact z e
    ·lia
   ·refine(l2 e he).keep r0 (λi h1 h2=>?_) λb o es ep g1 g2 _ _=>bh o es ep (kpp _ _ g1) g2
    rw[r1 i h1];exact nn _ (by lia)
 refine hb (A.deeper (callEnvC fd s.heap.objs.size f)) ρ' s1 _ _ _ K.deeper r λρ2 s2 fl' r2 st vf=>?_
 have stl:∀i,H.length+cs.length≤i→i<H'.length→s1.heap.get? (ρ2 i)=none:= λi h1 h2=>st.nw i (by show(H++ZV cs.length (AO.cell none)).length≤i;rw[len];exact h1) h2
 have stag:∀i,i<H.length+cs.length→ρ2 i=ρ' i:= λi hi=>st.ag i (by show i<(H++ZV cs.length (AO.cell none)).length;rw[len];exact hi)
 have stle:H.length+cs.length≤H'.length:=len▸st.le
 have st':aM c ρ H.length (λ_=>False) s ρ2 H'.length s2:=by
  refine⟨λi hi=>(stag i (by lia)).trans (r0 i hi),by lia,λi h1 h2=>?_,⟨λb o e=>st.kp.1 b o (kpp _ _ e),λb o e t _ h3=>st.kp.2 b o (kpp _ _ e) t (λz=>?_) λi hi e'=>?_⟩,st.os.trans (by rw[es1])⟩
  ·by_cases q:i<H.length+cs.length
   ·rw[stag i q,r1 i h1];exact nn _ (by lia)
   ·cases w:s.heap.get? (ρ2 i)with
    |none=>rfl
    |some o=>have:=stl i (by lia) h2;rw[kpp _ _ w]at this;cases this
  ·have:=nn b (by rw[show b=L from z.trans env_l];exact ZA _)
   rw[e]at this;cases this
  ·have hi':i<H.length+cs.length:=by rw[←len];exact hi
   by_cases q:i<H.length
   ·exact h3 i q (by rw[←r0 i q];exact e')
   ·have:=nn b (by rw[←e',r1 i (ZX.mp q)];lia)
    rw[e]at this;cases this
 cases fl with
 |next=>rw[show fl'=.next from vf];exact q ρ2 s2 _ r2.hr r2.ge st' rfl
 |brk=>rw[show fl'=.brk from vf];exact q ρ2 s2 _ r2.hr r2.ge st' rfl
 |cont=>rw[show fl'=.cont from vf];exact q ρ2 s2 _ r2.hr r2.ge st' rfl
 |ret v=>refine ah vf ?_;clear vf;intro y z0 hy;subst z0;exact q ρ2 s2 y r2.hr r2.ge st' hy
theorem AG{r:Addr}{v:Value}{Q:Unit→Shared→Prop}(ho:s.heap.get? r=some o)(hc:o.cls=.type "list_iterator")(h:Q () s):wpAny M A (letOwnedTupleGo target (.ref r) v) Q E s:=by
 have go:wpAny M A (do
   let(.ref r,.ref a):=((Value.ref r),v)|return
   let o←load r
   match o.cls,o.data with
   | .type n,.fields vs=>
    if ["enumerate","zip","dict_itemiterator","dict_reverseitemiterator","odict_iterator","itertools.zip_longest","itertools.pairwise"].contains n&&vs[0]?==some (rawInt a)then
     rule "for.unpacks-the-owned-tuple"
     updateField r 0 .none
   |_,_=>pure ()) Q E s:=by
  cases v with
  |ref a=>
   refine YC (wpAny_load ho ?_)
   rw[hc]
   cases o.data with
   |fields vs=>
    dsimp only
    rw[if_neg (by
     rw[show(List.contains ["enumerate","zip","dict_itemiterator","dict_reverseitemiterator","odict_iterator","itertools.zip_longest","itertools.pairwise"] "list_iterator")=false by decide]
     simp)]
    exact YD h
   |_=>exact YD h
  |_=>exact YD h
 cases target with
 |Tuple _ _ _=>exact go
 |List _ _=>exact go
 |_=>exact YD h
theorem j9{r:Addr}{acc:Value}(hg:gens[d]?=some ⟨target,iter,ifs,0⟩)(hn:gens[d+1]?=none)
  (h:∀E,wpAny c.M A (pyNext (.ref r)) (λrr s₁=>match rr with
   |none=>R (.ok .next) s₁
   |some v=>(∃o,s₁.heap.get? r=some o∧o.cls=.type "list_iterator")∧wpAny c.M A (assign target env v) (λ_ s₂=>Fh c A env ifs (λok s₃=>if ok=true then wpAny c.M A (eval elt env) (λx s₄=>
      wpAny c.M A (call (.builtin "list.append") [acc,x]) (λ_ s₅=>codeAny c.M A (.compLoop (.ListComp elt gens sc pos) d (.ref r) acc env) R s₅) E s₄) E s₃
     else codeAny c.M A (.compLoop (.ListComp elt gens sc pos) d (.ref r) acc env) R s₃) E s₂) E s₁) E s):
  codeAny c.M A (.compLoop (.ListComp elt gens sc pos) d (.ref r) acc env) R s:=by
 refine codeAny_of_tree ?_
 rw[Around.under_of_weight (c:=.compLoop (.ListComp elt gens sc pos) d (.ref r) acc env) rfl rfl]
 show wpAny _ _ ((compTurn (.ListComp elt gens sc pos) d (.ref r) acc env).onRaise (λx=>do noteFrame x env;theTreesLotGoes x)) _ _ s
 refine wpAny_noted ?_
 unfold compTurn
 dsimp only
 rw[hg]
 dsimp only
 refine YC (YG ?_)
 show wpAny _ _ (pyNext (.ref r) >>=_) _ _ s
 refine YC (YE (h _) (λrr s₁ h₁=>?_) λ_ _ h'=>h')
 cases rr with
 |none=>exact YD h₁
 |some v=>
  refine aV h₁ λz0 h₁=>ah z0 λoo hoo hcc=>?_
  refine YC (AG hoo hcc ?_)
  refine YC (YE h₁ (λ_ s₂ h₂=>?_) λ_ _ h'=>h')
  rw[hn]
  have tail:∀(ok:Bool)(s₃:Shared),(if ok=true then wpAny c.M A (eval elt env) (λx s₄=>
      wpAny c.M A (call (.builtin "list.append") [acc,x]) (λ_ s₅=>codeAny c.M A (.compLoop (.ListComp elt gens sc pos) d (.ref r) acc env) R s₅) (notedBy c.M A env λe s'=>R (.error e) s') s₄) (notedBy c.M A env λe s'=>R (.error e) s') s₃
     else codeAny c.M A (.compLoop (.ListComp elt gens sc pos) d (.ref r) acc env) R s₃)→wpAny c.M A (if ok=true then((do
       let y←eval elt env
       let _←call (Value.builtin "list.append") [acc,y]
       pure ():Sem Unit) >>= λ_=>again (Code.compLoop (elt.ListComp gens sc pos) d (.ref r) acc env))else again (Code.compLoop (elt.ListComp gens sc pos) d (.ref r) acc env))
    (λfin s'=>match fin with| .done f=>R (.ok f) s'| .again c'=>c'.quiet=true∧codeAny c.M A c' R s') (notedBy c.M A env λe s'=>R (.error e) s') s₃:= λok s₃ h₃=>by
   cases ok with
   |true=>
    rw[if_pos rfl]at h₃ ⊢
    exact YC (YC (YE h₃ (λx s₄ h₄=>YC (YE h₄ (λ_ s₅ h₅=>YD (YD (And.intro rfl h₅))) λ_ _ z=>z)) λ_ _ z=>z))
   |false=>
    rw[if_neg Z0]at h₃ ⊢
    exact YD (And.intro rfl h₃)
  cases ifs with
  |nil=>
   refine YC ?_
   rw[YA]
   exact YD (tail true s₂ h₂)
  |cons t l=>
   cases l with
   |cons _ _=>exact h₂.elim
   |nil=>
    refine YC ?_
    rw[List.forIn_cons]
    refine YC ?_
    rw[if_pos rfl]
    refine YC (YE h₂ (λok s₃ h₃=>YD ?_) λ_ _ z=>z)
    show wpAny _ _ (forIn [] ok _) _ _ _
    rw[YA]
    exact YD (tail ok s₃ h₃)
section
variable{I:qm}
theorem C6(G:I.Good c)(hg:gens[d]?=some ⟨target,iter,ifs,0⟩)(hn:gens[d+1]?=none)(hT:∀ρ i o,I.obj ρ i o→o.cls=.type "list_iterator")(h100:100≤k)(ok:I.ok σ.H)(ha:I.items[i]?=none):CL c F k elt gens sc pos d I J i σ σ:=
 λ{A ρ s env R it o s₀ ρ₀ n₀} h0 K r hit ho fr st jl q=>j9 hg hn λE=>G.stop (K.2.2 h100) r ok hit ho ha fr.ap λh' tk hk=>q ρ _ (r.other hit fr hk) (st.other h0 hk) rfl
theorem zJ(O:c.Ok)(G:I.Good c)(hg:gens[d]?=some ⟨target,iter,ifs,0⟩)(hn:gens[d+1]?=none)(hT:∀ρ i o,I.obj ρ i o→o.cls=.type "list_iterator")(ok:I.ok σ.H)(ha:I.items[i]?=some a)
  (h1:As c F k target a σ σ₁)(h2:yY c F k ifs σ₁ true σ₂)(h3:Ev c F k elt σ₂ v σ₃)(hJ:σ₃.H[J]?=some (.list acc))(hz:acc.length<999)(h4:CL c F k elt gens sc pos d I J (i+1) ⟨σ₃.loc,σ₃.H.set J (.list (acc++[v]))⟩ σ'):CL c F k elt gens sc pos d I J i σ σ':=
 λ{A ρ s env R it o s₀ ρ₀ n₀} h0 K r hit ho fr st jl q=>j9 hg hn λE=>G.next r ok hit ho ha fr.ap λh' tk x o' vx hit' ho' hk=>by
  have r':=r.other (tk:=tk) hit fr hk
  have st':=st.other (tk:=tk) h0 hk
  have fr':fx c ρ σ.H.length env it o':=⟨fr.ap,fr.up,fr.ne,G.nd _ _ _ ho'⟩
  refine⟨al o' hit' (hT _ _ _ ho'),?_⟩
  refine h1 A ρ _ env _ E x K r' vx λρ1 s1 r1 st1=>D5 h2 K r1 λρ2 s2 r2 st2=>?_
  rw[if_pos rfl]
  refine h3 A ρ2 s2 env _ E K r2 λρ3 s3 y r3 st3 vy=>?_
  have st13:=(st1.trans st2).trans st3
  rw[←st13.ag J jl]
  refine kN r3 hJ hz vy λs4 r4 st4=>?_
  have st14:=st13.trans st4
  refine aV (fr'.step O (s:={s with heap:=h',toks:=tk}) hit' st14) λfr4 hit4=>?_
  have ho4:I.obj ρ3 (i+1) o':=G.ag ρ ρ3 σ.H (i+1) o' ok ho' λj hj=>st14.ag j hj
  exact h4 h0 K r4 hit4 ho4 fr4 (st'.trans st14) (ZD jl st14.le) λρ' s' rr ss ee=>q ρ' s' rr ss (ee.trans (st13.ag J jl))
theorem zZ(O:c.Ok)(G:I.Good c)(hg:gens[d]?=some ⟨target,iter,ifs,0⟩)(hn:gens[d+1]?=none)(hT:∀ρ i o,I.obj ρ i o→o.cls=.type "list_iterator")(ok:I.ok σ.H)(ha:I.items[i]?=some a)
  (h1:As c F k target a σ σ₁)(h2:yY c F k ifs σ₁ false σ₂)(h4:CL c F k elt gens sc pos d I J (i+1) σ₂ σ'):CL c F k elt gens sc pos d I J i σ σ':=
 λ{A ρ s env R it o s₀ ρ₀ n₀} h0 K r hit ho fr st jl q=>j9 hg hn λE=>G.next r ok hit ho ha fr.ap λh' tk x o' vx hit' ho' hk=>by
  have r':=r.other (tk:=tk) hit fr hk
  have st':=st.other (tk:=tk) h0 hk
  have fr':fx c ρ σ.H.length env it o':=⟨fr.ap,fr.up,fr.ne,G.nd _ _ _ ho'⟩
  refine⟨al o' hit' (hT _ _ _ ho'),?_⟩
  refine h1 A ρ _ env _ E x K r' vx λρ1 s1 r1 st1=>D5 h2 K r1 λρ2 s2 r2 st2=>?_
  rw[if_neg Z0]
  have st12:=st1.trans st2
  refine aV (fr'.step O (s:={s with heap:=h',toks:=tk}) hit' st12) λfr4 hit4=>?_
  have ho4:I.obj ρ2 (i+1) o':=G.ag ρ ρ2 σ.H (i+1) o' ok ho' λj hj=>st12.ag j hj
  rw[←st12.ag J jl]
  exact h4 h0 K r2 hit4 ho4 fr4 (st'.trans st12) (ZD jl st12.le) λρ' s' rr ss ee=>q ρ' s' rr ss (ee.trans (st12.ag J jl))
theorem aW.keepAll(r:aW c A F ρ σ s env)(hk:∀b o,s.heap.get? b=some o→h'.get? b=some o):aW c A F ρ σ {s with heap:=h',toks:=tk} env:=by
 refine⟨⟨λi ao e=>?_,r.hr.inj,r.hr.up,λb o e t=>hk _ _ (r.hr.base b o e t),λo e=>(r.hr.tj o e).imp (λz=>hk _ _ z) λ⟨z1,z2,vs,more,z3,z4⟩=>bS z1 z2 vs more z3 (hk _ _ z4)⟩,r.sc,r.gl,r.bl,r.ce,r.ci,?_,r.ap,r.lf,r.ge,r.sk.same rfl λb ob es ep g1 g2 _ _=>bh ob es ep (hk _ _ g1) g2,r.tp,r.fl⟩
 ·refine ah (r.hr.at_ i ao e) λob z1 z2=>?_
  exact al ob (hk _ _ z1) z2
 ·refine bp λGz kz=>?_
  refine ah (r.lo) λm hm hl=>?_
  refine dg hm λob es ep g1 g2=>?_
  refine kz ?_
  exact al m (bh ob es ep (hk _ _ g1) g2) hl
theorem xA{t1 t2:Expr}{t:Nat}(h100:100≤k)(he:∀env,assignEach [t1,t2] env=[(false,assign t1 env),(false,assign t2 env)])(ht:σ.H[t]?=some (.tuple [a,b]))(h1:As c F k t1 a σ σ₁)(h2:As c F k t2 b σ₁ σ₂):As c F k (.Tuple [t1,t2] kd pos) (.obj t) σ σ₂:= λA ρ s env Q E x K r hx q=>by
 refine iR hx λ_=>?_
 refine ah (r.tuple ht) λits g1 g2=>?_
 revert g1
 refine I6 g2 λxa xb va vb g1=>?_
 refine assign_Tuple_tuple (K.2.2 h100) g1 (by rw[he];rfl) (by rw[he];rfl) λh' hx'=>?_
 have hk:∀b o,s.heap.get? b=some o→h'.get? b=some o:= λb o e=>hx' b o (Z6 (ZB e)) e
 have r1:=r.keepAll (tk:=s.toks) hk
 rw[he]
 show wpAny _ _ (assignInOrder [assign t1 env,assign t2 env] [xa,xb]) _ _ _
 refine assignInOrder_cons (h1 A ρ _ env _ E xa K r1 va λρ2 s2 r2 st2=>assignInOrder_cons (h2 A ρ2 s2 env _ E xb K r2 (st2.vr vb) λρ3 s3 r3 st3=>assignInOrder_nil ?_))
 exact q ρ3 s3 r3 (((cO hk rfl:aM c ρ σ.H.length (· =env.locals) s ρ σ.H.length {s with heap:=h',toks:=s.toks}).trans st2).trans st3)
end
theorem hO{ρ:Nat→Addr}{n:Nat}:∀{ys:List Str}{its:List Value},cG ρ n (ys.map .str) its→∃ts:List (Str×Tok),its=ts.map (λp=>.str p.1 p.2)∧ts.map (·.1)=ys
 | [],_,.nil=>al [] rfl rfl
 |y::ys,_,.cons h t=>by
  refine lU h λu=>?_
  refine ah (hO t) λts e1 e2=>?_
  exact al ((y,u)::ts) (by simp[e1]) (by simp[e2])
noncomputable def Js(x:Str):Value→Bool
 | .str y _=>y==x
 |_=>false
theorem wn(x:Str):∀(ts:List (Str×Tok)),((ts.map λp=>Value.str p.1 p.2).any (Js x))=(ts.map (·.1)).contains x
 | []=>rfl
 |p::ts=>by
  simp only[ZZ,List.any_cons,List.contains_cons,wn x ts]
  congr 1
  show(p.1==x)=(x==p.1)
  exact Zi.mpr ⟨λh=>by simp at h ⊢;exact h.symm,λh=>by simp at h ⊢;exact h.symm⟩
theorem lF{ys:List Str}(hj:σ.H[j]?=some (.list (ys.map .str)))(ht:ys.contains x=t):dz c F k (compareOp .In) (.str x) (.obj j) σ (.bool t) σ:= λA ρ s env Q E p q K r hp hq z=>by
 refine lU hp λu=>?_
 refine iR hq λ_=>?_
 refine br (r.list hj) λits g1 g2 _=>?_
 refine ah (hO g2) λts z0 z1=>?_;subst z0;subst z1
 refine SeqAt.in_listAt (Js x) g1 (λy hy=>?_) (z ρ s _ r .refl ?_)
 ·have hy':y∈ts.map λp=>Value.str p.1 p.2:=by simpa using hy
  refine ah (ZR.mp hy') λp _ z0=>?_;subst z0
  exact jM
 ·show Value.bool _=Value.bool _
  rw[←ht,←wn x ts]
  simp
theorem tJ(hj:σ.H[j]?=some (.list vs))(hi:σ.H[i]?=some (.list []))(ht:(!vs.isEmpty)=t):dz c F k (compareOp .NotEq) (.obj j) (.obj i) σ (.bool t) σ:= λA ρ s env Q E p q K r hp hq z=>by
 refine bp λGz kz=>?_
 refine aV hp ?_;clear hp;intro _ z0;subst z0
 refine aV hq ?_;clear hq;intro _ z0;subst z0
 refine br (r.list hj) λits g1 g2 _=>?_
 refine br (r.list hi) λits' g1' g2' _=>?_
 refine kz ?_
 cases g2'
 cases g2 with
 |nil=>
  refine SeqAt.RcNeAt.lists (e:= λ_=>true) g1 g1' rfl K.units (λj h1 _=>absurd h1 (Nat.not_lt_zero _)) c.prog c.w E Q (z ρ s _ r .refl ?_)
  rw[←ht];rfl
 |cons h1 h2=>
  refine SeqAt.RcNeAt.lists_lengths g1 g1' (by simp) K.units c.prog c.w E Q (z ρ s _ r .refl ?_)
  rw[←ht];rfl
theorem DT{xs ys:List AV}(hi:σ.H[i]?=some (.list xs))(hj:σ.H[j]?=some (.list ys))(hl:xs.length+ys.length<1000):dz c F k (binaryOp .Add) (.obj i) (.obj j) σ (.obj σ.H.length) ⟨σ.loc,σ.H++[.list (xs++ys)]⟩:= λA ρ s env Q E p q K r hp hq z=>by
 refine bp λGz kz=>?_
 refine aV hp ?_;clear hp;intro _ z0;subst z0
 refine aV hq ?_;clear hq;intro _ z0;subst z0
 refine ah (r.hr.at_ i _ hi) λob h1 h2=>?_
 refine dk h2 ?_;clear h2;intro its e z0 h3;subst z0
 refine ah (r.hr.at_ j _ hj) λob' h1' h2'=>?_
 refine dk h2' ?_;clear h2';intro its' e' z0 h3';subst z0
 refine kz ?_
 have l1:=aH h3
 have l2:=aH h3'
 refine P.add_list h1 h1' ?_ (by simp[l1,l2];unfold sizeLine;lia)
 refine aV (r.alloc (ao:=.list (xs++ys)) (ob:={cls:=.type "list",data:=.seq (⟨its⟩++⟨its'⟩)}) s.toks rfl (cI (its++its') 0 (by simp) ((ke h3 h3').mono (λi hi=>bc hi) (Zf _)))) λr2 st2=>?_
 exact z _ _ _ r2 st2 ⟨by simp,by rw[aF]⟩
noncomputable def AK(x y:Str):Bool:=decide (x.cps.toList<y.cps.toList)
theorem gr{ys:List Str}(hj:σ.H[j]?=some (.list (ys.map .str)))(h64:ys.length<64)
  (hz:(ys.length<2∧zs=ys)∨(2≤ys.length∧∃p:Array Nat,cY ys.length (λi j=>AK (ys.getD i "") (ys.getD j "")) (kas_sort ys.length)=some p∧(∀i∈p.toList,i<ys.length)∧(p.toList.map λi=>ys.getD i "")=zs)):
  cK c F k (λxs=>call (.builtin "sorted") xs) [.obj j] σ (.obj σ.H.length) ⟨σ.loc,σ.H++[.list (zs.map .str)]⟩:= λA ρ s env Q E xs K r hx q=>by
 refine lW hx λ_ h1=>?_
 refine iR h1 λ_=>?_
 refine br (r.list hj) λits hl hv _=>?_
 refine ah (hO hv) λts z0 z1=>?_;subst z0;subst z1
 have ln:(ts.map λp=>Value.str p.1 p.2).length=ts.length:=by simp
 have ln2:(ts.map (·.1)).length=ts.length:=by simp
 rw[ln2]at h64 hz
 have gd:∀i,i<ts.length→(ts.map λp=>Value.str p.1 p.2).getD i Value.none=.str ((ts.map λp=>p.1).getD i ("":Str)) (ts.getD i ("",0)).2:= λi hi=>by simp[hi]
 obtain⟨p,hp⟩:∃p:Array Nat,2≤ts.length→cY ts.length (λi j=>AK ((ts.map λp=>p.1).getD i ("":Str)) ((ts.map λp=>p.1).getD j ("":Str))) (kas_sort ts.length)=some p∧(∀i∈p.toList,i<ts.length)∧(p.toList.map λi=>(ts.map λp=>p.1).getD i ("":Str))=zs:=by
  rcases hz with⟨h,_⟩|⟨h,p,h1⟩
  ·exact⟨#[],λz=>absurd z (by lia)⟩
  ·exact⟨p,λ_=>h1⟩
 refine wR (lt:= λi j=>AK ((ts.map λp=>p.1).getD i ("":Str)) ((ts.map λp=>p.1).getD j ("":Str))) (p:=p) (κ:=oneType') hl (by rw[ln];exact h64) (λh2 s' hk Q E' hq=>?_) (λi j hi hj s' hk C hC=>?_) (λh2=>by rw[ln]at h2 ⊢;exact(hp h2).1) λout o1 o2=>?_
 ·refine kas_kind (T:=.type "str") h2 (λv hv=>?_) (by decide) (by decide) hq
  refine ah (ZR.mp hv) λp _ z0=>?_;subst z0
  exact Looks.of_pure rfl
 ·rw[ln]at hi hj
  unfold kas_ask
  rw[gd i hi,gd j hj]
  show wpAny _ _ (oneLt' true _ _) _ _ _
  exact oneLt_str hC
 ·rw[ln]at o1 o2
  have vo:cG ρ σ.H.length (zs.map .str) out:=by
   rcases hz with⟨h,rfl⟩|⟨h,_⟩
   ·rw[o1 h];exact hv
   ·rw[o2 h]
    refine fv (hp h) λ_ b1 b2=>?_
    rw[←b2,Zr]
    have go:∀(l:List Nat),(∀i∈l,i<ts.length)→cG ρ σ.H.length (l.map (AV.str∘ λi=>(ts.map λp=>p.1).getD i ("":Str))) (l.map λi=>(ts.map λp=>Value.str p.1 p.2).getD i Value.none):=by
     intro l
     induction l with
     |nil=>intro _;exact .nil
     |cons i l ih=>
      intro hb
      exact .cons (show VR ρ σ.H.length (AV.str ((ts.map λp=>p.1).getD i ("":Str))) ((ts.map λp=>Value.str p.1 p.2).getD i Value.none)by rw[gd i (hb i (.head _))];exact⟨_,rfl⟩) (ih λx hx=>hb x (.tail _ hx))
    exact go _ b1
  refine cc (sortedAll_at s.heap (ts.map λp=>Value.str p.1 p.2) out.toArray) λe he=>?_
  have hn:s.heap.get? (s.heap.objs.size+1)=none:=by
   cases z:s.heap.get? (s.heap.objs.size+1)with
   |none=>rfl
   |some o=>exact absurd (ZB z) (ZX.mpr (Zf _))
  refine aV (r.allocAt (ao:=.list (zs.map .str)) (a:=s.heap.objs.size+1) (tk:=s.toks) (λb o q=>sortedAll_old q) hn he (cI out e rfl (vo.mono (λi hi=>bc hi) (Zf _)))) λr1 st1=>?_
  exact q _ _ _ r1 st1 ⟨by simp,by rw[aF]⟩
theorem ww(r:aW c A F ρ σ s env)(hj:σ.H[j]?=some (.list vs)∨σ.H[j]?=some (.tuple vs))(hl:vs.length<1000){Q:List Value→Shared→Prop}
  (q:∀h' its,cG ρ σ.H.length vs its→(∀b o,s.heap.get? b=some o→h'.get? b=some o)→Q its {s with heap:=h'}):StarOf c.M A E (.ref (ρ j)) Q s:=by
 have go:∀(T:String)(its:List Value)(e:Nat),(T="list"∨T="tuple")→s.heap.get? (ρ j)=some {cls:=.type T,data:=.seq ⟨its⟩ e}→cG ρ σ.H.length vs its→StarOf c.M A E (.ref (ρ j)) Q s:=by
  intro T its e hT D hv
  have ln:=aH hv
  have hT':s.TypeIs (.ref (ρ j)) T:=al _ D rfl
  have z:wpAny c.M A (collect (.ref (ρ j))) Q E s:=by
   refine wpAny_collect_seq (ρ j) hT D rfl rfl (λh' hk=>?_) (by rw[Ze];unfold sizeLine;lia)
   exact q h' its hv hk
  unfold StarOf notIterableAtAll
  rcases hT with rfl|rfl
  ·exact YC (wpAny_specialOf hT' PySem.F.slot_list_iter.lookup (YD ⟨rfl,z⟩))
  ·exact YC (wpAny_specialOf hT' PySem.F.slot_tuple_iter.lookup (YD ⟨rfl,z⟩))
 rcases hj with hj|hj
 ·refine ah (r.hr.at_ j _ hj) λob h1 h2=>?_
  refine dk h2 ?_;clear h2;intro its e z0 h3;subst z0
  exact go "list" its e (.inl rfl) h1 h3
 ·refine ah (r.hr.at_ j _ hj) λob h1 h2=>?_
  refine dk h2 ?_;clear h2;intro its e z0 h3;subst z0
  exact go "tuple" its e (.inr rfl) h1 h3
theorem ED{p:Pos}(h1:Ev c F k e σ (.obj j) σ₁)(hj:σ₁.H[j]?=some (.list vs)∨σ₁.H[j]?=some (.tuple vs))(hl:vs.length<1000):Ag c F k pos [.Starred e p] σ vs σ₁:= λA ρ s env Q E K r q=>
 items_star (h1 A ρ s env _ E K r λρ1 s1 x r1 st1 vx=>by
  refine iR vx λ_=>?_
  refine ww r1 hj hl λh' its hv hk=>?_
  refine args_nil ?_
  rw[List.append_nil]
  exact q ρ1 _ its (r1.keepAll (tk:=s1.toks) hk) (st1.trans (cO hk rfl:aM c ρ1 σ₁.H.length (· =env.locals) s1 ρ1 σ₁.H.length {s1 with heap:=h',toks:=s1.toks})) hv)
theorem Ax{f:Value}{p:Pos}(h1:Ev c F k e σ (.obj j) σ₁)(hj:σ₁.H[j]?=some (.list vs)∨σ₁.H[j]?=some (.tuple vs))(hl:vs.length<1000):IS c F k f pos [.Starred e p] [] σ vs [] σ₁:= λA ρ s env Q E K r q=>
 ks_lone (h1 A ρ s env _ E K r λρ1 s1 x r1 st1 vx=>by
  refine iR vx λ_=>?_
  refine ww r1 hj hl λh' its hv hk=>?_
  exact q ρ1 _ ⟨its,[]⟩ (r1.keepAll (tk:=s1.toks) hk) (st1.trans (cO hk rfl:aM c ρ1 σ₁.H.length (· =env.locals) s1 ρ1 σ₁.H.length {s1 with heap:=h',toks:=s1.toks})) ⟨hv,.nil⟩)
structure Cp(K:Frag)(f:Addr):Prop where
 fn:isFn K (.ref f)=true
 gt:specialIn K (.ref f) "__get__"=some (some (.builtin "function.__get__"))
 tk:takesIn K (.ref f)=some false
theorem Aq{o:Expr}{args:List Expr}(G:c.Go)(X:dG c.w.params f body sc)(Y:GN (Kx c.w.params) C)(Z:Cp (Kx c.w.params) f)(hcn:copiedNames.contains name=false)
  (he:∀env,eval (.Call (.Attribute o name apos) args [] pos) env=(do
   let ov←eval o env
   standAt apos.atName
   let(f,first)←holding [ov] (do pure (←getAttr ov name true,[]))
   callWith pos f first (backTo pos (starEach args env)) []))
  (h0:Ev c F k o σ (.obj i) σ₁)(hi:σ₁.H[i]?=some (.inst C d))(hd:σ₁.H[d]?=some (.dict es))(hl:es.lookup name=none)(hn:findIn (Kx c.w.params) (.ref C) name=some (some (.ref f)))
  (h1:∀g,IS c F k g pos args [] ⟨σ₁.loc,σ₁.H++[AO.meth (.ref f) (.obj i)]⟩ vs [] σ₂)(hm:σ₂.H[σ₁.H.length]?=some (AO.meth (.ref f) (.obj i)))(h2:Fn c k (.ref f) (.obj i::vs) [] σ₂.H v H'):Ev c F k (.Call (.Attribute o name apos) args [] pos) σ v ⟨σ₂.loc,H'⟩:= λA ρ s env Q E K r h=>by
 rw[he env]
 refine YC (h0 A ρ s env _ E K r λρ1 s1 x r1 st1 vx=>YC (YG (YC (YF (YC ?_)))))
 refine iR vx λhlt=>?_
 refine cj (r1.inst hi hd) λents e h5 h3 I=>?_
 have hf:=X.at G
 have look:lookIn name (dictOf ents e)=some none:=by rw[lookIn_dict];unfold getL;rw[th h5 hl];simp only[kO h5];rfl
 refine PySem.W.get_bind (r1.X G.ok) I (G.hK▸Y.ga) (findObj_fn (G.hK▸Y.hd) (G.hK▸hn) (G.hK▸Z.gt) (G.hK▸Z.tk) hcn look) (G.hK▸Y.gk) (wpAny_call (fn_get (s:={s1 with toks:=s1.toks+1}) (r1.X G.ok) (beq_iff_eq.mp (G.hK▸Z.fn)) (handed_on rfl ?_)))
 refine aV (r1.alloc (ao:=.meth (.ref f) (.obj i)) (ob:=methodObj (.ref f) (.ref (ρ1 i))) (s1.toks+1) rfl (bO _ rfl (Zd hlt) (by rw[bc hlt]))) λr2 st2=>?_
 refine YD ?_
 dsimp only
 refine cy (h1 _ A _ _ env _ E K r2 λρ3 s3 a r3 st3 va=>?_)
 have st23:=st2.trans st3
 have pl:ρ3 σ₁.H.length=s1.heap.objs.size:=by rw[st3.ag _ (by simp),aF]
 refine om (r3.hr.at_ _ _ hm) λob g1 xx g2 g3=>?_
 subst g2
 refine aV g3 ?_;clear g3;intro _ z0;subst z0
 rw[pl]at g1
 have ff:=r3.X G.ok _ _ hf
 refine⟨⟨.boundFrame,(Looks.ld g1).andThen ((Looks.ld ff).andThen .now)⟩,?_⟩
 have hx:cG ρ3 σ₂.H.length (.obj i::vs) (.ref (ρ3 i)::a.pos):=.cons (show VR ρ3 σ₂.H.length (.obj i) (.ref (ρ3 i))from⟨ZD hlt st23.le,rfl⟩) va.1
 refine wpAny_call (ks_codeAny_call_bound g1 (h2 A ρ3 s3 (.ref (ρ3 i)::a.pos) a.kw _ K r3.hr r3.ge r3.sk hx va.2 λρ4 s4 x hr4 ge4 st4 vx4=>?_))
 refine aV (r3.after G.ok hr4 ge4 st4) λr4 st4'=>?_
 exact h ρ4 s4 x r4 (st1.trans (st23.trans st4')) vx4
theorem ou(G:c.Go)(hk:F.scope.kind=.function)(h100:100≤k){px py pt:Pos}(hx:F.scope.names.lookup x=some .local)(hy:F.scope.names.lookup y=some .local)(hxy:x≠y)
  (hg:gens=[⟨.Tuple [.Name x px,.Name y py] kd pt,iter,ifs,0⟩]){ps:List (Str×Str)}{Hb:List AO}(hT:Hb[T]?=some (.list (js.map .obj)))(hps:aN Hb js ps)(hz:ps.length<900){φ:Str×Str→Bool}{el:Str×Str→Str}
  (step:∀(p:Str×Str)(l:List (Str×AV))(done:List AV),l.lookup x=some (.str p.1)→l.lookup y=some (.str p.2)→yY c F k ifs ⟨l,Hb++[AO.list done]⟩ (φ p) ⟨l,Hb++[AO.list done]⟩∧Ev c F k elt ⟨l,Hb++[AO.list done]⟩ (.str (el p)) ⟨l,Hb++[AO.list done]⟩):
  ∀(rest:List (Str×Str))(i:Nat)(done:List AV)(l:List (Str×AV)),ps.drop i=rest→done.length≤i→i≤ps.length→
   ∃l',CL c F k elt gens sc pos 0 (aQ T (js.map .obj)) Hb.length i ⟨l,Hb++[AO.list done]⟩ ⟨l',Hb++[AO.list (done++(rest.filter φ).map λp=>.str (el p))]⟩:=by
 have okN:∀(l:List (Str×AV))(L:List AO),(aQ T (js.map .obj)).ok (St.H ⟨l,Hb++L⟩):= λl L=>aB hT
 have cls:∀ρ i o,(aQ T (js.map .obj)).obj ρ i o→o.cls=.type "list_iterator":= λρ i o h=>h.1
 intro rest
 induction rest with
 |nil=>
  intro i done l hd hl hi
  subst hg
  refine⟨l,?_⟩
  rw[show done++((([]:List (Str×Str)).filter φ).map λp=>AV.str (el p))=done by simp]
  refine C6 az rfl rfl cls h100 (okN _ _) ?_
  show(js.map AV.obj)[i]?=none
  rw[ZC,ZS,hps.1]
  exact ZL.mp hd
 |cons p rest ih=>
  intro i done l hd hl hi
  have hp:ps[i]?=some p:=by
   have:(ps.drop i)[0]?=some p:=by rw[hd];rfl
   rwa[Z1,Zq]at this
  have hd1:ps.drop (i+1)=rest:=by
   have:(ps.drop i).drop 1=rest:=by rw[hd];rfl
   rwa[Zp]at this
  have il:=aq hp
  have il2:i<js.length:=by rw[hps.1];exact il
  have hj:js[i]?=some js[i]:=zG il2
  have tup:=hps.2 i js[i] p hj hp
  have ai:(aQ T (js.map .obj)).items[i]?=some (.obj js[i]):=by
   show(js.map AV.obj)[i]?=_
   rw[ZK,hj];rfl
  let l1:List (Str×AV):=aR x (.str p.1) l
  let l2:List (Str×AV):=aR y (.str p.2) l1
  have lx:l2.lookup x=some (.str p.1):=by show(aR y _ l1).lookup x=_;rw[bV _ _ _ hxy];exact aj _ _ _
  have ly:l2.lookup y=some (.str p.2):=aj _ _ _
  have as1:As c F k (.Tuple [.Name x px,.Name y py] kd pt) (.obj js[i]) ⟨l,Hb++[AO.list done]⟩ ⟨l2,Hb++[AO.list done]⟩:=
   xA (σ₁:=⟨l1,Hb++[AO.list done]⟩) h100 (λ_=>rfl) (aB tup) (bg hk hx) (bg hk hy)
  refine aV (step p l2 done lx ly) λs1 s2=>?_
  cases hφ:φ p with
  |true=>
   rw[hφ]at s1
   refine cc (ih (i+1) (done++[.str (el p)]) l2 hd1 (by simp;lia) (by lia)) λl' h=>?_
   refine⟨l',?_⟩
   rw[show done++((p::rest).filter φ).map (λp=>AV.str (el p))=(done++[.str (el p)])++(rest.filter φ).map λp=>AV.str (el p)by simp[hφ]]
   subst hg
   refine zJ (σ₁:=⟨l2,Hb++[AO.list done]⟩) (σ₂:=⟨l2,Hb++[AO.list done]⟩) (σ₃:=⟨l2,Hb++[AO.list done]⟩) (v:=.str (el p)) (acc:=done) G.ok az rfl rfl cls (okN _ _) ai as1 s1 s2 aO (by lia) ?_
   have e2:(Hb++[AO.list done]).set Hb.length (.list (done++[.str (el p)]))=Hb++[AO.list (done++[.str (el p)])]:=by
    rw[Zn _ _ (ZA _),ZY];rfl
   show CL _ _ _ _ _ _ _ _ _ _ _ ⟨l2,(Hb++[AO.list done]).set Hb.length (.list (done++[.str (el p)]))⟩ _
   rw[e2]
   exact h
  |false=>
   rw[hφ]at s1
   refine cc (ih (i+1) done l2 hd1 (by lia) (by lia)) λl' h=>?_
   refine⟨l',?_⟩
   rw[show done++((p::rest).filter φ).map (λp=>AV.str (el p))=done++(rest.filter φ).map λp=>AV.str (el p)by simp[hφ]]
   subst hg
   exact zZ (σ₁:=⟨l2,Hb++[AO.list done]⟩) (σ₂:=⟨l2,Hb++[AO.list done]⟩) G.ok az rfl rfl cls (okN _ _) ai as1 s1 h
noncomputable def gm:=cV bJ 40
noncomputable def nD:=kr bJ 40
noncomputable def jW:=cV bJ 41
noncomputable def vZ:=kr bJ 41
noncomputable def mY:List (Str×Nat):=[("anew",1),("name",0)]
noncomputable def qZ:List (Str×Nat):=[("anew",2),("new",1),("old",0)]
structure sv(P:Params)(a:Addr)(body:List Stmt)(sc:Scope):Prop where
 lk:(Kx P).lookup a=some ⟨.type "function",(wF P a).dict,.func (dw P a),(wF P a).slots⟩
 cd:codeIn (Kx P) (dw P a).code (dw P a).qualname=true
 bd:(dw P a).body=.stmts body
 se:(dw P a).scope=sc
 cl:(dw P a).closure=[]
 gl:(dw P a).globals=mainGlobals
 bl:(dw P a).builtins=builtinsNs
 co:sc.isCoroutine=false
 ge:sc.isGenerator=false
 ki:sc.kind=.function
theorem xy:sv P 906 gm nD:=by constructor<;>w_on
theorem B8:sv P 911 jW vZ:=by constructor<;>w_on
theorem Dy(x:Value)(S:Setting):peek (Kx P) S (bindArgs (dw P 906) ⟨[x],[]⟩)=some [(("texts":Str),x)]:=by w_on
theorem GF(x:Value)(S:Setting):peek (Kx P) S (bindArgs (dw P 911) ⟨[x],[]⟩)=some [(("books":Str),x)]:=by w_on
theorem uG(n:Nat):cellsFrom n nD.names []=mY.map λq=>(q.1,n+q.2):=by w_on
theorem x6(n:Nat):cellsFrom n vZ.names []=qZ.map λq=>(q.1,n+q.2):=by w_on
theorem qb{p:Str}{cs:List (Str×Nat)}{fl:AF}(G:c.Go)(X:sv c.w.params f body sc)
  (hcs:∀n,cellsFrom n sc.names []=cs.map λq=>(q.1,n+q.2))(hall:∀j,j<cs.length→∃x,cs.lookup x=some j)(hci:∀q∈cs,q.2<cs.length)(hp:sc.names.lookup p=some .local)
  (bd:∀(x:Value)(S:Setting),peek (Kx c.w.params) S (bindArgs (dw c.w.params f) ⟨[x],[]⟩)=some [(p,x)])
  (hb:dI c ⟨sc,cs.map λq=>(q.1,H.length+q.2)⟩ k body ⟨[(p,a)],H++ZV cs.length (.cell none)⟩ fl ⟨loc',H'⟩):Fn c (k+1) (.ref f) [a] [] H fl.val H':=by
 have e:=X.se
 subst e
 exact xK (fd:=dw c.w.params f) G.ok (by rw[G.hK];exact X.lk) (by rw[G.hK];exact X.cd) X.bd X.cl X.gl X.bl hcs hall hci X.co X.ge X.ki hp (λs x XX=>@bB _ _ _ _ _ (G.hK▸XX) (bd x)) hb
noncomputable def bK(n:Nat):Fs:=⟨nD,mY.map λq=>(q.1,n+q.2)⟩
theorem bj(n:Nat):(bK n).scope.kind=.function:=by w_on
theorem qN(n:Nat):∀env:Env,env.scope=(bK n).scope→interactive env=false:= λenv he=>by
 unfold interactive
 rw[he]
 rfl
noncomputable def mv:=cV gm 5
noncomputable def wg:=cV gm 8
noncomputable def nE:=cV wg 1
theorem IM:Cp (Kx P) 117:=⟨by w_on,by w_on,by w_on⟩
theorem IV:Cp (Kx P) 150:=⟨by w_on,by w_on,by w_on⟩
theorem jK(g:oP)(i:Nat)(qs:List Nat)(p:Nat):((fz g i qs).su p).length≤(g.su p).length+qs.length:=by
 have go:∀(qs:List Nat)(g:oP),((qs.foldl (fJ i) g).su p).length≤(g.su p).length+qs.length:=by
  intro qs
  induction qs with
  |nil=>intro g;exact ZA _
  |cons q qs ih=>
   intro g
   have:=ih (fJ i g q)
   have:=pI g i q p
   simp only[Zv,Zk]
   lia
 have h1:=go qs (nL g i qs.length)
 have h2:((nL g i qs.length).su p).length≤(g.su p).length:=by
  show((fy g i).su p).length≤_
  unfold fy
  split
  ·exact ZA _
  ·show(iT g.su i [] p).length≤_
   by_cases q:p=i
   ·rw[q,bz];exact Zl _
   ·rw[ck q];exact ZA _
 unfold fz
 lia
section
variable{RV:Nat}{g:oP}{rj:Nat→Nat}
structure u4(c:Cx)(H0 H:List AO)(B S D N:Nat)(g:oP)(pi pd ps:Nat→Nat):Prop where
 x:SO H S D N .none 0 0
 gh:GH c H N g.ord g.np g.su pi pd ps
 b:∀i∈g.ord,B≤pi i∧B≤ps i
 k:∀(y:Nat)(o:AO),y<B→y≠N→H0[y]?=some o→H[y]?=some o
 l:B≤H.length
theorem Bl(G:c.Go)(hs:l.lookup ("sorter":Str)=some (.obj S))(hr:l.lookup ("row":Str)=some (.obj (rj i)))(x:u4 c H0 H B S D N g pi pd ps)(hrow:H0[rj i]?=some (.list (be (i::nd i))))(hB:rj i<B)(hN:rj i≠N)(h5:i<5)(hp:∀p∈nd i,p<5)(hl:(nd i).length≤4)(hz:∀p,(g.su p).length<800):
  ∃H' pi' pd' ps',dI c (bK n) (k+101) mv ⟨l,H⟩ .next ⟨l,H'⟩∧u4 c H0 H' B S D N (fz g i (nd i)) pi' pd' ps':=by
 have row:=x.k _ _ hB hN hrow
 refine bp λGz kz=>?_
 refine bb (H++[AO.meth (.ref 117) (.obj S)]) λHm em=>?_
 refine bb (Hm++[AO.list (be (nd i))]) λH1 e1=>?_
 have lm:Hm.length=H.length+1:=by rw[em];simp
 have row1:Hm[rj i]?=some (.list (be (i::nd i))):=by rw[em];exact aB row
 have ex1:bW H H1:= λy o h=>by rw[e1,em];exact aB (aB h)
 have gh1:=x.gh.ext ex1
 have x1:SO H1 S D N .none 0 0:=⟨ex1 _ _ x.x.s,ex1 _ _ x.x.d⟩
 refine lg (Gq (k:=k) (i:=i) G x1 gh1 h5 hp hl hz) λH' pi' pd' ps' f g' gx=>?_
 refine kz ?_
 have xl:=x.l
 refine⟨H',pi',pd',ps',?_,⟨gx.sso gh1 x1,g',λj hj=>?_,λy o hy hn h=>?_,?_⟩⟩
 ·have sl:∀{p1 p2 p3 p4:Pos}{q:Nat},Ev c (bK n) (k+101) (.Subscript (.Name "row" p1) (.Slice (some (.Constant (.int 1) q p2)) none none p3) p4) ⟨l,Hm⟩ (.obj Hm.length) ⟨l,H1⟩:= λ{p1 p2 p3 p4 q}=>by
   have z:=fE (c:=c) (F:=bK n) (k:=k+101) (σ:=⟨l,Hm⟩) (σ₁:=⟨l,Hm⟩) (σ₂:=⟨l,Hm⟩) (σ₃:=⟨l,Hm⟩) (σ₄:=⟨l,Hm⟩) (value:=.Name "row" p1) (lower:=some (.Constant (.int 1) q p2)) (upper:=none) (step:=none) (p:=p3) (pos:=p4) (j:=rj i) (vs:=be (i::nd i)) (l:=some 1) (u:=none) (t:=none) (v':=be (nd i)) (by simp[be];lia) (by simp) (λ_ _=>⟨_,rfl⟩) (aa (bj n) rfl hr) (e9 aJ) ds ds row1 (λρ n its h=>kP h)
   rw[e1];exact z
  have h1:H1[Hm.length]?=some (.list (be (nd i))):=by rw[e1];exact aO
  have hme:H1[H.length]?=some (.meth (.ref 117) (.obj S)):=by rw[e1,em];exact aB aO
  rw[em]at sl row1 h1
  k_dflt refine' aT (cu (F:=bK n) (v:=.none) (qN n) (λ_=>rfl) (Aq (σ₁:=⟨l,H⟩) (σ₂:=⟨l,H1⟩) (i:=S) (d:=D) (es:=xh N .none 0 0) G (zF _) (eM _) (IM _) (by decide) (λ_=>rfl) (aa (bj n) rfl hs) x.x.s x.x.d rfl (Ft _) (λ_=>gL (af λ_=>rfl) (am (λ_=>rfl) (cW (by lia) (by lia) (λ_ _=>rfl) (λ_ _=>rfl) (aa (bj n) rfl hr) aJ row1 rfl) (ED sl (.inl h1) (by simp[be];lia)))) hme f))
 ·by_cases q:j∈g.ord
  ·refine fv (gx.old j q) λ_ a b=>?_
   rw[a,b];exact x.b j q
  ·refine aV (gx.new j hj q) λa b=>?_
   have:H1.length=H.length+2:=by rw[e1];simp[lm]
   lia
 ·refine gx.kp y o (ex1 _ _ (x.k y o hy hn h)) hn λj hj=>?_
  have:=x.b j hj
  lia
 ·have:=gx.le
  have:H1.length=H.length+2:=by rw[e1];simp[lm]
  lia
noncomputable def zC(nd:Nat→List Nat)(g:oP)(is:List Nat):oP:=is.foldl (λg i=>fz g i (nd i)) g
theorem AT(G:c.Go){items:List AV}(hRV:H0[RV]?=some (.list items))(hRB:RV<B)(hRN:RV≠N)(hrj:∀i,i<5→H0[rj i]?=some (.list (be (i::nd i)))∧rj i<B∧rj i≠N)(hp:∀i,i<5→(nd i).length≤4∧∀p∈nd i,p<5):
  ∀(is:List Nat){l:List (Str×AV)}{H:List AO}{g:oP}{pi pd ps:Nat→Nat},l.lookup ("sorter":Str)=some (.obj S)→u4 c H0 H B S D N g pi pd ps→(∀i∈is,i<5)→(∀p,(g.su p).length+4*is.length<800)→
  ∃l' H' pi' pd' ps',(∀pp:Pos,fg c (bK n) (k+101) (aQ RV items) (.Name "row" pp) mv (is.map λi=>.obj (rj i)) ⟨l,H⟩ .next ⟨l',H'⟩)∧u4 c H0 H' B S D N (zC nd g is) pi' pd' ps'∧(∀y:Str,y≠"row"→l'.lookup y=l.lookup y):=by
 intro is
 induction is with
 |nil=>
  intro l H g pi pd ps hs x _ _
  exact ju l H pi pd ps (λ_=>.nil (x.k _ _ hRB hRN hRV)) x λ_ _=>rfl
 |cons i is ih=>
  intro l H g pi pd ps hs x h5 hz
  refine bp λGz kz=>?_
  refine fv (hrj i (h5 i (.head _))) λr1 r2 r3=>?_
  refine aV (hp i (h5 i (.head _))) λp1 p2=>?_
  have hs1:(aR ("row":Str) (AV.obj (rj i)) l).lookup ("sorter":Str)=some (.obj S):=dR hs
  obtain⟨H1,pi1,pd1,ps1,e1,x1⟩:=Bl (n:=n) (k:=k) (i:=i) (nd:=nd) (rj:=rj) (l:=aR "row" (.obj (rj i)) l) G hs1 (aj _ _ _) x r1 r2 r3 (h5 i (.head _)) p2 p1 (λp=>by have:=hz p;simp at this;lia)
  refine gZ (ih hs1 x1 (λj hj=>h5 j (.tail _ hj)) (λp=>by
   have:=hz p
   have:=jK g i (nd i) p
   simp at*;lia)) λl2 H2 pi2 pd2 ps2 e2 x2 lk=>?_
  refine kz ?_
  refine ju l2 H2 pi2 pd2 ps2 ?_ x2 λy hy=>(lk y hy).trans (bV _ _ _ hy _)
  generalize mv=bdy at e1 e2 ⊢
  exact λpp=>fg.next (a:=.obj (rj i)) (rest:=is.map λi=>.obj (rj i)) (σ₁:=⟨aR "row" (.obj (rj i)) l,H⟩) (x.k _ _ hRB hRN hRV) (.inl rfl) (bg (bj n) rfl) e1 (e2 pp)
end
theorem oN{lk:Str→Option Nat}{g:Nat→Addr}(hlk:∀x j,lk x=some j→env.cells.lookup x=some (g j)):∀(names:List (Str×NameKind))(acc:List (Str×Nat)),(∀x∈names,x.2=.free→(lk x.1).isSome=true)→
  (forIn names (acc.map λp=>(p.1,g p.2)) (λx cs=>(if x.2==NameKind.free then do let a←cellOf env x.1;pure (.yield ((x.1,a)::cs))else pure (.yield cs):Sem (ForInStep (List (Str×Addr))))):Sem (List (Str×Addr)))=pure ((names.foldl (λcs x=>if x.2==NameKind.free then(x.1,(lk x.1).getD 0)::cs else cs) acc).map λp=>(p.1,g p.2)):=by
 intro names
 induction names with
 |nil=>intro acc _;rw[YA];rfl
 |cons x names ih=>
  intro acc h
  rw[List.forIn_cons,Zv]
  by_cases q:x.2=.free
  ·refine cc (Option.isSome_iff_exists.mp (h x (.head _) q)) λj hj=>?_
   have e:(x.2==NameKind.free)=true:=by simpa using q
   rw[if_pos e,if_pos e]
   have z:=ih ((x.1,j)::acc) λy hy=>h y (.tail _ hy)
   have cf:cellOf env x.1=pure (g j):=by unfold cellOf;rw[hlk _ _ hj]
   rw[cf,hj]
   exact z
  ·have e:¬(x.2==NameKind.free)=true:=by simpa using q
   rw[if_neg e,if_neg e]
   exact ih acc λy hy=>h y (.tail _ hy)
noncomputable def aC(F:Fs)(names:List (Str×NameKind)):List (Str×Nat):=names.foldl (λcs x=>if x.2==NameKind.free then(x.1,(F.cells.lookup x.1).getD 0)::cs else cs) []
noncomputable def aZ(F:Fs)(sc:Scope):Scope:={sc with names:=sc.names.map λx=>if(x.2== .free&&F.scope.kind== .function&&F.scope.names.lookup x.1==some .cell)=true then(x.1,.cell)else(x.1,x.2)}
theorem n6{l:List (Str×Nat)}(h:l.lookup x=some j):(x,j)∈l:=PySem.mem_of_lookup h
theorem dW(h1:∀x∈sc.names,x.2=.free→(F.cells.lookup x.1).isSome=true)(h2:(sc.names.all λx=>x.2 != .cell)=true)(hk:sc.kind=.function)(h3:((aZ F sc).names.lookup (".0":Str) != none&&sc.names.all λx=>x.2 != .local||(aZ F sc).names.lookup x.1==some .local)=true):cz F sc (aZ F sc) (aC F sc.names):=by
 rw[Z3]at h3
 refine aV h3 λh0 h3=>?_
 refine⟨λenv g he=>?_,λenv he=>?_,λp hp=>?_,hk,λx hx hl=>?_,jO h2,by simpa using h0⟩
 ·have z:=oN (env:=env) (lk:= λx=>F.cells.lookup x) (g:=g) (λx j hj=>by rw[he];exact iC hj) sc.names [] h1
  unfold closureFor
  show((forIn sc.names (([]:List (Str×Nat)).map λp=>(p.1,g p.2)) (λx cs=>(if x.2==NameKind.free then do let a←cellOf env x.1;pure (.yield ((x.1,a)::cs))else pure (.yield cs):Sem (ForInStep (List (Str×Addr))))):Sem (List (Str×Addr))) >>= λs=>pure s)=_
  rw[z]
  rfl
 ·unfold e7 aZ Env.kindOf
  rw[he]
 ·have go:∀(names:List (Str×NameKind))(acc:List (Str×Nat)),(∀x∈names,x.2=.free→(F.cells.lookup x.1).isSome=true)→(∀q∈acc,q∈F.cells)→∀q∈names.foldl (λcs x=>if x.2==NameKind.free then(x.1,(F.cells.lookup x.1).getD 0)::cs else cs) acc,q∈F.cells:=by
   intro names
   induction names with
   |nil=>intro acc _ h;exact h
   |cons x names ih=>
    intro acc hf h
    rw[Zv]
    by_cases q:x.2=.free
    ·refine cc (Option.isSome_iff_exists.mp (hf x (.head _) q)) λj hj=>?_
     rw[if_pos (by simpa using q),hj]
     refine ih _ (λy hy=>hf y (.tail _ hy)) λq hq=>?_
     rcases ZH.mp hq with rfl|hq
     ·exact n6 hj
     ·exact h q hq
    ·rw[if_neg (by simpa using q)]
     exact ih _ (λy hy=>hf y (.tail _ hy)) h
  exact go sc.names [] h1 (λq hq=>by cases hq) p hp
 ·have:=ZF.mp h3 x hx
  rw[hl]at this
  simpa using this
noncomputable def qp(p8 p9 p10:Pos):Expr:=.Call (.Name "_law_needs" p8) [.Name "new" p9] [] p10
noncomputable def yJ(p11 p12 p13 p14 p15 p16 p17:Pos):Expr:=.BoolOp .And [.Compare (.Name "one" p11) [.Eq] [.Name "name" p12] p13,.Compare (.Name "need" p14) [.In] [.Name "anew" p15] p16] p17
theorem Bf(kz:∀(sc:Scope)(p1 p2 p3 p4 p5 p6 p7 p8 p9 p10 p11 p12 p13 p14 p15 p16 p17 p18 p19 p20 p21 p22 p23 p24 p25 p26 p27:Pos)(kd:Nat),(nE=[.If (.BoolOp .Or [.Compare (.Name "name" p1) [.In] [.Name "changed" p2] p3,.Compare (.ListComp (.Name "need" p4) [⟨.Tuple [.Name "one" p5,.Name "need" p6] kd p7,qp p8 p9 p10,[yJ p11 p12 p13 p14 p15 p16 p17],0⟩] sc p18) [.NotEq] [.List [] p19] p20] p21) [.Expr (.Call (.Attribute (.Name "anew" p22) "append" p23) [.Name "name" p24] [] p25) p26] [] p27]∧
  (∀env,eval (.Call (.Attribute (.Name "anew" p22) "append" p23) [.Name "name" p24] [] p25) env=(do
   let ov←eval (.Name "anew" p22) env
   standAt p23.atName
   let(f,first)←holding [ov] (getMethod ov "append" (gD (.Name "anew" p22) env))
   callWith p25 f first (backTo p25 (starEach [.Name "name" p24] env)) []))∧
  (∀n,cz (bK n) sc (aZ (bK n) sc) (aC (bK n) sc.names))∧(∀n,(Fs.mk (aZ (bK n) sc) (aC (bK n) sc.names)).scope.kind=.function)∧
  (∀n,(aZ (bK n) sc).names.lookup ("one":Str)=some .local∧(aZ (bK n) sc).names.lookup ("need":Str)=some .local∧(aZ (bK n) sc).names.lookup ("name":Str)=some .cell∧(aZ (bK n) sc).names.lookup ("anew":Str)=some .cell∧
   (aC (bK n) sc.names).lookup ("name":Str)=some (n+0)∧(aC (bK n) sc.names).lookup ("anew":Str)=some (n+1)))→Gz):Gz:=by
 refine kz _ _ _ _ _ _ _ _ _ _ _ _ _ _ _ _ _ _ _ _ _ _ _ _ _ _ _ _ _ ⟨by k_dflt rfl,λ_=>rfl,λn=>dW ?_ (by w_on) (by w_on) (by w_on),λn=>by w_on,λn=>⟨by w_on,by w_on,by w_on,by w_on,by w_on,by w_on⟩⟩
 intro x hx hf
 have h:∀(names:List (Str×NameKind)),(names.all λx=>x.2 != .free||(((bK n).cells.lookup x.1).isSome))=true→∀x∈names,x.2=.free→((bK n).cells.lookup x.1).isSome=true:= λnames h x hx hf=>by
  have:=ZF.mp h x hx
  rw[hf]at this
  simpa using this
 exact h _ (by w_on) x hx hf
theorem i7:nsIn (Kx P) mainGlobals ("_law_needs":Str)=some (some (.ref 901)):=by w_on
theorem DD:nsIn (Kx P) mainGlobals ("_law_read":Str)=some (some (.ref 896)):=by w_on
theorem HQ:nsIn (Kx P) mainGlobals ("sorted_list_difference":Str)=some (some (.ref 51)):=by w_on
noncomputable def mS(sn:List (Str×Str))(an:List Nat)(i:Nat)(p:Str×Str):Bool:=p.1.cps.toList==(nm i).cps.toList&&(an.map nm).contains p.2
noncomputable def uk(ch:List Str)(sn:List (Str×Str))(an:List Nat)(i:Nat):List Nat:=if ch.contains (nm i)||!(sn.filter (mS sn an i)).isEmpty then an++[i]else an
noncomputable def AO.lt:AO→Bool
 | .list _=>true
 | .tuple _=>true
 |_=>false
structure mQ(c:Cx)(n:Nat)(H0 H:List AO)(S D N R AN B:Nat)(po fi:Int)(ord:List Nat)(np:Nat→Int)(rd an:List Nat)(su:Nat→List Nat)(pi pd ps:Nat→Nat):Prop where
 d:DS c H S D N R po fi ord np rd su pi pd ps
 nc:∃v,H[n]?=some (.cell v)
 ac:H[n+1]?=some (.cell (some (.obj AN)))
 an:H[AN]?=some (.list (be an))
 na:∀i∈ord,AN≠ps i
 ra:R≠AN
 bR:B≤R
 bA:B≤AN
 k:∀(y:Nat)(o:AO),y<B→o.lt=true→H0[y]?=some o→H[y]?=some o
section
variable{R AN L1 CH:Nat}{rd an:List Nat}{ch:List Str}{rowsN:List (List Str)}
theorem DS.setO(d:DS c H S D N R po fi ord np rd su pi pd ps){y:Nat}{z:AO}(h1:y≠S)(h2:y≠D)(h3:y≠N)(h4:y≠R)(h5:∀i∈ord,y≠pi i∧y≠pd i∧y≠ps i):DS c (H.set y z) S D N R po fi ord np rd su pi pd ps:=
 ⟨⟨ak d.x.s (Ne.symm h1),ak d.x.d (Ne.symm h2)⟩,d.g.setO ⟨h3,h5⟩,ak d.r (Ne.symm h4),d.n⟩
theorem DS.ext(d:DS c H S D N R po fi ord np rd su pi pd ps)(e:bW H H'):DS c H' S D N R po fi ord np rd su pi pd ps:=
 ⟨⟨e _ _ d.x.s,e _ _ d.x.d⟩,d.g.ext e,e _ _ d.r,d.n⟩
theorem mQ.ext(w:mQ c n H0 H S D N R AN B po fi ord np rd an su pi pd ps)(e:bW H H'):mQ c n H0 H' S D N R AN B po fi ord np rd an su pi pd ps:=
 ⟨w.d.ext e,let⟨v,h⟩:=w.nc;⟨v,e _ _ h⟩,e _ _ w.ac,e _ _ w.an,w.na,w.ra,w.bR,w.bA,λy o a t b=>e _ _ (w.k y o a t b)⟩
theorem mQ.nam(w:mQ c n H0 H S D N R AN B po fi ord np rd an su pi pd ps)(v:Option AV):mQ c n H0 (H.set n (.cell v)) S D N R AN B po fi ord np rd an su pi pd ps:=by
 refine cc (w.nc) λv0 hc=>?_
 have d:=w.d
 have ne:∀{y:Nat}{o:AO},H[y]?=some o→(∀v,o≠.cell v)→n≠y:= λ{y o} h hn q=>by rw[←q,hc]at h;cases h;exact hn _ rfl
 have nN:n≠N:=by refine cc (d.g.n.is) λP hP=>?_;exact ne hP (by intro v h;cases h)
 refine⟨d.setO (ne d.x.s (by intro v h;cases h)) (ne d.x.d (by intro v h;cases h)) nN (ne d.r (by intro v h;cases h)) λi hi=>⟨ne (d.g.i i hi) (by intro v h;cases h),ne (d.g.d i hi) (by intro v h;cases h),ne (d.g.s i hi) (by intro v h;cases h)⟩,⟨v,bF (aq hc)⟩,ak w.ac (by lia),ak w.an (Ne.symm (ne w.an (by intro v h;cases h))),w.na,w.ra,w.bR,w.bA,λy o a t b=>?_⟩
 have z:=w.k y o a t b
 exact ak z (Ne.symm (ne z (by rintro v rfl;cases t)))
theorem mQ.app(w:mQ c n H0 H S D N R AN B po fi ord np rd an su pi pd ps)(an':List Nat):mQ c n H0 (H.set AN (.list (be an'))) S D N R AN B po fi ord np rd an' su pi pd ps:=by
 have hA:=w.an
 have d:=w.d
 have ne:∀{y:Nat}{o:AO},H[y]?=some o→(∀v,o≠.list v)→AN≠y:= λ{y o} h hn q=>by rw[←q,hA]at h;cases h;exact hn _ rfl
 have nN:AN≠N:=by refine cc (d.g.n.is) λP hP=>?_;exact ne hP (by intro v h;cases h)
 refine cc (w.nc) λv0 hc=>?_
 refine⟨d.setO (ne d.x.s (by intro v h;cases h)) (ne d.x.d (by intro v h;cases h)) nN (Ne.symm w.ra) λi hi=>⟨ne (d.g.i i hi) (by intro v h;cases h),ne (d.g.d i hi) (by intro v h;cases h),w.na i hi⟩,⟨v0,ak hc (Ne.symm (ne hc (by intro v h;cases h)))⟩,ak w.ac (Ne.symm (ne w.ac (by intro v h;cases h))),bF (aq hA),w.na,w.ra,w.bR,w.bA,λy o a t b=>?_⟩
 exact ak (w.k y o a t b) (by have:=w.bA;lia)
structure LW(l:List (Str×AV))(S L1 CH:Nat):Prop where
 s:l.lookup ("sorter":Str)=some (.obj S)
 n:l.lookup ("new":Str)=some (.obj L1)
 c:l.lookup ("changed":Str)=some (.obj CH)
def iB(c:Cx)(H0:List AO)(B L1:Nat)(rowsN:List (List Str))(sn:List (Str×Str)):Prop:=
 (∃js:List Nat,L1<B∧H0[L1]?=some (.list (js.map .obj))∧js.length=rowsN.length∧∀(i j:Nat)(r:List Str),js[i]?=some j→rowsN[i]?=some r→j<B∧H0[j]?=some (AO.list (r.map .str)))∧(∀r∈rowsN,r≠[]∧r.length<500)∧rowsN.length<900∧(bT rowsN).length<64∧fk (bT rowsN) sn∧sn.length<64
theorem iB.rws(h:iB c H0 B L1 rowsN sn)(w:mQ c n H0 H S D N R AN B po fi ord np rd an su pi pd ps):oH H L1 rowsN:=by
 refine aV h λz0 _=>cv z0 λjs h1 h2 h3 h4=>?_
 exact bO js (w.k _ _ h1 rfl h2) h3 λi j r a b=>w.k _ _ (h4 i j r a b).1 rfl (h4 i j r a b).2
theorem CM(G:c.Go)(L:LW l S L1 CH)(w:mQ c n H0 H S D N R AN B po fi ord np rd an su pi pd ps)(hn:H[n]?=some (.cell (some (.str (nm i)))))(hCH:CH<B∧H0[CH]?=some (.list (ch.map .str)))(nok:iB c H0 B L1 rowsN sn)(hl:an.length<900):
  ∃H',dI c (bK n) (k+101) nE ⟨l,H⟩ .next ⟨l,H'⟩∧mQ c n H0 H' S D N R AN B po fi ord np rd (uk ch sn an i) su pi pd ps∧∀(y:Nat)(o:AO),y≠AN→H[y]?=some o→H'[y]?=some o:=by
 refine bp λGz kz=>?_
 refine Bf λsc p1 p2 p3 p4 p5 p6 p7 p8 p9 p10 p11 p12 p13 p14 p15 p16 p17 p18 p19 p20 p21 p22 p23 p24 p25 p26 p27 kd hz_=>?_
 refine nU hz_ λhb he hsc hki hnm=>?_
 refine m8 (hnm n) λk1 k2 k3 k4 k5 k6=>?_
 refine kz ?_
 have chH:=w.k _ _ hCH.1 rfl hCH.2
 have e1:Ev c (bK n) (k+101) (.Name "name" p1) ⟨l,H⟩ (.str (nm i)) ⟨l,H⟩:=dO (bj n) (by w_on) (by w_on:(bK n).cells.lookup ("name":Str)=some (n+0)) hn (by decide)
 have t1:∀{t:Bool},ch.contains (nm i)=t→Te c (bK n) (k+101) (.Compare (.Name "name" p1) [.In] [.Name "changed" p2] p3) ⟨l,H⟩ t ⟨l,H⟩:= λht=>av rfl e1 (aa (bj n) rfl L.c) (lF chH ht)
 have app:∀{H:List AO},mQ c n H0 H S D N R AN B po fi ord np rd an su pi pd ps→H[n]?=some (.cell (some (.str (nm i))))→dI c (bK n) (k+101) [.Expr (.Call (.Attribute (.Name "anew" p22) "append" p23) [.Name "name" p24] [] p25) p26] ⟨l,H⟩ .next ⟨l,H.set AN (.list (be (an++[i])))⟩:= λ{H} w hn=>by
  have oa:cK c (bK n) (k+101) (λxs=>call (.builtin "list.append") xs) [.obj AN,.str (nm i)] ⟨l,H⟩ .none ⟨l,H.set AN (.list (be (an++[i])))⟩:=by
   have z:=eQ (c:=c) (F:=bK n) (k:=k+101) (σ:=⟨l,H⟩) (v:=.str (nm i)) w.an (by simp[be];lia)
   rw[show be (an++[i])=be an++[.str (nm i)]by simp[be]]
   exact z
  exact aT (cu (F:=bK n) (v:=.none) (qN n) (λ_=>rfl) (d9 he (dO (bj n) (by w_on) (by w_on:(bK n).cells.lookup ("anew":Str)=some (n+1)) w.ac (by decide)) (dp slot_list_append type_list_append w.an) (af λ_=>rfl) (am (λ_=>rfl) (dO (bj n) (by w_on) (by w_on:(bK n).cells.lookup ("name":Str)=some (n+0)) hn (by decide)) au) oa))
 rw[hb]
 cases hc:ch.contains (nm i)with
 |true=>
  have ea:uk ch sn an i=an++[i]:=by unfold uk;rw[hc];rfl
  rw[ea]
  exact bO _ (aT (aL (t:=true) (gB (t1 hc)) (app w hn))) (w.app _) λy o a h=>ak h a
 |false=>
  have rows:=nok.rws w
  refine bp λGz kz=>?_
  refine m8 nok λ_ b1 b2 b3 b4 b5=>?_
  refine cU (jn (k:=k) G rows b1 b2 b3 b4) λN2 H2 f2 z0 ex2 _=>ah z0 λjs g1 g2=>?_
  have w2:=w.ext ex2
  let F2:Fs:=⟨aZ (bK n) sc,aC (bK n) sc.names⟩
  refine cc (ou (F:=F2) (k:=k+101) (gens:=[⟨.Tuple [.Name "one" p5,.Name "need" p6] kd p7,qp p8 p9 p10,[yJ p11 p12 p13 p14 p15 p16 p17],0⟩]) (sc:=sc) (pos:=p18) (elt:=.Name "need" p4) (φ:=mS sn an i) (el:= λp=>p.2) G (hki n) (by lia) k1 k2 (by decide) rfl g1 g2 (by lia) (λp l done hx hy=>by
   have nH:=w2.nc
   have n2:=ex2 _ _ hn
   refine⟨?_,aa (hki n) k2 hy⟩
   have c1:∀{t:Bool},(p.1.cps.toList==(nm i).cps.toList)=t→Te c F2 (k+101) (.Compare (.Name "one" p11) [.Eq] [.Name "name" p12] p13) ⟨l,H2++[AO.list done]⟩ t ⟨l,H2++[AO.list done]⟩:= λht=>av rfl (aa (hki n) k1 hx) (dO (hki n) k3 k5 (aB n2) (by decide)) (ek ht)
   have c2:∀{t:Bool},(an.map nm).contains p.2=t→Te c F2 (k+101) (.Compare (.Name "need" p14) [.In] [.Name "anew" p15] p16) ⟨l,H2++[AO.list done]⟩ t ⟨l,H2++[AO.list done]⟩:= λht=>av rfl (aa (hki n) k2 hy) (dO (hki n) k4 k6 (aB w2.ac) (by decide)) (lF (ys:=an.map nm) (aB (by rw[w2.an];simp[be])) ht)
   show Te c F2 (k+101) (yJ p11 p12 p13 p14 p15 p16 p17) _ (mS sn an i p) _
   unfold yJ mS
   cases h1:(p.1.cps.toList==(nm i).cps.toList)with
   |false=>exact bG (c1 h1)
   |true=>
    cases h2:(an.map nm).contains p.2 with
    |false=>exact bu (c1 h1) (bG (c2 h2))
    |true=>exact bu (c1 h1) (bu (c2 h2) ie)) sn 0 [] [] rfl (ZA _) (Zl _)) λl' cl=>?_
  refine bb (H2++[AO.list ([]++(sn.filter (mS sn an i)).map λp=>.str p.2)]) λH3 e3=>?_
  rw[←e3]at cl
  have ex3:bW H2 H3:= λy o h=>by rw[e3];exact aB h
  refine bb (H3++[AO.list []]) λH4 e4=>?_
  refine kz ?_
  have ex4:bW H3 H4:= λy o h=>by rw[e4];exact aB h
  have w4:=(w2.ext ex3).ext ex4
  have n4:=ex4 _ _ (ex3 _ _ (ex2 _ _ hn))
  have lc:=fV (F:=bK n) (k:=k+101) (σ:=⟨l,H⟩) (σ₁:=⟨l,H2⟩) (I:=aQ N2 (js.map .obj)) (loc':=l') (H':=H3) (a:=.obj N2) (rest:=[]) (ifs:=[yJ p11 p12 p13 p14 p15 p16 p17]) (target:=.Tuple [.Name "one" p5,.Name "need" p6] kd p7) (iter:=qp p8 p9 p10) (elt:=.Name "need" p4) (pos:=p18) G.ok az (hsc n) (λ_ _=>rfl)
   (jT (σ₂:=⟨l,H⟩) G (hH _) (λ_=>rfl) (dB G (bj n) rfl (i7 _)) (af λ_=>rfl) (am (λ_=>rfl) (aa (bj n) rfl L.n) au) f2)
   (d6 g1) g1 (by rw[e3];simp) @cl
  have el:Ev c (bK n) (k+101) (.List [] p19) ⟨l,H3⟩ (.obj H3.length) ⟨l,H4⟩:=by
   have z:=dL (c:=c) (F:=bK n) (k:=k+101) (pos:=p19) (σ₁:=⟨l,H3⟩) (vs:=[]) (by decide) au
   rw[e4];exact z
  have t2:∀{t:Bool},(!(sn.filter (mS sn an i)).isEmpty)=t→Te c (bK n) (k+101) (.Compare (.ListComp (.Name "need" p4) [⟨.Tuple [.Name "one" p5,.Name "need" p6] kd p7,qp p8 p9 p10,[yJ p11 p12 p13 p14 p15 p16 p17],0⟩] sc p18) [.NotEq] [.List [] p19] p20) ⟨l,H⟩ t ⟨l,H4⟩:= λ{t} ht=>
   av rfl lc el (tJ (vs:=[]++(sn.filter (mS sn an i)).map λp=>.str p.2) (by show H4[H2.length]?=_;rw[e4,e3];exact aB aO) (by show H4[H3.length]?=_;rw[e4];exact aO) (by rw[←ht];cases sn.filter (mS sn an i)<;>rfl))
  cases hh:(!(sn.filter (mS sn an i)).isEmpty)with
  |true=>
   have ea:uk ch sn an i=an++[i]:=by unfold uk;rw[hc,hh];rfl
   rw[ea]
   exact bO _ (aT (aL (t:=true) (ej (t1 hc) (gB (t2 hh))) (app w4 n4))) (w4.app _) λy o a h=>ak (ex4 _ _ (ex3 _ _ (ex2 _ _ h))) a
  |false=>
   have ea:uk ch sn an i=an:=by unfold uk;rw[hc,hh];rfl
   rw[ea]
   exact bO H4 (aT (aL (t:=false) (ej (t1 hc) (ej (t2 hh) jN)) ar)) w4 λy o a h=>ex4 _ _ (ex3 _ _ (ex2 _ _ h))
end
inductive kJ(su:Nat→List Nat)(ord:List Nat)(ch:List Str)(sn:List (Str×Str)):(Nat→Int)→List Nat→List Nat→List Nat→Prop
 |stop (np:Nat→Int) (an:List Nat):kJ su ord ch sn np [] an an
 |go {np:Nat→Int} {rd an r:List Nat} (h1:rd≠[]) (h2:pS su (mU np rd,[]) rd) (h3:rd.length≤5) (h4:∀i∈rd,i∈ord) (h5:an.length+rd.length<100) (h6:(jZ su (mU np rd,[]) rd).2.length<100)
   (h:kJ su ord ch sn (jZ su (mU np rd,[]) rd).1 (jZ su (mU np rd,[]) rd).2 (rd.foldl (uk ch sn) an) r):kJ su ord ch sn np rd an r
section
variable{R AN L1 CH:Nat}{rd an:List Nat}{ch:List Str}{rowsN:List (List Str)}
theorem En(ch:List Str)(sn:List (Str×Str))(an:List Nat)(i:Nat):(uk ch sn an i).length≤an.length+1:=by
 unfold uk
 split<;>simp
theorem z7(G:c.Go)(hCH:CH<B∧H0[CH]?=some (.list (ch.map .str)))(nok:iB c H0 B L1 rowsN sn):∀(rest:List Nat){l:List (Str×AV)}{H:List AO}{an:List Nat},LW l S L1 CH→mQ c n H0 H S D N R AN B po fi ord np rd an su pi pd ps→H[T]?=some (.tuple vs)→an.length+rest.length<900→
  ∃H',(∀pp:Pos,fg c (bK n) (k+101) (fM T vs) (.Name "name" pp) nE (be rest) ⟨l,H⟩ .next ⟨l,H'⟩)∧mQ c n H0 H' S D N R AN B po fi ord np rd (rest.foldl (uk ch sn) an) su pi pd ps∧H'[T]?=some (.tuple vs):=by
 intro rest
 induction rest with
 |nil=>
  intro l H an L w hT _
  exact bO H (λ_=>.nil hT) w hT
 |cons i rest ih=>
  intro l H an L w hT hl
  refine bp λGz kz=>?_
  refine cc (w.nc) λv0 hc=>?_
  have Tn:T≠n:= λq=>by rw[q,hc]at hT;cases hT
  have w1:=w.nam (some (.str (nm i)))
  have hn1:(H.set n (.cell (some (.str (nm i)))))[n]?=some (.cell (some (.str (nm i)))):=bF (aq hc)
  have hT1:(H.set n (.cell (some (.str (nm i)))))[T]?=some (.tuple vs):=ak hT Tn
  have TA:T≠AN:= λq=>by rw[q,w.an]at hT;cases hT
  refine br (CM (k:=k) G L w1 hn1 hCH nok (by lia)) λH1 e1 w2 k2=>?_
  have hT2:=k2 _ _ TA hT1
  refine br (ih L w2 hT2 (by have:=En ch sn an i;simp at hl ⊢;lia)) λH2 e2 w3 hT3=>?_
  refine kz ?_
  refine bO H2 ?_ w3 hT3
  generalize nE=bdy at e1 e2 ⊢
  exact λpp=>fg.next (a:=.str (nm i)) (rest:=be rest) (σ₁:=⟨l,H.set n (.cell (some (.str (nm i))))⟩) hT (.inl rfl) (wN (bj n) (by w_on) (by w_on:(bK n).cells.lookup ("name":Str)=some (n+0)) hc) e1 (e2 pp)
theorem mQ.keepG(w:mQ c n H0 H S D N R AN B po fi ord np rd an su pi pd ps)(kg:sW D R ord pi H H'){po' fi':Int}{np':Nat→Int}{rd':List Nat}(d':DS c H' S D N R po' fi' ord np' rd' su pi pd ps):mQ c n H0 H' S D N R AN B po' fi' ord np' rd' an su pi pd ps:=by
 have d:=w.d
 have up:∀{y:Nat}{o:AO},H[y]?=some o→o.pl=true→(∀es,o≠.dict es)→H'[y]?=some o:= λ{y o} h hp hd=>by
  refine kg y o h (λq=>?_) (λq=>?_) λi hi q=>?_
  ·rw[q,d.x.d]at h;cases h;exact hd _ rfl
  ·rw[q,d.r]at h;cases h;cases hp
  ·rw[q,d.g.i i hi]at h;cases h;cases hp
 have upl:∀{y:Nat}{vs:List AV},H[y]?=some (.list vs)→y≠R→H'[y]?=some (.list vs):= λ{y vs} h hr=>by
  refine kg y _ h (λq=>?_) hr λi hi q=>?_
  ·rw[q,d.x.d]at h;cases h
  ·rw[q,d.g.i i hi]at h;cases h
 refine cc (w.nc) λv hc=>?_
 refine⟨d',⟨v,up hc rfl (by intro es h;cases h)⟩,up w.ac rfl (by intro es h;cases h),upl w.an (Ne.symm w.ra),w.na,w.ra,w.bR,w.bA,λy o a t b=>?_⟩
 have z:=w.k y o a t b
 refine kg y o z (λq=>?_) (by have:=w.bR;lia) λi hi q=>?_
 ·rw[q,d.x.d]at z;cases z;cases t
 ·rw[q,d.g.i i hi]at z;cases z;cases t
theorem Cs(G:c.Go)(hCH:CH<B∧H0[CH]?=some (.list (ch.map .str)))(nok:iB c H0 B L1 rowsN sn)(hsu:∀i∈ord,∀j∈su i,j∈ord)(hz:∀i,(su i).length≤100)(L:LW l S L1 CH)(w:mQ c n H0 H S D N R AN B po fi ord np rd an su pi pd ps)
  (h2:pS su (mU np rd,[]) rd)(h3:rd.length≤5)(h4:∀i∈rd,i∈ord)(h5:an.length+rd.length<100):
  ∃l' H',dI c (bK n) (k+101) wg ⟨l,H⟩ .next ⟨l',H'⟩∧(∀y:Str,y≠"ready"→l'.lookup y=l.lookup y)∧mQ c n H0 H' S D N R AN B (po+rd.length) (fi+rd.length) ord (jZ su (mU np rd,[]) rd).1 (jZ su (mU np rd,[]) rd).2 (rd.foldl (uk ch sn) an) su pi pd ps:=by
 refine bp λGz kz=>?_
 obtain⟨H1,T,f1,hT,hTl,x1,g1,r1,kg1⟩:=Im (k:=k) G w.d.x w.d.g w.d.r w.d.n h4 h3
 have w1:mQ c n H0 H1 S D N R AN B (po+rd.length) fi ord (mU np rd) [] an su pi pd ps:=w.keepG kg1 ⟨x1,g1,r1,w.d.n⟩
 let l1:List (Str×AV):=aR ("ready":Str) (.obj T) l
 have L1':LW l1 S L1 CH:=⟨dR L.s,dR L.n,dR L.c⟩
 have rT:l1.lookup ("ready":Str)=some (.obj T):=aj _ _ _
 refine br (z7 (k:=k) G hCH nok rd L1' w1 hT (by lia)) λH2 lp w2 hT2=>?_
 refine bb (H2++[AO.meth (.ref 150) (.obj S)]) λHm em=>?_
 have exm:bW H2 Hm:= λy o h=>by rw[em];exact aB h
 have wm:=w2.ext exm
 refine br (Dg (k:=k) G wm.d hsu hz h4 h2 h3 (by simp)) λH3 f3 d3 kg3=>?_
 refine kz ?_
 have w3:=wm.keepG kg3 d3
 refine fq l1 H3 ?_ (λy hy=>bV _ _ _ hy _) w3
 have fr:∀{p1 p2 p3:Pos},Ex c (bK n) (k+101) (.For (.Name "name" p1) (.Name "ready" p2) nE [] p3) ⟨l1,H1⟩ .next ⟨l1,H2⟩:= λ{p1 p2 p3}=>by
  have lp1:=lp p1
  generalize nE=bdy at lp1 ⊢
  exact gu (I:=fM T (be rd)) G.ok fW (λ_ _=>rfl) (λ_ _=>rfl) (by lia) (aa (bj n) rfl rT) (kZ hT) lp1
 have hme:Hm[H2.length]?=some (.meth (.ref 150) (.obj S)):=by rw[em];exact aO
 have hTm:=exm _ _ hT2
 rw[em]at hTm hme f3
 generalize eb:nE=bdy at fr
 k_dflt refine' ae (aw (σ₁:=⟨l,H1⟩) (bj n) rfl (λ_=>rfl) (gp (σ₁:=⟨l,H⟩) (σ₂:=⟨l,H⟩) G (E9 _) (eM _) (λ_=>rfl) (aa (bj n) rfl L.s) w.d.x.s w.d.x.d rfl (Ia _) aU au f1)) (ae ?_ (aT (cu (F:=bK n) (v:=.none) (qN n) (λ_=>rfl) (Aq (σ₁:=⟨l1,H2⟩) (σ₂:=⟨l1,H2++[AO.meth (.ref 150) (.obj S)]⟩) (i:=S) (d:=D) G (wV _) (eM _) (IV _) (by decide) (λ_=>rfl) (aa (bj n) rfl L1'.s) w2.d.x.s w2.d.x.d rfl (EP _) (λ_=>Ax (aa (bj n) rfl rT) (.inr hTm) (by simp[be];lia)) hme f3))))
 subst eb
 exact fr
theorem B9(G:c.Go)(hCH:CH<B∧H0[CH]?=some (.list (ch.map .str)))(nok:iB c H0 B L1 rowsN sn)(hsu:∀i∈ord,∀j∈su i,j∈ord)(hz:∀i,(su i).length≤100){r:List Nat}(rn:kJ su ord ch sn np rd an r):
  ∀{l:List (Str×AV)}{H:List AO}{po:Int},LW l S L1 CH→rd.length<100→mQ c n H0 H S D N R AN B po po ord np rd an su pi pd ps→
  ∃l' H' po',Wh c (bK n) (k+101) (uE gm 8) wg [] ⟨l,H⟩ .next ⟨l',H'⟩∧(∀y:Str,y≠"ready"→l'.lookup y=l.lookup y)∧∃np',mQ c n H0 H' S D N R AN B po' po' ord np' [] r su pi pd ps:=by
 have tst:∀{l:List (Str×AV)}{H:List AO}{po:Int}{np:Nat→Int}{rd an:List Nat}{t:Bool},LW l S L1 CH→rd.length<100→mQ c n H0 H S D N R AN B po po ord np rd an su pi pd ps→(!rd.isEmpty)=t→Te c (bK n) (k+101) (uE gm 8) ⟨l,H⟩ t ⟨l,H⟩:= λ{l H po np rd an t} L hl w ht=>by
  have f:=Fv (k:=k+100) G w.d.x w.d.r (by simp[be];lia)
  have e:(decide (po<po)||!(be rd).isEmpty)=t:=by rw[←ht];simp[be]
  rw[e]at f
  k_dflt refine' bQ (λ_ _=>rfl) (gp (σ₁:=⟨l,H⟩) (σ₂:=⟨l,H⟩) G (Ap _) (eM _) (λ_=>rfl) (aa (bj n) rfl L.s) w.d.x.s w.d.x.d rfl (FJ _) aU au f) bH
 induction rn with
 |stop np an=>
  intro l H po L hl w
  exact ui l H po (ir (tst (t:=false) L hl w rfl) ar) (λ_ _=>rfl) np w
 | @go np rd an r h1 h2 h3 h4 h5 h6 h ih=>
  intro l H po L hl w
  refine bp λGz kz=>?_
  refine cj (Cs (k:=k) G hCH nok hsu hz L w h2 h3 h4 h5) λl1 H1 e1 k1 w1=>?_
  have L1':LW l1 S L1 CH:=⟨(k1 _ (by decide)).trans L.s,(k1 _ (by decide)).trans L.n,(k1 _ (by decide)).trans L.c⟩
  obtain⟨l2,H2,po2,e2,k2,np2,w2⟩:=ih L1' h6 w1
  refine kz ?_
  refine ui l2 H2 po2 (jB (.inl rfl) (tst (t:=true) L hl w ?_) e1 e2) (λy hy=>(k2 y hy).trans (k1 y hy)) np2 w2
  cases rd with
  |nil=>exact absurd rfl h1
  |cons _ _=>rfl
end
theorem yw{scope:Scope}{newAcc first:Sem Value}{g:Comprehension}{gs:List Comprehension}{u:Value→Sem Unit}{cl:List (Str×Addr)}(hclo:closureFor scope env=pure cl)
  (hcl:clausesOf e=g::gs)(hs:∀x,foldedSetIterable g.iter env x=pure x)(hkind:scope.kind=.function)(hnames:∀x∈scope.names,x.2=.local→(e7 scope env).names.lookup x.1=some .local)
  (h:wpAny M A first (λx s₁=>wpAny M A (pyIter x) (λit s₂=>wpAny M A newAcc (λacc s₃=>
   wpAny M A (newFunctionEnv scope env.globals cl [] env.qual none .none (some env)) (λcenv s₄=>
    codeAny M A (.compStart e 0 it acc {cenv with scope:=e7 scope env}) (λr s'=>r=.ok .next∧wpAny M A (u acc) (λ_ s''=>∃m,s''.heap.Ns cenv.locals m∧∀h' m',h'.Ns cenv.locals m'→Heap.SameBut cenv.locals s''.heap h'→Q .none {s'' with heap:=h'}) E s') s₄) E s₃) E s₂) E s₁) E s):
  wpAny M A (comprehension e scope env pos newAcc false first (some u)) Q E s:=by
 unfold comprehension
 rw[hclo,hcl]
 refine YC (YE h (λx s₁ h₁=>YC (YG (YC (wpAny_of_eq (hs x) (YC (YF (YE h₁ (λit s₂ h₂=>
  wpAny_standIf (YC (YE h₂ (λacc s₃ h₃=>YC (YD (YC (YE h₃ (λcenv s₄ h₄=>?_) λ_ _ h'=>h')))) λ_ _ h'=>h')))
   λ_ _ h'=>h'))))))) λ_ _ h'=>h')
 dsimp only
 have hv:∀x∈(scope.names.filter λx=>(x.2== .local||x.2== .cell)&&x.1 != (".0":Str)).reverse.drop 1++(scope.names.filter λx=>(x.2== .local||x.2== .cell)&&x.1 != (".0":Str)).reverse.take 1,x.2=.local→
   Env.kindOf {cenv with scope:=e7 scope env} x.1=some .local:= λx hx hl=>hnames x (ZQ.mp (List.mem_reverse.mp (by
   rcases ZT.mp hx with h|h
   ·exact List.mem_of_mem_drop h
   ·exact List.mem_of_mem_take h))).1 hl
 refine YF (YC (wpAny_attempt (YF (wpAny_run (codeAny_mono h₄ λr s' hr=>?_)))))
 refine aV hr ?_;clear hr;intro z0 hr;subst z0
 refine YC (wpAny_rule ?_)
 refine YC (YF (YE hr (λ_ s'' z=>?_) λ_ _ z=>z))
 refine ah z λm hn hq=>?_
 exact YC (wpAny_comp_letGo (cenv:={cenv with scope:=e7 scope env}) hkind _ s'' m hv hn λh' m' hn' hs'=>YD (hq h' m' hn' hs'))
theorem aW.otherD{L:Addr}(r:aW c A F ρ σ s env)(ap:∀i,i<σ.H.length→ρ i≠L)(up:c.h₁.get? L=none)(ne:env.locals≠L)(hd:∃o es ep,h'.get? L=some o∧o.data=.dict es ep)(hk:∀b ob,s.heap.get? b=some ob→b≠L→h'.get? b=some ob):aW c A F ρ σ {s with heap:=h',toks:=tk} env:=by
 have nb:∀b ob,c.h₁.get? b=some ob→b≠L:= λb ob e=>by rintro rfl;rw[up]at e;cases e
 refine⟨⟨λi ao e=>?_,r.hr.inj,r.hr.up,λb ob e t=>hk b ob (r.hr.base b ob e t) (nb b ob e),λob e=>?_⟩,r.sc,r.gl,r.bl,r.ce,r.ci,?_,r.ap,r.lf,r.ge,r.sk.same rfl λb ob es ep g1 g2 _ _=>?_,r.tp,r.fl⟩
 ·refine ah (r.hr.at_ i ao e) λob h1 h2=>?_
  exact al ob (hk _ _ h1 (ap i (aq e))) h2
 ·exact(r.hr.tj ob e).imp (λz=>hk _ _ z (nb _ _ e)) λ⟨z1,z2,vs,more,z3,z4⟩=>bS z1 z2 vs more z3 (hk _ _ z4 (nb _ _ e))
 ·refine bp λGz kz=>?_
  refine ah (r.lo) λm hm hl=>?_
  refine dg hm λob es ep g1 g2=>?_
  refine kz ?_
  exact al m (bh ob es ep (hk _ _ g1 ne) g2) hl
 ·by_cases q:b=L
  ·subst q;exact hd
  ·exact bh ob es ep (hk b ob g1 q) g2
theorem nZ{py spos:Pos}{rest:List Comprehension}{sc':Scope}{cl:List (Str×Nat)}{I:qm}(O:c.Ok)(hk:F.scope.kind=.function)(hy:F.scope.names.lookup y=some .local)
  (hsw:∀env:Env,env.scope=F.scope→swapsWith (.ListComp elt (⟨target,iter,ifs,0⟩::rest) sc pos) (some (.Name y py)) spos.line env=pure true)(G:I.Good c)(S:cz F sc sc' cl)(hs:∀env x,foldedSetIterable iter env x=pure x)
  (h1:Ev c F k iter σ a σ₁)(h2:Mk c I a σ₁)(ok:I.ok σ₁.H)(hlt:σ₁.H.length<H'.length)(h3:CL c ⟨sc',cl⟩ k elt (⟨target,iter,ifs,0⟩::rest) sc pos 0 I σ₁.H.length 0 ⟨[],σ₁.H++[.list []]⟩ ⟨loc',H'⟩):
  Ex c F k (.Assign [.Name y py] (.ListComp elt (⟨target,iter,ifs,0⟩::rest) sc pos) spos) σ .next ⟨aR y (.obj σ₁.H.length) σ₁.loc,H'⟩:= λA ρ s env Q E K r q=>by
 rw[exec_Assign_Name_used _ _ _ _ (hsw env r.sc)]
 refine YC (YG (YC ?_))
 show wpAny _ A (do let _←comprehension (.ListComp elt (⟨target,iter,ifs,0⟩::rest) sc pos) sc env _ (newList []) false (eval iter env) (some (assign (.Name y py) env))) _ _ s
 refine YC ?_
 refine yw (u:=assign (.Name y py) env) (Q:= λ_ s'=>wpAny c.M A (pure ()) (λ_ s'=>wpAny c.M A (pure Flow.next) Q E s') E s') (cl:=cl.map λp=>(p.1,ρ p.2)) (S.clo env ρ r.ce) rfl (hs env) S.kind (by rw[S.own env r.sc];exact S.names) ?_
 refine h1 A ρ s env _ E K r λρ1 s1 x r1 st1 vx=>h2 r1 vx λo t ho hf=>?_
 have fr1:=r1.newFree (o:=o) (G.nd _ _ _ ho)
 have r2:=r1.push o t
 have hp:=HP.of_push (o:=o) r1
 have g2:(s1.heap.push o).get? s1.heap.objs.size=some o:=ZN _ hf
 refine bb (({s1 with heap:=s1.heap.push o,toks:=t}:Shared)) λs2 es2=>?_
 rw[←es2]at r2 ⊢
 have g2':s2.heap.get? s1.heap.objs.size=some o:=by rw[es2];exact g2
 have st2:aM c ρ1 σ₁.H.length (· =env.locals) s1 ρ1 σ₁.H.length s2:=by rw[es2];exact hp.step t
 refine wpAny_newList ?_ (by decide)
 refine bp λGz kz=>?_
 refine aV (r2.alloc (ao:=.list []) (ob:={cls:=.type "list",data:=.seq [].toArray}) s2.toks rfl (cI [] _ rfl .nil)) λr3 st3=>?_
 have e3:gg ρ1 σ₁.H.length s2.heap.objs.size σ₁.H.length=s2.heap.objs.size:=aF
 refine aV (fr1.step O (s:=s2) g2' st3) λfr3 g3=>?_
 have ho3:I.obj (gg ρ1 σ₁.H.length s2.heap.objs.size) 0 o:=G.ag ρ1 _ σ₁.H 0 o ok ho λj hj=>bc hj
 have ag3:∀j,j<σ.H.length→gg ρ1 σ₁.H.length s2.heap.objs.size j=ρ j:= λj hj=>(st1.trans (st2.trans st3)).ag j hj
 refine bb (({s2 with heap:=s2.heap.push {cls:=.type "list",data:=.seq [].toArray},toks:=s2.toks}:Shared)) λs3 es3=>?_
 refine kz ?_
 change wpAny _ _ _ _ _ ({s2 with heap:=s2.heap.push {cls:=.type "list",data:=.seq [].toArray},toks:=s2.toks}:Shared)
 rw[←es3]at r3 st3 g3 ⊢
 have l3:(σ₁.H++[AO.list []]).length=σ₁.H.length+1:=by simp
 have k12:∀b ob,s1.heap.get? b=some ob→s2.heap.get? b=some ob:= λb ob e=>by rw[es2];exact zH _ e
 have k23:∀b ob,s2.heap.get? b=some ob→s3.heap.get? b=some ob:= λb ob e=>by rw[es3];exact zH _ e
 have stA:∀L:Addr→Prop,aM c ρ1 σ₁.H.length L s1 (gg ρ1 σ₁.H.length s2.heap.objs.size) (σ₁.H++[AO.list []]).length s3:= λL=>by
  refine(cO k12 (by rw[es2])).trans ?_
  rw[l3,es3]
  exact dc _ _
 generalize gg ρ1 σ₁.H.length s2.heap.objs.size=ρ3 at*
 refine wpAny_newFunctionEnv S.nocell (λx hx=>nomatch hx) (λh' hns hsb=>?_) S.kind
 have k34:∀b ob,s3.heap.get? b=some ob→h'.get? b=some ob:= λb ob e=>hsb.extBut b ob (Z6 (ZB e)) (zH _ e)
 refine bb (({newEnv sc s3.heap.objs.size env.globals (cl.map λp=>(p.1,ρ p.2)) env.qual none .none (some env) builtinsNs with scope:=e7 sc env}:Env)) λcenv ec=>?_
 have cl_l:cenv.locals=s3.heap.objs.size:=by rw[ec];rfl
 have r4:aW c A ⟨sc',cl⟩ ρ3 ⟨[],σ₁.H++[.list []]⟩ {s3 with heap:=h',toks:=s3.toks} cenv:=by
  refine⟨⟨λi ao e=>?_,r3.hr.inj,r3.hr.up,λb ob e t=>k34 _ _ (r3.hr.base b ob e t),λob e=>?_⟩,?_,?_,?_,?_,λp hp=>?_,⟨_,by rw[cl_l];exact hns,λx v hv=>nomatch hv⟩,λi hi=>?_,?_,r3.ge,r3.sk.same rfl λb ob es ep g1 g2 _ _=>⟨ob,es,ep,k34 _ _ g1,g2⟩,λz z2=>?_,λz=>absurd z S.dot⟩
  ·refine ah (r3.hr.at_ i ao e) λob z1 z2=>?_
   exact al ob (k34 _ _ z1) z2
  ·exact(r3.hr.tj ob e).imp (λz=>k34 _ _ z) λ⟨z1,z2,vs,more,z3,z4⟩=>bS z1 z2 vs more z3 (k34 _ _ z4)
  ·rw[ec];exact S.own env r.sc
  ·rw[ec];exact r.gl
  ·rw[ec];exact r.bl
  ·rw[ec]
   show(cl.map λp=>(p.1,ρ p.2))=cl.map λp=>(p.1,ρ3 p.2)
   exact ZO λp hp=>by rw[ag3 _ (r.ci p (S.sub p hp))]
  ·show p.2<(σ₁.H++[AO.list []]).length
   rw[l3];have:=r.ci p (S.sub p hp);have:=st1.le;lia
  ·rw[cl_l];exact(r3.newFree (o:=o) (G.nd _ _ _ ho)).ap i hi
  ·rw[cl_l];exact(r3.newFree (o:=o) (G.nd _ _ _ ho)).up
  ·rw[ec]at z2;cases z2
 have g4:h'.get? s1.heap.objs.size=some o:=k34 _ _ g3
 have fr4:fx c ρ3 (σ₁.H++[AO.list []]).length cenv s1.heap.objs.size o:=⟨fr3.ap,fr3.up,by rw[cl_l];exact Z6 (ZB g3),fr3.nd⟩
 have eg:({newEnv sc s3.heap.objs.size env.globals (cl.map λp=>(p.1,ρ p.2)) env.qual none .none (some env) builtinsNs with scope:=e7 sc env}:Env)=cenv:=ec.symm
 rw[eg]
 have eS:Value.ref s2.heap.objs.size=Value.ref (ρ3 σ₁.H.length):=by rw[e3]
 rw[eS]
 refine ij (s:={s3 with heap:=h',toks:=s3.toks}) G g4 ho3 rfl ?_
 refine h3 (s₀:=s1) (ρ₀:=ρ1) (n₀:=σ₁.H.length) (fm s1.heap) K r4 g4 ho3 fr4 ((stA _).trans (cO k34 rfl)) (by rw[l3];exact Za _) λρ5 s5 r5 st5 e5=>⟨rfl,?_⟩
 have n1:s1.heap.get? cenv.locals=none:=by
  cases z:s1.heap.get? cenv.locals with
  |none=>rfl
  |some ob=>
   have:=ZB (k23 _ _ (k12 _ _ z))
   rw[cl_l]at this;exact absurd this (ZJ _)
 have st6:=st5.drop (h':=s5.heap) n1 (λb ob e _=>e)
 refine aV (r1.after (s':={s5 with heap:=s5.heap}) O r5.hr r5.ge st6) λr7 st7=>?_
 have ne:cenv.locals≠env.locals:= λq=>by
  refine bp λGz kz=>?_
  refine ah (r1.lo) λm z0 _=>dg z0 λo es ep e1 _=>?_
  refine kz ?_
  rw[←q,n1]at e1;cases e1
 refine wpAny_assign_Name ?_
 refine ah (r7.lo) λm7 hm7 _=>?_
 refine wpAny_storeName_local (m:=m7) (by unfold Env.kindOf;rw[r.sc];exact hy) hm7 (λh' hn hs=>?_) (by rw[r.sc,hk];rfl)
 have vy:VR ρ5 H'.length (.obj σ₁.H.length) (.ref (ρ3 σ₁.H.length)):=⟨hlt,by rw[e5]⟩
 refine aV (r7.bind (x:=y) (h':=h') (tk:=s5.toks+1) vy (λm' hm'=>by
  have:m'=m7:=by
   obtain⟨o,es,ep,e1,d1,_,f1⟩:=hm7
   obtain⟨o2,es2,ep2,e2,d2,_,f2⟩:=hm'
   rw[e1]at e2;cases e2
   rw[d1]at d2;cases d2
   funext y;rw[←f1 y,←f2 y]
  subst this;exact hn) hs) λr8 st8=>?_
 refine ah (r5.lo) λm hm _=>?_
 refine al m (by rw[←cl_l];exact hm.sameBut hs ne) λh6 m' hn6 hs6=>?_
 rw[←cl_l]at hn6 hs6
 have kk:∀b ob,h'.get? b=some ob→b≠cenv.locals→h6.get? b=some ob:= λb ob e hne=>(hs6.2 b hne).trans e
 have r9:=r8.otherD (h':=h6) (tk:=s5.toks+1) (L:=cenv.locals) r5.ap r5.lf (Ne.symm ne) (by refine c7 hn6 λo es ep e1 d1 _=>?_;exact bh o es ep e1 d1) kk
 have st9:=((st7.trans st8):aM c ρ1 σ₁.H.length (· =env.locals) s1 ρ5 H'.length _).other (h':=h6) (tk:=s5.toks+1) (it:=cenv.locals) n1 kk
 exact YD (YD (q ρ5 _ _ r9 (st1.trans st9) rfl))
noncomputable def qL(l:List Stmt)(i:Nat):Stmt:=match l[i]? with
 |some s=>s
 |none=>.Pass ⟨0,0,0,0⟩
theorem yO{F:Scope}{t:Str}{line:Nat}(he:env.scope=F)(hk:F.kind=.function)(ht:F.names.lookup t=some .local)(hl:(p1.line==pos.line)=true)(hs:(sc.names.any λx=>x.1==t&&(x.2== .local||x.2== .cell))=false):swapsWith (.ListComp elt gens sc pos) (some (.Name t p1)) line env=pure true:=by
 have e1:(env.blockKind== .function)=true:=by unfold Env.blockKind;rw[he,hk];rfl
 have e2:(env.kindOf t==some .local)=true:=by unfold Env.kindOf;rw[he,ht];rfl
 show(pure (env.blockKind== .function&&env.kindOf t==some .local&&p1.line==pos.line&&!(sc.names.any λx=>x.1==t&&(x.2== .local||x.2== .cell))):Sem Bool)=pure true
 rw[e1,e2,hl,hs];rfl
theorem BO(kz:∀(sc:Scope)(p1 p2 p3 p4 p5 p6 p7 p8 p9 p10:Pos)(kd:Nat),(qL gm 3=.Assign [.Name "changed" p1] (.ListComp (.Name "name" p2) [⟨.Tuple [.Name "name" p3,.Name "need" p4] kd p5,.BinOp (.Name "lost" p6) .Add (.Name "found" p7) p8,[],0⟩] sc p9) p10∧
  (∀env:Env,env.scope=nD→swapsWith (.ListComp (.Name "name" p2) [⟨.Tuple [.Name "name" p3,.Name "need" p4] kd p5,.BinOp (.Name "lost" p6) .Add (.Name "found" p7) p8,[],0⟩] sc p9) (some (.Name "changed" p1)) p10.line env=pure true)∧
  (sc.names.all λx=>x.2 != .free)=true∧(sc.names.all λx=>x.2 != .cell)=true∧sc.kind=.function∧(sc.names.lookup (".0":Str)==some .local&&sc.names.all λx=>x.2 != .local||sc.names.lookup x.1==some .local)=true∧sc.names.lookup ("name":Str)=some .local∧sc.names.lookup ("need":Str)=some .local)→Gz):Gz:=kz _ _ _ _ _ _ _ _ _ _ _ _ ⟨by k_dflt rfl,λenv he=>yO he (by w_on) (by w_on) (by w_on) (by w_on),by w_on,by w_on,by w_on,by w_on,by w_on,by w_on⟩
theorem aN.app{ps qs:List (Str×Str)}(h:aN H js ps)(g:aN H us qs):aN H (js++us) (ps++qs):=by
 refine⟨by simp[h.1,g.1],λi j p h1 h2=>?_⟩
 by_cases q:i<js.length
 ·rw[zL q]at h1
  rw[zL (h.1▸q)]at h2
  exact h.2 i j p h1 h2
 ·have q':=ZX.mp q
  rw[zR q']at h1
  rw[zR (h.1▸q'),←h.1]at h2
  exact g.2 _ j p h1 h2
theorem H9(G:c.Go){M:Nat}{xs:List (Str×Str)}(hl:l.lookup ("lost":Str)=some (.obj M))(hf:l.lookup ("found":Str)=some (.obj U))(hM:cT H M xs)(hU:cT H U ys)(hz:xs.length+ys.length<900):
  ∃H' CH,Ex c (bK n) (k+101) (qL gm 3) ⟨l,H⟩ .next ⟨aR "changed" (.obj CH) l,H'⟩∧H'[CH]?=some (.list (((xs++ys).map (·.1)).map .str))∧bW H H':=by
 refine bp λGz kz=>?_
 refine BO λsc p1 p2 p3 p4 p5 p6 p7 p8 p9 p10 kd hz_=>?_
 obtain⟨hb,hs,s1,s2,s3,s4,k1,k2⟩:=hz_
 refine ah hM λjs j1 j2=>?_
 refine ah hU λus u1 u2=>?_
 have scp:cz (bK n) sc sc []:=cS s1 s2 s3 s4
 have ksc:(Fs.mk sc []).scope.kind=.function:=s3
 have pq:=j2.app u2
 have ljs:=pq.1
 have oa:=DT (c:=c) (F:=bK n) (k:=k+101) (σ:=⟨l,H⟩) j1 u1 (by have:=j2.1;have:=u2.1;simp;lia)
 refine bb (H++[AO.list (js.map .obj++us.map .obj)]) λH1 e1=>?_
 have ex1:bW H H1:= λy o h=>by rw[e1];exact aB h
 have hT:H1[H.length]?=some (.list ((js++us).map .obj)):=by rw[e1,Zu];exact aO
 refine cc (ou (F:=⟨sc,[]⟩) (k:=k+101) (gens:=[⟨.Tuple [.Name "name" p3,.Name "need" p4] kd p5,.BinOp (.Name "lost" p6) .Add (.Name "found" p7) p8,[],0⟩]) (sc:=sc) (pos:=p9) (elt:=.Name "name" p2) (φ:= λ_=>true) (el:= λp=>p.1) G ksc (by lia) k1 k2 (by decide) rfl hT (pq.ext ex1) (by simp;lia) (λp l done hx hy=>⟨⟨rfl,rfl⟩,aa ksc k1 hx⟩) (xs++ys) 0 [] [] rfl (ZA _) (Zl _)) λl' cl=>?_
 refine bb (H1++[AO.list ([]++((xs++ys).filter λ_=>true).map λp=>.str p.1)]) λH2 e2=>?_
 refine kz ?_
 rw[←e2]at cl
 have ev:=nZ (y:="changed") (py:=p1) (spos:=p10) (F:=bK n) (k:=k+101) (σ:=⟨l,H⟩) (σ₁:=⟨l,H1⟩) (I:=aQ H.length ((js++us).map .obj)) (loc':=l') (H':=H2) (a:=.obj H.length) (rest:=[]) (ifs:=[]) (target:=.Tuple [.Name "name" p3,.Name "need" p4] kd p5) (iter:=.BinOp (.Name "lost" p6) .Add (.Name "found" p7) p8) (elt:=.Name "name" p2) (pos:=p9) G.ok (bj n) rfl hs az scp (λ_ _=>rfl)
  (i8 (aa (bj n) rfl hl) (aa (bj n) rfl hf) (e1▸oa)) (d6 hT) hT (by rw[e2];simp) @cl
 refine fq H2 H1.length ?_ ?_ λy o h=>by rw[e2];exact aB (ex1 _ _ h)
 ·rw[hb]
  exact ev
 ·rw[e2]
  have:([]++((xs++ys).filter λ_=>true).map λp=>AV.str p.1)=((xs++ys).map (·.1)).map .str:=by
   rw[List.filter_eq_self.mpr (λ_ _=>rfl),List.nil_append,Zr];rfl
  rw[this];exact aO
structure ja(rows:List (List Str)):Prop where
 ne:rows≠[]
 ok:∀r∈rows,jg r
 n:rows.length<900
 l:(aI rows).length≤sizeLine
 p:(Builtin.Str.partsBetween (aI rows) (Builtin.Str.occurrences (aI rows) "\n" 0 (aI rows).length ((aI rows).length+1)) ("\n":Str).length).length≤sizeLine
 r:∀r∈rows,r≠[]∧r.length<500
 q:(bT rows).length<64
noncomputable def Dp:oP:=⟨[],λ_=>0,λ_=>[]⟩
noncomputable def ic(nd:Nat→List Nat):oP:=zC nd Dp [4,3,2,1,0]
noncomputable def bM(nd:Nat→List Nat):List (List Str):=(ZG 5).map λi=>nm i::(nd i).map nm
def iO(ys zs:List Str):Prop:=(ys.length<2∧zs=ys)∨(2≤ys.length∧∃p:Array Nat,cY ys.length (λi j=>AK (ys.getD i "") (ys.getD j "")) (kas_sort ys.length)=some p∧(∀i∈p.toList,i<ys.length)∧(p.toList.map λi=>ys.getD i "")=zs)
structure kh(H:List AO)(L:Nat)(nd:Nat→List Nat)(j0 j1 j2 j3 j4:Nat):Prop where
 l:H[L]?=some (.list [.obj j0,.obj j1,.obj j2,.obj j3,.obj j4])
 a0:H[j0]?=some (.list (be (0::nd 0)))
 a1:H[j1]?=some (.list (be (1::nd 1)))
 a2:H[j2]?=some (.list (be (2::nd 2)))
 a3:H[j3]?=some (.list (be (3::nd 3)))
 a4:H[j4]?=some (.list (be (4::nd 4)))
theorem iU{l:List α}(h:l.length=n+1){G:Prop}(k:∀a t,l=a::t→t.length=n→G):G:=by
 cases l with
 |nil=>cases h
 |cons a t=>exact k a t rfl (Nat.succ.inj h)
theorem yD(h:oH H L (bM nd)):∃j0 j1 j2 j3 j4,kh H L nd j0 j1 j2 j3 j4:=by
 refine br h λjs h1 h2 h3=>?_
 have h2':js.length=5:=by rw[h2];rfl
 refine iU h2' λj0 t e h2=>iU h2 λj1 t2 e2 h2=>iU h2 λj2 t3 e3 h2=>iU h2 λj3 t4 e4 h2=>iU h2 λj4 t5 e5 h2=>?_
 have e6:=List.eq_nil_of_length_eq_zero h2
 subst e6 e5 e4 e3 e2 e
 ·skip
  have go:∀i j,[j0,j1,j2,j3,j4][i]?=some j→i<5→H[j]?=some (.list (be (i::nd i))):= λi j hj hi=>by
   have:=h3 i j (nm i::(nd i).map nm) hj (by unfold bM;simp[hi])
   rw[this]
   simp[be]
  exact⟨j0,j1,j2,j3,j4,h1,go 0 j0 rfl (by decide),go 1 j1 rfl (by decide),go 2 j2 rfl (by decide),go 3 j3 rfl (by decide),go 4 j4 rfl (by decide)⟩
noncomputable def zK(j0 j1 j2 j3 j4:Nat)(i:Nat):Nat:=[j0,j1,j2,j3,j4].getD i 0
theorem kh.at{j0 j2 j3 j4:Nat}(h:kh H L nd j0 j1 j2 j3 j4):∀i,i<5→H[zK j0 j1 j2 j3 j4 i]?=some (.list (be (i::nd i)))
 |0,_=>h.a0
 |1,_=>h.a1
 |2,_=>h.a2
 |3,_=>h.a3
 |4,_=>h.a4
 |n+5,h=>absurd h (by lia)
theorem kh.ext{j0 j2 j3 j4:Nat}(h:kh H L nd j0 j1 j2 j3 j4)(e:bW H H'):kh H' L nd j0 j1 j2 j3 j4:=⟨e _ _ h.l,e _ _ h.a0,e _ _ h.a1,e _ _ h.a2,e _ _ h.a3,e _ _ h.a4⟩
theorem we(hz:c.rz=true)(G:c.Go)(hk:F.scope.kind=.function){rows:List (List Str)}(B:ja rows){X:Nat}{ts:List AV}(hx:F.scope.names.lookup x=some .local)(hr:F.scope.names.lookup ("_law_read":Str)=some .globalImplicit)(ht:F.scope.names.lookup ("texts":Str)=some .local)(hl:l.lookup ("texts":Str)=some (.obj X))(hX:H[X]?=some (.list ts))(hi:ts[i]?=some (.str (aI rows)))(hi2:i<1000):
  ∃L H',(∀{p1 p2 p3 p4 p5 p6 p7:Pos}{q:Nat},Ex c F (k+112) (.Assign [.Name x p1] (.Call (.Name "_law_read" p2) [.Subscript (.Name "texts" p3) (.Constant (.int i) q p4) p5] [] p6) p7) ⟨l,H⟩ .next ⟨aR x (.obj L) l,H'⟩)∧oH H' L rows∧bW H H':=by
 refine cU (z6 (k:=k) hz G B.ne B.ok B.n B.l B.p (H:=H)) λL H' f r e _=>?_
 refine fq L H' (λ{p1 p2 p3 p4 p5 p6 p7 q}=>?_) r e
 exact aw (σ₁:=⟨l,H'⟩) hk hx (λ_=>rfl) (jT (σ₂:=⟨l,H⟩) G (sy _) (λ_=>rfl) (dB G hk hr (DD _)) (af λ_=>rfl) (am (λ_=>rfl) (cW (i:=(i:Int)) (by lia) (by lia) (λ_ _=>rfl) (λ_ _=>rfl) (aa hk ht hl) aJ hX (by simpa using hi)) au) f)
theorem IT(hz:c.rz=true)(G:c.Go){L0 L1:Nat}{rn:List (List Str)}(ho:l.lookup ("old":Str)=some (.obj L0))(hn:l.lookup ("new":Str)=some (.obj L1))(r0:oH H L0 ro)(r1:oH H L1 rn)(B0:ja ro)(B1:ja rn)(S0:fk (bT ro) so)(S1:fk (bT rn) sn)(ao:um so)(an:um sn)(zo:so.length≤64)(zn:sn.length≤64):
  ∃M U H',(∀{p1 p2 p3 p4 p5 p6 p7 p8 p9 p10 p11 p12:Pos}{kd:Nat},Ex c (bK n) (k+101) (.Assign [.Tuple [.Name "lost" p1,.Name "found" p2] kd p3] (.Call (.Name "sorted_list_difference" p4) [.Call (.Name "_law_needs" p5) [.Name "old" p6] [] p7,.Call (.Name "_law_needs" p8) [.Name "new" p9] [] p10] [] p11) p12) ⟨l,H⟩ .next ⟨aR "found" (.obj U) (aR "lost" (.obj M) l),H'⟩)∧cT H' M (cM so sn).1∧cT H' U (cM so sn).2∧bW H H':=by
 refine bp λGz kz=>?_
 refine cU (jn (k:=k) G r0 B0.r B0.n B0.q S0) λN0 H1 f1 z0 e1 _=>ah z0 λjs j1 j2=>?_
 refine cU (jn (k:=k) G (r1.ext e1) B1.r B1.n B1.q S1) λN1 H2 f2 z0 e2 _=>ah z0 λus u1 u2=>?_
 refine iz (GS (k:=k) hz G (e2 _ _ j1) u1 (j2.ext e2) u2 ao an (by rw[j2.1];exact zo) (by rw[u2.1];exact zn)) λT M U H3 f3 hT hM hU e3=>?_
 refine kz ?_
 refine iV M U H3 (λ{p1 p2 p3 p4 p5 p6 p7 p8 p9 p10 p11 p12 kd}=>?_) hM hU ((e1.trans e2).trans e3)
 have c1:Ev c (bK n) (k+101) (.Call (.Name "_law_needs" p5) [.Name "old" p6] [] p7) ⟨l,H⟩ (.obj N0) ⟨l,H1⟩:=jT (σ₂:=⟨l,H⟩) G (hH _) (λ_=>rfl) (dB G (bj n) rfl (i7 _)) (af λ_=>rfl) (am (λ_=>rfl) (aa (bj n) rfl ho) au) f1
 have c2:Ev c (bK n) (k+101) (.Call (.Name "_law_needs" p8) [.Name "new" p9] [] p10) ⟨l,H1⟩ (.obj N1) ⟨l,H2⟩:=jT (σ₂:=⟨l,H1⟩) G (hH _) (λ_=>rfl) (dB G (bj n) rfl (i7 _)) (af λ_=>rfl) (am (λ_=>rfl) (aa (bj n) rfl hn) au) f2
 have c3:Ev c (bK n) (k+101) (.Call (.Name "sorted_list_difference" p4) [.Call (.Name "_law_needs" p5) [.Name "old" p6] [] p7,.Call (.Name "_law_needs" p8) [.Name "new" p9] [] p10] [] p11) ⟨l,H⟩ (.obj T) ⟨l,H3⟩:=jT (σ₂:=⟨l,H2⟩) G (By _) (λ_=>rfl) (dB G (bj n) rfl (HQ _)) (af λ_=>rfl) (am (λ_=>rfl) c1 (am (λ_=>rfl) c2 au)) f3
 exact oq (σ₁:=⟨l,H3⟩) (λ_=>rfl) (λ_=>rfl) (λ_=>rfl) c3 (xA (σ₁:=⟨aR "lost" (.obj M) l,H3⟩) (by lia) (λ_=>rfl) hT (bg (bj n) rfl) (bg (bj n) rfl))
theorem Ab(a b d e f:AV):rv [a,b,d,e,f] none none (some (-1))=[f,e,d,b,a]:=by
 unfold rv
 rw[show(sliceBounds none none (some (-1)) [a,b,d,e,f].length)=sliceBounds none none (some (-1)) 5 from rfl]
 rw[show sliceRange (sliceBounds none none (some (-1)) 5).1 (sliceBounds none none (some (-1)) 5).2.1 (sliceBounds none none (some (-1)) 5).2.2=[4,3,2,1,0]by decide]
 rfl
theorem GW(G:c.Go){L1:Nat}{j0 j2 j3 j4:Nat}(hn:l.lookup ("new":Str)=some (.obj L1))(ra:kh H L1 nd j0 j1 j2 j3 j4)(hp:∀i,i<5→(nd i).length≤4∧∀p∈nd i,p<5):
  ∃H1 HI l2 H2 pi pd ps,(∀{p1 p2 p3 p4:Pos},Ex c (bK n) (k+101) (.Assign [.Name "sorter" p1] (.Call (.Name "TopologicalSorter" p2) [] [] p3) p4) ⟨l,H⟩ .next ⟨aR "sorter" (.obj (H.length+1)) l,H1⟩)∧
   (∀{p1 p2 p3 p4 p5 p6 p7:Pos}{q:Nat},Ex c (bK n) (k+101) (.For (.Name "row" p1) (.Subscript (.Name "new" p2) (.Slice none none (some (.UnaryOp .USub (.Constant (.int 1) q p3) p4)) p5) p6) mv [] p7) ⟨aR "sorter" (.obj (H.length+1)) l,H1⟩ .next ⟨l2,H2⟩)∧
   u4 c HI H2 HI.length (H.length+1) H.length (H.length+2) (ic nd) pi pd ps∧(∀y:Str,y≠"row"→l2.lookup y=(aR ("sorter":Str) (AV.obj (H.length+1)) l).lookup y)∧bW H HI:=by
 refine bp λGz kz=>?_
 refine bb (H++[AO.dict (xh (H.length+2) .none 0 0),AO.inst 167 H.length,dq c (H.length+2) []]) λH1 e1=>?_
 have f:=xM (c:=c) (k:=k+99) (H:=H) G
 rw[←e1]at f
 have ex1:bW H H1:= λy o h=>by rw[e1];exact aB h
 have l1:H1.length=H.length+3:=by rw[e1];simp
 have hD:H1[H.length]?=some (.dict (xh (H.length+2) .none 0 0)):=by rw[e1,zR (ZA _),ZY];rfl
 have hS:H1[H.length+1]?=some (.inst 167 H.length):=by rw[e1,zR (by lia)];simp
 have hN:H1[H.length+2]?=some (dq c (H.length+2) []):=by rw[e1,zR (by lia)];simp
 refine bb (H1++[AO.list [.obj j4,.obj j3,.obj j2,.obj j1,.obj j0]]) λHI eI=>?_
 have exI:bW H1 HI:= λy o h=>by rw[eI];exact aB h
 have lI:HI.length=H.length+4:=by rw[eI];simp[l1]
 have raI:=ra.ext (ex1.trans exI)
 have hRV:HI[H1.length]?=some (.list [.obj j4,.obj j3,.obj j2,.obj j1,.obj j0]):=by rw[eI];exact aO
 let lS:List (Str×AV):=aR ("sorter":Str) (.obj (H.length+1)) l
 have rS:u4 c HI HI HI.length (H.length+1) H.length (H.length+2) Dp (λ_=>0) (λ_=>0) (λ_=>0):=by
  refine⟨⟨exI _ _ hS,exI _ _ hD⟩,⟨.inl (exI _ _ hN),?_,?_,?_,?_,?_,?_,?_,List.nodup_nil⟩,?_,λy o _ _ h=>h,ZA _⟩<;>(intro i hi;cases hi)
 have old:∀(y:Nat)(o:AO),H[y]?=some o→y<HI.length∧y≠H.length+2:= λy o h=>by have:=aq h;lia
 have rj:∀i,i<5→HI[zK j0 j1 j2 j3 j4 i]?=some (.list (be (i::nd i)))∧zK j0 j1 j2 j3 j4 i<HI.length∧zK j0 j1 j2 j3 j4 i≠H.length+2:= λi hi=>⟨raI.at i hi,(old _ _ (ra.at i hi)).1,(old _ _ (ra.at i hi)).2⟩
 refine gZ (AT (k:=k) (n:=n) (nd:=nd) (rj:=zK j0 j1 j2 j3 j4) (RV:=H1.length) (l:=lS) (S:=H.length+1) G hRV (by lia) (by lia) rj hp [4,3,2,1,0] (aj _ _ _) rS (by decide) (λp=>by simp[Dp])) λl2 H2 pi pd ps lp x2 lk=>?_
 refine kz ?_
 refine o6 H1 HI l2 H2 pi pd ps (λ{p1 p2 p3 p4}=>?_) (λ{p1 p2 p3 p4 p5 p6 p7 q}=>?_) x2 lk (ex1.trans exI)
 ·exact aw (σ₁:=⟨l,H1⟩) (bj n) rfl (λ_=>rfl) (fS (σ₂:=⟨l,H⟩) G.ok (λ_=>rfl) (dB G (bj n) rfl (Jd _)) ⟨_,by rw[G.hK];exact HM _⟩ (gL aU au) f)
 ·have sl:=fE (c:=c) (F:=bK n) (k:=k+101) (σ:=⟨lS,H1⟩) (σ₁:=⟨lS,H1⟩) (σ₂:=⟨lS,H1⟩) (σ₃:=⟨lS,H1⟩) (σ₄:=⟨lS,H1⟩) (value:=.Name "new" p2) (lower:=none) (upper:=none) (step:=some (.UnaryOp .USub (.Constant (.int 1) q p3) p4)) (p:=p5) (pos:=p6) (j:=L1) (vs:=[.obj j0,.obj j1,.obj j2,.obj j3,.obj j4]) (l:=none) (u:=none) (t:=some (-1)) (v':=[.obj j4,.obj j3,.obj j2,.obj j1,.obj j0]) (by simp) (by simp) (λ_ _=>⟨_,rfl⟩) (aa (bj n) rfl (dR hn)) ds ds (e9 (qP aJ)) (ex1 _ _ ra.l) (λρ n its h=>by have z:=s9 h none none (some (-1));rw[Ab]at z;exact z)
  have lp1:=lp p1
  generalize mv=bdy at lp1 ⊢
  refine gu (I:=aQ H1.length [.obj j4,.obj j3,.obj j2,.obj j1,.obj j0]) (σ₁:=⟨lS,HI⟩) G.ok az (λ_ _=>rfl) (λ_ _=>rfl) (by lia) ?_ (d6 hRV) lp1
  rw[eI];exact sl
theorem GO(hz:c.rz=true)(G:c.Go){g:oP}(hs:l.lookup ("sorter":Str)=some (.obj S))(x:u4 c H0 H B S D N g pi pd ps)(hsu:∀i∈g.ord,∀q∈g.su i,i<q∧q∈g.ord)(hc:H[n+1]?=some (.cell none))(hc0:∃v,H[n]?=some (.cell v)):
  ∃H1 H2 R AN,(∀{p1 p2 p3 p4:Pos},(∀env,eval (.Call (.Attribute (.Name "sorter" p1) "prepare" p2) [] [] p3) env=(do
   let ov←eval (.Name "sorter" p1) env
   standAt p2.atName
   let(f,first)←holding [ov] (getMethod ov "prepare" (gD (.Name "sorter" p1) env))
   callWith p3 f first (backTo p3 (starEach [] env)) []))→Ex c (bK n) (k+102) (.Expr (.Call (.Attribute (.Name "sorter" p1) "prepare" p2) [] [] p3) p4) ⟨l,H⟩ .next ⟨l,H1⟩)∧
   (∀{p1 p2 p3:Pos},Ex c (bK n) (k+102) (.Assign [.Name "anew" p1] (.List [] p2) p3) ⟨l,H1⟩ .next ⟨l,H2⟩)∧
   mQ c n H2 H2 S D N R AN H.length 0 0 g.ord g.np (dS g.np g.ord) [] g.su pi pd ps∧(∀(y:Nat)(o:AO),o.lt=true→H[y]?=some o→H2[y]?=some o):=by
 refine bp λGz kz=>?_
 refine dZ (CG (k:=k) hz G x.x x.gh hsu) λH1 R f x1 g1 hR bt hRl=>?_
 refine bb (H1++[AO.list []]) λH2 e2=>?_
 have ex2:bW H1 H2:= λy o h=>by rw[e2];exact aB h
 have hA:H2[H1.length]?=some (.list []):=by rw[e2];exact aO
 have ndD:∀{y:Nat}{o:AO},H[y]?=some o→(∀es,o≠.dict es)→H1[y]?=some o:= λ{y o} h hn=>bt y o (λq=>by rw[q,x.x.d]at h;cases h;exact hn _ rfl) h
 have hc2:=ex2 _ _ (ndD hc (by intro es h;cases h))
 refine cc hc0 λv0 hv0=>?_
 have hv2:=ex2 _ _ (ndD hv0 (by intro es h;cases h))
 refine bb (H2.set (n+1) (.cell (some (.obj H1.length)))) λH3 e3=>?_
 refine kz ?_
 have kp:∀{y:Nat}{o:AO},H2[y]?=some o→(∀v,o≠.cell v)→H3[y]?=some o:= λ{y o} h hn=>by rw[e3];exact ak h (λq=>by rw[q,hc2]at h;cases h;exact hn _ rfl)
 have lRH:R<H1.length:=aq hR
 have hl:H.length≤H1.length:=by lia
 have psl:∀i∈g.ord,ps i<H.length:= λi hi=>(x.gh.lt hi).2.2
 have d2:DS c H2 S D N R 0 0 g.ord g.np (dS g.np g.ord) g.su pi pd ps:=⟨⟨ex2 _ _ x1.s,ex2 _ _ x1.d⟩,g1.ext ex2,ex2 _ _ hR,λi hi q=>by have:=psl i hi;lia⟩
 have ne:∀{y:Nat}{o:AO},H2[y]?=some o→(∀v,o≠.cell v)→n+1≠y:= λ{y o} h hn q=>by rw[←q,hc2]at h;cases h;exact hn _ rfl
 have nN:n+1≠N:=by refine cc (d2.g.n.is) λP hP=>?_;exact ne hP (by intro v h;cases h)
 have d3:DS c H3 S D N R 0 0 g.ord g.np (dS g.np g.ord) g.su pi pd ps:=by
  rw[e3]
  exact d2.setO (ne d2.x.s (by intro v h;cases h)) (ne d2.x.d (by intro v h;cases h)) nN (ne d2.r (by intro v h;cases h)) λi hi=>⟨ne (d2.g.i i hi) (by intro v h;cases h),ne (d2.g.d i hi) (by intro v h;cases h),ne (d2.g.s i hi) (by intro v h;cases h)⟩
 refine fG H1 H3 R H1.length (λ{p1 p2 p3 p4} he=>?_) (λ{p1 p2 p3}=>?_) ⟨d3,⟨v0,by rw[e3];exact ak hv2 (by lia)⟩,by rw[e3];exact bF (aq hc2),kp hA (by intro v h;cases h),λi hi q=>by have:=psl i hi;lia,by lia,hRl,hl,λy o _ _ h=>h⟩ λy o t h=>kp (ex2 _ _ (ndD h (by rintro es rfl;cases t))) (by rintro v rfl;cases t)
 ·exact cu (F:=bK n) (qN n) (λ_=>rfl) (gp (σ₁:=⟨l,H⟩) (σ₂:=⟨l,H⟩) G (vX _) (eM _) he (aa (bj n) rfl hs) x.x.s x.x.d rfl (CN _) aU au f)
 ·have z:=dL (c:=c) (F:=bK n) (k:=k+102) (pos:=p2) (σ₁:=⟨l,H1⟩) (vs:=[]) (by decide) au
  rw[e3]
  have el:Ev c (bK n) (k+102) (.List [] p2) ⟨l,H1⟩ (.obj H1.length) ⟨l,H2⟩:=by rw[e2];exact z
  exact dX (σ₁:=⟨l,H2⟩) (bj n) (by w_on) (by w_on:(bK n).cells.lookup ("anew":Str)=some (n+1)) (λ_=>rfl) el hc2
theorem cT.ext{H H':List AO}{N:Nat}{ps:List (Str×Str)}(h:cT H N ps)(e:bW H H'):cT H' N ps:=let⟨js,h1,h2⟩:=h;(al js (e _ _ h1) (h2.ext e))
theorem cT.lt{ps:List (Str×Str)}(h:cT H N ps)(e:∀(y:Nat)(o:AO),o.lt=true→H[y]?=some o→H'[y]?=some o):cT H' N ps:=let⟨js,h1,h2⟩:=h;(al js (e _ _ rfl h1) ⟨h2.1,λi j p a b=>e _ _ rfl (h2.2 i j p a b)⟩)
theorem Dl(hz:c.rz=true)(G:c.Go){X:Nat}{r:List Nat}(hX:H[X]?=some (.list [.str (aI ro),.str (aI (bM nd))]))(B0:ja ro)(B1:ja (bM nd))(S0:fk (bT ro) so)(S1:fk (bT (bM nd)) sn)(ao:um so)(an:um sn)(zo:so.length≤64)(zn:sn.length<64)(hzl:(cM so sn).1.length+(cM so sn).2.length<900)
  (hp:∀i,i<5→(nd i).length≤4∧∀p∈nd i,p<5)(hsu:∀i∈(ic nd).ord,∀q∈(ic nd).su i,i<q∧q∈(ic nd).ord)(hzs:∀i,((ic nd).su i).length≤100)(h0:(dS (ic nd).np (ic nd).ord).length<100)
  (rn:kJ (ic nd).su (ic nd).ord (((cM so sn).1++(cM so sn).2).map (·.1)) sn (ic nd).np (dS (ic nd).np (ic nd).ord) [] r)(hrl:r.length<64)(hs:iO (r.map nm) zs):
  ∃Z M U A H',Fn c (k+113) (.ref 906) [.obj X] [] H (.obj Z) H'∧H'[Z]?=some (.list [.obj M,.obj U,.obj A])∧cT H' M (cM so sn).1∧cT H' U (cM so sn).2∧H'[A]?=some (.list (zs.map .str))∧∀(y:Nat)(o:AO),o.lt=true→H[y]?=some o→H'[y]?=some o:=by
 refine bp λGz kz=>?_
 refine bb (H.length) λn en=>?_
 refine bb (H++ZV mY.length (AO.cell none)) λHc ec=>?_
 have exc:bW H Hc:= λy o h=>by rw[ec];exact aB h
 have c0:Hc[n]?=some (.cell none):=by rw[ec,en,zR (ZA _),ZY];rfl
 have c1:Hc[n+1]?=some (.cell none):=by rw[ec,en,zR (by lia),Zt];rfl
 let l0:List (Str×AV):=[("texts",.obj X)]
 have kf:=bj n
 refine cj (we (k:=k) (F:=bK n) (l:=l0) (x:="old") hz G kf B0 rfl rfl rfl rfl (exc _ _ hX) (i:=0) rfl (by decide)) λL0 HA f0 rA eA=>?_
 let l1:List (Str×AV):=aR ("old":Str) (.obj L0) l0
 refine cj (we (k:=k) (F:=bK n) (l:=l1) (x:="new") hz G kf B1 rfl rfl rfl rfl (eA _ _ (exc _ _ hX)) (i:=1) rfl (by decide)) λL1 HB f1 rB eB=>?_
 let l2:List (Str×AV):=aR ("new":Str) (.obj L1) l1
 refine dT (IT (k:=k+11) (n:=n) (l:=l2) hz G rfl rfl (rA.ext eB) rB B0 B1 S0 S1 ao an zo (Nat.le_of_lt zn)) λM U HC f2 pM pU eC=>?_
 let l3:List (Str×AV):=aR ("found":Str) (.obj U) (aR ("lost":Str) (.obj M) l2)
 refine cj (H9 (k:=k+11) (n:=n) (l:=l3) G rfl rfl pM pU hzl) λHD CH f3 hCH eD=>?_
 let l4:List (Str×AV):=aR ("changed":Str) (.obj CH) l3
 have rD:=(rB.ext eC).ext eD
 obtain⟨j0,j1,j2,j3,j4,ra⟩:=yD rD
 obtain⟨H1,HI,l5,HE,pi,pd,ps,f4,f5,x5,lk5,eI⟩:=GW (k:=k+11) (n:=n) (l:=l4) G rfl ra hp
 have ecD:bW Hc HD:=((eA.trans eB).trans eC).trans eD
 have up:∀(y:Nat)(o:AO),HD[y]?=some o→HE[y]?=some o:= λy o h=>by
  have:=aq h
  exact x5.k y o (aq (eI _ _ h)) (by lia) (eI _ _ h)
 have lk:∀y:Str,y≠"row"→l5.lookup y=(aR ("sorter":Str) (AV.obj (HD.length+1)) l4).lookup y:=lk5
 refine hY (GO (k:=k+10) (n:=n) (l:=l5) hz G ((lk _ (by decide)).trans rfl) x5 hsu (up _ _ (ecD _ _ c1)) ⟨none,up _ _ (ecD _ _ c0)⟩) λHF HG R AN f6 f7 w kG=>?_
 have upG:∀(y:Nat)(o:AO),o.lt=true→HD[y]?=some o→y<HE.length∧HG[y]?=some o:= λy o t h=>⟨aq (up y o h),kG y o t (up y o h)⟩
 have nok:iB c HG HE.length L1 (bM nd) sn:=by
  refine br rD λjs q1 q2 q3=>?_
  refine⟨gA js ((upG _ _ rfl q1).1) ((upG _ _ rfl q1).2) q2 λi j r a b=>⟨(upG _ _ rfl (q3 i j r a b)).1,(upG _ _ rfl (q3 i j r a b)).2⟩,B1.r,B1.n,B1.q,S1,zn⟩
 have LWl:LW l5 (HD.length+1) L1 CH:=⟨(lk _ (by decide)).trans rfl,(lk _ (by decide)).trans rfl,(lk _ (by decide)).trans rfl⟩
 obtain⟨l6,HH,po',f8,lk6,np',w'⟩:=B9 (k:=k+11) G ⟨(upG _ _ rfl hCH).1,(upG _ _ rfl hCH).2⟩ nok (λi hi j hj=>(hsu i hi j hj).2) hzs rn LWl h0 w
 have keep:∀(y:Nat)(o:AO),o.lt=true→HD[y]?=some o→HH[y]?=some o:= λy o t h=>w'.k y o (upG y o t h).1 t (upG y o t h).2
 have hA:HH[AN]?=some (.list ((r.map nm).map .str)):=by
  have:=w'.an
  rw[this];simp[be]
 refine bb (HH++[AO.list (zs.map .str)]) λHS eS=>?_
 refine bb (HS++[AO.list [.obj M,.obj U,.obj HH.length]]) λHZ eZ=>?_
 refine kz ?_
 have exS:bW HH HS:= λy o h=>by rw[eS];exact aB h
 have exZ:bW HS HZ:= λy o h=>by rw[eZ];exact aB h
 have keepZ:∀(y:Nat)(o:AO),o.lt=true→HD[y]?=some o→HZ[y]?=some o:= λy o t h=>exZ _ _ (exS _ _ (keep y o t h))
 refine kV HS.length M U HH.length HZ ?_ (by rw[eZ];exact aO) ((pM.ext eD).lt keepZ) ((pU.ext eD).lt keepZ) (exZ _ _ (by rw[eS];exact aO)) λy o t h=>keepZ y o t (ecD _ _ (exc _ _ h))
 have srt:cK c (bK n) (k+112) (λxs=>call (.builtin "sorted") xs) [.obj AN] ⟨l6,HH⟩ (.obj HH.length) ⟨l6,HS⟩:=by
  rw[eS];exact gr (σ:=⟨l6,HH⟩) hA (by simpa using hrl) hs
 have lo:l6.lookup ("lost":Str)=some (.obj M):=(lk6 _ (by decide)).trans ((lk _ (by decide)).trans rfl)
 have fo:l6.lookup ("found":Str)=some (.obj U):=(lk6 _ (by decide)).trans ((lk _ (by decide)).trans rfl)
 have rt:∀{p1 p2 p3 p4 p5 p6 p7:Pos},Ex c (bK n) (k+112) (.Return (some (.List [.Name "lost" p1,.Name "found" p2,.Call (.Name "sorted" p3) [.Name "anew" p4] [] p5] p6)) p7) ⟨l6,HH⟩ (.ret (.obj HS.length)) ⟨l6,HZ⟩:= λ{p1 p2 p3 p4 p5 p6 p7}=>by
  have z:=dL (c:=c) (F:=bK n) (k:=k+112) (pos:=p6) (σ:=⟨l6,HH⟩) (σ₁:=⟨l6,HS⟩) (vs:=[.obj M,.obj U,.obj HH.length]) (by simp) (am (e:=.Name "lost" p1) (λ_=>rfl) (aa kf rfl lo) (am (e:=.Name "found" p2) (λ_=>rfl) (aa kf rfl fo) (am (e:=.Call (.Name "sorted" p3) [.Name "anew" p4] [] p5) (λ_=>rfl) (dA (λ_=>rfl) (λ_=>rfl) (di G kf rfl (lA _) jL) (af λ_=>rfl) (am (λ_=>rfl) (dO kf (by w_on) (by w_on:(bK n).cells.lookup ("anew":Str)=some (n+1)) w'.ac (by decide)) au) srt) au)))
  rw[←eZ]at z
  exact aX z
 refine qb (k:=k+112) (fl:=.ret (.obj HS.length)) (cs:=mY) (p:="texts") (loc':=l6) G (xy _) uG (λj hj=>?_) (by decide) (by w_on) (λx S=>Dy _ _ _) ?_
 ·exact CE hj ⟨"name",by w_on⟩ ⟨"anew",by w_on⟩
 ·rw[←ec,←en]
  show dI c (bK n) (k+112) gm ⟨l0,Hc⟩ _ _
  generalize eb1:qL gm 3=s3 at f3
  generalize eb2:mv=bf at f5
  generalize eb3:wg=bw at f8
  generalize eb4:uE gm 8=tw at f8
  k_dflt refine' ae (σ₁:=⟨l1,HA⟩) f0 (ae (σ₁:=⟨l2,HB⟩) f1 (ae (σ₁:=⟨l3,HC⟩) f2 (ae (σ₁:=⟨l4,HD⟩) ?_ (ae (σ₁:=⟨aR "sorter" (.obj (HD.length+1)) l4,H1⟩) f4 (ae (σ₁:=⟨l5,HE⟩) ?_ (ae (σ₁:=⟨l5,HF⟩) (f6 ?_) (ae (σ₁:=⟨l5,HG⟩) f7 (ae (σ₁:=⟨l6,HH⟩) (cR ?_) (bx rt)))))))))
  all_goals try subst eb1
  all_goals try subst eb2
  all_goals try subst eb3
  all_goals try subst eb4
  exact f3
  exact f5
  exact λ_=>rfl
  exact f8
theorem iS{scope:Scope}{globals:Addr}{closure:List (Str×Addr)}{qual:Str}{func:Option Addr}{code:Value}{outer:Env}{Q:Env→Shared→Prop}
  (one:∀(n:Nat)(acc:List (Str×Addr)),cellsFrom n scope.names acc=(x,n)::acc)(psh:∀h,pushCells h scope.names=h.push {cls:=.type "cell",data:=.cell none})
  (hQ:Q (newEnv scope s.heap.objs.size globals ((x,s.heap.objs.size+1)::closure) qual func code (some outer) builtinsNs) {s with heap:=(s.heap.push {cls:=.type "dict",data:=.dict #[]}).push {cls:=.type "cell",data:=.cell none}}):
  wpAny M A (newFunctionEnv scope globals closure [] qual func code (some outer)) Q E s:=by
 simp only[newFunctionEnv,Option.isSome_some,if_true]
 refine YC (wpAny_alloc ?_)
 refine YC (wpAny_layCells _ (λname kind cells=>by cases hkc:kind==NameKind.cell<;>simp[hkc]) _ _ _ _ ?_)
 rw[one,psh]
 rw[show({s with heap:=s.heap.push {cls:=.type "dict",data:=.dict #[]}}:Shared).heap.objs.size=s.heap.objs.size+1 from Zo ..]
 refine YC ?_
 rw[YA]
 exact YD (YD hQ)
structure re(F:Fs)(sc sc':Scope)(cl:List (Str×Nat))(x:Str):Prop where
 clo:∀(env:Env)(g:Nat→Addr),env.cells=F.cells.map (λp=>(p.1,g p.2))→closureFor sc env=pure (cl.map λp=>(p.1,g p.2))
 own:∀env:Env,env.scope=F.scope→e7 sc env=sc'
 sub:∀p∈cl,p∈F.cells
 kind:sc.kind=.function
 names:∀x∈sc.names,x.2=.local→sc'.names.lookup x.1=some .local
 one:∀(n:Nat)(acc:List (Str×Addr)),cellsFrom n sc.names acc=(x,n)::acc
 psh:∀h,pushCells h sc.names=h.push {cls:=.type "cell",data:=.cell none}
 dot:sc'.names.lookup (".0":Str)≠none
theorem zM{rest:List Comprehension}{sc':Scope}{cl:List (Str×Nat)}{xn:Str}{I:qm}(O:c.Ok)(G:I.Good c)(S:re F sc sc' cl xn)(hs:∀env x,foldedSetIterable iter env x=pure x)
  (h1:Ev c F k iter σ a σ₁)(h2:Mk c I a σ₁)(ok:I.ok σ₁.H)(hlt:σ₁.H.length<H'.length)(h3:CL c ⟨sc',(xn,σ₁.H.length+1)::cl⟩ k elt (⟨target,iter,ifs,0⟩::rest) sc pos 0 I σ₁.H.length 0 ⟨[],σ₁.H++[.list []]++[.cell none]⟩ ⟨loc',H'⟩):
  Ev c F k (.ListComp elt (⟨target,iter,ifs,0⟩::rest) sc pos) σ (.obj σ₁.H.length) ⟨σ₁.loc,H'⟩:= λA ρ s env Q E K r q=>by
 rw[eval_ListComp]
 refine sg (cl:=cl.map λp=>(p.1,ρ p.2)) (S.clo env ρ r.ce) rfl (hs env) S.kind (by rw[S.own env r.sc];exact S.names) ?_
 refine h1 A ρ s env _ E K r λρ1 s1 x r1 st1 vx=>h2 r1 vx λo t ho hf=>?_
 have fr1:=r1.newFree (o:=o) (G.nd _ _ _ ho)
 have r2:=r1.push o t
 have hp:=HP.of_push (o:=o) r1
 have g2:(s1.heap.push o).get? s1.heap.objs.size=some o:=ZN _ hf
 refine bb (({s1 with heap:=s1.heap.push o,toks:=t}:Shared)) λs2 es2=>?_
 rw[←es2]at r2 ⊢
 have g2':s2.heap.get? s1.heap.objs.size=some o:=by rw[es2];exact g2
 have st2:aM c ρ1 σ₁.H.length (· =env.locals) s1 ρ1 σ₁.H.length s2:=by rw[es2];exact hp.step t
 refine wpAny_newList ?_ (by decide)
 refine bp λGz kz=>?_
 refine aV (r2.alloc (ao:=.list []) (ob:={cls:=.type "list",data:=.seq [].toArray}) s2.toks rfl (cI [] _ rfl .nil)) λr3 st3=>?_
 have e3:gg ρ1 σ₁.H.length s2.heap.objs.size σ₁.H.length=s2.heap.objs.size:=aF
 refine aV (fr1.step O (s:=s2) g2' st3) λfr3 g3=>?_
 have ho3:I.obj (gg ρ1 σ₁.H.length s2.heap.objs.size) 0 o:=G.ag ρ1 _ σ₁.H 0 o ok ho λj hj=>bc hj
 have ag3:∀j,j<σ.H.length→gg ρ1 σ₁.H.length s2.heap.objs.size j=ρ j:= λj hj=>(st1.trans (st2.trans st3)).ag j hj
 refine bb (({s2 with heap:=s2.heap.push {cls:=.type "list",data:=.seq [].toArray},toks:=s2.toks}:Shared)) λs3 es3=>?_
 refine kz ?_
 change wpAny _ _ _ _ _ ({s2 with heap:=s2.heap.push {cls:=.type "list",data:=.seq [].toArray},toks:=s2.toks}:Shared)
 rw[←es3]at r3 st3 g3 ⊢
 have l3:(σ₁.H++[AO.list []]).length=σ₁.H.length+1:=by simp
 have k12:∀b ob,s1.heap.get? b=some ob→s2.heap.get? b=some ob:= λb ob e=>by rw[es2];exact zH _ e
 have k23:∀b ob,s2.heap.get? b=some ob→s3.heap.get? b=some ob:= λb ob e=>by rw[es3];exact zH _ e
 have stA:∀L:Addr→Prop,aM c ρ1 σ₁.H.length L s1 (gg ρ1 σ₁.H.length s2.heap.objs.size) (σ₁.H++[AO.list []]).length s3:= λL=>by
  refine(cO k12 (by rw[es2])).trans ?_
  rw[l3,es3]
  exact dc _ _
 generalize gg ρ1 σ₁.H.length s2.heap.objs.size=ρ3 at*
 refine bb (s3.heap.push {cls:=.type "dict",data:=.dict #[]}) λhf ef=>?_
 have lf:hf.objs.size=s3.heap.objs.size+1:=by rw[ef];exact Zo ..
 refine iS S.one S.psh ?_
 rw[←ef]
 have hns:hf.Ns s3.heap.objs.size (λ_=>none):=by rw[ef];exact Heap.Ns.new s3.heap (.type "dict")
 have k3f:∀b ob,s3.heap.get? b=some ob→hf.get? b=some ob:= λb ob e=>by rw[ef];exact zH _ e
 refine bp λGz kz=>?_
 refine bb (({newEnv sc s3.heap.objs.size env.globals ((xn,s3.heap.objs.size+1)::cl.map λp=>(p.1,ρ p.2)) env.qual none .none (some env) builtinsNs with scope:=e7 sc env}:Env)) λcenv ec=>?_
 have cl_l:cenv.locals=s3.heap.objs.size:=by rw[ec];rfl
 refine bb (({cenv with cells:=cl.map λp=>(p.1,ρ p.2)}:Env)) λcenv0 ec0=>?_
 have cl_0:cenv0.locals=s3.heap.objs.size:=by rw[ec0];exact cl_l
 have r4:aW c A ⟨sc',cl⟩ ρ3 ⟨[],σ₁.H++[.list []]⟩ {s3 with heap:=hf,toks:=s3.toks} cenv0:=by
  refine⟨⟨λi ao e=>?_,r3.hr.inj,r3.hr.up,λb ob e t=>k3f _ _ (r3.hr.base b ob e t),λob e=>?_⟩,?_,?_,?_,?_,λp hp=>?_,⟨_,by rw[cl_0];exact hns,λx v hv=>nomatch hv⟩,λi hi=>?_,?_,r3.ge,r3.sk.same rfl λb ob es ep g1 g2 _ _=>⟨ob,es,ep,k3f _ _ g1,g2⟩,λz z2=>?_,λz=>absurd z S.dot⟩
  ·refine ah (r3.hr.at_ i ao e) λob z1 z2=>?_
   exact al ob (k3f _ _ z1) z2
  ·exact(r3.hr.tj ob e).imp (λz=>k3f _ _ z) λ⟨z1,z2,vs,more,z3,z4⟩=>bS z1 z2 vs more z3 (k3f _ _ z4)
  ·rw[ec0,ec];exact S.own env r.sc
  ·rw[ec0,ec];exact r.gl
  ·rw[ec0,ec];exact r.bl
  ·rw[ec0]
   show(cl.map λp=>(p.1,ρ p.2))=cl.map λp=>(p.1,ρ3 p.2)
   exact ZO λp hp=>by rw[ag3 _ (r.ci p (S.sub p hp))]
  ·show p.2<(σ₁.H++[AO.list []]).length
   rw[l3];have:=r.ci p (S.sub p hp);have:=st1.le;lia
  ·rw[cl_0];exact(r3.newFree (o:=o) (G.nd _ _ _ ho)).ap i hi
  ·rw[cl_0];exact(r3.newFree (o:=o) (G.nd _ _ _ ho)).up
  ·rw[ec0,ec]at z2;cases z2
 have g4:hf.get? s1.heap.objs.size=some o:=k3f _ _ g3
 have fr4:fx c ρ3 (σ₁.H++[AO.list []]).length cenv0 s1.heap.objs.size o:=⟨fr3.ap,fr3.up,by rw[cl_0];exact Z6 (ZB g3),fr3.nd⟩
 refine aV (r4.alloc (ao:=.cell none) (ob:={cls:=.type "cell",data:=.cell none}) s3.toks rfl (al none rfl trivial)) λr4b st4b=>?_
 refine aV (fr4.step O (s:={s3 with heap:=hf,toks:=s3.toks}) g4 st4b) λfr4b g4b=>?_
 refine kz ?_
 have l4:(σ₁.H++[AO.list []]++[AO.cell none]).length=σ₁.H.length+2:=by simp
 have e4:gg ρ3 (σ₁.H++[AO.list []]).length hf.objs.size (σ₁.H.length+1)=s3.heap.objs.size+1:=by rw[←l3,aF,lf]
 have e4J:gg ρ3 (σ₁.H++[AO.list []]).length hf.objs.size σ₁.H.length=ρ3 σ₁.H.length:=bc (by rw[l3];exact Za _)
 have ho4:I.obj (gg ρ3 (σ₁.H++[AO.list []]).length hf.objs.size) 0 o:=G.ag ρ3 _ σ₁.H 0 o ok ho3 λj hj=>bc (by rw[l3];lia)
 have ag4:∀i,i<σ₁.H.length+1→gg ρ3 (σ₁.H++[AO.list []]).length hf.objs.size i=ρ3 i:= λi hi=>bc (by rw[l3];exact hi)
 have cV:aM c ρ1 σ₁.H.length (· =cenv.locals) s1 (gg ρ3 (σ₁.H++[AO.list []]).length hf.objs.size) (σ₁.H++[AO.list []]++[AO.cell none]).length {s3 with heap:=hf.push {cls:=.type "cell",data:=.cell none},toks:=s3.toks}:=by
  have z:aM c ρ3 (σ₁.H++[AO.list []]).length (· =cenv.locals) {s3 with heap:=hf,toks:=s3.toks} (gg ρ3 (σ₁.H++[AO.list []]).length hf.objs.size) (σ₁.H++[AO.list []]++[AO.cell none]).length {s3 with heap:=hf.push {cls:=.type "cell",data:=.cell none},toks:=s3.toks}:=by
   rw[cl_l,←cl_0];exact st4b
  exact((stA _).trans (cO k3f rfl:aM c ρ3 (σ₁.H++[AO.list []]).length (· =cenv.locals) s3 ρ3 (σ₁.H++[AO.list []]).length {s3 with heap:=hf,toks:=s3.toks})).trans z
 generalize gg ρ3 (σ₁.H++[AO.list []]).length hf.objs.size=ρ4 at*
 have r5':aW c A ⟨sc',(xn,σ₁.H.length+1)::cl⟩ ρ4 ⟨[],σ₁.H++[.list []]++[.cell none]⟩ {s3 with heap:=hf.push {cls:=.type "cell",data:=.cell none},toks:=s3.toks} cenv:=by
  have b:=r4b
  refine⟨b.hr,?_,?_,?_,?_,λp hp=>?_,?_,?_,?_,b.ge,b.sk,?_,λz=>absurd z S.dot⟩
  ·have:=b.sc;rw[ec0]at this;exact this
  ·have:=b.gl;rw[ec0]at this;exact this
  ·have:=b.bl;rw[ec0]at this;exact this
  ·rw[ec]
   show((xn,s3.heap.objs.size+1)::cl.map λp=>(p.1,ρ p.2))=((xn,σ₁.H.length+1)::cl).map λp=>(p.1,ρ4 p.2)
   rw[ZZ,e4]
   congr 1
   exact ZO λp hp=>by rw[ag4 _ (by have:=r.ci p (S.sub p hp);have:=st1.le;lia),ag3 _ (r.ci p (S.sub p hp))]
  ·show p.2<(σ₁.H++[AO.list []]++[AO.cell none]).length
   rw[l4]
   rcases ZH.mp hp with rfl|hp
   ·exact Za _
   ·have:=r.ci p (S.sub p hp);have:=st1.le;lia
  ·have:=b.lo;rw[ec0]at this;exact this
  ·have:=b.ap;rw[ec0]at this;exact this
  ·have:=b.lf;rw[ec0]at this;exact this
  ·intro z z2;rw[ec]at z2;cases z2
 have fr5':fx c ρ4 (σ₁.H++[AO.list []]++[AO.cell none]).length cenv s1.heap.objs.size o:=⟨fr4b.ap,fr4b.up,by have:=fr4b.ne;rw[ec0]at this;exact this,fr4b.nd⟩
 have eg:({newEnv sc s3.heap.objs.size env.globals ((xn,s3.heap.objs.size+1)::cl.map λp=>(p.1,ρ p.2)) env.qual none .none (some env) builtinsNs with scope:=e7 sc env}:Env)=cenv:=ec.symm
 rw[eg]
 have eS:Value.ref s2.heap.objs.size=Value.ref (ρ4 σ₁.H.length):=by rw[e4J,e3]
 rw[eS]
 refine ij (s:={s3 with heap:=hf.push {cls:=.type "cell",data:=.cell none},toks:=s3.toks}) G g4b ho4 rfl ?_
 refine h3 (s₀:=s1) (ρ₀:=ρ1) (n₀:=σ₁.H.length) (fm s1.heap) K r5' g4b ho4 fr5' cV (by rw[l4];lia) λρ5 s5 r5 st5 e5=>⟨rfl,?_⟩
 refine ah (r5.lo) λm hm _=>?_
 refine al m (by rw[←cl_l];exact hm) λh6 hs6=>?_
 have kk:∀b ob,s5.heap.get? b=some ob→b≠cenv.locals→h6.get? b=some ob:= λb ob e hne=>(hs6.2 b (by rw[cl_l]at hne;exact hne)).trans e
 have n1:s1.heap.get? cenv.locals=none:=by
  cases z:s1.heap.get? cenv.locals with
  |none=>rfl
  |some ob=>
   have:=ZB (k23 _ _ (k12 _ _ z))
   rw[cl_l]at this;exact absurd this (ZJ _)
 have st6:=st5.drop n1 kk
 have hr6:=r5.hr.other r5.ap r5.lf kk
 refine aV (r1.after (s':={s5 with heap:=h6}) O hr6 r5.ge st6) λr7 st7=>?_
 exact q ρ5 _ _ r7 (st1.trans st7) ⟨hlt,by rw[e5]⟩
theorem uL(G:c.Go)(hk:F.scope.kind=.function)(h100:100≤k){px pe:Pos}(hx:F.scope.names.lookup x=some .local)(hd:(x==("__debug__":Str))=false)
  (hg:gens=[⟨.Name x px,iter,ifs,0⟩]){Hb:List AO}(hT:Hb[T]?=some (.list vs))(hz:vs.length<900){φ:AV→Bool}
  (step:∀(v:AV)(l:List (Str×AV))(done:List AV),v∈vs→l.lookup x=some v→yY c F k ifs ⟨l,Hb++[AO.list done]⟩ (φ v) ⟨l,Hb++[AO.list done]⟩):
  ∀(rest:List AV)(i:Nat)(done:List AV)(l:List (Str×AV)),vs.drop i=rest→done.length≤i→i≤vs.length→
   ∃l',CL c F k (.Name x pe) gens sc pos 0 (aQ T vs) Hb.length i ⟨l,Hb++[AO.list done]⟩ ⟨l',Hb++[AO.list (done++rest.filter φ)]⟩:=by
 have okN:∀(l:List (Str×AV))(L:List AO),(aQ T vs).ok (St.H ⟨l,Hb++L⟩):= λl L=>aB hT
 intro rest
 induction rest with
 |nil=>
  intro i done l hd hl hi
  subst hg
  refine⟨l,?_⟩
  rw[show done++([]:List AV).filter φ=done by simp]
  refine im az rfl rfl (λ_ _=>rfl) h100 (okN _ _) ?_
  show vs[i]?=none
  rw[ZC]
  exact ZL.mp hd
 |cons v rest ih=>
  intro i done l hd' hl hi
  have hp:vs[i]?=some v:=by
   have:(vs.drop i)[0]?=some v:=by rw[hd'];rfl
   rwa[Z1,Zq]at this
  have hd1:vs.drop (i+1)=rest:=by
   have:(vs.drop i).drop 1=rest:=by rw[hd'];rfl
   rwa[Zp]at this
  have il:=aq hp
  let l1:List (Str×AV):=aR x v l
  have lx:l1.lookup x=some v:=aj _ _ _
  have s1:=step v l1 done (Zg hp) lx
  cases hφ:φ v with
  |true=>
   rw[hφ]at s1
   refine cc (ih (i+1) (done++[v]) l1 hd1 (by simp;lia) (by lia)) λl' h=>?_
   refine⟨l',?_⟩
   rw[show done++(v::rest).filter φ=(done++[v])++rest.filter φ by simp[hφ]]
   subst hg
   refine fL (σ₁:=⟨l1,Hb++[AO.list done]⟩) (σ₂:=⟨l1,Hb++[AO.list done]⟩) (σ₃:=⟨l1,Hb++[AO.list done]⟩) (v:=v) (acc:=done) G.ok az rfl rfl (λ_ _=>rfl) (okN _ _) hp (bg hk hx) s1 (aa hk hx lx hd) aO (by lia) ?_
   have e2:(Hb++[AO.list done]).set Hb.length (.list (done++[v]))=Hb++[AO.list (done++[v])]:=by
    rw[Zn _ _ (ZA _),ZY];rfl
   show CL _ _ _ _ _ _ _ _ _ _ _ ⟨l1,(Hb++[AO.list done]).set Hb.length (.list (done++[v]))⟩ _
   rw[e2]
   exact h
  |false=>
   rw[hφ]at s1
   refine cc (ih (i+1) done l1 hd1 (by lia) (by lia)) λl' h=>?_
   refine⟨l',?_⟩
   rw[show done++(v::rest).filter φ=done++rest.filter φ by simp[hφ]]
   subst hg
   exact nq (σ₁:=⟨l1,Hb++[AO.list done]⟩) (σ₂:=⟨l1,Hb++[AO.list done]⟩) G.ok az rfl rfl (λ_ _=>rfl) (okN _ _) hp (bg hk hx) s1 h
theorem qw(G:c.Go)(h100:100≤k){px pe:Pos}{sc':Scope}{cl:List (Str×Nat)}(S:cz F sc sc' cl)(hk:(Fs.mk sc' cl).scope.kind=.function)(hx:sc'.names.lookup x=some .local)(hd:(x==("__debug__":Str))=false)(hs:∀env x,foldedSetIterable iter env x=pure x)
  (h1:Ev c F k iter σ (.obj T) σ₁)(hT:σ₁.H[T]?=some (.list vs))(hz:vs.length<900){φ:AV→Bool}
  (step:∀(v:AV)(l:List (Str×AV))(done:List AV),v∈vs→l.lookup x=some v→yY c ⟨sc',cl⟩ k ifs ⟨l,σ₁.H++[AO.list done]⟩ (φ v) ⟨l,σ₁.H++[AO.list done]⟩):
  Ev c F k (.ListComp (.Name x pe) [⟨.Name x px,iter,ifs,0⟩] sc pos) σ (.obj σ₁.H.length) ⟨σ₁.loc,σ₁.H++[AO.list (vs.filter φ)]⟩:=by
 refine cc (uL (F:=⟨sc',cl⟩) (k:=k) (gens:=[⟨.Name x px,iter,ifs,0⟩]) (sc:=sc) (pos:=pos) (pe:=pe) G hk h100 hx hd rfl hT hz step vs 0 [] [] rfl (ZA _) (Zl _)) λl' cl'=>?_
 exact fV (I:=aQ T vs) (loc':=l') (a:=.obj T) (rest:=[]) G.ok az S hs h1 (d6 hT) hT (by simp) @cl'
noncomputable def nv(a:Addr):Value→Bool
 | .ref b=>b==a
 |_=>false
theorem cN.units1(h:cN k A):A.in1.units<cLine:=by have:=h.2.1;unfold cLine;show A.units+1<_;lia
theorem cN.units2(h:cN k A):A.in1.in1.units<cLine:=by have:=h.2.1;unfold cLine;show A.units+1+1<_;lia
theorem aW.eqPair(r:aW c A F ρ σ s env){A':Around}(hu:A'.units<cLine){x y:Nat}{q:Str×Str}(hx:σ.H[x]?=some (.tuple [.str p.1,.str p.2]))(hy:σ.H[y]?=some (.tuple [.str q.1,.str q.2])):SeqAt.EqAt A' s (.ref (ρ x)) (.ref (ρ y)) (decide (p=q)):=by
 refine bp λGz kz=>?_
 refine iY (r.pair hx) λt1 u1 e1 g1=>?_
 refine iY (r.pair hy) λt2 u2 e2 g2=>?_
 refine kz ?_
 by_cases h:ρ x=ρ y
 ·have exy:=r.hr.inj x y (aq hx) (aq hy) h
  subst exy
  rw[hx]at hy
  have:p=q:=by
   have:=Option.some.inj hy
   simp only[AO.tuple.injEq,List.cons.injEq,AV.str.injEq,and_true]at this
   exact Prod.ext this.1 this.2
  subst this
  rw[decide_eq_true rfl]
  exact SeqAt.EqAt.same _
 ·exact SeqAt.EqAt.of_refs h (oF hu g1 g2)
theorem Fp:∀(ps qs:List (Str×Str)),ps.length=qs.length→((ZG ps.length).all λj=>decide (ps[j]?=qs[j]?))=decide (ps=qs):= λps qs hl=>by
 by_cases h:ps=qs
 ·subst h;simp
 ·rw[decide_eq_false h]
  rw[Bool.eq_false_iff]
  intro z
  refine h (List.ext_getElem? λi=>?_)
  rw[ZF]at z
  by_cases q:i<ps.length
  ·simpa using z i (ZP.mpr q)
  ·rw[ZC.mpr (ZX.mp q),ZC.mpr (hl▸ZX.mp q)]
theorem Bc{ps qs:List (Str×Str)}(hj:σ.H[j]?=some (.list (js.map .obj)))(hi:σ.H[i]?=some (.list (us.map .obj)))(hp:aN σ.H js ps)(hq:aN σ.H us qs)(ht:(!decide (ps=qs))=t):dz c F k (compareOp .NotEq) (.obj j) (.obj i) σ (.bool t) σ:= λA ρ s env Q E a b K r ha hb z=>by
 refine bp λGz kz=>?_
 refine aV ha ?_;clear ha;intro _ z0;subst z0
 refine aV hb ?_;clear hb;intro _ z0;subst z0
 refine br (r.list hj) λits g1 g2 _=>?_
 refine br (r.list hi) λits' g1' g2' _=>?_
 refine kz ?_
 have e1:=fQ g2
 have e2:=fQ g2'
 subst e1 e2
 by_cases hl:js.length=us.length
 ·have hl2:ps.length=qs.length:=by rw[←hp.1,←hq.1,hl]
  refine SeqAt.RcNeAt.lists (e:= λj=>decide (ps[j]?=qs[j]?)) g1 g1' (by simp[hl]) K.units (λm h1 h2=>?_) c.prog c.w E Q (z ρ s _ r .refl ?_)
  ·have m1:m<js.length:=by simpa using h1
   have m2:m<us.length:=by simpa using h2
   have q1:m<ps.length:=by rw[←hp.1];exact m1
   have q2:m<qs.length:=by rw[←hq.1];exact m2
   have x1:=hp.2 m js[m] ps[m] (zG m1) (zG q1)
   have x2:=hq.2 m us[m] qs[m] (zG m2) (zG q2)
   have w:=r.eqPair (A':=A.in1) K.units1 x1 x2
   simpa[zG q1,zG q2]using w
  ·show Value.bool _=Value.bool _
   rw[←ht,←Fp ps qs hl2]
   simp[hp.1]
 ·refine SeqAt.RcNeAt.lists_lengths g1 g1' (by simpa using hl) K.units c.prog c.w E Q (z ρ s _ r .refl ?_)
  rw[←ht,decide_eq_false λq=>hl (by rw[hp.1,hq.1,q])];rfl
theorem rc(r:aW c A F ρ σ s env){ps:List (Str×Str)}(hp:aN σ.H js ps):∀(x:Nat)(q:Str×Str),σ.H[x]?=some (.tuple [.str q.1,.str q.2])→x∈js→((js.zip ps).any λw=>nv (ρ w.1) (.ref (ρ x))&&decide (w.2=p))=decide (q=p):=by
 intro x q hx hm
 by_cases h:q=p
 ·subst h
  rw[decide_eq_true rfl,Z8]
  refine mW (Zh.mp hm) λi hi e=>?_
  have il:i<ps.length:=by rw[←hp.1];exact hi
  have z:=hp.2 i js[i] ps[i] (zG hi) (zG il)
  rw[e,hx]at z
  have:q=ps[i]:=by
   have:=Option.some.inj z
   simp only[AO.tuple.injEq,List.cons.injEq,AV.str.injEq,and_true]at this
   exact Prod.ext this.1 this.2
  refine al (js[i],ps[i]) (Zh.mpr (tQ i (by simp;lia) (by simp))) ?_
  rw[e,this]
  simp[nv]
 ·rw[decide_eq_false h,Bool.eq_false_iff]
  intro z
  refine ah (Z8.mp z) λw hw hh=>?_
  rw[Z3]at hh
  refine mW (Zh.mp hw) λi hi e=>?_
  have i1:i<js.length:=by simp at hi;lia
  have i2:i<ps.length:=by simp at hi;lia
  have ew:w=(js[i],ps[i]):=by rw[←e];simp
  have z1:=hp.2 i js[i] ps[i] (zG i1) (zG i2)
  rw[ew]at hh
  have ad:ρ x=ρ js[i]:=by have:=hh.1;simpa[nv]using this
  have ex:=r.hr.inj x js[i] (aq hx) (aq z1) ad
  rw[←ex,hx]at z1
  have:q=ps[i]:=by
   have:=Option.some.inj z1
   simp only[AO.tuple.injEq,List.cons.injEq,AV.str.injEq,and_true]at this
   exact Prod.ext this.1 this.2
  exact h (this.trans (by simpa using hh.2))
theorem sJ{x:Nat}{ps:List (Str×Str)}(hj:σ.H[j]?=some (.list (js.map .obj)))(hp:aN σ.H js ps)(hx:σ.H[x]?=some (.tuple [.str p.1,.str p.2]))(ht:(!ps.contains p)=t):dz c F k (compareOp .NotIn) (.obj x) (.obj j) σ (.bool t) σ:= λA ρ s env Q E a b K r ha hb z=>by
 refine iR ha λ_=>?_
 refine iR hb λ_=>?_
 refine br (r.list hj) λits g1 g2 _=>?_
 have e1:=fQ g2
 subst e1
 have at_:∀(i:Nat)(hi:i<js.length),∃q,ps[i]?=some q∧σ.H[js[i]]?=some (.tuple [.str q.1,.str q.2]):= λi hi=>by
  have i2:i<ps.length:=by rw[←hp.1];exact hi
  exact al (ps[i]) (zG i2) (hp.2 i js[i] ps[i] (zG hi) (zG i2))
 refine SeqAt.notIn_listAt (λv=>(js.zip ps).any λw=>nv (ρ w.1) v&&decide (w.2=p)) g1 (λy hy=>?_) (z ρ s _ r .refl ?_)
 ·have hy':y∈js.map λj=>Value.ref (ρ j):=by simpa using hy
  refine bp λGz kz=>?_
  refine ah (ZR.mp hy') λm hm z0=>?_;subst z0
  refine mW (Zh.mp hm) λi hi e=>?_
  refine ah (at_ i hi) λq h1 h2=>?_
  refine kz ?_
  rw[e]at h2
  rw[rc r hp m q h2 hm]
  exact r.eqPair K.units1 h2 hx
 ·show Value.bool _=Value.bool _
  rw[←ht]
  congr 1
  congr 1
  rw[Zi,ZE]
  constructor
  ·intro h
   rw[Array.any_eq_true]at h
   refine mW h λi hi hh=>?_
   have hi':i<js.length:=by simpa using hi
   refine ah (at_ i hi') λq h1 h2=>?_
   have hm:js[i]∈js:=List.getElem_mem hi'
   have e:(⟨js.map λj=>Value.ref (ρ j)⟩:Array Value)[i]'hi=.ref (ρ js[i]):=by simp
   rw[e,rc r hp js[i] q h2 hm]at hh
   have:q=p:=by simpa using hh
   rw[←this];exact Zg h1
  ·intro h
   refine mW (Zh.mp h) λi hi e=>?_
   have hi':i<js.length:=by rw[hp.1];exact hi
   refine ah (at_ i hi') λq h1 h2=>?_
   rw[zG hi]at h1
   have eq:q=p:=by rw[←e];exact(Option.some.inj h1).symm
   rw[Array.any_eq_true]
   refine tQ i (by simpa using hi') ?_
   have e2:(⟨js.map λj=>Value.ref (ρ j)⟩:Array Value)[i]'(by simpa using hi')=.ref (ρ js[i]):=by simp
   rw[e2,rc r hp js[i] q h2 (List.getElem_mem hi')]
   simpa using eq
noncomputable def aG(n:Nat):Fs:=⟨vZ,qZ.map λq=>(q.1,n+q.2)⟩
theorem f9(n:Nat):(aG n).scope.kind=.function:=by w_on
theorem qU(h1:∀y∈sc.names,y.2=.free→(F.cells.lookup y.1).isSome=true)(hk:sc.kind=.function)(h3:((aZ F sc).names.lookup (".0":Str) != none&&sc.names.all λx=>x.2 != .local||(aZ F sc).names.lookup x.1==some .local)=true)
  (one:∀(n:Nat)(acc:List (Str×Addr)),cellsFrom n sc.names acc=(x,n)::acc)(psh:∀h,pushCells h sc.names=h.push {cls:=.type "cell",data:=.cell none}):re F sc (aZ F sc) (aC F sc.names) x:=by
 rw[Z3]at h3
 refine aV h3 λh0 h3=>?_
 refine⟨λenv g he=>?_,λenv he=>?_,λp hp=>?_,hk,λx hx hl=>?_,one,psh,by simpa using h0⟩
 ·have z:=oN (env:=env) (lk:= λx=>F.cells.lookup x) (g:=g) (λx j hj=>by rw[he];exact iC hj) sc.names [] h1
  unfold closureFor
  show((forIn sc.names (([]:List (Str×Nat)).map λp=>(p.1,g p.2)) (λx cs=>(if x.2==NameKind.free then do let a←cellOf env x.1;pure (.yield ((x.1,a)::cs))else pure (.yield cs):Sem (ForInStep (List (Str×Addr))))):Sem (List (Str×Addr))) >>= λs=>pure s)=_
  rw[z]
  rfl
 ·unfold e7 aZ Env.kindOf
  rw[he]
 ·have go:∀(names:List (Str×NameKind))(acc:List (Str×Nat)),(∀x∈names,x.2=.free→(F.cells.lookup x.1).isSome=true)→(∀q∈acc,q∈F.cells)→∀q∈names.foldl (λcs x=>if x.2==NameKind.free then(x.1,(F.cells.lookup x.1).getD 0)::cs else cs) acc,q∈F.cells:=by
   intro names
   induction names with
   |nil=>intro acc _ h;exact h
   |cons x names ih=>
    intro acc hf h
    rw[Zv]
    by_cases q:x.2=.free
    ·refine cc (Option.isSome_iff_exists.mp (hf x (.head _) q)) λj hj=>?_
     rw[if_pos (by simpa using q),hj]
     refine ih _ (λy hy=>hf y (.tail _ hy)) λq hq=>?_
     rcases ZH.mp hq with rfl|hq
     ·exact n6 hj
     ·exact h q hq
    ·rw[if_neg (by simpa using q)]
     exact ih _ (λy hy=>hf y (.tail _ hy)) h
  exact go sc.names [] h1 (λq hq=>by cases hq) p hp
 ·have:=ZF.mp h3 x hx
  rw[hl]at this
  simpa using this
theorem iK{names:List (Str×NameKind)}(h:(names.all λx=>x.2 != .free||((F.cells.lookup x.1).isSome))=true):∀x∈names,x.2=.free→(F.cells.lookup x.1).isSome=true:= λx hx hf=>by
 have:=ZF.mp h x hx
 rw[hf]at this
 simpa using this
noncomputable def rh(nm:Str)(q1 q2 q3 q4 q5 q6 q7 q8:Pos)(t1 t2:Nat)(q9 q10 q11:Pos)(sc:Scope)(q12:Pos):Expr:=.ListComp (.Name "need" q1) [⟨.Name "need" q2,.Name nm q3,[.Compare (.Subscript (.Name "need" q4) (.Constant (.int 0) t1 q5) q6) [.Eq] [.Subscript (.Name "row" q7) (.Constant (.int 0) t2 q8) q9] q10],0⟩] sc q12
structure G6(sc scA scB:Scope):Prop where
 s1:∀n,re (aG n) sc (aZ (aG n) sc) (aC (aG n) sc.names) "row"
 k1:∀n,(aZ (aG n) sc).kind=.function
 r1:∀n,(aZ (aG n) sc).names.lookup ("row":Str)=some .cell∧(aZ (aG n) sc).names.lookup ("old":Str)=some .cell∧(aZ (aG n) sc).names.lookup ("new":Str)=some .cell∧(aC (aG n) sc.names).lookup ("old":Str)=some (n+0)∧(aC (aG n) sc.names).lookup ("new":Str)=some (n+1)
 sA:∀n J,cz ⟨aZ (aG n) sc,("row",J)::aC (aG n) sc.names⟩ scA (aZ ⟨aZ (aG n) sc,("row",J)::aC (aG n) sc.names⟩ scA) (aC ⟨aZ (aG n) sc,("row",J)::aC (aG n) sc.names⟩ scA.names)
 sB:∀n J,cz ⟨aZ (aG n) sc,("row",J)::aC (aG n) sc.names⟩ scB (aZ ⟨aZ (aG n) sc,("row",J)::aC (aG n) sc.names⟩ scB) (aC ⟨aZ (aG n) sc,("row",J)::aC (aG n) sc.names⟩ scB.names)
 kA:∀n J,(aZ ⟨aZ (aG n) sc,("row",J)::aC (aG n) sc.names⟩ scA).kind=.function∧(aZ ⟨aZ (aG n) sc,("row",J)::aC (aG n) sc.names⟩ scA).names.lookup ("need":Str)=some .local∧(aZ ⟨aZ (aG n) sc,("row",J)::aC (aG n) sc.names⟩ scA).names.lookup ("row":Str)=some .cell∧(aC ⟨aZ (aG n) sc,("row",J)::aC (aG n) sc.names⟩ scA.names).lookup ("row":Str)=some J
 kB:∀n J,(aZ ⟨aZ (aG n) sc,("row",J)::aC (aG n) sc.names⟩ scB).kind=.function∧(aZ ⟨aZ (aG n) sc,("row",J)::aC (aG n) sc.names⟩ scB).names.lookup ("need":Str)=some .local∧(aZ ⟨aZ (aG n) sc,("row",J)::aC (aG n) sc.names⟩ scB).names.lookup ("row":Str)=some .cell∧(aC ⟨aZ (aG n) sc,("row",J)::aC (aG n) sc.names⟩ scB.names).lookup ("row":Str)=some J
theorem A9(kz:∀(sc scA scB:Scope)(p1 p2 p3 p4 p5 p6 p7 p8 p9 p10 p11 p12 p13 p14 p15:Pos)(t1 t2:Nat)(a1 a2 a3 a4 a5 a6 a7 a8:Pos)(ta tb:Nat)(a9 a10 a11 a12 b1 b2 b3 b4 b5 b6 b7 b8:Pos)(tc td:Nat)(b9 b10 b11 b12:Pos),(qL jW 2=.Assign [.Name "anew" p1] (.Call (.Name "sorted" p2) [.ListComp (.Subscript (.Name "row" p3) (.Constant (.int 0) t1 p4) p5) [⟨.Name "row" p6,.Subscript (.Name "books" p7) (.Constant (.int 0) t2 p8) p9,[.Compare (rh "old" a1 a2 a3 a4 a5 a6 a7 a8 ta tb a9 a10 a11 scA a12) [.NotEq] [rh "new" b1 b2 b3 b4 b5 b6 b7 b8 tc td b9 b10 b11 scB b12] p10],0⟩] sc p11] [] p12) p13∧G6 sc scA scB)→Gz):Gz:=by
 refine kz _ _ _ _ _ _ _ _ _ _ _ _ _ _ _ _ (⟨0,0,0,0⟩) (⟨0,0,0,0⟩) _ _ _ _ _ _ _ _ _ _ _ _ _ _ (⟨0,0,0,0⟩) _ _ _ _ _ _ _ _ _ _ _ _ _ (⟨0,0,0,0⟩) _ ⟨by k_dflt rfl,?_⟩
 refine⟨λn=>qU (iK (by w_on)) (by w_on) (by w_on) (λn acc=>by w_on) (λh=>by w_on),λn=>by w_on,λn=>⟨by w_on,by w_on,by w_on,by w_on,by w_on⟩,λn J=>dW (iK (by w_on)) (by w_on) (by w_on) (by w_on),λn J=>dW (iK (by w_on)) (by w_on) (by w_on) (by w_on),λn J=>⟨by w_on,by w_on,by w_on,by w_on⟩,λn J=>⟨by w_on,by w_on,by w_on,by w_on⟩⟩
noncomputable def φH(H:List AO)(f:Str×Str→Bool):AV→Bool
 | .obj j=>match H[j]? with
  |some (.tuple [.str a,.str b])=>f (a,b)
  |_=>false
 |_=>false
theorem φH_at{f:Str×Str→Bool}(h:H[j]?=some (.tuple [.str p.1,.str p.2])):φH H f (.obj j)=f p:=by
 unfold φH
 dsimp only
 rw[h]
theorem φH_filter{H:List AO}{f:Str×Str→Bool}:∀{js:List Nat}{ps:List (Str×Str)},aN H js ps→∃us,(js.map AV.obj).filter (φH H f)=us.map AV.obj∧aN H us (ps.filter f)
 | [],[],_=>bO [] rfl rfl λi j p h=>by simp at h
 | [],p::ps,h=>absurd h.1 (by simp)
 |j::js,[],h=>absurd h.1 (by simp)
 |j::js,p::ps,h=>by
  have h':aN H js ps:=⟨by have:=h.1;simpa using this,λi x q a b=>h.2 (i+1) x q (by simpa using a) (by simpa using b)⟩
  refine ah (φH_filter (f:=f) h') λus e g=>?_
  have t:=h.2 0 j p rfl rfl
  rw[ZZ,Zb,φH_at t,Zb]
  cases hf:f p with
  |false=>exact al us e g
  |true=>
   refine bO (j::us) (by simp[e]) (by simp[g.1]) λi x q a b=>?_
   cases i with
   |zero=>simp at a b;subst a b;exact t
   |succ i=>exact g.2 i x q (by simpa using a) (by simpa using b)
noncomputable def lh(r:Str)(p:Str×Str):Bool:=p.1.cps.toList==r.cps.toList
theorem w8(G:c.Go)(h100:100≤k)(hk:F.scope.kind=.function){nm:Str}{q1 q2 q3 q4 q5 q6 q7 q8 q9 q10 q11 q12:Pos}{t1 t2:Nat}(S:cz F sc (aZ F sc) (aC F sc.names)){q Lq rj:Nat}{r0:Str}{rs:List Str}{ps:List (Str×Str)}
  (kA:(aZ F sc).kind=.function∧(aZ F sc).names.lookup ("need":Str)=some .local∧(aZ F sc).names.lookup ("row":Str)=some .cell∧(aC F sc.names).lookup ("row":Str)=some J)
  (hn:F.scope.names.lookup nm=some .cell)(hc:F.cells.lookup nm=some q)(hd:(nm==("__debug__":Str))=false)(hq:H[q]?=some (.cell (some (.obj Lq))))(hL:H[Lq]?=some (.list (js.map .obj)))(hp:aN H js ps)(hz:ps.length<900)(hJ:H[J]?=some (.cell (some (.obj rj))))(hr:H[rj]?=some (.list ((r0::rs).map .str))):
  ∃us,Ev c F k (rh nm q1 q2 q3 q4 q5 q6 q7 q8 t1 t2 q9 q10 q11 sc q12) ⟨l,H⟩ (.obj H.length) ⟨l,H++[AO.list (us.map .obj)]⟩∧aN H us (ps.filter (lh r0)):=by
 refine bp λGz kz=>?_
 refine lQ kA λk1 k2 k3 k4=>?_
 refine ah (φH_filter (f:=lh r0) hp) λus e g=>?_
 refine kz ?_
 refine al us ?_ g
 rw[←e]
 have ki:(Fs.mk (aZ F sc) (aC F sc.names)).scope.kind=.function:=k1
 refine qw (σ₁:=⟨l,H⟩) (T:=Lq) G h100 S ki k2 (by decide) (λ_ _=>rfl) (dO hk hn hc hq hd) hL (by simp;rw[hp.1];exact hz) λv l' done hv hl=>?_
 refine ah (ZR.mp hv) λj hj z0=>?_;subst z0
 refine mW (Zh.mp hj) λi hi ei=>?_
 have i2:i<ps.length:=by rw[←hp.1];exact hi
 have t:=hp.2 i js[i] ps[i] (zG hi) (zG i2)
 rw[ei]at t
 rw[φH_at t]
 have c1:Ev c ⟨aZ F sc,aC F sc.names⟩ k (.Subscript (.Name "need" q4) (.Constant (.int 0) t1 q5) q6) ⟨l',H++[AO.list done]⟩ (.str ps[i].1) ⟨l',H++[AO.list done]⟩:=
  Cm (i:=0) (by decide) (λ_ _=>rfl) (λ_ _=>rfl) (aa ki k2 hl) aJ (aB t) rfl
 have c2:Ev c ⟨aZ F sc,aC F sc.names⟩ k (.Subscript (.Name "row" q7) (.Constant (.int 0) t2 q8) q9) ⟨l',H++[AO.list done]⟩ (.str r0) ⟨l',H++[AO.list done]⟩:=
  cW (i:=0) (by lia) (by lia) (λ_ _=>rfl) (λ_ _=>rfl) (dO ki k3 k4 (aB hJ) (by decide)) aJ (aB hr) rfl
 exact av rfl c1 c2 (ek rfl)
noncomputable def qh(so sn:List (Str×Str))(r:Str):Bool:=!decide (so.filter (lh r)=sn.filter (lh r))
noncomputable def tI(r:List Str):Str:=r.headD ""
structure D1(H0:List AO)(n T Lo Ln:Nat)(rjs:List Nat)(rows:List (List Str))(so sn:List (Str×Str)):Prop where
 o:H0[n+0]?=some (.cell (some (.obj Lo)))
 n:H0[n+1]?=some (.cell (some (.obj Ln)))
 po:cT H0 Lo so
 pn:cT H0 Ln sn
 t:H0[T]?=some (.list (rjs.map .obj))
 l:rjs.length=rows.length
 r:∀(i j:Nat)(r:List Str),rjs[i]?=some j→rows[i]?=some r→H0[j]?=some (AO.list (r.map .str))
 ne:∀r∈rows,r≠[]
 z:rows.length<100
 zo:so.length<900
 zn:sn.length<900
section
variable{Lo Ln:Nat}{rjs:List Nat}{rows:List (List Str)}
theorem xS(G:c.Go)(h100:100≤k){scA scB:Scope}(S:G6 sc scA scB){p10 p11:Pos}{t1:Nat}{a1 a2 a3 a4 a5 a6 a7 a8:Pos}{ta tb:Nat}{a9 a10 a11 a12 b1 b2 b3 b4 b5 b6 b7 b8:Pos}{tc td:Nat}{b9 b10 b11 b12:Pos}
  (hg:gens=[⟨.Name "row" p6,iter,[.Compare (rh "old" a1 a2 a3 a4 a5 a6 a7 a8 ta tb a9 a10 a11 scA a12) [.NotEq] [rh "new" b1 b2 b3 b4 b5 b6 b7 b8 tc td b9 b10 b11 scB b12] p10],0⟩])(d:D1 H0 n T Lo Ln rjs rows so sn):
  ∀(rest:List (List Str))(i:Nat)(done:List Str)(l:List (Str×AV))(H:List AO)(v0:Option AV),rows.drop i=rest→done.length≤i→(∀(y:Nat)(o:AO),H0[y]?=some o→H[y]?=some o)→H[H0.length]?=some (.list (done.map .str))→H[H0.length+1]?=some (.cell v0)→
   ∃l' H',CL c ⟨aZ (aG n) sc,("row",H0.length+1)::aC (aG n) sc.names⟩ k (.Subscript (.Name "row" p3) (.Constant (.int 0) t1 p4) p5) gens sc p11 0 (aQ T (rjs.map .obj)) H0.length i ⟨l,H⟩ ⟨l',H'⟩∧H'[H0.length]?=some (.list ((done++(rest.filter λr=>qh so sn (tI r)).map tI).map .str))∧∀(y:Nat)(o:AO),H0[y]?=some o→H'[y]?=some o:=by
 refine bb (H0.length) λJ eJ=>?_
 rw[←eJ]
 have ki:(Fs.mk (aZ (aG n) sc) (("row",J+1)::aC (aG n) sc.names)).scope.kind=.function:=S.k1 n
 refine nU (S.r1 n) λr1 r2 r3 r4 r5=>?_
 have cr:(Fs.mk (aZ (aG n) sc) (("row",J+1)::aC (aG n) sc.names)).cells.lookup ("row":Str)=some (J+1):=by show YB _ (_::_)=_;rw[ZI];rfl
 have co:(Fs.mk (aZ (aG n) sc) (("row",J+1)::aC (aG n) sc.names)).cells.lookup ("old":Str)=some (n+0):=by show YB _ (_::_)=_;rw[ZI,show(("old":Str)==("row":Str))=false by decide];exact r4
 have cn:(Fs.mk (aZ (aG n) sc) (("row",J+1)::aC (aG n) sc.names)).cells.lookup ("new":Str)=some (n+1):=by show YB _ (_::_)=_;rw[ZI,show(("new":Str)==("row":Str))=false by decide];exact r5
 intro rest
 induction rest with
 |nil=>
  intro i done l H v0 hd hl kp hJ hc
  subst hg
  refine fq l H (im (σ:=⟨l,H⟩) (I:=aQ T (rjs.map .obj)) az rfl rfl (λ_ _=>rfl) h100 (kp _ _ d.t) ?_) (by simpa using hJ) kp
  show(rjs.map AV.obj)[i]?=none
  rw[ZC,ZS,d.l]
  exact ZL.mp hd
 |cons r rest ih=>
  intro i done l H v0 hd hl kp hJ hc
  have hp:rows[i]?=some r:=by
   have:(rows.drop i)[0]?=some r:=by rw[hd];rfl
   rwa[Z1,Zq]at this
  have hd1:rows.drop (i+1)=rest:=by
   have:(rows.drop i).drop 1=rest:=by rw[hd];rfl
   rwa[Zp]at this
  have il:=aq hp
  have il2:i<rjs.length:=by rw[d.l];exact il
  have hj:rjs[i]?=some rjs[i]:=zG il2
  have row:=kp _ _ (d.r i rjs[i] r hj hp)
  have rne:=d.ne r (Zg hp)
  refine bp λGz kz=>?_
  obtain⟨r0,rs,er⟩:∃r0 rs,r=r0::rs:=by cases r with|nil=>exact absurd rfl rne|cons a b=>exact tQ a b rfl
  have eh:tI r=r0:=by rw[er];rfl
  rw[er]at row
  have lt0:∀{y:Nat}{o:AO},H0[y]?=some o→y<J:= λh=>eJ▸aq h
  refine bb (H.set (J+1) (.cell (some (.obj rjs[i])))) λH1 e1=>?_
  have k1:∀(y:Nat)(o:AO),y≠J+1→H[y]?=some o→H1[y]?=some o:= λy o hy h=>by rw[e1];exact ak h hy
  have kp1:∀(y:Nat)(o:AO),H0[y]?=some o→H1[y]?=some o:= λy o h=>k1 y o (by have:=lt0 h;lia) (kp y o h)
  have c1:H1[J+1]?=some (.cell (some (.obj rjs[i]))):=by rw[e1];exact bF (aq hc)
  have row1:H1[rjs[i]]?=some (.list ((r0::rs).map .str)):=k1 _ _ (by have:=lt0 (d.r i rjs[i] r hj hp);lia) row
  have hJ1:=k1 _ _ (by lia) hJ
  refine ah (d.po) λjs o1 o2=>?_
  refine ah (d.pn) λus u1 u2=>?_
  refine ah (w8 (l:=l) (H:=H1) (F:=⟨aZ (aG n) sc,("row",J+1)::aC (aG n) sc.names⟩) (k:=k) (nm:="old") (q1:=a1) (q2:=a2) (q3:=a3) (q4:=a4) (q5:=a5) (q6:=a6) (q7:=a7) (q8:=a8) (q9:=a9) (q10:=a10) (q11:=a11) (q12:=a12) (t1:=ta) (t2:=tb) G h100 ki (S.sA n (J+1)) (S.kA n (J+1)) r2 co (by decide) (kp1 _ _ d.o) (kp1 _ _ o1) (o2.ext kp1) d.zo c1 row1) λxs ev1 px=>?_
  refine bb (H1++[AO.list (xs.map .obj)]) λH2 e2=>?_
  have x12:bW H1 H2:= λy o h=>by rw[e2];exact aB h
  have kp2:∀(y:Nat)(o:AO),H0[y]?=some o→H2[y]?=some o:= λy o h=>x12 _ _ (kp1 y o h)
  rw[←e2]at ev1
  refine ah (w8 (l:=l) (H:=H2) (F:=⟨aZ (aG n) sc,("row",J+1)::aC (aG n) sc.names⟩) (k:=k) (nm:="new") (q1:=b1) (q2:=b2) (q3:=b3) (q4:=b4) (q5:=b5) (q6:=b6) (q7:=b7) (q8:=b8) (q9:=b9) (q10:=b10) (q11:=b11) (q12:=b12) (t1:=tc) (t2:=td) G h100 ki (S.sB n (J+1)) (S.kB n (J+1)) r3 cn (by decide) (kp2 _ _ d.n) (kp2 _ _ u1) (u2.ext kp2) d.zn (x12 _ _ c1) (x12 _ _ row1)) λys ev2 py=>?_
  refine bb (H2++[AO.list (ys.map .obj)]) λH3 e3=>?_
  refine kz ?_
  have x23:bW H2 H3:= λy o h=>by rw[e3];exact aB h
  rw[←e3]at ev2
  have kp3:∀(y:Nat)(o:AO),H0[y]?=some o→H3[y]?=some o:= λy o h=>x23 _ _ (kp2 y o h)
  have lx:H3[H1.length]?=some (.list (xs.map .obj)):=by rw[e3,e2];exact aB aO
  have ly:H3[H2.length]?=some (.list (ys.map .obj)):=by rw[e3];exact aO
  have hJ3:=x23 _ _ (x12 _ _ hJ1)
  have c3:=x23 _ _ (x12 _ _ c1)
  have row3:=x23 _ _ (x12 _ _ row1)
  have tst:yY c ⟨aZ (aG n) sc,("row",J+1)::aC (aG n) sc.names⟩ k [.Compare (rh "old" a1 a2 a3 a4 a5 a6 a7 a8 ta tb a9 a10 a11 scA a12) [.NotEq] [rh "new" b1 b2 b3 b4 b5 b6 b7 b8 tc td b9 b10 b11 scB b12] p10] ⟨l,H1⟩ (qh so sn r0) ⟨l,H3⟩:=
   av rfl ev1 ev2 (Bc lx ly (px.ext λy o h=>x23 _ _ (x12 _ _ h)) (py.ext x23) rfl)
  have as1:As c ⟨aZ (aG n) sc,("row",J+1)::aC (aG n) sc.names⟩ k (.Name "row" p6) (.obj rjs[i]) ⟨l,H⟩ ⟨l,H1⟩:=by rw[e1];exact wN (σ:=⟨l,H⟩) ki r1 cr hc
  have ai:(aQ T (rjs.map .obj)).items[i]?=some (.obj rjs[i]):=by
   show(rjs.map AV.obj)[i]?=_
   rw[ZK,hj];rfl
  cases ht:qh so sn r0 with
  |true=>
   rw[ht]at tst
   have el:Ev c ⟨aZ (aG n) sc,("row",J+1)::aC (aG n) sc.names⟩ k (.Subscript (.Name "row" p3) (.Constant (.int 0) t1 p4) p5) ⟨l,H3⟩ (.str r0) ⟨l,H3⟩:=
    cW (i:=0) (by lia) (by lia) (λ_ _=>rfl) (λ_ _=>rfl) (dO ki r1 cr c3 (by decide)) aJ row3 rfl
   refine cj (ih (i+1) (done++[r0]) l (H3.set J (.list ((done++[r0]).map .str))) (some (.obj rjs[i])) hd1 (by simp;lia) (λy o h=>ak (kp3 y o h) (by have:=lt0 h;lia)) (bF (aq hJ3)) (ak c3 (by lia))) λl' H' h1 h2 h3=>?_
   refine fq l' H' ?_ ?_ h3
   ·subst hg
    refine fL (σ:=⟨l,H⟩) (I:=aQ T (rjs.map .obj)) (σ₁:=⟨l,H1⟩) (σ₂:=⟨l,H3⟩) (σ₃:=⟨l,H3⟩) (v:=.str r0) (acc:=done.map .str) G.ok az rfl rfl (λ_ _=>rfl) (kp _ _ d.t) ai as1 tst el hJ3 (by simp;have:=d.z;lia) ?_
    rw[show done.map AV.str++[AV.str r0]=(done++[r0]).map .str by simp]
    exact h1
   ·rw[h2,Zb]
    simp only[eh,ht,if_true]
    simp[eh]
  |false=>
   rw[ht]at tst
   refine cj (ih (i+1) done l H3 (some (.obj rjs[i])) hd1 (by lia) kp3 hJ3 c3) λl' H' h1 h2 h3=>?_
   refine fq l' H' ?_ ?_ h3
   ·subst hg
    exact nq (σ:=⟨l,H⟩) (I:=aQ T (rjs.map .obj)) (σ₁:=⟨l,H1⟩) (σ₂:=⟨l,H3⟩) G.ok az rfl rfl (λ_ _=>rfl) (kp _ _ d.t) ai as1 tst h1
   ·rw[h2,Zb]
    simp[eh,ht]
end
noncomputable def ky:=cV jW 3
structure Hv(sc scI:Scope):Prop where
 s:∀n,cz (aG n) sc (aZ (aG n) sc) (aC (aG n) sc.names)
 k:∀n,(aZ (aG n) sc).kind=.function∧(aZ (aG n) sc).names.lookup ("row":Str)=some .local∧(aZ (aG n) sc).names.lookup ("anew":Str)=some .cell∧(aC (aG n) sc.names).lookup ("anew":Str)=some (n+2)
 sI:∀n,cz ⟨aZ (aG n) sc,aC (aG n) sc.names⟩ scI (aZ ⟨aZ (aG n) sc,aC (aG n) sc.names⟩ scI) (aC ⟨aZ (aG n) sc,aC (aG n) sc.names⟩ scI.names)
 kI:∀n,(aZ ⟨aZ (aG n) sc,aC (aG n) sc.names⟩ scI).kind=.function∧(aZ ⟨aZ (aG n) sc,aC (aG n) sc.names⟩ scI).names.lookup ("need":Str)=some .local∧(aZ ⟨aZ (aG n) sc,aC (aG n) sc.names⟩ scI).names.lookup ("anew":Str)=some .cell∧(aC ⟨aZ (aG n) sc,aC (aG n) sc.names⟩ scI.names).lookup ("anew":Str)=some (n+2)
theorem zA(kz:∀(sc scI:Scope)(p1 p2 p3 p4 p5 p6 p7 p8 p9 p11 p12 p13:Pos)(t0 t3:Nat)(a1 a2 a3 a4 a5 b1 b2 b3 b4 b5 b6 b7 b8 b9 b10 b11 b12 e1:Pos)(t1 t2:Nat),(ky=[.Assign [.Name "anew" p1] (.Call (.Name "sorted" p2) [.ListComp (.Subscript (.Name "row" p3) (.Constant (.int 0) t0 p4) p5) [⟨.Name "row" p6,.Subscript (.Name "books" p7) (.Constant (.int 1) t3 p8) p9,[.BoolOp .Or [.Compare (.Subscript (.Name "row" a1) (.Constant (.int 0) t1 a2) a3) [.In] [.Name "anew" a4] a5,.Compare (.ListComp (.Name "need" b1) [⟨.Name "need" b2,.Subscript (.Name "row" b3) (.Slice (some (.Constant (.int 1) t2 b4)) none none b5) b6,[.Compare (.Name "need" b7) [.In] [.Name "anew" b8] b9],0⟩] scI b10) [.NotEq] [.List [] b11] b12] e1],0⟩] sc p11] [] p12) p13]∧Hv sc scI)→Gz):Gz:=by
 refine kz _ _ _ _ _ _ _ _ _ _ _ _ _ _ _ _ _ _ _ _ _ _ _ _ _ _ _ _ _ _ _ _ _ _ _ _ ⟨by k_dflt rfl,?_⟩
 exact⟨λn=>dW (iK (by w_on)) (by w_on) (by w_on) (by w_on),λn=>⟨by w_on,by w_on,by w_on,by w_on⟩,λn=>dW (iK (by w_on)) (by w_on) (by w_on) (by w_on),λn=>⟨by w_on,by w_on,by w_on,by w_on⟩⟩
noncomputable def mD(an:List Str):AV→Bool
 | .str y=>an.contains y
 |_=>false
noncomputable def mT(an:List Str)(r:List Str):Bool:=an.contains (tI r)||!(((r.drop 1).map AV.str).filter (mD an)).isEmpty
structure D2(H0:List AO)(n T AN:Nat)(rjs:List Nat)(rows:List (List Str))(an:List Str):Prop where
 a:H0[n+2]?=some (.cell (some (.obj AN)))
 an:H0[AN]?=some (.list (an.map .str))
 t:H0[T]?=some (.list (rjs.map .obj))
 l:rjs.length=rows.length
 r:∀(i j:Nat)(r:List Str),rjs[i]?=some j→rows[i]?=some r→H0[j]?=some (AO.list (r.map .str))
 ne:∀r∈rows,r≠[]∧r.length<500
 z:rows.length<100
section
variable{AN:Nat}{rjs:List Nat}{rows:List (List Str)}{an:List Str}
theorem xH(G:c.Go)(h100:100≤k){scI:Scope}(S:Hv sc scI){p11:Pos}{t0:Nat}{a1 a2 a3 a4 a5 b1 b2 b3 b4 b5 b6 b7 b8 b9 b10 b11 b12 e1:Pos}{t1 t2:Nat}
  (hg:gens=[⟨.Name "row" p6,iter,[.BoolOp .Or [.Compare (.Subscript (.Name "row" a1) (.Constant (.int 0) t1 a2) a3) [.In] [.Name "anew" a4] a5,.Compare (.ListComp (.Name "need" b1) [⟨.Name "need" b2,.Subscript (.Name "row" b3) (.Slice (some (.Constant (.int 1) t2 b4)) none none b5) b6,[.Compare (.Name "need" b7) [.In] [.Name "anew" b8] b9],0⟩] scI b10) [.NotEq] [.List [] b11] b12] e1],0⟩])(d:D2 H0 n T AN rjs rows an):
  ∀(rest:List (List Str))(i:Nat)(done:List Str)(l:List (Str×AV))(H:List AO),rows.drop i=rest→done.length≤i→(∀(y:Nat)(o:AO),H0[y]?=some o→H[y]?=some o)→H[H0.length]?=some (.list (done.map .str))→
   ∃l' H',CL c ⟨aZ (aG n) sc,aC (aG n) sc.names⟩ k (.Subscript (.Name "row" p3) (.Constant (.int 0) t0 p4) p5) gens sc p11 0 (aQ T (rjs.map .obj)) H0.length i ⟨l,H⟩ ⟨l',H'⟩∧H'[H0.length]?=some (.list ((done++(rest.filter (mT an)).map tI).map .str))∧∀(y:Nat)(o:AO),H0[y]?=some o→H'[y]?=some o:=by
 refine bb (H0.length) λJ eJ=>?_
 rw[←eJ]
 refine bp λGz kz=>?_
 refine lQ (S.k n) λk0 k1 k2 k3=>?_
 refine lQ (S.kI n) λi0 i1 i2 i3=>?_
 refine kz ?_
 have ki:(Fs.mk (aZ (aG n) sc) (aC (aG n) sc.names)).scope.kind=.function:=k0
 have kj:(Fs.mk (aZ ⟨aZ (aG n) sc,aC (aG n) sc.names⟩ scI) (aC ⟨aZ (aG n) sc,aC (aG n) sc.names⟩ scI.names)).scope.kind=.function:=i0
 intro rest
 induction rest with
 |nil=>
  intro i done l H hd hl kp hJ
  subst hg
  refine fq l H (im (σ:=⟨l,H⟩) (I:=aQ T (rjs.map .obj)) az rfl rfl (λ_ _=>rfl) h100 (kp _ _ d.t) ?_) (by simpa using hJ) kp
  show(rjs.map AV.obj)[i]?=none
  rw[ZC,ZS,d.l]
  exact ZL.mp hd
 |cons r rest ih=>
  intro i done l H hd hl kp hJ
  have hp:rows[i]?=some r:=by
   have:(rows.drop i)[0]?=some r:=by rw[hd];rfl
   rwa[Z1,Zq]at this
  have hd1:rows.drop (i+1)=rest:=by
   have:(rows.drop i).drop 1=rest:=by rw[hd];rfl
   rwa[Zp]at this
  have il:=aq hp
  have il2:i<rjs.length:=by rw[d.l];exact il
  have hj:rjs[i]?=some rjs[i]:=zG il2
  have row:=kp _ _ (d.r i rjs[i] r hj hp)
  refine aV (d.ne r (Zg hp)) λrne rz=>?_
  obtain⟨r0,rs,er⟩:∃r0 rs,r=r0::rs:=by cases r with|nil=>exact absurd rfl rne|cons a b=>exact tQ a b rfl
  have eh:tI r=r0:=by rw[er];rfl
  rw[er]at row
  have rz':rs.length<500:=by rw[er]at rz;simp at rz;lia
  let l1:List (Str×AV):=aR ("row":Str) (.obj rjs[i]) l
  have lr:l1.lookup ("row":Str)=some (.obj rjs[i]):=aj _ _ _
  have lt0:∀{y:Nat}{o:AO},H0[y]?=some o→y<J:= λh=>eJ▸aq h
  have ai:(aQ T (rjs.map .obj)).items[i]?=some (.obj rjs[i]):=by
   show(rjs.map AV.obj)[i]?=_
   rw[ZK,hj];rfl
  have rd0:∀{H:List AO}{p1 p2 p3:Pos}{t:Nat},H[rjs[i]]?=some (.list ((r0::rs).map .str))→Ev c ⟨aZ (aG n) sc,aC (aG n) sc.names⟩ k (.Subscript (.Name "row" p1) (.Constant (.int 0) t p2) p3) ⟨l1,H⟩ (.str r0) ⟨l1,H⟩:= λ{H p1 p2 p3 t} h=>
   cW (i:=0) (by lia) (by lia) (λ_ _=>rfl) (λ_ _=>rfl) (aa ki k1 lr) aJ h rfl
  have t1':∀{t:Bool},an.contains r0=t→Te c ⟨aZ (aG n) sc,aC (aG n) sc.names⟩ k (.Compare (.Subscript (.Name "row" a1) (.Constant (.int 0) t1 a2) a3) [.In] [.Name "anew" a4] a5) ⟨l1,H⟩ t ⟨l1,H⟩:= λht=>
   av rfl (rd0 row) (dO ki k2 k3 (kp _ _ d.a) (by decide)) (lF (kp _ _ d.an) ht)
  refine bp λGz kz=>?_
  obtain⟨H3,x3,tst⟩:∃H3,bW H H3∧yY c ⟨aZ (aG n) sc,aC (aG n) sc.names⟩ k [.BoolOp .Or [.Compare (.Subscript (.Name "row" a1) (.Constant (.int 0) t1 a2) a3) [.In] [.Name "anew" a4] a5,.Compare (.ListComp (.Name "need" b1) [⟨.Name "need" b2,.Subscript (.Name "row" b3) (.Slice (some (.Constant (.int 1) t2 b4)) none none b5) b6,[.Compare (.Name "need" b7) [.In] [.Name "anew" b8] b9],0⟩] scI b10) [.NotEq] [.List [] b11] b12] e1] ⟨l1,H⟩ (mT an r) ⟨l1,H3⟩:=by
   have eH:mT an r=(an.contains r0||!((rs.map AV.str).filter (mD an)).isEmpty):=by unfold mT;rw[eh,er];rfl
   rw[eH]
   cases hc:an.contains r0 with
   |true=>exact al H (λy o h=>h) (gB (t1' hc))
   |false=>
    refine bb (H++[AO.list (rs.map .str)]) λH1 e1=>?_
    have x1:bW H H1:= λy o h=>by rw[e1];exact aB h
    have sl:=fE (c:=c) (F:=⟨aZ (aG n) sc,aC (aG n) sc.names⟩) (k:=k) (σ:=⟨l1,H⟩) (σ₁:=⟨l1,H⟩) (σ₂:=⟨l1,H⟩) (σ₃:=⟨l1,H⟩) (σ₄:=⟨l1,H⟩) (value:=.Name "row" b3) (lower:=some (.Constant (.int 1) t2 b4)) (upper:=none) (step:=none) (p:=b5) (pos:=b6) (j:=rjs[i]) (vs:=(r0::rs).map .str) (l:=some 1) (u:=none) (t:=none) (v':=rs.map .str) (by simp;lia) (by simp) (λ_ _=>⟨_,rfl⟩) (aa ki k1 lr) (e9 aJ) ds ds row (λρ n its h=>kP h)
    rw[show(St.H ⟨l1,H⟩)++[AO.list (rs.map .str)]=H1 from e1.symm]at sl
    have lH1:H1[H.length]?=some (.list (rs.map .str)):=by rw[e1];exact aO
    have kI:=qw (F:=⟨aZ (aG n) sc,aC (aG n) sc.names⟩) (k:=k) (σ:=⟨l1,H⟩) (σ₁:=⟨l1,H1⟩) (T:=H.length) (vs:=rs.map .str) (px:=b2) (pe:=b1) (pos:=b10) (φ:=mD an) (ifs:=[.Compare (.Name "need" b7) [.In] [.Name "anew" b8] b9]) G h100 (S.sI n) kj i1 (by decide) (λ_ _=>rfl) sl lH1 (by simp;lia) λv l' done hv hl=>by
     refine ah (ZR.mp hv) λy _ z0=>?_;subst z0
     exact av rfl (aa kj i1 hl) (dO kj i2 i3 (aB (x1 _ _ (kp _ _ d.a))) (by decide)) (lF (aB (x1 _ _ (kp _ _ d.an))) rfl)
    refine bb (H1++[AO.list ((rs.map AV.str).filter (mD an))]) λH2 e2=>?_
    rw[show(St.H ⟨l1,H1⟩)++[AO.list ((rs.map AV.str).filter (mD an))]=H2 from e2.symm]at kI
    refine bb (H2++[AO.list []]) λH3 e3=>?_
    have el:Ev c ⟨aZ (aG n) sc,aC (aG n) sc.names⟩ k (.List [] b11) ⟨l1,H2⟩ (.obj H2.length) ⟨l1,H3⟩:=by
     have z:=dL (c:=c) (F:=⟨aZ (aG n) sc,aC (aG n) sc.names⟩) (k:=k) (pos:=b11) (σ₁:=⟨l1,H2⟩) (vs:=[]) (by decide) au
     rw[e3];exact z
    have tt:∀{t:Bool},(!((rs.map AV.str).filter (mD an)).isEmpty)=t→Te c ⟨aZ (aG n) sc,aC (aG n) sc.names⟩ k (.Compare (.ListComp (.Name "need" b1) [⟨.Name "need" b2,.Subscript (.Name "row" b3) (.Slice (some (.Constant (.int 1) t2 b4)) none none b5) b6,[.Compare (.Name "need" b7) [.In] [.Name "anew" b8] b9],0⟩] scI b10) [.NotEq] [.List [] b11] b12) ⟨l1,H⟩ t ⟨l1,H3⟩:= λht=>
     av rfl kI el (tJ (vs:=(rs.map AV.str).filter (mD an)) (by show H3[H1.length]?=_;rw[e3,e2];exact aB aO) (by show H3[H2.length]?=_;rw[e3];exact aO) ht)
    refine al H3 (λy o h=>by rw[e3,e2];exact aB (aB (x1 _ _ h))) ?_
    cases hh:(!((rs.map AV.str).filter (mD an)).isEmpty)with
    |true=>exact ej (t1' hc) (gB (tt hh))
    |false=>exact ej (t1' hc) (ej (tt hh) jN)
  refine kz ?_
  have kp3:∀(y:Nat)(o:AO),H0[y]?=some o→H3[y]?=some o:= λy o h=>x3 _ _ (kp y o h)
  have hJ3:=x3 _ _ hJ
  cases ht:mT an r with
  |true=>
   rw[ht]at tst
   refine cj (ih (i+1) (done++[r0]) l1 (H3.set J (.list ((done++[r0]).map .str))) hd1 (by simp;lia) (λy o h=>ak (kp3 y o h) (by have:=lt0 h;lia)) (bF (aq hJ3))) λl' H' h1 h2 h3=>?_
   refine fq l' H' ?_ ?_ h3
   ·subst hg
    refine fL (σ:=⟨l,H⟩) (I:=aQ T (rjs.map .obj)) (σ₁:=⟨l1,H⟩) (σ₂:=⟨l1,H3⟩) (σ₃:=⟨l1,H3⟩) (v:=.str r0) (acc:=done.map .str) G.ok az rfl rfl (λ_ _=>rfl) (kp _ _ d.t) ai (bg ki k1) tst (rd0 (x3 _ _ row)) hJ3 (by simp;have:=d.z;lia) ?_
    rw[show done.map AV.str++[AV.str r0]=(done++[r0]).map .str by simp]
    exact h1
   ·rw[h2,Zb]
    simp only[ht,if_true]
    simp[eh]
  |false=>
   rw[ht]at tst
   refine cj (ih (i+1) done l1 H3 hd1 (by lia) kp3 hJ3) λl' H' h1 h2 h3=>?_
   refine fq l' H' ?_ ?_ h3
   ·subst hg
    exact nq (σ:=⟨l,H⟩) (I:=aQ T (rjs.map .obj)) (σ₁:=⟨l1,H⟩) (σ₂:=⟨l1,H3⟩) G.ok az rfl rfl (λ_ _=>rfl) (kp _ _ d.t) ai (bg ki k1) tst h1
   ·rw[h2,Zb]
    simp[ht]
end
structure iQ(H:List AO)(T:Nat)(rjs:List Nat)(rows:List (List Str)):Prop where
 t:H[T]?=some (.list (rjs.map .obj))
 l:rjs.length=rows.length
 r:∀(i j:Nat)(r:List Str),rjs[i]?=some j→rows[i]?=some r→H[j]?=some (AO.list (r.map .str))
structure ul(H:List AO)(n BK T0 T1 Lo Ln:Nat)(r0 r1:List Nat)(ro rn:List (List Str))(so sn:List (Str×Str)):Prop where
 b:H[BK]?=some (.list [.obj T0,.obj T1])
 o:H[n+0]?=some (.cell (some (.obj Lo)))
 n:H[n+1]?=some (.cell (some (.obj Ln)))
 po:cT H Lo so
 pn:cT H Ln sn
 r0:iQ H T0 r0 ro
 r1:iQ H T1 r1 rn
theorem iQ.keep{rjs:List Nat}{rows:List (List Str)}(x:iQ H T rjs rows)(k:∀(y:Nat)(o:AO),o.lt=true→H[y]?=some o→H'[y]?=some o):iQ H' T rjs rows:=⟨k _ _ rfl x.t,x.l,λi j r a b=>k _ _ rfl (x.r i j r a b)⟩
section
variable{BK T0 T1 Lo Ln:Nat}{r0 r1:List Nat}{rn:List (List Str)}
theorem ul.keep(d:ul H n BK T0 T1 Lo Ln r0 r1 ro rn so sn)(k:∀(y:Nat)(o:AO),o.lt=true→H[y]?=some o→H'[y]?=some o)(k0:H'[n+0]?=some (.cell (some (.obj Lo))))(k1:H'[n+1]?=some (.cell (some (.obj Ln)))):ul H' n BK T0 T1 Lo Ln r0 r1 ro rn so sn:=
 ⟨k _ _ rfl d.b,k0,k1,d.po.lt k,d.pn.lt k,d.r0.keep k,d.r1.keep k⟩
theorem ul.ext(d:ul H n BK T0 T1 Lo Ln r0 r1 ro rn so sn)(e:bW H H'):ul H' n BK T0 T1 Lo Ln r0 r1 ro rn so sn:=d.keep (λy o _ h=>e _ _ h) (e _ _ d.o) (e _ _ d.n)
theorem ul.cell(d:ul H n BK T0 T1 Lo Ln r0 r1 ro rn so sn){v0:Option AV}(hc:H[n+2]?=some (.cell v0))(v:Option AV):ul (H.set (n+2) (.cell v)) n BK T0 T1 Lo Ln r0 r1 ro rn so sn∧(∀(y:Nat)(o:AO),o.lt=true→H[y]?=some o→(H.set (n+2) (.cell v))[y]?=some o):=by
 have k:∀(y:Nat)(o:AO),o.lt=true→H[y]?=some o→(H.set (n+2) (.cell v))[y]?=some o:= λy o t h=>ak h (λq=>by rw[q,hc]at h;cases h;cases t)
 exact⟨d.keep k (ak d.o (by lia)) (ak d.n (by lia)),k⟩
theorem IE(G:c.Go)(hb:l.lookup ("books":Str)=some (.obj BK))(d:ul H n BK T0 T1 Lo Ln r0 r1 ro rn so sn){v0:Option AV}(hc:H[n+2]?=some (.cell v0))(ne:∀r∈ro,r≠[])(z:ro.length<64)(zo:so.length<900)(zn:sn.length<900)(hs:iO ((ro.filter λr=>qh so sn (tI r)).map tI) zs):
  ∃H' AN,Ex c (aG n) (k+101) (qL jW 2) ⟨l,H⟩ .next ⟨l,H'⟩∧ul H' n BK T0 T1 Lo Ln r0 r1 ro rn so sn∧H'[n+2]?=some (.cell (some (.obj AN)))∧H'[AN]?=some (.list (zs.map .str))∧∀(y:Nat)(o:AO),o.lt=true→H[y]?=some o→H'[y]?=some o:=by
 refine bp λGz kz=>?_
 refine A9 λsc scA scB p1 p2 p3 p4 p5 p6 p7 p8 p9 p10 p11 p12 p13 p14 p15 t1 t2 a1 a2 a3 a4 a5 a6 a7 a8 ta tb a9 a10 a11 a12 b1 b2 b3 b4 b5 b6 b7 b8 tc td b9 b10 b11 b12 hz_=>?_
 refine aV hz_ λhst S=>?_
 have d1:D1 H n T0 Lo Ln r0 ro so sn:=⟨d.o,d.n,d.po,d.pn,d.r0.t,d.r0.l,d.r0.r,ne,by lia,zo,zn⟩
 have le:(H++[AO.list []]++[AO.cell none]).length=H.length+2:=by simp
 have l1:(H++[AO.list []]).length=H.length+1:=by simp
 refine cj (xS (k:=k+101) (p3:=p3) (p4:=p4) (p5:=p5) (p11:=p11) (t1:=t1) (gens:=[⟨.Name "row" p6,.Subscript (.Name "books" p7) (.Constant (.int 0) t2 p8) p9,[.Compare (rh "old" a1 a2 a3 a4 a5 a6 a7 a8 ta tb a9 a10 a11 scA a12) [.NotEq] [rh "new" b1 b2 b3 b4 b5 b6 b7 b8 tc td b9 b10 b11 scB b12] p10],0⟩]) G (by lia) S rfl d1 ro 0 [] [] (H++[AO.list []]++[AO.cell none]) none rfl (ZA _) (λy o h=>aB (aB h)) (aB aO) (by rw[←l1];exact aO)) λl' H1 cl hJ kp=>?_
 have ev:=zM (F:=aG n) (k:=k+101) (σ:=⟨l,H⟩) (σ₁:=⟨l,H⟩) (I:=aQ T0 (r0.map .obj)) (loc':=l') (H':=H1) (a:=.obj T0) (rest:=[]) G.ok az (S.s1 n) (λ_ _=>rfl)
  (cW (i:=0) (by lia) (by lia) (λ_ _=>rfl) (λ_ _=>rfl) (aa (pos:=p7) (f9 n) rfl hb) (aJ (q:=t2) (pos:=p8)) d.b rfl) (d6 d.r0.t) d.r0.t (aq hJ) @cl
 rw[List.nil_append]at hJ
 have e1:bW H H1:=kp
 have srt:=gr (c:=c) (F:=aG n) (k:=k+101) (σ:=⟨l,H1⟩) hJ (by rw[ZS];have:=Zc (λr=>qh so sn (tI r)) ro;lia) hs
 refine bb (H1++[AO.list (zs.map .str)]) λH2 e2=>?_
 have x2:bW H1 H2:= λy o h=>by rw[e2];exact aB h
 rw[show(St.H ⟨l,H1⟩)++[AO.list (zs.map .str)]=H2 from e2.symm]at srt
 have hA:H2[H1.length]?=some (.list (zs.map .str)):=by rw[e2];exact aO
 have hc2:=x2 _ _ (e1 _ _ hc)
 refine aV ((d.ext (e1.trans x2)).cell hc2 (some (.obj H1.length))) λd3 k3=>?_
 refine kz ?_
 refine kW (H2.set (n+2) (.cell (some (.obj H1.length)))) H1.length ?_ d3 (bF (aq hc2)) (k3 _ _ rfl hA) λy o t h=>k3 _ _ t (x2 _ _ (e1 _ _ h))
 rw[hst]
 exact dX (σ₁:=⟨l,H2⟩) (f9 n) (by w_on) (by w_on:(aG n).cells.lookup ("anew":Str)=some (n+2)) (λ_=>rfl) (dA (λ_=>rfl) (λ_=>rfl) (di G (f9 n) rfl (lA _) jL) (af λ_=>rfl) (am (λ_=>rfl) ev au) srt) hc2
theorem Em(G:c.Go)(hb:l.lookup ("books":Str)=some (.obj BK))(d:ul H n BK T0 T1 Lo Ln r0 r1 ro rn so sn){AN:Nat}{an:List Str}(hc:H[n+2]?=some (.cell (some (.obj AN))))(hA:H[AN]?=some (.list (an.map .str)))(ne:∀r∈rn,r≠[]∧r.length<500)(z:rn.length<64)(hs:iO ((rn.filter (mT an)).map tI) zs):
  ∃H' AN',dI c (aG n) (k+101) ky ⟨l,H⟩ .next ⟨l,H'⟩∧ul H' n BK T0 T1 Lo Ln r0 r1 ro rn so sn∧H'[n+2]?=some (.cell (some (.obj AN')))∧H'[AN']?=some (.list (zs.map .str))∧∀(y:Nat)(o:AO),o.lt=true→H[y]?=some o→H'[y]?=some o:=by
 refine bp λGz kz=>?_
 refine zA λsc scI p1 p2 p3 p4 p5 p6 p7 p8 p9 p11 p12 p13 t0 t3 a1 a2 a3 a4 a5 b1 b2 b3 b4 b5 b6 b7 b8 b9 b10 b11 b12 e1' t1 t2 hz_=>?_
 refine aV hz_ λhst S=>?_
 have d2:D2 H n T1 AN r1 rn an:=⟨hc,hA,d.r1.t,d.r1.l,d.r1.r,ne,by lia⟩
 refine cj (xH (k:=k+101) (p3:=p3) (p4:=p4) (p5:=p5) (p11:=p11) (t0:=t0) (gens:=[⟨.Name "row" p6,.Subscript (.Name "books" p7) (.Constant (.int 1) t3 p8) p9,[.BoolOp .Or [.Compare (.Subscript (.Name "row" a1) (.Constant (.int 0) t1 a2) a3) [.In] [.Name "anew" a4] a5,.Compare (.ListComp (.Name "need" b1) [⟨.Name "need" b2,.Subscript (.Name "row" b3) (.Slice (some (.Constant (.int 1) t2 b4)) none none b5) b6,[.Compare (.Name "need" b7) [.In] [.Name "anew" b8] b9],0⟩] scI b10) [.NotEq] [.List [] b11] b12] e1'],0⟩]) G (by lia) S rfl d2 rn 0 [] [] (H++[AO.list []]) rfl (ZA _) (λy o h=>aB h) aO) λl' H1 cl hJ kp=>?_
 have ev:=fV (F:=aG n) (k:=k+101) (σ:=⟨l,H⟩) (σ₁:=⟨l,H⟩) (I:=aQ T1 (r1.map .obj)) (loc':=l') (H':=H1) (a:=.obj T1) (rest:=[]) G.ok az (S.s n) (λ_ _=>rfl)
  (cW (i:=1) (by lia) (by lia) (λ_ _=>rfl) (λ_ _=>rfl) (aa (pos:=p7) (f9 n) rfl hb) (aJ (q:=t3) (pos:=p8)) d.b rfl) (d6 d.r1.t) d.r1.t (aq hJ) @cl
 rw[List.nil_append]at hJ
 have e1:bW H H1:=kp
 have srt:=gr (c:=c) (F:=aG n) (k:=k+101) (σ:=⟨l,H1⟩) hJ (by rw[ZS];have:=Zc (mT an) rn;lia) hs
 refine bb (H1++[AO.list (zs.map .str)]) λH2 e2=>?_
 have x2:bW H1 H2:= λy o h=>by rw[e2];exact aB h
 rw[show(St.H ⟨l,H1⟩)++[AO.list (zs.map .str)]=H2 from e2.symm]at srt
 have hA2:H2[H1.length]?=some (.list (zs.map .str)):=by rw[e2];exact aO
 have hc2:=x2 _ _ (e1 _ _ hc)
 refine aV ((d.ext (e1.trans x2)).cell hc2 (some (.obj H1.length))) λd3 k3=>?_
 refine kz ?_
 refine kW (H2.set (n+2) (.cell (some (.obj H1.length)))) H1.length ?_ d3 (bF (aq hc2)) (k3 _ _ rfl hA2) λy o t h=>k3 _ _ t (x2 _ _ (e1 _ _ h))
 rw[hst]
 exact aT (dX (σ₁:=⟨l,H2⟩) (f9 n) (by w_on) (by w_on:(aG n).cells.lookup ("anew":Str)=some (n+2)) (λ_=>rfl) (dA (λ_=>rfl) (λ_=>rfl) (di G (f9 n) rfl (lA _) jL) (af λ_=>rfl) (am (λ_=>rfl) ev au) srt) hc2)
inductive vB(rn:List (List Str)):Nat→List Str→List Str→Prop
 |z (an:List Str):vB rn 0 an an
 |su {m:Nat} {an zs r:List Str} (h:iO ((rn.filter (mT an)).map tI) zs) (t:vB rn m zs r):vB rn (m+1) an r
theorem CW(G:c.Go)(ne:∀r∈rn,r≠[]∧r.length<500)(z:rn.length<64):∀(vs:List AV){l:List (Str×AV)}{H:List AO}{AN:Nat}{an res:List Str},l.lookup ("books":Str)=some (.obj BK)→ul H n BK T0 T1 Lo Ln r0 r1 ro rn so sn→H[n+2]?=some (.cell (some (.obj AN)))→H[AN]?=some (.list (an.map .str))→vB rn vs.length an res→
  ∃l' H' AN',(∀pp:Pos,fg c (aG n) (k+101) (d8 5) (.Name "k" pp) ky vs ⟨l,H⟩ .next ⟨l',H'⟩)∧ul H' n BK T0 T1 Lo Ln r0 r1 ro rn so sn∧H'[n+2]?=some (.cell (some (.obj AN')))∧H'[AN']?=some (.list (res.map .str))∧∀(y:Nat)(o:AO),o.lt=true→H[y]?=some o→H'[y]?=some o:=by
 intro vs
 induction vs with
 |nil=>
  intro l H AN an res hb d hc hA hr
  cases hr
  exact cH l H AN (λ_=>.nil trivial) d hc hA λy o _ h=>h
 |cons v vs ih=>
  intro l H AN an res hb d hc hA hr
  cases hr with
  |su h t=>
  have hb1:(aR ("k":Str) v l).lookup ("books":Str)=some (.obj BK):=dR hb
  refine bp λGz kz=>?_
  refine i5 (Em (k:=k) (l:=aR "k" v l) G hb1 d hc hA ne z h) λH1 A1 e1 d1 c1 a1 k1=>?_
  refine cP (ih hb1 d1 c1 a1 t) λl2 H2 A2 e2 d2 c2 a2 k2=>?_
  refine kz ?_
  refine cH l2 H2 A2 ?_ d2 c2 a2 λy o t h=>k2 y o t (k1 y o t h)
  generalize ky=bdy at e1 e2 ⊢
  exact λpp=>fg.next (a:=v) (rest:=vs) (σ₁:=⟨aR "k" v l,H⟩) trivial (.inl rfl) (bg (f9 n) rfl) e1 (e2 pp)
end
structure GB(sc:Scope)(other:Str)(q:Nat):Prop where
 s:∀n,cz (aG n) sc (aZ (aG n) sc) (aC (aG n) sc.names)
 k:∀n,(aZ (aG n) sc).kind=.function∧(aZ (aG n) sc).names.lookup ("need":Str)=some .local∧(aZ (aG n) sc).names.lookup other=some .cell∧(aC (aG n) sc.names).lookup other=some (n+q)
noncomputable def Ch(a b:Str)(p1 p2 p3 p4 p5 p6:Pos)(sc:Scope)(p7:Pos):Expr:=.ListComp (.Name "need" p1) [⟨.Name "need" p2,.Name a p3,[.Compare (.Name "need" p4) [.NotIn] [.Name b p5] p6],0⟩] sc p7
theorem zr(kz:∀(scA scB:Scope)(a1 a2 a3 a4 a5 a6 a7 b1 b2 b3 b4 b5 b6 b7 c1 c2 c3:Pos),(qL jW 4=.Return (some (.List [Ch "old" "new" a1 a2 a3 a4 a5 a6 scA a7,Ch "new" "old" b1 b2 b3 b4 b5 b6 scB b7,.Name "anew" c1] c2)) c3∧GB scA "new" 1∧GB scB "old" 0)→Gz):Gz:=by
 refine kz _ _ _ _ _ _ _ _ _ _ _ _ _ _ _ _ _ _ _ ⟨by k_dflt rfl,?_,?_⟩
 ·exact⟨λn=>dW (iK (by w_on)) (by w_on) (by w_on) (by w_on),λn=>⟨by w_on,by w_on,by w_on,by w_on⟩⟩
 ·exact⟨λn=>dW (iK (by w_on)) (by w_on) (by w_on) (by w_on),λn=>⟨by w_on,by w_on,by w_on,by w_on⟩⟩
noncomputable def gO(sn:List (Str×Str))(p:Str×Str):Bool:=!sn.contains p
section
variable{BK T0 T1 Lo Ln:Nat}{r0 r1:List Nat}{rn:List (List Str)}
theorem tC(G:c.Go)(h100:100≤k){a b:Str}{p7:Pos}{q qa La Lb:Nat}{ps qs:List (Str×Str)}(S:GB sc b q)(ha:(aG n).scope.names.lookup a=some .cell)(hca:(aG n).cells.lookup a=some qa)(hda:(a==("__debug__":Str))=false)(hdb:(b==("__debug__":Str))=false)
  (h1:H[qa]?=some (.cell (some (.obj La))))(h2:H[n+q]?=some (.cell (some (.obj Lb))))(hp:cT H La ps)(hq:cT H Lb qs)(hz:ps.length<900):
  ∃us,Ev c (aG n) k (Ch a b p1 p2 p3 p4 p5 p6 sc p7) ⟨l,H⟩ (.obj H.length) ⟨l,H++[AO.list (us.map .obj)]⟩∧aN H us (ps.filter (gO qs)):=by
 refine bp λGz kz=>?_
 refine ah hp λjs j1 j2=>?_
 refine ah hq λvs v1 v2=>?_
 refine lQ (S.k n) λk1 k2 k3 k4=>?_
 refine ah (φH_filter (f:=gO qs) j2) λus e g=>?_
 refine kz ?_
 refine al us ?_ g
 rw[←e]
 have ki:(Fs.mk (aZ (aG n) sc) (aC (aG n) sc.names)).scope.kind=.function:=k1
 refine qw (σ₁:=⟨l,H⟩) (T:=La) G h100 (S.s n) ki k2 (by decide) (λ_ _=>rfl) (dO (f9 n) ha hca h1 hda) j1 (by simp;rw[j2.1];exact hz) λv l' done hv hl=>?_
 refine ah (ZR.mp hv) λj hj z0=>?_;subst z0
 refine mW (Zh.mp hj) λi hi ei=>?_
 have i2:i<ps.length:=by rw[←j2.1];exact hi
 have t:=j2.2 i js[i] ps[i] (zG hi) (zG i2)
 rw[ei]at t
 rw[φH_at t]
 exact av rfl (aa ki k2 hl) (dO ki k3 k4 (aB h2) hdb) (sJ (aB v1) (v2.ext bW.app) (aB t) rfl)
theorem GD(G:c.Go){r:List Str}(hBK:H[BK]?=some (.list [.obj T0,.obj T1]))(R0:iQ H T0 r0 ro)(R1:iQ H T1 r1 rn)(B0:∀r∈ro,r≠[]∧r.length<500)(B1:∀r∈rn,r≠[]∧r.length<500)(z0:ro.length<64)(z1:rn.length<64)(q0:(bT ro).length<64)(q1:(bT rn).length<64)(S0:fk (bT ro) so)(S1:fk (bT rn) sn)(zo:so.length<900)(zn:sn.length<900)
  (hs:iO ((ro.filter λr=>qh so sn (tI r)).map tI) zs)(hr:vB rn 5 zs r):
  ∃Z M U A H',Fn c (k+102) (.ref 911) [.obj BK] [] H (.obj Z) H'∧H'[Z]?=some (.list [.obj M,.obj U,.obj A])∧cT H' M (so.filter (gO sn))∧cT H' U (sn.filter (gO so))∧H'[A]?=some (.list (r.map .str))∧∀(y:Nat)(o:AO),o.lt=true→H[y]?=some o→H'[y]?=some o:=by
 refine bp λGz kz=>?_
 refine bb (H.length) λn en=>?_
 refine bb (H++ZV qZ.length (AO.cell none)) λHc ec=>?_
 have exc:bW H Hc:= λy o h=>by rw[ec];exact aB h
 have c0:Hc[n+0]?=some (.cell none):=by rw[ec,en,zR (by lia),Zt];rfl
 have c1:Hc[n+1]?=some (.cell none):=by rw[ec,en,zR (by lia),Zt];rfl
 have c2:Hc[n+2]?=some (.cell none):=by rw[ec,en,zR (by lia),Zt];rfl
 let l:List (Str×AV):=[("books",.obj BK)]
 have kf:=f9 n
 have rows_of:∀{H:List AO}{T:Nat}{rjs:List Nat}{rows:List (List Str)},iQ H T rjs rows→oH H T rows:= λ{H T rjs rows} x=>bO rjs x.t x.l x.r
 refine cU (jn (k:=k) G (rows_of (R0.keep λy o _ h=>exc y o h)) B0 (by lia) q0 S0) λLo HA fA pA eA _=>?_
 have exA:=exc.trans eA
 have cA:HA[n+0]?=some (.cell none):=eA _ _ c0
 refine bb (HA.set (n+0) (.cell (some (.obj Lo)))) λHA' eA'=>?_
 have kA:∀(y:Nat)(o:AO),y≠n+0→HA[y]?=some o→HA'[y]?=some o:= λy o hy h=>by rw[eA'];exact ak h hy
 have kAl:∀(y:Nat)(o:AO),o.lt=true→HA[y]?=some o→HA'[y]?=some o:= λy o t h=>kA y o (λq=>by rw[q,cA]at h;cases h;cases t) h
 refine cU (jn (k:=k) G (rows_of ((R1.keep λy o _ h=>exA y o h).keep kAl)) B1 (by lia) q1 S1) λLn HB fB pB eB _=>?_
 have cB1:HB[n+1]?=some (.cell none):=eB _ _ (kA _ _ (by lia) (eA _ _ c1))
 have cB0:HB[n+0]?=some (.cell (some (.obj Lo))):=eB _ _ (by rw[eA'];exact bF (aq cA))
 have cB2:HB[n+2]?=some (.cell none):=eB _ _ (kA _ _ (by lia) (eA _ _ c2))
 refine bb (HB.set (n+1) (.cell (some (.obj Ln)))) λHB' eB'=>?_
 have kB:∀(y:Nat)(o:AO),y≠n+1→HB[y]?=some o→HB'[y]?=some o:= λy o hy h=>by rw[eB'];exact ak h hy
 have kBl:∀(y:Nat)(o:AO),o.lt=true→HB[y]?=some o→HB'[y]?=some o:= λy o t h=>kB y o (λq=>by rw[q,cB1]at h;cases h;cases t) h
 have kAB:∀(y:Nat)(o:AO),o.lt=true→HA[y]?=some o→HB'[y]?=some o:= λy o t h=>kBl y o t (eB _ _ (kAl y o t h))
 have k0B:∀(y:Nat)(o:AO),o.lt=true→H[y]?=some o→HB'[y]?=some o:= λy o t h=>kAB y o t (exA _ _ h)
 have d:ul HB' n BK T0 T1 Lo Ln r0 r1 ro rn so sn:=⟨k0B _ _ rfl hBK,kB _ _ (by lia) cB0,by rw[eB'];exact bF (aq cB1),pA.lt kAB,pB.lt kBl,R0.keep k0B,R1.keep k0B⟩
 refine i5 (IE (k:=k) (l:=l) G rfl d (kB _ _ (by lia) cB2) (λr hr=>(B0 r hr).1) z0 zo zn hs) λHD AN f2 dD cD aD kD=>?_
 refine bb (HD++[iW 5]) λHR eR=>?_
 have exR:bW HD HR:= λy o h=>by rw[eR];exact aB h
 refine cP (CW (k:=k) (l:=l) G B1 z1 ((ZG 5).map λ(i:Nat)=>AV.int (i:Int)) rfl (dD.ext exR) (exR _ _ cD) (exR _ _ aD) hr) λl2 HE AE lp dE cE aE kE=>?_
 refine zr λscA scB a1 a2 a3 a4 a5 a6 a7 b1 b2 b3 b4 b5 b6 b7 w1 w2 w3 hz_=>?_
 refine fv hz_ λhst SA SB=>?_
 refine ah (tC (l:=l2) (k:=k+101) (p1:=a1) (p2:=a2) (p3:=a3) (p4:=a4) (p5:=a5) (p6:=a6) (p7:=a7) (a:="old") (b:="new") G (by lia) SA (by w_on) (by w_on:(aG n).cells.lookup ("old":Str)=some (n+0)) (by decide) (by decide) dE.o dE.n dE.po dE.pn zo) λxs evA px=>?_
 refine bb (HE++[AO.list (xs.map .obj)]) λHF eF=>?_
 have exF:bW HE HF:= λy o h=>by rw[eF];exact aB h
 rw[←eF]at evA
 have dF:=dE.ext exF
 refine ah (tC (l:=l2) (k:=k+101) (p1:=b1) (p2:=b2) (p3:=b3) (p4:=b4) (p5:=b5) (p6:=b6) (p7:=b7) (a:="new") (b:="old") G (by lia) SB (by w_on) (by w_on:(aG n).cells.lookup ("new":Str)=some (n+1)) (by decide) (by decide) dF.n dF.o dF.pn dF.po zn) λys evB py=>?_
 refine bb (HF++[AO.list (ys.map .obj)]) λHG eG=>?_
 have exG:bW HF HG:= λy o h=>by rw[eG];exact aB h
 rw[←eG]at evB
 refine bb (HG++[AO.list [.obj HE.length,.obj HF.length,.obj AE]]) λHZ eZ=>?_
 refine kz ?_
 have exZ:bW HG HZ:= λy o h=>by rw[eZ];exact aB h
 refine kV HG.length HE.length HF.length AE HZ ?_ (by rw[eZ];exact aO) (al xs (exZ _ _ (exG _ _ (by rw[eF];exact aO))) (px.ext λy o h=>exZ _ _ (exG _ _ (exF _ _ h)))) (al ys (exZ _ _ (by rw[eG];exact aO)) (py.ext λy o h=>exZ _ _ (exG _ _ h))) (exZ _ _ (exG _ _ (exF _ _ aE))) λy o t h=>exZ _ _ (exG _ _ (exF _ _ (kE y o t (exR _ _ (kD y o t (k0B y o t h))))))
 have rt:Ex c (aG n) (k+101) (qL jW 4) ⟨l2,HE⟩ (.ret (.obj HG.length)) ⟨l2,HZ⟩:=by
  rw[hst]
  have z:=dL (c:=c) (F:=aG n) (k:=k+101) (pos:=w2) (σ:=⟨l2,HE⟩) (σ₁:=⟨l2,HG⟩) (vs:=[.obj HE.length,.obj HF.length,.obj AE]) (by simp) (am (λ_=>rfl) evA (am (λ_=>rfl) evB (am (e:=.Name "anew" w1) (λ_=>rfl) (dO kf (by w_on) (by w_on:(aG n).cells.lookup ("anew":Str)=some (n+2)) (exG _ _ (exF _ _ cE)) (by decide)) au)))
  rw[←eZ]at z
  exact aX z
 have s0:∀{p1 p2 p3 p4 p5 p6 p7:Pos}{q:Nat},Ex c (aG n) (k+101) (.Assign [.Name "old" p1] (.Call (.Name "_law_needs" p2) [.Subscript (.Name "books" p3) (.Constant (.int 0) q p4) p5] [] p6) p7) ⟨l,Hc⟩ .next ⟨l,HA'⟩:= λ{p1 p2 p3 p4 p5 p6 p7 q}=>by
  rw[eA']
  exact dX (σ₁:=⟨l,HA⟩) kf (by w_on) (by w_on:(aG n).cells.lookup ("old":Str)=some (n+0)) (λ_=>rfl) (jT (σ₂:=⟨l,Hc⟩) G (hH _) (λ_=>rfl) (dB G kf rfl (i7 _)) (af λ_=>rfl) (am (λ_=>rfl) (cW (i:=0) (by lia) (by lia) (λ_ _=>rfl) (λ_ _=>rfl) (aa kf rfl rfl) aJ (exc _ _ hBK) rfl) au) fA) cA
 have s1:∀{p1 p2 p3 p4 p5 p6 p7:Pos}{q:Nat},Ex c (aG n) (k+101) (.Assign [.Name "new" p1] (.Call (.Name "_law_needs" p2) [.Subscript (.Name "books" p3) (.Constant (.int 1) q p4) p5] [] p6) p7) ⟨l,HA'⟩ .next ⟨l,HB'⟩:= λ{p1 p2 p3 p4 p5 p6 p7 q}=>by
  rw[eB']
  exact dX (σ₁:=⟨l,HB⟩) kf (by w_on) (by w_on:(aG n).cells.lookup ("new":Str)=some (n+1)) (λ_=>rfl) (jT (σ₂:=⟨l,HA'⟩) G (hH _) (λ_=>rfl) (dB G kf rfl (i7 _)) (af λ_=>rfl) (am (λ_=>rfl) (cW (i:=1) (by lia) (by lia) (λ_ _=>rfl) (λ_ _=>rfl) (aa kf rfl rfl) aJ (kAl _ _ rfl (exA _ _ hBK)) rfl) au) fB) cB1
 have s3:∀{p1 p2 p3 p4 p5:Pos}{q:Nat},Ex c (aG n) (k+101) (.For (.Name "k" p1) (.Call (.Name "range" p2) [.Constant (.int 5) q p3] [] p4) ky [] p5) ⟨l,HD⟩ .next ⟨l2,HE⟩:= λ{p1 p2 p3 p4 p5 q}=>by
  have lp1:=lp p1
  generalize ky=bdy at lp1 ⊢
  have rg:HR[HD.length]?=some (iW 5):=by rw[eR];exact aO
  have ev:Ev c (aG n) (k+101) (.Call (.Name "range" p2) [.Constant (.int 5) q p3] [] p4) ⟨l,HD⟩ (.obj HD.length) ⟨l,HR⟩:=by
   rw[eR]
   exact cQ (λ_=>rfl) (λ_=>rfl) (di G kf rfl (ny _) lP) (af λ_=>rfl) (am (λ_=>rfl) aJ au) k7
  exact gu (I:=d8 5) (σ₁:=⟨l,HR⟩) G.ok gb (λ_ _=>rfl) (λ_ _=>rfl) (by lia) ev (lN (n:=5) (by decide) rg) lp1
 refine qb (k:=k+101) (fl:=.ret (.obj HG.length)) (cs:=qZ) (p:="books") (loc':=l2) G (B8 _) x6 (λj hj=>?_) (by decide) (by w_on) (λx S=>GF _ _ _) ?_
 ·exact IZ hj ⟨"old",by w_on⟩ ⟨"new",by w_on⟩ ⟨"anew",by w_on⟩
 ·rw[←ec,←en]
  show dI c (aG n) (k+101) jW ⟨l,Hc⟩ _ _
  generalize eb1:qL jW 2=t2 at f2
  generalize eb2:ky=bf at s3
  generalize eb3:qL jW 4=t4 at rt
  k_dflt refine' ae (σ₁:=⟨l,HA'⟩) s0 (ae (σ₁:=⟨l,HB'⟩) s1 (ae (σ₁:=⟨l,HD⟩) ?_ (ae (σ₁:=⟨l2,HE⟩) ?_ (bx ?_))))
  all_goals try subst eb1
  all_goals try subst eb2
  all_goals try subst eb3
  exact f2
  exact s3
  exact rt
end
theorem aW.eqPairs(r:aW c A F ρ σ s env){A':Around}(hu:A'.units<cLine)(hu1:A'.in1.units<cLine){ps:List (Str×Str)}(hi:cT σ.H i ps)(hj:cT σ.H j ps):SeqAt.EqAt A' s (.ref (ρ i)) (.ref (ρ j)) true:=by
 by_cases h:ρ i=ρ j
 ·rw[h];exact SeqAt.EqAt.same _
 ·refine bp λGz kz=>?_
  refine ah hi λjs j1 j2=>?_
  refine ah hj λus u1 u2=>?_
  refine br (r.list j1) λits g1 g2 _=>?_
  refine br (r.list u1) λits' g1' g2' _=>?_
  refine kz ?_
  have e1:=fQ g2
  have e2:=fQ g2'
  subst e1 e2
  have z:=SeqAt.RcAt.lists (A:=A') (s:=s) (e:= λ_=>true) g1 g1' (by simp[j2.1,u2.1]) hu (λm h1 h2=>by
   have m1:m<js.length:=by simpa using h1
   have m2:m<us.length:=by simpa using h2
   have q1:m<ps.length:=by rw[←j2.1];exact m1
   have x1:=j2.2 m js[m] ps[m] (zG m1) (zG q1)
   have x2:=u2.2 m us[m] ps[m] (zG m2) (zG q1)
   have w:=r.eqPair (A':=A'.in1) hu1 x1 x2
   rw[decide_eq_true rfl]at w
   simpa using w)
  have e:((ZG (⟨js.map λj=>Value.ref (ρ j)⟩:Array Value).size).all λ_=>true)=true:=by simp
  rw[e]at z
  exact SeqAt.EqAt.of_refs h z
theorem aW.eqStrs(r:aW c A F ρ σ s env){A':Around}(hu:A'.units<cLine)(hi:σ.H[i]?=some (.list (xs.map .str)))(hj:σ.H[j]?=some (.list (xs.map .str))):SeqAt.EqAt A' s (.ref (ρ i)) (.ref (ρ j)) true:=by
 by_cases h:ρ i=ρ j
 ·rw[h];exact SeqAt.EqAt.same _
 ·refine bp λGz kz=>?_
  refine br (r.list hi) λits g1 g2 _=>?_
  refine br (r.list hj) λits' g1' g2' _=>?_
  refine ah (hO g2) λts z0 e1=>?_;subst z0
  refine ah (hO g2') λus z0 e2=>?_;subst z0
  refine kz ?_
  have l1:ts.length=xs.length:=by rw[←e1];simp
  have l2:us.length=xs.length:=by rw[←e2];simp
  have z:=SeqAt.RcAt.lists (A:=A') (s:=s) (e:= λ_=>true) g1 g1' (by simp[l1,l2]) hu (λm h1 h2=>by
   have m1:m<ts.length:=by simpa using h1
   have m2:m<us.length:=by simpa using h2
   have m3:m<xs.length:=by rw[←l1];exact m1
   have x1:ts[m].1=xs[m]:=by simp[←e1]
   have x2:us[m].1=xs[m]:=by
    have:(us.map (·.1))[m]?=xs[m]?:=by rw[e2]
    rw[ZK,zG m2,zG m3]at this
    simpa using this
   have w:SeqAt.EqAt A'.in1 s (.str ts[m].1 ts[m].2) (.str us[m].1 us[m].2) (ts[m].1==us[m].1):=jM
   rw[x1,x2,beq_self_eq_true]at w
   simpa[x1,x2]using w)
  have e:((ZG (⟨ts.map λp=>Value.str p.1 p.2⟩:Array Value).size).all λ_=>true)=true:=by simp
  rw[e]at z
  exact SeqAt.EqAt.of_refs h z
theorem ut{M M' U' B':Nat}{p1 p2:List (Str×Str)}(hi:σ.H[i]?=some (.list [.obj M,.obj U,.obj B]))(hj:σ.H[j]?=some (.list [.obj M',.obj U',.obj B']))(a1:cT σ.H M p1)(a2:cT σ.H U p2)(a3:σ.H[B]?=some (.list (xs.map .str)))(b1:cT σ.H M' p1)(b2:cT σ.H U' p2)(b3:σ.H[B']?=some (.list (xs.map .str))):dz c F k (compareOp .Eq) (.obj i) (.obj j) σ (.bool true) σ:= λA ρ s env Q E a b K r ha hb z=>by
 refine bp λGz kz=>?_
 refine aV ha ?_;clear ha;intro _ z0;subst z0
 refine aV hb ?_;clear hb;intro _ z0;subst z0
 refine br (r.list hi) λits g1 g2 _=>?_
 refine br (r.list hj) λits' g1' g2' _=>?_
 refine kz ?_
 have e1:=fQ (js:=[M,U,B]) g2
 have e2:=fQ (js:=[M',U',B']) g2'
 subst e1 e2
 refine SeqAt.eq_listAt (e:= λ_=>true) g1 g1' rfl K.units (λm h1 h2=>?_) (z ρ s _ r .refl rfl)
 have m3:m<3:=h1
 have K3:A.in1.in1.in1.units<cLine:=by have:=K.2.1;unfold cLine;show A.units+1+1+1<_;lia
 match m,m3 with
 |0,_=>exact r.eqPairs (A':=A.in1) K.units1 K.units2 a1 b1
 |1,_=>exact r.eqPairs (A':=A.in1) K.units1 K.units2 a2 b2
 |2,_=>exact r.eqStrs (A':=A.in1) K.units1 a3 b3
noncomputable def E7:=cV bJ 42
noncomputable def E6:=kr bJ 42
noncomputable def qF:Fs:=⟨E6,[]⟩
theorem iy:qF.scope.kind=.function:=by w_on
theorem FP:dG P 916 E7 E6:=by constructor<;>w_on
theorem Fm(x:Value)(S:Setting):peek (Kx P) S (bindArgs (dw P 916) ⟨[x],[]⟩)=some [(("script":Str),x)]:=by w_on
theorem DF:nsIn (Kx P) mainGlobals ("_law_books":Str)=some (some (.ref 891)):=by w_on
theorem Gw:nsIn (Kx P) mainGlobals ("_law_told":Str)=some (some (.ref 906)):=by w_on
theorem Ix:nsIn (Kx P) mainGlobals ("_law_due":Str)=some (some (.ref 911)):=by w_on
theorem pF{ρ:Nat→Addr}{n:Nat}:∀{vs:List AV}{its:List Value}(m:Nat),cG ρ n vs its→cG ρ n (vs.take m) (its.take m)
 |_,_,0,_=>by simp;exact .nil
 |_,_,m+1,.nil=>by simp;exact .nil
 |_,_,m+1,.cons h t=>by rw[List.take_succ_cons,List.take_succ_cons];exact .cons h (pF m t)
theorem vc(i:Nat)(h:cG ρ n vs its):cG ρ n (vs.take i) (slicePick ⟨its⟩ none (some (i:Int)) none).toList:=by
 rw[slicePick_upto' ⟨its⟩ i]
 simpa using pF i h
theorem yN(kz:∀(sc sc2:Scope)(p1 p2 p3 p4 p5 p6 p7 p8:Pos)(t1:Nat)(a0 a1 a2 a3 a4 a5 a6 a7 a8 a9 a10 a11 a12 a13 a14 a15 a16 a17 a18:Pos)(t2:Nat),(E7=[.Assign [.Name "drawn" p1] (.Call (.Name "_law_books" p2) [.Subscript (.Name "script" p3) (.Slice none (some (.Constant (.int 30) t1 p4)) none p5) p6] [] p7) p8,
  .Return (some (.Compare (.Call (.Name "_law_told" a1) [.ListComp (.Call (.Attribute (.Constant (.str "\n") t2 a2) "join" a3) [.ListComp (.Call (.Name "join_shlex" a4) [.Name "x" a5] [] a6) [⟨.Name "x" a7,.Name "book" a8,[],0⟩] sc2 a9] [] a10) [⟨.Name "book" a11,.Name "drawn" a12,[],0⟩] sc a13] [] a14) [.Eq] [.Call (.Name "_law_due" a15) [.Name "drawn" a16] [] a17] a18)) a0]∧
  (∀env,eval (.Call (.Attribute (.Constant (.str "\n") t2 a2) "join" a3) [.ListComp (.Call (.Name "join_shlex" a4) [.Name "x" a5] [] a6) [⟨.Name "x" a7,.Name "book" a8,[],0⟩] sc2 a9] [] a10) env=(do
   let ov←eval (.Constant (.str "\n") t2 a2) env
   standAt a3.atName
   let(f,first)←holding [ov] (getMethod ov "join" (gD (.Constant (.str "\n") t2 a2) env))
   callWith a10 f first (backTo a10 (starEach [.ListComp (.Call (.Name "join_shlex" a4) [.Name "x" a5] [] a6) [⟨.Name "x" a7,.Name "book" a8,[],0⟩] sc2 a9] env)) []))∧
  cz qF sc sc []∧cz ⟨sc,[]⟩ sc2 sc2 []∧sc.kind=.function∧sc2.kind=.function∧sc.names.lookup ("book":Str)=some .local∧sc2.names.lookup ("x":Str)=some .local∧sc2.names.lookup ("join_shlex":Str)=some .globalImplicit)→Gz):Gz:=by
 refine kz _ _ _ _ _ _ _ _ _ _ _ _ _ _ _ _ _ _ _ _ _ _ _ _ _ _ _ _ _ _ _ ⟨by k_dflt rfl,λ_=>rfl,cS (by w_on) (by w_on) (by w_on) (by w_on),cS (by w_on) (by w_on) (by w_on) (by w_on),by w_on,by w_on,by w_on,by w_on,by w_on⟩
theorem xq(Jc:c.GoJ){sc2:Scope}(S2:cz ⟨sc,[]⟩ sc2 sc2 [])(hk:sc.kind=.function)(hk2:sc2.kind=.function)(hb:sc.names.lookup ("book":Str)=some .local)(hx:sc2.names.lookup ("x":Str)=some .local)(hj:sc2.names.lookup ("join_shlex":Str)=some .globalImplicit){a2 a3 a4 a5 a6 a7 a8 a9 a10:Pos}{t2:Nat}
  (he:∀env,eval (.Call (.Attribute (.Constant (.str "\n") t2 a2) "join" a3) [.ListComp (.Call (.Name "join_shlex" a4) [.Name "x" a5] [] a6) [⟨.Name "x" a7,.Name "book" a8,[],0⟩] sc2 a9] [] a10) env=(do
   let ov←eval (.Constant (.str "\n") t2 a2) env
   standAt a3.atName
   let(f,first)←holding [ov] (getMethod ov "join" (gD (.Constant (.str "\n") t2 a2) env))
   callWith a10 f first (backTo a10 (starEach [.ListComp (.Call (.Name "join_shlex" a4) [.Name "x" a5] [] a6) [⟨.Name "x" a7,.Name "book" a8,[],0⟩] sc2 a9] env)) []))
  {rjs:List Nat}{rows:List (List Str)}(hl:l.lookup ("book":Str)=some (.obj T))(R:iQ H T rjs rows)(ok:∀r∈rows,jg r∧r.length≤100)(hz:rows.length<900)(hjo:JoinOk "\n" (rows.map aS)=true):
  Ev c ⟨sc,[]⟩ (k+102) (.Call (.Attribute (.Constant (.str "\n") t2 a2) "join" a3) [.ListComp (.Call (.Name "join_shlex" a4) [.Name "x" a5] [] a6) [⟨.Name "x" a7,.Name "book" a8,[],0⟩] sc2 a9] [] a10) ⟨l,H⟩ (.str (aI rows)) ⟨l,H++[AO.list ((rows.map aS).map .str)]⟩:=by
 have G:=Jc.go
 have ki:(Fs.mk sc []).scope.kind=.function:=hk
 have kj:(Fs.mk sc2 []).scope.kind=.function:=hk2
 have tl:=aq R.t
 obtain⟨l',cl⟩:=vi (k:=k) (F:=⟨sc2,[]⟩) (gens:=[⟨.Name "x" a7,.Name "book" a8,[],0⟩]) (sc:=sc2) (pos:=a9) (p1:=a4) (p2:=a5) (p3:=a6) (T:=T) (J:=H.length) (js0:=rjs) Jc kj hx hj rfl (by lia) (by rw[R.l];exact hz) rows rjs [] 0 [] (H++[AO.list []]) ok (aB R.t) aO rfl R.l (λi j r h1 h2=>⟨aB (R.r i j r h1 h2),by have:=aq (R.r i j r h1 h2);lia⟩) rfl
 have e:(H++[AO.list []]).set H.length (.list (([]++rows.map aS).map .str))=H++[AO.list ((rows.map aS).map .str)]:=by
  rw[Zn _ _ (ZA _),ZY];rfl
 rw[e]at cl
 have ev:=fV (F:=⟨sc,[]⟩) (k:=k+102) (σ:=⟨l,H⟩) (σ₁:=⟨l,H⟩) (I:=aQ T (rjs.map .obj)) (loc':=l') (H':=H++[AO.list ((rows.map aS).map .str)]) (a:=.obj T) (rest:=[]) G.ok az S2 (λ_ _=>rfl) (aa (pos:=a8) ki hb hl) (d6 R.t) R.t (by simp) @cl
 exact d9 he bn (zX PySem.F.slot_str_join PySem.F.type_str_join) (af λ_=>rfl) (am (λ_=>rfl) ev au) (AY (σ:=⟨l,H++[AO.list ((rows.map aS).map .str)]⟩) aO hjo)
theorem BC(Jc:c.GoJ){sc2:Scope}(S1:cz qF sc sc [])(S2:cz ⟨sc,[]⟩ sc2 sc2 [])(hk:sc.kind=.function)(hk2:sc2.kind=.function)(hb:sc.names.lookup ("book":Str)=some .local)(hx:sc2.names.lookup ("x":Str)=some .local)(hj:sc2.names.lookup ("join_shlex":Str)=some .globalImplicit){a2 a3 a4 a5 a6 a7 a8 a9 a10 a11 a12 a13:Pos}{t2:Nat}
  (he:∀env,eval (.Call (.Attribute (.Constant (.str "\n") t2 a2) "join" a3) [.ListComp (.Call (.Name "join_shlex" a4) [.Name "x" a5] [] a6) [⟨.Name "x" a7,.Name "book" a8,[],0⟩] sc2 a9] [] a10) env=(do
   let ov←eval (.Constant (.str "\n") t2 a2) env
   standAt a3.atName
   let(f,first)←holding [ov] (getMethod ov "join" (gD (.Constant (.str "\n") t2 a2) env))
   callWith a10 f first (backTo a10 (starEach [.ListComp (.Call (.Name "join_shlex" a4) [.Name "x" a5] [] a6) [⟨.Name "x" a7,.Name "book" a8,[],0⟩] sc2 a9] env)) []))
  {BK T0 T1:Nat}{r0 r1:List Nat}{rn:List (List Str)}(hl:l.lookup ("drawn":Str)=some (.obj BK))(hB:H[BK]?=some (.list [.obj T0,.obj T1]))(R0:iQ H T0 r0 ro)(R1:iQ H T1 r1 rn)(ok0:∀r∈ro,jg r∧r.length≤100)(ok1:∀r∈rn,jg r∧r.length≤100)(z0:ro.length<900)(z1:rn.length<900)(j0:JoinOk "\n" (ro.map aS)=true)(j1:JoinOk "\n" (rn.map aS)=true):
  ∃H',Ev c qF (k+102) (.ListComp (.Call (.Attribute (.Constant (.str "\n") t2 a2) "join" a3) [.ListComp (.Call (.Name "join_shlex" a4) [.Name "x" a5] [] a6) [⟨.Name "x" a7,.Name "book" a8,[],0⟩] sc2 a9] [] a10) [⟨.Name "book" a11,.Name "drawn" a12,[],0⟩] sc a13) ⟨l,H⟩ (.obj H.length) ⟨l,H'⟩∧H'[H.length]?=some (.list [.str (aI ro),.str (aI rn)])∧bW H H':=by
 have G:=Jc.go
 have ki:(Fs.mk sc []).scope.kind=.function:=hk
 refine bp λGz kz=>?_
 refine bb (H++[AO.list []]) λHa ea=>?_
 have xa:bW H Ha:= λy o h=>by rw[ea];exact aB h
 have la:Ha[H.length]?=some (.list []):=by rw[ea];exact aO
 refine bb (Ha++[AO.list ((ro.map aS).map .str)]) λHb eb=>?_
 have xb:bW Ha Hb:= λy o h=>by rw[eb];exact aB h
 refine bb (Hb.set H.length (.list [.str (aI ro)])) λHc ec=>?_
 have xc:∀(y:Nat)(o:AO),H[y]?=some o→Hc[y]?=some o:= λy o h=>by rw[ec];exact ak (xb _ _ (xa _ _ h)) (by have:=aq h;lia)
 have lc:Hc[H.length]?=some (.list [.str (aI ro)]):=by rw[ec];exact bF (aq (xb _ _ la))
 refine bb (Hc++[AO.list ((rn.map aS).map .str)]) λHd ed=>?_
 have xd:bW Hc Hd:= λy o h=>by rw[ed];exact aB h
 refine bb (Hd.set H.length (.list [.str (aI ro),.str (aI rn)])) λHe ee=>?_
 refine kz ?_
 have xe:∀(y:Nat)(o:AO),H[y]?=some o→He[y]?=some o:= λy o h=>by rw[ee];exact ak (xd _ _ (xc y o h)) (by have:=aq h;lia)
 have le:He[H.length]?=some (.list [.str (aI ro),.str (aI rn)]):=by rw[ee];exact bF (aq (xd _ _ lc))
 let l1:List (Str×AV):=aR ("book":Str) (.obj T0) []
 let l2:List (Str×AV):=aR ("book":Str) (.obj T1) l1
 have e1:=xq (k:=k) (H:=Ha) (l:=l1) Jc S2 hk hk2 hb hx hj he (aj _ _ _) (R0.keep λy o _ h=>xa y o h) ok0 z0 j0
 have e2:=xq (k:=k) (H:=Hc) (l:=l2) Jc S2 hk hk2 hb hx hj he (aj _ _ _) (R1.keep λy o _ h=>xc y o h) ok1 z1 j1
 rw[←eb]at e1
 rw[←ed]at e2
 have c3:CL c ⟨sc,[]⟩ (k+102) (.Call (.Attribute (.Constant (.str "\n") t2 a2) "join" a3) [.ListComp (.Call (.Name "join_shlex" a4) [.Name "x" a5] [] a6) [⟨.Name "x" a7,.Name "book" a8,[],0⟩] sc2 a9] [] a10) [⟨.Name "book" a11,.Name "drawn" a12,[],0⟩] sc a13 0 (aQ BK [.obj T0,.obj T1]) H.length 2 ⟨l2,He⟩ ⟨l2,He⟩:=im (σ:=⟨l2,He⟩) (I:=aQ BK [.obj T0,.obj T1]) az rfl rfl (λ_ _=>rfl) (by lia) (xe _ _ hB) rfl
 have c2:CL c ⟨sc,[]⟩ (k+102) (.Call (.Attribute (.Constant (.str "\n") t2 a2) "join" a3) [.ListComp (.Call (.Name "join_shlex" a4) [.Name "x" a5] [] a6) [⟨.Name "x" a7,.Name "book" a8,[],0⟩] sc2 a9] [] a10) [⟨.Name "book" a11,.Name "drawn" a12,[],0⟩] sc a13 0 (aQ BK [.obj T0,.obj T1]) H.length 1 ⟨l1,Hc⟩ ⟨l2,He⟩:=
  fL (a:=.obj T1) (v:=.str (aI rn)) (σ:=⟨l1,Hc⟩) (σ₁:=⟨l2,Hc⟩) (σ₂:=⟨l2,Hc⟩) (σ₃:=⟨l2,Hd⟩) (acc:=[.str (aI ro)]) (I:=aQ BK [.obj T0,.obj T1]) G.ok az rfl rfl (λ_ _=>rfl) (xc _ _ hB) rfl (bg ki hb) jP e2 (xd _ _ lc) (by simp) (by
   show CL _ _ _ _ _ _ _ _ _ _ _ ⟨l2,Hd.set H.length (.list ([.str (aI ro)]++[.str (aI rn)]))⟩ _
   rw(config:={}) [show Hd.set H.length (.list ([.str (aI ro)]++[.str (aI rn)]))=He from ee.symm]
   exact @c3)
 have c1:CL c ⟨sc,[]⟩ (k+102) (.Call (.Attribute (.Constant (.str "\n") t2 a2) "join" a3) [.ListComp (.Call (.Name "join_shlex" a4) [.Name "x" a5] [] a6) [⟨.Name "x" a7,.Name "book" a8,[],0⟩] sc2 a9] [] a10) [⟨.Name "book" a11,.Name "drawn" a12,[],0⟩] sc a13 0 (aQ BK [.obj T0,.obj T1]) H.length 0 ⟨[],Ha⟩ ⟨l2,He⟩:=
  fL (a:=.obj T0) (v:=.str (aI ro)) (σ:=⟨[],Ha⟩) (σ₁:=⟨l1,Ha⟩) (σ₂:=⟨l1,Ha⟩) (σ₃:=⟨l1,Hb⟩) (acc:=[]) (I:=aQ BK [.obj T0,.obj T1]) G.ok az rfl rfl (λ_ _=>rfl) (xa _ _ hB) rfl (bg ki hb) jP e1 (xb _ _ la) (by simp) (by
   show CL _ _ _ _ _ _ _ _ _ _ _ ⟨l1,Hb.set H.length (.list ([]++[.str (aI ro)]))⟩ _
   rw(config:={}) [show Hb.set H.length (.list ([]++[.str (aI ro)]))=Hc from ec.symm]
   exact @c2)
 have ev:=fV (F:=qF) (k:=k+102) (σ:=⟨l,H⟩) (σ₁:=⟨l,H⟩) (I:=aQ BK [.obj T0,.obj T1]) (loc':=l2) (H':=He) (a:=.obj BK) (rest:=[]) G.ok az S1 (λ_ _=>rfl) (aa (pos:=a12) iy rfl hl) (d6 hB) hB (aq le) (by
  show CL _ _ _ _ _ _ _ _ _ _ _ ⟨[],H++[AO.list []]⟩ _
  rw(config:={}) [←ea];exact @c1)
 exact bO He ev le xe
structure IR(ro:List (List Str))(nd:Nat→List Nat)(so sn:List (Str×Str))(r:List Nat)(z1 zs:List Str):Prop where
 B0:ja ro
 B1:ja (bM nd)
 k0:∀r∈ro,r.length≤100
 k1:∀r∈bM nd,r.length≤100
 j0:JoinOk "\n" (ro.map aS)=true
 j1:JoinOk "\n" ((bM nd).map aS)=true
 n0:ro.length<64
 S0:fk (bT ro) so
 S1:fk (bT (bM nd)) sn
 ao:um so
 an:um sn
 zo:so.length≤64
 zn:sn.length<64
 zl:(cM so sn).1.length+(cM so sn).2.length<900
 hp:∀i,i<5→(nd i).length≤4∧∀p∈nd i,p<5
 su:∀i∈(ic nd).ord,∀q∈(ic nd).su i,i<q∧q∈(ic nd).ord
 sz:∀i,((ic nd).su i).length≤100
 h0:(dS (ic nd).np (ic nd).ord).length<100
 rn:kJ (ic nd).su (ic nd).ord (((cM so sn).1++(cM so sn).2).map (·.1)) sn (ic nd).np (dS (ic nd).np (ic nd).ord) [] r
 rl:r.length<64
 hs:iO (r.map nm) zs
 d0:iO ((ro.filter λr=>qh so sn (tI r)).map tI) z1
 dn:vB (bM nd) 5 z1 zs
 l1:(cM so sn).1=so.filter (gO sn)
 l2:(cM so sn).2=sn.filter (gO so)
theorem s8{nm':Nat}{a:Nat→Nat}{js:Nat→Nat→Nat}(b:dm H bk nm' a js rows)(hk:k<2):iQ H (a k) ((ZG 5).map (js k)) ((ZG 5).map (rows k)):=by
 refine⟨by rw[b.l k hk,Zr];rfl,by simp,λi j r h1 h2=>?_⟩
 have hi:i<5:=by have:=aq h1;simpa using this
 rw[ZK,List.getElem?_range hi]at h1 h2
 cases h1;cases h2
 exact b.r k hk i hi
theorem vL(L:List (Str×Str))(f g:Str×Str→Bool)(h:L.Pairwise λx y=>j7 x y=true∧j7 y x=false)(irr:∀x∈L,j7 x x=false):cM (L.filter f) (L.filter g)=(L.filter (λx=>f x&&!g x),L.filter (λx=>g x&&!f x)):=by
 induction L with
 |nil=>exact dK (.inl rfl)
 |cons x L ih=>
  refine aV (Zs.mp h) λh1 h2=>?_
  have ih':=ih h2 λy hy=>irr y (.tail _ hy)
  have ix:=irr x (.head _)
  have none_of:∀{p:Str×Str→Bool},L.filter p=[]→∀y∈L,p y=false:= λ{p} e y hy=>by
   by_cases q:p y=true
   ·have:y∈L.filter p:=ZQ.mpr ⟨hy,q⟩
    rw[e]at this;cases this
   ·simpa using q
  cases hf:f x<;>cases hg:g x
  ·simp only[Zb,hf,hg];simpa using ih'
  ·-- only in the second
   simp only[Zb,hf,hg]
   simp only[Zy,if_false,if_true,Bool.not_false,Bool.and_true,Bool.not_true,Bool.and_false]
   cases eA:L.filter f with
   |nil=>
    have nf:=none_of eA
    rw[dK (.inl rfl)]
    have e1:L.filter (λx=>f x&&!g x)=[]:=List.filter_eq_nil_iff.mpr λy hy=>by simp[nf y hy]
    have e2:L.filter (λx=>g x&&!f x)=L.filter g:=Zm λy hy=>by simp[nf y hy]
    rw[e1,e2]
   |cons y A=>
    have hy:y∈L:=(ZQ.mp (by rw[eA];exact .head _)).1
    rw[rP (h1 y hy).2 (h1 y hy).1,←eA,ih']
  ·simp only[Zb,hf,hg]
   simp only[Zy,if_false,if_true,Bool.not_false,Bool.and_true,Bool.not_true,Bool.and_false]
   cases eB:L.filter g with
   |nil=>
    have ng:=none_of eB
    rw[dK (.inr rfl)]
    have e1:L.filter (λx=>g x&&!f x)=[]:=List.filter_eq_nil_iff.mpr λy hy=>by simp[ng y hy]
    have e2:L.filter (λx=>f x&&!g x)=L.filter f:=Zm λy hy=>by simp[ng y hy]
    rw[e1,e2]
   |cons y B=>
    have hy:y∈L:=(ZQ.mp (by rw[eB];exact .head _)).1
    rw[qD (h1 y hy).1,←eB,ih']
  ·simp only[Zb,hf,hg]
   simp only[if_true,Bool.not_true,Bool.and_false,Zy,if_false]
   rw[qG ix ix]
   exact ih'
noncomputable def ES(i:Nat):Str×Str:=Gc (Bs.getD i (0,0))
noncomputable def qO:List (Str×Str):=iE.map ES
theorem xE:qO.Pairwise λx y=>j7 x y=true∧j7 y x=false:=by decide+kernel
theorem zQ:∀x∈qO,j7 x x=false:=by decide+kernel
theorem F7:∀i,i<10→∀j,j<10→j7 (ES i) (ES j)=decide (rk i<rk j):=by decide+kernel
theorem jR{f g:Nat→Nat→Bool}(h:∀i j,i<n→j<n→f i j=g i j):∀(t:KasT α),cY n f t=cY n g t:=by
 intro t
 induction t with
 |ret a=>rfl
 |ask i j k ih=>
  show(if i<n∧j<n then cY n f (k (f i j))else none)=if i<n∧j<n then cY n g (k (g i j))else none
  by_cases q:i<n∧j<n
  ·rw[if_pos q,if_pos q,h i j q.1 q.2]
   exact ih _
  ·rw[if_neg q,if_neg q]
noncomputable def Ac(ids:List Nat)(out:List Nat):Bool:=match cY ids.length (λi j=>decide (rk (ids.getD i 0)<rk (ids.getD j 0))) (kas_sort ids.length)with
 |some p=>p.toList.all (· <ids.length)&&(p.toList.map λi=>ids.getD i 0)==out
 |none=>false
theorem zp:∀b∈cg 10,((fP b).length<2&&(iE.filter λi=>b.getD i false)==fP b)||Ac (fP b) (iE.filter λi=>b.getD i false)=true:=by decide+kernel
theorem lM{l:List Nat}(h:i<l.length):l.getD i 0∈l:=by
 rw[show l.getD i 0=l[i]by simp[h]];exact List.getElem_mem h
theorem vp:∀b∈cg 10,((fP b).length<2→(iE.filter λi=>b.getD i false)=fP b):=by decide+kernel
noncomputable def SB(b:List Bool):List (Str×Str):=(iE.filter λi=>b.getD i false).map ES
theorem AW(b:List Bool):∀i∈fP b,i<10:= λi hi=>ZP.mp (ZQ.mp hi).1
theorem lb{b:List Bool}(hb:b∈cg 10):fk ((fP b).map ES) (SB b):=by
 refine⟨λh=>?_,λh=>?_⟩
 ·rw[ZS]at h
  unfold SB
  rw[vp b hb h]
 ·rw[ZS]at h ⊢
  have z:=zp b hb
  have e:decide ((fP b).length<2)=false:=by simpa using h
  simp only[e,Bool.false_and,Bool.false_or]at z
  have z:Ac (fP b) (iE.filter λi=>b.getD i false)=true:=by simpa[e]using z
  unfold Ac at z
  split at z
  ·rename_i p hp
   rw[Z3,ZF]at z
   refine aV z λz1 z2=>?_
   have z1':∀i∈p.toList,i<(fP b).length:= λi hi=>by simpa using z1 i hi
   refine bO p ?_ z1' ?_
   ·rw[←hp]
    refine jR (λi j hi hj=>?_) _
    have g:∀i,i<(fP b).length→((fP b).map ES).getD i ("","")=ES ((fP b).getD i 0):= λi hi=>by simp[hi]
    rw[g i hi,g j hj]
    refine F7 _ (AW b _ ?_) _ (AW b _ ?_)
    ·exact lM hi
    ·exact lM hj
   ·unfold SB
    have z2':(p.toList.map λi=>(fP b).getD i 0)=iE.filter λi=>b.getD i false:=by simpa using z2
    rw[←z2',Zr]
    refine ZO λi hi=>?_
    simp[z1' i hi]
  ·cases z
noncomputable def Cr(b:List Bool)(i:Nat):List Str:=gy i ((ZG i).map λj=>b.getD (i*(i - 1)/2+j) false)
noncomputable def fu(b:List Bool)(i:Nat):List Nat:=(ZG i).filter λj=>b.getD (i*(i - 1)/2+j) false
theorem v9:∀b∈cg 10,(ZG 5).map (Cr b)=bM (fu b):=by decide+kernel
theorem nM:∀b∈cg 10,bT (bM (fu b))=(fP b).map ES:=by decide+kernel
noncomputable def IW(i:Nat):Nat:=[1,2,4,3,0].getD i 0
theorem Ic:∀i,i<5→∀j,j<5→AK (nm i) (nm j)=decide (IW i<IW j):=by decide+kernel
noncomputable def lv(r:List Nat):List Nat:=[4,0,1,3,2].filter λi=>r.contains i
noncomputable def Fd(ids out:List Nat):Bool:=match cY ids.length (λi j=>decide (IW (ids.getD i 0)<IW (ids.getD j 0))) (kas_sort ids.length)with
 |some p=>p.toList.all (· <ids.length)&&(p.toList.map λi=>ids.getD i 0)==out
 |none=>false
noncomputable def BN:Nat→List (List Nat)
 |0=>[[]]
 |n+1=>(BN n).flatMap λl=>[0,1,2,3,4].map λx=>x::l
theorem tq:∀(r:List Nat),(∀x∈r,x<5)→r∈BN r.length
 | [],_=>by simp[BN]
 |x::r,h=>by
  have ih:=tq r λy hy=>h y (.tail _ hy)
  have hx:=h x (.head _)
  simp only[BN,Zk,List.mem_flatMap,ZR]
  refine uC r ih x ?_ rfl
  have:x=0∨x=1∨x=2∨x=3∨x=4:=by lia
  rcases this with rfl|rfl|rfl|rfl|rfl<;>simp
theorem A0:∀n∈ZG 6,∀r∈BN n,r.Nodup→(if r.length<2 then lv r==r else Fd r (lv r))=true:=by decide+kernel
theorem nP{r:List Nat}(h5:∀x∈r,x<5)(hn:r.Nodup):iO (r.map nm) ((lv r).map nm):=by
 have l5:=jo 5 r hn h5
 have z:=A0 r.length (ZP.mpr (by lia)) r (tq r h5) hn
 by_cases h:r.length<2
 ·rw[if_pos h]at z
  refine .inl ⟨by simpa using h,?_⟩
  rw[show lv r=r by simpa using z]
 ·rw[if_neg h]at z
  refine .inr ⟨by simp;lia,?_⟩
  unfold Fd at z
  split at z
  ·rename_i p hp
   rw[Z3,ZF]at z
   refine aV z λz1 z2=>?_
   have z1':∀i∈p.toList,i<r.length:= λi hi=>by simpa using z1 i hi
   rw[ZS]
   refine bO p ?_ z1' ?_
   ·rw[←hp]
    refine jR (λi j hi hj=>?_) _
    have g:∀i,i<r.length→(r.map nm).getD i ("":Str)=nm (r.getD i 0):= λi hi=>by simp[hi]
    rw[g i hi,g j hj]
    refine Ic _ (h5 _ ?_) _ (h5 _ ?_)
    ·exact lM hi
    ·exact lM hj
   ·have z2':(p.toList.map λi=>r.getD i 0)=lv r:=by simpa using z2
    rw[←z2',Zr]
    refine ZO λi hi=>?_
    simp[z1' i hi]
  ·cases z
theorem EQ(b:List Bool)(hi:i<5):jg (Cr b i):=zg hi (by simp)
theorem jF{b:List Bool}(hb:b∈cg 10):∀r∈bM (fu b),jg r∧r.length≤100∧r≠[]:=by
 rw[←v9 b hb]
 intro r hr
 refine ah (ZR.mp hr) λi hi z0=>?_;subst z0
 have hi':=ZP.mp hi
 refine⟨EQ b hi',?_,by unfold Cr gy;simp⟩
 unfold Cr gy
 have:(((names.take i).zip ((ZG i).map λj=>b.getD (i*(i - 1)/2+j) false)).filterMap λp=>if p.2 then some p.1 else none).length≤i:=by
  refine Z2 (List.length_filterMap_le _ _) ?_
  simp;lia
 simp only[Zk]
 lia
theorem zd:∀(l:List Nat),(∀x∈l,x≤1000)→l.sum≤1000*l.length
 | [],_=>by simp
 |x::l,h=>by
  have:=zd l λy hy=>h y (.tail _ hy)
  have:=h x (.head _)
  simp only[List.sum_cons,Zk]
  lia
theorem zE(b:List Bool)(hb:b∈cg 10):(aI (bM (fu b))).length≤6000:=by
 unfold aI Txt.join
 rw[StrLaws.glued_eq_join]
 refine Z2 (StrLaws.join_length_le _ _) ?_
 have l5:(bM (fu b)).length=5:=by unfold bM;simp
 have s:=zd (((bM (fu b)).map aS).map (·.length)) λx hx=>by
  refine ah (ZR.mp hx) λt ht z0=>?_;subst z0
  refine ah (ZR.mp ht) λr hr z0=>?_;subst z0
  exact Nat.le_of_lt (jF hb r hr).1.len
 simp only[ZS,l5]at s ⊢
 have:("\n":Str).length=1:=by decide+kernel
 lia
theorem wA:∀b∈cg 10,JoinOk "\n" ((bM (fu b)).map aS)=true:=by decide+kernel
theorem yU(b:List Bool):(fP b).length≤10:=by
 unfold fP
 refine Z2 (Zc _ _) ?_
 simp
theorem Ba{b:List Bool}(hb:b∈cg 10):ja (bM (fu b)):=by
 have hr:=jF hb
 have ne:bM (fu b)≠[]:=by unfold bM;simp[List.range_succ]
 have l5:(bM (fu b)).length=5:=by unfold bM;simp
 refine⟨ne,λr h=>(hr r h).1,by lia,Z2 (zE b hb) (by unfold sizeLine;decide),?_,λr h=>⟨(hr r h).2.2,by have:=(hr r h).2.1;lia⟩,by rw[nM b hb,ZS];have:=yU b;lia⟩
 have z:=ow ne λr h=>(hr r h).1
 have zl:(Txt.split (aI (bM (fu b))) "\n").length=5:=by rw[z,ZS,l5]
 unfold Txt.split at zl
 split at zl
 ·simp at zl
 ·split at zl
  ·simp at zl
  ·rw[zl];unfold sizeLine;decide
theorem EU(b:List Bool):∀i,i<5→(fu b i).length≤4∧∀p∈fu b i,p<5:= λi hi=>by
 unfold fu
 refine⟨Z2 (Zc _ _) (by simp;lia),λp hp=>?_⟩
 have:=ZP.mp (ZQ.mp hp).1
 lia
theorem Fw(nd:Nat→List Nat)(h:∀i,i<5→(nd i).length≤4)(p:Nat):((ic nd).su p).length≤100:=by
 unfold ic zC
 simp only[Zv,List.foldl_nil]
 have a4:=jK Dp 4 (nd 4) p
 have a3:=jK (fz Dp 4 (nd 4)) 3 (nd 3) p
 have a2:=jK (fz (fz Dp 4 (nd 4)) 3 (nd 3)) 2 (nd 2) p
 have a1:=jK (fz (fz (fz Dp 4 (nd 4)) 3 (nd 3)) 2 (nd 2)) 1 (nd 1) p
 have a0:=jK (fz (fz (fz (fz Dp 4 (nd 4)) 3 (nd 3)) 2 (nd 2)) 1 (nd 1)) 0 (nd 0) p
 have h0:=h 0 (by decide)
 have h1:=h 1 (by decide)
 have h2:=h 2 (by decide)
 have h3:=h 3 (by decide)
 have h4:=h 4 (by decide)
 have g0:(Dp.su p).length=0:=rfl
 lia
theorem F9:∀b∈cg 10,((ic (fu b)).ord.all λi=>((ic (fu b)).su i).all λq=>decide (i<q)&&(ic (fu b)).ord.contains q)=true:=by decide+kernel
theorem HN{b:List Bool}(hb:b∈cg 10):∀i∈(ic (fu b)).ord,∀q∈(ic (fu b)).su i,i<q∧q∈(ic (fu b)).ord:= λi hi q hq=>by
 have z:=ZF.mp (ZF.mp (F9 b hb) i hi) q hq
 simpa using z
theorem Dr:∀b∈cg 10,(ic (fu b)).ord.length=5:=by decide+kernel
theorem za{b:List Bool}(hb:b∈cg 10):(dS (ic (fu b)).np (ic (fu b)).ord).length<100:=by
 unfold dS
 have:=Zc (λi=>(ic (fu b)).np i==0) (ic (fu b)).ord
 have:=Dr b hb
 lia
theorem Gf{L:List (Str×Str)}(h:L.Pairwise λx y=>j7 x y=true∧j7 y x=false):um L:= λi x y hx hy e=>by
 subst e
 have il:=aq hx
 have jl:=aq hy
 have z:=List.pairwise_iff_getElem.mp h i (i+1) il jl (by lia)
 rw[zG il]at hx
 rw[zG jl]at hy
 rw[Option.some.inj hx,Option.some.inj hy]at z
 rw[z.1]at z
 exact absurd z.2 (by decide)
noncomputable def uN(b:List Bool)(x:Str×Str):Bool:=(SB b).contains x
theorem gR:∀b∈cg 10,SB b=qO.filter (uN b):=by decide+kernel
theorem AH(b:List Bool):(SB b).length≤10:=by
 unfold SB
 rw[ZS]
 exact Z2 (Zc _ _) (by decide)
theorem Cb{b:List Bool}(hb:b∈cg 10):um (SB b):=by
 rw[gR b hb]
 exact Gf (xE.filter _)
theorem Bk(h0:b0∈cg 10)(h1:b1∈cg 10):(cM (SB b0) (SB b1)).1=(SB b0).filter (gO (SB b1))∧(cM (SB b0) (SB b1)).2=(SB b1).filter (gO (SB b0)):=by
 have z:=vL qO (uN b0) (uN b1) xE zQ
 rw[←gR b0 h0,←gR b1 h1]at z
 rw[z]
 constructor
 ·show qO.filter (λx=>uN b0 x&&!uN b1 x)=_
  conv=>rhs;rw[gR b0 h0]
  rw[List.filter_filter]
  refine Zm λx _=>?_
  show(uN b0 x&&!uN b1 x)=(!(SB b1).contains x&&uN b0 x)
  rw[Bool.and_comm];rfl
 ·show qO.filter (λx=>uN b1 x&&!uN b0 x)=_
  conv=>rhs;rw[gR b1 h1]
  rw[List.filter_filter]
  refine Zm λx _=>?_
  show(uN b1 x&&!uN b0 x)=(!(SB b0).contains x&&uN b1 x)
  rw[Bool.and_comm];rfl
noncomputable def rJ(C:Nat→Bool)(nd:Nat→List Nat)(an:List Nat)(i:Nat):List Nat:=if C i||(nd i).any an.contains then an++[i]else an
noncomputable def G8(nd:Nat→List Nat)(A:List Nat):List Nat:=[4,0,1,3,2].filter λi=>A.contains i||(nd i).any A.contains
noncomputable def tn(C:Nat→Bool)(nd:Nat→List Nat):Nat→Nat→Bool
 |0,i=>C i
 |m+1,i=>C i||(nd i).any (tn C nd m)
theorem w7{C:Nat→Bool}{nd:Nat→List Nat}:∀(m i:Nat),tn C nd m i=true→tn C nd (m+1) i=true
 |0,i,h=>by
  have h:C i=true:=h
  show(C i||_)=true
  rw[h];rfl
 |m+1,i,h=>by
  have h:(C i||(nd i).any (tn C nd m))=true:=h
  show(C i||(nd i).any (tn C nd (m+1)))=true
  rcases Bool.or_eq_true_iff.mp h with h|h
  ·rw[h];rfl
  ·refine ah (Z8.mp h) λj hj h=>?_
   rw[Z8.mpr (al j hj (w7 m j h)),Bool.or_true]
theorem jw{l:List Nat}{f g:Nat→Bool}(h:∀x∈l,f x=g x):l.any f=l.any g:=by
 induction l with
 |nil=>rfl
 |cons x l ih=>rw[List.any_cons,List.any_cons,h x (.head _),ih λy hy=>h y (.tail _ hy)]
theorem qd{C:Nat→Bool}{nd:Nat→List Nat}(hn:∀i,∀j∈nd i,j<i):∀(m i:Nat),i≤m→tn C nd (m+1) i=tn C nd m i
 |0,i,h=>by
  have e:i=0:=by lia
  subst e
  show(C 0||(nd 0).any (tn C nd 0))=C 0
  cases q:nd 0 with
  |nil=>simp
  |cons x l=>have:=hn 0 x (by rw[q];exact .head _);lia
 |m+1,i,h=>by
  show(C i||(nd i).any (tn C nd (m+1)))=(C i||(nd i).any (tn C nd m))
  rw[jw λj hj=>qd hn m j (by have:=hn i j hj;lia)]
theorem GU{C:Nat→Bool}(hn:∀i,∀j∈nd i,j<i)(i:Nat)(h:i<5):tn C nd 5 i=(C i||(nd i).any (tn C nd 5)):=by
 show(C i||(nd i).any (tn C nd 4))=_
 rw[jw λj hj=>(qd hn 4 j (by have:=hn i j hj;lia)).symm]
theorem tU(p:Nat→Bool)(h:i<5):([4,0,1,3,2].filter p).contains i=p i:=by
 rw[Zi,ZE,ZQ]
 refine⟨λx=>x.2,λx=>⟨?_,x⟩⟩
 have:i=0∨i=1∨i=2∨i=3∨i=4:=by lia
 rcases this with rfl|rfl|rfl|rfl|rfl<;>decide
theorem m0:∀i∈[4,0,1,3,2],i<5:=by decide
theorem C3{C:Nat→Bool}(hn:∀i,∀j∈nd i,j<i)(m:Nat):G8 nd ([4,0,1,3,2].filter (tn C nd m))=[4,0,1,3,2].filter (tn C nd (m+1)):=by
 unfold G8
 refine Zm λi hi=>?_
 have h5:=m0 i hi
 rw[tU _ h5,jw (g:=tn C nd m) λj hj=>tU _ (by have:=hn i j hj;lia)]
 show(tn C nd m i||(nd i).any (tn C nd m))=(C i||(nd i).any (tn C nd m))
 cases m with
 |zero=>rfl
 |succ m=>
  show((C i||(nd i).any (tn C nd m))||(nd i).any (tn C nd (m+1)))=_
  cases q:(nd i).any (tn C nd m)with
  |false=>simp
  |true=>
   refine ah (Z8.mp q) λj hj h=>?_
   rw[Z8.mpr (al j hj (w7 m j h))];simp
noncomputable def Bm(nd:Nat→List Nat):List Nat→List Nat→Bool
 |_,[]=>true
 |seen,i::r=>(nd i).all seen.contains&&!seen.contains i&&decide (i<5)&&Bm nd (i::seen) r
theorem yG{C:Nat→Bool}(hn:∀i,∀j∈nd i,j<i):∀(o seen an:List Nat),Bm nd seen o=true→(∀x∈seen,an.contains x=tn C nd 5 x)→(∀x∈an,x∈seen)→an.Nodup→(∀x∈seen,x<5)→
  (o.foldl (rJ C nd) an).Nodup∧(∀x,x∈seen∨x∈o→(o.foldl (rJ C nd) an).contains x=tn C nd 5 x)∧∀x∈o.foldl (rJ C nd) an,x<5:=by
 intro o
 induction o with
 |nil=>intro seen an _ h1 h2 h3 h5;exact⟨h3,λx hx=>h1 x (hx.elim id λz=>nomatch z),λx hx=>h5 x (h2 x hx)⟩
 |cons i o ih=>
  intro seen an t h1 h2 h3 h5
  refine aV (ZM.mp t) λz0 t4=>aV (ZM.mp z0) λz1 t3=>aV (ZM.mp z1) λt1 t2=>?_
  have t1:=ZF.mp t1
  have t2:seen.contains i=false:=by cases w:seen.contains i with
   |false=>rfl
   |true=>rw[w]at t2;cases t2
  have t3:=of_decide_eq_true t3
  have hi:i∉seen:= λz=>by rw[ZE.mpr z]at t2;cases t2
  have hia:i∉an:= λz=>hi (h2 i z)
  have e:(C i||(nd i).any an.contains)=tn C nd 5 i:=by
   rw[GU hn i t3,jw λj hj=>h1 j (ZE.mp (t1 j hj))]
  rw[Zv]
  have ea:rJ C nd an i=if tn C nd 5 i=true then an++[i]else an:=by unfold rJ;rw[e]
  refine fv (ih (i::seen) (rJ C nd an i) t4 (λx hx=>by
    rw[ea]
    rcases ZH.mp hx with rfl|hx
    ·cases q:tn C nd 5 x with
     |false=>rw[if_neg (by simp)];cases w:an.contains x with
      |false=>rfl
      |true=>exact absurd (ZE.mp w) hia
     |true=>rw[if_pos rfl];simp
    ·have ne:x≠i:= λz=>hi (z▸hx)
     rw[←h1 x hx]
     split
     ·simp[ne]
     ·rfl) (λx hx=>by
    rw[ea]at hx
    split at hx
    ·rcases ZT.mp hx with hx|hx
     ·exact .tail _ (h2 x hx)
     ·simp at hx;rw[hx];exact .head _
    ·exact .tail _ (h2 x hx)) (by
    rw[ea]
    split
    ·rw[List.nodup_append]
     exact⟨h3,by simp,λa ha b hb=>by simp at hb;rw[hb];exact λz=>hia (z▸ha)⟩
    ·exact h3) (λx hx=>by
    rcases ZH.mp hx with rfl|hx
    ·exact t3
    ·exact h5 x hx)) λg1 g2 g3=>?_
  exact⟨g1,λx hx=>g2 x (hx.elim (λz=>.inl (.tail _ z)) λz=>(ZH.mp z).elim (λw=>.inl (w▸ .head _)) .inr),g3⟩
noncomputable def vK(su:Nat→List Nat):(Nat→Int)×List Nat→List Nat→Bool
 |_,[]=>true
 |s,i::r=>s.1 i== -1&&vK su (oi su s i) r
noncomputable def Gs(su:Nat→List Nat)(ord:List Nat):Nat→(Nat→Int)→List Nat→Option (List Nat)
 |0,_,_=>none
 |m+1,np,rd=>match rd with
  | []=>some []
  |_::_=>
   let s0:=(mU np rd,([]:List Nat))
   let s1:=jZ su s0 rd
   if vK su s0 rd&&decide (rd.length≤5)&&rd.all ord.contains&&decide (s1.2.length<100)then(Gs su ord m s1.1 s1.2).map (rd++ ·)else none
noncomputable def Hy(b:List Bool):Bool:=
 let g:=ic (fu b)
 match Gs g.su g.ord 7 g.np (dS g.np g.ord)with
  |some o=>g.ord.all (· <5)&&Bm (fu b) [] o&&(ZG 5).all o.contains
  |none=>false
theorem Ea:(cg 10).all Hy=true:=by w_on
theorem Bw{rs:List Nat}:∀{s:(Nat→Int)×List Nat},vK su s rs=true→pS su s rs:=by
 induction rs with
 |nil=>intro s _;trivial
 |cons i r ih=>intro s h;exact aV (ZM.mp h) λh1 h2=>⟨eq_of_beq h1,ih h2⟩
theorem yu{C:Nat→Bool}{ch:List Str}(hj:∀(an:List Nat)(i:Nat),(∀x∈an,x∈ord)→i∈ord→uk ch sn an i=rJ C nd an i):
  ∀(m:Nat)(np:Nat→Int)(rd an o:List Nat),(∀x∈an,x∈ord)→an.length+5*m≤90→Gs su ord m np rd=some o→kJ su ord ch sn np rd an (o.foldl (rJ C nd) an):=by
 intro m
 induction m with
 |zero=>intro np rd an r _ _ h;cases h
 |succ m ih=>
  intro np rd an r ha hl h
  cases rd with
  |nil=>have h:=Option.some.inj h;subst h;exact .stop np an
  |cons x xs=>
   ·refine aV (Gi h) λhc h=>aV (ZM.mp hc) λz0 h5=>aV (ZM.mp z0) λz1 h3=>aV (ZM.mp z1) λh1 h2=>?_
    have h5:=of_decide_eq_true h5
    have h2:=of_decide_eq_true h2
    have ho:∀i∈x::xs,i∈ord:= λi hi=>ZE.mp (ZF.mp h3 i hi)
    have fold:∀(l:List Nat)(an:List Nat),(∀i∈l,i∈ord)→(∀x∈an,x∈ord)→l.foldl (uk ch sn) an=l.foldl (rJ C nd) an∧(∀x∈l.foldl (rJ C nd) an,x∈ord)∧(l.foldl (rJ C nd) an).length≤an.length+l.length:=by
     intro l
     induction l with
     |nil=>intro an _ ha;exact⟨rfl,ha,ZA _⟩
     |cons i l ihl=>
      intro an hl ha
      have e:=hj an i ha (hl i (.head _))
      have ha':(∀x∈rJ C nd an i,x∈ord)∧(rJ C nd an i).length≤an.length+1:=by
       unfold rJ
       split
       ·refine⟨λx hx=>?_,by simp⟩
        rcases ZT.mp hx with hx|hx
        ·exact ha x hx
        ·simp at hx;rw[hx];exact hl i (.head _)
       ·exact⟨ha,by lia⟩
      refine fv (ihl (rJ C nd an i) (λj hj=>hl j (.tail _ hj)) ha'.1) λe2 h2 h3=>?_
      exact⟨(congrArg (λz=>l.foldl _ z) e).trans e2,by rw[Zv];exact h2,by rw[Zv,Zk];have:=ha'.2;lia⟩
    refine fv (fold (x::xs) an ho ha) λfe fo fl=>?_
    refine ah (Z5.mp h) λo' q e=>?_
    ·subst e
     refine .go (λh=>nomatch h) (Bw h1) h2 ho (by lia) h5 ?_
     rw[fe,List.foldl_append]
     exact ih _ _ _ o' fo (by lia) q
theorem Fi:∀b∈cg 10,((ZG 5).all λi=>(ZG 5).all λj=>(SB b).contains (nm i,nm j)==(fu b i).contains j)=true:=by decide+kernel
theorem eu{b:List Bool}(hb:b∈cg 10)(hi:i<5)(hj:j<5):(SB b).contains (nm i,nm j)=(fu b i).contains j:=by
 have z:=ZF.mp (ZF.mp (Fi b hb) i (ZP.mpr hi)) j (ZP.mpr hj)
 simpa using z
theorem xj:∀p∈qO,∃i,i<5∧∃j,j<5∧p=(nm i,nm j):=by decide+kernel
theorem Av{b:List Bool}(hb:b∈cg 10)(h:p∈SB b):∃i,i<5∧∃j,j<5∧p=(nm i,nm j)∧(fu b i).contains j=true:=by
 have hA:p∈qO:=by rw[gR b hb]at h;exact(ZQ.mp h).1
 refine bp λGz kz=>?_
 refine om (xj p hA) λi hi j hj e=>?_
 refine kz ?_
 refine⟨i,hi,j,hj,e,?_⟩
 rw[←eu hb hi hj,←e,ZE]
 exact h
noncomputable def wk(b0 b1:List Bool)(i:Nat):Bool:=(ZG 5).any λj=>(fu b0 i).contains j != (fu b1 i).contains j
theorem nG{A:List Nat}(hA:∀x∈A,x<5)(hi:i<5):(A.map nm).contains (nm i)=A.contains i:=by
 rw[Zi,ZE,ZE,ZR]
 exact⟨λ⟨a,ha,e⟩=>kH a (hA a ha) i hi e▸ha,λh=>al i h rfl⟩
theorem Fz(h0:b0∈cg 10)(h1:b1∈cg 10)(hi:i<5):(((cM (SB b0) (SB b1)).1++(cM (SB b0) (SB b1)).2).map (·.1)).contains (nm i)=wk b0 b1 i:=by
 refine aV (Bk h0 h1) λl1 l2=>?_
 rw[l1,l2,Zi,ZE,ZR]
 unfold wk
 rw[Z8]
 constructor
 ·rintro⟨p,hp,e⟩
  have e:p.1=nm i:=e
  rcases ZT.mp hp with hp|hp
  ·refine bp λGz kz=>?_
   refine aV (ZQ.mp hp) λha hb=>?_
   obtain⟨i',hi',j,hj,ep,hc⟩:=Av h0 ha
   refine kz ?_
   have:i'=i:=kH i' hi' i hi (by rw[←e,ep])
   subst this
   refine al j (ZP.mpr hj) ?_
   have hb:(!(SB b1).contains p)=true:=hb
   rw[ep,eu h1 hi hj]at hb
   rw[hc]
   simpa using hb
  ·refine bp λGz kz=>?_
   refine aV (ZQ.mp hp) λha hb=>?_
   obtain⟨i',hi',j,hj,ep,hc⟩:=Av h1 ha
   refine kz ?_
   have:i'=i:=kH i' hi' i hi (by rw[←e,ep])
   subst this
   refine al j (ZP.mpr hj) ?_
   have hb:(!(SB b0).contains p)=true:=hb
   rw[ep,eu h0 hi hj]at hb
   rw[hc]
   simpa using hb
 ·rintro⟨j,hj,hd⟩
  have hj:=ZP.mp hj
  refine al (nm i,nm j) (ZT.mpr ?_) rfl
  have n0:gO (SB b0) (nm i,nm j)= !(fu b0 i).contains j:=by unfold gO;rw[eu h0 hi hj]
  have n1:gO (SB b1) (nm i,nm j)= !(fu b1 i).contains j:=by unfold gO;rw[eu h1 hi hj]
  cases q0:(fu b0 i).contains j with
  |true=>
   rw[q0]at hd
   refine .inl (ZQ.mpr ⟨ZE.mp (by rw[eu h0 hi hj];exact q0),?_⟩)
   rw[n1];simpa using hd
  |false=>
   rw[q0]at hd
   refine .inr (ZQ.mpr ⟨ZE.mp (by rw[eu h1 hi hj];simpa using hd),?_⟩)
   rw[n0,q0];rfl
theorem vI:∀i,i<5→∀j,j<5→((nm i).cps.toList==(nm j).cps.toList)=(i==j):=by decide+kernel
theorem zf(b:List Bool):∀i,∀j∈fu b i,j<i:= λi j h=>by
 unfold fu at h
 exact ZP.mp (ZQ.mp h).1
theorem pE{L:List α}{f:α→Bool}:(!(L.filter f).isEmpty)=true↔∃x∈L,f x=true:=by
 rw[Bool.not_eq_true',←Bool.not_eq_true,List.isEmpty_iff,List.filter_eq_nil_iff]
 simp
theorem Ih(h0:b0∈cg 10)(h1:b1∈cg 10){an:List Nat}(ha:∀x∈an,x<5)(hi:i<5):uk (((cM (SB b0) (SB b1)).1++(cM (SB b0) (SB b1)).2).map (·.1)) (SB b1) an i=rJ (wk b0 b1) (fu b1) an i:=by
 unfold uk rJ
 rw[Fz h0 h1 hi]
 have e:(!((SB b1).filter (mS (SB b1) an i)).isEmpty)=(fu b1 i).any an.contains:=by
  rw[Zi,Z8]
  rw[pE]
  constructor
  ·rintro⟨p,hp,hh⟩
   refine bp λGz kz=>?_
   obtain⟨i',hi',j,hj,ep,hc⟩:=Av h1 hp
   refine kz ?_
   unfold mS at hh
   rw[ep,Z3]at hh
   have e1:=hh.1
   rw[vI i' hi' i hi]at e1
   have:i'=i:=by simpa using e1
   subst this
   have e2:(an.map nm).contains (nm j)=true:=hh.2
   rw[nG ha hj]at e2
   exact al j (ZE.mp hc) e2
  ·rintro⟨j,hj,hc⟩
   have hj5:j<5:=by have:=zf b1 i j hj;lia
   refine al (nm i,nm j) (ZE.mp (by rw[eu h1 hi hj5];exact ZE.mpr hj)) ?_
   unfold mS
   rw[Z3]
   exact⟨by rw[vI i hi i hi];simp,by rw[nG ha hj5];exact hc⟩
 rw[e]
theorem tR{L:List α}{f g:α→Bool}:L.filter f=L.filter g↔∀x∈L,f x=g x:=by
 refine⟨λh x hx=>?_,λh=>Zm h⟩
 rw[Zi]
 constructor
 ·intro q
  have:x∈L.filter g:=h▸ZQ.mpr ⟨hx,q⟩
  exact(ZQ.mp this).2
 ·intro q
  have:x∈L.filter f:=h▸ZQ.mpr ⟨hx,q⟩
  exact(ZQ.mp this).2
theorem Cu:∀i,i<5→∀j,j<i→(nm i,nm j)∈qO:=by decide+kernel
theorem GL(h0:b0∈cg 10)(h1:b1∈cg 10)(hi:i<5):qh (SB b0) (SB b1) (nm i)=wk b0 b1 i:=by
 unfold qh
 have e:((SB b0).filter (lh (nm i))=(SB b1).filter (lh (nm i)))↔∀j,j<5→(fu b0 i).contains j=(fu b1 i).contains j:=by
  rw[gR b0 h0,gR b1 h1,List.filter_filter,List.filter_filter,tR]
  constructor
  ·intro h j hj
   by_cases hji:j<i
   ·have z:=h _ (Cu i hi j hji)
    have f1:lh (nm i) (nm i,nm j)=true:=by unfold lh;simp
    rw[f1,Bool.true_and,Bool.true_and]at z
    unfold uN at z
    rw[eu h0 hi hj,eu h1 hi hj]at z
    exact z
   ·have n:∀b,(fu b i).contains j=false:= λb=>by
     cases q:(fu b i).contains j with
     |false=>rfl
     |true=>exact absurd (zf b i j (ZE.mp q)) hji
    rw[n,n]
  ·intro h p hp
   refine bp λGz kz=>?_
   refine om (xj p hp) λi' hi' j hj ep=>?_
   refine kz ?_
   subst ep
   have f1:lh (nm i) (nm i',nm j)=(i'==i):=vI i' hi' i hi
   rw[f1]
   cases q:i'==i with
   |false=>rfl
   |true=>
    have:i'=i:=by simpa using q
    subst this
    rw[Bool.true_and,Bool.true_and]
    unfold uN
    rw[eu h0 hi hj,eu h1 hi hj]
    exact h j hj
 unfold wk
 rw[Zi,Bool.not_eq_true',decide_eq_false_iff_not,e,Z8]
 constructor
 ·intro h
  apply Classical.byContradiction
  intro n
  refine h λj hj=>?_
  cases q:(fu b0 i).contains j==(fu b1 i).contains j with
  |true=>simpa using q
  |false=>exact absurd (al j (ZP.mpr hj) (by simpa using q)) n
 ·rintro⟨j,hj,hd⟩ h
  rw[h j (ZP.mp hj)]at hd
  simp at hd
theorem GZ{A:List Nat}(hA:∀x∈A,x<5)(hi:i<5)(hn:∀j∈nd i,j<5):mT (A.map nm) (nm i::(nd i).map nm)=(A.contains i||(nd i).any A.contains):=by
 unfold mT tI
 rw[List.headD_cons,nG hA hi,List.drop_succ_cons,List.drop_zero,Zr]
 congr 1
 rw[Zi,Z8]
 rw[pE]
 constructor
 ·rintro⟨p,hp,h⟩
  refine ah (ZR.mp hp) λj hj z0=>?_;subst z0
  have h:(A.map nm).contains (nm j)=true:=h
  rw[nG hA (hn j hj)]at h
  exact al j hj h
 ·rintro⟨j,hj,h⟩
  refine al _ (ZR.mpr (al j hj rfl)) ?_
  show(A.map nm).contains (nm j)=true
  rw[nG hA (hn j hj)]
  exact h
theorem rO(P:Nat→Bool):lv ((ZG 5).filter P)=[4,0,1,3,2].filter P:=by
 unfold lv
 refine Zm λi hi=>?_
 rw[Zi,ZE,ZQ]
 exact⟨λh=>h.2,λh=>⟨ZP.mpr (m0 i hi),h⟩⟩
theorem BX(P:Nat→Bool):∀x∈(ZG 5).filter P,x<5:= λx hx=>ZP.mp (ZQ.mp hx).1
theorem pN(P:Nat→Bool):iO (((ZG 5).filter P).map nm) (([4,0,1,3,2].filter P).map nm):=by
 rw[←rO P]
 exact nP (BX P) (List.Pairwise.filter _ List.nodup_range)
theorem nY(nd:Nat→List Nat)(f:List Str→Bool)(P:Nat→Bool)(h:∀i,i<5→f (nm i::(nd i).map nm)=P i):((bM nd).filter f).map tI=((ZG 5).filter P).map nm:=by
 unfold bM
 rw[List.filter_map,Zr]
 have e:(ZG 5).filter (f∘ λi=>nm i::(nd i).map nm)=(ZG 5).filter P:=Zm λi hi=>h i (ZP.mp hi)
 rw[e]
 rfl
theorem wr{nd:Nat→List Nat}{C:Nat→Bool}(hn:∀i,∀j∈nd i,j<i):∀(m k:Nat),vB (bM nd) k (([4,0,1,3,2].filter (tn C nd m)).map nm) (([4,0,1,3,2].filter (tn C nd (m+k))).map nm)
 |m,0=>.z _
 |m,k+1=>by
  have lt:∀x∈[4,0,1,3,2].filter (tn C nd m),x<5:= λx hx=>m0 x (ZQ.mp hx).1
  refine .su (zs:=([4,0,1,3,2].filter (tn C nd (m+1))).map nm) ?_ ?_
  ·rw[nY nd _ (λi=>([4,0,1,3,2].filter (tn C nd m)).contains i||(nd i).any ([4,0,1,3,2].filter (tn C nd m)).contains) λi hi=>GZ lt hi λj hj=>by have:=hn i j hj;lia]
   rw[←C3 hn m]
   exact pN _
  ·have z:=wr (nd:=nd) (C:=C) hn (m+1) k
   rw[show m+1+k=m+(k+1)by lia]at z
   exact z
theorem yV(h0:b0∈cg 10)(h1:b1∈cg 10):∃r z1 zs,IR (bM (fu b0)) (fu b1) (SB b0) (SB b1) r z1 zs:=by
 have B0:=Ba h0
 have B1:=Ba h1
 refine aV (Bk h0 h1) λl1 l2=>?_
 have o:=ZF.mp Ea b1 h1
 unfold Hy at o
 dsimp only at o
 split at o
 ·rename_i ol eo
  rw[Z3,Z3]at o
  refine bp λGz kz=>?_
  refine aV o λz0 o3=>aV z0 λo1 o2=>?_
  have o1:∀x∈(ic (fu b1)).ord,x<5:= λx hx=>by simpa using ZF.mp o1 x hx
  have o3:∀x,x<5→x∈ol:= λx hx=>by simpa using ZF.mp o3 x (ZP.mpr hx)
  have nl:=zf b1
  refine fv (yG (C:=wk b0 b1) nl ol [] [] o2 (λ_ h=>nomatch h) (λ_ h=>nomatch h) .nil (λ_ h=>nomatch h)) λg1 g2 g3=>?_
  refine kz ?_
  refine wl (ol.foldl (rJ (wk b0 b1) (fu b1)) []) (([4,0,1,3,2].filter (wk b0 b1)).map nm) (([4,0,1,3,2].filter (tn (wk b0 b1) (fu b1) 5)).map nm) ?_
  have rn:=yu (ch:=((cM (SB b0) (SB b1)).1++(cM (SB b0) (SB b1)).2).map (·.1)) (sn:=SB b1) (C:=wk b0 b1) (nd:=fu b1) (su:=(ic (fu b1)).su) (ord:=(ic (fu b1)).ord) (λan i ha hi=>Ih h0 h1 (λx hx=>o1 x (ha x hx)) (o1 i hi)) 7 _ _ [] ol (λ_ h=>nomatch h) (by simp) eo
  have l5:=jo 5 _ g1 g3
  have ll:=AH b0
  have lm:=AH b1
  exact {
   B0:=B0
   B1:=B1
   k0:= λr hr=>(jF h0 r hr).2.1
   k1:= λr hr=>(jF h1 r hr).2.1
   j0:=wA b0 h0
   j1:=wA b1 h1
   n0:=by unfold bM;simp
   S0:=by rw[nM b0 h0];exact lb h0
   S1:=by rw[nM b1 h1];exact lb h1
   ao:=Cb h0
   an:=Cb h1
   zo:=by lia
   zn:=by lia
   zl:=by
    rw[l1,l2]
    have:=Zc (gO (SB b1)) (SB b0)
    have:=Zc (gO (SB b0)) (SB b1)
    lia
   hp:=EU b1
   su:=HN h1
   sz:=Fw _ λi hi=>(EU b1 i hi).1
   h0:=za h1
   rn:=rn
   rl:=by lia
   hs:=by
    have e:lv (ol.foldl (rJ (wk b0 b1) (fu b1)) [])=[4,0,1,3,2].filter (tn (wk b0 b1) (fu b1) 5):=by
     unfold lv
     exact Zm λi hi=>g2 i (.inr (o3 i (m0 i hi)))
    rw[←e]
    exact nP g3 g1
   d0:=by
    rw[nY (fu b0) _ (wk b0 b1) λi hi=>GL h0 h1 hi]
    exact pN _
   dn:=by
    have z:=wr (nd:=fu b1) (C:=wk b0 b1) nl 0 5
    exact z
   l1:=l1
   l2:=l2}
 ·cases o
theorem yb(h:IntsAre its ns):cG ρ n (ns.map .int) its:=by
 induction h with
 |nil=>exact .nil
 |cons i t _ ih=>exact .cons ⟨_,rfl⟩ ih
theorem tY:∀{its:List Value}{ns:List Int},IntsAre its ns→its.length=ns.length
 |_,_,.nil=>rfl
 |_,_,.cons i t h=>by simp[tY h]
theorem xG{lower upper step:Option Expr}{p:Pos}{a:Addr}{l u t:Option Int}{σ₄:St}{v':List AV}(hz:its.length<1000)(h0:t≠some 0)(hs:∀o x,∃ops,subscripted (.Slice lower upper step p) false o x=operate ops (getItem o x))
  (e0:Ev c F k value σ (.val (.ref a)) σ₁)(h1:Pt c F k lower σ₁ l σ₂)(h2:Pt c F k upper σ₂ u σ₃)(h3:Pt c F k step σ₃ t σ₄)(hL:c.h₁.IsList a ⟨its⟩)(hne:a≠c.tj)(hp:∀ρ n,cG ρ n v' (slicePick ⟨its⟩ l u t).toList):
  Ev c F k (.Subscript value (.Slice lower upper step p) pos) σ (.obj σ₄.H.length) ⟨σ₄.loc,σ₄.H++[.list v']⟩:= λA ρ s env Q E K r q=>
 Subscript_ (e0 A ρ s env _ E K r λρ1 s1 y r1 st1 vy=>wpAny_Slice (h1 A ρ1 s1 env _ E K r1 λρ2 s2 y2 r2 st2 vl=>h2 A ρ2 s2 env _ E K r2 λρ3 s3 y3 r3 st3 vu=>h3 A ρ3 s3 env _ E K r3 λρ4 s4 y4 r4 st4 vt=>by
  have vy:y=.ref a:=vy
  subst vy
  refine ah vl ?_;clear vl;intro l' z0 hl;subst z0
  refine ah vu ?_;clear vu;intro u' z0 hu;subst z0
  refine ah vt ?_;clear vt;intro t' z0 htt;subst z0
  subst hl hu htt
  have g3:s4.heap.IsList a ⟨its⟩:=by
   refine bp λGz kz=>?_
   refine br hL λo ho hc hd=>?_
   refine kz ?_
   exact bO o (r4.hr.base a o ho hne) hc hd
  have pp:=HP.of_push (o:={cls:=.type "slice",data:=.fields #[partValue l',partValue u',partValue t']}) r4
  have r5:=pp.1 s4.toks
  refine bp λGz kz=>?_
  refine cc (hs (.ref a) (.ref s4.heap.objs.size)) λops hops=>?_
  refine aV (r5.alloc (ao:=.list v') (ob:={cls:=.type "list",data:=.seq (slicePick ⟨its⟩ (l'.map (·.1)) (u'.map (·.1)) (t'.map (·.1)))}) s4.toks rfl (cI ((slicePick ⟨its⟩ (l'.map (·.1)) (u'.map (·.1)) (t'.map (·.1))).toList) _ rfl (hp _ _))) λr6 st6'=>?_
  refine kz ?_
  refine tail_any (ops:=ops) (g3.push _).typeIs slot_list_getitem.lookup (wpAny_getItem_list_slice (g3.push _) (bO _ (ZN _ rfl) rfl rfl) my my my h0 ?_ (by show its.length≤_;unfold sizeLine;lia)) hops
  exact q _ _ _ r6 ((((st1.trans st2).trans st3).trans st4).trans ((pp.step s4.toks).trans st6')) ⟨by simp,by rw[aF]⟩))
theorem EI(hz:c.rz=true)(Jc:c.GoJ){S:Addr}(hS:c.h₁.IsList S ⟨its⟩)(hne:S≠c.tj)(hI:IntsAre its ns)(hn:ns.length<900){r:List Nat}{z1:List Str}
  (e1:(ZG 5).map (jY (ns.take 30) mB 0 5 0 1)=bM nd)(P:IR ((ZG 5).map (jY (ns.take 30) mB 0 5 0 0)) nd so sn r z1 zs):
  ∃H',Fn c (k+114) (.ref 916) [.val (.ref S)] [] H (.bool true) H':=by
 have G:=Jc.go
 refine bp λGz kz=>?_
 refine yN λsc sc2 p1 p2 p3 p4 p5 p6 p7 p8 t1 a0 a1 a2 a3 a4 a5 a6 a7 a8 a9 a10 a11 a12 a13 a14 a15 a16 a17 a18 t2 hz_=>?_
 obtain⟨hb,he,S1,S2,k1,k2,n1,n2,n3⟩:=hz_
 let l0:List (Str×AV):=[("script",.val (.ref S))]
 refine bb (H++[AO.list ((ns.take 30).map .int)]) λH1 e1'=>?_
 have h1:H1[H.length]?=some (.list ((ns.take 30).map .int)):=by rw[e1'];exact aO
 refine cU (zh (k:=k+12) G h1 (by rw[List.length_take];lia)) λbk H2 f2 z0 x2 _=>iY z0 λnm' a js bs=>?_
 let l1:List (Str×AV):=aR ("drawn":Str) (.obj bk) l0
 have R0:=s8 bs (k:=0) (by decide)
 have R1:=s8 bs (k:=1) (by decide)
 rw[e1]at R1
 refine br (BC (k:=k+11) (l:=l1) (a13:=a13) (a11:=a11) (a12:=a12) Jc S1 S2 k1 k2 n1 n2 n3 he (aj _ _ _) bs.b R0 R1 (λr hr=>⟨P.B0.ok r hr,P.k0 r hr⟩) (λr hr=>⟨P.B1.ok r hr,P.k1 r hr⟩) P.B0.n P.B1.n P.j0 P.j1) λH3 ev3 h3 x3=>?_
 obtain⟨Z,M,U,A,H4,f4,q1,q2,q3,q4,kp⟩:=Dl (k:=k) (H:=H3) hz G h3 P.B0 P.B1 P.S0 P.S1 P.ao P.an P.zo P.zn P.zl P.hp P.su P.sz P.h0 P.rn P.rl P.hs
 have k34:∀(y:Nat)(o:AO),o.lt=true→H2[y]?=some o→H4[y]?=some o:= λy o t h=>kp y o t (x3 _ _ h)
 obtain⟨Z',M',U',A',H5,f5,w1,w2,w3,w4,kq⟩:=GD (k:=k+11) (H:=H4) G (k34 _ _ rfl bs.b) (R0.keep k34) (R1.keep k34) P.B0.r P.B1.r P.n0 (by unfold bM;simp) P.B0.q P.B1.q P.S0 P.S1 (by have:=P.zo;lia) (by have:=P.zn;lia) P.d0 P.dn
 refine kz ?_
 refine⟨H5,?_⟩
 refine dh (k:=k+113) (fl:=.ret (.bool true)) (loc:=l0) G (FP _) (by w_on) (by w_on) (λρ m s xs ks X hx hk=>?_) ?_
 ·refine mC hx hk λ_ hx=>?_
  refine al [("script",_)] (@bB _ _ _ _ _ X ?_) (.cons hx .nil)
  exact Fm _ _
 ·apply aK (loc:=l1)
  rw[hb]
  have sl:=xG (c:=c) (F:=qF) (k:=k+113) (σ:=⟨l0,H⟩) (σ₁:=⟨l0,H⟩) (σ₂:=⟨l0,H⟩) (σ₃:=⟨l0,H⟩) (σ₄:=⟨l0,H⟩) (value:=.Name "script" p3) (lower:=none) (upper:=some (.Constant (.int 30) t1 p4)) (step:=none) (p:=p5) (pos:=p6) (a:=S) (its:=its) (l:=none) (u:=some 30) (t:=none) (v':=(ns.take 30).map .int) (by rw[tY hI];lia) (by simp) (λ_ _=>⟨_,rfl⟩) (aa iy rfl rfl) ds (e9 aJ) ds hS hne (λρ n=>by rw[List.map_take];exact vc 30 (yb hI))
  rw[show(St.H ⟨l0,H⟩)++[AO.list ((ns.take 30).map .int)]=H1 from e1'.symm]at sl
  have s0:Ex c qF (k+113) (.Assign [.Name "drawn" p1] (.Call (.Name "_law_books" p2) [.Subscript (.Name "script" p3) (.Slice none (some (.Constant (.int 30) t1 p4)) none p5) p6] [] p7) p8) ⟨l0,H⟩ .next ⟨l1,H2⟩:=
   aw (σ₁:=⟨l0,H2⟩) iy rfl (λ_=>rfl) (jT (σ₂:=⟨l0,H1⟩) G (rZ _) (λ_=>rfl) (dB G iy rfl (DF _)) (af λ_=>rfl) (am (λ_=>rfl) sl au) f2)
  have told:sv c.w.params 906 gm nD:=xy _
  have due:sv c.w.params 911 jW vZ:=B8 _
  have kt:∃kp,∀S,peek c.K S (keeperOf (.ref 906))=some kp:=⟨.frame,λS=>by rw[G.hK];w_on⟩
  have kd:∃kp,∀S,peek c.K S (keeperOf (.ref 911))=some kp:=⟨.frame,λS=>by rw[G.hK];w_on⟩
  have c1:=fS (c:=c) (F:=qF) (k:=k+113) (σ:=⟨l1,H2⟩) (σ₁:=⟨l1,H2⟩) (σ₂:=⟨l1,H3⟩) (func:=.Name "_law_told" a1) (pos:=a14) (f:=.ref 906) (kws:=[]) G.ok (λ_=>rfl) (dB G iy rfl (Gw _)) kt (gL (af λ_=>rfl) (am (λ_=>rfl) ev3 au)) f4
  have c2:=fS (c:=c) (F:=qF) (k:=k+113) (σ:=⟨l1,H4⟩) (σ₁:=⟨l1,H4⟩) (σ₂:=⟨l1,H4⟩) (func:=.Name "_law_due" a15) (args:=[.Name "drawn" a16]) (pos:=a17) (f:=.ref 911) (kws:=[]) G.ok (λ_=>rfl) (dB G iy rfl (Ix _)) kd (gL (af λ_=>rfl) (am (λ_=>rfl) (aa iy rfl (aj _ _ _)) au)) f5
  rw[P.l1]at q2
  rw[P.l2]at q3
  exact ae s0 (bx (aX (uJ rfl c1 c2 (ut (σ:=⟨l1,H5⟩) (kq _ _ rfl q1) w1 (q2.lt kq) (q3.lt kq) (kq _ _ rfl q4) w2 w3 w4))))
noncomputable def wd(ns:List Int)(k:Nat):List Bool:=(ZG 10).map λp=>cq (ca ns p) k
theorem n9(ns:List Int)(k:Nat):wd ns k∈cg 10:=mm (by unfold wd;simp)
theorem Df:∀i,i<5→∀j,j<i→i*(i - 1)/2+j<10:=by decide
theorem pT(ns:List Int)(hk:k<2):(ZG 5).map (jY ns mB 0 5 0 k)=bM (fu (wd ns k)):=by
 rw[←v9 _ (n9 ns k)]
 refine ZO λi hi=>?_
 have hi:=ZP.mp hi
 rw[uy ns k i hk hi]
 unfold Cr Au
 congr 1
 refine ZO λj hj=>?_
 have hj:=ZP.mp hj
 have hp:=Df i hi j hj
 unfold wd
 rw[List.getD_eq_getElem?_getD,ZK,List.getElem?_range hp]
 rfl
theorem Dn(hz:c.rz=true)(Jc:c.GoJ){S:Addr}(hS:c.h₁.IsList S ⟨its⟩)(hne:S≠c.tj)(hI:IntsAre its ns)(hn:ns.length<900):∃H',Fn c (k+114) (.ref 916) [.val (.ref S)] [] H (.bool true) H':=by
 refine bp λGz kz=>?_
 refine iY (yV (n9 (ns.take 30) 0) (n9 (ns.take 30) 1)) λr z1 zs P=>?_
 refine kz ?_
 rw[←pT (ns.take 30) (by decide)]at P
 exact EI hz Jc hS hne hI hn (pT (ns.take 30) (by decide)) P
theorem Hw:(Kx P).lookup 873=none:=by w_on
theorem Eu:nsIn (Kx P) mainGlobals ("law":Str)=some (some (.ref 916)):=by w_on
theorem qk:mainGlobals≠873∧builtinsNs≠873∧cStatics≠873:=by decide
theorem law_join{pr:Program}{p:Program}{loose:List Str}{mean:ExcName→Option Value}{mg mb:Str→Option Value}{fa a:Addr}{vs:List Value}
  (T:Top p loose mean mg mb s.heap)(KX:(Kh w.params).In s.heap)(hT:s.heap.get? 873=some (tabObj #[]))(hg:s.gens= #[])(hmg:mg ("law":Str)=some (.ref fa))(hL:s.heap.IsList a vs.toArray)(hI:IntsAre vs ns)(hn:ns.length<900)
  (q:∀s',OldK s.heap s'.heap→s'.os=s.os→AllBare s'.gens→Q (.bool true) s'):wpAny (model pr w) callerA (call (.ref fa) [.ref a]) Q E s:=by
 let c:Cx:=⟨pr,w,s.heap,Kx w.params,873,mg,mb,λg _=>AllBare g,true⟩
 have X:(Kx w.params).In s.heap:=KX
 have O:c.Ok:=⟨X,Hw _,⟨_,hT⟩,T.g,qk.1,T.b,qk.2.1,T.nolimit,qk.2.2,T.builtins⟩
 have G:c.Go:=⟨O,rfl⟩
 refine bp λGz kz=>?_
 refine dZ (T.bmain) λbm ob b1 b2 b3 b4 b5 b6=>?_
 refine kz ?_
 have J:c.GoJ:=⟨G,rfl,al (#[]) hT trivial,rfl,bm,ob,b1,b2,b3,b4,b5,b6,λe=>by
  have e:bm=873:=e
  rw[e,hT]at b3
  rw[←Option.some.inj b3]at b4
  cases b4⟩
 have hfa:fa=916:=by
  have z:=mg_of O.X O.g (Eu w.params)
  have z:mg ("law":Str)=some (.ref 916):=z
  rw[hmg]at z
  exact Value.ref.inj (Option.some.inj z)
 subst hfa
 have hne:a≠c.tj:= λe=>by
  have e:a=873:=e
  refine bp λGz kz=>?_
  refine br hL λo h1 h2 _=>?_
  refine kz ?_
  rw[e,hT]at h1
  rw[←Option.some.inj h1]at h2
  cases h2
 refine cc (Dn (c:=c) (k:=0) (H:=[]) rfl J hL hne hI hn) λH' f=>?_
 refine wpAny_call ?_
 have hr:eE c (λ_=>0) [] s.heap:=⟨λi o e=>by simp at e,λi j h=>by simp at h,λi h=>by simp at h,λb o e _=>e,λo e=>.inl e⟩
 refine f callerA (λ_=>0) s [.ref a] [] _ ⟨by decide,by decide,λ_=>rfl⟩ hr (AllBare.of_eq hg) (λ_=>al [] rfl λe h=>nomatch h) (.cons rfl .nil) .nil λρ' s' x hr' gq st vx=>?_
 have vx:x=.bool true:=vx
 subst vx
 refine q s' ⟨λb o e=>?_,λb o e=>?_⟩ st.os gq
 ·by_cases hb:b=873
  ·subst hb
   rcases hr'.tj o e with h|⟨h1,h2,v,more,⟨h3,_⟩,h4⟩
   ·exact .inl h
   ·exact .inr (.inl (bS h1 h2 v more h3 h4))
  ·exact .inl (hr'.base b o e hb)
 ·by_cases hb:b=873
  ·subst hb;exact hr'.tj.there e
  ·exact⟨o,hr'.base b o e hb⟩
end Mine
theorem PySem.Challenge.cw_nb0353_01_holds : PySem.Challenge.rw_nb0353_01.Holds :=
 Mine.hd (by
  intro w s₀ s₁ mg mb G Y fa o pm cd doc dV kV ho hd hcd hD hmg hg args vals as hpre hlay hrd hwl hlo
  have KX := km_in_of Y
  have hT := km_tabs_of Y 873 (.head _)
  refine Ground.open G ?_
  intro T B D TE TW
  clear ho hd hcd hD B D TE TW Y G
  wrow_args hpre hlay hrd hwl hlo
  refine Mine.law_join T KX hT hg hmg (by assumption) (by assumption) (by omega) ?_
  intro s' hk hos hgn
  refine ⟨.inl ⟨.bool true, .bool true, [], rfl, fun _ => rfl, .bool _, by with_unfolding_all rfl, fun _ => ⟨.nil, fun _ h => nomatch h⟩⟩, hk, hos, hgn⟩)
