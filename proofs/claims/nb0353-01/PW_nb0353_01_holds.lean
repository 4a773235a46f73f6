import PyProof.Rows.All
import Wide.All
import OpenK.AllK
import Wide.FinOn
import Lean
import PySem.Challenge.RW_nb0353_01
open List renaming getElem?_eq_some_iff → zS, getElem?_eq_getElem → zG, getElem?_append_right → zR, getElem?_append_left → zL, getElem?_set_ne → zN, getElem?_set_self → zT, getElem?_eq_none_iff → ZC, lookup_cons → ZD, contains_iff_mem → ZF, all_eq_true → ZG, range → ZH, mem_cons → ZI, getElem?_map → ZK, drop_eq_nil_iff → ZL, map_congr_left → ZO, mem_range → ZP, mem_filter → ZQ, mem_map → ZR, length_map → ZS, mem_append → ZT, replicate → ZV, map_cons → ZZ, getElem?_drop → Z1, length_set → Z4, filter_cons → Z5, set_getElem_self → Z8, any_eq_true → Z9, set_append_left → Za, length_filter_le → Zc, size_toArray → Ze, mem_of_getElem? → Zg, mem_iff_getElem → Zh, set_set → Zj, length_cons → Zk, filter_congr → Zm, set_append_right → Zn, drop_drop → Zp, map_map → Zr, pairwise_cons → Zs, map_append → Zu, foldl_cons → Zv, mem_filterMap → Zx, set_comm → Zz, forIn_nil → YA, lookup → YB
open PySem.Heap renaming get?_push_of_some → zH, lt_size → ZB, get?_push_size → ZN, get?_update_other → ZU, size_push → Zo, get?_update_self → Zw
open Nat renaming le_refl → ZA, lt_of_lt_of_le → ZE, lt_irrefl → ZJ, le_of_not_lt → ZW, not_lt → ZX, sub_self → ZY, le_trans → Z2, ne_of_lt → Z7, lt_succ_self → Zb, lt_succ_of_lt → Zd, le_succ → Zf, zero_le → Zl, add_zero → Zq, add_sub_cancel_left → Zt
open Bool renaming and_eq_true_iff → ZM, false_ne_true → Z0, and_eq_true → Z3, eq_iff_iff → Zi, false_eq_true → Zy
open Option renaming map_eq_some_iff → Z6
open PySem renaming wpAny_bind → YC, wpAny_pure → YD, wpAny_mono → YE, wpAny_holding → YF, wpAny_standAt → YG, wpAny_execs_cons → YH
open PySem PySem.W PyProof.Rows
set_option Elab.async false
set_option linter.all false
set_option maxRecDepth 100000
set_option maxHeartbeats 0
set_option genSizeOf false
set_option genSizeOfSpec false
namespace Mine
local macro_rules | `(tactic|omega) => `(tactic| lia)
local macro_rules | `(tactic| w_on) => `(tactic| kernel_rfl)
theorem bp{a:Sort _}{p:a→Prop}{G:Prop}(h:∃x,p x)(k:∀x,p x→G):G:=h.elim λx h=>k x h
theorem aO{p q:Prop}{G:Prop}(h:p∧q)(k:p→q→G):G:=h.elim λα h=>k α h
theorem aj{a:Sort _}{p q:a→Prop}{G:Prop}(h:∃x,p x∧q x)(k:∀x,p x→q x→G):G:=h.elim λx h=>h.elim λα h=>k x α h
theorem fP{p q r:Prop}{G:Prop}(h:p∧q∧r)(k:p→q→r→G):G:=h.elim λα h=>h.elim λβ h=>k α β h
theorem mI{a:Sort _}{b:a→Sort _}{p:∀x,b x→Prop}{G:Prop}(h:∃x y,p x y)(k:∀x y,p x y→G):G:=h.elim λx h=>h.elim λy h=>k x y h
theorem Gx{a:Sort _}{p:Prop}{q:a→Prop}{G:Prop}(h:p∧∃x,q x)(k:p→∀x,q x→G):G:=h.elim λα h=>h.elim λx h=>k α x h
theorem bz{a:Sort _}{p q r:a→Prop}{G:Prop}(h:∃x,p x∧q x∧r x)(k:∀x,p x→q x→r x→G):G:=h.elim λx h=>h.elim λα h=>h.elim λβ h=>k x α β h
theorem ds{a b:Sort _}{p q:a→b→Prop}{G:Prop}(h:∃x y,p x y∧q x y)(k:∀x y,p x y→q x y→G):G:=h.elim λx h=>h.elim λy h=>h.elim λα h=>k x y α h
theorem i7{a b c:Sort _}{p:a→b→c→Prop}{G:Prop}(h:∃x y z,p x y z)(k:∀x y z,p x y z→G):G:=h.elim λx h=>h.elim λy h=>h.elim λz h=>k x y z h
theorem oD{p q r s:Prop}{G:Prop}(h:p∧q∧r∧s)(k:p→q→r→s→G):G:=h.elim λα h=>h.elim λβ h=>h.elim λγ h=>k α β γ h
theorem E1{a:Sort _}{p:Prop}{q r:a→Prop}{G:Prop}(h:p∧∃x,q x∧r x)(k:p→∀x,q x→r x→G):G:=h.elim λα h=>h.elim λx h=>h.elim λβ h=>k α x β h
theorem ct{a b:Sort _}{p q r:a→b→Prop}{G:Prop}(h:∃x y,p x y∧q x y∧r x y)(k:∀x y,p x y→q x y→r x y→G):G:=h.elim λx h=>h.elim λy h=>h.elim λα h=>h.elim λβ h=>k x y α β h
theorem cv{a:Sort _}{p q r s:a→Prop}{G:Prop}(h:∃x,p x∧q x∧r x∧s x)(k:∀x,p x→q x→r x→s x→G):G:=h.elim λx h=>h.elim λα h=>h.elim λβ h=>h.elim λγ h=>k x α β γ h
theorem dc{a b c:Sort _}{p q:a→b→c→Prop}{G:Prop}(h:∃x y z,p x y z∧q x y z)(k:∀x y z,p x y z→q x y z→G):G:=h.elim λx h=>h.elim λy h=>h.elim λz h=>h.elim λα h=>k x y z α h
theorem qL{a b:Sort _}{p q:a→Prop}{r:a→b→Prop}{G:Prop}(h:∃x,p x∧q x∧∃y,r x y)(k:∀x,p x→q x→∀y,r x y→G):G:=h.elim λx h=>h.elim λα h=>h.elim λβ h=>h.elim λy h=>k x α β y h
theorem nO{a b:Sort _}{p:a→Prop}{q r:a→b→Prop}{G:Prop}(h:∃x,p x∧∃y,q x y∧r x y)(k:∀x,p x→∀y,q x y→r x y→G):G:=h.elim λx h=>h.elim λα h=>h.elim λy h=>h.elim λβ h=>k x α y β h
theorem ug{a:Sort _}{p q:Prop}{r s:a→Prop}{G:Prop}(h:p∧q∧∃x,r x∧s x)(k:p→q→∀x,r x→s x→G):G:=h.elim λα h=>h.elim λβ h=>h.elim λx h=>h.elim λγ h=>k α β x γ h
theorem uO{p q r s t:Prop}{G:Prop}(h:p∧q∧r∧s∧t)(k:p→q→r→s→t→G):G:=h.elim λα h=>h.elim λβ h=>h.elim λγ h=>h.elim λδ h=>k α β γ δ h
theorem dh{a b c:Sort _}{p q r:a→b→c→Prop}{G:Prop}(h:∃x y z,p x y z∧q x y z∧r x y z)(k:∀x y z,p x y z→q x y z→r x y z→G):G:=h.elim λx h=>h.elim λy h=>h.elim λz h=>h.elim λα h=>h.elim λβ h=>k x y z α β h
theorem cT{a b:Sort _}{p q r s:a→b→Prop}{G:Prop}(h:∃x y,p x y∧q x y∧r x y∧s x y)(k:∀x y,p x y→q x y→r x y→s x y→G):G:=h.elim λx h=>h.elim λy h=>h.elim λα h=>h.elim λβ h=>h.elim λγ h=>k x y α β γ h
theorem mY{p q r s t i:Prop}{G:Prop}(h:p∧q∧r∧s∧t∧i)(k:p→q→r→s→t→i→G):G:=h.elim λα h=>h.elim λβ h=>h.elim λγ h=>h.elim λδ h=>h.elim λε h=>k α β γ δ ε h
theorem wS{a:Sort _}{p q r s t:a→Prop}{G:Prop}(h:∃x,p x∧q x∧r x∧s x∧t x)(k:∀x,p x→q x→r x→s x→t x→G):G:=h.elim λx h=>h.elim λα h=>h.elim λβ h=>h.elim λγ h=>h.elim λδ h=>k x α β γ δ h
theorem d8{a b c:Sort _}{p q r s:a→b→c→Prop}{G:Prop}(h:∃x y z,p x y z∧q x y z∧r x y z∧s x y z)(k:∀x y z,p x y z→q x y z→r x y z→s x y z→G):G:=h.elim λx h=>h.elim λy h=>h.elim λz h=>h.elim λα h=>h.elim λβ h=>h.elim λγ h=>k x y z α β γ h
theorem lC{a b:Sort _}{p q r s t:a→b→Prop}{G:Prop}(h:∃x y,p x y∧q x y∧r x y∧s x y∧t x y)(k:∀x y,p x y→q x y→r x y→s x y→t x y→G):G:=h.elim λx h=>h.elim λy h=>h.elim λα h=>h.elim λβ h=>h.elim λγ h=>h.elim λδ h=>k x y α β γ δ h
theorem n6{a b c d:Sort _}{p q r:a→b→c→d→Prop}{G:Prop}(h:∃x y z u,p x y z u∧q x y z u∧r x y z u)(k:∀x y z u,p x y z u→q x y z u→r x y z u→G):G:=h.elim λx h=>h.elim λy h=>h.elim λz h=>h.elim λu h=>h.elim λα h=>h.elim λβ h=>k x y z u α β h
theorem c7{a b c:Sort _}{p q r s t:a→b→c→Prop}{G:Prop}(h:∃x y z,p x y z∧q x y z∧r x y z∧s x y z∧t x y z)(k:∀x y z,p x y z→q x y z→r x y z→s x y z→t x y z→G):G:=h.elim λx h=>h.elim λy h=>h.elim λz h=>h.elim λα h=>h.elim λβ h=>h.elim λγ h=>h.elim λδ h=>k x y z α β γ δ h
theorem eQ{a b:Sort _}{p q r s t i:a→b→Prop}{G:Prop}(h:∃x y,p x y∧q x y∧r x y∧s x y∧t x y∧i x y)(k:∀x y,p x y→q x y→r x y→s x y→t x y→i x y→G):G:=h.elim λx h=>h.elim λy h=>h.elim λα h=>h.elim λβ h=>h.elim λγ h=>h.elim λδ h=>h.elim λε h=>k x y α β γ δ ε h
theorem ia{a b c d:Sort _}{p q r s:a→b→c→d→Prop}{G:Prop}(h:∃x y z u,p x y z u∧q x y z u∧r x y z u∧s x y z u)(k:∀x y z u,p x y z u→q x y z u→r x y z u→s x y z u→G):G:=h.elim λx h=>h.elim λy h=>h.elim λz h=>h.elim λu h=>h.elim λα h=>h.elim λβ h=>h.elim λγ h=>k x y z u α β γ h
theorem hZ{a b c d e:Sort _}{p q r:a→b→c→d→e→Prop}{G:Prop}(h:∃x y z u v,p x y z u v∧q x y z u v∧r x y z u v)(k:∀x y z u v,p x y z u v→q x y z u v→r x y z u v→G):G:=h.elim λx h=>h.elim λy h=>h.elim λz h=>h.elim λu h=>h.elim λv h=>h.elim λα h=>h.elim λβ h=>k x y z u v α β h
theorem kC{a b c:Sort _}{p q r s t i:a→b→c→Prop}{G:Prop}(h:∃x y z,p x y z∧q x y z∧r x y z∧s x y z∧t x y z∧i x y z)(k:∀x y z,p x y z→q x y z→r x y z→s x y z→t x y z→i x y z→G):G:=h.elim λx h=>h.elim λy h=>h.elim λz h=>h.elim λα h=>h.elim λβ h=>h.elim λγ h=>h.elim λδ h=>h.elim λε h=>k x y z α β γ δ ε h
theorem ka{a b c d:Sort _}{p q r s t:a→b→c→d→Prop}{G:Prop}(h:∃x y z u,p x y z u∧q x y z u∧r x y z u∧s x y z u∧t x y z u)(k:∀x y z u,p x y z u→q x y z u→r x y z u→s x y z u→t x y z u→G):G:=h.elim λx h=>h.elim λy h=>h.elim λz h=>h.elim λu h=>h.elim λα h=>h.elim λβ h=>h.elim λγ h=>h.elim λδ h=>k x y z u α β γ δ h
theorem df{a b:Sort _}{p q r s t i j k:a→b→Prop}{G:Prop}(h:∃x y,p x y∧q x y∧r x y∧s x y∧t x y∧i x y∧j x y∧k x y)(k:∀x y,p x y→q x y→r x y→s x y→t x y→i x y→j x y→k x y→G):G:=h.elim λx h=>h.elim λy h=>h.elim λα h=>h.elim λβ h=>h.elim λγ h=>h.elim λδ h=>h.elim λε h=>h.elim λζ h=>h.elim λη h=>k x y α β γ δ ε ζ η h
theorem eV{a b c d:Sort _}{p:Prop}{q r s t i:a→b→c→d→Prop}{G:Prop}(h:p∧∃x y z u,q x y z u∧r x y z u∧s x y z u∧t x y z u∧i x y z u)(k:p→∀x y z u,q x y z u→r x y z u→s x y z u→t x y z u→i x y z u→G):G:=h.elim λα h=>h.elim λx h=>h.elim λy h=>h.elim λz h=>h.elim λu h=>h.elim λβ h=>h.elim λγ h=>h.elim λδ h=>h.elim λε h=>k α x y z u β γ δ ε h
theorem al{a:Sort _}{p q:a→Prop}(x:a)(α:p x)(β:q x):∃x,p x∧q x:=⟨x,α,β⟩
theorem bh{a b c:Sort _}{p q:a→b→c→Prop}(x:a)(y:b)(z:c)(α:p x y z)(β:q x y z):∃x y z,p x y z∧q x y z:=⟨x,y,z,α,β⟩
theorem bO{a:Sort _}{p q r:a→Prop}(x:a)(α:p x)(β:q x)(γ:r x):∃x,p x∧q x∧r x:=⟨x,α,β,γ⟩
theorem bS{a b:Sort _}{p q:Prop}{r s:a→b→Prop}(α:p)(β:q)(x:a)(y:b)(γ:r x y)(δ:s x y):p∧q∧∃x y,r x y∧s x y:=⟨α,β,x,y,γ,δ⟩
theorem cH{a b:Sort _}{p q:a→b→Prop}(x:a)(y:b)(α:p x y)(β:q x y):∃x y,p x y∧q x y:=⟨x,y,α,β⟩
theorem dJ{a b:Sort _}{p q r s:a→b→Prop}(x:a)(y:b)(α:p x y)(β:q x y)(γ:r x y)(δ:s x y):∃x y,p x y∧q x y∧r x y∧s x y:=⟨x,y,α,β,γ,δ⟩
theorem fk{a b:Sort _}{p q r:a→b→Prop}(x:a)(y:b)(α:p x y)(β:q x y)(γ:r x y):∃x y,p x y∧q x y∧r x y:=⟨x,y,α,β,γ⟩
theorem cG{a b c:Sort _}{p q r s t:a→b→c→Prop}(x:a)(y:b)(z:c)(α:p x y z)(β:q x y z)(γ:r x y z)(δ:s x y z)(ε:t x y z):∃x y z,p x y z∧q x y z∧r x y z∧s x y z∧t x y z:=⟨x,y,z,α,β,γ,δ,ε⟩
theorem gz{a:Sort _}{p q r s:a→Prop}(x:a)(α:p x)(β:q x)(γ:r x)(δ:s x):∃x,p x∧q x∧r x∧s x:=⟨x,α,β,γ,δ⟩
theorem rX{a:Sort _}{b:a→Sort _}{p:∀x,b x→Prop}(x:a)(y:b x)(h:p x y):∃x y,p x y:=⟨x,y,h⟩
theorem iN{a b:Sort _}{p q:a→Prop}{r:a→b→Prop}(x:a)(α:p x)(β:q x)(y:b)(γ:r x y):∃x,p x∧q x∧∃y,r x y:=⟨x,α,β,y,γ⟩
theorem fG{a b c d:Sort _}{p q r s:a→b→c→d→Prop}(x:a)(y:b)(z:c)(u:d)(α:p x y z u)(β:q x y z u)(γ:r x y z u)(δ:s x y z u):∃x y z u,p x y z u∧q x y z u∧r x y z u∧s x y z u:=⟨x,y,z,u,α,β,γ,δ⟩
theorem eO{a b c d:Sort _}{p:Prop}{q r s t i:a→b→c→d→Prop}(α:p)(x:a)(y:b)(z:c)(u:d)(β:q x y z u)(γ:r x y z u)(δ:s x y z u)(ε:t x y z u)(ζ:i x y z u):p∧∃x y z u,q x y z u∧r x y z u∧s x y z u∧t x y z u∧i x y z u:=⟨α,x,y,z,u,β,γ,δ,ε,ζ⟩
theorem jv{a b c:Sort _}{p q r:a→b→c→Prop}(x:a)(y:b)(z:c)(α:p x y z)(β:q x y z)(γ:r x y z):∃x y z,p x y z∧q x y z∧r x y z:=⟨x,y,z,α,β,γ⟩
theorem jg{a b c:Sort _}{p q r s:a→b→c→Prop}(x:a)(y:b)(z:c)(α:p x y z)(β:q x y z)(γ:r x y z)(δ:s x y z):∃x y z,p x y z∧q x y z∧r x y z∧s x y z:=⟨x,y,z,α,β,γ,δ⟩
theorem gY{a b:Sort _}{p q r s t i:a→b→Prop}(x:a)(y:b)(α:p x y)(β:q x y)(γ:r x y)(δ:s x y)(ε:t x y)(ζ:i x y):∃x y,p x y∧q x y∧r x y∧s x y∧t x y∧i x y:=⟨x,y,α,β,γ,δ,ε,ζ⟩
theorem wW{a b c:Sort _}{p:a→b→c→Prop}(x:a)(y:b)(z:c)(α:p x y z):∃x y z,p x y z:=⟨x,y,z,α⟩
theorem lz{a b:Sort _}{p q r s t:a→b→Prop}(x:a)(y:b)(α:p x y)(β:q x y)(γ:r x y)(δ:s x y)(ε:t x y):∃x y,p x y∧q x y∧r x y∧s x y∧t x y:=⟨x,y,α,β,γ,δ,ε⟩
theorem jq{a b c d e:Sort _}{p q r:a→b→c→d→e→Prop}(x:a)(y:b)(z:c)(u:d)(v:e)(α:p x y z u v)(β:q x y z u v)(γ:r x y z u v):∃x y z u v,p x y z u v∧q x y z u v∧r x y z u v:=⟨x,y,z,u,v,α,β,γ⟩
theorem uR{a b:Sort _}{p:a→Prop}{q r:a→b→Prop}(x:a)(α:p x)(y:b)(β:q x y)(γ:r x y):∃x,p x∧∃y,q x y∧r x y:=⟨x,α,y,β,γ⟩
theorem ku{a b c d:Sort _}{p q r s t:a→b→c→d→Prop}(x:a)(y:b)(z:c)(u:d)(α:p x y z u)(β:q x y z u)(γ:r x y z u)(δ:s x y z u)(ε:t x y z u):∃x y z u,p x y z u∧q x y z u∧r x y z u∧s x y z u∧t x y z u:=⟨x,y,z,u,α,β,γ,δ,ε⟩
theorem iM{a b c d:Sort _}{p q r s t i j:a→b→c→d→Prop}(x:a)(y:b)(z:c)(u:d)(α:p x y z u)(β:q x y z u)(γ:r x y z u)(δ:s x y z u)(ε:t x y z u)(ζ:i x y z u)(η:j x y z u):∃x y z u,p x y z u∧q x y z u∧r x y z u∧s x y z u∧t x y z u∧i x y z u∧j x y z u:=⟨x,y,z,u,α,β,γ,δ,ε,ζ,η⟩
theorem sH{a b c d:Sort _}{p q r:a→b→c→d→Prop}(x:a)(y:b)(z:c)(u:d)(α:p x y z u)(β:q x y z u)(γ:r x y z u):∃x y z u,p x y z u∧q x y z u∧r x y z u:=⟨x,y,z,u,α,β,γ⟩
theorem oz{a b c:Sort _}{p q r s t i:a→b→c→Prop}(x:a)(y:b)(z:c)(α:p x y z)(β:q x y z)(γ:r x y z)(δ:s x y z)(ε:t x y z)(ζ:i x y z):∃x y z,p x y z∧q x y z∧r x y z∧s x y z∧t x y z∧i x y z:=⟨x,y,z,α,β,γ,δ,ε,ζ⟩
theorem jW{a b c d:Sort _}{p q r s t i j k:a→b→c→d→Prop}(x:a)(y:b)(z:c)(u:d)(α:p x y z u)(β:q x y z u)(γ:r x y z u)(δ:s x y z u)(ε:t x y z u)(ζ:i x y z u)(η:j x y z u)(θ:k x y z u):∃x y z u,p x y z u∧q x y z u∧r x y z u∧s x y z u∧t x y z u∧i x y z u∧j x y z u∧k x y z u:=⟨x,y,z,u,α,β,γ,δ,ε,ζ,η,θ⟩
theorem mB{a b c:Sort _}{p q r s t i j:a→b→c→Prop}(x:a)(y:b)(z:c)(α:p x y z)(β:q x y z)(γ:r x y z)(δ:s x y z)(ε:t x y z)(ζ:i x y z)(η:j x y z):∃x y z,p x y z∧q x y z∧r x y z∧s x y z∧t x y z∧i x y z∧j x y z:=⟨x,y,z,α,β,γ,δ,ε,ζ,η⟩
theorem lA{a b c d e f:Sort _}{p q r s t:a→b→c→d→e→f→Prop}(x:a)(y:b)(z:c)(u:d)(v:e)(w:f)(α:p x y z u v w)(β:q x y z u v w)(γ:r x y z u v w)(δ:s x y z u v w)(ε:t x y z u v w):∃x y z u v w,p x y z u v w∧q x y z u v w∧r x y z u v w∧s x y z u v w∧t x y z u v w:=⟨x,y,z,u,v,w,α,β,γ,δ,ε⟩
theorem tX{a b c d:Sort _}{p q:a→b→c→Prop}{r:a→b→c→d→Prop}(x:a)(y:b)(z:c)(α:p x y z)(β:q x y z)(u:d)(γ:r x y z u):∃x y z,p x y z∧q x y z∧∃u,r x y z u:=⟨x,y,z,α,β,u,γ⟩
theorem kU{a b c d e:Sort _}{p q r s t i:a→b→c→d→e→Prop}(x:a)(y:b)(z:c)(u:d)(v:e)(α:p x y z u v)(β:q x y z u v)(γ:r x y z u v)(δ:s x y z u v)(ε:t x y z u v)(ζ:i x y z u v):∃x y z u v,p x y z u v∧q x y z u v∧r x y z u v∧s x y z u v∧t x y z u v∧i x y z u v:=⟨x,y,z,u,v,α,β,γ,δ,ε,ζ⟩
theorem oW{a b c d e f a6:Sort _}{p q r s t:a→b→c→d→e→f→a6→Prop}(x:a)(y:b)(z:c)(u:d)(v:e)(w:f)(x6:a6)(α:p x y z u v w x6)(β:q x y z u v w x6)(γ:r x y z u v w x6)(δ:s x y z u v w x6)(ε:t x y z u v w x6):∃x y z u v w x6,p x y z u v w x6∧q x y z u v w x6∧r x y z u v w x6∧s x y z u v w x6∧t x y z u v w x6:=⟨x,y,z,u,v,w,x6,α,β,γ,δ,ε⟩
theorem bb{α:Sort _}{G:Prop}(a:α)(k:∀x,x=a→G):G:=k a rfl
@[elab_as_elim] theorem Jx {α:Sort _} {a b:α} {p:α→Prop} (h:a=b) (x:p b):p a:=by subst h;exact x
@[elab_as_elim] theorem Jt {α:Sort _} {a b:α} {p:α→Prop} (h:b=a) (x:p b):p a:=by subst h;exact x
@[elab_as_elim] theorem Jw {a b:Prop} {p:Prop→Prop} (h:a↔b) (x:p b):p a:=by rw[h];exact x
theorem Jh{α:Type _}{a:α}{G:Prop}(h:none=some a):G:=(Option.some_ne_none a h.symm).elim
theorem Ju{α:Type _}{a:α}{G:Prop}(h:some a=none):G:=(Option.some_ne_none a h).elim
theorem Jp{G:Prop}(h:true=false):G:=(Z0 h.symm).elim
theorem Jv{G:Prop}(h:false=true):G:=(Z0 h).elim
theorem Jr{α:Type _}{a:α}{G:Prop}(h:a∈[]):G:=(List.not_mem_nil h).elim
local macro_rules
  | `(tactic| rewrite [$t:term]) => `(tactic| first | refine Jx $t ?_ | refine Jw $t ?_ | fail)
  | `(tactic| rewrite [← $t:term]) => `(tactic| first | refine Jt $t ?_ | fail)
local macro_rules
  | `(tactic| rw [$r, $rs,*]) => `(tactic| (rewrite [$r]; rw [$rs,*]))
local macro_rules
  | `(tactic| cases $h:ident) => `(tactic| first | exact Jh $h | exact Ju $h | exact Jp $h | exact Jv $h | exact Jr $h | (have q := Option.some.inj $h; clear $h; subst q))
def iG:List Obj→Nat→BT→BT
 | [],_,t=>t
 |o::l,n,t=>iG l (n+1) (t.ins n o)
def FQ(n:Nat)(t:BT):Prop:=∀i,i<n→(t.get i).isSome=true
theorem nu(o:Obj):∀(t:BT)(n:Nat),FQ n t→((t.ins n o).get n).isSome=true
 | .nil,n,h=>by
  have e:n=0:=by
   cases n with
   |zero=>rfl
   |succ n=>exact absurd (h 0 (by lia)) (by simp[BT.get])
  subst e
  rfl
 | .node v l r,n,h=>by
  rw[BT.ins_node]
  by_cases h0:n=0
  ·subst h0;rfl
  ·rw[if_neg h0]
   by_cases h1:n % 2=1
   ·rw[if_pos h1,BT.get_node,if_neg h0,if_pos h1]
    refine nu o l (n/2) λj hj=>?_
    have z:=h (2*j+1) (by lia)
    rw[BT.get_node,if_neg (by lia),if_pos (by lia),show(2*j+1)/2=j by lia]at z
    exact z
   ·rw[if_neg h1,BT.get_node,if_neg h0,if_neg h1]
    refine nu o r (n/2 - 1) λj hj=>?_
    have z:=h (2*j+2) (by lia)
    rw[BT.get_node,if_neg (by lia),if_neg (by lia),show(2*j+2)/2 - 1=j by lia]at z
    exact z
theorem nv:∀(l:List Obj)(n:Nat)(t:BT),FQ n t→∀i,i<n+l.length→(iG l n t).get i=if i<n then t.get i else l[i - n]?
 | [],n,t,h,i,hi=>by rw[if_pos (by simpa using hi)];rfl
 |o::l,n,t,h,i,hi=>by
  have g:=BT.get_ins o t n (nu o t n h)
  have f:FQ (n+1) (t.ins n o):= λj hj=>by
   rw[g]
   by_cases e:j=n
   ·rw[if_pos e];rfl
   ·rw[if_neg e];exact h j (by lia)
  show(iG l (n+1) (t.ins n o)).get i=_
  rw[nv l (n+1) (t.ins n o) f i (by simp at hi;lia),g]
  by_cases h1:i<n
  ·rw[if_pos (by lia),if_neg (by lia),if_pos h1]
  ·by_cases h2:i=n
   ·subst h2;simp
   ·rw[if_neg (by lia),if_neg h1,show i - n=(i - (n+1))+1 by lia,List.getElem?_cons_succ]
def IU(s:Shared):SharedT:=⟨iG s.heap.objs.toList 0 .nil,s.heap.objs.size,s.heap.life,s.gens,s.drawn,s.toks,s.os⟩
theorem v6(s:Shared):(IU s).abs=s:=by
 obtain⟨⟨objs,life⟩,gens,drawn,toks,os⟩:=s
 show(⟨absHeap (iG objs.toList 0 .nil) objs.size life,gens,drawn,toks,os⟩:Shared)=_
 have:absHeap (iG objs.toList 0 .nil) objs.size life=⟨objs,life⟩:=by
  show Heap.mk _ _=Heap.mk _ _
  congr 1
  apply Array.ext_getElem?
  intro i
  have z:=absHeap_at (iG objs.toList 0 .nil) objs.size life i
  have z:((absHeap (iG objs.toList 0 .nil) objs.size life).objs)[i]?=_:=z
  show((absHeap (iG objs.toList 0 .nil) objs.size life).objs)[i]?=objs[i]?
  rw[z]
  by_cases h:i<objs.size
  ·rw[if_pos h,nv objs.toList 0 .nil (λ_ h=>by lia) i (by simpa using h),if_neg (by lia),Nat.sub_zero]
   simp[h]
  ·rw[if_neg h];simp[h]
 rw[this]
theorem Bj{tb:String→Option Builtin}{p:Program}{w:World}{n:Nat}{s s':SharedT}{t t':Thread}(h:impGoT tb p w n s t=some (s',t'))(e:t'.atExitBegin=some []):importEnds tb p w (n+1) s.abs t=some s'.abs:=
 imp_go (impGo_of h) (by unfold importEnds;rw[e])
theorem tW(t:Thread):(endAt 0 t).isSome=through t:=by
 obtain⟨cur,code,pos,stack⟩:=t
 cases stack with
 |nil=>cases cur with
  |pure f=>cases f<;>rfl
  |_=>rfl
 |cons a l=>cases cur with
  |pure f=>cases f<;>rfl
  |_=>rfl
theorem tA{tb:String→Option Builtin}{p:Program}{w:World}{m:Nat}{ann:Option Value}:∀{n:Nat}{s s':Shared}{t:Thread}{f:Flow}{c:Code}{q:Pos},segRun tb p w m ann 0 n s t=some (f,s',c,q)→topRun tb p w m ann n s t=some s'
 |0,_,_,_,_,_,_,h=>by cases h
 |n+1,s,s',t,f,c,q,h=>by
  unfold segRun at h
  unfold topRun
  have e:=tW t
  cases he:endAt 0 t with
  |some g=>rw[he]at h e;cases h;rw[←e];rfl
  |none=>
   rw[he]at h e
   rw[←e]
   cases hk:stepOk m ann t with
   |false=>rw[hk]at h;cases h
   |true=>
    rw[hk]at h
    cases hs:step (denote tb) p w s t with
    |halt o s₂=>rw[hs]at h;cases h
    |go s₂ t₂=>rw[hs]at h;exact tA h
def DB(imp:(String→Option Builtin)→Program→World→Nat→SharedT→Thread→Option (SharedT×Thread))(tb:String→Option Builtin)(fence:Program→Shared→Option Shared)(seg:(String→Option Builtin)→Program→World→Nat→Option Value→Nat→Nat→SharedT→Thread→Option (Flow×SharedT×Code×Pos))(p:Program)(w:World)(n1 n2:Nat):Option (Shared×SharedT):=
 match imp tb (opening p) w n1 (IU (start (opening p)).1) (start (opening p)).2 with
 |some (s,t)=>match t.atExitBegin with
  |some []=>match fence p s.abs with
   |some s0=>match seg tb p w s0.heap.objs.size (s0.heap.nsMap mainGlobals "__annotations__") 0 n2 (IU s0) (topStub p)with
    |some (_,s1,_,_)=>some (s0,s1)
    |none=>none
   |none=>none
  |_=>none
 |none=>none
theorem xD{p:Program}{w:World}{n1 n2 N:Nat}{s0:Shared}{s1:SharedT}(h:DB impGoT treeTable fenceModules? segRunT p w n1 n2=some (s0,s1))(l1:n1+1≤N)(l2:n2≤N):
  fencedOpening treeTable p w N=some s0∧topRun treeTable p w s0.heap.objs.size (s0.heap.nsMap mainGlobals "__annotations__") N s0 (topStub p)=some s1.abs:=by
 unfold DB at h
 split at h
 ·rename_i s t e1
  split at h
  ·rename_i e2
   split at h
   ·rename_i s0' e3
    split at h
    ·rename_i f s1' c q e4
     cases h
     have a:=Bj e1 e2
     rw[v6]at a
     have b:=tA (segRun_of e4)
     rw[v6]at b
     refine⟨?_,?_⟩
     ·unfold fencedOpening
      have:=importEnds_mono (N - (n1+1)) _ _ _ _ a
      rw[show n1+1+(N - (n1+1))=N by lia]at this
      rw[this]
      exact e3
     ·have:=topRun_mono (N - n2) _ _ _ _ b
      rw[show n2+(N - n2)=N by lia]at this
      exact this
    ·cases h
   ·cases h
  ·cases h
 ·cases h
def DF(s:SharedT)(a:Addr):Option Obj:=match Nat.blt a s.n with
 |true=>alive ((s.tree.get a).getD default)
 |false=>none
theorem Bq(s:SharedT)(a:Addr):DF s a=s.abs.heap.get? a:=by
 obtain⟨T,n,life,_,_,_,_⟩:=s
 show(match Nat.blt a n with|true=>alive ((T.get a).getD default)|false=>none)=(absHeap T n life).get? a
 unfold Heap.get?
 rw[absHeap_at]
 by_cases h:a<n
 ·rw[if_pos h,show Nat.blt a n=true from Nat.ble_eq_true_of_le h]
  show alive ((T.get a).getD default)=_
  generalize (T.get a).getD default=o
  obtain⟨c,d,dt,sl⟩:=o
  cases dt<;>rfl
 ·rw[if_neg h]
  cases q:Nat.blt a n with
  |false=>rfl
  |true=>exact absurd (Nat.le_of_ble_eq_true q) h
theorem CG{imp:(String→Option Builtin)→Program→World→Nat→SharedT→Thread→Option (SharedT×Thread)}{tb:String→Option Builtin}{fence:Program→Shared→Option Shared}{seg:(String→Option Builtin)→Program→World→Nat→Option Value→Nat→Nat→SharedT→Thread→Option (Flow×SharedT×Code×Pos)}
  (i1:impGoT=imp)(i2:treeTable=tb)(i3:fenceModules?=fence)(i4:segRunT=seg){p q:Program}{loose:List Str}{Xt:Shared→Bool}{α:Type}{Yf:Shared→α}{Ya:World→α}{N:Nat}{g0:Bool}{n1 n2:Nat}(l1:n1+1≤N)(l2:n2≤N)
  (h:∀w,(DB imp tb fence seg p w n1 n2).map (λr=>((r.1.heap.isNs mainGlobals&&r.1.gens.size==0,staticsOk (importedModules p.main.body) r.1.heap r.2.abs.heap&&namesBound p r.2.abs.heap&&gensDone r.2.abs&&laidKept r.1.heap r.2.abs.heap),openSeen q loose (importedModules p.main.body) Xt g0 r.2.abs,Yf r.2.abs))=some ((true,true),openGood q loose,Ya w)):LeftO p q loose Xt Yf Ya N g0:= λw=>by
 subst i1 i2 i3 i4
 obtain⟨⟨s0,s1⟩,e,e'⟩:=Z6.mp (h w)
 obtain⟨a,b⟩:=xD e l1 l2
 obtain⟨z1,z2⟩:=Prod.mk.inj e'
 obtain⟨y1,y2⟩:=Prod.mk.inj z1
 obtain⟨x1,x2⟩:=Prod.mk.inj z2
 have t:topFrom treeTable p w N s0=some s1.abs:=by
  unfold topFrom
  rw[show(s0.heap.isNs mainGlobals&&s0.gens.size==0)=true from y1,b]
  show(match staticsOk (importedModules p.main.body) s0.heap s1.abs.heap&&namesBound p s1.abs.heap&&gensDone s1.abs&&laidKept s0.heap s1.abs.heap with|true=>_|false=>_)=_
  rw[show(staticsOk (importedModules p.main.body) s0.heap s1.abs.heap&&namesBound p s1.abs.heap&&gensDone s1.abs&&laidKept s0.heap s1.abs.heap)=true from y2]
 unfold openEnds
 rw[a]
 show(topFrom treeTable p w N s0).map _=_
 rw[t]
 exact congrArg some (Prod.ext x1 x2)
abbrev pw:=PySem.Challenge.pw_nb0353_01
def qv:Program:=view pw [0,1,2,4,6,7,8,9,10,11,13,14,15,16,17,18,19,20,22,23,24,25,27,28,30,32,33,34,35,37,38,39,40,41,42]
def lo:List Str:=["_NodeInfo","_twin_re_1","UnsupportedOperation","IOBase","BufferedIOBase","TextIOBase","BytesIO","StringIO","join_path","shlex","split","join_shlex","_find_unsafe"]
noncomputable abbrev pj(w:World):=DB PySem.W.Fast.tw14789777615569096658 PySem.W.Fast.tw14364793385576792824 PySem.W.Fast.tw14289696077712309145 PySem.W.Fast.tw10110043849684766642 pw w 1085 12000
abbrev rr:OpenRow:=PySem.Challenge.rw_nb0353_01.row
abbrev Xt(s:Shared):Bool:=xlAt qv [] s&&recOk (RowW.records rr.toRowW) s
theorem Eb(w:World):(pj w).map (λr=>PySem.W.Fast.tw4187177175401517315 qv lo (importedModules pw.main.body) Xt true r.2.abs)=some (openGood qv lo):=by kernel_rfl
theorem tP:(defOf qv rr.name).isSome=true:=by kernel_rfl
def G5:DefRec×List (Str×Expr):=(defOf qv rr.name).get tP
theorem head_thm(K:Params→Frag)(as:List Addr)(e:∀P,as=(K P).map (·.1))(sd:rr.wellSaid=true)
  (h:∀w,(pj w).map (λr=>((r.1.heap.isNs mainGlobals&&r.1.gens.size==0,staticsOk (importedModules pw.main.body) r.1.heap r.2.abs.heap&&namesBound pw r.2.abs.heap&&gensDone r.2.abs&&laidKept r.1.heap r.2.abs.heap),as.map (DF r.2),[873].map (DF r.2)))=some ((true,true),(K w.params).map (λp=>some p.2),[some (tabObj #[])]))
  (hw:rr.toRowW.promised)(hc:WalkO qv lo (XL qv []) (Hook.says (kmHook K as e [873])) rr.toRowW G5.1 G5.2 λf vs=>PySem.call f vs):rr.Holds:=by
 refine holds_open (q:=qv) (loose:=lo) (Xt:=Xt) (XP:=XL qv []) (Yf:=Hook.obs (kmHook K as e [873])) (Ya:=Hook.val (kmHook K as e [873])) (YP:=Hook.says (kmHook K as e [873])) (N:=13000)
  (CG PySem.W.Fast.te14789777615569096658 PySem.W.Fast.te14364793385576792824 PySem.W.Fast.te14289696077712309145 PySem.W.Fast.te10110043849684766642 (n1:=1085) (n2:=12000) (by decide) (by decide) λw=>?_) (Hook.of _) (Hook.keeps _) (λs e=>xl_of s (ZM.mp e).1) XL.keeps (Option.some_get tP).symm (by kernel_rfl) (by kernel_rfl) (λs e=>recFacts_of (ZM.mp e).2) (by rfl) sd (by kernel_rfl) ⟨rfl,rfl,rfl,rfl,rfl,by decide+kernel⟩ hw hc
 have h1:=h w
 have h2:=Eb w
 rw[←PySem.W.Fast.te4187177175401517315]at h2
 revert h1 h2
 show(pj w).map _=_→(pj w).map _=_→(pj w).map _=_
 generalize pj w=x
 intro h1 h2
 cases x with
 |none=>cases h1
 |some r=>
  have h1:=Option.some.inj h1
  have h2:=Option.some.inj h2
  obtain⟨a,b⟩:=Prod.mk.inj h1
  have g:DF r.2= λa=>r.2.abs.heap.get? a:=funext (Bq r.2)
  rw[g]at b
  exact congrArg some (Prod.ext a (Prod.ext h2 b))
theorem said:PySem.Challenge.rw_nb0353_01.wellSaid=true:=by
 rw[PySem.W.Fast.te9446332074065402090]
 unfold PySem.W.Fast.tw9446332074065402090 PySem.W.Fast.tw17960256430627541270 PySem.W.Fast.tw2436336058641802641 PySem.W.Fast.tw12908688711261696721
 simp only[Z3]
 and_intros
 all_goals as_aux_lemma=>kernel_rfl
section
local macro_rules | `(tactic|o_law)=> `(tactic|refine holds_law Mine.said λ_=>?_)
local macro_rules | `(tactic|o_head ($f $K $a $e))=> `(tactic|(refine Mine.head_thm $K $a $e (row_said Mine.said) ?hl ?hw ?hc;(case hl=>(intro w;kernel_rfl))))
open_top hd for PySem.Challenge.rw_nb0353_01
end
local macro_rules | `(tactic| w_on) => `(tactic| kernel_rfl)
theorem ak{α:Type}{H:List α}{x y:Nat}{o z:α}(h:H[y]?=some z)(ne:y≠x):(H.set x o)[y]?=some z:=by rw[zN (Ne.symm ne)];exact h
theorem bH{α:Type}{H:List α}{x:Nat}{o:α}(h:x<H.length):(H.set x o)[x]?=some o:=zT h
theorem aB{α:Type}{H L:List α}{y:Nat}{z:α}(h:H[y]?=some z):(H++L)[y]?=some z:=by rw[zL (zS.mp h).1];exact h
theorem aP{α:Type}{H:List α}{o:α}:(H++[o])[H.length]?=some o:=by rw[zR (ZA _),ZY];rfl
theorem aq{α:Type}{H:List α}{y:Nat}{z:α}(h:H[y]?=some z):y<H.length:=(zS.mp h).1
theorem Cu{P:Nat→Prop}{n:Nat}(a:P n)(h:∀k,k<n→P k)(k:Nat)(hk:k<n+1):P k:=(Nat.lt_succ_iff_lt_or_eq.mp hk).elim (h k) λe=>e▸a
theorem IY{P:Nat→Prop}(k:Nat)(h:k<0):P k:=absurd h (Nat.not_lt_zero k)
@[elab_as_elim] theorem Cr {P:Nat→Prop} {k:Nat} (h:k<2) (a:P 0) (b:P 1):P k:=Cu b (Cu a IY) k h
@[elab_as_elim] theorem IS {P:Nat→Prop} {k:Nat} (h:k<3) (a:P 0) (b:P 1) (c:P 2):P k:=Cu c (Cu b (Cu a IY)) k h
@[elab_as_elim] theorem Jq {P:Nat→Prop} {k:Nat} (h:k<5) (a:P 0) (b:P 1) (c:P 2) (d:P 3) (e:P 4):P k:=Cu e (Cu d (Cu c (Cu b (Cu a IY)))) k h
theorem br{P:Prop}(h:∀G:Prop,(P→G)→G):P:=h P id
inductive AV where
 |none
 |bool (b:Bool)
 |int (i:Int)
 |str (s:Str)
 |obj (n:Nat)
 |val (v:Value)
 deriving Inhabited
noncomputable def VR(ρ:Nat→Addr)(n:Nat):AV→Value→Prop
 | .none,v=>v=.none
 | .bool b,v=>v=.bool b
 | .int i,v=>∃t,v=.int i t
 | .str s,v=>∃t,v=.str s t
 | .obj i,v=>i<n∧v=.ref (ρ i)
 | .val w,v=>v=w
inductive cF(ρ:Nat→Addr)(n:Nat):List AV→List Value→Prop where
 |nil:cF ρ n [] []
 |cons {a v as vs} (h:VR ρ n a v) (t:cF ρ n as vs):cF ρ n (a::as) (v::vs)
@[elab_as_elim] theorem jj {ρ:Nat→Addr} {n:Nat} {a:AV} {as:List AV} {xs:List Value} {G:List Value→Prop} (h:cF ρ n (a::as) xs) (k:∀x xs,VR ρ n a x→cF ρ n as xs→G (x::xs)):G xs:=by
 cases h with
 |cons h t=>exact k _ _ h t
@[elab_as_elim] theorem lL {ρ:Nat→Addr} {n:Nat} {a:AV} {xs:List Value} {G:List Value→Prop} (h:cF ρ n [a] xs) (k:∀x,VR ρ n a x→G [x]):G xs:=by
 refine jj h λx xs h t=>?_
 cases t;exact k _ h
@[elab_as_elim] theorem I0 {ρ:Nat→Addr} {n:Nat} {a b:AV} {xs:List Value} {G:List Value→Prop} (h:cF ρ n [a,b] xs) (k:∀x y,VR ρ n a x→VR ρ n b y→G [x,y]):G xs:=by
 exact jj h λx xs h t=>lL t λy hy=>k _ y h hy
inductive wG(ρ:Nat→Addr)(n:Nat):List (Str×AV)→List DictEntry→Prop where
 |nil:wG ρ n [] []
 |cons {p e ps es} (k:∃t,e.key=.str p.1 t) (h:VR ρ n p.2 e.val) (t:wG ρ n ps es):wG ρ n (p::ps) (e::es)
inductive AO where
 |list (vs:List AV)
 |tuple (vs:List AV)
 |dict (es:List (Str×AV))
 |inst (C:Addr) (d:Nat)
 |cell (v:Option AV)
 |meth (f:Value) (self:AV)
 |fix (o:Obj)
 |is (P:(Nat→Addr)→Nat→Obj→Prop)
 deriving Inhabited
noncomputable def OR(ρ:Nat→Addr)(n:Nat):AO→Obj→Prop
 | .list vs,o=>∃its e,o={cls:=.type "list",data:=.seq ⟨its⟩ e}∧cF ρ n vs its
 | .tuple vs,o=>∃its e,o={cls:=.type "tuple",data:=.seq ⟨its⟩ e}∧cF ρ n vs its
 | .dict es,o=>∃ents e,o={cls:=.type "dict",data:=.dict ⟨ents⟩ e}∧wG ρ n es ents
 | .inst C d,o=>d<n∧o={cls:=.ref C,dict:=some (ρ d),data:=.plain}
 | .cell v,o=>∃c,o.data=.cell c∧(match v,c with
   |some a,some x=>VR ρ n a x
   |none,none=>True
   |_,_=>False)
 | .meth f a,o=>∃x,o={cls:=.type "method",data:=.fields #[f,x]}∧VR ρ n a x
 | .fix p,o=>o=p
 | .is P,o=>∀ρ' n',(∀i,i<n→ρ' i=ρ i)→n≤n'→P ρ' n' o
structure Cx where
 prog:Program
 w:World
 h₁:Heap
 K:Frag
 tj:Addr
 mg:Str→Option Value
 mb:Str→Option Value
 gq:Array GenState→Drawn→Prop
 rz:Bool
noncomputable abbrev Cx.M(c:Cx):Model:=model c.prog c.w
structure Cx.Ok(c:Cx):Prop where
 X:c.K.In c.h₁
 ktj:c.K.lookup c.tj=none
 tjx:∃o,c.h₁.get? c.tj=some o
 g:c.h₁.Ns mainGlobals c.mg
 gt:mainGlobals≠c.tj
 b:c.h₁.Ns builtinsNs c.mb
 bt:builtinsNs≠c.tj
 lim:c.h₁.NoLimit
 lt:cStatics≠c.tj
 bi:∀x,x≠("__name__":Str)→c.mb x=bootBuiltins x
noncomputable def Gs(c:Cx)(h:Heap):Prop:=∀o,c.h₁.get? c.tj=some o→h.get? c.tj=some o∨
 (isCodeTable c.h₁ c.tj∧o.cls=.none∧∃vs more,(o.data=.fields vs∧(TriplesOk vs.toList→TriplesOk (vs++more).toList))∧h.get? c.tj=some {o with data:=.fields (vs++more)})
theorem Gs.there{c:Cx}{h:Heap}(x:Gs c h){o:Obj}(e:c.h₁.get? c.tj=some o):∃o',h.get? c.tj=some o':=by
 rcases x o e with h|⟨_,_,vs,more,_,h⟩
 ·exact⟨_,h⟩
 ·exact⟨_,h⟩
structure eu(c:Cx)(ρ:Nat→Addr)(H:List AO)(h:Heap):Prop where
 at_:∀i o,H[i]?=some o→∃ob,h.get? (ρ i)=some ob∧OR ρ H.length o ob
 inj:∀i j,i<H.length→j<H.length→ρ i=ρ j→i=j
 up:∀i,i<H.length→c.h₁.get? (ρ i)=none
 base:∀b o,c.h₁.get? b=some o→b≠c.tj→h.get? b=some o
 tj:Gs c h
structure St where
 loc:List (Str×AV)
 H:List AO
structure Fs where
 scope:Scope
 cells:List (Str×Nat)
noncomputable def xO(c:Cx)(ρ:Nat→Addr)(n:Nat)(h:Heap)(e:Env):Prop:=
 e.scope.kind≠.module∧∃L o es ep,e.frame=some L∧c.h₁.get? L=none∧h.get? L=some o∧o.data=.dict es ep∧∀i,i<n→ρ i≠L
noncomputable def rf(c:Cx)(A:Around)(ρ:Nat→Addr)(n:Nat)(h:Heap):Prop:=c.rz=true→∃l,A.frames=some l∧∀e∈l,xO c ρ n h e
theorem xO.keep{c:Cx}{ρ ρ':Nat→Addr}{n n':Nat}{h h':Heap}{e:Env}(x:xO c ρ n h e)(ag:∀i,i<n→ρ' i=ρ i)(nw:∀i,n≤i→i<n'→h.get? (ρ' i)=none)
  (kd:∀b o es ep,h.get? b=some o→o.data=.dict es ep→(∀i,i<n→ρ i≠b)→c.h₁.get? b=none→∃o' es' ep',h'.get? b=some o'∧o'.data=.dict es' ep'):xO c ρ' n' h' e:=by
 refine br λGz kz=>?_
 refine eV x λhk L o es ep h1 h2 h3 h4 h5=>?_
 refine dc (kd L o es ep h3 h4 h5 h2) λo' es' ep' g1 g2=>?_
 refine kz ?_
 refine eO hk L o' es' ep' h1 h2 g1 g2 λi hi q=>?_
 by_cases hn:i<n
 ·rw[ag i hn]at q;exact h5 i hn q
 ·have:=nw i (ZW hn) hi
  rw[q,h3]at this;cases this
theorem rf.keep{c:Cx}{A:Around}{ρ ρ':Nat→Addr}{n n':Nat}{h h':Heap}(x:rf c A ρ n h)(ag:∀i,i<n→ρ' i=ρ i)(nw:∀i,n≤i→i<n'→h.get? (ρ' i)=none)
  (kd:∀b o es ep,h.get? b=some o→o.data=.dict es ep→(∀i,i<n→ρ i≠b)→c.h₁.get? b=none→∃o' es' ep',h'.get? b=some o'∧o'.data=.dict es' ep'):rf c A ρ' n' h':=by
 intro hz
 refine aj (x hz) λl h1 h2=>?_
 exact al l h1 λe he=>(h2 e he).keep ag nw kd
theorem rf.same{c:Cx}{A:Around}{ρ:Nat→Addr}{n n':Nat}{h h':Heap}(x:rf c A ρ n h)(hn:n'=n)
  (kd:∀b o es ep,h.get? b=some o→o.data=.dict es ep→(∀i,i<n→ρ i≠b)→c.h₁.get? b=none→∃o' es' ep',h'.get? b=some o'∧o'.data=.dict es' ep'):rf c A ρ n' h':=
 x.keep (λ_ _=>rfl) (λi h1 h2=>absurd (hn▸h2) (ZX.mpr h1)) kd
structure aW(c:Cx)(A:Around)(F:Fs)(ρ:Nat→Addr)(σ:St)(s:Shared)(env:Env):Prop where
 hr:eu c ρ σ.H s.heap
 sc:env.scope=F.scope
 gl:env.globals=mainGlobals
 bl:env.builtins=builtinsNs
 ce:env.cells=F.cells.map λp=>(p.1,ρ p.2)
 ci:∀p∈F.cells,p.2<σ.H.length
 lo:∃m,s.heap.Ns env.locals m∧∀x v,σ.loc.lookup x=some v→∃v',m x=some v'∧VR ρ σ.H.length v v'
 ap:∀i,i<σ.H.length→ρ i≠env.locals
 lf:c.h₁.get? env.locals=none
 ge:c.gq s.gens s.drawn
 sk:rf c A ρ σ.H.length s.heap
 tp:c.rz=true→env.func.isSome=true→∃outer,A.frames=some (env::outer)
 fl:F.scope.names.lookup (".0":Str)=none→env.func.isSome=true∧env.frame=some env.locals
noncomputable def mj(o o':Obj):Prop:=∃sl,o'={o with slots:=sl}∧((∀es e,o.data≠.dict es e)→sl=o.slots)
theorem mj.refl{o:Obj}:mj o o:=al o.slots rfl λ_=>rfl
theorem mj.trans{o o' o₂:Obj}(a:mj o o')(b:mj o' o₂):mj o o₂:=by
 refine aj a ?_;clear a;intro s1 z0 h1;subst z0
 refine aj b ?_;clear b;intro s2 z0 h2;subst z0
 exact al s2 rfl λh=>(h2 h).trans (h1 h)
theorem mj.data{o o':Obj}(a:mj o o'):o'.data=o.data:=by refine aj a ?_;clear a;intro s1 z0 h1;subst z0;rfl
theorem mj.eq{o o':Obj}(a:mj o o')(h:∀es e,o.data≠.dict es e):o'=o:=by refine aj a ?_;clear a;intro s1 z0 h1;subst z0;rw[h1 h]
noncomputable def IW(c:Cx)(ρ:Nat→Addr)(n:Nat)(L:Addr→Prop)(h h':Heap):Prop:=
 (∀b o,h.get? b=some o→∃o',h'.get? b=some o')∧∀b o,h.get? b=some o→b≠c.tj→¬L b→(∀i,i<n→ρ i≠b)→∃o',h'.get? b=some o'∧mj o o'
structure aM(c:Cx)(ρ:Nat→Addr)(n:Nat)(L:Addr→Prop)(s:Shared)(ρ':Nat→Addr)(n':Nat)(s':Shared):Prop where
 ag:∀i,i<n→ρ' i=ρ i
 le:n≤n'
 nw:∀i,n≤i→i<n'→s.heap.get? (ρ' i)=none
 kp:IW c ρ n L s.heap s'.heap
 os:s'.os=s.os
section
variable{c:Cx}{ρ ρ' ρ₂:Nat→Addr}{n n' n₂:Nat}{L:Addr→Prop}{s s' s₂:Shared}
theorem VR.mono{a:AV}{v:Value}(h:VR ρ n a v)(ag:∀i,i<n→ρ' i=ρ i)(le:n≤n'):VR ρ' n' a v:=by
 cases a<;>simp only[VR]at h ⊢ <;>try exact h
 refine aO h ?_;clear h;intro hi z0;subst z0
 exact⟨ZE hi le,by rw[ag _ hi]⟩
theorem cF.mono{as:List AV}{vs:List Value}(h:cF ρ n as vs)(ag:∀i,i<n→ρ' i=ρ i)(le:n≤n'):cF ρ' n' as vs:=by
 induction h with
 |nil=>exact .nil
 |cons h _ ih=>exact .cons (h.mono ag le) ih
theorem wG.mono{as:List (Str×AV)}{vs:List DictEntry}(h:wG ρ n as vs)(ag:∀i,i<n→ρ' i=ρ i)(le:n≤n'):wG ρ' n' as vs:=by
 induction h with
 |nil=>exact .nil
 |cons k h _ ih=>exact .cons k (h.mono ag le) ih
theorem OR.mono{o:AO}{ob:Obj}(h:OR ρ n o ob)(ag:∀i,i<n→ρ' i=ρ i)(le:n≤n'):OR ρ' n' o ob:=by
 cases o with
 |list vs=>refine ds h λits e h1 h2=>?_;exact cH its e h1 (h2.mono ag le)
 |tuple vs=>refine ds h λits e h1 h2=>?_;exact cH its e h1 (h2.mono ag le)
 |dict es=>refine ds h λits e h1 h2=>?_;exact cH its e h1 (h2.mono ag le)
 |inst C d=>refine aO h λh1 h2=>?_;exact⟨ZE h1 le,by rw[ag _ h1];exact h2⟩
 |cell v=>
  refine aj h λx h1 h2=>?_
  refine al x h1 ?_
  cases v<;>cases x<;>first|trivial|exact h2.elim|exact VR.mono h2 ag le
 |meth f a=>refine aj h λx h1 h2=>?_;exact al x h1 (h2.mono ag le)
 |fix p=>exact h
 |is P=>exact λρ2 n2 h1 h2=>h ρ2 n2 (λi hi=>(h1 i (ZE hi le)).trans (ag i hi)) (Z2 le h2)
theorem aM.refl:aM c ρ n L s ρ n s:=⟨λ_ _=>rfl,ZA _,λ_ a b=>absurd b (ZX.mpr a),⟨λ_ o e=>⟨o,e⟩,λ_ _ e _ _ _=>al _ e .refl⟩,rfl⟩
theorem aM.toks(t:Nat):aM c ρ n L s ρ n {s with toks:=t}:=⟨λ_ _=>rfl,ZA _,λ_ a b=>absurd b (ZX.mpr a),⟨λ_ o e=>⟨o,e⟩,λ_ _ e _ _ _=>al _ e .refl⟩,rfl⟩
theorem aM.trans(a:aM c ρ n L s ρ' n' s')(b:aM c ρ' n' L s' ρ₂ n₂ s₂):aM c ρ n L s ρ₂ n₂ s₂:=by
 refine⟨λi h=>(b.ag i (ZE h a.le)).trans (a.ag i h),Z2 a.le b.le,λi h1 h2=>?_,⟨λx o e=>?_,λx o e h1 h2 h3=>?_⟩,b.os.trans a.os⟩
 ·by_cases h:i<n'
  ·rw[b.ag i h];exact a.nw i h1 h
  ·cases q:s.heap.get? (ρ₂ i)with
   |none=>rfl
   |some o=>
    refine bp (a.kp.1 _ o q) λo' e=>?_
    rw[b.nw i (ZW h) h2]at e;cases e
 ·refine bp (a.kp.1 x o e) λo' e'=>?_
  exact b.kp.1 x o' e'
 ·refine aj (a.kp.2 x o e h1 h2 h3) λo1 e1 l1=>?_
  have hh:∀i,i<n'→ρ' i≠x:=?_
  ·refine aj (b.kp.2 x o1 e1 h1 h2 hh) λo2 e2 l2=>?_
   exact al o2 e2 (l1.trans l2)
  intro i hi q
  by_cases h:i<n
  ·exact h3 i h (by rw[←a.ag i h];exact q)
  ·have:=a.nw i (ZW h) hi
   rw[q,e]at this;cases this
end
section
variable{c:Cx}{A:Around}{F:Fs}{ρ ρ':Nat→Addr}{σ σ':St}{s s':Shared}{env:Env}
theorem eu.X{H:List AO}{h:Heap}(r:eu c ρ H h)(O:c.Ok):c.K.In h:= λa o e=>r.base a o (O.X a o e) (by rintro rfl;rw[O.ktj]at e;cases e)
theorem aW.X(r:aW c A F ρ σ s env)(O:c.Ok):c.K.In s.heap:=r.hr.X O
theorem f9{h:Heap}{a:Addr}{m}(hb:∀b o,c.h₁.get? b=some o→b≠c.tj→h.get? b=some o)(n:c.h₁.Ns a m)(t:a≠c.tj):h.Ns a m:=
 let⟨o,es,ep,e,r⟩:=n;(bh o es ep (hb _ _ e t) r)
theorem eu.lim{H:List AO}{h:Heap}(r:eu c ρ H h)(O:c.Ok):h.NoLimit:=let⟨mc,h1,h2⟩:=O.lim;(al mc (f9 r.base h1 O.lt) h2)
theorem aW.toks(r:aW c A F ρ σ s env)(t:Nat):aW c A F ρ σ {s with toks:=t} env:=⟨r.hr,r.sc,r.gl,r.bl,r.ce,r.ci,r.lo,r.ap,r.lf,r.ge,r.sk,r.tp,r.fl⟩
end
noncomputable def ko(h:Heap)(L d:Addr):List (Addr×Obj):=(ZH h.objs.size).filterMap λa=>if a=L∨a=d then none else(h.get? a).map λo=>(a,o)
theorem kK{h:Heap}{L d:Addr}{p:Addr×Obj}:p∈ko h L d↔p.1≠L∧p.1≠d∧h.get? p.1=some p.2:=by
 unfold ko
 rw[Zx]
 constructor
 ·rintro⟨a,_,e⟩
  split at e
  ·cases e
  ·rename_i q
   refine aj (Z6.mp e) λo h1 h2=>?_
   subst h2
   exact⟨λz=>q (.inl z),λz=>q (.inr z),h1⟩
 ·rintro⟨h1,h2,h3⟩
  refine al p.1 (ZP.mpr (ZB h3)) ?_
  rw[if_neg (by rintro(z|z)<;>contradiction),h3]
  rfl
noncomputable def om:Heap:=⟨#[],{}⟩
theorem j9(a:Addr):om.get? a=none:=by simp[om,Heap.get?]
theorem ma{h:Heap}{L:Addr}{m:Str→Option Value}(hn:h.Ns L m):Fr om L h m:=⟨hn,λb o e=>(by rw[j9]at e;cases e),Zl _⟩
theorem mv{h:Heap}{L d:Addr}{o:Obj}(hd:h.get? d=some o)(hne:d≠L):News om L h (ko h L d++(d,o)::[]):=by
 intro p hp
 rcases ZT.mp hp with hp|hp
 ·refine fP (kK.mp hp) λh1 _ h3=>?_
  exact⟨h3,h1,j9 _⟩
 ·rcases ZI.mp hp with rfl|hp
  ·exact⟨hd,hne,j9 _⟩
  ·cases hp
theorem o0{h:Heap}{L d:Addr}:∀p∈ko h L d,p.1≠d:= λ_ hp=>(kK.mp hp).2.1
theorem pz{h h':Heap}{L d:Addr}{o':Obj}(N:News om L h' (ko h L d++(d,o')::[])):
  h'.get? d=some o'∧∀b o,h.get? b=some o→b≠L→b≠d→h'.get? b=some o:=
 ⟨(N (d,o') (by simp)).1,λb o e h1 h2=>(N (b,o) (ZT.mpr (.inl (kK.mpr ⟨h1,h2,e⟩)))).1⟩
section
variable{c:Cx}{A:Around}{F:Fs}{ρ:Nat→Addr}{σ:St}{s:Shared}{env:Env}
theorem aW.upd(r:aW c A F ρ σ s env){d:Nat}{ao:AO}{ob:Obj}{h':Heap}{tk:Nat}(hd:d<σ.H.length)(hg:h'.get? (ρ d)=some ob)(ho:OR ρ σ.H.length ao ob)
  (hk:∀b o,s.heap.get? b=some o→b≠env.locals→b≠ρ d→h'.get? b=some o)(hl:∀m,s.heap.Ns env.locals m→h'.Ns env.locals m):
  aW c A F ρ ⟨σ.loc,σ.H.set d ao⟩ ⟨h',s.gens,s.drawn,tk,s.os⟩ env∧aM c ρ σ.H.length (· =env.locals) s ρ (σ.H.set d ao).length ⟨h',s.gens,s.drawn,tk,s.os⟩:=by
 have len:(σ.H.set d ao).length=σ.H.length:=Z4
 refine aj (r.lo) λm hn hm=>?_
 have hn':=hl m hn
 have nb:∀b o,c.h₁.get? b=some o→b≠env.locals∧b≠ρ d:= λb o e=>⟨(by rintro rfl;rw[r.lf]at e;cases e),(by rintro rfl;rw[r.hr.up d hd]at e;cases e)⟩
 refine⟨⟨⟨λi o e=>?_,λi j hi hj=>r.hr.inj i j (len▸hi) (len▸hj),λi hi=>r.hr.up i (len▸hi),λb o e t=>?_,λo e=>?_⟩,r.sc,r.gl,r.bl,r.ce,λp hp=>by rw[len];exact r.ci p hp,al m hn' λx v hv=>?_,λi hi=>r.ap i (len▸hi),r.lf,r.ge,r.sk.same len λb o es ep e1 e2 e3 e4=>?_,r.tp,r.fl⟩,
  ⟨λ_ _=>rfl,Nat.le_of_eq len.symm,λi h1 h2=>absurd (len▸h2) (ZX.mpr h1),⟨λb o e=>?_,λb o e t hL h3=>al o (hk b o e hL λq=>h3 d hd q.symm) .refl⟩,rfl⟩⟩
 ·rw[len]
  by_cases hi:i=d
  ·subst hi
   rw[zT hd]at e
   cases e
   exact al ob hg ho
  ·rw[zN (Ne.symm hi)]at e
   refine aj (r.hr.at_ i o e) λob' h1 h2=>?_
   have il:i<σ.H.length:=aq e
   exact al ob' (hk _ _ h1 (r.ap i il) λq=>hi (r.hr.inj i d il hd q)) h2
 ·exact hk b o (r.hr.base b o e t) (nb b o e).1 (nb b o e).2
 ·refine aO (nb _ _ e) λn1 n2=>?_
  rcases r.hr.tj o e with z|⟨z1,z2,vs,more,z3,z4⟩
  ·exact .inl (hk _ _ z n1 n2)
  ·exact .inr (bS z1 z2 vs more z3 (hk _ _ z4 n1 n2))
 ·rw[len];exact hm x v hv
 ·by_cases h1:b=env.locals
  ·subst h1
   refine dh hn' λo' es' ep' q1 q2 _=>?_
   exact bh o' es' ep' q1 q2
  ·exact bh o es ep (hk b o e1 h1 λq=>e3 d hd q.symm) e2
 ·by_cases h1:b=env.locals
  ·subst h1
   refine dc hn' λo' _ _ e' _=>?_
   exact⟨o',e'⟩
  ·by_cases h2:b=ρ d
   ·subst h2;exact⟨ob,hg⟩
   ·exact⟨o,hk b o e h1 h2⟩
end
noncomputable def cK(k:Nat)(A:Around):Prop:=A.depth+4*k≤900∧A.units+12*k≤9000∧(100≤k→A.handled=none)
noncomputable def De(c:Cx)(F:Fs)(k:Nat){α:Type}(t:Env→Sem α)(σ:St)(R:(Nat→Addr)→α→Prop)(σ':St):Prop:=
 ∀(A:Around)(ρ:Nat→Addr)(s:Shared)(env:Env)(Q:α→Shared→Prop)(E:Value→Shared→Prop),cK k A→aW c A F ρ σ s env→
  (∀ρ' s' a,aW c A F ρ' σ' s' env→aM c ρ σ.H.length (· =env.locals) s ρ' σ'.H.length s'→R ρ' a→Q a s')→wpAny c.M A (t env) Q E s
noncomputable abbrev Ev(c:Cx)(F:Fs)(k:Nat)(e:Expr)(σ:St)(v:AV)(σ':St):Prop:=De c F k (eval e) σ (λρ=>VR ρ σ'.H.length v) σ'
section
variable{c:Cx}{F:Fs}{k:Nat}{σ σ':St}
theorem bx{q pos}:Ev c F k (.Constant .none q pos) σ .none σ:= λ_ ρ s _ _ _ _ r h=>Constant_none (h ρ s _ r .refl rfl)
theorem gJ{b q pos}:Ev c F k (.Constant (.bool b) q pos) σ (.bool b) σ:= λ_ ρ s _ _ _ _ r h=>Constant_bool (h ρ s _ r .refl rfl)
theorem aJ{i q pos}:Ev c F k (.Constant (.int i) q pos) σ (.int i) σ:= λ_ ρ s _ _ _ _ r h=>wpAny_Constant_int (h ρ _ _ (r.toks _) (.toks _) ⟨_,rfl⟩)
theorem bn{x q pos}:Ev c F k (.Constant (.str x) q pos) σ (.str x) σ:= λ_ ρ s _ _ _ _ r h=>Calls.Constant_str (h ρ _ _ (r.toks _) (.toks _) ⟨_,rfl⟩)
theorem aa{x pos v}(hk:F.scope.kind=.function)(hx:F.scope.names.lookup x=some .local)(hv:σ.loc.lookup x=some v)(hd:(x==("__debug__":Str))=false:=by decide):Ev c F k (.Name x pos) σ v σ:= λA ρ s env Q E _ r h=>by
 refine aj (r.lo) λm hn hm=>?_
 refine aj (hm x v hv) λv' h1 h2=>?_
 exact wpAny_Name (wpAny_loadName_local (by rw[r.sc];exact hk) (by unfold Env.kindOf;rw[r.sc];exact hx) hn h1 (h ρ s v' r .refl h2)) hd
theorem lZ{x pos v}(O:c.Ok)(hk:F.scope.kind=.function)(hx:F.scope.names.lookup x=some .globalImplicit)(hv:nsIn c.K mainGlobals x=some (some v))(hd:(x==("__debug__":Str))=false):Ev c F k (.Name x pos) σ (.val v) σ:= λA ρ s env Q E _ r h=>by
 refine Calls.Name_function_global (by rw[r.sc];exact hk) (by unfold Env.kindOf;rw[r.sc];exact hx) (Calls.loadGlobal_global (mg:=c.mg) ?_ (mg_of O.X O.g hv) (h ρ s v r .refl rfl)) hd
 rw[r.gl];exact f9 r.hr.base O.g O.gt
theorem fJ{x pos v}(O:c.Ok)(hk:F.scope.kind=.function)(hx:F.scope.names.lookup x=some .globalImplicit)(hv:nsIn c.K mainGlobals x=some none)(hb:bootBuiltins x=some v)(hn:x≠("__name__":Str))(hd:(x==("__debug__":Str))=false):Ev c F k (.Name x pos) σ (.val v) σ:= λA ρ s env Q E _ r h=>by
 refine Calls.Name_function_global (by rw[r.sc];exact hk) (by unfold Env.kindOf;rw[r.sc];exact hx) (Calls.loadGlobal_builtin (mg:=c.mg) (mb:=c.mb) ?_ (mg_none_of O.X O.g hv) ?_ ((O.bi x hn).trans hb) (h ρ s v r .refl rfl)) hd
 ·rw[r.gl];exact f9 r.hr.base O.g O.gt
 ·rw[r.bl];exact f9 r.hr.base O.b O.bt
end
noncomputable def aS{α:Type}(x:Str)(v:α):List (Str×α)→List (Str×α)
 | []=>[(x,v)]
 |p::r=>if p.1==x then(p.1,v)::r else p::aS x v r
theorem gB{α:Type}{x:Str}{v:α}{p:Str×α}{r:List (Str×α)}:aS x v (p::r)=if p.1==x then(p.1,v)::r else p::aS x v r:=rfl
theorem ah{α:Type}(x:Str)(v:α)(l:List (Str×α)):(aS x v l).lookup x=some v:=by
 induction l with
 |nil=>exact List.lookup_cons_self
 |cons p r ih=>
  rw[gB]
  by_cases h:(p.1==x)=true
  ·rw[if_pos h,ZD,BEq.comm.trans h]
  ·rw[if_neg h,ZD,BEq.comm.trans (Bool.eq_false_iff.mpr h)];exact ih
theorem bV{α:Type}(x y:Str)(v:α)(hne:y≠x)(l:List (Str×α)):(aS x v l).lookup y=l.lookup y:=by
 induction l with
 |nil=>show YB y [(x,v)]=none;rw[ZD,beq_false_of_ne hne];rfl
 |cons p r ih=>
  rw[gB]
  by_cases h:(p.1==x)=true
  ·have e:(y==p.1)=false:=by rw[eq_of_beq h];exact beq_false_of_ne hne
   rw[if_pos h,ZD,ZD,e]
  ·rw[if_neg h,ZD,ZD,ih]
theorem dQ{α:Type}{x y:Str}{v:α}{l:List (Str×α)}{o:Option α}(h:l.lookup y=o)(hne:y≠x:=by decide):(aS x v l).lookup y=o:=(bV x y v hne l).trans h
section
variable{c:Cx}{A:Around}{F:Fs}{ρ ρ':Nat→Addr}{σ σ':St}{s s':Shared}{env:Env}{n n':Nat}{L:Addr→Prop}
theorem aM.vr(st:aM c ρ n L s ρ' n' s'){a:AV}{v:Value}(h:VR ρ n a v):VR ρ' n' a v:=h.mono st.ag st.le
theorem aM.vrs(st:aM c ρ n L s ρ' n' s'){a:List AV}{v:List Value}(h:cF ρ n a v):cF ρ' n' a v:=h.mono st.ag st.le
theorem aW.bind(r:aW c A F ρ σ s env){x:Str}{a:AV}{v:Value}{h':Heap}{tk:Nat}(hv:VR ρ σ.H.length a v)
  (hn:∀m,s.heap.Ns env.locals m→h'.Ns env.locals (λy=>if y=x then some v else m y))(hs:Heap.SameBut env.locals s.heap h'):
  aW c A F ρ ⟨aS x a σ.loc,σ.H⟩ ⟨h',s.gens,s.drawn,tk,s.os⟩ env∧aM c ρ σ.H.length (· =env.locals) s ρ σ.H.length ⟨h',s.gens,s.drawn,tk,s.os⟩:=by
 refine aj (r.lo) λm hm hl=>?_
 have nb:∀b o,c.h₁.get? b=some o→b≠env.locals:= λb o e=>by rintro rfl;rw[r.lf]at e;cases e
 have kp:∀b o,s.heap.get? b=some o→b≠env.locals→h'.get? b=some o:= λb o e h=>(hs.2 b h).trans e
 refine⟨⟨⟨λi o e=>?_,r.hr.inj,r.hr.up,λb o e t=>kp b o (r.hr.base b o e t) (nb b o e),λo e=>?_⟩,r.sc,r.gl,r.bl,r.ce,r.ci,al _ (hn m hm) λy b hy=>?_,r.ap,r.lf,r.ge,r.sk.same rfl λb o es ep e1 e2 e3 e4=>?_,r.tp,r.fl⟩,
  ⟨λ_ _=>rfl,ZA _,λi h1 h2=>absurd h2 (ZX.mpr h1),⟨λb o e=>?_,λb o e t hL _=>al o (kp b o e hL) .refl⟩,rfl⟩⟩
 ·refine aj (r.hr.at_ i o e) λob h1 h2=>?_
  exact al ob (kp _ _ h1 (r.ap i (aq e))) h2
 ·rcases r.hr.tj o e with z|⟨z1,z2,vs,more,z3,z4⟩
  ·exact .inl (kp _ _ z (nb _ _ e))
  ·exact .inr (bS z1 z2 vs more z3 (kp _ _ z4 (nb _ _ e)))
 ·by_cases hxy:y=x
  ·subst hxy
   rw[show(⟨aS y a σ.loc,σ.H⟩:St).loc=aS y a σ.loc from rfl,ah]at hy
   cases hy
   exact al v (by simp) hv
  ·rw[show(⟨aS x a σ.loc,σ.H⟩:St).loc=aS x a σ.loc from rfl,bV x y a hxy]at hy
   refine aj (hl y b hy) λv' h1 h2=>?_
   exact al v' (by simp only[if_neg hxy];exact h1) h2
 ·by_cases hb:b=env.locals
  ·subst hb
   refine dh (hn m hm) λo' es' ep' e' d' _=>?_
   exact bh o' es' ep' e' d'
  ·exact bh o es ep (kp b o e1 hb) e2
 ·by_cases hb:b=env.locals
  ·subst hb
   refine dc (hn m hm) λo' _ _ e' _=>?_
   exact⟨o',e'⟩
  ·exact⟨o,kp b o e hb⟩
end
noncomputable def EZ(c:Cx)(F:Fs)(k:Nat){α:Type}(f:Value→Sem α)(a:AV)(σ:St)(R:(Nat→Addr)→α→Prop)(σ':St):Prop:=
 ∀(A:Around)(ρ:Nat→Addr)(s:Shared)(env:Env)(Q:α→Shared→Prop)(E:Value→Shared→Prop)(x:Value),cK k A→aW c A F ρ σ s env→VR ρ σ.H.length a x→
  (∀ρ' s' r,aW c A F ρ' σ' s' env→aM c ρ σ.H.length (· =env.locals) s ρ' σ'.H.length s'→R ρ' r→Q r s')→wpAny c.M A (f x) Q E s
noncomputable def wg(c:Cx)(F:Fs)(k:Nat){α:Type}(f:Value→Value→Sem α)(a b:AV)(σ:St)(R:(Nat→Addr)→α→Prop)(σ':St):Prop:=
 ∀(A:Around)(ρ:Nat→Addr)(s:Shared)(env:Env)(Q:α→Shared→Prop)(E:Value→Shared→Prop)(x y:Value),cK k A→aW c A F ρ σ s env→VR ρ σ.H.length a x→VR ρ σ.H.length b y→
  (∀ρ' s' r,aW c A F ρ' σ' s' env→aM c ρ σ.H.length (· =env.locals) s ρ' σ'.H.length s'→R ρ' r→Q r s')→wpAny c.M A (f x y) Q E s
noncomputable abbrev oO(c:Cx)(F:Fs)(k:Nat)(f:Value→Sem Value)(a:AV)(σ:St)(v:AV)(σ':St):Prop:=EZ c F k f a σ (λρ=>VR ρ σ'.H.length v) σ'
noncomputable abbrev du(c:Cx)(F:Fs)(k:Nat)(f:Value→Value→Sem Value)(a b:AV)(σ:St)(v:AV)(σ':St):Prop:=wg c F k f a b σ (λρ=>VR ρ σ'.H.length v) σ'
noncomputable abbrev Te(c:Cx)(F:Fs)(k:Nat)(e:Expr)(σ:St)(b:Bool)(σ':St):Prop:=De c F k (λenv=>isTrue e env (eval e env)) σ (λ_ x=>x=b) σ'
inductive AF where
 |next|brk|cont
 |ret (v:AV)
noncomputable def FR(ρ:Nat→Addr)(n:Nat):AF→Flow→Prop
 | .next,f=>f=.next
 | .brk,f=>f=.brk
 | .cont,f=>f=.cont
 | .ret a,f=>∃v,f=.ret v∧VR ρ n a v
noncomputable abbrev Ex(c:Cx)(F:Fs)(k:Nat)(st:Stmt)(σ:St)(f:AF)(σ':St):Prop:=De c F k (exec st) σ (λρ=>FR ρ σ'.H.length f) σ'
noncomputable abbrev dq(c:Cx)(F:Fs)(k:Nat)(st:List Stmt)(σ:St)(f:AF)(σ':St):Prop:=De c F k (execs st) σ (λρ=>FR ρ σ'.H.length f) σ'
section
variable{c:Cx}{F:Fs}{k:Nat}{σ σ₁ σ₂ σ₃:St}{a b v:AV}
theorem FR.mono{ρ ρ':Nat→Addr}{n n':Nat}{f:AF}{g:Flow}(h:FR ρ n f g)(ag:∀i,i<n→ρ' i=ρ i)(le:n≤n'):FR ρ' n' f g:=by
 cases f<;>simp only[FR]at h ⊢ <;>try exact h
 refine aj h λx h1 h2=>?_
 exact al x h1 (h2.mono ag le)
theorem iY{e₁ e₂:Expr}{op pos}(h1:Ev c F k e₁ σ a σ₁)(h2:Ev c F k e₂ σ₁ b σ₂)(h3:du c F k (binaryOp op) a b σ₂ v σ₃):Ev c F k (.BinOp e₁ op e₂ pos) σ v σ₃:= λA ρ s env Q E K r h=>
 wpAny_BinOp (h1 A ρ s env _ E K r λρ1 s1 x r1 st1 va=>h2 A ρ1 s1 env _ E K r1 λρ2 s2 y r2 st2 vb=>h3 A ρ2 s2 env _ E x y K r2 (st2.vr va) vb λρ3 s3 z r3 st3 vz=>h ρ3 s3 z r3 ((st1.trans st2).trans st3) vz)
theorem uP{e₁ e₂:Expr}{op pos}(hm:behindInMarks op e₂=false)(h1:Ev c F k e₁ σ a σ₁)(h2:Ev c F k e₂ σ₁ b σ₂)(h3:du c F k (compareOp op) a b σ₂ v σ₃):Ev c F k (.Compare e₁ [op] [e₂] pos) σ v σ₃:= λA ρ s env Q E K r h=>
 wpAny_Compare1 (h1 A ρ s env _ E K r λρ1 s1 x r1 st1 va=>h2 A ρ1 s1 env _ E K r1 λρ2 s2 y r2 st2 vb=>h3 A ρ2 s2 env _ E x y K r2 (st2.vr va) vb λρ3 s3 z r3 st3 vz=>h ρ3 s3 z r3 ((st1.trans st2).trans st3) vz) hm
theorem av{e₁ e₂:Expr}{op pos}{t:Bool}(hm:behindInMarks op e₂=false)(h1:Ev c F k e₁ σ a σ₁)(h2:Ev c F k e₂ σ₁ b σ₂)(h3:du c F k (compareOp op) a b σ₂ (.bool t) σ₃):Te c F k (.Compare e₁ [op] [e₂] pos) σ t σ₃:= λA ρ s env Q E K r h=>
 wpAny_isTrue_Compare1 (h1 A ρ s env _ E K r λρ1 s1 x r1 st1 va=>h2 A ρ1 s1 env _ E K r1 λρ2 s2 y r2 st2 vb=>h3 A ρ2 s2 env _ E x y K r2 (st2.vr va) vb λρ3 s3 z r3 st3 vz=>by
  subst vz;exact wpAny_truthy_bool (h ρ3 s3 t r3 ((st1.trans st2).trans st3) rfl)) hm
theorem l7{e:Expr}{pos}{t:Bool}(h1:Te c F k e σ t σ₁):Te c F k (.UnaryOp .Not e pos) σ (!t) σ₁:= λA ρ s env Q E K r h=>
 isTrue_not (h1 A ρ s env _ E K r λρ1 s1 x r1 st1 vx=>h ρ1 s1 _ r1 st1 (by rw[vx]))
theorem iq{pos}:Te c F k (.BoolOp .And [] pos) σ true σ:= λA ρ s env Q E K r h=>isTrue_and_nil (h ρ s _ r .refl rfl)
theorem jk{pos}:Te c F k (.BoolOp .Or [] pos) σ false σ:= λA ρ s env Q E K r h=>isTrue_or_nil (h ρ s _ r .refl rfl)
theorem bI{e:Expr}{rest pos}(h1:Te c F k e σ false σ₁):Te c F k (.BoolOp .And (e::rest) pos) σ false σ₁:= λA ρ s env Q E K r h=>
 isTrue_and (h1 A ρ s env _ E K r λρ1 s1 x r1 st1 vx=>by subst vx;exact h ρ1 s1 _ r1 st1 rfl)
theorem bu{e:Expr}{rest pos}{t:Bool}(h1:Te c F k e σ true σ₁)(h2:Te c F k (.BoolOp .And rest pos) σ₁ t σ₂):Te c F k (.BoolOp .And (e::rest) pos) σ t σ₂:= λA ρ s env Q E K r h=>
 isTrue_and (h1 A ρ s env _ E K r λρ1 s1 x r1 st1 vx=>by subst vx;exact h2 A ρ1 s1 env _ E K r1 λρ2 s2 y r2 st2 vy=>h ρ2 s2 y r2 (st1.trans st2) vy)
theorem gA{e:Expr}{rest pos}(h1:Te c F k e σ true σ₁):Te c F k (.BoolOp .Or (e::rest) pos) σ true σ₁:= λA ρ s env Q E K r h=>
 isTrue_or (h1 A ρ s env _ E K r λρ1 s1 x r1 st1 vx=>by subst vx;exact h ρ1 s1 _ r1 st1 rfl)
theorem d9{e:Expr}{rest pos}{t:Bool}(h1:Te c F k e σ false σ₁)(h2:Te c F k (.BoolOp .Or rest pos) σ₁ t σ₂):Te c F k (.BoolOp .Or (e::rest) pos) σ t σ₂:= λA ρ s env Q E K r h=>
 isTrue_or (h1 A ρ s env _ E K r λρ1 s1 x r1 st1 vx=>by subst vx;exact h2 A ρ1 s1 env _ E K r1 λρ2 s2 y r2 st2 vy=>h ρ2 s2 y r2 (st1.trans st2) vy)
theorem bP{e:Expr}{t:Bool}(he:∀env whole,isTrue e env whole=(do let v←whole;standAt e.pos;holding [v] (truthy v)))(h1:Ev c F k e σ a σ₁)(h2:EZ c F k truthy a σ₁ (λ_ x=>x=t) σ₂):Te c F k e σ t σ₂:= λA ρ s env Q E K r h=>
 isTrue_plain (h1 A ρ s env _ E K r λρ1 s1 x r1 st1 va=>h2 A ρ1 s1 env _ E x K r1 va λρ2 s2 y r2 st2 vy=>h ρ2 s2 y r2 (st1.trans st2) vy) (he _ _)
theorem ar:dq c F k [] σ .next σ:= λA ρ s env Q E K r h=>wpAny_execs_nil (h ρ s _ r .refl rfl)
theorem ae{st:Stmt}{rest:List Stmt}{f:AF}(h1:Ex c F k st σ .next σ₁)(h2:dq c F k rest σ₁ f σ₂):dq c F k (st::rest) σ f σ₂:= λA ρ s env Q E K r h=>
 YH (h1 A ρ s env _ E K r λρ1 s1 x r1 st1 vx=>by
  rw[show x=.next from vx];exact h2 A ρ1 s1 env _ E K r1 λρ2 s2 y r2 st2 vy=>h ρ2 s2 y r2 (st1.trans st2) vy)
theorem bv{st:Stmt}{rest:List Stmt}(h1:Ex c F k st σ (.ret v) σ₁):dq c F k (st::rest) σ (.ret v) σ₁:= λA ρ s env Q E K r h=>
 YH (h1 A ρ s env _ E K r λρ1 s1 x r1 st1 vx=>by
  refine aj vx ?_;clear vx;intro y z0 hy;subst z0;exact h ρ1 s1 _ r1 st1 (al y rfl hy))
theorem gT{st:Stmt}{rest:List Stmt}(h1:Ex c F k st σ .brk σ₁):dq c F k (st::rest) σ .brk σ₁:= λA ρ s env Q E K r h=>
 YH (h1 A ρ s env _ E K r λρ1 s1 x r1 st1 vx=>by rw[show x=.brk from vx];exact h ρ1 s1 _ r1 st1 rfl)
theorem tg{st:Stmt}{rest:List Stmt}(h1:Ex c F k st σ .cont σ₁):dq c F k (st::rest) σ .cont σ₁:= λA ρ s env Q E K r h=>
 YH (h1 A ρ s env _ E K r λρ1 s1 x r1 st1 vx=>by rw[show x=.cont from vx];exact h ρ1 s1 _ r1 st1 rfl)
theorem aL{test:Expr}{body orelse pos}{t:Bool}{f:AF}(h1:Te c F k test σ t σ₁)(h2:dq c F k (if t then body else orelse) σ₁ f σ₂):Ex c F k (.If test body orelse pos) σ f σ₂:= λA ρ s env Q E K r h=>
 wpAny_If (h1 A ρ s env _ E K r λρ1 s1 x r1 st1 vx=>by
  subst vx
  have z:=h2 A ρ1 s1 env Q E K r1 λρ2 s2 y r2 st2 vy=>h ρ2 s2 y r2 (st1.trans st2) vy
  cases x<;>exact z)
theorem gZ{pos}:Ex c F k (.Break pos) σ .brk σ:= λA ρ s env Q E K r h=> λ_ _ _=>h ρ s _ r .refl rfl
theorem sJ{pos}:Ex c F k (.Continue pos) σ .cont σ:= λA ρ s env Q E K r h=> λ_ _ _=>h ρ s _ r .refl rfl
theorem aX{e:Expr}{pos}(h1:Ev c F k e σ v σ₁):Ex c F k (.Return (some e) pos) σ (.ret v) σ₁:= λA ρ s env Q E K r h=>
 wpAny_Return_some (h1 A ρ s env _ E K r λρ1 s1 x r1 st1 vx=>h ρ1 s1 _ r1 st1 (al x rfl vx))
theorem ck{e:Expr}{pos}(hi:∀env:Env,env.scope=F.scope→interactive env=false)(hs:∀env,swapsWith e none pos.line env=pure false)(h1:Ev c F k e σ v σ₁):Ex c F k (.Expr e pos) σ .next σ₁:= λA ρ s env Q E K r h=>
 wpAny_Expr_any (h1 A ρ s env _ E K r λρ1 s1 x r1 st1 vx=>h ρ1 s1 _ r1 st1 rfl) (hi env r.sc) (hs env)
theorem iU{x:Str}(hk:F.scope.kind=.function)(hx:F.scope.names.lookup x=some .local){A:Around}{ρ:Nat→Addr}{s:Shared}{env:Env}{Q:Unit→Shared→Prop}{E:Value→Shared→Prop}{y:Value}(r:aW c A F ρ σ s env)(hy:VR ρ σ.H.length v y)
  (h:∀s',aW c A F ρ ⟨aS x v σ.loc,σ.H⟩ s' env→aM c ρ σ.H.length (· =env.locals) s ρ σ.H.length s'→Q () s'):wpAny c.M A (storeName env x y) Q E s:=by
 refine aj (r.lo) λm hm hl=>?_
 refine wpAny_storeName_local (m:=m) (by unfold Env.kindOf;rw[r.sc];exact hx) hm (λh' hn hs=>?_) (by rw[r.sc,hk];rfl)
 have z:=r.bind (x:=x) (h':=h') (tk:=s.toks+1) hy (λm' hm'=>?_) hs
 ·exact h _ z.1 z.2
 ·have:m'=m:=by
   refine br λGz kz=>?_
   refine d8 hm λo es ep e1 d1 _ f1=>?_
   refine d8 hm' λo2 es2 ep2 e2 d2 _ f2=>?_
   refine kz ?_
   rw[e1]at e2;cases e2
   rw[d1]at d2;cases d2
   funext y;rw[←f1 y,←f2 y]
  subst this;exact hn
theorem aw{x:Str}{e:Expr}{pos' pos}(hk:F.scope.kind=.function)(hx:F.scope.names.lookup x=some .local)(hs:∀env,swapsWith e (some (.Name x pos')) pos.line env=pure false)(h1:Ev c F k e σ v σ₁):
  Ex c F k (.Assign [.Name x pos'] e pos) σ .next ⟨aS x v σ₁.loc,σ₁.H⟩:= λA ρ s env Q E K r h=>
 wpAny_Assign_Name (h1 A ρ s env _ E K r λρ1 s1 y r1 st1 vy=>iU hk hx r1 vy λs2 r2 st2=>h ρ1 s2 _ r2 (st1.trans st2) rfl) (hs env)
theorem nR{x:Str}{e:Expr}{op pos' pos}(hk:F.scope.kind=.function)(hx:F.scope.names.lookup x=some .local)(hd:(x==("__debug__":Str))=false)(hv:σ.loc.lookup x=some a)(h1:Ev c F k e σ b σ₁)(h2:du c F k (inplaceOp op) a b σ₁ v σ₂):
  Ex c F k (.AugAssign (.Name x pos') op e pos) σ .next ⟨aS x v σ₂.loc,σ₂.H⟩:= λA ρ s env Q E K r h=>by
 refine aj (r.lo) λm hn hm=>?_
 refine aj (hm x a hv) λv' g1 g2=>?_
 exact wpAny_AugAssign_Name (wpAny_loadName_local (by rw[r.sc];exact hk) (by unfold Env.kindOf;rw[r.sc];exact hx) hn g1
  (h1 A ρ s env _ E K r λρ1 s1 y r1 st1 vy=>h2 A ρ1 s1 env _ E v' y K r1 (st1.vr g2) vy λρ2 s2 z r2 st2 vz=>iU hk hx r2 vz λs3 r3 st3=>h ρ2 s3 _ r3 ((st1.trans st2).trans st3) rfl))
end
variable{c:Cx}{F:Fs}{k n tk i d k' n' L fs T kd D S pb j J n₀ m bk N jx jy U j1 ep B:Nat}{σ σ₁ σ₂ σ₃ σ':St}{a b v st st' rd:AV}{α:Type}{f C it:Addr}{R:Result→Shared→Prop}{x y name W tok buf ch cm:Str}{t ex q ws cx hm:Bool}{ρ ρ' ρ₀:Nat→Addr}{es kw loc loc' l l':List (Str×AV)}{A:Around}{s s' s₀:Shared}{env:Env}{xs cs zs:List Str}{H' H H1 H0:List AO}{oc:Value}{od:Option Addr}{osl:Array (Option Value)}{fd:FuncData}{body rest orelse:List Stmt}{args vs as acc:List AV}{e value func test target iter slice elt:Expr}{pos apos p1 p2 p3 p4 p5 p6:Pos}{Q E:Value→Shared→Prop}{o:Obj}{h h' h0:Heap}{id X:String}{p:Str×Str}{M:Model}{ys xm xu sn so:List (Str×Str)}{sc:Scope}{w:World}{prog:Program}{np:Nat→Int}{K:Frag}{r fr:List xo}{fi po:Int}{its:List Value}{gens:List Comprehension}{ifs:List Expr}{rows:Nat→Nat→List Str}{Gz:Prop}{js ey ms us ord seen:List Nat}{ps pi pd:Nat→Nat}{ns:List Int}{f₀:Stmt}{su nd:Nat→List Nat}{ro:List (List Str)}{b1 b0:List Bool}
section
theorem cZ{f:Value→Value→Sem α}{R:(Nat→Addr)→α→Prop}(h:∀(A:Around)(ρ:Nat→Addr)(n:Nat)(s:Shared)(Q:α→Shared→Prop)(E:Value→Shared→Prop)(x y:Value),VR ρ n a x→VR ρ n b y→
  (∀t r,R ρ r→Q r {s with toks:=t})→wpAny c.M A (f x y) Q E s):wg c F k f a b σ R σ:= λA ρ s env Q E x y _ r hx hy q=>
 h A ρ _ s Q E x y hx hy λt z hz=>q ρ _ z (r.toks t) (.toks t) hz
theorem uZ{f:Value→Sem α}{R:(Nat→Addr)→α→Prop}(h:∀(A:Around)(ρ:Nat→Addr)(n:Nat)(s:Shared)(Q:α→Shared→Prop)(E:Value→Shared→Prop)(x:Value),VR ρ n a x→
  (∀t r,R ρ r→Q r {s with toks:=t})→wpAny c.M A (f x) Q E s):EZ c F k f a σ R σ:= λA ρ s env Q E x _ r hx q=>
 h A ρ _ s Q E x hx λt z hz=>q ρ _ z (r.toks t) (.toks t) hz
theorem ek(h:(x.cps.toList==y.cps.toList)=t):du c F k (compareOp .Eq) (.str x) (.str y) σ (.bool t) σ:=
 cZ λA ρ n s Q E p q hp hq z=>by refine bp hp ?_;clear hp;intro u z0;subst z0;refine bp hq ?_;clear hq;intro v z0;subst z0;exact P.eq_str (z s.toks _ (by rw[h];rfl))
theorem we(h:(x.cps.toList != y.cps.toList)=t):du c F k (compareOp .NotEq) (.str x) (.str y) σ (.bool t) σ:=
 cZ λA ρ n s Q E p q hp hq z=>by refine bp hp ?_;clear hp;intro u z0;subst z0;refine bp hq ?_;clear hq;intro v z0;subst z0;exact P.ne_str (z s.toks _ (by rw[h];rfl))
theorem ik(h:(!(Builtin.Str.occurrences y x 0 y.length 1).isEmpty)=t):du c F k (compareOp .In) (.str x) (.str y) σ (.bool t) σ:=
 cZ λA ρ n s Q E p q hp hq z=>by refine bp hp ?_;clear hp;intro u z0;subst z0;refine bp hq ?_;clear hq;intro v z0;subst z0;exact P.in_str (z s.toks _ (by rw[h];rfl))
theorem kX:du c F k (compareOp .Eq) (.str x) .none σ (.bool false) σ:=
 cZ λA ρ n s Q E p q hp hq z=>by refine bp hp ?_;clear hp;intro u z0;subst z0;cases hq;exact EqNone.eq_str_none (z s.toks _ rfl)
theorem jY:du c F k (compareOp .Eq) .none .none σ (.bool true) σ:=
 cZ λA ρ n s Q E p q hp hq z=>by cases hp;cases hq;exact EqNone.eq_none_none (z s.toks _ rfl)
theorem gN{x y:Int}(h:decide (x≥y)=t):du c F k (compareOp .GtE) (.int x) (.int y) σ (.bool t) σ:=
 cZ λA ρ n s Q E p q hp hq z=>by refine bp hp ?_;clear hp;intro u z0;subst z0;refine bp hq ?_;clear hq;intro v z0;subst z0;exact P.ge_int (z s.toks _ (by rw[h];rfl))
theorem rp{x y:Int}(h:decide (x > y)=t):du c F k (compareOp .Gt) (.int x) (.int y) σ (.bool t) σ:=
 cZ λA ρ n s Q E p q hp hq z=>by refine bp hp ?_;clear hp;intro u z0;subst z0;refine bp hq ?_;clear hq;intro v z0;subst z0;exact P.gt_int (z s.toks _ (by rw[h];rfl))
theorem lB{x y:Int}(h:decide (x<y)=t):du c F k (compareOp .Lt) (.int x) (.int y) σ (.bool t) σ:=
 cZ λA ρ n s Q E p q hp hq z=>by refine bp hp ?_;clear hp;intro u z0;subst z0;refine bp hq ?_;clear hq;intro v z0;subst z0;exact P.lt_int (z s.toks _ (by rw[h];rfl))
theorem qz{x y:Int}(h:(x==y)=t):du c F k (compareOp .Eq) (.int x) (.int y) σ (.bool t) σ:=
 cZ λA ρ n s Q E p q hp hq z=>by refine bp hp ?_;clear hp;intro u z0;subst z0;refine bp hq ?_;clear hq;intro v z0;subst z0;exact P.eq_int (z s.toks _ (by rw[h];rfl))
theorem Cy{x y:Int}(h:(x != y)=t):du c F k (compareOp .NotEq) (.int x) (.int y) σ (.bool t) σ:=
 cZ λA ρ n s Q E p q hp hq z=>by refine bp hp ?_;clear hp;intro u z0;subst z0;refine bp hq ?_;clear hq;intro v z0;subst z0;exact P.ne_int (z s.toks _ (by rw[h];rfl))
theorem i6{x y:Int}:du c F k (binaryOp .Add) (.int x) (.int y) σ (.int (x+y)) σ:=
 cZ λA ρ n s Q E p q hp hq z=>by refine bp hp ?_;clear hp;intro u z0;subst z0;refine bp hq ?_;clear hq;intro v z0;subst z0;exact P.add_int (z _ _ ⟨_,rfl⟩)
theorem eW{x y:Int}:du c F k (inplaceOp .Add) (.int x) (.int y) σ (.int (x+y)) σ:=
 cZ λA ρ n s Q E p q hp hq z=>by refine bp hp ?_;clear hp;intro u z0;subst z0;refine bp hq ?_;clear hq;intro v z0;subst z0;exact P.iadd_int (z _ _ ⟨_,rfl⟩)
noncomputable def AV.isNone:AV→Bool
 | .none=>true
 | .val v=>v== .none
 |_=>false
theorem vY{x:Value}(h:VR ρ n a x):(x== .none)=a.isNone:=by
 cases a<;>simp only[VR]at h
 ·subst h;rfl
 ·subst h;rfl
 ·refine bp h ?_;clear h;intro _ z0;subst z0;rfl
 ·refine bp h ?_;clear h;intro _ z0;subst z0;rfl
 ·refine aO h ?_;clear h;intro _ z0;subst z0;rfl
 ·subst h;rfl
theorem bQ(h:a.isNone=t):du c F k (compareOp .Is) a .none σ (.bool t) σ:=
 cZ λA ρ n s Q E p q hp hq z=>by cases hq;exact is_none_gen (z s.toks _ (by rw[vY hp,h];rfl))
theorem bU(h:(!a.isNone)=t):du c F k (compareOp .IsNot) a .none σ (.bool t) σ:=
 cZ λA ρ n s Q E p q hp hq z=>by cases hq;exact isnot_none_gen (z s.toks _ (by rw[vY hp,h];rfl))
theorem ve:EZ c F k truthy .none σ (λ_ x=>x=false) σ:=uZ λA ρ n s Q E p hp z=>by cases hp;exact truthy_none (z s.toks _ rfl)
theorem bG:EZ c F k truthy (.bool t) σ (λ_ x=>x=t) σ:=uZ λA ρ n s Q E p hp z=>by cases hp;exact wpAny_truthy_bool (z s.toks _ rfl)
theorem dX(hz:x.length<2 ^ 62)(h:((x.length:Int) != 0)=t):EZ c F k truthy (.str x) σ (λ_ x=>x=t) σ:=
 uZ λA ρ n s Q E p hp z=>by refine bp hp ?_;clear hp;intro u z0;subst z0;exact P.truthy_str (by lia) (z _ _ h)
theorem tS(hz:(x++y).length≤sizeLine)(hx:x.length=0→x++y=y)(hy:y.length=0→x++y=x):du c F k (binaryOp .Add) (.str x) (.str y) σ (.str (x++y)) σ:=
 cZ λA ρ n s Q E p q hp hq z=>by
  refine bp hp ?_;clear hp;intro u z0;subst z0;refine bp hq ?_;clear hq;intro v z0;subst z0
  refine P.add_str ?_
  split
  ·rename_i h;exact z s.toks _ ⟨v,by rw[hx (by simpa using h)]⟩
  ·split
   ·rename_i h;exact z s.toks _ ⟨u,by rw[hy (by simpa using h)]⟩
   ·exact⟨hz,z _ _ ⟨_,rfl⟩⟩
theorem pf(hz:(x++y).length≤sizeLine)(hx:x.length=0→x++y=y)(hy:y.length=0→x++y=x):du c F k (inplaceOp .Add) (.str x) (.str y) σ (.str (x++y)) σ:=
 cZ λA ρ n s Q E p q hp hq z=>by
  refine bp hp ?_;clear hp;intro u z0;subst z0;refine bp hq ?_;clear hq;intro v z0;subst z0
  refine P.iadd_str ?_
  split
  ·rename_i h;exact z s.toks _ ⟨v,by rw[hx (by simpa using h)]⟩
  ·split
   ·rename_i h;exact z s.toks _ ⟨u,by rw[hy (by simpa using h)]⟩
   ·exact⟨hz,z _ _ ⟨_,rfl⟩⟩
end
noncomputable def AV.handed:AV→Bool
 | .val v=>handedIn v
 |_=>true
theorem lW{x:Value}(h:VR ρ n a x)(ha:a.handed=true):handedIn x=true:=by
 cases a<;>simp only[VR]at h
 ·subst h;rfl
 ·subst h;rfl
 ·refine bp h ?_;clear h;intro _ z0;subst z0;rfl
 ·refine bp h ?_;clear h;intro _ z0;subst z0;rfl
 ·refine aO h ?_;clear h;intro _ z0;subst z0;rfl
 ·subst h;exact ha
theorem Ar{ents:List DictEntry}(h:wG ρ n es ents):es.lookup name=some a→∃e,ents.find? (·.key.isStr name)=some e∧VR ρ n a e.val:=by
 induction h with
 |nil=>intro h;cases h
 | @cons p e ps es k hv t ih=>
  intro h
  refine bp k λu hk=>?_
  rw[ZD]at h
  cases q:(name==p.1)with
  |true=>
   rw[q]at h;cases h
   have q':name=p.1:=by simpa using q
   refine al e ?_ hv
   rw[List.find?_cons,hk]
   simp[Value.isStr,q']
  |false=>
   rw[q]at h
   refine aj (ih h) λe' h1 h2=>?_
   refine al e' ?_ h2
   rw[List.find?_cons,hk]
   have:(Value.str p.1 u).isStr name=false:=by
    simp only[Value.isStr]
    cases z:(p.1==name)with
    |false=>rfl
    |true=>rw[show name=p.1 from(by simpa using z:p.1=name).symm]at q;simp at q
   rw[this];exact h1
theorem sj{ents:List DictEntry}(h:wG ρ n es ents):es.lookup name=none→ents.find? (·.key.isStr name)=none:=by
 induction h with
 |nil=>intro _;rfl
 | @cons p e ps es k hv t ih=>
  intro h
  refine bp k λu hk=>?_
  rw[ZD]at h
  cases q:(name==p.1)with
  |true=>rw[q]at h;cases h
  |false=>
   rw[q]at h
   rw[List.find?_cons,hk]
   have:(Value.str p.1 u).isStr name=false:=by
    simp only[Value.isStr]
    cases z:(p.1==name)with
    |false=>rfl
    |true=>rw[show name=p.1 from(by simpa using z:p.1=name).symm]at q;simp at q
   rw[this];exact ih h
theorem kH:∀{es:List (Str×AV)}{ents:List DictEntry},wG ρ n es ents→ents.any (·.refKey)=false:=by
 intro es ents h
 induction h with
 |nil=>rfl
 | @cons p e ps es k hv t ih=>
  refine bp k λu hk=>?_
  rw[List.any_cons,ih]
  simp[DictEntry.refKey,hk]
theorem v9{x:Value}{hsh:Int}{tk:Tok}(hx:VR ρ n a x){ents:List DictEntry}(h:wG ρ n es ents):wG ρ n (aS name a es) (putL name hsh (.str name tk) x ents):=by
 induction h with
 |nil=>exact .cons ⟨tk,rfl⟩ hx .nil
 | @cons p e ps es k hv t ih=>
  refine bp k λu hk=>?_
  rw[gB,show putL name hsh (.str name tk) x (e::_)=if e.key.isStr name then _::_ else e::_ from rfl]
  have e1:e.key.isStr name=(p.1==name):=by rw[hk];rfl
  rw[e1]
  split
  ·exact .cons ⟨u,hk⟩ hx t
  ·exact .cons ⟨u,hk⟩ hv ih
theorem uT:∀{es:List (Str×AV)}{ents:List DictEntry},wG ρ n es ents→es.length=ents.length:=by
 intro es ents h
 induction h with
 |nil=>rfl
 |cons _ _ _ ih=>exact congrArg (· +1) ih
theorem aW.inst(r:aW c A F ρ σ s env)(hi:σ.H[i]?=some (.inst C d))(hd:σ.H[d]?=some (.dict es)):
  ∃ents e,wG ρ σ.H.length es ents∧s.heap.get? (ρ d)=some (dictOf ents e)∧InstAt s.heap (ρ i) {cls:=.ref C,dict:=some (ρ d),data:=.plain} C (some (dictOf ents e)):=by
 refine br λGz kz=>?_
 refine aj (r.hr.at_ i _ hi) λob h1 h2=>?_
 refine aO h2 ?_;clear h2;intro _ z0;subst z0
 refine aj (r.hr.at_ d _ hd) λod h3 h4=>?_
 refine ds h4 ?_;clear h4;intro ents e z0 h5;subst z0
 refine kz ?_
 exact fk ents e h5 h3 ⟨h1,rfl,rfl,h3⟩
theorem u6{attr:Option Value}(O:c.Ok)(hi:σ.H[i]?=some (.inst C d))(hd:σ.H[d]?=some (.dict es))(hl:es.lookup name=some v)(hv:v.handed=true)
  (hga:findIn c.K (.ref C) "__getattribute__"=some (some (.builtin "object.__getattribute__")))(hh:hasDictIn c.K C=true)(ha:findIn c.K (.ref C) name=some attr)(hn:noGet c.K attr=true):
  oO c F k (λx=>getAttr x name ex) (.obj i) σ v σ:= λA ρ s env Q E x _ r hx q=>by
 refine br λGz kz=>?_
 refine aO hx ?_;clear hx;intro _ z0;subst z0
 refine ct (r.inst hi hd) λents e h5 h3 I=>?_
 refine aj (Ar h5 hl) λen h6 h7=>?_
 refine kz ?_
 refine get_value (v:=en.val) (r.X O) I hga (findObj_own hh ha hn ?_) (lW h7 hv) (q ρ _ _ (r.toks _) (.toks _) h7)
 rw[lookIn_dict];unfold getL;rw[h6]
theorem uv(O:c.Ok)(hi:σ.H[i]?=some (.inst C d))(hd:σ.H[d]?=some (.dict es))(hz:es.length<1000)
  (hs:findIn c.K (.ref C) "__setattr__"=some (some (.builtin "object.__setattr__")))(hp:plainOver c.K C=true)(ht:takerIn c.K C name=some none)(hh:hasDictIn c.K C=true):
  wg c F k (λx y=>setAttr x name y) (.obj i) v σ (λ_ _=>True) ⟨σ.loc,σ.H.set d (.dict (aS name v es))⟩:= λA ρ s env Q E x y _ r hx hy q=>by
 refine br λGz kz=>?_
 refine aO hx ?_;clear hx;intro _ z0;subst z0
 refine ct (r.inst hi hd) λents e h5 h3 I=>?_
 have dl:d<σ.H.length:=aq hd
 refine aj (r.lo) λm hm _=>?_
 refine kz ?_
 have ne:=r.ap d dl
 refine set_plain (r.X O) I hs (osa_dict (s:={s with toks:=s.toks+1}) (pre:=ko s.heap env.locals (ρ d)) (post:=[]) (es:=putL name (PyData.keyHash c.w.params name) (.str name (s.toks+1)) y ents) (ma hm) (mv h3 ne) (r.X O) I rfl hp ht hh ?_ o0 (λ_ h=>nomatch h) (putName_dict ..) rfl ?_ λh' F' N'=>?_)
 ·rw[lookIn_dict];unfold getL
  cases hf:ents.find? (λx=>x.key.isStr name)with
  |some _=>rfl
  |none=>simp only[kH h5];rfl
 ·have:=uT (v9 (name:=name) (hsh:=PyData.keyHash c.w.params name) (tk:=s.toks+1) hy h5)
  rw[←this]
  have l2:∀l:List (Str×AV),(aS name v l).length≤l.length+1:=by
   intro l
   induction l with
   |nil=>simp[aS]
   |cons p r ih=>rw[gB];split<;>simp<;>lia
  have:=l2 es
  lia
 ·refine aO (pz N') λg1 g2=>?_
  have z:=r.upd (ao:=.dict (aS name v es)) (tk:=s.toks+1+1) dl g1 (cH _ _ rfl (v9 hy h5)) g2 (λm' hm'=>by
   have:m'=m:=by
    refine br λGz kz=>?_
    refine d8 hm λo es ep e1 d1 _ f1=>?_
    refine d8 hm' λo2 es2 ep2 e2 d2 _ f2=>?_
    refine kz ?_
    rw[e1]at e2;cases e2
    rw[d1]at d2;cases d2
    funext y;rw[←f1 y,←f2 y]
   subst this;exact F'.ns)
  exact q ρ _ () z.1 z.2 trivial
theorem cK.mono(h:cK k A)(hk:k'≤k):cK k' A:=⟨by have:=h.1;lia,by have:=h.2.1;lia,λz=>h.2.2 (by lia)⟩
theorem cK.deeper{k:Nat}{A:Around}{env:Env}(h:cK (k+1) A):cK k (A.deeper env):=by
 refine fP h λh1 h2 h3=>?_
 exact⟨by show A.depth+1+4*k≤900;lia,by show A.units+3+12*k≤9000;lia,λz=>h3 (by lia)⟩
theorem cK.depth{k:Nat}{A:Around}(h:cK k A):A.depth<recursionLimit:=by have:=h.1;unfold recursionLimit;lia
theorem cK.units{k:Nat}{A:Around}(h:cK k A):A.units<cLine:=by have:=h.2.1;unfold cLine;lia
theorem cK.in1{k:Nat}{A:Around}(h:cK (k+1) A):cK k A.in1:=⟨by have:=h.1;show A.depth+4*k≤900;lia,by have:=h.2.1;show A.units+1+12*k≤9000;lia,λz=>h.2.2 (by lia)⟩
inductive lV(ρ:Nat→Addr)(n:Nat):List (Str×AV)→List (Str×Value)→Prop where
 |nil:lV ρ n [] []
 |cons {x:_} {a:_} {v:_} {as:_} {vs:_} (h:VR ρ n a v) (t:lV ρ n as vs):lV ρ n ((x,a)::as) ((x,v)::vs)
@[elab_as_elim] theorem mx {xs:List Value} {ks:List (Str×Value)} {G:List Value→List (Str×Value)→Prop} (h:cF ρ n [a] xs) (hk:lV ρ n [] ks) (k:∀x,VR ρ n a x→G [x] []):G xs ks:=by
 cases hk
 exact lL h k
@[elab_as_elim] theorem Je {xs:List Value} {ks:List (Str×Value)} {G:List Value→List (Str×Value)→Prop} (h:cF ρ n [a,b] xs) (hk:lV ρ n [] ks) (k:∀x y,VR ρ n a x→VR ρ n b y→G [x,y] []):G xs ks:=by
 cases hk
 exact I0 h k
theorem lV.mono{ρ ρ':Nat→Addr}{n n':Nat}{as:List (Str×AV)}{vs:List (Str×Value)}(h:lV ρ n as vs)(ag:∀i,i<n→ρ' i=ρ i)(le:n≤n'):lV ρ' n' as vs:=by
 induction h with
 |nil=>exact .nil
 |cons h _ ih=>exact .cons (h.mono ag le) ih
noncomputable def Fn(c:Cx)(k:Nat)(f:Value)(args:List AV)(kw:List (Str×AV))(H:List AO)(v:AV)(H':List AO):Prop:=
 ∀(A:Around)(ρ:Nat→Addr)(s:Shared)(xs:List Value)(ks:List (Str×Value))(R:Result→Shared→Prop),cK k A→eu c ρ H s.heap→c.gq s.gens s.drawn→rf c A ρ H.length s.heap→cF ρ H.length args xs→lV ρ H.length kw ks→
  (∀ρ' s' x,eu c ρ' H' s'.heap→c.gq s'.gens s'.drawn→aM c ρ H.length (λ_=>False) s ρ' H'.length s'→VR ρ' H'.length v x→R (.ok (.ret x)) s')→codeAny c.M A (.call f ⟨xs,ks⟩) R s
theorem aM.weaken{L L':Addr→Prop}(st:aM c ρ n L s ρ' n' s')(h:∀b,L b→L' b):aM c ρ n L' s ρ' n' s':=⟨st.ag,st.le,st.nw,⟨st.kp.1,λb o e t hL hr=>st.kp.2 b o e t (λz=>hL (h b z)) hr⟩,st.os⟩
theorem aW.ne_tj(O:c.Ok)(r:aW c A F ρ σ s env):env.locals≠c.tj:= λq=>by
 refine bp (O.tjx) λo e=>?_
 have:=r.lf;rw[q,e]at this;cases this
theorem aW.after(O:c.Ok)(r:aW c A F ρ σ s env)(hr:eu c ρ' H' s'.heap)(ge:c.gq s'.gens s'.drawn)(st:aM c ρ σ.H.length (λ_=>False) s ρ' H'.length s'):
  aW c A F ρ' ⟨σ.loc,H'⟩ s' env∧aM c ρ σ.H.length (· =env.locals) s ρ' H'.length s':=by
 refine br λGz kz=>?_
 refine aj (r.lo) λm hm hl=>?_
 refine dc hm λo es ep e1 d1=>?_
 refine aj (st.kp.2 _ o e1 (r.ne_tj O) (λz=>z) λi hi=>r.ap i hi) λo' kl lk=>?_
 refine kz ?_
 refine⟨⟨hr,r.sc,r.gl,r.bl,?_,λp hp=>ZE (r.ci p hp) st.le,al m (bh o' es ep kl (by rw[lk.data];exact d1)) λx v hv=>?_,λi hi q=>?_,r.lf,ge,r.sk.keep st.ag st.nw λb o2 es2 ep2 g1 g2 g3 g4=>(by
   have ht:b≠c.tj:=(by rintro rfl;refine bp (O.tjx) λo3 e3=>?_;rw[g4]at e3;cases e3)
   refine aj (st.kp.2 b o2 g1 ht (λz=>z) g3) λo3 k3 l3=>?_
   exact bh o3 es2 ep2 k3 (l3.data.trans g2)),r.tp,r.fl⟩,st.weaken λ_ z=>z.elim⟩
 ·rw[r.ce]
  exact ZO λp hp=>by rw[st.ag _ (r.ci p hp)]
 ·refine aj (hl x v hv) λv' h1 h2=>?_
  exact al v' h1 (st.vr h2)
 ·by_cases h:i<σ.H.length
  ·rw[st.ag i h]at q;exact r.ap i h q
  ·have:=st.nw i (ZW h) hi
   rw[q,e1]at this;cases this
noncomputable def AF.val:AF→AV
 | .ret v=>v
 |_=>.none
theorem FX{fl:AF}(O:c.Ok)
  (hf:c.K.lookup f=some ⟨oc,od,.func fd,osl⟩)(hcd:codeIn c.K fd.code fd.qualname=true)(hbody:fd.body=.stmts body)(hcl:fd.closure=[])(hgl:fd.globals=mainGlobals)(hbl:fd.builtins=builtinsNs)
  (hcell:∀x∈fd.scope.names,x.2≠.cell)(hco:fd.scope.isCoroutine=false)(hgen:fd.scope.isGenerator=false)(hk:fd.scope.kind=.function)
  (bd:∀(ρ:Nat→Addr)(s:Shared)(xs:List Value)(ks:List (Str×Value)),c.K.In s.heap→cF ρ H.length args xs→lV ρ H.length kw ks→∃binds,BindsTo s fd ⟨xs,ks⟩ binds∧(∀x∈binds,fd.scope.names.lookup x.1=some .local)∧
   ∀x v,loc.lookup x=some v→∃v',binds.reverse.lookup x=some v'∧VR ρ H.length v v')
  (hb:dq c ⟨fd.scope,[]⟩ k body ⟨loc,H⟩ fl ⟨loc',H'⟩):Fn c (k+1) (.ref f) args kw H fl.val H':= λA ρ s xs ks R K hr ge sk hx hks q=>by
 refine bz (bd ρ s xs ks (hr.X O) hx hks) λbinds b1 b2 b3=>?_
 refine codeAny_call_def (o:=⟨oc,od,.func fd,osl⟩) K.depth (hr.X O _ _ hf) rfl (hr.lim O) (codeRec_of (hr.X O) hcd) hbody b1 hcell b2 (λh₀ hns hkp=>?_) hco hgen hk
 have nosz:∀o,c.h₁.get? s.heap.objs.size=some o→False:= λo e=>by
  by_cases t:s.heap.objs.size=c.tj
  ·rw[t]at e
   refine bp (hr.tj.there e) λo' e'=>?_
   rw[←t]at e'
   exact absurd (ZB e') (ZJ _)
  ·exact absurd (ZB (hr.base _ o e t)) (ZJ _)
 have r:aW c (A.deeper (callEnv fd s.heap.objs.size f)) ⟨fd.scope,[]⟩ ρ ⟨loc,H⟩ {s with heap:=h₀,toks:=s.toks+binds.length} (callEnv fd s.heap.objs.size f):=
  ⟨⟨λi o e=>let⟨ob,h1,h2⟩:=hr.at_ i o e;(al ob (hkp _ _ h1) h2),hr.inj,hr.up,λb o e t=>hkp _ _ (hr.base b o e t),λo e=>(hr.tj o e).imp (λz=>hkp _ _ z) λ⟨z1,z2,vs,more,z3,z4⟩=>bS z1 z2 vs more z3 (hkp _ _ z4)⟩,
   rfl,hgl,hbl,(by show fd.closure=_;rw[hcl];rfl),(λp hp=>nomatch hp),al _ hns b3,λi hi q=>(by
   refine aj (hr.at_ i (H[i]) (zG hi)) λob h1 _=>?_
   have:=ZB h1
   rw[show ρ i=s.heap.objs.size from q]at this
   exact ZJ _ this),(by cases q:c.h₁.get? (callEnv fd s.heap.objs.size f).locals with|none=>rfl|some o=>exact(nosz o q).elim),ge,(by
   intro hz
   refine aj (sk hz) λl l1 l2=>?_
   refine al _ (Around.frames_deeper l1) λe he=>?_
   rcases ZI.mp he with rfl|he
   ·refine dh hns λo es ep g1 g2 _=>?_
    refine eO (by show fd.scope.kind≠.module;rw[hk];decide) s.heap.objs.size o es ep rfl ?_ g1 g2 λi hi q=>?_
    ·cases q:c.h₁.get? s.heap.objs.size with
     |none=>rfl
     |some o=>exact(nosz o q).elim
    ·refine aj (hr.at_ i (H[i]) (zG hi)) λob h1 _=>?_
     have:=ZB h1
     rw[q]at this
     exact ZJ _ this
   ·exact(l2 e he).keep (λ_ _=>rfl) (λi h1 h2=>absurd h2 (ZX.mpr h1)) λb o es ep g1 g2 _ _=>bh o es ep (hkp _ _ g1) g2),(λhz _=>by refine aj (sk hz) λl l1 _=>?_;exact⟨l,Around.frames_deeper l1⟩),λ_=>⟨rfl,rfl⟩⟩
 refine hb (A.deeper (callEnv fd s.heap.objs.size f)) ρ _ _ _ _ K.deeper r λρ' s' fl' r' st vf=>?_
 have st':aM c ρ H.length (λ_=>False) s ρ' H'.length s':=⟨st.ag,st.le,λi h1 h2=>(by
   cases q:s.heap.get? (ρ' i)with
   |none=>rfl
   |some o=>have:=st.nw i h1 h2;rw[hkp _ _ q]at this;cases this),
  ⟨λb o e=>st.kp.1 b o (hkp _ _ e),λb o e t _ h3=>st.kp.2 b o (hkp _ _ e) t (λz=>by
   have:=ZB e
   rw[show b=s.heap.objs.size from z]at this
   exact ZJ _ this) h3⟩,st.os⟩
 cases fl with
 |next=>rw[show fl'=.next from vf];exact q ρ' s' _ r'.hr r'.ge st' rfl
 |brk=>rw[show fl'=.brk from vf];exact q ρ' s' _ r'.hr r'.ge st' rfl
 |cont=>rw[show fl'=.cont from vf];exact q ρ' s' _ r'.hr r'.ge st' rfl
 |ret v=>refine aj vf ?_;clear vf;intro x z0 hx;subst z0;exact q ρ' s' x r'.hr r'.ge st' hx
noncomputable abbrev Ag(c:Cx)(F:Fs)(k:Nat)(pos:Pos)(args:List Expr)(σ:St)(vs:List AV)(σ':St):Prop:=De c F k (λenv=>spliced (backTo pos (starEach args env))) σ (λρ xs=>cF ρ σ'.H.length vs xs) σ'
theorem au{pos:_}:Ag c F k pos [] σ [] σ:= λA ρ s env Q E K r h=>args_nil (h ρ s _ r .refl .nil)
theorem am{pos:_}{rest:List Expr}(he:∀env,starEach (e::rest) env=(false,eval e env)::starEach rest env)(h1:Ev c F k e σ a σ₁)(h2:Ag c F k pos rest σ₁ vs σ₂):Ag c F k pos (e::rest) σ (a::vs) σ₂:= λA ρ s env Q E K r h=>
 args_cons (h1 A ρ s env _ E K r λρ1 s1 x r1 st1 vx=>h2 A ρ1 s1 env _ E K r1 λρ2 s2 y r2 st2 vy=>h ρ2 s2 _ r2 (st1.trans st2) (.cons (st2.vr vx) vy)) (he env)
theorem sU{args:List Expr}{fs:List AV}{first:List Value}(O:c.Ok)
  (hf:c.K.lookup f=some ⟨oc,od,.func fd,osl⟩)(ha:∀(A:Around)(env:Env)(Q:Args→Shared→Prop)(E:Value→Shared→Prop)(s:Shared),wpAny c.M A (spliced (backTo pos (starEach args env))) (λvs s'=>Q ⟨vs,[]⟩ s') E s→wpAny c.M A (evalArgs (.ref f) true (backTo pos (starEach args env)) []) Q E s)
  (h1:Ag c F k pos args σ vs σ₁)(h2:Fn c k (.ref f) (fs++vs) [] σ₁.H v H')(K:cK k A)(r:aW c A F ρ σ s env)(hfirst:cF ρ σ.H.length fs first)
  (h:∀ρ' s' x,aW c A F ρ' ⟨σ₁.loc,H'⟩ s' env→aM c ρ σ.H.length (· =env.locals) s ρ' H'.length s'→VR ρ' H'.length v x→Q x s'):wpAny c.M A (callWith pos (.ref f) first (backTo pos (starEach args env)) []) Q E s:=by
 refine Calls.callWith_function (o:=⟨oc,od,.func fd,osl⟩) (fd:=fd) (ha A env _ E s ?_)
 refine h1 A ρ s env _ E K r λρ1 s1 xs r1 st1 vx=>⟨⟨r1.X O _ _ hf,rfl⟩,wpAny_call (h2 A ρ1 s1 (first++xs) [] _ K r1.hr r1.ge r1.sk ?_ .nil λρ2 s2 x hr2 ge2 st2 vx2=>?_)⟩
 ·have:=st1.vrs hfirst
  clear h2 hfirst
  induction this with
  |nil=>exact vx
  |cons h _ ih=>exact .cons h ih
 ·refine aO (r1.after O hr2 ge2 st2) λr2 st2'=>?_
  exact h ρ2 s2 x r2 (st1.trans st2') vx2
noncomputable abbrev fR(value:Expr)(attr:Str)(pos:Pos):Prop:=∀env:Env,eval (.Attribute value attr pos) env=(do
   let o←eval value env
   standAt pos.atName
   let r←holding [o] (getAttr o attr true)
   letTemporaryGo value o r
   pure r)
theorem bE{attr:Str}(he:fR value attr pos)(h1:Ev c F k value σ a σ₁)(h2:oO c F k (λx=>getAttr x attr true) a σ₁ v σ₂):Ev c F k (.Attribute value attr pos) σ v σ₂:= λA ρ s env Q E K r h=>
 Attribute_any_ (h1 A ρ s env _ E K r λρ1 s1 x r1 st1 vx=>h2 A ρ1 s1 env _ E x K r1 vx λρ2 s2 y r2 st2 vy=>h ρ2 s2 y r2 (st1.trans st2) vy) (he env)
theorem aQ{o:Expr}{attr:Str}{pos':Pos}(hs:∀env,swapsWith e (some (.Attribute o attr pos')) pos.line env=pure false)(h1:Ev c F k e σ v σ₁)(h2:Ev c F k o σ₁ a σ₂)(h3:wg c F k (λx y=>setAttr x attr y) a v σ₂ (λ_ _=>True) σ₃):
  Ex c F k (.Assign [.Attribute o attr pos'] e pos) σ .next σ₃:= λA ρ s env Q E K r h=>
 plainObj_wpAny_Assign_Attribute (h1 A ρ s env _ E K r λρ1 s1 x r1 st1 vx=>h2 A ρ1 s1 env _ E K r1 λρ2 s2 y r2 st2 vy=>h3 A ρ2 s2 env _ E y x K r2 vy (st2.vr vx) λρ3 s3 z r3 st3 _=>h ρ3 s3 _ r3 ((st1.trans st2).trans st3) rfl) (hs env)
theorem eM{o:Expr}{attr:Str}{tpos:Pos}{op:Operator}{σ₄ σ₅:St}{old x:AV}(h1:Ev c F k o σ a σ₁)(h2:oO c F k (λx=>getAttr x attr true) a σ₁ old σ₂)(h3:Ev c F k e σ₂ x σ₃)(h4:du c F k (inplaceOp op) old x σ₃ v σ₄)(h5:wg c F k (λx y=>setAttr x attr y) a v σ₄ (λ_ _=>True) σ₅):
  Ex c F k (.AugAssign (.Attribute o attr tpos) op e pos) σ .next σ₅:= λA ρ s env Q E K r h=>
 wpAny_AugAssign_AttributeAny (h1 A ρ s env _ E K r λρ1 s1 x r1 st1 vx=>h2 A ρ1 s1 env _ E x K r1 vx λρ2 s2 y r2 st2 vy=>h3 A ρ2 s2 env _ E K r2 λρ3 s3 z r3 st3 vz=>h4 A ρ3 s3 env _ E y z K r3 (st3.vr vy) vz λρ4 s4 u r4 st4 vu=>
  h5 A ρ4 s4 env _ E x u K r4 (st4.vr (st3.vr (st2.vr vx))) vu λρ5 s5 _ r5 st5 _=>h ρ5 s5 _ r5 ((((st1.trans st2).trans st3).trans st4).trans st5) rfl)
noncomputable abbrev c9(c:Cx)(f:Value)(pos:Pos)(args:List Expr):Prop:=∀(A:Around)(env:Env)(Q:Args→Shared→Prop)(E:Value→Shared→Prop)(s:Shared),wpAny c.M A (spliced (backTo pos (starEach args env))) (λvs s'=>Q ⟨vs,[]⟩ s') E s→wpAny c.M A (evalArgs f true (backTo pos (starEach args env)) []) Q E s
theorem aV{f:Value}:c9 c f pos []:= λA env Q E s h Γ p hΓ=>by
 have z:Q ⟨[],[]⟩ s:=h Γ p hΓ
 exact PyProof.Rows.evalArgs_none (M:=c.M) (A:=A) (E:=E) (f:=f) z Γ p hΓ
theorem af{f:Value}{rest:List Expr}(he:∀env,starEach (e::rest) env=(false,eval e env)::starEach rest env):c9 c f pos (e::rest):= λA env Q E s h=>by
 rw[he]at h ⊢
 exact Calls.evalArgs_plain h
theorem DI{args:List Expr}(O:c.Ok)
  (he:∀env,eval (.Call func args [] pos) env=(do callWith pos (←eval func env) [] (backTo pos (starEach args env)) (backToKw pos (keywordEach [] env))))
  (h0:Ev c F k func σ (.val (.ref f)) σ₁)(hf:c.K.lookup f=some ⟨oc,od,.func fd,osl⟩)(ha:c9 c (.ref f) pos args)(h1:Ag c F k pos args σ₁ vs σ₂)(h2:Fn c k (.ref f) vs [] σ₂.H v H'):Ev c F k (.Call func args [] pos) σ v ⟨σ₂.loc,H'⟩:= λA ρ s env Q E K r h=>
 Call_ (h0 A ρ s env _ E K r λρ1 s1 x r1 st1 vx=>by
  subst vx
  exact sU (fs:=[]) O hf ha h1 h2 K r1 .nil λρ2 s2 y r2 st2 vy=>h ρ2 s2 y r2 (st1.trans st2) vy) (he env)
noncomputable def gD(o:Expr)(env:Env):Sem Bool:=do return(←importBound o env).getD true
theorem Ek{o:Expr}{args:List Expr}(O:c.Ok)
  (he:∀env,eval (.Call (.Attribute o name apos) args [] pos) env=(do
   let ov←eval o env
   standAt apos.atName
   let(f,first)←holding [ov] (getMethod ov name (gD o env))
   callWith pos f first (backTo pos (starEach args env)) []))
  (h0:Ev c F k o σ (.obj i) σ₁)(hi:σ₁.H[i]?=some (.inst C d))(hd:σ₁.H[d]?=some (.dict es))(hl:es.lookup name=none)
  (hga:findIn c.K (.ref C) "__getattribute__"=some (some (.builtin "object.__getattribute__")))(hk:findIn c.K (.ref C) "__getattr__"=some none)(hn:findIn c.K (.ref C) name=some (some (.ref f)))
  (hf:c.K.lookup f=some ⟨.type "function",od,.func fd,osl⟩)(ha:c9 c (.ref f) pos args)(h1:Ag c F k pos args σ₁ vs σ₂)(h2:Fn c k (.ref f) (.obj i::vs) [] σ₂.H v H'):Ev c F k (.Call (.Attribute o name apos) args [] pos) σ v ⟨σ₂.loc,H'⟩:= λA ρ s env Q E K r h=>
 MethodCall_ (pl:=gD o env) (h0 A ρ s env _ E K r λρ1 s1 x r1 st1 vx=>by
  refine aO vx ?_;clear vx;intro hlt z0;subst z0
  refine ct (r1.inst hi hd) λents e h5 h3 I=>?_
  refine method_fn (r1.X O) I hga hk hn (by show(c.K.lookup f).map (·.cls)=_;rw[hf];rfl) ?_ ?_
  ·show(lookIn name (dictOf ents e)).map _=_
   rw[lookIn_dict];unfold getL;rw[sj h5 hl];simp only[kH h5];rfl
  ·exact sU (fs:=[.obj i]) O hf ha h1 h2 K r1 (.cons ⟨hlt,rfl⟩ .nil) λρ2 s2 y r2 st2 vy=>h ρ2 s2 y r2 (st1.trans st2) vy) (he env)
noncomputable def Wh(c:Cx)(F:Fs)(k:Nat)(test:Expr)(body orelse:List Stmt)(σ:St)(f:AF)(σ':St):Prop:=
 ∀(A:Around)(ρ:Nat→Addr)(s:Shared)(env:Env)(R:Result→Shared→Prop),cK k A→aW c A F ρ σ s env→
  (∀ρ' s' g,aW c A F ρ' σ' s' env→aM c ρ σ.H.length (· =env.locals) s ρ' σ'.H.length s'→FR ρ' σ'.H.length f g→R (.ok g) s')→codeAny c.M A (.whileLoop test body orelse env) R s
theorem im
  (h:∀E,wpAny c.M A (isTrue test env (eval test env)) (λb s₂=>if b then wpAny c.M A (execs body env) (λf s₃=>match f with
      | .next| .cont=>codeAny c.M A (.whileLoop test body orelse env) R s₃
      | .brk=>R (.ok .next) s₃
      | .ret v=>R (.ok (.ret v)) s₃) E s₂
    else wpAny c.M A (execs orelse env) (λf s₃=>R (.ok f) s₃) E s₂) E s):codeAny c.M A (.whileLoop test body orelse env) R s:=by
 refine codeAny_of_tree ?_
 rw[Around.under_of_weight (c:=.whileLoop test body orelse env) rfl rfl]
 show wpAny c.M A ((whileTurn test body orelse env).onRaise _) _ _ s
 refine wpAny_onRaise ?_
 unfold whileTurn
 refine YC (YE (h _) (λb s₂ h₂=>?_) λ_ _ x=>x)
 cases b with
 |true=>
  refine YC (YE h₂ (λf s₃ h₃=>?_) λ_ _ x=>x)
  cases f with
  |next=>exact YD ⟨rfl,h₃⟩
  |cont=>exact YD ⟨rfl,h₃⟩
  |brk=>exact YD h₃
  |ret v=>exact YD h₃
 |false=>exact YC (YE h₂ (λf s₃ h₃=>YD h₃) λ_ _ x=>x)
theorem jA{f g:AF}(hg:g=.next∨g=.cont)(h1:Te c F k test σ true σ₁)(h2:dq c F k body σ₁ g σ₂)(h3:Wh c F k test body orelse σ₂ f σ₃):Wh c F k test body orelse σ f σ₃:= λA ρ s env R K r h=>
 im λE=>h1 A ρ s env _ E K r λρ1 s1 x r1 st1 vx=>by
  subst vx
  refine h2 A ρ1 s1 env _ E K r1 λρ2 s2 y r2 st2 vy=>?_
  have z:=h3 A ρ2 s2 env R K r2 λρ3 s3 u r3 st3 vu=>h ρ3 s3 u r3 ((st1.trans st2).trans st3) vu
  rcases hg with rfl|rfl
  ·rw[show y=.next from vy];exact z
  ·rw[show y=.cont from vy];exact z
theorem me(h1:Te c F k test σ true σ₁)(h2:dq c F k body σ₁ .brk σ₂):Wh c F k test body orelse σ .next σ₂:= λA ρ s env R K r h=>
 im λE=>h1 A ρ s env _ E K r λρ1 s1 x r1 st1 vx=>by
  subst vx
  refine h2 A ρ1 s1 env _ E K r1 λρ2 s2 y r2 st2 vy=>?_
  rw[show y=.brk from vy];exact h ρ2 s2 _ r2 (st1.trans st2) rfl
theorem Fj(h1:Te c F k test σ true σ₁)(h2:dq c F k body σ₁ (.ret v) σ₂):Wh c F k test body orelse σ (.ret v) σ₂:= λA ρ s env R K r h=>
 im λE=>h1 A ρ s env _ E K r λρ1 s1 x r1 st1 vx=>by
  subst vx
  refine h2 A ρ1 s1 env _ E K r1 λρ2 s2 y r2 st2 vy=>?_
  refine aj vy ?_;clear vy;intro u z0 hu;subst z0
  exact h ρ2 s2 _ r2 (st1.trans st2) (al u rfl hu)
theorem ig{f:AF}(h1:Te c F k test σ false σ₁)(h2:dq c F k orelse σ₁ f σ₂):Wh c F k test body orelse σ f σ₂:= λA ρ s env R K r h=>
 im λE=>h1 A ρ s env _ E K r λρ1 s1 x r1 st1 vx=>by
  subst vx
  exact h2 A ρ1 s1 env _ E K r1 λρ2 s2 y r2 st2 vy=>h ρ2 s2 _ r2 (st1.trans st2) vy
theorem cO{f:AF}(h1:Wh c F k test body orelse σ f σ₁):Ex c F k (.While test body orelse pos) σ f σ₁:= λA ρ s env Q E K r h=>
 wpAny_While (h1 A ρ s env _ K r λρ1 s1 g r1 st1 vg=>h ρ1 s1 g r1 st1 vg)
theorem eu.push{H:List AO}{h:Heap}(r:eu c ρ H h)(o:Obj):eu c ρ H (h.push o):=
 ⟨λi ao e=>let⟨ob,h1,h2⟩:=r.at_ i ao e;(al ob (zH _ h1) h2),r.inj,r.up,λb ob e t=>zH _ (r.base b ob e t),
  λob e=>(r.tj ob e).imp (λz=>zH _ z) λ⟨z1,z2,vs,more,z3,z4⟩=>bS z1 z2 vs more z3 (zH _ z4)⟩
theorem aW.push(r:aW c A F ρ σ s env)(o:Obj)(t:Nat):aW c A F ρ σ {s with heap:=s.heap.push o,toks:=t} env:=
 ⟨r.hr.push o,r.sc,r.gl,r.bl,r.ce,r.ci,let⟨m,hm,hl⟩:=r.lo;(al m (hm.push o) hl),r.ap,r.lf,r.ge,r.sk.same rfl λb o2 es ep g1 g2 _ _=>bh o2 es ep (zH _ g1) g2,r.tp,r.fl⟩
noncomputable def HP(c:Cx)(A:Around)(F:Fs)(ρ:Nat→Addr)(σ:St)(s:Shared)(env:Env)(h:Heap):Prop:=
 (∀t,aW c A F ρ σ {s with heap:=h,toks:=t} env)∧∀b o,s.heap.get? b=some o→h.get? b=some o
theorem HP.start(r:aW c A F ρ σ s env):HP c A F ρ σ s env s.heap:=⟨λt=>r.toks t,λ_ _ e=>e⟩
theorem HP.kept:KeptH (HP c A F ρ σ s env):= λh ob p=>⟨λt=>(p.1 t).push ob t,λb o e=>zH _ (p.2 b o e)⟩
theorem HP.step(p:HP c A F ρ σ s env h)(t:Nat):aM c ρ σ.H.length (· =env.locals) s ρ σ.H.length {s with heap:=h,toks:=t}:=
 ⟨λ_ _=>rfl,ZA _,λi h1 h2=>absurd h2 (ZX.mpr h1),⟨λb o e=>⟨o,p.2 b o e⟩,λb o e _ _ _=>al o (p.2 b o e) .refl⟩,rfl⟩
theorem HP.of_push(r:aW c A F ρ σ s env):HP c A F ρ σ s env (s.heap.push o):=HP.kept _ _ (HP.start r)
noncomputable def Jn(c:Cx)(F:Fs)(k:Nat){α:Type}(f:List Value→Sem α)(as:List AV)(σ:St)(R:(Nat→Addr)→α→Prop)(σ':St):Prop:=
 ∀(A:Around)(ρ:Nat→Addr)(s:Shared)(env:Env)(Q:α→Shared→Prop)(E:Value→Shared→Prop)(xs:List Value),cK k A→aW c A F ρ σ s env→cF ρ σ.H.length as xs→
  (∀ρ' s' r,aW c A F ρ' σ' s' env→aM c ρ σ.H.length (· =env.locals) s ρ' σ'.H.length s'→R ρ' r→Q r s')→wpAny c.M A (f xs) Q E s
noncomputable abbrev cJ(c:Cx)(F:Fs)(k:Nat)(f:List Value→Sem Value)(as:List AV)(σ:St)(v:AV)(σ':St):Prop:=Jn c F k f as σ (λρ=>VR ρ σ'.H.length v) σ'
theorem dB{args:List Expr}
  (he:∀env,eval (.Call func args [] pos) env=(do callWith pos (←eval func env) [] (backTo pos (starEach args env)) (backToKw pos (keywordEach [] env))))
  (hp:∀env,(backTo pos (starEach args env)).any (·.1)=false)
  (h0:Ev c F k func σ (.val (.builtin id)) σ₁)(ha:c9 c (.builtin id) pos args)(h1:Ag c F k pos args σ₁ vs σ₂)(h2:cJ c F k (λxs=>call (.builtin id) xs) vs σ₂ v σ₃):Ev c F k (.Call func args [] pos) σ v σ₃:= λA ρ s env Q E K r h=>
 Call_ (h0 A ρ s env _ E K r λρ1 s1 x r1 st1 vx=>by
  subst vx
  refine Calls.callWith_builtin (hp env) (ha A env _ E s1 ?_)
  exact h1 A ρ1 s1 env _ E K r1 λρ2 s2 xs r2 st2 vxs=>h2 A ρ2 s2 env _ E xs K r2 vxs λρ3 s3 z r3 st3 vz=>h ρ3 s3 z r3 ((st1.trans st2).trans st3) vz) (he env)
theorem cP{T:String}{args:List Expr}
  (he:∀env,eval (.Call func args [] pos) env=(do callWith pos (←eval func env) [] (backTo pos (starEach args env)) (backToKw pos (keywordEach [] env))))
  (hp:∀env,(backTo pos (starEach args env)).any (·.1)=false)
  (h0:Ev c F k func σ (.val (.type T)) σ₁)(ha:c9 c (.type T) pos args)(h1:Ag c F k pos args σ₁ vs σ₂)(h2:cJ c F k (λxs=>call (.type T) xs) vs σ₂ v σ₃):Ev c F k (.Call func args [] pos) σ v σ₃:= λA ρ s env Q E K r h=>
 Call_ (h0 A ρ s env _ E K r λρ1 s1 x r1 st1 vx=>by
  subst vx
  refine PyProof.Rows.callWith_type (hp env) (ha A env _ E s1 ?_)
  exact h1 A ρ1 s1 env _ E K r1 λρ2 s2 xs r2 st2 vxs=>h2 A ρ2 s2 env _ E xs K r2 vxs λρ3 s3 z r3 st3 vz=>h ρ3 s3 z r3 ((st1.trans st2).trans st3) vz) (he env)
theorem qA{f:List Value→Sem α}{R:(Nat→Addr)→α→Prop}(h:∀(A:Around)(ρ:Nat→Addr)(n:Nat)(s:Shared)(Q:α→Shared→Prop)(E:Value→Shared→Prop)(x:Value),VR ρ n a x→
  (∀t r,R ρ r→Q r {s with toks:=t})→wpAny c.M A (f [x]) Q E s):Jn c F k f [a] σ R σ:= λA ρ s env Q E xs _ r hx q=>by
 cases hx with
 |cons hx ht=>cases ht;exact h A ρ _ s Q E _ hx λt z hz=>q ρ _ z (r.toks t) (.toks t) hz
theorem tF(hz:x.length<2 ^ 62):cJ c F k (λxs=>call (.builtin "len") xs) [.str x] σ (.int x.length) σ:=
 qA λA ρ n s Q E y hy z=>by refine bp hy ?_;clear hy;intro t z0;subst z0;exact P.len_str (by lia) (z _ _ ⟨_,rfl⟩)
theorem y0{i:Int}:cJ c F k (λxs=>call (.type "type") xs) [.int i] σ (.val (.type "int")) σ:=
 qA λA ρ n s Q E y hy z=>by refine bp hy ?_;clear hy;intro t z0;subst z0;exact call_type_of (typeIs_int s i t) (by decide) (z s.toks _ rfl)
theorem CZ{i:Int}:cJ c F k (λxs=>call (.type "int") xs) [.int i] σ (.int i) σ:=
 qA λA ρ n s Q E y hy z=>by refine bp hy ?_;clear hy;intro t z0;subst z0;exact call_int_int (z s.toks _ ⟨t,rfl⟩)
theorem ja{Y:String}(h:(!(Value.type X==Value.type Y))=t):du c F k (compareOp .IsNot) (.val (.type X)) (.val (.type Y)) σ (.bool t) σ:=
 cZ λA ρ n s Q E p q hp hq z=>by cases hp;cases hq;exact isnot_type (z s.toks _ (by rw[h];rfl))
theorem qb{pos:_}{i:Int}(h1:Ev c F k e σ (.int i) σ₁):Ev c F k (.UnaryOp .USub e pos) σ (.int (-i)) σ₁:= λA ρ s env Q E K r h=>
 UnaryOp_ (h1 A ρ s env _ E K r λρ1 s1 x r1 st1 vx=>by refine bp vx ?_;clear vx;intro t z0;subst z0;exact P.neg_int (h ρ1 _ _ (r1.toks _) (st1.trans (.toks _)) ⟨_,rfl⟩))
noncomputable abbrev Pt(c:Cx)(F:Fs)(k:Nat)(e:Option Expr)(σ:St)(i:Option Int)(σ':St):Prop:=De c F k (λenv=>evalPart e env) σ (λ_ x=>∃l:Option (Int×Tok),x=partValue l∧l.map (·.1)=i) σ'
theorem dm:Pt c F k none σ none σ:= λA ρ s env Q E K r h=>evalPart_none_step (h ρ s _ r .refl (al none rfl rfl))
theorem e9{i:Int}(h1:Ev c F k e σ (.int i) σ₁):Pt c F k (some e) σ (some i) σ₁:= λA ρ s env Q E K r h=>
 evalPart_some_step (h1 A ρ s env _ E K r λρ1 s1 x r1 st1 vx=>by refine bp vx ?_;clear vx;intro t z0;subst z0;exact h ρ1 s1 _ r1 st1 (al (some (i,t)) rfl rfl))
theorem qH{lower upper:Option Expr}{p:Pos}{l u:Option Int}(hz:x.length≤sizeLine)
  (h0:Ev c F k value σ (.str x) σ₁)(h1:Pt c F k lower σ₁ l σ₂)(h2:Pt c F k upper σ₂ u σ₃):Ev c F k (.Subscript value (.Slice lower upper none p) pos) σ (.str (Txt.slice x l u)) σ₃:= λA ρ s env Q E K r h=>
 Subscript_ (h0 A ρ s env _ E K r λρ1 s1 y r1 st1 vy=>wpAny_Slice (h1 A ρ1 s1 env _ E K r1 λρ2 s2 y2 r2 st2 vl=>h2 A ρ2 s2 env _ E K r2 λρ3 s3 y3 r3 st3 vu=>evalPart_none_step (by
  refine bp vy ?_;clear vy;intro t z0;subst z0
  refine aj vl ?_;clear vl;intro l' z0 hl;subst z0
  refine aj vu ?_;clear vu;intro u' z0 hu;subst z0
  have pp:=HP.of_push (o:={cls:=.type "slice",data:=.fields #[partValue l',partValue u',.none]}) r3
  subst hl hu
  exact tail_any (ops:=[_,_]) (typeIs_str _ x t) PySem.F.slot_str_getitem.lookup (wpAny_getItem_str_slice (l:=l') (u:=u') (st:=none) (bO _ (ZN _ rfl) rfl rfl) rfl
   (post_val_or_str (s:={s3 with heap:=s3.heap.push _}) ⟨Z2 (Txt.slice_le x _ _) hz,λt' kk=>h ρ3 _ _ (pp.1 kk) (((st1.trans st2).trans st3).trans (pp.step kk)) ⟨t',rfl⟩⟩)) rfl)))
noncomputable def gj(ρ:Nat→Addr)(n:Nat)(a:Addr):Nat→Addr:= λi=>if i=n then a else ρ i
theorem bc{a:Addr}(h:i<n):gj ρ n a i=ρ i:=if_neg (Z7 h)
theorem aF{a:Addr}:gj ρ n a n=a:=if_pos rfl
theorem rf.in1{n:Nat}{h:Heap}(x:rf c A ρ n h):rf c A.in1 ρ n h:=x
theorem eu.nosz(hr:eu c ρ H h)(o:Obj)(e:c.h₁.get? h.objs.size=some o):False:=by
 by_cases t:h.objs.size=c.tj
 ·rw[t]at e
  refine bp (hr.tj.there e) λo' e'=>?_
  rw[←t]at e'
  exact absurd (ZB e') (ZJ _)
 ·exact absurd (ZB (hr.base _ o e t)) (ZJ _)
theorem e7(h:Heap):h.get? h.objs.size=none:=by
 cases q:h.get? h.objs.size with
 |none=>rfl
 |some o=>exact absurd (ZB q) (ZJ _)
theorem eu.alloc(r:eu c ρ H h){ao:AO}{ob:Obj}(hf:ob.isFreed=false)(ho:OR (gj ρ H.length h.objs.size) (H.length+1) ao ob):eu c (gj ρ H.length h.objs.size) (H++[ao]) (h.push ob):=by
 have len:(H++[ao]).length=H.length+1:=by simp
 have lt:∀i,i<H.length→ρ i<h.objs.size:= λi hi=>by
  refine aj (r.at_ i (H[i]) (zG hi)) λo h1 _=>?_
  exact ZB h1
 refine⟨λi o e=>?_,λi j hi hj q=>?_,λi hi=>?_,λb o e t=>zH _ (r.base b o e t),λo e=>(r.tj o e).imp (λz=>zH _ z) λ⟨z1,z2,vs,more,z3,z4⟩=>bS z1 z2 vs more z3 (zH _ z4)⟩
 ·rw[len]
  by_cases hi:i<H.length
  ·rw[zL hi]at e
   refine aj (r.at_ i o e) λob' h1 h2=>?_
   exact al ob' (by rw[bc hi];exact zH _ h1) (h2.mono (λj hj=>bc hj) (Zf _))
  ·have hi2:i=H.length:=by
    have:=aq e
    rw[len]at this;lia
   subst hi2
   rw[zR (ZA _),ZY]at e
   cases e
   exact al ob (by rw[aF];exact ZN _ hf) ho
 ·rw[len]at hi hj
  by_cases h1:i<H.length
  ·by_cases h2:j<H.length
   ·rw[bc h1,bc h2]at q;exact r.inj i j h1 h2 q
   ·have:j=H.length:=by lia
    subst this
    rw[bc h1,aF]at q
    exact absurd (lt i h1) (by rw[q];exact ZJ _)
  ·have:i=H.length:=by lia
   subst this
   by_cases h2:j<H.length
   ·rw[bc h2,aF]at q
    exact absurd (lt j h2) (by rw[←q];exact ZJ _)
   ·lia
 ·rw[len]at hi
  by_cases h1:i<H.length
  ·rw[bc h1];exact r.up i h1
  ·have:i=H.length:=by lia
   subst this
   rw[aF]
   cases q:c.h₁.get? h.objs.size with
   |none=>rfl
   |some o=>exact(r.nosz o q).elim
theorem aW.alloc(r:aW c A F ρ σ s env){ao:AO}{ob:Obj}(t:Nat)(hf:ob.isFreed=false)(ho:OR (gj ρ σ.H.length s.heap.objs.size) (σ.H.length+1) ao ob):
  aW c A F (gj ρ σ.H.length s.heap.objs.size) ⟨σ.loc,σ.H++[ao]⟩ {s with heap:=s.heap.push ob,toks:=t} env∧aM c ρ σ.H.length (· =env.locals) s (gj ρ σ.H.length s.heap.objs.size) (σ.H++[ao]).length {s with heap:=s.heap.push ob,toks:=t}:=by
 have len:(σ.H++[ao]).length=σ.H.length+1:=by simp
 refine aj (r.lo) λm hm hl=>?_
 refine⟨⟨r.hr.alloc hf ho,r.sc,r.gl,r.bl,?_,λp hp=>?_,al m (hm.push ob) λx v hv=>?_,λi hi q=>?_,r.lf,r.ge,r.sk.keep (λi hi=>bc hi) (λi h1 h2=>?_) λb o2 es ep g1 g2 _ _=>bh o2 es ep (zH _ g1) g2,r.tp,r.fl⟩,
  ⟨λi hi=>bc hi,by rw[len];exact Zf _,λi h1 h2=>?_,⟨λb o e=>⟨o,zH _ e⟩,λb o e _ _ _=>al o (zH _ e) .refl⟩,rfl⟩⟩
 ·rw[r.ce];exact ZO λp hp=>by rw[bc (r.ci p hp)]
 ·show p.2<(σ.H++[ao]).length
  rw[len];exact Zd (r.ci p hp)
 ·refine aj (hl x v hv) λv' h1 h2=>?_
  exact al v' h1 (h2.mono (λj hj=>bc hj) (by show σ.H.length≤(σ.H++[ao]).length;rw[len];exact Zf _))
 ·by_cases h1:i<σ.H.length
  ·rw[bc h1]at q;exact r.ap i h1 q
  ·have hi':i<(σ.H++[ao]).length:=hi
   rw[len]at hi'
   have:i=σ.H.length:=by lia
   subst this
   rw[aF]at q
   have z:=hm.lt
   rw[←q]at z
   exact ZJ _ z
 ·have h2':i<(σ.H++[ao]).length:=h2
  rw[len]at h2'
  have:i=σ.H.length:=by lia
  subst this
  rw[aF];exact e7 _
 ·rw[len]at h2
  have:i=σ.H.length:=by lia
  subst this
  rw[aF];exact e7 _
theorem ul{p fget:Addr}{rest:List Value}(O:c.Ok)(hi:σ.H[i]?=some (.inst C d))(hd:σ.H[d]?=some (.dict es))(hv:v.handed=true)
  (hga:findIn c.K (.ref C) "__getattribute__"=some (some (.builtin "object.__getattribute__")))(hk:findIn c.K (.ref C) "__getattr__"=some none)(hh:hasDictIn c.K C=true)(ha:findIn c.K (.ref C) name=some (some (.ref p)))
  (hn:specialIn c.K (.ref p) "__get__"=some (some (.builtin "property.__get__")))(ht:takesIn c.K (.ref p)=some true)(hp:recIn c.K p "property"=some (.ref fget::rest))(hf:Fn c k (.ref fget) [.obj i] [] σ.H v H'):
  oO c F (k+1) (λx=>getAttr x name ex) (.obj i) σ v ⟨σ.loc,H'⟩:= λA ρ s env Q E x K r hx q=>by
 refine aO hx ?_;clear hx;intro hlt z0;subst z0
 refine ct (r.inst hi hd) λents e h5 h3 I=>?_
 have r':=r.toks (s.toks+1)
 refine get_bind (r.X O) I hga (findObj_data (by refine aj (any_some hh) λcd hc _=>?_;rw[hc];rfl) ha hn ht) hk (wpAny_call (prop_get (s:={s with toks:=s.toks+1}) (r.X O) hp ?_))
 refine hf A.in1 ρ _ _ _ _ K.in1 r'.hr r'.ge r'.sk.in1 (.cons ⟨hlt,rfl⟩ .nil) .nil λρ2 s2 y hr2 ge2 st2 vy=>?_
 refine aO (r'.after O hr2 ge2 st2) λr2 st2'=>?_
 show wpAny _ _ (handedOut y) _ _ _
 rw[handedOut_of (lW vy hv)]
 exact YD (q ρ2 s2 y r2 ((aM.toks _).trans st2') vy)
inductive Be:List Expr→List Str→Prop where
 |nil:Be [] []
 |cons {x:_} {q:_} {p:_} {es:_} {xs:_} (t:Be es xs):Be (.Constant (.str x) q p::es) (x::xs)
theorem ru{es:List Expr}(h:Be es xs):∀{s:Shared}{Q:List Value→Shared→Prop},(∀vs t,StrsAre vs xs→Q vs {s with toks:=t})→wpAny M A (spliced (backTo pos (starEach es env))) Q E s:=by
 induction h with
 |nil=>intro s Q h;exact args_nil (h [] s.toks .nil)
 | @cons x q p es xs t ih=>intro s Q h;exact args_cons (Calls.Constant_str (ih λvs tk hv=>h (_::vs) tk (.cons x _ hv))) rfl
theorem yF{elts:List Expr}{tp:Pos}{ys:List Str}(hs:Be elts ys)(hl:ys.length≤100)(hx:ys.any (· ==x)=t)(h1:Ev c F k e σ (.str x) σ₁):Te c F k (.Compare e [.In] [.Tuple elts kd tp] pos) σ t σ₁:= λA ρ s env Q E K r h=>
 wpAny_isTrue_Compare1 (h1 A ρ s env _ E K r λρ1 s1 y r1 st1 vy=>Tuple_ (ru hs λvs tk hv=>by
  refine bp vy ?_;clear vy;intro u z0;subst z0
  have ln:vs.length=ys.length:=by
   clear hx h hs hl
   induction hv with
   |nil=>rfl
   |cons _ _ _ ih=>simp[ih]
  refine wpAny_newTuple ?_ (by unfold sizeLine;lia)
  have pp:=HP.of_push (o:={cls:=.type "tuple",data:=.seq vs.toArray}) r1
  refine in_tuple_strs (items:=vs.toArray) (iN _ (ZN _ rfl) rfl _ rfl) (by simpa using hv) (wpAny_truthy_bool ?_)
  exact h ρ1 _ _ (pp.1 tk) (st1.trans (pp.step tk)) hx)) rfl
noncomputable def Al:Stmt→List (List Stmt)×Scope×List Expr
 | .FunctionDef _ _ b _ _ _ sc _ _ _=>([b],sc,[])
 | .ClassDef _ _ _ b _ _ _ _ _ _ _=>([b],default,[])
 | .While t b _ _=>([b],default,[t])
 | .For _ _ b _ _=>([b],default,[])
 | .If _ b o _=>([b,o],default,[])
 | .Try b h _ f _=>([b,f,match h with| [.ExceptHandler _ _ b _]=>b|_=>[]],default,[])
 | .Assign _ e _=>([],default,[e])
 | .AugAssign _ _ e _=>([],default,[e])
 |_=>([],default,[])
noncomputable def sub(l:List Stmt)(i j:Nat):List Stmt:=((l[i]?.map λs=>(Al s).1).getD []).getD j []
noncomputable def d7(l:List Stmt)(i:Nat):List Stmt:=sub l i 0
noncomputable def jZ(l:List Stmt)(i:Nat):Scope:=(l[i]?.map λs=>(Al s).2.1).getD default
noncomputable def vD(l:List Stmt)(i:Nat):Expr:=((l[i]?.map λs=>(Al s).2.2).getD []).headD (.Constant .none 0 ⟨0,0,0,0⟩)
noncomputable def Ib:Expr→Str
 | .Constant (.str x) _ _=>x
 |_=>""
noncomputable def dP:List Stmt:=PySem.Challenge.pw_nb0353_01.main.body
noncomputable def Kx(P:Params):Frag:=(hd.heap_1 P).filter λp=>p.1 != 873
noncomputable def wl(P:Params)(a:Addr):Obj:=((Kx P).lookup a).getD default
noncomputable def dw(P:Params)(a:Addr):FuncData:=match(wl P a).data with| .func fd=>fd|_=>default
structure Cx.Go(c:Cx):Prop where
 ok:c.Ok
 hK:c.K=Kx c.w.params
structure dz(P:Params)(a:Addr)(body:List Stmt)(sc:Scope):Prop where
 lk:(Kx P).lookup a=some ⟨.type "function",(wl P a).dict,.func (dw P a),(wl P a).slots⟩
 cd:codeIn (Kx P) (dw P a).code (dw P a).qualname=true
 bd:(dw P a).body=.stmts body
 se:(dw P a).scope=sc
 cl:(dw P a).closure=[]
 gl:(dw P a).globals=mainGlobals
 bl:(dw P a).builtins=builtinsNs
 ce:(sc.names.all λx=>x.2 != .cell)=true
 co:sc.isCoroutine=false
 ge:sc.isGenerator=false
 ki:sc.kind=.function
theorem iB{binds:List (Str×Value)}(h:lV ρ n loc binds):loc.lookup x=some v→∃v',binds.lookup x=some v'∧VR ρ n v v':=by
 induction h with
 |nil=>intro h;cases h
 | @cons y a w _ _ hv t ih=>
  intro h
  rw[ZD]at h ⊢
  cases q:(x==y)with
  |true=>rw[q]at h;cases h;exact al w rfl hv
  |false=>rw[q]at h;exact ih h
theorem jD{binds:List (Str×Value)}(h:lV ρ n loc binds):binds.map (·.1)=loc.map (·.1):=by
 induction h with
 |nil=>rfl
 |cons _ _ ih=>rw[ZZ,ZZ,ih]
theorem mt{α:Type}{x:Str}:∀{l:List (Str×α)},x∉l.map (·.1)→l.lookup x=none
 | [],_=>rfl
 |(y,w)::r,h=>by
  have h1:(x==y)=false:=by
   cases q:(x==y)with
   |false=>rfl
   |true=>exact absurd (by simp at q;simp[q]) h
  rw[ZD,h1]
  exact mt λz=>h (by simp at z ⊢;exact .inr z)
theorem dT{α:Type}{x:Str}:∀{l:List (Str×α)},(l.map (·.1)).Nodup→l.reverse.lookup x=l.lookup x
 | [],_=>rfl
 |(y,w)::r,h=>by
  rw[ZZ,List.nodup_cons]at h
  rw[List.reverse_cons,List.lookup_append,dT h.2]
  have e1:YB x [(y,w)]=if x==y then some w else none:=by
   rw[ZD];cases(x==y)<;>rfl
  have e2:YB x ((y,w)::r)=if x==y then some w else YB x r:=by
   rw[ZD];cases(x==y)<;>rfl
  rw[e1,e2]
  cases q:(x==y)with
  |false=>cases YB x r<;>simp
  |true=>
   have e:x=y:=by simpa using q
   rw[mt (by rw[e];exact h.1)];simp
theorem aW.forget(r:aW c A F ρ ⟨loc,H⟩ s env):aW c A F ρ ⟨[],H⟩ s env:=
 ⟨r.hr,r.sc,r.gl,r.bl,r.ce,r.ci,let⟨m,hm,_⟩:=r.lo;(al m hm λ_ _ h=>nomatch h),r.ap,r.lf,r.ge,r.sk,r.tp,r.fl⟩
theorem aK{f:AF}(h:dq c F k body σ f ⟨loc,H⟩):dq c F k body σ f ⟨[],H⟩:= λA ρ s env Q E K r q=>
 h A ρ s env Q E K r λρ' s' a r' st v=>q ρ' s' a r'.forget st v
theorem da{fl:AF}(G:c.Go)(X:dz c.w.params f body sc)
  (nd:decide (loc.map (·.1)).Nodup=true)(lo:(loc.all λp=>sc.names.lookup p.1==some .local)=true)
  (bd:∀(ρ:Nat→Addr)(n:Nat)(s:Shared)(xs:List Value)(ks:List (Str×Value)),(Kx c.w.params).In s.heap→cF ρ n args xs→lV ρ n kw ks→∃binds,BindsTo s (dw c.w.params f) ⟨xs,ks⟩ binds∧lV ρ n loc binds)
  (hb:dq c ⟨sc,[]⟩ k body ⟨loc,H⟩ fl ⟨[],H'⟩):Fn c (k+1) (.ref f) args kw H fl.val H':=by
 have e:=X.se
 subst e
 refine FX (fd:=dw c.w.params f) (loc:=loc) G.ok (by rw[G.hK];exact X.lk) (by rw[G.hK];exact X.cd) X.bd X.cl X.gl X.bl (λx hx=>?_) X.co X.ge X.ki (λρ s xs ks XX hx hk=>?_) hb
 ·have:=ZG.mp X.ce x hx
  simpa using this
 ·refine aj (bd ρ _ s xs ks (G.hK▸XX) hx hk) λbinds b1 b2=>?_
  have nm:=jD b2
  refine bO binds b1 (λx hx=>?_) λx v hv=>?_
  ·have hm:x.1∈loc.map (·.1):=by rw[←nm];exact List.mem_map_of_mem hx
   refine aj (ZR.mp hm) λp hp e=>?_
   have:=ZG.mp lo p hp
   rw[←e];simpa using this
  ·refine aj (iB b2 hv) λv' h1 h2=>?_
   exact al v' (by rw[dT (by rw[nm];exact of_decide_eq_true nd)];exact h1) h2
structure GN(K:Frag)(C:Addr):Prop where
 ga:findIn K (.ref C) "__getattribute__"=some (some (.builtin "object.__getattribute__"))
 gk:findIn K (.ref C) "__getattr__"=some none
 hd:hasDictIn K C=true
 sa:findIn K (.ref C) "__setattr__"=some (some (.builtin "object.__setattr__"))
 po:plainOver K C=true
theorem bY(G:c.Go)(X:GN (Kx c.w.params) C)(hi:σ.H[i]?=some (.inst C d))(hd:σ.H[d]?=some (.dict es))(hl:es.lookup name=some v)(hv:v.handed=true)
  (ha:findIn (Kx c.w.params) (.ref C) name=some none):oO c F k (λx=>getAttr x name ex) (.obj i) σ v σ:=
 u6 G.ok hi hd hl hv (G.hK▸X.ga) (G.hK▸X.hd) (attr:=none) (G.hK▸ha) rfl
theorem cI(G:c.Go)(X:GN (Kx c.w.params) C)(hi:σ.H[i]?=some (.inst C d))(hd:σ.H[d]?=some (.dict es))(hz:es.length<1000)
  (ha:findIn (Kx c.w.params) (.ref C) name=some none):wg c F k (λx y=>setAttr x name y) (.obj i) v σ (λ_ _=>True) ⟨σ.loc,σ.H.set d (.dict (aS name v es))⟩:=
 uv G.ok hi hd hz (G.hK▸X.sa) (G.hK▸X.po) (by rw[G.hK];unfold takerIn;rw[ha];rfl) (G.hK▸X.hd)
theorem dz.at{a:Addr}{b:List Stmt}(G:c.Go)(X:dz c.w.params a b sc):c.K.lookup a=some ⟨.type "function",(wl c.w.params a).dict,.func (dw c.w.params a),(wl c.w.params a).slots⟩:=by
 rw[G.hK];exact X.lk
theorem jU{args:List Expr}(G:c.Go)(X:dz c.w.params f body sc)
  (he:∀env,eval (.Call func args [] pos) env=(do callWith pos (←eval func env) [] (backTo pos (starEach args env)) (backToKw pos (keywordEach [] env))))
  (h0:Ev c F k func σ (.val (.ref f)) σ₁)(ha:c9 c (.ref f) pos args)(h1:Ag c F k pos args σ₁ vs σ₂)(h2:Fn c k (.ref f) vs [] σ₂.H v H'):Ev c F k (.Call func args [] pos) σ v ⟨σ₂.loc,H'⟩:=
 DI G.ok he h0 (X.at G) ha h1 h2
theorem gw{o:Expr}{args:List Expr}(G:c.Go)(X:dz c.w.params f body sc)(Y:GN (Kx c.w.params) C)
  (he:∀env,eval (.Call (.Attribute o name apos) args [] pos) env=(do
   let ov←eval o env
   standAt apos.atName
   let(f,first)←holding [ov] (getMethod ov name (gD o env))
   callWith pos f first (backTo pos (starEach args env)) []))
  (h0:Ev c F k o σ (.obj i) σ₁)(hi:σ₁.H[i]?=some (.inst C d))(hd:σ₁.H[d]?=some (.dict es))(hl:es.lookup name=none)(hn:findIn (Kx c.w.params) (.ref C) name=some (some (.ref f)))
  (ha:c9 c (.ref f) pos args)(h1:Ag c F k pos args σ₁ vs σ₂)(h2:Fn c k (.ref f) (.obj i::vs) [] σ₂.H v H'):Ev c F k (.Call (.Attribute o name apos) args [] pos) σ v ⟨σ₂.loc,H'⟩:=
 Ek G.ok he h0 hi hd hl (G.hK▸Y.ga) (G.hK▸Y.gk) (G.hK▸hn) (X.at G) ha h1 h2
theorem bC{P:Params}{args:Args}{binds:List (Str×Value)}(X:(Kx P).In s.heap)(e:∀S,peek (Kx P) S (bindArgs fd args)=some binds):BindsTo s fd args binds:=
 λM A E Q hq=>(Looks.of_peek X (e _)).here hq
noncomputable def Dq:=d7 dP 14
noncomputable def vZ:=jZ dP 14
noncomputable def Dr:=d7 (d7 dP 20) 3
noncomputable def wN:=jZ (d7 dP 20) 3
noncomputable def Fh:=d7 (d7 dP 20) 25
noncomputable def un:=jZ (d7 dP 20) 25
theorem nD(P:Params):dz P 190 Dq vZ:=by constructor<;>w_on
theorem nB(P:Params):dz P 508 Dr wN:=by constructor<;>w_on
theorem mZ(P:Params):dz P 670 Fh un:=by constructor<;>w_on
theorem eK(P:Params):GN (Kx P) 724:=by constructor<;>w_on
theorem dg{v:Value}(G:c.Go)(hk:F.scope.kind=.function)(hx:F.scope.names.lookup x=some .globalImplicit)(hv:nsIn (Kx c.w.params) mainGlobals x=some none)(hb:bootBuiltins x=some v)(hn:x≠("__name__":Str):=by decide)(hd:(x==("__debug__":Str))=false:=by decide):Ev c F k (.Name x pos) σ (.val v) σ:=
 fJ G.ok hk hx (G.hK▸hv) hb hn hd
theorem dp{v:Value}(G:c.Go)(hk:F.scope.kind=.function)(hx:F.scope.names.lookup x=some .globalImplicit)(hv:nsIn (Kx c.w.params) mainGlobals x=some (some v))(hd:(x==("__debug__":Str))=false:=by decide):Ev c F k (.Name x pos) σ (.val v) σ:=
 lZ G.ok hk hx (G.hK▸hv) hd
theorem qh:bootBuiltins "type"=some (.type "type"):=by w_on
theorem AH:bootBuiltins "int"=some (.type "int"):=by w_on
theorem og:bootBuiltins "len"=some (.builtin "len"):=by w_on
theorem uB(P:Params):nsIn (Kx P) mainGlobals "type"=some none:=by w_on
theorem E8(P:Params):nsIn (Kx P) mainGlobals "int"=some none:=by w_on
theorem tB(P:Params):nsIn (Kx P) mainGlobals "len"=some none:=by w_on
theorem wc(P:Params):nsIn (Kx P) mainGlobals "_index"=some (some (.ref 190)):=by w_on
theorem qZ(P:Params):findIn (Kx P) (.ref 724) "_StringIO__buf"=some none:=by w_on
theorem sT(P:Params):findIn (Kx P) (.ref 724) "_StringIO__check"=some (some (.ref 508)):=by w_on
theorem vR(P:Params):findIn (Kx P) (.ref 724) "read"=some (some (.ref 670)):=by w_on
theorem ui(P:Params):findIn (Kx P) (.ref 724) "_StringIO__pos"=some none:=by w_on
theorem BG(P:Params)(x y:Value):bindArgs (dw P 190) ⟨[x,y],[]⟩=pure [(("n":Str),x),(("what":Str),y)]:=by w_on
theorem tJ(G:c.Go){n:Int}{what:Str}(h1:n≤1099511627776)(h2: -1099511627776≤n):Fn c (k+1) (.ref 190) [.int n,.str what] [] H (.int n) H:=by
 refine da (fl:=.ret (.int n)) (loc:=[(("n":Str),.int n),(("what":Str),.str what)]) G (nD _) (by w_on) (by w_on) (λρ m s xs ks X hx hk=>?_) ?_
 ·refine Je hx hk λ_ _ hx hy=>?_
  refine al [(("n":Str),_),(("what":Str),_)] ?_ (.cons hx (.cons hy .nil))
  refine @BindsTo.of_eq _ _ _ _ ?_
  exact BG _ _ _
 ·have hk:(Fs.mk vZ []).scope.kind=.function:=by w_on
  apply aK
  k_dflt refine' ae ?_ (ae ?_ (ae ?_ (bv (aX ?_))))
  ·refine aL (t:=false) (bI (av rfl (cP (λ_=>rfl) (λ_=>rfl) (dg G hk rfl (uB _) qh) (af λ_=>rfl) (am (λ_=>rfl) (aa hk rfl rfl) au) y0) (dg G hk rfl (E8 _) AH) (ja (by decide)))) ar
  ·exact aw hk rfl (λ_=>rfl) (cP (λ_=>rfl) (λ_=>rfl) (dg G hk rfl (E8 _) AH) (af λ_=>rfl) (am (λ_=>rfl) (aa hk rfl rfl) au) CZ)
  ·refine aL (t:=false) (d9 (av rfl (aa hk rfl rfl) aJ (rp (decide_eq_false (by lia)))) (d9 (av rfl (aa hk rfl rfl) (qb aJ) (lB (decide_eq_false (by lia)))) jk)) ar
  ·exact aa hk rfl rfl
theorem B3(P:Params)(x:Value)(S:Setting):peek (Kx P) S (bindArgs (dw P 508) ⟨[x],[]⟩)=some [(("self":Str),x)]:=by w_on
theorem tf(G:c.Go){b:Str}(hi:H[i]?=some (.inst 724 d))(hd:H[d]?=some (.dict es))(hb:es.lookup ("_StringIO__buf":Str)=some (.str b)):Fn c (k+1) (.ref 508) [.obj i] [] H .none H:=by
 refine da (fl:=.next) (loc:=[(("self":Str),.obj i)]) G (nB _) (by w_on) (by w_on) (λρ m s xs ks X hx hk=>?_) ?_
 ·refine mx hx hk λ_ hx=>?_
  refine al [(("self":Str),_)] (@bC _ _ _ _ _ X ?_) (.cons hx .nil)
  exact B3 _ _
 ·have hk:(Fs.mk wN []).scope.kind=.function:=by w_on
  apply aK
  k_dflt refine' ae (aL (t:=false) ?_ ar) ar
  exact av rfl (bE (λ_=>by k_dflt rfl) (aa hk rfl rfl) (bY G (eK _) hi hd hb rfl (qZ _))) bx (bQ rfl)
theorem wh(P:Params)(x y:Value)(S:Setting):peek (Kx P) S (bindArgs (dw P 670) ⟨[x,y],[]⟩)=some [(("self":Str),x),(("size":Str),y)]:=by w_on
theorem sK(G:c.Go){b:Str}{p:Int}(hi:H[i]?=some (.inst 724 d))(hd:H[d]?=some (.dict es))(hb:es.lookup ("_StringIO__buf":Str)=some (.str b))(hp:es.lookup ("_StringIO__pos":Str)=some (.int p))
  (hl:es.lookup ("_StringIO__check":Str)=none)(hz:b.length<2 ^ 20)(hle:(b.length:Int)≤p):Fn c (k+2) (.ref 670) [.obj i,.int 1] [] H (.str "") H:=by
 refine da (fl:=.ret (.str "")) (loc:=[(("self":Str),.obj i),(("size":Str),.int 1)]) G (mZ _) (by w_on) (by w_on) (λρ m s xs ks X hx hk=>?_) ?_
 ·refine Je hx hk λ_ _ hx hy=>?_
  refine al [(("self":Str),_),(("size":Str),_)] (@bC _ _ _ _ _ X ?_) (.cons hx (.cons hy .nil))
  exact wh _ _ _
 ·have hk:(Fs.mk un []).scope.kind=.function:=by w_on
  apply aK
  k_dflt refine' ae ?_ (ae ?_ (ae ?_ (ae ?_ (ae ?_ (bv ?_)))))
  ·exact aL (t:=false) (av rfl (aa hk rfl rfl) bx (bQ rfl)) ar
  ·exact aw hk rfl (λ_=>rfl) (jU G (nD _) (λ_=>rfl) (dp G hk rfl (wc _)) (af λ_=>rfl) (am (λ_=>rfl) (aa hk rfl rfl) (am (λ_=>rfl) bn au)) (tJ G (by decide) (by decide)))
  ·exact ck (λenv h=>by unfold interactive;rw[h];rfl) (λ_=>rfl) (gw G (nB _) (eK _) (λ_=>rfl) (aa hk rfl rfl) hi hd hl (sT _) aV au (tf G hi hd hb))
  ·exact aw hk rfl (λ_=>rfl) (bE (λ_=>by k_dflt rfl) (aa hk rfl rfl) (bY G (eK _) hi hd hp rfl (ui _)))
  ·exact aw hk rfl (λ_=>rfl) (dB (λ_=>rfl) (λ_=>rfl) (dg G hk rfl (tB _) og) (af λ_=>rfl) (am (λ_=>rfl) (bE (λ_=>by k_dflt rfl) (aa hk rfl rfl) (bY G (eK _) hi hd hb rfl (qZ _))) au) (tF (by lia)))
  ·exact aL (t:=true) (av rfl (aa hk rfl rfl) (aa hk rfl rfl) (gN (decide_eq_true hle))) (bv (aX bn))
theorem Di(G:c.Go){b:Str}{p:Int}(hi:H[i]?=some (.inst 724 d))(hd:H[d]?=some (.dict es))(hb:es.lookup ("_StringIO__buf":Str)=some (.str b))(hp:es.lookup ("_StringIO__pos":Str)=some (.int p))
  (hl:es.lookup ("_StringIO__check":Str)=none)(hz:b.length<2 ^ 20)(hez:es.length<100)(hne:i≠d)(hlt:p<(b.length:Int)):
  Fn c (k+2) (.ref 670) [.obj i,.int 1] [] H (.str (Txt.slice b (some p) (some (p+1)))) (H.set d (.dict (aS "_StringIO__pos" (.int (p+1)) es))):=by
 refine da (fl:=.ret (.str _)) (loc:=[(("self":Str),.obj i),(("size":Str),.int 1)]) G (mZ _) (by w_on) (by w_on) (λρ m s xs ks X hx hk=>?_) ?_
 ·refine Je hx hk λ_ _ hx hy=>?_
  refine al [(("self":Str),_),(("size":Str),_)] (@bC _ _ _ _ _ X ?_) (.cons hx (.cons hy .nil))
  exact wh _ _ _
 ·have hk:(Fs.mk un []).scope.kind=.function:=by w_on
  have dl:d<H.length:=aq hd
  apply aK
  k_dflt refine' ae ?_ (ae ?_ (ae ?_ (ae ?_ (ae ?_ (ae ?_ (ae (σ₁:=⟨[(("self":Str),.obj i),(("size":Str),.int 1),(("start":Str),.int p),(("stop":Str),.int (p+1))],H⟩) ?_ (ae ?_ (bv ?_))))))))
  ·exact aL (t:=false) (av rfl (aa hk rfl rfl) bx (bQ rfl)) ar
  ·exact aw hk rfl (λ_=>rfl) (jU G (nD _) (λ_=>rfl) (dp G hk rfl (wc _)) (af λ_=>rfl) (am (λ_=>rfl) (aa hk rfl rfl) (am (λ_=>rfl) bn au)) (tJ G (by decide) (by decide)))
  ·exact ck (λenv h=>by unfold interactive;rw[h];rfl) (λ_=>rfl) (gw G (nB _) (eK _) (λ_=>rfl) (aa hk rfl rfl) hi hd hl (sT _) aV au (tf G hi hd hb))
  ·exact aw hk rfl (λ_=>rfl) (bE (λ_=>by k_dflt rfl) (aa hk rfl rfl) (bY G (eK _) hi hd hp rfl (ui _)))
  ·exact aw hk rfl (λ_=>rfl) (dB (λ_=>rfl) (λ_=>rfl) (dg G hk rfl (tB _) og) (af λ_=>rfl) (am (λ_=>rfl) (bE (λ_=>by k_dflt rfl) (aa hk rfl rfl) (bY G (eK _) hi hd hb rfl (qZ _))) au) (tF (by lia)))
  ·exact aL (t:=false) (av rfl (aa hk rfl rfl) (aa hk rfl rfl) (gN (decide_eq_false (by lia)))) ar
  ·by_cases q:p+1<(b.length:Int)
   ·exact aL (t:=true) (bu (av rfl (aa hk rfl rfl) aJ (gN (decide_eq_true (by decide)))) (bu (av rfl (iY (aa hk rfl rfl) (aa hk rfl rfl) i6) (aa hk rfl rfl) (lB (decide_eq_true q))) iq))
     (ae (aw hk rfl (λ_=>rfl) (iY (aa hk rfl rfl) (aa hk rfl rfl) i6)) ar)
   ·have e:(b.length:Int)=p+1:=by lia
    rw[←e]
    exact aL (t:=false) (bu (av rfl (aa hk rfl rfl) aJ (gN (decide_eq_true (by decide)))) (bI (av rfl (iY (aa hk rfl rfl) (aa hk rfl rfl) i6) (aa hk rfl rfl) (lB (decide_eq_false q))))) ar
  ·exact aQ (λ_=>rfl) (aa hk rfl rfl) (aa hk rfl rfl) (cI G (eK _) hi hd (by lia) (ui _))
  ·have hi':(H.set d (.dict (aS "_StringIO__pos" (.int (p+1)) es)))[i]?=some (.inst 724 d):=ak hi hne
   have hd':(H.set d (.dict (aS "_StringIO__pos" (.int (p+1)) es)))[d]?=some (.dict (aS "_StringIO__pos" (.int (p+1)) es)):=zT dl
   have hb':(aS ("_StringIO__pos":Str) (.int (p+1)) es).lookup ("_StringIO__buf":Str)=some (.str b):=dQ hb
   exact aX (qH (by unfold sizeLine;lia) (bE (λ_=>by k_dflt rfl) (aa hk rfl rfl) (bY G (eK _) hi' hd' hb' rfl (qZ _))) (e9 (aa hk rfl rfl)) (e9 (aa hk rfl rfl)))
noncomputable def mM:List Stmt:=d7 dP 30
noncomputable def D7:=d7 mM 1
noncomputable def wQ:=jZ mM 1
noncomputable def Cl:=d7 mM 5
noncomputable def sV:=jZ mM 5
noncomputable def l8:=d7 mM 6
noncomputable def pW:=jZ mM 6
noncomputable def FO:=d7 mM 10
noncomputable def Bf:=jZ mM 10
noncomputable def FJ:=d7 mM 9
noncomputable def BF:=jZ mM 9
noncomputable def vd:=d7 mM 0
noncomputable def BH:=jZ mM 0
theorem A4(P:Params):dz P 790 D7 wQ:=by constructor<;>w_on
theorem jB(P:Params):dz P 820 Cl sV:=by constructor<;>w_on
theorem kr(P:Params):dz P 827 l8 pW:=by constructor<;>w_on
theorem vU(P:Params):dz P 856 FO Bf:=by constructor<;>w_on
theorem Dp(P:Params):dz P 849 FJ BF:=by constructor<;>w_on
theorem Ei(P:Params):dz P 783 vd BH:=by constructor<;>w_on
theorem bZ(P:Params):GN (Kx P) 859:=by constructor<;>w_on
noncomputable def dA:List Str:=["instream","infile","posix","eof","commenters","wordchars","whitespace","whitespace_split","quotes","escape","escapedquotes","state","pushback","lineno","debug","token","filestack","source","_punctuation_chars"]
theorem xz(P:Params):(dA.all λn=>findIn (Kx P) (.ref 859) n==some none)=true:=by w_on
theorem c8(P:Params){n:Str}(h:dA.contains n=true):findIn (Kx P) (.ref 859) n=some none:=by
 have:=ZG.mp (xz P) n (ZF.mp h)
 simpa using this
theorem Ce(P:Params):findIn (Kx P) (.ref 859) "punctuation_chars"=some (some (.ref 791)):=by w_on
theorem Ai(P:Params):specialIn (Kx P) (.ref 791) "__get__"=some (some (.builtin "property.__get__")):=by w_on
theorem zK(P:Params):takesIn (Kx P) (.ref 791)=some true:=by w_on
theorem Ah(P:Params):recIn (Kx P) 791 "property"=some (.ref 790::((recIn (Kx P) 791 "property").getD []).drop 1):=by w_on
theorem yZ(P:Params)(x:Value)(S:Setting):peek (Kx P) S (bindArgs (dw P 790) ⟨[x],[]⟩)=some [(("self":Str),x)]:=by w_on
theorem BA(G:c.Go)(hi:H[i]?=some (.inst 859 d))(hd:H[d]?=some (.dict es))(hb:es.lookup ("_punctuation_chars":Str)=some v)(hv:v.handed=true):Fn c (k+1) (.ref 790) [.obj i] [] H v H:=by
 refine da (fl:=.ret v) (loc:=[(("self":Str),.obj i)]) G (A4 _) (by w_on) (by w_on) (λρ m s xs ks X hx hk=>?_) ?_
 ·refine mx hx hk λ_ hx=>?_
  refine al [(("self":Str),_)] (@bC _ _ _ _ _ X ?_) (.cons hx .nil)
  exact yZ _ _
 ·have hk:(Fs.mk wQ []).scope.kind=.function:=by w_on
  apply aK
  k_dflt refine' bv (aX (bE ?_ (aa hk rfl rfl) (bY G (bZ _) hi hd hb hv (c8 _ (by decide)))))
  exact λ_=>by k_dflt rfl
theorem lY(G:c.Go)(hi:σ.H[i]?=some (.inst 859 d))(hd:σ.H[d]?=some (.dict es))(hb:es.lookup ("_punctuation_chars":Str)=some v)(hv:v.handed=true):
  oO c F (k+2) (λx=>getAttr x "punctuation_chars" ex) (.obj i) σ v σ:=
 ul (H':=σ.H) G.ok hi hd hv (G.hK▸(bZ _).ga) (G.hK▸(bZ _).gk) (G.hK▸(bZ _).hd) (G.hK▸Ce _) (G.hK▸Ai _) (G.hK▸zK _) (G.hK▸Ah _) (BA G hi hd hb hv)
noncomputable def cS:List Stmt:=d7 l8 2
noncomputable def db:Fs:=⟨pW,[]⟩
noncomputable def dO(W:Str)(ii pb fs:Nat)(st:AV)(tok:Str):List (Str×AV):=
 [("instream",.obj ii),("infile",.none),("posix",.bool true),("eof",.none),("commenters",.str ""),("wordchars",.str W),("whitespace",.str " \t\r\n"),("whitespace_split",.bool true),("quotes",.str "'\""),("escape",.str "\\"),("escapedquotes",.str "\""),
  ("state",st),("pushback",.obj pb),("lineno",.int 1),("debug",.int 0),("token",.str tok),("filestack",.obj fs),("source",.none),("_punctuation_chars",.str "")]
noncomputable def vm(buf:Str)(p:Int):List (Str×AV):=[("_StringIO__newline",.str "\n"),("_StringIO__buf",.str buf),("_StringIO__pos",.int p)]
noncomputable def yS(L:Nat)(q:Bool)(e:Str):List (Str×AV):=[("self",.obj L),("quoted",.bool q),("escapedstate",.str e)]
noncomputable def eY(L:Nat)(q:Bool)(e ch:Str):List (Str×AV):=[("self",.obj L),("quoted",.bool q),("escapedstate",.str e),("nextchar",.str ch)]
structure Lx(H:List AO)(L D S T:Nat)(W:Str)(pb fs:Nat)(st:AV)(tok buf:Str)(p:Int):Prop where
 l:H[L]?=some (.inst 859 D)
 d:H[D]?=some (.dict (dO W S pb fs st tok))
 s:H[S]?=some (.inst 724 T)
 t:H[T]?=some (.dict (vm buf p))
 lt:L≠T
 dt:D≠T
 st:S≠T
 ld:L≠D
 sd:S≠D
section
variable{p:Int}
theorem Lx.io(x:Lx H L D S T W pb fs st tok buf p)(p':Int):Lx (H.set T (.dict (vm buf p'))) L D S T W pb fs st tok buf p':=by
 have tl:=aq x.t
 exact⟨ak x.l x.lt,ak x.d x.dt,ak x.s x.st,zT tl,x.lt,x.dt,x.st,x.ld,x.sd⟩
theorem Lx.lex(x:Lx H L D S T W pb fs st tok buf p)(st':AV)(tok':Str):Lx (H.set D (.dict (dO W S pb fs st' tok'))) L D S T W pb fs st' tok' buf p:=by
 have tl:=aq x.d
 exact⟨ak x.l x.ld,zT tl,ak x.s x.sd,ak x.t (Ne.symm x.dt),x.lt,x.dt,x.st,x.ld,x.sd⟩
theorem te(G:c.Go){e:Str}{fl:AF}(x:Lx H L D S T W pb fs st tok buf p)(hz:buf.length<2 ^ 20)(hlt:p<(buf.length:Int))(hch:Txt.slice buf (some p) (some (p+1))=ch)(hnl:(ch.cps.toList==("\n":Str).cps.toList)=false)
  (h:∀H',H'=H.set T (.dict (vm buf (p+1)))→dq c db (k+3) (cS.drop 3) ⟨eY L q e ch,H'⟩ fl σ'):dq c db (k+3) cS ⟨yS L q e,H⟩ fl σ':=by
 have hk:db.scope.kind=.function:=by w_on
 subst hch
 have x':=x.io (p+1)
 k_dflt refine' ae (σ₁:=⟨eY L q e (Txt.slice buf (some p) (some (p+1))),H.set T (.dict (vm buf (p+1)))⟩) ?_ (ae ?_ (ae ?_ (h _ rfl)))
 ·refine aL (t:=false) (bI (bP (λ_ _=>rfl) (bE (λ_=>by k_dflt rfl) (aa hk rfl rfl) (lY G x.l x.d rfl rfl)) (dX (by decide) (by decide)))) (ae (aw hk rfl (λ_=>rfl) (gw G (mZ _) (eK _) (λ_=>rfl) (bE (λ_=>by k_dflt rfl) (aa hk rfl rfl) (bY G (bZ _) x.l x.d rfl rfl (c8 _ (by decide)))) x.s x.t rfl (vR _) (af λ_=>rfl) (am (λ_=>rfl) aJ au) (Di G x.s x.t rfl rfl rfl hz (by show 3<100;decide) x.st hlt))) ar)
 ·exact aL (t:=false) (av rfl (aa hk rfl rfl) bn (ek hnl)) ar
 ·exact aL (t:=false) (av rfl (bE (λ_=>by k_dflt rfl) (aa hk rfl rfl) (bY G (bZ _) x'.l x'.d rfl rfl (c8 _ (by decide)))) aJ (gN (by decide))) ar
end
theorem aU{st:Stmt}{f:AF}(h:Ex c F k st σ f σ₁):dq c F k [st] σ f σ₁:=by
 cases f with
 |next=>exact ae h ar
 |brk=>exact gT h
 |cont=>exact tg h
 |ret v=>exact bv h
theorem ba{body:_}{orelse:_}{pos:_}{f:AF}(h1:Te c F k test σ false σ₁)(h2:dq c F k orelse σ₁ f σ₂):dq c F k [.If test body orelse pos] σ f σ₂:=aU (aL (t:=false) h1 h2)
theorem cX{body:_}{orelse:_}{pos:_}{f:AF}(h1:Te c F k test σ true σ₁)(h2:dq c F k body σ₁ f σ₂):dq c F k [.If test body orelse pos] σ f σ₂:=aU (aL (t:=true) h1 h2)
section
variable{p:Int}{e:Str}
theorem bD:db.scope.kind=.function:=by w_on
theorem cy(G:c.Go)(x:Lx H L D S T W pb fs st tok buf p)(hl:(dO W S pb fs st tok).lookup name=some v)(hv:v.handed=true)(ha:dA.contains name=true):
  Ev c db k (.Attribute (.Name "self" p1) name p2) ⟨eY L q e ch,H⟩ v ⟨eY L q e ch,H⟩:=
 bE (λ_=>by k_dflt rfl) (aa bD rfl rfl) (bY G (bZ _) x.l x.d hl hv (c8 _ ha))
theorem gp:Ev c db k (.Name "nextchar" p1) ⟨eY L q e ch,H⟩ (.str ch) ⟨eY L q e ch,H⟩:=aa bD rfl rfl
theorem lN{ii:Nat}{t:Str}:aS "token" (.str t) (dO W ii pb fs st tok)=dO W ii pb fs st t:=by w_on
theorem yN{ii:Nat}:aS "state" st' (dO W ii pb fs st tok)=dO W ii pb fs st' tok:=by w_on
theorem nk(G:c.Go){t:Str}(x:Lx H L D S T W pb fs st tok buf p):wg c db k (λa b=>setAttr a "token" b) (.obj L) (.str t) ⟨eY L q e ch,H⟩ (λ_ _=>True) ⟨eY L q e ch,H.set D (.dict (dO W S pb fs st t))⟩:=by
 have z:=cI (k:=k) (F:=db) (σ:=⟨eY L q e ch,H⟩) (v:=.str t) G (bZ _) x.l x.d (by show 19<1000;decide) (c8 _ (n:="token") (by decide))
 rw[lN]at z
 exact z
theorem ib(G:c.Go)(x:Lx H L D S T W pb fs st tok buf p):wg c db k (λa b=>setAttr a "state" b) (.obj L) st' ⟨eY L q e ch,H⟩ (λ_ _=>True) ⟨eY L q e ch,H.set D (.dict (dO W S pb fs st' tok))⟩:=by
 have z:=cI (k:=k) (F:=db) (σ:=⟨eY L q e ch,H⟩) (v:=st') G (bZ _) x.l x.d (by show 19<1000;decide) (c8 _ (n:="state") (by decide))
 rw[yN]at z
 exact z
theorem F3(G:c.Go){t:Str}(x:Lx H L D S T W pb fs st tok buf p):wg c db k (λa b=>setAttr a "state" b) (.obj L) st' ⟨eY L q e ch,H.set D (.dict (dO W S pb fs st t))⟩ (λ_ _=>True) ⟨eY L q e ch,H.set D (.dict (dO W S pb fs st' t))⟩:=by
 have z:=ib (k:=k) (q:=q) (e:=e) (ch:=ch) (st':=st') G (x.lex st t)
 rw[Zj]at z
 exact z
theorem xV(G:c.Go)(x:Lx H L D S T W pb fs (.str " ") tok buf p)(hlen:ch.length=1)
  (h1:(!(Builtin.Str.occurrences " \t\r\n" ch 0 (" \t\r\n":Str).length 1).isEmpty)=false)(h2:(!(Builtin.Str.occurrences "" ch 0 ("":Str).length 1).isEmpty)=false)
  (h3:(!(Builtin.Str.occurrences "\\" ch 0 ("\\":Str).length 1).isEmpty)=false)(h4:(!(Builtin.Str.occurrences W ch 0 W.length 1).isEmpty)=true):
  dq c db (k+3) (cS.drop 3) ⟨eY L q e ch,H⟩ .next ⟨eY L q e ch,H.set D (.dict (dO W S pb fs (.str "a") ch))⟩:=by
 have x':=x.lex (.str " ") ch
 have dl:D<H.length:=aq x.d
 k_dflt refine' ba (av rfl (cy G x rfl rfl (by decide)) bx (bQ rfl)) ?_
 refine cX (av rfl (cy G x rfl rfl (by decide)) bn (ek (by decide))) ?_
 refine ba (l7 (bP (λ_ _=>rfl) gp (dX (t:=true) (by lia) (by rw[hlen];decide)))) ?_
 refine ba (av rfl gp (cy G x rfl rfl (by decide)) (ik h1)) ?_
 refine ba (av rfl gp (cy G x rfl rfl (by decide)) (ik h2)) ?_
 refine ba (bu (bP (λ_ _=>rfl) (cy G x rfl rfl (by decide)) bG) (bI (av rfl gp (cy G x rfl rfl (by decide)) (ik h3)))) ?_
 refine cX (av rfl gp (cy G x rfl rfl (by decide)) (ik h4)) ?_
 exact ae (aQ (λ_=>rfl) gp (aa bD rfl rfl) (nk G x)) (aU (aQ (λ_=>rfl) bn (aa bD rfl rfl) (F3 G x)))
end
noncomputable def gK(ch w:Str):Bool:=!(Builtin.Str.occurrences w ch 0 w.length 1).isEmpty
section
variable{p:Int}{e:Str}
theorem tY(hlen:ch.length=1):Te c db k (.UnaryOp .Not (.Name "nextchar" p1) p2) ⟨eY L q e ch,H⟩ false ⟨eY L q e ch,H⟩:=
 l7 (bP (λ_ _=>rfl) gp (dX (t:=true) (by lia) (by rw[hlen];decide)))
theorem jX(G:c.Go){w:Str}(x:Lx H L D S T W pb fs st tok buf p)(hl:(dO W S pb fs st tok).lookup name=some (.str w))(ha:dA.contains name=true)(h:gK ch w=t):
  Te c db k (.Compare (.Name "nextchar" p1) [.In] [.Attribute (.Name "self" p2) name p3] p4) ⟨eY L q e ch,H⟩ t ⟨eY L q e ch,H⟩:=
 av rfl gp (cy G x hl rfl ha) (ik h)
theorem k7(G:c.Go)(x:Lx H L D S T W pb fs st tok buf p):Te c db k (.Attribute (.Name "self" p1) "posix" p2) ⟨eY L q e ch,H⟩ true ⟨eY L q e ch,H⟩:=
 bP (λ_ _=>rfl) (cy G x rfl rfl (by decide)) bG
theorem mr(G:c.Go)(x:Lx H L D S T W pb fs st tok buf p):Te c db k (.UnaryOp .Not (.Attribute (.Name "self" p1) "posix" p2) p3) ⟨eY L q e ch,H⟩ false ⟨eY L q e ch,H⟩:=l7 (k7 G x)
theorem gf(G:c.Go)(x:Lx H L D S T W pb fs (.str y) tok buf p):Te c db k (.Compare (.Attribute (.Name "self" p1) "state" p2) [.Is] [.Constant .none kd p3] p4) ⟨eY L q e ch,H⟩ false ⟨eY L q e ch,H⟩:=
 av rfl (cy G x rfl rfl (by decide)) bx (bQ rfl)
theorem oI(G:c.Go){z:Str}(x:Lx H L D S T W pb fs (.str y) tok buf p)(h:(y.cps.toList==z.cps.toList)=t):Te c db k (.Compare (.Attribute (.Name "self" p1) "state" p2) [.Eq] [.Constant (.str z) kd p3] p4) ⟨eY L q e ch,H⟩ t ⟨eY L q e ch,H⟩:=
 av rfl (cy G x rfl rfl (by decide)) bn (ek h)
theorem gS(G:c.Go){w:Str}(x:Lx H L D S T W pb fs (.str y) tok buf p)(hl:(dO W S pb fs (.str y) tok).lookup name=some (.str w))(ha:dA.contains name=true)(h:gK y w=t):
  Te c db k (.Compare (.Attribute (.Name "self" p1) "state" p2) [.In] [.Attribute (.Name "self" p3) name p4] p5) ⟨eY L q e ch,H⟩ t ⟨eY L q e ch,H⟩:=
 av rfl (cy G x rfl rfl (by decide)) (cy G x hl rfl ha) (ik h)
theorem xU(G:c.Go)(x:Lx H L D S T W pb fs (.str " ") tok buf p)(hlen:ch.length=1)(h1:gK ch " \t\r\n"=false)(h2:gK ch ""=false)(h3:gK ch "\\"=false)(h4:gK ch W=false)(h5:gK ch "'\""=true):
  dq c db (k+3) (cS.drop 3) ⟨eY L q e ch,H⟩ .next ⟨eY L q e ch,H.set D (.dict (dO W S pb fs (.str ch) tok))⟩:=by
 k_dflt refine' ba (gf G x) ?_
 refine cX (oI G x (by decide)) ?_
 refine ba (tY hlen) ?_
 refine ba (jX G x rfl (by decide) h1) ?_
 refine ba (jX G x rfl (by decide) h2) ?_
 refine ba (bu (k7 G x) (bI (jX G x rfl (by decide) h3))) ?_
 refine ba (jX G x rfl (by decide) h4) ?_
 refine ba (av rfl gp (bE (λ_=>by k_dflt rfl) (aa bD rfl rfl) (lY G x.l x.d rfl rfl)) (ik h2)) ?_
 refine cX (jX G x rfl (by decide) h5) ?_
 exact ae (aL (t:=false) (mr G x) ar) (aU (aQ (λ_=>rfl) gp (aa bD rfl rfl) (ib G x)))
theorem D0(G:c.Go)(x:Lx H L D S T W pb fs (.str y) tok buf p)(hlen:ch.length=1)(hy1:(y.cps.toList==(" ":Str).cps.toList)=false)(hy2:gK y "'\""=true)(hne:(ch.cps.toList==y.cps.toList)=false)(h3:gK ch "\\"=false)
  (hz:(tok++ch).length≤sizeLine)(ha:tok.length=0→tok++ch=ch):
  dq c db (k+3) (cS.drop 3) ⟨eY L q e ch,H⟩ .next ⟨eY L true e ch,H.set D (.dict (dO W S pb fs (.str y) (tok++ch)))⟩:=by
 k_dflt refine' ba (gf G x) ?_
 refine ba (oI G x hy1) ?_
 refine cX (gS G x rfl (by decide) hy2) ?_
 refine ae (σ₁:=⟨eY L true e ch,H⟩) (aw bD rfl (λ_=>rfl) gJ) ?_
 refine ae (aL (t:=false) (tY hlen) ar) ?_
 refine ba (av rfl gp (cy G x rfl rfl (by decide)) (ek hne)) ?_
 refine ba (bu (k7 G x) (bI (jX G x rfl (by decide) h3))) ?_
 exact aU (eM (aa bD rfl rfl) (bY G (bZ _) x.l x.d rfl rfl (c8 _ (by decide))) gp (pf hz ha (λh=>by lia)) (nk G x))
theorem u4(G:c.Go)(x:Lx H L D S T W pb fs (.str y) tok buf p)(hlen:ch.length=1)(hy1:(y.cps.toList==(" ":Str).cps.toList)=false)(hy2:gK y "'\""=true)(heq:(ch.cps.toList==y.cps.toList)=true):
  dq c db (k+3) (cS.drop 3) ⟨eY L q e ch,H⟩ .next ⟨eY L true e ch,H.set D (.dict (dO W S pb fs (.str "a") tok))⟩:=by
 k_dflt refine' ba (gf G x) ?_
 refine ba (oI G x hy1) ?_
 refine cX (gS G x rfl (by decide) hy2) ?_
 refine ae (σ₁:=⟨eY L true e ch,H⟩) (aw bD rfl (λ_=>rfl) gJ) ?_
 refine ae (aL (t:=false) (tY hlen) ar) ?_
 refine cX (av rfl gp (cy G x rfl rfl (by decide)) (ek heq)) ?_
 exact ba (mr G x) (aU (aQ (λ_=>rfl) bn (aa bD rfl rfl) (ib G x)))
end
theorem aW.less(hl:∀y a,l'.lookup y=some a→l.lookup y=some a)(r:aW c A F ρ ⟨l,H⟩ s env):aW c A F ρ ⟨l',H⟩ s env:=
 ⟨r.hr,r.sc,r.gl,r.bl,r.ce,r.ci,(by refine aj (r.lo) λm h1 h2=>?_;exact al m h1 λx v hv=>h2 x v (hl x v hv)),r.ap,r.lf,r.ge,r.sk,r.tp,r.fl⟩
section
variable{p:Int}{e:Str}
theorem sZ:∀y a,(yS L q e).lookup y=some a→(eY L q e ch).lookup y=some a:= λy a h=>by
 unfold yS at h;unfold eY
 simp only[ZD]at h ⊢
 split at h
 ·exact h
 ·split at h
  ·exact h
  ·split at h
   ·exact h
   ·simp[YB]at h
theorem kV(G:c.Go){fl:AF}(x:Lx H L D S T W pb fs st tok buf p)(hz:buf.length<2 ^ 20)(hle:(buf.length:Int)≤p)
  (h:dq c db (k+3) (cS.drop 3) ⟨eY L q e "",H⟩ fl σ'):dq c db (k+3) cS ⟨yS L q e,H⟩ fl σ':=by
 have hk:db.scope.kind=.function:=by w_on
 k_dflt refine' ae (σ₁:=⟨eY L q e "",H⟩) ?_ (ae ?_ (ae ?_ h))
 ·refine aL (t:=false) (bI (bP (λ_ _=>rfl) (bE (λ_=>by k_dflt rfl) (aa hk rfl rfl) (lY G x.l x.d rfl rfl)) (dX (by decide) (by decide)))) (ae (aw hk rfl (λ_=>rfl) (gw G (mZ _) (eK _) (λ_=>rfl) (bE (λ_=>by k_dflt rfl) (aa hk rfl rfl) (bY G (bZ _) x.l x.d rfl rfl (c8 _ (by decide)))) x.s x.t rfl (vR _) (af λ_=>rfl) (am (λ_=>rfl) aJ au) (sK G x.s x.t rfl rfl rfl hz hle))) ar)
 ·exact aL (t:=false) (av rfl (aa hk rfl rfl) bn (ek (by decide))) ar
 ·exact aL (t:=false) (av rfl (bE (λ_=>by k_dflt rfl) (aa hk rfl rfl) (bY G (bZ _) x.l x.d rfl rfl (c8 _ (by decide)))) aJ (gN (by decide))) ar
theorem F7:Te c db k (.UnaryOp .Not (.Name "nextchar" p1) p2) ⟨eY L q e "",H⟩ true ⟨eY L q e "",H⟩:=
 l7 (bP (λ_ _=>rfl) gp (dX (t:=false) (by decide) (by decide)))
theorem uh(G:c.Go){k1 k2 k3:Nat}(x:Lx H L D S T W pb fs (.str "a") tok buf p):Te c db k (.Compare (.Attribute (.Name "self" p1) "state" p2) [.In] [.Tuple [.Constant (.str "a") k1 p3,.Constant (.str "c") k2 p4] k3 p5] p6) ⟨eY L q e ch,H⟩ true ⟨eY L q e ch,H⟩:=
 yF (.cons (.cons .nil)) (by decide) (by decide) (cy G x rfl rfl (by decide))
theorem uD(G:c.Go)(x:Lx H L D S T W pb fs (.str "a") tok buf p)(hlen:ch.length=1)(h1:gK ch " \t\r\n"=false)(h2:gK ch ""=false)(h5:gK ch "'\""=true):
  dq c db (k+3) (cS.drop 3) ⟨eY L q e ch,H⟩ .next ⟨eY L q e ch,H.set D (.dict (dO W S pb fs (.str ch) tok))⟩:=by
 k_dflt refine' ba (gf G x) ?_
 refine ba (oI G x (by decide)) ?_
 refine ba (gS G x rfl (by decide) (by w_on)) ?_
 refine ba (gS G x rfl (by decide) (by w_on)) ?_
 refine cX (uh G x) ?_
 refine ba (tY hlen) ?_
 refine ba (jX G x rfl (by decide) h1) ?_
 refine ba (jX G x rfl (by decide) h2) ?_
 refine ba (oI G x (by decide)) ?_
 refine cX (bu (k7 G x) (bu (jX G x rfl (by decide) h5) iq)) ?_
 exact aU (aQ (λ_=>rfl) gp (aa bD rfl rfl) (ib G x))
theorem uk(G:c.Go)(x:Lx H L D S T W pb fs (.str "a") tok buf p)(hlen:ch.length=1)(h1:gK ch " \t\r\n"=true)(ht:(tok.length:Int)≠0)(hz:tok.length<2 ^ 62):
  dq c db (k+3) (cS.drop 3) ⟨eY L q e ch,H⟩ .brk ⟨eY L q e ch,H.set D (.dict (dO W S pb fs (.str " ") tok))⟩:=by
 have x':=x.lex (.str " ") tok
 k_dflt refine' ba (gf G x) ?_
 refine ba (oI G x (by decide)) ?_
 refine ba (gS G x rfl (by decide) (by w_on)) ?_
 refine ba (gS G x rfl (by decide) (by w_on)) ?_
 refine cX (uh G x) ?_
 refine ba (tY hlen) ?_
 refine cX (jX G x rfl (by decide) h1) ?_
 refine ae (aL (t:=false) (av rfl (cy G x rfl rfl (by decide)) aJ (gN (by decide))) ar) ?_
 refine ae (aQ (λ_=>rfl) bn (aa bD rfl rfl) (ib G x)) ?_
 exact cX (gA (bP (λ_ _=>rfl) (cy G x' rfl rfl (by decide)) (dX hz (by simpa using ht)))) (gT gZ)
theorem Bg(G:c.Go)(x:Lx H L D S T W pb fs (.str "a") tok buf p):
  dq c db (k+3) (cS.drop 3) ⟨eY L q e "",H⟩ .brk ⟨eY L q e "",H.set D (.dict (dO W S pb fs .none tok))⟩:=by
 k_dflt refine' ba (gf G x) ?_
 refine ba (oI G x (by decide)) ?_
 refine ba (gS G x rfl (by decide) (by w_on)) ?_
 refine ba (gS G x rfl (by decide) (by w_on)) ?_
 refine cX (uh G x) ?_
 refine cX F7 ?_
 exact ae (aQ (λ_=>rfl) bx (aa bD rfl rfl) (ib G x)) (gT gZ)
theorem yh(G:c.Go)(x:Lx H L D S T W pb fs .none tok buf p):
  dq c db (k+3) (cS.drop 3) ⟨eY L q e ch,H⟩ .brk ⟨eY L q e ch,H.set D (.dict (dO W S pb fs .none ""))⟩:=by
 k_dflt refine' cX (av rfl (cy G x rfl rfl (by decide)) bx (bQ rfl)) ?_
 exact ae (aQ (λ_=>rfl) bn (aa bD rfl rfl) (nk G x)) (gT gZ)
end
inductive rR(W:Str):Str→Str→Bool→Str→Str→Str→Bool→Prop where
 |word {t:Str} {q:Bool} {ch:Str} (h1:gK ch " \t\r\n"=false) (h2:gK ch ""=false) (h3:gK ch "\\"=false) (h4:gK ch W=true):rR W " " t q ch "a" ch q
 |opn {t:Str} {q:Bool} {ch:Str} (h1:gK ch " \t\r\n"=false) (h2:gK ch ""=false) (h3:gK ch "\\"=false) (h4:gK ch W=false) (h5:gK ch "'\""=true):rR W " " t q ch ch t q
 |inn {y t:Str} {q:Bool} {ch:Str} (hy1:(y.cps.toList==(" ":Str).cps.toList)=false) (hy2:gK y "'\""=true) (hne:(ch.cps.toList==y.cps.toList)=false) (h3:gK ch "\\"=false)
   (hz:(t++ch).length≤sizeLine) (ha:t.length=0→t++ch=ch):rR W y t q ch y (t++ch) true
 |close {y t:Str} {q:Bool} {ch:Str} (hy1:(y.cps.toList==(" ":Str).cps.toList)=false) (hy2:gK y "'\""=true) (heq:(ch.cps.toList==y.cps.toList)=true):rR W y t q ch "a" t true
 |again {t:Str} {q:Bool} {ch:Str} (h1:gK ch " \t\r\n"=false) (h2:gK ch ""=false) (h5:gK ch "'\""=true):rR W "a" t q ch ch t q
inductive jO(W:Str):Str→Str→Bool→List Str→Str→Str→Bool→Prop where
 |nil {y:_} {t:_} {q:_}:jO W y t q [] y t q
 |cons {y t:Str} {q:Bool} {ch:Str} {cs:List Str} {y1 t1:Str} {q1:Bool} {y2 t2:Str} {q2:Bool} (hl:ch.length=1) (hn:(ch.cps.toList==("\n":Str).cps.toList)=false) (h:rR W y t q ch y1 t1 q1) (r:jO W y1 t1 q1 cs y2 t2 q2):jO W y t q (ch::cs) y2 t2 q2
noncomputable def jT(buf:Str):Int→List Str→Prop
 |_,[]=>True
 |p,ch::cs=>p<(buf.length:Int)∧Txt.slice buf (some p) (some (p+1))=ch∧jT buf (p+1) cs
noncomputable def nx(H:List AO)(D S T:Nat)(W:Str)(pb fs:Nat)(buf:Str)(st:AV)(tok:Str)(p:Int):List AO:=(H.set T (.dict (vm buf p))).set D (.dict (dO W S pb fs st tok))
section
variable{tok':Str}{p p':Int}{e:Str}
theorem Lx.nx(x:Lx H L D S T W pb fs st tok buf p)(st':AV)(tok':Str)(p':Int):Lx (nx H D S T W pb fs buf st' tok' p') L D S T W pb fs st' tok' buf p':=(x.io p').lex st' tok'
theorem wM(x:Lx H L D S T W pb fs st tok buf p):nx H D S T W pb fs buf st tok p=H:=by
 unfold nx
 have e1:H.set T (.dict (vm buf p))=H:=by
  refine bp (zS.mp x.t) λh1 h2=>?_
  rw[←h2];exact Z8 h1
 rw[e1]
 refine bp (zS.mp x.d) λh1 h2=>?_
 rw[←h2];exact Z8 h1
theorem IA(hne:D≠T):(nx H D S T W pb fs buf st tok p).set T (.dict (vm buf p'))=nx H D S T W pb fs buf st tok p':=by
 unfold nx
 rw[Zz _ _ hne,Zj]
theorem qO:(nx H D S T W pb fs buf st tok p).set D (.dict (dO W S pb fs st' tok'))=nx H D S T W pb fs buf st' tok' p:=by
 unfold nx
 rw[Zj]
theorem yW(G:c.Go){t:Str}{y1 t1:Str}{q1:Bool}{a:Int}(x:Lx H L D S T W pb fs st tok buf p)(h:rR W y t q ch y1 t1 q1):ch.length=1→
  dq c db (k+3) (cS.drop 3) ⟨eY L q e ch,nx H D S T W pb fs buf (.str y) t a⟩ .next ⟨eY L q1 e ch,nx H D S T W pb fs buf (.str y1) t1 a⟩:=by
 induction h with
 | @word t q ch h1 h2 h3 h4=>intro hl;have z:=xV (k:=k) (q:=q) (e:=e) G (x.nx (.str " ") t a) hl h1 h2 h3 h4;rw[qO]at z;exact z
 | @opn t q ch h1 h2 h3 h4 h5=>intro hl;have z:=xU (k:=k) (q:=q) (e:=e) G (x.nx (.str " ") t a) hl h1 h2 h3 h4 h5;rw[qO]at z;exact z
 | @inn y t q ch a1 a2 a3 a4 a5 a6=>intro hl;have z:=D0 (k:=k) (q:=q) (e:=e) G (x.nx (.str y) t a) hl a1 a2 a3 a4 a5 a6;rw[qO]at z;exact z
 | @close y t q ch a1 a2 a3=>intro hl;have z:=u4 (k:=k) (q:=q) (e:=e) G (x.nx (.str y) t a) hl a1 a2 a3;rw[qO]at z;exact z
 | @again t q ch h1 h2 h5=>intro hl;have z:=uD (k:=k) (q:=q) (e:=e) G (x.nx (.str "a") t a) hl h1 h2 h5;rw[qO]at z;exact z
theorem EJ{f:AF}(hl:∀y a,l'.lookup y=some a→l.lookup y=some a)(h:Wh c F k test body orelse ⟨l',H⟩ f σ₁):Wh c F k test body orelse ⟨l,H⟩ f σ₁:= λA ρ s env R K r q=>
 h A ρ s env R K (r.less hl) q
theorem mU:Te c F k (.Constant (.bool true) kd p1) σ true σ:=bP (λ_ _=>rfl) gJ bG
theorem rL(G:c.Go){f:AF}{y2 t2:Str}{q2:Bool}(hz:buf.length<2 ^ 20)(x:Lx H L D S T W pb fs st tok buf p){t:Str}(r:jO W y t q cs y2 t2 q2):∀{a:Int},jT buf a cs→
  Wh c db (k+3) (.Constant (.bool true) kd p1) cS [] ⟨yS L q2 e,nx H D S T W pb fs buf (.str y2) t2 (a+cs.length)⟩ f σ'→
  Wh c db (k+3) (.Constant (.bool true) kd p1) cS [] ⟨yS L q e,nx H D S T W pb fs buf (.str y) t a⟩ f σ':=by
 induction r with
 |nil=>intro a _ h;rw[←Int.add_zero a];exact h
 | @cons y t q ch cs y1 t1 q1 y2 t2 q2 hl hn ht r ih=>
  intro a hs h
  obtain⟨hlt,hch,sr⟩:=hs
  refine jA (σ₂:=⟨eY L q1 e ch,nx H D S T W pb fs buf (.str y1) t1 (a+1)⟩) (.inl rfl) mU (te G (x.nx _ _ _) hz hlt hch hn λH' z=>?_) (EJ sZ (ih sr (by rw[Int.add_assoc,Int.add_comm 1];exact h)))
  subst z
  rw[IA x.dt]
  exact yW G x ht hl
theorem AW{e:Expr}{pos:_}(h1:Te c F k e σ true σ₁):Te c F k (.UnaryOp .Not e pos) σ false σ₁:=l7 h1
theorem sQ{e:Expr}{pos:_}(h1:Te c F k e σ false σ₁):Te c F k (.UnaryOp .Not e pos) σ true σ₁:=l7 h1
noncomputable def Ca(L:Nat)(q:Bool)(e:Str)(r:AV):List (Str×AV):=[("self",.obj L),("quoted",.bool q),("escapedstate",.str e),("result",r)]
noncomputable def u5:List Stmt:=l8.drop 3
theorem u7(P:Params)(x:Value)(S:Setting):peek (Kx P) S (bindArgs (dw P 827) ⟨[x],[]⟩)=some [(("self":Str),x)]:=by w_on
theorem ie(G:c.Go)(hs:l.lookup ("self":Str)=some (.obj L))(x:Lx H L D S T W pb fs st tok buf p)(hl:(dO W S pb fs st tok).lookup name=some v)(hv:v.handed=true)(ha:dA.contains name=true):
  Ev c db k (.Attribute (.Name "self" p1) name p2) ⟨l,H⟩ v ⟨l,H⟩:=
 bE (λ_=>by k_dflt rfl) (aa bD rfl hs) (bY G (bZ _) x.l x.d hl hv (c8 _ ha))
theorem xr(G:c.Go)(x:Lx H L D S T W pb fs st tok buf p)(hq:(tok.cps.toList==("":Str).cps.toList)=false):
  dq c db (k+3) u5 ⟨yS L q e,H⟩ (.ret (.str tok)) ⟨Ca L q e (.str tok),H.set D (.dict (dO W S pb fs st ""))⟩:=by
 have x':=x.lex st ""
 k_dflt refine' ae (σ₁:=⟨Ca L q e (.str tok),H⟩) ?_ (ae (σ₁:=⟨Ca L q e (.str tok),H.set D (.dict (dO W S pb fs st ""))⟩) ?_ (ae (σ₁:=⟨Ca L q e (.str tok),H.set D (.dict (dO W S pb fs st ""))⟩) ?_ (ae (σ₁:=⟨Ca L q e (.str tok),H.set D (.dict (dO W S pb fs st ""))⟩) ?_ (bv ?_))))
 ·exact aw bD rfl (λ_=>rfl) (ie G rfl x rfl rfl (by decide))
 ·refine aQ (λ_=>rfl) bn (aa bD rfl rfl) ?_
  have z:=cI (k:=k+3) (F:=db) (σ:=⟨Ca L q e (.str tok),H⟩) (v:=.str "") G (bZ _) x.l x.d (by show 19<1000;decide) (c8 _ (n:="token") (by decide))
  rw[lN]at z
  exact z
 ·cases q with
  |true=>exact aL (t:=false) (bu (bP (λ_ _=>rfl) (ie G rfl x' rfl rfl (by decide)) bG) (bI (AW (bP (λ_ _=>rfl) (aa bD rfl rfl) bG)))) ar
  |false=>exact aL (t:=false) (bu (bP (λ_ _=>rfl) (ie G rfl x' rfl rfl (by decide)) bG) (bu (sQ (bP (λ_ _=>rfl) (aa bD rfl rfl) bG)) (bI (av rfl (aa bD rfl rfl) bn (ek hq))))) ar
 ·exact aL (t:=false) (av rfl (ie G rfl x' rfl rfl (by decide)) aJ (rp (by decide))) ar
 ·exact aX (aa bD rfl rfl)
theorem qR(G:c.Go)(x:Lx H L D S T W pb fs st "" buf p):
  dq c db (k+3) u5 ⟨yS L false e,H⟩ (.ret .none) ⟨Ca L false e .none,H.set D (.dict (dO W S pb fs st ""))⟩:=by
 have x':=x.lex st ""
 k_dflt refine' ae (σ₁:=⟨Ca L false e (.str ""),H⟩) ?_ (ae (σ₁:=⟨Ca L false e (.str ""),H.set D (.dict (dO W S pb fs st ""))⟩) ?_ (ae (σ₁:=⟨Ca L false e .none,H.set D (.dict (dO W S pb fs st ""))⟩) ?_ (ae ?_ (bv ?_))))
 ·exact aw bD rfl (λ_=>rfl) (ie G rfl x rfl rfl (by decide))
 ·refine aQ (λ_=>rfl) bn (aa bD rfl rfl) ?_
  have z:=cI (k:=k+3) (F:=db) (σ:=⟨Ca L false e (.str ""),H⟩) (v:=.str "") G (bZ _) x.l x.d (by show 19<1000;decide) (c8 _ (n:="token") (by decide))
  rw[lN]at z
  exact z
 ·refine aL (t:=true) (bu (bP (λ_ _=>rfl) (ie G rfl x' rfl rfl (by decide)) bG) (bu (sQ (bP (λ_ _=>rfl) (aa bD rfl rfl) bG)) (bu (av rfl (aa bD rfl rfl) bn (ek (by decide))) iq))) ?_
  exact aU (aw bD rfl (λ_=>rfl) bx)
 ·exact aL (t:=false) (av rfl (ie G rfl x' rfl rfl (by decide)) aJ (rp (by decide))) ar
 ·exact aX (aa bD rfl rfl)
end
section
variable{tok':Str}{p p':Int}{e:Str}
theorem zC(G:c.Go){H2:List AO}{l2:List (Str×AV)}(h1:∀kd p1,Wh c db (k+3) (.Constant (.bool true) kd p1) cS [] ⟨yS L false " ",H⟩ .next ⟨eY L q " " ch,H1⟩)(h2:dq c db (k+3) u5 ⟨yS L q " ",H1⟩ (.ret v) ⟨l2,H2⟩):Fn c (k+4) (.ref 827) [.obj L] [] H v H2:=by
 refine da (fl:=.ret v) (loc:=[(("self":Str),.obj L)]) G (kr _) (by w_on) (by w_on) (λρ m s xs ks X hx hk=>?_) ?_
 ·refine mx hx hk λ_ hx=>?_
  refine al [(("self":Str),_)] (@bC _ _ _ _ _ X ?_) (.cons hx .nil)
  exact u7 _ _
 ·apply aK (loc:=l2)
  k_dflt refine' ae (σ₁:=⟨[("self",.obj L),("quoted",.bool false)],H⟩) ?_ (ae (σ₁:=⟨yS L false " ",H⟩) ?_ (ae (σ₁:=⟨yS L q " ",H1⟩) ?_ h2))
  ·exact aw bD rfl (λ_=>rfl) gJ
  ·exact aw bD rfl (λ_=>rfl) bn
  ·exact λA ρ s env Q E K r z=>cO (h1 _ _) A ρ s env Q E K r λρ' s' a r' st' v'=>z ρ' s' a (r'.less sZ) st' v'
theorem sM(G:c.Go)(hz:buf.length<2 ^ 20)(x:Lx H L D S T W pb fs (.str " ") "" buf p)(ht:jO W " " "" false cs "a" tok q)(hs:jT buf p (cs++[(" ":Str)]))(h0:tok.length≠0)(h2:tok.length<2 ^ 20):
  Fn c (k+4) (.ref 827) [.obj L] [] H (.str tok) (nx H D S T W pb fs buf (.str " ") "" (p+cs.length+1)):=by
 have hs':∀{a:Int}{cs:List Str},jT buf a (cs++[(" ":Str)])→jT buf a cs∧jT buf (a+cs.length) [" "]:=by
  intro a cs
  induction cs generalizing a with
  |nil=>intro h;exact⟨trivial,by rw[show a+(([]:List Str).length:Int)=a from Int.add_zero a];exact h⟩
  |cons ch cs ih=>
   intro h
   exact⟨⟨h.1,h.2.1,(ih h.2.2).1⟩,by rw[show a+((ch::cs).length:Int)=a+1+(cs.length:Int)by rw[Zk,Int.add_assoc,Int.add_comm 1];rfl];exact(ih h.2.2).2⟩
 refine aO (hs' hs) λs1 s2=>fP s2 λhlt hch _=>?_
 have x1:=x.nx (.str "a") tok (p+cs.length)
 have x2:=x.nx (.str "a") tok (p+cs.length+1)
 have x3:=x.nx (.str " ") tok (p+cs.length+1)
 have t:=xr (k:=k) (q:=q) (e:=" ") G x3 (by
  cases z:(tok.cps.toList==("":Str).cps.toList)with
  |false=>rfl
  |true=>
   have e:tok.cps.toList=("":Str).cps.toList:=by simpa using z
   exact absurd (by show tok.cps.size=0;rw[←Array.length_toList,e];rfl) h0)
 rw[qO]at t
 refine zC (ch:=" ") G (λkd p1=>?_) t
 have w:=rL (k:=k) (e:=" ") (f:=.next) (σ':=⟨eY L q " " " ",nx H D S T W pb fs buf (.str " ") tok (p+cs.length+1)⟩) (kd:=kd) (p1:=p1) G hz x ht s1 ?_
 ·rw[wM x]at w;exact w
 ·refine me mU (te G x1 hz hlt hch (by decide) ?_)
  rintro H' rfl
  rw[IA x.dt]
  have z:=uk (k:=k) (q:=q) (e:=" ") (ch:=" ") G x2 (by decide) (by w_on) (by lia) (by lia)
  rw[qO]at z
  exact z
theorem yC(G:c.Go)(hz:buf.length<2 ^ 20)(x:Lx H L D S T W pb fs (.str " ") "" buf p)(ht:jO W " " "" false cs "a" tok q)(hs:jT buf p cs)(he:(buf.length:Int)=p+cs.length)(h0:tok.length≠0):
  Fn c (k+4) (.ref 827) [.obj L] [] H (.str tok) (nx H D S T W pb fs buf .none "" (p+cs.length)):=by
 have x1:=x.nx (.str "a") tok (p+cs.length)
 have x3:=x.nx .none tok (p+cs.length)
 have t:=xr (k:=k) (q:=q) (e:=" ") G x3 (by
  cases z:(tok.cps.toList==("":Str).cps.toList)with
  |false=>rfl
  |true=>
   have e:tok.cps.toList=("":Str).cps.toList:=by simpa using z
   exact absurd (by show tok.cps.size=0;rw[←Array.length_toList,e];rfl) h0)
 rw[qO]at t
 refine zC (ch:="") G (λkd p1=>?_) t
 have w:=rL (k:=k) (e:=" ") (f:=.next) (σ':=⟨eY L q " " "",nx H D S T W pb fs buf .none tok (p+cs.length)⟩) (kd:=kd) (p1:=p1) G hz x ht hs ?_
 ·rw[wM x]at w;exact w
 ·refine me mU (kV G x1 hz (by lia) ?_)
  have z:=Bg (k:=k) (q:=q) (e:=" ") G x1
  rw[qO]at z
  exact z
theorem vE(G:c.Go)(hz:buf.length<2 ^ 20)(x:Lx H L D S T W pb fs .none "" buf p)(he:(buf.length:Int)≤p):Fn c (k+4) (.ref 827) [.obj L] [] H .none H:=by
 have t:=qR (k:=k) (e:=" ") G x
 have w:=yh (k:=k) (q:=false) (e:=" ") (ch:="") G x
 have e:H.set D (.dict (dO W S pb fs .none ""))=H:=by
  refine bp (zS.mp x.d) λh1 h2=>?_
  rw[←h2];exact Z8 h1
 rw[e]at t w
 exact zC (ch:="") G (λkd p1=>me mU (kV G x hz he w)) t
end
noncomputable def kN:Obj:={cls:=.type "collections.deque",dict:=none,data:=.fields #[.none,rawInt 0]}
theorem Bc:mroOf (.type "collections.deque")=pure [.type "collections.deque",.type "object"]:=by rw[mroOf_type];w_on
theorem oR:typeLookup (.type "collections.deque") "__new__"=pure (some (.builtin "collections.deque.__new__")):=by rw[typeLookup_type,builtinLookup_eq_fast];w_on
theorem qr:Slot "collections.deque" "__init__" "collections.deque.__init__":=
 .of (owner:="collections.deque") (n:="__init__") (by rw[typeLookup_type,builtinLookup_eq_fast];w_on) (by decide+kernel) (by decide+kernel) (by decide+kernel)
  (by first|exact .inl (by decide+kernel)|exact .inr (by decide+kernel)) (by rw[isSubtype_type];w_on)
theorem gG:Slot "collections.deque" "__len__" "collections.deque.__len__":=
 .of (owner:="collections.deque") (n:="__len__") (by rw[typeLookup_type,builtinLookup_eq_fast];w_on) (by decide+kernel) (by decide+kernel) (by decide+kernel)
  (by first|exact .inl (by decide+kernel)|exact .inr (by decide+kernel)) (by rw[isSubtype_type];w_on)
theorem oM:entryFor table "collections.deque.__init__"=some Builtin.«collections.deque.__init__»:=entryFor_of_tree (by w_on)
theorem rc:entryFor table "collections.deque.__new__"=some Builtin.«collections.deque.__new__»:=entryFor_of_tree (by w_on)
theorem qS:entryFor table "collections.deque.__len__"=some Builtin.«collections.deque.__len__»:=entryFor_of_tree (by w_on)
theorem pI:typeLookup (.type "collections.deque") "__bool__"=pure none:=by rw[typeLookup_type,builtinLookup_eq_fast];w_on
theorem vp:isSubtype (.type "collections.deque") (.type "collections.deque")=pure true:=by rw[isSubtype_type];w_on
theorem yz:TypeCalled "collections.deque" "collections.deque.__new__" "collections.deque.__init__":=
 ⟨by decide+kernel,by decide+kernel,rX _ _ Bc,madeBy_type Bc oR (by decide+kernel),by decide+kernel,vp,qr⟩
theorem oV:checkTypeCall "collections.deque" ⟨[],[]⟩=pure ():=by w_on
theorem rv:checkBuiltinCall "collections.deque.__new__" ⟨[.type "collections.deque"],[]⟩=pure ():=by w_on
theorem s7(a:Value):argsOk "collections.deque.__len__" ⟨[a],[]⟩:=by unfold argsOk;w_on
theorem qt(a:Value):argsOk "collections.deque.__init__" ⟨[a],[]⟩:=by unfold argsOk;w_on
theorem gi{a:Addr}(h:s.heap.get? a=some kN):s.TypeIs (.ref a) "collections.deque":=al _ h rfl
theorem FS{a:Addr}(ho:s.heap.get? a=some kN)
  (h:Q (.int 0 (s.toks+1)) {s with toks:=s.toks+1+1}):wpAny (model prog w) A (Builtin.«len» ⟨[.ref a],[]⟩) (λfin s'=>∃r,fin=.done (.ret r)∧Q r s') E s:=by
 unfold Builtin.«len»
 refine YC (m:=oneArg "len" _) (YD ?_)
 refine YC (m:=callSpecial? (.ref a) (Str.ofString "__len__")) (wpAny_callSpecial?_slot (name:=Str.ofString "__len__") (gi ho) gG
  (wpAny_call_entry gG (gi ho) qS ?_ (s7 _)))
 ·unfold Builtin.«collections.deque.__len__» Builtin.Deque.size
  refine YC (m:=slotArgs _ _ _) (YD ?_)
  refine YC (YC (wpAny_fieldsOf ho rfl (YD ?_)))
  refine YC (wpAny_mkInt (YD (al _ rfl ?_)))
  refine YC (YF (YD ?_))
  refine YC (wpAny_letGo ?_)
  exact YC (wpAny_mkInt (YD (al _ rfl h)))
theorem yy{a:Addr}{Q:Bool→Shared→Prop}(ho:s.heap.get? a=some kN)(h:Q false {s with toks:=s.toks+1+1}):wpAny (model prog w) A (truthy (.ref a)) Q E s:=by
 have key:wpAny (model prog w) A (runValue (.builtin "len" ⟨[.ref a],[]⟩)) (λr s'=>r=.int 0 (s.toks+1)∧Q false s') E s:=by
  refine wpAny_runValue (codeAny_builtin entry_len ?_)
  rw[Around.under_plainId plain_len _]
  exact YE (FS (Q:= λr s'=>r=.int 0 (s.toks+1)∧Q false s') ho ⟨rfl,h⟩)
   (λfin s' h'=>by refine aj h' ?_;clear h';intro r z0 hq;subst z0;exact hq) λ_ _ e=>e
 unfold truthy
 first
  |refine YC (wpAny_callSpecial?_none (name:=Str.ofString "__bool__") (gi ho) pI ?_)
  |refine YC (YD (YC (wpAny_callSpecial?_none (name:=Str.ofString "__bool__") (gi ho) pI ?_)))
 first
  |refine YC (wpAny_specialOf (name:=Str.ofString "__len__") (gi ho) gG.lookup ?_)
  |refine YC (YD (YC (wpAny_specialOf (name:=Str.ofString "__len__") (gi ho) gG.lookup ?_)))
 first
  |exact YC (YE key (λr s' h'=>by refine aO h' ?_;clear h';intro z0 hq;subst z0;exact YD hq) λ_ _ e=>e)
  |exact YC (YD (YC (YE key (λr s' h'=>by obtain⟨rfl,hq⟩:=h';exact YD hq) λ_ _ e=>e)))
theorem Gn:Meets (Builtin.«collections.deque.__new__» ⟨[.type "collections.deque"],[]⟩) (λA R s=>R (.ok (.ret (.ref s.heap.objs.size))) {s with heap:=s.heap.push kN}):=by
 refine Meets.of_wp λprog w A R s hs=>?_
 have hsub:=vp
 unfold Builtin.«collections.deque.__new__» Builtin.Deque.newArgs Builtin.Deque.new
 obtain⟨hp,g,d,tk,os⟩:=s
 dsimp only
 wp_walk
 refine wpAny_of_eq vp (YD ?_)
 have e:typeHasDict (.type "collections.deque")=false:=by w_on
 rw[if_neg (by decide),e]
 refine YC (YC (YD (wpAny_newObj_type ?_)))
 exact YD (al _ rfl hs)
theorem EH{a:Addr}:Meets (Builtin.«collections.deque.__init__» ⟨[.ref a],[]⟩) (λA R s=>s.heap.get? a=some kN∧s.heap.update a (Obj.mapFields (·.setIfInBounds 0 .none))=s.heap∧R (.ok (.ret .none)) s):=by
 refine Meets.of_wp λprog w A R s hs=>?_
 refine fP hs λh1 h2 h3=>?_
 unfold Builtin.«collections.deque.__init__» Builtin.Deque.clear Builtin.Deque.items
 obtain⟨hp,g,d,tk,os⟩:=s
 dsimp only at*
 wp_walk
 exact al _ rfl (by rw[h2];exact h3)
theorem yM(h:Heap):(h.push kN).update h.objs.size (Obj.mapFields (·.setIfInBounds 0 .none))=h.push kN:=by
 obtain⟨objs,l⟩:=h
 show Heap.mk _ _=Heap.mk _ _
 congr 1
 apply Array.ext
 ·simp
 ·intro i h1 h2
  rw[Array.getElem_modify]
  split
  ·rename_i e;subst e;simp;rfl
  ·rfl
theorem DV(h:Q (.ref s.heap.objs.size) {s with heap:=s.heap.push kN}):wpAny (model prog w) A (call (.type "collections.deque") []) Q E s:=by
 refine callType_meets (Q₁:= λo s1=>o=.ref s.heap.objs.size∧s1={s with heap:=s.heap.push kN}) yz oV rv rc oM Gn ⟨rfl,rfl⟩ λobj s1 hq=>?_
 refine aO hq ?_;clear hq;intro z0 z1;subst z0;subst z1
 have hS:(s.heap.push kN).get? s.heap.objs.size=some kN:=ZN _ rfl
 exact⟨al _ hS rfl,qt _,_,EH,hS,yM _,rfl,h⟩
section
variable{tok':Str}{p p':Int}{e:Str}
theorem oA(hi:σ.H[i]?=some (.fix kN)):EZ c F k truthy (.obj i) σ (λ_ x=>x=false) σ:= λA ρ s env Q E x K r hx z=>by
 refine aO hx ?_;clear hx;intro _ z0;subst z0
 refine aj (r.hr.at_ i _ hi) λob h1 h2=>?_
 have h2':ob=kN:=h2
 subst h2'
 exact yy h1 (z ρ _ _ (r.toks _) (.toks _) rfl)
theorem nQ(P:Params):findIn (Kx P) (.ref 859) "read_token"=some (some (.ref 827)):=by w_on
theorem o9(P:Params):findIn (Kx P) (.ref 859) "get_token"=some (some (.ref 820)):=by w_on
theorem pL(P:Params)(x:Value)(S:Setting):peek (Kx P) S (bindArgs (dw P 820) ⟨[x],[]⟩)=some [(("self":Str),x)]:=by w_on
noncomputable def mL:Fs:=⟨sV,[]⟩
theorem gM:mL.scope.kind=.function:=by w_on
theorem gb(G:c.Go)(hs:l.lookup ("self":Str)=some (.obj L))(x:Lx H L D S T W pb fs st tok buf p)(hl:(dO W S pb fs st tok).lookup name=some v)(hv:v.handed=true)(ha:dA.contains name=true):
  Ev c mL k (.Attribute (.Name "self" p1) name p2) ⟨l,H⟩ v ⟨l,H⟩:=
 bE (λ_=>by k_dflt rfl) (aa gM rfl hs) (bY G (bZ _) x.l x.d hl hv (c8 _ ha))
theorem nr(G:c.Go){tok1:Str}{st1:AV}{p1:Int}(x:Lx H L D S T W pb fs st tok buf p)(hpb:H[pb]?=some (.fix kN))(h:Fn c (k+4) (.ref 827) [.obj L] [] H (.str tok1) H1)(x1:Lx H1 L D S T W pb fs st1 "" buf p1):
  Fn c (k+5) (.ref 820) [.obj L] [] H (.str tok1) H1:=by
 refine da (fl:=.ret (.str tok1)) (loc:=[(("self":Str),.obj L)]) G (jB _) (by w_on) (by w_on) (λρ m s xs ks X hx hk=>?_) ?_
 ·refine mx hx hk λ_ hx=>?_
  refine al [(("self":Str),_)] (@bC _ _ _ _ _ X ?_) (.cons hx .nil)
  exact pL _ _
 ·apply aK (loc:=[("self",.obj L),("raw",.str tok1)])
  k_dflt refine' ae (σ₁:=⟨[("self",.obj L)],H⟩) ?_ (ae (σ₁:=⟨[("self",.obj L),("raw",.str tok1)],H1⟩) ?_ (ae (σ₁:=⟨[("self",.obj L),("raw",.str tok1)],H1⟩) ?_ (ae (σ₁:=⟨[("self",.obj L),("raw",.str tok1)],H1⟩) ?_ (ae (σ₁:=⟨[("self",.obj L),("raw",.str tok1)],H1⟩) ?_ (bv ?_)))))
  ·exact aL (F:=mL) (t:=false) (bP (λ_ _=>rfl) (gb G rfl x rfl rfl (by decide)) (oA hpb)) ar
  ·exact aw (F:=mL) gM rfl (λ_=>rfl) (gw G (kr _) (bZ _) (λ_=>rfl) (aa gM rfl rfl) x.l x.d rfl (nQ _) aV au h)
  ·exact aL (F:=mL) (t:=false) (av rfl (gb G rfl x1 rfl rfl (by decide)) bx (bU rfl)) ar
  ·exact cO (F:=mL) (ig (av rfl (aa gM rfl rfl) (gb G rfl x1 rfl rfl (by decide)) kX) ar)
  ·exact aL (F:=mL) (t:=false) (av rfl (gb G rfl x1 rfl rfl (by decide)) aJ (gN (by decide))) ar
  ·exact aX (F:=mL) (aa gM rfl rfl)
theorem uq(G:c.Go)(x:Lx H L D S T W pb fs st "" buf p)(hpb:H[pb]?=some (.fix kN))(hfs:H[fs]?=some (.fix kN))(h:Fn c (k+4) (.ref 827) [.obj L] [] H .none H):
  Fn c (k+5) (.ref 820) [.obj L] [] H .none H:=by
 refine da (fl:=.ret .none) (loc:=[(("self":Str),.obj L)]) G (jB _) (by w_on) (by w_on) (λρ m s xs ks X hx hk=>?_) ?_
 ·refine mx hx hk λ_ hx=>?_
  refine al [(("self":Str),_)] (@bC _ _ _ _ _ X ?_) (.cons hx .nil)
  exact pL _ _
 ·apply aK (loc:=[("self",.obj L),("raw",.none)])
  k_dflt refine' ae (σ₁:=⟨[("self",.obj L)],H⟩) ?_ (ae (σ₁:=⟨[("self",.obj L),("raw",.none)],H⟩) ?_ (ae (σ₁:=⟨[("self",.obj L),("raw",.none)],H⟩) ?_ (bv ?_)))
  ·exact aL (F:=mL) (t:=false) (bP (λ_ _=>rfl) (gb G rfl x rfl rfl (by decide)) (oA hpb)) ar
  ·exact aw (F:=mL) gM rfl (λ_=>rfl) (gw G (kr _) (bZ _) (λ_=>rfl) (aa gM rfl rfl) x.l x.d rfl (nQ _) aV au h)
  ·exact aL (F:=mL) (t:=false) (av rfl (gb G rfl x rfl rfl (by decide)) bx (bU rfl)) ar
  ·refine cO (F:=mL) (Fj (av rfl (aa gM rfl rfl) (gb G rfl x rfl rfl (by decide)) jY) ?_)
   refine cX (sQ (bP (λ_ _=>rfl) (gb G rfl x rfl rfl (by decide)) (oA hfs))) (bv (aX (gb G rfl x rfl rfl (by decide))))
end
noncomputable def fz(A:Around):List Addr:=(A.frames.getD []).filterMap (·.frame)
structure IX(A:Around)(h h':Heap):Prop where
 some_:∀b o,h.get? b=some o→∃o',h'.get? b=some o'∧mj o o'
 same:∀b o,h.get? b=some o→b∉fz A→h'.get? b=some o
theorem iH{n:Nat}{h:Heap}:∀{l:List Env},(∀e∈l,xO c ρ n h e)→h.FunFrames c.h₁ l
 | [],_=>trivial
 |e::r,x=>by
  refine br λGz kz=>?_
  refine eV (x e (.head _)) λhk L o es ep h1 h2 h3 h4 _=>?_
  refine kz ?_
  exact⟨hk,⟨L,o,h1,h2,h3,λvs q=>by rw[h4]at q;cases q⟩,iH λe he=>x e (.tail _ he)⟩
theorem tv{e:Addr}{h₁:Heap}{Q:Unit→Shared→Prop}(r:aW c A F ρ σ s env)(hz:c.rz=true)(hfl:env.frame=some env.locals)(hfn:env.func.isSome=true)(hx:Heap.NewExc s.heap h₁ e X)
  (hQ:∀h',IX A s.heap h'→(∃ob,h'.get? e=some ob∧ob.cls=.type X)→Q () ⟨h',s.gens,s.drawn,tk,s.os⟩):wpAny M A (leaving env (.ref e)) Q E ⟨h₁,s.gens,s.drawn,tk,s.os⟩:=by
 refine bp (r.tp hz hfn) λouter hfr=>?_
 refine aj (r.sk hz) λl h1 h2=>?_
 rw[hfr]at h1
 cases h1
 have ff:=iH h2
 have hin:∀e∈(env::outer),∀b,e.frame=some b→b∈(env::outer).filterMap (·.frame):= λe he b hb=>Zx.mpr (al e he hb)
 refine ct (hx.there) λob tp he hcls hd=>?_
 have hkb:(hideAll s.heap ((env::outer).filterMap (·.frame))).StaysIn s.heap:= λb o q=>of_hideAll _ q
 have hl:=funFrames_hide ff hin
 have hen:(hideAll s.heap ((env::outer).filterMap (·.frame))).get? e=none:=by
  cases hq:(hideAll s.heap ((env::outer).filterMap (·.frame))).get? e with
  |none=>rfl
  |some o'=>have:=hkb e o' hq;rw[hx.new]at this;cases this
 refine wpAny_leaving_firstW (a0:=tp) hfr (hl.of_keeps λb o hb _=>al o (hx.keeps b o hb) rfl) hfl he (λb o hb=>hx.keeps b o (hkb b o hb)) hen hd rfl rfl λh' hL=>?_
 refine oD hL λk1 z0 k3 k4=>fP z0 λ_ _ k2=>?_
 have fe:fz A=(env::outer).filterMap (·.frame):=by unfold fz;rw[hfr];rfl
 have same:∀b o,s.heap.get? b=some o→b∉fz A→h'.get? b=some o:= λb o e hb=>k1 b o (hideAll_get _ e (by rw[←fe];exact hb))
 refine hQ h' ⟨λb o q=>?_,same⟩ ?_
 ·by_cases hb:b∈fz A
  ·rw[fe]at hb
   refine br λGz kz=>?_
   refine aj (Zx.mp hb) λev hev hf=>?_
   refine eV (h2 ev hev) λ_ L o' es ep g1 g2 g3 g4 _=>?_
   refine kz ?_
   rw[hf]at g1
   cases g1
   rw[q]at g3
   cases g3
   refine bp (k4 b o (hx.keeps b o q) (λvs z=>by rw[g4]at z;cases z)) λsl hs=>?_
   exact uR _ hs sl rfl λz=>absurd g4 (z es ep)
  ·exact al o (same b o q hb) .refl
 ·refine br λGz kz=>?_
  refine hZ k3 λoe _ _ _ _ z zc _=>?_
  refine kz ?_
  exact al oe z (zc.1.trans hcls)
theorem El(hz:c.rz=true)(r:aW c A F ρ σ s env):(∀i,i<σ.H.length→ρ i∉fz A)∧∀b o,c.h₁.get? b=some o→b∉fz A:=by
 refine aj (r.sk hz) λl h1 h2=>?_
 have fe:fz A=l.filterMap (·.frame):=by unfold fz;rw[h1];rfl
 rw[fe]
 refine⟨λi hi hm=>?_,λb o e hm=>?_⟩
 ·refine br λGz kz=>?_
  refine aj (Zx.mp hm) λev hev hf=>?_
  refine eV (h2 ev hev) λ_ L o' es ep g1 g2 g3 g4 g5=>?_
  refine kz ?_
  rw[hf]at g1;cases g1
  exact g5 i hi rfl
 ·refine br λGz kz=>?_
  refine aj (Zx.mp hm) λev hev hf=>?_
  refine eV (h2 ev hev) λ_ L o' es ep g1 g2 g3 g4 g5=>?_
  refine kz ?_
  rw[hf]at g1;cases g1
  rw[g2]at e;cases e
theorem IX.go(hz:c.rz=true)(x:IX A s.heap h')(r:aW c A F ρ σ s env):eu c ρ σ.H h'∧aM c ρ σ.H.length (λ_=>False) s ρ σ.H.length ⟨h',s.gens,s.drawn,tk,s.os⟩:=by
 refine aO (El hz r) λf1 f2=>?_
 refine⟨⟨λi o e=>?_,r.hr.inj,r.hr.up,λb o e t=>x.same b o (r.hr.base b o e t) (f2 b o e),λo e=>?_⟩,
  ⟨λ_ _=>rfl,ZA _,λi h1 h2=>absurd h2 (ZX.mpr h1),⟨λb o e=>(x.some_ b o e).imp λ_ z=>z.1,λb o e _ _ _=>x.some_ b o e⟩,rfl⟩⟩
 ·refine aj (r.hr.at_ i o e) λob h1 h2=>?_
  exact al ob (x.same _ _ h1 (f1 i (aq e))) h2
 ·rcases r.hr.tj o e with z|⟨z1,z2,vs,more,z3,z4⟩
  ·exact .inl (x.same _ _ z (f2 _ _ e))
  ·exact .inr (bS z1 z2 vs more z3 (x.same _ _ z4 (f2 _ _ e)))
noncomputable def uj(c:Cx)(F:Fs)(k:Nat)(body:List Stmt)(σ:St)(X:String)(σ':St):Prop:=
 ∀(A:Around)(ρ:Nat→Addr)(s:Shared)(env:Env)(Q:Flow→Shared→Prop)(E:Value→Shared→Prop),cK k A→aW c A F ρ σ s env→
  (∀ρ' s₀ e h tk,aW c A F ρ' σ' s₀ env→aM c ρ σ.H.length (· =env.locals) s ρ' σ'.H.length s₀→Heap.NewExc s₀.heap h e X→E (.ref e) ⟨h,s₀.gens,s₀.drawn,tk,s₀.os⟩)→wpAny c.M A (execs body env) Q E s
noncomputable def GU(c:Cx)(k:Nat)(f:Value)(args:List AV)(kw:List (Str×AV))(H:List AO)(X:String)(H':List AO):Prop:=
 ∀(A:Around)(ρ:Nat→Addr)(s:Shared)(xs:List Value)(ks:List (Str×Value))(R:Result→Shared→Prop),cK k A→eu c ρ H s.heap→c.gq s.gens s.drawn→rf c A ρ H.length s.heap→cF ρ H.length args xs→lV ρ H.length kw ks→
  (∀ρ' s' e,eu c ρ' H' s'.heap→c.gq s'.gens s'.drawn→aM c ρ H.length (λ_=>False) s ρ' H'.length s'→(∃ob,s'.heap.get? e=some ob∧ob.cls=.type X)→R (.error (.ref e)) s')→codeAny c.M A (.call f ⟨xs,ks⟩) R s
theorem DE(hz:c.rz=true)(O:c.Ok)
  (hf:c.K.lookup f=some ⟨oc,od,.func fd,osl⟩)(hcd:codeIn c.K fd.code fd.qualname=true)(hbody:fd.body=.stmts body)(hcl:fd.closure=[])(hgl:fd.globals=mainGlobals)(hbl:fd.builtins=builtinsNs)
  (hcell:∀x∈fd.scope.names,x.2≠.cell)(hco:fd.scope.isCoroutine=false)(hgen:fd.scope.isGenerator=false)(hk:fd.scope.kind=.function)
  (bd:∀(ρ:Nat→Addr)(s:Shared)(xs:List Value)(ks:List (Str×Value)),c.K.In s.heap→cF ρ H.length args xs→lV ρ H.length kw ks→∃binds,BindsTo s fd ⟨xs,ks⟩ binds∧(∀x∈binds,fd.scope.names.lookup x.1=some .local)∧
   ∀x v,loc.lookup x=some v→∃v',binds.reverse.lookup x=some v'∧VR ρ H.length v v')
  (hb:uj c ⟨fd.scope,[]⟩ k body ⟨loc,H⟩ X ⟨loc',H'⟩):GU c (k+1) (.ref f) args kw H X H':= λA ρ s xs ks R K hr ge sk hx hks q=>by
 refine bz (bd ρ s xs ks (hr.X O) hx hks) λbinds b1 b2 b3=>?_
 refine codeAny_call_def (o:=⟨oc,od,.func fd,osl⟩) K.depth (hr.X O _ _ hf) rfl (hr.lim O) (codeRec_of (hr.X O) hcd) hbody b1 hcell b2 (λh₀ hns hkp=>?_) hco hgen hk
 have nosz:∀o,c.h₁.get? s.heap.objs.size=some o→False:= λo e=>by
  by_cases t:s.heap.objs.size=c.tj
  ·rw[t]at e
   refine bp (hr.tj.there e) λo' e'=>?_
   rw[←t]at e'
   exact absurd (ZB e') (ZJ _)
  ·exact absurd (ZB (hr.base _ o e t)) (ZJ _)
 have r:aW c (A.deeper (callEnv fd s.heap.objs.size f)) ⟨fd.scope,[]⟩ ρ ⟨loc,H⟩ {s with heap:=h₀,toks:=s.toks+binds.length} (callEnv fd s.heap.objs.size f):=
  ⟨⟨λi o e=>let⟨ob,h1,h2⟩:=hr.at_ i o e;(al ob (hkp _ _ h1) h2),hr.inj,hr.up,λb o e t=>hkp _ _ (hr.base b o e t),λo e=>(hr.tj o e).imp (λz=>hkp _ _ z) λ⟨z1,z2,vs,more,z3,z4⟩=>bS z1 z2 vs more z3 (hkp _ _ z4)⟩,
   rfl,hgl,hbl,(by show fd.closure=_;rw[hcl];rfl),(λp hp=>nomatch hp),al _ hns b3,λi hi q=>(by
   refine aj (hr.at_ i (H[i]) (zG hi)) λob h1 _=>?_
   have:=ZB h1
   rw[show ρ i=s.heap.objs.size from q]at this
   exact ZJ _ this),(by cases q:c.h₁.get? (callEnv fd s.heap.objs.size f).locals with|none=>rfl|some o=>exact(nosz o q).elim),ge,(by
   intro hz2
   refine aj (sk hz2) λl l1 l2=>?_
   refine al _ (Around.frames_deeper l1) λe he=>?_
   rcases ZI.mp he with rfl|he
   ·refine dh hns λo es ep g1 g2 _=>?_
    refine eO (by show fd.scope.kind≠.module;rw[hk];decide) s.heap.objs.size o es ep rfl ?_ g1 g2 λi hi q=>?_
    ·cases q:c.h₁.get? s.heap.objs.size with
     |none=>rfl
     |some o=>exact(nosz o q).elim
    ·refine aj (hr.at_ i (H[i]) (zG hi)) λob h1 _=>?_
     have:=ZB h1
     rw[q]at this
     exact ZJ _ this
   ·exact(l2 e he).keep (λ_ _=>rfl) (λi h1 h2=>absurd h2 (ZX.mpr h1)) λb o es ep g1 g2 _ _=>bh o es ep (hkp _ _ g1) g2),(λhz _=>by refine aj (sk hz) λl l1 _=>?_;exact⟨l,Around.frames_deeper l1⟩),λ_=>⟨rfl,rfl⟩⟩
 refine hb (A.deeper (callEnv fd s.heap.objs.size f)) ρ _ _ _ _ K.deeper r λρ' s' e h tk r' st hx=>?_
 have st':aM c ρ H.length (λ_=>False) s ρ' H'.length s':=⟨st.ag,st.le,λi h1 h2=>(by
   cases q:s.heap.get? (ρ' i)with
   |none=>rfl
   |some o=>have:=st.nw i h1 h2;rw[hkp _ _ q]at this;cases this),
  ⟨λb o e=>st.kp.1 b o (hkp _ _ e),λb o e t _ h3=>st.kp.2 b o (hkp _ _ e) t (λz=>by
   have:=ZB e
   rw[show b=s.heap.objs.size from z]at this
   exact ZJ _ this) h3⟩,st.os⟩
 refine tv r' hz rfl rfl hx λh' aft ob=>?_
 refine aO (aft.go (tk:=tk) hz r') λhr2 st2=>?_
 exact q ρ' _ e hr2 r'.ge (st'.trans st2) ob
theorem ye{st:Stmt}(h1:Ex c F k st σ .next σ₁)(h2:uj c F k rest σ₁ X σ₂):uj c F k (st::rest) σ X σ₂:= λA ρ s env Q E K r h=>
 YH (h1 A ρ s env _ E K r λρ1 s1 x r1 st1 vx=>by
  rw[show x=.next from vx];exact h2 A ρ1 s1 env _ E K r1 λρ2 s2 e hp tk r2 st2 vy=>h ρ2 s2 e hp tk r2 (st1.trans st2) vy)
theorem D9{body:_}{orelse:_}{rest:_}{pos:_}(h1:Te c F k test σ t σ₁)(h2:uj c F k (if t then body else orelse) σ₁ X σ₂):uj c F k (.If test body orelse pos::rest) σ X σ₂:= λA ρ s env Q E K r h=>
 YH (wpAny_If (h1 A ρ s env _ E K r λρ1 s1 x r1 st1 vx=>by
  subst vx
  have z:= λQ'=>h2 A ρ1 s1 env Q' E K r1 λρ2 s2 e hp tk r2 st2 vy=>h ρ2 s2 e hp tk r2 (st1.trans st2) vy
  cases x<;>exact z _))
theorem x9{np:Pos}(O:c.Ok)(hk:F.scope.kind=.function)(hx:F.scope.names.lookup ("StopIteration":Str)=some .globalImplicit)(hv:nsIn c.K mainGlobals ("StopIteration":Str)=some none)(hb:bootBuiltins ("StopIteration":Str)=some (.type "StopIteration")):
  uj c F (k+100) (.Raise (some (.Name "StopIteration" np)) none pos::rest) σ "StopIteration" σ:= λA ρ s env Q E K r h=>
 YH (owsi_raiseC (K.2.2 (by lia)) (by
   refine Calls.Name_function_global (by rw[r.sc];exact hk) (by unfold Env.kindOf;rw[r.sc];exact hx) (Calls.loadGlobal_builtin (mg:=c.mg) (mb:=c.mb) ?_ (mg_none_of O.X O.g hv) ?_ ((O.bi _ (by decide)).trans hb) ⟨rfl,rfl⟩) (by decide)
   ·rw[r.gl];exact f9 r.hr.base O.g O.gt
   ·rw[r.bl];exact f9 r.hr.base O.b O.bt) λh' e hm=>h ρ s e h' s.toks r .refl hm.newExc)
theorem FF{X':String}(hz:c.rz=true)(G:c.Go)(X:dz c.w.params f body sc)
  (nd:decide (loc.map (·.1)).Nodup=true)(lo:(loc.all λp=>sc.names.lookup p.1==some .local)=true)
  (bd:∀(ρ:Nat→Addr)(n:Nat)(s:Shared)(xs:List Value)(ks:List (Str×Value)),(Kx c.w.params).In s.heap→cF ρ n args xs→lV ρ n kw ks→∃binds,BindsTo s (dw c.w.params f) ⟨xs,ks⟩ binds∧lV ρ n loc binds)
  (hb:uj c ⟨sc,[]⟩ k body ⟨loc,H⟩ X' ⟨loc',H'⟩):GU c (k+1) (.ref f) args kw H X' H':=by
 have e:=X.se
 subst e
 refine DE (fd:=dw c.w.params f) (loc:=loc) hz G.ok (by rw[G.hK];exact X.lk) (by rw[G.hK];exact X.cd) X.bd X.cl X.gl X.bl (λx hx=>?_) X.co X.ge X.ki (λρ s xs ks XX hx hk=>?_) hb
 ·have:=ZG.mp X.ce x hx
  simpa using this
 ·refine aj (bd ρ _ s xs ks (G.hK▸XX) hx hk) λbinds b1 b2=>?_
  have nm:=jD b2
  refine bO binds b1 (λx hx=>?_) λx v hv=>?_
  ·have hm:x.1∈loc.map (·.1):=by rw[←nm];exact List.mem_map_of_mem hx
   refine aj (ZR.mp hm) λp hp e=>?_
   have:=ZG.mp lo p hp
   rw[←e];simpa using this
  ·refine aj (iB b2 hv) λv' h1 h2=>?_
   exact al v' (by rw[dT (by rw[nm];exact of_decide_eq_true nd)];exact h1) h2
section
variable{tok':Str}{p p':Int}
theorem wb(P:Params)(x:Value)(S:Setting):peek (Kx P) S (bindArgs (dw P 856) ⟨[x],[]⟩)=some [(("self":Str),x)]:=by w_on
noncomputable def uz:Fs:=⟨Bf,[]⟩
theorem fY:uz.scope.kind=.function:=by w_on
theorem wj(G:c.Go)(hs:l.lookup ("self":Str)=some (.obj L))(x:Lx H L D S T W pb fs st tok buf p)(hl:(dO W S pb fs st tok).lookup name=some v)(hv:v.handed=true)(ha:dA.contains name=true):
  Ev c uz k (.Attribute (.Name "self" p1) name p2) ⟨l,H⟩ v ⟨l,H⟩:=
 bE (λ_=>by k_dflt rfl) (aa fY rfl hs) (bY G (bZ _) x.l x.d hl hv (c8 _ ha))
theorem lb(G:c.Go){tok1:Str}{st1:AV}{p1:Int}(x:Lx H L D S T W pb fs st tok buf p)(h:Fn c (k+5) (.ref 820) [.obj L] [] H (.str tok1) H1)(x1:Lx H1 L D S T W pb fs st1 "" buf p1):
  Fn c (k+6) (.ref 856) [.obj L] [] H (.str tok1) H1:=by
 refine da (fl:=.ret (.str tok1)) (loc:=[(("self":Str),.obj L)]) G (vU _) (by w_on) (by w_on) (λρ m s xs ks X hx hk=>?_) ?_
 ·refine mx hx hk λ_ hx=>?_
  refine al [(("self":Str),_)] (@bC _ _ _ _ _ X ?_) (.cons hx .nil)
  exact wb _ _
 ·apply aK (loc:=[("self",.obj L),("token",.str tok1)])
  k_dflt refine' ae (σ₁:=⟨[("self",.obj L),("token",.str tok1)],H1⟩) ?_ (ae (σ₁:=⟨[("self",.obj L),("token",.str tok1)],H1⟩) ?_ (bv ?_))
  ·exact aw (F:=uz) fY rfl (λ_=>rfl) (gw G (jB _) (bZ _) (λ_=>rfl) (aa fY rfl rfl) x.l x.d rfl (o9 _) aV au h)
  ·exact aL (F:=uz) (t:=false) (av rfl (aa fY rfl rfl) (wj G rfl x1 rfl rfl (by decide)) kX) ar
  ·exact aX (F:=uz) (aa fY rfl rfl)
theorem Gc(P:Params):nsIn (Kx P) mainGlobals ("StopIteration":Str)=some none:=by w_on
theorem EG:bootBuiltins ("StopIteration":Str)=some (.type "StopIteration"):=PyProof.Rows.Boot.StopIteration
theorem qB(hz:c.rz=true)(G:c.Go)(x:Lx H L D S T W pb fs st "" buf p)(h:Fn c (k+105) (.ref 820) [.obj L] [] H .none H):
  GU c (k+106) (.ref 856) [.obj L] [] H "StopIteration" H:=by
 refine FF (loc:=[(("self":Str),.obj L)]) (loc':=[("self",.obj L),("token",.none)]) hz G (vU _) (by w_on) (by w_on) (λρ m s xs ks X hx hk=>?_) ?_
 ·refine mx hx hk λ_ hx=>?_
  refine al [(("self":Str),_)] (@bC _ _ _ _ _ X ?_) (.cons hx .nil)
  exact wb _ _
 ·k_dflt refine' ye (σ₁:=⟨[("self",.obj L),("token",.none)],H⟩) ?_ ?_
  ·exact aw (F:=uz) fY rfl (λ_=>rfl) (gw G (jB _) (bZ _) (λ_=>rfl) (aa fY rfl rfl) x.l x.d rfl (o9 _) aV au h)
  ·refine D9 (F:=uz) (t:=true) (av rfl (aa fY rfl rfl) (wj G rfl x rfl rfl (by decide)) jY) ?_
   exact x9 (k:=k+5) G.ok fY rfl (by rw[G.hK];exact Gc _) EG
end
section
variable{x:Addr}{ox:Obj}{od:Option Obj}
theorem w9{Q:Option Value→Shared→Prop}(X:K.In s.heap)(I:InstAt s.heap x ox C od)(hs:findIn K (.ref C) "__next__"=some (some (.ref f)))(hf:isFn K (.ref f)=true)
  (h:wpAny M A (call (.ref f) [.ref x]) (λv s'=>Q (some v) s') (OwitStop M A Q E) s):wpAny M A (pyNext (.ref x)) Q E s:=by
 unfold pyNext
 refine YC (wpAny_attempt (special_fn (name:="__next__") (args:=[]) X I hs (beq_iff_eq.mp hf) (YE h (λv s' hq=>?_) (λe s' he=>?_))))
 ·exact YD hq
 ·refine YC (YE he (λb s₂ hb=>?_) λ_ _ z=>z)
  cases b with
  |true=>exact YD hb
  |false=>exact wpAny_throw hb
theorem Iu{g:Value}(X:K.In s.heap)(I:InstAt s.heap x ox C od)(hs:findIn K (.ref C) "__next__"=some (some g))(h:Q (.ref x) s):OwitIt M A Q E (.ref x) s:=by
 unfold OwitIt
 exact YC (I.type.here ((looks_findIn X hs).here h))
theorem Dj(X:K.In s.heap)(I:InstAt s.heap x ox C od)(hs:findIn K (.ref C) "__iter__"=some (some (.ref f)))(hf:isFn K (.ref f)=true)
  (h:wpAny M A (call (.ref f) [.ref x]) (OwitIt M A Q E) E s):wpAny M A (pyIter (.ref x)) Q E s:=by
 have fin:wpAny M A (call (.ref f) [.ref x] >>= λv=>pure (some v)) (λr s'=>∃v,r=some v∧OwitIt M A Q E v s') E s:=
  YC (YE h (λv s' h'=>YD (al v rfl h')) λ_ _ z=>z)
 have one:∀refuse:Sem Value,wpAny M A (callSpecialIfBoundUnlessNone? (.ref x) "__iter__" refuse) (λr s'=>∃v,r=some v∧OwitIt M A Q E v s') E s:=by
  intro refuse
  simp only[callSpecialIfBoundUnlessNone?,bindSpecialIfBound?]
  refine YF (YC (YC (YC (I.type.here ((looks_findIn X hs).here ?_)))))
  refine YC (wpAny_askSetting (wpAny_ite ?_))
  have fin2:wpAny M A (if(Value.ref f==Value.none)=true then(refuse >>= λv=>pure (some v))else(call (.ref f) [.ref x] >>= λv=>pure (some v))) (λr s'=>∃v,r=some v∧OwitIt M A Q E v s') E s:=by
   rw[if_neg (show ¬((Value.ref f==Value.none)=true)from Z0)]
   exact fin
  split
  ·exact YC ((bind_fn X _ (beq_iff_eq.mp hf)).here (YD (by exact fin2)))
  ·exact wpAny_tryCatch (YC ((bind_fn X _ (beq_iff_eq.mp hf)).here (YD (by exact fin2))))
 unfold pyIter
 refine YC (YC (I.type.here ((looks_findIn X hs).here ?_)))
 show wpAny M A (callSpecialIfBoundUnlessNone? (.ref x) "__iter__" _ >>=_) Q E s
 refine YC (YE (one _) (λr s' hr=>?_) λ_ _ z=>z)
 refine aj hr ?_;clear hr;intro v z0 hv;subst z0
 refine YC (YE hv (λr s₂ hr=>?_) λ_ _ z=>z)
 cases r with
 |none=>exact hr.elim
 |some g=>exact YD hr
end
theorem aW.in1(r:aW c A F ρ σ s env):aW c A.in1 F ρ σ s env:=⟨r.hr,r.sc,r.gl,r.bl,r.ce,r.ci,r.lo,r.ap,r.lf,r.ge,r.sk,r.tp,r.fl⟩
theorem aW.out1(r:aW c A.in1 F ρ σ s env):aW c A F ρ σ s env:=⟨r.hr,r.sc,r.gl,r.bl,r.ce,r.ci,r.lo,r.ap,r.lf,r.ge,r.sk,r.tp,r.fl⟩
theorem wF{f:Value}{xs:List Value}(O:c.Ok)(h:Fn c k f args [] σ.H v H')(K:cK k A)(r:aW c A F ρ σ s env)(hx:cF ρ σ.H.length args xs)
  (q:∀ρ' s' x,aW c A F ρ' ⟨σ.loc,H'⟩ s' env→aM c ρ σ.H.length (· =env.locals) s ρ' H'.length s'→VR ρ' H'.length v x→Q x s'):wpAny c.M A (call f xs) Q E s:=
 wpAny_call (h A ρ s xs [] _ K r.hr r.ge r.sk hx .nil λρ2 s2 x hr2 ge2 st2 vx=>by
  refine aO (r.after O hr2 ge2 st2) λr2 st2'=>?_
  exact q ρ2 s2 x r2 st2' vx)
theorem B4{f:Value}{xs:List Value}(O:c.Ok)(h:GU c k f args [] σ.H X H')(K:cK k A)(r:aW c A F ρ σ s env)(hx:cF ρ σ.H.length args xs)
  (q:∀ρ' s' e,aW c A F ρ' ⟨σ.loc,H'⟩ s' env→aM c ρ σ.H.length (· =env.locals) s ρ' H'.length s'→(∃ob,s'.heap.get? e=some ob∧ob.cls=.type X)→E (.ref e) s'):wpAny c.M A (call f xs) Q E s:=
 wpAny_call (h A ρ s xs [] _ K r.hr r.ge r.sk hx .nil λρ2 s2 x hr2 ge2 st2 vx=>by
  refine aO (r.after O hr2 ge2 st2) λr2 st2'=>?_
  exact q ρ2 s2 x r2 st2' vx)
theorem yG{Q:Option Value→Shared→Prop}(O:c.Ok)(hi:σ.H[i]?=some (.inst C d))(hd:σ.H[d]?=some (.dict es))(hs:findIn c.K (.ref C) "__next__"=some (some (.ref f)))(hf:isFn c.K (.ref f)=true)
  (h:Fn c k (.ref f) [.obj i] [] σ.H v H')(K:cK k A)(r:aW c A F ρ σ s env)
  (q:∀ρ' s' x,aW c A F ρ' ⟨σ.loc,H'⟩ s' env→aM c ρ σ.H.length (· =env.locals) s ρ' H'.length s'→VR ρ' H'.length v x→Q (some x) s'):wpAny c.M A (pyNext (.ref (ρ i))) Q E s:=by
 refine ct (r.inst hi hd) λents e h5 h3 I=>?_
 exact w9 (r.X O) I hs hf (wF O h K r (.cons ⟨(aq hi),rfl⟩ .nil) q)
theorem Bh:isSubtype (.type "StopIteration") (.type "StopIteration")=pure true:=by rw[isSubtype_type];w_on
theorem yH{Q:Option Value→Shared→Prop}(O:c.Ok)(hi:σ.H[i]?=some (.inst C d))(hd:σ.H[d]?=some (.dict es))(hs:findIn c.K (.ref C) "__next__"=some (some (.ref f)))(hf:isFn c.K (.ref f)=true)
  (h:GU c k (.ref f) [.obj i] [] σ.H "StopIteration" H')(K:cK k A)(r:aW c A F ρ σ s env)
  (q:∀ρ' s',aW c A F ρ' ⟨σ.loc,H'⟩ s' env→aM c ρ σ.H.length (· =env.locals) s ρ' H'.length s'→Q none s'):wpAny c.M A (pyNext (.ref (ρ i))) Q E s:=by
 refine ct (r.inst hi hd) λents e h5 h3 I=>?_
 refine w9 (r.X O) I hs hf (B4 O h K r (.cons ⟨(aq hi),rfl⟩ .nil) λρ2 s2 e2 r2 st2 ob=>?_)
 refine aj ob λob g1 g2=>?_
 have hT:s2.TypeIs (.ref e2) "StopIteration":=(show ∃o,s2.heap.get? e2=some o∧o.cls=.type "StopIteration" from al ob g1 g2)
 unfold OwitStop
 refine wpAny_isInstance hT Bh ?_
 rw[if_pos rfl]
 exact q ρ2 s2 r2 st2
inductive oH(c:Cx)(k:Nat)(C f:Addr)(i j:Nat):List AO→List AV→List AO→Prop where
 |stop {H H':List AO} {d:Nat} {es:List (Str×AV)} (hi:H[i]?=some (.inst C d)) (hd:H[d]?=some (.dict es)) (h:GU c k (.ref f) [.obj i] [] H "StopIteration" H'):oH c k C f i j H [] H'
 |more {H H₁ H₂:List AO} {d:Nat} {es:List (Str×AV)} {v:AV} {vs acc:List AV} (hi:H[i]?=some (.inst C d)) (hd:H[d]?=some (.dict es)) (h:Fn c k (.ref f) [.obj i] [] H v H₁) (hj:H₁[j]?=some (.list acc)) (hz:acc.length<1000)
   (r:oH c k C f i j (H₁.set j (.list (acc++[v]))) vs H₂):oH c k C f i j H (v::vs) H₂
theorem Ak{xs:List Value}{x:Value}(h:cF ρ n as xs)(hx:VR ρ n a x):cF ρ n (as++[a]) (xs++[x]):=by
 induction h with
 |nil=>exact .cons hx .nil
 |cons h _ ih=>exact .cons h ih
theorem aI{xs:List Value}(h:cF ρ n as xs):xs.length=as.length:=by
 induction h with
 |nil=>rfl
 |cons h _ ih=>simp[ih]
theorem mh{Q:Unit→Shared→Prop}{x:Value}(r:aW c A F ρ σ s env)(hj:σ.H[j]?=some (.list acc))(hz:acc.length<1000)(hv:VR ρ σ.H.length v x)
  (q:∀s',aW c A F ρ ⟨σ.loc,σ.H.set j (.list (acc++[v]))⟩ s' env→aM c ρ σ.H.length (· =env.locals) s ρ (σ.H.set j (.list (acc++[v]))).length s'→Q () s'):wpAny M A (updateSeq (ρ j) (·.push x)) Q E s:=by
 refine aj (r.hr.at_ j _ hj) λob h1 h2=>?_
 refine ds h2 ?_;clear h2;intro its e z0 h3;subst z0
 have jl:=aq hj
 have ln:=aI h3
 refine wpAny_updateSeq h1 rfl ?_ (by show its.length≤sizeLine;unfold sizeLine;lia) (by simp only[List.push_toArray,Ze,List.length_append,List.length_singleton];unfold sizeLine;lia)
 have hg:=Zw (Obj.mapSeq (·.push x)) h1 rfl
 have oth:∀b o,s.heap.get? b=some o→b≠env.locals→b≠ρ j→(s.heap.update (ρ j) (Obj.mapSeq (·.push x))).get? b=some o:= λb o e _ hb=>(ZU _ _ (Ne.symm hb)).trans e
 have z:=r.upd (tk:=s.toks) (ao:=.list (acc++[v])) jl hg (cH (its++[x]) _ (by simp[Obj.mapSeq];rfl) (Ak h3 hv)) oth (λm hm=>by
  refine dc hm λo es ep g1 g2=>?_
  exact bh o es ep ((ZU _ _ (r.ap j jl)).trans g1) g2)
 exact q _ z.1 z.2
theorem ux{res:Value}(O:c.Ok)(hs:findIn c.K (.ref C) "__next__"=some (some (.ref f)))(hf:isFn c.K (.ref f)=true)(dr:oH c k C f i j H vs H'):
  ∀{A:Around}{ρ:Nat→Addr}{s:Shared}{R:Result→Shared→Prop},cK k A.in1→j<H.length→aW c A F ρ ⟨l,H⟩ s env→(∀ρ' s',aW c A F ρ' ⟨l,H'⟩ s' env→aM c ρ H.length (· =env.locals) s ρ' H'.length s'→R (.ok (.ret res)) s')→
   codeAny c.M A (.builtin "list.extend.loop" ⟨[.ref (ρ j),.ref (ρ i),res],[]⟩) R s:=by
 induction dr with
 |stop hi hd h=>
  intro A ρ s R K jl r q
  refine codeAny_builtin PySem.F.entry_extend_loop ?_
  rw[Around.under_plainId PySem.F.plain_extend_loop _]
  show wpAny _ A.in1 (pyNext (.ref (ρ i)) >>=_) _ _ s
  exact YC (yH (σ:=⟨l,_⟩) O hi hd hs hf h K r.in1 λρ2 s2 r2 st2=>YD (q ρ2 s2 r2.out1 st2))
 | @more H H₁ H₂ d es v vs acc hi hd h hj hz rr ih=>
  intro A ρ s R K jl r q
  have il:=aq hi
  refine codeAny_builtin PySem.F.entry_extend_loop ?_
  rw[Around.under_plainId PySem.F.plain_extend_loop _]
  show wpAny _ A.in1 (pyNext (.ref (ρ i)) >>=_) _ _ s
  refine YC (yG (σ:=⟨l,_⟩) O hi hd hs hf h K r.in1 λρ2 s2 x r2 st2 vx=>?_)
  show wpAny _ A.in1 (updateSeq (ρ j) (·.push x) >>=_) _ _ _
  rw[←st2.ag j jl]
  refine YC (mh (σ:=⟨l,H₁⟩) r2 hj hz vx λs3 r3 st3=>?_)
  have st:aM c ρ H.length (· =env.locals) s ρ2 (H₁.set j (.list (acc++[v]))).length s3:=st2.trans st3
  have z:=ih (A:=A) (ρ:=ρ2) (s:=s3) (R:=R) K (ZE jl st.le) r3.out1 λρ4 s4 r4 st4=>q ρ4 s4 r4 (st.trans st4)
  rw[st2.ag i il]at z
  exact YD ⟨plainId_quiet PySem.F.plain_extend_loop _,z⟩
theorem sC{Q:Unit→Shared→Prop}{acc':List AV}{f:Array Value→Array Value}(r:aW c A F ρ σ s env)(hj:σ.H[j]?=some (.list acc))(hz:acc.length<1000)(hz':acc'.length<2000)
  (hv:∀its,cF ρ σ.H.length acc its→∃its',f ⟨its⟩=⟨its'⟩∧cF ρ σ.H.length acc' its')
  (q:∀s',aW c A F ρ ⟨σ.loc,σ.H.set j (.list acc')⟩ s' env→aM c ρ σ.H.length (· =env.locals) s ρ (σ.H.set j (.list acc')).length s'→Q () s'):wpAny M A (updateSeq (ρ j) f) Q E s:=by
 refine br λGz kz=>?_
 refine aj (r.hr.at_ j _ hj) λob h1 h2=>?_
 refine ds h2 ?_;clear h2;intro its e z0 h3;subst z0
 have jl:=aq hj
 have ln:=aI h3
 refine aj (hv its h3) λits' e1 e2=>?_
 refine kz ?_
 have ln':=aI e2
 refine wpAny_updateSeq h1 rfl ?_ (by show its.length≤sizeLine;unfold sizeLine;lia) (by rw[e1];show its'.length≤_;unfold sizeLine;lia)
 have hg:=Zw (Obj.mapSeq f) h1 rfl
 have oth:∀b o,s.heap.get? b=some o→b≠env.locals→b≠ρ j→(s.heap.update (ρ j) (Obj.mapSeq f)).get? b=some o:= λb o e _ hb=>(ZU _ _ (Ne.symm hb)).trans e
 have z:=r.upd (tk:=s.toks) (ao:=.list acc') jl hg (cH its' _ (by simp[Obj.mapSeq,e1];rfl) e2) oth (λm hm=>by
  refine dc hm λo es ep g1 g2=>?_
  exact bh o es ep ((ZU _ _ (r.ap j jl)).trans g1) g2)
 exact q _ z.1 z.2
theorem lG{x:Addr}{ox:Obj}{od:Option Obj}{r:Option Value}{Q:Option Value→Shared→Prop}(X:K.In s.heap)(I:InstAt s.heap x ox C od)(hs:findIn K (.ref C) name=some r)(h:Q r s):wpAny M A (specialOf (.ref x) name) Q E s:=by
 unfold specialOf
 exact YC (I.type.here ((looks_findIn X hs).here h))
theorem C1{fi fn:Addr}{res:Value}(O:c.Ok)
  (hi:H[i]?=some (.inst C d))(hd:H[d]?=some (.dict es))(hj:H[j]?=some (.list []))(hit:findIn c.K (.ref C) "__iter__"=some (some (.ref fi)))(hfi:isFn c.K (.ref fi)=true)(hs:findIn c.K (.ref C) "__next__"=some (some (.ref fn)))(hf:isFn c.K (.ref fn)=true)
  (hlen:findIn c.K (.ref C) "__len__"=some none)(hhint:findIn c.K (.ref C) "__length_hint__"=some none)
  (hI:Fn c k (.ref fi) [.obj i] [] H (.obj i) H)(dr:oH c k C fn i j H vs H')(K:cK k A.in1)(r:aW c A.in1 F ρ ⟨l,H⟩ s env)
  (q:∀ρ' s',aW c A.in1 F ρ' ⟨l,H'⟩ s' env→aM c ρ H.length (· =env.locals) s ρ' H'.length s'→R (.ok (.ret res)) s'):
  wpAny c.M A.in1 (Builtin.List.listExtendWith (.ref (ρ j)) (.ref (ρ i)) res)
   (λfin s'=>match fin with| .done f=>R (.ok f) s'| .again c'=>c'.quiet=true∧codeAny c.M A c' R s') (λe s'=>R (.error e) s') s:=by
 have il:=aq hi
 have jl:=aq hj
 have hij:i≠j:=by rintro rfl;rw[hi]at hj;cases hj
 have hne:ρ j≠ρ i:= λe=>hij (r.hr.inj j i jl il e).symm
 refine ct (r.inst hi hd) λents e h5 h3 I=>?_
 unfold Builtin.List.listExtendWith
 refine YC (I.type.here ?_)
 have h1:Builtin.List.listSameRef (.ref (ρ j)) (.ref (ρ i))=false:=by simp[Builtin.List.listSameRef,hne]
 have h2:(Value.ref C==Value.type "list")=false:=rfl
 have h3':(Value.ref C==Value.type "tuple")=false:=rfl
 simp only[h1,h2,h3',Bool.or_false,Zy,if_false]
 refine YC (Dj (r.X O) I hit hfi (wF (σ:=⟨l,H⟩) O hI K r (.cons ⟨il,rfl⟩ .nil) λρ1 s1 x r1 st1 vx=>?_))
 refine aO vx ?_;clear vx;intro _ z0;subst z0
 refine ct (r1.inst hi hd) λents1 e1 g5 g3 I1=>?_
 refine Iu (r1.X O) I1 hs ?_
 rw[←st1.ag j jl,←st1.ag i il]
 refine YC (YF ?_)
 unfold Builtin.List.listLengthHint
 refine YC (lG (r1.X O) I1 hlen ?_)
 show wpAny _ A.in1 (specialOf (Value.ref (ρ1 i)) (Str.ofString "__length_hint__") >>=_) _ _ _
 refine YC (lG (r1.X O) I1 hhint ?_)
 refine YD ?_
 show wpAny _ A.in1 (rule "list.extend.makes-room" >>= λ_=>Builtin.List.listTouch (.ref (ρ1 j)) >>= λ_=>
  again (.builtin "list.extend.loop" ⟨[.ref (ρ1 j),.ref (ρ1 i),res],[]⟩)) _ _ _
 refine YC (wpAny_rule ?_)
 refine YC ?_
 show wpAny _ A.in1 (updateSeq (ρ1 j) (·.push .none) >>= λ_=>updateSeq (ρ1 j) (·.pop)) _ _ _
 refine YC (mh (σ:=⟨l,H⟩) (v:=.none) r1 hj (by decide) rfl λs2 r2 st2=>?_)
 have hj2:(H.set j (.list ([]++[.none])))[j]?=some (.list ([]++[.none])):=zT jl
 refine sC (σ:=⟨l,H.set j (.list ([]++[.none]))⟩) (acc':=[]) r2 hj2 (by decide) (by decide) (λits hv=>?_) λs3 r3 st3=>?_
 ·cases hv with
  |cons a b=>cases b;exact al [] rfl .nil
 ·have eH:(H.set j (.list ([]++[AV.none]))).set j (.list [])=H:=by
   rw[Zj]
   refine bp (zS.mp hj) λq1 q2=>?_
   rw[←q2];exact Z8 q1
  have r3':aW c A F ρ1 ⟨l,H⟩ s3 env:=by
   have z:=r3.out1
   change aW c A F ρ1 ⟨l,(H.set j (.list ([]++[AV.none]))).set j (.list [])⟩ s3 env at z
   rw[eH]at z;exact z
  have st3':aM c ρ1 (H.set j (.list ([]++[AV.none]))).length (· =env.locals) s2 ρ1 H.length s3:=by
   have z:=st3
   change aM c ρ1 (H.set j (.list ([]++[AV.none]))).length (· =env.locals) s2 ρ1 ((H.set j (.list ([]++[AV.none]))).set j (.list [])).length s3 at z
   rw[eH]at z;exact z
  refine YD ⟨plainId_quiet PySem.F.plain_extend_loop _,ux O hs hf dr K jl r3' λρ4 s4 r4 st4=>q ρ4 s4 r4.in1 ((st1.trans (st2.trans st3')).trans st4)⟩
theorem B6{fi fn:Addr}(O:c.Ok)
  (hi:H[i]?=some (.inst C d))(hd:H[d]?=some (.dict es))(hit:findIn c.K (.ref C) "__iter__"=some (some (.ref fi)))(hfi:isFn c.K (.ref fi)=true)(hs:findIn c.K (.ref C) "__next__"=some (some (.ref fn)))(hf:isFn c.K (.ref fn)=true)
  (hlen:findIn c.K (.ref C) "__len__"=some none)(hhint:findIn c.K (.ref C) "__length_hint__"=some none)
  (hI:Fn c k (.ref fi) [.obj i] [] (H++[.list []]) (.obj i) (H++[.list []]))(dr:oH c k C fn i H.length (H++[.list []]) vs H')(hle:H.length<H'.length):
  cJ c F (k+2) (λxs=>call (.type "list") xs) [.obj i] ⟨l,H⟩ (.obj H.length) ⟨l,H'⟩:= λA ρ s env Q E xs K r hx q=>by
 refine lL hx λ_ hx=>?_
 refine aO hx ?_;clear hx;intro il z0;subst z0
 refine callType_codes (Q₁:= λobj s₁=>obj=.ref s.heap.objs.size∧s₁={s with heap:=s.heap.push {cls:=.type "list",data:=.seq #[]}}) PySem.F.called_list (PySem.F.typeCall_list_1 _) PySem.F.entry_list_init
  (code_list_new _ ⟨rfl,rfl⟩) λobj s₁ h₁=>?_
 refine aO h₁ ?_;clear h₁;intro z0 z1;subst z0;subst z1
 have hS:(s.heap.push {cls:=.type "list",data:=.seq #[]}).get? s.heap.objs.size=some {cls:=.type "list",data:=.seq #[]}:=ZN _ rfl
 refine aO (r.alloc (ao:=.list []) (ob:={cls:=.type "list",data:=.seq #[]}) s.toks rfl (cH [] _ rfl .nil)) λr1 st1=>?_
 have e0:gj ρ (St.H ⟨l,H⟩).length s.heap.objs.size H.length=s.heap.objs.size:=aF
 have ei:gj ρ (St.H ⟨l,H⟩).length s.heap.objs.size i=ρ i:=bc il
 refine⟨al _ hS rfl,PySem.F.args_list_init_2 _ _,?_⟩
 generalize gj ρ (St.H ⟨l,H⟩).length s.heap.objs.size=ρ1 at*
 have hi1:(H++[AO.list []])[i]?=some (.inst C d):=aB hi
 have hd1:(H++[AO.list []])[d]?=some (.dict es):=aB hd
 have hj1:(H++[AO.list []])[H.length]?=some (.list []):=aP
 rw[←e0,←ei]
 show wpAny _ A.in1.in1 (do let old←Builtin.List.listItems (.ref (ρ1 H.length));Builtin.List.listUpdate (.ref (ρ1 H.length)) (λ_=> #[]);letGo old.toList.reverse;Builtin.List.listExtendWith (.ref (ρ1 H.length)) (.ref (ρ1 i)) .none) _ _ _
 refine YC ?_
 unfold Builtin.List.listItems
 refine YC (wpAny_seqItems (by rw[e0];exact hS) rfl (YD ?_))
 show wpAny _ A.in1.in1 (updateSeq (ρ1 H.length) (λ_=> #[]) >>= λ_=>letGo (#[]:Array Value).toList.reverse >>= λ_=>Builtin.List.listExtendWith (.ref (ρ1 H.length)) (.ref (ρ1 i)) .none) _ _ _
 refine YC (sC (σ:=⟨l,H++[.list []]⟩) (acc':=[]) r1.in1.in1 hj1 (by decide) (by decide) (λits hv=>al [] rfl .nil) λs2 r2 st2=>?_)
 have eH:(H++[AO.list []]).set H.length (.list [])=H++[.list []]:=by
  refine bp (zS.mp hj1) λq1 q2=>?_
  have:=Z8 q1
  rw[q2]at this;exact this
 change aW c A.in1.in1 F ρ1 ⟨l,(H++[AO.list []]).set H.length (.list [])⟩ s2 env at r2
 change aM c ρ1 (H++[AO.list []]).length (· =env.locals) _ ρ1 ((H++[AO.list []]).set H.length (.list [])).length s2 at st2
 rw[eH]at r2 st2
 refine YC (wpAny_letGo ?_)
 refine C1 (A:=A.in1) O hi1 hd1 hj1 hit hfi hs hf hlen hhint hI dr K.in1.in1 r2 λρ3 s3 r3 st3=>⟨rfl,?_⟩
 refine q ρ3 s3 _ r3.out1.out1 (st1.trans (st2.trans st3)) ⟨hle,?_⟩
 rw[st3.ag _ (by simp)]
theorem cY{L:Addr→Prop}(ob:Obj)(t:Nat):aM c ρ n L s (gj ρ n s.heap.objs.size) (n+1) {s with heap:=s.heap.push ob,toks:=t}:=
 ⟨λi hi=>bc hi,Zf _,λi h1 h2=>(by
  have:i=n:=by lia
  subst this
  rw[aF];exact e7 _),⟨λb o e=>⟨o,zH _ e⟩,λb o e _ _ _=>al o (zH _ e) .refl⟩,rfl⟩
theorem s8(sk:rf c A ρ n h)(ob:Obj):rf c A (gj ρ n h.objs.size) (n+1) (h.push ob):=
 sk.keep (λi hi=>bc hi) (λi h1 h2=>(by
  have:i=n:=by lia
  subst this
  rw[aF];exact e7 _)) λb o2 es ep g1 g2 _ _=>bh o2 es ep (zH _ g1) g2
theorem cF.step{L:Addr→Prop}{xs:List Value}(h:cF ρ n as xs)(st:aM c ρ n L s ρ' n' s'):cF ρ' n' as xs:=h.mono st.ag st.le
theorem xF(A:Around)(a:Args):(A.under (.builtin "type.__call__" a)).frames=A.frames:=by
 show pushEnvs [] A.frames=A.frames
 cases A.frames<;>rfl
theorem qE{vals:List Value}{kw:List (Str×Value)}(K:cK (k+1) A):cK k (A.under (.builtin "type.__call__" ⟨.ref C::vals,kw⟩)):=by
 refine fP K λh1 h2 h3=>?_
 refine⟨?_,?_,λz=>h3 (by lia)⟩
 ·rw[depth_under_kw];lia
 ·show A.units+(Code.builtin "type.__call__" ⟨.ref C::vals,kw⟩).cUnits+12*k≤9000
  have:(Code.builtin "type.__call__" ⟨.ref C::vals,kw⟩).cUnits≤12:=by
   show(Code.builtin "type.__call__" ⟨[.ref 0],[]⟩).cUnits≤12
   decide+kernel
  lia
theorem uU{a:Args}(sk:rf c A ρ n h):rf c (A.under (.builtin "type.__call__" a)) ρ n h:=by
 intro hz
 refine aj (sk hz) λl h1 h2=>?_
 exact al l ((xF A a).trans h1) h2
theorem qM{fI:Addr}{H2:List AO}(O:c.Ok)(hm:makesIn c.K C=true)(hi:findIn c.K (.ref C) "__init__"=some (some (.ref fI)))(hf:typeIn c.K (.ref fI)=some (.type "function"))
  (h:Fn c k (.ref fI) (.obj (H.length+1)::args) kw (H++[.dict [],.inst C H.length]) .none H2):Fn c (k+1) (.ref C) args kw H (.obj (H.length+1)) H2:= λA ρ s xs ks R K hr ge sk hx hks q=>by
 obtain⟨hp,gn,dr,tk,os⟩:=s
 have hr1:=hr.alloc (ao:=.dict []) (ob:=emptyDict) rfl (cH [] _ rfl .nil)
 have st1:aM c ρ H.length (λ_=>False) ⟨hp,gn,dr,tk,os⟩ _ _ _:=cY emptyDict tk
 have sk1:=s8 sk emptyDict
 have ob2:OR (gj (gj ρ H.length hp.objs.size) (H++[AO.dict []]).length (hp.push emptyDict).objs.size) ((H++[AO.dict []]).length+1) (.inst C H.length) (instObj C hp.objs.size):=by
  refine⟨(by simp;lia),?_⟩
  rw[bc (by simp),aF]
 have hr2:=hr1.alloc (ao:=.inst C H.length) (ob:=instObj C hp.objs.size) rfl ob2
 have st2:aM c (gj ρ H.length hp.objs.size) (H.length+1) (λ_=>False) ⟨hp.push emptyDict,gn,dr,tk,os⟩ _ _ _:=cY (instObj C hp.objs.size) tk
 have sk2:=s8 sk1 (instObj C hp.objs.size)
 have e2:H++[AO.dict []]++[AO.inst C H.length]=H++[.dict [],.inst C H.length]:=by simp
 have l1:(H++[AO.dict []]).length=H.length+1:=by simp
 have l2:(H++[AO.dict [],AO.inst C H.length]).length=H.length+1+1:=by simp
 rw[e2,l1]at hr2
 have st:=st1.trans st2
 have eS:gj (gj ρ H.length hp.objs.size) (H.length+1) (hp.push emptyDict).objs.size (H.length+1)=hp.objs.size+1:=by rw[aF,Zo]
 dsimp only at st st2
 refine make_core (makes_of (hr.X O) hm) (looks_findIn (hr.X O) hi) (λself=>bind_fn (hr.X O) self hf) (.inl rfl) ?_
 generalize gj (gj ρ H.length hp.objs.size) (H.length+1) (hp.push emptyDict).objs.size=ρ2 at*
 refine h _ ρ2 ⟨(hp.push emptyDict).push (instObj C hp.objs.size),gn,dr,tk,os⟩ _ ks _ (qE K) hr2 ge (uU (by rw[l2];exact sk2)) ?_ ?_ λρ3 s3 x hr3 ge3 st3 vx=>⟨vx,?_⟩
 ·rw[l2]
  exact .cons ⟨Zb _,by rw[eS]⟩ (hx.step st)
 ·rw[l2];exact hks.mono st.ag st.le
 ·rw[l2]at st3
  have:=q ρ3 s3 (.ref (hp.objs.size+1)) hr3 ge3 (st.trans st3) ⟨ZE (Zb _) st3.le,by rw[st3.ag _ (Zb _),eS]⟩
  exact this
noncomputable def nZ(K:Frag)(C:Addr):Bool:=match K.lookup C with
 |some ⟨_,_,.cls cd,_⟩=>!cd.mro.isEmpty&&cd.mro.contains (.ref C)&&specialIn K (.ref C) "__call__"==some (some (.builtin "type.__call__"))&&instIn K (.ref C) (.type "type")==some true
 |_=>false
theorem rf.after(O:c.Ok)(sk:rf c A ρ n s.heap)(st:aM c ρ n (λ_=>False) s ρ' n' s'):rf c A ρ' n' s'.heap:=
 sk.keep st.ag st.nw λb o2 es2 ep2 g1 g2 g3 g4=>by
  have ht:b≠c.tj:=(by rintro rfl;refine bp (O.tjx) λo3 e3=>?_;rw[g4]at e3;cases e3)
  refine aj (st.kp.2 b o2 g1 ht (λz=>z) g3) λo3 k3 l3=>?_
  exact bh o3 es2 ep2 k3 (l3.data.trans g2)
theorem sW{fI fN p:Addr}{rest:List Value}{H2:List AO}{x:Nat}(O:c.Ok)(hm:nZ c.K C=true)(hmade:∀S,peek c.K S (Bind.madeBy (.ref C))=some none)
  (hr0:readsIn c.K C (.type "type")=true)(hfc:findCls c.K (.ref C) (.type "type") "__new__"=some (.get (.builtin "staticmethod.__get__") (.ref p) .none (.ref C)))(hp:recIn c.K p "staticmethod"=some (.ref fN::rest))
  (hi:findIn c.K (.ref C) "__init__"=some (some (.ref fI)))(hf:typeIn c.K (.ref fI)=some (.type "function"))
  (hN:Fn c k (.ref fN) (.val (.ref C)::args) kw H (.obj x) H1)(hx1:H1[x]?=some (.inst C d))(hd1:H1[d]?=some (.dict es))
  (hI:Fn c k (.ref fI) (.obj x::args) kw H1 .none H2):Fn c (k+1) (.ref C) args kw H (.obj x) H2:= λA ρ s xs ks R K hr ge sk hx hks q=>by
 unfold nZ at hm
 split at hm
 ·rename_i oc od cd sl ho
  simp only[Z3,Bool.not_eq_true',beq_iff_eq]at hm
  refine aO hm λz0 e4=>aO z0 λz1 e3=>aO z1 λe1 e2=>?_
  have X:=hr.X O
  have hC:s.heap.get? C=some ⟨oc,od,.cls cd,sl⟩:=X _ _ ho
  have hc:clsIn c.K C=some cd:=by unfold clsIn;rw[ho]
  have call:Looks c.M s.heap (specialOf (.ref C) "__call__") (some (.builtin "type.__call__")):=looks_specialIn X e3
  have typ:Looks c.M s.heap (isInstance (.ref C) (.type "type")) true:=looks_instIn X e4
  refine codeAny_of_tree ?_
  show wpAny _ _ (callAny (.ref C) _) _ _ _
  obtain⟨hp',gn,dr,tk,os⟩:=s
  refine nd_load hC ?_
  show wpAny _ _ (callAny.viaDunder (.ref C) _) _ _ _
  unfold callAny.viaDunder
  refine YC (call.at ?_)
  dsimp only
  rw[tc_bind]
  refine YC (YD (YC (YD ?_)))
  refine YD (a:=Fin.again (.call (.builtin "type.__call__") ⟨.ref C::xs,ks⟩)) (And.intro rfl ?_)
  refine codeAny_call_builtin_at (Code.quiet_builtin _ (by decide+kernel)) entry_typeCall (check_slot tc_kind tc_split typ (tc_args _ _ _) ?_)
  unfold Builtin.«type.__call__»
  have hm:Looks c.M hp' (mroOf (.ref C)) cd.mro:=((Looks.ld (part:=none) hC).andThen .now).andThen .now
  have made:Looks c.M hp' (Bind.madeBy (.ref C)) none:=Looks.of_peek X (hmade _)
  repeat (first|with_reducible refine cls_bind (s:=⟨hp',gn,dr,tk,os⟩) X hr0 hfc ?_ |with_reducible refine wpAny_call ?_ |simp only[e1,Zy,if_false]|lk)
  refine sm_get (s:=⟨hp',gn,dr,tk+1,os⟩) X hp ?_
  show wpAny _ _ (handedOut (.ref fN)) _ _ _
  rw[handedOut_of rfl]
  refine YD ?_
  have st0:aM c ρ H.length (λ_=>False) ⟨hp',gn,dr,tk,os⟩ ρ H.length ⟨hp',gn,dr,tk+1,os⟩:=.toks _
  refine YC (YF (wpAny_call (hN _ ρ ⟨hp',gn,dr,tk+1,os⟩ _ ks _ (qE K) hr ge (uU sk) (.cons rfl hx) hks λρ1 s1 y hr1 ge1 st1 vy=>?_)))
  refine aO vy ?_;clear vy;intro xl z0;subst z0
  refine aj (hr1.at_ x _ hx1) λob g1 g2=>?_
  refine aO g2 ?_;clear g2;intro dl z0;subst z0
  refine aj (hr1.at_ d _ hd1) λob2 g3 g4=>?_
  have X1:=hr1.X O
  have hty:Looks c.M s1.heap (typeOf (.ref (ρ1 x))) (.ref C):=(Looks.ld g1).andThen .now
  have hsub:Looks c.M s1.heap (isSubtype (.ref C) (.ref C)) true:=looks_mroIn X1 (by unfold mroIn;rw[hc,Option.bind_some,if_neg (by rw[e1];decide),e2])
  have ins:Looks c.M s1.heap (isInstance (.ref (ρ1 x)) (.ref C)) true:=hty.andThen hsub
  refine YC (ins.here ?_)
  show wpAny _ _ (holding [.ref (ρ1 x)] (callSpecial? (.ref (ρ1 x)) (Str.ofString "__init__") xs ks) >>=_) _ _ _
  refine YC (YF ?_)
  unfold callSpecial? specialOf
  refine YC (YC (hty.here ((looks_findIn X1 hi).here ?_)))
  dsimp only
  refine YF (YC ((bind_fn X1 _ hf).here ?_))
  refine YC (wpAny_call (hI _ ρ1 s1 _ ks _ (qE K) hr1 ge1 ?_ (.cons ⟨xl,rfl⟩ (hx.step (st0.trans st1))) (hks.mono (st0.trans st1).ag (st0.trans st1).le) λρ2 s2 y hr2 ge2 st2 vy=>?_))
  ·exact uU (sk.after O (st0.trans st1))
  ·have vy':y=.none:=vy
   subst vy'
   refine YD (YD ?_)
   have:=q ρ2 s2 (.ref (ρ1 x)) hr2 ge2 ((st0.trans st1).trans st2) ⟨ZE xl st2.le,by rw[st2.ag _ xl]⟩
   exact this
 ·cases hm
noncomputable def iW(c:Cx)(fd:FuncData)(args:List AV)(kw:List (Str×AV))(H:List AO)(loc:List (Str×AV))(H1:List AO):Prop:=
 ∀(ρ:Nat→Addr)(s:Shared)(xs:List Value)(ks:List (Str×Value)),eu c ρ H s.heap→cF ρ H.length args xs→lV ρ H.length kw ks→
  ∃ρ1 s1 binds,(∀(M:Model)(A':Around)(E:Value→Shared→Prop)(Q:List (Str×Value)→Shared→Prop),M.prog=c.prog→M.w=c.w→Q binds s1→wpAny M A' (bindArgs fd ⟨xs,ks⟩) Q E s)∧
   eu c ρ1 H1 s1.heap∧(s1.gens=s.gens∧s1.drawn=s.drawn)∧aM c ρ H.length (λ_=>False) s ρ1 H1.length s1∧lV ρ1 H1.length loc binds
noncomputable def Ga(c:Cx)(F:Fs)(n k:Nat){α:Type}(t:Env→Sem α)(σ:St)(R:(Nat→Addr)→α→Prop)(σ':St):Prop:=
 ∀(A:Around)(ρ:Nat→Addr)(s:Shared)(env:Env)(Q:α→Shared→Prop)(E:Value→Shared→Prop),n≤s.toks→cK k A→aW c A F ρ σ s env→
  (∀ρ' s' a,aW c A F ρ' σ' s' env→aM c ρ σ.H.length (· =env.locals) s ρ' σ'.H.length s'→R ρ' a→Q a s')→wpAny c.M A (t env) Q E s
theorem De.toT{t:Env→Sem α}{R:(Nat→Addr)→α→Prop}(h:De c F k t σ R σ'):Ga c F n k t σ R σ':= λA ρ s env Q E _=>h A ρ s env Q E
noncomputable abbrev uW(c:Cx)(F:Fs)(n k:Nat)(st:List Stmt)(σ:St)(f:AF)(σ':St):Prop:=Ga c F n k (execs st) σ (λρ=>FR ρ σ'.H.length f) σ'
theorem EE{fl:AF}(O:c.Ok)
  (hf:c.K.lookup f=some ⟨oc,od,.func fd,osl⟩)(hcd:codeIn c.K fd.code fd.qualname=true)(hbody:fd.body=.stmts body)(hcl:fd.closure=[])(hgl:fd.globals=mainGlobals)(hbl:fd.builtins=builtinsNs)
  (hcell:∀x∈fd.scope.names,x.2≠.cell)(hco:fd.scope.isCoroutine=false)(hgen:fd.scope.isGenerator=false)(hk:fd.scope.kind=.function)
  (nd:decide (loc.map (·.1)).Nodup=true)(lo:(loc.all λp=>fd.scope.names.lookup p.1==some .local)=true)
  (bd:iW c fd args kw H loc H1)
  (hb:uW c ⟨fd.scope,[]⟩ loc.length k body ⟨loc,H1⟩ fl ⟨loc',H'⟩):Fn c (k+1) (.ref f) args kw H fl.val H':= λA ρ s xs ks R K hr ge sk hx hks q=>by
 refine br λGz kz=>?_
 refine c7 (bd ρ s xs ks hr hx hks) λρ1 s1 binds b1 hr1 ge1 st1 b2=>?_
 refine kz ?_
 have sk1:=sk.after O st1
 have nm:=jD b2
 have hloc:∀x∈binds,fd.scope.names.lookup x.1=some .local:= λx hx=>by
  have hm:x.1∈loc.map (·.1):=by rw[←nm];exact List.mem_map_of_mem hx
  refine aj (ZR.mp hm) λp hp e=>?_
  have:=ZG.mp lo p hp
  rw[←e];simpa using this
 have b3:∀x v,loc.lookup x=some v→∃v',binds.reverse.lookup x=some v'∧VR ρ1 H1.length v v':= λx v hv=>by
  refine aj (iB b2 hv) λv' h1 h2=>?_
  exact al v' (by rw[dT (by rw[nm];exact of_decide_eq_true nd)];exact h1) h2
 refine codeAny_call_function K.depth (hr.X O _ _ hf) rfl hco hgen hbody (codeRec_of (hr.X O) hcd) (b1 _ _ _ _ rfl rfl ?_)
 refine wpAny_newFunctionEnv hcell hloc (λh₀ hns hsb₀=>⟨(hr1.lim O).fresh _ hsb₀,codeAny_func ?_⟩) hk
 have hkp:∀b o,s1.heap.get? b=some o→h₀.get? b=some o:= λb o e=>hsb₀.extBut b o (Z7 (ZB e)) (zH _ e)
 have r:aW c (A.deeper (callEnv fd s1.heap.objs.size f)) ⟨fd.scope,[]⟩ ρ1 ⟨loc,H1⟩ {s1 with heap:=h₀,toks:=s1.toks+binds.length} (callEnv fd s1.heap.objs.size f):=
  ⟨⟨λi o e=>let⟨ob,h1,h2⟩:=hr1.at_ i o e;(al ob (hkp _ _ h1) h2),hr1.inj,hr1.up,λb o e t=>hkp _ _ (hr1.base b o e t),λo e=>(hr1.tj o e).imp (λz=>hkp _ _ z) λ⟨z1,z2,vs,more,z3,z4⟩=>bS z1 z2 vs more z3 (hkp _ _ z4)⟩,
   rfl,hgl,hbl,(by show fd.closure=_;rw[hcl];rfl),(λp hp=>nomatch hp),al _ hns b3,λi hi q=>(by
   refine aj (hr1.at_ i (H1[i]) (zG hi)) λob h1 _=>?_
   have:=ZB h1
   rw[show ρ1 i=s1.heap.objs.size from q]at this
   exact ZJ _ this),(by cases q:c.h₁.get? (callEnv fd s1.heap.objs.size f).locals with|none=>rfl|some o=>exact(hr1.nosz o q).elim),(by show c.gq s1.gens s1.drawn;rw[ge1.1,ge1.2];exact ge),(by
   intro hz
   refine aj (sk1 hz) λl l1 l2=>?_
   refine al _ (Around.frames_deeper l1) λe he=>?_
   rcases ZI.mp he with rfl|he
   ·refine dh hns λo es ep g1 g2 _=>?_
    refine eO (by show fd.scope.kind≠.module;rw[hk];decide) s1.heap.objs.size o es ep rfl ?_ g1 g2 λi hi q=>?_
    ·cases q:c.h₁.get? s1.heap.objs.size with
     |none=>rfl
     |some o=>exact(hr1.nosz o q).elim
    ·refine aj (hr1.at_ i (H1[i]) (zG hi)) λob h1 _=>?_
     have:=ZB h1
     rw[q]at this
     exact ZJ _ this
   ·exact(l2 e he).keep (λ_ _=>rfl) (λi h1 h2=>absurd h2 (ZX.mpr h1)) λb o es ep g1 g2 _ _=>bh o es ep (hkp _ _ g1) g2),(λhz _=>by refine aj (sk1 hz) λl l1 _=>?_;exact⟨l,Around.frames_deeper l1⟩),λ_=>⟨rfl,rfl⟩⟩
 have lnb:binds.length=loc.length:=by have:=congrArg List.length nm;simpa using this
 refine hb (A.deeper (callEnv fd s1.heap.objs.size f)) ρ1 _ _ _ _ (by show loc.length≤s1.toks+binds.length;lia) K.deeper r λρ' s' fl' r' st vf=>?_
 have st':aM c ρ1 H1.length (λ_=>False) s1 ρ' H'.length s':=⟨st.ag,st.le,λi h1 h2=>(by
   cases q:s1.heap.get? (ρ' i)with
   |none=>rfl
   |some o=>have:=st.nw i h1 h2;rw[hkp _ _ q]at this;cases this),
  ⟨λb o e=>st.kp.1 b o (hkp _ _ e),λb o e t _ h3=>st.kp.2 b o (hkp _ _ e) t (λz=>by
   have:=ZB e
   rw[show b=s1.heap.objs.size from z]at this
   exact ZJ _ this) h3⟩,st.os⟩
 have st':=st1.trans st'
 cases fl with
 |next=>rw[show fl'=.next from vf];exact q ρ' s' _ r'.hr r'.ge st' rfl
 |brk=>rw[show fl'=.brk from vf];exact q ρ' s' _ r'.hr r'.ge st' rfl
 |cont=>rw[show fl'=.cont from vf];exact q ρ' s' _ r'.hr r'.ge st' rfl
 |ret v=>refine aj vf ?_;clear vf;intro x z0 hx;subst z0;exact q ρ' s' x r'.hr r'.ge st' hx
theorem Cp{fl:AF}(G:c.Go)(X:dz c.w.params f body sc)
  (nd:decide (loc.map (·.1)).Nodup=true)(lo:(loc.all λp=>sc.names.lookup p.1==some .local)=true)
  (bd:iW c (dw c.w.params f) args kw H loc H1)
  (hb:uW c ⟨sc,[]⟩ loc.length k body ⟨loc,H1⟩ fl ⟨[],H'⟩):Fn c (k+1) (.ref f) args kw H fl.val H':=by
 have e:=X.se
 subst e
 refine EE (fd:=dw c.w.params f) (loc:=loc) G.ok (by rw[G.hK];exact X.lk) (by rw[G.hK];exact X.cd) X.bd X.cl X.gl X.bl (λx hx=>?_) X.co X.ge X.ki nd lo bd hb
 have:=ZG.mp X.ce x hx
 simpa using this
theorem qC{fl:AF}(G:c.Go)(X:dz c.w.params f body sc)
  (nd:decide (loc.map (·.1)).Nodup=true)(lo:(loc.all λp=>sc.names.lookup p.1==some .local)=true)
  (bd:iW c (dw c.w.params f) args kw H loc H1)
  (hb:dq c ⟨sc,[]⟩ k body ⟨loc,H1⟩ fl ⟨[],H'⟩):Fn c (k+1) (.ref f) args kw H fl.val H':=Cp G X nd lo bd hb.toT
noncomputable def kO{α:Type}(K:Frag)(S:Setting)(D:Addr):Sem α→Option (List Obj×α)
 | .pure a=>some ([],a)
 | .rule _ k=>kO K S D (k ())
 | .point _ k=>kO K S D (k ())
 | .ask k=>kO K S D (k S)
 | .load a _ k=>(K.lookup a).bind λo=>kO K S D (k o)
 | .alloc o k=>(kO K S (D+1) (k D)).map λp=>(o::p.1,p.2)
 |_=>none
noncomputable def uJ(h:Heap)(os:List Obj):Heap:=os.foldl Heap.push h
theorem hW{Q:α→Shared→Prop}{a:α}:
  ∀(t:Sem α)(s:Shared)(os:List Obj),K.In s.heap→kO K ⟨M.prog,M.w.params⟩ s.heap.objs.size t=some (os,a)→Q a {s with heap:=uJ s.heap os}→wpAny M A t Q E s:=by
 intro t
 induction t with
 |pure b=>
  intro s os X e q
  have e:=congrArg (λz=>z.getD (os,b)) e
  have e1:[]=os:=congrArg (·.1) e
  have e2:b=a:=congrArg (·.2) e
  subst e1 e2;exact YD q
 |rule _ k ih=>intro s os X e q Γ p hΓ;exact ih () s os X e q Γ p hΓ
 |point _ k ih=>intro s os X e q Γ p hΓ;exact ih () s os X e q Γ p hΓ
 |ask k ih=>intro s os X e q Γ p hΓ;exact ih _ s os X e q Γ p hΓ
 |load a _ k ih=>
  intro s os X e q Γ p hΓ
  refine aj (Option.bind_eq_some_iff.mp e) λob ho e=>?_
  exact al ob (X _ _ ho) (ih ob s os X e q Γ p hΓ)
 |alloc ob k ih=>
  intro s os X e q
  refine aj (Z6.mp e) λp e1 e2=>?_
  have g1:ob::p.1=os:=congrArg (·.1) e2
  have g2:p.2=a:=congrArg (·.2) e2
  subst g1 g2
  refine YC (f:=k) (wpAny_alloc ?_)
  refine ih _ _ p.1 (X.keeps λb x hb=>zH _ hb) ?_ q
  rw[show((s.heap.push ob).objs.size)=s.heap.objs.size+1 from Zo _ _]
  exact e1
 |_=>intro s os X e;exact Jh e
theorem pG{rest fs:List AV}:∀{xs:List Value},cF ρ n (fs++rest) xs→∃x1 x2,xs=x1++x2∧cF ρ n fs x1∧cF ρ n rest x2:=by
 induction fs with
 |nil=>intro xs h;exact fk [] xs rfl .nil h
 |cons a fs ih=>
  intro xs h
  refine jj h ?_
  intro v vs h t
  refine ct (ih t) λx1 x2 z0 h1 h2=>?_
  exact fk (v::x1) x2 (by rw[z0];rfl) (.cons h h1) h2
theorem oE{b:List (Str×Value)}{v:Value}(h:lV ρ n l b)(hv:VR ρ n a v):lV ρ n (l++[(x,a)]) (b++[(x,v)]):=by
 induction h with
 |nil=>exact .cons hv .nil
 |cons h _ ih=>exact .cons h ih
theorem qD{T:String}{v:Value}{pl:Sem Bool}{Q:Value×List Value→Shared→Prop}(X:K.In s.heap)(ht:typeOf (.type T)=pure (.type "type"))(hs:Manifest.isStub T=false)
  (e:findCls K (.type T) (.type "type") name=some (.val v))(hh:handedIn v=true)(h:Q (v,[]) {s with toks:=s.toks+1}):wpAny c.M A (getMethod (.type T) name pl) Q E s:=by
 have hstub:opaqueClassAbove (.type T)=pure none:=by unfold opaqueClassAbove;dsimp only;rw[hs];rfl
 have L0:Looks c.M s.heap (typeOf (.type T)) (.type "type"):=Looks.of_pure ht
 have hg:findIn K (.type "type") "__getattribute__"=some (some (.builtin "type.__getattribute__")):=type_tga
 unfold getMethod specialOf
 refine YC (YC (L0.here ((looks_findIn X hg).here ?_)))
 dsimp only
 rw[if_pos canon_tga]
 refine YC (YE (Q:= λv=>Q (v,[])) (E:=E) ?_ (λ_ _ z=>YD z) λ_ _ z=>z)
 have LO:Looks c.M s.heap (opaqueClassAbove (.type T)) none:=Looks.of_pure hstub
 refine cls_open X LO L0 hg (looks_hook X (r:=none) (by rfl)) (by show subIn K _ _=_;rfl) e
  (YD (by show wpAny _ _ (handedOut v) _ _ _;rw[handedOut_of hh];exact YD h))
theorem Ep(X:K.In s.heap)(hc:∀S,peek K S (checkBuiltinCall "object.__new__" ⟨[.ref C],[]⟩)=some ())
  (hn:∀S D,kO K S D (Builtin.«object.__new__» ⟨[.ref C],[]⟩)=some ([emptyDict,instObj C D],.done (.ret (.ref (D+1)))))
  (hq:R (.ok (.ret (.ref (s.heap.objs.size+1)))) {s with heap:=(s.heap.push emptyDict).push (instObj C s.heap.objs.size)}):
  codeAny c.M A (.call (.builtin "object.__new__") ⟨[.ref C],[]⟩) R s:=by
 refine codeAny_call_builtin_code (Code.quiet_builtin _ PySem.F.objNew.quiet) ?_
 refine(Looks.of_peek X (hc _)).here ?_
 refine codeAny_builtin PySem.F.objNew.entry ?_
 exact hW _ s _ X (hn _ _) hq
theorem nV{a b:Addr}(O:c.Ok)(h:(!(a==b))=t)(hl:∀S,peek c.K S (isSame (.ref a) (.ref b))=some (a==b)):du c F k (compareOp .IsNot) (.val (.ref a)) (.val (.ref b)) σ (.bool t) σ:= λA ρ s env Q E p q K r hp hq z=>by
 cases hp;cases hq
 show wpAny _ A (do return Value.bool (!(←isSame (.ref a) (.ref b)))) Q E s
 exact YC ((Looks.of_peek (r.X O) (hl _)).here (YD (z ρ s _ r .refl (by rw[h];rfl))))
theorem yK(P:Params):findCls (Kx P) (.type "object") (.type "type") "__new__"=some (.val (.builtin "object.__new__")):=by w_on
theorem yk:handedIn (.builtin "object.__new__")=true:=by decide+kernel
theorem yJ:typeOf (.type "object")=pure (.type "type"):=by w_on
theorem yn:Manifest.isStub "object"=false:=by decide+kernel
theorem aW.fresh(r:aW c A F ρ σ s env):∃ρ',aW c A F ρ' ⟨σ.loc,σ.H++[.dict [],.inst C σ.H.length]⟩ {s with heap:=(s.heap.push emptyDict).push (instObj C s.heap.objs.size)} env∧
  aM c ρ σ.H.length (· =env.locals) s ρ' (σ.H++[AO.dict [],AO.inst C σ.H.length]).length {s with heap:=(s.heap.push emptyDict).push (instObj C s.heap.objs.size)}∧ρ' (σ.H.length+1)=s.heap.objs.size+1:=by
 refine aO (r.alloc (ao:=.dict []) (ob:=emptyDict) s.toks rfl (cH [] _ rfl .nil)) λr1 st1=>?_
 have ob2:OR (gj (gj ρ σ.H.length s.heap.objs.size) (σ.H++[AO.dict []]).length (s.heap.push emptyDict).objs.size) ((σ.H++[AO.dict []]).length+1) (.inst C σ.H.length) (instObj C s.heap.objs.size):=by
  refine⟨(by simp;lia),?_⟩
  rw[bc (by simp),aF]
 refine aO (r1.alloc (ao:=.inst C σ.H.length) (ob:=instObj C s.heap.objs.size) s.toks rfl ob2) λr2 st2=>?_
 have e2:σ.H++[AO.dict []]++[AO.inst C σ.H.length]=σ.H++[AO.dict [],AO.inst C σ.H.length]:=by simp
 dsimp only at r2 st2
 rw[e2]at r2 st2
 refine bO _ r2 (st1.trans st2) ?_
 rw[show σ.H.length+1=(σ.H++[AO.dict []]).length by simp,aF,Zo]
theorem ze{o:Expr}{args:List Expr}{T:String}(O:c.Ok)
  (he:∀env,eval (.Call (.Attribute o name apos) args [] pos) env=(do
   let ov←eval o env
   standAt apos.atName
   let(f,first)←holding [ov] (getMethod ov name (gD o env))
   callWith pos f first (backTo pos (starEach args env)) []))
  (hp:∀env,(backTo pos (starEach args env)).any (·.1)=false)(ht:typeOf (.type T)=pure (.type "type"))(hst:Manifest.isStub T=false)(fc:findCls c.K (.type T) (.type "type") name=some (.val (.builtin id)))(hh:handedIn (.builtin id)=true)
  (h0:Ev c F k o σ (.val (.type T)) σ₁)(ha:c9 c (.builtin id) pos args)(h1:Ag c F k pos args σ₁ vs σ₂)
  (h2:cJ c F k (λxs=>call (.builtin id) xs) vs σ₂ v σ₃):
  Ev c F k (.Call (.Attribute o name apos) args [] pos) σ v σ₃:= λA ρ s env Q E K r h=>
 MethodCall_ (pl:=gD o env) (h0 A ρ s env _ E K r λρ1 s1 x r1 st1 vx=>by
  subst vx
  refine qD (r1.X O) ht hst fc hh ?_
  refine Calls.callWith_builtin (hp env) (ha A env _ E _ ?_)
  refine h1 A ρ1 _ env _ E K (r1.toks _) λρ2 s2 xs r2 st2 vxs=>h2 A ρ2 s2 env _ E xs K r2 vxs λρ3 s3 z r3 st3 vz=>h ρ3 s3 z r3 ((st1.trans (.toks _)).trans (st2.trans st3)) vz) (he env)
theorem yI(O:c.Ok)(hc:∀S,peek c.K S (checkBuiltinCall "object.__new__" ⟨[.ref C],[]⟩)=some ())(hn:∀S D,kO c.K S D (Builtin.«object.__new__» ⟨[.ref C],[]⟩)=some ([emptyDict,instObj C D],.done (.ret (.ref (D+1))))):
  cJ c F k (λxs=>call (.builtin "object.__new__") xs) [.val (.ref C)] σ (.obj (σ.H.length+1)) ⟨σ.loc,σ.H++[.dict [],.inst C σ.H.length]⟩:= λA ρ s env Q E xs K r vxs q=>by
 refine lL vxs λ_ vx=>?_
 cases vx
 refine bz (r.fresh (C:=C)) λρ3 r3 st3 e3=>?_
 have z:=q ρ3 _ (.ref (s.heap.objs.size+1)) r3 st3 ⟨(by simp),(by rw[e3])⟩
 exact wpAny_call (Ep (r.X O) hc hn z)
noncomputable def DA:=d7 (d7 dP 16) 1
noncomputable def vM:=jZ (d7 dP 16) 1
noncomputable def AK:=d7 (d7 dP 20) 1
noncomputable def tL:=jZ (d7 dP 20) 1
noncomputable def Fk:=d7 (d7 dP 20) 2
noncomputable def Aq:=jZ (d7 dP 20) 2
theorem BI(P:Params):dz P 217 DA vM:=by constructor<;>w_on
theorem xE(P:Params):dz P 494 AK tL:=by constructor<;>w_on
theorem v8(P:Params):dz P 501 Fk Aq:=by constructor<;>w_on
theorem zI(P:Params)(x y:Value)(S:Setting)(D:Addr):kO (Kx P) S D (bindArgs (dw P 217) ⟨[x,y],[]⟩)=some ([{cls:=.type "tuple",data:=.seq #[y]},emptyDict],[(("cls":Str),x),(("args":Str),.ref D),(("kwargs":Str),.ref (D+1))]):=by w_on
noncomputable def EQ(P:Params)(f:Addr)(i:Nat):Tok:=match(dw P f).defaults with
 | .ref d=>(match(wl P d).data with
  | .seq xs _=>(match xs.toList[i]? with|some (.str _ t)=>t|some (.int _ t)=>t|_=>0)
  |_=>0)
 |_=>0
theorem yc(P:Params)(x y:Value)(S:Setting):peek (Kx P) S (bindArgs (dw P 494) ⟨[x,y],[]⟩)=some [(("self":Str),x),(("initial_value":Str),y),(("newline":Str),.str "\n" (EQ P 494 1))]:=by w_on
theorem DZ(P:Params)(x y:Value)(S:Setting):peek (Kx P) S (bindArgs (dw P 501) ⟨[x,y],[]⟩)=some [(("self":Str),x),(("s":Str),y)]:=by w_on
theorem CF(P:Params)(S:Setting):peek (Kx P) S (checkBuiltinCall "object.__new__" ⟨[.ref 724],[]⟩)=some ():=by w_on
theorem DW(P:Params)(S:Setting)(D:Addr):kO (Kx P) S D (Builtin.«object.__new__» ⟨[.ref 724],[]⟩)=some ([emptyDict,instObj 724 D],.done (.ret (.ref (D+1)))):=by w_on
theorem Hu(P:Params)(S:Setting):peek (Kx P) S (isSame (.ref 724) (.ref 477))=some ((724:Addr)==477):=by w_on
theorem IP(P:Params)(S:Setting):peek (Kx P) S (isSame (.ref 724) (.ref 724))=some ((724:Addr)==724):=by w_on
theorem xA(P:Params):nsIn (Kx P) mainGlobals ("BytesIO":Str)=some (some (.ref 477)):=by w_on
theorem nE(P:Params):nsIn (Kx P) mainGlobals ("StringIO":Str)=some (some (.ref 724)):=by w_on
theorem B7(P:Params):nsIn (Kx P) mainGlobals ("object":Str)=some none:=by w_on
theorem Hw(P:Params):nZ (Kx P) 724=true:=by w_on
theorem Da(P:Params)(S:Setting):peek (Kx P) S (Bind.madeBy (.ref 724))=some none:=by w_on
theorem Ci(P:Params):readsIn (Kx P) 724 (.type "type")=true:=by w_on
noncomputable def Ht(P:Params):Addr:=match findIn (Kx P) (.ref 724) "__new__" with|some (some (.ref p))=>p|_=>0
theorem H7(P:Params):∃p rest,findCls (Kx P) (.ref 724) (.type "type") "__new__"=some (.get (.builtin "staticmethod.__get__") (.ref p) .none (.ref 724))∧recIn (Kx P) p "staticmethod"=some (.ref 217::rest):=cH (Ht P) (match recIn (Kx P) (Ht P) "staticmethod" with|some (_::r)=>r|_=>[]) (by w_on) (by w_on)
theorem DM(P:Params):findIn (Kx P) (.ref 724) "__init__"=some (some (.ref 494)):=by w_on
theorem HX(P:Params):findIn (Kx P) (.ref 724) "_StringIO__translated"=some (some (.ref 501)):=by w_on
theorem Hf(P:Params):typeIn (Kx P) (.ref 494)=some (.type "function"):=by w_on
theorem yE:bootBuiltins ("object":Str)=some (.type "object"):=PyProof.Rows.Boot.object
theorem oU{fs rest:List AV}{nm nm2:Str}(O:c.Ok)
  (hp:∀(ρ:Nat→Addr)(n:Nat)(xs ys:List Value),cF ρ n fs xs→cF ρ n rest ys→∃b0,lV ρ n loc b0∧∀S D,kO c.K S D (bindArgs fd ⟨xs++ys,[]⟩)=some ([{cls:=.type "tuple",data:=.seq ys.toArray},emptyDict],b0++[(nm,.ref D)]++[(nm2,.ref (D+1))])):
  iW c fd (fs++rest) [] H (loc++[(nm,.obj H.length)]++[(nm2,.obj (H.length+1))]) (H++[.tuple rest]++[.dict []]):= λρ s xs ks hr hx hk=>by
 refine ct (pG hx) λx1 x2 z0 v1 v2=>?_;subst z0
 cases hk
 refine aj (hp ρ H.length x1 x2 v1 v2) λb0 kb hpk=>?_
 have hst:aM c ρ H.length (λ_=>False) s _ _ _:=cY ({cls:=.type "tuple",data:=.seq x2.toArray}:Obj) s.toks
 have hr1:=hr.alloc (ao:=.tuple rest) (ob:={cls:=.type "tuple",data:=.seq x2.toArray}) rfl (cH x2 _ rfl (v2.step hst))
 have hst2:aM c (gj ρ H.length s.heap.objs.size) (H.length+1) (λ_=>False) {s with heap:=s.heap.push {cls:=.type "tuple",data:=.seq x2.toArray}} _ _ _:=cY emptyDict s.toks
 have hr2:=hr1.alloc (ao:=.dict []) (ob:=emptyDict) rfl (cH [] _ rfl .nil)
 have l:(H++[AO.tuple rest]).length=H.length+1:=by simp
 have l2:(H++[AO.tuple rest]++[AO.dict []]).length=H.length+1+1:=by simp
 rw[l]at hr2
 refine cG _ ({s with heap:=(s.heap.push {cls:=.type "tuple",data:=.seq x2.toArray}).push emptyDict}) (b0++[(nm,.ref s.heap.objs.size)]++[(nm2,.ref (s.heap.objs.size+1))]) (λM A' E Q e1 e2 hq=>?_) hr2 ⟨rfl,rfl⟩ (by rw[l2];exact hst.trans hst2) ?_
 ·exact hW _ s _ (hr.X O) (hpk _ _) hq
 ·rw[l2]
  refine oE (oE (kb.mono (hst.trans hst2).ag (hst.trans hst2).le) ⟨by lia,?_⟩) ⟨by lia,?_⟩
  ·rw[bc (Zb _),aF]
  ·rw[aF,Zo]
noncomputable def Eh:Fs:=⟨vM,[]⟩
theorem jz:Eh.scope.kind=.function:=by w_on
noncomputable def Hj(n:Nat):List (Str×AV):=[("cls",.val (.ref 724)),("args",.obj n),("kwargs",.obj (n+1))]
theorem Cd(G:c.Go):Fn c (k+1) (.ref 217) [.val (.ref 724),.str x] [] H (.obj (H.length+3)) (H++[.tuple [.str x]]++[.dict []]++[.dict [],.inst 724 (H.length+2)]):=by
 have O:=G.ok
 have bd:iW c (dw c.w.params 217) [.val (.ref 724),.str x] [] H (Hj H.length) (H++[.tuple [.str x]]++[.dict []]):=by
  refine oU (fs:=[.val (.ref 724)]) (rest:=[.str x]) (loc:=[("cls",.val (.ref 724))]) (nm:="args") (nm2:="kwargs") O λρ n xs ys hx hy=>?_
  refine lL hx λ_ hx=>?_
  cases hy with
  |cons hy ht=>
   cases ht
   refine al [("cls",_)] (.cons hx .nil) λS D=>?_
   rw[G.hK]
   exact zI _ _ _ _ _
 refine qC (fl:=.ret (.obj (H.length+3))) (loc:=Hj H.length) G (BI _) (by w_on) (by w_on) bd ?_
 ·apply aK (loc:=Hj H.length)
  k_dflt refine' ae (σ₁:=⟨Hj H.length,H++[.tuple [.str x]]++[.dict []]⟩) ?_ (bv ?_)
  ·exact aL (F:=Eh) (t:=false) (bu (av rfl (aa jz rfl rfl) (lZ O jz rfl (by rw[G.hK];exact xA _) (by decide)) (nV O rfl (by rw[G.hK];exact Hu _))) (bI (av rfl (aa jz rfl rfl) (lZ O jz rfl (by rw[G.hK];exact nE _) (by decide)) (nV O rfl (by rw[G.hK];exact IP _))))) ar
  ·have z:=yI (k:=k) (F:=Eh) (σ:=⟨Hj H.length,H++[.tuple [.str x]]++[.dict []]⟩) (C:=724) O (by rw[G.hK];exact CF _) (by rw[G.hK];exact DW _)
   have l:(H++[AO.tuple [.str x]]++[AO.dict []]).length=H.length+2:=by simp
   dsimp only at z
   rw[l]at z
   exact aX (F:=Eh) (ze O (λ_=>rfl) (λ_=>rfl) yJ yn (by rw[G.hK];exact yK _) yk (fJ O jz rfl (by rw[G.hK];exact B7 _) yE (by decide) (by decide)) (af λ_=>rfl) (am (λ_=>rfl) (aa jz rfl rfl) au) z)
theorem tU:cJ c F k (λxs=>call (.type "type") xs) [.str x] σ (.val (.type "str")) σ:= λA ρ s env Q E xs K r hx q=>by
 cases hx with
 |cons hx ht=>cases ht;refine bp hx ?_;clear hx;intro t z0;subst z0;exact call_type_of (typeIs_str s x t) (by decide) (q ρ s _ r .refl rfl)
noncomputable def AL:Fs:=⟨Aq,[]⟩
theorem jw:AL.scope.kind=.function:=by w_on
noncomputable def mO:Fs:=⟨tL,[]⟩
theorem cC:mO.scope.kind=.function:=by w_on
theorem Aw(P:Params):nsIn (Kx P) mainGlobals ("str":Str)=some none:=by w_on
theorem ue:bootBuiltins ("str":Str)=some (.type "str"):=PyProof.Rows.Boot.str
theorem EP(P:Params):findIn (Kx P) (.ref 724) "_StringIO__newline"=some none:=by w_on
theorem Bd(P:Params):findIn (Kx P) (.ref 724) "_StringIO__buf"=some none:=by w_on
theorem Ft(P:Params):findIn (Kx P) (.ref 724) "_StringIO__pos"=some none:=by w_on
theorem EC(G:c.Go)(hs:H[S]?=some (.inst 724 T))(ht:H[T]?=some (.dict es))(hn:es.lookup ("_StringIO__newline":Str)=some (.str "\n")):Fn c (k+1) (.ref 501) [.obj S,.str x] [] H (.str x) H:=by
 refine da (fl:=.ret (.str x)) (loc:=[("self",.obj S),("s",.str x)]) G (v8 _) (by w_on) (by w_on) (λρ m s xs ks X hx hk=>?_) ?_
 ·cases hx with
  |cons hx h2=>
   refine mx h2 hk λ_ h2=>?_
   refine al [("self",_),("s",_)] (@bC _ _ _ _ _ X ?_) (.cons hx (.cons h2 .nil))
   exact DZ _ _ _
 ·apply aK (loc:=[("self",.obj S),("s",.str x),("newline",.str "\n")])
  k_dflt refine' ae (σ₁:=⟨[("self",.obj S),("s",.str x),("newline",.str "\n")],H⟩) ?_ (ae (σ₁:=⟨[("self",.obj S),("s",.str x),("newline",.str "\n")],H⟩) ?_ (ae (σ₁:=⟨[("self",.obj S),("s",.str x),("newline",.str "\n")],H⟩) ?_ (bv ?_)))
  ·exact aw (F:=AL) jw rfl (λ_=>rfl) (bE (λ_=>by k_dflt rfl) (aa jw rfl rfl) (bY G (eK _) hs ht hn rfl (EP _)))
  ·exact aL (F:=AL) (t:=false) (av rfl (aa jw rfl rfl) bx (bQ rfl)) ar
  ·exact aL (F:=AL) (t:=false) (d9 (av rfl (aa jw rfl rfl) bn (ek (by decide))) (d9 (av rfl (aa jw rfl rfl) bn (ek (by decide))) jk)) ar
  ·exact aX (F:=AL) (aa jw rfl rfl)
noncomputable def yD(S:Nat)(x:Str):List (Str×AV):=[("self",.obj S),("initial_value",.str x),("newline",.str "\n")]
noncomputable def Jg:List (Str×AV):=[("_StringIO__newline",.str "\n")]
noncomputable def Ja:List (Str×AV):=[("_StringIO__newline",.str "\n"),("_StringIO__buf",.str "")]
theorem xX(G:c.Go)(hs:H[S]?=some (.inst 724 T))(ht:H[T]?=some (.dict []))(hne:S≠T):Fn c (k+2) (.ref 494) [.obj S,.str x] [] H .none (H.set T (.dict (vm x 0))):=by
 have tl:=aq ht
 have at1:∀es:List (Str×AV),(H.set T (.dict es))[S]?=some (.inst 724 T):= λes=>ak hs hne
 have at2:∀es:List (Str×AV),(H.set T (.dict es))[T]?=some (.dict es):= λes=>zT tl
 have ss:∀es es':List (Str×AV),(H.set T (.dict es)).set T (.dict es')=H.set T (.dict es'):= λes es'=>Zj ..
 have se:∀(σ:St)(v:AV)(name:Str)(es:List (Str×AV)),σ.H=H.set T (.dict es)→es.length<1000→findIn (Kx c.w.params) (.ref 724) name=some none→wg c mO (k+1) (λx y=>setAttr x name y) (.obj S) v σ (λ_ _=>True) ⟨σ.loc,H.set T (.dict (aS name v es))⟩:= λσ v name es e hz ha=>by
  have z:=cI (k:=k+1) (F:=mO) (σ:=σ) (v:=v) (name:=name) G (eK _) (by rw[e];exact at1 es) (by rw[e];exact at2 es) hz ha
  rw[e,ss]at z
  exact z
 refine da (fl:=.next) (loc:=yD S x) G (xE _) (by w_on) (by w_on) (λρ m s xs ks X hx hk=>?_) ?_
 ·cases hx with
  |cons hx h2=>
   refine mx h2 hk λ_ h2=>?_
   refine al [("self",_),("initial_value",_),("newline",_)] (@bC _ _ _ _ _ X ?_) (.cons hx (.cons h2 (.cons ⟨EQ c.w.params 494 1,rfl⟩ .nil)))
   exact yc _ _ _
 ·apply aK (loc:=yD S x)
  k_dflt refine' ae (σ₁:=⟨yD S x,H⟩) ?_ (ae (σ₁:=⟨yD S x,H⟩) ?_ (ae (σ₁:=⟨yD S x,H⟩) ?_ (ae (σ₁:=⟨yD S x,H.set T (.dict Jg)⟩) ?_ (ae (σ₁:=⟨yD S x,H.set T (.dict Ja)⟩) ?_ (ae (σ₁:=⟨yD S x,H.set T (.dict (vm "" 0))⟩) ?_ (ae (σ₁:=⟨yD S x,H.set T (.dict (vm x 0))⟩) ?_ ar))))))
  ·exact aL (F:=mO) (t:=false) (bu (av rfl (aa cC rfl rfl) bx (bU rfl)) (bI (av rfl (cP (λ_=>rfl) (λ_=>rfl) (fJ G.ok cC rfl (by rw[G.hK];exact uB _) qh (by decide) (by decide)) (af λ_=>rfl) (am (λ_=>rfl) (aa cC rfl rfl) au) tU) (fJ G.ok cC rfl (by rw[G.hK];exact Aw _) ue (by decide) (by decide)) (ja (by decide))))) ar
  ·exact aL (F:=mO) (t:=false) (bu (av rfl (aa cC rfl rfl) bx (bU rfl)) (bu (av rfl (aa cC rfl rfl) bn (we (by decide))) (bI (av rfl (aa cC rfl rfl) bn (we (by decide)))))) ar
  ·exact aL (F:=mO) (t:=false) (bu (av rfl (aa cC rfl rfl) bx (bU rfl)) (bI (av rfl (cP (λ_=>rfl) (λ_=>rfl) (fJ G.ok cC rfl (by rw[G.hK];exact uB _) qh (by decide) (by decide)) (af λ_=>rfl) (am (λ_=>rfl) (aa cC rfl rfl) au) tU) (fJ G.ok cC rfl (by rw[G.hK];exact Aw _) ue (by decide) (by decide)) (ja (by decide))))) ar
  ·refine aQ (F:=mO) (λ_=>rfl) (aa cC rfl rfl) (aa cC rfl rfl) ?_
   exact cI (k:=k+1) (F:=mO) (σ:=⟨yD S x,H⟩) (v:=.str "\n") (name:="_StringIO__newline") G (eK _) hs ht (by decide) (EP _)
  ·exact aQ (F:=mO) (λ_=>rfl) bn (aa cC rfl rfl) (se ⟨yD S x,H.set T (.dict Jg)⟩ _ _ Jg rfl (by decide) (Bd _))
  ·exact aQ (F:=mO) (λ_=>rfl) aJ (aa cC rfl rfl) (se ⟨yD S x,H.set T (.dict Ja)⟩ _ _ Ja rfl (by decide) (Ft _))
  ·refine aL (F:=mO) (t:=true) (av rfl (aa cC rfl rfl) bx (bU rfl)) (aU ?_)
   exact aQ (F:=mO) (λ_=>rfl) (gw G (v8 _) (eK _) (λ_=>rfl) (aa cC rfl rfl) (at1 _) (at2 _) rfl (HX _) (af λ_=>rfl) (am (λ_=>rfl) (aa cC rfl rfl) au) (EC G (at1 _) (at2 _) rfl)) (aa cC rfl rfl) (se ⟨yD S x,H.set T (.dict (vm "" 0))⟩ _ _ (vm "" 0) rfl (by show 3<1000;decide) (Bd _))
theorem cu{f:Value}{first:List Value}{args:List (Bool×Sem Value)}{kws:List (Option Str×Sem Value)}
  (h:wpAny M A (evalArgs f true args kws) (λa s₁=>(∃kp,Looks M s₁.heap (keeperOf f) kp)∧wpAny M A (call f (first++a.pos) a.kw) Q E s₁) E s):wpAny M A (callWith pos f first args kws) Q E s:=by
 unfold callWith
 refine YC (YF (YE h (λa s₁ h₁=>YC (YG ?_)) λ_ _ x=>x))
 refine aO h₁ λz0 hc=>bp z0 λkp L=>?_
 have tail:∀{t:Sem Value},wpAny M A t Q E s₁→wpAny M A (t >>= λr=>holding [r] point >>= λ_=>pure r) Q E s₁:=
  λht=>YC (YE ht (λr s₂ hr=>YC (YF (wpAny_point (YD hr)))) λ_ _ x=>x)
 have marked (mk:Value):wpAny M A (callMarked mk f (first++a.pos) a.kw) Q E s₁:=by unfold callMarked;exact Calls.wpAny_keep hc
 refine YC (L.here ?_)
 cases hs:(args.any (·.1)||kws.any (·.1.isNone))<;>cases kp<;>dsimp only
 all_goals first
  |exact tail hc
  |exact tail (marked _)
  |exact tail (wpAny_operating hc)
  |(split<;>first|exact tail hc|exact tail (marked _))
noncomputable abbrev Ik(c:Cx)(F:Fs)(k:Nat)(f:Value)(pos:Pos)(args:List Expr)(kws:List Keyword)(σ:St)(vs:List AV)(kvs:List (Str×AV))(σ':St):Prop:=
 De c F k (λenv=>evalArgs f true (backTo pos (starEach args env)) (backToKw pos (keywordEach kws env))) σ (λρ a=>cF ρ σ'.H.length vs a.pos∧lV ρ σ'.H.length kvs a.kw) σ'
theorem gF{f:Value}{args:List Expr}(ha:c9 c f pos args)(h:Ag c F k pos args σ vs σ₁):Ik c F k f pos args [] σ vs [] σ₁:= λA ρ s env Q E K r q=>
 ha A env _ E s (h A ρ s env _ E K r λρ1 s1 xs r1 st1 vx=>q ρ1 s1 _ r1 st1 ⟨vx,.nil⟩)
theorem Du{f:Value}{rest:List Expr}{n:Str}{e₂:Expr}{kp:Pos}(he:∀env,starEach (e::rest) env=(false,eval e env)::starEach rest env)(hk:∀env,backToKw pos (keywordEach [⟨some n,e₂,kp⟩] env)=[(some n,do let v←eval e₂ env;standAt pos;pure v)])
  (h:Ag c F k pos (e::rest) σ vs σ₁)(h2:Ev c F k e₂ σ₁ a σ₂):Ik c F k f pos (e::rest) [⟨some n,e₂,kp⟩] σ vs [(n,a)] σ₂:= λA ρ s env Q E K r q=>by
 have h':=h A ρ s env (λxs s1=>wpAny c.M A (evalAll [do let v←eval e₂ env;standAt pos;pure v]) (λks s₂=>Q ⟨xs,[n].zip ks⟩ s₂) E s1) E K r λρ1 s1 xs r1 st1 vx=>wpAny_evalAll_cons (YC (h2 A ρ1 s1 env _ E K r1 λρ2 s2 y r2 st2 vy=>YC (YG (YD (wpAny_evalAll_nil (q ρ2 s2 _ r2 (st1.trans st2) ⟨st2.vrs vx,.cons vy .nil⟩))))))
 show wpAny c.M A (evalArgs f true (backTo pos (starEach (e::rest) env)) (backToKw pos (keywordEach [⟨some n,e₂,kp⟩] env))) Q E s
 rw[hk env]
 dsimp only at h'
 rw[he env]at h' ⊢
 exact evalArgs_kw rfl h'
theorem fS{f:Value}{args:List Expr}{kws:List Keyword}{kvs:List (Str×AV)}(O:c.Ok)
  (he:∀env,eval (.Call func args kws pos) env=(do callWith pos (←eval func env) [] (backTo pos (starEach args env)) (backToKw pos (keywordEach kws env))))
  (h0:Ev c F k func σ (.val f) σ₁)(hkp:∃kp,∀S,peek c.K S (keeperOf f)=some kp)(h1:Ik c F k f pos args kws σ₁ vs kvs σ₂)(h2:Fn c k f vs kvs σ₂.H v H'):Ev c F k (.Call func args kws pos) σ v ⟨σ₂.loc,H'⟩:= λA ρ s env Q E K r h=>by
 rw[he env]
 refine YC (h0 A ρ s env _ E K r λρ1 s1 x r1 st1 vx=>?_)
 subst vx
 refine cu (h1 A ρ1 s1 env _ E K r1 λρ2 s2 a r2 st2 va=>⟨?_,?_⟩)
 ·refine bp hkp λkp e=>?_
  exact⟨kp,Looks.of_peek (r2.X O) (e _)⟩
 ·refine wpAny_call (h2 A ρ2 s2 a.pos a.kw _ K r2.hr r2.ge r2.sk va.1 va.2 λρ3 s3 x hr3 ge3 st3 vx3=>?_)
  refine aO (r2.after O hr3 ge3 st3) λr3 st3'=>?_
  exact h ρ3 s3 x r3 (st1.trans (st2.trans st3')) vx3
theorem Ii(P:Params)(S:Setting):peek (Kx P) S (keeperOf (.ref 724))=some .machine:=by w_on
theorem G3(P:Params)(S:Setting):peek (Kx P) S (keeperOf (.ref 859))=some .machine:=by w_on
noncomputable def AC(H:List AO)(x:Str)(a:AO):List AO:=H++[.tuple [.str x]]++[.dict []]++[a,.inst 724 (H.length+2)]
theorem vX(x:Str)(a:AO):(AC H x a)[H.length+3]?=some (.inst 724 (H.length+2)):=by
 unfold AC
 rw[zR (by simp)]
 simp
theorem w0(x:Str)(a:AO):(AC H x a)[H.length+2]?=some a:=by
 unfold AC
 rw[zR (by simp)]
 simp
theorem Dn(x:Str)(a b:AO):(AC H x a).set (H.length+2) b=AC H x b:=by
 unfold AC
 rw[Zn _ _ (by simp)]
 simp
theorem Cm(G:c.Go):Fn c (k+3) (.ref 724) [.str x] [] H (.obj (H.length+3)) (AC H x (.dict (vm x 0))):=by
 refine ds (H7 c.w.params) λp rest e1 e2=>?_
 have z:=xX (k:=k) (x:=x) G (vX (H:=H) x (.dict [])) (w0 x (.dict [])) (by lia)
 rw[Dn]at z
 exact sW (H1:=AC H x (.dict [])) G.ok (by rw[G.hK];exact Hw _) (by rw[G.hK];exact Da _) (by rw[G.hK];exact Ci _) (by rw[G.hK];exact e1) (by rw[G.hK];exact e2) (by rw[G.hK];exact DM _) (by rw[G.hK];exact Hf _)
  (Cd (k:=k+1) G) (vX x (.dict [])) (w0 x (.dict [])) z
theorem Fa:cJ c F k (λxs=>call (.type "collections.deque") xs) [] σ (.obj σ.H.length) ⟨σ.loc,σ.H++[.fix kN]⟩:= λA ρ s env Q E xs K r hx q=>by
 cases hx
 refine aO (r.alloc (ao:=.fix kN) (ob:=kN) s.toks rfl rfl) λr1 st1=>?_
 exact DV (q _ _ _ r1 st1 ⟨by simp,by rw[aF]⟩)
theorem vC:cJ c F k (λxs=>call (.builtin "isinstance") xs) [.str x,.val (.type "str")] σ (.bool true) σ:= λA ρ s env Q E xs K r hx q=>by
 cases hx with
 |cons h1 h2=>
  cases h2 with
  |cons h2 h3=>
   cases h3;refine bp h1 ?_;clear h1;intro t z0;subst z0;cases h2
   exact IsiPair.str_str (q ρ s _ r .refl rfl)
noncomputable def iA:Fs:=⟨BH,[]⟩
theorem cq:iA.scope.kind=.function:=by w_on
theorem xY(P:Params)(x y z:Value)(S:Setting):peek (Kx P) S (bindArgs (dw P 783) ⟨[x,y],[(("posix":Str),z)]⟩)=some [(("self":Str),x),(("instream":Str),y),(("infile":Str),.none),(("posix":Str),z),(("punctuation_chars":Str),.bool false)]:=by w_on
theorem wO(P:Params):nsIn (Kx P) mainGlobals ("deque":Str)=some (some (.type "collections.deque")):=by w_on
theorem zE(P:Params):nsIn (Kx P) mainGlobals ("isinstance":Str)=some none:=by w_on
theorem yv:bootBuiltins ("isinstance":Str)=some (.builtin "isinstance"):=PyProof.Rows.Boot.isinstance
noncomputable def W0:Str:=Ib (vD vd 5)
noncomputable def W1:Str:=Ib (vD (d7 vd 6) 0)
noncomputable def WW:Str:=W0++W1
noncomputable def Db(W:Str)(ii pb fs:Nat):List (Str×AV):=
 [("instream",.obj ii),("infile",.none),("posix",.bool true),("eof",.none),("commenters",.str "#"),("wordchars",.str W),("whitespace",.str " \t\r\n"),("whitespace_split",.bool false),("quotes",.str "'\""),("escape",.str "\\"),("escapedquotes",.str "\""),
  ("state",.str " "),("pushback",.obj pb),("lineno",.int 1),("debug",.int 0),("token",.str ""),("filestack",.obj fs),("source",.none),("_punctuation_chars",.str "")]
noncomputable def mN(n:Nat)(x:Str):List AO:=[.tuple [.str x],.dict [],.dict (vm x 0),.inst 724 (n+2)]
theorem Gu(x:Str):AC H x (.dict (vm x 0))=H++mN H.length x:=by simp[AC,mN]
noncomputable def lP(L:Nat)(i:AV)(pc:AV):List (Str×AV):=[("self",.obj L),("instream",i),("infile",.none),("posix",.bool true),("punctuation_chars",pc)]
theorem iF(G:c.Go)(hl:H[L]?=some (.inst 859 D))(hne:L≠D)(hd:D<H.length){X X':List AO}(hs:l.lookup ("self":Str)=some (.obj L))(hz:es.length<1000)(ha:dA.contains name=true)
  (hsw:∀env,swapsWith e (some (.Attribute (.Name "self" p1) name p2)) p3.line env=pure false)(h:Ev c iA k e ⟨l,H.set D (.dict es)++X⟩ v ⟨l,H.set D (.dict es)++X'⟩):
  Ex c iA k (.Assign [.Attribute (.Name "self" p1) name p2] e p3) ⟨l,H.set D (.dict es)++X⟩ .next ⟨l,H.set D (.dict (aS name v es))++X'⟩:=by
 refine aQ hsw h (aa cq rfl hs) ?_
 have ll:=aq hl
 have z:=cI (k:=k) (F:=iA) (σ:=⟨l,H.set D (.dict es)++X'⟩) (v:=v) (name:=name) (i:=L) (d:=D) (es:=es) G (bZ _)
  (by show(H.set D (.dict es)++X')[L]?=_;rw[zL (by simpa using ll),zN (Ne.symm hne)];exact hl)
  (by show(H.set D (.dict es)++X')[D]?=_;rw[zL (by simpa using hd)];exact zT hd) hz (c8 _ ha)
 dsimp only at z
 rw[Za _ _ (by simpa using hd),Zj]at z
 exact z
theorem I7(G:c.Go)(hl:H[L]?=some (.inst 859 D))(hne:L≠D)(hd:D<H.length){X:List AO}(hs:l.lookup ("self":Str)=some (.obj L))(ha:dA.contains name=true)(hv:es.lookup name=some v)(hh:v.handed=true):
  Ev c iA k (.Attribute (.Name "self" p1) name p2) ⟨l,H.set D (.dict es)++X⟩ v ⟨l,H.set D (.dict es)++X⟩:=by
 have ll:=aq hl
 exact bE (λ_=>by k_dflt rfl) (aa cq rfl hs) (bY (i:=L) (d:=D) (es:=es) G (bZ _)
  (by show(H.set D (.dict es)++X)[L]?=_;rw[zL (by simpa using ll),zN (Ne.symm hne)];exact hl)
  (by show(H.set D (.dict es)++X)[D]?=_;rw[zL (by simpa using hd)];exact zT hd) hv hh (c8 _ ha))
theorem Jy(G:c.Go)(hl:H[L]?=some (.inst 859 D))(hne:L≠D)(hd:D<H.length){X:List AO}(hz:es.length<1000)(ha:dA.contains name=true):
  wg c iA k (λx y=>setAttr x name y) (.obj L) v ⟨l,H.set D (.dict es)++X⟩ (λ_ _=>True) ⟨l,H.set D (.dict (aS name v es))++X⟩:=by
 have ll:=aq hl
 have z:=cI (k:=k) (F:=iA) (σ:=⟨l,H.set D (.dict es)++X⟩) (v:=v) (name:=name) (i:=L) (d:=D) (es:=es) G (bZ _)
  (by show(H.set D (.dict es)++X)[L]?=_;rw[zL (by simpa using ll),zN (Ne.symm hne)];exact hl)
  (by show(H.set D (.dict es)++X)[D]?=_;rw[zL (by simpa using hd)];exact zT hd) hz (c8 _ ha)
 dsimp only at z
 rw[Za _ _ (by simpa using hd),Zj]at z
 exact z
theorem Jd(G:c.Go)(hl:H[L]?=some (.inst 859 D))(hne:L≠D)(hd:D<H.length){X:List AO}(ha:dA.contains name=true)(hv:es.lookup name=some v)(hh:v.handed=true):
  oO c iA k (λx=>getAttr x name ex) (.obj L) ⟨l,H.set D (.dict es)++X⟩ v ⟨l,H.set D (.dict es)++X⟩:=by
 have ll:=aq hl
 exact bY (i:=L) (d:=D) (es:=es) G (bZ _)
  (by show(H.set D (.dict es)++X)[L]?=_;rw[zL (by simpa using ll),zN (Ne.symm hne)];exact hl)
  (by show(H.set D (.dict es)++X)[D]?=_;rw[zL (by simpa using hd)];exact zT hd) hv hh (c8 _ ha)
noncomputable def lx(i:Nat)(W:Str)(n:Nat):List (Str×AV):=(Db W (n+3) (n+4) (n+5)).take i
noncomputable def lM(H:List AO)(D i:Nat)(W:Str)(X:List AO):List AO:=H.set D (.dict (lx i W H.length))++X
noncomputable def Fm(n:Nat)(x:Str):List AO:=mN n x++[.fix kN]
noncomputable def yQ(n:Nat)(x:Str):List AO:=mN n x++[.fix kN]++[.fix kN]
theorem Hy:(W0++W1).length≤sizeLine:=by decide+kernel
theorem IF:W0.length=0→W0++W1=W1:= λh=>absurd h (by decide+kernel)
theorem IB:W1.length=0→W0++W1=W0:= λh=>absurd h (by decide+kernel)
set_option maxHeartbeats 1000000 in
theorem yi(G:c.Go)(hl:H[L]?=some (.inst 859 D))(hne:L≠D)(hd:H[D]?=some (.dict [])):
  Fn c (k+4) (.ref 783) [.obj L,.str x] [("posix",.bool true)] H .none (lM H D 19 WW (yQ H.length x)):=by
 have O:=G.ok
 have dl:=aq hd
 have H0:H=H.set D (.dict [])++[]:=by
  refine bp (zS.mp hd) λq1 q2=>?_
  rw[List.append_nil,←q2];exact(Z8 q1).symm
 have ln:(H.set D (AO.dict (lx 12 WW H.length))++mN H.length x).length=H.length+4:=by simp[mN]
 have ln2:(H.set D (AO.dict (lx 16 WW H.length))++Fm H.length x).length=H.length+5:=by simp[mN,Fm]
 have es0:∀i W,(lx i W H.length).length<1000:= λi W=>by
  unfold lx;rw[List.length_take]
  have:(Db W (H.length+3) (H.length+4) (H.length+5)).length=19:=rfl
  lia
 refine da (fl:=.next) (loc:=lP L (.str x) (.bool false)) G (Ei _) (by w_on) (by w_on) (λρ m s xs ks X hx hk=>?_) ?_
 ·cases hx with
  |cons hx h2=>
   refine lL h2 λ_ h2=>?_
   cases hk with
   |cons hk h4=>
    cases h4
    refine al [("self",_),("instream",_),("infile",_),("posix",_),("punctuation_chars",_)] (@bC _ _ _ _ _ X ?_) (.cons hx (.cons h2 (.cons rfl (.cons hk (.cons rfl .nil)))))
    exact xY _ _ _ _
 ·apply aK (loc:=lP L (.obj (H.length+3)) (.str ""))
  k_dflt refine' ae (σ₁:=⟨lP L (.obj (H.length+3)) (.bool false),lM H D 0 W0 (mN H.length x)⟩) ?_ (ae (σ₁:=⟨lP L (.obj (H.length+3)) (.bool false),lM H D 2 W0 (mN H.length x)⟩) ?_
   (ae (σ₁:=⟨lP L (.obj (H.length+3)) (.bool false),lM H D 3 W0 (mN H.length x)⟩) ?_ (ae (σ₁:=⟨lP L (.obj (H.length+3)) (.bool false),lM H D 4 W0 (mN H.length x)⟩) ?_
   (ae (σ₁:=⟨lP L (.obj (H.length+3)) (.bool false),lM H D 5 W0 (mN H.length x)⟩) ?_ (ae (σ₁:=⟨lP L (.obj (H.length+3)) (.bool false),lM H D 6 W0 (mN H.length x)⟩) ?_
   (ae (σ₁:=⟨lP L (.obj (H.length+3)) (.bool false),lM H D 6 WW (mN H.length x)⟩) ?_ (ae (σ₁:=⟨lP L (.obj (H.length+3)) (.bool false),lM H D 7 WW (mN H.length x)⟩) ?_
   (ae (σ₁:=⟨lP L (.obj (H.length+3)) (.bool false),lM H D 8 WW (mN H.length x)⟩) ?_ (ae (σ₁:=⟨lP L (.obj (H.length+3)) (.bool false),lM H D 9 WW (mN H.length x)⟩) ?_
   (ae (σ₁:=⟨lP L (.obj (H.length+3)) (.bool false),lM H D 10 WW (mN H.length x)⟩) ?_ (ae (σ₁:=⟨lP L (.obj (H.length+3)) (.bool false),lM H D 11 WW (mN H.length x)⟩) ?_
   (ae (σ₁:=⟨lP L (.obj (H.length+3)) (.bool false),lM H D 12 WW (mN H.length x)⟩) ?_ (ae (σ₁:=⟨lP L (.obj (H.length+3)) (.bool false),lM H D 13 WW (Fm H.length x)⟩) ?_
   (ae (σ₁:=⟨lP L (.obj (H.length+3)) (.bool false),lM H D 14 WW (Fm H.length x)⟩) ?_ (ae (σ₁:=⟨lP L (.obj (H.length+3)) (.bool false),lM H D 15 WW (Fm H.length x)⟩) ?_
   (ae (σ₁:=⟨lP L (.obj (H.length+3)) (.bool false),lM H D 16 WW (Fm H.length x)⟩) ?_ (ae (σ₁:=⟨lP L (.obj (H.length+3)) (.bool false),lM H D 17 WW (yQ H.length x)⟩) ?_
   (ae (σ₁:=⟨lP L (.obj (H.length+3)) (.bool false),lM H D 18 WW (yQ H.length x)⟩) ?_ (ae (σ₁:=⟨lP L (.obj (H.length+3)) (.str ""),lM H D 18 WW (yQ H.length x)⟩) ?_
   (ae (σ₁:=⟨lP L (.obj (H.length+3)) (.str ""),lM H D 19 WW (yQ H.length x)⟩) ?_ (ae (σ₁:=⟨lP L (.obj (H.length+3)) (.str ""),lM H D 19 WW (yQ H.length x)⟩) ?_ ar)))))))))))))))))))))
  ·have z:=Cm (k:=k) (H:=H) (x:=x) G
   rw[Gu]at z
   have e0:lM H D 0 W0 (mN H.length x)=H++mN H.length x:=by
    show H.set D (.dict [])++_=_
    rw[List.append_nil]at H0;rw[←H0]
   rw[e0]
   refine aL (F:=iA) (t:=true) (bP (λ_ _=>rfl) (dB (λ_=>rfl) (λ_=>rfl) (dg G cq rfl (zE _) yv) (af λ_=>rfl) (am (λ_=>rfl) (aa cq rfl rfl) (am (λ_=>rfl) (dg G cq rfl (Aw _) ue) au)) vC) bG) (aU ?_)
   exact aw (F:=iA) cq rfl (λ_=>rfl) (fS O (λ_=>rfl) (dp G cq rfl (nE _)) ⟨_,by rw[G.hK];exact Ii _⟩ (gF (af λ_=>rfl) (am (λ_=>rfl) (aa cq rfl rfl) au)) z)
  ·refine aL (F:=iA) (t:=true) (av rfl (aa cq rfl rfl) bx (bU rfl)) (ae (σ₁:=⟨lP L (.obj (H.length+3)) (.bool false),lM H D 1 W0 (mN H.length x)⟩) ?_ (aU ?_))
   ·exact iF G hl hne dl rfl (es0 0 W0) (by decide) (λ_=>rfl) (aa cq rfl rfl)
   ·exact iF G hl hne dl rfl (es0 1 W0) (by decide) (λ_=>rfl) (aa cq rfl rfl)
  ·exact iF G hl hne dl rfl (es0 2 W0) (by decide) (λ_=>rfl) (aa cq rfl rfl)
  ·exact aL (F:=iA) (t:=true) (bP (λ_ _=>rfl) (aa cq rfl rfl) bG) (aU (iF G hl hne dl rfl (es0 3 W0) (by decide) (λ_=>rfl) bx))
  ·exact iF G hl hne dl rfl (es0 4 W0) (by decide) (λ_=>rfl) bn
  ·exact iF G hl hne dl rfl (es0 5 W0) (by decide) (λ_=>rfl) bn
  ·refine aL (F:=iA) (t:=true) (bP (λ_ _=>rfl) (I7 G hl hne dl rfl (by decide) rfl rfl) bG) (aU ?_)
   exact eM (F:=iA) (aa cq rfl rfl) (Jd G hl hne dl (by decide) rfl rfl) bn (pf (x:=W0) (y:=W1) Hy IF IB) (Jy G hl hne dl (es0 6 W0) (by decide))
  ·exact iF G hl hne dl rfl (es0 6 WW) (by decide) (λ_=>rfl) bn
  ·exact iF G hl hne dl rfl (es0 7 WW) (by decide) (λ_=>rfl) gJ
  ·exact iF G hl hne dl rfl (es0 8 WW) (by decide) (λ_=>rfl) bn
  ·exact iF G hl hne dl rfl (es0 9 WW) (by decide) (λ_=>rfl) bn
  ·exact iF G hl hne dl rfl (es0 10 WW) (by decide) (λ_=>rfl) bn
  ·exact iF G hl hne dl rfl (es0 11 WW) (by decide) (λ_=>rfl) bn
  ·have z:=Fa (c:=c) (F:=iA) (k:=k+3) (σ:=⟨lP L (.obj (H.length+3)) (.bool false),H.set D (AO.dict (lx 12 WW H.length))++mN H.length x⟩)
   dsimp only at z
   rw[ln,List.append_assoc]at z
   exact iF G hl hne dl rfl (es0 12 WW) (by decide) (λ_=>rfl) (cP (λ_=>rfl) (λ_=>rfl) (dp G cq rfl (wO _)) aV au z)
  ·exact iF G hl hne dl rfl (es0 13 WW) (by decide) (λ_=>rfl) aJ
  ·exact iF G hl hne dl rfl (es0 14 WW) (by decide) (λ_=>rfl) aJ
  ·exact iF G hl hne dl rfl (es0 15 WW) (by decide) (λ_=>rfl) bn
  ·have z:=Fa (c:=c) (F:=iA) (k:=k+3) (σ:=⟨lP L (.obj (H.length+3)) (.bool false),H.set D (AO.dict (lx 16 WW H.length))++Fm H.length x⟩)
   dsimp only at z
   rw[ln2,List.append_assoc]at z
   exact iF G hl hne dl rfl (es0 16 WW) (by decide) (λ_=>rfl) (cP (λ_=>rfl) (λ_=>rfl) (dp G cq rfl (wO _)) aV au z)
  ·exact iF G hl hne dl rfl (es0 17 WW) (by decide) (λ_=>rfl) bx
  ·exact aL (F:=iA) (t:=true) (sQ (bP (λ_ _=>rfl) (aa cq rfl rfl) bG)) (aU (aw (F:=iA) cq rfl (λ_=>rfl) bn))
  ·exact iF G hl hne dl rfl (es0 18 WW) (by decide) (λ_=>rfl) (aa cq rfl rfl)
  ·exact aL (F:=iA) (t:=false) (bP (λ_ _=>rfl) (aa cq rfl rfl) (dX (by decide) (by decide))) ar
inductive Rd(W buf:Str):Int→List Str→Prop where
 |last {p:Int} {cs:List Str} {tok:Str} {q:Bool} (ht:jO W " " "" false cs "a" tok q) (hs:jT buf p cs) (he:(buf.length:Int)=p+cs.length) (h0:tok.length≠0):Rd W buf p [tok]
 |more {p:Int} {cs:List Str} {tok:Str} {q:Bool} {toks:List Str} (ht:jO W " " "" false cs "a" tok q) (hs:jT buf p (cs++[(" ":Str)])) (h0:tok.length≠0) (h2:tok.length<2 ^ 20) (r:Rd W buf (p+cs.length+1) toks):Rd W buf p (tok::toks)
section
variable{p:Int}
theorem Lx.other(x:Lx H L D S T W pb fs st tok buf p)(a:AO)(h1:J≠L)(h2:J≠D)(h3:J≠S)(h4:J≠T):Lx (H.set J a) L D S T W pb fs st tok buf p:=
 ⟨ak x.l (Ne.symm h1),ak x.d (Ne.symm h2),ak x.s (Ne.symm h3),ak x.t (Ne.symm h4),x.lt,x.dt,x.st,x.ld,x.sd⟩
theorem mC(h1:i≠D)(h2:i≠T):(nx H D S T W pb fs buf st tok p)[i]?=H[i]?:=by
 unfold nx
 rw[zN (Ne.symm h1),zN (Ne.symm h2)]
theorem Aa:(nx H D S T W pb fs buf st tok p).length=H.length:=by unfold nx;simp
theorem z6(hrz:c.rz=true)(G:c.Go)(hz:buf.length<2 ^ 20){toks:List Str}(h:Rd W buf p toks):∀{H:List AO}{acc:List AV},Lx H L D S T W pb fs (.str " ") "" buf p→H[pb]?=some (.fix kN)→H[fs]?=some (.fix kN)→H[J]?=some (.list acc)→acc.length+toks.length<1000→
  J≠L→J≠D→J≠S→J≠T→pb≠D→pb≠T→fs≠D→fs≠T→J≠pb→J≠fs→
  ∃H',oH c (k+106) 859 856 L J H (toks.map .str) H'∧H'[J]?=some (.list (acc++toks.map .str))∧H'.length=H.length∧∀i,i≠J→i≠D→i≠T→H'[i]?=H[i]?:=by
 induction h with
 | @last p cs tok q ht hs he h0=>
  intro H acc x hpb hfs hj hlen jl jd js jt pd pt fd ft jp jf
  have x1:=x.nx .none "" (p+cs.length)
  have w:=lb (k:=k+100) G x (nr (k:=k+100) G x hpb (yC (k:=k+100) G hz x ht hs he h0) x1) x1
  have hj1:(nx H D S T W pb fs buf .none "" (p+cs.length))[J]?=some (.list acc):=by rw[mC jd jt];exact hj
  have jlen:=aq hj1
  have x2:=x1.other (J:=J) (.list (acc++[.str tok])) jl jd js jt
  have p2:((nx H D S T W pb fs buf .none "" (p+cs.length)).set J (.list (acc++[.str tok])))[pb]?=some (.fix kN):=by rw[zN jp,mC pd pt];exact hpb
  have f2:((nx H D S T W pb fs buf .none "" (p+cs.length)).set J (.list (acc++[.str tok])))[fs]?=some (.fix kN):=by rw[zN jf,mC fd ft];exact hfs
  have s2:=qB (k:=k) hrz G x2 (uq (k:=k+100) G x2 p2 f2 (vE (k:=k+100) G hz x2 (by lia)))
  refine gz _ (.more x.l x.d w hj1 (by simp at hlen;lia) (.stop x2.l x2.d s2)) (zT jlen) (by rw[Z4,Aa]) λi h1 h2 h3=>?_
  rw[zN (Ne.symm h1),mC h2 h3]
 | @more p cs tok q toks ht hs h0 h2 r ih=>
  intro H acc x hpb hfs hj hlen jl jd js jt pd pt fd ft jp jf
  have x1:=x.nx (.str " ") "" (p+cs.length+1)
  have w:=lb (k:=k+100) G x (nr (k:=k+100) G x hpb (sM (k:=k+100) G hz x ht hs h0 h2) x1) x1
  have hj1:(nx H D S T W pb fs buf (.str " ") "" (p+cs.length+1))[J]?=some (.list acc):=by rw[mC jd jt];exact hj
  have jlen:=aq hj1
  have x2:=x1.other (J:=J) (.list (acc++[.str tok])) jl jd js jt
  have p2:((nx H D S T W pb fs buf (.str " ") "" (p+cs.length+1)).set J (.list (acc++[.str tok])))[pb]?=some (.fix kN):=by rw[zN jp,mC pd pt];exact hpb
  have f2:((nx H D S T W pb fs buf (.str " ") "" (p+cs.length+1)).set J (.list (acc++[.str tok])))[fs]?=some (.fix kN):=by rw[zN jf,mC fd ft];exact hfs
  refine cv (ih (acc:=acc++[.str tok]) x2 p2 f2 (zT jlen) (by simp at hlen ⊢;lia) jl jd js jt pd pt fd ft jp jf) λH' d1 d2 d3 d4=>?_
  refine gz H' (.more x.l x.d w hj1 (by simp at hlen;lia) d1) (by rw[d2];simp) (by rw[d3,Z4,Aa]) λi h1 h2 h3=>?_
  rw[d4 i h1 h2 h3,zN (Ne.symm h1),mC h2 h3]
noncomputable def Iv:Fs:=⟨BF,[]⟩
theorem EI:Iv.scope.kind=.function:=by w_on
theorem Dt(P:Params)(x:Value)(S:Setting):peek (Kx P) S (bindArgs (dw P 849) ⟨[x],[]⟩)=some [(("self":Str),x)]:=by w_on
theorem Es(G:c.Go):Fn c (k+1) (.ref 849) [.obj L] [] H (.obj L) H:=by
 refine da (fl:=.ret (.obj L)) (loc:=[("self",.obj L)]) G (Dp _) (by w_on) (by w_on) (λρ m s xs ks X hx hk=>?_) ?_
 ·refine mx hx hk λ_ hx=>?_
  refine al [("self",_)] (@bC _ _ _ _ _ X ?_) (.cons hx .nil)
  exact Dt _ _
 ·apply aK (loc:=[("self",.obj L)])
  k_dflt refine' bv (aX (F:=Iv) (aa EI rfl rfl))
noncomputable def bW(H H':List AO):Prop:=∀(i:Nat)(o:AO),H[i]?=some o→H'[i]?=some o
theorem bW.refl:bW H H:= λ_ _ h=>h
theorem bW.trans{H'':List AO}(a:bW H H')(b:bW H' H''):bW H H'':= λi o h=>b i o (a i o h)
theorem bW.app{X:List AO}:bW H (H++X):= λi o h=>aB h
theorem bW.len(e:bW H H'):H.length≤H'.length:=by
 cases q:H.length with
 |zero=>exact Zl _
 |succ n=>
  have:=e n H[n] (zG (by lia))
  have:=aq this
  lia
noncomputable def DX:=d7 dP 31
noncomputable def vT:=jZ dP 31
theorem Bs(P:Params):dz P 871 DX vT:=by constructor<;>w_on
theorem AZ(P:Params)(x:Value)(S:Setting):peek (Kx P) S (bindArgs (dw P 871) ⟨[x],[]⟩)=some [(("s":Str),x),(("comments":Str),.bool false),(("posix":Str),.bool true)]:=by w_on
noncomputable def oS:Fs:=⟨vT,[]⟩
theorem fL:oS.scope.kind=.function:=by w_on
theorem Eg(P:Params):nsIn (Kx P) mainGlobals ("shlex":Str)=some (some (.ref 859)):=by w_on
theorem Gq(P:Params):nsIn (Kx P) mainGlobals ("list":Str)=some none:=by w_on
theorem CC:bootBuiltins ("list":Str)=some (.type "list"):=PyProof.Rows.Boot.list
theorem Cb(P:Params):makesIn (Kx P) 859=true:=by w_on
theorem Dk(P:Params):findIn (Kx P) (.ref 859) "__init__"=some (some (.ref 783)):=by w_on
theorem GY(P:Params):typeIn (Kx P) (.ref 783)=some (.type "function"):=by w_on
theorem Ey(P:Params):findIn (Kx P) (.ref 859) "__iter__"=some (some (.ref 849)):=by w_on
theorem C8(P:Params):findIn (Kx P) (.ref 859) "__next__"=some (some (.ref 856)):=by w_on
theorem FK(P:Params):findIn (Kx P) (.ref 859) "__len__"=some none:=by w_on
theorem Ed(P:Params):findIn (Kx P) (.ref 859) "__length_hint__"=some none:=by w_on
theorem Ee(P:Params):isFn (Kx P) (.ref 849)=true:=by w_on
theorem Cz(P:Params):isFn (Kx P) (.ref 856)=true:=by w_on
end
noncomputable def vI(H:List AO):List AO:=H++[.dict [],.inst 859 H.length]
theorem ej:(vI H).length=H.length+2:=by simp[vI]
theorem BC:(vI H)[H.length+1]?=some (.inst 859 H.length):=by unfold vI;rw[zR (by simp)];simp
theorem HO:(vI H)[H.length]?=some (.dict []):=by unfold vI;rw[zR (by simp)];simp
theorem zD(G:c.Go):Fn c (k+5) (.ref 859) [.str x] [("posix",.bool true)] H (.obj (H.length+1)) (lM (vI H) H.length 19 WW (yQ (H.length+2) x)):=by
 have z:=yi (k:=k) (H:=vI H) (x:=x) G BC (by lia) HO
 rw[ej]at z
 exact qM G.ok (by rw[G.hK];exact Cb _) (by rw[G.hK];exact Dk _) (by rw[G.hK];exact GY _) z
noncomputable def l9(H:List AO)(x:Str)(ws:Bool)(cm:Str):List AO:=(vI H).set H.length (.dict (aS ("commenters":Str) (.str cm) (aS ("whitespace_split":Str) (.bool ws) (Db WW (H.length+5) (H.length+6) (H.length+7)))))++yQ (H.length+2) x
theorem D8:(l9 H x ws cm).length=H.length+8:=by simp[l9,vI,yQ,mN]
theorem Hk:lM (vI H) H.length 19 WW (yQ (H.length+2) x)=l9 H x false "#":=by
 unfold lM l9
 rw[ej]
 rfl
theorem FT{o:AO}(h:H[i]?=some o):(l9 H x ws cm)[i]?=some o:=by
 have il:=aq h
 unfold l9 vI
 rw[zL (by simp;lia),zN (by lia),zL il]
 exact h
theorem FH:Lx (l9 H x true "") (H.length+1) H.length (H.length+5) (H.length+4) WW (H.length+6) (H.length+7) (.str " ") "" x 0:=by
 have e:l9 H x true ""=(vI H).set H.length (.dict (dO WW (H.length+5) (H.length+6) (H.length+7) (.str " ") ""))++yQ (H.length+2) x:=rfl
 have l1:((vI H).set H.length (AO.dict (dO WW (H.length+5) (H.length+6) (H.length+7) (.str " ") ""))).length=H.length+2:=by rw[Z4,ej]
 refine⟨?_,?_,?_,?_,by lia,by lia,by lia,by lia,by lia⟩
 ·rw[e,zL (by rw[l1];lia),zN (by lia)];exact BC
 ·rw[e,zL (by rw[l1];lia)];exact zT (by rw[ej];lia)
 ·rw[e,zR (by rw[l1];lia),l1,show H.length+5 - (H.length+2)=3 by lia];rfl
 ·rw[e,zR (by rw[l1];lia),l1,show H.length+4 - (H.length+2)=2 by lia];rfl
theorem GR:(l9 H x ws cm)[H.length+6]?=some (.fix kN):=by
 unfold l9
 rw[zR (by rw[Z4,ej];lia),Z4,ej,show H.length+6 - (H.length+2)=4 by lia];rfl
theorem FV:(l9 H x ws cm)[H.length+7]?=some (.fix kN):=by
 unfold l9
 rw[zR (by rw[Z4,ej];lia),Z4,ej,show H.length+7 - (H.length+2)=5 by lia];rfl
noncomputable def Jm(x:Str):List (Str×AV):=[("s",.str x),("comments",.bool false),("posix",.bool true)]
noncomputable def Fq(x:Str)(L:Nat):List (Str×AV):=[("s",.str x),("comments",.bool false),("posix",.bool true),("lex",.obj L)]
theorem It:(l9 H x ws cm)[H.length+1]?=some (.inst 859 H.length):=by
 unfold l9
 rw[zL (by rw[Z4,ej];lia),zN (by lia)];exact BC
theorem Ig:(l9 H x ws cm)[H.length]?=some (.dict (aS ("commenters":Str) (.str cm) (aS ("whitespace_split":Str) (.bool ws) (Db WW (H.length+5) (H.length+6) (H.length+7))))):=by
 unfold l9
 rw[zL (by rw[Z4,ej];lia)];exact zT (by rw[ej];lia)
theorem BB{a:AO}:(l9 H x ws cm).set H.length a=(vI H).set H.length a++yQ (H.length+2) x:=by
 unfold l9
 rw[Za _ _ (by rw[Z4,ej];lia),Zj]
theorem Ac(hrz:c.rz=true)(G:c.Go){toks:List Str}(hz:x.length<2 ^ 20)(hn:toks.length<900)(hr:Rd WW x 0 toks):
  ∃j H',Fn c (k+110) (.ref 871) [.str x] [] H (.obj j) H'∧H'[j]?=some (.list (toks.map .str))∧bW H H'∧H.length≤j:=by
 have O:=G.ok
 have e8:(l9 H x true "").length=H.length+8:=D8
 have at0:∀{i:Nat}{o:AO},(l9 H x true "")[i]?=some o→(l9 H x true ""++[AO.list []])[i]?=some o:= λ{i o} h=>aB h
 have lx0:=FH (H:=H) (x:=x)
 have lx1:Lx (l9 H x true ""++[AO.list []]) (H.length+1) H.length (H.length+5) (H.length+4) WW (H.length+6) (H.length+7) (.str " ") "" x 0:=⟨at0 lx0.l,at0 lx0.d,at0 lx0.s,at0 lx0.t,lx0.lt,lx0.dt,lx0.st,lx0.ld,lx0.sd⟩
 refine cv (z6 (c:=c) (k:=k) (J:=H.length+8) (acc:=[]) hrz G hz hr lx1 (at0 GR) (at0 FV) (by rw[←e8,zR (ZA _),ZY];rfl) (by simpa using ZE hn (by lia)) (by lia) (by lia) (by lia) (by lia) (by lia) (by lia) (by lia) (by lia) (by lia) (by lia)) λH' d1 d2 d3 d4=>?_
 have hlen:H'.length=H.length+9:=by rw[d3];simp[e8]
 refine dJ (H.length+8) H' ?_ (by simpa using d2) (λi o h=>?_) (by lia)
 ·refine da (fl:=.ret (.obj (H.length+8))) (loc:=Jm x) G (Bs _) (by w_on) (by w_on) (λρ m s xs ks X hx hk=>?_) ?_
  ·refine mx hx hk λ_ hx=>?_
   refine al [("s",_),("comments",_),("posix",_)] (@bC _ _ _ _ _ X ?_) (.cons hx (.cons rfl (.cons rfl .nil)))
   exact AZ _ _
  ·have zz:=B6 (c:=c) (F:=oS) (k:=k+106) (l:=Fq x (H.length+1)) O lx0.l lx0.d (by rw[G.hK];exact Ey _) (by rw[G.hK];exact Ee _) (by rw[G.hK];exact C8 _) (by rw[G.hK];exact Cz _) (by rw[G.hK];exact FK _) (by rw[G.hK];exact Ed _) (Es (k:=k+105) G) (by rw[e8];exact d1) (by rw[e8,hlen];lia)
   rw[e8]at zz
   apply aK (loc:=Fq x (H.length+1))
   k_dflt refine' ae (σ₁:=⟨Jm x,H⟩) ?_ (ae (σ₁:=⟨Fq x (H.length+1),l9 H x false "#"⟩) ?_ (ae (σ₁:=⟨Fq x (H.length+1),l9 H x true "#"⟩) ?_ (ae (σ₁:=⟨Fq x (H.length+1),l9 H x true ""⟩) ?_ (bv ?_))))
   ·exact aL (F:=oS) (t:=false) (av rfl (aa fL rfl rfl) bx (bQ rfl)) ar
   ·have z:=zD (c:=c) (k:=k+104) (H:=H) (x:=x) G
    rw[Hk]at z
    exact aw (F:=oS) fL rfl (λ_=>rfl) (fS O (λ_=>rfl) (dp G fL rfl (Eg _)) ⟨_,by rw[G.hK];exact G3 _⟩ (Du (λ_=>rfl) (λ_=>rfl) (am (λ_=>rfl) (aa fL rfl rfl) au) (aa fL rfl rfl)) z)
   ·refine aQ (F:=oS) (λ_=>rfl) gJ (aa fL rfl rfl) ?_
    have z:=cI (k:=k+109) (F:=oS) (σ:=⟨Fq x (H.length+1),l9 H x false "#"⟩) (v:=.bool true) (name:="whitespace_split") G (bZ _) It Ig (by show 19<1000;decide) (c8 _ (by decide))
    dsimp only at z
    rw[BB]at z
    exact z
   ·refine aL (F:=oS) (t:=true) (sQ (bP (λ_ _=>rfl) (aa fL rfl rfl) bG)) (aU ?_)
    refine aQ (F:=oS) (λ_=>rfl) bn (aa fL rfl rfl) ?_
    have z:=cI (k:=k+109) (F:=oS) (σ:=⟨Fq x (H.length+1),l9 H x true "#"⟩) (v:=.str "") (name:="commenters") G (bZ _) It Ig (by show 19<1000;decide) (c8 _ (by decide))
    dsimp only at z
    rw[BB]at z
    exact z
   ·exact aX (F:=oS) (cP (λ_=>rfl) (λ_=>rfl) (dg G fL rfl (Gq _) CC) (af λ_=>rfl) (am (λ_=>rfl) (aa fL rfl rfl) au) (λA ρ s env Q E xs K=>zz A ρ s env Q E xs (K.mono (by lia))))
 ·have il:=aq h
  rw[d4 i (by lia) (by lia) (by lia)]
  exact at0 (FT h)
section
variable{L:Addr→Prop}
structure fx(c:Cx)(ρ:Nat→Addr)(n:Nat)(env:Env)(it:Addr)(o:Obj):Prop where
 ap:∀i,i<n→ρ i≠it
 up:c.h₁.get? it=none
 ne:it≠env.locals
 nd:∀es ep,o.data≠.dict es ep
theorem aW.other(r:aW c A F ρ σ s env)(hit:s.heap.get? it=some o)(f:fx c ρ σ.H.length env it o)(hk:∀b ob,s.heap.get? b=some ob→b≠it→h'.get? b=some ob):aW c A F ρ σ {s with heap:=h',toks:=tk} env:=by
 have nb:∀b ob,c.h₁.get? b=some ob→b≠it:= λb ob e=>by rintro rfl;rw[f.up]at e;cases e
 refine⟨⟨λi ao e=>?_,r.hr.inj,r.hr.up,λb ob e t=>hk b ob (r.hr.base b ob e t) (nb b ob e),λob e=>?_⟩,r.sc,r.gl,r.bl,r.ce,r.ci,?_,r.ap,r.lf,r.ge,r.sk.same rfl λb ob es ep g1 g2 _ _=>?_,r.tp,r.fl⟩
 ·refine aj (r.hr.at_ i ao e) λob h1 h2=>?_
  exact al ob (hk _ _ h1 (f.ap i (aq e))) h2
 ·exact(r.hr.tj ob e).imp (λz=>hk _ _ z (nb _ _ e)) λ⟨z1,z2,vs,more,z3,z4⟩=>bS z1 z2 vs more z3 (hk _ _ z4 (nb _ _ e))
 ·refine br λGz kz=>?_
  refine aj (r.lo) λm hm hl=>?_
  refine dc hm λob es ep g1 g2=>?_
  refine kz ?_
  exact al m (bh ob es ep (hk _ _ g1 (Ne.symm f.ne)) g2) hl
 ·refine bh ob es ep (hk b ob g1 ?_) g2
  rintro rfl
  rw[hit]at g1;cases g1
  exact f.nd es ep g2
theorem aM.other(st:aM c ρ₀ n₀ L s₀ ρ n s)(h0:s₀.heap.get? it=none)(hk:∀b ob,s.heap.get? b=some ob→b≠it→h'.get? b=some ob):aM c ρ₀ n₀ L s₀ ρ n {s with heap:=h',toks:=tk}:=by
 refine⟨st.ag,st.le,st.nw,⟨λb o e=>?_,λb o e t hL hr=>?_⟩,st.os⟩
 ·refine bp (st.kp.1 b o e) λo' e'=>?_
  have hb:b≠it:=by rintro rfl;rw[h0]at e;cases e
  exact⟨o',hk _ _ e' hb⟩
 ·refine aj (st.kp.2 b o e t hL hr) λo' e' l'=>?_
  have hb:b≠it:=by rintro rfl;rw[h0]at e;cases e
  exact al o' (hk _ _ e' hb) l'
theorem fx.step(O:c.Ok)(f:fx c ρ n env it o)(hit:s.heap.get? it=some o)(st:aM c ρ n (· =env.locals) s ρ' n' s'):fx c ρ' n' env it o∧s'.heap.get? it=some o:=by
 have ht:it≠c.tj:=by rintro rfl;refine bp (O.tjx) λo3 e3=>?_;rw[f.up]at e3;cases e3
 refine aj (st.kp.2 it o hit ht f.ne f.ap) λo' e' l'=>?_
 rw[l'.eq f.nd]at e'
 refine⟨⟨λi hi q=>?_,f.up,f.ne,f.nd⟩,e'⟩
 by_cases h:i<n
 ·rw[st.ag i h]at q;exact f.ap i h q
 ·have:=st.nw i (ZW h) hi
  rw[q,hit]at this;cases this
end
structure qc where
 ok:List AO→Prop
 obj:(Nat→Addr)→Nat→Obj→Prop
 items:List AV
structure qc.Good(I:qc)(c:Cx):Prop where
 nd:∀ρ i o,I.obj ρ i o→∀es ep,o.data≠.dict es ep
 ag:∀ρ ρ' H i o,I.ok H→I.obj ρ i o→(∀j,j<H.length→ρ' j=ρ j)→I.obj ρ' i o
 next:∀{A:Around}{F:Fs}{ρ:Nat→Addr}{σ:St}{s:Shared}{env:Env}{it:Addr}{i:Nat}{o:Obj}{a:AV}{Q:Option Value→Shared→Prop}{E:Value→Shared→Prop},aW c A F ρ σ s env→I.ok σ.H→s.heap.get? it=some o→I.obj ρ i o→I.items[i]?=some a→(∀j,j<σ.H.length→ρ j≠it)→
  (∀h' tk x o',VR ρ σ.H.length a x→h'.get? it=some o'→I.obj ρ (i+1) o'→(∀b ob,s.heap.get? b=some ob→b≠it→h'.get? b=some ob)→Q (some x) {s with heap:=h',toks:=tk})→wpAny c.M A (pyNext (.ref it)) Q E s
 stop:∀{A:Around}{F:Fs}{ρ:Nat→Addr}{σ:St}{s:Shared}{env:Env}{it:Addr}{i:Nat}{o:Obj}{Q:Option Value→Shared→Prop}{E:Value→Shared→Prop},A.handled=none→aW c A F ρ σ s env→I.ok σ.H→s.heap.get? it=some o→I.obj ρ i o→I.items[i]?=none→(∀j,j<σ.H.length→ρ j≠it)→
  (∀h' tk,(∀b ob,s.heap.get? b=some ob→b≠it→h'.get? b=some ob)→Q none {s with heap:=h',toks:=tk})→wpAny c.M A (pyNext (.ref it)) Q E s
 self:∀{A:Around}{s:Shared}{it:Addr}{ρ:Nat→Addr}{o:Obj}{i:Nat}{Q:Value→Shared→Prop}{E:Value→Shared→Prop},s.heap.get? it=some o→I.obj ρ i o→Q (.ref it) s→wpAny c.M A (pyIter (.ref it)) Q E s
noncomputable def aR(j:Nat)(vs:List AV):qc:=⟨λH=>H[j]?=some (.list vs),λρ i o=>o.cls=.type "list_iterator"∧o.data=.fields #[.ref (ρ j),.int i 0],vs⟩
theorem fh{xs:List Value}(h:cF ρ n as xs):∀{i:Nat}{a:AV},as[i]?=some a→∃x,xs[i]?=some x∧VR ρ n a x:=by
 induction h with
 |nil=>intro i a h;cases h
 |cons hv t ih=>
  intro i a h
  cases i with
  |zero=>cases h;exact al _ rfl hv
  |succ i=>exact ih h
theorem n7{xs:List Value}(h:cF ρ n as xs)(e:as[i]?=none):xs[i]?=none:=by
 rw[ZC]at e ⊢
 rw[aI h];exact e
theorem az:(aR j vs).Good c where
 nd:= λρ i o h es ep q=>by rw[h.2]at q;cases q
 ag:= λρ ρ' H i o hk h e=>⟨h.1,by rw[e j (aq hk)];exact h.2⟩
 next:= λ{A F ρ σ s env it i o a Q E} r hk hit ho ha hap q=>by
  refine br λGz kz=>?_
  refine aj (r.hr.at_ j _ hk) λob h1 h2=>?_
  refine ds h2 ?_;clear h2;intro its e z0 h3;subst z0
  refine aj (fh h3 ha) λx hx vx=>?_
  refine kz ?_
  refine wpAny_pyNext_list_item (items:=⟨its⟩) (bO o hit ho.1 ho.2) (iN _ h1 rfl e rfl) (by simpa using hx) λh' hi hs=>?_
  refine bz hi λo' g1 g2 g3=>?_
  exact q h' s.toks x o' vx g1 ⟨g2,g3⟩ λb ob hb hne=>(hs.2 b hne).trans hb
 stop:= λ{A F ρ σ s env it i o Q E} hh r hk hit ho ha hap q=>by
  refine aj (r.hr.at_ j _ hk) λob h1 h2=>?_
  refine ds h2 ?_;clear h2;intro its e z0 h3;subst z0
  refine wpAny_pyNext_list_end (items:=⟨its⟩) hh (bO o hit ho.1 ho.2) (iN _ h1 rfl e rfl) (by simpa using n7 h3 ha) λh' hx=>?_
  exact q h' s.toks λb ob hb hne=>hx b ob hne hb
 self:= λ{A s it ρ o i Q E} hit ho q=>wpAny_pyIter_listiter (bO o hit ho.1 ho.2) q
theorem ls{it:Value}(ht:∀v,letOwnedTupleGo target it v=pure ())
  (h:∀E,wpAny c.M A (pyNext it) (λr s₁=>match r with
   |none=>wpAny c.M A (execs orelse env) (λf s₃=>R (.ok f) s₃) E s₁
   |some v=>wpAny c.M A (assign target env v) (λ_ s₂=>wpAny c.M A (execs body env) (λf s₃=>match f with
     | .next| .cont=>codeAny c.M A (.forLoop target it body orelse env) R s₃
     | .brk=>R (.ok .next) s₃
     | .ret v=>R (.ok (.ret v)) s₃) E s₂) E s₁) E s):codeAny c.M A (.forLoop target it body orelse env) R s:=by
 refine codeAny_of_tree ?_
 rw[Around.under_of_weight (c:=.forLoop target it body orelse env) rfl rfl]
 show wpAny _ _ ((forTurn target it body orelse env).onRaise (λx=>do noteFrame x env;theTreesLotGoes x)) _ _ s
 refine wpAny_noted ?_
 simp only[forTurn]
 refine YC (YG (YC (wpAny_onRaise (YE (h _) (λr s₁ h₁=>?_) λ_ _ h'=>YG h'))))
 cases r with
 |none=>exact YD (And.intro rfl (codeAny_block h₁))
 |some v=>
  refine YC (wpAny_of_eq (ht v) ?_)
  refine YC (YE h₁ (λ_ s₂ h₂=>YC (YE h₂ (λf s₃ h₃=>?_) λ_ _ h'=>h')) λ_ _ h'=>h')
  cases f with
  |next=>exact YD (And.intro rfl h₃)
  |cont=>exact YD (And.intro rfl h₃)
  |brk=>exact YD h₃
  |ret v=>exact YD h₃
noncomputable def As(c:Cx)(F:Fs)(k:Nat)(target:Expr)(a:AV)(σ σ':St):Prop:=
 ∀(A:Around)(ρ:Nat→Addr)(s:Shared)(env:Env)(Q:Unit→Shared→Prop)(E:Value→Shared→Prop)(x:Value),cK k A→aW c A F ρ σ s env→VR ρ σ.H.length a x→
  (∀ρ' s',aW c A F ρ' σ' s' env→aM c ρ σ.H.length (· =env.locals) s ρ' σ'.H.length s'→Q () s')→wpAny c.M A (assign target env x) Q E s
theorem bg(hk:F.scope.kind=.function)(hx:F.scope.names.lookup x=some .local):As c F k (.Name x pos) a σ ⟨aS x a σ.loc,σ.H⟩:= λA ρ s env Q E v K r hv q=>
 wpAny_assign_Name (iU hk hx r hv λs' r' st'=>q ρ s' r' st')
inductive fm(c:Cx)(F:Fs)(k:Nat)(I:qc)(target:Expr)(body:List Stmt):List AV→St→AF→St→Prop where
 |nil {σ:St} (ok:I.ok σ.H):fm c F k I target body [] σ .next σ
 |next {a:AV} {rest:List AV} {σ σ₁ σ₂ σ₃:St} {g f:AF} (ok:I.ok σ.H) (hg:g=.next∨g=.cont) (h1:As c F k target a σ σ₁) (h2:dq c F k body σ₁ g σ₂) (h3:fm c F k I target body rest σ₂ f σ₃):fm c F k I target body (a::rest) σ f σ₃
 |brk {a:AV} {rest:List AV} {σ σ₁ σ₂:St} (ok:I.ok σ.H) (h1:As c F k target a σ σ₁) (h2:dq c F k body σ₁ .brk σ₂):fm c F k I target body (a::rest) σ .next σ₂
 |ret {a:AV} {rest:List AV} {σ σ₁ σ₂:St} {v:AV} (ok:I.ok σ.H) (h1:As c F k target a σ σ₁) (h2:dq c F k body σ₁ (.ret v) σ₂):fm c F k I target body (a::rest) σ (.ret v) σ₂
theorem yj{I:qc}(O:c.Ok)(G:I.Good c)(ht:∀v,letOwnedTupleGo target (.ref it) v=pure ())(hk100:100≤k)(h0:s₀.heap.get? it=none){f:AF}{rest:List AV}(lp:fm c F k I target body rest σ f σ'):
  ∀{A:Around}{ρ:Nat→Addr}{s:Shared}{env:Env}{R:Result→Shared→Prop}{i:Nat}{o:Obj},I.items.drop i=rest→cK k A→aW c A F ρ σ s env→s.heap.get? it=some o→I.obj ρ i o→fx c ρ σ.H.length env it o→aM c ρ₀ n₀ (· =env.locals) s₀ ρ σ.H.length s→
   (∀ρ' s' g,aW c A F ρ' σ' s' env→aM c ρ₀ n₀ (· =env.locals) s₀ ρ' σ'.H.length s'→FR ρ' σ'.H.length f g→R (.ok g) s')→codeAny c.M A (.forLoop target (.ref it) body [] env) R s:=by
 have dropc:∀{i:Nat}{a:AV}{rest:List AV},I.items.drop i=a::rest→I.items[i]?=some a∧I.items.drop (i+1)=rest:= λ{i a rest} e=>by
  have h1:(I.items.drop i)[0]?=some a:=by rw[e];rfl
  rw[Z1,Zq]at h1
  refine⟨h1,?_⟩
  have:(I.items.drop i).drop 1=rest:=by rw[e];rfl
  rw[Zp]at this
  exact this
 induction lp with
 |nil ok=>
  intro A ρ s env R i o e K r hit ho fr st q
  have hn:I.items[i]?=none:=by rw[ZC];exact ZL.mp e
  refine ls ht λE=>G.stop (K.2.2 hk100) r ok hit ho hn fr.ap λh' tk hk=>?_
  exact wpAny_execs_nil (q ρ _ .next (r.other hit fr hk) (st.other h0 hk) rfl)
 | @next a rest σ σ₁ σ₂ σ₃ g f ok hg h1 h2 h3 ih=>
  intro A ρ s env R i o e K r hit ho fr st q
  refine aO (dropc e) λe1 e2=>?_
  refine ls ht λE=>G.next r ok hit ho e1 fr.ap λh' tk x o' vx hit' ho' hk=>?_
  have r':=r.other (tk:=tk) hit fr hk
  have st':=st.other (tk:=tk) h0 hk
  have fr':fx c ρ σ.H.length env it o':=⟨fr.ap,fr.up,fr.ne,G.nd _ _ _ ho'⟩
  refine h1 A ρ _ env _ E x K r' vx λρ1 s1 r1 st1=>h2 A ρ1 s1 env _ E K r1 λρ2 s2 fl r2 st2 vf=>?_
  have st12:=st1.trans st2
  refine aO (fr'.step O (s:={s with heap:=h',toks:=tk}) hit' st12) λfr2 mF=>?_
  have ho2:I.obj ρ2 (i+1) o':=G.ag ρ ρ2 σ.H (i+1) o' ok ho' λj hj=>st12.ag j hj
  have z:=ih e2 K r2 mF ho2 fr2 (st'.trans st12) q
  rcases hg with rfl|rfl
  ·rw[show fl=.next from vf];exact z
  ·rw[show fl=.cont from vf];exact z
 | @brk a rest σ σ₁ σ₂ ok h1 h2=>
  intro A ρ s env R i o e K r hit ho fr st q
  refine aO (dropc e) λe1 e2=>?_
  refine ls ht λE=>G.next r ok hit ho e1 fr.ap λh' tk x o' vx hit' ho' hk=>?_
  have r':=r.other (tk:=tk) hit fr hk
  have st':=st.other (tk:=tk) h0 hk
  refine h1 A ρ _ env _ E x K r' vx λρ1 s1 r1 st1=>h2 A ρ1 s1 env _ E K r1 λρ2 s2 fl r2 st2 vf=>?_
  rw[show fl=.brk from vf]
  exact q ρ2 s2 _ r2 (st'.trans (st1.trans st2)) rfl
 | @ret a rest σ σ₁ σ₂ v ok h1 h2=>
  intro A ρ s env R i o e K r hit ho fr st q
  refine aO (dropc e) λe1 e2=>?_
  refine ls ht λE=>G.next r ok hit ho e1 fr.ap λh' tk x o' vx hit' ho' hk=>?_
  have r':=r.other (tk:=tk) hit fr hk
  have st':=st.other (tk:=tk) h0 hk
  refine h1 A ρ _ env _ E x K r' vx λρ1 s1 r1 st1=>h2 A ρ1 s1 env _ E K r1 λρ2 s2 fl r2 st2 vf=>?_
  refine aj vf ?_;clear vf;intro u z0 hu;subst z0
  exact q ρ2 s2 _ r2 (st'.trans (st1.trans st2)) (al u rfl hu)
noncomputable def Mk(c:Cx)(I:qc)(a:AV)(σ:St):Prop:=
 ∀{A:Around}{F:Fs}{ρ:Nat→Addr}{s:Shared}{env:Env}{x:Value}{Q:Value→Shared→Prop}{E:Value→Shared→Prop},aW c A F ρ σ s env→VR ρ σ.H.length a x→
  (∀o t,I.obj ρ 0 o→o.isFreed=false→Q (.ref s.heap.objs.size) {s with heap:=s.heap.push o,toks:=t})→wpAny c.M A (pyIter x) Q E s
theorem dZ(hj:σ.H[j]?=some (.list vs)):Mk c (aR j vs) (.obj j) σ:= λ{A F ρ s env x Q E} r hx q=>by
 refine aO hx ?_;clear hx;intro _ z0;subst z0
 refine aj (r.hr.at_ j _ hj) λob h1 h2=>?_
 refine ds h2 ?_;clear h2;intro its e z0 h3;subst z0
 exact wpAny_pyIter_list (items:=⟨its⟩) (iN _ h1 rfl e rfl) (q _ s.toks ⟨rfl,rfl⟩ rfl)
theorem gr{I:qc}(O:c.Ok)(G:I.Good c){f:AF}(ht:∀it v,letOwnedTupleGo target (.ref it) v=pure ())(hs:∀env x,foldedSetIterable iter env x=pure x)(hk:100≤k)(h1:Ev c F k iter σ a σ₁)(h2:Mk c I a σ₁)(h3:fm c F k I target body I.items σ₁ f σ₂):
  Ex c F k (.For target iter body [] pos) σ f σ₂:= λA ρ s env Q E K r q=>
 wpAny_For (h1 A ρ s env _ E K r λρ1 s1 x r1 st1 vx=>h2 r1 vx λo t ho hf=>by
  have r2:=r1.push o t
  have hp:=HP.of_push (o:=o) r1
  refine yj O G (ht _) hk (e7 s1.heap) h3 (i:=0) rfl K r2 (ZN _ hf) ho ⟨λi hi q=>?_,?_,?_,G.nd _ _ _ ho⟩ (hp.step t) λρ' s' g r' st' vg=>q ρ' s' g r' (st1.trans st') vg
  ·refine aj (r1.hr.at_ i (σ₁.H[i]) (zG hi)) λob h1 _=>?_
   have:=ZB h1
   rw[q]at this;exact ZJ _ this
  ·cases q:c.h₁.get? s1.heap.objs.size with
   |none=>rfl
   |some o=>exact(r1.hr.nosz o q).elim
  ·intro q
   refine aj (r1.lo) λm hm _=>?_
   have:=hm.lt
   rw[←q]at this;exact ZJ _ this) (hs env)
theorem aW.list(r:aW c A F ρ σ s env)(hj:σ.H[j]?=some (.list vs)):∃its,s.heap.IsList (ρ j) ⟨its⟩∧cF ρ σ.H.length vs its∧s.heap.NoDictAt (.ref (ρ j)):=by
 refine aj (r.hr.at_ j _ hj) λob h1 h2=>?_
 refine ds h2 ?_;clear h2;intro its e z0 h3;subst z0
 exact⟨its,iN _ h1 rfl e rfl,h3,_,h1,rfl⟩
theorem aW.tuple(r:aW c A F ρ σ s env)(hj:σ.H[j]?=some (.tuple vs)):∃its,IsTup s.heap (ρ j) ⟨its⟩∧cF ρ σ.H.length vs its:=by
 refine aj (r.hr.at_ j _ hj) λob h1 h2=>?_
 refine ds h2 ?_;clear h2;intro its e z0 h3;subst z0
 exact al its (iN _ h1 rfl e rfl) h3
theorem dM{elts:List Expr}(hz:vs.length<1000)(h:Ag c F k pos elts σ vs σ₁):Ev c F k (.List elts pos) σ (.obj σ₁.H.length) ⟨σ₁.loc,σ₁.H++[.list vs]⟩:= λA ρ s env Q E K r q=>
 List_ (h A ρ s env _ E K r λρ1 s1 xs r1 st1 vx=>wpAny_newList (by
  have st:aM c ρ1 σ₁.H.length (· =env.locals) s1 _ _ _:=cY ({cls:=.type "list",data:=.seq xs.toArray}:Obj) s1.toks
  refine aO (r1.alloc (ao:=.list vs) (ob:={cls:=.type "list",data:=.seq xs.toArray}) s1.toks rfl (cH xs _ rfl (vx.step st))) λr2 st2=>?_
  exact q _ _ _ r2 (st1.trans st2) ⟨by simp,by rw[aF]⟩) (by rw[aI vx];unfold sizeLine;lia))
theorem tK{elts:List Expr}(hz:vs.length<1000)(h:Ag c F k pos elts σ vs σ₁):Ev c F k (.Tuple elts kd pos) σ (.obj σ₁.H.length) ⟨σ₁.loc,σ₁.H++[.tuple vs]⟩:= λA ρ s env Q E K r q=>
 Tuple_ (h A ρ s env _ E K r λρ1 s1 xs r1 st1 vx=>wpAny_newTuple (by
  have st:aM c ρ1 σ₁.H.length (· =env.locals) s1 _ _ _:=cY ({cls:=.type "tuple",data:=.seq xs.toArray}:Obj) s1.toks
  refine aO (r1.alloc (ao:=.tuple vs) (ob:={cls:=.type "tuple",data:=.seq xs.toArray}) s1.toks rfl (cH xs _ rfl (vx.step st))) λr2 st2=>?_
  exact q _ _ _ r2 (st1.trans st2) ⟨by simp,by rw[aF]⟩) (by rw[aI vx];unfold sizeLine;lia))
theorem cW{i:Int}(h0:0≤i)(h1:i<2 ^ 62)(hs:∀o x,subscripted slice false o x=operate [o,x] (getItem o x))(ht:∀o r,letTemporaryGo value o r=pure ())
  (e0:Ev c F k value σ (.obj j) σ₁)(e1:Ev c F k slice σ₁ (.int i) σ₂)(hj:σ₂.H[j]?=some (.list vs))(hv:vs[i.toNat]?=some v):Ev c F k (.Subscript value slice pos) σ v σ₂:= λA ρ s env Q E K r q=>
 Subscript_ (e0 A ρ s env _ E K r λρ1 s1 x r1 st1 vx=>e1 A ρ1 s1 env _ E K r1 λρ2 s2 y r2 st2 vy=>by
  refine br λGz kz=>?_
  refine bp vy ?_;clear vy;intro t z0;subst z0
  refine aO (st2.vr vx) λ_ z0=>?_;subst z0
  refine bz (r2.list hj) λits h3 h4 _=>?_
  refine aj (fh h4 hv) λz hz vz=>?_
  refine kz ?_
  exact subscriptTail_builtin h3.typeIs slot_list_getitem.lookup (wpAny_getItem_list h3 h0 (by lia) (by simpa using hz) (q ρ2 s2 z r2 (st1.trans st2) vz)) (hs _ _) (ht _))
theorem rF(hz:vs.length<1000)(hs:∀o x,subscripted slice false o x=operate [o,x] (getItem o x))(ht:∀o r,letTemporaryGo value o r=pure ())
  (e0:Ev c F k value σ (.obj j) σ₁)(e1:Ev c F k slice σ₁ (.int (-1)) σ₂)(hj:σ₂.H[j]?=some (.list vs))(hv:vs.getLast?=some v):Ev c F k (.Subscript value slice pos) σ v σ₂:= λA ρ s env Q E K r q=>
 Subscript_ (e0 A ρ s env _ E K r λρ1 s1 x r1 st1 vx=>e1 A ρ1 s1 env _ E K r1 λρ2 s2 y r2 st2 vy=>by
  refine br λGz kz=>?_
  refine bp vy ?_;clear vy;intro t z0;subst z0
  refine aO (st2.vr vx) λ_ z0=>?_;subst z0
  refine bz (r2.list hj) λits h3 h4 _=>?_
  rw[List.getLast?_eq_getElem?]at hv
  refine aj (fh h4 hv) λz hz vz=>?_
  refine kz ?_
  have ln:=aI h4
  have lt:=aq hz
  have pos:0<its.length:=by lia
  refine subscriptTail_builtin h3.typeIs slot_list_getitem.lookup (wpAny_getItem_list_neg h3 (by lia) (by show -((its.length:Nat):Int)≤ -1;lia) (by lia) ?_ (q ρ2 s2 z r2 (st1.trans st2) vz)) (hs _ _) (ht _)
  have e:((-1:Int)+((⟨its⟩:Array Value).size:Nat)).toNat=its.length - 1:=by show((-1:Int)+(its.length:Nat)).toNat=_;lia
  rw[e,ln]
  simpa using hz)
theorem zM(h1:i<1000)(hs:∀o x,subscripted slice false o x=operate [o,x] (getItem o x))(ht:∀o r,letTemporaryGo value o r=pure ())
  (e0:Ev c F k value σ (.obj j) σ₁)(e1:Ev c F k slice σ₁ (.int i) σ₂)(hj:σ₂.H[j]?=some (.tuple vs))(hv:vs[i]?=some v):Ev c F k (.Subscript value slice pos) σ v σ₂:= λA ρ s env Q E K r q=>
 Subscript_ (e0 A ρ s env _ E K r λρ1 s1 x r1 st1 vx=>e1 A ρ1 s1 env _ E K r1 λρ2 s2 y r2 st2 vy=>by
  refine bp vy ?_;clear vy;intro t z0;subst z0
  refine aO (st2.vr vx) λ_ z0=>?_;subst z0
  refine aj (r2.tuple hj) λits h3 h4=>?_
  refine aj (fh h4 hv) λz hz vz=>?_
  have lt:=aq hz
  refine item_tuple (j:=i) h3 (by lia) (by lia) ?_ (by simpa using hz) (q ρ2 s2 z r2 (st1.trans st2) vz) (hs _ _) (ht _)
  show seqIndex? (i:Int) its.length=some i
  unfold seqIndex?
  simp
  lia)
noncomputable def rm(vs:List AV)(lo hi st:Option Int):List AV:=(sliceRange (sliceBounds lo hi st vs.length).1 (sliceBounds lo hi st vs.length).2.1 (sliceBounds lo hi st vs.length).2.2).filterMap (vs[·]?)
theorem t6(h:cF ρ n vs its)(lo hi st:Option Int):cF ρ n (rm vs lo hi st) (slicePick ⟨its⟩ lo hi st).toList:=by
 unfold rm slicePick
 rw[show(⟨its⟩:Array Value).size=vs.length from aI h]
 simp only[List.toList_toArray]
 generalize sliceRange (sliceBounds lo hi st vs.length).1 (sliceBounds lo hi st vs.length).2.1 (sliceBounds lo hi st vs.length).2.2=ix
 induction ix with
 |nil=>exact .nil
 |cons i r ih=>
  rw[List.filterMap_cons,List.filterMap_cons]
  cases e:vs[i]? with
  |none=>
   have e2:=n7 h e
   have e3:(⟨its⟩:Array Value)[i]?=none:=by simpa using e2
   rw[e3];exact ih
  |some a=>
   refine aj (fh h e) λx e2 vx=>?_
   have e3:(⟨its⟩:Array Value)[i]?=some x:=by simpa using e2
   rw[e3];exact .cons vx ih
theorem sh(i:Nat)(h:cF ρ n vs its):cF ρ n (vs.drop i) (its.drop i):=by
 induction h generalizing i with
 |nil=>rw[List.drop_nil,List.drop_nil];exact .nil
 |cons h t ih=>cases i with
  |zero=>exact .cons h t
  |succ i=>exact ih i
theorem mm{l:Option (Int×Tok)}:IsPart (partValue l) (l.map (·.1)):=by
 cases l with
 |none=>exact .none
 |some p=>obtain⟨i,t⟩:=p;exact .int i t
theorem fF{lower upper step:Option Expr}{p:Pos}{l u t:Option Int}{σ₄:St}{v':List AV}(hz:vs.length<1000)(h0:t≠some 0)(hs:∀o x,∃ops,subscripted (.Slice lower upper step p) false o x=operate ops (getItem o x))
  (e0:Ev c F k value σ (.obj j) σ₁)(h1:Pt c F k lower σ₁ l σ₂)(h2:Pt c F k upper σ₂ u σ₃)(h3:Pt c F k step σ₃ t σ₄)(hj:σ₄.H[j]?=some (.list vs))(hp:∀ρ n its,cF ρ n vs its→cF ρ n v' (slicePick ⟨its⟩ l u t).toList):
  Ev c F k (.Subscript value (.Slice lower upper step p) pos) σ (.obj σ₄.H.length) ⟨σ₄.loc,σ₄.H++[.list v']⟩:= λA ρ s env Q E K r q=>
 Subscript_ (e0 A ρ s env _ E K r λρ1 s1 y r1 st1 vy=>wpAny_Slice (h1 A ρ1 s1 env _ E K r1 λρ2 s2 y2 r2 st2 vl=>h2 A ρ2 s2 env _ E K r2 λρ3 s3 y3 r3 st3 vu=>h3 A ρ3 s3 env _ E K r3 λρ4 s4 y4 r4 st4 vt=>by
  refine aO (st4.vr (st3.vr (st2.vr vy))) λ_ z0=>?_;subst z0
  refine aj vl ?_;clear vl;intro l' z0 hl;subst z0
  refine aj vu ?_;clear vu;intro u' z0 hu;subst z0
  refine aj vt ?_;clear vt;intro t' z0 htt;subst z0
  subst hl hu htt
  refine br λGz kz=>?_
  refine bz (r4.list hj) λits g3 g4 _=>?_
  have pp:=HP.of_push (o:={cls:=.type "slice",data:=.fields #[partValue l',partValue u',partValue t']}) r4
  have r5:=pp.1 s4.toks
  refine bp (hs (.ref (ρ4 j)) (.ref s4.heap.objs.size)) λops hops=>?_
  have st6:aM c ρ4 σ₄.H.length (· =env.locals) {s4 with heap:=s4.heap.push {cls:=.type "slice",data:=.fields #[partValue l',partValue u',partValue t']}} _ _ _:=cY ({cls:=.type "list",data:=.seq (slicePick ⟨its⟩ (l'.map (·.1)) (u'.map (·.1)) (t'.map (·.1)))}:Obj) s4.toks
  refine aO (r5.alloc (ao:=.list v') (ob:={cls:=.type "list",data:=.seq (slicePick ⟨its⟩ (l'.map (·.1)) (u'.map (·.1)) (t'.map (·.1)))}) s4.toks rfl (cH ((slicePick ⟨its⟩ (l'.map (·.1)) (u'.map (·.1)) (t'.map (·.1))).toList) _ rfl ((hp ρ4 _ its g4).step st6))) λr6 st6'=>?_
  refine kz ?_
  refine tail_any (ops:=ops) (g3.push _).typeIs slot_list_getitem.lookup (wpAny_getItem_list_slice (g3.push _) (bO _ (ZN _ rfl) rfl rfl) mm mm mm h0 ?_ (by show its.length≤_;rw[aI g4];unfold sizeLine;lia)) hops
  exact q _ _ _ r6 ((((st1.trans st2).trans st3).trans st4).trans ((pp.step s4.toks).trans st6')) ⟨by simp,by rw[aF]⟩))
noncomputable def FM(c:Cx)(A:Around)(env:Env)(ifs:List Expr)(Q:Bool→Shared→Prop)(E:Value→Shared→Prop)(s:Shared):Prop:=match ifs with
 | []=>Q true s
 | [t]=>wpAny c.M A (isTrue t env (eval t env)) Q E s
 |_=>False
theorem lT{it acc:Value}(hg:gens[d]?=some ⟨target,iter,ifs,0⟩)(hn:gens[d+1]?=none)(ht:∀v,letOwnedTupleGo target it v=pure ())
  (h:∀E,wpAny c.M A (pyNext it) (λr s₁=>match r with
   |none=>R (.ok .next) s₁
   |some v=>wpAny c.M A (assign target env v) (λ_ s₂=>FM c A env ifs (λok s₃=>if ok=true then wpAny c.M A (eval elt env) (λx s₄=>
      wpAny c.M A (call (.builtin "list.append") [acc,x]) (λ_ s₅=>codeAny c.M A (.compLoop (.ListComp elt gens sc pos) d it acc env) R s₅) E s₄) E s₃
     else codeAny c.M A (.compLoop (.ListComp elt gens sc pos) d it acc env) R s₃) E s₂) E s₁) E s):
  codeAny c.M A (.compLoop (.ListComp elt gens sc pos) d it acc env) R s:=by
 refine codeAny_of_tree ?_
 rw[Around.under_of_weight (c:=.compLoop (.ListComp elt gens sc pos) d it acc env) rfl rfl]
 show wpAny _ _ ((compTurn (.ListComp elt gens sc pos) d it acc env).onRaise (λx=>do noteFrame x env;theTreesLotGoes x)) _ _ s
 refine wpAny_noted ?_
 unfold compTurn
 dsimp only
 rw[hg]
 dsimp only
 refine YC (YG ?_)
 show wpAny _ _ (pyNext it >>=_) _ _ s
 refine YC (YE (h _) (λr s₁ h₁=>?_) λ_ _ h'=>h')
 cases r with
 |none=>exact YD h₁
 |some v=>
  refine YC (wpAny_of_eq (ht v) ?_)
  refine YC (YE h₁ (λ_ s₂ h₂=>?_) λ_ _ h'=>h')
  rw[hn]
  have tail:∀(ok:Bool)(s₃:Shared),(if ok=true then wpAny c.M A (eval elt env) (λx s₄=>
      wpAny c.M A (call (.builtin "list.append") [acc,x]) (λ_ s₅=>codeAny c.M A (.compLoop (.ListComp elt gens sc pos) d it acc env) R s₅) (notedBy c.M A env λe s'=>R (.error e) s') s₄) (notedBy c.M A env λe s'=>R (.error e) s') s₃
     else codeAny c.M A (.compLoop (.ListComp elt gens sc pos) d it acc env) R s₃)→wpAny c.M A (if ok=true then((do
       let y←eval elt env
       let _←call (Value.builtin "list.append") [acc,y]
       pure ():Sem Unit) >>= λ_=>again (Code.compLoop (elt.ListComp gens sc pos) d it acc env))else again (Code.compLoop (elt.ListComp gens sc pos) d it acc env))
    (λfin s'=>match fin with| .done f=>R (.ok f) s'| .again c'=>c'.quiet=true∧codeAny c.M A c' R s') (notedBy c.M A env λe s'=>R (.error e) s') s₃:= λok s₃ h₃=>by
   cases ok with
   |true=>
    rw[if_pos rfl]at h₃ ⊢
    exact YC (YC (YE h₃ (λx s₄ h₄=>YC (YE h₄ (λ_ s₅ h₅=>YD (YD (And.intro rfl h₅))) λ_ _ z=>z)) λ_ _ z=>z))
   |false=>
    rw[if_neg Z0]at h₃ ⊢
    exact YD (And.intro rfl h₃)
  cases ifs with
  |nil=>
   refine YC ?_
   rw[YA]
   exact YD (tail true s₂ h₂)
  |cons t l=>
   cases l with
   |cons _ _=>exact h₂.elim
   |nil=>
    refine YC ?_
    rw[List.forIn_cons]
    refine YC ?_
    rw[if_pos rfl]
    refine YC (YE h₂ (λok s₃ h₃=>YD ?_) λ_ _ z=>z)
    show wpAny _ _ (forIn [] ok _) _ _ _
    rw[YA]
    exact YD (tail ok s₃ h₃)
theorem pT{target2 iter2:Expr}{ifs2:List Expr}{it acc:Value}(hg:gens[d]?=some ⟨target,iter,[],0⟩)(hn:gens[d+1]?=some ⟨target2,iter2,ifs2,0⟩)(ht:∀v,letOwnedTupleGo target it v=pure ())(hs:∀x,foldedSetIterable iter2 env x=pure x)
  (h:∀E,wpAny c.M A (pyNext it) (λr s₁=>match r with
   |none=>R (.ok .next) s₁
   |some v=>wpAny c.M A (assign target env v) (λ_ s₂=>wpAny c.M A (eval iter2 env) (λx s₃=>wpAny c.M A (pyIter x) (λit2 s₄=>
     codeAny c.M A (.compStart (.ListComp elt gens sc pos) (d+1) it2 acc env) (λr s₅=>∃f,r=.ok f∧codeAny c.M A (.compLoop (.ListComp elt gens sc pos) d it acc env) R s₅) s₄) E s₃) E s₂) E s₁) E s):
  codeAny c.M A (.compLoop (.ListComp elt gens sc pos) d it acc env) R s:=by
 refine codeAny_of_tree ?_
 rw[Around.under_of_weight (c:=.compLoop (.ListComp elt gens sc pos) d it acc env) rfl rfl]
 show wpAny _ _ ((compTurn (.ListComp elt gens sc pos) d it acc env).onRaise (λx=>do noteFrame x env;theTreesLotGoes x)) _ _ s
 refine wpAny_noted ?_
 unfold compTurn
 dsimp only
 rw[hg]
 dsimp only
 refine YC (YG ?_)
 show wpAny _ _ (pyNext it >>=_) _ _ s
 refine YC (YE (h _) (λr s₁ h₁=>?_) λ_ _ h'=>h')
 cases r with
 |none=>exact YD h₁
 |some v=>
  refine YC (wpAny_of_eq (ht v) ?_)
  refine YC (YE h₁ (λ_ s₂ h₂=>?_) λ_ _ h'=>h')
  rw[hn]
  refine YC ?_
  rw[YA]
  refine YD ?_
  rw[if_pos rfl]
  dsimp only
  refine YC (YE h₂ (λx s₃ h₃=>YC (YG ?_)) λ_ _ z=>z)
  show wpAny _ _ (foldedSetIterable iter2 env x >>= λx=>holding [x] (pyIter x) >>=_) _ _ _
  refine YC (wpAny_of_eq (hs x) (YC (YF (YE h₃ (λit2 s₄ h₄=>YC (wpAny_runOwn (codeAny_mono h₄ λr s₅ h₅=>?_))) λ_ _ z=>z))))
  refine aj h₅ ?_;clear h₅;intro f z0 h₅;subst z0
  exact YD (And.intro rfl h₅)
theorem iI{acc:Value}{I:qc}(G:I.Good c)(hit:s.heap.get? it=some o)(ho:I.obj ρ i o)(hg:gens[d]?=some ⟨target,iter,ifs,0⟩)
  (h:codeAny c.M A (.compLoop (.ListComp elt gens sc pos) d (.ref it) acc env) R s):codeAny c.M A (.compStart (.ListComp elt gens sc pos) d (.ref it) acc env) R s:=by
 refine codeAny_of_tree ?_
 rw[Around.under_of_weight (c:=.compStart (.ListComp elt gens sc pos) d (.ref it) acc env) rfl rfl]
 show wpAny _ _ ((compStart (.ListComp elt gens sc pos) d (.ref it) acc env).onRaise (λx=>do noteFrame x env;standAt theWindowsPlace)) _ _ s
 refine wpAny_notedAt ?_
 unfold compStart
 have e:clausesOf (.ListComp elt gens sc pos)=gens:=rfl
 rw[e,hg]
 show wpAny _ _ (ask >>=_) _ _ s
 refine YC (wpAny_askSetting (wpAny_ite ?_))
 have z:wpAny c.M A (pyIter (.ref it)) (λit' s'=>codeAny c.M A (.compLoop (.ListComp elt gens sc pos) d it' acc env) R s') (notedBy c.M A env λx s'=>R (.error x) s') s:=G.self hit ho h
 split
 ·first
   |exact YC (YD (YD (And.intro rfl h)))
   |exact YD (And.intro rfl h)
 ·first
   |exact YC (wpAny_rule (YC (YG (YC (YE z (λit' s' h'=>YD (And.intro rfl h')) λ_ _ x=>x)))))
   |(refine YC (wpAny_rule ?_);show wpAny _ _ (standAt iter.pos >>=_) _ _ s;exact YC (YG (YC (YE z (λit' s' h'=>YD (And.intro rfl h')) λ_ _ x=>x))))
section
noncomputable def yR(c:Cx)(F:Fs)(k:Nat)(ifs:List Expr)(σ:St)(b:Bool)(σ':St):Prop:=match ifs with
 | []=>b=true∧σ'=σ
 | [t]=>Te c F k t σ b σ'
 |_=>False
theorem CE{b:Bool}{Q:Bool→Shared→Prop}(h:yR c F k ifs σ b σ')(K:cK k A)(r:aW c A F ρ σ s env)
  (q:∀ρ' s',aW c A F ρ' σ' s' env→aM c ρ σ.H.length (· =env.locals) s ρ' σ'.H.length s'→Q b s'):FM c A env ifs Q E s:=by
 match ifs,h with
 | [],h=>refine aO h ?_;clear h;intro z0 z1;subst z0;subst z1;exact q ρ s r .refl
 | [t],h=>exact h A ρ s env Q E K r λρ1 s1 x r1 st1 vx=>by subst vx;exact q ρ1 s1 r1 st1
 |_::_::_,h=>exact h.elim
theorem ky{x:Value}(r:aW c A F ρ σ s env)(hJ:σ.H[J]?=some (.list acc))(hz:acc.length<999)(hv:VR ρ σ.H.length v x)
  (q:∀s',aW c A F ρ ⟨σ.loc,σ.H.set J (.list (acc++[v]))⟩ s' env→aM c ρ σ.H.length (· =env.locals) s ρ (σ.H.set J (.list (acc++[v]))).length s'→Q .none s'):wpAny c.M A (call (.builtin "list.append") [.ref (ρ J),x]) Q E s:=by
 refine bz (r.list hJ) λits h1 h2 _=>?_
 refine wpAny_call_entry slot_list_append h1.typeIs entry_list_append ?_ (args_list_append _ _)
 show wpAny _ _ (updateSeq (ρ J) (·.push x) >>= λ_=>ret .none) _ _ s
 exact YC (mh (A:=A.in1) r.in1 hJ (by lia) hv λs' r' st'=>YD (al _ rfl (q s' r'.out1 st')))
noncomputable def CL(c:Cx)(F:Fs)(k:Nat)(elt:Expr)(gens:List Comprehension)(sc:Scope)(pos:Pos)(d:Nat)(I:qc)(J i:Nat)(σ σ':St):Prop:=
 ∀{A:Around}{ρ:Nat→Addr}{s:Shared}{env:Env}{R:Result→Shared→Prop}{it:Addr}{o:Obj}{s₀:Shared}{ρ₀:Nat→Addr}{n₀:Nat},s₀.heap.get? it=none→cK k A→aW c A F ρ σ s env→s.heap.get? it=some o→I.obj ρ i o→fx c ρ σ.H.length env it o→
  aM c ρ₀ n₀ (· =env.locals) s₀ ρ σ.H.length s→J<σ.H.length→
  (∀ρ' s',aW c A F ρ' σ' s' env→aM c ρ₀ n₀ (· =env.locals) s₀ ρ' σ'.H.length s'→ρ' J=ρ J→R (.ok .next) s')→codeAny c.M A (.compLoop (.ListComp elt gens sc pos) d (.ref it) (.ref (ρ J)) env) R s
variable{I:qc}
theorem iL(G:I.Good c)(hg:gens[d]?=some ⟨target,iter,ifs,0⟩)(hn:gens[d+1]?=none)(ht:∀it v,letOwnedTupleGo target (.ref it) v=pure ())(h100:100≤k)(ok:I.ok σ.H)(ha:I.items[i]?=none):CL c F k elt gens sc pos d I J i σ σ:=
 λ{A ρ s env R it o s₀ ρ₀ n₀} h0 K r hit ho fr st jl q=>lT hg hn (ht it) λE=>G.stop (K.2.2 h100) r ok hit ho ha fr.ap λh' tk hk=>q ρ _ (r.other hit fr hk) (st.other h0 hk) rfl
theorem fM(O:c.Ok)(G:I.Good c)(hg:gens[d]?=some ⟨target,iter,ifs,0⟩)(hn:gens[d+1]?=none)(ht:∀it v,letOwnedTupleGo target (.ref it) v=pure ())(ok:I.ok σ.H)(ha:I.items[i]?=some a)
  (h1:As c F k target a σ σ₁)(h2:yR c F k ifs σ₁ true σ₂)(h3:Ev c F k elt σ₂ v σ₃)(hJ:σ₃.H[J]?=some (.list acc))(hz:acc.length<999)(h4:CL c F k elt gens sc pos d I J (i+1) ⟨σ₃.loc,σ₃.H.set J (.list (acc++[v]))⟩ σ'):CL c F k elt gens sc pos d I J i σ σ':=
 λ{A ρ s env R it o s₀ ρ₀ n₀} h0 K r hit ho fr st jl q=>lT hg hn (ht it) λE=>G.next r ok hit ho ha fr.ap λh' tk x o' vx hit' ho' hk=>by
  have r':=r.other (tk:=tk) hit fr hk
  have st':=st.other (tk:=tk) h0 hk
  have fr':fx c ρ σ.H.length env it o':=⟨fr.ap,fr.up,fr.ne,G.nd _ _ _ ho'⟩
  refine h1 A ρ _ env _ E x K r' vx λρ1 s1 r1 st1=>CE h2 K r1 λρ2 s2 r2 st2=>?_
  rw[if_pos rfl]
  refine h3 A ρ2 s2 env _ E K r2 λρ3 s3 y r3 st3 vy=>?_
  have st13:=(st1.trans st2).trans st3
  rw[←st13.ag J jl]
  refine ky r3 hJ hz vy λs4 r4 st4=>?_
  have st14:=st13.trans st4
  refine aO (fr'.step O (s:={s with heap:=h',toks:=tk}) hit' st14) λfr4 hit4=>?_
  have ho4:I.obj ρ3 (i+1) o':=G.ag ρ ρ3 σ.H (i+1) o' ok ho' λj hj=>st14.ag j hj
  exact h4 h0 K r4 hit4 ho4 fr4 (st'.trans st14) (ZE jl st14.le) λρ' s' rr ss ee=>q ρ' s' rr ss (ee.trans (st13.ag J jl))
theorem mX(O:c.Ok)(G:I.Good c)(hg:gens[d]?=some ⟨target,iter,ifs,0⟩)(hn:gens[d+1]?=none)(ht:∀it v,letOwnedTupleGo target (.ref it) v=pure ())(ok:I.ok σ.H)(ha:I.items[i]?=some a)
  (h1:As c F k target a σ σ₁)(h2:yR c F k ifs σ₁ false σ₂)(h4:CL c F k elt gens sc pos d I J (i+1) σ₂ σ'):CL c F k elt gens sc pos d I J i σ σ':=
 λ{A ρ s env R it o s₀ ρ₀ n₀} h0 K r hit ho fr st jl q=>lT hg hn (ht it) λE=>G.next r ok hit ho ha fr.ap λh' tk x o' vx hit' ho' hk=>by
  have r':=r.other (tk:=tk) hit fr hk
  have st':=st.other (tk:=tk) h0 hk
  have fr':fx c ρ σ.H.length env it o':=⟨fr.ap,fr.up,fr.ne,G.nd _ _ _ ho'⟩
  refine h1 A ρ _ env _ E x K r' vx λρ1 s1 r1 st1=>CE h2 K r1 λρ2 s2 r2 st2=>?_
  rw[if_neg Z0]
  have st12:=st1.trans st2
  refine aO (fr'.step O (s:={s with heap:=h',toks:=tk}) hit' st12) λfr4 hit4=>?_
  have ho4:I.obj ρ2 (i+1) o':=G.ag ρ ρ2 σ.H (i+1) o' ok ho' λj hj=>st12.ag j hj
  rw[←st12.ag J jl]
  exact h4 h0 K r2 hit4 ho4 fr4 (st'.trans st12) (ZE jl st12.le) λρ' s' rr ss ee=>q ρ' s' rr ss (ee.trans (st12.ag J jl))
theorem aW.newFree(r:aW c A F ρ σ s env)(nd:∀es ep,o.data≠.dict es ep):fx c ρ σ.H.length env s.heap.objs.size o:=by
 refine⟨λi hi q=>?_,?_,?_,nd⟩
 ·refine aj (r.hr.at_ i (σ.H[i]) (zG hi)) λob h1 _=>?_
  have:=ZB h1
  rw[q]at this;exact ZJ _ this
 ·cases q:c.h₁.get? s.heap.objs.size with
  |none=>rfl
  |some o=>exact(r.hr.nosz o q).elim
 ·intro q
  refine aj (r.lo) λm hm _=>?_
  have:=hm.lt
  rw[←q]at this;exact ZJ _ this
theorem F8(G:I.Good c){target2 iter2:Expr}{ifs2:List Expr}(hg:gens[d]?=some ⟨target,iter,[],0⟩)(hn:gens[d+1]?=some ⟨target2,iter2,ifs2,0⟩)(ht:∀it v,letOwnedTupleGo target (.ref it) v=pure ())(hs:∀env x,foldedSetIterable iter2 env x=pure x)(h100:100≤k)(ok:I.ok σ.H)(ha:I.items[i]?=none):CL c F k elt gens sc pos d I J i σ σ:=
 λ{A ρ s env R it o s₀ ρ₀ n₀} h0 K r hit ho fr st jl q=>pT hg hn (ht it) (hs env) λE=>G.stop (K.2.2 h100) r ok hit ho ha fr.ap λh' tk hk=>q ρ _ (r.other hit fr hk) (st.other h0 hk) rfl
theorem Dc(O:c.Ok)(G:I.Good c){I2:qc}(G2:I2.Good c){target2 iter2:Expr}{ifs2:List Expr}(hg:gens[d]?=some ⟨target,iter,[],0⟩)(hn:gens[d+1]?=some ⟨target2,iter2,ifs2,0⟩)(ht:∀it v,letOwnedTupleGo target (.ref it) v=pure ())(hs:∀env x,foldedSetIterable iter2 env x=pure x)(ok:I.ok σ.H)(ha:I.items[i]?=some a)
  (h1:As c F k target a σ σ₁)(h2:Ev c F k iter2 σ₁ b σ₂)(h3:Mk c I2 b σ₂)(h4:CL c F k elt gens sc pos (d+1) I2 J 0 σ₂ σ₃)(h5:CL c F k elt gens sc pos d I J (i+1) σ₃ σ'):CL c F k elt gens sc pos d I J i σ σ':=
 λ{A ρ s env R it o s₀ ρ₀ n₀} h0 K r hit ho fr st jl q=>pT hg hn (ht it) (hs env) λE=>G.next r ok hit ho ha fr.ap λh' tk x o' vx hit' ho' hk=>by
  have r':=r.other (tk:=tk) hit fr hk
  have st':=st.other (tk:=tk) h0 hk
  have fr':fx c ρ σ.H.length env it o':=⟨fr.ap,fr.up,fr.ne,G.nd _ _ _ ho'⟩
  refine h1 A ρ _ env _ E x K r' vx λρ1 s1 r1 st1=>h2 A ρ1 s1 env _ E K r1 λρ2 s2 y r2 st2 vy=>h3 r2 vy λo2 t2 ho2 hf2=>?_
  have st12:=st1.trans st2
  have hp:=HP.of_push (o:=o2) r2
  have g2:(s2.heap.push o2).get? s2.heap.objs.size=some o2:=ZN _ hf2
  refine iI (s:={s2 with heap:=s2.heap.push o2,toks:=t2}) G2 g2 ho2 hn ?_
  have jl2:=ZE jl st12.le
  rw[←st12.ag J jl]
  refine h4 (s₀:=s2) (ρ₀:=ρ2) (n₀:=σ₂.H.length) (e7 s2.heap) K (r2.push o2 t2) g2 ho2 (r2.newFree (G2.nd _ _ _ ho2)) (hp.step t2) jl2 λρ3 s3 r3 st3 e3=>al _ rfl ?_
  have st13:=st12.trans st3
  refine aO (fr'.step O (s:={s with heap:=h',toks:=tk}) hit' st13) λfr4 hit4=>?_
  have ho4:I.obj ρ3 (i+1) o':=G.ag ρ ρ3 σ.H (i+1) o' ok ho' λj hj=>st13.ag j hj
  rw[←e3]
  exact h5 h0 K r3 hit4 ho4 fr4 (st'.trans st13) (ZE jl st13.le) λρ' s' rr ss ee=>q ρ' s' rr ss (ee.trans (st13.ag J jl))
end
noncomputable def fq(sc:Scope)(env:Env):Scope:={sc with names:=sc.names.map λx=>if(x.2== .free&&env.scope.kind== .function&&env.kindOf x.1==some .cell)=true then(x.1,.cell)else(x.1,x.2)}
theorem sY{scope:Scope}{newAcc first:Sem Value}{g:Comprehension}{gs:List Comprehension}{cl:List (Str×Addr)}(hclo:closureFor scope env=pure cl)
  (hcl:clausesOf e=g::gs)(hs:∀x,foldedSetIterable g.iter env x=pure x)(hkind:scope.kind=.function)(hnames:∀x∈scope.names,x.2=.local→(fq scope env).names.lookup x.1=some .local)
  (h:wpAny M A first (λx s₁=>wpAny M A (pyIter x) (λit s₂=>wpAny M A newAcc (λacc s₃=>
   wpAny M A (newFunctionEnv scope env.globals cl [] env.qual none .none (some env)) (λcenv s₄=>
    codeAny M A (.compStart e 0 it acc {cenv with scope:=fq scope env}) (λr s'=>r=.ok .next∧∃m,s'.heap.Ns cenv.locals m∧∀h',Heap.SameBut cenv.locals s'.heap h'→Q acc {s' with heap:=h'}) s₄) E s₃) E s₂) E s₁) E s):
  wpAny M A (comprehension e scope env pos newAcc false first) Q E s:=by
 unfold comprehension
 rw[hclo,hcl]
 refine YC (YE h (λx s₁ h₁=>YC (YG (YC (wpAny_of_eq (hs x) (YC (YF (YE h₁ (λit s₂ h₂=>
  wpAny_standIf (YC (YE h₂ (λacc s₃ h₃=>YC (YD (YC (YE h₃ (λcenv s₄ h₄=>?_) λ_ _ h'=>h')))) λ_ _ h'=>h')))
   λ_ _ h'=>h'))))))) λ_ _ h'=>h')
 dsimp only
 have hv:∀x∈(scope.names.filter λx=>(x.2== .local||x.2== .cell)&&x.1 != (".0":Str)).reverse,x.2=.local→
   Env.kindOf {cenv with scope:=fq scope env} x.1=some .local:= λx hx hl=>hnames x (ZQ.mp (List.mem_reverse.mp hx)).1 hl
 refine YF (YC (wpAny_attempt (YF (wpAny_run (codeAny_mono h₄ λr s' hr=>?_)))))
 refine E1 hr ?_;clear hr;intro z0 m hn hr;subst z0
 exact YC (YF (wpAny_comp_letGo (cenv:={cenv with scope:=fq scope env}) hkind _ s' m hv hn λh' m' _ hs'=>YD (hr h' hs')))
theorem eu.other(r:eu c ρ H h)(ap:∀i,i<H.length→ρ i≠it)(up:c.h₁.get? it=none)(hk:∀b ob,h.get? b=some ob→b≠it→h'.get? b=some ob):eu c ρ H h':=by
 have nb:∀b ob,c.h₁.get? b=some ob→b≠it:= λb ob e=>by rintro rfl;rw[up]at e;cases e
 refine⟨λi ao e=>?_,r.inj,r.up,λb ob e t=>hk b ob (r.base b ob e t) (nb b ob e),λob e=>?_⟩
 ·refine aj (r.at_ i ao e) λob h1 h2=>?_
  exact al ob (hk _ _ h1 (ap i (aq e))) h2
 ·exact(r.tj ob e).imp (λz=>hk _ _ z (nb _ _ e)) λ⟨z1,z2,vs,more,z3,z4⟩=>bS z1 z2 vs more z3 (hk _ _ z4 (nb _ _ e))
theorem cN{L:Addr→Prop}(hk:∀b o,s.heap.get? b=some o→s'.heap.get? b=some o)(ho:s'.os=s.os):aM c ρ n L s ρ n s':=
 ⟨λ_ _=>rfl,ZA _,λi h1 h2=>absurd h2 (ZX.mpr h1),⟨λb o e=>⟨o,hk b o e⟩,λb o e _ _ _=>al o (hk b o e) .refl⟩,ho⟩
theorem aM.drop{L:Addr}(st:aM c ρ n (· =L) s ρ' n' s')(h0:s.heap.get? L=none)(hk:∀b ob,s'.heap.get? b=some ob→b≠L→h'.get? b=some ob):aM c ρ n (λ_=>False) s ρ' n' {s' with heap:=h'}:=by
 have nb:∀b o,s.heap.get? b=some o→b≠L:= λb o e=>by rintro rfl;rw[h0]at e;cases e
 refine⟨st.ag,st.le,st.nw,⟨λb o e=>?_,λb o e t hL hr=>?_⟩,st.os⟩
 ·refine bp (st.kp.1 b o e) λo' e'=>?_
  exact⟨o',hk _ _ e' (nb b o e)⟩
 ·refine aj (st.kp.2 b o e t (nb b o e) hr) λo' e' l'=>?_
  exact al o' (hk _ _ e' (nb b o e)) l'
structure cz(F:Fs)(sc sc':Scope)(cl:List (Str×Nat)):Prop where
 clo:∀(env:Env)(g:Nat→Addr),env.cells=F.cells.map (λp=>(p.1,g p.2))→closureFor sc env=pure (cl.map λp=>(p.1,g p.2))
 own:∀env:Env,env.scope=F.scope→fq sc env=sc'
 sub:∀p∈cl,p∈F.cells
 kind:sc.kind=.function
 names:∀x∈sc.names,x.2=.local→sc'.names.lookup x.1=some .local
 nocell:∀x∈sc.names,x.2≠.cell
 dot:sc'.names.lookup (".0":Str)≠none
theorem fZ{rest:List Comprehension}{sc':Scope}{cl:List (Str×Nat)}{I:qc}(O:c.Ok)(G:I.Good c)(S:cz F sc sc' cl)(hs:∀env x,foldedSetIterable iter env x=pure x)
  (h1:Ev c F k iter σ a σ₁)(h2:Mk c I a σ₁)(ok:I.ok σ₁.H)(hlt:σ₁.H.length<H'.length)(h3:CL c ⟨sc',cl⟩ k elt (⟨target,iter,ifs,0⟩::rest) sc pos 0 I σ₁.H.length 0 ⟨[],σ₁.H++[.list []]⟩ ⟨loc',H'⟩):
  Ev c F k (.ListComp elt (⟨target,iter,ifs,0⟩::rest) sc pos) σ (.obj σ₁.H.length) ⟨σ₁.loc,H'⟩:= λA ρ s env Q E K r q=>by
 rw[eval_ListComp]
 refine sY (cl:=cl.map λp=>(p.1,ρ p.2)) (S.clo env ρ r.ce) rfl (hs env) S.kind (by rw[S.own env r.sc];exact S.names) ?_
 refine h1 A ρ s env _ E K r λρ1 s1 x r1 st1 vx=>h2 r1 vx λo t ho hf=>?_
 have fr1:=r1.newFree (o:=o) (G.nd _ _ _ ho)
 have r2:=r1.push o t
 have hp:=HP.of_push (o:=o) r1
 have g2:(s1.heap.push o).get? s1.heap.objs.size=some o:=ZN _ hf
 refine bb (({s1 with heap:=s1.heap.push o,toks:=t}:Shared)) λs2 es2=>?_
 rw[←es2]at r2 ⊢
 have g2':s2.heap.get? s1.heap.objs.size=some o:=by rw[es2];exact g2
 have st2:aM c ρ1 σ₁.H.length (· =env.locals) s1 ρ1 σ₁.H.length s2:=by rw[es2];exact hp.step t
 refine wpAny_newList ?_ (by decide)
 refine br λGz kz=>?_
 refine aO (r2.alloc (ao:=.list []) (ob:={cls:=.type "list",data:=.seq [].toArray}) s2.toks rfl (cH [] _ rfl .nil)) λr3 st3=>?_
 have e3:gj ρ1 σ₁.H.length s2.heap.objs.size σ₁.H.length=s2.heap.objs.size:=aF
 refine aO (fr1.step O (s:=s2) g2' st3) λfr3 g3=>?_
 have ho3:I.obj (gj ρ1 σ₁.H.length s2.heap.objs.size) 0 o:=G.ag ρ1 _ σ₁.H 0 o ok ho λj hj=>bc hj
 have ag3:∀j,j<σ.H.length→gj ρ1 σ₁.H.length s2.heap.objs.size j=ρ j:= λj hj=>(st1.trans (st2.trans st3)).ag j hj
 refine bb (({s2 with heap:=s2.heap.push {cls:=.type "list",data:=.seq [].toArray},toks:=s2.toks}:Shared)) λs3 es3=>?_
 refine kz ?_
 change wpAny _ _ _ _ _ ({s2 with heap:=s2.heap.push {cls:=.type "list",data:=.seq [].toArray},toks:=s2.toks}:Shared)
 rw[←es3]at r3 st3 g3 ⊢
 have l3:(σ₁.H++[AO.list []]).length=σ₁.H.length+1:=by simp
 have k12:∀b ob,s1.heap.get? b=some ob→s2.heap.get? b=some ob:= λb ob e=>by rw[es2];exact zH _ e
 have k23:∀b ob,s2.heap.get? b=some ob→s3.heap.get? b=some ob:= λb ob e=>by rw[es3];exact zH _ e
 have stA:∀L:Addr→Prop,aM c ρ1 σ₁.H.length L s1 (gj ρ1 σ₁.H.length s2.heap.objs.size) (σ₁.H++[AO.list []]).length s3:= λL=>by
  refine(cN k12 (by rw[es2])).trans ?_
  rw[l3,es3]
  exact cY _ _
 generalize gj ρ1 σ₁.H.length s2.heap.objs.size=ρ3 at*
 refine wpAny_newFunctionEnv S.nocell (λx hx=>nomatch hx) (λh' hns hsb=>?_) S.kind
 have k34:∀b ob,s3.heap.get? b=some ob→h'.get? b=some ob:= λb ob e=>hsb.extBut b ob (Z7 (ZB e)) (zH _ e)
 refine bb (({newEnv sc s3.heap.objs.size env.globals (cl.map λp=>(p.1,ρ p.2)) env.qual none .none (some env) builtinsNs with scope:=fq sc env}:Env)) λcenv ec=>?_
 have cl_l:cenv.locals=s3.heap.objs.size:=by rw[ec];rfl
 have r4:aW c A ⟨sc',cl⟩ ρ3 ⟨[],σ₁.H++[.list []]⟩ {s3 with heap:=h',toks:=s3.toks} cenv:=by
  refine⟨⟨λi ao e=>?_,r3.hr.inj,r3.hr.up,λb ob e t=>k34 _ _ (r3.hr.base b ob e t),λob e=>?_⟩,?_,?_,?_,?_,λp hp=>?_,⟨_,by rw[cl_l];exact hns,λx v hv=>nomatch hv⟩,λi hi=>?_,?_,r3.ge,r3.sk.same rfl λb ob es ep g1 g2 _ _=>⟨ob,es,ep,k34 _ _ g1,g2⟩,λz z2=>?_,λz=>absurd z S.dot⟩
  ·refine aj (r3.hr.at_ i ao e) λob z1 z2=>?_
   exact al ob (k34 _ _ z1) z2
  ·exact(r3.hr.tj ob e).imp (λz=>k34 _ _ z) λ⟨z1,z2,vs,more,z3,z4⟩=>bS z1 z2 vs more z3 (k34 _ _ z4)
  ·rw[ec];exact S.own env r.sc
  ·rw[ec];exact r.gl
  ·rw[ec];exact r.bl
  ·rw[ec]
   show(cl.map λp=>(p.1,ρ p.2))=cl.map λp=>(p.1,ρ3 p.2)
   exact ZO λp hp=>by rw[ag3 _ (r.ci p (S.sub p hp))]
  ·show p.2<(σ₁.H++[AO.list []]).length
   rw[l3];have:=r.ci p (S.sub p hp);have:=st1.le;lia
  ·rw[cl_l];exact(r3.newFree (o:=o) (G.nd _ _ _ ho)).ap i hi
  ·rw[cl_l];exact(r3.newFree (o:=o) (G.nd _ _ _ ho)).up
  ·rw[ec]at z2;cases z2
 have g4:h'.get? s1.heap.objs.size=some o:=k34 _ _ g3
 have fr4:fx c ρ3 (σ₁.H++[AO.list []]).length cenv s1.heap.objs.size o:=⟨fr3.ap,fr3.up,by rw[cl_l];exact Z7 (ZB g3),fr3.nd⟩
 have eg:({newEnv sc s3.heap.objs.size env.globals (cl.map λp=>(p.1,ρ p.2)) env.qual none .none (some env) builtinsNs with scope:=fq sc env}:Env)=cenv:=ec.symm
 rw[eg]
 have eS:Value.ref s2.heap.objs.size=Value.ref (ρ3 σ₁.H.length):=by rw[e3]
 rw[eS]
 refine iI (s:={s3 with heap:=h',toks:=s3.toks}) G g4 ho3 rfl ?_
 refine h3 (s₀:=s1) (ρ₀:=ρ1) (n₀:=σ₁.H.length) (e7 s1.heap) K r4 g4 ho3 fr4 ((stA _).trans (cN k34 rfl)) (by rw[l3];exact Zb _) λρ5 s5 r5 st5 e5=>⟨rfl,?_⟩
 refine aj (r5.lo) λm hm _=>?_
 refine al m (by rw[←cl_l];exact hm) λh6 hs6=>?_
 have kk:∀b ob,s5.heap.get? b=some ob→b≠cenv.locals→h6.get? b=some ob:= λb ob e hne=>(hs6.2 b (by rw[cl_l]at hne;exact hne)).trans e
 have n1:s1.heap.get? cenv.locals=none:=by
  cases z:s1.heap.get? cenv.locals with
  |none=>rfl
  |some ob=>
   have:=ZB (k23 _ _ (k12 _ _ z))
   rw[cl_l]at this;exact absurd this (ZJ _)
 have st6:=st5.drop n1 kk
 have hr6:=r5.hr.other r5.ap r5.lf kk
 refine aO (r1.after (s':={s5 with heap:=h6}) O hr6 r5.ge st6) λr7 st7=>?_
 exact q ρ5 _ _ r7 (st1.trans st7) ⟨hlt,by rw[e5]⟩
noncomputable def Er:=d7 dP 35
noncomputable def wr:=jZ dP 35
theorem rM(P:Params):dz P 886 Er wr:=by constructor<;>w_on
theorem Bu(P:Params)(x:Value)(S:Setting):peek (Kx P) S (bindArgs (dw P 886) ⟨[x],[]⟩)=some [(("s":Str),x)]:=by w_on
theorem sq(P:Params):nsIn (Kx P) mainGlobals ("_find_unsafe":Str)=some (some (.ref 879)):=by w_on
theorem HU(P:Params)(S:Setting):peek (Kx P) S (keeperOf (.ref 879))=some .machine:=by w_on
noncomputable def xI(P:Params):Addr:=match(wl P 879).data with
 | .fields vs=>(match vs.toList with|_::Value.ref a::_=>a|_=>0)
 |_=>0
theorem IN(P:Params)(x:Value)(S:Setting):peek (Kx P) S (callAny (.ref 879) ⟨[x],[]⟩)=some (.again (.builtin "re.Pattern.search" ⟨[.ref (xI P),x],[]⟩)):=by w_on
theorem pY:entryFor table "re.Pattern.search"=some Builtin.«re.Pattern.search»:=entryFor_of_tree (by w_on)
noncomputable def jG(P:Params)(S:Setting)(x:Str):Prop:=∀t D,kO (Kx P) S D (Builtin.«re.Pattern.search» ⟨[.ref (xI P),.str x t],[]⟩)=some ([],.done (.ret .none))
noncomputable def gc(P:Params)(S:Setting)(x:Str):Prop:=∀t D,∃os v,kO (Kx P) S D (Builtin.«re.Pattern.search» ⟨[.ref (xI P),.str x t],[]⟩)=some (os,.done (.ret v))∧(v== .none)=false
theorem Jf(P:Params)(S:Setting):jG P S "a":= λt D=>by w_on
theorem I9(P:Params)(S:Setting):jG P S "d":= λt D=>by w_on
noncomputable def BY:Fin→Value
 | .done (.ret v)=>v
 |_=>.none
theorem AR(P:Params)(S:Setting)(x:Str)(h:∀t D,kO (Kx P) S D (Builtin.«re.Pattern.search» ⟨[.ref (xI P),.str x t],[]⟩)=(kO (Kx P) S D (Builtin.«re.Pattern.search» ⟨[.ref (xI P),.str x t],[]⟩)).bind (λr=>some (r.1,.done (.ret (BY r.2))))∧((kO (Kx P) S D (Builtin.«re.Pattern.search» ⟨[.ref (xI P),.str x t],[]⟩)).map λr=>BY r.2== .none)=some false):gc P S x:= λt D=>by
 refine aO (h t D) λh1 h2=>aj (Z6.mp h2) λr e1 e2=>?_
 rw[e1]at h1
 exact cH r.1 (BY r.2) (by rw[e1];exact h1) e2
theorem HN(P:Params)(S:Setting):gc P S "b c":=AR P S _ λt D=>⟨by w_on,by w_on⟩
theorem Gh(P:Params)(S:Setting):gc P S "it's":=AR P S _ λt D=>⟨by w_on,by w_on⟩
theorem C7(P:Params)(S:Setting):gc P S "*":=AR P S _ λt D=>⟨by w_on,by w_on⟩
noncomputable abbrev G8(c:Cx)(F:Fs)(n k:Nat)(e:Expr)(σ:St)(v:AV)(σ':St):Prop:=Ga c F n k (eval e) σ (λρ=>VR ρ σ'.H.length v) σ'
theorem wI{e₁ e₂:Expr}{op}{pos:_}(h1:G8 c F n k e₁ σ a σ₁)(h2:G8 c F n k e₂ σ₁ b σ₂)(h3:du c F k (binaryOp op) a b σ₂ v σ₃):G8 c F n k (.BinOp e₁ op e₂ pos) σ v σ₃:= λA ρ s env Q E hn K r h=>
 wpAny_BinOp (wpAny_with_toks hn (h1 A ρ s env _ _ hn K r λρ1 s1 x r1 st1 va hn1=>h2 A ρ1 s1 env _ E hn1 K r1 λρ2 s2 y r2 st2 vb=>h3 A ρ2 s2 env _ E x y K r2 (st2.vr va) vb λρ3 s3 z r3 st3 vz=>h ρ3 s3 z r3 ((st1.trans st2).trans st3) vz))
theorem o7{st:Stmt}{f:AF}(h1:Ex c F k st σ .next σ₁)(h2:uW c F n k rest σ₁ f σ₂):uW c F n k (st::rest) σ f σ₂:= λA ρ s env Q E hn K r h=>
 YH (wpAny_with_toks hn (h1 A ρ s env _ _ K r λρ1 s1 x r1 st1 vx hn1=>by
  rw[show x=.next from vx];exact h2 A ρ1 s1 env _ E hn1 K r1 λρ2 s2 y r2 st2 vy=>h ρ2 s2 y r2 (st1.trans st2) vy))
theorem BP{pos:_}(h1:G8 c F n k e σ v σ₁):uW c F n k (.Return (some e) pos::rest) σ (.ret v) σ₁:= λA ρ s env Q E hn K r h=>
 YH (wpAny_Return_some (h1 A ρ s env _ E hn K r λρ1 s1 x r1 st1 vx=>h ρ1 s1 _ r1 st1 (al x rfl vx)))
theorem tq{f:AF}(h:uW c F n k body σ f ⟨loc,H⟩):uW c F n k body σ f ⟨[],H⟩:= λA ρ s env Q E hn K r q=>
 h A ρ s env Q E hn K r λρ' s' a r' st v=>q ρ' s' a r'.forget st v
theorem tV{o:Expr}{q1 q2:Nat}{z:Str}(hn:0<n)(hyz:(y==z)=false)(hx:x.length≤1048576)(hz:z.length≤14)
  (he:∀env,eval (.Call (.Attribute o "replace" apos) [.Constant (.str y) q1 p1,.Constant (.str z) q2 p2] [] pos) env=(do
   let ov←eval o env
   standAt apos.atName
   let(f,first)←holding [ov] (getMethod ov "replace" (gD o env))
   callWith pos f first (backTo pos (starEach [.Constant (.str y) q1 p1,.Constant (.str z) q2 p2] env)) []))
  (h0:Ev c F k o σ (.str x) σ₁):G8 c F n k (.Call (.Attribute o "replace" apos) [.Constant (.str y) q1 p1,.Constant (.str z) q2 p2] [] pos) σ (.str (Txt.replace x y z)) σ₁:= λA ρ s env Q E hns K r h=>
 MethodCall_ (pl:=gD o env) (wpAny_with_toks hns (h0 A ρ s env _ _ K r λρ1 s1 xv r1 st1 vx hn1=>by
  refine bp vx ?_;clear vx;intro t z0;subst z0
  refine getMethod_builtin (typeIs_str _ x t) PySem.F.plainAttrs_str PySem.F.slot_str_replace PySem.F.type_str_replace (λa e=>by cases e) ?_
  refine cu ?_
  refine Calls.evalArgs_plain (x:=eval (.Constant (.str y) q1 p1) env) (rest:=backTo pos (starEach [.Constant (.str z) q2 p2] env)) ?_
  refine Calls.spliced_cons (Calls.Constant_str (k:=q1) (pos:=p1) (Calls.spliced_cons (Calls.Constant_str (k:=q2) (pos:=p2) (Calls.spliced_nil ⟨⟨.machine,Looks.of_pure rfl⟩,?_⟩))))
  refine SC.replaceW (by show s1.toks≠(0:Nat);lia) (by show s1.toks+1≠(0:Nat);lia) (by show s1.toks≠(s1.toks+1:Nat);lia) hyz hx hz λt' kk=>?_
  exact h ρ1 _ _ (r1.toks kk) (st1.trans (.toks kk)) ⟨t',rfl⟩)) (he env)
theorem oh{A:Around}{ρ:Nat→Addr}{env:Env}:∀(os:List Obj){s:Shared}(r:aW c A F ρ σ s env),aW c A F ρ σ {s with heap:=uJ s.heap os} env∧∀b o,s.heap.get? b=some o→(uJ s.heap os).get? b=some o
 | [],s,r=>⟨r,λ_ _ e=>e⟩
 |o::os,s,r=>by
  refine aO (oh os (s:={s with heap:=s.heap.push o}) (r.push o s.toks)) λh1 h2=>?_
  exact⟨h1,λb ob e=>h2 b ob (zH _ e)⟩
theorem pg{cpos:Pos}{q:Nat}(G:c.Go)
  (he:∀env,eval (.Call func [e] [] pos) env=(do callWith pos (←eval func env) [] (backTo pos (starEach [e] env)) (backToKw pos (keywordEach [] env))))
  (hst:∀env,starEach [e] env=[(false,eval e env)])
  (h0:Ev c F k func σ (.val (.ref 879)) σ₁)(h1:Ev c F k e σ₁ (.str x) σ₂)(h2:if t=true then jG c.w.params ⟨c.prog,c.w.params⟩ x else gc c.w.params ⟨c.prog,c.w.params⟩ x):
  Te c F k (.Compare (.Call func [e] [] pos) [.Is] [.Constant .none q p1] cpos) σ t σ₂:= λA ρ s env Q E K r h=>
 wpAny_isTrue_Compare1 (by
  rw[he env]
  refine YC (h0 A ρ s env _ E K r λρ1 s1 f r1 st1 vf=>?_)
  subst vf
  refine cu ?_
  rw[hst env]
  refine Calls.evalArgs_plain (x:=eval e env) (rest:=[]) ?_
  refine Calls.spliced_cons (h1 A ρ1 s1 env _ E K r1 λρ2 s2 xv r2 st2 vx=>Calls.spliced_nil ⟨⟨.machine,Looks.of_peek (r2.X G.ok) (by rw[G.hK];exact HU _ _)⟩,?_⟩)
  refine bp vx ?_;clear vx;intro tk z0;subst z0
  have X2:(Kx c.w.params).In s2.heap:=by have:=r2.X G.ok;rw[G.hK]at this;exact this
  refine wpAny_call (codeAny_of_tree ?_)
  show wpAny _ _ (callAny (.ref 879) ⟨[.str x tk],[]⟩) _ _ _
  refine(Looks.of_peek (M:=c.M) X2 (IN _ _ _)).here ⟨Code.quiet_builtin _ (by decide+kernel),codeAny_builtin pY ?_⟩
  cases t with
  |true=>
   rw[if_pos rfl]at h2
   refine hW _ s2 _ X2 (h2 tk _) ?_
   refine Constant_none ?_
   refine is_none_gen (wpAny_truthy_bool (h ρ2 s2 _ r2 (st1.trans st2) rfl))
  |false=>
   rw[if_neg Z0]at h2
   refine ds (h2 tk s2.heap.objs.size) λos y e1 e2=>?_
   refine hW _ s2 _ X2 e1 ?_
   refine aO (oh os r2) λr3 k3=>?_
   refine Constant_none ?_
   refine is_none_gen (wpAny_truthy_bool (h ρ2 _ _ r3 ((st1.trans st2).trans (cN k3 rfl)) e2))) rfl
noncomputable def xS:Fs:=⟨wr,[]⟩
theorem gI:xS.scope.kind=.function:=by w_on
theorem sy(h:∀(ρ:Nat→Addr)(n:Nat)(s:Shared)(xs:List Value)(ks:List (Str×Value)),c.K.In s.heap→cF ρ n args xs→lV ρ n kw ks→∃binds,BindsTo s fd ⟨xs,ks⟩ binds∧lV ρ n loc binds)(O:c.Ok):iW c fd args kw H loc H:= λρ s xs ks hr hx hk=>by
 refine aj (h ρ _ s xs ks (hr.X O) hx hk) λbinds b1 b2=>?_
 exact cG ρ s binds (λM A' E Q _ _ hq=>b1 M A' E Q hq) hr ⟨rfl,rfl⟩ .refl b2
theorem bq(G:c.Go):iW c (dw c.w.params 886) [.str x] [] H [("s",.str x)] H:=sy (λρ m s xs ks X hx hk=>by
 refine mx hx hk λ_ hx=>?_
 rw[G.hK]at X
 refine al [("s",_)] (@bC _ _ _ _ _ X ?_) (.cons hx .nil)
 exact Bu _ _) G.ok
theorem jR(G:c.Go)(h1:((x.length:Int) != 0)=true)(h2:x.length<1000)(hs:jG c.w.params ⟨c.prog,c.w.params⟩ x):Fn c (k+1) (.ref 886) [.str x] [] H (.str x) H:=by
 refine qC (fl:=.ret (.str x)) (loc:=[("s",.str x)]) G (rM _) (by w_on) (by w_on) (bq G) ?_
 apply aK (loc:=[("s",.str x)])
 k_dflt refine' ae (σ₁:=⟨[("s",.str x)],H⟩) ?_ (bv ?_)
 ·exact aL (F:=xS) (t:=false) (AW (bP (λ_ _=>rfl) (aa gI rfl rfl) (dX (by lia) h1))) ar
 ·exact aL (F:=xS) (t:=true) (pg G (λ_=>rfl) (λ_=>rfl) (dp G gI rfl (sq _)) (aa gI rfl rfl) (by rw[if_pos rfl];exact hs)) (bv (aX (aa gI rfl rfl)))
noncomputable def re(x:Str):Str:=(("'":Str)++Txt.replace x "'" "'\"'\"'")++("'":Str)
theorem fU(G:c.Go)(h1:((x.length:Int) != 0)=true)(h2:x.length<1000)(hs:gc c.w.params ⟨c.prog,c.w.params⟩ x)(l1:(("'":Str)++Txt.replace x "'" "'\"'\"'").length≤sizeLine)(l2:(re x).length≤sizeLine)
  (n1:(Txt.replace x "'" "'\"'\"'").length≠0)(n2:(("'":Str)++Txt.replace x "'" "'\"'\"'").length≠0):Fn c (k+1) (.ref 886) [.str x] [] H (.str (re x)) H:=by
 refine Cp (fl:=.ret (.str (re x))) (loc:=[("s",.str x)]) G (rM _) (by w_on) (by w_on) (bq G) ?_
 apply tq (loc:=[("s",.str x)])
 k_dflt refine' o7 (σ₁:=⟨[("s",.str x)],H⟩) ?_ (o7 (σ₁:=⟨[("s",.str x)],H⟩) ?_ (BP ?_))
 ·exact aL (F:=xS) (t:=false) (AW (bP (λ_ _=>rfl) (aa gI rfl rfl) (dX (by lia) h1))) ar
 ·exact aL (F:=xS) (t:=false) (pg G (λ_=>rfl) (λ_=>rfl) (dp G gI rfl (sq _)) (aa gI rfl rfl) (by rw[if_neg Z0];exact hs)) ar
 ·exact wI (F:=xS) (wI bn.toT (tV (Nat.succ_pos _) (by decide) (by lia) (by decide) (λ_=>rfl) (aa gI rfl rfl)) (tS l1 (λh=>absurd h (by decide)) (λh=>absurd h n1))) bn.toT (tS l2 (λh=>absurd h n2) (λh=>absurd h (by decide)))
noncomputable def names:List Str:=["a","b c","it's","d","*"]
noncomputable def qf(x:Str):Str:=if x="a"∨x="d" then x else re x
theorem Ae(G:c.Go)(h:x∈names):Fn c (k+1) (.ref 886) [.str x] [] H (.str (qf x)) H:=by
 simp only[names,ZI,List.mem_nil_iff,or_false]at h
 rcases h with rfl|rfl|rfl|rfl|rfl
 ·exact jR G (by decide) (by decide) (Jf _ _)
 ·exact fU G (by decide) (by decide) (HN _ _) (by decide+kernel) (by decide+kernel) (by decide+kernel) (by decide+kernel)
 ·exact fU G (by decide) (by decide) (Gh _ _) (by decide+kernel) (by decide+kernel) (by decide+kernel) (by decide+kernel)
 ·exact jR G (by decide) (by decide) (I9 _ _)
 ·exact fU G (by decide) (by decide) (C7 _ _) (by decide+kernel) (by decide+kernel) (by decide+kernel) (by decide+kernel)
theorem CB(P:Params):nsIn (Kx P) mainGlobals ("quote":Str)=some (some (.ref 886)):=by w_on
theorem ID(P:Params)(S:Setting):peek (Kx P) S (keeperOf (.ref 886))=some .frame:=by w_on
theorem yd(G:c.Go){cenv:Env}{A':Around}{s₂:Shared}{m₂:Str→Option Value}{t:Tok}{E':Value→Shared→Prop}(hns:s₂.heap.Ns cenv.locals m₂)(hm:m₂ ("arg":Str)=some (.str x t))(hx:x∈names)
  (hk:cenv.scope.kind=.function)(ha:cenv.scope.names.lookup ("arg":Str)=some .local)(hq:cenv.scope.names.lookup ("quote":Str)=some .globalImplicit)(hgl:cenv.globals=mainGlobals)
  (X:c.K.In s₂.heap)(hg:s₂.heap.Ns mainGlobals c.mg)(hb:s₂.heap.Ns builtinsNs c.mb)(hl:s₂.heap.NoLimit)(hC:c.K.lookup cenv.locals=none)(h1:mainGlobals≠cenv.locals)(h2:builtinsNs≠cenv.locals)(h3:cStatics≠cenv.locals)
  (hd:A'.depth+4≤900)(hu:A'.units+12≤9000):
  wpAny c.M A' (eval (.Call (.Name "quote" p1) [.Name "arg" p2] [] pos) cenv) (λy s₃=>(∃u,y=.str (qf x) u)∧Keeps s₂ s₃) E' s₂:=by
 refine dh (id hns) λoC esC epC gC dC _=>?_
 let c':Cx:={c with h₁:=s₂.heap,tj:=cenv.locals,gq:= λg d=>g=s₂.gens∧d=s₂.drawn,rz:=false}
 have O':c'.Ok:=⟨X,hC,⟨oC,gC⟩,hg,h1,hb,h2,hl,h3,G.ok.bi⟩
 have G':c'.Go:=⟨O',G.hK⟩
 show wpAny _ _ (do callWith pos (←eval (.Name "quote" p1) cenv) [] (backTo pos (starEach [.Name "arg" p2] cenv)) (backToKw pos (keywordEach [] cenv))) _ _ _
 refine YC (Calls.Name_function_global hk (by unfold Env.kindOf;exact hq) (Calls.loadGlobal_global (mg:=c.mg) (by rw[hgl];exact hg) (mg_of (K:=c.K) X hg (by rw[G.hK];exact CB _)) ?_) (by decide))
 refine cu ?_
 refine Calls.evalArgs_plain (x:=eval (.Name "arg" p2) cenv) (rest:=[]) ?_
 refine Calls.spliced_cons (wpAny_Name (wpAny_loadName_local hk (by unfold Env.kindOf;exact ha) hns hm (Calls.spliced_nil ⟨⟨.frame,Looks.of_peek X (by rw[G.hK];exact ID _ _)⟩,?_⟩)) (by decide))
 refine wpAny_call ((Ae (c:=c') (k:=0) (H:=[]) G' hx) A' (λ_=>0) s₂ [.str x t] [] _ ⟨by lia,by lia,λz=>absurd z (by decide)⟩ ?_ ⟨rfl,rfl⟩ (λz=>by cases z) (.cons ⟨t,rfl⟩ .nil) .nil λρ' s' y hr' ge' st' vy=>?_)
 ·exact⟨(λi o e=>(by simp at e)),(λi j hi=>absurd hi (Nat.not_lt_zero _)),(λi hi=>absurd hi (Nat.not_lt_zero _)),(λb o e _=>e),(λo e=>Or.inl e)⟩
 ·refine⟨vy,s'.heap,s'.toks,?_,λb o e=>?_⟩
  ·refine br λGz kz=>?_
   obtain⟨hp',g',d',t',o'⟩:=s'
   refine aO ge' λe1 e2=>?_
   refine kz ?_
   have e3:=st'.os
   dsimp only at e1 e2 e3
   subst e1 e2 e3
   rfl
  ·by_cases hb:b=cenv.locals
   ·subst hb
    rcases hr'.tj o e with z|⟨_,_,vs,more,⟨z,_⟩,_⟩
    ·exact z
    ·have e':s₂.heap.get? cenv.locals=some o:=e
     rw[gC]at e';cases e'
     rw[dC]at z;cases z
   ·exact hr'.base b o e hb
theorem CA{fl:AF}(O:c.Ok)
  (hf:c.K.lookup f=some ⟨oc,od,.func fd,osl⟩)(hcd:codeIn c.K fd.code fd.qualname=true)(hbody:fd.body=.stmts body)(hcl:fd.closure=[])(hgl:fd.globals=mainGlobals)(hbl:fd.builtins=builtinsNs)
  (hcell:∀x∈fd.scope.names,x.2≠.cell)(hco:fd.scope.isCoroutine=false)(hgen:fd.scope.isGenerator=false)(hk:fd.scope.kind=.function)
  (nd:decide (loc.map (·.1)).Nodup=true)(lo:(loc.all λp=>fd.scope.names.lookup p.1==some .local)=true)
  (bd:iW c fd args kw H loc H1)
  (hb:∀(A:Around)(ρ:Nat→Addr)(s:Shared)(L:Addr)(Q:Flow→Shared→Prop)(E:Value→Shared→Prop),cK k A→aW c A ⟨fd.scope,[]⟩ ρ ⟨loc,H1⟩ s (callEnv fd L f)→
   (∀ρ' s' a,aW c A ⟨fd.scope,[]⟩ ρ' ⟨loc',H'⟩ s' (callEnv fd L f)→aM c ρ H1.length (· =(callEnv fd L f).locals) s ρ' H'.length s'→FR ρ' H'.length fl a→Q a s')→wpAny c.M A (execs body (callEnv fd L f)) Q E s):Fn c (k+1) (.ref f) args kw H fl.val H':= λA ρ s xs ks R K hr ge sk hx hks q=>by
 refine br λGz kz=>?_
 refine c7 (bd ρ s xs ks hr hx hks) λρ1 s1 binds b1 hr1 ge1 st1 b2=>?_
 refine kz ?_
 have sk1:=sk.after O st1
 have nm:=jD b2
 have hloc:∀x∈binds,fd.scope.names.lookup x.1=some .local:= λx hx=>by
  have hm:x.1∈loc.map (·.1):=by rw[←nm];exact List.mem_map_of_mem hx
  refine aj (ZR.mp hm) λp hp e=>?_
  have:=ZG.mp lo p hp
  rw[←e];simpa using this
 have b3:∀x v,loc.lookup x=some v→∃v',binds.reverse.lookup x=some v'∧VR ρ1 H1.length v v':= λx v hv=>by
  refine aj (iB b2 hv) λv' h1 h2=>?_
  exact al v' (by rw[dT (by rw[nm];exact of_decide_eq_true nd)];exact h1) h2
 refine codeAny_call_function K.depth (hr.X O _ _ hf) rfl hco hgen hbody (codeRec_of (hr.X O) hcd) (b1 _ _ _ _ rfl rfl ?_)
 refine wpAny_newFunctionEnv hcell hloc (λh₀ hns hsb₀=>⟨(hr1.lim O).fresh _ hsb₀,codeAny_func ?_⟩) hk
 have hkp:∀b o,s1.heap.get? b=some o→h₀.get? b=some o:= λb o e=>hsb₀.extBut b o (Z7 (ZB e)) (zH _ e)
 have r:aW c (A.deeper (callEnv fd s1.heap.objs.size f)) ⟨fd.scope,[]⟩ ρ1 ⟨loc,H1⟩ {s1 with heap:=h₀,toks:=s1.toks+binds.length} (callEnv fd s1.heap.objs.size f):=
  ⟨⟨λi o e=>let⟨ob,h1,h2⟩:=hr1.at_ i o e;(al ob (hkp _ _ h1) h2),hr1.inj,hr1.up,λb o e t=>hkp _ _ (hr1.base b o e t),λo e=>(hr1.tj o e).imp (λz=>hkp _ _ z) λ⟨z1,z2,vs,more,z3,z4⟩=>bS z1 z2 vs more z3 (hkp _ _ z4)⟩,
   rfl,hgl,hbl,(by show fd.closure=_;rw[hcl];rfl),(λp hp=>nomatch hp),al _ hns b3,λi hi q=>(by
   refine aj (hr1.at_ i (H1[i]) (zG hi)) λob h1 _=>?_
   have:=ZB h1
   rw[show ρ1 i=s1.heap.objs.size from q]at this
   exact ZJ _ this),(by cases q:c.h₁.get? (callEnv fd s1.heap.objs.size f).locals with|none=>rfl|some o=>exact(hr1.nosz o q).elim),(by show c.gq s1.gens s1.drawn;rw[ge1.1,ge1.2];exact ge),(by
   intro hz
   refine aj (sk1 hz) λl l1 l2=>?_
   refine al _ (Around.frames_deeper l1) λe he=>?_
   rcases ZI.mp he with rfl|he
   ·refine dh hns λo es ep g1 g2 _=>?_
    refine eO (by show fd.scope.kind≠.module;rw[hk];decide) s1.heap.objs.size o es ep rfl ?_ g1 g2 λi hi q=>?_
    ·cases q:c.h₁.get? s1.heap.objs.size with
     |none=>rfl
     |some o=>exact(hr1.nosz o q).elim
    ·refine aj (hr1.at_ i (H1[i]) (zG hi)) λob h1 _=>?_
     have:=ZB h1
     rw[q]at this
     exact ZJ _ this
   ·exact(l2 e he).keep (λ_ _=>rfl) (λi h1 h2=>absurd h2 (ZX.mpr h1)) λb o es ep g1 g2 _ _=>bh o es ep (hkp _ _ g1) g2),(λhz _=>by refine aj (sk1 hz) λl l1 _=>?_;exact⟨l,Around.frames_deeper l1⟩),λ_=>⟨rfl,rfl⟩⟩
 refine hb (A.deeper (callEnv fd s1.heap.objs.size f)) ρ1 _ _ _ _ K.deeper r λρ' s' fl' r' st vf=>?_
 have st':aM c ρ1 H1.length (λ_=>False) s1 ρ' H'.length s':=⟨st.ag,st.le,λi h1 h2=>(by
   cases q:s1.heap.get? (ρ' i)with
   |none=>rfl
   |some o=>have:=st.nw i h1 h2;rw[hkp _ _ q]at this;cases this),
  ⟨λb o e=>st.kp.1 b o (hkp _ _ e),λb o e t _ h3=>st.kp.2 b o (hkp _ _ e) t (λz=>by
   have:=ZB e
   rw[show b=s1.heap.objs.size from z]at this
   exact ZJ _ this) h3⟩,st.os⟩
 have st':=st1.trans st'
 cases fl with
 |next=>rw[show fl'=.next from vf];exact q ρ' s' _ r'.hr r'.ge st' rfl
 |brk=>rw[show fl'=.brk from vf];exact q ρ' s' _ r'.hr r'.ge st' rfl
 |cont=>rw[show fl'=.cont from vf];exact q ρ' s' _ r'.hr r'.ge st' rfl
 |ret v=>refine aj vf ?_;clear vf;intro x z0 hx;subst z0;exact q ρ' s' x r'.hr r'.ge st' hx
structure Cx.GoJ(c:Cx):Prop where
 go:c.Go
 tj:c.tj=873
 tab:∃ps,c.h₁.get? 873=some {cls:=.none,data:=.fields ps}∧TriplesOk ps.toList
 gq:c.gq= λg _=>AllBare g
 bmod:∃bm ob,c.mg ("__builtins__":Str)=some (.ref bm)∧bm≠builtinsNs∧c.h₁.get? bm=some ob∧ob.cls=.type "module"∧ob.dict=some builtinsNs∧ob.data=.plain∧bm≠c.tj
noncomputable def gH(P:Params):Array Value:=match(wl P 877).data with| .fields vs=>vs|_=> #[]
noncomputable def E6:Value→Str×Tok| .str x t=>(x,t)|_=>("",0)
noncomputable def pC:Value→Int×Tok| .int x t=>(x,t)|_=>(0,0)
noncomputable def Gy:Value→Bool| .bool x=>x|_=>false
theorem I5(P:Params):(Kx P).lookup 877=some (wl P 877):=by w_on
theorem Az(P:Params):(wl P 877).data=.fields (gH P):=by w_on
theorem EO(P:Params):(wl P 877).cls=.type "code":=by w_on
theorem Iz(P:Params):(gH P).getD 11 .none=.ref 873:=by w_on
theorem E3(P:Params):(gH P)[11]?=some (.ref 873):=by w_on
theorem Io(P:Params):(gH P).getD 18 .none=.str (E6 ((gH P).getD 18 .none)).1 (E6 ((gH P).getD 18 .none)).2:=by w_on
theorem Hz(P:Params):(gH P).getD 7 .none=.int (pC ((gH P).getD 7 .none)).1 (pC ((gH P).getD 7 .none)).2:=by w_on
theorem Ho(P:Params):(gH P).getD 9 .none=.bool (Gy ((gH P).getD 9 .none)):=by w_on
theorem Ix(P:Params):(gH P).getD 10 .none=.int (pC ((gH P).getD 10 .none)).1 (pC ((gH P).getD 10 .none)).2:=by w_on
theorem xM{qual:Str}(J:c.GoJ)(r:eu c ρ H s.heap)(hcode:env.code=.ref 877)
  (h:∀code h' tk,(∀b o,s.heap.get? b=some o→b≠873→h'.get? b=some o)→s.heap.objs.size≤h'.objs.size→(∃o',h'.get? 873=some o')→eu c ρ H h'→Q code {s with heap:=h',toks:=tk}):wpAny c.M A (genexprCode env pos qual sc) Q E s:=by
 refine aj (J.tab) λps t1 t2=>?_
 have O:=J.go.ok
 have k877:c.K.lookup 877=some (wl c.w.params 877):=by rw[J.go.hK];exact I5 _
 have g877:=r.X O _ _ k877
 have b877:=O.X _ _ k877
 have ict:isCodeTable c.h₁ c.tj:=by rw[J.tj];exact jg 877 _ _ b877 (EO _) (Az _) (E3 _)
 have tab:∃more,s.heap.get? 873=some {cls:=.none,data:=.fields (ps++more)}∧TriplesOk (ps++more).toList:=by
  rcases r.tj _ (by rw[J.tj];exact t1)with z|⟨_,_,vs,more,⟨z3,z5⟩,z4⟩
  ·rw[J.tj]at z
   exact al (#[]) (by simpa using z) (by simpa using t2)
  ·cases z3
   rw[J.tj]at z4
   exact al more z4 (z5 t2)
 refine aj tab λmore g873 tr=>?_
 have isC:s.heap.IsCode 877 873 (ps++more):=⟨_,_,_,_,_,_,_,_,_,_,g877,Az _,Iz _,Io _,Hz _,Ho _,Ix _,g873,rfl,tr,by decide⟩
 have isT:s.heap.TableAt 877 873 (ps++more):=⟨dJ _ _ g877 (EO _) (Az _) (E3 _),g873⟩
 cases hf:codeAmong pos (ps++more).toList with
 |some c'=>exact wpAny_genexprCode_hit hcode isC hf (h c' s.heap s.toks (λ_ _ e _=>e) (ZA _) ⟨_,g873⟩ r)
 |none=>
  refine wpAny_genexprCodeX hcode isC isT hf λc' h' tk hx hge hlt hc' _ ht' _=>?_
  have kk:∀b o,s.heap.get? b=some o→b≠873→h'.get? b=some o:= λb o e hne=>hx b o hne e
  refine h _ h' tk kk (Z2 hge (Nat.le_of_lt hlt)) ⟨_,ht'.2⟩ ⟨λi ao e=>?_,r.inj,r.up,λb o e t=>kk b o (r.base b o e t) (by rw[←J.tj];exact t),λo e=>?_⟩
  ·refine aj (r.at_ i ao e) λob z1 z2=>?_
   refine al ob (kk _ _ z1 ?_) z2
   intro q
   have:=r.up i (aq e)
   rw[q,t1]at this;cases this
  ·rw[J.tj]at e
   rw[t1]at e;cases e
   have z:h'.get? 873=some {cls:=.none,data:=.fields (ps++(more++ #[rawInt pos.line,rawInt pos.col,.ref c']))}:=by rw[←Array.append_assoc];exact ht'.2
   refine .inr (bS ict rfl ps (more++ #[rawInt pos.line,rawInt pos.col,.ref c']) ⟨rfl,λ_=>?_⟩ (by rw[J.tj];exact z))
   refine br λGz kz=>?_
   obtain⟨_,_,_,_,_,_,_,_,_,op,_,_,_,_,_,_,_,y1,y2,y3,_⟩:=hc'
   refine kz ?_
   rw[ht'.2]at y1
   cases y1
   rw[←Array.append_assoc]
   exact y3
noncomputable def Gg:=d7 dP 32
noncomputable def Ax:=jZ dP 32
theorem C5(P:Params):dz P 878 Gg Ax:=by constructor<;>w_on
theorem Ew(P:Params)(x:Value)(S:Setting):peek (Kx P) S (bindArgs (dw P 878) ⟨[x],[]⟩)=some [(("split_command":Str),x)]:=by w_on
theorem CW(P:Params):(dw P 878).code=.ref 877:=by w_on
noncomputable def HT:Fs:=⟨Ax,[]⟩
theorem ED:HT.scope.kind=.function:=by w_on
theorem jn{names:List (Str×NameKind)}{kd:NameKind}(h:(names.all λx=>x.2 != kd)=true):∀y∈names,y.2≠kd:= λy hy=>by
 have:=ZG.mp h y hy
 simpa using this
theorem mu(n:Nat):passing (λ_=>true) n 0=ZH n:=by
 unfold passing
 rw[List.drop_zero,List.filter_eq_self]
 exact λ_ _=>rfl
theorem Ad(h:cF ρ n (xs.map .str) its){v:Value}(e:its[i]?=some v):∃x t,xs[i]?=some x∧v=.str x t:=by
 have il:i<xs.length:=by
  have:=aq e
  have l:=aI h
  simp at l;lia
 refine aj (fh h (i:=i) (a:=.str xs[i]) (by simp[il])) λy h1 h2=>?_
 rw[e]at h1;cases h1
 refine bp h2 ?_;clear h2;intro t z0;subst z0
 exact cH (xs[i]) t (zG il) rfl
theorem xK(J:c.GoJ){q0:Nat}{p0 gpos:Pos}
  (hF:F.scope.kind=.function)(hv:F.scope.names.lookup ("split_command":Str)=some .local)(hlo:loc.lookup ("split_command":Str)=some (.obj j))(hj:H[j]?=some (.list (xs.map .str)))(hx:∀x∈xs,x∈names)(hn:xs.length≤100)
  (hco:sc.isCoroutine=false)(hfree:closureFor sc env=pure [])(hcell:∀y∈sc.names,y.2≠.cell)(h0:sc.names.lookup (".0":Str)=some NameKind.local)(ha:sc.names.lookup ("arg":Str)=some .local)(hqt:sc.names.lookup ("quote":Str)=some .globalImplicit)(hsk:sc.kind=.function)
  (he:eval (.Call (.Attribute (.Constant (.str " ") q0 p0) "join" apos) [.GeneratorExp (.Call (.Name "quote" p1) [.Name "arg" p2] [] p3) [⟨.Name "arg" p4,.Name "split_command" p5,[],0⟩] sc gpos] [] pos) env=(do
   let ov←eval (.Constant (.str " ") q0 p0) env
   standAt apos.atName
   let(f,first)←holding [ov] (getMethod ov "join" (gD (.Constant (.str " ") q0 p0) env))
   callWith pos f first (backTo pos (starEach [.GeneratorExp (.Call (.Name "quote" p1) [.Name "arg" p2] [] p3) [⟨.Name "arg" p4,.Name "split_command" p5,[],0⟩] sc gpos] env)) []))
  (hcode:env.code=.ref 877)(K:cK (k+101) A)(r:aW c A F ρ ⟨loc,H⟩ s env)
  (q:∀ρ' s' x,aW c A F ρ' ⟨loc,H⟩ s' env→aM c ρ H.length (· =env.locals) s ρ' H.length s'→VR ρ' H.length (.str (Txt.join " " (xs.map qf))) x→Q x s'):
  wpAny c.M A (eval (.Call (.Attribute (.Constant (.str " ") q0 p0) "join" apos) [.GeneratorExp (.Call (.Name "quote" p1) [.Name "arg" p2] [] p3) [⟨.Name "arg" p4,.Name "split_command" p5,[],0⟩] sc gpos] [] pos) env) Q E s:=by
 have G:=J.go
 have O:=G.ok
 have hh:A.handled=none:=K.2.2 (by lia)
 rw[he]
 refine YC (Calls.Constant_str (YC (YG (YC (YF ?_)))))
 refine getMethod_builtin (typeIs_str _ _ _) PySem.F.plainAttrs_str PySem.F.slot_str_join PySem.F.type_str_join (λa e=>by cases e) ?_
 refine cu ?_
 refine Calls.evalArgs_plain (x:=eval (.GeneratorExp (.Call (.Name "quote" p1) [.Name "arg" p2] [] p3) [⟨.Name "arg" p4,.Name "split_command" p5,[],0⟩] sc gpos) env) (rest:=[]) ?_
 refine Calls.spliced_cons ?_
 refine wpAny_GeneratorExp_walksQD (cl:=[]) hh hco hfree hcell h0 ha hsk K.depth ?_ (λ_=>rfl)
 refine(aa (c:=c) (k:=k+101) (σ:=⟨loc,H⟩) hF hv hlo) A ρ _ env _ E K (r.toks _) λρ1 s1 xv r1 st1 vx=>?_
 refine br λGz kz=>?_
 refine aO vx ?_;clear vx;intro jl z0;subst z0
 refine bz (r1.list hj) λits hl hv1 _=>?_
 have jlt:ρ1 j<s1.heap.objs.size:=by refine aj hl λo e _=>?_;exact ZB e
 have gt873:mainGlobals≠873:=by rw[←J.tj];exact O.gt
 obtain⟨o873,e873⟩:∃o,c.h₁.get? 873=some o:=by refine aj (J.tab) λps z _=>?_;exact⟨_,z⟩
 obtain⟨o8,e8⟩:∃o,s1.heap.get? 873=some o:=by have:=r1.hr.tj.there (o:=o873) (by rw[J.tj];exact e873);rw[J.tj]at this;exact this
 refine kz ?_
 have lt8:873<s1.heap.objs.size:=ZB e8
 have locne:env.locals≠873:=by rw[←J.tj];exact r1.ne_tj O
 refine wpAny_pyIter_list hl ⟨(r1.hr.lim O).push _,?_⟩
 refine xM J (r1.hr.push _) hcode λcode h3 tk3 k3 sz3 t3 hr3=>?_
 rw[Zo]at sz3
 have kA:∀b o,s1.heap.get? b=some o→b≠873→h3.get? b=some o:= λb o e hne=>k3 b o (zH _ e) hne
 have X3:=hr3.X O
 have g3:h3.Ns mainGlobals c.mg:=f9 hr3.base O.g O.gt
 have b3:h3.Ns builtinsNs c.mb:=f9 hr3.base O.b O.bt
 have l3:=hr3.lim O
 refine br λGz kz=>?_
 obtain⟨bm,ob,m1,m2,m3,m4,m5,m6,m7⟩:=J.bmod
 refine kz ?_
 have bmh:h3.get? bm=some ob:=hr3.base bm ob m3 m7
 refine wpAny_builtinsFor (m:=c.mg) (by rw[r1.gl];exact g3) m1 m2 bmh m4 m5 m6 ?_
 have it3:h3.get? s1.heap.objs.size=some {cls:=.type "list_iterator",data:=.fields #[.ref (ρ1 j),.int 0 0]}:=k3 _ _ (ZN _ rfl) (Nat.ne_of_gt lt8)
 have ls3:h3.IsList (ρ1 j) ⟨its⟩:=by
  refine aj hl λo e z=>?_
  refine al o (kA _ _ e ?_) z
  intro q
  have:=r1.hr.up j jl
  rw[q,e873]at this;cases this
 have IS:s1.heap.objs.size<h3.objs.size:=ZB it3
 refine⟨s1.heap.objs.size,[s1.heap.objs.size,ρ1 j],[s1.heap.objs.size],its.length,(λi v=>(⟨its⟩:Array Value)[i]?=some v),(λi h=>h.IsListIter s1.heap.objs.size (ρ1 j) i∧h.IsList (ρ1 j) ⟨its⟩),(λ_=>true),(λi y=>∃u,y=.str (qf (xs.getD i "")) u),rfl,(λA' hA=>Walks.list hA _ _ (Z7 jlt) ⟨its⟩),⟨bO _ it3 rfl rfl,ls3⟩,?_,l3,?_,?_,?_⟩
 ·intro b hb
  show b<h3.objs.size
  rcases ZI.mp hb with rfl|hb
  ·exact IS
  ·rcases ZI.mp hb with rfl|hb
   ·exact Nat.lt_trans jlt IS
   ·cases hb
 ·intro hm
  rcases ZI.mp hm with e|hb
  ·refine aj (r1.hr.lim O) λmc z1 _=>?_
   have:=z1.lt
   rw[e]at this;exact ZJ _ this
  ·cases hb
 ·intro href hhref
  have szle:∀b o,h3.get? b=some o→b∈ZH h3.objs.size:= λb o e=>ZP.mpr (ZB e)
  refine⟨λA' E' i v s₂ m₂ hA hD hU hP hns hm hk=>?_,λA' E' i v s₂ m₂ hA hD hU hP hpz hns hm hk=>?_⟩
  ·rw[YA]
   exact YD ⟨rfl,s₂.heap,s₂.toks,rfl,λ_ _ e=>e⟩
  ·have hP':its[i]?=some v:=by simpa using hP
   refine ds (Ad hv1 hP') λx t e1 z0=>?_;subst z0
   have up:∀b o,h3.get? b=some o→b≠s1.heap.objs.size→s₂.heap.get? b=some o:= λb o e hne=>hk b (szle b o e) (λhm=>by
    rcases ZI.mp hm with z|z
    ·exact hne z
    ·cases z) o (hhref b o e)
   have nI:∀b o,c.h₁.get? b=some o→b≠s1.heap.objs.size:= λb o e q=>by rw[q]at e;exact r1.hr.nosz o e
   have nsT:∀a m,a≠s1.heap.objs.size→h3.Ns a m→s₂.heap.Ns a m:= λa m hne z=>let⟨o,es,ep,e,rest⟩:=z;(bh o es ep (up _ _ e hne) rest)
   have bsz:∀a m,c.h₁.Ns a m→a≠s1.heap.objs.size:= λa m z=>let⟨o,es,ep,e,_⟩:=z;nI a o e
   have nC:∀a o,h3.get? a=some o→a≠h3.objs.size:= λa o e q=>by have:=ZB e;rw[q]at this;exact ZJ _ this
   have nCn:∀a m,h3.Ns a m→a≠h3.objs.size:= λa m z=>let⟨o,es,ep,e,_⟩:=z;nC a o e
   have lim2:s₂.heap.NoLimit:=by
    refine aj l3 λmc z1 z2=>?_
    refine aj (O.lim) λmc0 y1 _=>?_
    exact al mc (nsT _ _ (bsz _ _ y1) z1) z2
   have dep:=K.1
   have uni:=K.2.1
   have z:=yd (c:=c) (cenv:=genEnv sc [] h3.objs.size code builtinsNs env) (A':=A') (s₂:=s₂) (m₂:=m₂) (x:=x) (t:=t) (p1:=p1) (p2:=p2) (pos:=p3) (E':=E') G hns hm (hx x (Zg e1)) hsk ha hqt r1.gl
    (λa o e=>up a o (X3 a o e) (nI a o (O.X a o e))) (nsT _ _ (bsz _ _ O.g) g3) (nsT _ _ (bsz _ _ O.b) b3) lim2
    (by cases z:c.K.lookup h3.objs.size with|none=>exact z|some o=>exact absurd rfl (nC _ _ (X3 _ _ z))) (nCn _ _ g3) (nCn _ _ b3) (by refine aj l3 λmc z1 _=>?_;exact nCn _ _ z1)
    (by lia) (by lia)
   refine YE z (λy s₃ hy=>⟨?_,hy.2⟩) λ_ _ z=>z
   rw[List.getD_eq_getElem?_getD,e1]
   exact hy.1
 ·intro a h5 tk gs hgb hag hsz5 hk5 W hat
  refine Calls.spliced_nil ⟨⟨.machine,Looks.of_pure rfl⟩,?_⟩
  refine aj (r1.lo) λm hm hml=>?_
  have hm5:h5.Ns env.locals m:=let⟨o,es,ep,e,rest⟩:=hm;(bh o es ep (hk5 _ _ (kA _ _ e locne)) rest)
  have ln:its.length=xs.length:=by have:=aI hv1;simpa using this
  have ab:AllBare s1.gens:=by have z:=r1.ge;rw[J.gq]at z;exact z
  have len:(passing (λ_=>true) its.length 0).length=xs.length:=by rw[mu,List.length_range,ln]
  have tx:(ZH (passing (λ_=>true) its.length 0).length).map (λi=>qf (xs.getD i ""))=xs.map qf:=by
   rw[len]
   apply List.ext_getElem?
   intro i
   by_cases hi:i<xs.length
   ·simp[hi,zG hi]
   ·simp[hi]
  refine join_rowsK (L:=env.locals) (K:=s1.heap.objs.size - 1) (m:=m) (ma hm5) (ab.push hgb) ⟨_,_,_,_,W,hat,(λi s' st=>st.1.typeIs),List.mem_cons_self,?_,?_⟩ (Nat.le_sub_one_of_lt hm.lt) (λi=>qf (xs.getD i "")) ?_ ?_ ?_ (by rw[len];unfold sizeLine;lia)
  ·intro b hb
   show b<h5.objs.size
   rw[hsz5]
   rcases ZI.mp hb with rfl|hb
   ·exact Zb _
   ·rcases ZI.mp hb with rfl|hb
    ·exact Zd hag
    ·exact Zd (Nat.lt_trans (ZP.mp hb) hag)
  ·intro b hb
   rcases ZI.mp hb with rfl|hb
   ·show s1.heap.objs.size - 1<h3.objs.size;lia
   ·rcases ZI.mp hb with rfl|hb
    ·exact Nat.sub_lt (Nat.lt_of_le_of_lt (Zl _) lt8) Nat.one_pos
    ·cases hb
  ·intro i v ⟨i',e1,u,e2⟩
   rw[mu]at e1
   have:i'=i:=by
    have il:=aq e1
    rw[zG il]at e1
    simp at e1
    exact e1.symm
   subst this
   exact⟨u,e2⟩
  ·rw[tx]
   refine joinOk_of_weight ?_ (by decide)
   have b1:∀ys:List Str,(∀x∈ys,x∈names)→((ys.map qf).map (·.length)).sum≤20*ys.length:=by
    intro ys
    induction ys with
    |nil=>intro _;simp
    |cons y ys ih=>
     intro h
     have h1:=ih λx hx=>h x (.tail _ hx)
     have h2:∀x∈names,(qf x).length≤20:=by decide+kernel
     have h3:=h2 y (h y (.head _))
     simp only[ZZ,List.sum_cons,Zk]
     lia
   have:=b1 xs hx
   rw[ZS]
   lia
  ·intro s' t' _ ab' os' kk
   rw[tx]
   have lts:∀b o,s1.heap.get? b=some o→b≤s1.heap.objs.size - 1:= λb o e=>Nat.le_sub_one_of_lt (ZB e)
   have k5:∀b o,s1.heap.get? b=some o→b≠873→s'.heap.get? b=some o:= λb o e hne=>kk b o (lts b o e) (hk5 b o (kA b o e hne))
   have hr':eu c ρ1 H s'.heap:=by
    refine⟨λi ao e=>?_,r1.hr.inj,r1.hr.up,λb o e t=>k5 b o (r1.hr.base b o e t) (by rw[←J.tj];exact t),λo e=>?_⟩
    ·refine aj (r1.hr.at_ i ao e) λob z1 z2=>?_
     refine al ob (k5 _ _ z1 ?_) z2
     intro q
     have:=r1.hr.up i (aq e)
     rw[q,e873]at this;cases this
    ·have up:∀o,h3.get? c.tj=some o→s'.heap.get? c.tj=some o:= λo z=>kk _ _ (by rw[J.tj];exact lts _ _ e8) (hk5 _ _ z)
     exact(hr3.tj o e).imp (λz=>up _ z) λ⟨z1,z2,vs,more,z3,z4⟩=>bS z1 z2 vs more z3 (up _ z4)
   refine bp t3 λo3 t3=>?_
   have ex':∀b o,s1.heap.get? b=some o→∃o',s'.heap.get? b=some o':= λb o e=>by
    by_cases hb:b=873
    ·subst hb;exact⟨o3,kk _ _ (lts _ _ e8) (hk5 _ _ t3)⟩
    ·exact⟨o,k5 b o e hb⟩
   have st':aM c ρ1 H.length (λ_=>False) s1 ρ1 H.length s':=
    ⟨λ_ _=>rfl,ZA _,λi h1 h2=>absurd h2 (ZX.mpr h1),⟨ex',λb o e t _ _=>al o (k5 b o e (by rw[←J.tj];exact t)) .refl⟩,os'⟩
   refine aO (r1.after (s':=s') O hr' (by rw[J.gq];exact ab') st') λr' stt=>?_
   exact q ρ1 s' _ r' (((aM.toks _).trans st1).trans stt) ⟨t',rfl⟩
theorem Dz(J:c.GoJ)(hj:H[j]?=some (.list (xs.map .str)))(hx:∀x∈xs,x∈names)(hn:xs.length≤100):Fn c (k+102) (.ref 878) [.obj j] [] H (.str (Txt.join " " (xs.map qf))) H:=by
 have G:=J.go
 have X:=C5 c.w.params
 have e:=X.se
 refine CA (fd:=dw c.w.params 878) (loc:=[("split_command",.obj j)]) (fl:=.ret (.str (Txt.join " " (xs.map qf)))) (H1:=H) (loc':=[("split_command",.obj j)]) G.ok (by rw[G.hK];exact X.lk) (by rw[G.hK];exact X.cd) X.bd X.cl X.gl X.bl (λx hx=>?_) (by rw[e];exact X.co) (by rw[e];exact X.ge) (by rw[e];exact X.ki) (by w_on) (by rw[e];w_on) ?_ ?_
 ·rw[e]at hx
  have:=ZG.mp X.ce x hx
  simpa using this
 ·refine sy (λρ m s xs ks X hx hk=>?_) G.ok
  refine mx hx hk λ_ hx=>?_
  rw[G.hK]at X
  refine al [("split_command",_)] (@bC _ _ _ _ _ X ?_) (.cons hx .nil)
  exact Ew _ _
 ·intro A ρ s L Q E K r q
  rw[e]at r q
  have hcode:(callEnv (dw c.w.params 878) L 878).code=.ref 877:=CW c.w.params
  generalize callEnv (dw c.w.params 878) L 878=env at*
  k_dflt refine' YH (wpAny_Return_some (xK (F:=HT) J ED rfl rfl hj hx hn rfl ?_ ?_ rfl rfl rfl rfl rfl hcode K r λρ' s' x r' st' vx=>?_))
  ·exact closureFor_none (jn (by w_on))
  ·exact jn (by w_on)
  ·exact q ρ' s' _ r' st' (al x rfl vx)
theorem A6{c:Prop} [Decidable c]{x y:α}{e:Option α}{G:Prop}(h:(if c then some x else e)=some y)(k:c→x=y→G)(l:e=some y→G):G:=by
 split at h
 ·exact k ‹_› (Option.some.inj h)
 ·exact l h
theorem Fu{c:Prop} [Decidable c]{y:α}{e:Option α}(h:(if c then e else none)=some y):c∧e=some y:=by
 split at h
 ·exact⟨‹_›,h⟩
 ·cases h
noncomputable def EW(W y t:Str)(q:Bool)(ch:Str):Option (Str×Str×Bool):=
 if y=(" ":Str)∧gK ch " \t\r\n"=false∧gK ch ""=false∧gK ch "\\"=false∧gK ch W=true then some ("a",ch,q)
 else if y=(" ":Str)∧gK ch " \t\r\n"=false∧gK ch ""=false∧gK ch "\\"=false∧gK ch W=false∧gK ch "'\""=true then some (ch,t,q)
 else if y=("a":Str)∧gK ch " \t\r\n"=false∧gK ch ""=false∧gK ch "'\""=true then some (ch,t,q)
 else if(y.cps.toList==(" ":Str).cps.toList)=false∧gK y "'\""=true∧(ch.cps.toList==y.cps.toList)=true then some ("a",t,true)
 else if(y.cps.toList==(" ":Str).cps.toList)=false∧gK y "'\""=true∧(ch.cps.toList==y.cps.toList)=false∧gK ch "\\"=false∧(t++ch).length≤sizeLine∧(t.length≠0∨t++ch=ch)then some (y,t++ch,true)else none
theorem tE{t:Str}{r:Str×Str×Bool}(h:EW W y t q ch=some r):rR W y t q ch r.1 r.2.1 r.2.2:=by
 refine A6 h (λc e=>?_) λh=>A6 h (λc e=>?_) λh=>A6 h (λc e=>?_) λh=>A6 h (λc e=>?_) λh=>A6 h (λc e=>?_) λh=>?_
 ·subst e;refine uO c λc0 c1 c2 c3 c4=>?_;subst c0;exact .word c1 c2 c3 c4
 ·subst e;refine mY c λc0 c1 c2 c3 c4 c5=>?_;subst c0;exact .opn c1 c2 c3 c4 c5
 ·subst e;refine oD c λc0 c1 c2 c3=>?_;subst c0;exact .again c1 c2 c3
 ·subst e;exact fP c λc1 c2 c3=>.close c1 c2 c3
 ·subst e;exact mY c λc1 c2 c3 c4 c5 c6=>.inn c1 c2 c3 c4 c5 λz=>c6.elim (λw=>absurd z w) id
 ·cases h
noncomputable def qW(W:Str):List Str→Str→Str→Bool→Option (Str×Str×Bool)
 | [],y,t,q=>some (y,t,q)
 |ch::cs,y,t,q=>if ch.length=1∧(ch.cps.toList==("\n":Str).cps.toList)=false then(EW W y t q ch).bind λr=>qW W cs r.1 r.2.1 r.2.2 else none
theorem rh:∀{y t:Str}{q:Bool}{r:Str×Str×Bool},qW W cs y t q=some r→jO W y t q cs r.1 r.2.1 r.2.2:=by
 induction cs with
 |nil=>intro y t q r h;have z:=Option.some.inj h;subst z;exact .nil
 |cons ch cs ih=>
  intro y t q r h
  refine aO (Fu h) λc h=>?_
  refine aj (Option.bind_eq_some_iff.mp h) λz e1 e2=>?_
  exact .cons c.1 c.2 (tE e1) (ih e2)
noncomputable def rH(buf:Str):List Str→Nat→Bool
 | [],_=>true
 |ch::cs,p=>decide (p<buf.length)&&(decide ((⟨#[buf.cps.getD p 0]⟩:Str)=ch)&&rH buf cs (p+1))
theorem k8:∀{p:Nat},rH buf cs p=true→jT buf p cs:=by
 induction cs with
 |nil=>intro p h;trivial
 |cons ch cs ih=>
  intro p h
  refine aO (ZM.mp h) λh1 h=>?_
  refine aO (ZM.mp h) λh2 h3=>?_
  have h1:=of_decide_eq_true h1
  have z:=slice_one_closes (x:=buf) (n:=(p:Int)) (Int.natCast_nonneg p) (Int.ofNat_lt.mpr h1)
  rw[beq_iff_eq]at z
  exact⟨Int.ofNat_lt.mpr h1,z.trans (of_decide_eq_true h2),ih h3⟩
noncomputable def Jj(W:Str)(x:List Str×Str):Bool:=decide (x.2.length≠0)&&(match qW W x.1 " " "" false with|some r=>decide (r.1=("a":Str))&&decide (r.2.1=x.2)|none=>false)
noncomputable def IT(W buf:Str):List (List Str×Str)→Nat→Bool
 | [],_=>false
 |x::l,p=>Jj W x&&(if l=[]then rH buf x.1 p&&decide (buf.length=p+x.1.length)
  else rH buf (x.1++[(" ":Str)]) p&&(decide (x.2.length<2 ^ 20)&&IT W buf l (p+x.1.length+1)))
theorem u0{x:List Str×Str}(h:Jj W x=true):x.2.length≠0∧∃q,jO W " " "" false x.1 "a" x.2 q:=by
 refine aO (ZM.mp h) λh0 h=>?_
 refine⟨of_decide_eq_true h0,?_⟩
 cases e:qW W x.1 " " "" false with
 |none=>rw[e]at h;cases h
 |some r=>
  rw[e]at h
  refine aO (ZM.mp h) λh1 h2=>?_
  have z:=rh e
  rw[of_decide_eq_true h1,of_decide_eq_true h2]at z
  exact⟨r.2.2,z⟩
theorem yx{l:List (List Str×Str)}:∀{p:Nat},IT W buf l p=true→Rd W buf p (l.map (·.2)):=by
 induction l with
 |nil=>intro p h;cases h
 |cons x l ih=>
  intro p h
  refine aO (ZM.mp h) λh1 h=>?_
  refine Gx (u0 h1) λh0 q ht=>?_
  cases l with
  |nil=>
   refine aO (ZM.mp h) λh2 h3=>?_
   exact .last ht (k8 h2) (by rw[of_decide_eq_true h3];rfl) h0
  |cons y l=>
   refine aO (ZM.mp h) λh2 h=>?_
   refine aO (ZM.mp h) λh3 h4=>?_
   exact .more ht (k8 h2) h0 (of_decide_eq_true h3) (ih h4)
noncomputable def wH(x:Str):List Str:=x.cps.toList.map λcp=>⟨#[cp]⟩
noncomputable def gv(i:Nat)(b:List Bool):List Str:=names.getD i ""::((names.take i).zip b).filterMap λp=>if p.2 then some p.1 else none
noncomputable def cc:Nat→List (List Bool)
 |0=>[[]]
 |n+1=>(cc n).flatMap λl=>[false::l,true::l]
theorem mi:∀{n:Nat}{b:List Bool},b.length=n→b∈cc n
 |0,[],_=>by simp[cc]
 |n+1,x::b,h=>by
  have:=mi (n:=n) (b:=b) (by simpa using h)
  simp only[cc,List.mem_flatMap]
  exact al b this (by cases x<;>simp)
noncomputable def aT(xs:List Str):Str:=Txt.join " " (xs.map qf)
theorem C4:∀i∈ZH 5,∀b∈cc i,(IT WW (aT (gv i b)) ((gv i b).map λx=>(wH (qf x),x)) 0&&(aT (gv i b)).length<1000&&(gv i b).all (names.contains ·)&&!((aT (gv i b)).cps.toList.contains 10))=true:=by decide+kernel
theorem wo{c:Nat}:∀{a b x y:List Nat},c∉a→c∉b→a++c::x=b++c::y→a=b∧x=y
 | [],[],x,y,_,_,h=>⟨rfl,by simpa using h⟩
 | [],k::b,x,y,_,hb,h=>by
  simp only[List.nil_append,List.cons_append,List.cons.injEq]at h
  exact absurd (h.1▸List.mem_cons_self) hb
 |k::a,[],x,y,ha,_,h=>by
  simp only[List.nil_append,List.cons_append,List.cons.injEq]at h
  exact absurd (h.1▸List.mem_cons_self) ha
 |k::a,l::b,x,y,ha,hb,h=>by
  simp only[List.cons_append,List.cons.injEq]at h
  refine aO (wo (λz=>ha (.tail _ z)) (λz=>hb (.tail _ z)) h.2) λh1 h2=>?_
  exact⟨by rw[h.1,h1],h2⟩
theorem ij(c:Nat)(p q:Str)(r:List Str):(Str.join ⟨#[c]⟩ (p::q::r)).cps.toList=p.cps.toList++c::(Str.join ⟨#[c]⟩ (q::r)).cps.toList:=by
 show(p++⟨#[c]⟩++Str.join ⟨#[c]⟩ (q::r)).cps.toList=_
 simp only[Str.cps_append,Array.toList_append]
 simp
theorem wd{a b:Str}(h:a.cps.toList=b.cps.toList):a=b:=by
 obtain⟨x⟩:=a;obtain⟨y⟩:=b
 congr 1
 exact Array.toList_inj.mp h
theorem sF(c:Nat):∀{ts us:List Str},ts≠[]→us≠[]→(∀p∈ts,c∉p.cps.toList)→(∀p∈us,c∉p.cps.toList)→Str.join ⟨#[c]⟩ ts=Str.join ⟨#[c]⟩ us→ts=us
 | [],_,h,_,_,_,_=>absurd rfl h
 |_,[],_,h,_,_,_=>absurd rfl h
 | [p],[q],_,_,_,_,h=>by have:p=q:=h;rw[this]
 | [p],q::q2::r,_,_,hp,_,h=>by
  have:=congrArg (λs:Str=>s.cps.toList) h
  rw[ij]at this
  exact absurd (by rw[show(Str.join ⟨#[c]⟩ [p]).cps.toList=p.cps.toList from rfl]at this;rw[this];simp) (hp p (.head _))
 |p::p2::r,[q],_,_,_,hq,h=>by
  have:=congrArg (λs:Str=>s.cps.toList) h
  rw[ij]at this
  exact absurd (by rw[show(Str.join ⟨#[c]⟩ [q]).cps.toList=q.cps.toList from rfl]at this;rw[←this];simp) (hq q (.head _))
 |p::p2::r,q::q2::r',_,_,hp,hq,h=>by
  have:=congrArg (λs:Str=>s.cps.toList) h
  rw[ij,ij]at this
  refine aO (wo (hp p (.head _)) (hq q (.head _)) this) λh1 h2=>?_
  have ih:=sF c (ts:=p2::r) (us:=q2::r') (by simp) (by simp) (λx hx=>hp x (.tail _ hx)) (λx hx=>hq x (.tail _ hx)) (wd h2)
  rw[wd h1,ih]
theorem zX(x y:Str):Txt.split x y≠[]:=by
 unfold Txt.split
 split
 ·simp
 ·split
  ·simp
  ·rw[StrLaws.partsBetween_eq]
   refine mI (StrLaws.partsFrom_ne x y.length 0 (Builtin.Str.occurrences x y 0 x.length (x.length+1))) λp r e=>?_
   rw[e];simp
theorem uG(c:Nat){ts:List Str}(h1:ts≠[])(h2:∀p∈ts,c∉p.cps.toList):Txt.split (Txt.join ⟨#[c]⟩ ts) ⟨#[c]⟩=ts:=by
 refine sF c (zX _ _) h1 (StrLaws.split_free _ c) h2 ?_
 rw[StrLaws.join_split]
 exact StrLaws.glued_eq_join _ _
noncomputable def GM(c:Cx)(F:Fs)(a:AV)(σ:St)(name:Str)(id:String):Prop:=
 ∀{A:Around}{ρ:Nat→Addr}{s:Shared}{env:Env}{x:Value}{pl:Sem Bool}{Q:Value×List Value→Shared→Prop}{E:Value→Shared→Prop},aW c A F ρ σ s env→VR ρ σ.H.length a x→Q (.builtin id,[x]) s→wpAny c.M A (getMethod x name pl) Q E s
theorem Bb(slot:Slot "str" name id)(hty:typeOf (.builtin id)=pure (.type "method_descriptor")):GM c F (.str x) σ name id:= λ{A ρ s env y pl Q E} r hx q=>by
 refine bp hx ?_;clear hx;intro t z0;subst z0
 exact getMethod_builtin (typeIs_str _ x t) PySem.F.plainAttrs_str slot hty (λa e=>by cases e) q
theorem dk(slot:Slot "list" name id)(hty:typeOf (.builtin id)=pure (.type "method_descriptor"))(hj:σ.H[j]?=some (.list vs)):GM c F (.obj j) σ name id:= λ{A ρ s env y pl Q E} r hx q=>by
 refine aO hx ?_;clear hx;intro _ z0;subst z0
 refine bz (r.list hj) λits h1 _ h3=>?_
 exact getMethod_list_of slot hty h1 h3 q
theorem d6{o:Expr}{args:List Expr}
  (he:∀env,eval (.Call (.Attribute o name apos) args [] pos) env=(do
   let ov←eval o env
   standAt apos.atName
   let(f,first)←holding [ov] (getMethod ov name (gD o env))
   callWith pos f first (backTo pos (starEach args env)) []))
  (h0:Ev c F k o σ a σ₁)(hg:GM c F a σ₁ name id)(ha:c9 c (.builtin id) pos args)(h1:Ag c F k pos args σ₁ vs σ₂)(h2:cJ c F k (λxs=>call (.builtin id) xs) (a::vs) σ₂ v σ₃):Ev c F k (.Call (.Attribute o name apos) args [] pos) σ v σ₃:= λA ρ s env Q E K r h=>by
 rw[he env]
 refine YC (h0 A ρ s env _ E K r λρ1 s1 x r1 st1 vx=>YC (YG (YC (YF (hg r1 vx ?_)))))
 refine cu (ha A env _ E s1 (h1 A ρ1 s1 env _ E K r1 λρ2 s2 xs r2 st2 vxs=>⟨⟨.machine,Looks.of_pure rfl⟩,?_⟩))
 exact h2 A ρ2 s2 env _ E (x::xs) K r2 (.cons (st2.vr vx) vxs) λρ3 s3 z r3 st3 vz=>h ρ3 s3 z r3 ((st1.trans st2).trans st3) vz
theorem eN(hj:σ.H[j]?=some (.list acc))(hz:acc.length<999):cJ c F k (λxs=>call (.builtin "list.append") xs) [.obj j,v] σ .none ⟨σ.loc,σ.H.set j (.list (acc++[v]))⟩:= λA ρ s env Q E xs K r hx q=>by
 cases hx with
 |cons h1 h2=>
  refine lL h2 λ_ h2=>?_
  refine aO h1 ?_;clear h1;intro _ z0;subst z0
  exact ky r hj hz h2 λs' r' st'=>q ρ s' _ r' st' rfl
theorem kR{ρ:Nat→Addr}{n:Nat}:∀(t:Nat)(xs:List Str),cF ρ n (xs.map .str) (strsFrom t xs)
 |_,[]=>.nil
 |t,x::r=>.cons ⟨t,rfl⟩ (kR (t+1) r)
theorem kM{vs:List Value}(r:aW c A F ρ σ s env)(hv:∀ρ n,cF ρ n (xs.map .str) vs)
  (q:∀ρ' s' x,aW c A F ρ' ⟨σ.loc,σ.H++[.list (xs.map .str)]⟩ s' env→aM c ρ σ.H.length (· =env.locals) s ρ' (σ.H++[AO.list (xs.map .str)]).length s'→VR ρ' (σ.H++[AO.list (xs.map .str)]).length (.obj σ.H.length) x→Q x s'):
  Q (.ref s.heap.objs.size) {s with heap:=s.heap.push {cls:=.type "list",data:=.seq vs.toArray},toks:=tk}:=by
 refine aO (r.alloc (ao:=.list (xs.map .str)) (ob:={cls:=.type "list",data:=.seq vs.toArray}) tk rfl (cH vs _ rfl (hv _ _))) λr1 st1=>?_
 exact q _ _ _ r1 st1 ⟨by simp,by rw[aF]⟩
theorem Bw(hy:(y.length==0)=false)(hx:x.length≤sizeLine)(hn:(Builtin.Str.partsBetween x (Builtin.Str.occurrences x y 0 x.length (x.length+1)) y.length).length≤sizeLine):
  cJ c F k (λxs=>call (.builtin "str.split") xs) [.str x,.str y] σ (.obj σ.H.length) ⟨σ.loc,σ.H++[.list ((Txt.split x y).map .str)]⟩:= λA ρ s env Q E xs K r hxs q=>by
 cases hxs with
 |cons h1 h2=>
  refine lL h2 λ_ h2=>?_
  refine bp h1 ?_;clear h1;intro t z0;subst z0
  refine bp h2 ?_;clear h2;intro u z0;subst z0
  cases h1:(decide (x.length<y.length)||decide (Builtin.Str.strKind x<Builtin.Str.strKind y))with
  |true=>
   have e:Txt.split x y=[x]:=if_pos h1
   rw[e]at q
   exact call_meets PySem.F.slot_str_split (typeIs_str _ _ _) PySem.F.entry_str_split (PySem.F.args_str_split_2 _ _) (meets_str_split_cannot_occur x y t u h1) (kM (tk:=s.toks) (vs:=[.str x t]) (xs:=[x]) r (λ_ _=>.cons ⟨t,rfl⟩ .nil) q)
  |false=>
   cases hf:(Builtin.Str.occurrences x y 0 x.length (x.length+1)).isEmpty with
   |true=>
    have e:Txt.split x y=[x]:=(if_neg (ne_true_of_eq_false h1)).trans (if_pos hf)
    rw[e]at q
    exact call_meets PySem.F.slot_str_split (typeIs_str _ _ _) PySem.F.entry_str_split (PySem.F.args_str_split_2 _ _) (meets_str_split_not_found x y t u h1 hy hf) (kM (tk:=s.toks) (vs:=[.str x t]) (xs:=[x]) r (λ_ _=>.cons ⟨t,rfl⟩ .nil) q)
   |false=>
    have e:Txt.split x y=Builtin.Str.partsBetween x (Builtin.Str.occurrences x y 0 x.length (x.length+1)) y.length:=(if_neg (ne_true_of_eq_false h1)).trans (if_neg (ne_true_of_eq_false hf))
    rw[e]at q
    exact call_meets PySem.F.slot_str_split (typeIs_str _ _ _) PySem.F.entry_str_split (PySem.F.args_str_split_2 _ _) (meets_str_split_sep x y t u h1 hy hf hx hn) (kM r (λ_ _=>kR _ _) q)
theorem cQ(h1:(sc.names.all λx=>x.2 != .free)=true)(h2:(sc.names.all λx=>x.2 != .cell)=true)(hk:sc.kind=.function)(h3:(sc.names.lookup (".0":Str)==some .local&&sc.names.all λx=>x.2 != .local||sc.names.lookup x.1==some .local)=true):cz F sc sc []:=by
 rw[Z3]at h3
 refine aO h3 λh0 h3=>?_
 refine⟨λenv g _=>closureFor_none (jn h1),λenv _=>?_,(λp hp=>nomatch hp),hk,λx hx hl=>?_,jn h2,λz=>by rw[z]at h0;cases h0⟩
 ·unfold fq
  have:(sc.names.map λx=>if(x.2== .free&&env.scope.kind== .function&&env.kindOf x.1==some .cell)=true then(x.1,NameKind.cell)else(x.1,x.2))=sc.names:=by
   refine map_eq_self λx hx=>?_
   have:=jn h1 x hx
   have e:(x.2==NameKind.free)=false:=by simpa using this
   rw[e];rfl
  rw[this]
 ·have:=ZG.mp h3 x hx
  rw[hl]at this
  simpa using this
theorem jH:yR c F k [] σ true σ:=⟨rfl,rfl⟩
noncomputable def oJ(H:List AO)(L:Nat)(rows:List (List Str)):Prop:=∃js:List Nat,H[L]?=some (.list (js.map .obj))∧js.length=rows.length∧∀(i j:Nat)(r:List Str),js[i]?=some j→rows[i]?=some r→H[j]?=some (AO.list (r.map .str))
structure je(r:List Str):Prop where
 rd:Rd WW (aT r) 0 r
 len:(aT r).length<1000
 nm:∀x∈r,x∈names
 nl:10∉(aT r).cps.toList
 sz:r.length<900
theorem AB{b:List Bool}(hi:i<5)(hb:b.length=i):je (gv i b):=by
 have:=C4 i (ZP.mpr hi) b (mi hb)
 simp only[Z3,decide_eq_true_eq,Bool.not_eq_true',ZG]at this
 refine aO this λz0 h4=>aO z0 λz1 h3=>aO z1 λh1 h2=>?_
 have h1:=yx h1
 rw[Zr,show((·.2)∘ λx=>(wH (qf x),x))=(id:Str→Str)from rfl,List.map_id]at h1
 refine⟨h1,h2,λx hx=>by simpa using h3 x hx,by simpa using h4,?_⟩
 unfold gv
 have:(((names.take i).zip b).filterMap λp=>if p.2 then some p.1 else none).length≤i:=by
  refine Z2 (List.length_filterMap_le _ _) ?_
  simp[hb];lia
 simp only[Zk]
 lia
noncomputable def wR:=d7 dP 38
noncomputable def w6:=jZ dP 38
theorem t7(P:Params):dz P 896 wR w6:=by constructor<;>w_on
theorem BW(P:Params)(x:Value)(S:Setting):peek (Kx P) S (bindArgs (dw P 896) ⟨[x],[]⟩)=some [(("text":Str),x)]:=by w_on
theorem EA(P:Params):nsIn (Kx P) mainGlobals ("split":Str)=some (some (.ref 871)):=by w_on
theorem HY(P:Params)(S:Setting):peek (Kx P) S (keeperOf (.ref 871))=some .frame:=by w_on
noncomputable def Em:Fs:=⟨w6,[]⟩
theorem Dm:Em.scope.kind=.function:=by w_on
theorem ny(hz:c.rz=true)(G:c.Go){F:Fs}(hk:F.scope.kind=.function)(hrow:F.scope.names.lookup ("row":Str)=some .local)(hsp:F.scope.names.lookup ("split":Str)=some .globalImplicit){gens:List Comprehension}{sc:Scope}{pos p1 p2 p3 p4:Pos}{iter:Expr}{T J:Nat}{texts:List Str}(hg:gens=[⟨.Name "row" p4,iter,[],0⟩])(hTJ:T≠J)(hlt:texts.length<900):
  ∀(rest:List (List Str))(done:List Nat)(i:Nat)(l:List (Str×AV))(H:List AO),(∀r∈rest,je r)→H[T]?=some (.list (texts.map .str))→H[J]?=some (.list (done.map .obj))→texts.drop i=rest.map aT→done.length=i→
   ∃loc' H' js,CL c F (k+111) (.Call (.Name "split" p1) [.Name "row" p2] [] p3) gens sc pos 0 (aR T (texts.map .str)) J i ⟨l,H⟩ ⟨loc',H'⟩∧H'[J]?=some (.list ((done++js).map .obj))∧js.length=rest.length∧
    (∀(i j:Nat)(r:List Str),js[i]?=some j→rest[i]?=some r→H'[j]?=some (AO.list (r.map .str))∧j≠J)∧(∀(x:Nat)(o:AO),x≠J→H[x]?=some o→H'[x]?=some o)
 | [],done,i,l,H,_,hT,hJ,hd,hi=>by
  subst hg
  refine cG l H [] (iL (σ:=⟨l,H⟩) (I:=aR T (texts.map .str)) (az) rfl rfl (λ_ _=>rfl) (by lia) hT ?_) (by simpa using hJ) rfl (λi j r h=>by simp at h) λx o _ h=>h
  show(texts.map AV.str)[i]?=none
  rw[ZC]
  have:texts.drop i=[]:=hd
  simp[ZL]at this ⊢
  exact this
 |r::rest,done,i,l,H,hr,hT,hJ,hd,hi=>by
  have ok:=hr r (.head _)
  have hi1:texts[i]?=some (aT r):=by
   have:(texts.drop i)[0]?=some (aT r):=by rw[hd];rfl
   rw[Z1,Zq]at this
   exact this
  have hd1:texts.drop (i+1)=rest.map aT:=by
   have:(texts.drop i).drop 1=rest.map aT:=by rw[hd];rfl
   rw[Zp]at this
   exact this
  have ilt:=aq hi1
  refine br λGz kz=>?_
  refine cT (Ac (k:=k+1) (H:=H) hz G (ZE ok.len (by decide)) ok.sz ok.rd) λj H1 f1 f2 f3 f4=>?_
  have hJ1:=f3 _ _ hJ
  have Jl:=aq hJ1
  have Jl0:=aq hJ
  have hT1:(H1.set J (.list (done.map .obj++[.obj j])))[T]?=some (.list (texts.map .str)):=ak (f3 _ _ hT) hTJ
  have jJ:j≠J:=by lia
  obtain⟨loc',H',js,c1,c2,c3,c4,c5⟩:=ny hz G hk hrow hsp hg hTJ hlt rest (done++[j]) (i+1) (aS "row" (.str (aT r)) l) (H1.set J (.list (done.map .obj++[.obj j]))) (λx hx=>hr x (.tail _ hx)) hT1 (by rw[zT Jl];simp) hd1 (by simp[hi])
  refine kz ?_
  subst hg
  refine cG loc' H' (j::js) (fM (a:=.str (aT r)) (v:=.obj j) (σ₁:=⟨aS "row" (.str (aT r)) l,H⟩) (σ₂:=⟨aS "row" (.str (aT r)) l,H⟩) (σ₃:=⟨aS "row" (.str (aT r)) l,H1⟩) (acc:=done.map .obj) (σ:=⟨l,H⟩) (I:=aR T (texts.map .str)) G.ok (az) rfl rfl (λ_ _=>rfl) hT ?_ (bg hk hrow) jH ?_ hJ1 (by simp;lia) c1) (by simpa using c2) (by simp[c3]) ?_ ?_
  ·show(texts.map AV.str)[i]?=_
   rw[ZK,hi1];rfl
  ·exact fS G.ok (λ_=>rfl) (dp G hk hsp (EA _)) ⟨_,by rw[G.hK];exact HY _⟩ (gF (af λ_=>rfl) (am (λ_=>rfl) (aa hk hrow (ah _ _ _)) au)) f1
  ·intro i' j' r' h1 h2
   cases i' with
   |zero=>
    cases h1;cases h2
    exact⟨c5 _ _ jJ (ak f2 jJ),jJ⟩
   |succ i'=>exact c4 i' j' r' h1 h2
  ·intro x o hx h
   exact c5 x o hx (ak (f3 _ _ h) hx)
noncomputable def aH(rows:List (List Str)):Str:=Txt.join "\n" (rows.map aT)
theorem nG{rows:List (List Str)}(h1:rows≠[])(h2:∀r∈rows,je r):Txt.split (aH rows) "\n"=rows.map aT:=by
 have:("\n":Str)=⟨#[10]⟩:=by decide+kernel
 unfold aH
 rw[this]
 refine uG 10 (by simpa using h1) λp hp=>?_
 refine aj (ZR.mp hp) λr hr z0=>?_;subst z0
 exact(h2 r hr).nl
theorem uM(kz:∀(sc:Scope)(p1 p2 p3 p4 p5 p6 p7 p8 p9 p10:Pos)(q:Nat),(wR=[.Return (some (.ListComp (.Call (.Name "split" p1) [.Name "row" p2] [] p3) [⟨.Name "row" p4,.Call (.Attribute (.Name "text" p5) "split" p6) [.Constant (.str "\n") q p7] [] p8,[],0⟩] sc p9)) p10]∧
  (∀env,eval (.Call (.Attribute (.Name "text" p5) "split" p6) [.Constant (.str "\n") q p7] [] p8) env=(do
   let ov←eval (.Name "text" p5) env
   standAt p6.atName
   let(f,first)←holding [ov] (getMethod ov "split" (gD (.Name "text" p5) env))
   callWith p8 f first (backTo p8 (starEach [.Constant (.str "\n") q p7] env)) []))∧
  (sc.names.all λx=>x.2 != .free)=true∧(sc.names.all λx=>x.2 != .cell)=true∧sc.kind=.function∧(sc.names.lookup (".0":Str)==some .local&&sc.names.all λx=>x.2 != .local||sc.names.lookup x.1==some .local)=true∧sc.names.lookup ("row":Str)=some .local∧sc.names.lookup ("split":Str)=some .globalImplicit)→Gz):Gz:=kz _ _ _ _ _ _ _ _ _ _ _ _ ⟨by k_dflt rfl,λ_=>rfl,by w_on,by w_on,by w_on,by w_on,by w_on,by w_on⟩
theorem AY(hz:c.rz=true)(G:c.Go){rows:List (List Str)}(h1:rows≠[])(h2:∀r∈rows,je r)(hn:rows.length<900)(hl:(aH rows).length≤sizeLine)(hp:(Builtin.Str.partsBetween (aH rows) (Builtin.Str.occurrences (aH rows) "\n" 0 (aH rows).length ((aH rows).length+1)) ("\n":Str).length).length≤sizeLine):
  ∃L H',Fn c (k+112) (.ref 896) [.str (aH rows)] [] H (.obj L) H'∧oJ H' L rows∧bW H H'∧H.length≤L:=by
 have bs:=nG h1 h2
 refine br λGz kz=>?_
 refine uM λsc p1 p2 p3 p4 p5 p6 p7 p8 p9 p10 qq hz_=>?_
 obtain⟨hb,he,s1,s2,s3,s4,k2,k3⟩:=hz_
 have scp:cz Em sc sc []:=cQ s1 s2 s3 s4
 have k1:(Fs.mk sc []).scope.kind=.function:=s3
 have l1:(H++[AO.list ((rows.map aT).map .str)]).length=H.length+1:=by simp
 have l2:(H++[AO.list ((rows.map aT).map .str)]++[AO.list []]).length=H.length+2:=by simp
 have hT:(H++[AO.list ((rows.map aT).map .str)]++[AO.list []])[H.length]?=some (.list ((rows.map aT).map .str)):=by
  rw[zL (by rw[l1];lia),zR (ZA _),ZY];rfl
 have hT0:(H++[AO.list ((rows.map aT).map .str)])[H.length]?=some (.list ((rows.map aT).map .str)):=aP
 have hJ:(H++[AO.list ((rows.map aT).map .str)]++[AO.list []])[H.length+1]?=some (.list (([]:List Nat).map .obj)):=by
  rw[zR (by rw[l1];lia),l1,ZY];rfl
 refine c7 (ny (k:=k) (F:=⟨sc,[]⟩) (sc:=sc) (gens:=[⟨.Name "row" p4,.Call (.Attribute (.Name "text" p5) "split" p6) [.Constant (.str "\n") qq p7] [] p8,[],0⟩]) (pos:=p9) (p1:=p1) (p2:=p2) (p3:=p3) hz G k1 k2 k3 (T:=H.length) (J:=H.length+1) (texts:=rows.map aT) rfl (by lia) (by simpa using hn) rows [] 0 [] _ h2 hT hJ rfl rfl) λloc' H' js c1 c2 c3 c4 c5=>?_
 refine kz ?_
 have lt':H.length+1<H'.length:=aq c2
 refine dJ (H.length+1) H' ?_ (bO js (by simpa using c2) c3 λi j r h1 h2=>(c4 i j r h1 h2).1) (λi o h=>?_) (by lia)
 ·refine da (fl:=.ret (.obj (H.length+1))) (loc:=[("text",.str (aH rows))]) G (t7 _) (by w_on) (by w_on) (λρ m s xs ks X hx hk=>?_) ?_
  ·refine mx hx hk λ_ hx=>?_
   refine al [("text",_)] (@bC _ _ _ _ _ X ?_) (.cons hx .nil)
   exact BW _ _
  ·apply aK (loc:=[("text",.str (aH rows))])
   rw[hb]
   have z:=Bw (c:=c) (F:=Em) (k:=k+111) (σ:=⟨[("text",.str (aH rows))],H⟩) (x:=aH rows) (y:="\n") (by decide) hl hp
   rw[bs]at z
   have e:=fZ (F:=Em) (k:=k+111) (σ:=⟨[("text",.str (aH rows))],H⟩) (σ₁:=⟨[("text",.str (aH rows))],H++[AO.list ((rows.map aT).map .str)]⟩) (I:=aR H.length ((rows.map aT).map .str)) (loc':=loc') (H':=H') (a:=.obj H.length) (rest:=[]) (ifs:=[]) (target:=.Name "row" p4) (iter:=.Call (.Attribute (.Name "text" p5) "split" p6) [.Constant (.str "\n") qq p7] [] p8) (elt:=.Call (.Name "split" p1) [.Name "row" p2] [] p3) (pos:=p9) G.ok az scp (λ_ _=>rfl)
    (d6 he (aa Dm rfl rfl) (Bb PySem.F.slot_str_split PySem.F.type_str_split) (af λ_=>rfl) (am (λ_=>rfl) bn au) z)
    (dZ hT0) hT0 (by show(H++[AO.list ((rows.map aT).map .str)]).length<_;rw[l1];exact lt') (by show CL _ _ _ _ _ _ _ _ _ (H++[AO.list ((rows.map aT).map .str)]).length _ _ _;rw[l1];exact c1)
   dsimp only at e
   rw[l1]at e
   exact bv (aX e)
 ·have il:=aq h
  refine c5 i o (by lia) ?_
  rw[zL (by rw[l1];lia),zL il]
  exact h
noncomputable def Ck:List (Nat×Nat):=[(1,0),(2,0),(2,1),(3,0),(3,1),(3,2),(4,0),(4,1),(4,2),(4,3)]
noncomputable def GF(p:Nat×Nat):Str×Str:=(names.getD p.1 "",names.getD p.2 "")
noncomputable def Cv(a b:Str):Bool:=decide (a.cps.toList<b.cps.toList)
noncomputable def jQ(a b:Str×Str):Bool:=if a.1=b.1 then Cv a.2 b.2 else Cv a.1 b.1
noncomputable def rk(i:Nat):Nat:=[4,8,9,5,6,7,0,1,3,2].getD i 0
noncomputable def iC:List Nat:=[6,7,9,8,0,3,4,5,1,2]
noncomputable def fO(b:List Bool):List Nat:=(ZH 10).filter λi=>b.getD i false
noncomputable def cV{α:Type}(n:Nat)(lt:Nat→Nat→Bool):KasT α→Option α
 | .ret a=>some a
 | .ask i j k=>if i<n∧j<n then cV n lt (k (lt i j))else none
theorem x8{cmp:Nat→Nat→(Bool→Shared→Prop)→Shared→Prop}{lt:Nat→Nat→Bool}(h:∀i j C,i<n→j<n→C (lt i j) s→cmp i j C s){Q:α→Shared→Prop}{a:α}:
  ∀(t:KasT α),cV n lt t=some a→Q a s→t.kasWp cmp Q s:=by
 intro t
 induction t with
 |ret b=>intro e q;have e:=Option.some.inj e;subst e;exact q
 |ask i j k ih=>intro e q;exact aO (Fu e) λc e=>h i j _ c.1 c.2 (ih _ e q)
theorem uK{a:Addr}{vs:List Value}{P:Fin→Shared→Prop}{lt:Nat→Nat→Bool}{p:Array Nat}{κ:SortKind}(ho:s.heap.get? a=some (seqObj "list" vs.toArray n))(h64:vs.length<64)
  (hkk:2≤vs.length→∀s':Shared,(∀b o,b≠a→s.heap.get? b=some o→s'.heap.get? b=some o)→∀(Q:SortKind→Shared→Prop) E',Q κ s'→wpAny (model prog w) A (keyKind' vs.toArray) Q E' s')
  (hcmp:∀i j,i<vs.length→j<vs.length→∀s':Shared,(∀b o,b≠a→s.heap.get? b=some o→s'.heap.get? b=some o)→∀C:Bool→Shared→Prop,C (lt i j) s'→kas_ask prog w A κ vs i j C s')
  (hrun:2≤vs.length→cV vs.length lt (kas_sort vs.length)=some p)
  (h:∀out:List Value,(vs.length<2→out=vs)→(2≤vs.length→out=p.toList.map λi=>vs.getD i Value.none)→P (.done (.ret .none)) {s with heap:=sortedHeap s.heap a vs out.toArray}):
  wpAny (model prog w) A (Builtin.«list.sort» ⟨[.ref a],[]⟩) P E s:=by
 rw[list_sort_plain]
 have ha:a<s.heap.objs.size:=ZB ho
 refine YC (listItems_at ho rfl ?_)
 refine YC (listUpdate_at ho rfl ?_ (by rw[Ze,sizeLine_eq];lia) (Zl _))
 obtain⟨e1,ho1⟩:∃e1,(s.heap.update a (Obj.mapSeq λ_=>(#[]:Array Value))).get? a=some (seqObj "list" #[] e1):=⟨_,get?_update_seq ho (λ_=> #[])⟩
 refine YC (seqEpoch_at ho1 rfl ?_)
 refine YC (wpAny_newTuple ?_ (by show vs.length≤_;rw[sizeLine_eq];lia))
 refine YC (wpAny_newList ?_ (Zl _))
 refine YF ?_
 have ho6:(((s.heap.update a (Obj.mapSeq λ_=>(#[]:Array Value))).push (seqObj "tuple" vs.toArray 0)).push (seqObj "list" #[] 0)).get? a=some (seqObj "list" #[] e1):=zH _ (zH _ ho1)
 have kk:∀b o,b≠a→s.heap.get? b=some o→(((s.heap.update a (Obj.mapSeq λ_=>(#[]:Array Value))).push (seqObj "tuple" vs.toArray 0)).push (seqObj "list" #[] 0)).get? b=some o:= λb o hb e=>
  zH _ (zH _ ((ZU _ _ (Ne.symm hb)).trans e))
 show wpAny (model prog w) A _ P E {s with heap:=((s.heap.update a (Obj.mapSeq λ_=>(#[]:Array Value))).push (seqObj "tuple" vs.toArray 0)).push (seqObj "list" #[] 0)}
 dsimp only
 by_cases h2:vs.length<2
 ·have h2':vs.toArray.size<2:=by simpa using h2
  rw[if_pos h2',if_pos h2']
  refine YC (YD ?_)
  rw[StateT.run_pure]
  refine YC (YD ?_)
  dsimp only
  have em:(arrOf (SortSt.mk' general' (vs.toArray.zip vs.toArray) #[] 7 none)).map (·.2)=vs.toArray:=by
   show(vs.toArray.zip vs.toArray).map (·.2)=vs.toArray
   apply Array.ext
   ·simp
   ·intro i h1 h2;simp
  refine YC (seqEpoch_at ho6 rfl ?_)
  refine YC (listUpdate_at ho6 rfl ?_ (Zl _) (by rw[em,Ze,sizeLine_eq];lia))
  simp only[bne_self_eq_false,Zy,if_false]
  rw[em]
  exact YD (h vs (λ_=>rfl) λz=>absurd h2 (by lia))
 ·have h2':¬vs.toArray.size<2:=by simpa using h2
  have h2n:2≤vs.length:=by lia
  rw[if_neg h2',if_neg h2']
  refine YC (hkk h2n _ kk _ _ ?_)
  have run:=x8 (n:=vs.length) (cmp:=kas_ask prog w A κ vs) (lt:=lt) (s:={s with heap:=((s.heap.update a (Obj.mapSeq λ_=>(#[]:Array Value))).push (seqObj "tuple" vs.toArray 0)).push (seqObj "list" #[] 0)})
   (Q:= λq s'=>q=p∧s'={s with heap:=((s.heap.update a (Obj.mapSeq λ_=>(#[]:Array Value))).push (seqObj "tuple" vs.toArray 0)).push (seqObj "list" #[] 0)}) (λi j C hi hj hC=>hcmp i j hi hj _ kk C hC) (kas_sort vs.length) (hrun h2n) ⟨rfl,rfl⟩
  refine YC (YE (kat_run (Q:= λst' s'=>∃q:Array Nat,q.size=vs.length∧arrOf st'=q.map (kas_item (vs.toArray.zip vs.toArray))∧failedOf st'=none∧q=p∧s'={s with heap:=((s.heap.update a (Obj.mapSeq λ_=>(#[]:Array Value))).push (seqObj "tuple" vs.toArray 0)).push (seqObj "list" #[] 0)})
   rfl h2n h64 (λp' st' s' a1 a2 a3 a4=>⟨p',a1,a2,a3,a4.1,a4.2⟩) run) ?_ λ_ _ e=>e)
  rintro⟨⟨⟩,st'⟩ s' ⟨q,hp,har,hf,rfl,rfl⟩
  dsimp only
  have hout:=kat_snds rfl har
  rw[hout]
  have hsz:(List.toArray (q.toList.map λi=>vs.getD i Value.none)).size=vs.length:=by rw[Ze,ZS,Array.length_toList,hp]
  refine YC (seqEpoch_at ho6 rfl ?_)
  refine YC (listUpdate_at ho6 rfl ?_ (Zl _) (Z2 (Nat.le_of_eq hsz) (by rw[sizeLine_eq];lia)))
  rw[hf]
  simp only[bne_self_eq_false,Zy,if_false]
  exact YD (h _ (λz=>absurd z h2) λ_=>rfl)
theorem wy{l:Addr}{vs:List Value}{lt:Nat→Nat→Bool}{p:Array Nat}{κ:SortKind}(hl:s.heap.IsList l vs.toArray)(h64:vs.length<64)
  (hkk:2≤vs.length→∀s':Shared,(∀b o,s.heap.get? b=some o→s'.heap.get? b=some o)→∀(Q:SortKind→Shared→Prop) E',Q κ s'→wpAny (model prog w) A.in1.in1 (keyKind' vs.toArray) Q E' s')
  (hcmp:∀i j,i<vs.length→j<vs.length→∀s':Shared,(∀b o,s.heap.get? b=some o→s'.heap.get? b=some o)→∀C:Bool→Shared→Prop,C (lt i j) s'→kas_ask prog w A.in1.in1 κ vs i j C s')
  (hrun:2≤vs.length→cV vs.length lt (kas_sort vs.length)=some p)
  (h:∀out:List Value,(vs.length<2→out=vs)→(2≤vs.length→out=p.toList.map λi=>vs.getD i Value.none)→Q (.ref (s.heap.objs.size+1)) {s with heap:=sortedAll s.heap vs out.toArray}):
  wpAny (model prog w) A (call (.builtin "sorted") [.ref l]) Q E s:=by
 refine Calls.call_function_entry kind_sorted plain_sorted entry_sorted (args_sorted1 _) ?_
 unfold Builtin.«sorted»
 refine YC (m:=checkCount "sorted" 1 1 _) (YD ?_)
 refine YC (collect_list hl ?_ (by rw[sizeLine_eq];lia))
 refine YC (wpAny_newList ?_ (by rw[sizeLine_eq];lia))
 have hsz:((s.heap.push (seqObj "list" #[] 0)).update s.heap.objs.size (Obj.mapSeq (· ++vs.toArray))).objs.size=s.heap.objs.size+1:=by
  rw[Heap.size_update,size_push']
 have hoL:(((s.heap.push (seqObj "list" #[] 0)).update s.heap.objs.size (Obj.mapSeq (· ++vs.toArray))).push (seqObj "list" vs.toArray 0)).get? (s.heap.objs.size+1)=some (seqObj "list" vs.toArray 0):=by
  rw[←hsz];exact ZN _ rfl
 have keep:∀b o,s.heap.get? b=some o→(((s.heap.push (seqObj "list" #[] 0)).update s.heap.objs.size (Obj.mapSeq (· ++vs.toArray))).push (seqObj "list" vs.toArray 0)).get? b=some o:= λb o q=>by
  have hlt:b<s.heap.objs.size:=ZB q
  rw[Heap.get?_push_ne _ _ _ (by rw[hsz];exact Z7 (Zd hlt)),Heap.get?_update_ne _ _ _ _ (Z7 hlt),Heap.get?_push_ne _ _ _ (Z7 hlt)]
  exact q
 have ne:∀b o,s.heap.get? b=some o→b≠s.heap.objs.size+1:= λb o e=>Z7 (Zd (ZB e))
 show wpAny _ _ _ _ _ {s with heap:=((s.heap.push (seqObj "list" #[] 0)).update s.heap.objs.size (Obj.mapSeq (· ++vs.toArray))).push (seqObj "list" vs.toArray 0)}
 rw[hsz]
 refine YC (YF (wpAny_call_entry slot_list_sort (al _ hoL rfl) entry_list_sort (uK (lt:=lt) (p:=p) (κ:=κ) (s:={s with heap:=((s.heap.push (seqObj "list" #[] 0)).update s.heap.objs.size (Obj.mapSeq (· ++vs.toArray))).push (seqObj "list" vs.toArray 0)}) hoL h64
  (λz s' hk=>hkk z s' λb o e=>hk b o (ne b o e) (keep b o e)) (λi j hi hj s' hk=>hcmp i j hi hj s' λb o e=>hk b o (ne b o e) (keep b o e)) hrun λout a1 a2=>al _ rfl ?_) (args_list_sort _)))
 exact YD (al _ rfl (h out a1 a2))
noncomputable def aN(H:List AO)(js:List Nat)(ps:List (Str×Str)):Prop:=js.length=ps.length∧∀(i j:Nat)(p:Str×Str),js[i]?=some j→ps[i]?=some p→H[j]?=some (AO.tuple [.str p.1,.str p.2])
theorem sL{a b:Str}(h:cF ρ n [.str a,.str b] its):∃t u,its=[.str a t,.str b u]:=by
 cases h with
 |cons h1 h2=>
  refine lL h2 λ_ h2=>?_
  refine bp h1 ?_;clear h1;intro t z0;subst z0;refine bp h2 ?_;clear h2;intro u z0;subst z0
  exact rX t u rfl
theorem fQ:∀{vs:List Value},cF ρ n (js.map .obj) vs→vs=js.map λj=>.ref (ρ j):=by
 induction js with
 |nil=>intro vs h;cases h;rfl
 |cons j js ih=>
  intro vs h
  refine jj h ?_
  intro v vs h t
  rw[ih t,h.2];rfl
theorem sv{ρ:Nat→Addr}{n:Nat}:∀{js:List Nat},(∀j∈js,j<n)→cF ρ n (js.map .obj) (js.map λj=>.ref (ρ j))
 | [],_=>.nil
 |j::js,h=>.cons ⟨h j (.head _),rfl⟩ (sv λx hx=>h x (.tail _ hx))
theorem eu.none1(r:eu c ρ H h){a:Addr}(hn:h.get? a=none):c.h₁.get? a=none:=by
 cases q:c.h₁.get? a with
 |none=>rfl
 |some o=>
  by_cases t:a=c.tj
  ·subst t
   refine bp (r.tj.there q) λo' e'=>?_
   rw[hn]at e';cases e'
  ·have:=r.base _ o q t
   rw[hn]at this;cases this
theorem aW.allocAt(r:aW c A F ρ σ s env){ao:AO}{ob:Obj}{a:Addr}(hk:∀b o,s.heap.get? b=some o→h'.get? b=some o)(hn:s.heap.get? a=none)(ha:h'.get? a=some ob)(ho:OR (gj ρ σ.H.length a) (σ.H.length+1) ao ob):
  aW c A F (gj ρ σ.H.length a) ⟨σ.loc,σ.H++[ao]⟩ {s with heap:=h',toks:=tk} env∧aM c ρ σ.H.length (· =env.locals) s (gj ρ σ.H.length a) (σ.H++[ao]).length {s with heap:=h',toks:=tk}:=by
 have len:(σ.H++[ao]).length=σ.H.length+1:=by simp
 have ne:∀i,i<σ.H.length→ρ i≠a:= λi hi q=>by
  refine aj (r.hr.at_ i (σ.H[i]) (zG hi)) λo h1 _=>?_
  rw[q,hn]at h1;cases h1
 have nn:=r.hr.none1 hn
 refine aj (r.lo) λm hm hl=>?_
 have hm':h'.Ns env.locals m:=let⟨o,es,ep,e,rest⟩:=hm;(bh o es ep (hk _ _ e) rest)
 have last:∀i,σ.H.length≤i→i<(σ.H++[ao]).length→i=σ.H.length:= λi h1 h2=>by rw[len]at h2;lia
 refine⟨⟨⟨λi o e=>?_,λi j hi hj q=>?_,λi hi=>?_,λb o e t=>hk _ _ (r.hr.base b o e t),λo e=>(r.hr.tj o e).imp (λz=>hk _ _ z) λ⟨z1,z2,vs,more,z3,z4⟩=>bS z1 z2 vs more z3 (hk _ _ z4)⟩,r.sc,r.gl,r.bl,?_,λp hp=>?_,al m hm' λx v hv=>?_,λi hi q=>?_,r.lf,r.ge,r.sk.keep (λi hi=>bc hi) (λi h1 h2=>?_) λb o2 es ep g1 g2 _ _=>bh o2 es ep (hk _ _ g1) g2,r.tp,r.fl⟩,
  ⟨λi hi=>bc hi,by rw[len];exact Zf _,λi h1 h2=>?_,⟨λb o e=>⟨o,hk _ _ e⟩,λb o e _ _ _=>al o (hk _ _ e) .refl⟩,rfl⟩⟩
 ·rw[show(St.H ⟨σ.loc,σ.H++[ao]⟩).length=σ.H.length+1 from len]
  by_cases hi:i<σ.H.length
  ·have e':(σ.H++[ao])[i]?=some o:=e
   rw[zL hi]at e'
   refine aj (r.hr.at_ i o e') λob' h1 h2=>?_
   exact al ob' (by rw[bc hi];exact hk _ _ h1) (h2.mono (λj hj=>bc hj) (Zf _))
  ·have hi2:=last i (ZW hi) (aq e)
   subst hi2
   have e':(σ.H++[ao])[σ.H.length]?=some o:=e
   rw[zR (ZA _),ZY]at e'
   cases e'
   exact al ob (by rw[aF];exact ha) ho
 ·by_cases h1:i<σ.H.length
  ·by_cases h2:j<σ.H.length
   ·rw[bc h1,bc h2]at q;exact r.hr.inj i j h1 h2 q
   ·have:=last j (ZW h2) hj
    subst this
    rw[bc h1,aF]at q
    exact absurd q (ne i h1)
  ·have:=last i (ZW h1) hi
   subst this
   by_cases h2:j<σ.H.length
   ·rw[bc h2,aF]at q
    exact absurd q.symm (ne j h2)
   ·exact(last j (ZW h2) hj).symm
 ·by_cases h1:i<σ.H.length
  ·rw[bc h1];exact r.hr.up i h1
  ·have:=last i (ZW h1) hi
   subst this
   rw[aF];exact nn
 ·rw[r.ce];exact ZO λp hp=>by rw[bc (r.ci p hp)]
 ·show p.2<(σ.H++[ao]).length
  rw[len];exact Zd (r.ci p hp)
 ·refine aj (hl x v hv) λv' h1 h2=>?_
  exact al v' h1 (h2.mono (λj hj=>bc hj) (by show σ.H.length≤(σ.H++[ao]).length;rw[len];exact Zf _))
 ·by_cases h1:i<σ.H.length
  ·rw[bc h1]at q;exact r.ap i h1 q
  ·have:=last i (ZW h1) hi
   subst this
   rw[aF]at q
   refine dc hm λo es ep e _=>?_
   rw[←q,hn]at e;cases e
 ·have:=last i h1 h2
  subst this
  rw[aF];exact hn
 ·have:=last i h1 h2
  subst this
  rw[aF];exact hn
theorem zU{x y:Addr}{ox oy:Obj}{a b:Str×Str}{t u t' u':Tok}{C:Bool→Shared→Prop}(hx:s.heap.get? x=some ox)(dx:ox.data=.seq #[.str a.1 t,.str a.2 u] n)(hy:s.heap.get? y=some oy)(dy:oy.data=.seq #[.str b.1 t',.str b.2 u'] m)
  (h:C (jQ a b) s):wpAny (model prog w) A (keyLt' (tuples' true) (.ref x) (.ref y)) C E s:=by
 refine kat_lt hx dx hy dy ?_
 refine kat_cons (eqBool_str ?_)
 unfold jQ at h
 by_cases e:a.1=b.1
 ·rw[if_pos e]at h
  rw[show(a.1==b.1)=true by simpa using e]
  refine kat_yes (kat_cons (eqBool_str ?_))
  by_cases e2:a.2=b.2
  ·rw[show(a.2==b.2)=true by simpa using e2]
   refine kat_yes (kat_nil ?_)
   have:Cv a.2 b.2=false:=by unfold Cv;rw[e2];simpa using List.lt_irrefl _
   rw[this]at h
   exact h
  ·rw[show(a.2==b.2)=false by simpa using e2]
   exact kat_no (kat_one _ _ (P.lt_str h))
 ·rw[if_neg e]at h
  rw[show(a.1==b.1)=false by simpa using e]
  exact kat_no (strKind_oneLt prog w A _ s _ _ _ _ rfl rfl h)
theorem mJ{ps:List (Str×Str)}{p:Array Nat}(hj:σ.H[j]?=some (.list (js.map .obj)))(hps:aN σ.H js ps)(h64:js.length<64)
  (hrun:2≤js.length→cV js.length (λi j=>jQ (ps.getD i ("","")) (ps.getD j ("",""))) (kas_sort js.length)=some p)(hb:2≤js.length→∀i∈p.toList,i<js.length):
  cJ c F k (λxs=>call (.builtin "sorted") xs) [.obj j] σ (.obj σ.H.length) ⟨σ.loc,σ.H++[.list ((if js.length<2 then js else p.toList.map λi=>js.getD i 0).map .obj)]⟩:= λA ρ s env Q E xs K r hx q=>by
 refine lL hx λ_ h1=>?_
 refine aO h1 ?_;clear h1;intro _ z0;subst z0
 refine bz (r.list hj) λits hl hv _=>?_
 have eits:=fQ hv
 subst eits
 have jlt:∀x∈js,x<σ.H.length:= λx hx=>by
  obtain⟨i,hi,e⟩:=Zh.mp hx
  have hp:i<ps.length:=by rw[←hps.1];exact hi
  have:=hps.2 i x ps[i] (by rw[zG hi,e]) (zG hp)
  exact(aq this)
 have tup:∀i,i<js.length→∃ob t u e,s.heap.get? (ρ (js.getD i 0))=some ob∧ob.cls=.type "tuple"∧ob.data=.seq #[.str (ps.getD i ("","")).1 t,.str (ps.getD i ("","")).2 u] e:= λi hi=>by
  have hp:i<ps.length:=by rw[←hps.1];exact hi
  have z:=hps.2 i js[i] ps[i] (zG hi) (zG hp)
  refine aj (r.hr.at_ _ _ z) λob g1 g2=>?_
  refine ds g2 ?_;clear g2;intro its e z0 g3;subst z0
  refine mI (sL g3) λt u z0=>?_;subst z0
  refine sH _ t u e (by rw[show js.getD i 0=js[i]by simp[hi]];exact g1) rfl ?_
  rw[show ps.getD i ("","")=ps[i]by simp[hp]]
 have ln:(js.map λj=>Value.ref (ρ j)).length=js.length:=by simp
 have gd:∀i,i<js.length→(js.map λj=>Value.ref (ρ j)).getD i Value.none=.ref (ρ (js.getD i 0)):= λi hi=>by simp[hi]
 refine wy (lt:= λi j=>jQ (ps.getD i ("","")) (ps.getD j ("",""))) (p:=p) (κ:=tuples' true) hl (by rw[ln];exact h64) (λh2 s' hk Q E' hq=>?_) (λi j hi hj s' hk C hC=>?_) (by rw[ln];exact hrun) λout o1 o2=>?_
 ·rw[ln]at h2
  have kt:∀(l:List Nat)(f:Nat→Str),(∀x∈l,∃ob t xs e,s'.heap.get? (ρ (js.getD x 0))=some ob∧ob.cls=.type "tuple"∧ob.data=.seq xs e∧xs[0]?=some (.str (f x) t))→∃fs,KatTups s'.heap (l.map λx=>.ref (ρ (js.getD x 0))) fs∧fs.length=l.length∧∀v∈fs,∃y t,v=.str y t:=by
   intro l f
   induction l with
   |nil=>intro _;exact bO [] .nil rfl λv hv=>nomatch hv
   |cons x l ih=>
    intro h
    refine br λGz kz=>?_
    refine ia (h x (.head _)) λob t xs e g1 g2 g3 g4=>?_
    refine bz (ih λy hy=>h y (.tail _ hy)) λfs f1 f2 f3=>?_
    refine kz ?_
    refine bO (.str (f x) t::fs) (.cons g1 g2 g3 g4 f1) (by simp[f2]) λv hv=>?_
    rcases ZI.mp hv with rfl|hv
    ·exact rX _ _ rfl
    ·exact f3 v hv
  refine bz (kt (ZH js.length) (λi=>(ps.getD i ("","")).1) λx hx=>by
   obtain⟨ob,t,u,e,g1,g2,g3⟩:=tup x (ZP.mp hx)
   exact fG ob t _ e (hk _ _ g1) g2 g3 rfl) λfs f1 f2 f3=>?_
  have em:(ZH js.length).map (λx=>Value.ref (ρ (js.getD x 0)))=js.map λj=>.ref (ρ j):=by
   apply List.ext_getElem?
   intro i
   by_cases hi:i<js.length
   ·simp[hi]
   ·simp[hi]
  rw[em]at f1
  refine kat_kind (T:=.type "str") f1 (by rw[f2,List.length_range];lia) (λv hv=>?_) rfl hq
  refine mI (f3 v hv) λy t z0=>?_;subst z0
  exact Looks.of_pure rfl
 ·rw[ln]at hi hj
  unfold kas_ask
  rw[gd i hi,gd j hj]
  refine br λGz kz=>?_
  refine n6 (tup i hi) λob t u e g1 g2 g3=>?_
  refine n6 (tup j hj) λob' t' u' e' g1' g2' g3'=>?_
  refine kz ?_
  exact zU (hk _ _ g1) g3 (hk _ _ g1') g3' hC
 ·rw[ln]at o1 o2
  have eo:out=(if js.length<2 then js else p.toList.map λi=>js.getD i 0).map λj=>.ref (ρ j):=by
   by_cases h2:js.length<2
   ·rw[if_pos h2];exact o1 h2
   ·rw[if_neg h2,o2 (by lia),Zr]
    exact ZO λi hi=>gd i (hb (by lia) i hi)
  refine bp (sortedAll_at s.heap (js.map λj=>Value.ref (ρ j)) out.toArray) λe he=>?_
  have hn:s.heap.get? (s.heap.objs.size+1)=none:=by
   cases z:s.heap.get? (s.heap.objs.size+1)with
   |none=>rfl
   |some o=>exact absurd (ZB z) (ZX.mpr (Zf _))
  have lt':∀x∈(if js.length<2 then js else p.toList.map λi=>js.getD i 0),x<σ.H.length:= λx hx=>by
   by_cases h2:js.length<2
   ·rw[if_pos h2]at hx;exact jlt x hx
   ·rw[if_neg h2]at hx
    refine aj (ZR.mp hx) λi hi z0=>?_;subst z0
    have il:=hb (by lia) i hi
    rw[show js.getD i 0=js[i]by simp[il]]
    exact jlt _ (List.getElem_mem il)
  refine aO (r.allocAt (ao:=.list ((if js.length<2 then js else p.toList.map λi=>js.getD i 0).map .obj)) (a:=s.heap.objs.size+1) (tk:=s.toks) (λb o q=>sortedAll_old q) hn he (cH out e rfl (by
   rw[eo]
   exact(sv lt').mono (λi hi=>bc hi) (Zf _)))) λr1 st1=>?_
  exact q _ _ _ r1 st1 ⟨by simp,by rw[aF]⟩
noncomputable def vK:=d7 dP 39
noncomputable def wk:=jZ dP 39
theorem hH(P:Params):dz P 901 vK wk:=by constructor<;>w_on
theorem zP(P:Params)(x:Value)(S:Setting):peek (Kx P) S (bindArgs (dw P 901) ⟨[x],[]⟩)=some [(("rows":Str),x)]:=by w_on
theorem lJ(P:Params):nsIn (Kx P) mainGlobals ("sorted":Str)=some none:=by w_on
theorem jL:bootBuiltins ("sorted":Str)=some (.builtin "sorted"):=PyProof.Rows.Boot.sorted
theorem sx(kz:∀(sc:Scope)(p0 p1 p2 p3 p4 p5 p6 p7 p8 p9 p10 p11 p12 p13 p14 p15:Pos)(q1 q2 kd:Nat),(vK=[.Return (some (.Call (.Name "sorted" p1) [.ListComp (.Tuple [.Subscript (.Name "row" p2) (.Constant (.int 0) q1 p3) p4,.Name "need" p5] kd p6) [⟨.Name "row" p7,.Name "rows" p8,[],0⟩,⟨.Name "need" p9,.Subscript (.Name "row" p10) (.Slice (some (.Constant (.int 1) q2 p11)) none none p12) p13,[],0⟩] sc p14] [] p15)) p0]∧
  (sc.names.all λx=>x.2 != .free)=true∧(sc.names.all λx=>x.2 != .cell)=true∧sc.kind=.function∧(sc.names.lookup (".0":Str)==some .local&&sc.names.all λx=>x.2 != .local||sc.names.lookup x.1==some .local)=true∧sc.names.lookup ("row":Str)=some .local∧sc.names.lookup ("need":Str)=some .local)→Gz):Gz:=kz _ _ _ _ _ _ _ _ _ _ _ _ _ _ _ _ _ _ _ _ ⟨by k_dflt rfl,by w_on,by w_on,by w_on,by w_on,by w_on,by w_on⟩
noncomputable def u8(r:List Str):List (Str×Str):=r.tail.map λx=>(r.headD "",x)
noncomputable def bT(rows:List (List Str)):List (Str×Str):=rows.flatMap u8
section
variable{p7 p9 p10 p11 p12 p13:Pos}{q1 q2:Nat}
noncomputable def Cj(p2 p3 p4 p5 p6:Pos)(q1 kd:Nat):Expr:=.Tuple [.Subscript (.Name "row" p2) (.Constant (.int 0) q1 p3) p4,.Name "need" p5] kd p6
noncomputable def ri(p10 p11 p12 p13:Pos)(q2:Nat):Expr:=.Subscript (.Name "row" p10) (.Slice (some (.Constant (.int 1) q2 p11)) none none p12) p13
theorem sG(G:c.Go)(hk:F.scope.kind=.function)(hr:F.scope.names.lookup ("row":Str)=some .local)(hn:F.scope.names.lookup ("need":Str)=some .local){gens:List Comprehension}{iter2:Expr}(hg:gens[1]?=some ⟨.Name "need" p9,iter2,[],0⟩)(hg2:gens[2]?=none){T J jr:Nat}{hd:Str}{tl:List Str}(hTJ:T≠J)(hjJ:jr≠J):
  ∀(rest:List Str)(done:List Nat)(i:Nat)(l:List (Str×AV))(H:List AO),l.lookup ("row":Str)=some (.obj jr)→H[T]?=some (.list (tl.map .str))→H[jr]?=some (.list ((hd::tl).map .str))→H[J]?=some (.list (done.map .obj))→tl.drop i=rest→done.length+rest.length<900→
   ∃loc' H' js,CL c F (k+100) (Cj p2 p3 p4 p5 p6 q1 kd) gens sc pos 1 (aR T (tl.map .str)) J i ⟨l,H⟩ ⟨loc',H'⟩∧H'[J]?=some (.list ((done++js).map .obj))∧js.length=rest.length∧
    (∀(i j:Nat)(x:Str),js[i]?=some j→rest[i]?=some x→H'[j]?=some (AO.tuple [.str hd,.str x])∧j≠J)∧(∀(x:Nat)(o:AO),x≠J→H[x]?=some o→H'[x]?=some o)
 | [],done,i,l,H,_,hT,hjr,hJ,hd',_=>by
  refine cG l H [] (iL (σ:=⟨l,H⟩) (I:=aR T (tl.map .str)) (az) hg hg2 (λ_ _=>rfl) (by lia) hT ?_) (by simpa using hJ) rfl (λi j r h=>by simp at h) λx o _ h=>h
  show(tl.map AV.str)[i]?=none
  rw[ZC]
  simp[ZL]at hd' ⊢
  exact hd'
 |x::rest,done,i,l,H,hl,hT,hjr,hJ,hd',hz=>by
  have hi1:tl[i]?=some x:=by
   have:(tl.drop i)[0]?=some x:=by rw[hd'];rfl
   rw[Z1,Zq]at this
   exact this
  have hd1:tl.drop (i+1)=rest:=by
   have:(tl.drop i).drop 1=rest:=by rw[hd'];rfl
   rw[Zp]at this
   exact this
  have Jl:=aq hJ
  have up:∀(y:Nat)(o:AO),H[y]?=some o→(H++[AO.tuple [.str hd,.str x]])[y]?=some o:= λy o h=>bW.app y o h
  have up2:∀(y:Nat)(o:AO),y≠J→H[y]?=some o→((H++[AO.tuple [.str hd,.str x]]).set J (.list (done.map .obj++[.obj H.length])))[y]?=some o:= λy o hy h=>ak (up y o h) hy
  have Jl2:J<(H++[AO.tuple [.str hd,.str x]]).length:=by simp;lia
  have hl2:(aS ("need":Str) (.str x) l).lookup ("row":Str)=some (.obj jr):=dQ hl
  refine br λGz kz=>?_
  refine c7 (sG G hk hr hn hg hg2 hTJ hjJ rest (done++[H.length]) (i+1) (aS "need" (.str x) l) ((H++[AO.tuple [.str hd,.str x]]).set J (.list (done.map .obj++[.obj H.length]))) hl2 (up2 _ _ hTJ hT) (up2 _ _ hjJ hjr) (by rw[zT Jl2];simp) hd1 (by simp at hz ⊢;lia)) λloc' H' js c1 c2 c3 c4 c5=>?_
  refine kz ?_
  have hne:H.length≠J:=by lia
  refine cG loc' H' (H.length::js) (fM (a:=.str x) (v:=.obj H.length) (σ:=⟨l,H⟩) (σ₁:=⟨aS "need" (.str x) l,H⟩) (σ₂:=⟨aS "need" (.str x) l,H⟩) (σ₃:=⟨aS "need" (.str x) l,H++[AO.tuple [.str hd,.str x]]⟩) (acc:=done.map .obj) (I:=aR T (tl.map .str)) G.ok (az) hg hg2 (λ_ _=>rfl) hT ?_ (bg hk hn) jH ?_ (up _ _ hJ) (by simp at hz ⊢;lia) c1) (by simpa using c2) (by simp[c3]) ?_ ?_
  ·show(tl.map AV.str)[i]?=_
   rw[ZK,hi1];rfl
  ·exact tK (by show 2<1000;decide) (am (λ_=>rfl) (cW (by decide) (by decide) (λ_ _=>rfl) (λ_ _=>rfl) (aa hk hr hl2) aJ hjr rfl) (am (λ_=>rfl) (aa hk hn (ah _ _ _)) au))
  ·intro i' j' r' h1 h2
   cases i' with
   |zero=>
    cases h1;cases h2
    exact⟨c5 _ _ hne (ak aP hne),hne⟩
   |succ i'=>exact c4 i' j' r' h1 h2
  ·intro y o hy h
   exact c5 y o hy (up2 y o hy h)
theorem j6(h:cF ρ n vs its):cF ρ n (vs.drop 1) (slicePick ⟨its⟩ (some 1) none none).toList:=by
 have:=slicePick_from' ⟨its⟩ 1
 rw[show((1:Nat):Int)=1 from rfl]at this
 rw[this]
 exact sh 1 h
theorem pJ(G:c.Go)(hk:F.scope.kind=.function)(hr:F.scope.names.lookup ("row":Str)=some .local)(hn:F.scope.names.lookup ("need":Str)=some .local){T J:Nat}{js0:List Nat}(hTJ:T≠J)(hl0:js0.length<900):
  ∀(rest:List (List Str))(rj:List Nat)(done:List Nat)(i:Nat)(l:List (Str×AV))(H:List AO),(∀r∈rest,r≠[]∧r.length<500)→H[T]?=some (.list (js0.map .obj))→H[J]?=some (.list (done.map .obj))→js0.drop i=rj→rj.length=rest.length→(∀(i j:Nat)(r:List Str),rj[i]?=some j→rest[i]?=some r→H[j]?=some (AO.list (r.map .str))∧j≠J)→done.length+(bT rest).length<900→
   ∃loc' H' js,CL c F (k+100) (Cj p2 p3 p4 p5 p6 q1 kd) [⟨.Name "row" p7,iter,[],0⟩,⟨.Name "need" p9,ri p10 p11 p12 p13 q2,[],0⟩] sc pos 0 (aR T (js0.map .obj)) J i ⟨l,H⟩ ⟨loc',H'⟩∧H'[J]?=some (.list ((done++js).map .obj))∧js.length=(bT rest).length∧
    (∀(i j:Nat)(x:Str×Str),js[i]?=some j→(bT rest)[i]?=some x→H'[j]?=some (AO.tuple [.str x.1,.str x.2])∧j≠J)∧(∀(x:Nat)(o:AO),x≠J→H[x]?=some o→H'[x]?=some o)
 | [],rj,done,i,l,H,_,hT,hJ,hd,hl,_,_=>by
  have:rj=[]:=by simpa using hl
  subst this
  refine cG l H [] (F8 (σ:=⟨l,H⟩) (I:=aR T (js0.map .obj)) (az) rfl rfl (λ_ _=>rfl) (λ_ _=>rfl) (by lia) hT ?_) (by simpa using hJ) rfl (λi j r h=>by simp at h) λx o _ h=>h
  show(js0.map AV.obj)[i]?=none
  rw[ZC]
  simp[ZL]at hd ⊢
  exact hd
 |r::rest,[],done,i,l,H,_,_,_,_,hl,_,_=>by simp at hl
 |r::rest,jr::rj,done,i,l,H,hok,hT,hJ,hd,hl,hat,hz=>by
  have hi1:js0[i]?=some jr:=by
   have:(js0.drop i)[0]?=some jr:=by rw[hd];rfl
   rw[Z1,Zq]at this
   exact this
  have hd1:js0.drop (i+1)=rj:=by
   have:(js0.drop i).drop 1=rj:=by rw[hd];rfl
   rw[Zp]at this
   exact this
  refine br λGz kz=>?_
  refine aO (hat 0 jr r rfl rfl) λhr0 hjJ=>?_
  refine aO (hok r (.head _)) λne rl=>?_
  obtain⟨x0,tl,rfl⟩:∃x tl,r=x::tl:=by cases r with|nil=>exact absurd rfl ne|cons x tl=>exact rX x tl rfl
  have Jl:=aq hJ
  have pr:bT ((x0::tl)::rest)=tl.map (λy=>(x0,y))++bT rest:=rfl
  rw[pr,List.length_append,ZS]at hz
  have up:∀(y:Nat)(o:AO),H[y]?=some o→(H++[AO.list (tl.map .str)])[y]?=some o:= λy o h=>bW.app y o h
  have hTJ2:H.length≠J:=by lia
  refine c7 (sG (k:=k) (F:=F) (sc:=sc) (pos:=pos) (p2:=p2) (p3:=p3) (p4:=p4) (p5:=p5) (p6:=p6) (p9:=p9) (q1:=q1) (kd:=kd) (gens:=[⟨.Name "row" p7,iter,[],0⟩,⟨.Name "need" p9,ri p10 p11 p12 p13 q2,[],0⟩]) (T:=H.length) (J:=J) (jr:=jr) (hd:=x0) (tl:=tl) G hk hr hn rfl rfl hTJ2 hjJ tl done 0 (aS "row" (.obj jr) l) (H++[AO.list (tl.map .str)]) (ah _ _ _)
   (aP) (up _ _ hr0) (up _ _ hJ) rfl (by lia)) λloc1 H1 js1 c1 c2 c3 c4 c5=>?_
  refine c7 (pJ G hk hr hn hTJ hl0 rest rj (done++js1) (i+1) loc1 H1 (λr hr=>hok r (.tail _ hr)) (c5 _ _ hTJ (up _ _ hT)) c2 hd1 (by simpa using hl) (λi' j' r' h1 h2=>⟨c5 _ _ (hat (i'+1) j' r' h1 h2).2 (up _ _ (hat (i'+1) j' r' h1 h2).1),(hat (i'+1) j' r' h1 h2).2⟩) (by simp[c3];lia)) λloc' H' js2 e1 e2 e3 e4 e5=>?_
  refine kz ?_
  refine cG loc' H' (js1++js2) (Dc (a:=.obj jr) (b:=.obj H.length) (σ:=⟨l,H⟩) (σ₁:=⟨aS "row" (.obj jr) l,H⟩) (σ₂:=⟨aS "row" (.obj jr) l,H++[AO.list (tl.map .str)]⟩) (σ₃:=⟨loc1,H1⟩) (I:=aR T (js0.map .obj)) (I2:=aR H.length (tl.map .str)) G.ok az az rfl rfl (λ_ _=>rfl) (λ_ _=>rfl) hT ?_ (bg hk hr) ?_ (dZ (by show(H++[AO.list (tl.map .str)])[H.length]?=_;rw[zR (ZA _),ZY];rfl)) c1 e1) (by rw[e2];simp) ?_ ?_ ?_
  ·show(js0.map AV.obj)[i]?=_
   rw[ZK,hi1];rfl
  ·have z:=fF (c:=c) (F:=F) (k:=k+100) (σ:=⟨aS "row" (.obj jr) l,H⟩) (σ₁:=⟨aS "row" (.obj jr) l,H⟩) (σ₂:=⟨aS "row" (.obj jr) l,H⟩) (σ₃:=⟨aS "row" (.obj jr) l,H⟩) (σ₄:=⟨aS "row" (.obj jr) l,H⟩) (value:=.Name "row" p10) (lower:=some (.Constant (.int 1) q2 p11)) (upper:=none) (step:=none) (p:=p12) (pos:=p13) (j:=jr) (vs:=(x0::tl).map .str) (l:=some 1) (u:=none) (t:=none) (v':=tl.map .str) (by simp at rl ⊢;lia) (by simp) (λ_ _=>⟨_,rfl⟩) (aa hk hr (ah _ _ _)) (e9 aJ) dm dm hr0 (λρ n its h=>j6 h)
   exact z
  ·rw[pr];simp[c3,e3]
  ·intro i' j' x' h1 h2
   rw[pr]at h2
   by_cases hi:i'<js1.length
   ·rw[zL hi]at h1
    rw[zL (by rw[ZS,←c3];exact hi)]at h2
    rw[ZK]at h2
    refine aj (Z6.mp h2) λy hy z0=>?_;subst z0
    refine aO (c4 i' j' y h1 hy) λz1 z2=>?_
    exact⟨e5 _ _ z2 z1,z2⟩
   ·rw[zR (ZW hi)]at h1
    rw[zR (by rw[ZS,←c3];exact ZW hi),ZS,←c3]at h2
    exact e4 _ j' x' h1 h2
  ·intro y o hy h
   exact e5 y o hy (c5 y o hy (up y o h))
end
noncomputable def fg(ps ss:List (Str×Str)):Prop:=(ps.length<2→ss=ps)∧(2≤ps.length→∃p:Array Nat,cV ps.length (λi j=>jQ (ps.getD i ("","")) (ps.getD j ("",""))) (kas_sort ps.length)=some p∧(∀i∈p.toList,i<ps.length)∧(p.toList.map λi=>ps.getD i ("",""))=ss)
noncomputable def cR(H:List AO)(N:Nat)(ps:List (Str×Str)):Prop:=∃js,H[N]?=some (AO.list (js.map .obj))∧aN H js ps
noncomputable def CT:Fs:=⟨wk,[]⟩
theorem vO:CT.scope.kind=.function:=by w_on
theorem aN.ext{ps:List (Str×Str)}(h:aN H js ps)(e:bW H H'):aN H' js ps:=⟨h.1,λi j p h1 h2=>e _ _ (h.2 i j p h1 h2)⟩
theorem oJ.ext{rows:List (List Str)}(h:oJ H L rows)(e:bW H H'):oJ H' L rows:=let⟨js,h1,h2,h3⟩:=h;(bO js (e _ _ h1) h2 λi j r a b=>e _ _ (h3 i j r a b))
theorem jh(G:c.Go){rows:List (List Str)}{ss:List (Str×Str)}(hR:oJ H L rows)(hok:∀r∈rows,r≠[]∧r.length<500)(hl:rows.length<900)(hp:(bT rows).length<64)(hS:fg (bT rows) ss):
  ∃N H',Fn c (k+101) (.ref 901) [.obj L] [] H (.obj N) H'∧cR H' N ss∧bW H H'∧H.length≤N:=by
 refine br λGz kz=>?_
 refine sx λsc p0 p1 p2 p3 p4 p5 p6 p7 p8 p9 p10 p11 p12 p13 p14 p15 q1 q2 kd hz_=>?_
 obtain⟨hb,s1,s2,s3,s4,k1,k2⟩:=hz_
 refine bz hR λjs0 hL hlen hat=>?_
 have Ll:=aq hL
 have scp:cz CT sc sc []:=cQ s1 s2 s3 s4
 have ksc:(Fs.mk sc []).scope.kind=.function:=s3
 have up:∀(y:Nat)(o:AO),H[y]?=some o→(H++[AO.list []])[y]?=some o:= λy o h=>bW.app y o h
 have jlt:∀(i j:Nat),js0[i]?=some j→j<H.length:= λi j h=>by
  have il:=aq h
  have:=hat i j rows[i] h (zG (by lia))
  exact(aq this)
 refine c7 (pJ (k:=k) (F:=⟨sc,[]⟩) (sc:=sc) (pos:=p14) (p2:=p2) (p3:=p3) (p4:=p4) (p5:=p5) (p6:=p6) (p7:=p7) (p9:=p9) (p10:=p10) (p11:=p11) (p12:=p12) (p13:=p13) (q1:=q1) (q2:=q2) (kd:=kd) (iter:=.Name "rows" p8) G ksc k1 k2 (T:=L) (J:=H.length) (js0:=js0) (by lia) (by lia) rows js0 [] 0 [] (H++[AO.list []]) hok (up _ _ hL) (aP) rfl hlen
  (λi j r h1 h2=>⟨up _ _ (hat i j r h1 h2),Z7 (jlt i j h1)⟩) (by simpa using ZE hp (by lia))) λloc' H1 js c1 c2 c3 c4 c5=>?_
 have lt1:H.length<H1.length:=aq c2
 have pat:aN H1 js (bT rows):=⟨c3,λi j p h1 h2=>(c4 i j p h1 h2).1⟩
 have c2':H1[H.length]?=some (AO.list (js.map .obj)):=by simpa using c2
 have ext1:bW H H1:= λi o h=>c5 i o (Z7 (aq h)) (up _ _ h)
 obtain⟨p,hp1,hp2⟩:∃p:Array Nat,(2≤js.length→cV js.length (λi j=>jQ ((bT rows).getD i ("","")) ((bT rows).getD j ("",""))) (kas_sort js.length)=some p∧(∀i∈p.toList,i<js.length))∧(2≤js.length→(p.toList.map λi=>(bT rows).getD i ("",""))=ss):=by
  rw[c3]
  by_cases h2:2≤(bT rows).length
  ·refine bz (hS.2 h2) λp a1 a2 a3=>?_
   exact al p (λ_=>⟨a1,a2⟩) λ_=>a3
  ·exact al (#[]) (λz=>absurd z h2) λz=>absurd z h2
 refine kz ?_
 have srt:=mJ (c:=c) (F:=CT) (k:=k+100) (σ:=⟨[("rows",.obj L)],H1⟩) (p:=p) c2' pat (by lia) (λz=>(hp1 z).1) (λz=>(hp1 z).2)
 refine dJ H1.length (H1++[AO.list ((if js.length<2 then js else p.toList.map λi=>js.getD i 0).map .obj)]) ?_ (al _ (List.getElem?_concat_length ..) ?_) (ext1.trans bW.app) (by lia)
 ·refine da (fl:=.ret (.obj H1.length)) (loc:=[("rows",.obj L)]) G (hH _) (by w_on) (by w_on) (λρ m s xs ks X hx hk=>?_) ?_
  ·refine mx hx hk λ_ hx=>?_
   refine al [("rows",_)] (@bC _ _ _ _ _ X ?_) (.cons hx .nil)
   exact zP _ _
  ·apply aK (loc:=[("rows",.obj L)])
   rw[hb]
   have e:=fZ (F:=CT) (k:=k+100) (σ:=⟨[("rows",.obj L)],H⟩) (σ₁:=⟨[("rows",.obj L)],H⟩) (I:=aR L (js0.map .obj)) (loc':=loc') (H':=H1) (a:=.obj L) (rest:=[⟨.Name "need" p9,ri p10 p11 p12 p13 q2,[],0⟩]) (ifs:=[]) (target:=.Name "row" p7) (iter:=.Name "rows" p8) (elt:=Cj p2 p3 p4 p5 p6 q1 kd) (pos:=p14) G.ok az scp (λ_ _=>rfl)
    (aa vO rfl rfl) (dZ hL) hL lt1 c1
   exact bv (aX (dB (λ_=>rfl) (λ_=>rfl) (dg G vO rfl (lJ _) jL) (af λ_=>rfl) (am (λ_=>rfl) e au) srt))
 ·by_cases h2:js.length<2
  ·rw[if_pos h2,hS.1 (by lia)]
   exact pat.ext bW.app
  ·rw[if_neg h2,←hp2 (by lia)]
   refine⟨by simp,λi j x h1 h2'=>?_⟩
   rw[ZK]at h1 h2'
   refine aj (Z6.mp h1) λy hy z0=>?_;subst z0
   refine aj (Z6.mp h2') λy' hy' z0=>?_;subst z0
   rw[hy]at hy';cases hy'
   have yl:=(hp1 (by lia)).2 y (Zg hy)
   have yl2:y<(bT rows).length:=by lia
   have:=pat.2 y js[y] (bT rows)[y] (zG yl) (zG yl2)
   rw[show js.getD y 0=js[y]by simp[yl],show(bT rows).getD y ("","")=(bT rows)[y]by simp[yl2]]
   exact bW.app _ _ this
noncomputable def jc(n:Int):AO:=.is λ_ _ o=>∃t u v,o={cls:=.type "range",data:=.fields #[.int 0 t,.int n u,.int 1 v]}
noncomputable def dY(n:Nat):qc:=⟨λ_=>True,λ_ i o=>o={cls:=.type "range_iterator",data:=.fields #[rawInt i,rawInt ((n:Int) - i),rawInt 1]},(ZH n).map λ(i:Nat)=>AV.int (i:Int)⟩
theorem fV:(dY n).Good c where
 nd:= λρ i o h es ep q=>by rw[show o=_ from h]at q;cases q
 ag:= λρ ρ' H i o hk h e=>h
 next:= λ{A F ρ σ s env it i o a Q E} r hk hit ho ha hap q=>by
  have il:i<n:=by have:=(aq ha);simpa[dY]using this
  have ea:a=.int i:=by
   have:((ZH n).map λ(i:Nat)=>AV.int (i:Int))[i]?=some a:=ha
   rw[ZK,zG (by simpa using il)]at this
   simpa using this.symm
  subst ea
  rw[show o=_ from ho]at hit
  refine wpAny_pyNext_range_item (x:=i) (left:=(n:Int) - i) (step:=1) hit (by lia) λh' hi hs=>?_
  have e1:(i:Int)+1=((i+1:Nat):Int):=by lia
  have e2:(n:Int) - i - 1=(n:Int) - ((i+1:Nat):Int):=by lia
  rw[e1,e2]at hi
  exact q h' _ _ _ ⟨_,rfl⟩ hi rfl λb ob hb hne=>(hs.2 b hne).trans hb
 stop:= λ{A F ρ σ s env it i o Q E} hh r hk hit ho ha hap q=>by
  have il:n≤i:=by have:=ZC.mp ha;simpa[dY]using this
  rw[show o=_ from ho]at hit
  exact wpAny_pyNext_range_end hh hit (by lia) λh' hx=>q h' s.toks λb ob hb hne=>hx b ob hne hb
 self:= λ{A s it ρ o i Q E} hit ho q=>by
  rw[show o=_ from ho]at hit
  exact wpAny_pyIter_rangeiter hit q
theorem kW{n:Int}:cJ c F k (λxs=>call (.type "range") xs) [.int n] σ (.obj σ.H.length) ⟨σ.loc,σ.H++[jc n]⟩:= λA ρ s env Q E xs K r hx q=>by
 refine lL hx λ_ h1=>?_
 refine bp h1 ?_;clear h1;intro t z0;subst z0
 refine aO (r.alloc (ao:=jc n) (ob:={cls:=.type "range",data:=.fields #[.int 0 s.toks,.int n t,.int 1 (s.toks+1)]}) (s.toks+1+1) rfl (λ_ _ _ _=>wW _ _ _ rfl)) λr1 st1=>?_
 exact call_range_1 (q _ _ _ r1 st1 ⟨by simp,by rw[aF]⟩)
theorem lw(hn:n<1000)(hj:σ.H[j]?=some (jc n)):Mk c (dY n) (.obj j) σ:= λ{A F ρ s env x Q E} r hx q=>by
 refine aO hx ?_;clear hx;intro _ z0;subst z0
 refine aj (r.hr.at_ j _ hj) λob h1 h2=>?_
 refine i7 (h2 ρ σ.H.length (λ_ _=>rfl) (ZA _)) λt u v z0=>?_;subst z0
 refine wpAny_pyIter_range h1 (small_one (by lia) (by lia) (by lia) (by lia)) ?_
 have e:Builtin.Range.rangeSize 0 (n:Int) 1=(n:Int) - ((0:Nat):Int):=by rw[rangeSize_one];split<;>lia
 rw[e]
 exact q _ s.toks rfl rfl
theorem qy(a:Int){b:Int}(h:b=1∨b=2):Builtin.divisionGoesByPylong a b=false:=by
 rcases h with rfl|rfl
 ·unfold Builtin.divisionGoesByPylong
  simp
  intro h
  exact absurd h (by decide+kernel)
 ·unfold Builtin.divisionGoesByPylong
  simp
  intro h
  exact absurd h (by decide+kernel)
theorem xL{a b:Int}(h:b=1∨b=2):du c F k (binaryOp .FloorDiv) (.int a) (.int b) σ (.int (a.fdiv b)) σ:=
 cZ λA ρ n s Q E p q hp hq z=>by
  refine bp hp ?_;clear hp;intro u z0;subst z0;refine bp hq ?_;clear hq;intro v z0;subst z0
  exact AutoIntOps.floordiv_1 (by rcases h with rfl|rfl<;>decide) (by rw[qy a h];decide) (z _ _ ⟨_,rfl⟩)
theorem xH{a b:Int}(h:b=2):du c F k (binaryOp .Mod) (.int a) (.int b) σ (.int (a.fmod b)) σ:=
 cZ λA ρ n s Q E p q hp hq z=>by
  refine bp hp ?_;clear hp;intro u z0;subst z0;refine bp hq ?_;clear hq;intro v z0;subst z0
  exact AutoIntOps.mod_1 (by subst h;decide) (z _ _ ⟨_,rfl⟩)
theorem B8:∀{its:List Value},cF ρ n (ns.map .int) its→∃xs:List (Int×Tok),its=xs.map (λp=>.int p.1 p.2)∧xs.map (·.1)=ns:=by
 induction ns with
 |nil=>intro its h;cases h;exact al [] rfl rfl
 |cons i ns ih=>
  intro its h
  refine jj h ?_
  intro v vs h t
  refine bp h λtk z0=>aj (ih t) λxs h1 h2=>?_
  exact al ((i,tk)::xs) (by rw[z0,h1];rfl) (by rw[ZZ,h2])
theorem Gk(hk:100≤k)(hj:σ.H[j]?=some (.list (ns.map .int))):cJ c F k (λxs=>call (.builtin "sum") xs) [.obj j] σ (.int ns.sum) σ:= λA ρ s env Q E xs K r hx q=>by
 refine lL hx λ_ h1=>?_
 refine aO h1 ?_;clear h1;intro _ z0;subst z0
 refine bz (r.list hj) λits hl hv _=>?_
 refine aj (B8 hv) λys z0 hy=>?_;subst z0
 refine sum_intListG (xs:=ys.toArray) (K.2.2 hk) (by simpa[intItems]using hl) λh' tk t' kk=>?_
 have e:preSum (numAt ys.toArray) ys.toArray.size=ns.sum:=by
  rw[preSum_eq,List.take_of_length_le (by simp)]
  simp[hy]
 rw[e]
 have r':aW c A F ρ σ {s with heap:=h',toks:=tk} env:=by
  refine⟨⟨λi ao e=>?_,r.hr.inj,r.hr.up,λb o e t=>kk _ _ (r.hr.base b o e t),λo e=>(r.hr.tj o e).imp (λz=>kk _ _ z) λ⟨z1,z2,vs,more,z3,z4⟩=>bS z1 z2 vs more z3 (kk _ _ z4)⟩,r.sc,r.gl,r.bl,r.ce,r.ci,?_,r.ap,r.lf,r.ge,r.sk.same rfl λb ob es ep g1 g2 _ _=>bh ob es ep (kk _ _ g1) g2,r.tp,r.fl⟩
  ·refine aj (r.hr.at_ i ao e) λob z1 z2=>?_
   exact al ob (kk _ _ z1) z2
  ·refine br λGz kz=>?_
   refine aj (r.lo) λm hm hl=>?_
   refine dc hm λob es ep g1 g2=>?_
   refine kz ?_
   exact al m (bh ob es ep (kk _ _ g1) g2) hl
 exact q ρ _ _ r' (cN kk rfl) ⟨t',rfl⟩
noncomputable def rE:=d7 dP 37
noncomputable def wn:=jZ dP 37
theorem rP(P:Params):dz P 891 rE wn:=by constructor<;>w_on
theorem yV(P:Params)(x:Value)(S:Setting):peek (Kx P) S (bindArgs (dw P 891) ⟨[x],[]⟩)=some [(("script":Str),x)]:=by w_on
noncomputable def iu:=d7 rE 3
noncomputable def gE:=d7 iu 0
noncomputable def qo:=d7 gE 2
noncomputable def cM:Fs:=⟨wn,[]⟩
theorem bJ:cM.scope.kind=.function:=by w_on
structure dj(H:List AO)(bk nm:Nat)(a:Nat→Nat)(js:Nat→Nat→Nat)(rows:Nat→Nat→List Str):Prop where
 b:H[bk]?=some (.list [.obj (a 0),.obj (a 1)])
 n:H[nm]?=some (.list (names.map .str))
 l:∀k,k<2→H[a k]?=some (.list ((ZH 5).map λi=>.obj (js k i)))
 r:∀k,k<2→∀i,i<5→H[js k i]?=some (.list ((rows k i).map .str))
 d:∀k k' i i',k<2→k'<2→i<5→i'<5→js k i=js k' i'→k=k'∧i=i'
 o:∀k i,k<2→i<5→js k i≠bk∧js k i≠nm∧js k i≠a 0∧js k i≠a 1
theorem dj.ext{nm:Nat}{a:Nat→Nat}{js:Nat→Nat→Nat}(x:dj H bk nm a js rows)(e:bW H H'):dj H' bk nm a js rows:=
 ⟨e _ _ x.b,e _ _ x.n,λk hk=>e _ _ (x.l k hk),λk hk i hi=>e _ _ (x.r k hk i hi),x.d,x.o⟩
noncomputable def Cs(rows:Nat→Nat→List Str)(k i:Nat)(y:Str):Nat→Nat→List Str:= λk' i'=>if k'=k∧i'=i then rows k i++[y]else rows k' i'
theorem dj.push{nm:Nat}{a:Nat→Nat}{js:Nat→Nat→Nat}(x:dj H bk nm a js rows)(hk:k<2)(hi:i<5)(y:Str):dj (H.set (js k i) (.list ((rows k i).map .str++[.str y]))) bk nm a js (Cs rows k i y):=by
 refine oD (x.o k i hk hi) λo1 o2 o3 o4=>?_
 have jl:=(aq (x.r k hk i hi))
 refine⟨ak x.b (Ne.symm o1),ak x.n (Ne.symm o2),λk' hk'=>?_,λk' hk' i' hi'=>?_,x.d,x.o⟩
 ·have:js k i≠a k':=by
   match k',hk' with
   |0,_=>exact o3
   |1,_=>exact o4
  rw[zN this];exact x.l k' hk'
 ·unfold Cs
  by_cases e:k'=k∧i'=i
  ·refine aO e ?_;clear e;intro z0 z1;subst z0;subst z1
   rw[if_pos ⟨rfl,rfl⟩,zT jl]
   simp
  ·rw[if_neg e,zN λq=>e (x.d k' k i' i hk' hk hi' hi q.symm)]
   exact x.r k' hk' i' hi'
theorem tG{i:Int}(h0:0≤i)(h1:i<2 ^ 62)(hs:∀o x,subscripted slice false o x=operate [o,x] (getItem o x))
  (e0:Ev c F k value σ (.obj j) σ₁)(e1:Ev c F k slice σ₁ (.int i) σ₂)(hj:σ₂.H[j]?=some (.list vs))(hv:vs[i.toNat]?=some v):Ev c F k (.Subscript value slice pos) σ v σ₂:= λA ρ s env Q E K r q=>
 Subscript_ (e0 A ρ s env _ E K r λρ1 s1 x r1 st1 vx=>e1 A ρ1 s1 env _ E K r1 λρ2 s2 y r2 st2 vy=>by
  refine br λGz kz=>?_
  refine bp vy ?_;clear vy;intro t z0;subst z0
  refine aO (st2.vr vx) λ_ z0=>?_;subst z0
  refine bz (r2.list hj) λits h3 h4 _=>?_
  refine aj (fh h4 hv) λz hz vz=>?_
  refine kz ?_
  exact tail_any h3.typeIs slot_list_getitem.lookup (wpAny_getItem_list h3 h0 (by lia) (by simpa using hz) (q ρ2 s2 z r2 (st1.trans st2) vz)) (hs _ _))
structure lU(l:List (Str×AV))(bk nm S:Nat)(i:Nat):Prop where
 b:l.lookup ("books":Str)=some (.obj bk)
 n:l.lookup ("names":Str)=some (.obj nm)
 s:l.lookup ("script":Str)=some (.obj S)
 i:l.lookup ("i":Str)=some (.int i)
theorem lU.put{l:List (Str×AV)}{bk nm S i:Nat}(x:lU l bk nm S i){y:Str}{a:AV}(h:y="j"∨y="v"∨y="p"∨y="k"):lU (aS y a l) bk nm S i:=by
 rcases h with rfl|rfl|rfl|rfl<;>exact⟨dQ x.b,dQ x.n,dQ x.s,dQ x.i⟩
noncomputable def cj(v:Int)(kk:Nat):Bool:=(v.fdiv ((kk:Int)+1)).fmod 2==1
theorem wL(G:c.Go){nm kk:Nat}{v:Int}{a:Nat→Nat}{js:Nat→Nat→Nat}(L:lU l bk nm S i)(hj:l.lookup ("j":Str)=some (.int j))(hv:l.lookup ("v":Str)=some (.int v))(hkl:l.lookup ("k":Str)=some (.int kk))(x:dj H bk nm a js rows)(hk:kk<2)(hi:i<5)(hjn:j<5)(hz:(rows kk i).length<900):
  ∃H',dq c cM (k+100) qo ⟨l,H⟩ .next ⟨l,H'⟩∧dj H' bk nm a js (if cj v kk then Cs rows kk i (names.getD j "")else rows)∧H'.length=H.length∧(∀(y:Nat)(o:AO),(∀i',i'<5→∀k',k'<2→y≠js k' i')→H[y]?=some o→H'[y]?=some o):=by
 have tst:∀{p1 p2 p3 p4 p5 p6 p7 p8 p9:Pos}{q1 q2 q3:Nat},Te c cM (k+100) (.Compare (.BinOp (.BinOp (.Name "v" p1) .FloorDiv (.BinOp (.Name "k" p2) .Add (.Constant (.int 1) q1 p3) p4) p5) .Mod (.Constant (.int 2) q2 p6) p7) [.Eq] [.Constant (.int 1) q3 p8] p9) ⟨l,H⟩ (cj v kk) ⟨l,H⟩:=
  av (F:=cM) rfl (iY (iY (aa bJ rfl hv) (iY (aa bJ rfl hkl) aJ i6) (xL (by lia))) aJ (xH rfl)) aJ (qz rfl)
 cases hb:cj v kk with
 |false=>
  rw[hb]at tst
  refine gz H ?_ x rfl λy o _ h=>h
  k_dflt refine' aU (aL (F:=cM) (t:=false) tst ar)
 |true=>
  rw[hb]at tst
  have kl:([AV.obj (a 0),AV.obj (a 1)])[((kk:Int)).toNat]?=some (.obj (a kk)):=by
   exact Cr hk rfl rfl
  have il:((ZH 5).map λi=>AV.obj (js kk i))[((i:Int)).toNat]?=some (.obj (js kk i)):=by
   rw[ZK,Int.toNat_natCast,zG (by simpa using hi)]
   simp
  have jl:(names.map AV.str)[((j:Int)).toNat]?=some (.str (names.getD j "")):=by
   rw[ZK,Int.toNat_natCast,zG (by show j<5;exact hjn)]
   simp[show j<names.length from hjn]
  have rl:=x.r kk hk i hi
  refine gz (H.set (js kk i) (.list ((rows kk i).map .str++[.str (names.getD j "")]))) ?_ (x.push hk hi _) (by simp) λy o hy h=>?_
  ·k_dflt refine' aU (aL (F:=cM) (t:=true) tst (aU (ck (F:=cM) (v:=.none) ?_ (λ_=>rfl) (d6 (λ_=>rfl) (tG (by lia) (by lia) (λ_ _=>rfl) (cW (by lia) (by lia) (λ_ _=>rfl) (λ_ _=>rfl) (aa bJ rfl L.b) (aa bJ rfl hkl) x.b kl) (aa bJ rfl L.i) (x.l kk hk) il) (dk slot_list_append type_list_append rl) (af λ_=>rfl) (am (λ_=>rfl) (cW (by lia) (by lia) (λ_ _=>rfl) (λ_ _=>rfl) (aa bJ rfl L.n) (aa bJ rfl hj) x.n jl) au) (eN rl (by simp;lia))))))
   intro env he
   unfold interactive
   rw[he]
   rfl
  ·rw[zN λq=>hy i hi kk hk q.symm]
   exact h
noncomputable def aY:List Int:=[3,1,2,0,3,3,0,2,1,0]
noncomputable def E5:AV→Int
 | .int i=>i
 |_=>0
noncomputable def gW(ns:List Int)(p:Nat):List Int:=(rm (ns.map .int) (some p) none (some 10)).map E5
theorem HV(ns:List Int)(p:Nat):rm (ns.map .int) (some p) none (some 10)=(gW ns p).map .int:=by
 unfold gW
 rw[Zr]
 have:∀a∈rm (ns.map AV.int) (some (p:Int)) none (some 10),AV.int (E5 a)=a:=by
  intro a ha
  unfold rm at ha
  refine aj (Zx.mp ha) λi _ h2=>?_
  rw[ZK]at h2
  refine aj (Z6.mp h2) λn _ z0=>?_;subst z0
  rfl
 conv=>lhs;rw[←List.map_id (rm _ _ _ _)]
 exact ZO λa ha=>(this a ha).symm
noncomputable def ca(ns:List Int)(p:Nat):Int:=aY.getD p 0+(gW ns p).sum
theorem mQ(P:Params):nsIn (Kx P) mainGlobals ("range":Str)=some none:=by w_on
theorem lE:bootBuiltins ("range":Str)=some (.type "range"):=PyProof.Rows.Boot.range
theorem IL(P:Params):nsIn (Kx P) mainGlobals ("sum":Str)=some none:=by w_on
theorem Gi:bootBuiltins ("sum":Str)=some (.builtin "sum"):=PyProof.Rows.Boot.sum
noncomputable def oX(rows:Nat→Nat→List Str)(v:Int)(i:Nat)(y:Str):Nat→Nat→List Str:=
 let r0:=if cj v 0 then Cs rows 0 i y else rows
 if cj v 1 then Cs r0 1 i y else r0
theorem rC{kk:Nat}(h:∀k i,(rows k i).length≤n)(k' i':Nat):(Cs rows kk i y k' i').length≤n+1:=by
 unfold Cs
 split
 ·have:=h kk i;simp;lia
 ·have:=h k' i';lia
theorem Ch:∃(elts:List Expr)(p1 p2 p3 p4 p5 p6 p7 p8 p9 p10 p11 p12 p13 p14 p15 p16 p17 p18 p19 p20 p21:Pos)(q1 q2 q3:Nat),gE=[.Assign [.Name "v" p1] (.BinOp (.Subscript (.List elts p2) (.Name "p" p3) p4) .Add (.Call (.Name "sum" p5) [.Subscript (.Name "script" p6) (.Slice (some (.Name "p" p7)) none (some (.Constant (.int 10) q1 p8)) p9) p10] [] p11) p12) p13,.AugAssign (.Name "p" p14) .Add (.Constant (.int 1) q2 p15) p16,.For (.Name "k" p17) (.Call (.Name "range" p18) [.Constant (.int 2) q3 p19] [] p20) qo [] p21]∧
  (∀(c:Cx)(F:Fs)(k:Nat)(σ:St)(pos:Pos),Ag c F k pos elts σ (aY.map .int) σ):=
 ⟨_,_,_,_,_,_,_,_,_,_,_,_,_,_,_,_,_,_,_,_,_,_,_,_,_,by k_dflt rfl,λc F k σ pos=>am (λ_=>rfl) aJ (am (λ_=>rfl) aJ (am (λ_=>rfl) aJ (am (λ_=>rfl) aJ (am (λ_=>rfl) aJ (am (λ_=>rfl) aJ (am (λ_=>rfl) aJ (am (λ_=>rfl) aJ (am (λ_=>rfl) aJ (am (λ_=>rfl) aJ au)))))))))⟩
theorem Ec(G:c.Go){nm p:Nat}{a:Nat→Nat}{js:Nat→Nat→Nat}(L:lU l bk nm S i)(hj:l.lookup ("j":Str)=some (.int j))(hp:l.lookup ("p":Str)=some (.int p))(x:dj H bk nm a js rows)(hS:H[S]?=some (.list (ns.map .int)))(hn:ns.length<900)(hSn:∀k,k<2→∀i,i<5→S≠js k i)(hi:i<5)(hjn:j<5)(hpn:p<10)(hN:N<800)(hz:∀k i,(rows k i).length≤N):
  ∃l' H',dq c cM (k+100) gE ⟨l,H⟩ .next ⟨l',H'⟩∧lU l' bk nm S i∧l'.lookup ("p":Str)=some (.int (p+1:Nat))∧dj H' bk nm a js (oX rows (ca ns p) i (names.getD j ""))∧H.length≤H'.length∧(∀(y:Nat)(o:AO),(∀i',i'<5→∀k',k'<2→y≠js k' i')→H[y]?=some o→H'[y]?=some o):=by
 have eH1:bW H (H++[AO.list (aY.map .int)]++[AO.list ((gW ns p).map .int)]):=bW.app.trans bW.app
 have eH2:bW H (H++[AO.list (aY.map .int)]++[AO.list ((gW ns p).map .int)]++[jc 2]):=eH1.trans bW.app
 have L1:=L.put (y:="v") (a:=.int (ca ns p)) (by simp)
 have L2:=L1.put (y:="p") (a:=.int (p+1:Nat)) (by simp)
 refine bb (aS ("p":Str) (.int ((p+1:Nat):Int)) (aS ("v":Str) (.int (ca ns p)) l)) λl2 el2=>?_
 rw[←el2]at L2
 have hp2:l2.lookup ("p":Str)=some (.int (p+1:Nat)):=by rw[el2];exact ah _ _ _
 have hv2:l2.lookup ("v":Str)=some (.int (ca ns p)):=by rw[el2,bV _ _ _ (by decide)];exact ah _ _ _
 have hj2:l2.lookup ("j":Str)=some (.int j):=by rw[el2,bV _ _ _ (by decide),bV _ _ _ (by decide)];exact hj
 refine bb (H++[AO.list (aY.map .int)]++[AO.list ((gW ns p).map .int)]++[jc 2]) λH2 eH2'=>?_
 rw[←eH2']at eH2
 have x2:=x.ext eH2
 have rg:H2[(H++[AO.list (aY.map .int)]++[AO.list ((gW ns p).map .int)]).length]?=some (jc 2):=by rw[eH2',zR (ZA _),ZY];rfl
 refine cv (wL (k:=k) (l:=aS "k" (.int ((0:Nat):Int)) l2) (kk:=0) (v:=ca ns p) G (L2.put (y:="k") (by simp)) (dQ hj2) (dQ hv2) (ah _ _ _) x2 (by decide) hi hjn (by have:=hz 0 i;lia)) λH3 t0 x3 n3 o3=>?_
 have z1:((if cj (ca ns p) 0=true then Cs rows 0 i (names.getD j "")else rows) 1 i).length<900:=by
  split
  ·have:=rC (kk:=0) (i:=i) (y:=names.getD j "") hz 1 i;lia
  ·have:=hz 1 i;lia
 refine cv (wL (k:=k) (l:=aS "k" (.int ((1:Nat):Int)) (aS "k" (.int ((0:Nat):Int)) l2)) (kk:=1) (v:=ca ns p) G ((L2.put (y:="k") (by simp)).put (y:="k") (by simp)) (dQ (dQ hj2)) (dQ (dQ hv2)) (ah _ _ _) x3 (by decide) hi hjn z1) λH4 t1 x4 n4 o4=>?_
 refine gY (aS "k" (.int ((1:Nat):Int)) (aS "k" (.int ((0:Nat):Int)) l2)) H4 ?_ ((L2.put (y:="k") (by simp)).put (y:="k") (by simp)) (dQ (dQ hp2)) x4 (by rw[n4,n3,eH2'];simp) λy o hy h=>o4 y o hy (o3 y o hy (eH2 y o h))
 have lp:∀{pp:Pos},fm c cM (k+100) (dY 2) (.Name "k" pp) qo [.int ((0:Nat):Int),.int ((1:Nat):Int)] ⟨l2,H2⟩ .next ⟨_,H4⟩:=
  .next trivial (.inl rfl) (bg bJ rfl) t0 (.next trivial (.inl rfl) (bg bJ rfl) t1 (.nil trivial))
 have hvl:ca ns p=aY.getD p 0+(gW ns p).sum:=rfl
 have cl:(aY.map AV.int)[((p:Int)).toNat]?=some (.int (aY.getD p 0)):=by
  rw[ZK,Int.toNat_natCast,zG (by show p<10;exact hpn)]
  simp[show p<aY.length from hpn]
 have sl:∀{pa pb pc pd pe:Pos}{q:Nat},Ev c cM (k+100) (.Subscript (.Name "script" pa) (.Slice (some (.Name "p" pb)) none (some (.Constant (.int 10) q pc)) pd) pe) ⟨l,H++[AO.list (aY.map .int)]⟩ (.obj (H++[AO.list (aY.map .int)]).length) ⟨l,H++[AO.list (aY.map .int)]++[AO.list ((gW ns p).map .int)]⟩:= λ{pa pb pc pd pe q}=>
  fF (c:=c) (F:=cM) (k:=k+100) (σ:=⟨l,H++[AO.list (aY.map .int)]⟩) (σ₁:=⟨l,H++[AO.list (aY.map .int)]⟩) (σ₂:=⟨l,H++[AO.list (aY.map .int)]⟩) (σ₃:=⟨l,H++[AO.list (aY.map .int)]⟩) (σ₄:=⟨l,H++[AO.list (aY.map .int)]⟩) (j:=S) (vs:=ns.map .int) (l:=some (p:Int)) (u:=none) (t:=some 10) (v':=(gW ns p).map .int) (by simpa using ZE hn (by lia)) (by simp)
   (λ_ _=>⟨_,rfl⟩) (aa bJ rfl L.s) (e9 (aa bJ rfl hp)) dm (e9 aJ) (bW.app _ _ hS) (λρ n its h=>by rw[←HV];exact t6 h _ _ _)
 have cA:(H++[AO.list (aY.map .int)])[H.length]?=some (.list (aY.map .int)):=aP
 have cB:(H++[AO.list (aY.map .int)]++[AO.list ((gW ns p).map .int)])[(H++[AO.list (aY.map .int)]).length]?=some (.list ((gW ns p).map .int)):=aP
 have li:∀{elts:List Expr}{pos:Pos},Ag c cM (k+100) pos elts ⟨l,H⟩ (aY.map .int) ⟨l,H⟩→Ev c cM (k+100) (.List elts pos) ⟨l,H⟩ (.obj H.length) ⟨l,H++[AO.list (aY.map .int)]⟩:= λh=>dM (by decide) h
 have rn:∀{f:Expr}{pos:Pos}{q:Nat}{p2:Pos},(∀env,eval (.Call f [.Constant (.int 2) q p2] [] pos) env=(do callWith pos (←eval f env) [] (backTo pos (starEach [.Constant (.int 2) q p2] env)) (backToKw pos (keywordEach [] env))))→Ev c cM (k+100) f ⟨l2,H++[AO.list (aY.map .int)]++[AO.list ((gW ns p).map .int)]⟩ (.val (.type "range")) ⟨l2,H++[AO.list (aY.map .int)]++[AO.list ((gW ns p).map .int)]⟩→
   Ev c cM (k+100) (.Call f [.Constant (.int 2) q p2] [] pos) ⟨l2,H++[AO.list (aY.map .int)]++[AO.list ((gW ns p).map .int)]⟩ (.obj (H++[AO.list (aY.map .int)]++[AO.list ((gW ns p).map .int)]).length) ⟨l2,H2⟩:= λhe h=>by
  rw[eH2']
  exact cP he (λ_=>rfl) h (af λ_=>rfl) (am (λ_=>rfl) aJ au) kW
 have sm:∀{f e:Expr}{pos:Pos},(∀env,eval (.Call f [e] [] pos) env=(do callWith pos (←eval f env) [] (backTo pos (starEach [e] env)) (backToKw pos (keywordEach [] env))))→(∀env,starEach [e] env=[(false,eval e env)])→Ev c cM (k+100) f ⟨l,H++[AO.list (aY.map .int)]⟩ (.val (.builtin "sum")) ⟨l,H++[AO.list (aY.map .int)]⟩→Ev c cM (k+100) e ⟨l,H++[AO.list (aY.map .int)]⟩ (.obj (H++[AO.list (aY.map .int)]).length) ⟨l,H++[AO.list (aY.map .int)]++[AO.list ((gW ns p).map .int)]⟩→
   Ev c cM (k+100) (.Call f [e] [] pos) ⟨l,H++[AO.list (aY.map .int)]⟩ (.int ((gW ns p).sum)) ⟨l,H++[AO.list (aY.map .int)]++[AO.list ((gW ns p).map .int)]⟩:= λhe hs h1 h2=>
  dB he (λenv=>by rw[hs env];rfl) h1 (af λenv=>by rw[hs env];rfl) (am (λenv=>by rw[hs env];rfl) h2 au) (Gk (by lia) cB)
 generalize H++[AO.list (aY.map .int)]++[AO.list ((gW ns p).map .int)]=HB at*
 generalize H++[AO.list (aY.map .int)]=HA at*
 obtain⟨elts,p1,p2,p3,p4,p5,p6,p7,p8,p9,p10,p11,p12,p13,p14,p15,p16,p17,p18,p19,p20,p21,q1,q2,q3,hb,hag⟩:=Ch
 rw[hb]
 refine ae (σ₁:=⟨aS "v" (.int (ca ns p)) l,HB⟩) ?_ (ae (σ₁:=⟨l2,HB⟩) ?_ (aU (gr (F:=cM) (I:=dY 2) (σ₁:=⟨l2,H2⟩) (a:=.obj HB.length) G.ok fV (λ_ _=>rfl) (λ_ _=>rfl) (by lia) ?_ (lw (by decide) rg) lp)))
 ·refine aw (F:=cM) (x:="v") (v:=.int (ca ns p)) (σ:=⟨l,H⟩) (σ₁:=⟨l,HB⟩) bJ rfl (λ_=>rfl) ?_
  exact iY (F:=cM) (σ₁:=⟨l,HA⟩) (σ₂:=⟨l,HB⟩) (a:=.int (aY.getD p 0)) (b:=.int ((gW ns p).sum)) (tG (σ₁:=⟨l,HA⟩) (j:=H.length) (by lia) (by lia) (λ_ _=>rfl) (li (hag _ _ _ _ _)) (aa bJ rfl hp) cA cl) (sm (λ_=>rfl) (λ_=>rfl) (dg G bJ rfl (IL _) Gi) sl) i6
 ·rw[el2]
  exact nR (F:=cM) (x:="p") (σ:=⟨aS "v" (.int (ca ns p)) l,HB⟩) (σ₁:=⟨aS "v" (.int (ca ns p)) l,HB⟩) (σ₂:=⟨aS "v" (.int (ca ns p)) l,HB⟩) bJ rfl (by decide) (dQ hp) aJ eW
 ·exact rn (λ_=>rfl) (dg G bJ rfl (mQ _) lE)
noncomputable def eX(ns:List Int):(Nat→Nat→List Str)→Nat→Nat→Nat→Nat→(Nat→Nat→List Str)
 |rows,_,_,0,_=>rows
 |rows,i,t,m+1,p=>eX ns (oX rows (ca ns p) i (names.getD t "")) i (t+1) m (p+1)
noncomputable def jP(ns:List Int):(Nat→Nat→List Str)→Nat→Nat→Nat→(Nat→Nat→List Str)
 |rows,_,0,_=>rows
 |rows,i,m+1,p=>jP ns (eX ns rows i 0 i p) (i+1) m (p+i)
theorem tT{v:Int}(h:∀k i,(rows k i).length≤n)(k' i':Nat):(oX rows v i y k' i').length≤n+2:=by
 unfold oX
 have h0:∀k i',((if cj v 0=true then Cs rows 0 i y else rows) k i').length≤n+1:= λk i'=>by
  split
  ·exact rC h k i'
  ·have:=h k i';lia
 split
 ·exact rC h0 k' i'
 ·have:=h0 k' i';lia
theorem mD{t:Nat}(h:t+(m+1)=n):((ZH n).map λ(i:Nat)=>AV.int (i:Int)).drop t=.int (t:Int)::((ZH n).map λ(i:Nat)=>AV.int (i:Int)).drop (t+1):=by
 rw[List.drop_eq_getElem_cons (by simp;lia)]
 simp
theorem ua(G:c.Go){nm:Nat}{a:Nat→Nat}{js:Nat→Nat→Nat}(hn:ns.length<900)(hSn:∀k,k<2→∀i,i<5→S≠js k i)(hi:i<5){pp:Pos}:
  ∀(m t p N:Nat)(l:List (Str×AV))(H:List AO)(rows:Nat→Nat→List Str),t+m=i→lU l bk nm S i→l.lookup ("p":Str)=some (.int p)→dj H bk nm a js rows→H[S]?=some (.list (ns.map .int))→p+m≤10→N+2*m<800→(∀k i,(rows k i).length≤N)→
   ∃l' H',fm c cM (k+100) (dY i) (.Name "j" pp) gE (((ZH i).map λ(i:Nat)=>AV.int (i:Int)).drop t) ⟨l,H⟩ .next ⟨l',H'⟩∧lU l' bk nm S i∧l'.lookup ("p":Str)=some (.int (p+m:Nat))∧dj H' bk nm a js (eX ns rows i t m p)∧H.length≤H'.length∧(∀(y:Nat)(o:AO),(∀i',i'<5→∀k',k'<2→y≠js k' i')→H[y]?=some o→H'[y]?=some o):=by
 intro m
 induction m with
 |zero=>
  intro t p N l H rows ht L hp x hS hpn hN hz
  refine gY l H ?_ L hp x (ZA _) λy o _ h=>h
  rw[List.drop_of_length_le (by simp;lia)]
  exact .nil trivial
 |succ m ih=>
  intro t p N l H rows ht L hp x hS hpn hN hz
  have L1:=L.put (y:="j") (a:=.int (t:Int)) (by simp)
  refine br λGz kz=>?_
  refine eQ (Ec (k:=k) (l:=aS "j" (.int (t:Int)) l) (j:=t) (N:=N) G L1 (ah _ _ _) (dQ hp) x hS hn hSn hi (by lia) (by lia) (by lia) hz) λl1 H1 e1 e2 e3 e4 e5 e6=>?_
  refine kz ?_
  have hS1:H1[S]?=some (.list (ns.map .int)):=e6 _ _ (λi' hi' k' hk'=>hSn k' hk' i' hi') hS
  have hz1:∀k' i',(oX rows (ca ns p) i (names.getD t "") k' i').length≤N+2:= λk' i'=>tT hz k' i'
  have er:eX ns rows i t (m+1) p=eX ns (oX rows (ca ns p) i (names.getD t "")) i (t+1) m (p+1):=by rw[eX]
  rw[er]
  generalize oX rows (ca ns p) i (names.getD t "")=rows1 at e4 hz1 ⊢
  have t1:t+1+m=i:=by lia
  have p1:p+1+m≤10:=by lia
  have n1:N+2+2*m<800:=by lia
  refine br λGz kz=>?_
  refine eQ (ih (t+1) (p+1) (N+2) l1 H1 rows1 t1 e2 e3 e4 hS1 p1 n1 hz1) λl2 H2 f1 f2 f3 f4 f5 f7=>?_
  refine kz ?_
  have ep:p+1+m=p+(m+1):=by lia
  rw[ep]at f3
  have hjl:cM.scope.names.lookup ("j":Str)=some .local:=by w_on
  have lp:fm c cM (k+100) (dY i) (.Name "j" pp) gE (.int (t:Int)::((ZH i).map λ(i:Nat)=>AV.int (i:Int)).drop (t+1)) ⟨l,H⟩ .next ⟨l2,H2⟩:=by
   have as1:As c cM (k+100) (.Name "j" pp) (.int (t:Int)) ⟨l,H⟩ ⟨aS "j" (.int (t:Int)) l,H⟩:=bg bJ hjl
   generalize aS "j" (.int (t:Int)) l=lj at as1 e1
   generalize gE=bdy at e1 f1 ⊢
   exact fm.next trivial (.inl rfl) as1 e1 f1
  rw[←mD ht]at lp
  exact gY l2 H2 lp f2 f3 f4 (Z2 e5 f5) λy o hy h=>f7 y o hy (e6 y o hy h)
theorem Bm(kz:∀(p1 p2 p3 p4 p5:Pos),(iu=[.For (.Name "j" p1) (.Call (.Name "range" p2) [.Name "i" p3] [] p4) gE [] p5])→Gz):Gz:=kz _ _ _ _ _ (by k_dflt rfl)
theorem pH{ns:List Int}:∀{m:Nat}{rows:Nat→Nat→List Str}{i t p n:Nat},(∀k i,(rows k i).length≤n)→∀k' i',(eX ns rows i t m p k' i').length≤n+2*m
 |0,rows,i,t,p,n,h,k',i'=>by rw[eX];have:=h k' i';lia
 |m+1,rows,i,t,p,n,h,k',i'=>by
  rw[eX]
  have:=pH (ns:=ns) (m:=m) (i:=i) (t:=t+1) (p:=p+1) (n:=n+2) (λk i'=>tT (v:=ca ns p) (i:=i) (y:=names.getD t "") h k i') k' i'
  lia
theorem DH(G:c.Go){nm p:Nat}{a:Nat→Nat}{js:Nat→Nat→Nat}(L:lU l bk nm S i)(hp:l.lookup ("p":Str)=some (.int p))(x:dj H bk nm a js rows)(hS:H[S]?=some (.list (ns.map .int)))(hn:ns.length<900)(hSn:∀k,k<2→∀i,i<5→S≠js k i)(hi:i<5)(hpn:p+i≤10)(hN:N+2*i<800)(hz:∀k i,(rows k i).length≤N):
  ∃l' H',dq c cM (k+100) iu ⟨l,H⟩ .next ⟨l',H'⟩∧lU l' bk nm S i∧l'.lookup ("p":Str)=some (.int (p+i:Nat))∧dj H' bk nm a js (eX ns rows i 0 i p)∧H.length≤H'.length∧(∀(y:Nat)(o:AO),(∀i',i'<5→∀k',k'<2→y≠js k' i')→H[y]?=some o→H'[y]?=some o):=by
 refine br λGz kz=>?_
 refine Bm λp1 p2 p3 p4 p5 hb=>?_
 have eH:bW H (H++[jc i]):=bW.app
 have rg:(H++[jc i])[H.length]?=some (jc i):=aP
 refine eQ (ua (k:=k) (pp:=p1) G hn hSn hi i 0 p N l (H++[jc i]) rows (by lia) L hp (x.ext eH) (eH _ _ hS) hpn hN hz) λl1 H1 f1 f2 f3 f4 f5 f7=>?_
 refine kz ?_
 rw[List.drop_zero]at f1
 refine gY l1 H1 ?_ f2 f3 f4 (Z2 (by simp) f5) λy o hy h=>f7 y o hy (eH y o h)
 rw[hb]
 have rn:Ev c cM (k+100) (.Call (.Name "range" p2) [.Name "i" p3] [] p4) ⟨l,H⟩ (.obj H.length) ⟨l,H++[jc i]⟩:=cP (λ_=>rfl) (λ_=>rfl) (dg G bJ rfl (mQ _) lE) (af λ_=>rfl) (am (λ_=>rfl) (aa bJ rfl L.i) au) kW
 generalize gE=bdy at f1 ⊢
 exact aU (gr (F:=cM) (I:=dY i) G.ok fV (λ_ _=>rfl) (λ_ _=>rfl) (by lia) rn (lw (by lia) rg) f1)
structure pk(l:List (Str×AV))(bk nm S:Nat):Prop where
 b:l.lookup ("books":Str)=some (.obj bk)
 n:l.lookup ("names":Str)=some (.obj nm)
 s:l.lookup ("script":Str)=some (.obj S)
theorem pk.ii{nm:Nat}(x:pk l bk nm S)(i:Nat):lU (aS "i" (.int (i:Int)) l) bk nm S i:=
 ⟨dQ x.b,dQ x.n,dQ x.s,ah _ _ _⟩
theorem lU.z{nm:Nat}(x:lU l bk nm S i):pk l bk nm S:=⟨x.b,x.n,x.s⟩
noncomputable def zf:Nat→Nat→Nat
 |_,0=>0
 |i,m+1=>i+zf (i+1) m
theorem rO(G:c.Go){nm:Nat}{a:Nat→Nat}{js:Nat→Nat→Nat}(hn:ns.length<900)(hSn:∀k,k<2→∀i,i<5→S≠js k i){pp:Pos}:
  ∀(m i p N:Nat)(l:List (Str×AV))(H:List AO)(rows:Nat→Nat→List Str),i+m=5→pk l bk nm S→l.lookup ("p":Str)=some (.int p)→dj H bk nm a js rows→H[S]?=some (.list (ns.map .int))→p+zf i m≤10→N+10*m<800→(∀k i,(rows k i).length≤N)→
   ∃l' H',fm c cM (k+100) (dY 5) (.Name "i" pp) iu (((ZH 5).map λ(i:Nat)=>AV.int (i:Int)).drop i) ⟨l,H⟩ .next ⟨l',H'⟩∧pk l' bk nm S∧dj H' bk nm a js (jP ns rows i m p)∧H.length≤H'.length∧(∀(y:Nat)(o:AO),(∀i',i'<5→∀k',k'<2→y≠js k' i')→H[y]?=some o→H'[y]?=some o):=by
 intro m
 induction m with
 |zero=>
  intro i p N l H rows ht L hp x hS hpn hN hz
  refine lz l H ?_ L x (ZA _) λy o _ h=>h
  rw[List.drop_of_length_le (by simp;lia)]
  exact .nil trivial
 |succ m ih=>
  intro i p N l H rows ht L hp x hS hpn hN hz
  have tr:zf i (m+1)=i+zf (i+1) m:=by rw[zf]
  rw[tr]at hpn
  refine br λGz kz=>?_
  refine eQ (DH (k:=k) (l:=aS "i" (.int (i:Int)) l) (i:=i) (N:=N) G (L.ii i) (dQ hp) x hS hn hSn (by lia) (by lia) (by lia) hz) λl1 H1 e1 e2 e3 e4 e5 e6=>?_
  refine kz ?_
  have hS1:H1[S]?=some (.list (ns.map .int)):=e6 _ _ (λi' hi' k' hk'=>hSn k' hk' i' hi') hS
  have hz1:∀k' i',(eX ns rows i 0 i p k' i').length≤N+10:= λk' i'=>by have:=pH (ns:=ns) (m:=i) (i:=i) (t:=0) (p:=p) hz k' i';lia
  have er:jP ns rows i (m+1) p=jP ns (eX ns rows i 0 i p) (i+1) m (p+i):=by rw[jP]
  rw[er]
  generalize eX ns rows i 0 i p=rows1 at e4 hz1 ⊢
  refine br λGz kz=>?_
  refine lC (ih (i+1) (p+i) (N+10) l1 H1 rows1 (by lia) e2.z e3 e4 hS1 (by lia) (by lia) hz1) λl2 H2 f1 f2 f4 f5 f7=>?_
  refine kz ?_
  have hil:cM.scope.names.lookup ("i":Str)=some .local:=by w_on
  have as1:As c cM (k+100) (.Name "i" pp) (.int (i:Int)) ⟨l,H⟩ ⟨aS "i" (.int (i:Int)) l,H⟩:=bg bJ hil
  generalize aS "i" (.int (i:Int)) l=lj at as1 e1
  have rI:=mD (n:=5) (t:=i) (m:=m) ht
  rw[rI]
  generalize iu=bdy at e1 f1 ⊢
  exact lz l2 H2 (fm.next trivial (.inl rfl) as1 e1 f1) f2 f4 (Z2 e5 f5) λy o hy h=>f7 y o hy (e6 y o hy h)
theorem AA(kz:∀(elts:List Expr)(sc1 sc2:Scope)(p1 p2 p3 p4 p5 p6 p7 p8 p9 p10 p11 p12 p13 p14 p15 p16 p17 p18 p19 p20 p21 p22 p23 p24 p25 p26:Pos)(q1 q2:Nat),(rE=[.Assign [.Name "names" p1] (.List elts p2) p3,
  .Assign [.Name "books" p4] (.List [.ListComp (.List [.Name "name" p5] p6) [⟨.Name "name" p7,.Name "names" p8,[],0⟩] sc1 p9,.ListComp (.List [.Name "name" p10] p11) [⟨.Name "name" p12,.Name "names" p13,[],0⟩] sc2 p14] p15) p16,
  .Assign [.Name "p" p17] (.Constant (.int 0) q1 p18) p19,.For (.Name "i" p20) (.Call (.Name "range" p21) [.Constant (.int 5) q2 p22] [] p23) iu [] p24,.Return (some (.Name "books" p25)) p26]∧
  (∀(c:Cx)(F:Fs)(k:Nat)(σ:St)(pos:Pos),Ag c F k pos elts σ (names.map .str) σ)∧
  (sc1.names.all λx=>x.2 != .free)=true∧(sc1.names.all λx=>x.2 != .cell)=true∧sc1.kind=.function∧(sc1.names.lookup (".0":Str)==some .local&&sc1.names.all λx=>x.2 != .local||sc1.names.lookup x.1==some .local)=true∧sc1.names.lookup ("name":Str)=some .local∧
  (sc2.names.all λx=>x.2 != .free)=true∧(sc2.names.all λx=>x.2 != .cell)=true∧sc2.kind=.function∧(sc2.names.lookup (".0":Str)==some .local&&sc2.names.all λx=>x.2 != .local||sc2.names.lookup x.1==some .local)=true∧sc2.names.lookup ("name":Str)=some .local)→Gz):Gz:=kz _ _ _ _ _ _ _ _ _ _ _ _ _ _ _ _ _ _ _ _ _ _ _ _ _ _ _ _ _ _ _ ⟨by k_dflt rfl,λc F k σ pos=>am (λ_=>rfl) bn (am (λ_=>rfl) bn (am (λ_=>rfl) bn (am (λ_=>rfl) bn (am (λ_=>rfl) bn au)))),by w_on,by w_on,by w_on,by w_on,by w_on,by w_on,by w_on,by w_on,by w_on,by w_on⟩
theorem rU(G:c.Go)(hk:F.scope.kind=.function)(hn:F.scope.names.lookup ("name":Str)=some .local)(hg:gens=[⟨.Name "name" p3,iter,[],0⟩])(hTJ:T≠J)(hl:xs.length<900):
  ∀(rest:List Str)(done:List Nat)(i:Nat)(l:List (Str×AV))(H:List AO),H[T]?=some (.list (xs.map .str))→H[J]?=some (.list (done.map .obj))→xs.drop i=rest→done.length=i→
   ∃loc' H' js,CL c F (k+100) (.List [.Name "name" p1] p2) gens sc pos 0 (aR T (xs.map .str)) J i ⟨l,H⟩ ⟨loc',H'⟩∧H'[J]?=some (.list ((done++js).map .obj))∧js=(ZH rest.length).map (H.length+ ·)∧
    (∀(i:Nat)(x:Str),rest[i]?=some x→H'[H.length+i]?=some (AO.list [.str x]))∧H'.length=H.length+rest.length∧(∀(x:Nat)(o:AO),x≠J→H[x]?=some o→H'[x]?=some o):=by
 intro rest
 induction rest with
 |nil=>
  intro done i l H hT hJ hd hi
  subst hg
  refine oz l H [] (iL (σ:=⟨l,H⟩) (I:=aR T (xs.map .str)) (az) rfl rfl (λ_ _=>rfl) (by lia) hT ?_) (by simpa using hJ) rfl (λi x h=>by simp at h) (by simp) λx o _ h=>h
  show(xs.map AV.str)[i]?=none
  rw[ZC]
  simp[ZL]at hd ⊢
  exact hd
 |cons x rest ih=>
  intro done i l H hT hJ hd hi
  have hi1:xs[i]?=some x:=by
   have:(xs.drop i)[0]?=some x:=by rw[hd];rfl
   rw[Z1,Zq]at this
   exact this
  have hd1:xs.drop (i+1)=rest:=by
   have:(xs.drop i).drop 1=rest:=by rw[hd];rfl
   rw[Zp]at this
   exact this
  have ilt:=aq hi1
  have Jl:=aq hJ
  have up2:∀(y:Nat)(o:AO),y≠J→H[y]?=some o→((H++[AO.list [.str x]]).set J (.list (done.map .obj++[.obj H.length])))[y]?=some o:= λy o hy h=>ak (bW.app y o h) hy
  have Jl2:J<(H++[AO.list [.str x]]).length:=by simp;lia
  have ln:((H++[AO.list [.str x]]).set J (.list (done.map .obj++[.obj H.length]))).length=H.length+1:=by simp
  refine br λGz kz=>?_
  refine kC (ih (done++[H.length]) (i+1) (aS "name" (.str x) l) _ (up2 _ _ hTJ hT) (by rw[zT Jl2];simp) hd1 (by simp[hi])) λloc' H' js c1 c2 c3 c4 c5 c6=>?_
  refine kz ?_
  rw[ln]at c3 c4 c5
  have hne:H.length≠J:=by lia
  subst hg
  refine oz loc' H' (H.length::js) (fM (a:=.str x) (v:=.obj H.length) (σ:=⟨l,H⟩) (σ₁:=⟨aS "name" (.str x) l,H⟩) (σ₂:=⟨aS "name" (.str x) l,H⟩) (σ₃:=⟨aS "name" (.str x) l,H++[AO.list [.str x]]⟩) (acc:=done.map .obj) (I:=aR T (xs.map .str)) G.ok (az) rfl rfl (λ_ _=>rfl) hT ?_ (bg hk hn) jH ?_ (bW.app _ _ hJ) (by simp;lia) c1) (by simpa using c2) ?_ ?_ (by rw[c5];simp;lia) ?_
  ·show(xs.map AV.str)[i]?=_
   rw[ZK,hi1];rfl
  ·exact dM (by show 1<1000;decide) (am (λ_=>rfl) (aa hk hn (ah _ _ _)) au)
  ·rw[c3,Zk,List.range_succ_eq_map,ZZ,Zr]
   simp only[Zq,List.cons.injEq,true_and]
   exact ZO λa _=>by simp only[Function.comp];lia
  ·intro i' y h
   cases i' with
   |zero=>
    cases h
    rw[Zq]
    exact c6 _ _ hne (ak aP hne)
   |succ i'=>
    have:=c4 i' y h
    rw[show H.length+(i'+1)=H.length+1+i' by lia]
    exact this
  ·intro y o hy h
   exact c6 y o hy (up2 y o hy h)
noncomputable def mA:Nat→Nat→List Str:= λ_ i=>[names.getD i ""]
theorem nS(G:c.Go){p7 p8 p9:Pos}(S:cz F sc sc [])(hk:F.scope.kind=.function)(hnm:F.scope.names.lookup ("names":Str)=some .local)(hl:l.lookup ("names":Str)=some (.obj T))(hT:H[T]?=some (.list (names.map .str)))(hsk:sc.kind=.function)(hsn:sc.names.lookup ("name":Str)=some .local):
  ∃H',Ev c F (k+100) (.ListComp (.List [.Name "name" p5] p6) [⟨.Name "name" p7,.Name "names" p8,[],0⟩] sc p9) ⟨l,H⟩ (.obj H.length) ⟨l,H'⟩∧H'[H.length]?=some (.list ((ZH 5).map λi=>.obj (H.length+1+i)))∧(∀i,i<5→H'[H.length+1+i]?=some (AO.list [.str (names.getD i "")]))∧H'.length=H.length+6∧bW H H':=by
 have Tl:=aq hT
 have l1:(H++[AO.list []]).length=H.length+1:=by simp
 refine br λGz kz=>?_
 refine kC (rU (k:=k) (F:=⟨sc,[]⟩) (sc:=sc) (gens:=[⟨.Name "name" p7,.Name "names" p8,[],0⟩]) (pos:=p9) (p1:=p5) (p2:=p6) (T:=T) (J:=H.length) (xs:=names) G hsk hsn rfl (by lia) (by decide) names [] 0 [] (H++[AO.list []]) (bW.app _ _ hT) (aP) rfl rfl) λloc' H' js c1 c2 c3 c4 c5 c6=>?_
 refine kz ?_
 rw[l1]at c3 c4 c5
 have n5:names.length=5:=rfl
 rw[n5]at c3 c5
 refine⟨H',?_,?_,λi hi=>?_,c5,λi o h=>c6 i o (Z7 (aq h)) (bW.app _ _ h)⟩
 ·exact fZ (F:=F) (k:=k+100) (σ:=⟨l,H⟩) (σ₁:=⟨l,H⟩) (I:=aR T (names.map .str)) (loc':=loc') (H':=H') (a:=.obj T) (rest:=[]) (ifs:=[]) G.ok az S (λ_ _=>rfl) (aa hk hnm hl) (dZ hT) hT (by show H.length<H'.length;lia) c1
 ·rw[c2,c3];simp
 ·exact c4 i _ (by rw[zG (by rw[n5];exact hi)];simp[show i<names.length from hi])
theorem Ao(G:c.Go)(hS:H[S]?=some (.list (ns.map .int)))(hn:ns.length<900):
  ∃bk H',Fn c (k+101) (.ref 891) [.obj S] [] H (.obj bk) H'∧(∃nm a js,dj H' bk nm a js (jP ns mA 0 5 0))∧bW H H'∧H.length≤bk:=by
 refine br λGz kz=>?_
 refine AA λelts sc1 sc2 p1 p2 p3 p4 p5 p6 p7 p8 p9 p10 p11 p12 p13 p14 p15 p16 p17 p18 p19 p20 p21 p22 p23 p24 p25 p26 q1 q2 hz_=>?_
 obtain⟨hb,hag,a1,a2,a3,a4,a5,b1,b2,b3,b4,b5⟩:=hz_
 have Sl:=aq hS
 have S1:cz cM sc1 sc1 []:=cQ a1 a2 a3 a4
 have S2:cz cM sc2 sc2 []:=cQ b1 b2 b3 b4
 have hnl:cM.scope.names.lookup ("names":Str)=some .local:=by w_on
 have hbl:cM.scope.names.lookup ("books":Str)=some .local:=by w_on
 have hpl:cM.scope.names.lookup ("p":Str)=some .local:=by w_on
 let l0:List (Str×AV):=[("script",.obj S)]
 let l1:=aS ("names":Str) (.obj H.length) l0
 have hT1:(H++[AO.list (names.map .str)])[H.length]?=some (.list (names.map .str)):=aP
 have n1:(H++[AO.list (names.map .str)]).length=H.length+1:=by simp
 refine wS (nS (k:=k) (H:=H++[AO.list (names.map .str)]) (l:=l1) (T:=H.length) (sc:=sc1) (p5:=p5) (p6:=p6) (p7:=p7) (p8:=p8) (p9:=p9) G S1 bJ hnl (ah _ _ _) hT1 a3 a5) λH2 c1 c2 c3 c4 c5=>?_
 refine kz ?_
 rw[n1]at c1 c2 c3 c4
 refine wS (nS (k:=k) (H:=H2) (l:=l1) (T:=H.length) (sc:=sc2) (p5:=p10) (p6:=p11) (p7:=p12) (p8:=p13) (p9:=p14) G S2 bJ hnl (ah _ _ _) (c5 _ _ hT1) b3 b5) λH3 d1 d2 d3 d4 d5=>?_
 rw[c4]at d1 d2 d3 d4
 have e4:bW H3 (H3++[AO.list [.obj (H.length+1),.obj (H.length+1+6)]]):=bW.app
 have hx:dj (H3++[AO.list [.obj (H.length+1),.obj (H.length+1+6)]]) (H.length+1+6+6) H.length (λk=>if k=0 then H.length+1 else H.length+1+6) (λk i=>(if k=0 then H.length+1 else H.length+1+6)+1+i) mA:=by
  refine⟨?_,e4 _ _ (d5 _ _ (c5 _ _ hT1)),λk hk=>?_,λk hk i hi=>?_,λk k' i i' hk hk' hi hi' q=>?_,λk i hk hi=>?_⟩
  ·rw[←d4,zR (ZA _),ZY];rfl
  ·exact Cr hk (e4 _ _ (d5 _ _ c2)) (e4 _ _ d2)
  ·exact Cr hk (e4 _ _ (d5 _ _ (c3 i hi))) (e4 _ _ (d3 i hi))
  ·revert q
   refine Cr hk (Cr hk' (λq=>?_) λq=>?_) (Cr hk' (λq=>?_) λq=>?_)
   ·exact⟨rfl,Nat.add_left_cancel q⟩
   ·have q:H.length+1+1+i=H.length+1+6+1+i':=q;lia
   ·have q:H.length+1+6+1+i=H.length+1+1+i':=q;lia
   ·exact⟨rfl,Nat.add_left_cancel q⟩
  ·refine Cr hk ?_ ?_
   ·simp;lia
   ·simp;lia
 have extA:bW H (H3++[AO.list [.obj (H.length+1),.obj (H.length+1+6)]]):=((bW.app.trans c5).trans d5).trans e4
 let l2:=aS ("books":Str) (.obj (H.length+1+6+6)) l1
 let l3:=aS ("p":Str) (.int ((0:Nat):Int)) l2
 have L3:pk l3 (H.length+1+6+6) H.length S:=⟨rfl,rfl,rfl⟩
 have rg:((H3++[AO.list [.obj (H.length+1),.obj (H.length+1+6)]])++[jc 5])[(H3++[AO.list [.obj (H.length+1),.obj (H.length+1+6)]]).length]?=some (jc 5):=aP
 refine br λGz kz=>?_
 refine lC (rO (k:=k) (pp:=p20) (S:=S) (ns:=ns) G hn (λk hk i hi=>by
  refine Cr hk ?_ ?_
  ·show S≠H.length+1+1+i;lia
  ·show S≠H.length+1+6+1+i;lia) 5 0 0 1 l3 ((H3++[AO.list [.obj (H.length+1),.obj (H.length+1+6)]])++[jc 5]) mA rfl L3 rfl (hx.ext bW.app) (bW.app _ _ (extA _ _ hS)) (by decide) (by decide) (λ_ _=>ZA _)) λl' H' f1 f2 f4 f5 f7=>?_
 refine kz ?_
 rw[List.drop_zero]at f1
 refine dJ (H.length+1+6+6) H' ?_ (wW _ _ _ f4) (λi o h=>f7 i o (λi' hi' k' hk'=>?_) (bW.app _ _ (extA _ _ h))) (by lia)
 ·refine da (fl:=.ret (.obj (H.length+1+6+6))) (loc:=l0) G (rP _) (by w_on) (by w_on) (λρ m s xs ks X hx hk=>?_) ?_
  ·refine mx hx hk λ_ hx=>?_
   refine al [("script",_)] (@bC _ _ _ _ _ X ?_) (.cons hx .nil)
   exact yV _ _
  ·apply aK (loc:=l')
   rw[hb]
   have ev0:Ev c cM (k+100) (.List elts p2) ⟨l0,H⟩ (.obj H.length) ⟨l0,H++[AO.list (names.map .str)]⟩:=dM (by decide) (hag _ _ _ _ _)
   have ev1:Ev c cM (k+100) (.List [.ListComp (.List [.Name "name" p5] p6) [⟨.Name "name" p7,.Name "names" p8,[],0⟩] sc1 p9,.ListComp (.List [.Name "name" p10] p11) [⟨.Name "name" p12,.Name "names" p13,[],0⟩] sc2 p14] p15) ⟨l1,H++[AO.list (names.map .str)]⟩ (.obj H3.length) ⟨l1,H3++[AO.list [.obj (H.length+1),.obj (H.length+1+6)]]⟩:=dM (by show 2<1000;decide) (am (λ_=>rfl) c1 (am (λ_=>rfl) d1 au))
   rw[d4]at ev1
   have rn:Ev c cM (k+100) (.Call (.Name "range" p21) [.Constant (.int 5) q2 p22] [] p23) ⟨l3,H3++[AO.list [.obj (H.length+1),.obj (H.length+1+6)]]⟩ (.obj (H3++[AO.list [.obj (H.length+1),.obj (H.length+1+6)]]).length) ⟨l3,H3++[AO.list [.obj (H.length+1),.obj (H.length+1+6)]]++[jc 5]⟩:=cP (λ_=>rfl) (λ_=>rfl) (dg G bJ rfl (mQ _) lE) (af λ_=>rfl) (am (λ_=>rfl) aJ au) kW
   have s0:Ex c cM (k+100) (.Assign [.Name "names" p1] (.List elts p2) p3) ⟨l0,H⟩ .next ⟨l1,H++[AO.list (names.map .str)]⟩:=aw (σ₁:=⟨l0,H++[AO.list (names.map .str)]⟩) bJ hnl (λ_=>rfl) ev0
   have s1:Ex c cM (k+100) (.Assign [.Name "books" p4] (.List [.ListComp (.List [.Name "name" p5] p6) [⟨.Name "name" p7,.Name "names" p8,[],0⟩] sc1 p9,.ListComp (.List [.Name "name" p10] p11) [⟨.Name "name" p12,.Name "names" p13,[],0⟩] sc2 p14] p15) p16) ⟨l1,H++[AO.list (names.map .str)]⟩ .next ⟨l2,H3++[AO.list [.obj (H.length+1),.obj (H.length+1+6)]]⟩:=aw (σ₁:=⟨l1,H3++[AO.list [.obj (H.length+1),.obj (H.length+1+6)]]⟩) bJ hbl (λ_=>rfl) ev1
   have s2:Ex c cM (k+100) (.Assign [.Name "p" p17] (.Constant (.int 0) q1 p18) p19) ⟨l2,H3++[AO.list [.obj (H.length+1),.obj (H.length+1+6)]]⟩ .next ⟨l3,H3++[AO.list [.obj (H.length+1),.obj (H.length+1+6)]]⟩:=aw (σ₁:=⟨l2,H3++[AO.list [.obj (H.length+1),.obj (H.length+1+6)]]⟩) bJ hpl (λ_=>rfl) aJ
   have rt:Ev c cM (k+100) (.Name "books" p25) ⟨l',H'⟩ (.obj (H.length+1+6+6)) ⟨l',H'⟩:=aa bJ hbl f2.b
   generalize iu=bdy at f1 ⊢
   have s3:Ex c cM (k+100) (.For (.Name "i" p20) (.Call (.Name "range" p21) [.Constant (.int 5) q2 p22] [] p23) bdy [] p24) ⟨l3,H3++[AO.list [.obj (H.length+1),.obj (H.length+1+6)]]⟩ .next ⟨l',H'⟩:=gr (F:=cM) (I:=dY 5) G.ok fV (λ_ _=>rfl) (λ_ _=>rfl) (by lia) rn (lw (by decide) rg) f1
   exact ae s0 (ae s1 (ae s2 (ae s3 (bv (aX rt)))))
 ·have:=aq h
  match k',hk' with
  |0,_=>simp;lia
  |1,_=>simp;lia
noncomputable def z9(ns:List Int)(k i:Nat):List Bool:=(ZH i).map λj=>cj (ca ns (i*(i - 1)/2+j)) k
theorem uV{i':Nat}:Cs rows k i y k' i'=if k'=k∧i'=i then rows k i++[y]else rows k' i':=rfl
theorem uL{b:Bool}{f g:Nat→Nat→List Str}:(if b=true then f else g) k i=if b=true then f k i else g k i:=by cases b<;>rfl
theorem DC{v:Int}{i':Nat}(hk:k<2):oX rows v i y k i'=if i'=i∧cj v k=true then rows k i'++[y]else rows k i':=by
 unfold oX
 rw[uL,uV,uL,uV,uL,uV]
 refine Cr hk ?_ ?_
 ·show(if cj v 1=true then(if cj v 0=true then if 0=0∧i'=i then rows 0 i++[y]else rows 0 i' else rows 0 i')else(if cj v 0=true then if 0=0∧i'=i then rows 0 i++[y]else rows 0 i' else rows 0 i'))=_
  rw[ite_self]
  by_cases h:i'=i<;>cases cj v 0<;>simp[h]
 ·show(if cj v 1=true then if 1=1∧i'=i then(if cj v 0=true then rows 1 i else rows 1 i)++[y]else(if cj v 0=true then rows 1 i' else rows 1 i')else if cj v 0=true then rows 1 i' else rows 1 i')=_
  rw[ite_self,ite_self]
  by_cases h:i'=i<;>cases cj v 1<;>simp[h]
noncomputable def Gr(ns:List Int)(k:Nat):Nat→Nat→Nat→List Str
 |_,0,_=>[]
 |t,m+1,p=>(if cj (ca ns p) k=true then [names.getD t ""]else [])++Gr ns k (t+1) m (p+1)
theorem hO{ns:List Int}{i k i':Nat}(hk:k<2):∀(m t p:Nat)(rows:Nat→Nat→List Str),eX ns rows i t m p k i'=if i'=i then rows k i'++Gr ns k t m p else rows k i'
 |0,t,p,rows=>by
  show rows k i'=if i'=i then rows k i'++[]else rows k i'
  rw[List.append_nil,ite_self]
 |m+1,t,p,rows=>by
  show eX ns (oX rows (ca ns p) i (names.getD t "")) i (t+1) m (p+1) k i'=if i'=i then rows k i'++((if cj (ca ns p) k=true then [names.getD t ""]else [])++Gr ns k (t+1) m (p+1))else rows k i'
  rw[hO hk m,DC hk]
  by_cases h:i'=i
  ·rw[if_pos h,if_pos h]
   cases cj (ca ns p) k
   ·rw[if_neg (by simp)];rfl
   ·rw[if_pos ⟨h,rfl⟩,List.append_assoc];rfl
  ·rw[if_neg h,if_neg h,if_neg λz=>h z.1]
theorem vh(ns:List Int)(k i:Nat)(hk:k<2)(hi:i<5):jP ns mA 0 5 0 k i=gv i (z9 ns k i):=by
 show eX ns (eX ns (eX ns (eX ns (eX ns mA 0 0 0 0) 1 0 1 0) 2 0 2 1) 3 0 3 3) 4 0 4 6 k i=_
 rw[hO hk,hO hk,hO hk,hO hk,hO hk]
 refine Jq hi rfl ?_ ?_ ?_ ?_
 ·show [names.getD 1 ""]++((if cj (ca ns 0) k=true then [names.getD 0 ""]else [])++[])=gv 1 [cj (ca ns 0) k]
  generalize cj (ca ns 0) k=b0
  cases b0<;>rfl
 ·show [names.getD 2 ""]++((if cj (ca ns 1) k=true then [names.getD 0 ""]else [])++((if cj (ca ns 2) k=true then [names.getD 1 ""]else [])++[]))=gv 2 [cj (ca ns 1) k,cj (ca ns 2) k]
  generalize cj (ca ns 1) k=b0
  generalize cj (ca ns 2) k=b1
  cases b0<;>cases b1<;>rfl
 ·show [names.getD 3 ""]++((if cj (ca ns 3) k=true then [names.getD 0 ""]else [])++((if cj (ca ns 4) k=true then [names.getD 1 ""]else [])++((if cj (ca ns 5) k=true then [names.getD 2 ""]else [])++[])))=gv 3 [cj (ca ns 3) k,cj (ca ns 4) k,cj (ca ns 5) k]
  generalize cj (ca ns 3) k=b0
  generalize cj (ca ns 4) k=b1
  generalize cj (ca ns 5) k=b2
  cases b0<;>cases b1<;>cases b2<;>rfl
 ·show [names.getD 4 ""]++((if cj (ca ns 6) k=true then [names.getD 0 ""]else [])++((if cj (ca ns 7) k=true then [names.getD 1 ""]else [])++((if cj (ca ns 8) k=true then [names.getD 2 ""]else [])++((if cj (ca ns 9) k=true then [names.getD 3 ""]else [])++[]))))=gv 4 [cj (ca ns 6) k,cj (ca ns 7) k,cj (ca ns 8) k,cj (ca ns 9) k]
  generalize cj (ca ns 6) k=b0
  generalize cj (ca ns 7) k=b1
  generalize cj (ca ns 8) k=b2
  generalize cj (ca ns 9) k=b3
  cases b0<;>cases b1<;>cases b2<;>cases b3<;>rfl
theorem y6:∀{its:List Value},cF ρ n (xs.map .str) its→∃l:List (Str×Tok),its=strValues l∧l.map (·.1)=xs:=by
 induction xs with
 |nil=>intro its h;cases h;exact al [] rfl rfl
 |cons x xs ih=>
  intro its h
  refine jj h ?_
  intro v vs h t
  refine bp h λtk z0=>aj (ih t) λl h1 h2=>?_
  exact al ((x,tk)::l) (by rw[z0,h1];rfl) (by rw[ZZ,h2])
theorem zQ{sep:Str}(hj:σ.H[j]?=some (.list (xs.map .str)))(hok:JoinOk sep xs=true):cJ c F k (λvs=>call (.builtin "str.join") vs) [.str sep,.obj j] σ (.str (Txt.join sep xs)) σ:= λA ρ s env Q E vs K r hx q=>by
 cases hx with
 |cons h1 h2=>
  refine lL h2 λ_ h2=>?_
  refine bp h1 ?_;clear h1;intro t z0;subst z0
  refine aO h2 ?_;clear h2;intro _ z0;subst z0
  refine bz (r.list hj) λits hl hv _=>?_
  refine aj (y6 hv) λl z0 e=>?_;subst z0
  exact SC.join hl e hok λt' kk=>q ρ _ _ (r.toks kk) (.toks kk) ⟨t',rfl⟩
theorem Bk(P:Params):nsIn (Kx P) mainGlobals ("join_shlex":Str)=some (some (.ref 878)):=by w_on
theorem HJ(P:Params)(S:Setting):peek (Kx P) S (keeperOf (.ref 878))=some .frame:=by w_on
theorem u9(Jc:c.GoJ)(hk:F.scope.kind=.function)(hx:F.scope.names.lookup ("x":Str)=some .local)(hj:F.scope.names.lookup ("join_shlex":Str)=some .globalImplicit){js0:List Nat}(hg:gens=[⟨.Name "x" p4,iter,[],0⟩])(hTJ:T≠J)(hlt:js0.length<900):
  ∀(rest:List (List Str))(rj:List Nat)(done:List Str)(i:Nat)(l:List (Str×AV))(H:List AO),(∀r∈rest,je r∧r.length≤100)→H[T]?=some (.list (js0.map .obj))→H[J]?=some (.list (done.map .str))→js0.drop i=rj→rj.length=rest.length→(∀(i j:Nat)(r:List Str),rj[i]?=some j→rest[i]?=some r→H[j]?=some (AO.list (r.map .str))∧j≠J)→done.length=i→
   ∃loc',CL c F (k+102) (.Call (.Name "join_shlex" p1) [.Name "x" p2] [] p3) gens sc pos 0 (aR T (js0.map .obj)) J i ⟨l,H⟩ ⟨loc',H.set J (.list ((done++rest.map aT).map .str))⟩:=by
 have G:=Jc.go
 intro rest
 induction rest with
 |nil=>
  intro rj done i l H _ hT hJ hd hl _ hi
  have:rj=[]:=by simpa using hl
  subst this
  subst hg
  have eH:H.set J (.list ((done++([]:List (List Str)).map aT).map .str))=H:=by
   refine bp (zS.mp hJ) λq1 q2=>?_
   simp only[List.map_nil,List.append_nil]
   rw[←q2];exact Z8 q1
  rw[eH]
  refine⟨l,iL (σ:=⟨l,H⟩) (I:=aR T (js0.map .obj)) (az) rfl rfl (λ_ _=>rfl) (by lia) hT ?_⟩
  show(js0.map AV.obj)[i]?=none
  rw[ZC]
  simp[ZL]at hd ⊢
  exact hd
 |cons r rest ih=>
  intro rj done i l H hok hT hJ hd hl hat hi
  cases rj with
  |nil=>simp at hl
  |cons jr rj=>
   have hi1:js0[i]?=some jr:=by
    have:(js0.drop i)[0]?=some jr:=by rw[hd];rfl
    rw[Z1,Zq]at this
    exact this
   have hd1:js0.drop (i+1)=rj:=by
    have:(js0.drop i).drop 1=rj:=by rw[hd];rfl
    rw[Zp]at this
    exact this
   have ilt:=aq hi1
   refine aO (hat 0 jr r rfl rfl) λhr0 hjJ=>?_
   refine aO (hok r (.head _)) λok rl=>?_
   have Jl:=aq hJ
   have fj:=Dz (k:=k) (H:=H) Jc hr0 ok.nm rl
   refine bp (ih rj (done++[aT r]) (i+1) (aS "x" (.obj jr) l) (H.set J (.list (done.map .str++[.str (aT r)]))) (λr hr=>hok r (.tail _ hr)) (ak hT hTJ) (by rw[zT Jl];simp) hd1 (by simpa using hl) (λi' j' r' h1 h2=>by
    obtain⟨z1,z2⟩:=hat (i'+1) j' r' h1 h2
    exact⟨ak z1 z2,z2⟩) (by simp[hi])) λloc' c1=>?_
   rw[Zj]at c1
   subst hg
   have eL:done++[aT r]++rest.map aT=done++(r::rest).map aT:=by simp
   rw[eL]at c1
   refine⟨loc',fM (a:=.obj jr) (v:=.str (aT r)) (σ:=⟨l,H⟩) (σ₁:=⟨aS "x" (.obj jr) l,H⟩) (σ₂:=⟨aS "x" (.obj jr) l,H⟩) (σ₃:=⟨aS "x" (.obj jr) l,H⟩) (acc:=done.map .str) (I:=aR T (js0.map .obj)) G.ok (az) rfl rfl (λ_ _=>rfl) hT ?_ (bg hk hx) jH ?_ hJ (by simp;lia) c1⟩
   ·show(js0.map AV.obj)[i]?=_
    rw[ZK,hi1];rfl
   ·exact fS G.ok (λ_=>rfl) (dp G hk hj (Bk _)) ⟨_,by rw[G.hK];exact HJ _⟩ (gF (af λ_=>rfl) (am (λ_=>rfl) (aa hk hx (ah _ _ _)) au)) fj
section
variable{L:Addr→Prop}
structure lX(A:Around)(Z:Addr→Prop)(h h':Heap):Prop where
 there:∀b o,h.get? b=some o→∃o',h'.get? b=some o'∧(¬Z b→mj o o')
 same:∀b o,h.get? b=some o→b∉fz A→¬Z b→h'.get? b=some o
theorem lX.trans{Z:Addr→Prop}{h h₁ h₂:Heap}(x:lX A Z h h₁)(y:lX A Z h₁ h₂):lX A Z h h₂:=by
 refine⟨λb o e=>?_,λb o e h1 h2=>y.same b o (x.same b o e h1 h2) h1 h2⟩
 refine aj (x.there b o e) λo' e' l'=>?_
 refine aj (y.there b o' e') λo2 e2 l2=>?_
 exact al o2 e2 λz=>(l' z).trans (l2 z)
theorem lX.of_keep{Z:Addr→Prop}(k:∀b o,h.get? b=some o→¬Z b→h'.get? b=some o)(t:∀b o,h.get? b=some o→Z b→∃o',h'.get? b=some o'):lX A Z h h':=by
 refine⟨λb o e=>?_,λb o e _ z=>k b o e z⟩
 by_cases z:Z b
 ·refine bp (t b o e z) λo' e'=>?_
  exact al o' e' λn=>absurd z n
 ·exact al o (k b o e z) λ_=>.refl
theorem lF(hz:c.rz=true)(r:aW c A F ρ σ s env){b:Addr}(hb:b∈fz A):∃o es ep,s.heap.get? b=some o∧o.data=.dict es ep∧c.h₁.get? b=none∧∀i,i<σ.H.length→ρ i≠b:=by
 refine br λGz kz=>?_
 refine aj (r.sk hz) λl h1 h2=>?_
 have fe:fz A=l.filterMap (·.frame):=by unfold fz;rw[h1];rfl
 rw[fe]at hb
 refine aj (Zx.mp hb) λev hev hf=>?_
 refine eV (h2 ev hev) λ_ L o' es ep g1 g2 g3 g4 g5=>?_
 refine kz ?_
 rw[hf]at g1;cases g1
 exact jg o' es ep g3 g4 g2 g5
theorem lX.rel{Z:Addr→Prop}(hz:c.rz=true)(r:aW c A F ρ σ s env)(x:lX A Z s.heap h')
  (z:∀b,Z b→∃o,fx c ρ σ.H.length env b o∧(∀o',s.heap.get? b=some o'→o'=o)):aW c A F ρ σ ⟨h',s.gens,s.drawn,tk,s.os⟩ env:=by
 have zt:∀i,i<σ.H.length→¬Z (ρ i):= λi hi q=>by refine aj (z _ q) λo f _=>?_;exact f.ap i hi rfl
 have zb:∀b o,c.h₁.get? b=some o→¬Z b:= λb o e q=>by refine aj (z _ q) λo' f _=>?_;have:=f.up;rw[this]at e;cases e
 have fb:∀b o,c.h₁.get? b=some o→b∉fz A:= λb o e q=>by refine d8 (lF hz r q) λ_ _ _ _ _ g _=>?_;rw[g]at e;cases e
 have zl:¬Z env.locals:= λq=>by refine aj (z _ q) λo f _=>?_;exact f.ne rfl
 refine⟨⟨λi o e=>?_,r.hr.inj,r.hr.up,λb o e t=>x.same b o (r.hr.base b o e t) (fb b o e) (zb b o e),λo e=>?_⟩,r.sc,r.gl,r.bl,r.ce,r.ci,?_,r.ap,r.lf,r.ge,r.sk.same rfl λb o es ep e1 e2 e3 e4=>?_,r.tp,r.fl⟩
 ·refine aj (r.hr.at_ i o e) λob h1 h2=>?_
  have il:=aq e
  exact al ob (x.same _ _ h1 (λq=>by refine d8 (lF hz r q) λ_ _ _ _ _ _ g=>?_;exact g i il rfl) (zt i il)) h2
 ·rcases r.hr.tj o e with q|⟨z1,z2,vs,more,z3,z4⟩
  ·exact .inl (x.same _ _ q (fb _ _ e) (zb _ _ e))
  ·exact .inr (bS z1 z2 vs more z3 (x.same _ _ z4 (fb _ _ e) (zb _ _ e)))
 ·refine br λGz kz=>?_
  refine aj (r.lo) λm hm hl=>?_
  refine dc hm λo es ep e1 d1=>?_
  refine aj (x.there _ o e1) λo' e' lk=>?_
  refine kz ?_
  exact al m (bh o' es ep e' (by rw[(lk zl).data];exact d1)) hl
 ·refine aj (x.there b o e1) λo' e' lk=>?_
  refine bh o' es ep e' ?_
  rw(config:={}) [(lk λq=>?_).data]
  ·exact e2
  ·refine aj (z _ q) λo2 f g=>?_
   have:=g _ e1
   subst this
   exact f.nd es ep e2
theorem lX.step{Z:Addr→Prop}(st:aM c ρ₀ n₀ L s₀ ρ n s)(x:lX A Z s.heap h')(z:∀b,Z b→s₀.heap.get? b=none):aM c ρ₀ n₀ L s₀ ρ n ⟨h',s.gens,s.drawn,tk,s.os⟩:=by
 refine⟨st.ag,st.le,st.nw,⟨λb o e=>?_,λb o e t hL hr=>?_⟩,st.os⟩
 ·refine bp (st.kp.1 b o e) λo' e'=>?_
  refine aj (x.there b o' e') λo2 e2 _=>?_
  exact⟨o2,e2⟩
 ·refine aj (st.kp.2 b o e t hL hr) λo' e' l'=>?_
  refine aj (x.there b o' e') λo2 e2 l2=>?_
  exact al o2 e2 (l'.trans (l2 λq=>by rw[z b q]at e;cases e))
structure rK(c:Cx)(ρ:Nat→Addr)(n:Nat)(env:Env)(h0:Heap)(X:String)(e:Addr)(nt cx:Bool)(h:Heap):Prop where
 ob:∃oe vs,h.get? e=some oe∧fx c ρ n env e oe∧h0.get? e=none∧oe.cls=.type X∧oe.data=.fields vs∧vs.size=6∧(cx=true→vs[2]?=some .none)∧
  ((nt=false∧vs[1]?=some .none)∨∃T oT ts fl,vs[1]?=some (.ref T)∧h.get? T=some oT∧fx c ρ n env T oT∧h0.get? T=none∧T≠e∧oT.data=.fields ts∧ts[3]?=some fl)
theorem rK.back{h1:Heap}{e:Addr}{nt:Bool}(x:rK c ρ n env h1 X e nt cx h)(k:∀b o,h0.get? b=some o→∃o',h1.get? b=some o'):rK c ρ n env h0 X e nt cx h:=by
 have kn:∀b,h1.get? b=none→h0.get? b=none:= λb q=>by
  cases w:h0.get? b with
  |none=>rfl
  |some o=>refine bp (k b o w) λo' e'=>?_;rw[q]at e';cases e'
 refine br λGz kz=>?_
 refine df (x.ob) λoe vs g1 g2 g3 g4 g5 g6 g7 g8=>?_
 refine kz ?_
 refine⟨oe,vs,g1,g2,kn _ g3,g4,g5,g6,g7,g8.imp id λq=>?_⟩
 refine br λGz kz=>?_
 refine ka q λT oT ts fl a1 a2 a3 a4 a5=>?_
 refine kz ?_
 exact ku T oT ts fl a1 a2 a3 (kn _ a4) a5
theorem fx.of_data{o':Obj}{vs:Array Value}(f:fx c ρ n env it o)(h:o'.data=.fields vs):fx c ρ n env it o':=⟨f.ap,f.up,f.ne,λes ep q=>by rw[h]at q;cases q⟩
theorem fx.not_frs(hz:c.rz=true)(r:aW c A F ρ σ s env)(f:fx c ρ n env it o)(h:s.heap.get? it=some o):it∉fz A:= λq=>by
 refine dh (lF hz r q) λo' es ep g1 g2 _=>?_
 rw[h]at g1;cases g1
 exact f.nd es ep g2
theorem pP{vs:Array Value}{x:Value}(h:o.data=.fields vs):(Obj.mapFields (·.setIfInBounds i x) o).data=.fields (vs.setIfInBounds i x):=Obj.data_mapFields h _
theorem nh{a:Addr}{vs:Array Value}(ha:h.get? a=some o)(hd:o.data=.fields vs)(i:Nat)(x:Value):
  ∃o',(h.update a (Obj.mapFields (·.setIfInBounds i x))).get? a=some o'∧o'.cls=o.cls∧o'.data=.fields (vs.setIfInBounds i x)∧∀b,b≠a→(h.update a (Obj.mapFields (·.setIfInBounds i x))).get? b=h.get? b:=
 gz _ (Zw _ ha (Obj.isFreed_of_fields (pP hd))) (Obj.cls_mapFields _ _) (pP hd) λb hb=>ZU _ _ (Ne.symm hb)
end
section
variable{L:Addr→Prop}{e:Addr}{nt:Bool}
theorem oZ{head:Value}{hadNext:Bool}{oe:Obj}{vs:Array Value}{Q:Unit→Shared→Prop}(hz:c.rz=true)(r:aW c A F ρ σ s env)(hfn:env.func.isSome=true)(hfl:env.frame=some env.locals)(h0s:∀b o,h0.get? b=some o→∃o',s.heap.get? b=some o')
  (he:s.heap.get? e=some oe)(fe:fx c ρ σ.H.length env e oe)(h0e:h0.get? e=none)(hcls:oe.cls=.type X)(hd:oe.data=.fields vs)(hsz:vs.size=6)(hcx:cx=true→vs[2]?=some .none)
  (q:∀s',aW c A F ρ σ s' env→(∀{s₀:Shared}{ρ₀:_}{n₀:_},s₀.heap=h0→aM c ρ₀ n₀ (· =env.locals) s₀ ρ σ.H.length s→aM c ρ₀ n₀ (· =env.locals) s₀ ρ σ.H.length s')→rK c ρ σ.H.length env h0 X e true cx s'.heap→Q () s'):
  wpAny M A (do setField (.ref e) 1 (←EntryCells.newEntry head (←frameOf env) .none (rawInt f) .none (←entryPlaceOf f hadNext))) Q E s:=by
 refine bp (r.tp hz hfn) λouter hfr=>?_
 refine aj (r.sk hz) λl h1 h2=>?_
 rw[hfr]at h1
 cases h1
 have ff:=iH h2
 have fA:fz A=(env::outer).filterMap (·.frame):=by unfold fz;rw[hfr];rfl
 refine YC (wpAny_frameOf_fun hfr ff hfl λh₁ hs₁=>?_)
 refine YC (wpAny_entryPlaceOf λpl hpl=>?_)
 unfold EntryCells.newEntry newFields
 refine YC (wpAny_newObj_type ?_ (hpl.sizeOk5 _ _ _ _ _))
 have nf:=fe.not_frs hz r he
 have he₁:h₁.get? e=some oe:=(hs₁.2.1 e (by rw[←fA];exact nf)).trans he
 obtain⟨tb,etb⟩:∃tb:Obj,tb={cls:=.type "traceback",dict:=none,data:=.fields ([head,.ref env.locals,.none,rawInt f,.none]++(if pl.isEmpty then ZV 6 Value.none else pl)).toArray}:=⟨_,rfl⟩
 rw[←etb]
 have he₂:=zH (h:=h₁) tb he₁
 refine cv (nh he₂ hd 1 (.ref h₁.objs.size)) λoe' g1 g2 g3 g4=>?_
 refine wpAny_setField he₂ hd (by lia) ?_
 have hTe:h₁.objs.size≠e:=Nat.ne_of_gt (ZB he₁)
 have hT:((h₁.push tb).update e (Obj.mapFields (·.setIfInBounds 1 (.ref h₁.objs.size)))).get? h₁.objs.size=some tb:=(g4 _ hTe).trans (ZN h₁ (by rw[etb];rfl))
 have aft:lX A (· =e) s.heap ((h₁.push tb).update e (Obj.mapFields (·.setIfInBounds 1 (.ref h₁.objs.size)))):=by
  refine⟨λb o eb=>?_,λb o eb hb hne=>?_⟩
  ·refine bp (hs₁.2.2 b o eb) λsl hsl=>?_
   by_cases q:b=e
   ·subst q;exact al _ g1 λz=>absurd rfl z
   ·refine al _ ((g4 b q).trans (zH _ hsl)) λ_=>al sl rfl λnd=>?_
    by_cases hb:b∈fz A
    ·refine dh (lF hz r hb) λo' es ep w1 w2 _=>?_
     rw[eb]at w1;cases w1
     exact absurd w2 (nd es ep)
    ·have:=(hs₁.2.1 b (by rw[←fA];exact hb)).trans eb
     rw[hsl]at this
     exact congrArg Obj.slots (Option.some.inj this)
  ·exact(g4 b hne).trans (zH _ ((hs₁.2.1 b (by rw[←fA];exact hb)).trans eb))
 have r':=aft.rel (tk:=s.toks) hz r λb(hb:b=e)=>by subst hb;exact al oe fe λo' e'=>by rw[he]at e';exact(Option.some.inj e').symm
 have sz:h₁.objs.size=s.heap.objs.size:=hs₁.1
 have fT:fx c ρ σ.H.length env h₁.objs.size tb:=by rw[sz];exact r.newFree (o:=tb) (λes ep q=>by rw[etb]at q;cases q)
 have h0T:h0.get? h₁.objs.size=none:=by
  cases w:h0.get? h₁.objs.size with
  |none=>rfl
  |some o=>
   refine bp (h0s _ _ w) λo' e'=>?_
   rw[sz]at e'
   exact absurd (ZB e') (ZJ _)
 refine q _ r' (λ{s₀ ρ₀ n₀} e0 st=>aft.step (s:=s) (tk:=s.toks) st λb(hb:b=e)=>by rw[hb,e0];exact h0e) ⟨oe',_,g1,fe.of_data g3,h0e,g2.trans hcls,g3,by simp[hsz],λz=>?_,.inr (iM h₁.objs.size tb _ (rawInt f) ?_ hT fT h0T hTe (by rw[etb]) (by simp))⟩
 ·rw[Array.getElem?_setIfInBounds_ne (by decide)];exact hcx z
 ·simp[hsz]
theorem g9{Q:Unit→Shared→Prop}(hz:c.rz=true)(r:aW c A F ρ σ s env)(hfn:env.func.isSome=true)(hfl:env.frame=some env.locals)(h0s:∀b o,h0.get? b=some o→∃o',s.heap.get? b=some o')(x:rK c ρ σ.H.length env h0 X e nt cx s.heap)
  (q:∀s',aW c A F ρ σ s' env→(∀{s₀:Shared}{ρ₀:_}{n₀:_},s₀.heap=h0→aM c ρ₀ n₀ (· =env.locals) s₀ ρ σ.H.length s→aM c ρ₀ n₀ (· =env.locals) s₀ ρ σ.H.length s')→rK c ρ σ.H.length env h0 X e true cx s'.heap→Q () s'):wpAny M A (noteFrame (.ref e) env) Q E s:=by
 refine br λGz kz=>?_
 refine df (x.ob) λoe vs h1 h2 h3 h4 h5 h6 h7 h8=>?_
 refine kz ?_
 unfold noteFrame
 simp only[hfl]
 rcases h8 with⟨_,h8⟩|⟨T,oT,ts,fl,a1,a2,a3,a4,a5,a6,a7⟩
 ·refine YC (wpAny_field h1 h5 h8 ?_)
  rw[if_neg (by decide)]
  exact oZ hz r hfn hfl h0s h1 h2 h3 h4 h5 h6 h7 q
 ·refine YC (wpAny_field h1 h5 a1 ?_)
  rw[if_pos (show(Value.ref T != Value.none)=true from by simp)]
  refine YC (wpAny_field a2 a6 a7 ?_)
  by_cases hq:(fl==rawInt env.locals)=true
  ·rw[if_pos hq]
   exact YD (q s r (λ_ st=>st) ⟨oe,vs,h1,h2,h3,h4,h5,h6,h7,.inr (iM T oT ts fl a1 a2 a3 a4 a5 a6 a7)⟩)
  ·rw[if_neg hq]
   refine cv (nh a2 a6 3 .none) λoT' g1 g2 g3 g4=>?_
   refine YC (wpAny_setField a2 a6 (Array.getElem?_eq_some_iff.mp a7).1 ?_)
   have aft:lX A (· =T) s.heap (s.heap.update T (Obj.mapFields (·.setIfInBounds 3 .none))):=.of_keep (λb o eb hne=>(g4 b hne).trans eb) λb o eb hb=>by subst hb;exact⟨_,g1⟩
   have r':=aft.rel (tk:=s.toks) hz r λb(hb:b=T)=>by subst hb;exact al oT a3 λo' e'=>by rw[a2]at e';exact(Option.some.inj e').symm
   exact oZ (h0:=h0) hz r' hfn hfl (λb o eb=>by
    refine bp (h0s b o eb) λo' e'=>?_
    refine aj (aft.there b o' e') λo2 e2 _=>?_
    exact⟨o2,e2⟩) ((g4 e (Ne.symm a5)).trans h1) h2 h3 h4 h5 h6 h7 λs' r2 st2 x2=>q s' r2 (λe0 st=>st2 e0 (aft.step (s:=s) (tk:=s.toks) st λb(hb:b=T)=>by rw[hb,e0];exact a4)) x2
theorem fD{g:Option Addr}{Q:Unit→Shared→Prop}(hz:c.rz=true)(r:aW c A F ρ σ s env)(x:rK c ρ σ.H.length env h0 X e nt cx s.heap)
  (q:∀s',aW c A F ρ σ s' env→(∀{s₀:Shared}{ρ₀:_}{n₀:_},s₀.heap=h0→aM c ρ₀ n₀ (· =env.locals) s₀ ρ σ.H.length s→aM c ρ₀ n₀ (· =env.locals) s₀ ρ σ.H.length s')→rK c ρ σ.H.length env h0 X e nt cx s'.heap→Q () s'):wpAny M A (setFlight (.ref e) g) Q E s:=by
 refine br λGz kz=>?_
 refine df (x.ob) λoe vs h1 h2 h3 h4 h5 h6 h7 h8=>?_
 refine kz ?_
 unfold setFlight
 rcases h8 with⟨h9,h8⟩|⟨T,oT,ts,fl,a1,a2,a3,a4,a5,a6,a7⟩
 ·refine YC (wpAny_field h1 h5 h8 ?_)
  rw[if_neg (by decide)]
  exact YD (q s r (λ_ st=>st) x)
 ·refine YC (wpAny_field h1 h5 a1 ?_)
  rw[if_pos (show(Value.ref T != Value.none)=true from by simp)]
  refine cv (nh a2 a6 3 (g.elim Value.none λf=>rawInt f)) λoT' g1 g2 g3 g4=>?_
  refine wpAny_setField a2 a6 (Array.getElem?_eq_some_iff.mp a7).1 ?_
  have aft:lX A (· =T) s.heap (s.heap.update T (Obj.mapFields (·.setIfInBounds 3 (g.elim Value.none λf=>rawInt f)))):=.of_keep (λb o eb hne=>(g4 b hne).trans eb) λb o eb hb=>by subst hb;exact⟨_,g1⟩
  have r':=aft.rel (tk:=s.toks) hz r λb(hb:b=T)=>by subst hb;exact al oT a3 λo' e'=>by rw[a2]at e';exact(Option.some.inj e').symm
  exact q _ r' (λe0 st=>aft.step (s:=s) (tk:=s.toks) st λb(hb:b=T)=>by rw[hb,e0];exact a4) ⟨oe,vs,(g4 e (Ne.symm a5)).trans h1,h2,h3,h4,h5,h6,h7,.inr (iM T oT' _ _ a1 g1 (a3.of_data g3) a4 a5 g3 (by
   have:=(Array.getElem?_eq_some_iff.mp a7).1
   rw[Array.getElem?_setIfInBounds_self_of_lt this]))⟩
end
noncomputable def qd(c:Cx)(A:Around)(ρ:Nat→Addr)(n:Nat)(env:Env)(h:Heap):Bool→Prop
 |false=>A.handled=none
 |true=>∃x o vs,A.handled=some (.ref x)∧h.get? x=some o∧fx c ρ n env x o∧o.data=.fields vs∧vs[2]?=some .none
section
variable{e:Addr}{nt:Bool}
theorem qd.step(O:c.Ok)(x:qd c A ρ n env s.heap hm)(st:aM c ρ n (· =env.locals) s ρ' n' s'):qd c A ρ' n' env s'.heap hm:=by
 cases hm with
 |false=>exact x
 |true=>
  refine br λGz kz=>?_
  refine c7 x λy o vs h1 h2 h3 h4 h5=>?_
  refine aO (h3.step O h2 st) λf g=>?_
  refine kz ?_
  exact cG y o vs h1 g f h4 h5
theorem rK.step(O:c.Ok)(x:rK c ρ n env h0 X e nt cx s.heap)(st:aM c ρ n (· =env.locals) s ρ' n' s'):rK c ρ' n' env h0 X e nt cx s'.heap:=by
 refine br λGz kz=>?_
 refine df (x.ob) λoe vs h1 h2 h3 h4 h5 h6 h7 h8=>?_
 refine aO (h2.step O h1 st) λf g=>?_
 refine kz ?_
 refine⟨oe,vs,g,f,h3,h4,h5,h6,h7,h8.imp id λq=>?_⟩
 refine br λGz kz=>?_
 refine ka q λT oT ts fl a1 a2 a3 a4 a5=>?_
 refine aO (a3.step O a2 st) λf' g'=>?_
 refine kz ?_
 exact ku T oT ts fl a1 g' f' a4 a5
theorem oQ:entryFor table "proto.unchain"=some Builtin.«proto.unchain»:=entryFor_of_fast (by w_on)
structure yt(h h':Heap)(e:Addr)(cls:String)(hm:Bool):Prop where
 keeps:∀b o,h.get? b=some o→h'.get? b=some o
 new:h.get? e=none
 there:∃ob vs,h'.get? e=some ob∧ob.cls=.type cls∧ob.data=.fields vs∧vs.size=6∧vs[1]?=some .none∧(hm=false→vs[2]?=some .none)
theorem kZ{cls msg:String}{Q:α→Shared→Prop}(hp:PlainExc cls)(hd:qd c A ρ n env s.heap hm)
  (h:∀h' tk e,yt s.heap h' e cls hm→E (.ref e) {s with heap:=h',toks:=tk}):wpAny (model prog w) A (raiseErrorWords cls msg:Sem α) Q E s:=by
 unfold raiseErrorWords
 refine YC (wpAny_mkText (YC ?_))
 unfold newExc newTuple
 refine YC (wpAny_newObj_type ?_)
 refine YC (m:=firstArgMember _ _) (wpAny_of_eq (a:=Value.none) (by simp only[firstArgMember,hp.first];rfl) ?_)
 rw[hp.own]
 refine wpAny_newObj_type ?_
 unfold raiseNew
 refine YC (wpAny_handled ?_)
 have nx:∀tt:Value,yt s.heap ((s.heap.push {cls:=.type "tuple",dict:=none,data:=.seq #[tt]}).push {cls:=.type cls,dict:=none,data:=.fields (#[.ref s.heap.objs.size,.none,.none,.none,.bool false,.none]++ #[])}) (s.heap.objs.size+1) cls false:= λtt=>
  ⟨λb o hb=>zH _ (zH _ hb),Heap.get?_none_of_le (by simp),_,_,by have:=ZN (s.heap.push {cls:=.type "tuple",dict:=none,data:=.seq #[tt]}) (o:={cls:=.type cls,dict:=none,data:=.fields (#[.ref s.heap.objs.size,.none,.none,.none,.bool false,.none]++ #[])}) rfl;simpa using this,rfl,rfl,by simp,by simp,λ_=>by simp⟩
 cases hm with
 |false=>
  rw[show A.handled=none from hd]
  first
   |refine wpAny_throw ?_
   |refine YC (YD (wpAny_throw ?_))
  have:=nx (.str (Str.ofString msg) s.toks)
  have e1:(s.heap.push {cls:=.type "tuple",dict:=none,data:=.seq [Value.str (Str.ofString msg) s.toks].toArray}).objs.size=s.heap.objs.size+1:=Zo ..
  rw[show(s.heap.objs.size+1)=_ from e1.symm]at this
  exact h _ _ _ this
 |true=>
  refine br λGz kz=>?_
  refine c7 hd λx o vs h1 h2 h3 h4 h5=>?_
  refine kz ?_
  rw[h1]
  have N:=nx (.str (Str.ofString msg) s.toks)
  have e1:(s.heap.push {cls:=.type "tuple",dict:=none,data:=.seq [Value.str (Str.ofString msg) s.toks].toArray}).objs.size=s.heap.objs.size+1:=Zo ..
  rw[show(s.heap.objs.size+1)=_ from e1.symm]at N
  have hx:=N.keeps x o h2
  have ne:x≠(s.heap.push {cls:=.type "tuple",dict:=none,data:=.seq [Value.str (Str.ofString msg) s.toks].toArray}).objs.size:= λq=>by
   have:=N.new;rw[←q,h2]at this;cases this
  dsimp only
  rw[if_pos (show(Value.ref x != Value.ref _)=true from by simpa using ne)]
  refine br λGz kz=>?_
  refine eQ (N.there) λob ws g1 g2 g3 g4 g5 g6=>?_
  refine kz ?_
  refine YC (YF (wpAny_runValue (codeAny_builtin oQ ?_)))
  show wpAny _ _ (do let context←field (.ref x) 2;_) _ _ _
  refine YC (wpAny_field hx h4 h5 ?_)
  rw[if_pos (by rfl)]
  refine YC (YD (YD ?_))
  refine cv (nh g1 g3 2 (.ref x)) λob' k1 k2 k3 k4=>?_
  unfold updateField
  refine YC (YC (wpAny_load g1 ?_))
  rw[g3]
  dsimp only
  rw[if_pos (by lia)]
  refine wpAny_update g1 ?_
  refine wpAny_throw ?_
  refine h _ _ _ ⟨λb o hb=>(k4 b λq=>?_).trans (N.keeps b o hb),N.new,ob',_,k1,k2.trans g2,k3,by simp[g4],?_,λq=>nomatch q⟩
  ·have:=N.new;rw[←q,hb]at this;cases this
  ·rw[Array.getElem?_setIfInBounds_ne (by decide)];exact g5
end
noncomputable def fw(c:Cx)(F:Fs)(k:Nat)(hm cx:Bool){α:Type}(t:Env→Sem α)(σ:St)(X:String)(σ':St):Prop:=
 ∀(A:Around)(ρ:Nat→Addr)(s:Shared)(env:Env)(Q:α→Shared→Prop)(E:Value→Shared→Prop),cK k A→aW c A F ρ σ s env→qd c A ρ σ.H.length env s.heap hm→
  (∀ρ' s' e nt,aW c A F ρ' σ' s' env→aM c ρ σ.H.length (· =env.locals) s ρ' σ'.H.length s'→rK c ρ' σ'.H.length env s.heap X e nt cx s'.heap→E (.ref e) s')→wpAny c.M A (t env) Q E s
noncomputable def Fs.def(F:Fs):Prop:=F.scope.names.lookup (".0":Str)=none
theorem bM{st:Stmt}(O:c.Ok)(h1:Ex c F k st σ .next σ₁)(h2:fw c F k hm cx (execs rest) σ₁ X σ₂):fw c F k hm cx (execs (st::rest)) σ X σ₂:= λA ρ s env Q E K r hd h=>
 YH (h1 A ρ s env _ E K r λρ1 s1 x r1 st1 vx=>by
  rw[show x=.next from vx]
  exact h2 A ρ1 s1 env _ E K r1 (hd.step O st1) λρ2 s2 e nt r2 st2 x2=>h ρ2 s2 e nt r2 (st1.trans st2) (x2.back st1.kp.1))
theorem bN{st:Stmt}(h1:fw c F k hm cx (exec st) σ X σ₁):fw c F k hm cx (execs (st::rest)) σ X σ₁:= λA ρ s env Q E K r hd h=>
 YH (h1 A ρ s env _ E K r hd h)
theorem lg(O:c.Ok)(h1:Te c F k test σ t σ₁)(h2:fw c F k hm cx (execs (if t then body else orelse)) σ₁ X σ₂):fw c F k hm cx (exec (.If test body orelse pos)) σ X σ₂:= λA ρ s env Q E K r hd h=>
 wpAny_If (h1 A ρ s env _ E K r λρ1 s1 x r1 st1 vx=>by
  subst vx
  have z:=h2 A ρ1 s1 env Q E K r1 (hd.step O st1) λρ2 s2 e nt r2 st2 x2=>h ρ2 s2 e nt r2 (st1.trans st2) (x2.back st1.kp.1)
  cases x<;>exact z)
theorem iE{pos':Pos}(hs:∀env,swapsWith e (some (.Name x pos')) pos.line env=pure false)(h1:fw c F k hm cx (eval e) σ X σ₁):fw c F k hm cx (exec (.Assign [.Name x pos'] e pos)) σ X σ₁:= λA ρ s env Q E K r hd h=>
 wpAny_Assign_Name (h1 A ρ s env _ E K r hd h) (hs env)
theorem wv{e₁ e₂:Expr}{op:CmpOp}(hb:behindInMarks op e₂=false)(h1:fw c F k hm cx (eval e₁) σ X σ₁):fw c F k hm cx (λenv=>isTrue (.Compare e₁ [op] [e₂] pos) env (eval (.Compare e₁ [op] [e₂] pos) env)) σ X σ₁:= λA ρ s env Q E K r hd h=>
 wpAny_isTrue_Compare1 (h1 A ρ s env _ E K r hd h) hb
theorem yU{l:Addr}{items:Array Value}{k:Int}{t:Tok}(hA:qd c A ρ n env s.heap hm)(hl:s.heap.IsList l items)(hout:(items.size:Int)≤k)(hlo: -(2 ^ 63)≤k)(hhi:k<2 ^ 63)
  (hE:∀h' tk e,yt s.heap h' e "IndexError" hm→E (.ref e) {s with heap:=h',toks:=tk}):
  wpAny (model prog w) A (getItem (.ref l) (.int k t)) Q E s:=by
 refine qL (id hl) λo ho hc ne hd=>?_
 unfold getItem
 try with_reducible refine YF ?_
 first|refine YC (YD ?_)|skip
 refine YC (wpAny_sequenceKey hl.typeIs (by decide) ?_)
 refine YC (wpAny_callSpecial?_slot (name:=Str.ofString "__getitem__") hl.typeIs slot_list_getitem
  (wpAny_call_entry slot_list_getitem hl.typeIs entry_list_getitem ?_ (args_list_getitem _ _)))
 show wpAny _ _ (Builtin.List.listSubscript? (.int k t) >>=_) _ _ s
 refine YC (wpAny_listSubscript_int (fitsIndex_both hlo hhi) ?_)
 clear hlo hhi
 obtain⟨j,rfl⟩:∃j:Nat,k=Int.ofNat j:=⟨k.toNat,by simp only[Int.ofNat_eq_natCast];lia⟩
 have hx:items[j]?=none:=Array.getElem?_eq_none (by have:(items.size:Int)≤(j:Int):=hout;lia)
 show wpAny _ _ ((seqItemAt l j >>= λr=>pure (r.map (j, ·))) >>=_) _ _ s
 refine YC (YC (wpAny_seqItemAt ho hd (YD ?_)))
 rw[hx]
 have hA':qd c A.in1 ρ n env s.heap hm:=by cases hm<;>exact hA
 first
  |exact YC (wpAny_rule (kZ plainExc_IndexError hA' hE))
  |exact YC (wpAny_rule (YC (kZ plainExc_IndexError hA' hE)))
  |exact YC (YC (wpAny_rule (kZ plainExc_IndexError hA' hE)))
  |exact wpAny_rule (kZ plainExc_IndexError hA' hE)
theorem yt.exO{e:Addr}(r:aW c A F ρ σ s env)(x:yt s.heap h' e X hm):aW c A F ρ σ {s with heap:=h',toks:=tk} env∧aM c ρ σ.H.length (· =env.locals) s ρ σ.H.length {s with heap:=h',toks:=tk}∧rK c ρ σ.H.length env s.heap X e false (!hm) h':=by
 refine br λGz kz=>?_
 refine eQ (x.there) λob vs g1 g2 g3 g4 g5 g6=>?_
 refine kz ?_
 have r':aW c A F ρ σ {s with heap:=h',toks:=tk} env:=by
  refine⟨⟨λi ao e=>?_,r.hr.inj,r.hr.up,λb o e t=>x.keeps _ _ (r.hr.base b o e t),λo e=>(r.hr.tj o e).imp (λz=>x.keeps _ _ z) λ⟨z1,z2,vs,more,z3,z4⟩=>bS z1 z2 vs more z3 (x.keeps _ _ z4)⟩,r.sc,r.gl,r.bl,r.ce,r.ci,?_,r.ap,r.lf,r.ge,r.sk.same rfl λb ob es ep g1 g2 _ _=>bh ob es ep (x.keeps _ _ g1) g2,r.tp,r.fl⟩
  ·refine aj (r.hr.at_ i ao e) λob z1 z2=>?_
   exact al ob (x.keeps _ _ z1) z2
  ·refine br λGz kz=>?_
   refine aj (r.lo) λm hm hl=>?_
   refine dc hm λob es ep g1 g2=>?_
   refine kz ?_
   exact al m (bh ob es ep (x.keeps _ _ g1) g2) hl
 refine⟨r',cN (λb o e=>x.keeps b o e) rfl,ob,vs,g1,⟨λi hi q=>?_,r.hr.none1 x.new,λq=>?_,λes ep q=>by rw[g3]at q;cases q⟩,x.new,g2,g3,g4,λz=>g6 (by cases hm<;>simp_all),.inl ⟨rfl,g5⟩⟩
 ·refine aj (r.hr.at_ i (σ.H[i]) (zG hi)) λo h1 _=>?_
  rw[q,x.new]at h1;cases h1
 ·refine br λGz kz=>?_
  refine aj (r.lo) λm hm _=>?_
  refine dc hm λo es ep e1 _=>?_
  refine kz ?_
  rw[←q,x.new]at e1;cases e1
theorem iX(O:c.Ok)(h1:vs.length≤i)(h2:i<2 ^ 61)(hs:∀o x,subscripted slice false o x=operate [o,x] (getItem o x))
  (e0:Ev c F k value σ (.obj j) σ₁)(e1:Ev c F k slice σ₁ (.int i) σ₂)(hj:σ₂.H[j]?=some (.list vs)):fw c F k hm (!hm) (eval (.Subscript value slice pos)) σ "IndexError" σ₂:= λA ρ s env Q E K r hd q=>
 Subscript_ (e0 A ρ s env _ E K r λρ1 s1 x r1 st1 vx=>e1 A ρ1 s1 env _ E K r1 λρ2 s2 y r2 st2 vy=>by
  refine bp vy ?_;clear vy;intro t z0;subst z0
  refine aO (st2.vr vx) λ_ z0=>?_;subst z0
  refine bz (r2.list hj) λits h3 h4 _=>?_
  refine tail_any h3.typeIs slot_list_getitem.lookup (yU ((hd.step O st1).step O st2) h3 (by show((its.length:Nat):Int)≤(i:Int);rw[aI h4];lia) (by lia) (by lia) λh' tk e nx=>?_) (hs _ _)
  refine fP (nx.exO (tk:=tk) r2) λr3 st3 x3=>?_
  exact q ρ2 _ e false r3 ((st1.trans st2).trans st3) (x3.back λb o e=>(st1.trans st2).kp.1 b o e))
section
variable{Y:String}
theorem tR
  (h:wpAny c.M A (isTrue test env (eval test env)) (λb s₂=>if b then wpAny c.M A (execs body env) (λf s₃=>match f with
      | .next| .cont=>codeAny c.M A (.whileLoop test body orelse env) R s₃
      | .brk=>R (.ok .next) s₃
      | .ret v=>R (.ok (.ret v)) s₃) (notedBy c.M A env λe s'=>R (.error e) s') s₂
    else wpAny c.M A (execs orelse env) (λf s₃=>R (.ok f) s₃) (notedBy c.M A env λe s'=>R (.error e) s') s₂) (notedBy c.M A env λe s'=>R (.error e) s') s):codeAny c.M A (.whileLoop test body orelse env) R s:=by
 refine codeAny_of_tree ?_
 rw[Around.under_of_weight (c:=.whileLoop test body orelse env) rfl rfl]
 show wpAny c.M A ((whileTurn test body orelse env).onRaise (λx=>do noteFrame x env;theTreesLotGoes x)) _ _ s
 refine wpAny_noted ?_
 unfold whileTurn
 refine YC (YE h (λb s₂ h₂=>?_) λ_ _ x=>x)
 cases b with
 |true=>
  refine YC (YE h₂ (λf s₃ h₃=>?_) λ_ _ x=>x)
  cases f with
  |next=>exact YD ⟨rfl,h₃⟩
  |cont=>exact YD ⟨rfl,h₃⟩
  |brk=>exact YD h₃
  |ret v=>exact YD h₃
 |false=>exact YC (YE h₂ (λf s₃ h₃=>YD h₃) λ_ _ x=>x)
noncomputable def Ji(c:Cx)(F:Fs)(k:Nat)(hm cx:Bool)(test:Expr)(body orelse:List Stmt)(σ:St)(X:String)(σ':St):Prop:=
 ∀(A:Around)(ρ:Nat→Addr)(s:Shared)(env:Env)(R:Result→Shared→Prop),cK k A→aW c A F ρ σ s env→qd c A ρ σ.H.length env s.heap hm→
  (∀ρ' s' e,aW c A F ρ' σ' s' env→aM c ρ σ.H.length (· =env.locals) s ρ' σ'.H.length s'→rK c ρ' σ'.H.length env s.heap X e true cx s'.heap→R (.error (.ref e)) s')→codeAny c.M A (.whileLoop test body orelse env) R s
theorem hY(hz:c.rz=true)(hF:F.def)(h1:fw c F k hm cx (λenv=>isTrue test env (eval test env)) σ X σ₁):Ji c F k hm cx test body orelse σ X σ₁:= λA ρ s env R K r hd q=>by
 refine aO (r.fl hF) λf1 f2=>?_
 refine tR (h1 A ρ s env _ _ K r hd λρ1 s1 e nt r1 st1 x1=>?_)
 exact g9 hz r1 f1 f2 (λb o eb=>st1.kp.1 b o eb) x1 λs2 r2 st2 x2=>q ρ1 s2 e r2 (st2 rfl st1) x2
theorem lO{e:Addr}(hz:c.rz=true)(r:aW c A F ρ σ s env)(x:rK c ρ σ.H.length env h0 X e true cx s.heap)
  (q:∀s',aW c A F ρ σ s' env→(∀{s₀:Shared}{ρ₀:_}{n₀:_},s₀.heap=h0→aM c ρ₀ n₀ (· =env.locals) s₀ ρ σ.H.length s→aM c ρ₀ n₀ (· =env.locals) s₀ ρ σ.H.length s')→rK c ρ σ.H.length env h0 X e true cx s'.heap→E (.ref e) s'):cameBackBy M A env E (.ref e) s:=by
 unfold cameBackBy
 refine br λGz kz=>?_
 refine df (x.ob) λoe vs h1 h2 h3 h4 h5 h6 h7 h8=>?_
 refine kz ?_
 rcases h8 with⟨w,_⟩|⟨T,oT,ts,fl,a1,a2,a3,a4,a5,a6,a7⟩
 ·cases w
 ·refine YC (wpAny_field h1 h5 a1 ?_)
  rw[if_neg (by simp)]
  first
   |exact YC (YD (fD hz r x q))
   |exact fD hz r x q
theorem gg(hz:c.rz=true)(h1:Ji c F k hm cx test body orelse σ X σ₁):fw c F k hm cx (exec (.While test body orelse pos)) σ X σ₁:= λA ρ s env Q E K r hd q=>
 wpAny_While (h1 A ρ s env _ K r hd λρ1 s1 e r1 st1 x1=>by
  exact lO hz r1 x1 λs2 r2 st2 x2=>q ρ1 s2 e true r2 (st2 rfl st1) x2)
theorem aW.mark{h:Option Value}(r:aW c A F ρ σ s env):aW c (A.mark h) F ρ σ s env:=⟨r.hr,r.sc,r.gl,r.bl,r.ce,r.ci,r.lo,r.ap,r.lf,r.ge,r.sk,r.tp,r.fl⟩
theorem aW.unmark{h:Option Value}(r:aW c (A.mark h) F ρ σ s env):aW c A F ρ σ s env:=⟨r.hr,r.sc,r.gl,r.bl,r.ce,r.ci,r.lo,r.ap,r.lf,r.ge,r.sk,r.tp,r.fl⟩
theorem cK.mark{k':Nat}{h:Option Value}(K:cK k A)(h1:k'≤k)(h2:k'<100):cK k' (A.mark h):=by
 refine fP K λa b _=>?_
 exact⟨by show A.depth+4*k'≤900;lia,by show A.units+12*k'≤9000;lia,λz=>absurd h2 (by lia)⟩
theorem Fo{fs:List Stmt}(h1:dq c F k body σ .next σ₁)(h2:dq c F k (f₀::fs) σ₁ .next σ₂):Ex c F k (.Try body [] [] (f₀::fs) pos) σ .next σ₂:= λA ρ s env Q E K r h=>
 wpAny_Try_finally (h1 A ρ s env _ _ K r λρ1 s1 x r1 st1 vx=>by
  rw[show x=.next from vx]
  refine wpAny_execs_nil (h2 A ρ1 s1 env _ _ K r1 λρ2 s2 y r2 st2 vy=>?_)
  rw[show y=.next from vy]
  exact h ρ2 s2 _ r2 (st1.trans st2) rfl)
theorem yA{fs:List Stmt}(hz:c.rz=true)(O:c.Ok)(hF:F.def)(h1:dq c F k body σ .next σ₁)(h2:fw c F k hm cx (execs (f₀::fs)) σ₁ X σ₂):fw c F k hm cx (exec (.Try body [] [] (f₀::fs) pos)) σ X σ₂:= λA ρ s env Q E K r hd q=>
 wpAny_Try_finally (h1 A ρ s env _ _ K r λρ1 s1 x r1 st1 vx=>by
  rw[show x=.next from vx]
  refine wpAny_execs_nil (h2 A ρ1 s1 env _ _ K r1 (hd.step O st1) λρ2 s2 e nt r2 st2 x2=>?_)
  refine aO (r2.fl hF) λf1 f2=>?_
  exact g9 hz r2 f1 f2 (λb o eb=>st2.kp.1 b o eb) x2 λs3 r3 st3 x3=>lO hz r3 x3 λs4 r4 st4 x4=>q ρ2 s4 e true r4 (st1.trans (st4 rfl (st3 rfl st2))) (x4.back st1.kp.1))
theorem nK{fs:List Stmt}{Q:Flow→Shared→Prop}{e:Addr}{nt:Bool}(hz:c.rz=true)(hF:F.def)(r:aW c A F ρ σ s env)(st:aM c ρ₀ n₀ (· =env.locals) s₀ ρ σ.H.length s)(x:rK c ρ σ.H.length env s₀.heap X e nt cx s.heap)
  (q:∀s',aW c A F ρ σ s' env→aM c ρ₀ n₀ (· =env.locals) s₀ ρ σ.H.length s'→rK c ρ σ.H.length env s₀.heap X e true cx s'.heap→
   wpAny c.M (A.mark (some (.ref e))) (execs (f₀::fs) env) (λg s₂=>match g with| .next=>wpAny c.M A (PySem.passOn "try.finally" (.ref e) env) Q E s₂|g=>wpAny c.M A (setFlight (.ref e) none) (λ_ s₃=>Q g s₃) E s₂) (notedBy c.M (A.mark (some (.ref e))) env (cameBackBy c.M A env E)) s'):
  wpAny c.M A (noteFrame (.ref e) env) (λ_ s₂=>FinallyRaised c.prog c.w A E env (f₀::fs) Q (.ref e) s₂) (FinallyRaised c.prog c.w A E env (f₀::fs) Q) s:=by
 refine aO (r.fl hF) λf1 f2=>?_
 refine g9 hz r f1 f2 (λb o eb=>st.kp.1 b o eb) x λs1 r1 st1 x1=>⟨ref_ne_byPass _,?_⟩
 have st1':=st1 rfl st
 refine g9 hz r1 f1 f2 (λb o eb=>st1'.kp.1 b o eb) x1 λs2 r2 st2 x2=>?_
 have st2':=st2 rfl st1'
 exact fD hz r2 x2 λs3 r3 st3 x3=>q s3 r3 (st3 rfl st2') x3
theorem xN{fs:List Stmt}(hk1:k'≤k)(hk2:k'<100)(hz:c.rz=true)(O:c.Ok)(hF:F.def)(h1:fw c F k hm cx (execs body) σ X σ₁)(h2:dq c F k' (f₀::fs) σ₁ .next σ₂):fw c F k hm cx (exec (.Try body [] [] (f₀::fs) pos)) σ X σ₂:= λA ρ s env Q E K r hd q=>
 wpAny_Try_finally (h1 A ρ s env _ _ K r hd λρ1 s1 e nt r1 st1 x1=>nK hz hF r1 st1 x1 λs2 r2 st2 x2=>by
  refine h2 _ ρ1 s2 env _ _ (K.mark hk1 hk2) r2.mark λρ3 s3 y r3 st3 vy=>?_
  rw[show y=.next from vy]
  have r3:=r3.unmark
  have x3:=x2.step O st3
  refine br λGz kz=>?_
  refine df (x3.ob) λoe vs g1 g2 g3 g4 g5 g6 g7 g8=>?_
  refine kz ?_
  rcases g8 with⟨w,_⟩|⟨T,oT,ts,fl,a1,a2,a3,a4,a5,a6,a7⟩
  ·cases w
  ·show wpAny c.M A (PySem.passOn "try.finally" (.ref e) env) Q E s3
   unfold PySem.passOn
   refine YC (wpAny_field g1 g5 a1 ?_)
   rw[if_neg (by simp)]
   have fin:wpAny c.M A (setFlight (.ref e) env.frame) (λ_ s'=>E (.ref e) s') E s3:=fD hz r3 x3 λs4 r4 st4 x4=>q ρ3 s4 e true r4 (st4 rfl (st2.trans st3)) x4
   first
    |exact YC (YD (YC (YE fin (λ_ _ z=>wpAny_throw z) λ_ _ z=>z)))
    |exact YC (YE fin (λ_ _ z=>wpAny_throw z) λ_ _ z=>z))
theorem uN{fs:List Stmt}(hk1:k'≤k)(hk2:k'<100)(hz:c.rz=true)(O:c.Ok)(hF:F.def)(h1:fw c F k hm true (execs body) σ X σ₁)(h2:fw c F k' true cx (execs (f₀::fs)) σ₁ Y σ₂):fw c F k hm cx (exec (.Try body [] [] (f₀::fs) pos)) σ Y σ₂:= λA ρ s env Q E K r hd q=>
 wpAny_Try_finally (h1 A ρ s env _ _ K r hd λρ1 s1 e nt r1 st1 x1=>nK hz hF r1 st1 x1 λs2 r2 st2 x2=>by
  have hd2:qd c (A.mark (some (.ref e))) ρ1 σ₁.H.length env s2.heap true:=by
   refine br λGz kz=>?_
   refine df (x2.ob) λoe vs g1 g2 g3 g4 g5 g6 g7 g8=>?_
   refine kz ?_
   exact cG e oe vs rfl g1 g2 g5 (g7 rfl)
  refine h2 _ ρ1 s2 env _ _ (K.mark hk1 hk2) r2.mark hd2 λρ3 s3 e3 nt3 r3 st3 x3=>?_
  refine aO (r3.fl hF) λf1 f2=>?_
  refine g9 hz r3 f1 f2 (λb o eb=>st3.kp.1 b o eb) x3 λs4 r4 st4 x4=>lO hz r4.unmark x4 λs5 r5 st5 x5=>?_
  exact q ρ3 s5 e3 true r5 (st2.trans (st5 rfl (st4 rfl st3))) (x5.back st2.kp.1))
theorem pE{T:Str}{np hp:Pos}{b₀:Stmt}{suite:List Stmt}{f:AF}{T':String}(hk1:k'≤k)(hk2:k'<100)(hk:100≤k)(hz:c.rz=true)(O:c.Ok)(hF:F.def)(he:Ev c F k' (.Name T np) σ₁ (.val (.type T')) σ₁)
  (hexc:isSubtype (.type T') (.type "BaseException")=pure true)(hnt:isSubtype (.type ((Manifest.find? T').elim "type" λx=>x.metatype)) (.type "tuple")=pure false)(hsub:isSubtype (.type X) (.type T')=pure true)
  (h1:fw c F k false cx (execs body) σ X σ₁)(h2:dq c F k' (b₀::suite) σ₁ f σ₂):Ex c F k (.Try body [.ExceptHandler (some (.Name T np)) none (b₀::suite) hp] [] [] pos) σ f σ₂:= λA ρ s env Q E K r q=>
 wpAny_Try_except (h1 A ρ s env _ _ K r (K.2.2 hk) λρ1 s1 e nt r1 st1 x1=>by
  refine aO (r1.fl hF) λf1 f2=>?_
  refine g9 hz r1 f1 f2 (λb o eb=>st1.kp.1 b o eb) x1 λs2 r2 st2 x2=>?_
  have st2':=st2 rfl st1
  refine fD hz r2 x2 λs3 r3 st3 x3=>?_
  have st3':=st3 rfl st2'
  refine wpAny_handleBy_builtin (b:=true) hexc hnt hsub (he _ ρ1 s3 env _ _ (K.mark hk1 hk2) r3.mark λρ4 s4 y r4 st4 vy=>⟨vy,?_,?_⟩)
  ·refine br λGz kz=>?_
   refine df ((x3.step O st4).ob) λoe vs g1 g2 g3 g4 g5 g6 g7 g8=>?_
   refine kz ?_
   exact(show ∃o,s4.heap.get? e=some o∧o.cls=.type X from al oe g1 g4)
  ·rw[if_pos rfl]
   have st4':=st3'.trans st4
   refine fD hz r4 (x3.step O st4) λs5 r5 st5 x5=>?_
   have st5':=st5 rfl st4'
   exact h2 _ ρ4 s5 env _ _ (K.mark hk1 hk2) r5 λρ6 s6 g r6 st6 vg=>q ρ6 s6 g r6.unmark (st5'.trans st6) vg)
theorem y5{h₀:ExceptHandler}{hs:List ExceptHandler}{f:AF}(h1:dq c F k body σ f σ₁):Ex c F k (.Try body (h₀::hs) [] [] pos) σ f σ₁:= λA ρ s env Q E K r q=>
 wpAny_Try_except (h1 A ρ s env _ _ K r λρ1 s1 x r1 st1 vx=>by
  cases f with
  |next=>rw[show x=.next from vx];exact wpAny_execs_nil (q ρ1 s1 _ r1 st1 rfl)
  |brk=>rw[show x=.brk from vx];exact q ρ1 s1 _ r1 st1 rfl
  |cont=>rw[show x=.cont from vx];exact q ρ1 s1 _ r1 st1 rfl
  |ret v=>refine aj vx ?_;clear vx;intro y z0 hy;subst z0;exact q ρ1 s1 _ r1 st1 (al y rfl hy))
end
section
theorem wP{t u:Tok}(h:Q (.bool (x.cps.toList<y.cps.toList)) s):wpAny (model prog w) A (richCompare .Lt (.str x t) (.str y u)) Q E s:=P.lt_str h
theorem wY{t u:Tok}(h:Q (.bool (y.cps.toList<x.cps.toList)) s):wpAny (model prog w) A (richCompare .Gt (.str x t) (.str y u)) Q E s:=P.gt_str h
open PySem.AutoSeq1 (wpAny_loadPart')
theorem yw(l b:Addr)(a1 a2 b1 b2:Str)(t1 t2 u1 u2:Tok)(n n2:Nat)(dd dd2:Option Addr)(sl sl2:Array (Option Value)):
  Meets (Builtin.«tuple.__lt__» ⟨[.ref l,.ref b],[]⟩)
   (λA R s=>s.heap.get? l=some {cls:=.type "tuple",dict:=dd,data:=.seq #[.str a1 t1,.str a2 t2] n,slots:=sl}∧s.heap.get? b=some {cls:=.type "tuple",dict:=dd2,data:=.seq #[.str b1 u1,.str b2 u2] n2,slots:=sl2}∧
    R (.ok (.ret (.bool (jQ (a1,a2) (b1,b2))))) s):=
 .of_wp λprog w A R s h=>by
  obtain⟨hp,g,d,tk,os⟩:=s;refine fP h λhl hb h=>?_
  have f2:=AutoSeq1.sub_tuple_tuple
  wp_walk using wpAny_loadPart' hl,wpAny_loadPart' hb,PyProof.Rows.eqBool_str (x:=a1) (y:=b1) (t:=t1) (u:=u1)
  cases e:(a1==b1)with
  |false=>
   have ne:a1≠b1:=by simpa using e
   have ne':b1≠a1:= λq=>ne q.symm
   unfold jQ at h
   wp_walk using wP (x:=a1) (y:=b1) (t:=t1) (u:=u1)
   refine al _ rfl ?_
   simpa[Cv,ne,ne']using h
  |true=>
   have ne:a1=b1:=by simpa using e
   subst ne
   unfold jQ at h
   wp_walk using PyProof.Rows.eqBool_str (x:=a2) (y:=b2) (t:=t2) (u:=u2)
   cases e2:(a2==b2)with
   |false=>
    wp_walk using wP (x:=a2) (y:=b2) (t:=t2) (u:=u2)
    refine al _ rfl ?_
    simpa[Cv]using h
   |true=>
    have ne:a2=b2:=by simpa using e2
    subst ne
    wp_walk
    refine al _ rfl ?_
    simpa[Cv,Builtin.Tuple.tupleCompareSizes,List.lt_irrefl]using h
theorem xQ(l b:Addr)(a1 a2 b1 b2:Str)(t1 t2 u1 u2:Tok)(n n2:Nat)(dd dd2:Option Addr)(sl sl2:Array (Option Value)):
  Meets (Builtin.«tuple.__gt__» ⟨[.ref l,.ref b],[]⟩)
   (λA R s=>s.heap.get? l=some {cls:=.type "tuple",dict:=dd,data:=.seq #[.str a1 t1,.str a2 t2] n,slots:=sl}∧s.heap.get? b=some {cls:=.type "tuple",dict:=dd2,data:=.seq #[.str b1 u1,.str b2 u2] n2,slots:=sl2}∧
    R (.ok (.ret (.bool (jQ (b1,b2) (a1,a2))))) s):=
 .of_wp λprog w A R s h=>by
  obtain⟨hp,g,d,tk,os⟩:=s;refine fP h λhl hb h=>?_
  have f2:=AutoSeq1.sub_tuple_tuple
  wp_walk using wpAny_loadPart' hl,wpAny_loadPart' hb,PyProof.Rows.eqBool_str (x:=a1) (y:=b1) (t:=t1) (u:=u1)
  cases e:(a1==b1)with
  |false=>
   have ne:a1≠b1:=by simpa using e
   have ne':b1≠a1:= λq=>ne q.symm
   unfold jQ at h
   wp_walk using wY (x:=a1) (y:=b1) (t:=t1) (u:=u1)
   refine al _ rfl ?_
   simpa[Cv,ne,ne']using h
  |true=>
   have ne:a1=b1:=by simpa using e
   subst ne
   unfold jQ at h
   wp_walk using PyProof.Rows.eqBool_str (x:=a2) (y:=b2) (t:=t2) (u:=u2)
   cases e2:(a2==b2)with
   |false=>
    wp_walk using wY (x:=a2) (y:=b2) (t:=t2) (u:=u2)
    refine al _ rfl ?_
    simpa[Cv]using h
   |true=>
    have ne:a2=b2:=by simpa using e2
    subst ne
    wp_walk
    refine al _ rfl ?_
    simpa[Cv,Builtin.Tuple.tupleCompareSizes,List.lt_irrefl]using h
theorem aW.pair{x:Nat}(r:aW c A F ρ σ s env)(hx:σ.H[x]?=some (.tuple [.str p.1,.str p.2])):∃t u e,s.heap.get? (ρ x)=some {cls:=.type "tuple",data:=.seq #[.str p.1 t,.str p.2 u] e}:=by
 refine aj (r.hr.at_ x _ hx) λob h1 h2=>?_
 refine ds h2 ?_;clear h2;intro its e z0 h3;subst z0
 refine mI (sL h3) λt u z0=>?_;subst z0
 exact wW t u e h1
theorem eU{x y:Nat}{q:Str×Str}(ht:jQ p q=t)(hk:1≤k)(hx:σ.H[x]?=some (.tuple [.str p.1,.str p.2]))(hy:σ.H[y]?=some (.tuple [.str q.1,.str q.2])):du c F k (compareOp .Lt) (.obj x) (.obj y) σ (.bool t) σ:= λA ρ s env Q E a b K r ha hb h=>by
 refine br λGz kz=>?_
 refine aO ha ?_;clear ha;intro _ z0;subst z0
 refine aO hb ?_;clear hb;intro _ z0;subst z0
 refine i7 (r.pair hx) λt1 u1 e1 g1=>?_
 refine i7 (r.pair hy) λt2 u2 e2 g2=>?_
 refine kz ?_
 show wpAny _ _ (richCompare .Lt _ _) Q E s
 refine richCompare_meets_room (op:=.Lt) (al _ g1 rfl) (al _ g2 rfl) PySem.F.slot_tuple_lt PySem.F.entry_tuple_lt (PySem.F.args_tuple_lt_2 _ _) (yw _ _ p.1 p.2 q.1 q.2 t1 u1 t2 u2 e1 e2 none none #[] #[]) ⟨g1,g2,?_⟩ K.units
 exact⟨(λx=>nomatch x),h ρ s _ r .refl (by subst ht;rfl)⟩
theorem gL{x y:Nat}{q:Str×Str}(ht:jQ q p=t)(hk:1≤k)(hx:σ.H[x]?=some (.tuple [.str p.1,.str p.2]))(hy:σ.H[y]?=some (.tuple [.str q.1,.str q.2])):du c F k (compareOp .Gt) (.obj x) (.obj y) σ (.bool t) σ:= λA ρ s env Q E a b K r ha hb h=>by
 refine br λGz kz=>?_
 refine aO ha ?_;clear ha;intro _ z0;subst z0
 refine aO hb ?_;clear hb;intro _ z0;subst z0
 refine i7 (r.pair hx) λt1 u1 e1 g1=>?_
 refine i7 (r.pair hy) λt2 u2 e2 g2=>?_
 refine kz ?_
 show wpAny _ _ (richCompare .Gt _ _) Q E s
 refine richCompare_meets_room (op:=.Gt) (al _ g1 rfl) (al _ g2 rfl) PySem.F.slot_tuple_gt PySem.F.entry_tuple_gt (PySem.F.args_tuple_gt_2 _ _) (xQ _ _ p.1 p.2 q.1 q.2 t1 u1 t2 u2 e1 e2 none none #[] #[]) ⟨g1,g2,?_⟩ K.units
 exact⟨(λx=>nomatch x),h ρ s _ r .refl (by subst ht;rfl)⟩
theorem jE{t u:Tok}:SeqAt.EqAt A s (.str x t) (.str y u) (x==y):= λprog w E Q h=>PyProof.Rows.eqBool_str h
theorem nJ{x y:Addr}{q:Str×Str}{t1 u1 t2 u2:Tok}{e1 e2:Nat}(hu:A.units<cLine)(g1:s.heap.get? x=some {cls:=.type "tuple",data:=.seq #[.str p.1 t1,.str p.2 u1] e1})(g2:s.heap.get? y=some {cls:=.type "tuple",data:=.seq #[.str q.1 t2,.str q.2 u2] e2}):SeqAt.RcAt A s (.ref x) (.ref y) (decide (p=q)):=by
 have z:=SeqAt.RcAt.tuples (A:=A) (s:=s) (e:= λj=>if j=0 then p.1==q.1 else p.2==q.2) (iN _ g1 rfl _ rfl) (iN _ g2 rfl _ rfl) hu (λj h1 h2=>by
  match j,h1 with
  |0,_=>exact jE
  |1,_=>exact jE)
 have e:((ZH (min (#[Value.str p.1 t1,Value.str p.2 u1]:Array Value).size (#[Value.str q.1 t2,Value.str q.2 u2]:Array Value).size)).all (λj=>if j=0 then p.1==q.1 else p.2==q.2)&&(#[Value.str p.1 t1,Value.str p.2 u1]:Array Value).size==(#[Value.str q.1 t2,Value.str q.2 u2]:Array Value).size)=decide (p=q):=by
  obtain⟨p1,p2⟩:=p
  obtain⟨q1,q2⟩:=q
  show(((p1==q1)&&((p2==q2)&&true))&&true)=_
  by_cases h1:p1=q1<;>by_cases h2:p2=q2<;>simp[h1,h2]
 rw[e]at z
 exact z
theorem my{x y:Nat}{q:Str×Str}(ht:decide (p=q)=t)(hx:σ.H[x]?=some (.tuple [.str p.1,.str p.2]))(hy:σ.H[y]?=some (.tuple [.str q.1,.str q.2])):du c F k (compareOp .Eq) (.obj x) (.obj y) σ (.bool t) σ:= λA ρ s env Q E a b K r ha hb h=>by
 refine br λGz kz=>?_
 refine aO ha ?_;clear ha;intro _ z0;subst z0
 refine aO hb ?_;clear hb;intro _ z0;subst z0
 refine i7 (r.pair hx) λt1 u1 e1 g1=>?_
 refine i7 (r.pair hy) λt2 u2 e2 g2=>?_
 refine kz ?_
 exact nJ K.units g1 g2 c.prog c.w E Q (h ρ s _ r .refl (by subst ht;rfl))
end
theorem kc{bs:List AV}{xs ys:List Value}(h:cF ρ n as xs)(g:cF ρ n bs ys):cF ρ n (as++bs) (xs++ys):=by
 induction h with
 |nil=>exact g
 |cons h _ ih=>exact .cons h ih
theorem aW.listO(r:aW c A F ρ σ s env)(hj:σ.H[j]?=some (.list vs)):∃its e,s.heap.get? (ρ j)=some {cls:=.type "list",data:=.seq ⟨its⟩ e}∧cF ρ σ.H.length vs its:=by
 refine aj (r.hr.at_ j _ hj) λob h1 h2=>?_
 refine ds h2 ?_;clear h2;intro its e z0 h3;subst z0
 exact cH its e h1 h3
theorem aW.updL{acc':List AV}{f:Array Value→Array Value}{e:Nat}{ho:s.heap.get? (ρ j)=some {cls:=.type "list",data:=.seq ⟨its⟩ e}}(r:aW c A F ρ σ s env)(hj:σ.H[j]?=some (.list acc))
  (hv:∃its',f ⟨its⟩=⟨its'⟩∧cF ρ σ.H.length acc' its'):aW c A F ρ ⟨σ.loc,σ.H.set j (.list acc')⟩ {s with heap:=s.heap.update (ρ j) (Obj.mapSeq f),toks:=tk} env∧aM c ρ σ.H.length (· =env.locals) s ρ (σ.H.set j (.list acc')).length {s with heap:=s.heap.update (ρ j) (Obj.mapSeq f),toks:=tk}:=by
 have jl:=aq hj
 refine aj hv λits' e1 e2=>?_
 have hg:=Zw (Obj.mapSeq f) ho rfl
 have oth:∀b o,s.heap.get? b=some o→b≠env.locals→b≠ρ j→(s.heap.update (ρ j) (Obj.mapSeq f)).get? b=some o:= λb o e _ hb=>(ZU _ _ (Ne.symm hb)).trans e
 exact r.upd (tk:=tk) (ao:=.list acc') jl hg (cH its' _ (by simp[Obj.mapSeq,e1];rfl) e2) oth (λm hm=>by
  refine dc hm λo es ep g1 g2=>?_
  exact bh o es ep ((ZU _ _ (r.ap j jl)).trans g1) g2)
theorem pV(hJ:σ.H[J]?=some (.list acc))(hj:σ.H[j]?=some (.list vs))(hz:acc.length<900)(hz':vs.length<900):cJ c F k (λxs=>call (.builtin "list.extend") xs) [.obj J,.obj j] σ .none ⟨σ.loc,σ.H.set J (.list (acc++vs))⟩:= λA ρ s env Q E xs K r hx q=>by
 cases hx with
 |cons h1 h2=>
  refine lL h2 λ_ h2=>?_
  refine br λGz kz=>?_
  refine aO h1 ?_;clear h1;intro _ z0;subst z0
  refine aO h2 ?_;clear h2;intro _ z0;subst z0
  refine ds (r.listO hJ) λits e ho hv=>?_
  refine ds (r.listO hj) λits2 e2 ho2 hv2=>?_
  have ln:=aI hv
  have ln2:=aI hv2
  refine aO (r.updL (ho:=ho) (f:= λx=>x++⟨its2⟩) (acc':=acc++vs) (tk:=s.toks) hJ (al (its++its2) (by simp) (kc hv hv2))) λr1 st1=>?_
  refine kz ?_
  refine call_meets PySem.F.slot_list_extend (al _ ho rfl) PySem.F.entry_list_extend (PySem.F.args_list_extend_2 _ _) (AutoSeq1.list_extend_list_list_0 (ρ J) ⟨its⟩ e (ρ j) ⟨its2⟩ e2 ?_ ?_ ?_) ⟨ho,ho2,?_⟩
  ·have:Builtin.List.listTooLong ((⟨its⟩:Array Value).size+(⟨its2⟩:Array Value).size)=false:=by
    unfold Builtin.List.listTooLong
    simp only[Ze]
    rw[ln,ln2]
    simp
    unfold sizeLine
    lia
   rw[this];simp
  ·show its.length≤sizeLine;unfold sizeLine;lia
  ·show its.length+its2.length≤sizeLine+1;unfold sizeLine;lia
  ·exact q ρ _ _ r1 st1 rfl
noncomputable def wZ:=d7 dP 4
noncomputable def E2:=jZ dP 4
theorem zV(P:Params):dz P 51 wZ E2:=by constructor<;>w_on
theorem FA(P:Params)(x y:Value)(S:Setting):peek (Kx P) S (bindArgs (dw P 51) ⟨[x,y],[]⟩)=some [(("expected":Str),x),(("actual":Str),y)]:=by w_on
noncomputable def cw:Fs:=⟨E2,[]⟩
theorem aA:cw.scope.kind=.function:=by w_on
theorem gX:cw.def:=by show cw.scope.names.lookup (".0":Str)=none;w_on
noncomputable def Gv:=d7 wZ 3
noncomputable def tC:=d7 Gv 0
noncomputable def IV:=sub Gv 0 2
noncomputable def Ic:=d7 tC 2
noncomputable def EV:=sub tC 2 1
noncomputable def Ir:=d7 EV 0
noncomputable def G9:=sub EV 0 1
noncomputable def cL(xs:List (Str×Str)):List (Str×Str)→List (Str×Str)×List (Str×Str):=
 xs.rec (λys=>([],ys)) λx xs f ys=>ys.rec (x::xs,[]) λy ys q=>if jQ x y then(x::(f (y::ys)).1,(f (y::ys)).2)else if jQ y x then(q.1,y::q.2)else f ys
noncomputable def uc(xs:List (Str×Str)):Prop:=∀i x y,xs[i]?=some x→xs[i+1]?=some y→y≠x
structure SS(l:List (Str×AV))(H:List AO)(jx jy M U:Nat)(ex ey ms us:List Nat)(xs ys xm xu:List (Str×Str))(i j:Nat):Prop where
 lx:l.lookup ("expected":Str)=some (.obj jx)
 ly:l.lookup ("actual":Str)=some (.obj jy)
 lm:l.lookup ("missing":Str)=some (.obj M)
 lu:l.lookup ("unexpected":Str)=some (.obj U)
 li:l.lookup ("i":Str)=some (.int i)
 lj:l.lookup ("j":Str)=some (.int j)
 hx:H[jx]?=some (.list (ex.map .obj))
 hy:H[jy]?=some (.list (ey.map .obj))
 hm:H[M]?=some (.list (ms.map .obj))
 hu:H[U]?=some (.list (us.map .obj))
 px:aN H ex xs
 py:aN H ey ys
 pm:aN H ms xm
 pu:aN H us xu
 d1:M≠U
 d2:jx≠M
 d3:jx≠U
 d4:jy≠M
 d5:jy≠U
 zx:ex.length≤64
 zy:ey.length≤64
 zm:ms.length≤i
 zu:us.length≤j
 zi:i≤ex.length
 zj:j≤ey.length
theorem aN.set{H:List AO}{js:List Nat}{ps:List (Str×Str)}{M:Nat}{vs:List AV}{o:AO}(h:aN H js ps)(hM:H[M]?=some (.list vs)):aN (H.set M o) js ps:=
 ⟨h.1,λi j p h1 h2=>by
  have z:=h.2 i j p h1 h2
  rw[zN (λq=>by subst q;rw[hM]at z;cases z)]
  exact z⟩
theorem aN.snoc{ps:List (Str×Str)}(h:aN H js ps)(hj:H[j]?=some (AO.tuple [.str p.1,.str p.2])):aN H (js++[j]) (ps++[p]):=by
 refine⟨by simp[h.1],λi j' p' h1 h2=>?_⟩
 by_cases hi:i<js.length
 ·rw[zL hi]at h1
  rw[zL (by rw[←h.1];exact hi)]at h2
  exact h.2 i j' p' h1 h2
 ·rw[zR (ZW hi)]at h1
  rw[zR (by rw[←h.1];exact ZW hi),←h.1]at h2
  cases q:i - js.length with
  |zero=>rw[q]at h1 h2;cases h1;cases h2;exact hj
  |succ n=>rw[q]at h1;simp at h1
theorem aN.append{ks:List Nat}{ps qs:List (Str×Str)}(h:aN H js ps)(g:aN H ks qs):aN H (js++ks) (ps++qs):=by
 refine⟨by simp[h.1,g.1],λi j' p' h1 h2=>?_⟩
 by_cases hi:i<js.length
 ·rw[zL hi]at h1
  rw[zL (by rw[←h.1];exact hi)]at h2
  exact h.2 i j' p' h1 h2
 ·rw[zR (ZW hi)]at h1
  rw[zR (by rw[←h.1];exact ZW hi),←h.1]at h2
  exact g.2 _ j' p' h1 h2
theorem aN.drop{H:List AO}{js:List Nat}{ps:List (Str×Str)}(h:aN H js ps)(n:Nat):aN H (js.drop n) (ps.drop n):=by
 refine⟨by simp[h.1],λi j' p' h1 h2=>?_⟩
 rw[Z1]at h1 h2
 exact h.2 _ j' p' h1 h2
theorem aN.keep{ps:List (Str×Str)}(h:aN H js ps)(k:∀(j:Nat)(a b:Str),H[j]?=some (AO.tuple [.str a,.str b])→H'[j]?=some (AO.tuple [.str a,.str b])):aN H' js ps:=
 ⟨h.1,λi j p h1 h2=>k j p.1 p.2 (h.2 i j p h1 h2)⟩
theorem gR{ex:List Nat}{xi:Nat}(h:ex[i]?=some xi):(ex.map AV.obj)[((i:Nat):Int).toNat]?=some (.obj xi):=by simp[h]
section
variable{M:Nat}{ex:List Nat}{xs:List (Str×Str)}
theorem SS.put(x:SS l H jx jy M U ex ey ms us xs ys xm xu i j){n:Str}{a:AV}(hn:n="e"∨n="a"):SS (aS n a l) H jx jy M U ex ey ms us xs ys xm xu i j:=by
 refine br λGz kz=>?_
 obtain⟨lx,ly,lm,lu,li,lj,r⟩:=x
 refine kz ?_
 rcases hn with rfl|rfl<;>exact⟨dQ lx,dQ ly,dQ lm,dQ lu,dQ li,dQ lj,‹_›,‹_›,‹_›,‹_›,‹_›,‹_›,‹_›,‹_›,‹_›,‹_›,‹_›,‹_›,‹_›,‹_›,‹_›,‹_›,‹_›,‹_›,‹_›⟩
theorem SS.inci(x:SS l H jx jy M U ex ey ms us xs ys xm xu i j)(h:i<ex.length):SS (aS "i" (.int (i+1:Nat)) l) H jx jy M U ex ey ms us xs ys xm xu (i+1) j:=by
 refine br λGz kz=>?_
 obtain⟨lx,ly,lm,lu,li,lj,a1,a2,a3,a4,a5,a6,a7,a8,a9,b1,b2,b3,b4,b5,b6,b7,b8,b9,b10⟩:=x
 refine kz ?_
 exact⟨dQ lx,dQ ly,dQ lm,dQ lu,ah _ _ _,dQ lj,a1,a2,a3,a4,a5,a6,a7,a8,a9,b1,b2,b3,b4,b5,b6,by lia,b8,h,b10⟩
theorem SS.incj(x:SS l H jx jy M U ex ey ms us xs ys xm xu i j)(h:j<ey.length):SS (aS "j" (.int (j+1:Nat)) l) H jx jy M U ex ey ms us xs ys xm xu i (j+1):=by
 refine br λGz kz=>?_
 obtain⟨lx,ly,lm,lu,li,lj,a1,a2,a3,a4,a5,a6,a7,a8,a9,b1,b2,b3,b4,b5,b6,b7,b8,b9,b10⟩:=x
 refine kz ?_
 exact⟨dQ lx,dQ ly,dQ lm,dQ lu,dQ li,ah _ _ _,a1,a2,a3,a4,a5,a6,a7,a8,a9,b1,b2,b3,b4,b5,b6,b7,by lia,b9,h⟩
theorem SS.appm(x:SS l H jx jy M U ex ey ms us xs ys xm xu i j)(hn:ex[i]?=some n)(hp:xs[i]?=some p):SS (aS "i" (.int (i+1:Nat)) l) (H.set M (.list (ms.map .obj++[.obj n]))) jx jy M U ex ey (ms++[n]) us xs ys (xm++[p]) xu (i+1) j:=by
 have ml:=aq x.hm
 have z:=x.px.2 i n p hn hp
 refine br λGz kz=>?_
 obtain⟨lx,ly,lm,lu,li,lj,a1,a2,a3,a4,a5,a6,a7,a8,a9,b1,b2,b3,b4,b5,b6,b7,b8,b9,b10⟩:=x
 refine kz ?_
 have ez:(H.set M (.list (ms.map .obj++[.obj n])))[n]?=some (AO.tuple [.str p.1,.str p.2]):=by rw[zN (λq=>by subst q;rw[a3]at z;cases z)];exact z
 exact⟨dQ lx,dQ ly,dQ lm,dQ lu,ah _ _ _,dQ lj,
  ak a1 b1,ak a2 b3,by rw[zT ml];simp,ak a4 (Ne.symm a9),a5.set a3,a6.set a3,(a7.set a3).snoc ez,a8.set a3,a9,b1,b2,b3,b4,b5,b6,by simp;lia,b8,(aq hn),b10⟩
theorem SS.appu(x:SS l H jx jy M U ex ey ms us xs ys xm xu i j)(hn:ey[j]?=some n)(hp:ys[j]?=some p):SS (aS "j" (.int (j+1:Nat)) l) (H.set U (.list (us.map .obj++[.obj n]))) jx jy M U ex ey ms (us++[n]) xs ys xm (xu++[p]) i (j+1):=by
 have ml:=aq x.hu
 have z:=x.py.2 j n p hn hp
 refine br λGz kz=>?_
 obtain⟨lx,ly,lm,lu,li,lj,a1,a2,a3,a4,a5,a6,a7,a8,a9,b1,b2,b3,b4,b5,b6,b7,b8,b9,b10⟩:=x
 refine kz ?_
 have ez:(H.set U (.list (us.map .obj++[.obj n])))[n]?=some (AO.tuple [.str p.1,.str p.2]):=by rw[zN (λq=>by subst q;rw[a4]at z;cases z)];exact z
 exact⟨dQ lx,dQ ly,dQ lm,dQ lu,dQ li,ah _ _ _,
  ak a1 b2,ak a2 b4,ak a3 a9,by rw[zT ml];simp,a5.set a4,a6.set a4,a7.set a4,(a8.set a4).snoc ez,a9,b1,b2,b3,b4,b5,b6,b7,by simp;lia,b9,(aq hn)⟩
end
theorem nA(i:Nat)(h:cF ρ n vs its):cF ρ n (vs.drop i) (slicePick ⟨its⟩ (some (i:Int)) none none).toList:=by
 rw[slicePick_from' ⟨its⟩ i]
 exact sh i h
theorem md:∀env:Env,env.scope=cw.scope→interactive env=false:= λenv he=>by
 unfold interactive
 rw[he]
 rfl
section
variable{M:Nat}{ex:List Nat}{xs:List (Str×Str)}
theorem bW.set{H:List AO}{M:Nat}{o:AO}:∀(y:Nat)(p:AO),y≠M→H[y]?=some p→(H.set M o)[y]?=some p:= λy p hy h=>ak h hy
theorem G7(G:c.Go)(x:SS l H jx jy M U ex ey ms us xs ys xm xu i j):∃H',dq c cw k IV ⟨l,H⟩ .brk ⟨l,H'⟩∧H'[M]?=some (.list ((ms++ex.drop i).map .obj))∧H'[U]?=some (.list ((us++ey.drop j).map .obj))∧aN H' (ms++ex.drop i) (xm++xs.drop i)∧aN H' (us++ey.drop j) (xu++ys.drop j)∧
  (∀(y:Nat)(o:AO),y≠M→y≠U→H[y]?=some o→H'[y]?=some o):=by
 have Ml:=aq x.hm
 have Ul:=aq x.hu
 refine br λGz kz=>?_
 refine bb (H++[AO.list ((ex.drop i).map .obj)]) λH1 e1=>?_
 have x1:bW H H1:=by rw[e1];exact bW.app
 have l1:H1.length=H.length+1:=by rw[e1];simp
 have s1:H1[H.length]?=some (.list ((ex.drop i).map .obj)):=by rw[e1,zR (ZA _),ZY];rfl
 refine bb (H1.set M (.list (ms.map .obj++(ex.drop i).map .obj))) λH2 e2=>?_
 have k2:∀(y:Nat)(o:AO),y≠M→H1[y]?=some o→H2[y]?=some o:=by rw[e2];exact bW.set
 have l2:H2.length=H.length+1:=by rw[e2];simp[l1]
 refine bb (H2++[AO.list ((ey.drop j).map .obj)]) λH3 e3=>?_
 have x3:bW H2 H3:=by rw[e3];exact bW.app
 have s3:H3[H2.length]?=some (.list ((ey.drop j).map .obj)):=by rw[e3,zR (ZA _),ZY];rfl
 refine bb (H3.set U (.list (us.map .obj++(ey.drop j).map .obj))) λH4 e4=>?_
 refine kz ?_
 have k4:∀(y:Nat)(o:AO),y≠U→H3[y]?=some o→H4[y]?=some o:=by rw[e4];exact bW.set
 have hM1:=x1 _ _ x.hm
 have hU1:=x1 _ _ x.hu
 have hM2:H2[M]?=some (.list (ms.map .obj++(ex.drop i).map .obj)):=by rw[e2];exact zT (by lia)
 have hU2:=k2 _ _ (Ne.symm x.d1) hU1
 have hy2:=k2 _ _ x.d4 (x1 _ _ x.hy)
 have hU3:=x3 _ _ hU2
 have kk:∀(y:Nat)(o:AO),y≠M→y≠U→H[y]?=some o→H4[y]?=some o:= λy o h1 h2 h=>k4 y o h2 (x3 _ _ (k2 y o h1 (x1 _ _ h)))
 have kp:∀(j:Nat)(a b:Str),H[j]?=some (AO.tuple [.str a,.str b])→H4[j]?=some (AO.tuple [.str a,.str b]):= λj a b h=>kk j _ (λq=>by subst q;rw[x.hm]at h;cases h) (λq=>by subst q;rw[x.hu]at h;cases h) h
 refine⟨H4,?_,?_,?_,?_,?_,kk⟩
 ·have a1:∀{p3 p4 p5 p6:Pos},Ev c cw k (.Subscript (.Name "expected" p3) (.Slice (some (.Name "i" p4)) none none p5) p6) ⟨l,H⟩ (.obj H.length) ⟨l,H1⟩:= λ{p3 p4 p5 p6}=>by
   have z:=fF (c:=c) (F:=cw) (k:=k) (σ:=⟨l,H⟩) (σ₁:=⟨l,H⟩) (σ₂:=⟨l,H⟩) (σ₃:=⟨l,H⟩) (σ₄:=⟨l,H⟩) (value:=.Name "expected" p3) (lower:=some (.Name "i" p4)) (upper:=none) (step:=none) (p:=p5) (pos:=p6) (j:=jx) (vs:=ex.map .obj) (l:=some (i:Int)) (u:=none) (t:=none) (v':=(ex.drop i).map .obj) (by simp;have:=x.zx;lia) (by simp) (λ_ _=>⟨_,rfl⟩) (aa aA rfl x.lx) (e9 (aa aA rfl x.li)) dm dm x.hx (λρ n its h=>by rw[List.map_drop];exact nA i h)
   rw[e1];exact z
  have a2:∀{p3 p4 p5 p6:Pos},Ev c cw k (.Subscript (.Name "actual" p3) (.Slice (some (.Name "j" p4)) none none p5) p6) ⟨l,H2⟩ (.obj H2.length) ⟨l,H3⟩:= λ{p3 p4 p5 p6}=>by
   have z:=fF (c:=c) (F:=cw) (k:=k) (σ:=⟨l,H2⟩) (σ₁:=⟨l,H2⟩) (σ₂:=⟨l,H2⟩) (σ₃:=⟨l,H2⟩) (σ₄:=⟨l,H2⟩) (value:=.Name "actual" p3) (lower:=some (.Name "j" p4)) (upper:=none) (step:=none) (p:=p5) (pos:=p6) (j:=jy) (vs:=ey.map .obj) (l:=some (j:Int)) (u:=none) (t:=none) (v':=(ey.drop j).map .obj) (by simp;have:=x.zy;lia) (by simp) (λ_ _=>⟨_,rfl⟩) (aa aA rfl x.ly) (e9 (aa aA rfl x.lj)) dm dm hy2 (λρ n its h=>by rw[List.map_drop];exact nA j h)
   rw[e3];exact z
  have o1:cJ c cw k (λxs=>call (.builtin "list.extend") xs) [.obj M,.obj H.length] ⟨l,H1⟩ .none ⟨l,H2⟩:=by
   have z:=pV (c:=c) (F:=cw) (k:=k) (σ:=⟨l,H1⟩) (J:=M) (j:=H.length) hM1 s1 (by have:=x.zm;have:=x.zi;have:=x.zx;simp;lia) (by have:=x.zx;simp;lia)
   rw[e2];exact z
  have o2:cJ c cw k (λxs=>call (.builtin "list.extend") xs) [.obj U,.obj H2.length] ⟨l,H3⟩ .none ⟨l,H4⟩:=by
   have z:=pV (c:=c) (F:=cw) (k:=k) (σ:=⟨l,H3⟩) (J:=U) (j:=H2.length) hU3 s3 (by have:=x.zu;have:=x.zj;have:=x.zy;simp;lia) (by have:=x.zy;simp;lia)
   rw[e4];exact z
  k_dflt refine' ae (σ₁:=⟨l,H2⟩) (ck (F:=cw) (v:=.none) md (λ_=>rfl) ?_) (ae (σ₁:=⟨l,H4⟩) (ck (F:=cw) (v:=.none) md (λ_=>rfl) ?_) (gT gZ))
  ·exact d6 (λ_=>rfl) (aa aA rfl x.lm) (dk PySem.F.slot_list_extend PySem.F.type_list_extend x.hm) (af λ_=>rfl) (am (λ_=>rfl) a1 au) o1
  ·exact d6 (λ_=>rfl) (aa aA rfl x.lu) (dk PySem.F.slot_list_extend PySem.F.type_list_extend hU2) (af λ_=>rfl) (am (λ_=>rfl) a2 au) o2
 ·rw[Zu];exact k4 _ _ x.d1 (x3 _ _ hM2)
 ·rw[Zu,e4];exact zT (by rw[e3];simp;lia)
 ·exact(x.pm.append (x.px.drop i)).keep kp
 ·exact(x.pu.append (x.py.drop j)).keep kp
end
section
variable{M:Nat}{ex:List Nat}{xs:List (Str×Str)}{q:Str×Str}
theorem FN(x:SS l H jx jy M U ex ey ms us xs ys xm xu i j)(he:l.lookup ("e":Str)=some (.obj n))(hn:H[n]?=some (.tuple [.str p.1,.str p.2]))(hi:ex[i]?=some m)(hq:xs[i]?=some q)(ne:q≠p):
  Te c cw k (.Compare (.Subscript (.Name "expected" p1) (.Name "i" p2) p3) [.Eq] [.Name "e" p4] p5) ⟨l,H⟩ false ⟨l,H⟩:=
 av rfl (cW (by lia) (by have:=x.zi;have:=x.zx;lia) (λ_ _=>rfl) (λ_ _=>rfl) (aa aA rfl x.lx) (aa aA rfl x.li) x.hx (gR hi)) (aa aA rfl he) (my (by simpa using ne) (x.px.2 i m q hi hq) hn)
theorem Bp(O:c.Ok)(x:SS l H jx jy M U ex ey ms us xs ys xm xu i j)(hi:i=ex.length):
  fw c cw k hm (!hm) (λenv=>isTrue (.Compare (.Subscript (.Name "expected" p1) (.Name "i" p2) p3) [.Eq] [.Name "e" p4] p5) env (eval (.Compare (.Subscript (.Name "expected" p1) (.Name "i" p2) p3) [.Eq] [.Name "e" p4] p5) env)) ⟨l,H⟩ "IndexError" ⟨l,H⟩:=
 wv rfl (iX O (by simp;lia) (by have:=x.zx;lia) (λ_ _=>rfl) (aa aA rfl x.lx) (aa aA rfl x.li) x.hx)
theorem F5(x:SS l H jx jy M U ex ey ms us xs ys xm xu i j)(he:l.lookup ("a":Str)=some (.obj n))(hn:H[n]?=some (.tuple [.str p.1,.str p.2]))(hi:ey[j]?=some m)(hq:ys[j]?=some q)(ne:q≠p):
  Te c cw k (.Compare (.Subscript (.Name "actual" p1) (.Name "j" p2) p3) [.Eq] [.Name "a" p4] p5) ⟨l,H⟩ false ⟨l,H⟩:=
 av rfl (cW (by lia) (by have:=x.zj;have:=x.zy;lia) (λ_ _=>rfl) (λ_ _=>rfl) (aa aA rfl x.ly) (aa aA rfl x.lj) x.hy (gR hi)) (aa aA rfl he) (my (by simpa using ne) (x.py.2 j m q hi hq) hn)
theorem BR(O:c.Ok)(x:SS l H jx jy M U ex ey ms us xs ys xm xu i j)(hi:j=ey.length):
  fw c cw k hm (!hm) (λenv=>isTrue (.Compare (.Subscript (.Name "actual" p1) (.Name "j" p2) p3) [.Eq] [.Name "a" p4] p5) env (eval (.Compare (.Subscript (.Name "actual" p1) (.Name "j" p2) p3) [.Eq] [.Name "a" p4] p5) env)) ⟨l,H⟩ "IndexError" ⟨l,H⟩:=
 wv rfl (iX O (by simp;lia) (by have:=x.zy;lia) (λ_ _=>rfl) (aa aA rfl x.ly) (aa aA rfl x.lj) x.hy)
theorem Hl{q:Nat}(x:SS l H jx jy M U ex ey ms us xs ys xm xu i j):Ex c cw k (.AugAssign (.Name "i" p1) .Add (.Constant (.int 1) q p2) p3) ⟨l,H⟩ .next ⟨aS "i" (.int (i+1:Nat)) l,H⟩:=by
 have z:=nR (c:=c) (F:=cw) (k:=k) (x:="i") (pos':=p1) (pos:=p3) (σ:=⟨l,H⟩) (σ₁:=⟨l,H⟩) (σ₂:=⟨l,H⟩) (e:=.Constant (.int 1) q p2) (op:=.Add) aA rfl (by decide) x.li aJ eW
 exact z
theorem IG{q:Nat}(x:SS l H jx jy M U ex ey ms us xs ys xm xu i j):Ex c cw k (.AugAssign (.Name "j" p1) .Add (.Constant (.int 1) q p2) p3) ⟨l,H⟩ .next ⟨aS "j" (.int (j+1:Nat)) l,H⟩:=by
 have z:=nR (c:=c) (F:=cw) (k:=k) (x:="j") (pos':=p1) (pos:=p3) (σ:=⟨l,H⟩) (σ₁:=⟨l,H⟩) (σ₂:=⟨l,H⟩) (e:=.Constant (.int 1) q p2) (op:=.Add) aA rfl (by decide) x.lj aJ eW
 exact z
noncomputable def n9(c:Cx)(k:Nat)(body:List Stmt)(σ σ':St)(go:Bool):Prop:=match go with
 |true=>dq c cw k body σ .next σ'
 |false=>∃cx,fw c cw k false cx (execs body) σ "IndexError" σ'
theorem Ge(hz:c.rz=true)(G:c.Go)(x:SS l H jx jy M U ex ey ms us xs ys xm xu i j)(ax:uc xs)(hlen:ex.length=xs.length)(he:l.lookup ("e":Str)=some (.obj n))(hn:ex[i]?=some n)(hp:xs[i]?=some p):
  n9 c k Ic ⟨l,H⟩ ⟨aS "i" (.int (i+1:Nat)) l,H.set M (.list (ms.map .obj++[.obj n]))⟩ (decide (i+1<ex.length)):=by
 have x':=x.appm hn hp
 have tn:=x'.px.2 i n p hn hp
 have il:=aq hn
 have he':(aS ("i":Str) (.int (i+1:Nat)) l).lookup ("e":Str)=some (.obj n):=dQ he
 have xi:SS (aS "i" (.int (i+1:Nat)) l) (H.set M (.list (ms.map .obj++[.obj n]))) jx jy M U ex ey (ms++[n]) us xs ys (xm++[p]) xu (i+1) j:=x'
 have o1:cJ c cw k (λxs=>call (.builtin "list.append") xs) [.obj M,.obj n] ⟨l,H⟩ .none ⟨l,H.set M (.list (ms.map .obj++[.obj n]))⟩:=eN (σ:=⟨l,H⟩) x.hm (by have:=x.zm;have:=x.zi;have:=x.zx;simp;lia)
 have s2:∀{p1 p2 p3:Pos}{q:Nat},Ex c cw k (.AugAssign (.Name "i" p1) .Add (.Constant (.int 1) q p2) p3) ⟨l,H.set M (.list (ms.map .obj++[.obj n]))⟩ .next ⟨aS "i" (.int (i+1:Nat)) l,H.set M (.list (ms.map .obj++[.obj n]))⟩:= λ{p1 p2 p3 q}=>by
  have z:=nR (c:=c) (F:=cw) (k:=k) (x:="i") (pos':=p1) (pos:=p3) (σ:=⟨l,H.set M (.list (ms.map .obj++[.obj n]))⟩) (σ₁:=⟨l,H.set M (.list (ms.map .obj++[.obj n]))⟩) (σ₂:=⟨l,H.set M (.list (ms.map .obj++[.obj n]))⟩) (e:=.Constant (.int 1) q p2) (op:=.Add) aA rfl (by decide) x.li aJ eW
  exact z
 by_cases hi:i+1<ex.length
 ·rw[decide_eq_true hi]
  have h1:ex[i+1]?=some ex[i+1]:=zG hi
  have h2:xs[i+1]?=some (xs[i+1]'(by lia)):=zG _
  have ne:=ax i p _ hp h2
  k_dflt refine' ae (σ₁:=⟨l,H.set M (.list (ms.map .obj++[.obj n]))⟩) (ck (F:=cw) (v:=.none) md (λ_=>rfl) ?_) (ae s2 (ae (cO (ig (FN xi he' tn h1 h2 ne) ar)) ar))
  exact d6 (λ_=>rfl) (aa aA rfl x.lm) (dk slot_list_append type_list_append x.hm) (af λ_=>rfl) (am (λ_=>rfl) (aa aA rfl he) au) o1
 ·rw[decide_eq_false hi]
  refine⟨!false,?_⟩
  k_dflt refine' bM (σ₁:=⟨l,H.set M (.list (ms.map .obj++[.obj n]))⟩) G.ok (ck (F:=cw) (v:=.none) md (λ_=>rfl) ?_) (bM G.ok s2 (bN (gg hz (hY hz gX (Bp G.ok xi (by lia))))))
  exact d6 (λ_=>rfl) (aa aA rfl x.lm) (dk slot_list_append type_list_append x.hm) (af λ_=>rfl) (am (λ_=>rfl) (aa aA rfl he) au) o1
theorem Fy(hz:c.rz=true)(G:c.Go)(x:SS l H jx jy M U ex ey ms us xs ys xm xu i j)(ax:uc ys)(hlen:ey.length=ys.length)(he:l.lookup ("a":Str)=some (.obj n))(hn:ey[j]?=some n)(hp:ys[j]?=some p):
  n9 c k Ir ⟨l,H⟩ ⟨aS "j" (.int (j+1:Nat)) l,H.set U (.list (us.map .obj++[.obj n]))⟩ (decide (j+1<ey.length)):=by
 have x':=x.appu hn hp
 have tn:=x'.py.2 j n p hn hp
 have il:=aq hn
 have he':(aS ("j":Str) (.int (j+1:Nat)) l).lookup ("a":Str)=some (.obj n):=dQ he
 have o1:cJ c cw k (λxs=>call (.builtin "list.append") xs) [.obj U,.obj n] ⟨l,H⟩ .none ⟨l,H.set U (.list (us.map .obj++[.obj n]))⟩:=eN (σ:=⟨l,H⟩) x.hu (by have:=x.zu;have:=x.zj;have:=x.zy;simp;lia)
 have s2:∀{p1 p2 p3:Pos}{q:Nat},Ex c cw k (.AugAssign (.Name "j" p1) .Add (.Constant (.int 1) q p2) p3) ⟨l,H.set U (.list (us.map .obj++[.obj n]))⟩ .next ⟨aS "j" (.int (j+1:Nat)) l,H.set U (.list (us.map .obj++[.obj n]))⟩:= λ{p1 p2 p3 q}=>by
  have z:=nR (c:=c) (F:=cw) (k:=k) (x:="j") (pos':=p1) (pos:=p3) (σ:=⟨l,H.set U (.list (us.map .obj++[.obj n]))⟩) (σ₁:=⟨l,H.set U (.list (us.map .obj++[.obj n]))⟩) (σ₂:=⟨l,H.set U (.list (us.map .obj++[.obj n]))⟩) (e:=.Constant (.int 1) q p2) (op:=.Add) aA rfl (by decide) x.lj aJ eW
  exact z
 by_cases hi:j+1<ey.length
 ·rw[decide_eq_true hi]
  have h1:ey[j+1]?=some ey[j+1]:=zG hi
  have h2:ys[j+1]?=some (ys[j+1]'(by lia)):=zG _
  have ne:=ax j p _ hp h2
  k_dflt refine' ae (σ₁:=⟨l,H.set U (.list (us.map .obj++[.obj n]))⟩) (ck (F:=cw) (v:=.none) md (λ_=>rfl) ?_) (ae s2 (ae (cO (ig (F5 x' he' tn h1 h2 ne) ar)) ar))
  exact d6 (λ_=>rfl) (aa aA rfl x.lu) (dk slot_list_append type_list_append x.hu) (af λ_=>rfl) (am (λ_=>rfl) (aa aA rfl he) au) o1
 ·rw[decide_eq_false hi]
  refine⟨!false,?_⟩
  k_dflt refine' bM (σ₁:=⟨l,H.set U (.list (us.map .obj++[.obj n]))⟩) G.ok (ck (F:=cw) (v:=.none) md (λ_=>rfl) ?_) (bM G.ok s2 (bN (gg hz (hY hz gX (BR G.ok x' (by lia))))))
  exact d6 (λ_=>rfl) (aa aA rfl x.lu) (dk slot_list_append type_list_append x.hu) (af λ_=>rfl) (am (λ_=>rfl) (aa aA rfl he) au) o1
theorem FE(hz:c.rz=true)(G:c.Go)(hk:50≤k)(x:SS l H jx jy M U ex ey ms us xs ys xm xu i j)(ax:uc xs)(ay:uc ys)(hlx:ex.length=xs.length)(hly:ey.length=ys.length)(he:l.lookup ("e":Str)=some (.obj n))(ha:l.lookup ("a":Str)=some (.obj m))(hn:ex[i]?=some n)(hm':ey[j]?=some m)(hp:xs[i]?=some p)(hq:ys[j]?=some q):
  n9 c k G9 ⟨l,H⟩ ⟨aS "j" (.int (j+1:Nat)) (aS "i" (.int (i+1:Nat)) l),H⟩ (decide (i+1<ex.length)&&decide (j+1<ey.length)):=by
 have il:=aq hn
 have jl:=aq hm'
 have x1:=x.inci il
 have x2:=x1.incj jl
 have tn:=x.px.2 i n p hn hp
 have tm:=x.py.2 j m q hm' hq
 have he1:(aS ("i":Str) (.int (i+1:Nat)) l).lookup ("e":Str)=some (.obj n):=dQ he
 have ha2:(aS ("j":Str) (.int (j+1:Nat)) (aS "i" (.int (i+1:Nat)) l)).lookup ("a":Str)=some (.obj m):=dQ (dQ ha)
 refine bb (aS ("i":Str) (.int ((i+1:Nat):Int)) l) λl1 el1=>?_
 refine bb (aS ("j":Str) (.int ((j+1:Nat):Int)) l1) λl2 el2=>?_
 have s1:∀{p1 p2 p3:Pos}{q:Nat},Ex c cw k (.AugAssign (.Name "i" p1) .Add (.Constant (.int 1) q p2) p3) ⟨l,H⟩ .next ⟨l1,H⟩:= λ{p1 p2 p3 q}=>by rw[el1];exact Hl x
 have s2:∀{k:Nat}{p1 p2 p3:Pos}{q:Nat},Ex c cw k (.AugAssign (.Name "j" p1) .Add (.Constant (.int 1) q p2) p3) ⟨l1,H⟩ .next ⟨l2,H⟩:= λ{k p1 p2 p3 q}=>by rw[el2,el1];exact IG x1
 rw[←el1]at x1 x2 he1 ha2 ⊢
 rw[←el2]at x2 ha2 ⊢
 by_cases hi:i+1<ex.length
 ·have h1:ex[i+1]?=some ex[i+1]:=zG hi
  have h2:xs[i+1]?=some (xs[i+1]'(by lia)):=zG _
  have ne:=ax i p _ hp h2
  by_cases hj:j+1<ey.length
  ·rw[decide_eq_true hi,decide_eq_true hj]
   have g1:ey[j+1]?=some ey[j+1]:=zG hj
   have g2:ys[j+1]?=some (ys[j+1]'(by lia)):=zG _
   have ne':=ay j q _ hq g2
   k_dflt refine' ae s1 (ae (Fo (ae (cO (ig (FN x1 he1 tn h1 h2 ne) ar)) ar) (ae s2 (ae (cO (ig (F5 x2 ha2 tm g1 g2 ne') ar)) ar))) ar)
  ·rw[decide_eq_true hi,decide_eq_false hj]
   refine⟨!false,?_⟩
   k_dflt refine' bM G.ok s1 (bN (yA hz G.ok gX (ae (cO (ig (FN x1 he1 tn h1 h2 ne) ar)) ar) (bM G.ok s2 (bN (gg hz (hY hz gX (BR G.ok x2 (by lia))))))))
 ·by_cases hj:j+1<ey.length
  ·rw[decide_eq_false hi,decide_eq_true hj]
   have g1:ey[j+1]?=some ey[j+1]:=zG hj
   have g2:ys[j+1]?=some (ys[j+1]'(by lia)):=zG _
   have ne':=ay j q _ hq g2
   refine⟨!false,?_⟩
   k_dflt refine' bM G.ok s1 (bN (xN (k':=50) hk (by decide) hz G.ok gX (bN (gg hz (hY hz gX (Bp G.ok x1 (by lia))))) (ae s2 (ae (cO (ig (F5 x2 ha2 tm g1 g2 ne') ar)) ar))))
  ·rw[decide_eq_false hi,decide_eq_false hj]
   refine⟨!true,?_⟩
   k_dflt refine' bM G.ok s1 (bN (uN (k':=50) hk (by decide) hz G.ok gX (bN (gg hz (hY hz gX (Bp G.ok x1 (by lia))))) (bM G.ok s2 (bN (gg hz (hY hz gX (BR G.ok x2 (by lia))))))))
end
theorem pZ(P:Params):nsIn (Kx P) mainGlobals ("IndexError":Str)=some none:=by w_on
theorem oN:bootBuiltins ("IndexError":Str)=some (.type "IndexError"):=PyProof.Rows.Boot.IndexError
theorem dI{xs:List (Str×Str)}(h:xs=[]∨ys=[]):cL xs ys=(xs,ys):=by
 cases h with
 |inl h=>subst h;rfl
 |inr h=>subst h;cases xs<;>rfl
theorem rb{x y:Str×Str}{xs:List (Str×Str)}(h:jQ x y=true):cL (x::xs) (y::ys)=(x::(cL xs (y::ys)).1,(cL xs (y::ys)).2):=if_pos h
theorem ql{x y:Str×Str}{xs:List (Str×Str)}(h:jQ x y=false)(h2:jQ y x=true):cL (x::xs) (y::ys)=((cL (x::xs) ys).1,y::(cL (x::xs) ys).2):=(if_neg (ne_true_of_eq_false h)).trans (if_pos h2)
theorem qK{x y:Str×Str}{xs:List (Str×Str)}(h:jQ x y=false)(h2:jQ y x=false):cL (x::xs) (y::ys)=cL xs ys:=(if_neg (ne_true_of_eq_false h)).trans (if_neg (ne_true_of_eq_false h2))
section
variable{M:Nat}{ex:List Nat}{xs:List (Str×Str)}{q:Str×Str}
noncomputable def ju(c:Cx)(k:Nat)(l:List (Str×AV))(H:List AO)(M U:Nat)(xm xu rx ry:List (Str×Str)):Prop:=
 ∃l' H' ms' us',Wh c cw k (vD wZ 3) Gv [] ⟨l,H⟩ .next ⟨l',H'⟩∧l'.lookup ("missing":Str)=some (.obj M)∧l'.lookup ("unexpected":Str)=some (.obj U)∧H'[M]?=some (AO.list (ms'.map .obj))∧H'[U]?=some (AO.list (us'.map .obj))∧
  aN H' ms' (xm++(cL rx ry).1)∧aN H' us' (xu++(cL rx ry).2)∧∀(y:Nat)(o:AO),y≠M→y≠U→H[y]?=some o→H'[y]?=some o
theorem tD:Te c cw k (vD wZ 3) σ true σ:=by
 k_dflt refine' bP (λ_ _=>rfl) gJ bG
theorem iD(hz:c.rz=true)(G:c.Go)(hk:100≤k){l1:List (Str×AV)}{xm1 xu1:List (Str×Str)}{ms1 us1:List Nat}{i1:Nat}(h:∃cx,fw c cw k false cx (execs tC) ⟨l,H⟩ "IndexError" ⟨l1,H1⟩)(x:SS l1 H1 jx jy M U ex ey ms1 us1 xs ys xm1 xu1 i1 j1)
  (kp:∀(y:Nat)(o:AO),y≠M→y≠U→H[y]?=some o→H1[y]?=some o){rx ry:List (Str×Str)}(e1:xm1++xs.drop i1=xm++(cL rx ry).1)(e2:xu1++ys.drop j1=xu++(cL rx ry).2):ju c k l H M U xm xu rx ry:=by
 refine br λGz kz=>?_
 refine bp h λcx h=>?_
 obtain⟨H',h1,h2,h3,h4,h5,h6⟩:=G7 (k:=50) G x
 refine kz ?_
 refine jW l1 H' _ _ ?_ x.lm x.lu h2 h3 (e1▸h4) (e2▸h5) λy o a b c=>h6 y o a b (kp y o a b c)
 refine me tD ?_
 k_dflt refine' gT (pE (k':=50) (T':="IndexError") (by lia) (by decide) hk hz G.ok gX (dg G aA rfl (pZ _) oN) PySem.F.isExc_IndexError PySem.F.notTuple_IndexError PySem.F.self_IndexError h h1)
theorem zv(h:dq c cw k tC ⟨l,H⟩ .next ⟨l1,H1⟩)(kp:∀(y:Nat)(o:AO),y≠M→y≠U→H[y]?=some o→H1[y]?=some o){xm1 xu1 rx ry rx1 ry1:List (Str×Str)}(d:ju c k l1 H1 M U xm1 xu1 rx1 ry1)
  (e1:xm1++(cL rx1 ry1).1=xm++(cL rx ry).1)(e2:xu1++(cL rx1 ry1).2=xu++(cL rx ry).2):ju c k l H M U xm xu rx ry:=by
 refine br λGz kz=>?_
 obtain⟨l',H',ms',us',h1,h2,h3,h4,h5,h6,h7,h8⟩:=d
 refine kz ?_
 refine jW l' H' ms' us' ?_ h2 h3 h4 h5 (e1▸h6) (e2▸h7) λy o a b c=>h8 y o a b (kp y o a b c)
 refine jA (.inl rfl) tD ?_ h1
 k_dflt refine' ae (y5 h) ar
theorem mn(hz:c.rz=true)(G:c.Go)(hk:100≤k){l1:List (Str×AV)}{xm1 xu1:List (Str×Str)}{ms1 us1:List Nat}{i1:Nat}{go:Bool}(h:n9 c k tC ⟨l,H⟩ ⟨l1,H1⟩ go)(x:SS l1 H1 jx jy M U ex ey ms1 us1 xs ys xm1 xu1 i1 j1)
  (kp:∀(y:Nat)(o:AO),y≠M→y≠U→H[y]?=some o→H1[y]?=some o){rx ry:List (Str×Str)}(hs:go=false→xs.drop i1=[]∨ys.drop j1=[])(d:go=true→ju c k l1 H1 M U xm1 xu1 (xs.drop i1) (ys.drop j1))
  (e1:xm1++(cL (xs.drop i1) (ys.drop j1)).1=xm++(cL rx ry).1)(e2:xu1++(cL (xs.drop i1) (ys.drop j1)).2=xu++(cL rx ry).2):ju c k l H M U xm xu rx ry:=by
 cases go with
 |true=>exact zv h kp (d rfl) e1 e2
 |false=>
  rw[dI (hs rfl)]at e1 e2
  exact iD hz G hk h x kp e1 e2
end
section
variable{M:Nat}{ex:List Nat}{xs:List (Str×Str)}{q:Str×Str}
theorem IM(x:SS l H jx jy M U ex ey ms us xs ys xm xu i j)(hn:ex[i]?=some n):Ex c cw k (.Assign [.Name "e" p1] (.Subscript (.Name "expected" p2) (.Name "i" p3) p4) p5) ⟨l,H⟩ .next ⟨aS "e" (.obj n) l,H⟩:=
 aw (σ₁:=⟨l,H⟩) aA rfl (λ_=>rfl) (cW (by lia) (by have:=x.zi;have:=x.zx;lia) (λ_ _=>rfl) (λ_ _=>rfl) (aa aA rfl x.lx) (aa aA rfl x.li) x.hx (gR hn))
theorem I6(x:SS l H jx jy M U ex ey ms us xs ys xm xu i j)(hn:ey[j]?=some n):Ex c cw k (.Assign [.Name "a" p1] (.Subscript (.Name "actual" p2) (.Name "j" p3) p4) p5) ⟨l,H⟩ .next ⟨aS "a" (.obj n) l,H⟩:=
 aw (σ₁:=⟨l,H⟩) aA rfl (λ_=>rfl) (cW (by lia) (by have:=x.zj;have:=x.zy;lia) (λ_ _=>rfl) (λ_ _=>rfl) (aa aA rfl x.ly) (aa aA rfl x.lj) x.hy (gR hn))
theorem GO(hz:c.rz=true)(G:c.Go)(hk:100≤k)(ax:uc xs)(ay:uc ys):∀(N:Nat){l:List (Str×AV)}{H:List AO}{ms us:List Nat}{xm xu:List (Str×Str)}{i j:Nat},SS l H jx jy M U ex ey ms us xs ys xm xu i j→(xs.length - i)+(ys.length - j)≤N→ju c k l H M U xm xu (xs.drop i) (ys.drop j):=by
 intro N
 induction N with
 |zero=>
  intro l H ms us xm xu i j x hN
  have hlx:=x.px.1
  have hi:i=ex.length:=by have:=x.zi;lia
  have ed:xs.drop i=[]:=ZL.mpr (by lia)
  refine iD (rx:=xs.drop i) (ry:=ys.drop j) hz G hk ⟨!false,?_⟩ x (λ_ _ _ _ h=>h) (by rw[dI (.inl ed)]) (by rw[dI (.inl ed)])
  k_dflt refine' bN (iE (λ_=>rfl) (iX G.ok (by simp;lia) (by have:=x.zx;lia) (λ_ _=>rfl) (aa aA rfl x.lx) (aa aA rfl x.li) x.hx))
 |succ N ih=>
  intro l H ms us xm xu i j x hN
  have hlx:=x.px.1
  have hly:=x.py.1
  by_cases hi:i=ex.length
  ·have ed:xs.drop i=[]:=ZL.mpr (by lia)
   refine iD (rx:=xs.drop i) (ry:=ys.drop j) hz G hk ⟨!false,?_⟩ x (λ_ _ _ _ h=>h) (by rw[dI (.inl ed)]) (by rw[dI (.inl ed)])
   k_dflt refine' bN (iE (λ_=>rfl) (iX G.ok (by simp;lia) (by have:=x.zx;lia) (λ_ _=>rfl) (aa aA rfl x.lx) (aa aA rfl x.li) x.hx))
  ·have il:i<ex.length:=by have:=x.zi;lia
   have hn:ex[i]?=some ex[i]:=zG il
   have hp:xs[i]?=some (xs[i]'(by lia)):=zG _
   generalize ex[i]=n at hn
   generalize xs[i]'(by lia)=p at hp
   have x1:=x.put (n:="e") (a:=.obj n) (.inl rfl)
   by_cases hj:j=ey.length
   ·have ed:ys.drop j=[]:=ZL.mpr (by lia)
    refine iD (rx:=xs.drop i) (ry:=ys.drop j) hz G hk ⟨!false,?_⟩ x1 (λ_ _ _ _ h=>h) (by rw[dI (.inr ed)]) (by rw[dI (.inr ed)])
    k_dflt refine' bM G.ok (IM x hn) (bN (iE (λ_=>rfl) (iX G.ok (by simp;lia) (by have:=x.zy;lia) (λ_ _=>rfl) (aa aA rfl x1.ly) (aa aA rfl x1.lj) x1.hy)))
   ·have jl:j<ey.length:=by have:=x.zj;lia
    have hm:ey[j]?=some ey[j]:=zG jl
    have hq:ys[j]?=some (ys[j]'(by lia)):=zG _
    generalize ey[j]=m at hm
    generalize ys[j]'(by lia)=q at hq
    have x2:=x1.put (n:="a") (a:=.obj m) (.inr rfl)
    have he2:(aS ("a":Str) (AV.obj m) (aS "e" (.obj n) l)).lookup ("e":Str)=some (.obj n):=dQ (ah _ _ _)
    have ha2:(aS ("a":Str) (AV.obj m) (aS "e" (.obj n) l)).lookup ("a":Str)=some (.obj m):=ah _ _ _
    have tn:=x.px.2 i n p hn hp
    have tm:=x.py.2 j m q hm hq
    have s1:= λ(p1 p2 p3 p4 p5:Pos)=>IM (c:=c) (k:=k) (p1:=p1) (p2:=p2) (p3:=p3) (p4:=p4) (p5:=p5) x hn
    have s2:= λ(p1 p2 p3 p4 p5:Pos)=>I6 (c:=c) (k:=k) (p1:=p1) (p2:=p2) (p3:=p3) (p4:=p4) (p5:=p5) x1 hm
    have dx:xs.drop i=p::xs.drop (i+1):=by
     refine bp (zS.mp hp) λw e=>?_
     rw[List.drop_eq_getElem_cons w,e]
    have dy:ys.drop j=q::ys.drop (j+1):=by
     refine bp (zS.mp hq) λw e=>?_
     rw[List.drop_eq_getElem_cons w,e]
    generalize aS ("a":Str) (AV.obj m) (aS "e" (.obj n) l)=l2 at x2 he2 ha2 s2
    cases h1:jQ p q with
    |true=>
     have h:=Ge (k:=k) hz G x2 ax hlx he2 hn hp
     have xx:=x2.appm hn hp
     have ht:n9 c k tC ⟨l,H⟩ ⟨aS "i" (.int (i+1:Nat)) l2,H.set M (.list (ms.map .obj++[.obj n]))⟩ (decide (i+1<ex.length)):=by
      generalize decide (i+1<ex.length)=go at h ⊢
      cases go with
      |true=>k_dflt refine' ae (s1 _ _ _ _ _) (ae (s2 _ _ _ _ _) (ae (aL (t:=true) (av rfl (aa aA rfl he2) (aa aA rfl ha2) (eU h1 (by lia) tn tm)) h) ar))
      |false=>
       refine bp h λcx h=>?_
       refine⟨cx,?_⟩
       k_dflt refine' bM G.ok (s1 _ _ _ _ _) (bM G.ok (s2 _ _ _ _ _) (bN (lg (t:=true) G.ok (av rfl (aa aA rfl he2) (aa aA rfl ha2) (eU h1 (by lia) tn tm)) h)))
     refine mn hz G hk ht xx (λy o a b c=>bW.set y o a c) (λe=>.inl (ZL.mpr (by have:=of_decide_eq_false e;lia))) (λe=>ih xx (by lia)) ?_ ?_
     ·rw[dx,dy,rb h1];simp
     ·rw[dx,dy,rb h1]
    |false=>
     cases h2:jQ q p with
     |true=>
      have h:=Fy (k:=k) hz G x2 ay hly ha2 hm hq
      have xx:=x2.appu hm hq
      have ht:n9 c k tC ⟨l,H⟩ ⟨aS "j" (.int (j+1:Nat)) l2,H.set U (.list (us.map .obj++[.obj m]))⟩ (decide (j+1<ey.length)):=by
       generalize decide (j+1<ey.length)=go at h ⊢
       cases go with
       |true=>k_dflt refine' ae (s1 _ _ _ _ _) (ae (s2 _ _ _ _ _) (ae (aL (t:=false) (av rfl (aa aA rfl he2) (aa aA rfl ha2) (eU h1 (by lia) tn tm)) (ae (aL (t:=true) (av rfl (aa aA rfl he2) (aa aA rfl ha2) (gL h2 (by lia) tn tm)) h) ar)) ar))
       |false=>
        refine bp h λcx h=>?_
        refine⟨cx,?_⟩
        k_dflt refine' bM G.ok (s1 _ _ _ _ _) (bM G.ok (s2 _ _ _ _ _) (bN (lg (t:=false) G.ok (av rfl (aa aA rfl he2) (aa aA rfl ha2) (eU h1 (by lia) tn tm)) (bN (lg (t:=true) G.ok (av rfl (aa aA rfl he2) (aa aA rfl ha2) (gL h2 (by lia) tn tm)) h)))))
      refine mn hz G hk ht xx (λy o a b c=>bW.set y o b c) (λe=>.inr (ZL.mpr (by have:=of_decide_eq_false e;lia))) (λe=>ih xx (by lia)) ?_ ?_
      ·rw[dx,dy,ql h1 h2]
      ·rw[dx,dy,ql h1 h2];simp
     |false=>
      have h:=FE (k:=k) hz G (by lia) x2 ax ay hlx hly he2 ha2 hn hm hp hq
      have xx:=(x2.inci il).incj jl
      have ht:n9 c k tC ⟨l,H⟩ ⟨aS "j" (.int (j+1:Nat)) (aS "i" (.int (i+1:Nat)) l2),H⟩ (decide (i+1<ex.length)&&decide (j+1<ey.length)):=by
       generalize (decide (i+1<ex.length)&&decide (j+1<ey.length))=go at h ⊢
       cases go with
       |true=>k_dflt refine' ae (s1 _ _ _ _ _) (ae (s2 _ _ _ _ _) (ae (aL (t:=false) (av rfl (aa aA rfl he2) (aa aA rfl ha2) (eU h1 (by lia) tn tm)) (ae (aL (t:=false) (av rfl (aa aA rfl he2) (aa aA rfl ha2) (gL h2 (by lia) tn tm)) h) ar)) ar))
       |false=>
        refine bp h λcx h=>?_
        refine⟨cx,?_⟩
        k_dflt refine' bM G.ok (s1 _ _ _ _ _) (bM G.ok (s2 _ _ _ _ _) (bN (lg (t:=false) G.ok (av rfl (aa aA rfl he2) (aa aA rfl ha2) (eU h1 (by lia) tn tm)) (bN (lg (t:=false) G.ok (av rfl (aa aA rfl he2) (aa aA rfl ha2) (gL h2 (by lia) tn tm)) h)))))
      refine mn hz G hk ht xx (λy o a b c=>c) (λe=>?_) (λe=>ih xx (by lia)) ?_ ?_
      ·rw[Bool.and_eq_false_iff]at e
       exact e.imp (λe=>ZL.mpr (by have:=of_decide_eq_false e;lia)) (λe=>ZL.mpr (by have:=of_decide_eq_false e;lia))
      ·rw[dx,dy,qK h1 h2]
      ·rw[dx,dy,qK h1 h2]
end
theorem vi(hk:F.scope.kind=.function)(hx:F.scope.names.lookup x=some .local)(hy:F.scope.names.lookup y=some .local)(hs:∀env,swappedStores [.Name x p1,.Name y p2] e env=pure none)(h1:Ev c F k e σ v σ₁):
  Ex c F k (.Assign [.Name x p1,.Name y p2] e pos) σ .next ⟨aS y v (aS x v σ₁.loc),σ₁.H⟩:= λA ρ s env Q E K r h=>
 wpAny_Assign_two (h1 A ρ s env _ E K r λρ1 s1 z r1 st1 vz=>bg hk hx A ρ1 s1 env _ E z K r1 vz λρ2 s2 r2 st2=>bg hk hy A ρ2 s2 env _ E z K r2 (st2.vr vz) λρ3 s3 r3 st3=>h ρ3 s3 _ r3 ((st1.trans st2).trans st3) rfl) rfl (hs env)
section
variable{ex:List Nat}{xs:List (Str×Str)}
theorem Fl(hz:c.rz=true)(G:c.Go)(hx:H[jx]?=some (.list (ex.map .obj)))(hy:H[jy]?=some (.list (ey.map .obj)))(px:aN H ex xs)(py:aN H ey ys)(ax:uc xs)(ay:uc ys)(zx:ex.length≤64)(zy:ey.length≤64):
  ∃T M U H',Fn c (k+101) (.ref 51) [.obj jx,.obj jy] [] H (.obj T) H'∧H'[T]?=some (AO.tuple [.obj M,.obj U])∧cR H' M (cL xs ys).1∧cR H' U (cL xs ys).2∧bW H H':=by
 have jxl:=aq hx
 have jyl:=aq hy
 refine br λGz kz=>?_
 refine bb (H++[AO.list []]) λH1 e1=>?_
 refine bb (H1++[AO.list []]) λH2 e2=>?_
 have x1:bW H H1:=by rw[e1];exact bW.app
 have x2:bW H1 H2:=by rw[e2];exact bW.app
 have x12:=x1.trans x2
 have n1:H1.length=H.length+1:=by rw[e1];simp
 have hM:H2[H.length]?=some (AO.list (([]:List Nat).map .obj)):=by refine x2 _ _ ?_;rw[e1,zR (ZA _),ZY];rfl
 have hU:H2[H1.length]?=some (AO.list (([]:List Nat).map .obj)):=by rw[e2,zR (ZA _),ZY];rfl
 let l0:List (Str×AV):=[("expected",.obj jx),("actual",.obj jy)]
 let l1:=aS ("j":Str) (.int 0) (aS ("i":Str) (.int 0) l0)
 let l2:=aS ("missing":Str) (.obj H.length) l1
 let l3:=aS ("unexpected":Str) (.obj H1.length) l2
 have x:SS l3 H2 jx jy H.length H1.length ex ey [] [] xs ys [] [] 0 0:=⟨rfl,rfl,rfl,rfl,rfl,rfl,x12 _ _ hx,x12 _ _ hy,hM,hU,px.ext x12,py.ext x12,⟨rfl,λi j p h=>by simp at h⟩,⟨rfl,λi j p h=>by simp at h⟩,by lia,by lia,by lia,by lia,by lia,zx,zy,ZA _,ZA _,Zl _,Zl _⟩
 obtain⟨l',H',ms',us',h1,h2,h3,h4,h5,h6,h7,h8⟩:=GO (k:=k+100) hz G (by lia) ax ay _ x (ZA _)
 refine kz ?_
 rw[List.drop_zero,List.drop_zero,List.nil_append]at h6 h7
 have ext':bW H H':= λi o h=>h8 i o (by have:=(aq h);lia) (by have:=(aq h);lia) (x12 _ _ h)
 refine ku H'.length H.length H1.length (H'++[AO.tuple [.obj H.length,.obj H1.length]]) ?_ aP (al ms' (bW.app _ _ h4) (h6.ext bW.app)) (al us' (bW.app _ _ h5) (h7.ext bW.app)) (ext'.trans bW.app)
 refine da (fl:=.ret (.obj H'.length)) (loc:=l0) G (zV _) (by w_on) (by w_on) (λρ m s xs ks X hx hk=>?_) ?_
 ·cases hx with
  |cons hx ht=>
   refine mx ht hk λ_ hy=>?_
   refine al [("expected",_),("actual",_)] (@bC _ _ _ _ _ X ?_) (.cons hx (.cons hy .nil))
   exact FA _ _ _
 ·apply aK (loc:=l')
  have t0:∀{p1 p2 p3 p4:Pos}{q:Nat},Ex c cw (k+100) (.Assign [.Name "i" p1,.Name "j" p2] (.Constant (.int 0) q p3) p4) ⟨l0,H⟩ .next ⟨l1,H⟩:= λ{p1 p2 p3 p4 q}=>vi (σ₁:=⟨l0,H⟩) aA rfl rfl (λ_=>rfl) aJ
  have t1:∀{p1 p2 p3:Pos},Ex c cw (k+100) (.Assign [.Name "missing" p1] (.List [] p2) p3) ⟨l1,H⟩ .next ⟨l2,H1⟩:= λ{p1 p2 p3}=>by
   have z:=dM (c:=c) (F:=cw) (k:=k+100) (σ:=⟨l1,H⟩) (σ₁:=⟨l1,H⟩) (elts:=[]) (pos:=p2) (vs:=[]) (by decide) au
   have z2:=aw (x:="missing") (pos':=p1) (pos:=p3) aA rfl (λ_=>rfl) z
   rw[e1];exact z2
  have t2:∀{p1 p2 p3:Pos},Ex c cw (k+100) (.Assign [.Name "unexpected" p1] (.List [] p2) p3) ⟨l2,H1⟩ .next ⟨l3,H2⟩:= λ{p1 p2 p3}=>by
   have z:=dM (c:=c) (F:=cw) (k:=k+100) (σ:=⟨l2,H1⟩) (σ₁:=⟨l2,H1⟩) (elts:=[]) (pos:=p2) (vs:=[]) (by decide) au
   have z2:=aw (x:="unexpected") (pos':=p1) (pos:=p3) aA rfl (λ_=>rfl) z
   rw[e2];exact z2
  have t4:∀{p1 p2 p3:Pos}{kd:Nat},Ev c cw (k+100) (.Tuple [.Name "missing" p1,.Name "unexpected" p2] kd p3) ⟨l',H'⟩ (.obj H'.length) ⟨l',H'++[AO.tuple [.obj H.length,.obj H1.length]]⟩:= λ{p1 p2 p3 kd}=>
   tK (σ₁:=⟨l',H'⟩) (by show 2<1000;decide) (am (λ_=>rfl) (aa aA rfl h2) (am (λ_=>rfl) (aa aA rfl h3) au))
  k_dflt refine' ae t0 (ae t1 (ae t2 (ae (cO h1) (bv (aX t4)))))
end
inductive fE(ρ:Nat→Addr)(n:Nat):List (Option AV)→List (Option Value)→Prop where
 |nil:fE ρ n [] []
 |no {as:_} {vs:_} (t:fE ρ n as vs):fE ρ n (none::as) (none::vs)
 |yes {a:_} {v:_} {as:_} {vs:_} (h:VR ρ n a v) (t:fE ρ n as vs):fE ρ n (some a::as) (some v::vs)
theorem fE.mono{ρ ρ':Nat→Addr}{n n':Nat}{as:List (Option AV)}{vs:List (Option Value)}(h:fE ρ n as vs)(ag:∀i,i<n→ρ' i=ρ i)(le:n≤n'):fE ρ' n' as vs:=by
 induction h with
 |nil=>exact .nil
 |no _ ih=>exact .no ih
 |yes h _ ih=>exact .yes (h.mono ag le) ih
theorem fE.length{ρ:Nat→Addr}{n:Nat}{as:List (Option AV)}{vs:List (Option Value)}(h:fE ρ n as vs):vs.length=as.length:=by
 induction h with
 |nil=>rfl
 |no _ ih=>simp[ih]
 |yes _ _ ih=>simp[ih]
theorem fE.get{as:List (Option AV)}{vs:List (Option Value)}(h:fE ρ n as vs):∀{i:Nat}{a:AV},as[i]?=some (some a)→∃v,vs[i]?=some (some v)∧VR ρ n a v:=by
 induction h with
 |nil=>intro i a e;simp at e
 |no _ ih=>
  intro i a e
  cases i with
  |zero=>simp at e
  |succ i=>exact ih (by simpa using e)
 |yes h _ ih=>
  intro i a e
  cases i with
  |zero=>simp at e;subst e;exact al _ (by simp) h
  |succ i=>exact ih (by simpa using e)
theorem fE.append{as bs:List (Option AV)}{vs ws:List (Option Value)}(h:fE ρ n as vs)(g:fE ρ n bs ws):fE ρ n (as++bs) (vs++ws):=by
 induction h with
 |nil=>exact g
 |no _ ih=>exact .no ih
 |yes h _ ih=>exact .yes h ih
theorem fE.rep{ρ:Nat→Addr}{n:Nat}:∀(m:Nat),fE ρ n (ZV m .none) (ZV m .none)
 |0=>.nil
 |m+1=>.no (fE.rep m)
theorem fE.set{ρ:Nat→Addr}{n:Nat}{a:AV}{v:Value}(hv:VR ρ n a v){as:List (Option AV)}{vs:List (Option Value)}(h:fE ρ n as vs):∀(i:Nat),fE ρ n (as.set i (.some a)) (vs.set i (.some v)):=by
 induction h with
 |nil=>intro i;exact .nil
 |no t ih=>
  intro i
  cases i with
  |zero=>exact .yes hv t
  |succ i=>exact .no (ih i)
 |yes h t ih=>
  intro i
  cases i with
  |zero=>exact .yes hv t
  |succ i=>exact .yes h (ih i)
noncomputable def mW(C:Addr)(d:Nat)(vs:List (Option AV)):AO:=.is λρ n o=>d<n∧∃xs,o={cls:=.ref C,dict:=some (ρ d),data:=.plain,slots:=⟨xs⟩}∧fE ρ n vs xs
noncomputable def fp(vs:List (Option AV))(i:Nat)(v:AV):List (Option AV):=(vs++ZV (i+1 - vs.length) none).set i (some v)
noncomputable def DK(H:List AO)(x:Nat)(C:Addr)(d:Nat)(vs:List (Option AV)):Prop:=H[x]?=some (mW C d vs)∨(vs=[]∧H[x]?=some (.inst C d))
theorem Gp{vs:List (Option AV)}{xs:List (Option Value)}(hd:d<n)(h:fE ρ n vs xs):OR ρ n (mW C d vs) {cls:=.ref C,dict:=some (ρ d),data:=.plain,slots:=⟨xs⟩}:= λρ' n' ag le=>
 ⟨ZE hd le,xs,by rw[ag d hd],h.mono ag le⟩
theorem aW.slt{x:Nat}{vs:List (Option AV)}(r:aW c A F ρ σ s env)(hx:DK σ.H x C d vs)(hd:σ.H[d]?=some (.dict es)):
  ∃xs od,fE ρ σ.H.length vs xs∧InstAt s.heap (ρ x) {cls:=.ref C,dict:=some (ρ d),data:=.plain,slots:=⟨xs⟩} C (some od)∧x<σ.H.length∧d<σ.H.length:=by
 refine aj (r.hr.at_ d _ hd) λod h3 h4=>?_
 have dl:=aq hd
 rcases hx with hx|⟨rfl,hx⟩
 ·refine aj (r.hr.at_ x _ hx) λob h1 h2=>?_
  refine E1 (h2 ρ _ (λ_ _=>rfl) (ZA _)) λ_ xs z0 h5=>?_;subst z0
  exact dJ xs od h5 ⟨h1,rfl,rfl,h3⟩ (aq hx) dl
 ·refine aj (r.hr.at_ x _ hx) λob h1 h2=>?_
  refine aO h2 ?_;clear h2;intro _ z0;subst z0
  exact dJ [] od .nil ⟨h1,rfl,rfl,h3⟩ (aq hx) dl
structure km(K:Frag)(C:Addr)(name:Str)(p:Addr)(i:Nat):Prop where
 ga:findIn K (.ref C) "__getattribute__"=some (some (.builtin "object.__getattribute__"))
 gk:findIn K (.ref C) "__getattr__"=some none
 cl:(clsIn K C).isSome=true
 sa:findIn K (.ref C) "__setattr__"=some (some (.builtin "object.__setattr__"))
 po:plainOver K C=true
 at_:findIn K (.ref C) name=some (some (.ref p))
 gt:specialIn K (.ref p) "__get__"=some (some (.builtin "member_descriptor.__get__"))
 tk:takesIn K (.ref p)=some true
 ty:typeIn K (.ref p)=some (.type "member_descriptor")
 sl:slotIn K p C=some i
theorem tQ{x:Nat}{p:Addr}{vs:List (Option AV)}(O:c.Ok)(S:km c.K C name p i)(hx:DK σ.H x C d vs)(hd:σ.H[d]?=some (.dict es))(hv:vs[i]?=some (some v))(hh:v.handed=true):
  oO c F k (λx=>getAttr x name ex) (.obj x) σ v σ:= λA ρ s env Q E y K r hy q=>by
 refine br λGz kz=>?_
 refine aO hy ?_;clear hy;intro _ z0;subst z0
 refine cT (r.slt hx hd) λxs od h1 I _ _=>?_
 refine aj (h1.get hv) λw h2 h3=>?_
 refine kz ?_
 refine PySem.W.get_bind (r.X O) I S.ga (findObj_data S.cl S.at_ S.gt S.tk) S.gk (wpAny_call ?_)
 refine slot_get (s:={s with toks:=s.toks+1}) (r.X O) I S.sl (v:=w) ?_ ?_
 ·show((⟨xs⟩:Array (Option Value))[i]?).join=some w
  rw[List.getElem?_toArray,h2];rfl
 ·show wpAny _ _ (handedOut w) _ _ _
  rw[handedOut_of (lW h3 hh)]
  exact YD (q ρ _ w (r.toks _) (.toks _) h3)
theorem sE{x:Nat}{p:Addr}{vs:List (Option AV)}(O:c.Ok)(S:km c.K C name p i)(hi:i<100)(hx:DK σ.H x C d vs)(hd:σ.H[d]?=some (.dict es)):
  wg c F k (λx y=>setAttr x name y) (.obj x) v σ (λ_ _=>True) ⟨σ.loc,σ.H.set x (mW C d (fp vs i v))⟩:= λA ρ s env Q E y z K r hy hz q=>by
 refine br λGz kz=>?_
 refine aO hy ?_;clear hy;intro _ z0;subst z0
 refine cT (r.slt hx hd) λxs od h1 I xl dl=>?_
 refine aj (r.lo) λm hm _=>?_
 refine kz ?_
 have ne:=r.ap x xl
 have h3:=I.at_
 have ht:takerIn c.K C name=some (some (.ref p)):=by unfold takerIn;rw[S.at_,Option.bind_some];show Option.map _ (takesIn c.K (.ref p))=_;rw[S.tk];rfl
 have ln:=h1.length
 refine set_plain (r.X O) I S.sa (osa_descr (s:={s with toks:=s.toks+1}) PySem.W.KF.slot_mset (r.X O) I S.po ht S.ty ?_)
 refine slot_set (s:={s with toks:=s.toks+1}) (pre:=ko s.heap env.locals (ρ x)) (post:=[]) (ox':={cls:=.ref C,dict:=some (ρ d),data:=.plain,slots:=⟨(xs++ZV (i+1 - xs.length) none).set i (some z)⟩}) (ma hm) (mv h3 ne) (r.X O) I S.sl (by lia) o0 (λ_ h=>nomatch h) ?_ rfl λh' F' N'=>?_
 ·have e1:(⟨xs⟩:Array (Option Value))++Array.replicate (i+1 - xs.length) none=⟨xs++ZV (i+1 - xs.length) none⟩:=by
   apply Array.toList_inj.mp
   simp
  have e2:((⟨xs⟩:Array (Option Value))++Array.replicate (i+1 - xs.length) none).setIfInBounds i (some z)=⟨(xs++ZV (i+1 - xs.length) none).set i (some z)⟩:=by
   rw[e1]
   apply Array.toList_inj.mp
   simp
  exact congrArg (λsl=>({cls:=.ref C,dict:=some (ρ d),data:=.plain,slots:=sl}:Obj)) e2
 ·refine aO (pz N') λg1 g2=>?_
  have z:=r.upd (ao:=mW C d (fp vs i v)) (tk:=s.toks+1) xl g1 (by
   have w:fE ρ σ.H.length (fp vs i v) ((xs++ZV (i+1 - xs.length) none).set i (some z)):=by
    unfold fp;rw[ln]
    exact((h1.append (fE.rep _))).set hz i
   exact Gp dl w) g2 (λm' hm'=>by
   have:m'=m:=by
    refine br λGz kz=>?_
    refine d8 hm λo es ep e1 d1 _ f1=>?_
    refine d8 hm' λo2 es2 ep2 e2 d2 _ f2=>?_
    refine kz ?_
    rw[e1]at e2;cases e2
    rw[d1]at d2;cases d2
    funext y;rw[←f1 y,←f2 y]
   subst this;exact F'.ns)
  exact q ρ _ () z.1 z.2 trivial
noncomputable def Ct(c:Cx)(N ep:Nat)(es:List (Str×AV))(ρ:Nat→Addr)(n:Nat)(o:Obj):Prop:=
 N<n∧(ρ N==sysModules)=false∧∃vs,cF ρ n (es.map (·.2)) vs∧o.ExactDict∧∃ents,o.data=.dict ents ep∧KeysOf (PySem.strKind c.prog c.w) ents∧PySem.Pairs (PySem.strKind c.prog c.w) ents.toList ((es.map (·.1)).zip vs)∧(es.map (·.1)).Nodup
noncomputable def ip(c:Cx)(N ep:Nat)(es:List (Str×AV)):AO:=.is (Ct c N ep es)
noncomputable def di(c:Cx)(N:Nat)(es:List (Str×AV)):AO:=.is λρ n o=>∃ep,Ct c N ep es ρ n o
theorem Ct.mono{c:Cx}{N ep:Nat}{es:List (Str×AV)}{ρ ρ':Nat→Addr}{n n':Nat}{o:Obj}(h:Ct c N ep es ρ n o)(ag:∀i,i<n→ρ' i=ρ i)(le:n≤n'):Ct c N ep es ρ' n' o:=by
 refine ug h λh1 h2 vs h3 h4=>?_
 exact⟨ZE h1 le,by rw[ag N h1];exact h2,vs,h3.mono ag le,h4⟩
theorem xt(h:Ct c N ep es ρ n o):OR ρ n (ip c N ep es) o:= λρ' n' ag le=>h.mono ag le
theorem m0(h:Ct c N ep es ρ n o):OR ρ n (di c N es) o:= λρ' n' ag le=>⟨ep,h.mono ag le⟩
noncomputable def nM(c:Cx)(H:List AO)(N:Nat)(es:List (Str×AV)):Prop:=H[N]?=some (di c N es)∨∃ep,H[N]?=some (ip c N ep es)
theorem nM.is{c:Cx}{H:List AO}{N:Nat}{es:List (Str×AV)}(h:nM c H N es):∃P,H[N]?=some (.is P):=by
 rcases h with h|⟨ep,h⟩<;>exact⟨_,h⟩
theorem nM.lt(h:nM c H N es):N<H.length:=let⟨_,e⟩:=h.is;(aq e)
theorem nM.keep(h:nM c H N es)(k:∀o,H[N]?=some o→H'[N]?=some o):nM c H' N es:=by
 rcases h with h|⟨ep,h⟩
 ·exact .inl (k _ h)
 ·exact .inr ⟨ep,k _ h⟩
theorem w8{ks:List Str}:∀{vs:List Value},vs.length=ks.length→(ks.zip vs).map (·.1)=ks:=by
 induction ks with
 |nil=>intro vs _;rfl
 |cons k ks ih=>
  intro vs h
  cases vs with
  |nil=>simp at h
  |cons v vs=>simp[ih (by simpa using h)]
theorem kQ{k:Str}:∀{vs:List Value},cF ρ n (es.map (·.2)) vs→(∀a,es.lookup k=some a→∃v,valueAt ((es.map (·.1)).zip vs) k=some v∧VR ρ n a v)∧(es.lookup k=none→valueAt ((es.map (·.1)).zip vs) k=none):=by
 induction es with
 |nil=>intro vs h;exact⟨λa e=>by simp at e,λ_=>rfl⟩
 |cons p es ih=>
  intro vs h
  obtain⟨x,b⟩:=p
  cases h with
  |cons hv t=>
   rename_i v vs
   refine aO (ih t) λh1 h2=>?_
   unfold valueAt at h1 h2 ⊢
   simp only[ZZ,List.zip_cons_cons,List.find?_cons,ZD]
   by_cases hk:x=k
   ·subst hk
    simp
    exact hv
   ·have e1:(k==x)=false:=by simpa using λq:k=x=>hk q.symm
    rw[e1]
    simp only[decide_eq_false hk]
    exact⟨h1,h2⟩
theorem sg{α:Type}(k:Str)(a:α):∀(es:List (Str×α)),k∈es.map (·.1)→(aS k a es).map (·.1)=es.map (·.1)
 | [],h=>by simp at h
 |p::es,h=>by
  rw[gB]
  by_cases q:(p.1==k)=true
  ·rw[if_pos q];rfl
  ·rw[if_neg q]
   have:k∈es.map (·.1):=by
    rcases ZI.mp h with h|h
    ·exact absurd (by simpa using h.symm) q
    ·exact h
   simp[sg k a es this]
theorem mS{α:Type}(k:Str)(a:α):∀(es:List (Str×α)),k∉es.map (·.1)→aS k a es=es++[(k,a)]
 | [],h=>rfl
 |p::es,h=>by
  rw[gB]
  have h1:¬(p.1==k)=true:= λq=>h (by simp at q;simp[q])
  rw[if_neg h1,mS k a es λz=>h (by simp at z ⊢;exact .inr z)]
  rfl
theorem yp{k:Str}{v:Value}(ha:VR ρ n a v):∀{vs:List Value},cF ρ n (es.map (·.2)) vs→(es.map (·.1)).Nodup→∃vs',cF ρ n ((aS k a es).map (·.2)) vs'∧stored ((es.map (·.1)).zip vs) k v=((aS k a es).map (·.1)).zip vs'∧((aS k a es).map (·.1)).Nodup:=by
 intro vs h hn
 have ln:=aI h
 rw[ZS]at ln
 by_cases hk:k∈es.map (·.1)
 ·have e1:(((es.map (·.1)).zip vs).any λkv=>kv.1=k)=true:=by
   rw[Z9]
   have:k∈((es.map (·.1)).zip vs).map (·.1):=by rw[w8 (by simpa using ln)];exact hk
   refine aj (ZR.mp this) λp hp e=>?_
   exact al p hp (by simpa using e)
  unfold stored
  rw[if_pos e1]
  have go:∀(es:List (Str×AV))(vs:List Value),cF ρ n (es.map (·.2)) vs→(es.map (·.1)).Nodup→k∈es.map (·.1)→∃vs',cF ρ n ((aS k a es).map (·.2)) vs'∧((es.map (·.1)).zip vs).map (λkv=>if kv.1=k then(kv.1,v)else kv)=((aS k a es).map (·.1)).zip vs':=by
   intro es
   induction es with
   |nil=>intro vs _ _ h;simp at h
   |cons p es ih=>
    intro vs h hn hk
    obtain⟨x,b⟩:=p
    cases h with
    |cons hv t=>
     rename_i w ws
     rw[ZZ,List.nodup_cons]at hn
     rw[gB]
     by_cases q:x=k
     ·subst q
      rw[if_pos (by simp)]
      refine al (v::ws) (.cons ha t) ?_
      simp only[ZZ,List.zip_cons_cons,if_pos]
      congr 1
      have:∀kv∈(es.map (·.1)).zip ws,(if kv.1=x then(kv.1,v)else kv)=kv:= λkv hm=>by
       rw(config:={}) [if_neg λe=>hn.1 ?_]
       have:=(List.of_mem_zip hm).1
       rw[e]at this;exact this
      rw[ZO this];simp
     ·have q':¬(x==k)=true:=by simpa using q
      rw[if_neg q']
      have hk':k∈es.map (·.1):=by
       rcases ZI.mp hk with h|h
       ·exact absurd h.symm q
       ·exact h
      refine aj (ih ws t hn.2 hk') λvs' h1 h2=>?_
      refine al (w::vs') (.cons hv h1) ?_
      simp only[ZZ,List.zip_cons_cons,if_neg q,h2]
  refine aj (go es vs h hn hk) λvs' h1 h2=>?_
  exact bO vs' h1 h2 (by rw[sg k a es hk];exact hn)
 ·have e1:¬(((es.map (·.1)).zip vs).any λkv=>kv.1=k)=true:=by
   rw[Z9]
   rintro⟨p,hp,e⟩
   exact hk (by have:=(List.of_mem_zip hp).1;rw[show p.1=k by simpa using e]at this;exact this)
  unfold stored
  rw[if_neg e1,mS k a es hk]
  refine bO (vs++[v]) ?_ ?_ ?_
  ·rw[Zu];exact kc h (.cons ha .nil)
  ·rw[Zu,List.zip_append (by simpa using ln.symm)];rfl
  ·rw[Zu,List.nodup_append]
   exact⟨hn,by simp,λx hx y hy e=>by simp at hy;subst hy;subst e;exact hk hx⟩
theorem ur{k:Str}:∀{vs:List Value},cF ρ n (es.map (·.2)) vs→∃vs',cF ρ n ((es.filter λp=>p.1 != k).map (·.2)) vs'∧without ((es.map (·.1)).zip vs) k=((es.filter λp=>p.1 != k).map (·.1)).zip vs':=by
 induction es with
 |nil=>intro vs h;exact al [] .nil rfl
 |cons p es ih=>
  intro vs h
  obtain⟨x,b⟩:=p
  cases h with
  |cons hv t=>
   rename_i w ws
   refine aj (ih t) λvs' h1 h2=>?_
   unfold without at h2 ⊢
   simp only[ZZ,List.zip_cons_cons,Z5]
   by_cases q:x=k
   ·rw[if_neg (by simpa using q),if_neg (by simpa using q)];exact al vs' h1 h2
   ·rw[if_pos (by simpa using q),if_pos (by simpa using q)];exact al (w::vs') (.cons hv h1) (by rw[h2];rfl)
theorem Ct.dictOf{a:Addr}(x:Ct c N ep es ρ n o)(ha:h.get? a=some o):∃vs,cF ρ n (es.map (·.2)) vs∧h.DictAt (PySem.strKind c.prog c.w) a ((es.map (·.1)).zip vs) ep:=by
 refine br λGz kz=>?_
 obtain⟨_,_,vs,h3,h4,ents,h5,h6,h7,h8⟩:=x
 refine kz ?_
 exact⟨vs,h3,o,ents,ha,h4,h5,h6,h7,by rw[w8 (by have:=aI h3;simpa using this)];exact h8⟩
theorem aW.dct(r:aW c A F ρ σ s env)(hN:nM c σ.H N es):∃vs,cF ρ σ.H.length (es.map (·.2)) vs∧s.heap.DictOf (PySem.strKind c.prog c.w) (ρ N) ((es.map (·.1)).zip vs)∧(ρ N==sysModules)=false∧(es.map (·.1)).Nodup:=by
 refine br λGz kz=>?_
 obtain⟨ob,ep,h1,h3⟩:∃ob ep,s.heap.get? (ρ N)=some ob∧Ct c N ep es ρ σ.H.length ob:=by
  rcases hN with hN|⟨ep,hN⟩
  ·refine aj (r.hr.at_ N _ hN) λob h1 h2=>?_
   refine bp (h2 ρ _ (λ_ _=>rfl) (ZA _)) λep h3=>?_
   exact cH ob ep h1 h3
  ·refine aj (r.hr.at_ N _ hN) λob h1 h2=>?_
   exact cH ob ep h1 (h2 ρ _ (λ_ _=>rfl) (ZA _))
 refine aj (h3.dictOf h1) λvs h4 h5=>?_
 obtain⟨_,h6,I0,_,_,_,_,_,_,h7⟩:=h3
 refine kz ?_
 exact gz vs h4 h5.dictOf h6 h7
theorem dV{t:Tok}:(PySem.strKind prog w).is x (.str x t)=true:=by
 show Value.isStrOf x (.str x t)=true
 simp[Value.isStrOf]
theorem D6:sysModules<mainGlobals:=by decide
theorem aW.size(O:c.Ok)(r:aW c A F ρ σ s env):(s.heap.objs.size==sysModules)=false:=by
 refine dc (f9 r.hr.base O.g O.gt) λo es ep e _=>?_
 have:=ZB e
 have g:=D6
 have:s.heap.objs.size≠sysModules:=Nat.ne_of_gt (Nat.lt_trans g this)
 simpa using this
theorem sO(O:c.Ok):Ev c F k (.Dict [] [] pos) σ (.obj σ.H.length) ⟨σ.loc,σ.H++[di c σ.H.length []]⟩:= λA ρ s env Q E K r q=>
 wpAny_Dict_empty (by
  refine aO (r.alloc (ao:=di c σ.H.length []) (ob:={cls:=.type "dict",data:=.dict #[]}) s.toks rfl (m0 (ep:=0) ⟨Zb _,by rw[aF];exact r.size O,[],.nil,⟨rfl,rfl,rfl⟩,#[],rfl,λe he=>by simp at he,.nil,.nil⟩)) λr2 st2=>?_
  exact q _ _ _ r2 st2 ⟨by simp,by rw[aF]⟩)
theorem rq(hN:nM c σ.H N es)(hv:(es.lookup x).getD .none=v):cJ c F k (λxs=>call (.builtin "dict.get") xs) [.obj N,.str x] σ v σ:= λA ρ s env Q E xs K r hx q=>by
 cases hx with
 |cons h1 h2=>
  refine lL h2 λ_ h2=>?_
  refine br λGz kz=>?_
  refine aO h1 ?_;clear h1;intro _ z0;subst z0
  refine bp h2 ?_;clear h2;intro t z0;subst z0
  refine cv (r.dct hN) λvs g1 g2 g3 _=>?_
  refine aO (kQ (k:=x) g1) λd1 d2=>?_
  refine kz ?_
  refine call_meetsIn PySem.F.slot_dict_get g2.typeIs PySem.F.entry_dict_get (PySem.F.args_dict_get_2 _ _) (meets_dict_get (PySem.strKind c.prog c.w) (ρ N) (k:=x) dV g3) (al _ g2.mapOf ?_)
  refine q ρ _ _ (r.toks _) (.toks _) ?_
  cases e:es.lookup x with
  |some a=>
   refine aj (d1 a e) λw e1 e2=>?_
   rw[e]at hv
   rw[e1]
   simpa[←hv]using e2
  |none=>
   rw[e]at hv
   rw[d2 e,←hv]
   rfl
theorem kY(hs:∀o x,subscripted slice false o x=operate [o,x] (getItem o x))
  (e0:Ev c F k value σ (.obj N) σ₁)(e1:Ev c F k slice σ₁ (.str x) σ₂)(hN:nM c σ₂.H N es)(hv:es.lookup x=some v):Ev c F k (.Subscript value slice pos) σ v σ₂:= λA ρ s env Q E K r q=>
 Subscript_ (e0 A ρ s env _ E K r λρ1 s1 y r1 st1 vx=>e1 A ρ1 s1 env _ E K r1 λρ2 s2 z r2 st2 vy=>by
  refine br λGz kz=>?_
  refine bp vy ?_;clear vy;intro t z0;subst z0
  refine aO (st2.vr vx) λ_ z0=>?_;subst z0
  refine cv (r2.dct hN) λvs g1 g2 g3 _=>?_
  refine aj ((kQ (k:=x) g1).1 v hv) λw w1 w2=>?_
  refine kz ?_
  exact tail_any g2.typeIs slot_dict_getitem.lookup (wpAny_getItem_of (knd:=PySem.strKind c.prog c.w) dV g2.mapOf w1 (q ρ2 _ w (r2.toks _) ((st1.trans st2).trans (.toks _)) w2)) (hs _ _))
theorem GA(hN:nM c σ.H N es)(hv:(es.lookup x).isSome=t):du c F k (compareOp .In) (.str x) (.obj N) σ (.bool t) σ:= λA ρ s env Q E a b K r ha hb q=>by
 refine br λGz kz=>?_
 refine bp ha ?_;clear ha;intro t' z0;subst z0
 refine aO hb ?_;clear hb;intro _ z0;subst z0
 refine cv (r.dct hN) λvs g1 g2 g3 _=>?_
 refine aO (kQ (k:=x) g1) λd1 d2=>?_
 refine kz ?_
 refine wpAny_in_of (knd:=PySem.strKind c.prog c.w) dV g3 g2.mapOf (q ρ _ _ (r.toks _) (.toks _) ?_)
 cases e:es.lookup x with
 |some a=>
  refine aj (d1 a e) λw e1 e2=>?_
  rw[e]at hv;subst hv
  rw[e1];rfl
 |none=>
  rw[e]at hv;subst hv
  rw[d2 e];rfl
theorem aW.updD{es':List (Str×AV)}{vs':List Value}(r:aW c A F ρ σ s env)(hN:nM c σ.H N es)(hv:cF ρ σ.H.length (es'.map (·.2)) vs')(hm:h'.DictOf (PySem.strKind c.prog c.w) (ρ N) ((es'.map (·.1)).zip vs'))(hn:(es'.map (·.1)).Nodup)(hs:Heap.SameBut (ρ N) s.heap h'):
  aW c A F ρ ⟨σ.loc,σ.H.set N (di c N es')⟩ ⟨h',s.gens,s.drawn,tk,s.os⟩ env∧aM c ρ σ.H.length (· =env.locals) s ρ (σ.H.set N (di c N es')).length ⟨h',s.gens,s.drawn,tk,s.os⟩:=by
 have nl:=hN.lt
 refine br λGz kz=>?_
 refine cv (r.dct hN) λ_ _ _ gs _=>?_
 refine kC hm λo ents ep h1 h2 h3 h4 h5 _=>?_
 refine kz ?_
 refine r.upd nl h1 (m0 (ep:=ep) ⟨nl,gs,vs',hv,h2,ents,h3,h4,h5,hn⟩) (λb ob e _ hb=>(hs.2 b hb).trans e) λm hm=>?_
 refine dc hm λo es ep g1 g2=>?_
 exact bh o es ep ((hs.2 _ (Ne.symm (r.ap N nl))).trans g1) g2
theorem wE{o i:Expr}{pos':Pos}(hz:es.length<1000)(e0:Ev c F k o σ (.obj N) σ₁)(e1:Ev c F k i σ₁ (.str x) σ₂)(hN:nM c σ₂.H N es):
  As c F k (.Subscript o i pos') a σ ⟨σ₂.loc,σ₂.H.set N (di c N (aS x a es))⟩:= λA ρ s env Q E v K r hv q=>by
 rw[assign_Subscript]
 refine YC (YF (e0 A ρ s env _ E K r λρ1 s1 y r1 st1 vx=>YC (YF (e1 A ρ1 s1 env _ E K r1 λρ2 s2 z r2 st2 vy=>YC (YG (YC (YF ?_)))))))
 have st12:=st1.trans st2
 have va:=st12.vr hv
 refine br λGz kz=>?_
 refine bp vy ?_;clear vy;intro t z0;subst z0
 refine aO (st2.vr vx) λ_ z0=>?_;subst z0
 refine cv (r2.dct hN) λvs g1 g2 g3 g4=>?_
 refine bz (yp (k:=x) va g1 g4) λvs' w1 w2 w3=>?_
 refine kz ?_
 have ln:=aI g1
 refine wpAny_setItem_pairs (knd:=PySem.strKind c.prog c.w) (k:=x) (hsz:=by rw[List.length_zip];simp at ln ⊢;unfold sizeLine;lia) dV g2 λh' hm hs=>?_
 rw[w2]at hm
 refine aO (r2.updD (tk:=s2.toks+1) hN w1 hm w3 hs) λr3 st3=>?_
 exact wpAny_release (q ρ2 _ r3 (st12.trans st3))
theorem aW.retype{ao ao':AO}(r:aW c A F ρ ⟨l,H⟩ s env)(hN:H[N]?=some ao)(h:∀ob,OR ρ H.length ao ob→OR ρ H.length ao' ob):aW c A F ρ ⟨l,H.set N ao'⟩ s env:=by
 have nl:=aq hN
 have len:(H.set N ao').length=H.length:=by simp
 refine⟨⟨λi o e=>?_,λi j hi hj=>r.hr.inj i j (len▸hi) (len▸hj),λi hi=>r.hr.up i (len▸hi),r.hr.base,r.hr.tj⟩,r.sc,r.gl,r.bl,r.ce,λp hp=>by rw[len];exact r.ci p hp,?_,λi hi=>r.ap i (len▸hi),r.lf,r.ge,r.sk.same len λb o es ep g1 g2 _ _=>bh o es ep g1 g2,r.tp,r.fl⟩
 ·show ∃ob,s.heap.get? (ρ i)=some ob∧OR ρ (H.set N ao').length o ob
  rw[len]
  have e:(H.set N ao')[i]?=some o:=e
  by_cases q:i=N
  ·subst q
   rw[zT nl]at e
   cases e
   refine aj (r.hr.at_ i _ hN) λob h1 h2=>?_
   exact al ob h1 (h _ h2)
  ·rw[zN (Ne.symm q)]at e
   exact r.hr.at_ i o e
 ·refine aj (r.lo) λm hm hl=>?_
  refine al m hm λx v hv=>?_
  show ∃v',m x=some v'∧VR ρ (H.set N ao').length v v'
  rw[len];exact hl x v hv
theorem Cf{f:AF}(hN:H[N]?=some (di c N es))(hN':H'[N]?=some (di c N es))(h:∀ep,dq c F k body ⟨l,H.set N (ip c N ep es)⟩ f ⟨l',H'.set N (ip c N ep es)⟩):dq c F k body ⟨l,H⟩ f ⟨l',H'⟩:= λA ρ s env Q E K r q=>by
 refine aj (r.hr.at_ N _ hN) λob h1 h2=>?_
 refine bp (h2 ρ _ (λ_ _=>rfl) (ZA _)) λep h3=>?_
 have nl:=aq hN
 have nl':=aq hN'
 have r1:aW c A F ρ ⟨l,H.set N (ip c N ep es)⟩ s env:=by
  have len:(H.set N (ip c N ep es)).length=H.length:=by simp
  have z:=r.retype (ao':=ip c N ep es) hN
  refine⟨⟨λi o e=>?_,λi j hi hj=>r.hr.inj i j (len▸hi) (len▸hj),λi hi=>r.hr.up i (len▸hi),r.hr.base,r.hr.tj⟩,r.sc,r.gl,r.bl,r.ce,λp hp=>by rw[len];exact r.ci p hp,?_,λi hi=>r.ap i (len▸hi),r.lf,r.ge,r.sk.same len λb o es ep g1 g2 _ _=>bh o es ep g1 g2,r.tp,r.fl⟩
  ·show ∃ob,s.heap.get? (ρ i)=some ob∧OR ρ (H.set N (ip c N ep es)).length o ob
   rw[len]
   have e:(H.set N (ip c N ep es))[i]?=some o:=e
   by_cases q:i=N
   ·subst q
    rw[zT nl]at e
    cases e
    exact al ob h1 (xt h3)
   ·rw[zN (Ne.symm q)]at e
    exact r.hr.at_ i o e
  ·refine aj (r.lo) λm hm hl=>?_
   refine al m hm λx v hv=>?_
   show ∃v',m x=some v'∧VR ρ (H.set N (ip c N ep es)).length v v'
   rw[len];exact hl x v hv
 refine h ep A ρ s env Q E K r1 λρ' s' a r' st' va=>?_
 have r2:=r'.retype (ao':=di c N es) (ao:=ip c N ep es) (zT nl') λob hob=>m0 (hob ρ' _ (λ_ _=>rfl) (ZA _))
 rw[Zj,show H'.set N (di c N es)=H' by
  refine bp (zS.mp hN') λq1 q2=>?_
  rw[←q2];exact Z8 q1]at r2
 have e1:(St.H ⟨l',H'.set N (ip c N ep es)⟩).length=H'.length:=by simp
 have e2:(St.H ⟨l,H.set N (ip c N ep es)⟩).length=H.length:=by simp
 rw[e1]at st' va
 rw[e2]at st'
 exact q ρ' s' a r2 st' va
noncomputable def nm(i:Nat):Str:=names.getD i ""
theorem kL:∀i,i<5→∀j,j<5→nm i=nm j→i=j:=by decide+kernel
noncomputable def ts:=d7 dP 10
noncomputable def Do:=d7 (d7 dP 8) 1
noncomputable def wJ:=jZ (d7 dP 8) 1
noncomputable def CP:=d7 ts 0
noncomputable def vQ:=jZ ts 0
noncomputable def Hp:=d7 ts 1
noncomputable def ET:=jZ ts 1
noncomputable def ER:=d7 ts 2
noncomputable def EM:=jZ ts 2
noncomputable def BM:=d7 ts 3
noncomputable def B5:=jZ ts 3
noncomputable def Ip:=d7 ts 4
noncomputable def Ij:=jZ ts 4
noncomputable def Ie:=d7 ts 5
noncomputable def E0:=jZ ts 5
noncomputable def za:=d7 ts 7
noncomputable def zh:=jZ ts 7
noncomputable def Iq:=d7 ts 8
noncomputable def Hg:=jZ ts 8
theorem z7(P:Params):dz P 66 Do wJ:=by constructor<;>w_on
theorem BE(P:Params):dz P 103 CP vQ:=by constructor<;>w_on
theorem qT(P:Params):dz P 110 Hp ET:=by constructor<;>w_on
theorem zr(P:Params):dz P 117 ER EM:=by constructor<;>w_on
theorem vW(P:Params):dz P 122 BM B5:=by constructor<;>w_on
theorem ES(P:Params):dz P 129 Ip Ij:=by constructor<;>w_on
theorem Au(P:Params):dz P 136 Ie E0:=by constructor<;>w_on
theorem vP(P:Params):dz P 150 za zh:=by constructor<;>w_on
theorem EU(P:Params):dz P 157 Iq Hg:=by constructor<;>w_on
theorem eE(P:Params):GN (Kx P) 167:=by constructor<;>w_on
theorem w7(P:Params):km (Kx P) 70 "node" 71 0:=by constructor<;>w_on
theorem iS(P:Params):km (Kx P) 70 "npredecessors" 72 1:=by constructor<;>w_on
theorem wK(P:Params):km (Kx P) 70 "successors" 73 2:=by constructor<;>w_on
theorem iV(P:Params):findIn (Kx P) (.ref 167) "_node2info"=some none:=by w_on
theorem iO(P:Params):findIn (Kx P) (.ref 167) "_ready_nodes"=some none:=by w_on
theorem t9(P:Params):findIn (Kx P) (.ref 167) "_npassedout"=some none:=by w_on
theorem sR(P:Params):findIn (Kx P) (.ref 167) "_nfinished"=some none:=by w_on
theorem AJ(P:Params):findIn (Kx P) (.ref 167) "_get_nodeinfo"=some (some (.ref 110)):=by w_on
theorem FD(P:Params):findIn (Kx P) (.ref 167) "add"=some (some (.ref 117)):=by w_on
theorem Dv(P:Params):findIn (Kx P) (.ref 167) "prepare"=some (some (.ref 122)):=by w_on
theorem IH(P:Params):findIn (Kx P) (.ref 167) "get_ready"=some (some (.ref 129)):=by w_on
theorem GC(P:Params):findIn (Kx P) (.ref 167) "is_active"=some (some (.ref 136)):=by w_on
theorem CM(P:Params):findIn (Kx P) (.ref 167) "done"=some (some (.ref 150)):=by w_on
theorem GW(P:Params):findIn (Kx P) (.ref 167) "_find_cycle"=some (some (.ref 157)):=by w_on
theorem zF(P:Params)(x y:Value)(S:Setting):peek (Kx P) S (bindArgs (dw P 66) ⟨[x,y],[]⟩)=some [(("self":Str),x),(("node":Str),y)]:=by w_on
noncomputable def AQ:Fs:=⟨wJ,[]⟩
theorem mT:AQ.scope.kind=.function:=by w_on
theorem dG{x:Nat}{p:Addr}{vs:List (Option AV)}(G:c.Go)(S:km (Kx c.w.params) 70 name p i)(hx:DK σ.H x 70 d vs)(hd:σ.H[d]?=some (.dict es))(hv:vs[i]?=some (some v))(hh:v.handed=true):
  oO c F k (λx=>getAttr x name ex) (.obj x) σ v σ:=tQ G.ok (G.hK▸S) hx hd hv hh
theorem fH{x:Nat}{p:Addr}{vs:List (Option AV)}(G:c.Go)(S:km (Kx c.w.params) 70 name p i)(hi:i<100)(hx:DK σ.H x 70 d vs)(hd:σ.H[d]?=some (.dict es)):
  wg c F k (λx y=>setAttr x name y) (.obj x) v σ (λ_ _=>True) ⟨σ.loc,σ.H.set x (mW 70 d (fp vs i v))⟩:=sE G.ok (G.hK▸S) hi hx hd
theorem BX(G:c.Go){x:Nat}{node:Str}(hx:H[x]?=some (.inst 70 d))(hd:H[d]?=some (.dict [])):
  Fn c (k+1) (.ref 66) [.obj x,.str node] [] H .none ((H++[AO.list []]).set x (mW 70 d [some (.str node),some (.int 0),some (.obj H.length)])):=by
 have xl:=aq hx
 have dl:=aq hd
 have xd:x≠d:=by rintro rfl;rw[hx]at hd;cases hd
 refine br λGz kz=>?_
 refine bb (H.set x (mW 70 d [some (.str node)])) λH1 e1=>?_
 refine bb (H.set x (mW 70 d [some (.str node),some (.int 0)])) λH2 e2=>?_
 refine bb (H2++[AO.list []]) λH3 e3=>?_
 refine kz ?_
 have h1:DK H1 x 70 d [some (.str node)]:=.inl (by rw[e1];exact zT xl)
 have h2:DK H2 x 70 d [some (.str node),some (.int 0)]:=.inl (by rw[e2];exact zT xl)
 have d1:H1[d]?=some (.dict []):=by rw[e1,zN xd];exact hd
 have d2:H2[d]?=some (.dict []):=by rw[e2,zN xd];exact hd
 have l2:H2.length=H.length:=by rw[e2];simp
 have h3:DK H3 x 70 d [some (.str node),some (.int 0)]:=.inl (by rw[e3,zL (by lia)];rcases h2 with h|⟨h,_⟩;exact h;cases h)
 have d3:H3[d]?=some (.dict []):=by rw[e3,zL (by lia)];exact d2
 have e12:H1.set x (mW 70 d (fp [some (.str node)] 1 (.int 0)))=H2:=by rw[e1,e2,Zj];rfl
 have e01:H.set x (mW 70 d (fp [] 0 (.str node)))=H1:=by rw[e1];rfl
 have e34:H3.set x (mW 70 d (fp [some (.str node),some (.int 0)] 2 (.obj H2.length)))=(H++[AO.list []]).set x (mW 70 d [some (.str node),some (.int 0),some (.obj H.length)]):=by
  rw[e3,e2,Za _ _ (by simpa using xl),Za _ _ xl,Zj]
  simp[fp]
 refine da (fl:=.next) (loc:=[("self",.obj x),("node",.str node)]) G (z7 _) (by w_on) (by w_on) (λρ m s xs ks X hx hk=>?_) ?_
 ·cases hx with
  |cons hx ht=>
   refine mx ht hk λ_ hy=>?_
   refine al [("self",_),("node",_)] (@bC _ _ _ _ _ X ?_) (.cons hx (.cons hy .nil))
   exact zF _ _ _
 ·apply aK (loc:=[("self",.obj x),("node",.str node)])
  have p1:=fH (c:=c) (F:=AQ) (k:=k) (σ:=⟨[("self",.obj x),("node",.str node)],H⟩) (v:=.str node) G (w7 _) (by decide) (.inr ⟨rfl,hx⟩) hd
  have p2:=fH (c:=c) (F:=AQ) (k:=k) (σ:=⟨[("self",.obj x),("node",.str node)],H1⟩) (v:=.int 0) G (iS _) (by decide) h1 d1
  have p3:=fH (c:=c) (F:=AQ) (k:=k) (σ:=⟨[("self",.obj x),("node",.str node)],H3⟩) (v:=.obj H2.length) G (wK _) (by decide) h3 d3
  rw[e01]at p1
  rw[e12]at p2
  rw[e34]at p3
  have el:∀{pos:Pos},Ev c AQ k (.List [] pos) ⟨[("self",.obj x),("node",.str node)],H2⟩ (.obj H2.length) ⟨[("self",.obj x),("node",.str node)],H3⟩:= λ{pos}=>by
   rw[e3];exact dM (σ₁:=⟨_,H2⟩) (by decide) au
  k_dflt refine' ae (σ₁:=⟨[("self",.obj x),("node",.str node)],H1⟩) (aQ (λ_=>rfl) (aa mT rfl rfl) (aa mT rfl rfl) p1) (ae (σ₁:=⟨[("self",.obj x),("node",.str node)],H2⟩) (aQ (λ_=>rfl) aJ (aa mT rfl rfl) p2) (ae (aQ (λ_=>rfl) el (aa mT rfl rfl) p3) ar))
theorem IZ(P:Params):makesIn (Kx P) 70=true:=by w_on
theorem I4(P:Params):findIn (Kx P) (.ref 70) "__init__"=some (some (.ref 66)):=by w_on
theorem I3(P:Params):typeIn (Kx P) (.ref 66)=some (.type "function"):=by w_on
noncomputable def iz(n:Nat)(node:Str):List AO:=[.dict [],mW 70 n [some (.str node),some (.int 0),some (.obj (n+2))],.list []]
theorem CY(G:c.Go){node:Str}:Fn c (k+2) (.ref 70) [.str node] [] H (.obj (H.length+1)) (H++iz H.length node):=by
 have z:=BX (k:=k) (H:=H++[AO.dict [],AO.inst 70 H.length]) (x:=H.length+1) (d:=H.length) (node:=node) G (by rw[zR (by lia)];simp) (by rw[zR (by lia)];simp)
 have e:((H++[AO.dict [],AO.inst 70 H.length])++[AO.list []]).set (H.length+1) (mW 70 H.length [some (.str node),some (.int 0),some (.obj (H++[AO.dict [],AO.inst 70 H.length]).length)])=H++iz H.length node:=by
  rw[List.append_assoc,Zn _ _ (by lia)]
  simp[iz]
 rw[e]at z
 exact qM G.ok (by rw[G.hK];exact IZ _) (by rw[G.hK];exact I4 _) (by rw[G.hK];exact I3 _) z
theorem Jb(P:Params)(S:Setting):peek (Kx P) S (keeperOf (.ref 70))=some .machine:=by w_on
theorem Iy(P:Params)(S:Setting):peek (Kx P) S (keeperOf (.ref 167))=some .machine:=by w_on
theorem AX(P:Params)(x y:Value)(S:Setting):peek (Kx P) S (bindArgs (dw P 110) ⟨[x,y],[]⟩)=some [(("self":Str),x),(("node":Str),y)]:=by w_on
theorem z8(P:Params)(x:Value)(S:Setting):peek (Kx P) S (bindArgs (dw P 103) ⟨[x],[]⟩)=some [(("self":Str),x),(("graph":Str),.none)]:=by w_on
theorem vq(P:Params):nsIn (Kx P) mainGlobals ("_NodeInfo":Str)=some (some (.ref 70)):=by w_on
theorem I8(P:Params):nsIn (Kx P) mainGlobals ("TopologicalSorter":Str)=some (some (.ref 167)):=by w_on
theorem Hi(P:Params):makesIn (Kx P) 167=true:=by w_on
theorem Hr(P:Params):findIn (Kx P) (.ref 167) "__init__"=some (some (.ref 103)):=by w_on
theorem Hv(P:Params):typeIn (Kx P) (.ref 103)=some (.type "function"):=by w_on
noncomputable def yu:Fs:=⟨vQ,[]⟩
theorem jF:yu.scope.kind=.function:=by w_on
noncomputable def yB:Fs:=⟨ET,[]⟩
theorem dW:yB.scope.kind=.function:=by w_on
noncomputable def wA(N:Nat)(rd:AV)(po fi:Int):List (Str×AV):=[("_node2info",.obj N),("_ready_nodes",rd),("_npassedout",.int po),("_nfinished",.int fi)]
structure SO(H:List AO)(S D N:Nat)(rd:AV)(po fi:Int):Prop where
 s:H[S]?=some (.inst 167 D)
 d:H[D]?=some (.dict (wA N rd po fi))
structure GH(c:Cx)(H:List AO)(N:Nat)(ord:List Nat)(np:Nat→Int)(su:Nat→List Nat)(pi pd ps:Nat→Nat):Prop where
 n:nM c H N (ord.map λi=>(nm i,.obj (pi i)))
 i:∀i,i∈ord→H[pi i]?=some (mW 70 (pd i) [some (.str (nm i)),some (.int (np i)),some (.obj (ps i))])
 d:∀i,i∈ord→H[pd i]?=some (.dict [])
 s:∀i,i∈ord→H[ps i]?=some (.list ((su i).map λj=>.str (nm j)))
 ji:∀i,i∈ord→∀j,j∈ord→pi i=pi j→i=j
 js:∀i,i∈ord→∀j,j∈ord→ps i=ps j→i=j
 ni:∀i,i∈ord→pi i≠N
 b:∀i,i∈ord→i<5
 nd:ord.Nodup
noncomputable def iR{α:Type}(f:Nat→α)(i:Nat)(v:α):Nat→α:= λj=>if j=i then v else f j
theorem bB{f:Nat→α}{v:α}:iR f i v i=v:=if_pos rfl
theorem cg{f:Nat→α}{v:α}(h:j≠i):iR f i v j=f j:=if_neg h
structure GX(N:Nat)(H:List AO)(ord:List Nat)(pi ps:Nat→Nat)(H':List AO)(ord':List Nat)(pi' ps':Nat→Nat):Prop where
 le:H.length≤H'.length
 old:∀i,i∈ord→i∈ord'∧pi' i=pi i∧ps' i=ps i
 new:∀i,i∈ord'→i∉ord→H.length≤pi' i∧H.length≤ps' i
 kp:∀(y:Nat)(o:AO),H[y]?=some o→y≠N→(∀i,i∈ord→y≠pi i∧y≠ps i)→H'[y]?=some o
theorem GX.refl:GX N H ord pi ps H ord pi ps:=⟨ZA _,λi h=>⟨h,rfl,rfl⟩,λi h1 h2=>absurd h1 h2,λy o h _ _=>h⟩
theorem GX.trans{N:Nat}{H H1 H2:List AO}{ord ord1 ord2:List Nat}{pi ps pi1 ps1 pi2 ps2:Nat→Nat}(a:GX N H ord pi ps H1 ord1 pi1 ps1)(b:GX N H1 ord1 pi1 ps1 H2 ord2 pi2 ps2):GX N H ord pi ps H2 ord2 pi2 ps2:=by
 refine⟨Z2 a.le b.le,λi h=>?_,λi h1 h2=>?_,λy o h h1 h2=>?_⟩
 ·refine fP (a.old i h) λa1 a2 a3=>?_
  refine fP (b.old i a1) λb1 b2 b3=>?_
  exact⟨b1,b2.trans a2,b3.trans a3⟩
 ·by_cases h:i∈ord1
  ·refine fP (b.old i h) λb1 b2 b3=>?_
   rw[b2,b3];exact a.new i h h2
  ·have:=b.new i h1 h
   have:=a.le
   lia
 ·have yl:=aq h
  refine b.kp y o (a.kp y o h h1 h2) h1 λi hi=>?_
  by_cases hh:i∈ord
  ·refine fP (a.old i hh) λ_ a2 a3=>?_
   rw[a2,a3];exact h2 i hh
  ·have:=a.new i hi hh
   lia
theorem GX.sso{ord':List Nat}{pi' ps':Nat→Nat}(a:GX N H ord pi ps H' ord' pi' ps')(g:GH c H N ord np su pi pd ps)(x:SO H S D N rd po fi):SO H' S D N rd po fi:=by
 refine⟨a.kp _ _ x.s ?_ λi hi=>⟨?_,?_⟩,a.kp _ _ x.d ?_ λi hi=>⟨?_,?_⟩⟩
 ·rintro rfl;have:=x.s;refine bp (g.n.is) λP e=>?_;rw[e]at this;cases this
 ·rintro rfl;have:=x.s;rw[g.i i hi]at this;cases this
 ·rintro rfl;have:=x.s;rw[g.s i hi]at this;cases this
 ·rintro rfl;have:=x.d;refine bp (g.n.is) λP e=>?_;rw[e]at this;cases this
 ·rintro rfl;have:=x.d;rw[g.i i hi]at this;cases this
 ·rintro rfl;have:=x.d;rw[g.s i hi]at this;cases this
theorem oG(h1:Ev c F k value σ v σ₁)(h2:As c F k target v σ₁ σ₂):Ev c F k (.NamedExpr target value pos) σ v σ₂:= λA ρ s env Q E K r h=>
 wpAny_NamedExpr (h1 A ρ s env _ E K r λρ1 s1 x r1 st1 vx=>h2 A ρ1 s1 env _ E x K r1 vx λρ2 s2 r2 st2=>h ρ2 s2 x r2 (st1.trans st2) (st2.vr vx))
theorem uF{t1 t2:Expr}(hs:∀env,swappedStores [t1,t2] e env=pure none)(he:∀env,(assignEach [t1,t2] env).map (·.2)=[assign t1 env,assign t2 env])(h1:Ev c F k e σ v σ₁)(h2:As c F k t1 v σ₁ σ₂)(h3:As c F k t2 v σ₂ σ₃):Ex c F k (.Assign [t1,t2] e pos) σ .next σ₃:= λA ρ s env Q E K r h=>
 wpAny_Assign_two (h1 A ρ s env _ E K r λρ1 s1 z r1 st1 vz=>h2 A ρ1 s1 env _ E z K r1 vz λρ2 s2 r2 st2=>h3 A ρ2 s2 env _ E z K r2 (st2.vr vz) λρ3 s3 r3 st3=>h ρ3 s3 _ r3 ((st1.trans st2).trans st3) rfl) (he env) (hs env)
theorem xy(G:c.Go):Fn c (k+2) (.ref 167) [] [] H (.obj (H.length+1)) (H++[AO.dict (wA (H.length+2) .none 0 0),AO.inst 167 H.length,di c (H.length+2) []]):=by
 refine br λGz kz=>?_
 refine bb (H++[AO.dict [],AO.inst 167 H.length]) λH0 e0=>?_
 refine bb (H.length) λn en=>?_
 refine kz ?_
 have stp:∀(es:List (Str×AV))(z:AO),(H++[AO.dict es,AO.inst 167 n,di c (n+2) []])[n]?=some (.dict es)∧(H++[AO.dict es,AO.inst 167 n,di c (n+2) []])[n+1]?=some (.inst 167 n)∧(H++[AO.dict es,AO.inst 167 n,di c (n+2) []]).set n z=H++[z,AO.inst 167 n,di c (n+2) []]:= λes z=>by
  refine⟨?_,?_,?_⟩
  ·rw[zR (by lia),en,ZY];rfl
  ·rw[zR (by lia),en];simp
  ·rw[Zn _ _ (by lia),en,ZY];rfl
 have z:Fn c (k+1) (.ref 103) [.obj (n+1)] [] (H++[AO.dict [],AO.inst 167 n]) .none (H++[AO.dict (wA (n+2) .none 0 0),AO.inst 167 n,di c (n+2) []]):=by
  refine da (fl:=.next) (loc:=[("self",.obj (n+1)),("graph",.none)]) G (BE _) (by w_on) (by w_on) (λρ m s xs ks X hx hk=>?_) ?_
  ·refine mx hx hk λ_ hx=>?_
   refine al [("self",_),("graph",.none)] (@bC _ _ _ _ _ X ?_) (.cons hx (.cons rfl .nil))
   exact z8 _ _
  ·apply aK (loc:=[("self",.obj (n+1)),("graph",.none)])
   have s0:Ev c yu k (.Name "self" ⟨0,0,0,0⟩) ⟨[("self",.obj (n+1)),("graph",.none)],H⟩ (.obj (n+1)) ⟨[("self",.obj (n+1)),("graph",.none)],H⟩:=aa jF rfl rfl
   have d0:∀{pos:Pos},Ev c yu k (.Dict [] [] pos) ⟨[("self",.obj (n+1)),("graph",.none)],H++[AO.dict [],AO.inst 167 n]⟩ (.obj (n+2)) ⟨[("self",.obj (n+1)),("graph",.none)],H++[AO.dict [],AO.inst 167 n,di c (n+2) []]⟩:= λ{pos}=>by
    have z:=sO (c:=c) (F:=yu) (k:=k) (pos:=pos) (σ:=⟨[("self",.obj (n+1)),("graph",.none)],H++[AO.dict [],AO.inst 167 n]⟩) G.ok
    have l:(H++[AO.dict [],AO.inst 167 n]).length=n+2:=by simp[en]
    rw[show(St.H ⟨[("self",.obj (n+1)),("graph",.none)],H++[AO.dict [],AO.inst 167 n]⟩).length=n+2 from l]at z
    simpa using z
   have st:∀(es:List (Str×AV))(name:Str)(v:AV),es.length<1000→findIn (Kx c.w.params) (.ref 167) name=some none→wg c yu k (λx y=>setAttr x name y) (.obj (n+1)) v ⟨[("self",.obj (n+1)),("graph",.none)],H++[AO.dict es,AO.inst 167 n,di c (n+2) []]⟩ (λ_ _=>True) ⟨[("self",.obj (n+1)),("graph",.none)],H++[AO.dict (aS name v es),AO.inst 167 n,di c (n+2) []]⟩:= λes name v hz ha=>by
    refine fP (stp es (.dict (aS name v es))) λg1 g2 g3=>?_
    have z:=cI (c:=c) (F:=yu) (k:=k) (σ:=⟨[("self",.obj (n+1)),("graph",.none)],H++[AO.dict es,AO.inst 167 n,di c (n+2) []]⟩) (v:=v) G (eE _) g2 g1 hz ha
    rw[show(St.H ⟨[("self",.obj (n+1)),("graph",.none)],H++[AO.dict es,AO.inst 167 n,di c (n+2) []]⟩).set n (.dict (aS name v es))=_ from g3]at z
    exact z
   k_dflt refine' ae (aQ (λ_=>rfl) d0 (aa jF rfl rfl) (st _ _ _ (of_decide_eq_true (by w_on)) (iV _))) (ae (aQ (λ_=>rfl) bx (aa jF rfl rfl) (st _ _ _ (of_decide_eq_true (by w_on)) (iO _))) (ae (aQ (λ_=>rfl) aJ (aa jF rfl rfl) (st _ _ _ (of_decide_eq_true (by w_on)) (t9 _))) (ae (aQ (λ_=>rfl) aJ (aa jF rfl rfl) (st _ _ _ (of_decide_eq_true (by w_on)) (sR _))) (ae (aL (t:=false) (av rfl (aa jF rfl rfl) bx (bU rfl)) ar) ar))))
 rw[en]at z
 exact qM G.ok (by rw[G.hK];exact Hi _) (by rw[G.hK];exact Hr _) (by rw[G.hK];exact Hv _) z
theorem i8:∀(n:Nat)(l:List Nat),l.Nodup→(∀x,x∈l→x<n)→l.length≤n
 |0,l,_,h=>by
  cases l with
  |nil=>exact ZA _
  |cons x l=>exact absurd (h x (.head _)) (Nat.not_lt_zero _)
 |n+1,l,hd,h=>by
  have z:=i8 n (l.erase n) (hd.erase n) λx hx=>by
   rw[hd.mem_erase_iff]at hx
   have:=h x hx.2
   have:=hx.1
   lia
  rw[List.length_erase]at z
  split at z<;>lia
theorem vB{f:Nat→AV}:∀{ord:List Nat}{i:Nat},(∀j,j∈ord→j<5)→i<5→(i∈ord→(ord.map λj=>(nm j,f j)).lookup (nm i)=some (f i))∧(i∉ord→(ord.map λj=>(nm j,f j)).lookup (nm i)=none)
 | [],i,_,_=>⟨λh=>by simp at h,λ_=>rfl⟩
 |j::ord,i,hb,hi=>by
  refine aO (vB (f:=f) (ord:=ord) (i:=i) (λj hj=>hb j (.tail _ hj)) hi) λh1 h2=>?_
  rw[ZZ,ZD]
  by_cases q:i=j
  ·subst q
   simp
  ·have e:(nm i==nm j)=false:=by
    have:nm i≠nm j:= λz=>q (kL i hi j (hb j (.head _)) z)
    simpa using this
   rw[e]
   refine⟨λh=>h1 ?_,λh=>h2 λz=>h (.tail _ z)⟩
   rcases ZI.mp h with h|h
   ·exact absurd h q
   ·exact h
theorem Bi{f:Nat→AV}(hb:∀j,j∈ord→j<5)(hi:i<5)(h:i∉ord):nm i∉(ord.map λj=>(nm j,f j)).map (·.1):= λz=>by
 rw[Zr]at z
 refine aj (ZR.mp z) λj hj e=>?_
 exact h (by rw[←kL j (hb j hj) i hi e];exact hj)
theorem GH.look(g:GH c H N ord np su pi pd ps)(hi:i∈ord):(ord.map λj=>(nm j,AV.obj (pi j))).lookup (nm i)=some (.obj (pi i)):=(vB g.b (g.b i hi)).1 hi
theorem GH.lt(g:GH c H N ord np su pi pd ps)(hi:i∈ord):pi i<H.length∧pd i<H.length∧ps i<H.length:=⟨(aq (g.i i hi)),(aq (g.d i hi)),(aq (g.s i hi))⟩
theorem GH.len(g:GH c H N ord np su pi pd ps):ord.length≤5:=by
 exact i8 5 ord g.nd g.b
theorem cb(G:c.Go)(hk:F.scope.kind=.function)(hx:F.scope.names.lookup ("self":Str)=some .local)(hs:l.lookup ("self":Str)=some (.obj S))(x:SO H S D N rd po fi)(hl:(wA N rd po fi).lookup name=some v)(hv:v.handed=true)(ha:findIn (Kx c.w.params) (.ref 167) name=some none):
  Ev c F k (.Attribute (.Name "self" p1) name p2) ⟨l,H⟩ v ⟨l,H⟩:=
 bE (λ_=>by k_dflt rfl) (aa hk hx hs) (bY G (eE _) x.s x.d hl hv ha)
theorem qu(slot:Slot "dict" name id)(hty:typeOf (.builtin id)=pure (.type "method_descriptor"))(hj:nM c σ.H N es):GM c F (.obj N) σ name id:= λ{A ρ s env y pl Q E} r hx q=>by
 refine br λGz kz=>?_
 refine aO hx ?_;clear hx;intro _ z0;subst z0
 refine cv (r.dct hj) λvs g1 g2 g3 _=>?_
 refine dh g2 λo es ep ho hc r=>?_
 refine kz ?_
 exact getMethod_builtin (T:="dict") (al o ho hc.1) PySem.F.plainAttrs_dict slot hty (λa e=>by cases e;exact al o ho hc.2.1) q
theorem vJ(G:c.Go)(x:SO H S D N rd po fi)(g:GH c H N ord np su pi pd ps)(hi:i∈ord):Fn c (k+1) (.ref 110) [.obj S,.str (nm i)] [] H (.obj (pi i)) H:=by
 have lk:=g.look hi
 refine da (fl:=.ret (.obj (pi i))) (loc:=[("self",.obj S),("node",.str (nm i))]) G (qT _) (by w_on) (by w_on) (λρ m s xs ks X hx hk=>?_) ?_
 ·cases hx with
  |cons hx ht=>
   refine mx ht hk λ_ hy=>?_
   refine al [("self",_),("node",_)] (@bC _ _ _ _ _ X ?_) (.cons hx (.cons hy .nil))
   exact AX _ _ _
 ·let l1:List (Str×AV):=aS ("result":Str) (.obj (pi i)) [("self",.obj S),("node",.str (nm i))]
  apply aK (loc:=l1)
  have t1:∀{p1 p2 p3 p4 p5 p6 p7:Pos},(∀env,eval (.Call (.Attribute (.Attribute (.Name "self" p1) "_node2info" p2) "get" p3) [.Name "node" p4] [] p5) env=(do
   let ov←eval (.Attribute (.Name "self" p1) "_node2info" p2) env
   standAt p3.atName
   let(f,first)←holding [ov] (getMethod ov "get" (gD (.Attribute (.Name "self" p1) "_node2info" p2) env))
   callWith p5 f first (backTo p5 (starEach [.Name "node" p4] env)) []))→Ev c yB k (.NamedExpr (.Name "result" p6) (.Call (.Attribute (.Attribute (.Name "self" p1) "_node2info" p2) "get" p3) [.Name "node" p4] [] p5) p7) ⟨[("self",.obj S),("node",.str (nm i))],H⟩ (.obj (pi i)) ⟨l1,H⟩:= λ{p1 p2 p3 p4 p5 p6 p7} he=>
   oG (σ₁:=⟨[("self",.obj S),("node",.str (nm i))],H⟩) (d6 he (cb G dW rfl rfl x rfl rfl (iV _)) (qu PySem.F.slot_dict_get PySem.F.type_dict_get g.n) (af λ_=>rfl) (am (λ_=>rfl) (aa dW rfl rfl) au) (rq g.n (by rw[lk];rfl))) (bg dW rfl)
  k_dflt refine' ae (aL (t:=false) (av rfl (t1 (λ_=>rfl)) bx (bQ rfl)) ar) (bv (aX (aa dW rfl rfl)))
noncomputable def nF(c:Cx)(H:List AO)(N:Nat)(ord:List Nat)(pi:Nat→Nat)(i:Nat):List AO:=(H++iz H.length (nm i)).set N (di c N ((ord++[i]).map λj=>(nm j,.obj (iR pi i (H.length+1) j))))
theorem uo(G:c.Go)(x:SO H S D N rd po fi)(g:GH c H N ord np su pi pd ps)(hi:i∉ord)(h5:i<5):Fn c (k+3) (.ref 110) [.obj S,.str (nm i)] [] H (.obj (H.length+1)) (nF c H N ord pi i):=by
 have lk:=(vB (f:= λj=>AV.obj (pi j)) g.b h5).2 hi
 have nl:=g.n.lt
 have kn:=Bi (f:= λj=>AV.obj (pi j)) g.b h5 hi
 refine da (fl:=.ret (.obj (H.length+1))) (loc:=[("self",.obj S),("node",.str (nm i))]) G (qT _) (by w_on) (by w_on) (λρ m s xs ks X hx hk=>?_) ?_
 ·cases hx with
  |cons hx ht=>
   refine mx ht hk λ_ hy=>?_
   refine al [("self",_),("node",_)] (@bC _ _ _ _ _ X ?_) (.cons hx (.cons hy .nil))
   exact AX _ _ _
 ·let l1:List (Str×AV):=aS ("result":Str) .none [("self",.obj S),("node",.str (nm i))]
  let l2:List (Str×AV):=aS ("result":Str) (.obj (H.length+1)) l1
  apply aK (loc:=l2)
  have t1:∀{p1 p2 p3 p4 p5 p6 p7:Pos},(∀env,eval (.Call (.Attribute (.Attribute (.Name "self" p1) "_node2info" p2) "get" p3) [.Name "node" p4] [] p5) env=(do
   let ov←eval (.Attribute (.Name "self" p1) "_node2info" p2) env
   standAt p3.atName
   let(f,first)←holding [ov] (getMethod ov "get" (gD (.Attribute (.Name "self" p1) "_node2info" p2) env))
   callWith p5 f first (backTo p5 (starEach [.Name "node" p4] env)) []))→Ev c yB (k+2) (.NamedExpr (.Name "result" p6) (.Call (.Attribute (.Attribute (.Name "self" p1) "_node2info" p2) "get" p3) [.Name "node" p4] [] p5) p7) ⟨[("self",.obj S),("node",.str (nm i))],H⟩ .none ⟨l1,H⟩:= λ{p1 p2 p3 p4 p5 p6 p7} he=>
   oG (σ₁:=⟨[("self",.obj S),("node",.str (nm i))],H⟩) (d6 he (cb G dW rfl rfl x rfl rfl (iV _)) (qu PySem.F.slot_dict_get PySem.F.type_dict_get g.n) (af λ_=>rfl) (am (λ_=>rfl) (aa dW rfl rfl) au) (rq g.n (by rw[lk];rfl))) (bg dW rfl)
  have x1:SO (H++iz H.length (nm i)) S D N rd po fi:=⟨bW.app _ _ x.s,bW.app _ _ x.d⟩
  have g1:nM c (H++iz H.length (nm i)) N (ord.map λj=>(nm j,.obj (pi j))):=g.n.keep λo h=>bW.app _ _ h
  have eP:aS (nm i) (AV.obj (H.length+1)) (ord.map λj=>(nm j,AV.obj (pi j)))=(ord++[i]).map λj=>(nm j,.obj (iR pi i (H.length+1) j)):=by
   rw[mS _ _ _ kn,Zu]
   congr 1
   ·exact ZO λj hj=>by rw[cg (λq:j=i=>hi (q▸hj))]
   ·show [(nm i,AV.obj (H.length+1))]=[(nm i,AV.obj (iR pi i (H.length+1) i))]
    rw[bB]
  have t2:∀{p1 p2 p3 p4:Pos},As c yB (k+2) (.Subscript (.Attribute (.Name "self" p1) "_node2info" p2) (.Name "node" p3) p4) (.obj (H.length+1)) ⟨l1,H++iz H.length (nm i)⟩ ⟨l1,nF c H N ord pi i⟩:= λ{p1 p2 p3 p4}=>by
   have z:=wE (c:=c) (F:=yB) (k:=k+2) (pos':=p4) (a:=.obj (H.length+1)) (es:=ord.map λj=>(nm j,AV.obj (pi j))) (by have:=g.len;simp;lia) (cb (p1:=p1) (p2:=p2) G dW rfl (l:=l1) rfl x1 rfl rfl (iV _)) (aa (x:="node") (pos:=p3) dW rfl (v:=.str (nm i)) rfl) g1
   rw[eP]at z
   exact z
  have t3:∀{p1 p2 p3:Pos},Ev c yB (k+2) (.Call (.Name "_NodeInfo" p1) [.Name "node" p2] [] p3) ⟨l1,H⟩ (.obj (H.length+1)) ⟨l1,H++iz H.length (nm i)⟩:= λ{p1 p2 p3}=>
   fS G.ok (λ_=>rfl) (dp G dW rfl (vq _)) ⟨_,by rw[G.hK];exact Jb _⟩ (gF (af λ_=>rfl) (am (λ_=>rfl) (aa dW rfl rfl) au)) (CY G)
  k_dflt refine' ae (aL (t:=true) (av rfl (t1 (λ_=>rfl)) bx (bQ rfl)) (ae (uF (λ_=>rfl) (λ_=>rfl) t3 t2 (bg dW rfl)) ar)) (bv (aX (aa dW rfl rfl)))
theorem GH.new(g:GH c H N ord np su pi pd ps)(hi:i∉ord)(h5:i<5):GH c (nF c H N ord pi i) N (ord++[i]) (iR np i 0) (iR su i []) (iR pi i (H.length+1)) (iR pd i H.length) (iR ps i (H.length+2))∧
  GX N H ord pi ps (nF c H N ord pi i) (ord++[i]) (iR pi i (H.length+1)) (iR ps i (H.length+2)):=by
 have nl:=g.n.lt
 have ne:∀j,j∈ord→j≠i:= λj hj q=>hi (q▸hj)
 have old:∀(y:Nat)(o:AO),y≠N→H[y]?=some o→(nF c H N ord pi i)[y]?=some o:= λy o hy h=>by
  unfold nF
  rw[zN (Ne.symm hy)];exact bW.app _ _ h
 have at_:∀j o,(iz H.length (nm i))[j]?=some o→(nF c H N ord pi i)[H.length+j]?=some o:= λj o h=>by
  unfold nF
  rw[zN (by lia),zR (by lia),Zt];exact h
 have dN:∀j,j∈ord→pd j≠N:= λj hj=>by rintro q;have:=g.d j hj;refine bp (g.n.is) λP e=>?_;rw[q,e]at this;cases this
 have sN:∀j,j∈ord→ps j≠N:= λj hj=>by rintro q;have:=g.s j hj;refine bp (g.n.is) λP e=>?_;rw[q,e]at this;cases this
 refine⟨⟨?_,λj hj=>?_,λj hj=>?_,λj hj=>?_,λj hj j' hj' e=>?_,λj hj j' hj' e=>?_,λj hj=>?_,λj hj=>?_,?_⟩,⟨?_,λj hj=>?_,λj h1 h2=>?_,λy o h h1 _=>old y o h1 h⟩⟩
 ·unfold nF;exact .inl (zT (by simp;lia))
 ·rcases ZT.mp hj with hj|hj
  ·rw[cg (ne j hj),cg (ne j hj),cg (ne j hj),cg (ne j hj)];exact old _ _ (g.ni j hj) (g.i j hj)
  ·simp at hj;subst hj
   rw[bB,bB,bB,bB];exact at_ 1 _ rfl
 ·rcases ZT.mp hj with hj|hj
  ·rw[cg (ne j hj)];exact old _ _ (dN j hj) (g.d j hj)
  ·simp at hj;subst hj
   rw[bB];exact at_ 0 _ rfl
 ·rcases ZT.mp hj with hj|hj
  ·rw[cg (ne j hj),cg (ne j hj)];exact old _ _ (sN j hj) (g.s j hj)
  ·simp at hj;subst hj
   rw[bB,bB];exact at_ 2 _ rfl
 ·rcases ZT.mp hj with ha|ha<;>rcases ZT.mp hj' with hb|hb
  ·rw[cg (ne j ha),cg (ne j' hb)]at e;exact g.ji j ha j' hb e
  ·have q:j'=i:=by simpa using hb
   rw[q,cg (ne j ha),bB]at e
   have:=(g.lt ha).1;lia
  ·have q:j=i:=by simpa using ha
   rw[q,cg (ne j' hb),bB]at e
   have:=(g.lt hb).1;lia
  ·simp at ha hb;rw[ha,hb]
 ·rcases ZT.mp hj with ha|ha<;>rcases ZT.mp hj' with hb|hb
  ·rw[cg (ne j ha),cg (ne j' hb)]at e;exact g.js j ha j' hb e
  ·have q:j'=i:=by simpa using hb
   rw[q,cg (ne j ha),bB]at e
   have:=(g.lt ha).2.2;lia
  ·have q:j=i:=by simpa using ha
   rw[q,cg (ne j' hb),bB]at e
   have:=(g.lt hb).2.2;lia
  ·simp at ha hb;rw[ha,hb]
 ·rcases ZT.mp hj with hj|hj
  ·rw[cg (ne j hj)];exact g.ni j hj
  ·simp at hj;subst hj
   rw[bB];lia
 ·rcases ZT.mp hj with hj|hj
  ·exact g.b j hj
  ·simp at hj;lia
 ·rw[List.nodup_append]
  exact⟨g.nd,by simp,λa ha b hb e=>by simp at hb;subst hb;exact ne a ha e⟩
 ·unfold nF;simp
 ·exact⟨ZT.mpr (.inl hj),cg (ne j hj),cg (ne j hj)⟩
 ·rcases ZT.mp h1 with hj|hj
  ·exact absurd hj h2
  ·simp at hj;subst hj
   rw[bB,bB];lia
noncomputable def fK(j:Nat)(vs:List AV):qc:=⟨λH=>H[j]?=some (.tuple vs),λρ i o=>o.cls=.type "tuple_iterator"∧o.data=.fields #[.ref (ρ j),.int i 0],vs⟩
theorem fX:(fK j vs).Good c where
 nd:= λρ i o h es ep q=>by rw[h.2]at q;cases q
 ag:= λρ ρ' H i o hk h e=>⟨h.1,by rw[e j (aq hk)];exact h.2⟩
 next:= λ{A F ρ σ s env it i o a Q E} r hk hit ho ha hap q=>by
  refine aj (r.tuple hk) λits h1 h3=>?_
  refine aj (fh h3 ha) λx hx vx=>?_
  refine wpAny_pyNext_tuple_item (items:=⟨its⟩) (bO o hit ho.1 ho.2) h1 (by simpa using hx) λh' hi hs=>?_
  refine bz hi λo' g1 g2 g3=>?_
  exact q h' s.toks x o' vx g1 ⟨g2,g3⟩ λb ob hb hne=>(hs.2 b hne).trans hb
 stop:= λ{A F ρ σ s env it i o Q E} hh r hk hit ho ha hap q=>by
  refine aj (r.tuple hk) λits h1 h3=>?_
  refine wpAny_pyNext_tuple_end (items:=⟨its⟩) hh (bO o hit ho.1 ho.2) h1 (by simpa using n7 h3 ha) λh' hx=>?_
  exact q h' s.toks λb ob hb hne=>hx b ob hne hb
 self:= λ{A s it ρ o i Q E} hit ho q=>wpAny_pyIter_tupleiter (bO o hit ho.1 ho.2) q
structure oF where
 ord:List Nat
 np:Nat→Int
 su:Nat→List Nat
noncomputable def fv(g:oF)(i:Nat):oF:=if i∈g.ord then g else⟨g.ord++[i],iR g.np i 0,iR g.su i []⟩
theorem lh(hj:σ.H[j]?=some (.tuple vs)):Mk c (fK j vs) (.obj j) σ:= λ{A F ρ s env x Q E} r hx q=>by
 refine aO hx ?_;clear hx;intro _ z0;subst z0
 refine aj (r.tuple hj) λits h1 h3=>?_
 exact wpAny_pyIter_tuple (items:=⟨its⟩) h1 (q _ s.toks ⟨rfl,rfl⟩ rfl)
theorem vS(hz:vs.length<1000)(hj:σ.H[j]?=some (.tuple vs)):cJ c F k (λxs=>call (.builtin "len") xs) [.obj j] σ (.int vs.length) σ:= λA ρ s env Q E xs K r hx q=>by
 refine lL hx λ_ h1=>?_
 refine aO h1 ?_;clear h1;intro _ z0;subst z0
 refine aj (r.tuple hj) λits h1 h3=>?_
 have ln:=aI h3
 exact PyProof.Rows.len_tuple h1 (by show((its.length:Nat):Int)<_;lia) (q ρ _ _ (r.toks _) (.toks _) ⟨_,by show Value.int (its.length:Nat) _=_;rw[ln]⟩)
theorem GH.setnp(g:GH c H N ord np su pi pd ps)(hi:i∈ord)(v:Int):GH c (H.set (pi i) (mW 70 (pd i) [some (.str (nm i)),some (.int v),some (.obj (ps i))])) N ord (iR np i v) su pi pd ps∧GX N H ord pi ps (H.set (pi i) (mW 70 (pd i) [some (.str (nm i)),some (.int v),some (.obj (ps i))])) ord pi ps:=by
 have il:=(g.lt hi).1
 have kp:∀(y:Nat)(o:AO),y≠pi i→H[y]?=some o→(H.set (pi i) (mW 70 (pd i) [some (.str (nm i)),some (.int v),some (.obj (ps i))]))[y]?=some o:= λy o hy h=>ak h hy
 refine⟨⟨g.n.keep λo h=>kp _ _ (Ne.symm (g.ni i hi)) h,λj hj=>?_,λj hj=>kp _ _ (λq=>?_) (g.d j hj),λj hj=>kp _ _ (λq=>?_) (g.s j hj),g.ji,g.js,g.ni,g.b,g.nd⟩,⟨by simp,λj hj=>⟨hj,rfl,rfl⟩,λj h1 h2=>absurd h1 h2,λy o h h1 h2=>kp y o (h2 i hi).1 h⟩⟩
 ·by_cases q:j=i
  ·subst q;rw[bB];exact zT il
  ·rw[cg q];exact kp _ _ (λz=>q (g.ji j hj i hi z)) (g.i j hj)
 ·have:=g.d j hj;rw[q,g.i i hi]at this;cases this
 ·have:=g.s j hj;rw[q,g.i i hi]at this;cases this
theorem GH.setsu(g:GH c H N ord np su pi pd ps)(hi:i∈ord)(l:List Nat):GH c (H.set (ps i) (.list (l.map λj=>.str (nm j)))) N ord np (iR su i l) pi pd ps∧GX N H ord pi ps (H.set (ps i) (.list (l.map λj=>.str (nm j)))) ord pi ps:=by
 have il:=(g.lt hi).2.2
 have kp:∀(y:Nat)(o:AO),y≠ps i→H[y]?=some o→(H.set (ps i) (.list (l.map λj=>.str (nm j))))[y]?=some o:= λy o hy h=>ak h hy
 refine⟨⟨g.n.keep λo h=>kp _ _ (λq=>?_) h,λj hj=>kp _ _ (λq=>?_) (g.i j hj),λj hj=>kp _ _ (λq=>?_) (g.d j hj),λj hj=>?_,g.ji,g.js,g.ni,g.b,g.nd⟩,⟨by simp,λj hj=>⟨hj,rfl,rfl⟩,λj h1 h2=>absurd h1 h2,λy o h h1 h2=>kp y o (h2 i hi).2 h⟩⟩
 ·refine bp (g.n.is) λP e=>?_;rw[q,g.s i hi]at e;cases e
 ·have:=g.i j hj;rw[q,g.s i hi]at this;cases this
 ·have:=g.d j hj;rw[q,g.s i hi]at this;cases this
 ·by_cases q:j=i
  ·subst q;rw[bB];exact zT il
  ·rw[cg q];exact kp _ _ (λz=>q (g.js j hj i hi z)) (g.s j hj)
theorem GH.slt(g:GH c H N ord np su pi pd ps)(hi:i∈ord):DK H (pi i) 70 (pd i) [some (.str (nm i)),some (.int (np i)),some (.obj (ps i))]:=.inl (g.i i hi)
theorem B9(G:c.Go){g:oF}(x:SO H S D N rd po fi)(gh:GH c H N g.ord g.np g.su pi pd ps)(h5:i<5):
  ∃H' pi' pd' ps',Fn c (k+3) (.ref 110) [.obj S,.str (nm i)] [] H (.obj (pi' i)) H'∧GH c H' N (fv g i).ord (fv g i).np (fv g i).su pi' pd' ps'∧GX N H g.ord pi ps H' (fv g i).ord pi' ps'∧i∈(fv g i).ord:=by
 by_cases hi:i∈g.ord
 ·have e:fv g i=g:=if_pos hi
  rw[e]
  exact fG H pi pd ps (vJ (k:=k+2) G x gh hi) gh .refl hi
 ·have e:fv g i=⟨g.ord++[i],iR g.np i 0,iR g.su i []⟩:=if_neg hi
  rw[e]
  refine aO (gh.new hi h5) λh1 h2=>?_
  refine fG (nF c H N g.ord pi i) (iR pi i (H.length+1)) (iR pd i H.length) (iR ps i (H.length+2)) ?_ h1 h2 (by simp)
  have z:=uo (k:=k) G x gh hi h5
  rw[bB];exact z
noncomputable def AO.pl:AO→Bool
 | .is _=>false
 | .list _=>false
 |_=>true
noncomputable def lv:Fs:=⟨EM,[]⟩
theorem dL:lv.scope.kind=.function:=by w_on
noncomputable def lD:=d7 ER 3
noncomputable def fC(i:Nat)(g:oF)(p:Nat):oF:=⟨(fv g p).ord,(fv g p).np,iR (fv g p).su p ((fv g p).su p++[i])⟩
noncomputable def be(ps:List Nat):List AV:=ps.map λj=>.str (nm j)
theorem GI:∀env:Env,env.scope=lv.scope→interactive env=false:= λenv he=>by
 unfold interactive
 rw[he]
 rfl
section
variable{g:oF}
theorem GX.keep{ord':List Nat}{pi' ps':Nat→Nat}{y:Nat}{o:AO}(a:GX N H ord pi ps H' ord' pi' ps')(g:GH c H N ord np su pi pd ps)(h:H[y]?=some o)(ho:o.pl=true):H'[y]?=some o:=by
 refine a.kp y o h ?_ λi hi=>⟨?_,?_⟩
 ·rintro rfl;refine bp (g.n.is) λP e=>?_;rw[e]at h;cases h;cases ho
 ·rintro rfl;rw[g.i i hi]at h;cases h;cases ho
 ·rintro rfl;rw[g.s i hi]at h;cases h;cases ho
structure vA(l:List (Str×AV))(S T i:Nat):Prop where
 s:l.lookup ("self":Str)=some (.obj S)
 n:l.lookup ("node":Str)=some (.str (nm i))
 p:l.lookup ("predecessors":Str)=some (.obj T)
theorem vA.put{l:List (Str×AV)}{x:Str}{a:AV}(h:vA l S T i)(hx:x="nodeinfo"∨x="pred"∨x="pred_info"):vA (aS x a l) S T i:=by
 rcases hx with rfl|rfl|rfl<;>exact⟨dQ h.s,dQ h.n,dQ h.p⟩
theorem pD(g:oF)(i p q:Nat):((fC i g p).su q).length≤(g.su q).length+1:=by
 unfold fC fv
 by_cases h:p∈g.ord
 ·simp only[if_pos h]
  by_cases hq:q=p
  ·subst hq;rw[bB];simp
  ·rw[cg hq];lia
 ·simp only[if_neg h]
  by_cases hq:q=p
  ·subst hq;rw[bB,bB];simp
  ·rw[cg hq,cg hq];lia
theorem BV(G:c.Go){p:Nat}(L:vA l S T i)(hp:l.lookup ("pred":Str)=some (.str (nm p)))(x:SO H S D N rd po fi)(gh:GH c H N g.ord g.np g.su pi pd ps)(h5:p<5)(hz:(g.su p).length<900):
  ∃l' H' pi' pd' ps',dq c lv (k+100) lD ⟨l,H⟩ .next ⟨l',H'⟩∧vA l' S T i∧GH c H' N (fC i g p).ord (fC i g p).np (fC i g p).su pi' pd' ps'∧GX N H g.ord pi ps H' (fC i g p).ord pi' ps':=by
 refine br λGz kz=>?_
 refine ia (B9 (k:=k+97) G x gh h5) λH1 pi1 pd1 ps1 f1 g1 gx1 m1=>?_
 refine aO (g1.setsu m1 ((fv g p).su p++[i])) λg2 gx2=>?_
 refine kz ?_
 have L1:=L.put (x:="pred_info") (a:=.obj (pi1 p)) (by simp)
 have hz1:((fv g p).su p).length<999:=by
  unfold fv
  split
  ·lia
  ·show(iR g.su p [] p).length<999
   rw[bB];decide
 refine⟨aS "pred_info" (.obj (pi1 p)) l,H1.set (ps1 p) (.list (((fv g p).su p++[i]).map λj=>.str (nm j))),pi1,pd1,ps1,?_,L1,g2,gx1.trans gx2⟩
 have o1:cJ c lv (k+100) (λxs=>call (.builtin "list.append") xs) [.obj (ps1 p),.str (nm i)] ⟨aS "pred_info" (.obj (pi1 p)) l,H1⟩ .none ⟨aS "pred_info" (.obj (pi1 p)) l,H1.set (ps1 p) (.list (((fv g p).su p++[i]).map λj=>.str (nm j)))⟩:=by
  have z:=eN (c:=c) (F:=lv) (k:=k+100) (σ:=⟨aS "pred_info" (.obj (pi1 p)) l,H1⟩) (v:=.str (nm i)) (g1.s p m1) (by simpa using hz1)
  rw[Zu]
  exact z
 have hpi:(aS ("pred_info":Str) (AV.obj (pi1 p)) l).lookup ("pred_info":Str)=some (.obj (pi1 p)):=ah _ _ _
 have s1:∀{p1 p2 p3 p4 p5 p6:Pos},(∀env,eval (.Call (.Attribute (.Name "self" p2) "_get_nodeinfo" p3) [.Name "pred" p4] [] p5) env=(do
   let ov←eval (.Name "self" p2) env
   standAt p3.atName
   let(f,first)←holding [ov] (getMethod ov "_get_nodeinfo" (gD (.Name "self" p2) env))
   callWith p5 f first (backTo p5 (starEach [.Name "pred" p4] env)) []))→(∀env,swapsWith (.Call (.Attribute (.Name "self" p2) "_get_nodeinfo" p3) [.Name "pred" p4] [] p5) (some (.Name "pred_info" p1)) p6.line env=pure false)→Ex c lv (k+100) (.Assign [.Name "pred_info" p1] (.Call (.Attribute (.Name "self" p2) "_get_nodeinfo" p3) [.Name "pred" p4] [] p5) p6) ⟨l,H⟩ .next ⟨aS "pred_info" (.obj (pi1 p)) l,H1⟩:= λ{p1 p2 p3 p4 p5 p6} he hs=>
  aw (σ₁:=⟨l,H1⟩) dL rfl hs (gw G (qT _) (eE _) he (aa dL rfl L.s) x.s x.d rfl (AJ _) (af λ_=>rfl) (am (λ_=>rfl) (aa dL rfl hp) au) f1)
 have a1:∀{p1 p2:Pos},fR (.Name "pred_info" p1) "successors" p2→Ev c lv (k+100) (.Attribute (.Name "pred_info" p1) "successors" p2) ⟨aS "pred_info" (.obj (pi1 p)) l,H1⟩ (.obj (ps1 p)) ⟨aS "pred_info" (.obj (pi1 p)) l,H1⟩:= λ{p1 p2} ha=>bE ha (aa dL rfl hpi) (dG G (wK _) (g1.slt m1) (g1.d p m1) rfl rfl)
 k_dflt refine' ae (s1 (λ_=>rfl) (λ_=>rfl)) (ae (ck (F:=lv) (v:=.none) GI (λ_=>rfl) (d6 (λ_=>rfl) (a1 (λ_=>by k_dflt rfl)) (dk slot_list_append type_list_append (g1.s p m1)) (af λ_=>rfl) (am (λ_=>rfl) (aa dL rfl L1.n) au) o1)) ar)
theorem Ay(G:c.Go){preds:List Nat}:∀(rest:List Nat){l:List (Str×AV)}{H:List AO}{pi pd ps:Nat→Nat}{g:oF},vA l S T i→H[T]?=some (.tuple (be preds))→SO H S D N rd po fi→GH c H N g.ord g.np g.su pi pd ps→(∀p,p∈rest→p<5)→(∀p,(g.su p).length+rest.length<900)→
  ∃l' H' pi' pd' ps',(∀pp:Pos,fm c lv (k+100) (fK T (be preds)) (.Name "pred" pp) lD (be rest) ⟨l,H⟩ .next ⟨l',H'⟩)∧GH c H' N (rest.foldl (fC i) g).ord (rest.foldl (fC i) g).np (rest.foldl (fC i) g).su pi' pd' ps'∧GX N H g.ord pi ps H' (rest.foldl (fC i) g).ord pi' ps':=by
 intro rest
 induction rest with
 |nil=>
  intro l H pi pd ps g L hT x gh _ _
  exact jq l H pi pd ps (λ_=>.nil hT) gh .refl
 |cons p rest ih=>
  intro l H pi pd ps g L hT x gh h5 hz
  refine br λGz kz=>?_
  obtain⟨l1,H1,pi1,pd1,ps1,e1,L1,gh1,gx1⟩:=BV (k:=k) (g:=g) (l:=aS "pred" (.str (nm p)) l) G (L.put (by simp)) (ah _ _ _) x gh (h5 p (.head _)) (by have:=hz p;simp at this;lia)
  refine hZ (ih L1 (gx1.keep gh hT rfl) (gx1.sso gh x) gh1 (λq hq=>h5 q (.tail _ hq)) (λq=>by
   have:=hz q
   have:=pD g i p q
   simp at*;lia)) λl2 H2 pi2 pd2 ps2 e2 gh2 gx2=>?_
  refine kz ?_
  refine jq l2 H2 pi2 pd2 ps2 ?_ gh2 (gx1.trans gx2)
  generalize lD=bdy at e1 e2 ⊢
  exact λpp=>fm.next (a:=.str (nm p)) (rest:=be rest) (σ₁:=⟨aS "pred" (.str (nm p)) l,H⟩) hT (.inl rfl) (bg dL rfl) e1 (e2 pp)
end
theorem DR(P:Params)(x y:Value)(S:Setting)(D:Addr):kO (Kx P) S D (bindArgs (dw P 117) ⟨x::y::[],[]⟩)=some ([{cls:=.type "tuple",data:=.seq #[]}],[(("self":Str),x),(("node":Str),y),(("predecessors":Str),.ref D)]):=by w_on
theorem DY(P:Params)(x y a:Value)(S:Setting)(D:Addr):kO (Kx P) S D (bindArgs (dw P 117) ⟨x::y::[a],[]⟩)=some ([{cls:=.type "tuple",data:=.seq #[a]}],[(("self":Str),x),(("node":Str),y),(("predecessors":Str),.ref D)]):=by w_on
theorem C9(P:Params)(x y a b:Value)(S:Setting)(D:Addr):kO (Kx P) S D (bindArgs (dw P 117) ⟨x::y::[a,b],[]⟩)=some ([{cls:=.type "tuple",data:=.seq #[a,b]}],[(("self":Str),x),(("node":Str),y),(("predecessors":Str),.ref D)]):=by w_on
theorem CI(P:Params)(x y a b d:Value)(S:Setting)(D:Addr):kO (Kx P) S D (bindArgs (dw P 117) ⟨x::y::[a,b,d],[]⟩)=some ([{cls:=.type "tuple",data:=.seq #[a,b,d]}],[(("self":Str),x),(("node":Str),y),(("predecessors":Str),.ref D)]):=by w_on
theorem CO(P:Params)(x y a b d e:Value)(S:Setting)(D:Addr):kO (Kx P) S D (bindArgs (dw P 117) ⟨x::y::[a,b,d,e],[]⟩)=some ([{cls:=.type "tuple",data:=.seq #[a,b,d,e]}],[(("self":Str),x),(("node":Str),y),(("predecessors":Str),.ref D)]):=by w_on
theorem Fg(P:Params)(x y:Value)(S:Setting)(D:Addr):∀(ys:List Value),ys.length≤4→kO (Kx P) S D (bindArgs (dw P 117) ⟨x::y::ys,[]⟩)=some ([{cls:=.type "tuple",data:=.seq ys.toArray}],[(("self":Str),x),(("node":Str),y),(("predecessors":Str),.ref D)])
 | [],_=>DR P x y S D
 | [a],_=>DY P x y a S D
 | [a,b],_=>C9 P x y a b S D
 | [a,b,d],_=>CI P x y a b d S D
 | [a,b,d,e],_=>CO P x y a b d e S D
 |_::_::_::_::_::_,h=>by simp at h
noncomputable def nP(g:oF)(i n:Nat):oF:=⟨(fv g i).ord,iR (fv g i).np i ((fv g i).np i+n),(fv g i).su⟩
noncomputable def fy(g:oF)(i:Nat)(ps:List Nat):oF:=ps.foldl (fC i) (nP g i ps.length)
section
variable{g:oF}
theorem mz{fs rest:List AV}{nm:Str}(O:c.Ok)
  (hp:∀(ρ:Nat→Addr)(n:Nat)(xs ys:List Value),cF ρ n fs xs→ys.length=rest.length→∃b0,lV ρ n loc b0∧∀S D,kO c.K S D (bindArgs fd ⟨xs++ys,[]⟩)=some ([{cls:=.type "tuple",data:=.seq ys.toArray}],b0++[(nm,.ref D)])):
  iW c fd (fs++rest) [] H (loc++[(nm,.obj H.length)]) (H++[.tuple rest]):= λρ s xs ks hr hx hk=>by
 refine ct (pG hx) λx1 x2 z0 v1 v2=>?_;subst z0
 cases hk
 refine aj (hp ρ H.length x1 x2 v1 (aI v2)) λb0 kb hpk=>?_
 have hst:aM c ρ H.length (λ_=>False) s _ _ _:=cY ({cls:=.type "tuple",data:=.seq x2.toArray}:Obj) s.toks
 refine cG (gj ρ H.length s.heap.objs.size) ({s with heap:=s.heap.push {cls:=.type "tuple",data:=.seq x2.toArray}}) (b0++[(nm,.ref s.heap.objs.size)]) (λM A' E Q e1 e2 hq=>?_) (hr.alloc (ao:=.tuple rest) (ob:={cls:=.type "tuple",data:=.seq x2.toArray}) rfl (cH x2 _ rfl (v2.step hst))) ⟨rfl,rfl⟩ (by simpa using hst) ?_
 ·exact hW _ s _ (hr.X O) (hpk _ _) hq
 ·have l:(H++[AO.tuple rest]).length=H.length+1:=by simp
  rw[l]
  exact oE (kb.mono hst.ag hst.le) ⟨Zb _,by rw[aF]⟩
theorem GH.ext(gh:GH c H N ord np su pi pd ps)(e:bW H H'):GH c H' N ord np su pi pd ps:=
 ⟨gh.n.keep λo h=>e _ _ h,λi hi=>e _ _ (gh.i i hi),λi hi=>e _ _ (gh.d i hi),λi hi=>e _ _ (gh.s i hi),gh.ji,gh.js,gh.ni,gh.b,gh.nd⟩
theorem GX.ofExt(e:bW H H')(l:H.length≤H'.length):GX N H ord pi ps H' ord pi ps:=⟨l,λi hi=>⟨hi,rfl,rfl⟩,λi h1 h2=>absurd h1 h2,λy o h _ _=>e _ _ h⟩
theorem GB(G:c.Go)(x:SO H S D N .none po fi)(gh:GH c H N g.ord g.np g.su pi pd ps)(h5:i<5){preds:List Nat}(hp:∀p,p∈preds→p<5)(hl:preds.length≤4)(hz:∀p,(g.su p).length<800):
  ∃H' pi' pd' ps',Fn c (k+101) (.ref 117) (.obj S::.str (nm i)::be preds) [] H .none H'∧GH c H' N (fy g i preds).ord (fy g i preds).np (fy g i preds).su pi' pd' ps'∧GX N H g.ord pi ps H' (fy g i preds).ord pi' ps':=by
 have eT:bW H (H++[AO.tuple (be preds)]):=bW.app
 have x0:SO (H++[AO.tuple (be preds)]) S D N .none po fi:=⟨eT _ _ x.s,eT _ _ x.d⟩
 have gh0:=gh.ext eT
 have gx0:GX N H g.ord pi ps (H++[AO.tuple (be preds)]) g.ord pi ps:=.ofExt eT (by simp)
 have hT0:(H++[AO.tuple (be preds)])[H.length]?=some (.tuple (be preds)):=aP
 refine br λGz kz=>?_
 refine ia (B9 (k:=k+97) G x0 gh0 h5) λH1 pi1 pd1 ps1 f1 g1 gx1 m1=>?_
 have x1:=gx1.sso gh0 x0
 have hT1:=gx1.keep gh0 hT0 rfl
 refine aO (g1.setnp m1 ((fv g i).np i+preds.length)) λg2 gx2=>?_
 have x2:=gx2.sso g1 x1
 have hT2:=gx2.keep g1 hT1 rfl
 let l0:List (Str×AV):=[("self",.obj S),("node",.str (nm i)),("predecessors",.obj H.length)]
 let l1:List (Str×AV):=aS ("nodeinfo":Str) (.obj (pi1 i)) l0
 have L1:vA l1 S H.length i:=⟨rfl,rfl,rfl⟩
 refine bb (H1.set (pi1 i) (mW 70 (pd1 i) [some (.str (nm i)),some (.int ((fv g i).np i+preds.length)),some (.obj (ps1 i))])) λH2 e2=>?_
 refine kz ?_
 rw[←e2]at g2 gx2 x2 hT2
 refine br λGz kz=>?_
 refine hZ (Ay (k:=k) (i:=i) G preds (g:=nP g i preds.length) L1 hT2 x2 g2 hp (λp=>by
  have:((nP g i preds.length).su p).length≤(g.su p).length:=by
   show((fv g i).su p).length≤_
   unfold fv
   split
   ·exact ZA _
   ·show(iR g.su i [] p).length≤_
    by_cases q:p=i
    ·rw[q,bB];exact Zl _
    ·rw[cg q];exact ZA _
  have:=hz p
  lia)) λl' H' pi' pd' ps' lp g3 gx3=>?_
 refine kz ?_
 refine sH H' pi' pd' ps' ?_ g3 (((gx0.trans gx1).trans gx2).trans gx3)
 have bd:iW c (dw c.w.params 117) ([.obj S,.str (nm i)]++be preds) [] H ([(("self":Str),.obj S),(("node":Str),.str (nm i))]++[(("predecessors":Str),.obj H.length)]) (H++[.tuple (be preds)]):=mz G.ok λρ n xs ys hx hy=>by
  cases hx with
  |cons hx ht=>
   refine lL ht λ_ hx2=>?_
   refine al _ (.cons hx (.cons hx2 .nil)) λS D=>?_
   rw[G.hK]
   exact Fg _ _ _ _ _ _ (by show ys.length≤4;rw[hy];simpa[be]using hl)
 refine qC (fl:=.next) (k:=k+100) (loc:=[("self",.obj S),("node",.str (nm i)),("predecessors",.obj H.length)]) G (zr _) (by w_on) (by w_on) bd ?_
 apply aK (loc:=l')
 have s1:∀{p1 p2 p3 p4 p5 p6:Pos},(∀env,eval (.Call (.Attribute (.Name "self" p2) "_get_nodeinfo" p3) [.Name "node" p4] [] p5) env=(do
   let ov←eval (.Name "self" p2) env
   standAt p3.atName
   let(f,first)←holding [ov] (getMethod ov "_get_nodeinfo" (gD (.Name "self" p2) env))
   callWith p5 f first (backTo p5 (starEach [.Name "node" p4] env)) []))→(∀env,swapsWith (.Call (.Attribute (.Name "self" p2) "_get_nodeinfo" p3) [.Name "node" p4] [] p5) (some (.Name "nodeinfo" p1)) p6.line env=pure false)→Ex c lv (k+100) (.Assign [.Name "nodeinfo" p1] (.Call (.Attribute (.Name "self" p2) "_get_nodeinfo" p3) [.Name "node" p4] [] p5) p6) ⟨l0,H++[AO.tuple (be preds)]⟩ .next ⟨l1,H1⟩:= λ{p1 p2 p3 p4 p5 p6} he hs=>
  aw (σ₁:=⟨l0,H1⟩) dL rfl hs (gw G (qT _) (eE _) he (aa dL rfl rfl) x0.s x0.d rfl (AJ _) (af λ_=>rfl) (am (λ_=>rfl) (aa dL rfl rfl) au) f1)
 have s2:∀{p1 p2 p3 p4 p5 p6:Pos},Ex c lv (k+100) (.AugAssign (.Attribute (.Name "nodeinfo" p1) "npredecessors" p2) .Add (.Call (.Name "len" p3) [.Name "predecessors" p4] [] p5) p6) ⟨l1,H1⟩ .next ⟨l1,H2⟩:= λ{p1 p2 p3 p4 p5 p6}=>by
  have w:=fH (c:=c) (F:=lv) (k:=k+100) (σ:=⟨l1,H1⟩) (v:=.int ((fv g i).np i+preds.length)) G (iS _) (by decide) (g1.slt m1) (g1.d i m1)
  rw[e2]
  have ln:=vS (c:=c) (F:=lv) (k:=k+100) (σ:=⟨l1,H1⟩) (vs:=be preds) (by simp[be];lia) hT1
  rw[show(be preds).length=preds.length by simp[be]]at ln
  exact eM (aa dL rfl rfl) (dG G (iS _) (g1.slt m1) (g1.d i m1) rfl rfl) (dB (λ_=>rfl) (λ_=>rfl) (dg G dL rfl (tB _) og) (af λ_=>rfl) (am (λ_=>rfl) (aa dL rfl rfl) au) ln) eW w
 have s3:∀{p1 p2 p3:Pos},Ex c lv (k+100) (.For (.Name "pred" p1) (.Name "predecessors" p2) lD [] p3) ⟨l1,H2⟩ .next ⟨l',H'⟩:= λ{p1 p2 p3}=>by
  generalize lD=bdy at lp ⊢
  exact gr (I:=fK H.length (be preds)) G.ok fX (λ_ _=>rfl) (λ_ _=>rfl) (by lia) (aa dL rfl rfl) (lh hT2) (lp p1)
 k_dflt refine' ae (aL (t:=false) (av rfl (cb G dL rfl rfl x0 rfl rfl (iO _)) bx (bU rfl)) ar) (ae (s1 (λ_=>rfl) (λ_=>rfl)) (ae s2 (ae s3 ar)))
end
noncomputable def iw(c:Cx)(N ep:Nat)(es:List (Str×AV)):qc:=⟨λH=>H[N]?=some (ip c N ep es),λρ i o=>o.cls=.type "dict_valueiterator"∧o.data=.fields #[.ref (ρ N),.int i 0,.int es.length 0,.int ep 0],es.map (·.2)⟩
noncomputable def j5(c:Cx)(N ep:Nat)(es:List (Str×AV)):qc:=⟨λH=>H[N]?=some (ip c N ep es),λρ i o=>o.cls=.type "dict_keyiterator"∧o.data=.fields #[.ref (ρ N),.int i 0,.int es.length 0,.int ep 0],es.map λp=>.str p.1⟩
theorem aW.dctAt(r:aW c A F ρ σ s env)(hN:σ.H[N]?=some (ip c N ep es)):∃vs,cF ρ σ.H.length (es.map (·.2)) vs∧s.heap.DictAt (PySem.strKind c.prog c.w) (ρ N) ((es.map (·.1)).zip vs) ep∧(ρ N==sysModules)=false∧((es.map (·.1)).zip vs).length=es.length:=by
 refine aj (r.hr.at_ N _ hN) λob h1 h2=>?_
 have h3:=h2 ρ _ (λ_ _=>rfl) (ZA _)
 refine aj (h3.dictOf h1) λvs h4 h5=>?_
 have ln:=aI h4
 exact gz vs h4 h5 h3.2.1 (by rw[List.length_zip];simp at ln ⊢;lia)
theorem wB{ks:List Str}{vs:List Value}{k:Str}{v:Value}(h1:ks[i]?=some k)(h2:vs[i]?=some v):(ks.zip vs)[i]?=some (k,v):=by
 rw[List.getElem?_zip_eq_some]
 exact⟨h1,h2⟩
theorem gQ:(iw c N ep es).Good c where
 nd:= λρ i o h es ep q=>by rw[h.2]at q;cases q
 ag:= λρ ρ' H i o hk h e=>⟨h.1,by rw[e N (aq hk)];exact h.2⟩
 next:= λ{A F ρ σ s env it i o a Q E} r hk hit ho ha hap q=>by
  refine br λGz kz=>?_
  refine cv (r.dctAt hk) λvs h1 h2 h3 h4=>?_
  refine aj (fh h1 ha) λx hx vx=>?_
  refine kz ?_
  have il:=aq ha
  have il':i<es.length:=by simpa[iw]using il
  have hk':(es.map (·.1))[i]?=some (es[i].1):=by simp[il']
  refine wpAny_pyNext_values_item (bO o hit ho.1 (by rw[h4];exact ho.2)) h2 (wB hk' hx) λh' hi hs=>?_
  refine bz hi λo' g1 g2 g3=>?_
  exact q h' s.toks x o' vx g1 ⟨g2,by rw[h4]at g3;exact g3⟩ λb ob hb hne=>(hs.2 b hne).trans hb
 stop:= λ{A F ρ σ s env it i o Q E} hh r hk hit ho ha hap q=>by
  refine cv (r.dctAt hk) λvs h1 h2 h3 h4=>?_
  have il:((es.map (·.1)).zip vs)[i]?=none:=by
   rw[ZC,h4]
   have:=ZC.mp ha
   simpa[iw]using this
  refine wpAny_pyNext_values_end hh (bO o hit ho.1 (by rw[h4];exact ho.2)) h2 il λh' hx=>?_
  exact q h' s.toks λb ob hb hne=>hx b ob hne hb
 self:= λ{A s it ρ o i Q E} hit ho q=>wpAny_pyIter_valiter (bO o hit ho.1 ho.2) q
theorem rW:(j5 c N ep es).Good c where
 nd:= λρ i o h es ep q=>by rw[h.2]at q;cases q
 ag:= λρ ρ' H i o hk h e=>⟨h.1,by rw[e N (aq hk)];exact h.2⟩
 next:= λ{A F ρ σ s env it i o a Q E} r hk hit ho ha hap q=>by
  refine cv (r.dctAt hk) λvs h1 h2 h3 h4=>?_
  have il:=aq ha
  have il':i<es.length:=by simpa[j5]using il
  have ea:a=.str es[i].1:=by
   have:(es.map λp=>AV.str p.1)[i]?=some a:=ha
   rw[ZK,zG il']at this
   simpa using this.symm
  subst ea
  have hk':(es.map (·.1))[i]?=some (es[i].1):=by simp[il']
  have vl:i<vs.length:=by have:=aI h1;simp at this;lia
  refine wpAny_pyNext_dict_item (bO o hit ho.1 (by rw[h4];exact ho.2)) h2 (wB hk' (zG vl)) λkey h' hkey hi hs=>?_
  refine bz hi λo' g1 g2 g3=>?_
  refine bp (Value.isStrOf_shape hkey) λt z0=>?_;subst z0
  exact q h' s.toks _ o' ⟨t,rfl⟩ g1 ⟨g2,by rw[h4]at g3;exact g3⟩ λb ob hb hne=>(hs.2 b hne).trans hb
 stop:= λ{A F ρ σ s env it i o Q E} hh r hk hit ho ha hap q=>by
  refine cv (r.dctAt hk) λvs h1 h2 h3 h4=>?_
  have il:((es.map (·.1)).zip vs)[i]?=none:=by
   rw[ZC,h4]
   have:=ZC.mp ha
   simpa[j5]using this
  refine wpAny_pyNext_dict_end hh (bO o hit ho.1 (by rw[h4];exact ho.2)) h2 il λh' hx=>?_
  exact q h' s.toks λb ob hb hne=>hx b ob hne hb
 self:= λ{A s it ρ o i Q E} hit ho q=>wpAny_pyIter_keyiter (bO o hit ho.1 ho.2) q
noncomputable def nj(N:Nat):AO:=.is λρ n o=>N<n∧o.cls=.type "dict_values"∧o.data=.fields #[.ref (ρ N)]
theorem yg(hN:nM c σ.H N es):cJ c F k (λxs=>call (.builtin "dict.values") xs) [.obj N] σ (.obj σ.H.length) ⟨σ.loc,σ.H++[nj N]⟩:= λA ρ s env Q E xs K r hx q=>by
 refine lL hx λ_ h1=>?_
 refine aO h1 ?_;clear h1;intro nl z0;subst z0
 refine cv (r.dct hN) λvs g1 g2 g3 _=>?_
 refine call_meetsIn PySem.F.slot_dict_values g2.typeIs PySem.F.entry_dict_values (PySem.F.args_dict_values_1 _) (meets_dict_values (PySem.strKind c.prog c.w) (ρ N) g3) ⟨⟨_,g2⟩,?_⟩
 refine aO (r.alloc (ao:=nj N) (ob:={cls:=.type "dict_values",data:=.fields #[.ref (ρ N)]}) s.toks rfl (λρ' n' ag le=>⟨ZE nl (Z2 (Zf _) le),rfl,by rw[ag N (Zd nl),bc nl]⟩)) λr2 st2=>?_
 exact q _ _ _ r2 st2 ⟨by simp,by rw[aF]⟩
theorem CV{V:Nat}(hV:σ.H[V]?=some (nj N))(hN:σ.H[N]?=some (ip c N ep es)):Mk c (iw c N ep es) (.obj V) σ:= λ{A F ρ s env x Q E} r hx q=>by
 refine br λGz kz=>?_
 refine aO hx ?_;clear hx;intro _ z0;subst z0
 refine aj (r.hr.at_ V _ hV) λob h1 h2=>?_
 refine fP (h2 ρ _ (λ_ _=>rfl) (ZA _)) λ_ h3 h4=>?_
 refine cv (r.dctAt hN) λvs g1 g2 g3 g4=>?_
 refine kz ?_
 refine wpAny_pyIter_values (bO ob h1 h3 h4) g2 ?_
 rw[g4]
 exact q _ s.toks ⟨rfl,rfl⟩ rfl
theorem Ea(hN:σ.H[N]?=some (ip c N ep es)):Mk c (j5 c N ep es) (.obj N) σ:= λ{A F ρ s env x Q E} r hx q=>by
 refine aO hx ?_;clear hx;intro _ z0;subst z0
 refine cv (r.dctAt hN) λvs g1 g2 g3 g4=>?_
 refine wpAny_pyIter_dict g3 g2 ?_
 rw[g4]
 exact q _ s.toks ⟨rfl,rfl⟩ rfl
section
open PySem PySem.W PyProof.Rows Builtin Builtin.ObjectAttr
noncomputable def GP{α:Type}(S:Setting)(x:Addr)(ob:Obj)(R:Heap→α→Prop):Sem α→Heap→Addr→Prop
 | .pure a,h,_=>R h a
 | .rule _ k,h,D=>GP S x ob R (k ()) h D
 | .point _ k,h,D=>GP S x ob R (k ()) h D
 | .ask k,h,D=>GP S x ob R (k S) h D
 | .load a _ k,h,D=>a=x∧GP S x ob R (k ob) h D
 | .alloc o k,h,D=>GP S x ob R (k D) (h.push o) (D+1)
 |_,_,_=>False
theorem xR{Q:α→Shared→Prop}{x:Addr}{ob:Obj}{g:Array GenState}{d:Drawn}{os:OsState}:
  ∀(t:Sem α)(h:Heap)(D:Nat),h.objs.size=D→h.get? x=some ob→GP ⟨M.prog,M.w.params⟩ x ob (λh a=>Q a ⟨h,g,d,tk,os⟩) t h D→wpAny M A t Q E ⟨h,g,d,tk,os⟩:=by
 intro t
 induction t with
 |pure b=>intro h D _ X e;exact YD e
 |rule _ k ih=>intro h D z X e Γ p hΓ;exact ih () h D z X e Γ p hΓ
 |point _ k ih=>intro h D z X e Γ p hΓ;exact ih () h D z X e Γ p hΓ
 |ask k ih=>intro h D z X e Γ p hΓ;exact ih _ h D z X e Γ p hΓ
 |load b _ k ih=>
  intro h D z X e Γ p hΓ
  exact al ob (e.1▸X) (ih ob h D z X e.2 Γ p hΓ)
 |alloc o k ih=>
  intro h D z X e
  subst z
  exact YC (f:=k) (wpAny_alloc (ih _ _ _ (Zo _ _) (zH _ X) e))
 |_=>intro h D z X e;exact e.elim
theorem Gw:typeLookup (.type "list_iterator") "__getattribute__"=pure (some (.builtin "object.__getattribute__")):=by rw[typeLookup_type,builtinLookup_eq_fast];w_on
theorem EK:typeLookup (.type "list_iterator") "__next__"=pure (some (.builtin "list_iterator.__next__")):=by rw[typeLookup_type,builtinLookup_eq_fast];w_on
theorem F9:typeOf (.builtin "list_iterator.__next__")=pure (.type "wrapper_descriptor"):=by show builtinType _=_;rw[builtinType_eq_fast];w_on
theorem Gf:typeLookup (.type "wrapper_descriptor") "__get__"=pure (some (.builtin "wrapper_descriptor.__get__")):=by rw[typeLookup_type,builtinLookup_eq_fast];w_on
theorem Fi:typeLookup (.type "wrapper_descriptor") "__set__"=pure none:=by rw[typeLookup_type,builtinLookup_eq_fast];w_on
theorem F1:typeLookup (.type "wrapper_descriptor") "__delete__"=pure none:=by rw[typeLookup_type,builtinLookup_eq_fast];w_on
theorem Il:specialOf (.builtin "list_iterator.__next__") "__get__"=pure (some (.builtin "wrapper_descriptor.__get__")):=by
 unfold specialOf;rw[F9];exact Gf
theorem G6:takesStores (.builtin "list_iterator.__next__")=pure false:=by
 unfold takesStores specialOf
 rw[F9]
 show(typeLookup (.type "wrapper_descriptor") "__set__" >>=_)=_
 rw[Fi]
 show(typeLookup (.type "wrapper_descriptor") "__delete__" >>=_)=_
 rw[F1]
 rfl
theorem Df{vs:Array Value}{Q:Found→Shared→Prop}(ho:s.heap.get? it=some o)(hc:o.cls=.type "list_iterator")(hd:o.data=.fields vs)(hn:o.dict=none)(h:Q (.bind (.builtin "wrapper_descriptor.__get__") (.builtin "list_iterator.__next__")) s):
  wpAny (model prog w) A (Builtin.ObjectAttr.find (.ref it) (.type "list_iterator") "__next__") Q E s:=by
 unfold Builtin.ObjectAttr.find
 rw[EK]
 refine YC (YD ?_)
 show wpAny _ _ (specialOf (.builtin "list_iterator.__next__") "__get__" >>=_) _ _ _
 rw[Il]
 refine YC (YD ?_)
 show wpAny _ _ ((takesStores (.builtin "list_iterator.__next__") >>=_) >>=_) _ _ _
 rw[G6]
 refine YC (YC (YD (YD ?_)))
 show wpAny _ _ (ownThenClass _ _ _ _) _ _ _
 unfold ownThenClass inOwnDict Builtin.ObjectAttr.ownDict
 refine YC (YC (YC (wpAny_loadPart ho ?_)))
 rw[hd]
 unfold instanceDict
 refine YC (wpAny_loadPart ho ?_)
 rw[hc,hn]
 exact YD (YD (YC (YD (YC (wpAny_rule (YD h))))))
theorem xp:Slot "list_iterator" "__getattribute__" "object.__getattribute__":=
 .of (owner:="object") (n:="__getattribute__") (by rw[typeLookup_type,builtinLookup_eq_fast];w_on) (by decide+kernel) (by decide+kernel) (by decide+kernel) (.inl (by decide+kernel)) (by rw[isSubtype_type];w_on)
theorem xW:entryFor table "object.__getattribute__"=some Builtin.«object.__getattribute__»:=entryFor_of_tree (by w_on)
theorem Bl(a b:Value):argsOk "object.__getattribute__" ⟨[a,b],[]⟩:=by unfold argsOk;w_on
theorem DL:Slot "wrapper_descriptor" "__get__" "wrapper_descriptor.__get__":=
 .of (owner:="wrapper_descriptor") (n:="__get__") (by rw[typeLookup_type,builtinLookup_eq_fast];w_on) (by decide+kernel) (by decide+kernel) (by decide+kernel) (.inl (by decide+kernel)) (by rw[isSubtype_type];w_on)
theorem yT:entryFor table "wrapper_descriptor.__get__"=some Builtin.«wrapper_descriptor.__get__»:=entryFor_of_tree (by w_on)
theorem Ej(a b d:Value):argsOk "wrapper_descriptor.__get__" ⟨[a,b,d],[]⟩:=by unfold argsOk;w_on
theorem Fb(S:Setting)(D it:Addr)(vs:Array Value)(sl:Array (Option Value))(h:Heap)(R:Heap→Fin→Prop):GP S it {cls:=.type "list_iterator",dict:=none,data:=.fields vs,slots:=sl} R (Builtin.«wrapper_descriptor.__get__» ⟨[.builtin "list_iterator.__next__",.ref it,.type "list_iterator"],[]⟩) h D=(it=it∧R (h.push {cls:=.type "method-wrapper",data:=.fields #[.builtin "list_iterator.__next__",.ref it]}) (.done (.ret (.ref D)))):=by w_on
theorem Dg{vs:Array Value}{sl:Array (Option Value)}(ho:s.heap.get? it=some {cls:=.type "list_iterator",dict:=none,data:=.fields vs,slots:=sl})(h:Q (.ref s.heap.objs.size) {s with heap:=s.heap.push {cls:=.type "method-wrapper",data:=.fields #[.builtin "list_iterator.__next__",.ref it]}}):
  wpAny (model prog w) A (call (.builtin "wrapper_descriptor.__get__") [.builtin "list_iterator.__next__",.ref it,.type "list_iterator"]) Q E s:=by
 refine wpAny_call_entry DL (show s.TypeIs (.builtin "list_iterator.__next__") "wrapper_descriptor" from F9) yT ?_ (Ej _ _ _)
 refine xR _ _ _ rfl ho ?_
 rw[Fb]
 exact⟨rfl,_,rfl,h⟩
theorem uE{vs:Array Value}{sl:Array (Option Value)}(ho:s.heap.get? it=some {cls:=.type "list_iterator",dict:=none,data:=.fields vs,slots:=sl})(h:Q (.ref s.heap.objs.size) {s with heap:=s.heap.push {cls:=.type "method-wrapper",data:=.fields #[.builtin "list_iterator.__next__",.ref it]},toks:=s.toks+1}):
  wpAny (model prog w) A (getAttr (.ref it) "__next__" ex) Q E s:=by
 have hT:s.TypeIs (.ref it) "list_iterator":=al _ ho rfl
 unfold getAttr getAttrBy
 refine YC (wpAny_mkText (YF (YC ?_)))
 have hTy:Looks (model prog w) s.heap (typeOf (.ref it)) (.type "list_iterator"):=(Looks.ld ho).andThen .now
 refine hTy.here (s:={s with toks:=s.toks+1}) ?_
 rw[Gw]
 refine YC (YD ?_)
 show wpAny _ _ (getAttrByItsOwn (Value.ref it) (Value.str (Str.ofString "__next__") s.toks) (Value.type "list_iterator") (Value.builtin "object.__getattribute__") true ex) _ _ _
 unfold getAttrByItsOwn
 refine YC (show wpAny _ _ (pure none) _ _ _ from YD ?_)
 refine YC (wpAny_attempt (YF ?_))
 have e1:callGetattribute (Value.ref it) (Value.str (Str.ofString "__next__") s.toks) (Value.builtin "object.__getattribute__") ex=boundAndCalled (Value.builtin "object.__getattribute__") (Value.ref it) (Value.str (Str.ofString "__next__") s.toks):=by cases ex<;>rfl
 rw[e1]
 unfold boundAndCalled
 rw[xp.bind]
 refine YC (YD ?_)
 have hT':Shared.TypeIs {s with toks:=s.toks+1} (.ref it) "list_iterator":=hT
 refine wpAny_call_entry xp hT' xW ?_ (Bl _ _)
 unfold Builtin.«object.__getattribute__»
 refine YC (show wpAny _ _ (pure (Value.ref it,[Value.str (Str.ofString "__next__") s.toks])) _ _ _ from YD ?_)
 refine YC (show wpAny _ _ (pure (Str.ofString "__next__")) _ _ _ from YD ?_)
 refine YC (hTy.here (s:={s with toks:=s.toks+1}) ?_)
 refine YC (Df (s:={s with toks:=s.toks+1}) ho rfl rfl rfl ?_)
 show wpAny _ _ (holding [.builtin "list_iterator.__next__"] (call (.builtin "wrapper_descriptor.__get__") [.builtin "list_iterator.__next__",.ref it,.type "list_iterator"]) >>= λv=>ret v) _ _ _
 refine YC (YF (Dg (s:={s with toks:=s.toks+1}) ho (YD (al _ rfl ?_))))
 show wpAny _ _ (handedOut (.ref _)) _ _ _
 exact YD h
theorem sS:plainId "list_iterator.__next__"=true:=by decide+kernel
theorem wT{u:Addr}(ho:s.heap.get? u=some {cls:=.type "method-wrapper",data:=.fields #[.builtin "list_iterator.__next__",.ref it]})(hT:s.TypeIs (.ref it) "list_iterator")
  (h:wpAny (model prog w) A.in1 (Builtin.«list_iterator.__next__» ⟨[.ref it],[]⟩) (λfin s'=>∃v,fin=.done (.ret v)∧Q v s') E s):wpAny (model prog w) A (call (.ref u) []) Q E s:=by
 refine wpAny_call (codeAny_of_tree ?_)
 show wpAny _ A.in1 (callAny (.ref u) ⟨[],[]⟩) _ _ s
 refine YC (wpAny_load ho ?_)
 simp only[show(Value.type "method-wrapper"==Value.type "method"||Value.type "method-wrapper"==Value.type "builtin_function_or_method"||Value.type "method-wrapper"==Value.type "method-wrapper")=true by decide,if_true]
 show wpAny _ _ (checkBoundCall "list_iterator.__next__" ⟨[.ref it],[]⟩ >>= λ_=>again (.builtin "list_iterator.__next__" ⟨[.ref it],[]⟩)) _ _ _
 have e:checkBoundCall "list_iterator.__next__" ⟨[.ref it],[]⟩=pure ():=by w_on
 rw[e]
 refine YC (YD (YD ⟨plainId_quiet sS _,codeAny_builtin entry_listiter_next ?_⟩))
 rw[Around.under_plainId sS _]
 refine YE h (λfin s' h'=>?_) λ_ _ h'=>h'
 refine aj h' ?_;clear h';intro v z0 h';subst z0
 exact h'
end
noncomputable def mP(j i:Nat):AO:=.is λρ n o=>j<n∧∃sl,o={cls:=.type "list_iterator",dict:=none,data:=.fields #[.ref (ρ j),.int i 0],slots:=sl}
noncomputable def Cw(t:Nat):AO:=.is λρ n o=>t<n∧o={cls:=.type "method-wrapper",data:=.fields #[.builtin "list_iterator.__next__",.ref (ρ t)]}
noncomputable def qN:AO:=.is λ_ _ _=>True
theorem C2(hj:σ.H[j]?=some (.list vs)):cJ c F k (λxs=>call (.builtin "iter") xs) [.obj j] σ (.obj σ.H.length) ⟨σ.loc,σ.H++[mP j 0]⟩:= λA ρ s env Q E xs K r hx q=>by
 refine lL hx λ_ h1=>?_
 refine aO h1 ?_;clear h1;intro jl z0;subst z0
 refine bz (r.list hj) λits h3 h4 _=>?_
 refine Calls.call_function_entry (by decide+kernel) (by decide+kernel) kdk_entry_iter (kdk_args_iter _) ?_
 unfold Builtin.«iter»
 refine YC (m:=someArgs "iter" 1 2 _) (wpAny_of_eq (a:=[Value.ref (ρ j)]) (by first|rfl|kernel_rfl!) ?_)
 show wpAny _ _ (pyIter (.ref _) >>=_) _ _ _
 refine YC (wpAny_pyIter_list h3 ?_)
 refine aO (r.alloc (ao:=mP j 0) (ob:={cls:=.type "list_iterator",data:=.fields #[.ref (ρ j),.int 0 0]}) s.toks rfl (λρ' n' ag le=>⟨ZE jl (Z2 (Zf _) le),#[],by rw[ag j (Zd jl),bc jl];rfl⟩)) λr2 st2=>?_
 exact YD (al _ rfl (q _ _ _ r2 st2 ⟨by simp,by rw[aF]⟩))
theorem rV{t:Nat}(ht:σ.H[t]?=some (mP j i)):oO c F k (λx=>getAttr x "__next__" ex) (.obj t) σ (.obj σ.H.length) ⟨σ.loc,σ.H++[Cw t]⟩:= λA ρ s env Q E x K r hx q=>by
 refine aO hx ?_;clear hx;intro tl z0;subst z0
 refine aj (r.hr.at_ t _ ht) λob h1 h2=>?_
 refine Gx (h2 ρ _ (λ_ _=>rfl) (ZA _)) λ_ sl h3=>?_
 subst h3
 refine uE h1 ?_
 refine aO (r.alloc (ao:=Cw t) (ob:={cls:=.type "method-wrapper",data:=.fields #[.builtin "list_iterator.__next__",.ref (ρ t)]}) (s.toks+1) rfl (λρ' n' ag le=>⟨ZE tl (Z2 (Zf _) le),by rw[ag t (Zd tl),bc tl]⟩)) λr2 st2=>?_
 exact q _ _ _ r2 st2 ⟨by simp,by rw[aF]⟩
theorem pN{u:Addr}(ho:s.heap.get? u=some {cls:=.type "method-wrapper",data:=.fields #[.builtin "list_iterator.__next__",.ref it]}):∃kp,Looks c.M s.heap (keeperOf (.ref u)) kp:=
 ⟨.machine,(Looks.ld ho).andThen .now⟩
theorem aW.mw{u t:Nat}(r:aW c A F ρ σ s env)(hu:σ.H[u]?=some (Cw t))(ht:σ.H[t]?=some (mP j i))(hj:σ.H[j]?=some (.list vs)):
  s.heap.get? (ρ u)=some {cls:=.type "method-wrapper",data:=.fields #[.builtin "list_iterator.__next__",.ref (ρ t)]}∧(∃sl,s.heap.get? (ρ t)=some {cls:=.type "list_iterator",dict:=none,data:=.fields #[.ref (ρ j),.int i 0],slots:=sl})∧∃its:List Value,s.heap.IsList (ρ j) its.toArray∧cF ρ σ.H.length vs its:=by
 refine aj (r.hr.at_ u _ hu) λob h1 h2=>?_
 refine aO (h2 ρ _ (λ_ _=>rfl) (ZA _)) λ_ h3=>?_
 subst h3
 refine aj (r.hr.at_ t _ ht) λob' g1 g2=>?_
 refine Gx (g2 ρ _ (λ_ _=>rfl) (ZA _)) λ_ sl g3=>?_
 subst g3
 refine bz (r.list hj) λits k1 k2 _=>?_
 exact⟨h1,⟨sl,g1⟩,its,k1,k2⟩
theorem yb{u t:Nat}(O:c.Ok)
  (he:∀env,eval (.Call func [] [] pos) env=(do callWith pos (←eval func env) [] (backTo pos (starEach [] env)) (backToKw pos (keywordEach [] env))))
  (h0:Ev c F k func σ (.obj u) σ₁)(hu:σ₁.H[u]?=some (Cw t))(ht:σ₁.H[t]?=some (mP j i))(hj:σ₁.H[j]?=some (.list vs))(hv:vs[i]?=some v):Ev c F k (.Call func [] [] pos) σ v ⟨σ₁.loc,σ₁.H.set t (mP j (i+1))⟩:= λA ρ s env Q E K r h=>by
 rw[he env]
 refine YC (h0 A ρ s env _ E K r λρ1 s1 x r1 st1 vx=>?_)
 refine aO vx ?_;clear vx;intro _ z0;subst z0
 refine ug (r1.mw hu ht hj) λg1 z0 its g3 g4=>bp z0 λsl g2=>?_
 have tl:=aq ht
 have jl:=aq hj
 refine cu (PySem.evalArgs_none ⟨pN g1,?_⟩)
 refine wT g1 (al _ g2 rfl) ?_
 refine br λGz kz=>?_
 refine qL g3 λo ho hc nl hd=>?_
 refine aj (fh g4 hv) λx hx vx=>?_
 refine kz ?_
 refine YC (YD ?_)
 show wpAny _ _ (field (.ref _) 0 >>=_) _ _ s1
 refine YC (wpAny_field g2 rfl (x:=.ref (ρ1 j)) rfl ?_)
 show wpAny _ _ (if(Value.ref _==Value.none)=true then _ else _) _ _ s1
 rw[if_neg (show ¬((Value.ref _==Value.none)=true)from Z0)]
 show wpAny _ _ (field (.ref _) 1 >>=_) _ _ s1
 refine YC (wpAny_field g2 rfl (x:=.int i 0) rfl ?_)
 show wpAny _ _ (seqItems? (.ref _) >>=_) _ _ s1
 refine YC (wpAny_seqItems ho hd ?_)
 simp only[Int.toNat_natCast,List.getElem?_toArray,hx]
 refine YC (wpAny_setField g2 rfl (by simp) (YD (al x rfl ?_)))
 have ne:=r1.ap t tl
 refine aO (r1.upd (ao:=mP j (i+1)) (tk:=s1.toks) tl (Zw _ g2 (Obj.isFreed_of_fields (Obj.data_mapFields rfl (·.setIfInBounds 1 (rawInt ((i:Int)+1)))))) (λρ' n' ag le=>⟨ZE jl le,sl,by rw[ag j jl];rfl⟩) (λb ob hb h1 h2=>by rw[ZU _ _ (Ne.symm h2)];exact hb) (λm hm=>by
  obtain⟨o,es,ep,e1,d1,z⟩:=hm
  exact jv o es ep (by rw[ZU _ _ ne];exact e1) d1 z)) λr2 st2=>?_
 exact h ρ1 _ x r2 (st1.trans st2) (by
  have:(σ₁.H.set t (mP j (i+1))).length=σ₁.H.length:=by simp
  show VR ρ1 (σ₁.H.set t (mP j (i+1))).length v x
  rw[this];exact vx)
theorem Eu{Q:α→Shared→Prop}(hh:A.handled=none)
  (h:∀h' e,yt s.heap h' e "StopIteration" false→E (.ref e) {s with heap:=h'}):wpAny c.M A (newExc (.type "StopIteration") [] >>= λe=>(raiseNew e:Sem α)) Q E s:=by
 refine YC ?_
 simp only[newExc,newTuple]
 refine YC (wpAny_newObj_type ?_ (by size_fits))
 refine YC (m:=firstArgMember _ _) (wpAny_of_eq (a:=Value.none) (by first|rfl|(simp only[firstArgMember];rfl)) ?_)
 refine wpAny_newObj_type ?_ (by size_fits)
 simp only[raiseNew]
 refine YC (wpAny_handled ?_)
 rw[hh]
 refine YC (YD (wpAny_throw ?_))
 have e1:(s.heap.push {cls:=.type "tuple",dict:=none,data:=.seq ([]:List Value).toArray}).objs.size=s.heap.objs.size+1:=Zo ..
 refine h _ _ ⟨λb o hb=>zH _ (zH _ hb),Heap.get?_none_of_le (by rw[e1];lia),_,_,ZN _ rfl,rfl,rfl,rfl,rfl,λ_=>rfl⟩
theorem ut{u t:Nat}(O:c.Ok)(hf:F.def)
  (he:∀env,eval (.Call func [] [] pos) env=(do callWith pos (←eval func env) [] (backTo pos (starEach [] env)) (backToKw pos (keywordEach [] env))))
  (h0:Ev c F k func σ (.obj u) σ₁)(hu:σ₁.H[u]?=some (Cw t))(ht:σ₁.H[t]?=some (mP j i))(hj:σ₁.H[j]?=some (.list vs))(hv:vs[i]?=none):fw c F k false true (eval (.Call func [] [] pos)) σ "StopIteration" ⟨σ₁.loc,σ₁.H.set t qN⟩:= λA ρ s env Q E K r hd h=>by
 rw[he env]
 refine YC (h0 A ρ s env _ E K r λρ1 s1 x r1 st1 vx=>?_)
 refine aO vx ?_;clear vx;intro _ z0;subst z0
 refine ug (r1.mw hu ht hj) λg1 z0 its g3 g4=>bp z0 λsl g2=>?_
 have tl:=aq ht
 have jl:=aq hj
 refine cu (PySem.evalArgs_none ⟨pN g1,?_⟩)
 refine wT g1 (al _ g2 rfl) ?_
 refine qL g3 λo ho hc nl hdd=>?_
 have hx:its[i]?=none:=by
  rw[ZC]at hv ⊢
  rw[aI g4];exact hv
 refine YC (YD ?_)
 show wpAny _ _ (field (.ref _) 0 >>=_) _ _ s1
 refine YC (wpAny_field g2 rfl (x:=.ref (ρ1 j)) rfl ?_)
 show wpAny _ _ (if(Value.ref _==Value.none)=true then _ else _) _ _ s1
 rw[if_neg (show ¬((Value.ref _==Value.none)=true)from Z0)]
 show wpAny _ _ (field (.ref _) 1 >>=_) _ _ s1
 refine YC (wpAny_field g2 rfl (x:=.int i 0) rfl ?_)
 show wpAny _ _ (seqItems? (.ref _) >>=_) _ _ s1
 refine YC (wpAny_seqItems ho hdd ?_)
 simp only[Int.toNat_natCast,List.getElem?_toArray,hx]
 refine YC (wpAny_rule (YC (wpAny_setField g2 rfl (by simp) ?_)))
 have ne:=r1.ap t tl
 refine aO (r1.upd (ao:=qN) (tk:=s1.toks) tl (Zw _ g2 (Obj.isFreed_of_fields (Obj.data_mapFields rfl (·.setIfInBounds 0 .none)))) (λρ' n' ag le=>trivial) (λb ob hb h1 h2=>by rw[ZU _ _ (Ne.symm h2)];exact hb) (λm hm=>by
  obtain⟨o,es,ep,e1,d1,z⟩:=hm
  exact jv o es ep (by rw[ZU _ _ ne];exact e1) d1 z)) λr2 st2=>?_
 refine Eu hd λh' e nx=>?_
 refine fP (nx.exO (tk:=s1.toks) r2) λr3 st3 x3=>?_
 exact h ρ1 _ e false r3 ((st1.trans st2).trans st3) (x3.back λb o e=>(st1.trans st2).kp.1 b o e)
noncomputable def Js(c:Cx)(xs:List Str)(o:Obj):Prop:=∃es ep t,o.ExactSet∧o.data=.set es ep t∧ElemsOf (PySem.strKind c.prog c.w) es.toList∧(∀k,xs.contains k=true↔∃e∈es.toList,(PySem.strKind c.prog c.w).is k e.2=true)∧es.size<scanBound∧t.fits es.size=true∧es.size=xs.length
noncomputable def si(c:Cx)(xs:List Str):AO:=.is λ_ _ o=>Js c xs o
theorem Fd(xs:List Str)(x k:Str):(xs++[x]).contains k=true↔(xs.contains k||decide (k=x))=true:=by simp[ZF]
theorem aW.set(r:aW c A F ρ σ s env)(hj:σ.H[j]?=some (si c xs)):s.heap.SetOf (PySem.strKind c.prog c.w) (ρ j) xs.contains xs.length:=by
 refine br λGz kz=>?_
 refine aj (r.hr.at_ j _ hj) λob h1 h2=>?_
 refine dh (h2 ρ _ (λ_ _=>rfl) (ZA _)) λes ep t h3 h4 h5=>?_
 refine kz ?_
 exact fG ob es ep t h1 h3 h4 h5
theorem CD:cJ c F k (λxs=>call (.type "set") xs) [] σ (.obj σ.H.length) ⟨σ.loc,σ.H++[si c []]⟩:= λA ρ s env Q E xs K r hx q=>by
 cases hx
 refine call_set_0 λled=>?_
 refine aO (r.alloc (ao:=si c []) (ob:={cls:=.type "set",dict:=none,data:=.set #[] 0 (.fresh 0 0 led)}) s.toks rfl (λρ' n' ag le=>mB (#[]) 0 (.fresh 0 0 led) ⟨rfl,rfl,rfl⟩ rfl (λe he=>by cases he) (λk=>⟨λh=>(by cases h),λ⟨e,he,_⟩=>(by cases he)⟩) (by decide) rfl rfl)) λr2 st2=>?_
 exact q _ _ _ r2 st2 ⟨by simp,by rw[aF]⟩
theorem GG(slot:Slot "set" name id)(hty:typeOf (.builtin id)=pure (.type "method_descriptor"))(hj:σ.H[j]?=some (si c xs)):GM c F (.obj j) σ name id:= λ{A ρ s env y pl Q E} r hx q=>by
 refine aO hx ?_;clear hx;intro _ z0;subst z0
 have hs:=r.set hj
 exact getMethod_builtin hs.typeIs PySem.F.plainAttrs_set slot hty hs.noDict q
theorem tO(hj:σ.H[j]?=some (si c xs))(hx:xs.contains x=false)(hl:xs.length<100):cJ c F k (λxs=>call (.builtin "set.add") xs) [.obj j,.str x] σ .none ⟨σ.loc,σ.H.set j (si c (xs++[x]))⟩:= λA ρ s env Q E ys K r hy q=>by
 cases hy with
 |cons h1 h2=>
  refine lL h2 λ_ h2=>?_
  refine aO h1 ?_;clear h1;intro jl z0;subst z0
  refine bp h2 ?_;clear h2;intro t z0;subst z0
  refine call_set_add (knd:=PySem.strKind c.prog c.w) (k:=x) dV rfl (r.set hj) (by show xs.length+1<4096;lia) λh' hs hS=>?_
  rw[hx]at hS
  refine br λGz kz=>?_
  obtain⟨o,es,ep,t',g1,g2,g3,g4,g5,g6,g7,g8⟩:=hS
  have ne:=r.ap j jl
  refine aO (r.upd (ao:=si c (xs++[x])) (tk:=s.toks+1) jl g1 (λρ' n' ag le=>mB es ep t' g2 g3 g4 (λk=>(Fd xs x k).trans (g5 k)) g6 g7 (g8.trans (by simp))) (λb ob hb h1 h2=>(hs.2 b h2).trans hb) (λm hm=>by
   obtain⟨o,es,ep,e1,d1,z⟩:=hm
   exact jv o es ep ((hs.2 _ (Ne.symm ne)).trans e1) d1 z)) λr2 st2=>?_
  refine kz ?_
  exact q ρ _ _ r2 st2 rfl
theorem GL(hj:σ.H[j]?=some (si c xs))(ht:xs.contains x=t):du c F k (compareOp .In) (.str x) (.obj j) σ (.bool t) σ:= λA ρ s env Q E a b K r ha hb q=>by
 refine bp ha ?_;clear ha;intro t' z0;subst z0
 refine aO hb ?_;clear hb;intro _ z0;subst z0
 refine wpAny_inSet_of (knd:=PySem.strKind c.prog c.w) (k:=x) dV rfl (r.set hj) ?_
 rw[ht]
 exact q ρ _ _ (r.toks _) (.toks _) rfl
theorem uQ(hj:σ.H[j]?=some (.list vs))(hl:vs.length<1000)(ht:(!vs.isEmpty)=t):EZ c F k truthy (.obj j) σ (λ_ x=>x=t) σ:= λA ρ s env Q E x K r hx q=>by
 refine aO hx ?_;clear hx;intro _ z0;subst z0
 refine bz (r.list hj) λits h1 h2 h3=>?_
 have ln:=aI h2
 refine wpAny_truthy_list h1 (by show((its.length:Nat):Int)<_;lia) ?_
 refine q ρ _ _ (r.toks _) (.toks _) ?_
 rw[←ht]
 cases its<;>cases vs<;>simp_all
theorem pX{xs:List Value}(h:cF ρ n vs xs):cF ρ n vs.dropLast xs.dropLast:=by
 induction h with
 |nil=>exact .nil
 |cons h t ih=>cases t with
  |nil=>exact .nil
  |cons h2 t2=>exact .cons h ih
theorem Cc(hj:σ.H[j]?=some (.list (vs++[v])))(hl:vs.length<1000):cJ c F k (λxs=>call (.builtin "list.pop") xs) [.obj j] σ v ⟨σ.loc,σ.H.set j (.list vs)⟩:= λA ρ s env Q E ys K r hy q=>by
 refine lL hy λ_ h1=>?_
 refine br λGz kz=>?_
 refine aO h1 ?_;clear h1;intro jl z0;subst z0
 refine aj (r.hr.at_ j _ hj) λob g1 g2=>?_
 refine ds g2 ?_;clear g2;intro its e z0 h3;subst z0
 have ln:=aI h3
 rw[List.length_append,List.length_singleton]at ln
 refine aj (fh h3 (i:=vs.length) (a:=v) (by simp)) λy hy vy=>?_
 refine kz ?_
 refine call_meets PySem.F.slot_list_pop (al _ g1 rfl) PySem.F.entry_list_pop (PySem.F.args_list_pop_1 _) (PySem.MeetsSeq.list_pop_last (ρ j) ⟨its⟩ e y (by rw[Ze,List.getElem?_toArray,ln];exact hy) (by rw[Ze,ln];unfold sizeLine;lia)) ⟨g1,?_⟩
 have dl:its.eraseIdx vs.length=its.dropLast:=by
  rw[List.dropLast_eq_take,List.eraseIdx_eq_take_drop_succ,ln,List.drop_eq_nil_of_le (by lia)];simp
 refine aO (r.updL (ho:=g1) (acc':=vs) (f:= λxs=>xs.eraseIdxIfInBounds (its.length - 1)) (tk:=s.toks) hj (al its.dropLast (by
  show(Array.mk its).eraseIdxIfInBounds (its.length - 1)=_
  apply Array.toList_inj.mp
  rw[Array.toList_eraseIdxIfInBounds,←dl]
  simp[ln]) (by have:=pX h3;rwa[List.dropLast_concat]at this))) λr2 st2=>?_
 exact q ρ _ _ r2 st2 (by
  have:(σ.H.set j (.list vs)).length=σ.H.length:=by simp
  show VR ρ (σ.H.set j (.list vs)).length v y
  rw[this];exact vy)
theorem vH{o i:Expr}{sp:Pos}(e0:Ev c F k o σ (.obj N) σ₁)(e1:Ev c F k i σ₁ (.str x) σ₂)(hN:nM c σ₂.H N es)(hx:(es.lookup x).isSome=true)(hl:es.length<1000):
  Ex c F k (.Delete [.Subscript o i sp] pos) σ .next ⟨σ₂.loc,σ₂.H.set N (di c N (es.filter λp=>p.1 != x))⟩:= λA ρ s env Q E K r q=>
 wpAny_Delete (wpAny_deleteEach_cons (wpAny_delete_Subscript (e0 A ρ s env _ E K r λρ1 s1 y r1 st1 vx=>e1 A ρ1 s1 env _ E K r1 λρ2 s2 z r2 st2 vy=>by
  refine br λGz kz=>?_
  refine bp vy ?_;clear vy;intro t z0;subst z0
  refine aO (st2.vr vx) λ_ z0=>?_;subst z0
  refine cv (r2.dct hN) λvs g1 g2 g3 g4=>?_
  have ln:=aI g1
  refine aj (ur (k:=x) g1) λvs' w1 w2=>?_
  refine aO (kQ (k:=x) g1) λd1 d2=>?_
  refine kz ?_
  refine wpAny_delItem_slot g2.typeIs (by decide) PySem.F.slot_dict_delitem (call_meetsIn PySem.F.slot_dict_delitem g2.typeIs PySem.F.entry_dict_delitem (PySem.F.args_dict_delitem_2 _ _) (meets_dict_delitem_pairs (PySem.strKind c.prog c.w) (ρ2 N) (k:=x) dV) (gz _ g2 (by rw[List.length_zip];simp at ln ⊢;unfold sizeLine;lia) ?_ λh' hm hs=>?_))
  ·cases e:es.lookup x with
   |none=>rw[e]at hx;cases hx
   |some a=>refine aj (d1 a e) λw k1 _=>?_;rw[k1];rfl
  ·rw[w2]at hm
   refine aO (r2.updD (tk:=s2.toks+1) hN w1 hm (by
    have:((es.filter λp=>p.1 != x).map (·.1)).Sublist (es.map (·.1)):=List.Sublist.map _ List.filter_sublist
    exact this.nodup g4) hs) λr3 st3=>?_
   exact wpAny_deleteEach_nil (q ρ2 _ _ r3 ((st1.trans st2).trans st3) rfl))))
noncomputable abbrev xo:=Nat×Nat×Nat
noncomputable def lq:List xo→List (Str×AV)
 | []=>[]
 |f::r=>lq r++[(nm f.1,.int r.length)]
theorem s9:∀(fr:List xo),(lq fr).map (·.1)=(fr.reverse.map λf=>nm f.1)
 | []=>rfl
 |f::r=>by simp[lq,s9 r]
theorem qw:∀(fr:List xo),(lq fr).length=fr.length
 | []=>rfl
 |f::r=>by simp[lq,qw r]
structure FC(c:Cx)(H0 H:List AO)(ps:Nat→Nat)(n:Nat)(fr:List xo)(seen:List Nat):Prop where
 ex:∀(y:Nat)(o:AO),H0[y]?=some o→H[y]?=some o
 n0:H0.length≤n
 len:n+4≤H.length
 st:H[n]?=some (.list (fr.reverse.map λf=>.str (nm f.1)))
 it:H[n+1]?=some (.list (fr.reverse.map λf=>.obj (f.2.2+1)))
 se:H[n+2]?=some (si c (seen.map nm))
 nd:nM c H (n+3) (lq fr)
 fs:∀f∈fr,H[f.2.2]?=some (mP (ps f.1) f.2.1)∧H[f.2.2+1]?=some (Cw f.2.2)
 lo:∀f∈fr,n+4≤f.2.2
 de:fr.Pairwise λa b=>b.1<a.1∧b.2.2+2≤a.2.2
 b:∀f∈fr,f.1<5
 sb:∀i∈seen,i<5
 sn:seen.Nodup
theorem rZ(hs:∀i∈seen,i<5)(hi:i<5):(seen.map nm).contains (nm i)=seen.contains i:=by
 rw[Zi,ZF,ZF,ZR]
 exact⟨λ⟨j,h1,h2⟩=>kL j (hs j h1) i hi h2▸h1,λh=>al i h rfl⟩
theorem sD:∀(fr:List xo),(fr.Pairwise λa b=>b.1<a.1∧b.2.2+2≤a.2.2)→∀m,(∀f∈fr,f.1<m)→fr.length≤m
 | [],_,m,_=>Zl _
 |f::r,h,m,hb=>by
  refine aO (Zs.mp h) λh1 h2=>?_
  have:=sD r h2 f.1 λg hg=>(h1 g hg).1
  have:=hb f (.head _)
  simp;lia
theorem FC.l5(x:FC c H0 H ps n fr seen):fr.length≤5:=sD fr x.de 5 x.b
theorem FC.s5(x:FC c H0 H ps n fr seen):seen.length≤5:=i8 5 seen x.sn x.sb
theorem FC.nonew(x:FC c H0 H ps n fr seen)(h5:i<5)(hf:∀f∈fr,f.1<i):nm i∉(lq fr).map (·.1):= λh=>by
 rw[s9]at h
 refine aj (ZR.mp h) λf h1 h2=>?_
 have h3:=List.mem_reverse.mp h1
 have:=kL f.1 (x.b f h3) i h5 h2
 have:=hf f h3
 lia
theorem FC.nolook(x:FC c H0 H ps n fr seen)(h5:i<5)(hf:∀f∈fr,f.1<i):((lq fr).lookup (nm i)).isSome=false:=by
 have h:=x.nonew h5 hf
 generalize lq fr=es at h
 induction es with
 |nil=>rfl
 |cons p es ih=>
  obtain⟨y,b⟩:=p
  simp at h
  rw[ZD]
  have:(nm i==y)=false:=by simpa using h.1
  rw[this]
  exact ih (by simpa using h.2)
theorem FC.step{p t:Nat}(x:FC c H0 H ps n ((i,p,t)::r) seen):FC c H0 (H.set t (mP (ps i) (p+1))) ps n ((i,p+1,t)::r) seen:=by
 have tl:n+4≤t:=x.lo (i,p,t) (.head _)
 have h0:=x.n0
 refine aO (Zs.mp x.de) λd1 d2=>?_
 refine⟨λy o h=>ak (x.ex y o h) (by have:=aq h;lia),x.n0,by simpa using x.len,?_,?_,ak x.se (by lia),?_,λf hf=>?_,λf hf=>?_,?_,λf hf=>?_,x.sb,x.sn⟩
 ·simpa using ak (o:=mP (ps i) (p+1)) x.st (show n≠t by lia)
 ·simpa using ak (o:=mP (ps i) (p+1)) x.it (show n+1≠t by lia)
 ·exact x.nd.keep λo h=>ak h (by lia)
 ·rcases ZI.mp hf with rfl|hf
  ·refine aO (x.fs (i,p,t) (.head _)) λh1 h2=>?_
   exact⟨bH (aq h1),ak h2 (by show t+1≠t;lia)⟩
  ·refine aO (x.fs f (.tail _ hf)) λh1 h2=>?_
   have h3:f.2.2+2≤t:=(d1 f hf).2
   exact⟨ak h1 (by lia),ak h2 (by lia)⟩
 ·rcases ZI.mp hf with rfl|hf
  ·exact tl
  ·exact x.lo f (.tail _ hf)
 ·exact Zs.mpr ⟨d1,d2⟩
 ·rcases ZI.mp hf with rfl|hf
  ·exact x.b (i,p,t) (.head _)
  ·exact x.b f (.tail _ hf)
theorem FC.drop{p t:Nat}(x:FC c H0 H ps n ((i,p,t)::r) seen):
  FC c H0 ((((H.set t qN).set n (.list (r.reverse.map λf=>.str (nm f.1)))).set (n+3) (di c (n+3) (lq r))).set (n+1) (.list (r.reverse.map λf=>.obj (f.2.2+1)))) ps n r seen:=by
 have tl:n+4≤t:=x.lo (i,p,t) (.head _)
 have h0:=x.n0
 have hl:=x.len
 refine aO (Zs.mp x.de) λd1 d2=>?_
 have kp:∀(y:Nat)(o:AO),H[y]?=some o→y≠t→y≠n→y≠n+3→y≠n+1→((((H.set t qN).set n (.list (r.reverse.map λf=>.str (nm f.1)))).set (n+3) (di c (n+3) (lq r))).set (n+1) (.list (r.reverse.map λf=>.obj (f.2.2+1))))[y]?=some o:= λy o h a b d e=>ak (ak (ak (ak h a) b) d) e
 refine⟨λy o h=>by have:=aq h;exact kp y o (x.ex y o h) (by lia) (by lia) (by lia) (by lia),x.n0,by simpa using hl,ak (ak (bH (by simp;lia)) (by lia)) (by lia),bH (by simp;lia),kp _ _ x.se (by lia) (by lia) (by lia) (by lia),.inl (ak (bH (by simp;lia)) (by lia)),λf hf=>?_,λf hf=>x.lo f (.tail _ hf),d2,λf hf=>x.b f (.tail _ hf),x.sb,x.sn⟩
 refine aO (x.fs f (.tail _ hf)) λh1 h2=>?_
 have h3:f.2.2+2≤t:=(d1 f hf).2
 have h4:=x.lo f (.tail _ hf)
 exact⟨kp _ _ h1 (by lia) (by lia) (by lia) (by lia),kp _ _ h2 (by lia) (by lia) (by lia) (by lia)⟩
noncomputable def i5(c:Cx)(H:List AO)(ps:Nat→Nat)(n:Nat)(fr:List xo)(seen:List Nat)(i:Nat):List AO:=
 ((((((H.set (n+2) (si c ((seen++[i]).map nm)))++[mP (ps i) 0])++[Cw H.length]).set (n+1) (.list (((i,0,H.length)::fr).reverse.map λf=>.obj (f.2.2+1)))).set (n+3) (di c (n+3) (lq ((i,0,H.length)::fr)))).set n (.list (((i,0,H.length)::fr).reverse.map λf=>.str (nm f.1))))
theorem FC.push(x:FC c H0 H ps n fr seen)(h5:i<5)(hs:i∉seen)(hf:∀f∈fr,f.1<i):FC c H0 (i5 c H ps n fr seen i) ps n ((i,0,H.length)::fr) (seen++[i]):=by
 have h0:=x.n0
 have hl:=x.len
 have kp:∀(y:Nat)(o:AO),H[y]?=some o→y≠n+2→y≠n+1→y≠n+3→y≠n→(i5 c H ps n fr seen i)[y]?=some o:= λy o h a b d e=>ak (ak (ak (aB (aB (ak h a))) b) d) e
 have l1:(H.set (n+2) (si c ((seen++[i]).map nm))).length=H.length:=by simp
 have l2:(H.set (n+2) (si c ((seen++[i]).map nm))++[mP (ps i) 0]).length=H.length+1:=by simp
 refine⟨λy o h=>by have:=aq h;exact kp y o (x.ex y o h) (by lia) (by lia) (by lia) (by lia),x.n0,by simp[i5];lia,bH (by simp;lia),ak (ak (bH (by simp;lia)) (by lia)) (by lia),ak (ak (ak (aB (aB (bH (by lia)))) (by lia)) (by lia)) (by lia),.inl (ak (bH (by simp;lia)) (by lia)),λf hf=>?_,λf hf=>?_,?_,λf hf=>?_,λj hj=>?_,?_⟩
 ·rcases ZI.mp hf with rfl|hf
  ·refine⟨ak (ak (ak (aB ?_) (by show H.length≠_;lia)) (by show H.length≠_;lia)) (by show H.length≠_;lia),ak (ak (ak ?_ (by show H.length+1≠_;lia)) (by show H.length+1≠_;lia)) (by show H.length+1≠_;lia)⟩
   ·have z:=aP (H:=H.set (n+2) (si c ((seen++[i]).map nm))) (o:=mP (ps i) 0)
    rw[l1]at z;exact z
   ·have z:=aP (H:=H.set (n+2) (si c ((seen++[i]).map nm))++[mP (ps i) 0]) (o:=Cw H.length)
    rw[l2]at z;exact z
  ·refine aO (x.fs f hf) λh1 h2=>?_
   have h4:=x.lo f hf
   exact⟨kp _ _ h1 (by lia) (by lia) (by lia) (by lia),kp _ _ h2 (by lia) (by lia) (by lia) (by lia)⟩
 ·rcases ZI.mp hf with rfl|hf
  ·exact hl
  ·exact x.lo f hf
 ·refine Zs.mpr ⟨λf hm=>⟨hf f hm,?_⟩,x.de⟩
  have:=aq (x.fs f hm).2
  show f.2.2+2≤H.length
  lia
 ·rcases ZI.mp hf with rfl|hf
  ·exact h5
  ·exact x.b f hf
 ·rcases ZT.mp hj with hj|hj
  ·exact x.sb j hj
  ·simp at hj;subst hj;exact h5
 ·rw[List.nodup_append]
  exact⟨x.sn,by simp,λa ha b hb e=>by simp at hb;subst hb;subst e;exact hs ha⟩
noncomputable def bX:Fs:=⟨Hg,[]⟩
theorem bo:bX.scope.kind=.function:=by w_on
theorem Av:bX.def:=by unfold Fs.def;w_on
theorem qG:∀env:Env,env.scope=bX.scope→interactive env=false:= λenv he=>by
 unfold interactive
 rw[he]
 rfl
noncomputable def gV:=d7 Iq 5
noncomputable def gy:=d7 gV 1
noncomputable def vN:=sub gy 0 1
noncomputable def nU:=d7 gy 1
theorem Fp(P:Params):nsIn (Kx P) mainGlobals ("iter":Str)=some none:=by w_on
theorem Ds:bootBuiltins ("iter":Str)=some (.builtin "iter"):=by w_on
theorem IE(P:Params):nsIn (Kx P) mainGlobals ("set":Str)=some none:=by w_on
theorem GQ:bootBuiltins ("set":Str)=some (.type "set"):=by w_on
theorem FY(P:Params):nsIn (Kx P) mainGlobals ("StopIteration":Str)=some none:=by w_on
theorem Eo:bootBuiltins ("StopIteration":Str)=some (.type "StopIteration"):=by w_on
structure FL(l:List (Str×AV))(N n:Nat):Prop where
 d:l.lookup ("n2i":Str)=some (.obj N)
 st:l.lookup ("stack":Str)=some (.obj n)
 it:l.lookup ("itstack":Str)=some (.obj (n+1))
 se:l.lookup ("seen":Str)=some (.obj (n+2))
 nd:l.lookup ("node2stacki":Str)=some (.obj (n+3))
theorem FL.put{l:List (Str×AV)}{N n:Nat}(h:FL l N n)(a:AV):FL (aS "node" a l) N n:=
 ⟨dQ h.d,dQ h.st,dQ h.it,dQ h.se,dQ h.nd⟩
theorem ou{t:Expr}(hq:∀env,swapsWithSole [t] e pos.line env=pure false)(hs:∀env,swappedStores [t] e env=pure none)(he:∀env,(assignEach [t] env).map (·.2)=[assign t env])(h1:Ev c F k e σ v σ₁)(h2:As c F k t v σ₁ σ₂):Ex c F k (.Assign [t] e pos) σ .next σ₂:= λA ρ s env Q E K r h=>
 wpAny_Assign_stores (h1 A ρ s env _ E K r λρ1 s1 z r1 st1 vz=>by
  rw[he env]
  exact h2 A ρ1 s1 env _ E z K r1 vz λρ2 s2 r2 st2=>h ρ2 s2 _ r2 (st1.trans st2) rfl) (hq env) (hs env)
theorem Af(hz:vs.length<1000)(hj:σ.H[j]?=some (.list vs)):cJ c F k (λxs=>call (.builtin "len") xs) [.obj j] σ (.int vs.length) σ:= λA ρ s env Q E xs K r hx q=>by
 refine lL hx λ_ h1=>?_
 refine aO h1 ?_;clear h1;intro _ z0;subst z0
 refine bz (r.list hj) λits h1 h3 _=>?_
 have ln:=aI h3
 refine Calls.call_function_entry kind_len plain_len entry_len (args_len1 _) (wpAny_len_body_list h1 (by show((its.length:Nat):Int)<_;lia) (q ρ _ _ (r.toks _) (.toks _) ⟨_,by show Value.int (its.length:Nat) _=_;rw[ln]⟩))
theorem uX(G:c.Go)(L:FL l N n)(hn:l.lookup ("node":Str)=some (.str (nm i)))(x:FC c H0 H ps n fr seen)(gh:GH c H0 N ord np su pi pd ps)(hi:i∈ord)(hs:i∉seen)(hf:∀f∈fr,f.1<i):
  dq c bX k vN ⟨l,H⟩ .next ⟨l,i5 c H ps n fr seen i⟩:=by
 have h0:=x.n0
 have hl:=x.len
 have h5:=gh.b i hi
 have f5:=x.l5
 have s5:=x.s5
 refine br λGz kz=>?_
 refine bb (H.set (n+2) (si c ((seen++[i]).map nm))) λH1 e1=>?_
 refine bb (H1++[mP (ps i) 0]) λH2 e2=>?_
 refine bb (H2++[Cw H.length]) λH3 e3=>?_
 refine bb (H3.set (n+1) (.list (((i,0,H.length)::fr).reverse.map λf=>.obj (f.2.2+1)))) λH4 e4=>?_
 refine bb (H4.set (n+3) (di c (n+3) (lq ((i,0,H.length)::fr)))) λH5 e5=>?_
 refine bb (H5.set n (.list (((i,0,H.length)::fr).reverse.map λf=>.str (nm f.1)))) λH6 e6=>?_
 refine kz ?_
 have e:i5 c H ps n fr seen i=H6:=by rw[e6,e5,e4,e3,e2,e1];rfl
 rw[e]
 have l1:H1.length=H.length:=by rw[e1];simp
 have l2:H2.length=H.length+1:=by rw[e2];simp[l1]
 have k1:∀(y:Nat)(o:AO),H[y]?=some o→y≠n+2→H1[y]?=some o:= λy o h a=>by rw[e1];exact ak h a
 have k3:∀(y:Nat)(o:AO),H1[y]?=some o→H3[y]?=some o:= λy o h=>by rw[e3,e2];exact aB (aB h)
 have gh1:GH c H1 N ord np su pi pd ps:=gh.ext λy o h=>k1 y o (x.ex y o h) (by have:=aq h;lia)
 have st:∀{σ:St},σ.H[n+1]?=some (.list (fr.reverse.map λf=>.obj (f.2.2+1)))→σ.H=H3→cJ c bX k (λxs=>call (.builtin "list.append") xs) [.obj (n+1),.obj (H.length+1)] σ .none ⟨σ.loc,H4⟩:= λ{σ} h e=>by
  have z:=eN (c:=c) (F:=bX) (k:=k) (v:=.obj (H.length+1)) h (by simp;lia)
  rw[e]at z
  rw[e4]
  simpa using z
 have a1:cJ c bX k (λxs=>call (.builtin "set.add") xs) [.obj (n+2),.str (nm i)] ⟨l,H⟩ .none ⟨l,H1⟩:=by
  have z:=tO (c:=c) (F:=bX) (k:=k) (σ:=⟨l,H⟩) (x:=nm i) x.se (by rw[rZ x.sb h5];simpa using hs) (by simp;lia)
  rw[e1,Zu]
  exact z
 have b1:∀{p1 p2 p3 p4 p5 p6:Pos},fR (.Subscript (.Name "n2i" p1) (.Name "node" p2) p3) "successors" p4→Ev c bX k (.Call (.Name "iter" p5) [.Attribute (.Subscript (.Name "n2i" p1) (.Name "node" p2) p3) "successors" p4] [] p6) ⟨l,H1⟩ (.obj H.length) ⟨l,H2⟩:= λ{p1 p2 p3 p4 p5 p6} ha=>by
  have z:=C2 (c:=c) (F:=bX) (k:=k) (σ:=⟨l,H1⟩) (gh1.s i hi)
  rw[show(St.H ⟨l,H1⟩).length=H.length from l1,show(St.H ⟨l,H1⟩)++[mP (ps i) 0]=H2 from e2.symm]at z
  exact dB (λ_=>rfl) (λ_=>rfl) (dg G bo rfl (Fp _) Ds) (af λ_=>rfl) (am (λ_=>rfl) (bE ha (kY (λ_ _=>rfl) (aa bo rfl L.d) (aa bo rfl hn) gh1.n (gh1.look hi)) (dG G (wK _) (gh1.slt hi) (gh1.d i hi) rfl rfl)) au) z
 have b2:∀{p1 p2 p3 p4 p5 p6 p7:Pos},fR (.Subscript (.Name "n2i" p1) (.Name "node" p2) p3) "successors" p4→fR (.Call (.Name "iter" p5) [.Attribute (.Subscript (.Name "n2i" p1) (.Name "node" p2) p3) "successors" p4] [] p6) "__next__" p7→Ev c bX k (.Attribute (.Call (.Name "iter" p5) [.Attribute (.Subscript (.Name "n2i" p1) (.Name "node" p2) p3) "successors" p4] [] p6) "__next__" p7) ⟨l,H1⟩ (.obj (H.length+1)) ⟨l,H3⟩:= λ{p1 p2 p3 p4 p5 p6 p7} ha hb=>by
  have z:=rV (c:=c) (F:=bX) (k:=k) (σ:=⟨l,H2⟩) (t:=H.length) (j:=ps i) (i:=0) (ex:=true) (by show H2[_]?=_;rw[e2,←l1];exact aP)
  rw[show(St.H ⟨l,H2⟩).length=H.length+1 from l2,show(St.H ⟨l,H2⟩)++[Cw H.length]=H3 from e3.symm]at z
  exact bE hb (b1 ha) z
 have i1:H1[n+1]?=some (.list (fr.reverse.map λf=>.obj (f.2.2+1))):=k1 _ _ x.it (by lia)
 have s4:H4[n]?=some (.list (fr.reverse.map λf=>.str (nm f.1))):=by rw[e4];exact ak (k3 _ _ (k1 _ _ x.st (by lia))) (by lia)
 have s5:H5[n]?=some (.list (fr.reverse.map λf=>.str (nm f.1))):=by rw[e5];exact ak s4 (by lia)
 have d4:nM c H4 (n+3) (lq fr):=x.nd.keep λo h=>by rw[e4];exact ak (k3 _ _ (k1 _ _ h (by lia))) (by lia)
 have c1:∀{p1 p2 p3 p4 p5 p6 p7:Pos},(∀env,swapsWithSole [.Subscript (.Name "node2stacki" p1) (.Name "node" p2) p3] (.Call (.Name "len" p4) [.Name "stack" p5] [] p6) p7.line env=pure false)→(∀env,swappedStores [.Subscript (.Name "node2stacki" p1) (.Name "node" p2) p3] (.Call (.Name "len" p4) [.Name "stack" p5] [] p6) env=pure none)→Ex c bX k (.Assign [.Subscript (.Name "node2stacki" p1) (.Name "node" p2) p3] (.Call (.Name "len" p4) [.Name "stack" p5] [] p6) p7) ⟨l,H4⟩ .next ⟨l,H5⟩:= λ{p1 p2 p3 p4 p5 p6 p7} hq hw=>by
  have z:=wE (c:=c) (F:=bX) (k:=k) (σ:=⟨l,H4⟩) (pos':=p3) (a:=.int fr.length) (es:=lq fr) (by rw[qw];lia) (aa (x:="node2stacki") (pos:=p1) bo rfl L.nd) (aa (x:="node") (pos:=p2) bo rfl hn) d4
  rw[mS _ _ _ (x.nonew h5 hf),show(St.H ⟨l,H4⟩).set (n+3) (di c (n+3) (lq fr++[(nm i,AV.int fr.length)]))=H5 from e5.symm]at z
  have ln:=Af (c:=c) (F:=bX) (k:=k) (σ:=⟨l,H4⟩) (j:=n) (by simp;lia) s4
  rw[show(fr.reverse.map λf=>AV.str (nm f.1)).length=fr.length by simp]at ln
  exact ou hq hw (λ_=>rfl) (dB (λ_=>rfl) (λ_=>rfl) (dg G bo rfl (tB _) og) (af λ_=>rfl) (am (λ_=>rfl) (aa bo rfl L.st) au) ln) z
 have st2:cJ c bX k (λxs=>call (.builtin "list.append") xs) [.obj n,.str (nm i)] ⟨l,H5⟩ .none ⟨l,H6⟩:=by
  have z:=eN (c:=c) (F:=bX) (k:=k) (σ:=⟨l,H5⟩) (v:=.str (nm i)) s5 (by simp;lia)
  rw[e6]
  simpa using z
 k_dflt refine' ae (ck (F:=bX) (v:=.none) qG (λ_=>rfl) (d6 (λ_=>rfl) (aa bo rfl L.se) (GG PySem.F.slot_set_add PySem.F.type_set_add x.se) (af λ_=>rfl) (am (λ_=>rfl) (aa bo rfl hn) au) a1)) (ae (ck (F:=bX) (v:=.none) qG (λ_=>rfl) (d6 (λ_=>rfl) (aa bo rfl L.it) (dk slot_list_append type_list_append i1) (af λ_=>rfl) (am (λ_=>rfl) (b2 (λ_=>by k_dflt rfl) (λ_=>by k_dflt rfl)) au) (st (σ:=⟨l,H3⟩) (k3 _ _ i1) rfl))) (ae (c1 (λ_=>rfl) (λ_=>rfl)) (ae (ck (F:=bX) (v:=.none) qG (λ_=>rfl) (d6 (λ_=>rfl) (aa bo rfl L.st) (dk slot_list_append type_list_append s5) (af λ_=>rfl) (am (λ_=>rfl) (aa bo rfl hn) au) st2)) ar)))
noncomputable def IQ(l:List Stmt)(i:Nat):List Stmt:=match l[i]? with
 |some (.While _ _ b _)=>b
 |_=>[]
noncomputable def k9(su:Nat→List Nat):List xo→Nat
 | []=>0
 |f::r=>((su f.1).length - f.2.1)+k9 su r
theorem By{p t:Nat}(h:nm i∉(lq r).map (·.1)):(lq ((i,p,t)::r)).filter (λp=>p.1 != nm i)=lq r∧((lq ((i,p,t)::r)).lookup (nm i)).isSome=true:=by
 show(lq r++[(nm i,AV.int r.length)]).filter (λp=>p.1 != nm i)=lq r∧((lq r++[(nm i,AV.int r.length)]).lookup (nm i)).isSome=true
 constructor
 ·rw(config:={}) [List.filter_append,List.filter_eq_self.mpr λa ha=>?_]
  ·simp
  ·have:a.1≠nm i:= λq=>h (ZR.mpr (al a ha q))
   simpa using this
 ·generalize lq r=es
  induction es with
  |nil=>simp
  |cons p es ih=>
   obtain⟨y,b⟩:=p
   rw[List.cons_append,ZD]
   split
   ·rfl
   ·exact ih
theorem rG(L:FL l N n)(hj:H[n]?=some (.list vs))(hl:vs.length<1000)(ht:(!vs.isEmpty)=t):Te c bX k (vD gy 1) ⟨l,H⟩ t ⟨l,H⟩:=by
 have z:=uQ (c:=c) (F:=bX) (k:=k) (σ:=⟨l,H⟩) hj hl ht
 k_dflt refine' bP (λ_ _=>rfl) (aa bo rfl L.st) z
theorem wt(L:FL l N n){p t:Nat}(x:FC c H0 H ps n ((i,p,t)::r) seen)(he:Ev c bX k e ⟨l,H⟩ (.int (-1)) ⟨l,H⟩)(hs:∀o x,subscripted e false o x=operate [o,x] (getItem o x)):Ev c bX k (.Subscript (.Name "itstack" p1) e p3) ⟨l,H⟩ (.obj (t+1)) ⟨l,H⟩:=
 rF (by have:=x.l5;simp at this ⊢;lia) hs (λ_ _=>rfl) (aa bo rfl L.it) he x.it (by simp)
theorem DP(G:c.Go)(L:FL l N n){p t q:Nat}(x:FC c H0 H ps n ((i,p,t)::r) seen)(gh:GH c H0 N ord np su pi pd ps)(hi:i∈ord)(hq:(su i)[p]?=some q):
  Wh c bX k (vD gy 1) nU (IQ gy 1) ⟨l,H⟩ .next ⟨aS "node" (.str (nm q)) l,H.set t (mP (ps i) (p+1))⟩:=by
 refine aO (x.fs (i,p,t) (.head _)) λf1 f2=>?_
 have hj:=x.ex _ _ (gh.s i hi)
 have hv:((su i).map λj=>AV.str (nm j))[p]?=some (.str (nm q)):=by rw[ZK,hq];rfl
 refine me (rG L x.st (by have:=x.l5;simp at this ⊢;lia) (by simp)) ?_
 have cl:∀{e:Expr}{p1 p3 p4:Pos},Ev c bX k e ⟨l,H⟩ (.int (-1)) ⟨l,H⟩→(∀o x,subscripted e false o x=operate [o,x] (getItem o x))→(∀env,eval (.Call (.Subscript (.Name "itstack" p1) e p3) [] [] p4) env=(do callWith p4 (←eval (.Subscript (.Name "itstack" p1) e p3) env) [] (backTo p4 (starEach [] env)) (backToKw p4 (keywordEach [] env))))→Ev c bX k (.Call (.Subscript (.Name "itstack" p1) e p3) [] [] p4) ⟨l,H⟩ (.str (nm q)) ⟨l,H.set t (mP (ps i) (p+1))⟩:= λh1 h2 h3=>
  yb G.ok h3 (wt L x h1 h2) f2 f1 hj hv
 k_dflt refine' gT (y5 (ae (aw bo rfl (λ_=>rfl) (cl (qb aJ) (λ_ _=>rfl) (λ_=>rfl))) (gT gZ)))
theorem uu:isSubtype (.type "StopIteration") (.type "BaseException")=pure true:=by rw[isSubtype_type];w_on
theorem oP:isSubtype (.type ((Manifest.find? "StopIteration").elim "type" λx=>x.metatype)) (.type "tuple")=pure false:=by
 rw[isSubtype_type];w_on
section
noncomputable def mq(c:Cx)(H:List AO)(n t:Nat)(r:List xo):List AO:=((((H.set t qN).set n (.list (r.reverse.map λf=>.str (nm f.1)))).set (n+3) (di c (n+3) (lq r))).set (n+1) (.list (r.reverse.map λf=>.obj (f.2.2+1))))
theorem C6(hz:c.rz=true)(hk:100≤k)(G:c.Go)(L:FL l N n){p t:Nat}(x:FC c H0 H ps n ((i,p,t)::r) seen)(gh:GH c H0 N ord np su pi pd ps)(hi:i∈ord)(hq:(su i)[p]?=none):
  Te c bX k (vD gy 1) ⟨l,H⟩ true ⟨l,H⟩∧dq c bX k nU ⟨l,H⟩ .next ⟨l,mq c H n t r⟩:=by
 refine aO (x.fs (i,p,t) (.head _)) λf1 f2=>?_
 have hj:=x.ex _ _ (gh.s i hi)
 have tl:n+4≤t:=x.lo (i,p,t) (.head _)
 have l5:=x.l5
 have hv:((su i).map λj=>AV.str (nm j))[p]?=none:=by rw[ZK,hq];rfl
 refine⟨rG L x.st (by simp at l5 ⊢;lia) (by simp),?_⟩
 have cl:∀{e:Expr}{p1 p3 p4:Pos},Ev c bX k e ⟨l,H⟩ (.int (-1)) ⟨l,H⟩→(∀o x,subscripted e false o x=operate [o,x] (getItem o x))→(∀env,eval (.Call (.Subscript (.Name "itstack" p1) e p3) [] [] p4) env=(do callWith p4 (←eval (.Subscript (.Name "itstack" p1) e p3) env) [] (backTo p4 (starEach [] env)) (backToKw p4 (keywordEach [] env))))→fw c bX k false true (eval (.Call (.Subscript (.Name "itstack" p1) e p3) [] [] p4)) ⟨l,H⟩ "StopIteration" ⟨l,H.set t qN⟩:= λh1 h2 h3=>
  ut G.ok Av h3 (wt L x h1 h2) f2 f1 hj hv
 refine br λGz kz=>?_
 refine bb (H.set t qN) λH1 e1=>?_
 refine bb (H1.set n (.list (r.reverse.map λf=>.str (nm f.1)))) λH2 e2=>?_
 refine bb (H2.set (n+3) (di c (n+3) (lq r))) λH3 e3=>?_
 refine bb (H3.set (n+1) (.list (r.reverse.map λf=>.obj (f.2.2+1)))) λH4 e4=>?_
 refine kz ?_
 have e:mq c H n t r=H4:=by rw[e4,e3,e2,e1];rfl
 rw[e]
 rw[←e1]at cl
 have xd:=x.drop
 refine aO (Zs.mp x.de) λd1 _=>?_
 have nn:=xd.nonew (x.b (i,p,t) (.head _)) λf hf=>(d1 f hf).1
 refine aO (By (p:=p) (t:=t) nn) λn1 n2=>?_
 have s1:H1[n]?=some (.list ((r.reverse.map λf=>.str (nm f.1))++[.str (nm i)])):=by rw[e1];have z:=ak (o:=qN) x.st (show n≠t by lia);simpa using z
 have i3:H3[n+1]?=some (.list ((r.reverse.map λf=>.obj (f.2.2+1))++[.obj (t+1)])):=by
  rw[e3,e2,e1]
  have z:=ak (o:=di c (n+3) (lq r)) (ak (o:=AO.list (r.reverse.map λf=>.str (nm f.1))) (ak (o:=qN) x.it (show n+1≠t by lia)) (show n+1≠n by lia)) (show n+1≠n+3 by lia)
  simpa using z
 have d2:nM c H2 (n+3) (lq ((i,p,t)::r)):=x.nd.keep λo h=>by rw[e2,e1];exact ak (ak h (by lia)) (by lia)
 have p1:cJ c bX 50 (λxs=>call (.builtin "list.pop") xs) [.obj n] ⟨l,H1⟩ (.str (nm i)) ⟨l,H2⟩:=by
  rw[e2];exact Cc (σ:=⟨l,H1⟩) s1 (by simp at l5 ⊢;lia)
 have p2:cJ c bX 50 (λxs=>call (.builtin "list.pop") xs) [.obj (n+1)] ⟨l,H3⟩ (.obj (t+1)) ⟨l,H4⟩:=by
  rw[e4];exact Cc (σ:=⟨l,H3⟩) i3 (by simp at l5 ⊢;lia)
 have q1:∀{p1 p2 p3 p4 p5 p6:Pos},(∀env,eval (.Call (.Attribute (.Name "stack" p2) "pop" p3) [] [] p4) env=(do
   let ov←eval (.Name "stack" p2) env
   standAt p3.atName
   let(f,first)←holding [ov] (getMethod ov "pop" (gD (.Name "stack" p2) env))
   callWith p4 f first (backTo p4 (starEach [] env)) []))→Ex c bX 50 (.Delete [.Subscript (.Name "node2stacki" p1) (.Call (.Attribute (.Name "stack" p2) "pop" p3) [] [] p4) p5] p6) ⟨l,H1⟩ .next ⟨l,H3⟩:= λ{q1 q2 q3 q4 q5 q6} he=>by
  have z:=vH (c:=c) (F:=bX) (k:=50) (sp:=q5) (pos:=q6) (σ₂:=⟨l,H2⟩) (aa (σ:=⟨l,H1⟩) (x:="node2stacki") (pos:=q1) bo rfl L.nd) (d6 he (aa bo rfl L.st) (dk PySem.F.slot_list_pop PySem.F.type_list_pop s1) aV au p1) d2 n2 (by rw[qw];simp at l5 ⊢;lia)
  rw[n1,show(St.H ⟨l,H2⟩).set (n+3) (di c (n+3) (lq r))=H3 from e3.symm]at z
  exact z
 have hb:dq c bX 50 (sub nU 0 2) ⟨l,H1⟩ .next ⟨l,H4⟩:=by
  k_dflt refine' ae (q1 (λ_=>rfl)) (ae (ck (F:=bX) qG (λ_=>rfl) (d6 (λ_=>rfl) (aa bo rfl L.it) (dk PySem.F.slot_list_pop PySem.F.type_list_pop i3) aV au p2)) ar)
 have hr:fw c bX k false true (execs (d7 nU 0)) ⟨l,H⟩ "StopIteration" ⟨l,H1⟩:=by
  k_dflt refine' bN (iE (λ_=>rfl) (cl (qb aJ) (λ_ _=>rfl) (λ_=>rfl)))
 k_dflt refine' aU (pE (k':=50) (T':="StopIteration") (by lia) (by decide) hk hz G.ok Av (dg G bo rfl (FY _) Eo) uu oP isSubtype_stop hr hb)
noncomputable def nX(c:Cx)(N:Nat)(es:List (Str×AV))(e:Nat):AO:=ip c N e es
theorem yf{B:List AO}{X:AO}(hN:N<n)(hl:n+4≤B.length):i5 c (B.set N X) ps n fr seen i=(i5 c B ps n fr seen i).set N X:=by
 unfold i5
 rw[Z4,Zz _ _ (show N≠n+2 by lia)]
 rw[←Za _ _ (by simp;lia),←Za _ _ (by simp;lia),Zz _ _ (show N≠n+1 by lia),Zz _ _ (show N≠n+3 by lia),Zz _ _ (show N≠n by lia)]
theorem xw{B:List AO}{X:AO}{t:Nat}(hN:N<n)(ht:n+4≤t):mq c (B.set N X) n t r=(mq c B n t r).set N X:=by
 unfold mq
 rw[Zz _ _ (show N≠t by lia),Zz _ _ (show N≠n by lia),Zz _ _ (show N≠n+3 by lia),Zz _ _ (show N≠n+1 by lia)]
variable{G0:Nat→List AO}
noncomputable def HM(c:Cx)(k:Nat)(l:List (Str×AV))(G0:Nat→List AO)(B:List AO)(ps:Nat→Nat)(su:Nat→List Nat)(ord:List Nat)(N:Nat)(es:List (Str×AV))(n:Nat)(fr:List xo)(seen:List Nat):Prop:=
 (∃B':List AO,(∀e,Wh c bX k (vD gy 1) nU (IQ gy 1) ⟨l,B.set N (nX c N es e)⟩ .brk ⟨l,B'.set N (nX c N es e)⟩)∧∀e,FC c (G0 e) (B'.set N (nX c N es e)) ps n [] seen)∨
 ∃(i p t q:Nat)(r:List xo)(B':List AO),(∀e,Wh c bX k (vD gy 1) nU (IQ gy 1) ⟨l,B.set N (nX c N es e)⟩ .next ⟨aS "node" (.str (nm q)) l,B'.set N (nX c N es e)⟩)∧(∀e,FC c (G0 e) (B'.set N (nX c N es e)) ps n ((i,p+1,t)::r) seen)∧(su i)[p]?=some q∧(∀f∈(i,p+1,t)::r,f.1∈ord)∧k9 su ((i,p+1,t)::r)<k9 su fr
theorem zk(hz:c.rz=true)(hk:100≤k)(G:c.Go)(L:FL l N n)(gh:∀e,GH c (G0 e) N ord np su pi pd ps)(hN:N<n):∀(fr:List xo)(B:List AO),(∀e,FC c (G0 e) (B.set N (nX c N es e)) ps n fr seen)→(∀f∈fr,f.1∈ord)→HM c k l G0 B ps su ord N es n fr seen:=by
 intro fr
 induction fr with
 |nil=>
  intro B x ho
  refine .inl (al B (λe=>?_) x)
  have t0:=rG (c:=c) (k:=k) (t:=false) L (H:=B.set N (nX c N es e)) (x e).st (by simp) (by simp)
  refine ig t0 ?_
  k_dflt refine' aU gZ
 |cons f r ih=>
  intro B x ho
  obtain⟨i,p,t⟩:=f
  have hi:=ho (i,p,t) (.head _)
  have tl:n+4≤t:=(x 0).lo (i,p,t) (.head _)
  cases hq:(su i)[p]? with
  |some q=>
   have pl:=aq hq
   have cm:∀e,(B.set N (nX c N es e)).set t (mP (ps i) (p+1))=(B.set t (mP (ps i) (p+1))).set N (nX c N es e):= λe=>Zz _ _ (show N≠t by lia)
   refine .inr (lA i p t q r (B.set t (mP (ps i) (p+1))) (λe=>cm e▸DP G L (x e) (gh e) hi hq) (λe=>cm e▸(x e).step) hq (λf hf=>?_) ?_)
   ·rcases ZI.mp hf with rfl|hf
    ·exact hi
    ·exact ho f (.tail _ hf)
   ·show((su i).length - (p+1))+k9 su r<((su i).length - p)+k9 su r
    lia
  |none=>
   have cm:∀e,mq c (B.set N (nX c N es e)) n t r=(mq c B n t r).set N (nX c N es e):= λe=>xw hN tl
   have h12:= λe=>C6 hz hk G L (x e) (gh e) hi hq
   have z:=ih (mq c B n t r) (λe=>cm e▸(x e).drop) λf hf=>ho f (.tail _ hf)
   rcases z with⟨B',w1,w2⟩|⟨i',p',t',q',r',B',w1,w2,w3,w4,w5⟩
   ·exact .inl (al B' (λe=>jA (.inl rfl) (h12 e).1 (h12 e).2 (cm e▸w1 e)) w2)
   ·refine .inr (lA i' p' t' q' r' B' (λe=>jA (.inl rfl) (h12 e).1 (h12 e).2 (cm e▸w1 e)) w2 w3 w4 ?_)
    have:k9 su r≤k9 su ((i,p,t)::r):=by show k9 su r≤_+k9 su r;lia
    lia
end
noncomputable def uw(su:Nat→List Nat)(seen:List Nat)(j:Nat):Nat:=if j∈seen then 0 else(su j).length+1
noncomputable def EY(su:Nat→List Nat)(seen:List Nat):Nat:=uw su seen 0+uw su seen 1+uw su seen 2+uw su seen 3+uw su seen 4
theorem zY(h5:i<5)(hs:i∉seen):EY su (seen++[i])+((su i).length+1)=EY su seen:=by
 have h1:∀j,j≠i→uw su (seen++[i]) j=uw su seen j:= λj hj=>by
  unfold uw
  have:j∈seen++[i]↔j∈seen:=by simp[hj]
  simp only[this]
 have h2:uw su (seen++[i]) i=0:=if_pos (by simp)
 have h3:uw su seen i=(su i).length+1:=if_neg hs
 unfold EY
 have:i=0∨i=1∨i=2∨i=3∨i=4:=by lia
 rcases this with rfl|rfl|rfl|rfl|rfl
 ·rw[h1 1 (by decide),h1 2 (by decide),h1 3 (by decide),h1 4 (by decide),h2,h3];lia
 ·rw[h1 0 (by decide),h1 2 (by decide),h1 3 (by decide),h1 4 (by decide),h2,h3];lia
 ·rw[h1 0 (by decide),h1 1 (by decide),h1 3 (by decide),h1 4 (by decide),h2,h3];lia
 ·rw[h1 0 (by decide),h1 1 (by decide),h1 2 (by decide),h1 4 (by decide),h2,h3];lia
 ·rw[h1 0 (by decide),h1 1 (by decide),h1 2 (by decide),h1 3 (by decide),h2,h3];lia
section
theorem ww:Te c bX k (vD gV 1) σ true σ:=by
 k_dflt refine' bP (λ_ _=>rfl) gJ bG
theorem mR{e:Str}(L:FL l N n)(hn:l.lookup ("node":Str)=some (.str (nm i)))(x:FC c H0 H ps n fr seen)(h5:i<5)(ht:seen.contains i=t):Te c bX k (.Compare (.Name "node" p1) [.In] [.Name "seen" p2] p3) ⟨l,H⟩ t ⟨l,H⟩:=
 av rfl (aa bo rfl hn) (aa bo rfl L.se) (GL x.se (by rw[rZ x.sb h5];exact ht))
variable{G0:Nat→List AO}
theorem zp(hz:c.rz=true)(hk:100≤k)(G:c.Go)(gh:∀e,GH c (G0 e) N ord np su pi pd ps)(hN:N<n)(hsu:∀i∈ord,∀q∈su i,i<q∧q∈ord):∀(m:Nat)(l:List (Str×AV))(B:List AO)(fr:List xo)(seen:List Nat)(i:Nat),FL l N n→l.lookup ("node":Str)=some (.str (nm i))→(∀e,FC c (G0 e) (B.set N (nX c N es e)) ps n fr seen)→i∈ord→(∀f∈fr,f.1<i)→(∀f∈fr,f.1∈ord)→k9 su fr+EY su seen<m→
  ∃(l':List (Str×AV))(B':List AO)(seen':List Nat),(∀e,Wh c bX k (vD gV 1) gy [] ⟨l,B.set N (nX c N es e)⟩ .next ⟨l',B'.set N (nX c N es e)⟩)∧FL l' N n∧∀e,FC c (G0 e) (B'.set N (nX c N es e)) ps n [] seen':=by
 intro m
 induction m with
 |zero=>intro l B fr seen i _ _ _ _ _ _ h;lia
 |succ m ih=>
  intro l B fr seen i L hn x hi hf ho hm
  have h5:=(gh 0).b i hi
  have bl:n+4≤B.length:=by have:=(x 0).len;simpa using this
  have turn:∃(B1:List AO)(fr1:List xo)(seen1:List Nat),(∀e,FC c (G0 e) (B1.set N (nX c N es e)) ps n fr1 seen1)∧(∀f∈fr1,f.1∈ord)∧k9 su fr1+EY su seen1≤k9 su fr+EY su seen∧∀e f σ',Wh c bX k (vD gy 1) nU (IQ gy 1) ⟨l,B1.set N (nX c N es e)⟩ f σ'→dq c bX k gy ⟨l,B.set N (nX c N es e)⟩ f σ':=by
   by_cases hs:i∈seen
   ·refine jg B fr seen x ho (ZA _) λe f σ' w=>?_
    have t1:= λp1 p2 p3=>mR (c:=c) (k:=k) (e:="") (p1:=p1) (p2:=p2) (p3:=p3) L hn (x e) h5 (t:=true) (by simpa using hs)
    have t2:∀{p1 p2 p3:Pos},Te c bX k (.Compare (.Name "node" p1) [.In] [.Name "node2stacki" p2] p3) ⟨l,B.set N (nX c N es e)⟩ false ⟨l,B.set N (nX c N es e)⟩:=av rfl (aa bo rfl hn) (aa bo rfl L.nd) (GA (x e).nd ((x e).nolook h5 hf))
    k_dflt refine' ae (aL (t:=true) (t1 _ _ _) (aU (aL (t:=false) t2 ar))) (aU (cO w))
   ·have cm:∀e,i5 c (B.set N (nX c N es e)) ps n fr seen i=(i5 c B ps n fr seen i).set N (nX c N es e):= λe=>yf hN bl
    refine jg (i5 c B ps n fr seen i) ((i,0,B.length)::fr) (seen++[i]) (λe=>?_) (λf hm=>?_) ?_ λe f σ' w=>?_
    ·have z:=(x e).push h5 hs hf
     rw[cm e,Z4]at z
     exact z
    ·rcases ZI.mp hm with rfl|hm
     ·exact hi
     ·exact ho f hm
    ·have:=zY (su:=su) h5 hs
     show(su i).length - 0+k9 su fr+EY su (seen++[i])≤_
     lia
    ·have t1:= λp1 p2 p3=>mR (c:=c) (k:=k) (e:="") (p1:=p1) (p2:=p2) (p3:=p3) L hn (x e) h5 (t:=false) (by simpa using hs)
     have ps1:=uX (k:=k) G L hn (x e) (gh e) hi hs hf
     rw[cm e]at ps1
     generalize eb:vN=bdy at ps1
     k_dflt refine' ae (aL (t:=false) (t1 _ _ _) ?_) (aU (cO w))
     subst eb
     exact ps1
  refine br λGz kz=>?_
  refine d8 turn λB1 fr1 seen1 x1 o1 m1 w1=>?_
  refine kz ?_
  rcases zk (k:=k) hz hk G L gh hN fr1 B1 x1 o1 with⟨B',v1,v2⟩|⟨j,p,t,q,r,B',v1,v2,v3,v4,v5⟩
  ·exact jv l B' seen1 (λe=>me ww (w1 e _ _ (v1 e))) L v2
  ·have hj:=v4 (j,p+1,t) (.head _)
   have hq:=hsu j hj q (Zg v3)
   refine br λGz kz=>?_
   refine aO (Zs.mp (v2 0).de) λd1 _=>?_
   refine dh (ih (aS "node" (.str (nm q)) l) B' _ seen1 q (L.put _) (ah _ _ _) v2 hq.2 (λf hf=>by
    rcases ZI.mp hf with rfl|hf
    ·exact hq.1
    ·have h1:f.1<j:=(d1 f hf).1
     lia) v4 (by lia)) λl' B2 seen' u1 u2 u3=>?_
   refine kz ?_
   exact jv l' B2 seen' (λe=>jA (.inl rfl) ww (w1 e _ _ (v1 e)) (u1 e)) u2 u3
theorem CJ(hz:c.rz=true)(hk:100≤k)(G:c.Go)(gh:∀e,GH c (G0 e) N ord np su pi pd ps)(hN:N<n)(hsu:∀i∈ord,∀q∈su i,i<q∧q∈ord):∀(rest:List Nat)(l:List (Str×AV))(B:List AO)(seen:List Nat),FL l N n→(∀e,FC c (G0 e) (B.set N (nX c N es e)) ps n [] seen)→(∀i∈rest,i∈ord)→
  ∃(l':List (Str×AV))(B':List AO)(seen':List Nat),(∀e(pp:Pos),fm c bX k (j5 c N e es) (.Name "node" pp) gV (rest.map λi=>.str (nm i)) ⟨l,B.set N (nX c N es e)⟩ .next ⟨l',B'.set N (nX c N es e)⟩)∧∀e,FC c (G0 e) (B'.set N (nX c N es e)) ps n [] seen':=by
 intro rest
 induction rest with
 |nil=>
  intro l B seen L x _
  have bl:n+4≤B.length:=by have:=(x 0).len;simpa using this
  exact bh l B seen (λe pp=>.nil (bH (by lia))) x
 |cons i rest ih=>
  intro l B seen L x ho
  have hi:=ho i (.head _)
  have h5:=(gh 0).b i hi
  have bl:n+4≤B.length:=by have:=(x 0).len;simpa using this
  have L1:=L.put (.str (nm i))
  have hn:(aS ("node":Str) (AV.str (nm i)) l).lookup ("node":Str)=some (.str (nm i)):=ah _ _ _
  have turn:∃(l1:List (Str×AV))(B1:List AO)(seen1:List Nat)(g:AF),(g=.next∨g=.cont)∧(∀e,dq c bX k gV ⟨aS "node" (.str (nm i)) l,B.set N (nX c N es e)⟩ g ⟨l1,B1.set N (nX c N es e)⟩)∧FL l1 N n∧∀e,FC c (G0 e) (B1.set N (nX c N es e)) ps n [] seen1:=by
   by_cases hs:i∈seen
   ·refine fG _ B seen .cont (.inr rfl) (λe=>?_) L1 x
    have t1:= λp1 p2 p3=>mR (c:=c) (k:=k) (e:="") (p1:=p1) (p2:=p2) (p3:=p3) L1 hn (x e) h5 (t:=true) (by simpa using hs)
    k_dflt refine' tg (aL (t:=true) (t1 _ _ _) (aU sJ))
   ·refine dh (zp (k:=k) hz hk G gh hN hsu (k9 su []+EY su seen+1) _ B [] seen i L1 hn x hi (λf hf=>by cases hf) (λf hf=>by cases hf) (by lia)) λl1 B1 seen1 w L2 x2=>?_
    refine fG l1 B1 seen1 .next (.inl rfl) (λe=>?_) L2 x2
    have t1:= λp1 p2 p3=>mR (c:=c) (k:=k) (e:="") (p1:=p1) (p2:=p2) (p3:=p3) L1 hn (x e) h5 (t:=false) (by simpa using hs)
    have w':=w e
    generalize eb:gy=bdy at w'
    k_dflt refine' ae (aL (t:=false) (t1 _ _ _) ar) (aU (cO ?_))
    subst eb
    exact w'
  refine br λGz kz=>?_
  refine ia turn λl1 B1 seen1 g hg ex1 L2 x2=>?_
  refine dc (ih l1 B1 seen1 L2 x2 λj hj=>ho j (.tail _ hj)) λl' B' seen' lp x3=>?_
  refine kz ?_
  refine bh l' B' seen' (λe pp=>?_) x3
  have e1:=ex1 e
  have lp1:=lp e pp
  generalize gV=bdy at e1 lp1 ⊢
  exact fm.next (σ₁:=⟨aS "node" (.str (nm i)) l,B.set N (nX c N es e)⟩) (bH (by lia)) hg (bg bo rfl) e1 lp1
end
theorem HL(P:Params)(x:Value)(S:Setting):peek (Kx P) S (bindArgs (dw P 157) ⟨[x],[]⟩)=some [(("self":Str),x)]:=by w_on
theorem qU{B:List α}{a:α}(h:B[N]?=some a):B.set N a=B:=by
 refine bp (zS.mp h) λq1 q2=>?_
 rw[←q2];exact Z8 q1
theorem Cq{body:α→List Stmt}{B B':List AO}{f:AF}(hD:nM c B N es)(h:∀a e,dq c F k (body a) ⟨l,B.set N (nX c N es e)⟩ f ⟨l',B'.set N (nX c N es e)⟩)(hN:N<B'.length):
  ∃H',(∀a,dq c F k (body a) ⟨l,B⟩ f ⟨l',H'⟩)∧H'[N]?=B[N]?∧(∀y,y≠N→H'[y]?=B'[y]?)∧H'.length=B'.length:=by
 rcases hD with hD|⟨e,hD⟩
 ·refine gz (B'.set N (di c N es)) (λa=>Cf hD (bH hN) λe=>?_) ((bH hN).trans hD.symm) (λy hy=>zN (Ne.symm hy)) (by simp)
  rw[Zj];exact h a e
 ·refine gz (B'.set N (nX c N es e)) (λa=>?_) ((bH hN).trans hD.symm) (λy hy=>zN (Ne.symm hy)) (by simp)
  have z:=h a e
  rw[qU (show B[N]?=some (nX c N es e)from hD)]at z
  exact z
theorem GH.opened(gh:GH c H N ord np su pi pd ps)(e:Nat):GH c (H.set N (nX c N (ord.map λi=>(nm i,.obj (pi i))) e)) N ord np su pi pd ps:=by
 refine bp (gh.n.is) λP hP=>?_
 refine⟨.inr ⟨e,bH gh.n.lt⟩,λi hi=>ak (gh.i i hi) (gh.ni i hi),λi hi=>ak (gh.d i hi) λq=>?_,λi hi=>ak (gh.s i hi) λq=>?_,gh.ji,gh.js,gh.ni,gh.b,gh.nd⟩
 ·have:=gh.d i hi;rw[q,hP]at this;cases this
 ·have:=gh.s i hi;rw[q,hP]at this;cases this
theorem G1(hz:c.rz=true)(G:c.Go)(x:SO H S D N rd po fi)(gh:GH c H N ord np su pi pd ps)(hsu:∀i∈ord,∀q∈su i,i<q∧q∈ord):
  ∃H',Fn c (k+101) (.ref 157) [.obj S] [] H .none H'∧bW H H':=by
 refine br λGz kz=>?_
 refine bb (H.length) λn en=>?_
 have Nn:N<n:=by have:=gh.n.lt;lia
 let l0:List (Str×AV):=[("self",.obj S)]
 let l1:List (Str×AV):=aS ("n2i":Str) (.obj N) l0
 let l2:List (Str×AV):=aS ("stack":Str) (.obj n) l1
 let l3:List (Str×AV):=aS ("itstack":Str) (.obj (n+1)) l2
 let l4:List (Str×AV):=aS ("seen":Str) (.obj (n+2)) l3
 let l5:List (Str×AV):=aS ("node2stacki":Str) (.obj (n+3)) l4
 let ns:List (Str×AV):=ord.map λi=>(nm i,.obj (pi i))
 refine bb (H++[AO.list []]) λH1 e1=>?_
 refine bb (H1++[AO.list []]) λH2 e2=>?_
 refine bb (H2++[si c []]) λH3 e3=>?_
 refine bb (H3++[di c (n+3) []]) λH4 e4=>?_
 have n1:H1.length=n+1:=by rw[e1];simp[en]
 have n2:H2.length=n+2:=by rw[e2];simp[n1]
 have n3:H3.length=n+3:=by rw[e3];simp[n2]
 have n4:H4.length=n+4:=by rw[e4];simp[n3]
 have ext4:bW H H4:= λy o h=>by rw[e4,e3,e2,e1];exact aB (aB (aB (aB h)))
 have gh4:=gh.ext ext4
 have a0:H4[n]?=some (AO.list []):=by rw[e4,e3,e2,e1,en];exact aB (aB (aB aP))
 have a1:H4[n+1]?=some (AO.list []):=by rw[e4,e3,e2];exact aB (aB (n1▸aP))
 have a2:H4[n+2]?=some (si c []):=by rw[e4,e3];exact aB (n2▸aP)
 have a3:H4[n+3]?=some (di c (n+3) []):=by rw[e4];exact n3▸aP
 have x4:∀e,FC c (H.set N (nX c N ns e)) (H4.set N (nX c N ns e)) ps n [] []:= λe=>by
  refine⟨λy o h=>?_,by simp[en],by simp[n4],ak a0 (by lia),ak a1 (by lia),ak a2 (by lia),.inl (ak a3 (by lia)),(λf hf=>by cases hf),(λf hf=>by cases hf),.nil,(λf hf=>by cases hf),(λf hf=>by cases hf),List.nodup_nil⟩
  by_cases q:y=N
  ·subst q
   rw[bH (by lia)]at h ⊢
   exact h
  ·rw[zN (Ne.symm q)]at h
   exact ak (ext4 y o h) q
 refine dc (CJ (k:=k+100) hz (by lia) G (λe=>gh.opened e) Nn hsu ord l5 H4 [] ⟨rfl,rfl,rfl,rfl,rfl⟩ x4 (λi hi=>hi)) λl' B' seen' lp xf=>?_
 have bl:n+4≤B'.length:=by have:=(xf 0).len;simpa using this
 have rest:∀(a:Pos×Pos×Pos×Pos×Pos×Nat)(e:Nat),dq c bX (k+100) [.For (.Name "node" a.1) (.Name "n2i" a.2.1) gV [] a.2.2.1,.Return (some (.Constant .none a.2.2.2.2.2 a.2.2.2.1)) a.2.2.2.2.1] ⟨l5,H4.set N (nX c N ns e)⟩ (.ret .none) ⟨l',B'.set N (nX c N ns e)⟩:= λa e=>by
  have lp1:=lp e a.1
  generalize gV=bdy at lp1 ⊢
  have it:(j5 c N e ns).items=ord.map λi=>.str (nm i):=by
   show(ns.map λp=>AV.str p.1)=_
   simp[ns]
  refine ae (gr (I:=j5 c N e ns) G.ok rW (λ_ _=>rfl) (λ_ _=>rfl) (by lia) (aa bo rfl rfl) (Ea (bH (by lia))) (by rw[it];exact lp1)) (bv (aX bx))
 refine cv (Cq gh4.n rest (by lia)) λH' op h1 h2 h3=>?_
 refine kz ?_
 refine al H' ?_ λy o h=>?_
 ·refine da (fl:=.ret .none) (loc:=l0) G (EU _) (by w_on) (by w_on) (λρ m s xs ks X hx hk=>?_) ?_
  ·refine mx hx hk λ_ hx=>?_
   refine al [("self",_)] (@bC _ _ _ _ _ X ?_) (.cons hx .nil)
   exact HL _ _
  ·apply aK (loc:=l')
   have q1:∀{pos:Pos},Ev c bX (k+100) (.List [] pos) ⟨l1,H⟩ (.obj n) ⟨l1,H1⟩:= λ{pos}=>by
    have z:=dM (c:=c) (F:=bX) (k:=k+100) (pos:=pos) (σ₁:=⟨l1,H⟩) (vs:=[]) (by decide) au
    rw[e1,en];exact z
   have q2:∀{pos:Pos},Ev c bX (k+100) (.List [] pos) ⟨l2,H1⟩ (.obj (n+1)) ⟨l2,H2⟩:= λ{pos}=>by
    have z:=dM (c:=c) (F:=bX) (k:=k+100) (pos:=pos) (σ₁:=⟨l2,H1⟩) (vs:=[]) (by decide) au
    rw[e2,←n1];exact z
   have q3:cJ c bX (k+100) (λxs=>call (.type "set") xs) [] ⟨l3,H2⟩ (.obj (n+2)) ⟨l3,H3⟩:=by
    have z:=CD (c:=c) (F:=bX) (k:=k+100) (σ:=⟨l3,H2⟩)
    rw[e3,←n2];exact z
   have q4:∀{pos:Pos},Ev c bX (k+100) (.Dict [] [] pos) ⟨l4,H3⟩ (.obj (n+3)) ⟨l4,H4⟩:= λ{pos}=>by
    have z:=sO (c:=c) (F:=bX) (k:=k+100) (pos:=pos) (σ:=⟨l4,H3⟩) G.ok
    rw[e4,←n3];exact z
   have rs:∀(p1 p2 p3 p4 p5:Pos)(kd:Nat),dq c bX (k+100) [.For (.Name "node" p1) (.Name "n2i" p2) gV [] p3,.Return (some (.Constant .none kd p4)) p5] ⟨l5,H4⟩ (.ret .none) ⟨l',H'⟩:= λp1 p2 p3 p4 p5 kd=>op (p1,p2,p3,p4,p5,kd)
   generalize eb:gV=bdy at rs
   k_dflt refine' ae (aw (σ₁:=⟨l0,H⟩) bo rfl (λ_=>rfl) (cb G bo rfl rfl x rfl rfl (iV _))) (ae (aw bo rfl (λ_=>rfl) q1) (ae (aw bo rfl (λ_=>rfl) q2) (ae (aw bo rfl (λ_=>rfl) (cP (λ_=>rfl) (λ_=>rfl) (dg G bo rfl (IE _) GQ) aV au q3)) (ae (aw bo rfl (λ_=>rfl) q4) ?_))))
   subst eb
   exact rs _ _ _ _ _ _
 ·by_cases q:y=N
  ·subst q;rw[h1];exact ext4 _ _ h
  ·rw[h2 y q]
   have z:=(xf 0).ex y o (ak h q)
   rwa[zN (Ne.symm q)]at z
noncomputable def qx:Fs:=⟨B5,[]⟩
theorem jC:qx.scope.kind=.function:=by w_on
theorem DD(P:Params)(x:Value)(S:Setting):peek (Kx P) S (bindArgs (dw P 122) ⟨[x],[]⟩)=some [(("self":Str),x)]:=by w_on
noncomputable def pv(p2 p3:Pos):Expr:=.Attribute (.Name "i" p2) "node" p3
noncomputable def th(p6 p7 p8 p9:Pos)(q:Nat):Expr:=.Compare (.Attribute (.Name "i" p6) "npredecessors" p7) [.Eq] [.Constant (.int 0) q p8] p9
noncomputable def kh(p10 p11 p12 p13:Pos):Expr:=.Call (.Attribute (.Attribute (.Name "self" p10) "_node2info" p11) "values" p12) [] [] p13
theorem uS(kz:∀(sc:Scope)(p1 p2 p3 p4 p5 p6 p7 p8 p9 p10 p11 p12 p13 p14 p15:Pos)(q:Nat)(i0 i2 i3:Stmt),(BM=[i0,.Assign [.Attribute (.Name "self" p1) "_ready_nodes" p5] (.ListComp (pv p2 p3) [⟨.Name "i" p4,kh p10 p11 p12 p13,[th p6 p7 p8 p9 q],0⟩] sc p14) p15,i2,i3]∧
  (∀env,eval (kh p10 p11 p12 p13) env=(do
   let ov←eval (.Attribute (.Name "self" p10) "_node2info" p11) env
   standAt p12.atName
   let(f,first)←holding [ov] (getMethod ov "values" (gD (.Attribute (.Name "self" p10) "_node2info" p11) env))
   callWith p13 f first (backTo p13 (starEach [] env)) []))∧
  (∀env,swapsWith (.ListComp (pv p2 p3) [⟨.Name "i" p4,kh p10 p11 p12 p13,[th p6 p7 p8 p9 q],0⟩] sc p14) (some (.Attribute (.Name "self" p1) "_ready_nodes" p5)) p15.line env=pure false)∧
  (sc.names.all λx=>x.2 != .free)=true∧(sc.names.all λx=>x.2 != .cell)=true∧sc.kind=.function∧(sc.names.lookup (".0":Str)==some .local&&sc.names.all λx=>x.2 != .local||sc.names.lookup x.1==some .local)=true∧sc.names.lookup ("i":Str)=some .local∧
  (∀(c:Cx)(k:Nat)(G:c.Go)(l:List (Str×AV))(H:List AO)(S D N:Nat)(po fi:Int)(r:AV),l.lookup ("self":Str)=some (.obj S)→SO H S D N .none po fi→Ex c qx k i0 ⟨l,H⟩ .next ⟨l,H⟩)∧
  (∀(c:Cx)(k:Nat)(G:c.Go)(l:List (Str×AV))(H H':List AO)(S D N:Nat)(rd:AV)(po fi:Int),l.lookup ("self":Str)=some (.obj S)→SO H S D N rd po fi→Fn c k (.ref 157) [.obj S] [] H .none H'→dq c qx k [i2,i3] ⟨l,H⟩ .next ⟨aS "cycle" .none l,H'⟩))→Gz):Gz:=by
 refine kz _ _ _ _ _ _ _ _ _ _ _ _ _ _ _ _ _ _ _ _ ⟨by k_dflt rfl,λ_=>rfl,λ_=>rfl,by w_on,by w_on,by w_on,by w_on,by w_on,?_,?_⟩
 ·intro c k G l H S D N po fi r hl x
  k_dflt refine' aL (t:=false) (av rfl (cb G jC rfl hl x rfl rfl (iO _)) bx (bU rfl)) ar
 ·intro c k G l H H' S D N rd po fi hl x f
  have hn:(aS ("cycle":Str) AV.none l).lookup ("cycle":Str)=some .none:=ah _ _ _
  k_dflt refine' ae (aw (σ₁:=⟨l,H'⟩) jC rfl (λ_=>rfl) (gw G (EU _) (eE _) (λ_=>rfl) (aa jC rfl hl) x.s x.d rfl (GW _) aV au f)) (aU (aL (t:=false) (bP (λ_ _=>rfl) (aa jC rfl hn) ve) ar))
theorem Dl{B B':List AO}(hD:nM c B N es)(h:∀ep,Ev c F k e ⟨l,B.set N (nX c N es ep)⟩ v ⟨l',B'.set N (nX c N es ep)⟩)(hN:B'[N]?=B[N]?):Ev c F k e ⟨l,B⟩ v ⟨l',B'⟩:=by
 rcases hD with hD|⟨ep,hD⟩
 ·intro A ρ s env Q E K r q
  refine aj (r.hr.at_ N _ hD) λob h1 h2=>?_
  refine bp (h2 ρ _ (λ_ _=>rfl) (ZA _)) λep h3=>?_
  have nl:=aq hD
  have hN':=hN.trans hD
  have nl':=aq hN'
  have r1:aW c A F ρ ⟨l,B.set N (nX c N es ep)⟩ s env:=by
   have len:(B.set N (nX c N es ep)).length=B.length:=by simp
   refine⟨⟨λi o e=>?_,λi j hi hj=>r.hr.inj i j (len▸hi) (len▸hj),λi hi=>r.hr.up i (len▸hi),r.hr.base,r.hr.tj⟩,r.sc,r.gl,r.bl,r.ce,λp hp=>by rw[len];exact r.ci p hp,?_,λi hi=>r.ap i (len▸hi),r.lf,r.ge,r.sk.same len λb o es ep g1 g2 _ _=>bh o es ep g1 g2,r.tp,r.fl⟩
   ·show ∃ob,s.heap.get? (ρ i)=some ob∧OR ρ (B.set N (nX c N es ep)).length o ob
    rw[len]
    have e:(B.set N (nX c N es ep))[i]?=some o:=e
    by_cases q:i=N
    ·subst q
     rw[zT nl]at e
     cases e
     exact al ob h1 (xt h3)
    ·rw[zN (Ne.symm q)]at e
     exact r.hr.at_ i o e
   ·refine aj (r.lo) λm hm hl=>?_
    refine al m hm λx v hv=>?_
    show ∃v',m x=some v'∧VR ρ (B.set N (nX c N es ep)).length v v'
    rw[len];exact hl x v hv
  refine h ep A ρ s env Q E K r1 λρ' s' a r' st' va=>?_
  have r2:=r'.retype (ao':=di c N es) (ao:=nX c N es ep) (zT nl') λob hob=>m0 (hob ρ' _ (λ_ _=>rfl) (ZA _))
  rw[Zj,qU hN']at r2
  have e1:(St.H ⟨l',B'.set N (nX c N es ep)⟩).length=B'.length:=by simp
  have e2:(St.H ⟨l,B.set N (nX c N es ep)⟩).length=B.length:=by simp
  rw[e1]at st' va
  rw[e2]at st'
  exact q ρ' s' a r2 st' va
 ·have z:=h ep
  rw[qU (show B[N]?=some (nX c N es ep)from hD),qU (show B'[N]?=some (nX c N es ep)from hN.trans hD)]at z
  exact z
noncomputable def dR(np:Nat→Int)(ord:List Nat):List Nat:=ord.filter λi=>np i==0
theorem um(G:c.Go)(hk:F.scope.kind=.function)(hi:F.scope.names.lookup ("i":Str)=some .local)(hk100:100≤k){p7 p8 p9:Pos}{q:Nat}{e:Nat}(hg:gens=[⟨.Name "i" p4,iter,[th p6 p7 p8 p9 q],0⟩])(gh:GH c H N ord np su pi pd ps)(hN:H[N]?=some (nX c N (ord.map λi=>(nm i,.obj (pi i))) e)):
  ∀(rest:List Nat)(i:Nat)(done:List Nat)(l:List (Str×AV)),ord.drop i=rest→done.length≤i→
   ∃l',CL c F k (pv p2 p3) gens sc pos 0 (iw c N e (ord.map λi=>(nm i,.obj (pi i)))) H.length i ⟨l,H++[AO.list (done.map λj=>.str (nm j))]⟩ ⟨l',H++[AO.list ((done++dR np rest).map λj=>.str (nm j))]⟩:=by
 have its:(iw c N e (ord.map λi=>(nm i,.obj (pi i)))).items=ord.map λi=>.obj (pi i):=by
  show((ord.map λi=>(nm i,AV.obj (pi i))).map λp=>p.2)=_
  simp
 have o5:=gh.len
 have okN:∀(l:List (Str×AV))(L:List AO),(iw c N e (ord.map λi=>(nm i,.obj (pi i)))).ok (St.H ⟨l,H++L⟩):= λl L=>aB hN
 intro rest
 induction rest with
 |nil=>
  intro i done l hd hl
  subst hg
  refine⟨l,?_⟩
  rw[show done++dR np []=done by simp[dR]]
  refine iL gQ rfl rfl (λ_ _=>rfl) hk100 (okN _ _) ?_
  rw[its,ZC,ZS]
  exact ZL.mp hd
 |cons j rest ih=>
  intro i done l hd hl
  have hj:ord[i]?=some j:=by
   have:(ord.drop i)[0]?=some j:=by rw[hd];rfl
   rwa[Z1,Zq]at this
  have hd1:ord.drop (i+1)=rest:=by
   have:(ord.drop i).drop 1=rest:=by rw[hd];rfl
   rwa[Zp]at this
  have jm:=Zg hj
  have il:=aq hj
  let l1:List (Str×AV):=aS ("i":Str) (.obj (pi j)) l
  have li:l1.lookup ("i":Str)=some (.obj (pi j)):=ah _ _ _
  have g1:GH c (H++[AO.list (done.map λj=>.str (nm j))]) N ord np su pi pd ps:=gh.ext bW.app
  have ai:(iw c N e (ord.map λi=>(nm i,.obj (pi i)))).items[i]?=some (.obj (pi j)):=by rw[its,ZK,hj];rfl
  have ti:∀{t:Bool},(np j==0)=t→yR c F k [th p6 p7 p8 p9 q] ⟨l1,H++[AO.list (done.map λj=>.str (nm j))]⟩ t ⟨l1,H++[AO.list (done.map λj=>.str (nm j))]⟩:= λht=>
   av rfl (bE (λ_=>by k_dflt rfl) (aa hk hi li) (dG G (iS _) (g1.slt jm) (g1.d j jm) rfl rfl)) aJ (qz ht)
  by_cases z:(np j==0)=true
  ·refine bp (ih (i+1) (done++[j]) l1 hd1 (by simp;lia)) λl' h=>?_
   refine⟨l',?_⟩
   rw[show done++dR np (j::rest)=(done++[j])++dR np rest by simp[dR,z]]
   subst hg
   refine fM (σ₁:=⟨l1,H++[AO.list (done.map λj=>.str (nm j))]⟩) (σ₂:=⟨l1,H++[AO.list (done.map λj=>.str (nm j))]⟩) (σ₃:=⟨l1,H++[AO.list (done.map λj=>.str (nm j))]⟩) (v:=.str (nm j)) (acc:=done.map λj=>.str (nm j)) G.ok gQ rfl rfl (λ_ _=>rfl) (okN _ _) ai (bg hk hi) (ti z) (bE (λ_=>by k_dflt rfl) (aa hk hi li) (dG G (w7 _) (g1.slt jm) (g1.d j jm) rfl rfl)) aP (by simp;lia) ?_
   have e2:(H++[AO.list (done.map λj=>.str (nm j))]).set H.length (.list ((done.map λj=>.str (nm j))++[.str (nm j)]))=H++[AO.list ((done++[j]).map λj=>.str (nm j))]:=by
    rw[Zn _ _ (ZA _),ZY];simp
   show CL _ _ _ _ _ _ _ _ _ _ _ ⟨l1,(H++[AO.list (done.map λj=>.str (nm j))]).set H.length (.list ((done.map λj=>.str (nm j))++[.str (nm j)]))⟩ _
   rw[e2]
   exact h
  ·refine bp (ih (i+1) done l1 hd1 (by lia)) λl' h=>?_
   refine⟨l',?_⟩
   rw[show done++dR np (j::rest)=done++dR np rest by simp[dR,z]]
   subst hg
   exact mX (σ₁:=⟨l1,H++[AO.list (done.map λj=>.str (nm j))]⟩) (σ₂:=⟨l1,H++[AO.list (done.map λj=>.str (nm j))]⟩) G.ok gQ rfl rfl (λ_ _=>rfl) (okN _ _) ai (bg hk hi) (ti (t:=false) (by simpa using z)) h
noncomputable def Jo(D:Nat)(H H':List AO):Prop:=∀(y:Nat)(o:AO),y≠D→H[y]?=some o→H'[y]?=some o
theorem Dy(hz:c.rz=true)(G:c.Go)(x:SO H S D N .none po fi)(gh:GH c H N ord np su pi pd ps)(hsu:∀i∈ord,∀q∈su i,i<q∧q∈ord):
  ∃H' R,Fn c (k+102) (.ref 122) [.obj S] [] H .none H'∧SO H' S D N (.obj R) po fi∧GH c H' N ord np su pi pd ps∧H'[R]?=some (.list ((dR np ord).map λj=>.str (nm j)))∧Jo D H H'∧H.length≤R:=by
 refine br λGz kz=>?_
 refine uS λsc p1 p2 p3 p4 p5 p6 p7 p8 p9 p10 p11 p12 p13 p14 p15 q i0 i2 i3 hz_=>?_
 obtain⟨hb,he,hsw,s1,s2,s3,s4,k1,st0,st2⟩:=hz_
 have scp:cz qx sc sc []:=cQ s1 s2 s3 s4
 have ksc:(Fs.mk sc []).scope.kind=.function:=s3
 let ns:List (Str×AV):=ord.map λi=>(nm i,.obj (pi i))
 let l0:List (Str×AV):=[("self",.obj S)]
 refine bb (H++[nj N]++[AO.list ((dR np ord).map λj=>.str (nm j))]) λH1 e1=>?_
 have nl:=gh.n.lt
 have ex1:bW H H1:= λy o h=>by rw[e1];exact aB (aB h)
 have l1:(H++[nj N]).length=H.length+1:=by simp
 have evc:Ev c qx (k+101) (.ListComp (pv p2 p3) [⟨.Name "i" p4,kh p10 p11 p12 p13,[th p6 p7 p8 p9 q],0⟩] sc p14) ⟨l0,H⟩ (.obj (H.length+1)) ⟨l0,H1⟩:=by
  refine Dl gh.n (λe=>?_) (by rw[e1,zL (by simp;lia),zL nl])
  have ghe:=gh.opened e
  refine bb (H.set N (nX c N ns e)++[nj N]) λHx ex=>?_
  have lx:Hx.length=H.length+1:=by rw[ex];simp
  have hNx:Hx[N]?=some (nX c N ns e):=by rw[ex];exact aB (bH nl)
  have ghx:GH c Hx N ord np su pi pd ps:=by rw[ex];exact ghe.ext bW.app
  refine bp (um (F:=⟨sc,[]⟩) (k:=k+101) (gens:=[⟨.Name "i" p4,kh p10 p11 p12 p13,[th p6 p7 p8 p9 q],0⟩]) (sc:=sc) (pos:=p14) (p2:=p2) (p3:=p3) G ksc k1 (by lia) rfl ghx hNx ord 0 [] [] rfl (ZA _)) λl' cl=>?_
  have xe:SO (H.set N (nX c N ns e)) S D N .none po fi:=by
   refine bp (gh.n.is) λP hP=>?_
   exact⟨ak x.s (by rintro rfl;have:=x.s;rw[hP]at this;cases this),ak x.d (by rintro rfl;have:=x.d;rw[hP]at this;cases this)⟩
  have dv:=yg (c:=c) (F:=qx) (k:=k+101) (σ:=⟨l0,H.set N (nX c N ns e)⟩) ghe.n
  have z:=fZ (F:=qx) (k:=k+101) (σ:=⟨l0,H.set N (nX c N ns e)⟩) (σ₁:=⟨l0,Hx⟩) (I:=iw c N e ns) (loc':=l') (H':=H1.set N (nX c N ns e)) (a:=.obj H.length) (rest:=[]) (ifs:=[th p6 p7 p8 p9 q]) (target:=.Name "i" p4) (iter:=kh p10 p11 p12 p13) (elt:=pv p2 p3) (pos:=p14) G.ok gQ scp (λ_ _=>rfl)
   (d6 he (cb G jC rfl rfl xe rfl rfl (iV _)) (qu PySem.F.slot_dict_values PySem.F.type_dict_values ghe.n) aV au (by rw[ex];rw[show(St.H ⟨l0,H.set N (nX c N ns e)⟩).length=H.length by simp]at dv;exact dv))
   (CV (by show Hx[_]?=_;rw[ex];have:=aP (H:=H.set N (nX c N ns e)) (o:=nj N);rwa[Z4]at this) hNx) hNx (by rw[e1];simp[lx]) (by
    have:H1.set N (nX c N ns e)=Hx++[AO.list (([]++dR np ord).map λj=>.str (nm j))]:=by
     rw[e1,ex,Za _ _ (by simp;lia),Za _ _ nl];rfl
    rw[this]
    have e3:(St.H ⟨l0,Hx⟩).length=Hx.length:=rfl
    have e4:(⟨[],St.H ⟨l0,Hx⟩++[AO.list []]⟩:St)=⟨[],Hx++[AO.list (([]:List Nat).map λj=>.str (nm j))]⟩:=rfl
    rw[e3,e4]
    exact @cl)
  rw[show(St.H ⟨l0,Hx⟩).length=H.length+1 from lx]at z
  exact z
 have xx:SO H1 S D N .none po fi:=⟨ex1 _ _ x.s,ex1 _ _ x.d⟩
 have dl:=aq xx.d
 have sd:S≠D:=by rintro rfl;have:=xx.s;rw[xx.d]at this;cases this
 refine bb (H1.set D (.dict (wA N (.obj (H.length+1)) po fi))) λH2 e2=>?_
 have bt2:Jo D H1 H2:= λy o hy h=>by rw[e2];exact ak h hy
 have x2:SO H2 S D N (.obj (H.length+1)) po fi:=⟨bt2 _ _ sd xx.s,by rw[e2];exact bH dl⟩
 have gh2:GH c H2 N ord np su pi pd ps:=by
  have g:=gh.ext ex1
  have dd:=xx.d
  refine⟨g.n.keep λo h=>bt2 _ _ ?_ h,λi hi=>bt2 _ _ ?_ (g.i i hi),λi hi=>bt2 _ _ ?_ (g.d i hi),λi hi=>bt2 _ _ ?_ (g.s i hi),g.ji,g.js,g.ni,g.b,g.nd⟩
  ·rintro rfl;refine bp (g.n.is) λP hP=>?_;rw[hP]at dd;cases dd
  ·intro q;have:=g.i i hi;rw[q,dd]at this;cases this
  ·intro q;have:=g.d i hi;rw[q,dd]at this;cases this
  ·intro q;have:=g.s i hi;rw[q,dd]at this;cases this
 refine aj (G1 (k:=k) hz G x2 gh2 hsu) λH3 f3 ex3=>?_
 refine kz ?_
 have rl:H1[H.length+1]?=some (.list ((dR np ord).map λj=>.str (nm j))):=by rw[e1,←l1];exact aP
 have dH:=aq x.d
 refine gY H3 (H.length+1) ?_ ⟨ex3 _ _ x2.s,ex3 _ _ x2.d⟩ (gh2.ext ex3) (ex3 _ _ (bt2 _ _ (by lia) rl)) (λy o hy h=>ex3 _ _ (bt2 _ _ hy (ex1 _ _ h))) (by lia)
 refine da (fl:=.next) (loc:=l0) G (vW _) (by w_on) (by w_on) (λρ m s xs ks X hx hk=>?_) ?_
 ·refine mx hx hk λ_ hx=>?_
  refine al [("self",_)] (@bC _ _ _ _ _ X ?_) (.cons hx .nil)
  exact DD _ _
 ·apply aK (loc:=aS "cycle" .none l0)
  rw[hb]
  have set1:=cI (c:=c) (F:=qx) (k:=k+101) (σ:=⟨l0,H1⟩) (v:=.obj (H.length+1)) G (eE _) xx.s xx.d (of_decide_eq_true (by w_on)) (iO _)
  rw[show(St.H ⟨l0,H1⟩).set D (.dict (aS "_ready_nodes" (.obj (H.length+1)) (wA N .none po fi)))=H2 from e2.symm]at set1
  have a1:Ex c qx (k+101) (.Assign [.Attribute (.Name "self" p1) "_ready_nodes" p5] (.ListComp (pv p2 p3) [⟨.Name "i" p4,kh p10 p11 p12 p13,[th p6 p7 p8 p9 q],0⟩] sc p14) p15) ⟨l0,H⟩ .next ⟨l0,H2⟩:=aQ hsw evc (aa jC rfl rfl) set1
  have b0:=st0 c (k+101) G l0 H S D N po fi .none rfl x
  have b2:=st2 c (k+101) G l0 H2 H3 S D N (.obj (H.length+1)) po fi rfl x2 f3
  exact ae b0 (ae a1 b2)
theorem jM(l:Addr)(o:Obj)(items:Array Value)(n:Nat)(hc:o.cls=.type "list")(hd:o.data=.seq items n)(hfit:(items.size:Int)<2 ^ 63):
  Meets (Builtin.«bool.__new__» ⟨[.type "bool",.ref l],[]⟩) (λ_ R s=>s.heap.get? l=some o∧R (.ok (.ret (.bool (!items.isEmpty)))) {s with toks:=s.toks+1+1}):=
 Meets.of_wp λprog w A R s hs=>by
  refine br λGz kz=>?_
  obtain⟨hp,g,d,tk,os⟩:=s
  refine aO hs λho hs=>?_
  refine kz ?_
  have f1:=PySem.F.conv_sub_bool
  have hl:Shared.heap ⟨hp,g,d,tk,os⟩ |>.IsList l items:=iN o ho hc n hd
  repeat (any_goals (first|assumption|(with_reducible refine wpAny_truthy_list hl hfit ?_)|wp_step))
  all_goals first|exact(al _ rfl hs)|exact hs|skip
theorem EN(P:Params):∃t,nsIn (Kx P) mainGlobals ("_NODE_OUT":Str)=some (some (.int (-1) t)):=⟨(pC (((nsIn (Kx P) mainGlobals ("_NODE_OUT":Str)).getD none).getD .none)).2,by w_on⟩
theorem F6(P:Params):∃t,nsIn (Kx P) mainGlobals ("_NODE_DONE":Str)=some (some (.int (-2) t)):=⟨(pC (((nsIn (Kx P) mainGlobals ("_NODE_DONE":Str)).getD none).getD .none)).2,by w_on⟩
theorem GK(P:Params):nsIn (Kx P) mainGlobals ("bool":Str)=some none:=by w_on
theorem Ef:bootBuiltins ("bool":Str)=some (.type "bool"):=by w_on
theorem DG(P:Params):nsIn (Kx P) mainGlobals ("tuple":Str)=some none:=by w_on
theorem zO:bootBuiltins ("tuple":Str)=some (.type "tuple"):=by w_on
theorem kF{i:Int}{t:Tok}(h:Ev c F k e σ (.val (.int i t)) σ₁):Ev c F k e σ (.int i) σ₁:= λA ρ s env Q E K r q=>
 h A ρ s env Q E K r λρ1 s1 x r1 st1 vx=>q ρ1 s1 x r1 st1 ⟨t,vx⟩
theorem Dw(hj:σ.H[j]?=some (.list vs))(hl:vs.length<1000)(ht:(!vs.isEmpty)=t):cJ c F k (λxs=>call (.type "bool") xs) [.obj j] σ (.bool t) σ:= λA ρ s env Q E xs K r hx q=>by
 refine lL hx λ_ h1=>?_
 refine br λGz kz=>?_
 refine aO h1 ?_;clear h1;intro _ z0;subst z0
 refine bz (r.list hj) λits z0 h3 _=>qL z0 λo g1 g2 n g3=>?_
 refine kz ?_
 have ln:=aI h3
 refine call_bool_1 (jM (ρ j) o ⟨its⟩ n g2 g3 (by show((its.length:Nat):Int)<_;lia)) ⟨g1,rfl,?_⟩
 refine q ρ _ _ (r.toks _) (.toks _) ?_
 show Value.bool _=_
 rw[←ht]
 cases its<;>cases vs<;>simp_all
theorem An(hj:σ.H[j]?=some (.list vs))(hl:vs.length<1000):cJ c F k (λxs=>call (.type "tuple") xs) [.obj j] σ (.obj σ.H.length) ⟨σ.loc,σ.H++[.tuple vs]⟩:= λA ρ s env Q E xs K r hx q=>by
 refine lL hx λ_ h1=>?_
 refine aO h1 ?_;clear h1;intro _ z0;subst z0
 refine bz (r.list hj) λits g h3 _=>?_
 have ln:=aI h3
 refine call_tuple_list g (λh' hk=>?_) (by rw[Ze];unfold sizeLine;lia)
 have nn:s.heap.get? h'.objs.size=none:=by
  cases e:s.heap.get? h'.objs.size with
  |none=>rfl
  |some o=>exact absurd (ZB (hk _ _ e)) (ZJ _)
 refine aO (r.allocAt (ao:=.tuple vs) (ob:={cls:=.type "tuple",data:=.seq ⟨its⟩}) (a:=h'.objs.size) (h':=h'.push {cls:=.type "tuple",data:=.seq ⟨its⟩}) (tk:=s.toks) (λb o e=>zH _ (hk b o e)) nn (ZN _ rfl) (cH its _ rfl (h3.mono (λi hi=>bc hi) (Zf _)))) λr2 st2=>?_
 exact q _ _ _ r2 st2 ⟨by simp,by rw[aF]⟩
theorem BZ(hj:σ.H[j]?=some (.list vs))(hl:vs.length<1000):cJ c F k (λxs=>call (.builtin "list.clear") xs) [.obj j] σ .none ⟨σ.loc,σ.H.set j (.list [])⟩:= λA ρ s env Q E xs K r hx q=>by
 refine lL hx λ_ h1=>?_
 refine aO h1 ?_;clear h1;intro _ z0;subst z0
 refine aj (r.hr.at_ j _ hj) λob g1 g2=>?_
 refine ds g2 ?_;clear g2;intro its e z0 h3;subst z0
 have ln:=aI h3
 refine call_meets PySem.F.slot_list_clear (al _ g1 rfl) PySem.F.entry_list_clear (PySem.F.args_list_clear_1 _) (AutoSeq1.list_clear_list_0 (ρ j) ⟨its⟩ e (by rw[Ze];unfold sizeLine;lia)) ⟨g1,?_⟩
 refine aO (r.updL (ho:=g1) (acc':=[]) (f:= λ_=> #[]) (tk:=s.toks) hj (al [] rfl .nil)) λr2 st2=>?_
 exact q ρ _ _ r2 st2 rfl
theorem vj{x y:Expr}(h1:Ev c F k x σ (.bool true) σ₁):Ev c F k (.BoolOp .Or [x,y] pos) σ (.bool true) σ₁:= λA ρ s env Q E K r q=>
 wpAny_Or2 (h1 A ρ s env _ E K r λρ1 s1 z r1 st1 vz=>by
  rw[show z=Value.bool true from vz]
  refine wpAny_truthy_bool ?_
  rw[if_pos rfl]
  exact q ρ1 s1 _ r1 st1 rfl)
theorem tM{x y:Expr}(h1:Ev c F k x σ (.bool false) σ₁)(h2:Ev c F k y σ₁ v σ₂):Ev c F k (.BoolOp .Or [x,y] pos) σ v σ₂:= λA ρ s env Q E K r q=>
 wpAny_Or2 (h1 A ρ s env _ E K r λρ1 s1 z r1 st1 vz=>by
  rw[show z=Value.bool false from vz]
  refine wpAny_truthy_bool ?_
  rw[if_neg Z0]
  exact h2 A ρ1 s1 env _ E K r1 λρ2 s2 w r2 st2 vw=>q ρ2 s2 w r2 (st1.trans st2) vw)
noncomputable def HQ:Fs:=⟨E0,[]⟩
theorem gU:HQ.scope.kind=.function:=by w_on
theorem Gl(P:Params)(x:Value)(S:Setting):peek (Kx P) S (bindArgs (dw P 136) ⟨[x],[]⟩)=some [(("self":Str),x)]:=by w_on
section
variable{R:Nat}{rs:List AV}
theorem FU(G:c.Go)(x:SO H S D N (.obj R) po fi)(hR:H[R]?=some (.list rs))(hl:rs.length<100):Fn c (k+1) (.ref 136) [.obj S] [] H (.bool (decide (fi<po)||!rs.isEmpty)) H:=by
 refine da (fl:=.ret (.bool (decide (fi<po)||!rs.isEmpty))) (loc:=[("self",.obj S)]) G (Au _) (by w_on) (by w_on) (λρ m s xs ks X hx hk=>?_) ?_
 ·refine mx hx hk λ_ hx=>?_
  refine al [("self",_)] (@bC _ _ _ _ _ X ?_) (.cons hx .nil)
  exact Gl _ _
 ·apply aK (loc:=[("self",.obj S)])
  by_cases h:fi<po
  ·have e:(decide (fi<po)||!rs.isEmpty)=true:=by simp[h]
   rw[e]
   k_dflt refine' ae (aL (t:=false) (av rfl (cb G gU rfl rfl x rfl rfl (iO _)) bx (bQ rfl)) ar) (bv (aX (vj (uP rfl (cb G gU rfl rfl x rfl rfl (sR _)) (cb G gU rfl rfl x rfl rfl (t9 _)) (lB (by simpa using h))))))
  ·have e:(decide (fi<po)||!rs.isEmpty)= !rs.isEmpty:=by simp[h]
   rw[e]
   have ob:=Dw (c:=c) (F:=HQ) (k:=k) (σ:=⟨[("self",.obj S)],H⟩) (t:=!rs.isEmpty) hR (by lia) rfl
   k_dflt refine' ae (aL (t:=false) (av rfl (cb G gU rfl rfl x rfl rfl (iO _)) bx (bQ rfl)) ar) (bv (aX (tM (uP rfl (cb G gU rfl rfl x rfl rfl (sR _)) (cb G gU rfl rfl x rfl rfl (t9 _)) (lB (by simpa using h))) (cP (λ_=>rfl) (λ_=>rfl) (dg G gU rfl (GK _) Ef) (af λ_=>rfl) (am (λ_=>rfl) (cb G gU rfl rfl x rfl rfl (iO _)) au) ob))))
end
noncomputable def oK:Fs:=⟨Ij,[]⟩
theorem cU:oK.scope.kind=.function:=by w_on
theorem Gj:∀env:Env,env.scope=oK.scope→interactive env=false:= λenv he=>by
 unfold interactive
 rw[he]
 rfl
theorem Hq(P:Params)(x:Value)(S:Setting):peek (Kx P) S (bindArgs (dw P 129) ⟨[x],[]⟩)=some [(("self":Str),x)]:=by w_on
noncomputable def nT:=d7 Ip 3
noncomputable def mG(np:Nat→Int)(rs:List Nat):Nat→Int:=rs.foldl (λnp i=>iR np i (-1)) np
structure GS(l:List (Str×AV))(S N T:Nat):Prop where
 s:l.lookup ("self":Str)=some (.obj S)
 n:l.lookup ("n2i":Str)=some (.obj N)
 t:l.lookup ("result":Str)=some (.obj T)
theorem GS.put{l:List (Str×AV)}{S N T:Nat}(h:GS l S N T)(a:AV):GS (aS "node" a l) S N T:=
 ⟨dQ h.s,dQ h.n,dQ h.t⟩
noncomputable def xk(ord:List Nat)(pi:Nat→Nat)(H H':List AO):Prop:=∀(y:Nat)(o:AO),H[y]?=some o→(∀i∈ord,y≠pi i)→H'[y]?=some o
section
variable{R:Nat}
theorem xk.setnp(gh:GH c H N ord np su pi pd ps)(hi:i∈ord)(z:AO):xk ord pi H (H.set (pi i) z):= λy o h hy=>ak h (hy i hi)
theorem D3(G:c.Go)(L:GS l S N T)(hn:l.lookup ("node":Str)=some (.str (nm i)))(gh:GH c H N ord np su pi pd ps)(hi:i∈ord):
  ∃H',dq c oK k nT ⟨l,H⟩ .next ⟨l,H'⟩∧GH c H' N ord (iR np i (-1)) su pi pd ps∧xk ord pi H H':=by
 refine aO (gh.setnp hi (-1)) λg1 _=>?_
 refine bO _ ?_ g1 (.setnp gh hi _)
 refine bp (EN c.w.params) λt ht=>?_
 have w:=fH (c:=c) (F:=oK) (k:=k) (σ:=⟨l,H⟩) (v:=.int (-1)) G (iS _) (by decide) (gh.slt hi) (gh.d i hi)
 k_dflt refine' aU (aQ (λ_=>rfl) (kF (dp G cU rfl ht)) (kY (λ_ _=>rfl) (aa cU rfl L.n) (aa cU rfl hn) gh.n (gh.look hi)) w)
theorem DJ(G:c.Go):∀(rest:List Nat){l:List (Str×AV)}{H:List AO}{np:Nat→Int},GS l S N T→H[T]?=some (.tuple vs)→GH c H N ord np su pi pd ps→(∀i∈rest,i∈ord)→
  ∃l' H',(∀pp:Pos,fm c oK k (fK T vs) (.Name "node" pp) nT (be rest) ⟨l,H⟩ .next ⟨l',H'⟩)∧GS l' S N T∧GH c H' N ord (mG np rest) su pi pd ps∧xk ord pi H H':=by
 intro rest
 induction rest with
 |nil=>
  intro l H np L hT gh _
  exact dJ l H (λ_=>.nil hT) L gh λy o h _=>h
 |cons i rest ih=>
  intro l H np L hT gh ho
  have tp:∀j∈ord,T≠pi j:= λj hj q=>by have:=gh.i j hj;rw[←q,hT]at this;cases this
  refine br λGz kz=>?_
  refine bz (D3 (k:=k) (l:=aS "node" (.str (nm i)) l) G (L.put _) (ah _ _ _) gh (ho i (.head _))) λH1 e1 g1 k1=>?_
  refine cT (ih (L.put (.str (nm i))) (k1 _ _ hT tp) g1 λj hj=>ho j (.tail _ hj)) λl2 H2 e2 L2 g2 k2=>?_
  refine kz ?_
  refine dJ l2 H2 ?_ L2 g2 λy o h hy=>k2 y o (k1 y o h hy) hy
  generalize nT=bdy at e1 e2 ⊢
  exact λpp=>fm.next (a:=.str (nm i)) (rest:=be rest) (σ₁:=⟨aS "node" (.str (nm i)) l,H⟩) hT (.inl rfl) (bg cU rfl) e1 (e2 pp)
noncomputable def tz(D R:Nat)(ord:List Nat)(pi:Nat→Nat)(H H':List AO):Prop:=∀(y:Nat)(o:AO),H[y]?=some o→y≠D→y≠R→(∀i∈ord,y≠pi i)→H'[y]?=some o
theorem GH.keepO(gh:GH c H N ord np su pi pd ps)(h:∀(y:Nat)(o:AO),H[y]?=some o→(y=N∨∃i∈ord,y=pi i∨y=pd i∨y=ps i)→H'[y]?=some o):GH c H' N ord np su pi pd ps:=
 ⟨gh.n.keep λo e=>h _ _ e (.inl rfl),λi hi=>h _ _ (gh.i i hi) (.inr (al i hi (.inl rfl))),λi hi=>h _ _ (gh.d i hi) (.inr (al i hi (.inr (.inl rfl)))),λi hi=>h _ _ (gh.s i hi) (.inr (al i hi (.inr (.inr rfl)))),gh.ji,gh.js,gh.ni,gh.b,gh.nd⟩
theorem GH.setO(gh:GH c H N ord np su pi pd ps){y:Nat}{z:AO}(h:y≠N∧∀i∈ord,y≠pi i∧y≠pd i∧y≠ps i):GH c (H.set y z) N ord np su pi pd ps:=
 gh.keepO λx o e hx=>ak e (by
  rcases hx with rfl|⟨i,hi,rfl|rfl|rfl⟩
  ·exact λq=>h.1 q.symm
  ·exact λq=>(h.2 i hi).1 q.symm
  ·exact λq=>(h.2 i hi).2.1 q.symm
  ·exact λq=>(h.2 i hi).2.2 q.symm)
theorem SO.noG(x:SO H S D N rd po fi)(gh:GH c H N ord np su pi pd ps):D≠N∧∀i∈ord,D≠pi i∧D≠pd i∧D≠ps i:=by
 have dd:=x.d
 refine⟨?_,λi hi=>⟨λq=>?_,λq=>?_,λq=>?_⟩⟩
 ·rintro rfl;refine bp (gh.n.is) λP hP=>?_;rw[hP]at dd;cases dd
 ·have:=gh.i i hi;rw[←q,dd]at this;cases this
 ·have:=gh.d i hi;rw[←q,dd]at this;cases this
 ·have:=gh.s i hi;rw[←q,dd]at this;cases this
theorem IJ(G:c.Go)(x:SO H S D N (.obj R) po fi)(gh:GH c H N ord np su pi pd ps){rs:List Nat}(hR:H[R]?=some (.list (be rs)))(hRg:∀i∈ord,R≠ps i)(ho:∀i∈rs,i∈ord)(hl:rs.length≤5):
  ∃H' T,Fn c (k+101) (.ref 129) [.obj S] [] H (.obj T) H'∧H'[T]?=some (.tuple (be rs))∧H.length≤T∧SO H' S D N (.obj R) (po+rs.length) fi∧GH c H' N ord (mG np rs) su pi pd ps∧H'[R]?=some (.list [])∧tz D R ord pi H H':=by
 refine br λGz kz=>?_
 refine bb (H++[AO.tuple (be rs)]) λH1 e1=>?_
 have ex1:bW H H1:= λy o h=>by rw[e1];exact aB h
 have hT:H1[H.length]?=some (.tuple (be rs)):=by rw[e1];exact aP
 have x1:SO H1 S D N (.obj R) po fi:=⟨ex1 _ _ x.s,ex1 _ _ x.d⟩
 have g1:=gh.ext ex1
 let l0:List (Str×AV):=[("self",.obj S)]
 let l1:List (Str×AV):=aS ("result":Str) (.obj H.length) l0
 let l2:List (Str×AV):=aS ("n2i":Str) (.obj N) l1
 refine cT (DJ (k:=k+100) (l:=l2) (T:=H.length) (S:=S) G rs ⟨rfl,rfl,rfl⟩ hT g1 ho) λl' H2 lp L2 g2 k2=>?_
 have no1:=x1.noG g1
 have sN:∀i∈ord,S≠pi i:= λi hi q=>by have:=g1.i i hi;rw[←q,x1.s]at this;cases this
 have rN:∀i∈ord,R≠pi i:= λi hi q=>by have:=gh.i i hi;rw[←q,hR]at this;cases this
 have tN:∀i∈ord,H.length≠pi i:= λi hi q=>by have:=g1.i i hi;rw[←q,hT]at this;cases this
 have x2:SO H2 S D N (.obj R) po fi:=⟨k2 _ _ x1.s sN,k2 _ _ x1.d λi hi=>(no1.2 i hi).1⟩
 have hR2:H2[R]?=some (.list (be rs)):=k2 _ _ (ex1 _ _ hR) rN
 have rd:R≠D:=by rintro rfl;have:=x2.d;rw[hR2]at this;cases this
 have rs':S≠R:=by rintro rfl;have:=x2.s;rw[hR2]at this;cases this
 have sd:S≠D:=by rintro rfl;have:=x2.s;rw[x2.d]at this;cases this
 refine bb (H2.set R (.list [])) λH3 e3=>?_
 have x3:SO H3 S D N (.obj R) po fi:=⟨by rw[e3];exact ak x2.s rs',by rw[e3];exact ak x2.d (Ne.symm rd)⟩
 have g3:GH c H3 N ord (mG np rs) su pi pd ps:=by
  rw[e3]
  refine g2.setO ⟨?_,λi hi=>⟨rN i hi,λq=>?_,hRg i hi⟩⟩
  ·rintro rfl;refine bp (g2.n.is) λP hP=>?_;rw[hP]at hR2;cases hR2
  ·have:=g2.d i hi;rw[←q,hR2]at this;cases this
 refine bb (H3.set D (.dict (wA N (.obj R) (po+rs.length) fi))) λH4 e4=>?_
 refine kz ?_
 have dl:=aq x3.d
 have x4:SO H4 S D N (.obj R) (po+rs.length) fi:=⟨by rw[e4];exact ak x3.s sd,by rw[e4];exact bH dl⟩
 have k14:∀(y:Nat)(o:AO),H1[y]?=some o→y≠D→y≠R→(∀i∈ord,y≠pi i)→H4[y]?=some o:= λy o h a b d=>by rw[e4,e3];exact ak (ak (k2 y o h d) b) a
 have tl:H.length≠D:=by have:=aq x.d;lia
 have tr:H.length≠R:=by have:=aq hR;lia
 refine⟨H4,H.length,?_,k14 _ _ hT tl tr tN,ZA _,x4,?_,?_,λy o h a b d=>k14 y o (ex1 y o h) a b d⟩
 ·refine da (fl:=.ret (.obj H.length)) (loc:=l0) G (ES _) (by w_on) (by w_on) (λρ m s xs ks X hx hk=>?_) ?_
  ·refine mx hx hk λ_ hx=>?_
   refine al [("self",_)] (@bC _ _ _ _ _ X ?_) (.cons hx .nil)
   exact Hq _ _
  ·apply aK (loc:=l')
   have lR:(be rs).length<1000:=by simp[be];lia
   have ot:cJ c oK (k+100) (λxs=>call (.type "tuple") xs) [.obj R] ⟨l0,H⟩ (.obj H.length) ⟨l0,H1⟩:=by
    rw[e1];exact An (σ:=⟨l0,H⟩) hR lR
   have oc:cJ c oK (k+100) (λxs=>call (.builtin "list.clear") xs) [.obj R] ⟨l',H2⟩ .none ⟨l',H3⟩:=by
    rw[e3];exact BZ (σ:=⟨l',H2⟩) hR2 lR
   have sp:=cI (c:=c) (F:=oK) (k:=k+100) (σ:=⟨l',H3⟩) (v:=.int (po+rs.length)) G (eE _) x3.s x3.d (of_decide_eq_true (by w_on)) (t9 _)
   rw[show(St.H ⟨l',H3⟩).set D (.dict (aS "_npassedout" (.int (po+rs.length)) (wA N (.obj R) po fi)))=H4 from e4.symm]at sp
   have hT3:H3[H.length]?=some (.tuple (be rs)):=by rw[e3];exact ak (k2 _ _ hT tN) tr
   have ln:=vS (c:=c) (F:=oK) (k:=k+100) (σ:=⟨l',H3⟩) (vs:=be rs) lR hT3
   rw[show(be rs).length=rs.length by simp[be]]at ln
   have fr:∀{p1 p2 p3:Pos},Ex c oK (k+100) (.For (.Name "node" p1) (.Name "result" p2) nT [] p3) ⟨l2,H1⟩ .next ⟨l',H2⟩:= λ{p1 p2 p3}=>by
    have lp1:=lp p1
    generalize nT=bdy at lp1 ⊢
    exact gr (I:=fK H.length (be rs)) G.ok fX (λ_ _=>rfl) (λ_ _=>rfl) (by lia) (aa cU rfl rfl) (lh hT) lp1
   k_dflt refine' ae (aL (t:=false) (av rfl (cb G cU rfl rfl x rfl rfl (iO _)) bx (bQ rfl)) ar) (ae (aw (σ₁:=⟨l0,H1⟩) cU rfl (λ_=>rfl) (cP (λ_=>rfl) (λ_=>rfl) (dg G cU rfl (DG _) zO) (af λ_=>rfl) (am (λ_=>rfl) (cb G cU rfl rfl x rfl rfl (iO _)) au) ot)) (ae (aw (σ₁:=⟨l1,H1⟩) cU rfl (λ_=>rfl) (cb G cU rfl rfl x1 rfl rfl (iV _))) (ae fr (ae (ck (F:=oK) (v:=.none) Gj (λ_=>rfl) (d6 (λ_=>rfl) (cb G cU rfl L2.s x2 rfl rfl (iO _)) (dk PySem.F.slot_list_clear PySem.F.type_list_clear hR2) aV au oc)) (ae (eM (aa cU rfl L2.s) (bY G (eE _) x3.s x3.d rfl rfl (t9 _)) (dB (λ_=>rfl) (λ_=>rfl) (dg G cU rfl (tB _) og) (af λ_=>rfl) (am (λ_=>rfl) (aa cU rfl L2.t) au) ln) eW sp) (bv (aX (aa cU rfl L2.t))))))))
 ·rw[e4];exact g3.setO (x3.noG g3)
 ·rw[e4,e3];exact ak (bH (aq hR2)) rd
end
noncomputable def i9:Fs:=⟨zh,[]⟩
theorem bF:i9.scope.kind=.function:=by w_on
theorem FB:∀env:Env,env.scope=i9.scope→interactive env=false:= λenv he=>by
 unfold interactive
 rw[he]
 rfl
noncomputable def mf:=d7 za 2
noncomputable def oY:=d7 mf 4
noncomputable def j8(s:(Nat→Int)×List Nat)(j:Nat):(Nat→Int)×List Nat:=(iR s.1 j (s.1 j - 1),if s.1 j - 1==0 then s.2++[j]else s.2)
noncomputable def nz(su:Nat→List Nat)(s:(Nat→Int)×List Nat)(i:Nat):(Nat→Int)×List Nat:=(su i).foldl j8 (iR s.1 i (-2),s.2)
noncomputable def jS(su:Nat→List Nat)(s:(Nat→Int)×List Nat)(rs:List Nat):(Nat→Int)×List Nat:=rs.foldl (nz su) s
structure xZ(l:List (Str×AV))(S N T:Nat):Prop where
 s:l.lookup ("self":Str)=some (.obj S)
 n:l.lookup ("n2i":Str)=some (.obj N)
 t:l.lookup ("nodes":Str)=some (.obj T)
theorem xZ.put{l:List (Str×AV)}{S N T:Nat}(h:xZ l S N T){x:Str}(a:AV)(hx:x="node"∨x="nodeinfo"∨x="stat"∨x="successor"∨x="successor_info"):xZ (aS x a l) S N T:=by
 rcases hx with rfl|rfl|rfl|rfl|rfl<;>exact⟨dQ h.s,dQ h.n,dQ h.t⟩
noncomputable def wq(R:Nat)(ord:List Nat)(pi:Nat→Nat)(H H':List AO):Prop:=∀(y:Nat)(o:AO),H[y]?=some o→y≠R→(∀i∈ord,y≠pi i)→H'[y]?=some o
section
variable{R:Nat}{rd:List Nat}{s:(Nat→Int)×List Nat}
theorem pR{x y:Int}:du c F k (inplaceOp .Sub) (.int x) (.int y) σ (.int (x - y)) σ:=
 cZ λA ρ n s Q E p q hp hq z=>by refine bp hp ?_;clear hp;intro u z0;subst z0;refine bp hq ?_;clear hq;intro w z0;subst z0;exact P.isub_int (z _ _ ⟨_,rfl⟩)
structure DS(c:Cx)(H:List AO)(S D N R:Nat)(po fi:Int)(ord:List Nat)(np:Nat→Int)(rd:List Nat)(su:Nat→List Nat)(pi pd ps:Nat→Nat):Prop where
 x:SO H S D N (.obj R) po fi
 g:GH c H N ord np su pi pd ps
 r:H[R]?=some (.list (be rd))
 n:∀i∈ord,R≠ps i
theorem DS.rN(d:DS c H S D N R po fi ord np rd su pi pd ps):R≠N∧R≠D∧R≠S∧∀i∈ord,R≠pi i∧R≠pd i∧R≠ps i:=by
 have h:=d.r
 refine⟨?_,?_,?_,λi hi=>⟨λq=>?_,λq=>?_,d.n i hi⟩⟩
 ·rintro rfl;refine bp (d.g.n.is) λP hP=>?_;rw[hP]at h;cases h
 ·rintro rfl;have:=d.x.d;rw[this]at h;cases h
 ·rintro rfl;have:=d.x.s;rw[this]at h;cases h
 ·have:=d.g.i i hi;rw[←q,h]at this;cases this
 ·have:=d.g.d i hi;rw[←q,h]at this;cases this
theorem DS.sN(d:DS c H S D N R po fi ord np rd su pi pd ps):∀i∈ord,S≠pi i∧D≠pi i:= λi hi=>⟨(λq=>by have:=d.g.i i hi;rw[←q,d.x.s]at this;cases this),(λq=>by have:=d.g.i i hi;rw[←q,d.x.d]at this;cases this)⟩
theorem DS.setnp(d:DS c H S D N R po fi ord np rd su pi pd ps)(hi:i∈ord)(v:Int):DS c (H.set (pi i) (mW 70 (pd i) [some (.str (nm i)),some (.int v),some (.obj (ps i))])) S D N R po fi ord (iR np i v) rd su pi pd ps:=
 ⟨⟨ak d.x.s (d.sN i hi).1,ak d.x.d (d.sN i hi).2⟩,(d.g.setnp hi v).1,ak d.r (d.rN.2.2.2 i hi).1,d.n⟩
theorem DS.setr(d:DS c H S D N R po fi ord np rd su pi pd ps)(rd':List Nat):DS c (H.set R (.list (be rd'))) S D N R po fi ord np rd' su pi pd ps:=
 ⟨⟨ak d.x.s (Ne.symm d.rN.2.2.1),ak d.x.d (Ne.symm d.rN.2.1)⟩,d.g.setO ⟨d.rN.1,d.rN.2.2.2⟩,bH (aq d.r),d.n⟩
theorem uA(G:c.Go)(L:xZ l S N T)(hn:l.lookup ("successor":Str)=some (.str (nm j)))(d:DS c H S D N R po fi ord s.1 s.2 su pi pd ps)(hj:j∈ord)(hl:s.2.length<900):
  ∃l' H',dq c i9 k oY ⟨l,H⟩ .next ⟨l',H'⟩∧xZ l' S N T∧DS c H' S D N R po fi ord (j8 s j).1 (j8 s j).2 su pi pd ps∧wq R ord pi H H':=by
 have d1:=d.setnp hj (s.1 j - 1)
 refine bb (H.set (pi j) (mW 70 (pd j) [some (.str (nm j)),some (.int (s.1 j - 1)),some (.obj (ps j))])) λH1 e1=>?_
 rw[←e1]at d1
 let l1:List (Str×AV):=aS ("successor_info":Str) (.obj (pi j)) l
 have L1:xZ l1 S N T:=L.put _ (by simp)
 have li:l1.lookup ("successor_info":Str)=some (.obj (pi j)):=ah _ _ _
 have ln:l1.lookup ("successor":Str)=some (.str (nm j)):=by show(aS _ _ l).lookup _=_;rw[bV _ _ _ (by decide)];exact hn
 have k1:wq R ord pi H H1:= λy o h _ hy=>by rw[e1];exact ak h (hy j hj)
 have w:=fH (c:=c) (F:=i9) (k:=k) (σ:=⟨l1,H⟩) (v:=.int (s.1 j - 1)) G (iS _) (by decide) (d.g.slt hj) (d.g.d j hj)
 rw[show(St.H ⟨l1,H⟩).set (pi j) (mW 70 (pd j) (fp [some (.str (nm j)),some (.int (s.1 j)),some (.obj (ps j))] 1 (.int (s.1 j - 1))))=H1 by rw[e1];rfl]at w
 have sl1:=d1.g.slt hj
 rw[bB]at sl1
 have tst:∀{t:Bool}{p1 p2 p3 p4:Pos}{q:Nat},(s.1 j - 1==0)=t→fR (.Name "successor_info" p1) "npredecessors" p2→Te c i9 k (.Compare (.Attribute (.Name "successor_info" p1) "npredecessors" p2) [.Eq] [.Constant (.int 0) q p3] p4) ⟨l1,H1⟩ t ⟨l1,H1⟩:= λht ha=>
  av rfl (bE ha (aa bF rfl li) (dG G (iS _) sl1 (d1.g.d j hj) rfl rfl)) aJ (qz ht)
 by_cases z:(s.1 j - 1==0)=true
 ·have e:j8 s j=(iR s.1 j (s.1 j - 1),s.2++[j]):=by unfold j8;rw[if_pos z]
  rw[e]
  refine dJ l1 (H1.set R (.list (be (s.2++[j])))) ?_ L1 (d1.setr _) λy o h a b=>ak (k1 y o h a b) a
  have oa:cJ c i9 k (λxs=>call (.builtin "list.append") xs) [.obj R,.str (nm j)] ⟨l1,H1⟩ .none ⟨l1,H1.set R (.list (be (s.2++[j])))⟩:=by
   have z:=eN (c:=c) (F:=i9) (k:=k) (σ:=⟨l1,H1⟩) (v:=.str (nm j)) d1.r (by simp[be];lia)
   rw[show be (s.2++[j])=be s.2++[.str (nm j)]by simp[be]]
   exact z
  k_dflt refine' ae (aw (σ₁:=⟨l,H⟩) bF rfl (λ_=>rfl) (kY (λ_ _=>rfl) (aa bF rfl L.n) (aa bF rfl hn) d.g.n (d.g.look hj))) (ae (eM (aa bF rfl li) (dG G (iS _) (d.g.slt hj) (d.g.d j hj) rfl rfl) aJ pR w) (aU (aL (t:=true) (tst z (λ_=>by k_dflt rfl)) (aU (ck (F:=i9) (v:=.none) FB (λ_=>rfl) (d6 (λ_=>rfl) (cb G bF rfl L1.s d1.x rfl rfl (iO _)) (dk slot_list_append type_list_append d1.r) (af λ_=>rfl) (am (λ_=>rfl) (aa bF rfl ln) au) oa))))))
 ·have e:j8 s j=(iR s.1 j (s.1 j - 1),s.2):=by unfold j8;rw[if_neg z]
  rw[e]
  refine dJ l1 H1 ?_ L1 d1 k1
  k_dflt refine' ae (aw (σ₁:=⟨l,H⟩) bF rfl (λ_=>rfl) (kY (λ_ _=>rfl) (aa bF rfl L.n) (aa bF rfl hn) d.g.n (d.g.look hj))) (ae (eM (aa bF rfl li) (dG G (iS _) (d.g.slt hj) (d.g.d j hj) rfl rfl) aJ pR w) (aU (aL (t:=false) (tst (by simpa using z) (λ_=>by k_dflt rfl)) ar)))
end
theorem Co(P:Params)(x:Value)(S:Setting)(D:Addr):kO (Kx P) S D (bindArgs (dw P 150) ⟨x::[],[]⟩)=some ([{cls:=.type "tuple",data:=.seq #[]}],[(("self":Str),x),(("nodes":Str),.ref D)]):=by w_on
theorem zB(P:Params)(x a:Value)(S:Setting)(D:Addr):kO (Kx P) S D (bindArgs (dw P 150) ⟨x::[a],[]⟩)=some ([{cls:=.type "tuple",data:=.seq #[a]}],[(("self":Str),x),(("nodes":Str),.ref D)]):=by w_on
theorem zZ(P:Params)(x a b:Value)(S:Setting)(D:Addr):kO (Kx P) S D (bindArgs (dw P 150) ⟨x::[a,b],[]⟩)=some ([{cls:=.type "tuple",data:=.seq #[a,b]}],[(("self":Str),x),(("nodes":Str),.ref D)]):=by w_on
theorem A9(P:Params)(x a b d:Value)(S:Setting)(D:Addr):kO (Kx P) S D (bindArgs (dw P 150) ⟨x::[a,b,d],[]⟩)=some ([{cls:=.type "tuple",data:=.seq #[a,b,d]}],[(("self":Str),x),(("nodes":Str),.ref D)]):=by w_on
theorem AS(P:Params)(x a b d e:Value)(S:Setting)(D:Addr):kO (Kx P) S D (bindArgs (dw P 150) ⟨x::[a,b,d,e],[]⟩)=some ([{cls:=.type "tuple",data:=.seq #[a,b,d,e]}],[(("self":Str),x),(("nodes":Str),.ref D)]):=by w_on
theorem Bt(P:Params)(x a b d e f:Value)(S:Setting)(D:Addr):kO (Kx P) S D (bindArgs (dw P 150) ⟨x::[a,b,d,e,f],[]⟩)=some ([{cls:=.type "tuple",data:=.seq #[a,b,d,e,f]}],[(("self":Str),x),(("nodes":Str),.ref D)]):=by w_on
theorem CQ(P:Params)(x:Value)(S:Setting)(D:Addr):∀(ys:List Value),ys.length≤5→kO (Kx P) S D (bindArgs (dw P 150) ⟨x::ys,[]⟩)=some ([{cls:=.type "tuple",data:=.seq ys.toArray}],[(("self":Str),x),(("nodes":Str),.ref D)])
 | [],_=>Co P x S D
 | [a],_=>zB P x a S D
 | [a,b],_=>zZ P x a b S D
 | [a,b,d],_=>A9 P x a b d S D
 | [a,b,d,e],_=>AS P x a b d e S D
 | [a,b,d,e,f],_=>Bt P x a b d e f S D
 |_::_::_::_::_::_::_,h=>by simp at h
noncomputable def pQ(su:Nat→List Nat):(Nat→Int)×List Nat→List Nat→Prop
 |_,[]=>True
 |s,i::r=>s.1 i= -1∧pQ su (nz su s i) r
theorem wD(s:(Nat→Int)×List Nat)(j:Nat):(j8 s j).2.length≤s.2.length+1:=by
 unfold j8
 split<;>simp
theorem tZ:∀(js:List Nat)(s:(Nat→Int)×List Nat),(js.foldl j8 s).2.length≤s.2.length+js.length
 | [],s=>ZA _
 |j::js,s=>by
  have:=tZ js (j8 s j)
  have:=wD s j
  simp only[Zv,Zk]
  lia
section
variable{R:Nat}{rd:List Nat}{s:(Nat→Int)×List Nat}
theorem vF(G:c.Go)(hi:i∈ord):∀(rest:List Nat){l:List (Str×AV)}{H:List AO}{s:(Nat→Int)×List Nat},xZ l S N T→DS c H S D N R po fi ord s.1 s.2 su pi pd ps→(∀j∈rest,j∈ord)→s.2.length+rest.length<900→
  ∃l' H',(∀pp:Pos,fm c i9 k (aR (ps i) ((su i).map λj=>.str (nm j))) (.Name "successor" pp) oY (be rest) ⟨l,H⟩ .next ⟨l',H'⟩)∧xZ l' S N T∧DS c H' S D N R po fi ord (rest.foldl j8 s).1 (rest.foldl j8 s).2 su pi pd ps∧wq R ord pi H H':=by
 intro rest
 induction rest with
 |nil=>
  intro l H s L d _ _
  exact dJ l H (λ_=>.nil (d.g.s i hi)) L d λy o h _ _=>h
 |cons j rest ih=>
  intro l H s L d ho hl
  refine br λGz kz=>?_
  refine cT (uA (k:=k) (l:=aS "successor" (.str (nm j)) l) G (L.put _ (by simp)) (ah _ _ _) d (ho j (.head _)) (by simp at hl;lia)) λl1 H1 e1 L1 d1 k1=>?_
  refine cT (ih (s:=j8 s j) L1 d1 (λx hx=>ho x (.tail _ hx)) (by have:=wD s j;simp at hl ⊢;lia)) λl2 H2 e2 L2 d2 k2=>?_
  refine kz ?_
  refine dJ l2 H2 ?_ L2 d2 λy o h a b=>k2 y o (k1 y o h a b) a b
  generalize oY=bdy at e1 e2 ⊢
  exact λpp=>fm.next (a:=.str (nm j)) (rest:=be rest) (σ₁:=⟨aS "successor" (.str (nm j)) l,H⟩) (d.g.s i hi) (.inl rfl) (bg bF rfl) e1 (e2 pp)
theorem DS.fin(d:DS c H S D N R po fi ord np rd su pi pd ps)(fi':Int):DS c (H.set D (.dict (wA N (.obj R) po fi'))) S D N R po fi' ord np rd su pi pd ps:=by
 have no:=d.x.noG d.g
 have sd:S≠D:=by rintro rfl;have:=d.x.s;rw[d.x.d]at this;cases this
 exact⟨⟨ak d.x.s sd,bH (aq d.x.d)⟩,d.g.setO no,ak d.r d.rN.2.1,d.n⟩
theorem CU(G:c.Go)(h100:100≤k)(L:xZ l S N T)(hn:l.lookup ("node":Str)=some (.str (nm i)))(d:DS c H S D N R po fi ord s.1 s.2 su pi pd ps)(hi:i∈ord)(ho:s.1 i= -1)(hsu:∀j∈su i,j∈ord)(hl:s.2.length+(su i).length<900):
  ∃l' H',dq c i9 k mf ⟨l,H⟩ .next ⟨l',H'⟩∧xZ l' S N T∧DS c H' S D N R po (fi+1) ord (nz su s i).1 (nz su s i).2 su pi pd ps∧tz D R ord pi H H':=by
 let l1:List (Str×AV):=aS ("nodeinfo":Str) (.obj (pi i)) l
 let l2:List (Str×AV):=aS ("stat":Str) (.int (s.1 i)) l1
 have L1:xZ l1 S N T:=L.put _ (by simp)
 have L2:xZ l2 S N T:=L1.put _ (by simp)
 have i1:l1.lookup ("nodeinfo":Str)=some (.obj (pi i)):=ah _ _ _
 have i2:l2.lookup ("nodeinfo":Str)=some (.obj (pi i)):=by show(aS _ _ l1).lookup _=_;rw[bV _ _ _ (by decide)];exact i1
 have t2:l2.lookup ("stat":Str)=some (.int (s.1 i)):=ah _ _ _
 have d1:=d.setnp hi (-2)
 refine br λGz kz=>?_
 refine bb (H.set (pi i) (mW 70 (pd i) [some (.str (nm i)),some (.int (-2)),some (.obj (ps i))])) λH1 e1=>?_
 rw[←e1]at d1
 have k1:wq R ord pi H H1:= λy o h _ hy=>by rw[e1];exact ak h (hy i hi)
 refine cT (vF (k:=k) (s:=(iR s.1 i (-2),s.2)) G hi (su i) L2 d1 hsu hl) λl' H2 lp L3 d2 k2=>?_
 have d3:=d2.fin (fi+1)
 refine bb (H2.set D (.dict (wA N (.obj R) po (fi+1)))) λH3 e3=>?_
 refine kz ?_
 rw[←e3]at d3
 refine dJ l' H3 ?_ L3 d3 λy o h a b d=>by rw[e3];exact ak (k2 y o (k1 y o h b d) b d) a
 refine bp (EN c.w.params) λt ht=>?_
 refine bp (F6 c.w.params) λt' ht'=>?_
 have lk:=d.g.look hi
 have w:=fH (c:=c) (F:=i9) (k:=k) (σ:=⟨l2,H⟩) (v:=.int (-2)) G (iS _) (by decide) (d.g.slt hi) (d.g.d i hi)
 rw[show(St.H ⟨l2,H⟩).set (pi i) (mW 70 (pd i) (fp [some (.str (nm i)),some (.int (s.1 i)),some (.obj (ps i))] 1 (.int (-2))))=H1 by rw[e1];rfl]at w
 have tw:∀{p1 p2 p3 p4 p5 p6:Pos},(∀env,eval (.Call (.Attribute (.Name "n2i" p1) "get" p3) [.Name "node" p4] [] p5) env=(do
   let ov←eval (.Name "n2i" p1) env
   standAt p3.atName
   let(f,first)←holding [ov] (getMethod ov "get" (gD (.Name "n2i" p1) env))
   callWith p5 f first (backTo p5 (starEach [.Name "node" p4] env)) []))→Ev c i9 k (.NamedExpr (.Name "nodeinfo" p6) (.Call (.Attribute (.Name "n2i" p1) "get" p3) [.Name "node" p4] [] p5) p2) ⟨l,H⟩ (.obj (pi i)) ⟨l1,H⟩:= λ{p1 p2 p3 p4 p5 p6} he=>
  oG (σ₁:=⟨l,H⟩) (d6 he (aa bF rfl L.n) (qu PySem.F.slot_dict_get PySem.F.type_dict_get d.g.n) (af λ_=>rfl) (am (λ_=>rfl) (aa bF rfl hn) au) (rq d.g.n (by rw[lk];rfl))) (bg bF rfl)
 have sf:=cI (c:=c) (F:=i9) (k:=k) (σ:=⟨l',H2⟩) (v:=.int (fi+1)) G (eE _) d2.x.s d2.x.d (of_decide_eq_true (by w_on)) (sR _)
 rw[show(St.H ⟨l',H2⟩).set D (.dict (aS "_nfinished" (.int (fi+1)) (wA N (.obj R) po fi)))=H3 from e3.symm]at sf
 have sl1:=d1.g.slt hi
 have fr:∀{p1 p2 p3 p4:Pos},fR (.Name "nodeinfo" p2) "successors" p3→Ex c i9 k (.For (.Name "successor" p1) (.Attribute (.Name "nodeinfo" p2) "successors" p3) oY [] p4) ⟨l2,H1⟩ .next ⟨l',H2⟩:= λ{p1 p2 p3 p4} ha=>by
  have lp1:=lp p1
  generalize oY=bdy at lp1 ⊢
  exact gr (I:=aR (ps i) ((su i).map λj=>.str (nm j))) G.ok az (λ_ _=>rfl) (λ_ _=>rfl) h100 (bE ha (aa bF rfl i2) (dG G (wK _) sl1 (d1.g.d i hi) rfl rfl)) (dZ (d1.g.s i hi)) lp1
 have st:∀{p1 p2 p3 p4:Pos},fR (.Name "nodeinfo" p2) "npredecessors" p3→(∀env,swapsWith (.Attribute (.Name "nodeinfo" p2) "npredecessors" p3) (some (.Name "stat" p1)) p4.line env=pure false)→Ex c i9 k (.Assign [.Name "stat" p1] (.Attribute (.Name "nodeinfo" p2) "npredecessors" p3) p4) ⟨l1,H⟩ .next ⟨l2,H⟩:= λ{p1 p2 p3 p4} ha hs=>
  aw (σ₁:=⟨l1,H⟩) bF rfl hs (bE ha (aa bF rfl i1) (dG G (iS _) (d.g.slt hi) (d.g.d i hi) rfl rfl))
 generalize eb:oY=bdy at fr
 k_dflt refine' ae (aL (t:=false) (av rfl (tw (λ_=>rfl)) bx (bQ rfl)) ar) (ae (st (λ_=>by k_dflt rfl) (λ_=>rfl)) (ae (aL (t:=false) (av rfl (aa bF rfl t2) (kF (dp G bF rfl ht)) (Cy (by rw[ho];rfl))) ar) (ae (aQ (λ_=>rfl) (kF (dp G bF rfl ht')) (aa bF rfl i2) w) (ae ?_ (aU (eM (aa bF rfl L3.s) (bY G (eE _) d2.x.s d2.x.d rfl rfl (sR _)) aJ eW sf))))))
 subst eb
 exact fr (λ_=>by k_dflt rfl)
end
section
variable{R:Nat}{rd:List Nat}
theorem Bx(su:Nat→List Nat)(hz:∀i,(su i).length≤100)(s:(Nat→Int)×List Nat)(i:Nat):(nz su s i).2.length≤s.2.length+100:=by
 have:=tZ (su i) (iR s.1 i (-2),s.2)
 have:=hz i
 show((su i).foldl j8 (iR s.1 i (-2),s.2)).2.length≤_
 simp at*;lia
theorem EB(G:c.Go)(h100:100≤k)(hsu:∀i∈ord,∀j∈su i,j∈ord)(hz:∀i,(su i).length≤100):∀(rest:List Nat){l:List (Str×AV)}{H:List AO}{s:(Nat→Int)×List Nat}{fi:Int},xZ l S N T→H[T]?=some (.tuple vs)→DS c H S D N R po fi ord s.1 s.2 su pi pd ps→(∀i∈rest,i∈ord)→pQ su s rest→s.2.length+100*rest.length<800→
  ∃l' H',(∀pp:Pos,fm c i9 k (fK T vs) (.Name "node" pp) mf (be rest) ⟨l,H⟩ .next ⟨l',H'⟩)∧DS c H' S D N R po (fi+rest.length) ord (jS su s rest).1 (jS su s rest).2 su pi pd ps∧tz D R ord pi H H':=by
 intro rest
 induction rest with
 |nil=>
  intro l H s fi L hT d _ _ _
  exact fk l H (λ_=>.nil hT) (by rw[show fi+(([]:List Nat).length:Nat)=fi by simp];exact d) λy o h _ _ _=>h
 |cons i rest ih=>
  intro l H s fi L hT d ho oo hl
  have hi:=ho i (.head _)
  have zi:=hz i
  refine br λGz kz=>?_
  refine cT (CU (l:=aS "node" (.str (nm i)) l) G h100 (L.put _ (by simp)) (ah _ _ _) d hi oo.1 (hsu i hi) (by simp at hl;lia)) λl1 H1 e1 L1 d1 k1=>?_
  have t1:H1[T]?=some (.tuple vs):=k1 _ _ hT (by rintro rfl;have:=d.x.d;rw[hT]at this;cases this) (by rintro rfl;have:=d.r;rw[hT]at this;cases this) λj hj q=>by have:=d.g.i j hj;rw[←q,hT]at this;cases this
  refine ct (ih (s:=nz su s i) L1 t1 d1 (λx hx=>ho x (.tail _ hx)) oo.2 (by have:=Bx su hz s i;simp at hl ⊢;lia)) λl2 H2 e2 d2 k2=>?_
  refine kz ?_
  refine fk l2 H2 ?_ ?_ λy o h a b d=>k2 y o (k1 y o h a b d) a b d
  ·generalize mf=bdy at e1 e2 ⊢
   exact λpp=>fm.next (a:=.str (nm i)) (rest:=be rest) (σ₁:=⟨aS "node" (.str (nm i)) l,H⟩) hT (.inl rfl) (bg bF rfl) e1 (e2 pp)
  ·have:fi+((i::rest).length:Nat)=fi+1+(rest.length:Nat):=by simp;lia
   rw[this];exact d2
theorem Dx(G:c.Go){rs:List Nat}(d:DS c H S D N R po fi ord np rd su pi pd ps)(hsu:∀i∈ord,∀j∈su i,j∈ord)(hz:∀i,(su i).length≤100)(ho:∀i∈rs,i∈ord)(oo:pQ su (np,rd) rs)(hr:rs.length≤5)(hd:rd.length<100):
  ∃H',Fn c (k+101) (.ref 150) (.obj S::be rs) [] H .none H'∧DS c H' S D N R po (fi+rs.length) ord (jS su (np,rd) rs).1 (jS su (np,rd) rs).2 su pi pd ps∧tz D R ord pi H H':=by
 refine br λGz kz=>?_
 refine bb (H++[AO.tuple (be rs)]) λH1 e1=>?_
 have ex1:bW H H1:= λy o h=>by rw[e1];exact aB h
 have hT:H1[H.length]?=some (.tuple (be rs)):=by rw[e1];exact aP
 have d1:DS c H1 S D N R po fi ord np rd su pi pd ps:=⟨⟨ex1 _ _ d.x.s,ex1 _ _ d.x.d⟩,d.g.ext ex1,ex1 _ _ d.r,d.n⟩
 let l0:List (Str×AV):=[("self",.obj S),("nodes",.obj H.length)]
 let l1:List (Str×AV):=aS ("n2i":Str) (.obj N) l0
 refine ct (EB (k:=k+100) (l:=l1) (T:=H.length) (s:=(np,rd)) G (by lia) hsu hz rs ⟨rfl,rfl,rfl⟩ hT d1 ho oo (by simp;lia)) λl' H2 lp d2 k2=>?_
 refine kz ?_
 refine bO H2 ?_ d2 λy o h a b d=>k2 y o (ex1 y o h) a b d
 have bd:iW c (dw c.w.params 150) ([.obj S]++be rs) [] H ([(("self":Str),.obj S)]++[(("nodes":Str),.obj H.length)]) (H++[.tuple (be rs)]):=mz G.ok λρ n xs ys hx hy=>by
  refine lL hx λ_ hx=>?_
  refine al _ (.cons hx .nil) λS D=>?_
  rw[G.hK]
  exact CQ _ _ _ _ _ (by show ys.length≤5;rw[hy];simpa[be]using hr)
 rw[←e1]at bd
 refine qC (fl:=.next) (k:=k+100) (loc:=l0) G (vP _) (by w_on) (by w_on) bd ?_
 apply aK (loc:=l')
 have fr:∀{p1 p2 p3:Pos},Ex c i9 (k+100) (.For (.Name "node" p1) (.Name "nodes" p2) mf [] p3) ⟨l1,H1⟩ .next ⟨l',H2⟩:= λ{p1 p2 p3}=>by
  have lp1:=lp p1
  generalize mf=bdy at lp1 ⊢
  exact gr (I:=fK H.length (be rs)) G.ok fX (λ_ _=>rfl) (λ_ _=>rfl) (by lia) (aa bF rfl rfl) (lh hT) lp1
 k_dflt refine' ae (aL (t:=false) (av rfl (cb G bF rfl rfl d1.x rfl rfl (iO _)) bx (bQ rfl)) ar) (ae (aw (σ₁:=⟨l0,H1⟩) bF rfl (λ_=>rfl) (cb G bF rfl rfl d1.x rfl rfl (iV _))) (aU fr))
end
theorem dK(hk:F.scope.kind=.function)(hx:F.scope.names.lookup x=some .cell)(hc:F.cells.lookup x=some j)(hj:σ.H[j]?=some (.cell (some v)))(hd:(x==("__debug__":Str))=false):Ev c F k (.Name x pos) σ v σ:= λA ρ s env Q E _ r h=>by
 refine nO (r.hr.at_ j _ hj) λob h1 w h2 h3=>?_
 cases w with
 |none=>exact h3.elim
 |some w=>
  refine wpAny_Name (wpAny_loadName_cell (c:=ρ j) (by rw[r.sc];exact hk) (by unfold Env.kindOf;rw[r.sc];exact hx) ?_ (al ob h1 h2) (h ρ s w r .refl h3)) hd
  rw[r.ce]
  clear h1 h2 h3 h r
  have hc':=hc
  clear hc
  generalize F.cells=cs at hc'
  induction cs with
  |nil=>cases hc'
  |cons p cs ih=>
   obtain⟨y,i⟩:=p
   rw[ZZ,ZD]
   rw[ZD]at hc'
   cases q:x==y with
   |true=>rw[q]at hc';cases hc';rfl
   |false=>rw[q]at hc';exact ih hc'
theorem iv{cs:List (Str×Nat)}(h:cs.lookup x=some j):(cs.map λp=>(p.1,ρ p.2)).lookup x=some (ρ j):=by
 induction cs with
 |nil=>cases h
 |cons p cs ih=>
  obtain⟨y,i⟩:=p
  rw[ZZ,ZD]
  rw[ZD]at h
  cases q:x==y with
  |true=>rw[q]at h;cases h;rfl
  |false=>rw[q]at h;exact ih h
theorem oj{v0:Option AV}(hk:F.scope.kind=.function)(hx:F.scope.names.lookup x=some .cell)(hc:F.cells.lookup x=some j){Q:Unit→Shared→Prop}{y:Value}(r:aW c A F ρ σ s env)(hj:σ.H[j]?=some (.cell v0))(hy:VR ρ σ.H.length v y)
  (h:∀s',aW c A F ρ ⟨σ.loc,σ.H.set j (.cell (some v))⟩ s' env→aM c ρ σ.H.length (· =env.locals) s ρ (σ.H.set j (.cell (some v))).length s'→Q () s'):wpAny c.M A (storeName env x y) Q E s:=by
 refine nO (r.hr.at_ j _ hj) λob h1 w h2 h3=>?_
 refine wpAny_storeName_cell (c:=ρ j) (v₀:=w) (by rw[r.sc];exact hk) (by unfold Env.kindOf;rw[r.sc];exact hx) (by rw[r.ce];exact iv hc) (al ob h1 h2) λh' hc' hs=>?_
 refine aj hc' λo' g1 g2=>?_
 have jl:=aq hj
 have ne:=r.ap j jl
 refine aO (r.upd (ao:=.cell (some v)) (tk:=s.toks) jl g1 (al (some y) g2 hy) (λb ob hb h1 h2=>(hs.2 b h2).trans hb) (λm hm=>by
  obtain⟨o,es,ep,e1,d1,z⟩:=hm
  exact jv o es ep ((hs.2 _ (Ne.symm ne)).trans e1) d1 z)) λr2 st2=>?_
 exact h _ r2 st2
theorem wi{v0:Option AV}(hk:F.scope.kind=.function)(hx:F.scope.names.lookup x=some .cell)(hc:F.cells.lookup x=some j)(hj:σ.H[j]?=some (.cell v0)):As c F k (.Name x pos) a σ ⟨σ.loc,σ.H.set j (.cell (some a))⟩:= λA ρ s env Q E v K r hv q=>
 wpAny_assign_Name (oj hk hx hc r hj hv λs' r' st'=>q ρ s' r' st')
theorem dS{pos':Pos}{v0:Option AV}(hk:F.scope.kind=.function)(hx:F.scope.names.lookup x=some .cell)(hc:F.cells.lookup x=some j)(hs:∀env,swapsWith e (some (.Name x pos')) pos.line env=pure false)(h1:Ev c F k e σ v σ₁)(hj:σ₁.H[j]?=some (.cell v0)):
  Ex c F k (.Assign [.Name x pos'] e pos) σ .next ⟨σ₁.loc,σ₁.H.set j (.cell (some v))⟩:= λA ρ s env Q E K r h=>
 wpAny_Assign_Name (h1 A ρ s env _ E K r λρ1 s1 y r1 st1 vy=>oj hk hx hc r1 hj vy λs2 r2 st2=>h ρ1 s2 _ r2 (st1.trans st2) rfl) (hs env)
theorem yq{p:Str}{cs:List (Str×Nat)}{fl:AF}(O:c.Ok)
  (hf:c.K.lookup f=some ⟨oc,od,.func fd,osl⟩)(hcd:codeIn c.K fd.code fd.qualname=true)(hbody:fd.body=.stmts body)(hcl:fd.closure=[])(hgl:fd.globals=mainGlobals)(hbl:fd.builtins=builtinsNs)
  (hcs:∀n,cellsFrom n fd.scope.names []=cs.map λq=>(q.1,n+q.2))(hall:∀j,j<cs.length→∃x,cs.lookup x=some j)(hci:∀q∈cs,q.2<cs.length)
  (hco:fd.scope.isCoroutine=false)(hgen:fd.scope.isGenerator=false)(hk:fd.scope.kind=.function)(hp:fd.scope.names.lookup p=some .local)
  (bd:∀(s:Shared)(x:Value),c.K.In s.heap→BindsTo s fd ⟨[x],[]⟩ [(p,x)])
  (hb:dq c ⟨fd.scope,cs.map λq=>(q.1,H.length+q.2)⟩ k body ⟨[(p,a)],H++ZV cs.length (.cell none)⟩ fl ⟨loc',H'⟩):Fn c (k+1) (.ref f) [a] [] H fl.val H':= λA ρ s xs ks R K hr ge sk hx hks q=>by
 cases hks
 refine lL hx λ_ hx=>?_
 rename_i x
 refine codeAny_call_function K.depth (hr.X O _ _ hf) rfl hco hgen hbody (codeRec_of (hr.X O) hcd) (bd s x (hr.X O) _ _ _ _ ?_)
 rw[hcl]
 refine wpAny_newFunctionEnv_cells hk (λy hy=>by simp at hy;subst hy;exact .inl hp) λenv he s1 X=>?_
 subst he
 refine⟨(hr.lim O).keeps X.toInCall.keep,codeAny_func ?_⟩
 refine mI (X.toInCall.same) λh1 tk es1=>?_
 have kpp:=X.toInCall.keep
 obtain⟨L,eL⟩:∃L:Nat,L=s.heap.objs.size:=⟨_,rfl⟩
 have env_l:(callEnvC fd s.heap.objs.size f).locals=L:=eL▸rfl
 have env_c:(callEnvC fd s.heap.objs.size f).cells=cs.map λq=>(q.1,(L+1)+q.2):=by rw[eL];exact hcs _
 have ns:s1.heap.Ns L λy=>if y=p then some x else none:=by
  have z:=X.toInCall.ns
  have e:bindL (callEnvC fd s.heap.objs.size f).kindOf [(p,x)] (λ_=>none)= λy=>if y=p then some x else none:=by
   unfold bindL bindL
   rw[if_pos (show(callEnvC fd s.heap.objs.size f).kindOf p=some .local from hp)]
  rw[←env_l]
  exact e▸z
 let ρ':Nat→Addr:= λi=>if i<H.length then ρ i else L+1+(i - H.length)
 have r0:∀i,i<H.length→ρ' i=ρ i:= λi hi=>if_pos hi
 have r1:∀i,H.length≤i→ρ' i=L+1+(i - H.length):= λi hi=>if_neg (ZX.mpr hi)
 have len:(H++ZV cs.length (AO.cell none)).length=H.length+cs.length:=by simp
 have cell:∀j,j<cs.length→∃o,s1.heap.get? (L+1+j)=some o∧o.data=.cell none:= λj hj=>by
  refine bp (hall j hj) λy hy=>?_
  have z:=X.cell y (L+1+j) (by
   show(callEnvC fd s.heap.objs.size f).cells.lookup y=_
   rw[env_c]
   exact iv (ρ:= λi=>L+1+i) hy)
  have e:bindC (callEnvC fd s.heap.objs.size f).kindOf [(p,x)] (λ_=>none)= λ_=>none:=by
   unfold bindC bindC
   rw[if_pos (show(callEnvC fd s.heap.objs.size f).kindOf p=some .local from hp)]
  have z2:s1.heap.IsCell (L+1+j) (bindC (callEnvC fd s.heap.objs.size f).kindOf [(p,x)] (λ_=>none) y):=z
  rw[e]at z2
  exact z2
 have sz:∀i,i<H.length→@LT.lt Nat _ (ρ i) L:= λi hi=>by
  refine aj (hr.at_ i (H[i]) (zG hi)) λob h1 _=>?_
  rw[eL];exact ZB h1
 have nn:∀b,L≤b→s.heap.get? b=none:= λb hb=>Heap.get?_none_of_le (eL▸hb)
 have hr':eu c ρ' (H++ZV cs.length (.cell none)) s1.heap:=by
  refine⟨λi o e=>?_,λi j hi hj e=>?_,λi hi=>?_,λb o e t=>kpp _ _ (hr.base b o e t),λo e=>(hr.tj o e).imp (λz=>kpp _ _ z) λ⟨z1,z2,vs,more,z3,z4⟩=>bS z1 z2 vs more z3 (kpp _ _ z4)⟩
  ·rw[len]
   by_cases q:i<H.length
   ·rw[zL q]at e
    refine aj (hr.at_ i o e) λob h1 h2=>?_
    exact al ob (by rw[r0 i q];exact kpp _ _ h1) (h2.mono r0 (Nat.le_add_right _ _))
   ·have q':=ZX.mp q
    have il:=aq e
    rw[len]at il
    rw[zR q',List.getElem?_replicate,if_pos (by lia)]at e
    cases e
    refine aj (cell (i - H.length) (by lia)) λob h1 h2=>?_
    exact uR ob (by rw[r1 i q'];exact h1) none h2 trivial
  ·rw[len]at hi hj
   by_cases qi:i<H.length<;>by_cases qj:j<H.length
   ·rw[r0 i qi,r0 j qj]at e;exact hr.inj i j qi qj e
   ·have:=sz i qi;rw[r0 i qi,r1 j (ZX.mp qj)]at e;have e:@Eq Nat (ρ i) (L+1+(j - H.length)):=e;lia
   ·have:=sz j qj;rw[r1 i (ZX.mp qi),r0 j qj]at e;have e:@Eq Nat (L+1+(i - H.length)) (ρ j):=e;lia
   ·rw[r1 i (ZX.mp qi),r1 j (ZX.mp qj)]at e;have e:@Eq Nat (L+1+(i - H.length)) (L+1+(j - H.length)):=e;lia
  ·by_cases q:i<H.length
   ·rw[r0 i q];exact hr.up i q
   ·rw[r1 i (ZX.mp q)];exact hr.none1 (nn _ (by lia))
 have apL:∀i,ρ' i≠L∨H.length+cs.length≤i:= λi=>by
  by_cases q:i<H.length
  ·left;rw[r0 i q];have:=sz i q;exact Z7 this
  ·left;rw[r1 i (ZX.mp q)];exact Nat.ne_of_gt (by lia)
 have hL1:c.h₁.get? L=none:=hr.none1 (nn L (ZA _))
 have r:aW c (A.deeper (callEnvC fd s.heap.objs.size f)) ⟨fd.scope,cs.map λq=>(q.1,H.length+q.2)⟩ ρ' ⟨[(p,a)],H++ZV cs.length (.cell none)⟩ s1 (callEnvC fd s.heap.objs.size f):=by
  refine⟨hr',rfl,hgl,hbl,?_,λq hq=>?_,al _ (env_l▸ns) λy v hv=>?_,λi hi e=>?_,env_l▸hL1,?_,λhz=>?_,λhz _=>by refine aj (sk hz) λl l1 _=>?_;exact⟨l,Around.frames_deeper l1⟩,λ_=>⟨rfl,rfl⟩⟩
  ·rw[env_c]
   show _=(cs.map λq=>(q.1,H.length+q.2)).map λp=>(p.1,ρ' p.2)
   rw[Zr]
   refine ZO λq hq=>?_
   show(q.1,L+1+q.2)=(q.1,ρ' (H.length+q.2))
   rw[r1 _ (Nat.le_add_right _ _),Zt]
  ·show q.2<(H++ZV cs.length (AO.cell none)).length
   rw[len]
   refine aj (ZR.mp hq) λq' hq' z0=>?_;subst z0
   have:=hci q' hq'
   show H.length+q'.2<_
   lia
  ·have hv':[(p,a)].lookup y=some v:=hv
   rw[ZD]at hv'
   cases e:y==p with
   |false=>rw[e]at hv';cases hv'
   |true=>
    rw[e]at hv';cases hv'
    refine al x (if_pos (by simpa using e)) ?_
    show VR ρ' (H++ZV cs.length (AO.cell none)).length a x
    rw[len];exact hx.mono r0 (Nat.le_add_right _ _)
  ·have hi':i<H.length+cs.length:=by rw[←len];exact hi
   rw[env_l]at e
   rcases apL i with z|z
   ·exact z e
   ·lia
  ·rw[es1];exact ge
  ·refine aj (sk hz) λl l1 l2=>?_
   refine al _ (Around.frames_deeper l1) λe he=>?_
   show xO c ρ' (H++ZV cs.length (AO.cell none)).length s1.heap e
   rw[len]
   rcases ZI.mp he with rfl|he
   ·refine dh ns λo es ep g1 g2 _=>?_
    refine eO (by show fd.scope.kind≠.module;rw[hk];decide) L o es ep (congrArg some env_l) hL1 g1 g2 λi hi e=>?_
    rcases apL i with z|z
    ·exact z e
    ·lia
   ·refine(l2 e he).keep r0 (λi h1 h2=>?_) λb o es ep g1 g2 _ _=>bh o es ep (kpp _ _ g1) g2
    rw[r1 i h1];exact nn _ (by lia)
 refine hb (A.deeper (callEnvC fd s.heap.objs.size f)) ρ' s1 _ _ _ K.deeper r λρ2 s2 fl' r2 st vf=>?_
 have stl:∀i,H.length+cs.length≤i→i<H'.length→s1.heap.get? (ρ2 i)=none:= λi h1 h2=>st.nw i (by show(H++ZV cs.length (AO.cell none)).length≤i;rw[len];exact h1) h2
 have stag:∀i,i<H.length+cs.length→ρ2 i=ρ' i:= λi hi=>st.ag i (by show i<(H++ZV cs.length (AO.cell none)).length;rw[len];exact hi)
 have stle:H.length+cs.length≤H'.length:=len▸st.le
 have st':aM c ρ H.length (λ_=>False) s ρ2 H'.length s2:=by
  refine⟨λi hi=>(stag i (by lia)).trans (r0 i hi),by lia,λi h1 h2=>?_,⟨λb o e=>st.kp.1 b o (kpp _ _ e),λb o e t _ h3=>st.kp.2 b o (kpp _ _ e) t (λz=>?_) λi hi e'=>?_⟩,st.os.trans (by rw[es1])⟩
  ·by_cases q:i<H.length+cs.length
   ·rw[stag i q,r1 i h1];exact nn _ (by lia)
   ·cases w:s.heap.get? (ρ2 i)with
    |none=>rfl
    |some o=>have:=stl i (by lia) h2;rw[kpp _ _ w]at this;cases this
  ·have:=nn b (by rw[show b=L from z.trans env_l];exact ZA _)
   rw[e]at this;cases this
  ·have hi':i<H.length+cs.length:=by rw[←len];exact hi
   by_cases q:i<H.length
   ·exact h3 i q (by rw[←r0 i q];exact e')
   ·have:=nn b (by rw[←e',r1 i (ZX.mp q)];lia)
    rw[e]at this;cases this
 cases fl with
 |next=>rw[show fl'=.next from vf];exact q ρ2 s2 _ r2.hr r2.ge st' rfl
 |brk=>rw[show fl'=.brk from vf];exact q ρ2 s2 _ r2.hr r2.ge st' rfl
 |cont=>rw[show fl'=.cont from vf];exact q ρ2 s2 _ r2.hr r2.ge st' rfl
 |ret v=>refine aj vf ?_;clear vf;intro y z0 hy;subst z0;exact q ρ2 s2 y r2.hr r2.ge st' hy
theorem Aj{r:Addr}{v:Value}{Q:Unit→Shared→Prop}(ho:s.heap.get? r=some o)(hc:o.cls=.type "list_iterator")(h:Q () s):wpAny M A (letOwnedTupleGo target (.ref r) v) Q E s:=by
 have go:wpAny M A (do
   let(.ref r,.ref a):=((Value.ref r),v)|return
   let o←load r
   match o.cls,o.data with
   | .type n,.fields vs=>
    if ["enumerate","zip","dict_itemiterator","dict_reverseitemiterator","odict_iterator","itertools.zip_longest","itertools.pairwise"].contains n&&vs[0]?==some (rawInt a)then
     rule "for.unpacks-the-owned-tuple"
     updateField r 0 .none
   |_,_=>pure ()) Q E s:=by
  cases v with
  |ref a=>
   refine YC (wpAny_load ho ?_)
   rw[hc]
   cases o.data with
   |fields vs=>
    dsimp only
    rw[if_neg (by
     rw[show(List.contains ["enumerate","zip","dict_itemiterator","dict_reverseitemiterator","odict_iterator","itertools.zip_longest","itertools.pairwise"] "list_iterator")=false by decide]
     simp)]
    exact YD h
   |_=>exact YD h
  |_=>exact YD h
 cases target with
 |Tuple _ _ _=>exact go
 |List _ _=>exact go
 |_=>exact YD h
theorem ke{r:Addr}{acc:Value}(hg:gens[d]?=some ⟨target,iter,ifs,0⟩)(hn:gens[d+1]?=none)
  (h:∀E,wpAny c.M A (pyNext (.ref r)) (λrr s₁=>match rr with
   |none=>R (.ok .next) s₁
   |some v=>(∃o,s₁.heap.get? r=some o∧o.cls=.type "list_iterator")∧wpAny c.M A (assign target env v) (λ_ s₂=>FM c A env ifs (λok s₃=>if ok=true then wpAny c.M A (eval elt env) (λx s₄=>
      wpAny c.M A (call (.builtin "list.append") [acc,x]) (λ_ s₅=>codeAny c.M A (.compLoop (.ListComp elt gens sc pos) d (.ref r) acc env) R s₅) E s₄) E s₃
     else codeAny c.M A (.compLoop (.ListComp elt gens sc pos) d (.ref r) acc env) R s₃) E s₂) E s₁) E s):
  codeAny c.M A (.compLoop (.ListComp elt gens sc pos) d (.ref r) acc env) R s:=by
 refine codeAny_of_tree ?_
 rw[Around.under_of_weight (c:=.compLoop (.ListComp elt gens sc pos) d (.ref r) acc env) rfl rfl]
 show wpAny _ _ ((compTurn (.ListComp elt gens sc pos) d (.ref r) acc env).onRaise (λx=>do noteFrame x env;theTreesLotGoes x)) _ _ s
 refine wpAny_noted ?_
 unfold compTurn
 dsimp only
 rw[hg]
 dsimp only
 refine YC (YG ?_)
 show wpAny _ _ (pyNext (.ref r) >>=_) _ _ s
 refine YC (YE (h _) (λrr s₁ h₁=>?_) λ_ _ h'=>h')
 cases rr with
 |none=>exact YD h₁
 |some v=>
  refine aO h₁ λz0 h₁=>aj z0 λoo hoo hcc=>?_
  refine YC (Aj hoo hcc ?_)
  refine YC (YE h₁ (λ_ s₂ h₂=>?_) λ_ _ h'=>h')
  rw[hn]
  have tail:∀(ok:Bool)(s₃:Shared),(if ok=true then wpAny c.M A (eval elt env) (λx s₄=>
      wpAny c.M A (call (.builtin "list.append") [acc,x]) (λ_ s₅=>codeAny c.M A (.compLoop (.ListComp elt gens sc pos) d (.ref r) acc env) R s₅) (notedBy c.M A env λe s'=>R (.error e) s') s₄) (notedBy c.M A env λe s'=>R (.error e) s') s₃
     else codeAny c.M A (.compLoop (.ListComp elt gens sc pos) d (.ref r) acc env) R s₃)→wpAny c.M A (if ok=true then((do
       let y←eval elt env
       let _←call (Value.builtin "list.append") [acc,y]
       pure ():Sem Unit) >>= λ_=>again (Code.compLoop (elt.ListComp gens sc pos) d (.ref r) acc env))else again (Code.compLoop (elt.ListComp gens sc pos) d (.ref r) acc env))
    (λfin s'=>match fin with| .done f=>R (.ok f) s'| .again c'=>c'.quiet=true∧codeAny c.M A c' R s') (notedBy c.M A env λe s'=>R (.error e) s') s₃:= λok s₃ h₃=>by
   cases ok with
   |true=>
    rw[if_pos rfl]at h₃ ⊢
    exact YC (YC (YE h₃ (λx s₄ h₄=>YC (YE h₄ (λ_ s₅ h₅=>YD (YD (And.intro rfl h₅))) λ_ _ z=>z)) λ_ _ z=>z))
   |false=>
    rw[if_neg Z0]at h₃ ⊢
    exact YD (And.intro rfl h₃)
  cases ifs with
  |nil=>
   refine YC ?_
   rw[YA]
   exact YD (tail true s₂ h₂)
  |cons t l=>
   cases l with
   |cons _ _=>exact h₂.elim
   |nil=>
    refine YC ?_
    rw[List.forIn_cons]
    refine YC ?_
    rw[if_pos rfl]
    refine YC (YE h₂ (λok s₃ h₃=>YD ?_) λ_ _ z=>z)
    show wpAny _ _ (forIn [] ok _) _ _ _
    rw[YA]
    exact YD (tail ok s₃ h₃)
section
variable{I:qc}
theorem C0(G:I.Good c)(hg:gens[d]?=some ⟨target,iter,ifs,0⟩)(hn:gens[d+1]?=none)(hT:∀ρ i o,I.obj ρ i o→o.cls=.type "list_iterator")(h100:100≤k)(ok:I.ok σ.H)(ha:I.items[i]?=none):CL c F k elt gens sc pos d I J i σ σ:=
 λ{A ρ s env R it o s₀ ρ₀ n₀} h0 K r hit ho fr st jl q=>ke hg hn λE=>G.stop (K.2.2 h100) r ok hit ho ha fr.ap λh' tk hk=>q ρ _ (r.other hit fr hk) (st.other h0 hk) rfl
theorem BL(O:c.Ok)(G:I.Good c)(hg:gens[d]?=some ⟨target,iter,ifs,0⟩)(hn:gens[d+1]?=none)(hT:∀ρ i o,I.obj ρ i o→o.cls=.type "list_iterator")(ok:I.ok σ.H)(ha:I.items[i]?=some a)
  (h1:As c F k target a σ σ₁)(h2:yR c F k ifs σ₁ true σ₂)(h3:Ev c F k elt σ₂ v σ₃)(hJ:σ₃.H[J]?=some (.list acc))(hz:acc.length<999)(h4:CL c F k elt gens sc pos d I J (i+1) ⟨σ₃.loc,σ₃.H.set J (.list (acc++[v]))⟩ σ'):CL c F k elt gens sc pos d I J i σ σ':=
 λ{A ρ s env R it o s₀ ρ₀ n₀} h0 K r hit ho fr st jl q=>ke hg hn λE=>G.next r ok hit ho ha fr.ap λh' tk x o' vx hit' ho' hk=>by
  have r':=r.other (tk:=tk) hit fr hk
  have st':=st.other (tk:=tk) h0 hk
  have fr':fx c ρ σ.H.length env it o':=⟨fr.ap,fr.up,fr.ne,G.nd _ _ _ ho'⟩
  refine⟨al o' hit' (hT _ _ _ ho'),?_⟩
  refine h1 A ρ _ env _ E x K r' vx λρ1 s1 r1 st1=>CE h2 K r1 λρ2 s2 r2 st2=>?_
  rw[if_pos rfl]
  refine h3 A ρ2 s2 env _ E K r2 λρ3 s3 y r3 st3 vy=>?_
  have st13:=(st1.trans st2).trans st3
  rw[←st13.ag J jl]
  refine ky r3 hJ hz vy λs4 r4 st4=>?_
  have st14:=st13.trans st4
  refine aO (fr'.step O (s:={s with heap:=h',toks:=tk}) hit' st14) λfr4 hit4=>?_
  have ho4:I.obj ρ3 (i+1) o':=G.ag ρ ρ3 σ.H (i+1) o' ok ho' λj hj=>st14.ag j hj
  exact h4 h0 K r4 hit4 ho4 fr4 (st'.trans st14) (ZE jl st14.le) λρ' s' rr ss ee=>q ρ' s' rr ss (ee.trans (st13.ag J jl))
theorem Ba(O:c.Ok)(G:I.Good c)(hg:gens[d]?=some ⟨target,iter,ifs,0⟩)(hn:gens[d+1]?=none)(hT:∀ρ i o,I.obj ρ i o→o.cls=.type "list_iterator")(ok:I.ok σ.H)(ha:I.items[i]?=some a)
  (h1:As c F k target a σ σ₁)(h2:yR c F k ifs σ₁ false σ₂)(h4:CL c F k elt gens sc pos d I J (i+1) σ₂ σ'):CL c F k elt gens sc pos d I J i σ σ':=
 λ{A ρ s env R it o s₀ ρ₀ n₀} h0 K r hit ho fr st jl q=>ke hg hn λE=>G.next r ok hit ho ha fr.ap λh' tk x o' vx hit' ho' hk=>by
  have r':=r.other (tk:=tk) hit fr hk
  have st':=st.other (tk:=tk) h0 hk
  have fr':fx c ρ σ.H.length env it o':=⟨fr.ap,fr.up,fr.ne,G.nd _ _ _ ho'⟩
  refine⟨al o' hit' (hT _ _ _ ho'),?_⟩
  refine h1 A ρ _ env _ E x K r' vx λρ1 s1 r1 st1=>CE h2 K r1 λρ2 s2 r2 st2=>?_
  rw[if_neg Z0]
  have st12:=st1.trans st2
  refine aO (fr'.step O (s:={s with heap:=h',toks:=tk}) hit' st12) λfr4 hit4=>?_
  have ho4:I.obj ρ2 (i+1) o':=G.ag ρ ρ2 σ.H (i+1) o' ok ho' λj hj=>st12.ag j hj
  rw[←st12.ag J jl]
  exact h4 h0 K r2 hit4 ho4 fr4 (st'.trans st12) (ZE jl st12.le) λρ' s' rr ss ee=>q ρ' s' rr ss (ee.trans (st12.ag J jl))
theorem aW.keepAll(r:aW c A F ρ σ s env)(hk:∀b o,s.heap.get? b=some o→h'.get? b=some o):aW c A F ρ σ {s with heap:=h',toks:=tk} env:=by
 refine⟨⟨λi ao e=>?_,r.hr.inj,r.hr.up,λb o e t=>hk _ _ (r.hr.base b o e t),λo e=>(r.hr.tj o e).imp (λz=>hk _ _ z) λ⟨z1,z2,vs,more,z3,z4⟩=>bS z1 z2 vs more z3 (hk _ _ z4)⟩,r.sc,r.gl,r.bl,r.ce,r.ci,?_,r.ap,r.lf,r.ge,r.sk.same rfl λb ob es ep g1 g2 _ _=>bh ob es ep (hk _ _ g1) g2,r.tp,r.fl⟩
 ·refine aj (r.hr.at_ i ao e) λob z1 z2=>?_
  exact al ob (hk _ _ z1) z2
 ·refine br λGz kz=>?_
  refine aj (r.lo) λm hm hl=>?_
  refine dc hm λob es ep g1 g2=>?_
  refine kz ?_
  exact al m (bh ob es ep (hk _ _ g1) g2) hl
theorem xg{t1 t2:Expr}{t:Nat}(h100:100≤k)(he:∀env,assignEach [t1,t2] env=[(false,assign t1 env),(false,assign t2 env)])(ht:σ.H[t]?=some (.tuple [a,b]))(h1:As c F k t1 a σ σ₁)(h2:As c F k t2 b σ₁ σ₂):As c F k (.Tuple [t1,t2] kd pos) (.obj t) σ σ₂:= λA ρ s env Q E x K r hx q=>by
 refine aO hx ?_;clear hx;intro _ z0;subst z0
 refine aj (r.tuple ht) λits g1 g2=>?_
 revert g1
 refine I0 g2 λxa xb va vb g1=>?_
 refine assign_Tuple_tuple (K.2.2 h100) g1 (by rw[he];rfl) (by rw[he];rfl) λh' hx'=>?_
 have hk:∀b o,s.heap.get? b=some o→h'.get? b=some o:= λb o e=>hx' b o (Z7 (ZB e)) e
 have r1:=r.keepAll (tk:=s.toks) hk
 rw[he]
 show wpAny _ _ (assignInOrder [assign t1 env,assign t2 env] [xa,xb]) _ _ _
 refine assignInOrder_cons (h1 A ρ _ env _ E xa K r1 va λρ2 s2 r2 st2=>assignInOrder_cons (h2 A ρ2 s2 env _ E xb K r2 (st2.vr vb) λρ3 s3 r3 st3=>assignInOrder_nil ?_))
 exact q ρ3 s3 r3 (((cN hk rfl:aM c ρ σ.H.length (· =env.locals) s ρ σ.H.length {s with heap:=h',toks:=s.toks}).trans st2).trans st3)
end
theorem hG{ρ:Nat→Addr}{n:Nat}:∀{ys:List Str}{its:List Value},cF ρ n (ys.map .str) its→∃ts:List (Str×Tok),its=ts.map (λp=>.str p.1 p.2)∧ts.map (·.1)=ys
 | [],_,.nil=>al [] rfl rfl
 |y::ys,_,.cons h t=>by
  refine bp h ?_;clear h;intro u z0;subst z0
  refine aj (hG t) λts e1 e2=>?_
  exact al ((y,u)::ts) (by simp[e1]) (by simp[e2])
noncomputable def Jk(x:Str):Value→Bool
 | .str y _=>y==x
 |_=>false
theorem xh(x:Str):∀(ts:List (Str×Tok)),((ts.map λp=>Value.str p.1 p.2).any (Jk x))=(ts.map (·.1)).contains x
 | []=>rfl
 |p::ts=>by
  simp only[ZZ,List.any_cons,List.contains_cons,xh x ts]
  congr 1
  show(p.1==x)=(x==p.1)
  exact Zi.mpr ⟨λh=>by simp at h ⊢;exact h.symm,λh=>by simp at h ⊢;exact h.symm⟩
theorem lH{ys:List Str}(hj:σ.H[j]?=some (.list (ys.map .str)))(ht:ys.contains x=t):du c F k (compareOp .In) (.str x) (.obj j) σ (.bool t) σ:= λA ρ s env Q E p q K r hp hq z=>by
 refine bp hp ?_;clear hp;intro u z0;subst z0
 refine aO hq ?_;clear hq;intro _ z0;subst z0
 refine bz (r.list hj) λits g1 g2 _=>?_
 refine aj (hG g2) λts z0 z1=>?_;subst z0;subst z1
 refine SeqAt.in_listAt (Jk x) g1 (λy hy=>?_) (z ρ s _ r .refl ?_)
 ·have hy':y∈ts.map λp=>Value.str p.1 p.2:=by simpa using hy
  refine aj (ZR.mp hy') λp _ z0=>?_;subst z0
  exact jE
 ·show Value.bool _=Value.bool _
  rw[←ht,←xh x ts]
  simp
theorem rY(hj:σ.H[j]?=some (.list vs))(hi:σ.H[i]?=some (.list []))(ht:(!vs.isEmpty)=t):du c F k (compareOp .NotEq) (.obj j) (.obj i) σ (.bool t) σ:= λA ρ s env Q E p q K r hp hq z=>by
 refine br λGz kz=>?_
 refine aO hp ?_;clear hp;intro _ z0;subst z0
 refine aO hq ?_;clear hq;intro _ z0;subst z0
 refine bz (r.list hj) λits g1 g2 _=>?_
 refine bz (r.list hi) λits' g1' g2' _=>?_
 refine kz ?_
 cases g2'
 cases g2 with
 |nil=>
  refine SeqAt.RcNeAt.lists (e:= λ_=>true) g1 g1' rfl K.units (λj h1 _=>absurd h1 (Nat.not_lt_zero _)) c.prog c.w E Q (z ρ s _ r .refl ?_)
  rw[←ht];rfl
 |cons h1 h2=>
  refine SeqAt.RcNeAt.lists_lengths g1 g1' (by simp) K.units c.prog c.w E Q (z ρ s _ r .refl ?_)
  rw[←ht];rfl
theorem CR{xs ys:List AV}(hi:σ.H[i]?=some (.list xs))(hj:σ.H[j]?=some (.list ys))(hl:xs.length+ys.length<1000):du c F k (binaryOp .Add) (.obj i) (.obj j) σ (.obj σ.H.length) ⟨σ.loc,σ.H++[.list (xs++ys)]⟩:= λA ρ s env Q E p q K r hp hq z=>by
 refine br λGz kz=>?_
 refine aO hp ?_;clear hp;intro _ z0;subst z0
 refine aO hq ?_;clear hq;intro _ z0;subst z0
 refine aj (r.hr.at_ i _ hi) λob h1 h2=>?_
 refine ds h2 ?_;clear h2;intro its e z0 h3;subst z0
 refine aj (r.hr.at_ j _ hj) λob' h1' h2'=>?_
 refine ds h2' ?_;clear h2';intro its' e' z0 h3';subst z0
 refine kz ?_
 have l1:=aI h3
 have l2:=aI h3'
 refine P.add_list h1 h1' ?_ (by simp[l1,l2];unfold sizeLine;lia)
 refine aO (r.alloc (ao:=.list (xs++ys)) (ob:={cls:=.type "list",data:=.seq (⟨its⟩++⟨its'⟩)}) s.toks rfl (cH (its++its') 0 (by simp) ((kc h3 h3').mono (λi hi=>bc hi) (Zf _)))) λr2 st2=>?_
 exact z _ _ _ r2 st2 ⟨by simp,by rw[aF]⟩
noncomputable def Bv(x y:Str):Bool:=decide (x.cps.toList<y.cps.toList)
theorem gu{ys:List Str}(hj:σ.H[j]?=some (.list (ys.map .str)))(h64:ys.length<64)
  (hz:(ys.length<2∧zs=ys)∨(2≤ys.length∧∃p:Array Nat,cV ys.length (λi j=>Bv (ys.getD i "") (ys.getD j "")) (kas_sort ys.length)=some p∧(∀i∈p.toList,i<ys.length)∧(p.toList.map λi=>ys.getD i "")=zs)):
  cJ c F k (λxs=>call (.builtin "sorted") xs) [.obj j] σ (.obj σ.H.length) ⟨σ.loc,σ.H++[.list (zs.map .str)]⟩:= λA ρ s env Q E xs K r hx q=>by
 refine lL hx λ_ h1=>?_
 refine aO h1 ?_;clear h1;intro _ z0;subst z0
 refine bz (r.list hj) λits hl hv _=>?_
 refine aj (hG hv) λts z0 z1=>?_;subst z0;subst z1
 have ln:(ts.map λp=>Value.str p.1 p.2).length=ts.length:=by simp
 have ln2:(ts.map (·.1)).length=ts.length:=by simp
 rw[ln2]at h64 hz
 have gd:∀i,i<ts.length→(ts.map λp=>Value.str p.1 p.2).getD i Value.none=.str ((ts.map λp=>p.1).getD i ("":Str)) (ts.getD i ("",0)).2:= λi hi=>by simp[hi]
 obtain⟨p,hp⟩:∃p:Array Nat,2≤ts.length→cV ts.length (λi j=>Bv ((ts.map λp=>p.1).getD i ("":Str)) ((ts.map λp=>p.1).getD j ("":Str))) (kas_sort ts.length)=some p∧(∀i∈p.toList,i<ts.length)∧(p.toList.map λi=>(ts.map λp=>p.1).getD i ("":Str))=zs:=by
  rcases hz with⟨h,_⟩|⟨h,p,h1⟩
  ·exact⟨#[],λz=>absurd z (by lia)⟩
  ·exact⟨p,λ_=>h1⟩
 refine wy (lt:= λi j=>Bv ((ts.map λp=>p.1).getD i ("":Str)) ((ts.map λp=>p.1).getD j ("":Str))) (p:=p) (κ:=oneType') hl (by rw[ln];exact h64) (λh2 s' hk Q E' hq=>?_) (λi j hi hj s' hk C hC=>?_) (λh2=>by rw[ln]at h2 ⊢;exact(hp h2).1) λout o1 o2=>?_
 ·refine kas_kind (T:=.type "str") h2 (λv hv=>?_) (by decide) (by decide) hq
  refine aj (ZR.mp hv) λp _ z0=>?_;subst z0
  exact Looks.of_pure rfl
 ·rw[ln]at hi hj
  unfold kas_ask
  rw[gd i hi,gd j hj]
  show wpAny _ _ (oneLt' true _ _) _ _ _
  exact oneLt_str hC
 ·rw[ln]at o1 o2
  have vo:cF ρ σ.H.length (zs.map .str) out:=by
   rcases hz with⟨h,rfl⟩|⟨h,_⟩
   ·rw[o1 h];exact hv
   ·rw[o2 h]
    refine fP (hp h) λ_ b1 b2=>?_
    rw[←b2,Zr]
    have go:∀(l:List Nat),(∀i∈l,i<ts.length)→cF ρ σ.H.length (l.map (AV.str∘ λi=>(ts.map λp=>p.1).getD i ("":Str))) (l.map λi=>(ts.map λp=>Value.str p.1 p.2).getD i Value.none):=by
     intro l
     induction l with
     |nil=>intro _;exact .nil
     |cons i l ih=>
      intro hb
      exact .cons (show VR ρ σ.H.length (AV.str ((ts.map λp=>p.1).getD i ("":Str))) ((ts.map λp=>Value.str p.1 p.2).getD i Value.none)by rw[gd i (hb i (.head _))];exact⟨_,rfl⟩) (ih λx hx=>hb x (.tail _ hx))
    exact go _ b1
  refine bp (sortedAll_at s.heap (ts.map λp=>Value.str p.1 p.2) out.toArray) λe he=>?_
  have hn:s.heap.get? (s.heap.objs.size+1)=none:=by
   cases z:s.heap.get? (s.heap.objs.size+1)with
   |none=>rfl
   |some o=>exact absurd (ZB z) (ZX.mpr (Zf _))
  refine aO (r.allocAt (ao:=.list (zs.map .str)) (a:=s.heap.objs.size+1) (tk:=s.toks) (λb o q=>sortedAll_old q) hn he (cH out e rfl (vo.mono (λi hi=>bc hi) (Zf _)))) λr1 st1=>?_
  exact q _ _ _ r1 st1 ⟨by simp,by rw[aF]⟩
theorem xq(r:aW c A F ρ σ s env)(hj:σ.H[j]?=some (.list vs)∨σ.H[j]?=some (.tuple vs))(hl:vs.length<1000){Q:List Value→Shared→Prop}
  (q:∀h' its,cF ρ σ.H.length vs its→(∀b o,s.heap.get? b=some o→h'.get? b=some o)→Q its {s with heap:=h'}):StarOf c.M A E (.ref (ρ j)) Q s:=by
 have go:∀(T:String)(its:List Value)(e:Nat),(T="list"∨T="tuple")→s.heap.get? (ρ j)=some {cls:=.type T,data:=.seq ⟨its⟩ e}→cF ρ σ.H.length vs its→StarOf c.M A E (.ref (ρ j)) Q s:=by
  intro T its e hT D hv
  have ln:=aI hv
  have hT':s.TypeIs (.ref (ρ j)) T:=al _ D rfl
  have z:wpAny c.M A (collect (.ref (ρ j))) Q E s:=by
   refine wpAny_collect_seq (ρ j) hT D rfl rfl (λh' hk=>?_) (by rw[Ze];unfold sizeLine;lia)
   exact q h' its hv hk
  unfold StarOf notIterableAtAll
  rcases hT with rfl|rfl
  ·exact YC (wpAny_specialOf hT' PySem.F.slot_list_iter.lookup (YD ⟨rfl,z⟩))
  ·exact YC (wpAny_specialOf hT' PySem.F.slot_tuple_iter.lookup (YD ⟨rfl,z⟩))
 rcases hj with hj|hj
 ·refine aj (r.hr.at_ j _ hj) λob h1 h2=>?_
  refine ds h2 ?_;clear h2;intro its e z0 h3;subst z0
  exact go "list" its e (.inl rfl) h1 h3
 ·refine aj (r.hr.at_ j _ hj) λob h1 h2=>?_
  refine ds h2 ?_;clear h2;intro its e z0 h3;subst z0
  exact go "tuple" its e (.inr rfl) h1 h3
theorem Dh{p:Pos}(h1:Ev c F k e σ (.obj j) σ₁)(hj:σ₁.H[j]?=some (.list vs)∨σ₁.H[j]?=some (.tuple vs))(hl:vs.length<1000):Ag c F k pos [.Starred e p] σ vs σ₁:= λA ρ s env Q E K r q=>
 items_star (h1 A ρ s env _ E K r λρ1 s1 x r1 st1 vx=>by
  refine aO vx ?_;clear vx;intro _ z0;subst z0
  refine xq r1 hj hl λh' its hv hk=>?_
  refine args_nil ?_
  rw[List.append_nil]
  exact q ρ1 _ its (r1.keepAll (tk:=s1.toks) hk) (st1.trans (cN hk rfl:aM c ρ1 σ₁.H.length (· =env.locals) s1 ρ1 σ₁.H.length {s1 with heap:=h',toks:=s1.toks})) hv)
theorem AM{f:Value}{p:Pos}(h1:Ev c F k e σ (.obj j) σ₁)(hj:σ₁.H[j]?=some (.list vs)∨σ₁.H[j]?=some (.tuple vs))(hl:vs.length<1000):Ik c F k f pos [.Starred e p] [] σ vs [] σ₁:= λA ρ s env Q E K r q=>
 ks_lone (h1 A ρ s env _ E K r λρ1 s1 x r1 st1 vx=>by
  refine aO vx ?_;clear vx;intro _ z0;subst z0
  refine xq r1 hj hl λh' its hv hk=>?_
  exact q ρ1 _ ⟨its,[]⟩ (r1.keepAll (tk:=s1.toks) hk) (st1.trans (cN hk rfl:aM c ρ1 σ₁.H.length (· =env.locals) s1 ρ1 σ₁.H.length {s1 with heap:=h',toks:=s1.toks})) ⟨hv,.nil⟩)
structure A7(K:Frag)(f:Addr):Prop where
 fn:isFn K (.ref f)=true
 gt:specialIn K (.ref f) "__get__"=some (some (.builtin "function.__get__"))
 tk:takesIn K (.ref f)=some false
theorem AT{o:Expr}{args:List Expr}(G:c.Go)(X:dz c.w.params f body sc)(Y:GN (Kx c.w.params) C)(Z:A7 (Kx c.w.params) f)(hcn:copiedNames.contains name=false)
  (he:∀env,eval (.Call (.Attribute o name apos) args [] pos) env=(do
   let ov←eval o env
   standAt apos.atName
   let(f,first)←holding [ov] (do pure (←getAttr ov name true,[]))
   callWith pos f first (backTo pos (starEach args env)) []))
  (h0:Ev c F k o σ (.obj i) σ₁)(hi:σ₁.H[i]?=some (.inst C d))(hd:σ₁.H[d]?=some (.dict es))(hl:es.lookup name=none)(hn:findIn (Kx c.w.params) (.ref C) name=some (some (.ref f)))
  (h1:∀g,Ik c F k g pos args [] ⟨σ₁.loc,σ₁.H++[AO.meth (.ref f) (.obj i)]⟩ vs [] σ₂)(hm:σ₂.H[σ₁.H.length]?=some (AO.meth (.ref f) (.obj i)))(h2:Fn c k (.ref f) (.obj i::vs) [] σ₂.H v H'):Ev c F k (.Call (.Attribute o name apos) args [] pos) σ v ⟨σ₂.loc,H'⟩:= λA ρ s env Q E K r h=>by
 rw[he env]
 refine YC (h0 A ρ s env _ E K r λρ1 s1 x r1 st1 vx=>YC (YG (YC (YF (YC ?_)))))
 refine aO vx ?_;clear vx;intro hlt z0;subst z0
 refine ct (r1.inst hi hd) λents e h5 h3 I=>?_
 have hf:=X.at G
 have look:lookIn name (dictOf ents e)=some none:=by rw[lookIn_dict];unfold getL;rw[sj h5 hl];simp only[kH h5];rfl
 refine PySem.W.get_bind (r1.X G.ok) I (G.hK▸Y.ga) (findObj_fn (G.hK▸Y.hd) (G.hK▸hn) (G.hK▸Z.gt) (G.hK▸Z.tk) hcn look) (G.hK▸Y.gk) (wpAny_call (fn_get (s:={s1 with toks:=s1.toks+1}) (r1.X G.ok) (beq_iff_eq.mp (G.hK▸Z.fn)) (handed_on rfl ?_)))
 refine aO (r1.alloc (ao:=.meth (.ref f) (.obj i)) (ob:=methodObj (.ref f) (.ref (ρ1 i))) (s1.toks+1) rfl (bO _ rfl (Zd hlt) (by rw[bc hlt]))) λr2 st2=>?_
 refine YD ?_
 dsimp only
 refine cu (h1 _ A _ _ env _ E K r2 λρ3 s3 a r3 st3 va=>?_)
 have st23:=st2.trans st3
 have pl:ρ3 σ₁.H.length=s1.heap.objs.size:=by rw[st3.ag _ (by simp),aF]
 refine nO (r3.hr.at_ _ _ hm) λob g1 xx g2 g3=>?_
 subst g2
 refine aO g3 ?_;clear g3;intro _ z0;subst z0
 rw[pl]at g1
 have ff:=r3.X G.ok _ _ hf
 refine⟨⟨.boundFrame,(Looks.ld g1).andThen ((Looks.ld ff).andThen .now)⟩,?_⟩
 have hx:cF ρ3 σ₂.H.length (.obj i::vs) (.ref (ρ3 i)::a.pos):=.cons (show VR ρ3 σ₂.H.length (.obj i) (.ref (ρ3 i))from⟨ZE hlt st23.le,rfl⟩) va.1
 refine wpAny_call (ks_codeAny_call_bound g1 (h2 A ρ3 s3 (.ref (ρ3 i)::a.pos) a.kw _ K r3.hr r3.ge r3.sk hx va.2 λρ4 s4 x hr4 ge4 st4 vx4=>?_))
 refine aO (r3.after G.ok hr4 ge4 st4) λr4 st4'=>?_
 exact h ρ4 s4 x r4 (st1.trans (st23.trans st4')) vx4
theorem nq(G:c.Go)(hk:F.scope.kind=.function)(h100:100≤k){px py pt:Pos}(hx:F.scope.names.lookup x=some .local)(hy:F.scope.names.lookup y=some .local)(hxy:x≠y)
  (hg:gens=[⟨.Tuple [.Name x px,.Name y py] kd pt,iter,ifs,0⟩]){ps:List (Str×Str)}{Hb:List AO}(hT:Hb[T]?=some (.list (js.map .obj)))(hps:aN Hb js ps)(hz:ps.length<900){φ:Str×Str→Bool}{el:Str×Str→Str}
  (step:∀(p:Str×Str)(l:List (Str×AV))(done:List AV),l.lookup x=some (.str p.1)→l.lookup y=some (.str p.2)→yR c F k ifs ⟨l,Hb++[AO.list done]⟩ (φ p) ⟨l,Hb++[AO.list done]⟩∧Ev c F k elt ⟨l,Hb++[AO.list done]⟩ (.str (el p)) ⟨l,Hb++[AO.list done]⟩):
  ∀(rest:List (Str×Str))(i:Nat)(done:List AV)(l:List (Str×AV)),ps.drop i=rest→done.length≤i→i≤ps.length→
   ∃l',CL c F k elt gens sc pos 0 (aR T (js.map .obj)) Hb.length i ⟨l,Hb++[AO.list done]⟩ ⟨l',Hb++[AO.list (done++(rest.filter φ).map λp=>.str (el p))]⟩:=by
 have okN:∀(l:List (Str×AV))(L:List AO),(aR T (js.map .obj)).ok (St.H ⟨l,Hb++L⟩):= λl L=>aB hT
 have cls:∀ρ i o,(aR T (js.map .obj)).obj ρ i o→o.cls=.type "list_iterator":= λρ i o h=>h.1
 intro rest
 induction rest with
 |nil=>
  intro i done l hd hl hi
  subst hg
  refine⟨l,?_⟩
  rw[show done++((([]:List (Str×Str)).filter φ).map λp=>AV.str (el p))=done by simp]
  refine C0 az rfl rfl cls h100 (okN _ _) ?_
  show(js.map AV.obj)[i]?=none
  rw[ZC,ZS,hps.1]
  exact ZL.mp hd
 |cons p rest ih=>
  intro i done l hd hl hi
  have hp:ps[i]?=some p:=by
   have:(ps.drop i)[0]?=some p:=by rw[hd];rfl
   rwa[Z1,Zq]at this
  have hd1:ps.drop (i+1)=rest:=by
   have:(ps.drop i).drop 1=rest:=by rw[hd];rfl
   rwa[Zp]at this
  have il:=aq hp
  have il2:i<js.length:=by rw[hps.1];exact il
  have hj:js[i]?=some js[i]:=zG il2
  have tup:=hps.2 i js[i] p hj hp
  have ai:(aR T (js.map .obj)).items[i]?=some (.obj js[i]):=by
   show(js.map AV.obj)[i]?=_
   rw[ZK,hj];rfl
  let l1:List (Str×AV):=aS x (.str p.1) l
  let l2:List (Str×AV):=aS y (.str p.2) l1
  have lx:l2.lookup x=some (.str p.1):=by show(aS y _ l1).lookup x=_;rw[bV _ _ _ hxy];exact ah _ _ _
  have ly:l2.lookup y=some (.str p.2):=ah _ _ _
  have as1:As c F k (.Tuple [.Name x px,.Name y py] kd pt) (.obj js[i]) ⟨l,Hb++[AO.list done]⟩ ⟨l2,Hb++[AO.list done]⟩:=
   xg (σ₁:=⟨l1,Hb++[AO.list done]⟩) h100 (λ_=>rfl) (aB tup) (bg hk hx) (bg hk hy)
  refine aO (step p l2 done lx ly) λs1 s2=>?_
  cases hφ:φ p with
  |true=>
   rw[hφ]at s1
   refine bp (ih (i+1) (done++[.str (el p)]) l2 hd1 (by simp;lia) (by lia)) λl' h=>?_
   refine⟨l',?_⟩
   rw[show done++((p::rest).filter φ).map (λp=>AV.str (el p))=(done++[.str (el p)])++(rest.filter φ).map λp=>AV.str (el p)by simp[hφ]]
   subst hg
   refine BL (σ₁:=⟨l2,Hb++[AO.list done]⟩) (σ₂:=⟨l2,Hb++[AO.list done]⟩) (σ₃:=⟨l2,Hb++[AO.list done]⟩) (v:=.str (el p)) (acc:=done) G.ok az rfl rfl cls (okN _ _) ai as1 s1 s2 aP (by lia) ?_
   have e2:(Hb++[AO.list done]).set Hb.length (.list (done++[.str (el p)]))=Hb++[AO.list (done++[.str (el p)])]:=by
    rw[Zn _ _ (ZA _),ZY];rfl
   show CL _ _ _ _ _ _ _ _ _ _ _ ⟨l2,(Hb++[AO.list done]).set Hb.length (.list (done++[.str (el p)]))⟩ _
   rw[e2]
   exact h
  |false=>
   rw[hφ]at s1
   refine bp (ih (i+1) done l2 hd1 (by lia) (by lia)) λl' h=>?_
   refine⟨l',?_⟩
   rw[show done++((p::rest).filter φ).map (λp=>AV.str (el p))=done++(rest.filter φ).map λp=>AV.str (el p)by simp[hφ]]
   subst hg
   exact Ba (σ₁:=⟨l2,Hb++[AO.list done]⟩) (σ₂:=⟨l2,Hb++[AO.list done]⟩) G.ok az rfl rfl cls (okN _ _) ai as1 s1 h
noncomputable def gm:=d7 dP 40
noncomputable def oq:=jZ dP 40
noncomputable def jV:=d7 dP 41
noncomputable def wz:=jZ dP 41
noncomputable def mV:List (Str×Nat):=[("anew",1),("name",0)]
noncomputable def qX:List (Str×Nat):=[("anew",2),("new",1),("old",0)]
structure sP(P:Params)(a:Addr)(body:List Stmt)(sc:Scope):Prop where
 lk:(Kx P).lookup a=some ⟨.type "function",(wl P a).dict,.func (dw P a),(wl P a).slots⟩
 cd:codeIn (Kx P) (dw P a).code (dw P a).qualname=true
 bd:(dw P a).body=.stmts body
 se:(dw P a).scope=sc
 cl:(dw P a).closure=[]
 gl:(dw P a).globals=mainGlobals
 bl:(dw P a).builtins=builtinsNs
 co:sc.isCoroutine=false
 ge:sc.isGenerator=false
 ki:sc.kind=.function
theorem xj(P:Params):sP P 906 gm oq:=by constructor<;>w_on
theorem Br(P:Params):sP P 911 jV wz:=by constructor<;>w_on
theorem DQ(P:Params)(x:Value)(S:Setting):peek (Kx P) S (bindArgs (dw P 906) ⟨[x],[]⟩)=some [(("texts":Str),x)]:=by w_on
theorem Ff(P:Params)(x:Value)(S:Setting):peek (Kx P) S (bindArgs (dw P 911) ⟨[x],[]⟩)=some [(("books":Str),x)]:=by w_on
theorem vc(n:Nat):cellsFrom n oq.names []=mV.map λq=>(q.1,n+q.2):=by w_on
theorem x7(n:Nat):cellsFrom n wz.names []=qX.map λq=>(q.1,n+q.2):=by w_on
theorem pS{p:Str}{cs:List (Str×Nat)}{fl:AF}(G:c.Go)(X:sP c.w.params f body sc)
  (hcs:∀n,cellsFrom n sc.names []=cs.map λq=>(q.1,n+q.2))(hall:∀j,j<cs.length→∃x,cs.lookup x=some j)(hci:∀q∈cs,q.2<cs.length)(hp:sc.names.lookup p=some .local)
  (bd:∀(x:Value)(S:Setting),peek (Kx c.w.params) S (bindArgs (dw c.w.params f) ⟨[x],[]⟩)=some [(p,x)])
  (hb:dq c ⟨sc,cs.map λq=>(q.1,H.length+q.2)⟩ k body ⟨[(p,a)],H++ZV cs.length (.cell none)⟩ fl ⟨loc',H'⟩):Fn c (k+1) (.ref f) [a] [] H fl.val H':=by
 have e:=X.se
 subst e
 exact yq (fd:=dw c.w.params f) G.ok (by rw[G.hK];exact X.lk) (by rw[G.hK];exact X.cd) X.bd X.cl X.gl X.bl hcs hall hci X.co X.ge X.ki hp (λs x XX=>@bC _ _ _ _ _ (G.hK▸XX) (bd x)) hb
noncomputable def bL(n:Nat):Fs:=⟨oq,mV.map λq=>(q.1,n+q.2)⟩
theorem bj(n:Nat):(bL n).scope.kind=.function:=by w_on
theorem qn(n:Nat):∀env:Env,env.scope=(bL n).scope→interactive env=false:= λenv he=>by
 unfold interactive
 rw[he]
 rfl
noncomputable def lQ:=d7 gm 5
noncomputable def wX:=d7 gm 8
noncomputable def ow:=d7 wX 1
theorem Hn(P:Params):A7 (Kx P) 117:=⟨by w_on,by w_on,by w_on⟩
theorem Iw(P:Params):A7 (Kx P) 150:=⟨by w_on,by w_on,by w_on⟩
theorem jI(g:oF)(i:Nat)(qs:List Nat)(p:Nat):((fy g i qs).su p).length≤(g.su p).length+qs.length:=by
 have go:∀(qs:List Nat)(g:oF),((qs.foldl (fC i) g).su p).length≤(g.su p).length+qs.length:=by
  intro qs
  induction qs with
  |nil=>intro g;exact ZA _
  |cons q qs ih=>
   intro g
   have:=ih (fC i g q)
   have:=pD g i q p
   simp only[Zv,Zk]
   lia
 have h1:=go qs (nP g i qs.length)
 have h2:((nP g i qs.length).su p).length≤(g.su p).length:=by
  show((fv g i).su p).length≤_
  unfold fv
  split
  ·exact ZA _
  ·show(iR g.su i [] p).length≤_
   by_cases q:p=i
   ·rw[q,bB];exact Zl _
   ·rw[cg q];exact ZA _
 unfold fy
 lia
section
variable{RV:Nat}{g:oF}{rj:Nat→Nat}
structure uI(c:Cx)(H0 H:List AO)(B S D N:Nat)(g:oF)(pi pd ps:Nat→Nat):Prop where
 x:SO H S D N .none 0 0
 gh:GH c H N g.ord g.np g.su pi pd ps
 b:∀i∈g.ord,B≤pi i∧B≤ps i
 k:∀(y:Nat)(o:AO),y<B→y≠N→H0[y]?=some o→H[y]?=some o
 l:B≤H.length
theorem zd(G:c.Go)(hs:l.lookup ("sorter":Str)=some (.obj S))(hr:l.lookup ("row":Str)=some (.obj (rj i)))(x:uI c H0 H B S D N g pi pd ps)(hrow:H0[rj i]?=some (.list (be (i::nd i))))(hB:rj i<B)(hN:rj i≠N)(h5:i<5)(hp:∀p∈nd i,p<5)(hl:(nd i).length≤4)(hz:∀p,(g.su p).length<800):
  ∃H' pi' pd' ps',dq c (bL n) (k+101) lQ ⟨l,H⟩ .next ⟨l,H'⟩∧uI c H0 H' B S D N (fy g i (nd i)) pi' pd' ps':=by
 have row:=x.k _ _ hB hN hrow
 refine br λGz kz=>?_
 refine bb (H++[AO.meth (.ref 117) (.obj S)]) λHm em=>?_
 refine bb (Hm++[AO.list (be (nd i))]) λH1 e1=>?_
 have lm:Hm.length=H.length+1:=by rw[em];simp
 have row1:Hm[rj i]?=some (.list (be (i::nd i))):=by rw[em];exact aB row
 have ex1:bW H H1:= λy o h=>by rw[e1,em];exact aB (aB h)
 have gh1:=x.gh.ext ex1
 have x1:SO H1 S D N .none 0 0:=⟨ex1 _ _ x.x.s,ex1 _ _ x.x.d⟩
 refine n6 (GB (k:=k) (i:=i) G x1 gh1 h5 hp hl hz) λH' pi' pd' ps' f g' gx=>?_
 refine kz ?_
 have xl:=x.l
 refine⟨H',pi',pd',ps',?_,⟨gx.sso gh1 x1,g',λj hj=>?_,λy o hy hn h=>?_,?_⟩⟩
 ·have sl:∀{p1 p2 p3 p4:Pos}{q:Nat},Ev c (bL n) (k+101) (.Subscript (.Name "row" p1) (.Slice (some (.Constant (.int 1) q p2)) none none p3) p4) ⟨l,Hm⟩ (.obj Hm.length) ⟨l,H1⟩:= λ{p1 p2 p3 p4 q}=>by
   have z:=fF (c:=c) (F:=bL n) (k:=k+101) (σ:=⟨l,Hm⟩) (σ₁:=⟨l,Hm⟩) (σ₂:=⟨l,Hm⟩) (σ₃:=⟨l,Hm⟩) (σ₄:=⟨l,Hm⟩) (value:=.Name "row" p1) (lower:=some (.Constant (.int 1) q p2)) (upper:=none) (step:=none) (p:=p3) (pos:=p4) (j:=rj i) (vs:=be (i::nd i)) (l:=some 1) (u:=none) (t:=none) (v':=be (nd i)) (by simp[be];lia) (by simp) (λ_ _=>⟨_,rfl⟩) (aa (bj n) rfl hr) (e9 aJ) dm dm row1 (λρ n its h=>j6 h)
   rw[e1];exact z
  have h1:H1[Hm.length]?=some (.list (be (nd i))):=by rw[e1];exact aP
  have hme:H1[H.length]?=some (.meth (.ref 117) (.obj S)):=by rw[e1,em];exact aB aP
  rw[em]at sl row1 h1
  k_dflt refine' aU (ck (F:=bL n) (v:=.none) (qn n) (λ_=>rfl) (AT (σ₁:=⟨l,H⟩) (σ₂:=⟨l,H1⟩) (i:=S) (d:=D) (es:=wA N .none 0 0) G (zr _) (eE _) (Hn _) (by decide) (λ_=>rfl) (aa (bj n) rfl hs) x.x.s x.x.d rfl (FD _) (λ_=>gF (af λ_=>rfl) (am (λ_=>rfl) (cW (by lia) (by lia) (λ_ _=>rfl) (λ_ _=>rfl) (aa (bj n) rfl hr) aJ row1 rfl) (Dh sl (.inl h1) (by simp[be];lia)))) hme f))
 ·by_cases q:j∈g.ord
  ·refine fP (gx.old j q) λ_ a b=>?_
   rw[a,b];exact x.b j q
  ·refine aO (gx.new j hj q) λa b=>?_
   have:H1.length=H.length+2:=by rw[e1];simp[lm]
   lia
 ·refine gx.kp y o (ex1 _ _ (x.k y o hy hn h)) hn λj hj=>?_
  have:=x.b j hj
  lia
 ·have:=gx.le
  have:H1.length=H.length+2:=by rw[e1];simp[lm]
  lia
noncomputable def Bo(nd:Nat→List Nat)(g:oF)(is:List Nat):oF:=is.foldl (λg i=>fy g i (nd i)) g
theorem AI(G:c.Go){items:List AV}(hRV:H0[RV]?=some (.list items))(hRB:RV<B)(hRN:RV≠N)(hrj:∀i,i<5→H0[rj i]?=some (.list (be (i::nd i)))∧rj i<B∧rj i≠N)(hp:∀i,i<5→(nd i).length≤4∧∀p∈nd i,p<5):
  ∀(is:List Nat){l:List (Str×AV)}{H:List AO}{g:oF}{pi pd ps:Nat→Nat},l.lookup ("sorter":Str)=some (.obj S)→uI c H0 H B S D N g pi pd ps→(∀i∈is,i<5)→(∀p,(g.su p).length+4*is.length<800)→
  ∃l' H' pi' pd' ps',(∀pp:Pos,fm c (bL n) (k+101) (aR RV items) (.Name "row" pp) lQ (is.map λi=>.obj (rj i)) ⟨l,H⟩ .next ⟨l',H'⟩)∧uI c H0 H' B S D N (Bo nd g is) pi' pd' ps'∧(∀y:Str,y≠"row"→l'.lookup y=l.lookup y):=by
 intro is
 induction is with
 |nil=>
  intro l H g pi pd ps hs x _ _
  exact jq l H pi pd ps (λ_=>.nil (x.k _ _ hRB hRN hRV)) x λ_ _=>rfl
 |cons i is ih=>
  intro l H g pi pd ps hs x h5 hz
  refine br λGz kz=>?_
  refine fP (hrj i (h5 i (.head _))) λr1 r2 r3=>?_
  refine aO (hp i (h5 i (.head _))) λp1 p2=>?_
  have hs1:(aS ("row":Str) (AV.obj (rj i)) l).lookup ("sorter":Str)=some (.obj S):=dQ hs
  obtain⟨H1,pi1,pd1,ps1,e1,x1⟩:=zd (n:=n) (k:=k) (i:=i) (nd:=nd) (rj:=rj) (l:=aS "row" (.obj (rj i)) l) G hs1 (ah _ _ _) x r1 r2 r3 (h5 i (.head _)) p2 p1 (λp=>by have:=hz p;simp at this;lia)
  refine hZ (ih hs1 x1 (λj hj=>h5 j (.tail _ hj)) (λp=>by
   have:=hz p
   have:=jI g i (nd i) p
   simp at*;lia)) λl2 H2 pi2 pd2 ps2 e2 x2 lk=>?_
  refine kz ?_
  refine jq l2 H2 pi2 pd2 ps2 ?_ x2 λy hy=>(lk y hy).trans (bV _ _ _ hy _)
  generalize lQ=bdy at e1 e2 ⊢
  exact λpp=>fm.next (a:=.obj (rj i)) (rest:=is.map λi=>.obj (rj i)) (σ₁:=⟨aS "row" (.obj (rj i)) l,H⟩) (x.k _ _ hRB hRN hRV) (.inl rfl) (bg (bj n) rfl) e1 (e2 pp)
end
theorem nL{lk:Str→Option Nat}{g:Nat→Addr}(hlk:∀x j,lk x=some j→env.cells.lookup x=some (g j)):∀(names:List (Str×NameKind))(acc:List (Str×Nat)),(∀x∈names,x.2=.free→(lk x.1).isSome=true)→
  (forIn names (acc.map λp=>(p.1,g p.2)) (λx cs=>(if x.2==NameKind.free then do let a←cellOf env x.1;pure (.yield ((x.1,a)::cs))else pure (.yield cs):Sem (ForInStep (List (Str×Addr))))):Sem (List (Str×Addr)))=pure ((names.foldl (λcs x=>if x.2==NameKind.free then(x.1,(lk x.1).getD 0)::cs else cs) acc).map λp=>(p.1,g p.2)):=by
 intro names
 induction names with
 |nil=>intro acc _;rw[YA];rfl
 |cons x names ih=>
  intro acc h
  rw[List.forIn_cons,Zv]
  by_cases q:x.2=.free
  ·refine bp (Option.isSome_iff_exists.mp (h x (.head _) q)) λj hj=>?_
   have e:(x.2==NameKind.free)=true:=by simpa using q
   rw[if_pos e,if_pos e]
   have z:=ih ((x.1,j)::acc) λy hy=>h y (.tail _ hy)
   have cf:cellOf env x.1=pure (g j):=by unfold cellOf;rw[hlk _ _ hj]
   rw[cf,hj]
   exact z
  ·have e:¬(x.2==NameKind.free)=true:=by simpa using q
   rw[if_neg e,if_neg e]
   exact ih acc λy hy=>h y (.tail _ hy)
noncomputable def aC(F:Fs)(names:List (Str×NameKind)):List (Str×Nat):=names.foldl (λcs x=>if x.2==NameKind.free then(x.1,(F.cells.lookup x.1).getD 0)::cs else cs) []
noncomputable def aZ(F:Fs)(sc:Scope):Scope:={sc with names:=sc.names.map λx=>if(x.2== .free&&F.scope.kind== .function&&F.scope.names.lookup x.1==some .cell)=true then(x.1,.cell)else(x.1,x.2)}
theorem oi{l:List (Str×Nat)}(h:l.lookup x=some j):(x,j)∈l:=PySem.mem_of_lookup h
theorem dU(h1:∀x∈sc.names,x.2=.free→(F.cells.lookup x.1).isSome=true)(h2:(sc.names.all λx=>x.2 != .cell)=true)(hk:sc.kind=.function)(h3:((aZ F sc).names.lookup (".0":Str) != none&&sc.names.all λx=>x.2 != .local||(aZ F sc).names.lookup x.1==some .local)=true):cz F sc (aZ F sc) (aC F sc.names):=by
 rw[Z3]at h3
 refine aO h3 λh0 h3=>?_
 refine⟨λenv g he=>?_,λenv he=>?_,λp hp=>?_,hk,λx hx hl=>?_,jn h2,by simpa using h0⟩
 ·have z:=nL (env:=env) (lk:= λx=>F.cells.lookup x) (g:=g) (λx j hj=>by rw[he];exact iv hj) sc.names [] h1
  unfold closureFor
  show((forIn sc.names (([]:List (Str×Nat)).map λp=>(p.1,g p.2)) (λx cs=>(if x.2==NameKind.free then do let a←cellOf env x.1;pure (.yield ((x.1,a)::cs))else pure (.yield cs):Sem (ForInStep (List (Str×Addr))))):Sem (List (Str×Addr))) >>= λs=>pure s)=_
  rw[z]
  rfl
 ·unfold fq aZ Env.kindOf
  rw[he]
 ·have go:∀(names:List (Str×NameKind))(acc:List (Str×Nat)),(∀x∈names,x.2=.free→(F.cells.lookup x.1).isSome=true)→(∀q∈acc,q∈F.cells)→∀q∈names.foldl (λcs x=>if x.2==NameKind.free then(x.1,(F.cells.lookup x.1).getD 0)::cs else cs) acc,q∈F.cells:=by
   intro names
   induction names with
   |nil=>intro acc _ h;exact h
   |cons x names ih=>
    intro acc hf h
    rw[Zv]
    by_cases q:x.2=.free
    ·refine bp (Option.isSome_iff_exists.mp (hf x (.head _) q)) λj hj=>?_
     rw[if_pos (by simpa using q),hj]
     refine ih _ (λy hy=>hf y (.tail _ hy)) λq hq=>?_
     rcases ZI.mp hq with rfl|hq
     ·exact oi hj
     ·exact h q hq
    ·rw[if_neg (by simpa using q)]
     exact ih _ (λy hy=>hf y (.tail _ hy)) h
  exact go sc.names [] h1 (λq hq=>by cases hq) p hp
 ·have:=ZG.mp h3 x hx
  rw[hl]at this
  simpa using this
noncomputable def qk(p8 p9 p10:Pos):Expr:=.Call (.Name "_law_needs" p8) [.Name "new" p9] [] p10
noncomputable def yP(p11 p12 p13 p14 p15 p16 p17:Pos):Expr:=.BoolOp .And [.Compare (.Name "one" p11) [.Eq] [.Name "name" p12] p13,.Compare (.Name "need" p14) [.In] [.Name "anew" p15] p16] p17
theorem BN(kz:∀(sc:Scope)(p1 p2 p3 p4 p5 p6 p7 p8 p9 p10 p11 p12 p13 p14 p15 p16 p17 p18 p19 p20 p21 p22 p23 p24 p25 p26 p27:Pos)(kd:Nat),(ow=[.If (.BoolOp .Or [.Compare (.Name "name" p1) [.In] [.Name "changed" p2] p3,.Compare (.ListComp (.Name "need" p4) [⟨.Tuple [.Name "one" p5,.Name "need" p6] kd p7,qk p8 p9 p10,[yP p11 p12 p13 p14 p15 p16 p17],0⟩] sc p18) [.NotEq] [.List [] p19] p20] p21) [.Expr (.Call (.Attribute (.Name "anew" p22) "append" p23) [.Name "name" p24] [] p25) p26] [] p27]∧
  (∀env,eval (.Call (.Attribute (.Name "anew" p22) "append" p23) [.Name "name" p24] [] p25) env=(do
   let ov←eval (.Name "anew" p22) env
   standAt p23.atName
   let(f,first)←holding [ov] (getMethod ov "append" (gD (.Name "anew" p22) env))
   callWith p25 f first (backTo p25 (starEach [.Name "name" p24] env)) []))∧
  (∀n,cz (bL n) sc (aZ (bL n) sc) (aC (bL n) sc.names))∧(∀n,(Fs.mk (aZ (bL n) sc) (aC (bL n) sc.names)).scope.kind=.function)∧
  (∀n,(aZ (bL n) sc).names.lookup ("one":Str)=some .local∧(aZ (bL n) sc).names.lookup ("need":Str)=some .local∧(aZ (bL n) sc).names.lookup ("name":Str)=some .cell∧(aZ (bL n) sc).names.lookup ("anew":Str)=some .cell∧
   (aC (bL n) sc.names).lookup ("name":Str)=some (n+0)∧(aC (bL n) sc.names).lookup ("anew":Str)=some (n+1)))→Gz):Gz:=by
 refine kz _ _ _ _ _ _ _ _ _ _ _ _ _ _ _ _ _ _ _ _ _ _ _ _ _ _ _ _ _ ⟨by k_dflt rfl,λ_=>rfl,λn=>dU ?_ (by w_on) (by w_on) (by w_on),λn=>by w_on,λn=>⟨by w_on,by w_on,by w_on,by w_on,by w_on,by w_on⟩⟩
 intro x hx hf
 have h:∀(names:List (Str×NameKind)),(names.all λx=>x.2 != .free||(((bL n).cells.lookup x.1).isSome))=true→∀x∈names,x.2=.free→((bL n).cells.lookup x.1).isSome=true:= λnames h x hx hf=>by
  have:=ZG.mp h x hx
  rw[hf]at this
  simpa using this
 exact h _ (by w_on) x hx hf
theorem iZ(P:Params):nsIn (Kx P) mainGlobals ("_law_needs":Str)=some (some (.ref 901)):=by w_on
theorem D5(P:Params):nsIn (Kx P) mainGlobals ("_law_read":Str)=some (some (.ref 896)):=by w_on
theorem Ia(P:Params):nsIn (Kx P) mainGlobals ("sorted_list_difference":Str)=some (some (.ref 51)):=by w_on
noncomputable def mK(sn:List (Str×Str))(an:List Nat)(i:Nat)(p:Str×Str):Bool:=p.1.cps.toList==(nm i).cps.toList&&(an.map nm).contains p.2
noncomputable def ud(ch:List Str)(sn:List (Str×Str))(an:List Nat)(i:Nat):List Nat:=if ch.contains (nm i)||!(sn.filter (mK sn an i)).isEmpty then an++[i]else an
noncomputable def AO.lt:AO→Bool
 | .list _=>true
 | .tuple _=>true
 |_=>false
structure mH(c:Cx)(n:Nat)(H0 H:List AO)(S D N R AN B:Nat)(po fi:Int)(ord:List Nat)(np:Nat→Int)(rd an:List Nat)(su:Nat→List Nat)(pi pd ps:Nat→Nat):Prop where
 d:DS c H S D N R po fi ord np rd su pi pd ps
 nc:∃v,H[n]?=some (.cell v)
 ac:H[n+1]?=some (.cell (some (.obj AN)))
 an:H[AN]?=some (.list (be an))
 na:∀i∈ord,AN≠ps i
 ra:R≠AN
 bR:B≤R
 bA:B≤AN
 k:∀(y:Nat)(o:AO),y<B→o.lt=true→H0[y]?=some o→H[y]?=some o
section
variable{R AN L1 CH:Nat}{rd an:List Nat}{ch:List Str}{rowsN:List (List Str)}
theorem DS.setO(d:DS c H S D N R po fi ord np rd su pi pd ps){y:Nat}{z:AO}(h1:y≠S)(h2:y≠D)(h3:y≠N)(h4:y≠R)(h5:∀i∈ord,y≠pi i∧y≠pd i∧y≠ps i):DS c (H.set y z) S D N R po fi ord np rd su pi pd ps:=
 ⟨⟨ak d.x.s (Ne.symm h1),ak d.x.d (Ne.symm h2)⟩,d.g.setO ⟨h3,h5⟩,ak d.r (Ne.symm h4),d.n⟩
theorem DS.ext(d:DS c H S D N R po fi ord np rd su pi pd ps)(e:bW H H'):DS c H' S D N R po fi ord np rd su pi pd ps:=
 ⟨⟨e _ _ d.x.s,e _ _ d.x.d⟩,d.g.ext e,e _ _ d.r,d.n⟩
theorem mH.ext(w:mH c n H0 H S D N R AN B po fi ord np rd an su pi pd ps)(e:bW H H'):mH c n H0 H' S D N R AN B po fi ord np rd an su pi pd ps:=
 ⟨w.d.ext e,let⟨v,h⟩:=w.nc;⟨v,e _ _ h⟩,e _ _ w.ac,e _ _ w.an,w.na,w.ra,w.bR,w.bA,λy o a t b=>e _ _ (w.k y o a t b)⟩
theorem mH.nam(w:mH c n H0 H S D N R AN B po fi ord np rd an su pi pd ps)(v:Option AV):mH c n H0 (H.set n (.cell v)) S D N R AN B po fi ord np rd an su pi pd ps:=by
 refine bp (w.nc) λv0 hc=>?_
 have d:=w.d
 have ne:∀{y:Nat}{o:AO},H[y]?=some o→(∀v,o≠.cell v)→n≠y:= λ{y o} h hn q=>by rw[←q,hc]at h;cases h;exact hn _ rfl
 have nN:n≠N:=by refine bp (d.g.n.is) λP hP=>?_;exact ne hP (by intro v h;cases h)
 refine⟨d.setO (ne d.x.s (by intro v h;cases h)) (ne d.x.d (by intro v h;cases h)) nN (ne d.r (by intro v h;cases h)) λi hi=>⟨ne (d.g.i i hi) (by intro v h;cases h),ne (d.g.d i hi) (by intro v h;cases h),ne (d.g.s i hi) (by intro v h;cases h)⟩,⟨v,bH (aq hc)⟩,ak w.ac (by lia),ak w.an (Ne.symm (ne w.an (by intro v h;cases h))),w.na,w.ra,w.bR,w.bA,λy o a t b=>?_⟩
 have z:=w.k y o a t b
 exact ak z (Ne.symm (ne z (by rintro v rfl;cases t)))
theorem mH.app(w:mH c n H0 H S D N R AN B po fi ord np rd an su pi pd ps)(an':List Nat):mH c n H0 (H.set AN (.list (be an'))) S D N R AN B po fi ord np rd an' su pi pd ps:=by
 have hA:=w.an
 have d:=w.d
 have ne:∀{y:Nat}{o:AO},H[y]?=some o→(∀v,o≠.list v)→AN≠y:= λ{y o} h hn q=>by rw[←q,hA]at h;cases h;exact hn _ rfl
 have nN:AN≠N:=by refine bp (d.g.n.is) λP hP=>?_;exact ne hP (by intro v h;cases h)
 refine bp (w.nc) λv0 hc=>?_
 refine⟨d.setO (ne d.x.s (by intro v h;cases h)) (ne d.x.d (by intro v h;cases h)) nN (Ne.symm w.ra) λi hi=>⟨ne (d.g.i i hi) (by intro v h;cases h),ne (d.g.d i hi) (by intro v h;cases h),w.na i hi⟩,⟨v0,ak hc (Ne.symm (ne hc (by intro v h;cases h)))⟩,ak w.ac (Ne.symm (ne w.ac (by intro v h;cases h))),bH (aq hA),w.na,w.ra,w.bR,w.bA,λy o a t b=>?_⟩
 exact ak (w.k y o a t b) (by have:=w.bA;lia)
structure LW(l:List (Str×AV))(S L1 CH:Nat):Prop where
 s:l.lookup ("sorter":Str)=some (.obj S)
 n:l.lookup ("new":Str)=some (.obj L1)
 c:l.lookup ("changed":Str)=some (.obj CH)
noncomputable def iK(c:Cx)(H0:List AO)(B L1:Nat)(rowsN:List (List Str))(sn:List (Str×Str)):Prop:=
 (∃js:List Nat,L1<B∧H0[L1]?=some (.list (js.map .obj))∧js.length=rowsN.length∧∀(i j:Nat)(r:List Str),js[i]?=some j→rowsN[i]?=some r→j<B∧H0[j]?=some (AO.list (r.map .str)))∧(∀r∈rowsN,r≠[]∧r.length<500)∧rowsN.length<900∧(bT rowsN).length<64∧fg (bT rowsN) sn∧sn.length<64
theorem iK.rws(h:iK c H0 B L1 rowsN sn)(w:mH c n H0 H S D N R AN B po fi ord np rd an su pi pd ps):oJ H L1 rowsN:=by
 refine aO h λz0 _=>cv z0 λjs h1 h2 h3 h4=>?_
 exact bO js (w.k _ _ h1 rfl h2) h3 λi j r a b=>w.k _ _ (h4 i j r a b).1 rfl (h4 i j r a b).2
theorem DT(G:c.Go)(L:LW l S L1 CH)(w:mH c n H0 H S D N R AN B po fi ord np rd an su pi pd ps)(hn:H[n]?=some (.cell (some (.str (nm i)))))(hCH:CH<B∧H0[CH]?=some (.list (ch.map .str)))(nok:iK c H0 B L1 rowsN sn)(hl:an.length<900):
  ∃H',dq c (bL n) (k+101) ow ⟨l,H⟩ .next ⟨l,H'⟩∧mH c n H0 H' S D N R AN B po fi ord np rd (ud ch sn an i) su pi pd ps∧∀(y:Nat)(o:AO),y≠AN→H[y]?=some o→H'[y]?=some o:=by
 refine br λGz kz=>?_
 refine BN λsc p1 p2 p3 p4 p5 p6 p7 p8 p9 p10 p11 p12 p13 p14 p15 p16 p17 p18 p19 p20 p21 p22 p23 p24 p25 p26 p27 kd hz_=>?_
 refine uO hz_ λhb he hsc hki hnm=>?_
 refine mY (hnm n) λk1 k2 k3 k4 k5 k6=>?_
 refine kz ?_
 have chH:=w.k _ _ hCH.1 rfl hCH.2
 have e1:Ev c (bL n) (k+101) (.Name "name" p1) ⟨l,H⟩ (.str (nm i)) ⟨l,H⟩:=dK (bj n) (by w_on) (by w_on:(bL n).cells.lookup ("name":Str)=some (n+0)) hn (by decide)
 have t1:∀{t:Bool},ch.contains (nm i)=t→Te c (bL n) (k+101) (.Compare (.Name "name" p1) [.In] [.Name "changed" p2] p3) ⟨l,H⟩ t ⟨l,H⟩:= λht=>av rfl e1 (aa (bj n) rfl L.c) (lH chH ht)
 have app:∀{H:List AO},mH c n H0 H S D N R AN B po fi ord np rd an su pi pd ps→H[n]?=some (.cell (some (.str (nm i))))→dq c (bL n) (k+101) [.Expr (.Call (.Attribute (.Name "anew" p22) "append" p23) [.Name "name" p24] [] p25) p26] ⟨l,H⟩ .next ⟨l,H.set AN (.list (be (an++[i])))⟩:= λ{H} w hn=>by
  have oa:cJ c (bL n) (k+101) (λxs=>call (.builtin "list.append") xs) [.obj AN,.str (nm i)] ⟨l,H⟩ .none ⟨l,H.set AN (.list (be (an++[i])))⟩:=by
   have z:=eN (c:=c) (F:=bL n) (k:=k+101) (σ:=⟨l,H⟩) (v:=.str (nm i)) w.an (by simp[be];lia)
   rw[show be (an++[i])=be an++[.str (nm i)]by simp[be]]
   exact z
  exact aU (ck (F:=bL n) (v:=.none) (qn n) (λ_=>rfl) (d6 he (dK (bj n) (by w_on) (by w_on:(bL n).cells.lookup ("anew":Str)=some (n+1)) w.ac (by decide)) (dk slot_list_append type_list_append w.an) (af λ_=>rfl) (am (λ_=>rfl) (dK (bj n) (by w_on) (by w_on:(bL n).cells.lookup ("name":Str)=some (n+0)) hn (by decide)) au) oa))
 rw[hb]
 cases hc:ch.contains (nm i)with
 |true=>
  have ea:ud ch sn an i=an++[i]:=by unfold ud;rw[hc];rfl
  rw[ea]
  exact bO _ (aU (aL (t:=true) (gA (t1 hc)) (app w hn))) (w.app _) λy o a h=>ak h a
 |false=>
  have rows:=nok.rws w
  refine br λGz kz=>?_
  refine mY nok λ_ b1 b2 b3 b4 b5=>?_
  refine cT (jh (k:=k) G rows b1 b2 b3 b4) λN2 H2 f2 z0 ex2 _=>aj z0 λjs g1 g2=>?_
  have w2:=w.ext ex2
  let F2:Fs:=⟨aZ (bL n) sc,aC (bL n) sc.names⟩
  refine bp (nq (F:=F2) (k:=k+101) (gens:=[⟨.Tuple [.Name "one" p5,.Name "need" p6] kd p7,qk p8 p9 p10,[yP p11 p12 p13 p14 p15 p16 p17],0⟩]) (sc:=sc) (pos:=p18) (elt:=.Name "need" p4) (φ:=mK sn an i) (el:= λp=>p.2) G (hki n) (by lia) k1 k2 (by decide) rfl g1 g2 (by lia) (λp l done hx hy=>by
   have nH:=w2.nc
   have n2:=ex2 _ _ hn
   refine⟨?_,aa (hki n) k2 hy⟩
   have c1:∀{t:Bool},(p.1.cps.toList==(nm i).cps.toList)=t→Te c F2 (k+101) (.Compare (.Name "one" p11) [.Eq] [.Name "name" p12] p13) ⟨l,H2++[AO.list done]⟩ t ⟨l,H2++[AO.list done]⟩:= λht=>av rfl (aa (hki n) k1 hx) (dK (hki n) k3 k5 (aB n2) (by decide)) (ek ht)
   have c2:∀{t:Bool},(an.map nm).contains p.2=t→Te c F2 (k+101) (.Compare (.Name "need" p14) [.In] [.Name "anew" p15] p16) ⟨l,H2++[AO.list done]⟩ t ⟨l,H2++[AO.list done]⟩:= λht=>av rfl (aa (hki n) k2 hy) (dK (hki n) k4 k6 (aB w2.ac) (by decide)) (lH (ys:=an.map nm) (aB (by rw[w2.an];simp[be])) ht)
   show Te c F2 (k+101) (yP p11 p12 p13 p14 p15 p16 p17) _ (mK sn an i p) _
   unfold yP mK
   cases h1:(p.1.cps.toList==(nm i).cps.toList)with
   |false=>exact bI (c1 h1)
   |true=>
    cases h2:(an.map nm).contains p.2 with
    |false=>exact bu (c1 h1) (bI (c2 h2))
    |true=>exact bu (c1 h1) (bu (c2 h2) iq)) sn 0 [] [] rfl (ZA _) (Zl _)) λl' cl=>?_
  refine bb (H2++[AO.list ([]++(sn.filter (mK sn an i)).map λp=>.str p.2)]) λH3 e3=>?_
  rw[←e3]at cl
  have ex3:bW H2 H3:= λy o h=>by rw[e3];exact aB h
  refine bb (H3++[AO.list []]) λH4 e4=>?_
  refine kz ?_
  have ex4:bW H3 H4:= λy o h=>by rw[e4];exact aB h
  have w4:=(w2.ext ex3).ext ex4
  have n4:=ex4 _ _ (ex3 _ _ (ex2 _ _ hn))
  have lc:=fZ (F:=bL n) (k:=k+101) (σ:=⟨l,H⟩) (σ₁:=⟨l,H2⟩) (I:=aR N2 (js.map .obj)) (loc':=l') (H':=H3) (a:=.obj N2) (rest:=[]) (ifs:=[yP p11 p12 p13 p14 p15 p16 p17]) (target:=.Tuple [.Name "one" p5,.Name "need" p6] kd p7) (iter:=qk p8 p9 p10) (elt:=.Name "need" p4) (pos:=p18) G.ok az (hsc n) (λ_ _=>rfl)
   (jU (σ₂:=⟨l,H⟩) G (hH _) (λ_=>rfl) (dp G (bj n) rfl (iZ _)) (af λ_=>rfl) (am (λ_=>rfl) (aa (bj n) rfl L.n) au) f2)
   (dZ g1) g1 (by rw[e3];simp) @cl
  have el:Ev c (bL n) (k+101) (.List [] p19) ⟨l,H3⟩ (.obj H3.length) ⟨l,H4⟩:=by
   have z:=dM (c:=c) (F:=bL n) (k:=k+101) (pos:=p19) (σ₁:=⟨l,H3⟩) (vs:=[]) (by decide) au
   rw[e4];exact z
  have t2:∀{t:Bool},(!(sn.filter (mK sn an i)).isEmpty)=t→Te c (bL n) (k+101) (.Compare (.ListComp (.Name "need" p4) [⟨.Tuple [.Name "one" p5,.Name "need" p6] kd p7,qk p8 p9 p10,[yP p11 p12 p13 p14 p15 p16 p17],0⟩] sc p18) [.NotEq] [.List [] p19] p20) ⟨l,H⟩ t ⟨l,H4⟩:= λ{t} ht=>
   av rfl lc el (rY (vs:=[]++(sn.filter (mK sn an i)).map λp=>.str p.2) (by show H4[H2.length]?=_;rw[e4,e3];exact aB aP) (by show H4[H3.length]?=_;rw[e4];exact aP) (by rw[←ht];cases sn.filter (mK sn an i)<;>rfl))
  cases hh:(!(sn.filter (mK sn an i)).isEmpty)with
  |true=>
   have ea:ud ch sn an i=an++[i]:=by unfold ud;rw[hc,hh];rfl
   rw[ea]
   exact bO _ (aU (aL (t:=true) (d9 (t1 hc) (gA (t2 hh))) (app w4 n4))) (w4.app _) λy o a h=>ak (ex4 _ _ (ex3 _ _ (ex2 _ _ h))) a
  |false=>
   have ea:ud ch sn an i=an:=by unfold ud;rw[hc,hh];rfl
   rw[ea]
   exact bO H4 (aU (aL (t:=false) (d9 (t1 hc) (d9 (t2 hh) jk)) ar)) w4 λy o a h=>ex4 _ _ (ex3 _ _ (ex2 _ _ h))
end
inductive kx(su:Nat→List Nat)(ord:List Nat)(ch:List Str)(sn:List (Str×Str)):(Nat→Int)→List Nat→List Nat→List Nat→Prop
 |stop (np:Nat→Int) (an:List Nat):kx su ord ch sn np [] an an
 |go {np:Nat→Int} {rd an r:List Nat} (h1:rd≠[]) (h2:pQ su (mG np rd,[]) rd) (h3:rd.length≤5) (h4:∀i∈rd,i∈ord) (h5:an.length+rd.length<100) (h6:(jS su (mG np rd,[]) rd).2.length<100)
   (h:kx su ord ch sn (jS su (mG np rd,[]) rd).1 (jS su (mG np rd,[]) rd).2 (rd.foldl (ud ch sn) an) r):kx su ord ch sn np rd an r
section
variable{R AN L1 CH:Nat}{rd an:List Nat}{ch:List Str}{rowsN:List (List Str)}
theorem Et(ch:List Str)(sn:List (Str×Str))(an:List Nat)(i:Nat):(ud ch sn an i).length≤an.length+1:=by
 unfold ud
 split<;>simp
theorem BS(G:c.Go)(hCH:CH<B∧H0[CH]?=some (.list (ch.map .str)))(nok:iK c H0 B L1 rowsN sn):∀(rest:List Nat){l:List (Str×AV)}{H:List AO}{an:List Nat},LW l S L1 CH→mH c n H0 H S D N R AN B po fi ord np rd an su pi pd ps→H[T]?=some (.tuple vs)→an.length+rest.length<900→
  ∃H',(∀pp:Pos,fm c (bL n) (k+101) (fK T vs) (.Name "name" pp) ow (be rest) ⟨l,H⟩ .next ⟨l,H'⟩)∧mH c n H0 H' S D N R AN B po fi ord np rd (rest.foldl (ud ch sn) an) su pi pd ps∧H'[T]?=some (.tuple vs):=by
 intro rest
 induction rest with
 |nil=>
  intro l H an L w hT _
  exact bO H (λ_=>.nil hT) w hT
 |cons i rest ih=>
  intro l H an L w hT hl
  refine br λGz kz=>?_
  refine bp (w.nc) λv0 hc=>?_
  have Tn:T≠n:= λq=>by rw[q,hc]at hT;cases hT
  have w1:=w.nam (some (.str (nm i)))
  have hn1:(H.set n (.cell (some (.str (nm i)))))[n]?=some (.cell (some (.str (nm i)))):=bH (aq hc)
  have hT1:(H.set n (.cell (some (.str (nm i)))))[T]?=some (.tuple vs):=ak hT Tn
  have TA:T≠AN:= λq=>by rw[q,w.an]at hT;cases hT
  refine bz (DT (k:=k) G L w1 hn1 hCH nok (by lia)) λH1 e1 w2 k2=>?_
  have hT2:=k2 _ _ TA hT1
  refine bz (ih L w2 hT2 (by have:=Et ch sn an i;simp at hl ⊢;lia)) λH2 e2 w3 hT3=>?_
  refine kz ?_
  refine bO H2 ?_ w3 hT3
  generalize ow=bdy at e1 e2 ⊢
  exact λpp=>fm.next (a:=.str (nm i)) (rest:=be rest) (σ₁:=⟨l,H.set n (.cell (some (.str (nm i))))⟩) hT (.inl rfl) (wi (bj n) (by w_on) (by w_on:(bL n).cells.lookup ("name":Str)=some (n+0)) hc) e1 (e2 pp)
theorem mH.keepG(w:mH c n H0 H S D N R AN B po fi ord np rd an su pi pd ps)(kg:tz D R ord pi H H'){po' fi':Int}{np':Nat→Int}{rd':List Nat}(d':DS c H' S D N R po' fi' ord np' rd' su pi pd ps):mH c n H0 H' S D N R AN B po' fi' ord np' rd' an su pi pd ps:=by
 have d:=w.d
 have up:∀{y:Nat}{o:AO},H[y]?=some o→o.pl=true→(∀es,o≠.dict es)→H'[y]?=some o:= λ{y o} h hp hd=>by
  refine kg y o h (λq=>?_) (λq=>?_) λi hi q=>?_
  ·rw[q,d.x.d]at h;cases h;exact hd _ rfl
  ·rw[q,d.r]at h;cases h;cases hp
  ·rw[q,d.g.i i hi]at h;cases h;cases hp
 have upl:∀{y:Nat}{vs:List AV},H[y]?=some (.list vs)→y≠R→H'[y]?=some (.list vs):= λ{y vs} h hr=>by
  refine kg y _ h (λq=>?_) hr λi hi q=>?_
  ·rw[q,d.x.d]at h;cases h
  ·rw[q,d.g.i i hi]at h;cases h
 refine bp (w.nc) λv hc=>?_
 refine⟨d',⟨v,up hc rfl (by intro es h;cases h)⟩,up w.ac rfl (by intro es h;cases h),upl w.an (Ne.symm w.ra),w.na,w.ra,w.bR,w.bA,λy o a t b=>?_⟩
 have z:=w.k y o a t b
 refine kg y o z (λq=>?_) (by have:=w.bR;lia) λi hi q=>?_
 ·rw[q,d.x.d]at z;cases z;cases t
 ·rw[q,d.g.i i hi]at z;cases z;cases t
theorem Bn(G:c.Go)(hCH:CH<B∧H0[CH]?=some (.list (ch.map .str)))(nok:iK c H0 B L1 rowsN sn)(hsu:∀i∈ord,∀j∈su i,j∈ord)(hz:∀i,(su i).length≤100)(L:LW l S L1 CH)(w:mH c n H0 H S D N R AN B po fi ord np rd an su pi pd ps)
  (h2:pQ su (mG np rd,[]) rd)(h3:rd.length≤5)(h4:∀i∈rd,i∈ord)(h5:an.length+rd.length<100):
  ∃l' H',dq c (bL n) (k+101) wX ⟨l,H⟩ .next ⟨l',H'⟩∧(∀y:Str,y≠"ready"→l'.lookup y=l.lookup y)∧mH c n H0 H' S D N R AN B (po+rd.length) (fi+rd.length) ord (jS su (mG np rd,[]) rd).1 (jS su (mG np rd,[]) rd).2 (rd.foldl (ud ch sn) an) su pi pd ps:=by
 refine br λGz kz=>?_
 obtain⟨H1,T,f1,hT,hTl,x1,g1,r1,kg1⟩:=IJ (k:=k) G w.d.x w.d.g w.d.r w.d.n h4 h3
 have w1:mH c n H0 H1 S D N R AN B (po+rd.length) fi ord (mG np rd) [] an su pi pd ps:=w.keepG kg1 ⟨x1,g1,r1,w.d.n⟩
 let l1:List (Str×AV):=aS ("ready":Str) (.obj T) l
 have L1':LW l1 S L1 CH:=⟨dQ L.s,dQ L.n,dQ L.c⟩
 have rT:l1.lookup ("ready":Str)=some (.obj T):=ah _ _ _
 refine bz (BS (k:=k) G hCH nok rd L1' w1 hT (by lia)) λH2 lp w2 hT2=>?_
 refine bb (H2++[AO.meth (.ref 150) (.obj S)]) λHm em=>?_
 have exm:bW H2 Hm:= λy o h=>by rw[em];exact aB h
 have wm:=w2.ext exm
 refine bz (Dx (k:=k) G wm.d hsu hz h4 h2 h3 (by simp)) λH3 f3 d3 kg3=>?_
 refine kz ?_
 have w3:=wm.keepG kg3 d3
 refine fk l1 H3 ?_ (λy hy=>bV _ _ _ hy _) w3
 have fr:∀{p1 p2 p3:Pos},Ex c (bL n) (k+101) (.For (.Name "name" p1) (.Name "ready" p2) ow [] p3) ⟨l1,H1⟩ .next ⟨l1,H2⟩:= λ{p1 p2 p3}=>by
  have lp1:=lp p1
  generalize ow=bdy at lp1 ⊢
  exact gr (I:=fK T (be rd)) G.ok fX (λ_ _=>rfl) (λ_ _=>rfl) (by lia) (aa (bj n) rfl rT) (lh hT) lp1
 have hme:Hm[H2.length]?=some (.meth (.ref 150) (.obj S)):=by rw[em];exact aP
 have hTm:=exm _ _ hT2
 rw[em]at hTm hme f3
 generalize eb:ow=bdy at fr
 k_dflt refine' ae (aw (σ₁:=⟨l,H1⟩) (bj n) rfl (λ_=>rfl) (gw (σ₁:=⟨l,H⟩) (σ₂:=⟨l,H⟩) G (ES _) (eE _) (λ_=>rfl) (aa (bj n) rfl L.s) w.d.x.s w.d.x.d rfl (IH _) aV au f1)) (ae ?_ (aU (ck (F:=bL n) (v:=.none) (qn n) (λ_=>rfl) (AT (σ₁:=⟨l1,H2⟩) (σ₂:=⟨l1,H2++[AO.meth (.ref 150) (.obj S)]⟩) (i:=S) (d:=D) G (vP _) (eE _) (Iw _) (by decide) (λ_=>rfl) (aa (bj n) rfl L1'.s) w2.d.x.s w2.d.x.d rfl (CM _) (λ_=>AM (aa (bj n) rfl rT) (.inr hTm) (by simp[be];lia)) hme f3))))
 subst eb
 exact fr
theorem AP(G:c.Go)(hCH:CH<B∧H0[CH]?=some (.list (ch.map .str)))(nok:iK c H0 B L1 rowsN sn)(hsu:∀i∈ord,∀j∈su i,j∈ord)(hz:∀i,(su i).length≤100){r:List Nat}(rn:kx su ord ch sn np rd an r):
  ∀{l:List (Str×AV)}{H:List AO}{po:Int},LW l S L1 CH→rd.length<100→mH c n H0 H S D N R AN B po po ord np rd an su pi pd ps→
  ∃l' H' po',Wh c (bL n) (k+101) (vD gm 8) wX [] ⟨l,H⟩ .next ⟨l',H'⟩∧(∀y:Str,y≠"ready"→l'.lookup y=l.lookup y)∧∃np',mH c n H0 H' S D N R AN B po' po' ord np' [] r su pi pd ps:=by
 have tst:∀{l:List (Str×AV)}{H:List AO}{po:Int}{np:Nat→Int}{rd an:List Nat}{t:Bool},LW l S L1 CH→rd.length<100→mH c n H0 H S D N R AN B po po ord np rd an su pi pd ps→(!rd.isEmpty)=t→Te c (bL n) (k+101) (vD gm 8) ⟨l,H⟩ t ⟨l,H⟩:= λ{l H po np rd an t} L hl w ht=>by
  have f:=FU (k:=k+100) G w.d.x w.d.r (by simp[be];lia)
  have e:(decide (po<po)||!(be rd).isEmpty)=t:=by rw[←ht];simp[be]
  rw[e]at f
  k_dflt refine' bP (λ_ _=>rfl) (gw (σ₁:=⟨l,H⟩) (σ₂:=⟨l,H⟩) G (Au _) (eE _) (λ_=>rfl) (aa (bj n) rfl L.s) w.d.x.s w.d.x.d rfl (GC _) aV au f) bG
 induction rn with
 |stop np an=>
  intro l H po L hl w
  exact tX l H po (ig (tst (t:=false) L hl w rfl) ar) (λ_ _=>rfl) np w
 | @go np rd an r h1 h2 h3 h4 h5 h6 h ih=>
  intro l H po L hl w
  refine br λGz kz=>?_
  refine ct (Bn (k:=k) G hCH nok hsu hz L w h2 h3 h4 h5) λl1 H1 e1 k1 w1=>?_
  have L1':LW l1 S L1 CH:=⟨(k1 _ (by decide)).trans L.s,(k1 _ (by decide)).trans L.n,(k1 _ (by decide)).trans L.c⟩
  obtain⟨l2,H2,po2,e2,k2,np2,w2⟩:=ih L1' h6 w1
  refine kz ?_
  refine tX l2 H2 po2 (jA (.inl rfl) (tst (t:=true) L hl w ?_) e1 e2) (λy hy=>(k2 y hy).trans (k1 y hy)) np2 w2
  cases rd with
  |nil=>exact absurd rfl h1
  |cons _ _=>rfl
end
theorem ym{scope:Scope}{newAcc first:Sem Value}{g:Comprehension}{gs:List Comprehension}{u:Value→Sem Unit}{cl:List (Str×Addr)}(hclo:closureFor scope env=pure cl)
  (hcl:clausesOf e=g::gs)(hs:∀x,foldedSetIterable g.iter env x=pure x)(hkind:scope.kind=.function)(hnames:∀x∈scope.names,x.2=.local→(fq scope env).names.lookup x.1=some .local)
  (h:wpAny M A first (λx s₁=>wpAny M A (pyIter x) (λit s₂=>wpAny M A newAcc (λacc s₃=>
   wpAny M A (newFunctionEnv scope env.globals cl [] env.qual none .none (some env)) (λcenv s₄=>
    codeAny M A (.compStart e 0 it acc {cenv with scope:=fq scope env}) (λr s'=>r=.ok .next∧wpAny M A (u acc) (λ_ s''=>∃m,s''.heap.Ns cenv.locals m∧∀h' m',h'.Ns cenv.locals m'→Heap.SameBut cenv.locals s''.heap h'→Q .none {s'' with heap:=h'}) E s') s₄) E s₃) E s₂) E s₁) E s):
  wpAny M A (comprehension e scope env pos newAcc false first (some u)) Q E s:=by
 unfold comprehension
 rw[hclo,hcl]
 refine YC (YE h (λx s₁ h₁=>YC (YG (YC (wpAny_of_eq (hs x) (YC (YF (YE h₁ (λit s₂ h₂=>
  wpAny_standIf (YC (YE h₂ (λacc s₃ h₃=>YC (YD (YC (YE h₃ (λcenv s₄ h₄=>?_) λ_ _ h'=>h')))) λ_ _ h'=>h')))
   λ_ _ h'=>h'))))))) λ_ _ h'=>h')
 dsimp only
 have hv:∀x∈(scope.names.filter λx=>(x.2== .local||x.2== .cell)&&x.1 != (".0":Str)).reverse.drop 1++(scope.names.filter λx=>(x.2== .local||x.2== .cell)&&x.1 != (".0":Str)).reverse.take 1,x.2=.local→
   Env.kindOf {cenv with scope:=fq scope env} x.1=some .local:= λx hx hl=>hnames x (ZQ.mp (List.mem_reverse.mp (by
   rcases ZT.mp hx with h|h
   ·exact List.mem_of_mem_drop h
   ·exact List.mem_of_mem_take h))).1 hl
 refine YF (YC (wpAny_attempt (YF (wpAny_run (codeAny_mono h₄ λr s' hr=>?_)))))
 refine aO hr ?_;clear hr;intro z0 hr;subst z0
 refine YC (wpAny_rule ?_)
 refine YC (YF (YE hr (λ_ s'' z=>?_) λ_ _ z=>z))
 refine aj z λm hn hq=>?_
 exact YC (wpAny_comp_letGo (cenv:={cenv with scope:=fq scope env}) hkind _ s'' m hv hn λh' m' hn' hs'=>YD (hq h' m' hn' hs'))
theorem aW.otherD{L:Addr}(r:aW c A F ρ σ s env)(ap:∀i,i<σ.H.length→ρ i≠L)(up:c.h₁.get? L=none)(ne:env.locals≠L)(hd:∃o es ep,h'.get? L=some o∧o.data=.dict es ep)(hk:∀b ob,s.heap.get? b=some ob→b≠L→h'.get? b=some ob):aW c A F ρ σ {s with heap:=h',toks:=tk} env:=by
 have nb:∀b ob,c.h₁.get? b=some ob→b≠L:= λb ob e=>by rintro rfl;rw[up]at e;cases e
 refine⟨⟨λi ao e=>?_,r.hr.inj,r.hr.up,λb ob e t=>hk b ob (r.hr.base b ob e t) (nb b ob e),λob e=>?_⟩,r.sc,r.gl,r.bl,r.ce,r.ci,?_,r.ap,r.lf,r.ge,r.sk.same rfl λb ob es ep g1 g2 _ _=>?_,r.tp,r.fl⟩
 ·refine aj (r.hr.at_ i ao e) λob h1 h2=>?_
  exact al ob (hk _ _ h1 (ap i (aq e))) h2
 ·exact(r.hr.tj ob e).imp (λz=>hk _ _ z (nb _ _ e)) λ⟨z1,z2,vs,more,z3,z4⟩=>bS z1 z2 vs more z3 (hk _ _ z4 (nb _ _ e))
 ·refine br λGz kz=>?_
  refine aj (r.lo) λm hm hl=>?_
  refine dc hm λob es ep g1 g2=>?_
  refine kz ?_
  exact al m (bh ob es ep (hk _ _ g1 ne) g2) hl
 ·by_cases q:b=L
  ·subst q;exact hd
  ·exact bh ob es ep (hk b ob g1 q) g2
theorem oB{py spos:Pos}{rest:List Comprehension}{sc':Scope}{cl:List (Str×Nat)}{I:qc}(O:c.Ok)(hk:F.scope.kind=.function)(hy:F.scope.names.lookup y=some .local)
  (hsw:∀env:Env,env.scope=F.scope→swapsWith (.ListComp elt (⟨target,iter,ifs,0⟩::rest) sc pos) (some (.Name y py)) spos.line env=pure true)(G:I.Good c)(S:cz F sc sc' cl)(hs:∀env x,foldedSetIterable iter env x=pure x)
  (h1:Ev c F k iter σ a σ₁)(h2:Mk c I a σ₁)(ok:I.ok σ₁.H)(hlt:σ₁.H.length<H'.length)(h3:CL c ⟨sc',cl⟩ k elt (⟨target,iter,ifs,0⟩::rest) sc pos 0 I σ₁.H.length 0 ⟨[],σ₁.H++[.list []]⟩ ⟨loc',H'⟩):
  Ex c F k (.Assign [.Name y py] (.ListComp elt (⟨target,iter,ifs,0⟩::rest) sc pos) spos) σ .next ⟨aS y (.obj σ₁.H.length) σ₁.loc,H'⟩:= λA ρ s env Q E K r q=>by
 rw[exec_Assign_Name_used _ _ _ _ (hsw env r.sc)]
 refine YC (YG (YC ?_))
 show wpAny _ A (do let _←comprehension (.ListComp elt (⟨target,iter,ifs,0⟩::rest) sc pos) sc env _ (newList []) false (eval iter env) (some (assign (.Name y py) env))) _ _ s
 refine YC ?_
 refine ym (u:=assign (.Name y py) env) (Q:= λ_ s'=>wpAny c.M A (pure ()) (λ_ s'=>wpAny c.M A (pure Flow.next) Q E s') E s') (cl:=cl.map λp=>(p.1,ρ p.2)) (S.clo env ρ r.ce) rfl (hs env) S.kind (by rw[S.own env r.sc];exact S.names) ?_
 refine h1 A ρ s env _ E K r λρ1 s1 x r1 st1 vx=>h2 r1 vx λo t ho hf=>?_
 have fr1:=r1.newFree (o:=o) (G.nd _ _ _ ho)
 have r2:=r1.push o t
 have hp:=HP.of_push (o:=o) r1
 have g2:(s1.heap.push o).get? s1.heap.objs.size=some o:=ZN _ hf
 refine bb (({s1 with heap:=s1.heap.push o,toks:=t}:Shared)) λs2 es2=>?_
 rw[←es2]at r2 ⊢
 have g2':s2.heap.get? s1.heap.objs.size=some o:=by rw[es2];exact g2
 have st2:aM c ρ1 σ₁.H.length (· =env.locals) s1 ρ1 σ₁.H.length s2:=by rw[es2];exact hp.step t
 refine wpAny_newList ?_ (by decide)
 refine br λGz kz=>?_
 refine aO (r2.alloc (ao:=.list []) (ob:={cls:=.type "list",data:=.seq [].toArray}) s2.toks rfl (cH [] _ rfl .nil)) λr3 st3=>?_
 have e3:gj ρ1 σ₁.H.length s2.heap.objs.size σ₁.H.length=s2.heap.objs.size:=aF
 refine aO (fr1.step O (s:=s2) g2' st3) λfr3 g3=>?_
 have ho3:I.obj (gj ρ1 σ₁.H.length s2.heap.objs.size) 0 o:=G.ag ρ1 _ σ₁.H 0 o ok ho λj hj=>bc hj
 have ag3:∀j,j<σ.H.length→gj ρ1 σ₁.H.length s2.heap.objs.size j=ρ j:= λj hj=>(st1.trans (st2.trans st3)).ag j hj
 refine bb (({s2 with heap:=s2.heap.push {cls:=.type "list",data:=.seq [].toArray},toks:=s2.toks}:Shared)) λs3 es3=>?_
 refine kz ?_
 change wpAny _ _ _ _ _ ({s2 with heap:=s2.heap.push {cls:=.type "list",data:=.seq [].toArray},toks:=s2.toks}:Shared)
 rw[←es3]at r3 st3 g3 ⊢
 have l3:(σ₁.H++[AO.list []]).length=σ₁.H.length+1:=by simp
 have k12:∀b ob,s1.heap.get? b=some ob→s2.heap.get? b=some ob:= λb ob e=>by rw[es2];exact zH _ e
 have k23:∀b ob,s2.heap.get? b=some ob→s3.heap.get? b=some ob:= λb ob e=>by rw[es3];exact zH _ e
 have stA:∀L:Addr→Prop,aM c ρ1 σ₁.H.length L s1 (gj ρ1 σ₁.H.length s2.heap.objs.size) (σ₁.H++[AO.list []]).length s3:= λL=>by
  refine(cN k12 (by rw[es2])).trans ?_
  rw[l3,es3]
  exact cY _ _
 generalize gj ρ1 σ₁.H.length s2.heap.objs.size=ρ3 at*
 refine wpAny_newFunctionEnv S.nocell (λx hx=>nomatch hx) (λh' hns hsb=>?_) S.kind
 have k34:∀b ob,s3.heap.get? b=some ob→h'.get? b=some ob:= λb ob e=>hsb.extBut b ob (Z7 (ZB e)) (zH _ e)
 refine bb (({newEnv sc s3.heap.objs.size env.globals (cl.map λp=>(p.1,ρ p.2)) env.qual none .none (some env) builtinsNs with scope:=fq sc env}:Env)) λcenv ec=>?_
 have cl_l:cenv.locals=s3.heap.objs.size:=by rw[ec];rfl
 have r4:aW c A ⟨sc',cl⟩ ρ3 ⟨[],σ₁.H++[.list []]⟩ {s3 with heap:=h',toks:=s3.toks} cenv:=by
  refine⟨⟨λi ao e=>?_,r3.hr.inj,r3.hr.up,λb ob e t=>k34 _ _ (r3.hr.base b ob e t),λob e=>?_⟩,?_,?_,?_,?_,λp hp=>?_,⟨_,by rw[cl_l];exact hns,λx v hv=>nomatch hv⟩,λi hi=>?_,?_,r3.ge,r3.sk.same rfl λb ob es ep g1 g2 _ _=>⟨ob,es,ep,k34 _ _ g1,g2⟩,λz z2=>?_,λz=>absurd z S.dot⟩
  ·refine aj (r3.hr.at_ i ao e) λob z1 z2=>?_
   exact al ob (k34 _ _ z1) z2
  ·exact(r3.hr.tj ob e).imp (λz=>k34 _ _ z) λ⟨z1,z2,vs,more,z3,z4⟩=>bS z1 z2 vs more z3 (k34 _ _ z4)
  ·rw[ec];exact S.own env r.sc
  ·rw[ec];exact r.gl
  ·rw[ec];exact r.bl
  ·rw[ec]
   show(cl.map λp=>(p.1,ρ p.2))=cl.map λp=>(p.1,ρ3 p.2)
   exact ZO λp hp=>by rw[ag3 _ (r.ci p (S.sub p hp))]
  ·show p.2<(σ₁.H++[AO.list []]).length
   rw[l3];have:=r.ci p (S.sub p hp);have:=st1.le;lia
  ·rw[cl_l];exact(r3.newFree (o:=o) (G.nd _ _ _ ho)).ap i hi
  ·rw[cl_l];exact(r3.newFree (o:=o) (G.nd _ _ _ ho)).up
  ·rw[ec]at z2;cases z2
 have g4:h'.get? s1.heap.objs.size=some o:=k34 _ _ g3
 have fr4:fx c ρ3 (σ₁.H++[AO.list []]).length cenv s1.heap.objs.size o:=⟨fr3.ap,fr3.up,by rw[cl_l];exact Z7 (ZB g3),fr3.nd⟩
 have eg:({newEnv sc s3.heap.objs.size env.globals (cl.map λp=>(p.1,ρ p.2)) env.qual none .none (some env) builtinsNs with scope:=fq sc env}:Env)=cenv:=ec.symm
 rw[eg]
 have eS:Value.ref s2.heap.objs.size=Value.ref (ρ3 σ₁.H.length):=by rw[e3]
 rw[eS]
 refine iI (s:={s3 with heap:=h',toks:=s3.toks}) G g4 ho3 rfl ?_
 refine h3 (s₀:=s1) (ρ₀:=ρ1) (n₀:=σ₁.H.length) (e7 s1.heap) K r4 g4 ho3 fr4 ((stA _).trans (cN k34 rfl)) (by rw[l3];exact Zb _) λρ5 s5 r5 st5 e5=>⟨rfl,?_⟩
 have n1:s1.heap.get? cenv.locals=none:=by
  cases z:s1.heap.get? cenv.locals with
  |none=>rfl
  |some ob=>
   have:=ZB (k23 _ _ (k12 _ _ z))
   rw[cl_l]at this;exact absurd this (ZJ _)
 have st6:=st5.drop (h':=s5.heap) n1 (λb ob e _=>e)
 refine aO (r1.after (s':={s5 with heap:=s5.heap}) O r5.hr r5.ge st6) λr7 st7=>?_
 have ne:cenv.locals≠env.locals:= λq=>by
  refine br λGz kz=>?_
  refine aj (r1.lo) λm z0 _=>dc z0 λo es ep e1 _=>?_
  refine kz ?_
  rw[←q,n1]at e1;cases e1
 refine wpAny_assign_Name ?_
 refine aj (r7.lo) λm7 hm7 _=>?_
 refine wpAny_storeName_local (m:=m7) (by unfold Env.kindOf;rw[r.sc];exact hy) hm7 (λh' hn hs=>?_) (by rw[r.sc,hk];rfl)
 have vy:VR ρ5 H'.length (.obj σ₁.H.length) (.ref (ρ3 σ₁.H.length)):=⟨hlt,by rw[e5]⟩
 refine aO (r7.bind (x:=y) (h':=h') (tk:=s5.toks+1) vy (λm' hm'=>by
  have:m'=m7:=by
   obtain⟨o,es,ep,e1,d1,_,f1⟩:=hm7
   obtain⟨o2,es2,ep2,e2,d2,_,f2⟩:=hm'
   rw[e1]at e2;cases e2
   rw[d1]at d2;cases d2
   funext y;rw[←f1 y,←f2 y]
  subst this;exact hn) hs) λr8 st8=>?_
 refine aj (r5.lo) λm hm _=>?_
 refine al m (by rw[←cl_l];exact hm.sameBut hs ne) λh6 m' hn6 hs6=>?_
 rw[←cl_l]at hn6 hs6
 have kk:∀b ob,h'.get? b=some ob→b≠cenv.locals→h6.get? b=some ob:= λb ob e hne=>(hs6.2 b hne).trans e
 have r9:=r8.otherD (h':=h6) (tk:=s5.toks+1) (L:=cenv.locals) r5.ap r5.lf (Ne.symm ne) (by refine dh hn6 λo es ep e1 d1 _=>?_;exact bh o es ep e1 d1) kk
 have st9:=((st7.trans st8):aM c ρ1 σ₁.H.length (· =env.locals) s1 ρ5 H'.length _).other (h':=h6) (tk:=s5.toks+1) (it:=cenv.locals) n1 kk
 exact YD (YD (q ρ5 _ _ r9 (st1.trans st9) rfl))
noncomputable def qP(l:List Stmt)(i:Nat):Stmt:=match l[i]? with
 |some s=>s
 |none=>.Pass ⟨0,0,0,0⟩
theorem xT{F:Scope}{t:Str}{line:Nat}(he:env.scope=F)(hk:F.kind=.function)(ht:F.names.lookup t=some .local)(hl:(p1.line==pos.line)=true)(hs:(sc.names.any λx=>x.1==t&&(x.2== .local||x.2== .cell))=false):swapsWith (.ListComp elt gens sc pos) (some (.Name t p1)) line env=pure true:=by
 have e1:(env.blockKind== .function)=true:=by unfold Env.blockKind;rw[he,hk];rfl
 have e2:(env.kindOf t==some .local)=true:=by unfold Env.kindOf;rw[he,ht];rfl
 show(pure (env.blockKind== .function&&env.kindOf t==some .local&&p1.line==pos.line&&!(sc.names.any λx=>x.1==t&&(x.2== .local||x.2== .cell))):Sem Bool)=pure true
 rw[e1,e2,hl,hs];rfl
theorem zq(kz:∀(sc:Scope)(p1 p2 p3 p4 p5 p6 p7 p8 p9 p10:Pos)(kd:Nat),(qP gm 3=.Assign [.Name "changed" p1] (.ListComp (.Name "name" p2) [⟨.Tuple [.Name "name" p3,.Name "need" p4] kd p5,.BinOp (.Name "lost" p6) .Add (.Name "found" p7) p8,[],0⟩] sc p9) p10∧
  (∀env:Env,env.scope=oq→swapsWith (.ListComp (.Name "name" p2) [⟨.Tuple [.Name "name" p3,.Name "need" p4] kd p5,.BinOp (.Name "lost" p6) .Add (.Name "found" p7) p8,[],0⟩] sc p9) (some (.Name "changed" p1)) p10.line env=pure true)∧
  (sc.names.all λx=>x.2 != .free)=true∧(sc.names.all λx=>x.2 != .cell)=true∧sc.kind=.function∧(sc.names.lookup (".0":Str)==some .local&&sc.names.all λx=>x.2 != .local||sc.names.lookup x.1==some .local)=true∧sc.names.lookup ("name":Str)=some .local∧sc.names.lookup ("need":Str)=some .local)→Gz):Gz:=kz _ _ _ _ _ _ _ _ _ _ _ _ ⟨by k_dflt rfl,λenv he=>xT he (by w_on) (by w_on) (by w_on) (by w_on),by w_on,by w_on,by w_on,by w_on,by w_on,by w_on⟩
theorem aN.app{ps qs:List (Str×Str)}(h:aN H js ps)(g:aN H us qs):aN H (js++us) (ps++qs):=by
 refine⟨by simp[h.1,g.1],λi j p h1 h2=>?_⟩
 by_cases q:i<js.length
 ·rw[zL q]at h1
  rw[zL (h.1▸q)]at h2
  exact h.2 i j p h1 h2
 ·have q':=ZX.mp q
  rw[zR q']at h1
  rw[zR (h.1▸q'),←h.1]at h2
  exact g.2 _ j p h1 h2
theorem II(G:c.Go){M:Nat}{xs:List (Str×Str)}(hl:l.lookup ("lost":Str)=some (.obj M))(hf:l.lookup ("found":Str)=some (.obj U))(hM:cR H M xs)(hU:cR H U ys)(hz:xs.length+ys.length<900):
  ∃H' CH,Ex c (bL n) (k+101) (qP gm 3) ⟨l,H⟩ .next ⟨aS "changed" (.obj CH) l,H'⟩∧H'[CH]?=some (.list (((xs++ys).map (·.1)).map .str))∧bW H H':=by
 refine br λGz kz=>?_
 refine zq λsc p1 p2 p3 p4 p5 p6 p7 p8 p9 p10 kd hz_=>?_
 obtain⟨hb,hs,s1,s2,s3,s4,k1,k2⟩:=hz_
 refine aj hM λjs j1 j2=>?_
 refine aj hU λus u1 u2=>?_
 have scp:cz (bL n) sc sc []:=cQ s1 s2 s3 s4
 have ksc:(Fs.mk sc []).scope.kind=.function:=s3
 have pq:=j2.app u2
 have ljs:=pq.1
 have oa:=CR (c:=c) (F:=bL n) (k:=k+101) (σ:=⟨l,H⟩) j1 u1 (by have:=j2.1;have:=u2.1;simp;lia)
 refine bb (H++[AO.list (js.map .obj++us.map .obj)]) λH1 e1=>?_
 have ex1:bW H H1:= λy o h=>by rw[e1];exact aB h
 have hT:H1[H.length]?=some (.list ((js++us).map .obj)):=by rw[e1,Zu];exact aP
 refine bp (nq (F:=⟨sc,[]⟩) (k:=k+101) (gens:=[⟨.Tuple [.Name "name" p3,.Name "need" p4] kd p5,.BinOp (.Name "lost" p6) .Add (.Name "found" p7) p8,[],0⟩]) (sc:=sc) (pos:=p9) (elt:=.Name "name" p2) (φ:= λ_=>true) (el:= λp=>p.1) G ksc (by lia) k1 k2 (by decide) rfl hT (pq.ext ex1) (by simp;lia) (λp l done hx hy=>⟨⟨rfl,rfl⟩,aa ksc k1 hx⟩) (xs++ys) 0 [] [] rfl (ZA _) (Zl _)) λl' cl=>?_
 refine bb (H1++[AO.list ([]++((xs++ys).filter λ_=>true).map λp=>.str p.1)]) λH2 e2=>?_
 refine kz ?_
 rw[←e2]at cl
 have ev:=oB (y:="changed") (py:=p1) (spos:=p10) (F:=bL n) (k:=k+101) (σ:=⟨l,H⟩) (σ₁:=⟨l,H1⟩) (I:=aR H.length ((js++us).map .obj)) (loc':=l') (H':=H2) (a:=.obj H.length) (rest:=[]) (ifs:=[]) (target:=.Tuple [.Name "name" p3,.Name "need" p4] kd p5) (iter:=.BinOp (.Name "lost" p6) .Add (.Name "found" p7) p8) (elt:=.Name "name" p2) (pos:=p9) G.ok (bj n) rfl hs az scp (λ_ _=>rfl)
  (iY (aa (bj n) rfl hl) (aa (bj n) rfl hf) (e1▸oa)) (dZ hT) hT (by rw[e2];simp) @cl
 refine fk H2 H1.length ?_ ?_ λy o h=>by rw[e2];exact aB (ex1 _ _ h)
 ·rw[hb]
  exact ev
 ·rw[e2]
  have:([]++((xs++ys).filter λ_=>true).map λp=>AV.str p.1)=((xs++ys).map (·.1)).map .str:=by
   rw[List.filter_eq_self.mpr (λ_ _=>rfl),List.nil_append,Zr];rfl
  rw[this];exact aP
structure iT(rows:List (List Str)):Prop where
 ne:rows≠[]
 ok:∀r∈rows,je r
 n:rows.length<900
 l:(aH rows).length≤sizeLine
 p:(Builtin.Str.partsBetween (aH rows) (Builtin.Str.occurrences (aH rows) "\n" 0 (aH rows).length ((aH rows).length+1)) ("\n":Str).length).length≤sizeLine
 r:∀r∈rows,r≠[]∧r.length<500
 q:(bT rows).length<64
noncomputable def Ez:oF:=⟨[],λ_=>0,λ_=>[]⟩
noncomputable def ic(nd:Nat→List Nat):oF:=Bo nd Ez [4,3,2,1,0]
noncomputable def bK(nd:Nat→List Nat):List (List Str):=(ZH 5).map λi=>nm i::(nd i).map nm
noncomputable def iJ(ys zs:List Str):Prop:=(ys.length<2∧zs=ys)∨(2≤ys.length∧∃p:Array Nat,cV ys.length (λi j=>Bv (ys.getD i "") (ys.getD j "")) (kas_sort ys.length)=some p∧(∀i∈p.toList,i<ys.length)∧(p.toList.map λi=>ys.getD i "")=zs)
structure j7(H:List AO)(L:Nat)(nd:Nat→List Nat)(j0 j1 j2 j3 j4:Nat):Prop where
 l:H[L]?=some (.list [.obj j0,.obj j1,.obj j2,.obj j3,.obj j4])
 a0:H[j0]?=some (.list (be (0::nd 0)))
 a1:H[j1]?=some (.list (be (1::nd 1)))
 a2:H[j2]?=some (.list (be (2::nd 2)))
 a3:H[j3]?=some (.list (be (3::nd 3)))
 a4:H[j4]?=some (.list (be (4::nd 4)))
theorem jb{l:List α}(h:l.length=n+1){G:Prop}(k:∀a t,l=a::t→t.length=n→G):G:=by
 cases l with
 |nil=>cases h
 |cons a t=>exact k a t rfl (Nat.succ.inj h)
theorem yO(h:oJ H L (bK nd)):∃j0 j1 j2 j3 j4,j7 H L nd j0 j1 j2 j3 j4:=by
 refine bz h λjs h1 h2 h3=>?_
 have h2':js.length=5:=by rw[h2];rfl
 refine jb h2' λj0 t e h2=>jb h2 λj1 t2 e2 h2=>jb h2 λj2 t3 e3 h2=>jb h2 λj3 t4 e4 h2=>jb h2 λj4 t5 e5 h2=>?_
 have e6:=List.eq_nil_of_length_eq_zero h2
 subst e6 e5 e4 e3 e2 e
 ·skip
  have go:∀i j,[j0,j1,j2,j3,j4][i]?=some j→i<5→H[j]?=some (.list (be (i::nd i))):= λi j hj hi=>by
   have:=h3 i j (nm i::(nd i).map nm) hj (by unfold bK;simp[hi])
   rw[this]
   simp[be]
  exact⟨j0,j1,j2,j3,j4,h1,go 0 j0 rfl (by decide),go 1 j1 rfl (by decide),go 2 j2 rfl (by decide),go 3 j3 rfl (by decide),go 4 j4 rfl (by decide)⟩
noncomputable def BO(j0 j1 j2 j3 j4:Nat)(i:Nat):Nat:=[j0,j1,j2,j3,j4].getD i 0
theorem j7.at{j0 j2 j3 j4:Nat}(h:j7 H L nd j0 j1 j2 j3 j4):∀i,i<5→H[BO j0 j1 j2 j3 j4 i]?=some (.list (be (i::nd i)))
 |0,_=>h.a0
 |1,_=>h.a1
 |2,_=>h.a2
 |3,_=>h.a3
 |4,_=>h.a4
 |n+5,h=>absurd h (by lia)
theorem j7.ext{j0 j2 j3 j4:Nat}(h:j7 H L nd j0 j1 j2 j3 j4)(e:bW H H'):j7 H' L nd j0 j1 j2 j3 j4:=⟨e _ _ h.l,e _ _ h.a0,e _ _ h.a1,e _ _ h.a2,e _ _ h.a3,e _ _ h.a4⟩
theorem wu(hz:c.rz=true)(G:c.Go)(hk:F.scope.kind=.function){rows:List (List Str)}(B:iT rows){X:Nat}{ts:List AV}(hx:F.scope.names.lookup x=some .local)(hr:F.scope.names.lookup ("_law_read":Str)=some .globalImplicit)(ht:F.scope.names.lookup ("texts":Str)=some .local)(hl:l.lookup ("texts":Str)=some (.obj X))(hX:H[X]?=some (.list ts))(hi:ts[i]?=some (.str (aH rows)))(hi2:i<1000):
  ∃L H',(∀{p1 p2 p3 p4 p5 p6 p7:Pos}{q:Nat},Ex c F (k+112) (.Assign [.Name x p1] (.Call (.Name "_law_read" p2) [.Subscript (.Name "texts" p3) (.Constant (.int i) q p4) p5] [] p6) p7) ⟨l,H⟩ .next ⟨aS x (.obj L) l,H'⟩)∧oJ H' L rows∧bW H H':=by
 refine cT (AY (k:=k) hz G B.ne B.ok B.n B.l B.p (H:=H)) λL H' f r e _=>?_
 refine fk L H' (λ{p1 p2 p3 p4 p5 p6 p7 q}=>?_) r e
 exact aw (σ₁:=⟨l,H'⟩) hk hx (λ_=>rfl) (jU (σ₂:=⟨l,H⟩) G (t7 _) (λ_=>rfl) (dp G hk hr (D5 _)) (af λ_=>rfl) (am (λ_=>rfl) (cW (i:=(i:Int)) (by lia) (by lia) (λ_ _=>rfl) (λ_ _=>rfl) (aa hk ht hl) aJ hX (by simpa using hi)) au) f)
theorem Hs(hz:c.rz=true)(G:c.Go){L0 L1:Nat}{rn:List (List Str)}(ho:l.lookup ("old":Str)=some (.obj L0))(hn:l.lookup ("new":Str)=some (.obj L1))(r0:oJ H L0 ro)(r1:oJ H L1 rn)(B0:iT ro)(B1:iT rn)(S0:fg (bT ro) so)(S1:fg (bT rn) sn)(ao:uc so)(an:uc sn)(zo:so.length≤64)(zn:sn.length≤64):
  ∃M U H',(∀{p1 p2 p3 p4 p5 p6 p7 p8 p9 p10 p11 p12:Pos}{kd:Nat},Ex c (bL n) (k+101) (.Assign [.Tuple [.Name "lost" p1,.Name "found" p2] kd p3] (.Call (.Name "sorted_list_difference" p4) [.Call (.Name "_law_needs" p5) [.Name "old" p6] [] p7,.Call (.Name "_law_needs" p8) [.Name "new" p9] [] p10] [] p11) p12) ⟨l,H⟩ .next ⟨aS "found" (.obj U) (aS "lost" (.obj M) l),H'⟩)∧cR H' M (cL so sn).1∧cR H' U (cL so sn).2∧bW H H':=by
 refine br λGz kz=>?_
 refine cT (jh (k:=k) G r0 B0.r B0.n B0.q S0) λN0 H1 f1 z0 e1 _=>aj z0 λjs j1 j2=>?_
 refine cT (jh (k:=k) G (r1.ext e1) B1.r B1.n B1.q S1) λN1 H2 f2 z0 e2 _=>aj z0 λus u1 u2=>?_
 refine ka (Fl (k:=k) hz G (e2 _ _ j1) u1 (j2.ext e2) u2 ao an (by rw[j2.1];exact zo) (by rw[u2.1];exact zn)) λT M U H3 f3 hT hM hU e3=>?_
 refine kz ?_
 refine jg M U H3 (λ{p1 p2 p3 p4 p5 p6 p7 p8 p9 p10 p11 p12 kd}=>?_) hM hU ((e1.trans e2).trans e3)
 have c1:Ev c (bL n) (k+101) (.Call (.Name "_law_needs" p5) [.Name "old" p6] [] p7) ⟨l,H⟩ (.obj N0) ⟨l,H1⟩:=jU (σ₂:=⟨l,H⟩) G (hH _) (λ_=>rfl) (dp G (bj n) rfl (iZ _)) (af λ_=>rfl) (am (λ_=>rfl) (aa (bj n) rfl ho) au) f1
 have c2:Ev c (bL n) (k+101) (.Call (.Name "_law_needs" p8) [.Name "new" p9] [] p10) ⟨l,H1⟩ (.obj N1) ⟨l,H2⟩:=jU (σ₂:=⟨l,H1⟩) G (hH _) (λ_=>rfl) (dp G (bj n) rfl (iZ _)) (af λ_=>rfl) (am (λ_=>rfl) (aa (bj n) rfl hn) au) f2
 have c3:Ev c (bL n) (k+101) (.Call (.Name "sorted_list_difference" p4) [.Call (.Name "_law_needs" p5) [.Name "old" p6] [] p7,.Call (.Name "_law_needs" p8) [.Name "new" p9] [] p10] [] p11) ⟨l,H⟩ (.obj T) ⟨l,H3⟩:=jU (σ₂:=⟨l,H2⟩) G (zV _) (λ_=>rfl) (dp G (bj n) rfl (Ia _)) (af λ_=>rfl) (am (λ_=>rfl) c1 (am (λ_=>rfl) c2 au)) f3
 exact ou (σ₁:=⟨l,H3⟩) (λ_=>rfl) (λ_=>rfl) (λ_=>rfl) c3 (xg (σ₁:=⟨aS "lost" (.obj M) l,H3⟩) (by lia) (λ_=>rfl) hT (bg (bj n) rfl) (bg (bj n) rfl))
theorem y9(a b d e f:AV):rm [a,b,d,e,f] none none (some (-1))=[f,e,d,b,a]:=by
 unfold rm
 rw[show(sliceBounds none none (some (-1)) [a,b,d,e,f].length)=sliceBounds none none (some (-1)) 5 from rfl]
 rw[show sliceRange (sliceBounds none none (some (-1)) 5).1 (sliceBounds none none (some (-1)) 5).2.1 (sliceBounds none none (some (-1)) 5).2.2=[4,3,2,1,0]by decide]
 rfl
theorem Fz(G:c.Go){L1:Nat}{j0 j2 j3 j4:Nat}(hn:l.lookup ("new":Str)=some (.obj L1))(ra:j7 H L1 nd j0 j1 j2 j3 j4)(hp:∀i,i<5→(nd i).length≤4∧∀p∈nd i,p<5):
  ∃H1 HI l2 H2 pi pd ps,(∀{p1 p2 p3 p4:Pos},Ex c (bL n) (k+101) (.Assign [.Name "sorter" p1] (.Call (.Name "TopologicalSorter" p2) [] [] p3) p4) ⟨l,H⟩ .next ⟨aS "sorter" (.obj (H.length+1)) l,H1⟩)∧
   (∀{p1 p2 p3 p4 p5 p6 p7:Pos}{q:Nat},Ex c (bL n) (k+101) (.For (.Name "row" p1) (.Subscript (.Name "new" p2) (.Slice none none (some (.UnaryOp .USub (.Constant (.int 1) q p3) p4)) p5) p6) lQ [] p7) ⟨aS "sorter" (.obj (H.length+1)) l,H1⟩ .next ⟨l2,H2⟩)∧
   uI c HI H2 HI.length (H.length+1) H.length (H.length+2) (ic nd) pi pd ps∧(∀y:Str,y≠"row"→l2.lookup y=(aS ("sorter":Str) (AV.obj (H.length+1)) l).lookup y)∧bW H HI:=by
 refine br λGz kz=>?_
 refine bb (H++[AO.dict (wA (H.length+2) .none 0 0),AO.inst 167 H.length,di c (H.length+2) []]) λH1 e1=>?_
 have f:=xy (c:=c) (k:=k+99) (H:=H) G
 rw[←e1]at f
 have ex1:bW H H1:= λy o h=>by rw[e1];exact aB h
 have l1:H1.length=H.length+3:=by rw[e1];simp
 have hD:H1[H.length]?=some (.dict (wA (H.length+2) .none 0 0)):=by rw[e1,zR (ZA _),ZY];rfl
 have hS:H1[H.length+1]?=some (.inst 167 H.length):=by rw[e1,zR (by lia)];simp
 have hN:H1[H.length+2]?=some (di c (H.length+2) []):=by rw[e1,zR (by lia)];simp
 refine bb (H1++[AO.list [.obj j4,.obj j3,.obj j2,.obj j1,.obj j0]]) λHI eI=>?_
 have exI:bW H1 HI:= λy o h=>by rw[eI];exact aB h
 have lI:HI.length=H.length+4:=by rw[eI];simp[l1]
 have raI:=ra.ext (ex1.trans exI)
 have hRV:HI[H1.length]?=some (.list [.obj j4,.obj j3,.obj j2,.obj j1,.obj j0]):=by rw[eI];exact aP
 let lS:List (Str×AV):=aS ("sorter":Str) (.obj (H.length+1)) l
 have rS:uI c HI HI HI.length (H.length+1) H.length (H.length+2) Ez (λ_=>0) (λ_=>0) (λ_=>0):=by
  refine⟨⟨exI _ _ hS,exI _ _ hD⟩,⟨.inl (exI _ _ hN),?_,?_,?_,?_,?_,?_,?_,List.nodup_nil⟩,?_,λy o _ _ h=>h,ZA _⟩<;>(intro i hi;cases hi)
 have old:∀(y:Nat)(o:AO),H[y]?=some o→y<HI.length∧y≠H.length+2:= λy o h=>by have:=aq h;lia
 have rj:∀i,i<5→HI[BO j0 j1 j2 j3 j4 i]?=some (.list (be (i::nd i)))∧BO j0 j1 j2 j3 j4 i<HI.length∧BO j0 j1 j2 j3 j4 i≠H.length+2:= λi hi=>⟨raI.at i hi,(old _ _ (ra.at i hi)).1,(old _ _ (ra.at i hi)).2⟩
 refine hZ (AI (k:=k) (n:=n) (nd:=nd) (rj:=BO j0 j1 j2 j3 j4) (RV:=H1.length) (l:=lS) (S:=H.length+1) G hRV (by lia) (by lia) rj hp [4,3,2,1,0] (ah _ _ _) rS (by decide) (λp=>by simp[Ez])) λl2 H2 pi pd ps lp x2 lk=>?_
 refine kz ?_
 refine oW H1 HI l2 H2 pi pd ps (λ{p1 p2 p3 p4}=>?_) (λ{p1 p2 p3 p4 p5 p6 p7 q}=>?_) x2 lk (ex1.trans exI)
 ·exact aw (σ₁:=⟨l,H1⟩) (bj n) rfl (λ_=>rfl) (fS (σ₂:=⟨l,H⟩) G.ok (λ_=>rfl) (dp G (bj n) rfl (I8 _)) ⟨_,by rw[G.hK];exact Iy _⟩ (gF aV au) f)
 ·have sl:=fF (c:=c) (F:=bL n) (k:=k+101) (σ:=⟨lS,H1⟩) (σ₁:=⟨lS,H1⟩) (σ₂:=⟨lS,H1⟩) (σ₃:=⟨lS,H1⟩) (σ₄:=⟨lS,H1⟩) (value:=.Name "new" p2) (lower:=none) (upper:=none) (step:=some (.UnaryOp .USub (.Constant (.int 1) q p3) p4)) (p:=p5) (pos:=p6) (j:=L1) (vs:=[.obj j0,.obj j1,.obj j2,.obj j3,.obj j4]) (l:=none) (u:=none) (t:=some (-1)) (v':=[.obj j4,.obj j3,.obj j2,.obj j1,.obj j0]) (by simp) (by simp) (λ_ _=>⟨_,rfl⟩) (aa (bj n) rfl (dQ hn)) dm dm (e9 (qb aJ)) (ex1 _ _ ra.l) (λρ n its h=>by have z:=t6 h none none (some (-1));rw[y9]at z;exact z)
  have lp1:=lp p1
  generalize lQ=bdy at lp1 ⊢
  refine gr (I:=aR H1.length [.obj j4,.obj j3,.obj j2,.obj j1,.obj j0]) (σ₁:=⟨lS,HI⟩) G.ok az (λ_ _=>rfl) (λ_ _=>rfl) (by lia) ?_ (dZ hRV) lp1
  rw[eI];exact sl
theorem F4(hz:c.rz=true)(G:c.Go){g:oF}(hs:l.lookup ("sorter":Str)=some (.obj S))(x:uI c H0 H B S D N g pi pd ps)(hsu:∀i∈g.ord,∀q∈g.su i,i<q∧q∈g.ord)(hc:H[n+1]?=some (.cell none))(hc0:∃v,H[n]?=some (.cell v)):
  ∃H1 H2 R AN,(∀{p1 p2 p3 p4:Pos},(∀env,eval (.Call (.Attribute (.Name "sorter" p1) "prepare" p2) [] [] p3) env=(do
   let ov←eval (.Name "sorter" p1) env
   standAt p2.atName
   let(f,first)←holding [ov] (getMethod ov "prepare" (gD (.Name "sorter" p1) env))
   callWith p3 f first (backTo p3 (starEach [] env)) []))→Ex c (bL n) (k+102) (.Expr (.Call (.Attribute (.Name "sorter" p1) "prepare" p2) [] [] p3) p4) ⟨l,H⟩ .next ⟨l,H1⟩)∧
   (∀{p1 p2 p3:Pos},Ex c (bL n) (k+102) (.Assign [.Name "anew" p1] (.List [] p2) p3) ⟨l,H1⟩ .next ⟨l,H2⟩)∧
   mH c n H2 H2 S D N R AN H.length 0 0 g.ord g.np (dR g.np g.ord) [] g.su pi pd ps∧(∀(y:Nat)(o:AO),o.lt=true→H[y]?=some o→H2[y]?=some o):=by
 refine br λGz kz=>?_
 refine eQ (Dy (k:=k) hz G x.x x.gh hsu) λH1 R f x1 g1 hR bt hRl=>?_
 refine bb (H1++[AO.list []]) λH2 e2=>?_
 have ex2:bW H1 H2:= λy o h=>by rw[e2];exact aB h
 have hA:H2[H1.length]?=some (.list []):=by rw[e2];exact aP
 have ndD:∀{y:Nat}{o:AO},H[y]?=some o→(∀es,o≠.dict es)→H1[y]?=some o:= λ{y o} h hn=>bt y o (λq=>by rw[q,x.x.d]at h;cases h;exact hn _ rfl) h
 have hc2:=ex2 _ _ (ndD hc (by intro es h;cases h))
 refine bp hc0 λv0 hv0=>?_
 have hv2:=ex2 _ _ (ndD hv0 (by intro es h;cases h))
 refine bb (H2.set (n+1) (.cell (some (.obj H1.length)))) λH3 e3=>?_
 refine kz ?_
 have kp:∀{y:Nat}{o:AO},H2[y]?=some o→(∀v,o≠.cell v)→H3[y]?=some o:= λ{y o} h hn=>by rw[e3];exact ak h (λq=>by rw[q,hc2]at h;cases h;exact hn _ rfl)
 have lRH:R<H1.length:=aq hR
 have hl:H.length≤H1.length:=by lia
 have psl:∀i∈g.ord,ps i<H.length:= λi hi=>(x.gh.lt hi).2.2
 have d2:DS c H2 S D N R 0 0 g.ord g.np (dR g.np g.ord) g.su pi pd ps:=⟨⟨ex2 _ _ x1.s,ex2 _ _ x1.d⟩,g1.ext ex2,ex2 _ _ hR,λi hi q=>by have:=psl i hi;lia⟩
 have ne:∀{y:Nat}{o:AO},H2[y]?=some o→(∀v,o≠.cell v)→n+1≠y:= λ{y o} h hn q=>by rw[←q,hc2]at h;cases h;exact hn _ rfl
 have nN:n+1≠N:=by refine bp (d2.g.n.is) λP hP=>?_;exact ne hP (by intro v h;cases h)
 have d3:DS c H3 S D N R 0 0 g.ord g.np (dR g.np g.ord) g.su pi pd ps:=by
  rw[e3]
  exact d2.setO (ne d2.x.s (by intro v h;cases h)) (ne d2.x.d (by intro v h;cases h)) nN (ne d2.r (by intro v h;cases h)) λi hi=>⟨ne (d2.g.i i hi) (by intro v h;cases h),ne (d2.g.d i hi) (by intro v h;cases h),ne (d2.g.s i hi) (by intro v h;cases h)⟩
 refine fG H1 H3 R H1.length (λ{p1 p2 p3 p4} he=>?_) (λ{p1 p2 p3}=>?_) ⟨d3,⟨v0,by rw[e3];exact ak hv2 (by lia)⟩,by rw[e3];exact bH (aq hc2),kp hA (by intro v h;cases h),λi hi q=>by have:=psl i hi;lia,by lia,hRl,hl,λy o _ _ h=>h⟩ λy o t h=>kp (ex2 _ _ (ndD h (by rintro es rfl;cases t))) (by rintro v rfl;cases t)
 ·exact ck (F:=bL n) (qn n) (λ_=>rfl) (gw (σ₁:=⟨l,H⟩) (σ₂:=⟨l,H⟩) G (vW _) (eE _) he (aa (bj n) rfl hs) x.x.s x.x.d rfl (Dv _) aV au f)
 ·have z:=dM (c:=c) (F:=bL n) (k:=k+102) (pos:=p2) (σ₁:=⟨l,H1⟩) (vs:=[]) (by decide) au
  rw[e3]
  have el:Ev c (bL n) (k+102) (.List [] p2) ⟨l,H1⟩ (.obj H1.length) ⟨l,H2⟩:=by rw[e2];exact z
  exact dS (σ₁:=⟨l,H2⟩) (bj n) (by w_on) (by w_on:(bL n).cells.lookup ("anew":Str)=some (n+1)) (λ_=>rfl) el hc2
theorem cR.ext{H H':List AO}{N:Nat}{ps:List (Str×Str)}(h:cR H N ps)(e:bW H H'):cR H' N ps:=let⟨js,h1,h2⟩:=h;(al js (e _ _ h1) (h2.ext e))
theorem cR.lt{ps:List (Str×Str)}(h:cR H N ps)(e:∀(y:Nat)(o:AO),o.lt=true→H[y]?=some o→H'[y]?=some o):cR H' N ps:=let⟨js,h1,h2⟩:=h;(al js (e _ _ rfl h1) ⟨h2.1,λi j p a b=>e _ _ rfl (h2.2 i j p a b)⟩)
theorem DU(hz:c.rz=true)(G:c.Go){X:Nat}{r:List Nat}(hX:H[X]?=some (.list [.str (aH ro),.str (aH (bK nd))]))(B0:iT ro)(B1:iT (bK nd))(S0:fg (bT ro) so)(S1:fg (bT (bK nd)) sn)(ao:uc so)(an:uc sn)(zo:so.length≤64)(zn:sn.length<64)(hzl:(cL so sn).1.length+(cL so sn).2.length<900)
  (hp:∀i,i<5→(nd i).length≤4∧∀p∈nd i,p<5)(hsu:∀i∈(ic nd).ord,∀q∈(ic nd).su i,i<q∧q∈(ic nd).ord)(hzs:∀i,((ic nd).su i).length≤100)(h0:(dR (ic nd).np (ic nd).ord).length<100)
  (rn:kx (ic nd).su (ic nd).ord (((cL so sn).1++(cL so sn).2).map (·.1)) sn (ic nd).np (dR (ic nd).np (ic nd).ord) [] r)(hrl:r.length<64)(hs:iJ (r.map nm) zs):
  ∃Z M U A H',Fn c (k+113) (.ref 906) [.obj X] [] H (.obj Z) H'∧H'[Z]?=some (.list [.obj M,.obj U,.obj A])∧cR H' M (cL so sn).1∧cR H' U (cL so sn).2∧H'[A]?=some (.list (zs.map .str))∧∀(y:Nat)(o:AO),o.lt=true→H[y]?=some o→H'[y]?=some o:=by
 refine br λGz kz=>?_
 refine bb (H.length) λn en=>?_
 refine bb (H++ZV mV.length (AO.cell none)) λHc ec=>?_
 have exc:bW H Hc:= λy o h=>by rw[ec];exact aB h
 have c0:Hc[n]?=some (.cell none):=by rw[ec,en,zR (ZA _),ZY];rfl
 have c1:Hc[n+1]?=some (.cell none):=by rw[ec,en,zR (by lia),Zt];rfl
 let l0:List (Str×AV):=[("texts",.obj X)]
 have kf:=bj n
 refine ct (wu (k:=k) (F:=bL n) (l:=l0) (x:="old") hz G kf B0 rfl rfl rfl rfl (exc _ _ hX) (i:=0) rfl (by decide)) λL0 HA f0 rA eA=>?_
 let l1:List (Str×AV):=aS ("old":Str) (.obj L0) l0
 refine ct (wu (k:=k) (F:=bL n) (l:=l1) (x:="new") hz G kf B1 rfl rfl rfl rfl (eA _ _ (exc _ _ hX)) (i:=1) rfl (by decide)) λL1 HB f1 rB eB=>?_
 let l2:List (Str×AV):=aS ("new":Str) (.obj L1) l1
 refine d8 (Hs (k:=k+11) (n:=n) (l:=l2) hz G rfl rfl (rA.ext eB) rB B0 B1 S0 S1 ao an zo (Nat.le_of_lt zn)) λM U HC f2 pM pU eC=>?_
 let l3:List (Str×AV):=aS ("found":Str) (.obj U) (aS ("lost":Str) (.obj M) l2)
 refine ct (II (k:=k+11) (n:=n) (l:=l3) G rfl rfl pM pU hzl) λHD CH f3 hCH eD=>?_
 let l4:List (Str×AV):=aS ("changed":Str) (.obj CH) l3
 have rD:=(rB.ext eC).ext eD
 obtain⟨j0,j1,j2,j3,j4,ra⟩:=yO rD
 obtain⟨H1,HI,l5,HE,pi,pd,ps,f4,f5,x5,lk5,eI⟩:=Fz (k:=k+11) (n:=n) (l:=l4) G rfl ra hp
 have ecD:bW Hc HD:=((eA.trans eB).trans eC).trans eD
 have up:∀(y:Nat)(o:AO),HD[y]?=some o→HE[y]?=some o:= λy o h=>by
  have:=aq h
  exact x5.k y o (aq (eI _ _ h)) (by lia) (eI _ _ h)
 have lk:∀y:Str,y≠"row"→l5.lookup y=(aS ("sorter":Str) (AV.obj (HD.length+1)) l4).lookup y:=lk5
 refine ia (F4 (k:=k+10) (n:=n) (l:=l5) hz G ((lk _ (by decide)).trans rfl) x5 hsu (up _ _ (ecD _ _ c1)) ⟨none,up _ _ (ecD _ _ c0)⟩) λHF HG R AN f6 f7 w kG=>?_
 have upG:∀(y:Nat)(o:AO),o.lt=true→HD[y]?=some o→y<HE.length∧HG[y]?=some o:= λy o t h=>⟨aq (up y o h),kG y o t (up y o h)⟩
 have nok:iK c HG HE.length L1 (bK nd) sn:=by
  refine bz rD λjs q1 q2 q3=>?_
  refine⟨gz js ((upG _ _ rfl q1).1) ((upG _ _ rfl q1).2) q2 λi j r a b=>⟨(upG _ _ rfl (q3 i j r a b)).1,(upG _ _ rfl (q3 i j r a b)).2⟩,B1.r,B1.n,B1.q,S1,zn⟩
 have LWl:LW l5 (HD.length+1) L1 CH:=⟨(lk _ (by decide)).trans rfl,(lk _ (by decide)).trans rfl,(lk _ (by decide)).trans rfl⟩
 obtain⟨l6,HH,po',f8,lk6,np',w'⟩:=AP (k:=k+11) G ⟨(upG _ _ rfl hCH).1,(upG _ _ rfl hCH).2⟩ nok (λi hi j hj=>(hsu i hi j hj).2) hzs rn LWl h0 w
 have keep:∀(y:Nat)(o:AO),o.lt=true→HD[y]?=some o→HH[y]?=some o:= λy o t h=>w'.k y o (upG y o t h).1 t (upG y o t h).2
 have hA:HH[AN]?=some (.list ((r.map nm).map .str)):=by
  have:=w'.an
  rw[this];simp[be]
 refine bb (HH++[AO.list (zs.map .str)]) λHS eS=>?_
 refine bb (HS++[AO.list [.obj M,.obj U,.obj HH.length]]) λHZ eZ=>?_
 refine kz ?_
 have exS:bW HH HS:= λy o h=>by rw[eS];exact aB h
 have exZ:bW HS HZ:= λy o h=>by rw[eZ];exact aB h
 have keepZ:∀(y:Nat)(o:AO),o.lt=true→HD[y]?=some o→HZ[y]?=some o:= λy o t h=>exZ _ _ (exS _ _ (keep y o t h))
 refine kU HS.length M U HH.length HZ ?_ (by rw[eZ];exact aP) ((pM.ext eD).lt keepZ) ((pU.ext eD).lt keepZ) (exZ _ _ (by rw[eS];exact aP)) λy o t h=>keepZ y o t (ecD _ _ (exc _ _ h))
 have srt:cJ c (bL n) (k+112) (λxs=>call (.builtin "sorted") xs) [.obj AN] ⟨l6,HH⟩ (.obj HH.length) ⟨l6,HS⟩:=by
  rw[eS];exact gu (σ:=⟨l6,HH⟩) hA (by simpa using hrl) hs
 have lo:l6.lookup ("lost":Str)=some (.obj M):=(lk6 _ (by decide)).trans ((lk _ (by decide)).trans rfl)
 have fo:l6.lookup ("found":Str)=some (.obj U):=(lk6 _ (by decide)).trans ((lk _ (by decide)).trans rfl)
 have rt:∀{p1 p2 p3 p4 p5 p6 p7:Pos},Ex c (bL n) (k+112) (.Return (some (.List [.Name "lost" p1,.Name "found" p2,.Call (.Name "sorted" p3) [.Name "anew" p4] [] p5] p6)) p7) ⟨l6,HH⟩ (.ret (.obj HS.length)) ⟨l6,HZ⟩:= λ{p1 p2 p3 p4 p5 p6 p7}=>by
  have z:=dM (c:=c) (F:=bL n) (k:=k+112) (pos:=p6) (σ:=⟨l6,HH⟩) (σ₁:=⟨l6,HS⟩) (vs:=[.obj M,.obj U,.obj HH.length]) (by simp) (am (e:=.Name "lost" p1) (λ_=>rfl) (aa kf rfl lo) (am (e:=.Name "found" p2) (λ_=>rfl) (aa kf rfl fo) (am (e:=.Call (.Name "sorted" p3) [.Name "anew" p4] [] p5) (λ_=>rfl) (dB (λ_=>rfl) (λ_=>rfl) (dg G kf rfl (lJ _) jL) (af λ_=>rfl) (am (λ_=>rfl) (dK kf (by w_on) (by w_on:(bL n).cells.lookup ("anew":Str)=some (n+1)) w'.ac (by decide)) au) srt) au)))
  rw[←eZ]at z
  exact aX z
 refine pS (k:=k+112) (fl:=.ret (.obj HS.length)) (cs:=mV) (p:="texts") (loc':=l6) G (xj _) vc (λj hj=>?_) (by decide) (by w_on) (λx S=>DQ _ _ _) ?_
 ·exact Cr hj ⟨"name",by w_on⟩ ⟨"anew",by w_on⟩
 ·rw[←ec,←en]
  show dq c (bL n) (k+112) gm ⟨l0,Hc⟩ _ _
  generalize eb1:qP gm 3=s3 at f3
  generalize eb2:lQ=bf at f5
  generalize eb3:wX=bw at f8
  generalize eb4:vD gm 8=tw at f8
  k_dflt refine' ae (σ₁:=⟨l1,HA⟩) f0 (ae (σ₁:=⟨l2,HB⟩) f1 (ae (σ₁:=⟨l3,HC⟩) f2 (ae (σ₁:=⟨l4,HD⟩) ?_ (ae (σ₁:=⟨aS "sorter" (.obj (HD.length+1)) l4,H1⟩) f4 (ae (σ₁:=⟨l5,HE⟩) ?_ (ae (σ₁:=⟨l5,HF⟩) (f6 ?_) (ae (σ₁:=⟨l5,HG⟩) f7 (ae (σ₁:=⟨l6,HH⟩) (cO ?_) (bv rt)))))))))
  all_goals try subst eb1
  all_goals try subst eb2
  all_goals try subst eb3
  all_goals try subst eb4
  exact f3
  exact f5
  exact λ_=>rfl
  exact f8
theorem iQ{scope:Scope}{globals:Addr}{closure:List (Str×Addr)}{qual:Str}{func:Option Addr}{code:Value}{outer:Env}{Q:Env→Shared→Prop}
  (one:∀(n:Nat)(acc:List (Str×Addr)),cellsFrom n scope.names acc=(x,n)::acc)(psh:∀h,pushCells h scope.names=h.push {cls:=.type "cell",data:=.cell none})
  (hQ:Q (newEnv scope s.heap.objs.size globals ((x,s.heap.objs.size+1)::closure) qual func code (some outer) builtinsNs) {s with heap:=(s.heap.push {cls:=.type "dict",data:=.dict #[]}).push {cls:=.type "cell",data:=.cell none}}):
  wpAny M A (newFunctionEnv scope globals closure [] qual func code (some outer)) Q E s:=by
 simp only[newFunctionEnv,Option.isSome_some,if_true]
 refine YC (wpAny_alloc ?_)
 refine YC (wpAny_layCells _ (λname kind cells=>by cases hkc:kind==NameKind.cell<;>simp[hkc]) _ _ _ _ ?_)
 rw[one,psh]
 rw[show({s with heap:=s.heap.push {cls:=.type "dict",data:=.dict #[]}}:Shared).heap.objs.size=s.heap.objs.size+1 from Zo ..]
 refine YC ?_
 rw[YA]
 exact YD (YD hQ)
structure qp(F:Fs)(sc sc':Scope)(cl:List (Str×Nat))(x:Str):Prop where
 clo:∀(env:Env)(g:Nat→Addr),env.cells=F.cells.map (λp=>(p.1,g p.2))→closureFor sc env=pure (cl.map λp=>(p.1,g p.2))
 own:∀env:Env,env.scope=F.scope→fq sc env=sc'
 sub:∀p∈cl,p∈F.cells
 kind:sc.kind=.function
 names:∀x∈sc.names,x.2=.local→sc'.names.lookup x.1=some .local
 one:∀(n:Nat)(acc:List (Str×Addr)),cellsFrom n sc.names acc=(x,n)::acc
 psh:∀h,pushCells h sc.names=h.push {cls:=.type "cell",data:=.cell none}
 dot:sc'.names.lookup (".0":Str)≠none
theorem zA{rest:List Comprehension}{sc':Scope}{cl:List (Str×Nat)}{xn:Str}{I:qc}(O:c.Ok)(G:I.Good c)(S:qp F sc sc' cl xn)(hs:∀env x,foldedSetIterable iter env x=pure x)
  (h1:Ev c F k iter σ a σ₁)(h2:Mk c I a σ₁)(ok:I.ok σ₁.H)(hlt:σ₁.H.length<H'.length)(h3:CL c ⟨sc',(xn,σ₁.H.length+1)::cl⟩ k elt (⟨target,iter,ifs,0⟩::rest) sc pos 0 I σ₁.H.length 0 ⟨[],σ₁.H++[.list []]++[.cell none]⟩ ⟨loc',H'⟩):
  Ev c F k (.ListComp elt (⟨target,iter,ifs,0⟩::rest) sc pos) σ (.obj σ₁.H.length) ⟨σ₁.loc,H'⟩:= λA ρ s env Q E K r q=>by
 rw[eval_ListComp]
 refine sY (cl:=cl.map λp=>(p.1,ρ p.2)) (S.clo env ρ r.ce) rfl (hs env) S.kind (by rw[S.own env r.sc];exact S.names) ?_
 refine h1 A ρ s env _ E K r λρ1 s1 x r1 st1 vx=>h2 r1 vx λo t ho hf=>?_
 have fr1:=r1.newFree (o:=o) (G.nd _ _ _ ho)
 have r2:=r1.push o t
 have hp:=HP.of_push (o:=o) r1
 have g2:(s1.heap.push o).get? s1.heap.objs.size=some o:=ZN _ hf
 refine bb (({s1 with heap:=s1.heap.push o,toks:=t}:Shared)) λs2 es2=>?_
 rw[←es2]at r2 ⊢
 have g2':s2.heap.get? s1.heap.objs.size=some o:=by rw[es2];exact g2
 have st2:aM c ρ1 σ₁.H.length (· =env.locals) s1 ρ1 σ₁.H.length s2:=by rw[es2];exact hp.step t
 refine wpAny_newList ?_ (by decide)
 refine br λGz kz=>?_
 refine aO (r2.alloc (ao:=.list []) (ob:={cls:=.type "list",data:=.seq [].toArray}) s2.toks rfl (cH [] _ rfl .nil)) λr3 st3=>?_
 have e3:gj ρ1 σ₁.H.length s2.heap.objs.size σ₁.H.length=s2.heap.objs.size:=aF
 refine aO (fr1.step O (s:=s2) g2' st3) λfr3 g3=>?_
 have ho3:I.obj (gj ρ1 σ₁.H.length s2.heap.objs.size) 0 o:=G.ag ρ1 _ σ₁.H 0 o ok ho λj hj=>bc hj
 have ag3:∀j,j<σ.H.length→gj ρ1 σ₁.H.length s2.heap.objs.size j=ρ j:= λj hj=>(st1.trans (st2.trans st3)).ag j hj
 refine bb (({s2 with heap:=s2.heap.push {cls:=.type "list",data:=.seq [].toArray},toks:=s2.toks}:Shared)) λs3 es3=>?_
 refine kz ?_
 change wpAny _ _ _ _ _ ({s2 with heap:=s2.heap.push {cls:=.type "list",data:=.seq [].toArray},toks:=s2.toks}:Shared)
 rw[←es3]at r3 st3 g3 ⊢
 have l3:(σ₁.H++[AO.list []]).length=σ₁.H.length+1:=by simp
 have k12:∀b ob,s1.heap.get? b=some ob→s2.heap.get? b=some ob:= λb ob e=>by rw[es2];exact zH _ e
 have k23:∀b ob,s2.heap.get? b=some ob→s3.heap.get? b=some ob:= λb ob e=>by rw[es3];exact zH _ e
 have stA:∀L:Addr→Prop,aM c ρ1 σ₁.H.length L s1 (gj ρ1 σ₁.H.length s2.heap.objs.size) (σ₁.H++[AO.list []]).length s3:= λL=>by
  refine(cN k12 (by rw[es2])).trans ?_
  rw[l3,es3]
  exact cY _ _
 generalize gj ρ1 σ₁.H.length s2.heap.objs.size=ρ3 at*
 refine bb (s3.heap.push {cls:=.type "dict",data:=.dict #[]}) λhf ef=>?_
 have lf:hf.objs.size=s3.heap.objs.size+1:=by rw[ef];exact Zo ..
 refine iQ S.one S.psh ?_
 rw[←ef]
 have hns:hf.Ns s3.heap.objs.size (λ_=>none):=by rw[ef];exact Heap.Ns.new s3.heap (.type "dict")
 have k3f:∀b ob,s3.heap.get? b=some ob→hf.get? b=some ob:= λb ob e=>by rw[ef];exact zH _ e
 refine br λGz kz=>?_
 refine bb (({newEnv sc s3.heap.objs.size env.globals ((xn,s3.heap.objs.size+1)::cl.map λp=>(p.1,ρ p.2)) env.qual none .none (some env) builtinsNs with scope:=fq sc env}:Env)) λcenv ec=>?_
 have cl_l:cenv.locals=s3.heap.objs.size:=by rw[ec];rfl
 refine bb (({cenv with cells:=cl.map λp=>(p.1,ρ p.2)}:Env)) λcenv0 ec0=>?_
 have cl_0:cenv0.locals=s3.heap.objs.size:=by rw[ec0];exact cl_l
 have r4:aW c A ⟨sc',cl⟩ ρ3 ⟨[],σ₁.H++[.list []]⟩ {s3 with heap:=hf,toks:=s3.toks} cenv0:=by
  refine⟨⟨λi ao e=>?_,r3.hr.inj,r3.hr.up,λb ob e t=>k3f _ _ (r3.hr.base b ob e t),λob e=>?_⟩,?_,?_,?_,?_,λp hp=>?_,⟨_,by rw[cl_0];exact hns,λx v hv=>nomatch hv⟩,λi hi=>?_,?_,r3.ge,r3.sk.same rfl λb ob es ep g1 g2 _ _=>⟨ob,es,ep,k3f _ _ g1,g2⟩,λz z2=>?_,λz=>absurd z S.dot⟩
  ·refine aj (r3.hr.at_ i ao e) λob z1 z2=>?_
   exact al ob (k3f _ _ z1) z2
  ·exact(r3.hr.tj ob e).imp (λz=>k3f _ _ z) λ⟨z1,z2,vs,more,z3,z4⟩=>bS z1 z2 vs more z3 (k3f _ _ z4)
  ·rw[ec0,ec];exact S.own env r.sc
  ·rw[ec0,ec];exact r.gl
  ·rw[ec0,ec];exact r.bl
  ·rw[ec0]
   show(cl.map λp=>(p.1,ρ p.2))=cl.map λp=>(p.1,ρ3 p.2)
   exact ZO λp hp=>by rw[ag3 _ (r.ci p (S.sub p hp))]
  ·show p.2<(σ₁.H++[AO.list []]).length
   rw[l3];have:=r.ci p (S.sub p hp);have:=st1.le;lia
  ·rw[cl_0];exact(r3.newFree (o:=o) (G.nd _ _ _ ho)).ap i hi
  ·rw[cl_0];exact(r3.newFree (o:=o) (G.nd _ _ _ ho)).up
  ·rw[ec0,ec]at z2;cases z2
 have g4:hf.get? s1.heap.objs.size=some o:=k3f _ _ g3
 have fr4:fx c ρ3 (σ₁.H++[AO.list []]).length cenv0 s1.heap.objs.size o:=⟨fr3.ap,fr3.up,by rw[cl_0];exact Z7 (ZB g3),fr3.nd⟩
 refine aO (r4.alloc (ao:=.cell none) (ob:={cls:=.type "cell",data:=.cell none}) s3.toks rfl (al none rfl trivial)) λr4b st4b=>?_
 refine aO (fr4.step O (s:={s3 with heap:=hf,toks:=s3.toks}) g4 st4b) λfr4b g4b=>?_
 refine kz ?_
 have l4:(σ₁.H++[AO.list []]++[AO.cell none]).length=σ₁.H.length+2:=by simp
 have e4:gj ρ3 (σ₁.H++[AO.list []]).length hf.objs.size (σ₁.H.length+1)=s3.heap.objs.size+1:=by rw[←l3,aF,lf]
 have e4J:gj ρ3 (σ₁.H++[AO.list []]).length hf.objs.size σ₁.H.length=ρ3 σ₁.H.length:=bc (by rw[l3];exact Zb _)
 have ho4:I.obj (gj ρ3 (σ₁.H++[AO.list []]).length hf.objs.size) 0 o:=G.ag ρ3 _ σ₁.H 0 o ok ho3 λj hj=>bc (by rw[l3];lia)
 have ag4:∀i,i<σ₁.H.length+1→gj ρ3 (σ₁.H++[AO.list []]).length hf.objs.size i=ρ3 i:= λi hi=>bc (by rw[l3];exact hi)
 have d7:aM c ρ1 σ₁.H.length (· =cenv.locals) s1 (gj ρ3 (σ₁.H++[AO.list []]).length hf.objs.size) (σ₁.H++[AO.list []]++[AO.cell none]).length {s3 with heap:=hf.push {cls:=.type "cell",data:=.cell none},toks:=s3.toks}:=by
  have z:aM c ρ3 (σ₁.H++[AO.list []]).length (· =cenv.locals) {s3 with heap:=hf,toks:=s3.toks} (gj ρ3 (σ₁.H++[AO.list []]).length hf.objs.size) (σ₁.H++[AO.list []]++[AO.cell none]).length {s3 with heap:=hf.push {cls:=.type "cell",data:=.cell none},toks:=s3.toks}:=by
   rw[cl_l,←cl_0];exact st4b
  exact((stA _).trans (cN k3f rfl:aM c ρ3 (σ₁.H++[AO.list []]).length (· =cenv.locals) s3 ρ3 (σ₁.H++[AO.list []]).length {s3 with heap:=hf,toks:=s3.toks})).trans z
 generalize gj ρ3 (σ₁.H++[AO.list []]).length hf.objs.size=ρ4 at*
 have r5':aW c A ⟨sc',(xn,σ₁.H.length+1)::cl⟩ ρ4 ⟨[],σ₁.H++[.list []]++[.cell none]⟩ {s3 with heap:=hf.push {cls:=.type "cell",data:=.cell none},toks:=s3.toks} cenv:=by
  have b:=r4b
  refine⟨b.hr,?_,?_,?_,?_,λp hp=>?_,?_,?_,?_,b.ge,b.sk,?_,λz=>absurd z S.dot⟩
  ·have:=b.sc;rw[ec0]at this;exact this
  ·have:=b.gl;rw[ec0]at this;exact this
  ·have:=b.bl;rw[ec0]at this;exact this
  ·rw[ec]
   show((xn,s3.heap.objs.size+1)::cl.map λp=>(p.1,ρ p.2))=((xn,σ₁.H.length+1)::cl).map λp=>(p.1,ρ4 p.2)
   rw[ZZ,e4]
   congr 1
   exact ZO λp hp=>by rw[ag4 _ (by have:=r.ci p (S.sub p hp);have:=st1.le;lia),ag3 _ (r.ci p (S.sub p hp))]
  ·show p.2<(σ₁.H++[AO.list []]++[AO.cell none]).length
   rw[l4]
   rcases ZI.mp hp with rfl|hp
   ·exact Zb _
   ·have:=r.ci p (S.sub p hp);have:=st1.le;lia
  ·have:=b.lo;rw[ec0]at this;exact this
  ·have:=b.ap;rw[ec0]at this;exact this
  ·have:=b.lf;rw[ec0]at this;exact this
  ·intro z z2;rw[ec]at z2;cases z2
 have fr5':fx c ρ4 (σ₁.H++[AO.list []]++[AO.cell none]).length cenv s1.heap.objs.size o:=⟨fr4b.ap,fr4b.up,by have:=fr4b.ne;rw[ec0]at this;exact this,fr4b.nd⟩
 have eg:({newEnv sc s3.heap.objs.size env.globals ((xn,s3.heap.objs.size+1)::cl.map λp=>(p.1,ρ p.2)) env.qual none .none (some env) builtinsNs with scope:=fq sc env}:Env)=cenv:=ec.symm
 rw[eg]
 have eS:Value.ref s2.heap.objs.size=Value.ref (ρ4 σ₁.H.length):=by rw[e4J,e3]
 rw[eS]
 refine iI (s:={s3 with heap:=hf.push {cls:=.type "cell",data:=.cell none},toks:=s3.toks}) G g4b ho4 rfl ?_
 refine h3 (s₀:=s1) (ρ₀:=ρ1) (n₀:=σ₁.H.length) (e7 s1.heap) K r5' g4b ho4 fr5' d7 (by rw[l4];lia) λρ5 s5 r5 st5 e5=>⟨rfl,?_⟩
 refine aj (r5.lo) λm hm _=>?_
 refine al m (by rw[←cl_l];exact hm) λh6 hs6=>?_
 have kk:∀b ob,s5.heap.get? b=some ob→b≠cenv.locals→h6.get? b=some ob:= λb ob e hne=>(hs6.2 b (by rw[cl_l]at hne;exact hne)).trans e
 have n1:s1.heap.get? cenv.locals=none:=by
  cases z:s1.heap.get? cenv.locals with
  |none=>rfl
  |some ob=>
   have:=ZB (k23 _ _ (k12 _ _ z))
   rw[cl_l]at this;exact absurd this (ZJ _)
 have st6:=st5.drop n1 kk
 have hr6:=r5.hr.other r5.ap r5.lf kk
 refine aO (r1.after (s':={s5 with heap:=h6}) O hr6 r5.ge st6) λr7 st7=>?_
 exact q ρ5 _ _ r7 (st1.trans st7) ⟨hlt,by rw[e5]⟩
theorem vn(G:c.Go)(hk:F.scope.kind=.function)(h100:100≤k){px pe:Pos}(hx:F.scope.names.lookup x=some .local)(hd:(x==("__debug__":Str))=false)
  (hg:gens=[⟨.Name x px,iter,ifs,0⟩]){Hb:List AO}(hT:Hb[T]?=some (.list vs))(hz:vs.length<900){φ:AV→Bool}
  (step:∀(v:AV)(l:List (Str×AV))(done:List AV),v∈vs→l.lookup x=some v→yR c F k ifs ⟨l,Hb++[AO.list done]⟩ (φ v) ⟨l,Hb++[AO.list done]⟩):
  ∀(rest:List AV)(i:Nat)(done:List AV)(l:List (Str×AV)),vs.drop i=rest→done.length≤i→i≤vs.length→
   ∃l',CL c F k (.Name x pe) gens sc pos 0 (aR T vs) Hb.length i ⟨l,Hb++[AO.list done]⟩ ⟨l',Hb++[AO.list (done++rest.filter φ)]⟩:=by
 have okN:∀(l:List (Str×AV))(L:List AO),(aR T vs).ok (St.H ⟨l,Hb++L⟩):= λl L=>aB hT
 intro rest
 induction rest with
 |nil=>
  intro i done l hd hl hi
  subst hg
  refine⟨l,?_⟩
  rw[show done++([]:List AV).filter φ=done by simp]
  refine iL az rfl rfl (λ_ _=>rfl) h100 (okN _ _) ?_
  show vs[i]?=none
  rw[ZC]
  exact ZL.mp hd
 |cons v rest ih=>
  intro i done l hd' hl hi
  have hp:vs[i]?=some v:=by
   have:(vs.drop i)[0]?=some v:=by rw[hd'];rfl
   rwa[Z1,Zq]at this
  have hd1:vs.drop (i+1)=rest:=by
   have:(vs.drop i).drop 1=rest:=by rw[hd'];rfl
   rwa[Zp]at this
  have il:=aq hp
  let l1:List (Str×AV):=aS x v l
  have lx:l1.lookup x=some v:=ah _ _ _
  have s1:=step v l1 done (Zg hp) lx
  cases hφ:φ v with
  |true=>
   rw[hφ]at s1
   refine bp (ih (i+1) (done++[v]) l1 hd1 (by simp;lia) (by lia)) λl' h=>?_
   refine⟨l',?_⟩
   rw[show done++(v::rest).filter φ=(done++[v])++rest.filter φ by simp[hφ]]
   subst hg
   refine fM (σ₁:=⟨l1,Hb++[AO.list done]⟩) (σ₂:=⟨l1,Hb++[AO.list done]⟩) (σ₃:=⟨l1,Hb++[AO.list done]⟩) (v:=v) (acc:=done) G.ok az rfl rfl (λ_ _=>rfl) (okN _ _) hp (bg hk hx) s1 (aa hk hx lx hd) aP (by lia) ?_
   have e2:(Hb++[AO.list done]).set Hb.length (.list (done++[v]))=Hb++[AO.list (done++[v])]:=by
    rw[Zn _ _ (ZA _),ZY];rfl
   show CL _ _ _ _ _ _ _ _ _ _ _ ⟨l1,(Hb++[AO.list done]).set Hb.length (.list (done++[v]))⟩ _
   rw[e2]
   exact h
  |false=>
   rw[hφ]at s1
   refine bp (ih (i+1) done l1 hd1 (by lia) (by lia)) λl' h=>?_
   refine⟨l',?_⟩
   rw[show done++(v::rest).filter φ=done++rest.filter φ by simp[hφ]]
   subst hg
   exact mX (σ₁:=⟨l1,Hb++[AO.list done]⟩) (σ₂:=⟨l1,Hb++[AO.list done]⟩) G.ok az rfl rfl (λ_ _=>rfl) (okN _ _) hp (bg hk hx) s1 h
theorem qY(G:c.Go)(h100:100≤k){px pe:Pos}{sc':Scope}{cl:List (Str×Nat)}(S:cz F sc sc' cl)(hk:(Fs.mk sc' cl).scope.kind=.function)(hx:sc'.names.lookup x=some .local)(hd:(x==("__debug__":Str))=false)(hs:∀env x,foldedSetIterable iter env x=pure x)
  (h1:Ev c F k iter σ (.obj T) σ₁)(hT:σ₁.H[T]?=some (.list vs))(hz:vs.length<900){φ:AV→Bool}
  (step:∀(v:AV)(l:List (Str×AV))(done:List AV),v∈vs→l.lookup x=some v→yR c ⟨sc',cl⟩ k ifs ⟨l,σ₁.H++[AO.list done]⟩ (φ v) ⟨l,σ₁.H++[AO.list done]⟩):
  Ev c F k (.ListComp (.Name x pe) [⟨.Name x px,iter,ifs,0⟩] sc pos) σ (.obj σ₁.H.length) ⟨σ₁.loc,σ₁.H++[AO.list (vs.filter φ)]⟩:=by
 refine bp (vn (F:=⟨sc',cl⟩) (k:=k) (gens:=[⟨.Name x px,iter,ifs,0⟩]) (sc:=sc) (pos:=pos) (pe:=pe) G hk h100 hx hd rfl hT hz step vs 0 [] [] rfl (ZA _) (Zl _)) λl' cl'=>?_
 exact fZ (I:=aR T vs) (loc':=l') (a:=.obj T) (rest:=[]) G.ok az S hs h1 (dZ hT) hT (by simp) @cl'
noncomputable def m8(a:Addr):Value→Bool
 | .ref b=>b==a
 |_=>false
theorem cK.units1(h:cK k A):A.in1.units<cLine:=by have:=h.2.1;unfold cLine;show A.units+1<_;lia
theorem cK.units2(h:cK k A):A.in1.in1.units<cLine:=by have:=h.2.1;unfold cLine;show A.units+1+1<_;lia
theorem aW.eqPair(r:aW c A F ρ σ s env){A':Around}(hu:A'.units<cLine){x y:Nat}{q:Str×Str}(hx:σ.H[x]?=some (.tuple [.str p.1,.str p.2]))(hy:σ.H[y]?=some (.tuple [.str q.1,.str q.2])):SeqAt.EqAt A' s (.ref (ρ x)) (.ref (ρ y)) (decide (p=q)):=by
 refine br λGz kz=>?_
 refine i7 (r.pair hx) λt1 u1 e1 g1=>?_
 refine i7 (r.pair hy) λt2 u2 e2 g2=>?_
 refine kz ?_
 by_cases h:ρ x=ρ y
 ·have exy:=r.hr.inj x y (aq hx) (aq hy) h
  subst exy
  rw[hx]at hy
  have:p=q:=by
   have:=Option.some.inj hy
   simp only[AO.tuple.injEq,List.cons.injEq,AV.str.injEq,and_true]at this
   exact Prod.ext this.1 this.2
  subst this
  rw[decide_eq_true rfl]
  exact SeqAt.EqAt.same _
 ·exact SeqAt.EqAt.of_refs h (nJ hu g1 g2)
theorem FI:∀(ps qs:List (Str×Str)),ps.length=qs.length→((ZH ps.length).all λj=>decide (ps[j]?=qs[j]?))=decide (ps=qs):= λps qs hl=>by
 by_cases h:ps=qs
 ·subst h;simp
 ·rw[decide_eq_false h]
  rw[Bool.eq_false_iff]
  intro z
  refine h (List.ext_getElem? λi=>?_)
  rw[ZG]at z
  by_cases q:i<ps.length
  ·simpa using z i (ZP.mpr q)
  ·rw[ZC.mpr (ZX.mp q),ZC.mpr (hl▸ZX.mp q)]
theorem zJ{ps qs:List (Str×Str)}(hj:σ.H[j]?=some (.list (js.map .obj)))(hi:σ.H[i]?=some (.list (us.map .obj)))(hp:aN σ.H js ps)(hq:aN σ.H us qs)(ht:(!decide (ps=qs))=t):du c F k (compareOp .NotEq) (.obj j) (.obj i) σ (.bool t) σ:= λA ρ s env Q E a b K r ha hb z=>by
 refine br λGz kz=>?_
 refine aO ha ?_;clear ha;intro _ z0;subst z0
 refine aO hb ?_;clear hb;intro _ z0;subst z0
 refine bz (r.list hj) λits g1 g2 _=>?_
 refine bz (r.list hi) λits' g1' g2' _=>?_
 refine kz ?_
 have e1:=fQ g2
 have e2:=fQ g2'
 subst e1 e2
 by_cases hl:js.length=us.length
 ·have hl2:ps.length=qs.length:=by rw[←hp.1,←hq.1,hl]
  refine SeqAt.RcNeAt.lists (e:= λj=>decide (ps[j]?=qs[j]?)) g1 g1' (by simp[hl]) K.units (λm h1 h2=>?_) c.prog c.w E Q (z ρ s _ r .refl ?_)
  ·have m1:m<js.length:=by simpa using h1
   have m2:m<us.length:=by simpa using h2
   have q1:m<ps.length:=by rw[←hp.1];exact m1
   have q2:m<qs.length:=by rw[←hq.1];exact m2
   have x1:=hp.2 m js[m] ps[m] (zG m1) (zG q1)
   have x2:=hq.2 m us[m] qs[m] (zG m2) (zG q2)
   have w:=r.eqPair (A':=A.in1) K.units1 x1 x2
   simpa[zG q1,zG q2]using w
  ·show Value.bool _=Value.bool _
   rw[←ht,←FI ps qs hl2]
   simp[hp.1]
 ·refine SeqAt.RcNeAt.lists_lengths g1 g1' (by simpa using hl) K.units c.prog c.w E Q (z ρ s _ r .refl ?_)
  rw[←ht,decide_eq_false λq=>hl (by rw[hp.1,hq.1,q])];rfl
theorem qg(r:aW c A F ρ σ s env){ps:List (Str×Str)}(hp:aN σ.H js ps):∀(x:Nat)(q:Str×Str),σ.H[x]?=some (.tuple [.str q.1,.str q.2])→x∈js→((js.zip ps).any λw=>m8 (ρ w.1) (.ref (ρ x))&&decide (w.2=p))=decide (q=p):=by
 intro x q hx hm
 by_cases h:q=p
 ·subst h
  rw[decide_eq_true rfl,Z9]
  refine mI (Zh.mp hm) λi hi e=>?_
  have il:i<ps.length:=by rw[←hp.1];exact hi
  have z:=hp.2 i js[i] ps[i] (zG hi) (zG il)
  rw[e,hx]at z
  have:q=ps[i]:=by
   have:=Option.some.inj z
   simp only[AO.tuple.injEq,List.cons.injEq,AV.str.injEq,and_true]at this
   exact Prod.ext this.1 this.2
  refine al (js[i],ps[i]) (Zh.mpr (rX i (by simp;lia) (by simp))) ?_
  rw[e,this]
  simp[m8]
 ·rw[decide_eq_false h,Bool.eq_false_iff]
  intro z
  refine aj (Z9.mp z) λw hw hh=>?_
  rw[Z3]at hh
  refine mI (Zh.mp hw) λi hi e=>?_
  have i1:i<js.length:=by simp at hi;lia
  have i2:i<ps.length:=by simp at hi;lia
  have ew:w=(js[i],ps[i]):=by rw[←e];simp
  have z1:=hp.2 i js[i] ps[i] (zG i1) (zG i2)
  rw[ew]at hh
  have ad:ρ x=ρ js[i]:=by have:=hh.1;simpa[m8]using this
  have ex:=r.hr.inj x js[i] (aq hx) (aq z1) ad
  rw[←ex,hx]at z1
  have:q=ps[i]:=by
   have:=Option.some.inj z1
   simp only[AO.tuple.injEq,List.cons.injEq,AV.str.injEq,and_true]at this
   exact Prod.ext this.1 this.2
  exact h (this.trans (by simpa using hh.2))
theorem t8{x:Nat}{ps:List (Str×Str)}(hj:σ.H[j]?=some (.list (js.map .obj)))(hp:aN σ.H js ps)(hx:σ.H[x]?=some (.tuple [.str p.1,.str p.2]))(ht:(!ps.contains p)=t):du c F k (compareOp .NotIn) (.obj x) (.obj j) σ (.bool t) σ:= λA ρ s env Q E a b K r ha hb z=>by
 refine aO ha ?_;clear ha;intro _ z0;subst z0
 refine aO hb ?_;clear hb;intro _ z0;subst z0
 refine bz (r.list hj) λits g1 g2 _=>?_
 have e1:=fQ g2
 subst e1
 have at_:∀(i:Nat)(hi:i<js.length),∃q,ps[i]?=some q∧σ.H[js[i]]?=some (.tuple [.str q.1,.str q.2]):= λi hi=>by
  have i2:i<ps.length:=by rw[←hp.1];exact hi
  exact al (ps[i]) (zG i2) (hp.2 i js[i] ps[i] (zG hi) (zG i2))
 refine SeqAt.notIn_listAt (λv=>(js.zip ps).any λw=>m8 (ρ w.1) v&&decide (w.2=p)) g1 (λy hy=>?_) (z ρ s _ r .refl ?_)
 ·have hy':y∈js.map λj=>Value.ref (ρ j):=by simpa using hy
  refine br λGz kz=>?_
  refine aj (ZR.mp hy') λm hm z0=>?_;subst z0
  refine mI (Zh.mp hm) λi hi e=>?_
  refine aj (at_ i hi) λq h1 h2=>?_
  refine kz ?_
  rw[e]at h2
  rw[qg r hp m q h2 hm]
  exact r.eqPair K.units1 h2 hx
 ·show Value.bool _=Value.bool _
  rw[←ht]
  congr 1
  congr 1
  rw[Zi,ZF]
  constructor
  ·intro h
   rw[Array.any_eq_true]at h
   refine mI h λi hi hh=>?_
   have hi':i<js.length:=by simpa using hi
   refine aj (at_ i hi') λq h1 h2=>?_
   have hm:js[i]∈js:=List.getElem_mem hi'
   have e:(⟨js.map λj=>Value.ref (ρ j)⟩:Array Value)[i]'hi=.ref (ρ js[i]):=by simp
   rw[e,qg r hp js[i] q h2 hm]at hh
   have:q=p:=by simpa using hh
   rw[←this];exact Zg h1
  ·intro h
   refine mI (Zh.mp h) λi hi e=>?_
   have hi':i<js.length:=by rw[hp.1];exact hi
   refine aj (at_ i hi') λq h1 h2=>?_
   rw[zG hi]at h1
   have eq:q=p:=by rw[←e];exact(Option.some.inj h1).symm
   rw[Array.any_eq_true]
   refine rX i (by simpa using hi') ?_
   have e2:(⟨js.map λj=>Value.ref (ρ j)⟩:Array Value)[i]'(by simpa using hi')=.ref (ρ js[i]):=by simp
   rw[e2,qg r hp js[i] q h2 (List.getElem_mem hi')]
   simpa using eq
noncomputable def aG(n:Nat):Fs:=⟨wz,qX.map λq=>(q.1,n+q.2)⟩
theorem fW(n:Nat):(aG n).scope.kind=.function:=by w_on
theorem qm(h1:∀y∈sc.names,y.2=.free→(F.cells.lookup y.1).isSome=true)(hk:sc.kind=.function)(h3:((aZ F sc).names.lookup (".0":Str) != none&&sc.names.all λx=>x.2 != .local||(aZ F sc).names.lookup x.1==some .local)=true)
  (one:∀(n:Nat)(acc:List (Str×Addr)),cellsFrom n sc.names acc=(x,n)::acc)(psh:∀h,pushCells h sc.names=h.push {cls:=.type "cell",data:=.cell none}):qp F sc (aZ F sc) (aC F sc.names) x:=by
 rw[Z3]at h3
 refine aO h3 λh0 h3=>?_
 refine⟨λenv g he=>?_,λenv he=>?_,λp hp=>?_,hk,λx hx hl=>?_,one,psh,by simpa using h0⟩
 ·have z:=nL (env:=env) (lk:= λx=>F.cells.lookup x) (g:=g) (λx j hj=>by rw[he];exact iv hj) sc.names [] h1
  unfold closureFor
  show((forIn sc.names (([]:List (Str×Nat)).map λp=>(p.1,g p.2)) (λx cs=>(if x.2==NameKind.free then do let a←cellOf env x.1;pure (.yield ((x.1,a)::cs))else pure (.yield cs):Sem (ForInStep (List (Str×Addr))))):Sem (List (Str×Addr))) >>= λs=>pure s)=_
  rw[z]
  rfl
 ·unfold fq aZ Env.kindOf
  rw[he]
 ·have go:∀(names:List (Str×NameKind))(acc:List (Str×Nat)),(∀x∈names,x.2=.free→(F.cells.lookup x.1).isSome=true)→(∀q∈acc,q∈F.cells)→∀q∈names.foldl (λcs x=>if x.2==NameKind.free then(x.1,(F.cells.lookup x.1).getD 0)::cs else cs) acc,q∈F.cells:=by
   intro names
   induction names with
   |nil=>intro acc _ h;exact h
   |cons x names ih=>
    intro acc hf h
    rw[Zv]
    by_cases q:x.2=.free
    ·refine bp (Option.isSome_iff_exists.mp (hf x (.head _) q)) λj hj=>?_
     rw[if_pos (by simpa using q),hj]
     refine ih _ (λy hy=>hf y (.tail _ hy)) λq hq=>?_
     rcases ZI.mp hq with rfl|hq
     ·exact oi hj
     ·exact h q hq
    ·rw[if_neg (by simpa using q)]
     exact ih _ (λy hy=>hf y (.tail _ hy)) h
  exact go sc.names [] h1 (λq hq=>by cases hq) p hp
 ·have:=ZG.mp h3 x hx
  rw[hl]at this
  simpa using this
theorem iy{names:List (Str×NameKind)}(h:(names.all λx=>x.2 != .free||((F.cells.lookup x.1).isSome))=true):∀x∈names,x.2=.free→(F.cells.lookup x.1).isSome=true:= λx hx hf=>by
 have:=ZG.mp h x hx
 rw[hf]at this
 simpa using this
noncomputable def qe(nm:Str)(q1 q2 q3 q4 q5 q6 q7 q8:Pos)(t1 t2:Nat)(q9 q10 q11:Pos)(sc:Scope)(q12:Pos):Expr:=.ListComp (.Name "need" q1) [⟨.Name "need" q2,.Name nm q3,[.Compare (.Subscript (.Name "need" q4) (.Constant (.int 0) t1 q5) q6) [.Eq] [.Subscript (.Name "row" q7) (.Constant (.int 0) t2 q8) q9] q10],0⟩] sc q12
structure Im(sc scA scB:Scope):Prop where
 s1:∀n,qp (aG n) sc (aZ (aG n) sc) (aC (aG n) sc.names) "row"
 k1:∀n,(aZ (aG n) sc).kind=.function
 r1:∀n,(aZ (aG n) sc).names.lookup ("row":Str)=some .cell∧(aZ (aG n) sc).names.lookup ("old":Str)=some .cell∧(aZ (aG n) sc).names.lookup ("new":Str)=some .cell∧(aC (aG n) sc.names).lookup ("old":Str)=some (n+0)∧(aC (aG n) sc.names).lookup ("new":Str)=some (n+1)
 sA:∀n J,cz ⟨aZ (aG n) sc,("row",J)::aC (aG n) sc.names⟩ scA (aZ ⟨aZ (aG n) sc,("row",J)::aC (aG n) sc.names⟩ scA) (aC ⟨aZ (aG n) sc,("row",J)::aC (aG n) sc.names⟩ scA.names)
 sB:∀n J,cz ⟨aZ (aG n) sc,("row",J)::aC (aG n) sc.names⟩ scB (aZ ⟨aZ (aG n) sc,("row",J)::aC (aG n) sc.names⟩ scB) (aC ⟨aZ (aG n) sc,("row",J)::aC (aG n) sc.names⟩ scB.names)
 kA:∀n J,(aZ ⟨aZ (aG n) sc,("row",J)::aC (aG n) sc.names⟩ scA).kind=.function∧(aZ ⟨aZ (aG n) sc,("row",J)::aC (aG n) sc.names⟩ scA).names.lookup ("need":Str)=some .local∧(aZ ⟨aZ (aG n) sc,("row",J)::aC (aG n) sc.names⟩ scA).names.lookup ("row":Str)=some .cell∧(aC ⟨aZ (aG n) sc,("row",J)::aC (aG n) sc.names⟩ scA.names).lookup ("row":Str)=some J
 kB:∀n J,(aZ ⟨aZ (aG n) sc,("row",J)::aC (aG n) sc.names⟩ scB).kind=.function∧(aZ ⟨aZ (aG n) sc,("row",J)::aC (aG n) sc.names⟩ scB).names.lookup ("need":Str)=some .local∧(aZ ⟨aZ (aG n) sc,("row",J)::aC (aG n) sc.names⟩ scB).names.lookup ("row":Str)=some .cell∧(aC ⟨aZ (aG n) sc,("row",J)::aC (aG n) sc.names⟩ scB.names).lookup ("row":Str)=some J
theorem BQ(kz:∀(sc scA scB:Scope)(p1 p2 p3 p4 p5 p6 p7 p8 p9 p10 p11 p12 p13 p14 p15:Pos)(t1 t2:Nat)(a1 a2 a3 a4 a5 a6 a7 a8:Pos)(ta tb:Nat)(a9 a10 a11 a12 b1 b2 b3 b4 b5 b6 b7 b8:Pos)(tc td:Nat)(b9 b10 b11 b12:Pos),(qP jV 2=.Assign [.Name "anew" p1] (.Call (.Name "sorted" p2) [.ListComp (.Subscript (.Name "row" p3) (.Constant (.int 0) t1 p4) p5) [⟨.Name "row" p6,.Subscript (.Name "books" p7) (.Constant (.int 0) t2 p8) p9,[.Compare (qe "old" a1 a2 a3 a4 a5 a6 a7 a8 ta tb a9 a10 a11 scA a12) [.NotEq] [qe "new" b1 b2 b3 b4 b5 b6 b7 b8 tc td b9 b10 b11 scB b12] p10],0⟩] sc p11] [] p12) p13∧Im sc scA scB)→Gz):Gz:=by
 refine kz _ _ _ _ _ _ _ _ _ _ _ _ _ _ _ _ (⟨0,0,0,0⟩) (⟨0,0,0,0⟩) _ _ _ _ _ _ _ _ _ _ _ _ _ _ (⟨0,0,0,0⟩) _ _ _ _ _ _ _ _ _ _ _ _ _ (⟨0,0,0,0⟩) _ ⟨by k_dflt rfl,?_⟩
 refine⟨λn=>qm (iy (by w_on)) (by w_on) (by w_on) (λn acc=>by w_on) (λh=>by w_on),λn=>by w_on,λn=>⟨by w_on,by w_on,by w_on,by w_on,by w_on⟩,λn J=>dU (iy (by w_on)) (by w_on) (by w_on) (by w_on),λn J=>dU (iy (by w_on)) (by w_on) (by w_on) (by w_on),λn J=>⟨by w_on,by w_on,by w_on,by w_on⟩,λn J=>⟨by w_on,by w_on,by w_on,by w_on⟩⟩
noncomputable def φH(H:List AO)(f:Str×Str→Bool):AV→Bool
 | .obj j=>match H[j]? with
  |some (.tuple [.str a,.str b])=>f (a,b)
  |_=>false
 |_=>false
theorem φH_at{f:Str×Str→Bool}(h:H[j]?=some (.tuple [.str p.1,.str p.2])):φH H f (.obj j)=f p:=by
 unfold φH
 dsimp only
 rw[h]
theorem φH_filter{H:List AO}{f:Str×Str→Bool}:∀{js:List Nat}{ps:List (Str×Str)},aN H js ps→∃us,(js.map AV.obj).filter (φH H f)=us.map AV.obj∧aN H us (ps.filter f)
 | [],[],_=>bO [] rfl rfl λi j p h=>by simp at h
 | [],p::ps,h=>absurd h.1 (by simp)
 |j::js,[],h=>absurd h.1 (by simp)
 |j::js,p::ps,h=>by
  have h':aN H js ps:=⟨by have:=h.1;simpa using this,λi x q a b=>h.2 (i+1) x q (by simpa using a) (by simpa using b)⟩
  refine aj (φH_filter (f:=f) h') λus e g=>?_
  have t:=h.2 0 j p rfl rfl
  rw[ZZ,Z5,φH_at t,Z5]
  cases hf:f p with
  |false=>exact al us e g
  |true=>
   refine bO (j::us) (by simp[e]) (by simp[g.1]) λi x q a b=>?_
   cases i with
   |zero=>simp at a b;subst a b;exact t
   |succ i=>exact g.2 i x q (by simpa using a) (by simpa using b)
noncomputable def kT(r:Str)(p:Str×Str):Bool:=p.1.cps.toList==r.cps.toList
theorem wC(G:c.Go)(h100:100≤k)(hk:F.scope.kind=.function){nm:Str}{q1 q2 q3 q4 q5 q6 q7 q8 q9 q10 q11 q12:Pos}{t1 t2:Nat}(S:cz F sc (aZ F sc) (aC F sc.names)){q Lq rj:Nat}{r0:Str}{rs:List Str}{ps:List (Str×Str)}
  (kA:(aZ F sc).kind=.function∧(aZ F sc).names.lookup ("need":Str)=some .local∧(aZ F sc).names.lookup ("row":Str)=some .cell∧(aC F sc.names).lookup ("row":Str)=some J)
  (hn:F.scope.names.lookup nm=some .cell)(hc:F.cells.lookup nm=some q)(hd:(nm==("__debug__":Str))=false)(hq:H[q]?=some (.cell (some (.obj Lq))))(hL:H[Lq]?=some (.list (js.map .obj)))(hp:aN H js ps)(hz:ps.length<900)(hJ:H[J]?=some (.cell (some (.obj rj))))(hr:H[rj]?=some (.list ((r0::rs).map .str))):
  ∃us,Ev c F k (qe nm q1 q2 q3 q4 q5 q6 q7 q8 t1 t2 q9 q10 q11 sc q12) ⟨l,H⟩ (.obj H.length) ⟨l,H++[AO.list (us.map .obj)]⟩∧aN H us (ps.filter (kT r0)):=by
 refine br λGz kz=>?_
 refine oD kA λk1 k2 k3 k4=>?_
 refine aj (φH_filter (f:=kT r0) hp) λus e g=>?_
 refine kz ?_
 refine al us ?_ g
 rw[←e]
 have ki:(Fs.mk (aZ F sc) (aC F sc.names)).scope.kind=.function:=k1
 refine qY (σ₁:=⟨l,H⟩) (T:=Lq) G h100 S ki k2 (by decide) (λ_ _=>rfl) (dK hk hn hc hq hd) hL (by simp;rw[hp.1];exact hz) λv l' done hv hl=>?_
 refine aj (ZR.mp hv) λj hj z0=>?_;subst z0
 refine mI (Zh.mp hj) λi hi ei=>?_
 have i2:i<ps.length:=by rw[←hp.1];exact hi
 have t:=hp.2 i js[i] ps[i] (zG hi) (zG i2)
 rw[ei]at t
 rw[φH_at t]
 have c1:Ev c ⟨aZ F sc,aC F sc.names⟩ k (.Subscript (.Name "need" q4) (.Constant (.int 0) t1 q5) q6) ⟨l',H++[AO.list done]⟩ (.str ps[i].1) ⟨l',H++[AO.list done]⟩:=
  zM (i:=0) (by decide) (λ_ _=>rfl) (λ_ _=>rfl) (aa ki k2 hl) aJ (aB t) rfl
 have c2:Ev c ⟨aZ F sc,aC F sc.names⟩ k (.Subscript (.Name "row" q7) (.Constant (.int 0) t2 q8) q9) ⟨l',H++[AO.list done]⟩ (.str r0) ⟨l',H++[AO.list done]⟩:=
  cW (i:=0) (by lia) (by lia) (λ_ _=>rfl) (λ_ _=>rfl) (dK ki k3 k4 (aB hJ) (by decide)) aJ (aB hr) rfl
 exact av rfl c1 c2 (ek rfl)
noncomputable def qQ(so sn:List (Str×Str))(r:Str):Bool:=!decide (so.filter (kT r)=sn.filter (kT r))
noncomputable def sw(r:List Str):Str:=r.headD ""
structure D1(H0:List AO)(n T Lo Ln:Nat)(rjs:List Nat)(rows:List (List Str))(so sn:List (Str×Str)):Prop where
 o:H0[n+0]?=some (.cell (some (.obj Lo)))
 n:H0[n+1]?=some (.cell (some (.obj Ln)))
 po:cR H0 Lo so
 pn:cR H0 Ln sn
 t:H0[T]?=some (.list (rjs.map .obj))
 l:rjs.length=rows.length
 r:∀(i j:Nat)(r:List Str),rjs[i]?=some j→rows[i]?=some r→H0[j]?=some (AO.list (r.map .str))
 ne:∀r∈rows,r≠[]
 z:rows.length<100
 zo:so.length<900
 zn:sn.length<900
section
variable{Lo Ln:Nat}{rjs:List Nat}{rows:List (List Str)}
theorem yr(G:c.Go)(h100:100≤k){scA scB:Scope}(S:Im sc scA scB){p10 p11:Pos}{t1:Nat}{a1 a2 a3 a4 a5 a6 a7 a8:Pos}{ta tb:Nat}{a9 a10 a11 a12 b1 b2 b3 b4 b5 b6 b7 b8:Pos}{tc td:Nat}{b9 b10 b11 b12:Pos}
  (hg:gens=[⟨.Name "row" p6,iter,[.Compare (qe "old" a1 a2 a3 a4 a5 a6 a7 a8 ta tb a9 a10 a11 scA a12) [.NotEq] [qe "new" b1 b2 b3 b4 b5 b6 b7 b8 tc td b9 b10 b11 scB b12] p10],0⟩])(d:D1 H0 n T Lo Ln rjs rows so sn):
  ∀(rest:List (List Str))(i:Nat)(done:List Str)(l:List (Str×AV))(H:List AO)(v0:Option AV),rows.drop i=rest→done.length≤i→(∀(y:Nat)(o:AO),H0[y]?=some o→H[y]?=some o)→H[H0.length]?=some (.list (done.map .str))→H[H0.length+1]?=some (.cell v0)→
   ∃l' H',CL c ⟨aZ (aG n) sc,("row",H0.length+1)::aC (aG n) sc.names⟩ k (.Subscript (.Name "row" p3) (.Constant (.int 0) t1 p4) p5) gens sc p11 0 (aR T (rjs.map .obj)) H0.length i ⟨l,H⟩ ⟨l',H'⟩∧H'[H0.length]?=some (.list ((done++(rest.filter λr=>qQ so sn (sw r)).map sw).map .str))∧∀(y:Nat)(o:AO),H0[y]?=some o→H'[y]?=some o:=by
 refine bb (H0.length) λJ eJ=>?_
 rw[←eJ]
 have ki:(Fs.mk (aZ (aG n) sc) (("row",J+1)::aC (aG n) sc.names)).scope.kind=.function:=S.k1 n
 refine uO (S.r1 n) λr1 r2 r3 r4 r5=>?_
 have cr:(Fs.mk (aZ (aG n) sc) (("row",J+1)::aC (aG n) sc.names)).cells.lookup ("row":Str)=some (J+1):=by show YB _ (_::_)=_;rw[ZD];rfl
 have co:(Fs.mk (aZ (aG n) sc) (("row",J+1)::aC (aG n) sc.names)).cells.lookup ("old":Str)=some (n+0):=by show YB _ (_::_)=_;rw[ZD,show(("old":Str)==("row":Str))=false by decide];exact r4
 have cn:(Fs.mk (aZ (aG n) sc) (("row",J+1)::aC (aG n) sc.names)).cells.lookup ("new":Str)=some (n+1):=by show YB _ (_::_)=_;rw[ZD,show(("new":Str)==("row":Str))=false by decide];exact r5
 intro rest
 induction rest with
 |nil=>
  intro i done l H v0 hd hl kp hJ hc
  subst hg
  refine fk l H (iL (σ:=⟨l,H⟩) (I:=aR T (rjs.map .obj)) az rfl rfl (λ_ _=>rfl) h100 (kp _ _ d.t) ?_) (by simpa using hJ) kp
  show(rjs.map AV.obj)[i]?=none
  rw[ZC,ZS,d.l]
  exact ZL.mp hd
 |cons r rest ih=>
  intro i done l H v0 hd hl kp hJ hc
  have hp:rows[i]?=some r:=by
   have:(rows.drop i)[0]?=some r:=by rw[hd];rfl
   rwa[Z1,Zq]at this
  have hd1:rows.drop (i+1)=rest:=by
   have:(rows.drop i).drop 1=rest:=by rw[hd];rfl
   rwa[Zp]at this
  have il:=aq hp
  have il2:i<rjs.length:=by rw[d.l];exact il
  have hj:rjs[i]?=some rjs[i]:=zG il2
  have row:=kp _ _ (d.r i rjs[i] r hj hp)
  have rne:=d.ne r (Zg hp)
  refine br λGz kz=>?_
  obtain⟨r0,rs,er⟩:∃r0 rs,r=r0::rs:=by cases r with|nil=>exact absurd rfl rne|cons a b=>exact rX a b rfl
  have eh:sw r=r0:=by rw[er];rfl
  rw[er]at row
  have lt0:∀{y:Nat}{o:AO},H0[y]?=some o→y<J:= λh=>eJ▸aq h
  refine bb (H.set (J+1) (.cell (some (.obj rjs[i])))) λH1 e1=>?_
  have k1:∀(y:Nat)(o:AO),y≠J+1→H[y]?=some o→H1[y]?=some o:= λy o hy h=>by rw[e1];exact ak h hy
  have kp1:∀(y:Nat)(o:AO),H0[y]?=some o→H1[y]?=some o:= λy o h=>k1 y o (by have:=lt0 h;lia) (kp y o h)
  have c1:H1[J+1]?=some (.cell (some (.obj rjs[i]))):=by rw[e1];exact bH (aq hc)
  have row1:H1[rjs[i]]?=some (.list ((r0::rs).map .str)):=k1 _ _ (by have:=lt0 (d.r i rjs[i] r hj hp);lia) row
  have hJ1:=k1 _ _ (by lia) hJ
  refine aj (d.po) λjs o1 o2=>?_
  refine aj (d.pn) λus u1 u2=>?_
  refine aj (wC (l:=l) (H:=H1) (F:=⟨aZ (aG n) sc,("row",J+1)::aC (aG n) sc.names⟩) (k:=k) (nm:="old") (q1:=a1) (q2:=a2) (q3:=a3) (q4:=a4) (q5:=a5) (q6:=a6) (q7:=a7) (q8:=a8) (q9:=a9) (q10:=a10) (q11:=a11) (q12:=a12) (t1:=ta) (t2:=tb) G h100 ki (S.sA n (J+1)) (S.kA n (J+1)) r2 co (by decide) (kp1 _ _ d.o) (kp1 _ _ o1) (o2.ext kp1) d.zo c1 row1) λxs ev1 px=>?_
  refine bb (H1++[AO.list (xs.map .obj)]) λH2 e2=>?_
  have x12:bW H1 H2:= λy o h=>by rw[e2];exact aB h
  have kp2:∀(y:Nat)(o:AO),H0[y]?=some o→H2[y]?=some o:= λy o h=>x12 _ _ (kp1 y o h)
  rw[←e2]at ev1
  refine aj (wC (l:=l) (H:=H2) (F:=⟨aZ (aG n) sc,("row",J+1)::aC (aG n) sc.names⟩) (k:=k) (nm:="new") (q1:=b1) (q2:=b2) (q3:=b3) (q4:=b4) (q5:=b5) (q6:=b6) (q7:=b7) (q8:=b8) (q9:=b9) (q10:=b10) (q11:=b11) (q12:=b12) (t1:=tc) (t2:=td) G h100 ki (S.sB n (J+1)) (S.kB n (J+1)) r3 cn (by decide) (kp2 _ _ d.n) (kp2 _ _ u1) (u2.ext kp2) d.zn (x12 _ _ c1) (x12 _ _ row1)) λys ev2 py=>?_
  refine bb (H2++[AO.list (ys.map .obj)]) λH3 e3=>?_
  refine kz ?_
  have x23:bW H2 H3:= λy o h=>by rw[e3];exact aB h
  rw[←e3]at ev2
  have kp3:∀(y:Nat)(o:AO),H0[y]?=some o→H3[y]?=some o:= λy o h=>x23 _ _ (kp2 y o h)
  have lx:H3[H1.length]?=some (.list (xs.map .obj)):=by rw[e3,e2];exact aB aP
  have ly:H3[H2.length]?=some (.list (ys.map .obj)):=by rw[e3];exact aP
  have hJ3:=x23 _ _ (x12 _ _ hJ1)
  have c3:=x23 _ _ (x12 _ _ c1)
  have row3:=x23 _ _ (x12 _ _ row1)
  have tst:yR c ⟨aZ (aG n) sc,("row",J+1)::aC (aG n) sc.names⟩ k [.Compare (qe "old" a1 a2 a3 a4 a5 a6 a7 a8 ta tb a9 a10 a11 scA a12) [.NotEq] [qe "new" b1 b2 b3 b4 b5 b6 b7 b8 tc td b9 b10 b11 scB b12] p10] ⟨l,H1⟩ (qQ so sn r0) ⟨l,H3⟩:=
   av rfl ev1 ev2 (zJ lx ly (px.ext λy o h=>x23 _ _ (x12 _ _ h)) (py.ext x23) rfl)
  have as1:As c ⟨aZ (aG n) sc,("row",J+1)::aC (aG n) sc.names⟩ k (.Name "row" p6) (.obj rjs[i]) ⟨l,H⟩ ⟨l,H1⟩:=by rw[e1];exact wi (σ:=⟨l,H⟩) ki r1 cr hc
  have ai:(aR T (rjs.map .obj)).items[i]?=some (.obj rjs[i]):=by
   show(rjs.map AV.obj)[i]?=_
   rw[ZK,hj];rfl
  cases ht:qQ so sn r0 with
  |true=>
   rw[ht]at tst
   have el:Ev c ⟨aZ (aG n) sc,("row",J+1)::aC (aG n) sc.names⟩ k (.Subscript (.Name "row" p3) (.Constant (.int 0) t1 p4) p5) ⟨l,H3⟩ (.str r0) ⟨l,H3⟩:=
    cW (i:=0) (by lia) (by lia) (λ_ _=>rfl) (λ_ _=>rfl) (dK ki r1 cr c3 (by decide)) aJ row3 rfl
   refine ct (ih (i+1) (done++[r0]) l (H3.set J (.list ((done++[r0]).map .str))) (some (.obj rjs[i])) hd1 (by simp;lia) (λy o h=>ak (kp3 y o h) (by have:=lt0 h;lia)) (bH (aq hJ3)) (ak c3 (by lia))) λl' H' h1 h2 h3=>?_
   refine fk l' H' ?_ ?_ h3
   ·subst hg
    refine fM (σ:=⟨l,H⟩) (I:=aR T (rjs.map .obj)) (σ₁:=⟨l,H1⟩) (σ₂:=⟨l,H3⟩) (σ₃:=⟨l,H3⟩) (v:=.str r0) (acc:=done.map .str) G.ok az rfl rfl (λ_ _=>rfl) (kp _ _ d.t) ai as1 tst el hJ3 (by simp;have:=d.z;lia) ?_
    rw[show done.map AV.str++[AV.str r0]=(done++[r0]).map .str by simp]
    exact h1
   ·rw[h2,Z5]
    simp only[eh,ht,if_true]
    simp[eh]
  |false=>
   rw[ht]at tst
   refine ct (ih (i+1) done l H3 (some (.obj rjs[i])) hd1 (by lia) kp3 hJ3 c3) λl' H' h1 h2 h3=>?_
   refine fk l' H' ?_ ?_ h3
   ·subst hg
    exact mX (σ:=⟨l,H⟩) (I:=aR T (rjs.map .obj)) (σ₁:=⟨l,H1⟩) (σ₂:=⟨l,H3⟩) G.ok az rfl rfl (λ_ _=>rfl) (kp _ _ d.t) ai as1 tst h1
   ·rw[h2,Z5]
    simp[eh,ht]
end
noncomputable def kJ:=d7 jV 3
structure HK(sc scI:Scope):Prop where
 s:∀n,cz (aG n) sc (aZ (aG n) sc) (aC (aG n) sc.names)
 k:∀n,(aZ (aG n) sc).kind=.function∧(aZ (aG n) sc).names.lookup ("row":Str)=some .local∧(aZ (aG n) sc).names.lookup ("anew":Str)=some .cell∧(aC (aG n) sc.names).lookup ("anew":Str)=some (n+2)
 sI:∀n,cz ⟨aZ (aG n) sc,aC (aG n) sc.names⟩ scI (aZ ⟨aZ (aG n) sc,aC (aG n) sc.names⟩ scI) (aC ⟨aZ (aG n) sc,aC (aG n) sc.names⟩ scI.names)
 kI:∀n,(aZ ⟨aZ (aG n) sc,aC (aG n) sc.names⟩ scI).kind=.function∧(aZ ⟨aZ (aG n) sc,aC (aG n) sc.names⟩ scI).names.lookup ("need":Str)=some .local∧(aZ ⟨aZ (aG n) sc,aC (aG n) sc.names⟩ scI).names.lookup ("anew":Str)=some .cell∧(aC ⟨aZ (aG n) sc,aC (aG n) sc.names⟩ scI.names).lookup ("anew":Str)=some (n+2)
theorem Cn(kz:∀(sc scI:Scope)(p1 p2 p3 p4 p5 p6 p7 p8 p9 p11 p12 p13:Pos)(t0 t3:Nat)(a1 a2 a3 a4 a5 b1 b2 b3 b4 b5 b6 b7 b8 b9 b10 b11 b12 e1:Pos)(t1 t2:Nat),(kJ=[.Assign [.Name "anew" p1] (.Call (.Name "sorted" p2) [.ListComp (.Subscript (.Name "row" p3) (.Constant (.int 0) t0 p4) p5) [⟨.Name "row" p6,.Subscript (.Name "books" p7) (.Constant (.int 1) t3 p8) p9,[.BoolOp .Or [.Compare (.Subscript (.Name "row" a1) (.Constant (.int 0) t1 a2) a3) [.In] [.Name "anew" a4] a5,.Compare (.ListComp (.Name "need" b1) [⟨.Name "need" b2,.Subscript (.Name "row" b3) (.Slice (some (.Constant (.int 1) t2 b4)) none none b5) b6,[.Compare (.Name "need" b7) [.In] [.Name "anew" b8] b9],0⟩] scI b10) [.NotEq] [.List [] b11] b12] e1],0⟩] sc p11] [] p12) p13]∧HK sc scI)→Gz):Gz:=by
 refine kz _ _ _ _ _ _ _ _ _ _ _ _ _ _ _ _ _ _ _ _ _ _ _ _ _ _ _ _ _ _ _ _ _ _ _ _ ⟨by k_dflt rfl,?_⟩
 exact⟨λn=>dU (iy (by w_on)) (by w_on) (by w_on) (by w_on),λn=>⟨by w_on,by w_on,by w_on,by w_on⟩,λn=>dU (iy (by w_on)) (by w_on) (by w_on) (by w_on),λn=>⟨by w_on,by w_on,by w_on,by w_on⟩⟩
noncomputable def mE(an:List Str):AV→Bool
 | .str y=>an.contains y
 |_=>false
noncomputable def mF(an:List Str)(r:List Str):Bool:=an.contains (sw r)||!(((r.drop 1).map AV.str).filter (mE an)).isEmpty
structure D2(H0:List AO)(n T AN:Nat)(rjs:List Nat)(rows:List (List Str))(an:List Str):Prop where
 a:H0[n+2]?=some (.cell (some (.obj AN)))
 an:H0[AN]?=some (.list (an.map .str))
 t:H0[T]?=some (.list (rjs.map .obj))
 l:rjs.length=rows.length
 r:∀(i j:Nat)(r:List Str),rjs[i]?=some j→rows[i]?=some r→H0[j]?=some (AO.list (r.map .str))
 ne:∀r∈rows,r≠[]∧r.length<500
 z:rows.length<100
section
variable{AN:Nat}{rjs:List Nat}{rows:List (List Str)}{an:List Str}
theorem xJ(G:c.Go)(h100:100≤k){scI:Scope}(S:HK sc scI){p11:Pos}{t0:Nat}{a1 a2 a3 a4 a5 b1 b2 b3 b4 b5 b6 b7 b8 b9 b10 b11 b12 e1:Pos}{t1 t2:Nat}
  (hg:gens=[⟨.Name "row" p6,iter,[.BoolOp .Or [.Compare (.Subscript (.Name "row" a1) (.Constant (.int 0) t1 a2) a3) [.In] [.Name "anew" a4] a5,.Compare (.ListComp (.Name "need" b1) [⟨.Name "need" b2,.Subscript (.Name "row" b3) (.Slice (some (.Constant (.int 1) t2 b4)) none none b5) b6,[.Compare (.Name "need" b7) [.In] [.Name "anew" b8] b9],0⟩] scI b10) [.NotEq] [.List [] b11] b12] e1],0⟩])(d:D2 H0 n T AN rjs rows an):
  ∀(rest:List (List Str))(i:Nat)(done:List Str)(l:List (Str×AV))(H:List AO),rows.drop i=rest→done.length≤i→(∀(y:Nat)(o:AO),H0[y]?=some o→H[y]?=some o)→H[H0.length]?=some (.list (done.map .str))→
   ∃l' H',CL c ⟨aZ (aG n) sc,aC (aG n) sc.names⟩ k (.Subscript (.Name "row" p3) (.Constant (.int 0) t0 p4) p5) gens sc p11 0 (aR T (rjs.map .obj)) H0.length i ⟨l,H⟩ ⟨l',H'⟩∧H'[H0.length]?=some (.list ((done++(rest.filter (mF an)).map sw).map .str))∧∀(y:Nat)(o:AO),H0[y]?=some o→H'[y]?=some o:=by
 refine bb (H0.length) λJ eJ=>?_
 rw[←eJ]
 refine br λGz kz=>?_
 refine oD (S.k n) λk0 k1 k2 k3=>?_
 refine oD (S.kI n) λi0 i1 i2 i3=>?_
 refine kz ?_
 have ki:(Fs.mk (aZ (aG n) sc) (aC (aG n) sc.names)).scope.kind=.function:=k0
 have kj:(Fs.mk (aZ ⟨aZ (aG n) sc,aC (aG n) sc.names⟩ scI) (aC ⟨aZ (aG n) sc,aC (aG n) sc.names⟩ scI.names)).scope.kind=.function:=i0
 intro rest
 induction rest with
 |nil=>
  intro i done l H hd hl kp hJ
  subst hg
  refine fk l H (iL (σ:=⟨l,H⟩) (I:=aR T (rjs.map .obj)) az rfl rfl (λ_ _=>rfl) h100 (kp _ _ d.t) ?_) (by simpa using hJ) kp
  show(rjs.map AV.obj)[i]?=none
  rw[ZC,ZS,d.l]
  exact ZL.mp hd
 |cons r rest ih=>
  intro i done l H hd hl kp hJ
  have hp:rows[i]?=some r:=by
   have:(rows.drop i)[0]?=some r:=by rw[hd];rfl
   rwa[Z1,Zq]at this
  have hd1:rows.drop (i+1)=rest:=by
   have:(rows.drop i).drop 1=rest:=by rw[hd];rfl
   rwa[Zp]at this
  have il:=aq hp
  have il2:i<rjs.length:=by rw[d.l];exact il
  have hj:rjs[i]?=some rjs[i]:=zG il2
  have row:=kp _ _ (d.r i rjs[i] r hj hp)
  refine aO (d.ne r (Zg hp)) λrne rz=>?_
  obtain⟨r0,rs,er⟩:∃r0 rs,r=r0::rs:=by cases r with|nil=>exact absurd rfl rne|cons a b=>exact rX a b rfl
  have eh:sw r=r0:=by rw[er];rfl
  rw[er]at row
  have rz':rs.length<500:=by rw[er]at rz;simp at rz;lia
  let l1:List (Str×AV):=aS ("row":Str) (.obj rjs[i]) l
  have lr:l1.lookup ("row":Str)=some (.obj rjs[i]):=ah _ _ _
  have lt0:∀{y:Nat}{o:AO},H0[y]?=some o→y<J:= λh=>eJ▸aq h
  have ai:(aR T (rjs.map .obj)).items[i]?=some (.obj rjs[i]):=by
   show(rjs.map AV.obj)[i]?=_
   rw[ZK,hj];rfl
  have rd0:∀{H:List AO}{p1 p2 p3:Pos}{t:Nat},H[rjs[i]]?=some (.list ((r0::rs).map .str))→Ev c ⟨aZ (aG n) sc,aC (aG n) sc.names⟩ k (.Subscript (.Name "row" p1) (.Constant (.int 0) t p2) p3) ⟨l1,H⟩ (.str r0) ⟨l1,H⟩:= λ{H p1 p2 p3 t} h=>
   cW (i:=0) (by lia) (by lia) (λ_ _=>rfl) (λ_ _=>rfl) (aa ki k1 lr) aJ h rfl
  have t1':∀{t:Bool},an.contains r0=t→Te c ⟨aZ (aG n) sc,aC (aG n) sc.names⟩ k (.Compare (.Subscript (.Name "row" a1) (.Constant (.int 0) t1 a2) a3) [.In] [.Name "anew" a4] a5) ⟨l1,H⟩ t ⟨l1,H⟩:= λht=>
   av rfl (rd0 row) (dK ki k2 k3 (kp _ _ d.a) (by decide)) (lH (kp _ _ d.an) ht)
  refine br λGz kz=>?_
  obtain⟨H3,x3,tst⟩:∃H3,bW H H3∧yR c ⟨aZ (aG n) sc,aC (aG n) sc.names⟩ k [.BoolOp .Or [.Compare (.Subscript (.Name "row" a1) (.Constant (.int 0) t1 a2) a3) [.In] [.Name "anew" a4] a5,.Compare (.ListComp (.Name "need" b1) [⟨.Name "need" b2,.Subscript (.Name "row" b3) (.Slice (some (.Constant (.int 1) t2 b4)) none none b5) b6,[.Compare (.Name "need" b7) [.In] [.Name "anew" b8] b9],0⟩] scI b10) [.NotEq] [.List [] b11] b12] e1] ⟨l1,H⟩ (mF an r) ⟨l1,H3⟩:=by
   have eH:mF an r=(an.contains r0||!((rs.map AV.str).filter (mE an)).isEmpty):=by unfold mF;rw[eh,er];rfl
   rw[eH]
   cases hc:an.contains r0 with
   |true=>exact al H (λy o h=>h) (gA (t1' hc))
   |false=>
    refine bb (H++[AO.list (rs.map .str)]) λH1 e1=>?_
    have x1:bW H H1:= λy o h=>by rw[e1];exact aB h
    have sl:=fF (c:=c) (F:=⟨aZ (aG n) sc,aC (aG n) sc.names⟩) (k:=k) (σ:=⟨l1,H⟩) (σ₁:=⟨l1,H⟩) (σ₂:=⟨l1,H⟩) (σ₃:=⟨l1,H⟩) (σ₄:=⟨l1,H⟩) (value:=.Name "row" b3) (lower:=some (.Constant (.int 1) t2 b4)) (upper:=none) (step:=none) (p:=b5) (pos:=b6) (j:=rjs[i]) (vs:=(r0::rs).map .str) (l:=some 1) (u:=none) (t:=none) (v':=rs.map .str) (by simp;lia) (by simp) (λ_ _=>⟨_,rfl⟩) (aa ki k1 lr) (e9 aJ) dm dm row (λρ n its h=>j6 h)
    rw[show(St.H ⟨l1,H⟩)++[AO.list (rs.map .str)]=H1 from e1.symm]at sl
    have lH1:H1[H.length]?=some (.list (rs.map .str)):=by rw[e1];exact aP
    have kI:=qY (F:=⟨aZ (aG n) sc,aC (aG n) sc.names⟩) (k:=k) (σ:=⟨l1,H⟩) (σ₁:=⟨l1,H1⟩) (T:=H.length) (vs:=rs.map .str) (px:=b2) (pe:=b1) (pos:=b10) (φ:=mE an) (ifs:=[.Compare (.Name "need" b7) [.In] [.Name "anew" b8] b9]) G h100 (S.sI n) kj i1 (by decide) (λ_ _=>rfl) sl lH1 (by simp;lia) λv l' done hv hl=>by
     refine aj (ZR.mp hv) λy _ z0=>?_;subst z0
     exact av rfl (aa kj i1 hl) (dK kj i2 i3 (aB (x1 _ _ (kp _ _ d.a))) (by decide)) (lH (aB (x1 _ _ (kp _ _ d.an))) rfl)
    refine bb (H1++[AO.list ((rs.map AV.str).filter (mE an))]) λH2 e2=>?_
    rw[show(St.H ⟨l1,H1⟩)++[AO.list ((rs.map AV.str).filter (mE an))]=H2 from e2.symm]at kI
    refine bb (H2++[AO.list []]) λH3 e3=>?_
    have el:Ev c ⟨aZ (aG n) sc,aC (aG n) sc.names⟩ k (.List [] b11) ⟨l1,H2⟩ (.obj H2.length) ⟨l1,H3⟩:=by
     have z:=dM (c:=c) (F:=⟨aZ (aG n) sc,aC (aG n) sc.names⟩) (k:=k) (pos:=b11) (σ₁:=⟨l1,H2⟩) (vs:=[]) (by decide) au
     rw[e3];exact z
    have tt:∀{t:Bool},(!((rs.map AV.str).filter (mE an)).isEmpty)=t→Te c ⟨aZ (aG n) sc,aC (aG n) sc.names⟩ k (.Compare (.ListComp (.Name "need" b1) [⟨.Name "need" b2,.Subscript (.Name "row" b3) (.Slice (some (.Constant (.int 1) t2 b4)) none none b5) b6,[.Compare (.Name "need" b7) [.In] [.Name "anew" b8] b9],0⟩] scI b10) [.NotEq] [.List [] b11] b12) ⟨l1,H⟩ t ⟨l1,H3⟩:= λht=>
     av rfl kI el (rY (vs:=(rs.map AV.str).filter (mE an)) (by show H3[H1.length]?=_;rw[e3,e2];exact aB aP) (by show H3[H2.length]?=_;rw[e3];exact aP) ht)
    refine al H3 (λy o h=>by rw[e3,e2];exact aB (aB (x1 _ _ h))) ?_
    cases hh:(!((rs.map AV.str).filter (mE an)).isEmpty)with
    |true=>exact d9 (t1' hc) (gA (tt hh))
    |false=>exact d9 (t1' hc) (d9 (tt hh) jk)
  refine kz ?_
  have kp3:∀(y:Nat)(o:AO),H0[y]?=some o→H3[y]?=some o:= λy o h=>x3 _ _ (kp y o h)
  have hJ3:=x3 _ _ hJ
  cases ht:mF an r with
  |true=>
   rw[ht]at tst
   refine ct (ih (i+1) (done++[r0]) l1 (H3.set J (.list ((done++[r0]).map .str))) hd1 (by simp;lia) (λy o h=>ak (kp3 y o h) (by have:=lt0 h;lia)) (bH (aq hJ3))) λl' H' h1 h2 h3=>?_
   refine fk l' H' ?_ ?_ h3
   ·subst hg
    refine fM (σ:=⟨l,H⟩) (I:=aR T (rjs.map .obj)) (σ₁:=⟨l1,H⟩) (σ₂:=⟨l1,H3⟩) (σ₃:=⟨l1,H3⟩) (v:=.str r0) (acc:=done.map .str) G.ok az rfl rfl (λ_ _=>rfl) (kp _ _ d.t) ai (bg ki k1) tst (rd0 (x3 _ _ row)) hJ3 (by simp;have:=d.z;lia) ?_
    rw[show done.map AV.str++[AV.str r0]=(done++[r0]).map .str by simp]
    exact h1
   ·rw[h2,Z5]
    simp only[ht,if_true]
    simp[eh]
  |false=>
   rw[ht]at tst
   refine ct (ih (i+1) done l1 H3 hd1 (by lia) kp3 hJ3) λl' H' h1 h2 h3=>?_
   refine fk l' H' ?_ ?_ h3
   ·subst hg
    exact mX (σ:=⟨l,H⟩) (I:=aR T (rjs.map .obj)) (σ₁:=⟨l1,H⟩) (σ₂:=⟨l1,H3⟩) G.ok az rfl rfl (λ_ _=>rfl) (kp _ _ d.t) ai (bg ki k1) tst h1
   ·rw[h2,Z5]
    simp[ht]
end
structure iP(H:List AO)(T:Nat)(rjs:List Nat)(rows:List (List Str)):Prop where
 t:H[T]?=some (.list (rjs.map .obj))
 l:rjs.length=rows.length
 r:∀(i j:Nat)(r:List Str),rjs[i]?=some j→rows[i]?=some r→H[j]?=some (AO.list (r.map .str))
structure ub(H:List AO)(n BK T0 T1 Lo Ln:Nat)(r0 r1:List Nat)(ro rn:List (List Str))(so sn:List (Str×Str)):Prop where
 b:H[BK]?=some (.list [.obj T0,.obj T1])
 o:H[n+0]?=some (.cell (some (.obj Lo)))
 n:H[n+1]?=some (.cell (some (.obj Ln)))
 po:cR H Lo so
 pn:cR H Ln sn
 r0:iP H T0 r0 ro
 r1:iP H T1 r1 rn
theorem iP.keep{rjs:List Nat}{rows:List (List Str)}(x:iP H T rjs rows)(k:∀(y:Nat)(o:AO),o.lt=true→H[y]?=some o→H'[y]?=some o):iP H' T rjs rows:=⟨k _ _ rfl x.t,x.l,λi j r a b=>k _ _ rfl (x.r i j r a b)⟩
section
variable{BK T0 T1 Lo Ln:Nat}{r0 r1:List Nat}{rn:List (List Str)}
theorem ub.keep(d:ub H n BK T0 T1 Lo Ln r0 r1 ro rn so sn)(k:∀(y:Nat)(o:AO),o.lt=true→H[y]?=some o→H'[y]?=some o)(k0:H'[n+0]?=some (.cell (some (.obj Lo))))(k1:H'[n+1]?=some (.cell (some (.obj Ln)))):ub H' n BK T0 T1 Lo Ln r0 r1 ro rn so sn:=
 ⟨k _ _ rfl d.b,k0,k1,d.po.lt k,d.pn.lt k,d.r0.keep k,d.r1.keep k⟩
theorem ub.ext(d:ub H n BK T0 T1 Lo Ln r0 r1 ro rn so sn)(e:bW H H'):ub H' n BK T0 T1 Lo Ln r0 r1 ro rn so sn:=d.keep (λy o _ h=>e _ _ h) (e _ _ d.o) (e _ _ d.n)
theorem ub.cell(d:ub H n BK T0 T1 Lo Ln r0 r1 ro rn so sn){v0:Option AV}(hc:H[n+2]?=some (.cell v0))(v:Option AV):ub (H.set (n+2) (.cell v)) n BK T0 T1 Lo Ln r0 r1 ro rn so sn∧(∀(y:Nat)(o:AO),o.lt=true→H[y]?=some o→(H.set (n+2) (.cell v))[y]?=some o):=by
 have k:∀(y:Nat)(o:AO),o.lt=true→H[y]?=some o→(H.set (n+2) (.cell v))[y]?=some o:= λy o t h=>ak h (λq=>by rw[q,hc]at h;cases h;cases t)
 exact⟨d.keep k (ak d.o (by lia)) (ak d.n (by lia)),k⟩
theorem H8(G:c.Go)(hb:l.lookup ("books":Str)=some (.obj BK))(d:ub H n BK T0 T1 Lo Ln r0 r1 ro rn so sn){v0:Option AV}(hc:H[n+2]?=some (.cell v0))(ne:∀r∈ro,r≠[])(z:ro.length<64)(zo:so.length<900)(zn:sn.length<900)(hs:iJ ((ro.filter λr=>qQ so sn (sw r)).map sw) zs):
  ∃H' AN,Ex c (aG n) (k+101) (qP jV 2) ⟨l,H⟩ .next ⟨l,H'⟩∧ub H' n BK T0 T1 Lo Ln r0 r1 ro rn so sn∧H'[n+2]?=some (.cell (some (.obj AN)))∧H'[AN]?=some (.list (zs.map .str))∧∀(y:Nat)(o:AO),o.lt=true→H[y]?=some o→H'[y]?=some o:=by
 refine br λGz kz=>?_
 refine BQ λsc scA scB p1 p2 p3 p4 p5 p6 p7 p8 p9 p10 p11 p12 p13 p14 p15 t1 t2 a1 a2 a3 a4 a5 a6 a7 a8 ta tb a9 a10 a11 a12 b1 b2 b3 b4 b5 b6 b7 b8 tc td b9 b10 b11 b12 hz_=>?_
 refine aO hz_ λhst S=>?_
 have d1:D1 H n T0 Lo Ln r0 ro so sn:=⟨d.o,d.n,d.po,d.pn,d.r0.t,d.r0.l,d.r0.r,ne,by lia,zo,zn⟩
 have le:(H++[AO.list []]++[AO.cell none]).length=H.length+2:=by simp
 have l1:(H++[AO.list []]).length=H.length+1:=by simp
 refine ct (yr (k:=k+101) (p3:=p3) (p4:=p4) (p5:=p5) (p11:=p11) (t1:=t1) (gens:=[⟨.Name "row" p6,.Subscript (.Name "books" p7) (.Constant (.int 0) t2 p8) p9,[.Compare (qe "old" a1 a2 a3 a4 a5 a6 a7 a8 ta tb a9 a10 a11 scA a12) [.NotEq] [qe "new" b1 b2 b3 b4 b5 b6 b7 b8 tc td b9 b10 b11 scB b12] p10],0⟩]) G (by lia) S rfl d1 ro 0 [] [] (H++[AO.list []]++[AO.cell none]) none rfl (ZA _) (λy o h=>aB (aB h)) (aB aP) (by rw[←l1];exact aP)) λl' H1 cl hJ kp=>?_
 have ev:=zA (F:=aG n) (k:=k+101) (σ:=⟨l,H⟩) (σ₁:=⟨l,H⟩) (I:=aR T0 (r0.map .obj)) (loc':=l') (H':=H1) (a:=.obj T0) (rest:=[]) G.ok az (S.s1 n) (λ_ _=>rfl)
  (cW (i:=0) (by lia) (by lia) (λ_ _=>rfl) (λ_ _=>rfl) (aa (pos:=p7) (fW n) rfl hb) (aJ (q:=t2) (pos:=p8)) d.b rfl) (dZ d.r0.t) d.r0.t (aq hJ) @cl
 rw[List.nil_append]at hJ
 have e1:bW H H1:=kp
 have srt:=gu (c:=c) (F:=aG n) (k:=k+101) (σ:=⟨l,H1⟩) hJ (by rw[ZS];have:=Zc (λr=>qQ so sn (sw r)) ro;lia) hs
 refine bb (H1++[AO.list (zs.map .str)]) λH2 e2=>?_
 have x2:bW H1 H2:= λy o h=>by rw[e2];exact aB h
 rw[show(St.H ⟨l,H1⟩)++[AO.list (zs.map .str)]=H2 from e2.symm]at srt
 have hA:H2[H1.length]?=some (.list (zs.map .str)):=by rw[e2];exact aP
 have hc2:=x2 _ _ (e1 _ _ hc)
 refine aO ((d.ext (e1.trans x2)).cell hc2 (some (.obj H1.length))) λd3 k3=>?_
 refine kz ?_
 refine lz (H2.set (n+2) (.cell (some (.obj H1.length)))) H1.length ?_ d3 (bH (aq hc2)) (k3 _ _ rfl hA) λy o t h=>k3 _ _ t (x2 _ _ (e1 _ _ h))
 rw[hst]
 exact dS (σ₁:=⟨l,H2⟩) (fW n) (by w_on) (by w_on:(aG n).cells.lookup ("anew":Str)=some (n+2)) (λ_=>rfl) (dB (λ_=>rfl) (λ_=>rfl) (dg G (fW n) rfl (lJ _) jL) (af λ_=>rfl) (am (λ_=>rfl) ev au) srt) hc2
theorem DN(G:c.Go)(hb:l.lookup ("books":Str)=some (.obj BK))(d:ub H n BK T0 T1 Lo Ln r0 r1 ro rn so sn){AN:Nat}{an:List Str}(hc:H[n+2]?=some (.cell (some (.obj AN))))(hA:H[AN]?=some (.list (an.map .str)))(ne:∀r∈rn,r≠[]∧r.length<500)(z:rn.length<64)(hs:iJ ((rn.filter (mF an)).map sw) zs):
  ∃H' AN',dq c (aG n) (k+101) kJ ⟨l,H⟩ .next ⟨l,H'⟩∧ub H' n BK T0 T1 Lo Ln r0 r1 ro rn so sn∧H'[n+2]?=some (.cell (some (.obj AN')))∧H'[AN']?=some (.list (zs.map .str))∧∀(y:Nat)(o:AO),o.lt=true→H[y]?=some o→H'[y]?=some o:=by
 refine br λGz kz=>?_
 refine Cn λsc scI p1 p2 p3 p4 p5 p6 p7 p8 p9 p11 p12 p13 t0 t3 a1 a2 a3 a4 a5 b1 b2 b3 b4 b5 b6 b7 b8 b9 b10 b11 b12 e1' t1 t2 hz_=>?_
 refine aO hz_ λhst S=>?_
 have d2:D2 H n T1 AN r1 rn an:=⟨hc,hA,d.r1.t,d.r1.l,d.r1.r,ne,by lia⟩
 refine ct (xJ (k:=k+101) (p3:=p3) (p4:=p4) (p5:=p5) (p11:=p11) (t0:=t0) (gens:=[⟨.Name "row" p6,.Subscript (.Name "books" p7) (.Constant (.int 1) t3 p8) p9,[.BoolOp .Or [.Compare (.Subscript (.Name "row" a1) (.Constant (.int 0) t1 a2) a3) [.In] [.Name "anew" a4] a5,.Compare (.ListComp (.Name "need" b1) [⟨.Name "need" b2,.Subscript (.Name "row" b3) (.Slice (some (.Constant (.int 1) t2 b4)) none none b5) b6,[.Compare (.Name "need" b7) [.In] [.Name "anew" b8] b9],0⟩] scI b10) [.NotEq] [.List [] b11] b12] e1'],0⟩]) G (by lia) S rfl d2 rn 0 [] [] (H++[AO.list []]) rfl (ZA _) (λy o h=>aB h) aP) λl' H1 cl hJ kp=>?_
 have ev:=fZ (F:=aG n) (k:=k+101) (σ:=⟨l,H⟩) (σ₁:=⟨l,H⟩) (I:=aR T1 (r1.map .obj)) (loc':=l') (H':=H1) (a:=.obj T1) (rest:=[]) G.ok az (S.s n) (λ_ _=>rfl)
  (cW (i:=1) (by lia) (by lia) (λ_ _=>rfl) (λ_ _=>rfl) (aa (pos:=p7) (fW n) rfl hb) (aJ (q:=t3) (pos:=p8)) d.b rfl) (dZ d.r1.t) d.r1.t (aq hJ) @cl
 rw[List.nil_append]at hJ
 have e1:bW H H1:=kp
 have srt:=gu (c:=c) (F:=aG n) (k:=k+101) (σ:=⟨l,H1⟩) hJ (by rw[ZS];have:=Zc (mF an) rn;lia) hs
 refine bb (H1++[AO.list (zs.map .str)]) λH2 e2=>?_
 have x2:bW H1 H2:= λy o h=>by rw[e2];exact aB h
 rw[show(St.H ⟨l,H1⟩)++[AO.list (zs.map .str)]=H2 from e2.symm]at srt
 have hA2:H2[H1.length]?=some (.list (zs.map .str)):=by rw[e2];exact aP
 have hc2:=x2 _ _ (e1 _ _ hc)
 refine aO ((d.ext (e1.trans x2)).cell hc2 (some (.obj H1.length))) λd3 k3=>?_
 refine kz ?_
 refine lz (H2.set (n+2) (.cell (some (.obj H1.length)))) H1.length ?_ d3 (bH (aq hc2)) (k3 _ _ rfl hA2) λy o t h=>k3 _ _ t (x2 _ _ (e1 _ _ h))
 rw[hst]
 exact aU (dS (σ₁:=⟨l,H2⟩) (fW n) (by w_on) (by w_on:(aG n).cells.lookup ("anew":Str)=some (n+2)) (λ_=>rfl) (dB (λ_=>rfl) (λ_=>rfl) (dg G (fW n) rfl (lJ _) jL) (af λ_=>rfl) (am (λ_=>rfl) ev au) srt) hc2)
inductive vk(rn:List (List Str)):Nat→List Str→List Str→Prop
 |z (an:List Str):vk rn 0 an an
 |su {m:Nat} {an zs r:List Str} (h:iJ ((rn.filter (mF an)).map sw) zs) (t:vk rn m zs r):vk rn (m+1) an r
theorem C3(G:c.Go)(ne:∀r∈rn,r≠[]∧r.length<500)(z:rn.length<64):∀(vs:List AV){l:List (Str×AV)}{H:List AO}{AN:Nat}{an res:List Str},l.lookup ("books":Str)=some (.obj BK)→ub H n BK T0 T1 Lo Ln r0 r1 ro rn so sn→H[n+2]?=some (.cell (some (.obj AN)))→H[AN]?=some (.list (an.map .str))→vk rn vs.length an res→
  ∃l' H' AN',(∀pp:Pos,fm c (aG n) (k+101) (dY 5) (.Name "k" pp) kJ vs ⟨l,H⟩ .next ⟨l',H'⟩)∧ub H' n BK T0 T1 Lo Ln r0 r1 ro rn so sn∧H'[n+2]?=some (.cell (some (.obj AN')))∧H'[AN']?=some (.list (res.map .str))∧∀(y:Nat)(o:AO),o.lt=true→H[y]?=some o→H'[y]?=some o:=by
 intro vs
 induction vs with
 |nil=>
  intro l H AN an res hb d hc hA hr
  cases hr
  exact cG l H AN (λ_=>.nil trivial) d hc hA λy o _ h=>h
 |cons v vs ih=>
  intro l H AN an res hb d hc hA hr
  cases hr with
  |su h t=>
  have hb1:(aS ("k":Str) v l).lookup ("books":Str)=some (.obj BK):=dQ hb
  refine br λGz kz=>?_
  refine lC (DN (k:=k) (l:=aS "k" v l) G hb1 d hc hA ne z h) λH1 A1 e1 d1 c1 a1 k1=>?_
  refine c7 (ih hb1 d1 c1 a1 t) λl2 H2 A2 e2 d2 c2 a2 k2=>?_
  refine kz ?_
  refine cG l2 H2 A2 ?_ d2 c2 a2 λy o t h=>k2 y o t (k1 y o t h)
  generalize kJ=bdy at e1 e2 ⊢
  exact λpp=>fm.next (a:=v) (rest:=vs) (σ₁:=⟨aS "k" v l,H⟩) trivial (.inl rfl) (bg (fW n) rfl) e1 (e2 pp)
end
structure Fc(sc:Scope)(other:Str)(q:Nat):Prop where
 s:∀n,cz (aG n) sc (aZ (aG n) sc) (aC (aG n) sc.names)
 k:∀n,(aZ (aG n) sc).kind=.function∧(aZ (aG n) sc).names.lookup ("need":Str)=some .local∧(aZ (aG n) sc).names.lookup other=some .cell∧(aC (aG n) sc.names).lookup other=some (n+q)
noncomputable def A0(a b:Str)(p1 p2 p3 p4 p5 p6:Pos)(sc:Scope)(p7:Pos):Expr:=.ListComp (.Name "need" p1) [⟨.Name "need" p2,.Name a p3,[.Compare (.Name "need" p4) [.NotIn] [.Name b p5] p6],0⟩] sc p7
theorem BJ(kz:∀(scA scB:Scope)(a1 a2 a3 a4 a5 a6 a7 b1 b2 b3 b4 b5 b6 b7 c1 c2 c3:Pos),(qP jV 4=.Return (some (.List [A0 "old" "new" a1 a2 a3 a4 a5 a6 scA a7,A0 "new" "old" b1 b2 b3 b4 b5 b6 scB b7,.Name "anew" c1] c2)) c3∧Fc scA "new" 1∧Fc scB "old" 0)→Gz):Gz:=by
 refine kz _ _ _ _ _ _ _ _ _ _ _ _ _ _ _ _ _ _ _ ⟨by k_dflt rfl,?_,?_⟩
 ·exact⟨λn=>dU (iy (by w_on)) (by w_on) (by w_on) (by w_on),λn=>⟨by w_on,by w_on,by w_on,by w_on⟩⟩
 ·exact⟨λn=>dU (iy (by w_on)) (by w_on) (by w_on) (by w_on),λn=>⟨by w_on,by w_on,by w_on,by w_on⟩⟩
noncomputable def gP(sn:List (Str×Str))(p:Str×Str):Bool:=!sn.contains p
section
variable{BK T0 T1 Lo Ln:Nat}{r0 r1:List Nat}{rn:List (List Str)}
theorem to(G:c.Go)(h100:100≤k){a b:Str}{p7:Pos}{q qa La Lb:Nat}{ps qs:List (Str×Str)}(S:Fc sc b q)(ha:(aG n).scope.names.lookup a=some .cell)(hca:(aG n).cells.lookup a=some qa)(hda:(a==("__debug__":Str))=false)(hdb:(b==("__debug__":Str))=false)
  (h1:H[qa]?=some (.cell (some (.obj La))))(h2:H[n+q]?=some (.cell (some (.obj Lb))))(hp:cR H La ps)(hq:cR H Lb qs)(hz:ps.length<900):
  ∃us,Ev c (aG n) k (A0 a b p1 p2 p3 p4 p5 p6 sc p7) ⟨l,H⟩ (.obj H.length) ⟨l,H++[AO.list (us.map .obj)]⟩∧aN H us (ps.filter (gP qs)):=by
 refine br λGz kz=>?_
 refine aj hp λjs j1 j2=>?_
 refine aj hq λvs v1 v2=>?_
 refine oD (S.k n) λk1 k2 k3 k4=>?_
 refine aj (φH_filter (f:=gP qs) j2) λus e g=>?_
 refine kz ?_
 refine al us ?_ g
 rw[←e]
 have ki:(Fs.mk (aZ (aG n) sc) (aC (aG n) sc.names)).scope.kind=.function:=k1
 refine qY (σ₁:=⟨l,H⟩) (T:=La) G h100 (S.s n) ki k2 (by decide) (λ_ _=>rfl) (dK (fW n) ha hca h1 hda) j1 (by simp;rw[j2.1];exact hz) λv l' done hv hl=>?_
 refine aj (ZR.mp hv) λj hj z0=>?_;subst z0
 refine mI (Zh.mp hj) λi hi ei=>?_
 have i2:i<ps.length:=by rw[←j2.1];exact hi
 have t:=j2.2 i js[i] ps[i] (zG hi) (zG i2)
 rw[ei]at t
 rw[φH_at t]
 exact av rfl (aa ki k2 hl) (dK ki k3 k4 (aB h2) hdb) (t8 (aB v1) (v2.ext bW.app) (aB t) rfl)
theorem GD(G:c.Go){r:List Str}(hBK:H[BK]?=some (.list [.obj T0,.obj T1]))(R0:iP H T0 r0 ro)(R1:iP H T1 r1 rn)(B0:∀r∈ro,r≠[]∧r.length<500)(B1:∀r∈rn,r≠[]∧r.length<500)(z0:ro.length<64)(z1:rn.length<64)(q0:(bT ro).length<64)(q1:(bT rn).length<64)(S0:fg (bT ro) so)(S1:fg (bT rn) sn)(zo:so.length<900)(zn:sn.length<900)
  (hs:iJ ((ro.filter λr=>qQ so sn (sw r)).map sw) zs)(hr:vk rn 5 zs r):
  ∃Z M U A H',Fn c (k+102) (.ref 911) [.obj BK] [] H (.obj Z) H'∧H'[Z]?=some (.list [.obj M,.obj U,.obj A])∧cR H' M (so.filter (gP sn))∧cR H' U (sn.filter (gP so))∧H'[A]?=some (.list (r.map .str))∧∀(y:Nat)(o:AO),o.lt=true→H[y]?=some o→H'[y]?=some o:=by
 refine br λGz kz=>?_
 refine bb (H.length) λn en=>?_
 refine bb (H++ZV qX.length (AO.cell none)) λHc ec=>?_
 have exc:bW H Hc:= λy o h=>by rw[ec];exact aB h
 have c0:Hc[n+0]?=some (.cell none):=by rw[ec,en,zR (by lia),Zt];rfl
 have c1:Hc[n+1]?=some (.cell none):=by rw[ec,en,zR (by lia),Zt];rfl
 have c2:Hc[n+2]?=some (.cell none):=by rw[ec,en,zR (by lia),Zt];rfl
 let l:List (Str×AV):=[("books",.obj BK)]
 have kf:=fW n
 have rows_of:∀{H:List AO}{T:Nat}{rjs:List Nat}{rows:List (List Str)},iP H T rjs rows→oJ H T rows:= λ{H T rjs rows} x=>bO rjs x.t x.l x.r
 refine cT (jh (k:=k) G (rows_of (R0.keep λy o _ h=>exc y o h)) B0 (by lia) q0 S0) λLo HA fA pA eA _=>?_
 have exA:=exc.trans eA
 have cA:HA[n+0]?=some (.cell none):=eA _ _ c0
 refine bb (HA.set (n+0) (.cell (some (.obj Lo)))) λHA' eA'=>?_
 have kA:∀(y:Nat)(o:AO),y≠n+0→HA[y]?=some o→HA'[y]?=some o:= λy o hy h=>by rw[eA'];exact ak h hy
 have kAl:∀(y:Nat)(o:AO),o.lt=true→HA[y]?=some o→HA'[y]?=some o:= λy o t h=>kA y o (λq=>by rw[q,cA]at h;cases h;cases t) h
 refine cT (jh (k:=k) G (rows_of ((R1.keep λy o _ h=>exA y o h).keep kAl)) B1 (by lia) q1 S1) λLn HB fB pB eB _=>?_
 have cB1:HB[n+1]?=some (.cell none):=eB _ _ (kA _ _ (by lia) (eA _ _ c1))
 have cB0:HB[n+0]?=some (.cell (some (.obj Lo))):=eB _ _ (by rw[eA'];exact bH (aq cA))
 have cB2:HB[n+2]?=some (.cell none):=eB _ _ (kA _ _ (by lia) (eA _ _ c2))
 refine bb (HB.set (n+1) (.cell (some (.obj Ln)))) λHB' eB'=>?_
 have kB:∀(y:Nat)(o:AO),y≠n+1→HB[y]?=some o→HB'[y]?=some o:= λy o hy h=>by rw[eB'];exact ak h hy
 have kBl:∀(y:Nat)(o:AO),o.lt=true→HB[y]?=some o→HB'[y]?=some o:= λy o t h=>kB y o (λq=>by rw[q,cB1]at h;cases h;cases t) h
 have kAB:∀(y:Nat)(o:AO),o.lt=true→HA[y]?=some o→HB'[y]?=some o:= λy o t h=>kBl y o t (eB _ _ (kAl y o t h))
 have k0B:∀(y:Nat)(o:AO),o.lt=true→H[y]?=some o→HB'[y]?=some o:= λy o t h=>kAB y o t (exA _ _ h)
 have d:ub HB' n BK T0 T1 Lo Ln r0 r1 ro rn so sn:=⟨k0B _ _ rfl hBK,kB _ _ (by lia) cB0,by rw[eB'];exact bH (aq cB1),pA.lt kAB,pB.lt kBl,R0.keep k0B,R1.keep k0B⟩
 refine lC (H8 (k:=k) (l:=l) G rfl d (kB _ _ (by lia) cB2) (λr hr=>(B0 r hr).1) z0 zo zn hs) λHD AN f2 dD cD aD kD=>?_
 refine bb (HD++[jc 5]) λHR eR=>?_
 have exR:bW HD HR:= λy o h=>by rw[eR];exact aB h
 refine c7 (C3 (k:=k) (l:=l) G B1 z1 ((ZH 5).map λ(i:Nat)=>AV.int (i:Int)) rfl (dD.ext exR) (exR _ _ cD) (exR _ _ aD) hr) λl2 HE AE lp dE cE aE kE=>?_
 refine BJ λscA scB a1 a2 a3 a4 a5 a6 a7 b1 b2 b3 b4 b5 b6 b7 w1 w2 w3 hz_=>?_
 refine fP hz_ λhst SA SB=>?_
 refine aj (to (l:=l2) (k:=k+101) (p1:=a1) (p2:=a2) (p3:=a3) (p4:=a4) (p5:=a5) (p6:=a6) (p7:=a7) (a:="old") (b:="new") G (by lia) SA (by w_on) (by w_on:(aG n).cells.lookup ("old":Str)=some (n+0)) (by decide) (by decide) dE.o dE.n dE.po dE.pn zo) λxs evA px=>?_
 refine bb (HE++[AO.list (xs.map .obj)]) λHF eF=>?_
 have exF:bW HE HF:= λy o h=>by rw[eF];exact aB h
 rw[←eF]at evA
 have dF:=dE.ext exF
 refine aj (to (l:=l2) (k:=k+101) (p1:=b1) (p2:=b2) (p3:=b3) (p4:=b4) (p5:=b5) (p6:=b6) (p7:=b7) (a:="new") (b:="old") G (by lia) SB (by w_on) (by w_on:(aG n).cells.lookup ("new":Str)=some (n+1)) (by decide) (by decide) dF.n dF.o dF.pn dF.po zn) λys evB py=>?_
 refine bb (HF++[AO.list (ys.map .obj)]) λHG eG=>?_
 have exG:bW HF HG:= λy o h=>by rw[eG];exact aB h
 rw[←eG]at evB
 refine bb (HG++[AO.list [.obj HE.length,.obj HF.length,.obj AE]]) λHZ eZ=>?_
 refine kz ?_
 have exZ:bW HG HZ:= λy o h=>by rw[eZ];exact aB h
 refine kU HG.length HE.length HF.length AE HZ ?_ (by rw[eZ];exact aP) (al xs (exZ _ _ (exG _ _ (by rw[eF];exact aP))) (px.ext λy o h=>exZ _ _ (exG _ _ (exF _ _ h)))) (al ys (exZ _ _ (by rw[eG];exact aP)) (py.ext λy o h=>exZ _ _ (exG _ _ h))) (exZ _ _ (exG _ _ (exF _ _ aE))) λy o t h=>exZ _ _ (exG _ _ (exF _ _ (kE y o t (exR _ _ (kD y o t (k0B y o t h))))))
 have rt:Ex c (aG n) (k+101) (qP jV 4) ⟨l2,HE⟩ (.ret (.obj HG.length)) ⟨l2,HZ⟩:=by
  rw[hst]
  have z:=dM (c:=c) (F:=aG n) (k:=k+101) (pos:=w2) (σ:=⟨l2,HE⟩) (σ₁:=⟨l2,HG⟩) (vs:=[.obj HE.length,.obj HF.length,.obj AE]) (by simp) (am (λ_=>rfl) evA (am (λ_=>rfl) evB (am (e:=.Name "anew" w1) (λ_=>rfl) (dK kf (by w_on) (by w_on:(aG n).cells.lookup ("anew":Str)=some (n+2)) (exG _ _ (exF _ _ cE)) (by decide)) au)))
  rw[←eZ]at z
  exact aX z
 have s0:∀{p1 p2 p3 p4 p5 p6 p7:Pos}{q:Nat},Ex c (aG n) (k+101) (.Assign [.Name "old" p1] (.Call (.Name "_law_needs" p2) [.Subscript (.Name "books" p3) (.Constant (.int 0) q p4) p5] [] p6) p7) ⟨l,Hc⟩ .next ⟨l,HA'⟩:= λ{p1 p2 p3 p4 p5 p6 p7 q}=>by
  rw[eA']
  exact dS (σ₁:=⟨l,HA⟩) kf (by w_on) (by w_on:(aG n).cells.lookup ("old":Str)=some (n+0)) (λ_=>rfl) (jU (σ₂:=⟨l,Hc⟩) G (hH _) (λ_=>rfl) (dp G kf rfl (iZ _)) (af λ_=>rfl) (am (λ_=>rfl) (cW (i:=0) (by lia) (by lia) (λ_ _=>rfl) (λ_ _=>rfl) (aa kf rfl rfl) aJ (exc _ _ hBK) rfl) au) fA) cA
 have s1:∀{p1 p2 p3 p4 p5 p6 p7:Pos}{q:Nat},Ex c (aG n) (k+101) (.Assign [.Name "new" p1] (.Call (.Name "_law_needs" p2) [.Subscript (.Name "books" p3) (.Constant (.int 1) q p4) p5] [] p6) p7) ⟨l,HA'⟩ .next ⟨l,HB'⟩:= λ{p1 p2 p3 p4 p5 p6 p7 q}=>by
  rw[eB']
  exact dS (σ₁:=⟨l,HB⟩) kf (by w_on) (by w_on:(aG n).cells.lookup ("new":Str)=some (n+1)) (λ_=>rfl) (jU (σ₂:=⟨l,HA'⟩) G (hH _) (λ_=>rfl) (dp G kf rfl (iZ _)) (af λ_=>rfl) (am (λ_=>rfl) (cW (i:=1) (by lia) (by lia) (λ_ _=>rfl) (λ_ _=>rfl) (aa kf rfl rfl) aJ (kAl _ _ rfl (exA _ _ hBK)) rfl) au) fB) cB1
 have s3:∀{p1 p2 p3 p4 p5:Pos}{q:Nat},Ex c (aG n) (k+101) (.For (.Name "k" p1) (.Call (.Name "range" p2) [.Constant (.int 5) q p3] [] p4) kJ [] p5) ⟨l,HD⟩ .next ⟨l2,HE⟩:= λ{p1 p2 p3 p4 p5 q}=>by
  have lp1:=lp p1
  generalize kJ=bdy at lp1 ⊢
  have rg:HR[HD.length]?=some (jc 5):=by rw[eR];exact aP
  have ev:Ev c (aG n) (k+101) (.Call (.Name "range" p2) [.Constant (.int 5) q p3] [] p4) ⟨l,HD⟩ (.obj HD.length) ⟨l,HR⟩:=by
   rw[eR]
   exact cP (λ_=>rfl) (λ_=>rfl) (dg G kf rfl (mQ _) lE) (af λ_=>rfl) (am (λ_=>rfl) aJ au) kW
  exact gr (I:=dY 5) (σ₁:=⟨l,HR⟩) G.ok fV (λ_ _=>rfl) (λ_ _=>rfl) (by lia) ev (lw (n:=5) (by decide) rg) lp1
 refine pS (k:=k+101) (fl:=.ret (.obj HG.length)) (cs:=qX) (p:="books") (loc':=l2) G (Br _) x7 (λj hj=>?_) (by decide) (by w_on) (λx S=>Ff _ _ _) ?_
 ·exact IS hj ⟨"old",by w_on⟩ ⟨"new",by w_on⟩ ⟨"anew",by w_on⟩
 ·rw[←ec,←en]
  show dq c (aG n) (k+101) jV ⟨l,Hc⟩ _ _
  generalize eb1:qP jV 2=t2 at f2
  generalize eb2:kJ=bf at s3
  generalize eb3:qP jV 4=t4 at rt
  k_dflt refine' ae (σ₁:=⟨l,HA'⟩) s0 (ae (σ₁:=⟨l,HB'⟩) s1 (ae (σ₁:=⟨l,HD⟩) ?_ (ae (σ₁:=⟨l2,HE⟩) ?_ (bv ?_))))
  all_goals try subst eb1
  all_goals try subst eb2
  all_goals try subst eb3
  exact f2
  exact s3
  exact rt
end
theorem aW.eqPairs(r:aW c A F ρ σ s env){A':Around}(hu:A'.units<cLine)(hu1:A'.in1.units<cLine){ps:List (Str×Str)}(hi:cR σ.H i ps)(hj:cR σ.H j ps):SeqAt.EqAt A' s (.ref (ρ i)) (.ref (ρ j)) true:=by
 by_cases h:ρ i=ρ j
 ·rw[h];exact SeqAt.EqAt.same _
 ·refine br λGz kz=>?_
  refine aj hi λjs j1 j2=>?_
  refine aj hj λus u1 u2=>?_
  refine bz (r.list j1) λits g1 g2 _=>?_
  refine bz (r.list u1) λits' g1' g2' _=>?_
  refine kz ?_
  have e1:=fQ g2
  have e2:=fQ g2'
  subst e1 e2
  have z:=SeqAt.RcAt.lists (A:=A') (s:=s) (e:= λ_=>true) g1 g1' (by simp[j2.1,u2.1]) hu (λm h1 h2=>by
   have m1:m<js.length:=by simpa using h1
   have m2:m<us.length:=by simpa using h2
   have q1:m<ps.length:=by rw[←j2.1];exact m1
   have x1:=j2.2 m js[m] ps[m] (zG m1) (zG q1)
   have x2:=u2.2 m us[m] ps[m] (zG m2) (zG q1)
   have w:=r.eqPair (A':=A'.in1) hu1 x1 x2
   rw[decide_eq_true rfl]at w
   simpa using w)
  have e:((ZH (⟨js.map λj=>Value.ref (ρ j)⟩:Array Value).size).all λ_=>true)=true:=by simp
  rw[e]at z
  exact SeqAt.EqAt.of_refs h z
theorem aW.eqStrs(r:aW c A F ρ σ s env){A':Around}(hu:A'.units<cLine)(hi:σ.H[i]?=some (.list (xs.map .str)))(hj:σ.H[j]?=some (.list (xs.map .str))):SeqAt.EqAt A' s (.ref (ρ i)) (.ref (ρ j)) true:=by
 by_cases h:ρ i=ρ j
 ·rw[h];exact SeqAt.EqAt.same _
 ·refine br λGz kz=>?_
  refine bz (r.list hi) λits g1 g2 _=>?_
  refine bz (r.list hj) λits' g1' g2' _=>?_
  refine aj (hG g2) λts z0 e1=>?_;subst z0
  refine aj (hG g2') λus z0 e2=>?_;subst z0
  refine kz ?_
  have l1:ts.length=xs.length:=by rw[←e1];simp
  have l2:us.length=xs.length:=by rw[←e2];simp
  have z:=SeqAt.RcAt.lists (A:=A') (s:=s) (e:= λ_=>true) g1 g1' (by simp[l1,l2]) hu (λm h1 h2=>by
   have m1:m<ts.length:=by simpa using h1
   have m2:m<us.length:=by simpa using h2
   have m3:m<xs.length:=by rw[←l1];exact m1
   have x1:ts[m].1=xs[m]:=by simp[←e1]
   have x2:us[m].1=xs[m]:=by
    have:(us.map (·.1))[m]?=xs[m]?:=by rw[e2]
    rw[ZK,zG m2,zG m3]at this
    simpa using this
   have w:SeqAt.EqAt A'.in1 s (.str ts[m].1 ts[m].2) (.str us[m].1 us[m].2) (ts[m].1==us[m].1):=jE
   rw[x1,x2,beq_self_eq_true]at w
   simpa[x1,x2]using w)
  have e:((ZH (⟨ts.map λp=>Value.str p.1 p.2⟩:Array Value).size).all λ_=>true)=true:=by simp
  rw[e]at z
  exact SeqAt.EqAt.of_refs h z
theorem uf{M M' U' B':Nat}{p1 p2:List (Str×Str)}(hi:σ.H[i]?=some (.list [.obj M,.obj U,.obj B]))(hj:σ.H[j]?=some (.list [.obj M',.obj U',.obj B']))(a1:cR σ.H M p1)(a2:cR σ.H U p2)(a3:σ.H[B]?=some (.list (xs.map .str)))(b1:cR σ.H M' p1)(b2:cR σ.H U' p2)(b3:σ.H[B']?=some (.list (xs.map .str))):du c F k (compareOp .Eq) (.obj i) (.obj j) σ (.bool true) σ:= λA ρ s env Q E a b K r ha hb z=>by
 refine br λGz kz=>?_
 refine aO ha ?_;clear ha;intro _ z0;subst z0
 refine aO hb ?_;clear hb;intro _ z0;subst z0
 refine bz (r.list hi) λits g1 g2 _=>?_
 refine bz (r.list hj) λits' g1' g2' _=>?_
 refine kz ?_
 have e1:=fQ (js:=[M,U,B]) g2
 have e2:=fQ (js:=[M',U',B']) g2'
 subst e1 e2
 refine SeqAt.eq_listAt (e:= λ_=>true) g1 g1' rfl K.units (λm h1 h2=>?_) (z ρ s _ r .refl rfl)
 have m3:m<3:=h1
 have K3:A.in1.in1.in1.units<cLine:=by have:=K.2.1;unfold cLine;show A.units+1+1+1<_;lia
 match m,m3 with
 |0,_=>exact r.eqPairs (A':=A.in1) K.units1 K.units2 a1 b1
 |1,_=>exact r.eqPairs (A':=A.in1) K.units1 K.units2 a2 b2
 |2,_=>exact r.eqStrs (A':=A.in1) K.units1 a3 b3
noncomputable def E9:=d7 dP 42
noncomputable def EX:=jZ dP 42
noncomputable def qF:Fs:=⟨EX,[]⟩
theorem ir:qF.scope.kind=.function:=by w_on
theorem Fe(P:Params):dz P 916 E9 EX:=by constructor<;>w_on
theorem Fv(P:Params)(x:Value)(S:Setting):peek (Kx P) S (bindArgs (dw P 916) ⟨[x],[]⟩)=some [(("script":Str),x)]:=by w_on
theorem CN(P:Params):nsIn (Kx P) mainGlobals ("_law_books":Str)=some (some (.ref 891)):=by w_on
theorem Fw(P:Params):nsIn (Kx P) mainGlobals ("_law_told":Str)=some (some (.ref 906)):=by w_on
theorem HW(P:Params):nsIn (Kx P) mainGlobals ("_law_due":Str)=some (some (.ref 911)):=by w_on
theorem ph{ρ:Nat→Addr}{n:Nat}:∀{vs:List AV}{its:List Value}(m:Nat),cF ρ n vs its→cF ρ n (vs.take m) (its.take m)
 |_,_,0,_=>by simp;exact .nil
 |_,_,m+1,.nil=>by simp;exact .nil
 |_,_,m+1,.cons h t=>by rw[List.take_succ_cons,List.take_succ_cons];exact .cons h (ph m t)
theorem uY(i:Nat)(h:cF ρ n vs its):cF ρ n (vs.take i) (slicePick ⟨its⟩ none (some (i:Int)) none).toList:=by
 rw[slicePick_upto' ⟨its⟩ i]
 simpa using ph i h
theorem xP(kz:∀(sc sc2:Scope)(p1 p2 p3 p4 p5 p6 p7 p8:Pos)(t1:Nat)(a0 a1 a2 a3 a4 a5 a6 a7 a8 a9 a10 a11 a12 a13 a14 a15 a16 a17 a18:Pos)(t2:Nat),(E9=[.Assign [.Name "drawn" p1] (.Call (.Name "_law_books" p2) [.Subscript (.Name "script" p3) (.Slice none (some (.Constant (.int 30) t1 p4)) none p5) p6] [] p7) p8,
  .Return (some (.Compare (.Call (.Name "_law_told" a1) [.ListComp (.Call (.Attribute (.Constant (.str "\n") t2 a2) "join" a3) [.ListComp (.Call (.Name "join_shlex" a4) [.Name "x" a5] [] a6) [⟨.Name "x" a7,.Name "book" a8,[],0⟩] sc2 a9] [] a10) [⟨.Name "book" a11,.Name "drawn" a12,[],0⟩] sc a13] [] a14) [.Eq] [.Call (.Name "_law_due" a15) [.Name "drawn" a16] [] a17] a18)) a0]∧
  (∀env,eval (.Call (.Attribute (.Constant (.str "\n") t2 a2) "join" a3) [.ListComp (.Call (.Name "join_shlex" a4) [.Name "x" a5] [] a6) [⟨.Name "x" a7,.Name "book" a8,[],0⟩] sc2 a9] [] a10) env=(do
   let ov←eval (.Constant (.str "\n") t2 a2) env
   standAt a3.atName
   let(f,first)←holding [ov] (getMethod ov "join" (gD (.Constant (.str "\n") t2 a2) env))
   callWith a10 f first (backTo a10 (starEach [.ListComp (.Call (.Name "join_shlex" a4) [.Name "x" a5] [] a6) [⟨.Name "x" a7,.Name "book" a8,[],0⟩] sc2 a9] env)) []))∧
  cz qF sc sc []∧cz ⟨sc,[]⟩ sc2 sc2 []∧sc.kind=.function∧sc2.kind=.function∧sc.names.lookup ("book":Str)=some .local∧sc2.names.lookup ("x":Str)=some .local∧sc2.names.lookup ("join_shlex":Str)=some .globalImplicit)→Gz):Gz:=by
 refine kz _ _ _ _ _ _ _ _ _ _ _ _ _ _ _ _ _ _ _ _ _ _ _ _ _ _ _ _ _ _ _ ⟨by k_dflt rfl,λ_=>rfl,cQ (by w_on) (by w_on) (by w_on) (by w_on),cQ (by w_on) (by w_on) (by w_on) (by w_on),by w_on,by w_on,by w_on,by w_on,by w_on⟩
theorem wp(Jc:c.GoJ){sc2:Scope}(S2:cz ⟨sc,[]⟩ sc2 sc2 [])(hk:sc.kind=.function)(hk2:sc2.kind=.function)(hb:sc.names.lookup ("book":Str)=some .local)(hx:sc2.names.lookup ("x":Str)=some .local)(hj:sc2.names.lookup ("join_shlex":Str)=some .globalImplicit){a2 a3 a4 a5 a6 a7 a8 a9 a10:Pos}{t2:Nat}
  (he:∀env,eval (.Call (.Attribute (.Constant (.str "\n") t2 a2) "join" a3) [.ListComp (.Call (.Name "join_shlex" a4) [.Name "x" a5] [] a6) [⟨.Name "x" a7,.Name "book" a8,[],0⟩] sc2 a9] [] a10) env=(do
   let ov←eval (.Constant (.str "\n") t2 a2) env
   standAt a3.atName
   let(f,first)←holding [ov] (getMethod ov "join" (gD (.Constant (.str "\n") t2 a2) env))
   callWith a10 f first (backTo a10 (starEach [.ListComp (.Call (.Name "join_shlex" a4) [.Name "x" a5] [] a6) [⟨.Name "x" a7,.Name "book" a8,[],0⟩] sc2 a9] env)) []))
  {rjs:List Nat}{rows:List (List Str)}(hl:l.lookup ("book":Str)=some (.obj T))(R:iP H T rjs rows)(ok:∀r∈rows,je r∧r.length≤100)(hz:rows.length<900)(hjo:JoinOk "\n" (rows.map aT)=true):
  Ev c ⟨sc,[]⟩ (k+102) (.Call (.Attribute (.Constant (.str "\n") t2 a2) "join" a3) [.ListComp (.Call (.Name "join_shlex" a4) [.Name "x" a5] [] a6) [⟨.Name "x" a7,.Name "book" a8,[],0⟩] sc2 a9] [] a10) ⟨l,H⟩ (.str (aH rows)) ⟨l,H++[AO.list ((rows.map aT).map .str)]⟩:=by
 have G:=Jc.go
 have ki:(Fs.mk sc []).scope.kind=.function:=hk
 have kj:(Fs.mk sc2 []).scope.kind=.function:=hk2
 have tl:=aq R.t
 obtain⟨l',cl⟩:=u9 (k:=k) (F:=⟨sc2,[]⟩) (gens:=[⟨.Name "x" a7,.Name "book" a8,[],0⟩]) (sc:=sc2) (pos:=a9) (p1:=a4) (p2:=a5) (p3:=a6) (T:=T) (J:=H.length) (js0:=rjs) Jc kj hx hj rfl (by lia) (by rw[R.l];exact hz) rows rjs [] 0 [] (H++[AO.list []]) ok (aB R.t) aP rfl R.l (λi j r h1 h2=>⟨aB (R.r i j r h1 h2),by have:=aq (R.r i j r h1 h2);lia⟩) rfl
 have e:(H++[AO.list []]).set H.length (.list (([]++rows.map aT).map .str))=H++[AO.list ((rows.map aT).map .str)]:=by
  rw[Zn _ _ (ZA _),ZY];rfl
 rw[e]at cl
 have ev:=fZ (F:=⟨sc,[]⟩) (k:=k+102) (σ:=⟨l,H⟩) (σ₁:=⟨l,H⟩) (I:=aR T (rjs.map .obj)) (loc':=l') (H':=H++[AO.list ((rows.map aT).map .str)]) (a:=.obj T) (rest:=[]) G.ok az S2 (λ_ _=>rfl) (aa (pos:=a8) ki hb hl) (dZ R.t) R.t (by simp) @cl
 exact d6 he bn (Bb PySem.F.slot_str_join PySem.F.type_str_join) (af λ_=>rfl) (am (λ_=>rfl) ev au) (zQ (σ:=⟨l,H++[AO.list ((rows.map aT).map .str)]⟩) aP hjo)
theorem zw(Jc:c.GoJ){sc2:Scope}(S1:cz qF sc sc [])(S2:cz ⟨sc,[]⟩ sc2 sc2 [])(hk:sc.kind=.function)(hk2:sc2.kind=.function)(hb:sc.names.lookup ("book":Str)=some .local)(hx:sc2.names.lookup ("x":Str)=some .local)(hj:sc2.names.lookup ("join_shlex":Str)=some .globalImplicit){a2 a3 a4 a5 a6 a7 a8 a9 a10 a11 a12 a13:Pos}{t2:Nat}
  (he:∀env,eval (.Call (.Attribute (.Constant (.str "\n") t2 a2) "join" a3) [.ListComp (.Call (.Name "join_shlex" a4) [.Name "x" a5] [] a6) [⟨.Name "x" a7,.Name "book" a8,[],0⟩] sc2 a9] [] a10) env=(do
   let ov←eval (.Constant (.str "\n") t2 a2) env
   standAt a3.atName
   let(f,first)←holding [ov] (getMethod ov "join" (gD (.Constant (.str "\n") t2 a2) env))
   callWith a10 f first (backTo a10 (starEach [.ListComp (.Call (.Name "join_shlex" a4) [.Name "x" a5] [] a6) [⟨.Name "x" a7,.Name "book" a8,[],0⟩] sc2 a9] env)) []))
  {BK T0 T1:Nat}{r0 r1:List Nat}{rn:List (List Str)}(hl:l.lookup ("drawn":Str)=some (.obj BK))(hB:H[BK]?=some (.list [.obj T0,.obj T1]))(R0:iP H T0 r0 ro)(R1:iP H T1 r1 rn)(ok0:∀r∈ro,je r∧r.length≤100)(ok1:∀r∈rn,je r∧r.length≤100)(z0:ro.length<900)(z1:rn.length<900)(j0:JoinOk "\n" (ro.map aT)=true)(j1:JoinOk "\n" (rn.map aT)=true):
  ∃H',Ev c qF (k+102) (.ListComp (.Call (.Attribute (.Constant (.str "\n") t2 a2) "join" a3) [.ListComp (.Call (.Name "join_shlex" a4) [.Name "x" a5] [] a6) [⟨.Name "x" a7,.Name "book" a8,[],0⟩] sc2 a9] [] a10) [⟨.Name "book" a11,.Name "drawn" a12,[],0⟩] sc a13) ⟨l,H⟩ (.obj H.length) ⟨l,H'⟩∧H'[H.length]?=some (.list [.str (aH ro),.str (aH rn)])∧bW H H':=by
 have G:=Jc.go
 have ki:(Fs.mk sc []).scope.kind=.function:=hk
 refine br λGz kz=>?_
 refine bb (H++[AO.list []]) λHa ea=>?_
 have xa:bW H Ha:= λy o h=>by rw[ea];exact aB h
 have la:Ha[H.length]?=some (.list []):=by rw[ea];exact aP
 refine bb (Ha++[AO.list ((ro.map aT).map .str)]) λHb eb=>?_
 have xb:bW Ha Hb:= λy o h=>by rw[eb];exact aB h
 refine bb (Hb.set H.length (.list [.str (aH ro)])) λHc ec=>?_
 have xc:∀(y:Nat)(o:AO),H[y]?=some o→Hc[y]?=some o:= λy o h=>by rw[ec];exact ak (xb _ _ (xa _ _ h)) (by have:=aq h;lia)
 have lc:Hc[H.length]?=some (.list [.str (aH ro)]):=by rw[ec];exact bH (aq (xb _ _ la))
 refine bb (Hc++[AO.list ((rn.map aT).map .str)]) λHd ed=>?_
 have xd:bW Hc Hd:= λy o h=>by rw[ed];exact aB h
 refine bb (Hd.set H.length (.list [.str (aH ro),.str (aH rn)])) λHe ee=>?_
 refine kz ?_
 have xe:∀(y:Nat)(o:AO),H[y]?=some o→He[y]?=some o:= λy o h=>by rw[ee];exact ak (xd _ _ (xc y o h)) (by have:=aq h;lia)
 have le:He[H.length]?=some (.list [.str (aH ro),.str (aH rn)]):=by rw[ee];exact bH (aq (xd _ _ lc))
 let l1:List (Str×AV):=aS ("book":Str) (.obj T0) []
 let l2:List (Str×AV):=aS ("book":Str) (.obj T1) l1
 have e1:=wp (k:=k) (H:=Ha) (l:=l1) Jc S2 hk hk2 hb hx hj he (ah _ _ _) (R0.keep λy o _ h=>xa y o h) ok0 z0 j0
 have e2:=wp (k:=k) (H:=Hc) (l:=l2) Jc S2 hk hk2 hb hx hj he (ah _ _ _) (R1.keep λy o _ h=>xc y o h) ok1 z1 j1
 rw[←eb]at e1
 rw[←ed]at e2
 have c3:CL c ⟨sc,[]⟩ (k+102) (.Call (.Attribute (.Constant (.str "\n") t2 a2) "join" a3) [.ListComp (.Call (.Name "join_shlex" a4) [.Name "x" a5] [] a6) [⟨.Name "x" a7,.Name "book" a8,[],0⟩] sc2 a9] [] a10) [⟨.Name "book" a11,.Name "drawn" a12,[],0⟩] sc a13 0 (aR BK [.obj T0,.obj T1]) H.length 2 ⟨l2,He⟩ ⟨l2,He⟩:=iL (σ:=⟨l2,He⟩) (I:=aR BK [.obj T0,.obj T1]) az rfl rfl (λ_ _=>rfl) (by lia) (xe _ _ hB) rfl
 have c2:CL c ⟨sc,[]⟩ (k+102) (.Call (.Attribute (.Constant (.str "\n") t2 a2) "join" a3) [.ListComp (.Call (.Name "join_shlex" a4) [.Name "x" a5] [] a6) [⟨.Name "x" a7,.Name "book" a8,[],0⟩] sc2 a9] [] a10) [⟨.Name "book" a11,.Name "drawn" a12,[],0⟩] sc a13 0 (aR BK [.obj T0,.obj T1]) H.length 1 ⟨l1,Hc⟩ ⟨l2,He⟩:=
  fM (a:=.obj T1) (v:=.str (aH rn)) (σ:=⟨l1,Hc⟩) (σ₁:=⟨l2,Hc⟩) (σ₂:=⟨l2,Hc⟩) (σ₃:=⟨l2,Hd⟩) (acc:=[.str (aH ro)]) (I:=aR BK [.obj T0,.obj T1]) G.ok az rfl rfl (λ_ _=>rfl) (xc _ _ hB) rfl (bg ki hb) jH e2 (xd _ _ lc) (by simp) (by
   show CL _ _ _ _ _ _ _ _ _ _ _ ⟨l2,Hd.set H.length (.list ([.str (aH ro)]++[.str (aH rn)]))⟩ _
   rw(config:={}) [show Hd.set H.length (.list ([.str (aH ro)]++[.str (aH rn)]))=He from ee.symm]
   exact @c3)
 have c1:CL c ⟨sc,[]⟩ (k+102) (.Call (.Attribute (.Constant (.str "\n") t2 a2) "join" a3) [.ListComp (.Call (.Name "join_shlex" a4) [.Name "x" a5] [] a6) [⟨.Name "x" a7,.Name "book" a8,[],0⟩] sc2 a9] [] a10) [⟨.Name "book" a11,.Name "drawn" a12,[],0⟩] sc a13 0 (aR BK [.obj T0,.obj T1]) H.length 0 ⟨[],Ha⟩ ⟨l2,He⟩:=
  fM (a:=.obj T0) (v:=.str (aH ro)) (σ:=⟨[],Ha⟩) (σ₁:=⟨l1,Ha⟩) (σ₂:=⟨l1,Ha⟩) (σ₃:=⟨l1,Hb⟩) (acc:=[]) (I:=aR BK [.obj T0,.obj T1]) G.ok az rfl rfl (λ_ _=>rfl) (xa _ _ hB) rfl (bg ki hb) jH e1 (xb _ _ la) (by simp) (by
   show CL _ _ _ _ _ _ _ _ _ _ _ ⟨l1,Hb.set H.length (.list ([]++[.str (aH ro)]))⟩ _
   rw(config:={}) [show Hb.set H.length (.list ([]++[.str (aH ro)]))=Hc from ec.symm]
   exact @c2)
 have ev:=fZ (F:=qF) (k:=k+102) (σ:=⟨l,H⟩) (σ₁:=⟨l,H⟩) (I:=aR BK [.obj T0,.obj T1]) (loc':=l2) (H':=He) (a:=.obj BK) (rest:=[]) G.ok az S1 (λ_ _=>rfl) (aa (pos:=a12) ir rfl hl) (dZ hB) hB (aq le) (by
  show CL _ _ _ _ _ _ _ _ _ _ _ ⟨[],H++[AO.list []]⟩ _
  rw(config:={}) [←ea];exact @c1)
 exact bO He ev le xe
structure GV(ro:List (List Str))(nd:Nat→List Nat)(so sn:List (Str×Str))(r:List Nat)(z1 zs:List Str):Prop where
 B0:iT ro
 B1:iT (bK nd)
 k0:∀r∈ro,r.length≤100
 k1:∀r∈bK nd,r.length≤100
 j0:JoinOk "\n" (ro.map aT)=true
 j1:JoinOk "\n" ((bK nd).map aT)=true
 n0:ro.length<64
 S0:fg (bT ro) so
 S1:fg (bT (bK nd)) sn
 ao:uc so
 an:uc sn
 zo:so.length≤64
 zn:sn.length<64
 zl:(cL so sn).1.length+(cL so sn).2.length<900
 hp:∀i,i<5→(nd i).length≤4∧∀p∈nd i,p<5
 su:∀i∈(ic nd).ord,∀q∈(ic nd).su i,i<q∧q∈(ic nd).ord
 sz:∀i,((ic nd).su i).length≤100
 h0:(dR (ic nd).np (ic nd).ord).length<100
 rn:kx (ic nd).su (ic nd).ord (((cL so sn).1++(cL so sn).2).map (·.1)) sn (ic nd).np (dR (ic nd).np (ic nd).ord) [] r
 rl:r.length<64
 hs:iJ (r.map nm) zs
 d0:iJ ((ro.filter λr=>qQ so sn (sw r)).map sw) z1
 dn:vk (bK nd) 5 z1 zs
 l1:(cL so sn).1=so.filter (gP sn)
 l2:(cL so sn).2=sn.filter (gP so)
theorem tI{nm':Nat}{a:Nat→Nat}{js:Nat→Nat→Nat}(b:dj H bk nm' a js rows)(hk:k<2):iP H (a k) ((ZH 5).map (js k)) ((ZH 5).map (rows k)):=by
 refine⟨by rw[b.l k hk,Zr];rfl,by simp,λi j r h1 h2=>?_⟩
 have hi:i<5:=by have:=aq h1;simpa using this
 rw[ZK,List.getElem?_range hi]at h1 h2
 cases h1;cases h2
 exact b.r k hk i hi
theorem vG(L:List (Str×Str))(f g:Str×Str→Bool)(h:L.Pairwise λx y=>jQ x y=true∧jQ y x=false)(irr:∀x∈L,jQ x x=false):cL (L.filter f) (L.filter g)=(L.filter (λx=>f x&&!g x),L.filter (λx=>g x&&!f x)):=by
 induction L with
 |nil=>exact dI (.inl rfl)
 |cons x L ih=>
  refine aO (Zs.mp h) λh1 h2=>?_
  have ih':=ih h2 λy hy=>irr y (.tail _ hy)
  have ix:=irr x (.head _)
  have none_of:∀{p:Str×Str→Bool},L.filter p=[]→∀y∈L,p y=false:= λ{p} e y hy=>by
   by_cases q:p y=true
   ·have:y∈L.filter p:=ZQ.mpr ⟨hy,q⟩
    rw[e]at this;cases this
   ·simpa using q
  cases hf:f x<;>cases hg:g x
  ·simp only[Z5,hf,hg];simpa using ih'
  ·-- only in the second
   simp only[Z5,hf,hg]
   simp only[Zy,if_false,if_true,Bool.not_false,Bool.and_true,Bool.not_true,Bool.and_false]
   cases eA:L.filter f with
   |nil=>
    have nf:=none_of eA
    rw[dI (.inl rfl)]
    have e1:L.filter (λx=>f x&&!g x)=[]:=List.filter_eq_nil_iff.mpr λy hy=>by simp[nf y hy]
    have e2:L.filter (λx=>g x&&!f x)=L.filter g:=Zm λy hy=>by simp[nf y hy]
    rw[e1,e2]
   |cons y A=>
    have hy:y∈L:=(ZQ.mp (by rw[eA];exact .head _)).1
    rw[ql (h1 y hy).2 (h1 y hy).1,←eA,ih']
  ·simp only[Z5,hf,hg]
   simp only[Zy,if_false,if_true,Bool.not_false,Bool.and_true,Bool.not_true,Bool.and_false]
   cases eB:L.filter g with
   |nil=>
    have ng:=none_of eB
    rw[dI (.inr rfl)]
    have e1:L.filter (λx=>g x&&!f x)=[]:=List.filter_eq_nil_iff.mpr λy hy=>by simp[ng y hy]
    have e2:L.filter (λx=>f x&&!g x)=L.filter f:=Zm λy hy=>by simp[ng y hy]
    rw[e1,e2]
   |cons y B=>
    have hy:y∈L:=(ZQ.mp (by rw[eB];exact .head _)).1
    rw[rb (h1 y hy).1,←eB,ih']
  ·simp only[Z5,hf,hg]
   simp only[if_true,Bool.not_true,Bool.and_false,Zy,if_false]
   rw[qK ix ix]
   exact ih'
noncomputable def EL(i:Nat):Str×Str:=GF (Ck.getD i (0,0))
noncomputable def qV:List (Str×Str):=iC.map EL
theorem vV:qV.Pairwise λx y=>jQ x y=true∧jQ y x=false:=by decide+kernel
theorem BU:∀x∈qV,jQ x x=false:=by decide+kernel
theorem Gd:∀i,i<10→∀j,j<10→jQ (EL i) (EL j)=decide (rk i<rk j):=by decide+kernel
theorem jN{f g:Nat→Nat→Bool}(h:∀i j,i<n→j<n→f i j=g i j):∀(t:KasT α),cV n f t=cV n g t:=by
 intro t
 induction t with
 |ret a=>rfl
 |ask i j k ih=>
  show(if i<n∧j<n then cV n f (k (f i j))else none)=if i<n∧j<n then cV n g (k (g i j))else none
  by_cases q:i<n∧j<n
  ·rw[if_pos q,if_pos q,h i j q.1 q.2]
   exact ih _
  ·rw[if_neg q,if_neg q]
noncomputable def A3(ids:List Nat)(out:List Nat):Bool:=match cV ids.length (λi j=>decide (rk (ids.getD i 0)<rk (ids.getD j 0))) (kas_sort ids.length)with
 |some p=>p.toList.all (· <ids.length)&&(p.toList.map λi=>ids.getD i 0)==out
 |none=>false
theorem Am:∀b∈cc 10,((fO b).length<2&&(iC.filter λi=>b.getD i false)==fO b)||A3 (fO b) (iC.filter λi=>b.getD i false)=true:=by decide+kernel
theorem kP{l:List Nat}(h:i<l.length):l.getD i 0∈l:=by
 rw[show l.getD i 0=l[i]by simp[h]];exact List.getElem_mem h
theorem uH:∀b∈cc 10,((fO b).length<2→(iC.filter λi=>b.getD i false)=fO b):=by decide+kernel
noncomputable def SB(b:List Bool):List (Str×Str):=(iC.filter λi=>b.getD i false).map EL
theorem AU(b:List Bool):∀i∈fO b,i<10:= λi hi=>ZP.mp (ZQ.mp hi).1
theorem kS{b:List Bool}(hb:b∈cc 10):fg ((fO b).map EL) (SB b):=by
 refine⟨λh=>?_,λh=>?_⟩
 ·rw[ZS]at h
  unfold SB
  rw[uH b hb h]
 ·rw[ZS]at h ⊢
  have z:=Am b hb
  have e:decide ((fO b).length<2)=false:=by simpa using h
  simp only[e,Bool.false_and,Bool.false_or]at z
  have z:A3 (fO b) (iC.filter λi=>b.getD i false)=true:=by simpa[e]using z
  unfold A3 at z
  split at z
  ·rename_i p hp
   rw[Z3,ZG]at z
   refine aO z λz1 z2=>?_
   have z1':∀i∈p.toList,i<(fO b).length:= λi hi=>by simpa using z1 i hi
   refine bO p ?_ z1' ?_
   ·rw[←hp]
    refine jN (λi j hi hj=>?_) _
    have g:∀i,i<(fO b).length→((fO b).map EL).getD i ("","")=EL ((fO b).getD i 0):= λi hi=>by simp[hi]
    rw[g i hi,g j hj]
    refine Gd _ (AU b _ ?_) _ (AU b _ ?_)
    ·exact kP hi
    ·exact kP hj
   ·unfold SB
    have z2':(p.toList.map λi=>(fO b).getD i 0)=iC.filter λi=>b.getD i false:=by simpa using z2
    rw[←z2',Zr]
    refine ZO λi hi=>?_
    simp[z1' i hi]
  ·cases z
noncomputable def A8(b:List Bool)(i:Nat):List Str:=gv i ((ZH i).map λj=>b.getD (i*(i - 1)/2+j) false)
noncomputable def fu(b:List Bool)(i:Nat):List Nat:=(ZH i).filter λj=>b.getD (i*(i - 1)/2+j) false
theorem wU:∀b∈cc 10,(ZH 5).map (A8 b)=bK (fu b):=by decide+kernel
theorem n8:∀b∈cc 10,bT (bK (fu b))=(fO b).map EL:=by decide+kernel
noncomputable def IR(i:Nat):Nat:=[1,2,4,3,0].getD i 0
theorem G4:∀i,i<5→∀j,j<5→Bv (nm i) (nm j)=decide (IR i<IR j):=by decide+kernel
noncomputable def lK(r:List Nat):List Nat:=[4,0,1,3,2].filter λi=>r.contains i
noncomputable def E7(ids out:List Nat):Bool:=match cV ids.length (λi j=>decide (IR (ids.getD i 0)<IR (ids.getD j 0))) (kas_sort ids.length)with
 |some p=>p.toList.all (· <ids.length)&&(p.toList.map λi=>ids.getD i 0)==out
 |none=>false
noncomputable def yX:Nat→List (List Nat)
 |0=>[[]]
 |n+1=>(yX n).flatMap λl=>[0,1,2,3,4].map λx=>x::l
theorem sX:∀(r:List Nat),(∀x∈r,x<5)→r∈yX r.length
 | [],_=>by simp[yX]
 |x::r,h=>by
  have ih:=sX r λy hy=>h y (.tail _ hy)
  have hx:=h x (.head _)
  simp only[yX,Zk,List.mem_flatMap,ZR]
  refine uR r ih x ?_ rfl
  have:x=0∨x=1∨x=2∨x=3∨x=4:=by lia
  rcases this with rfl|rfl|rfl|rfl|rfl<;>simp
theorem AG:∀n∈ZH 6,∀r∈yX n,r.Nodup→(if r.length<2 then lK r==r else E7 r (lK r))=true:=by decide+kernel
theorem on{r:List Nat}(h5:∀x∈r,x<5)(hn:r.Nodup):iJ (r.map nm) ((lK r).map nm):=by
 have l5:=i8 5 r hn h5
 have z:=AG r.length (ZP.mpr (by lia)) r (sX r h5) hn
 by_cases h:r.length<2
 ·rw[if_pos h]at z
  refine .inl ⟨by simpa using h,?_⟩
  rw[show lK r=r by simpa using z]
 ·rw[if_neg h]at z
  refine .inr ⟨by simp;lia,?_⟩
  unfold E7 at z
  split at z
  ·rename_i p hp
   rw[Z3,ZG]at z
   refine aO z λz1 z2=>?_
   have z1':∀i∈p.toList,i<r.length:= λi hi=>by simpa using z1 i hi
   rw[ZS]
   refine bO p ?_ z1' ?_
   ·rw[←hp]
    refine jN (λi j hi hj=>?_) _
    have g:∀i,i<r.length→(r.map nm).getD i ("":Str)=nm (r.getD i 0):= λi hi=>by simp[hi]
    rw[g i hi,g j hj]
    refine G4 _ (h5 _ ?_) _ (h5 _ ?_)
    ·exact kP hi
    ·exact kP hj
   ·have z2':(p.toList.map λi=>r.getD i 0)=lK r:=by simpa using z2
    rw[←z2',Zr]
    refine ZO λi hi=>?_
    simp[z1' i hi]
  ·cases z
theorem DO(b:List Bool)(hi:i<5):je (A8 b i):=AB hi (by simp)
theorem jo{b:List Bool}(hb:b∈cc 10):∀r∈bK (fu b),je r∧r.length≤100∧r≠[]:=by
 rw[←wU b hb]
 intro r hr
 refine aj (ZR.mp hr) λi hi z0=>?_;subst z0
 have hi':=ZP.mp hi
 refine⟨DO b hi',?_,by unfold A8 gv;simp⟩
 unfold A8 gv
 have:(((names.take i).zip ((ZH i).map λj=>b.getD (i*(i - 1)/2+j) false)).filterMap λp=>if p.2 then some p.1 else none).length≤i:=by
  refine Z2 (List.length_filterMap_le _ _) ?_
  simp;lia
 simp only[Zk]
 lia
theorem BD:∀(l:List Nat),(∀x∈l,x≤1000)→l.sum≤1000*l.length
 | [],_=>by simp
 |x::l,h=>by
  have:=BD l λy hy=>h y (.tail _ hy)
  have:=h x (.head _)
  simp only[List.sum_cons,Zk]
  lia
theorem zg(b:List Bool)(hb:b∈cc 10):(aH (bK (fu b))).length≤6000:=by
 unfold aH Txt.join
 rw[StrLaws.glued_eq_join]
 refine Z2 (StrLaws.join_length_le _ _) ?_
 have l5:(bK (fu b)).length=5:=by unfold bK;simp
 have s:=BD (((bK (fu b)).map aT).map (·.length)) λx hx=>by
  refine aj (ZR.mp hx) λt ht z0=>?_;subst z0
  refine aj (ZR.mp ht) λr hr z0=>?_;subst z0
  exact Nat.le_of_lt (jo hb r hr).1.len
 simp only[ZS,l5]at s ⊢
 have:("\n":Str).length=1:=by decide+kernel
 lia
theorem v7:∀b∈cc 10,JoinOk "\n" ((bK (fu b)).map aT)=true:=by decide+kernel
theorem ya(b:List Bool):(fO b).length≤10:=by
 unfold fO
 refine Z2 (Zc _ _) ?_
 simp
theorem y8{b:List Bool}(hb:b∈cc 10):iT (bK (fu b)):=by
 have hr:=jo hb
 have ne:bK (fu b)≠[]:=by unfold bK;simp[List.range_succ]
 have l5:(bK (fu b)).length=5:=by unfold bK;simp
 refine⟨ne,λr h=>(hr r h).1,by lia,Z2 (zg b hb) (by unfold sizeLine;decide),?_,λr h=>⟨(hr r h).2.2,by have:=(hr r h).2.1;lia⟩,by rw[n8 b hb,ZS];have:=ya b;lia⟩
 have z:=nG ne λr h=>(hr r h).1
 have zl:(Txt.split (aH (bK (fu b))) "\n").length=5:=by rw[z,ZS,l5]
 unfold Txt.split at zl
 split at zl
 ·simp at zl
 ·split at zl
  ·simp at zl
  ·rw[zl];unfold sizeLine;decide
theorem E4(b:List Bool):∀i,i<5→(fu b i).length≤4∧∀p∈fu b i,p<5:= λi hi=>by
 unfold fu
 refine⟨Z2 (Zc _ _) (by simp;lia),λp hp=>?_⟩
 have:=ZP.mp (ZQ.mp hp).1
 lia
theorem Gm(nd:Nat→List Nat)(h:∀i,i<5→(nd i).length≤4)(p:Nat):((ic nd).su p).length≤100:=by
 unfold ic Bo
 simp only[Zv,List.foldl_nil]
 have a4:=jI Ez 4 (nd 4) p
 have a3:=jI (fy Ez 4 (nd 4)) 3 (nd 3) p
 have a2:=jI (fy (fy Ez 4 (nd 4)) 3 (nd 3)) 2 (nd 2) p
 have a1:=jI (fy (fy (fy Ez 4 (nd 4)) 3 (nd 3)) 2 (nd 2)) 1 (nd 1) p
 have a0:=jI (fy (fy (fy (fy Ez 4 (nd 4)) 3 (nd 3)) 2 (nd 2)) 1 (nd 1)) 0 (nd 0) p
 have h0:=h 0 (by decide)
 have h1:=h 1 (by decide)
 have h2:=h 2 (by decide)
 have h3:=h 3 (by decide)
 have h4:=h 4 (by decide)
 have g0:(Ez.su p).length=0:=rfl
 lia
theorem GJ:∀b∈cc 10,((ic (fu b)).ord.all λi=>((ic (fu b)).su i).all λq=>decide (i<q)&&(ic (fu b)).ord.contains q)=true:=by decide+kernel
theorem GZ{b:List Bool}(hb:b∈cc 10):∀i∈(ic (fu b)).ord,∀q∈(ic (fu b)).su i,i<q∧q∈(ic (fu b)).ord:= λi hi q hq=>by
 have z:=ZG.mp (ZG.mp (GJ b hb) i hi) q hq
 simpa using z
theorem CX:∀b∈cc 10,(ic (fu b)).ord.length=5:=by decide+kernel
theorem Ap{b:List Bool}(hb:b∈cc 10):(dR (ic (fu b)).np (ic (fu b)).ord).length<100:=by
 unfold dR
 have:=Zc (λi=>(ic (fu b)).np i==0) (ic (fu b)).ord
 have:=CX b hb
 lia
theorem FZ{L:List (Str×Str)}(h:L.Pairwise λx y=>jQ x y=true∧jQ y x=false):uc L:= λi x y hx hy e=>by
 subst e
 have il:=aq hx
 have jl:=aq hy
 have z:=List.pairwise_iff_getElem.mp h i (i+1) il jl (by lia)
 rw[zG il]at hx
 rw[zG jl]at hy
 rw[Option.some.inj hx,Option.some.inj hy]at z
 rw[z.1]at z
 exact absurd z.2 (by decide)
noncomputable def uy(b:List Bool)(x:Str×Str):Bool:=(SB b).contains x
theorem gO:∀b∈cc 10,SB b=qV.filter (uy b):=by decide+kernel
theorem At(b:List Bool):(SB b).length≤10:=by
 unfold SB
 rw[ZS]
 exact Z2 (Zc _ _) (by decide)
theorem Ab{b:List Bool}(hb:b∈cc 10):uc (SB b):=by
 rw[gO b hb]
 exact FZ (vV.filter _)
theorem A5(h0:b0∈cc 10)(h1:b1∈cc 10):(cL (SB b0) (SB b1)).1=(SB b0).filter (gP (SB b1))∧(cL (SB b0) (SB b1)).2=(SB b1).filter (gP (SB b0)):=by
 have z:=vG qV (uy b0) (uy b1) vV BU
 rw[←gO b0 h0,←gO b1 h1]at z
 rw[z]
 constructor
 ·show qV.filter (λx=>uy b0 x&&!uy b1 x)=_
  conv=>rhs;rw[gO b0 h0]
  rw[List.filter_filter]
  refine Zm λx _=>?_
  show(uy b0 x&&!uy b1 x)=(!(SB b1).contains x&&uy b0 x)
  rw[Bool.and_comm];rfl
 ·show qV.filter (λx=>uy b1 x&&!uy b0 x)=_
  conv=>rhs;rw[gO b1 h1]
  rw[List.filter_filter]
  refine Zm λx _=>?_
  show(uy b1 x&&!uy b0 x)=(!(SB b0).contains x&&uy b1 x)
  rw[Bool.and_comm];rfl
noncomputable def rJ(C:Nat→Bool)(nd:Nat→List Nat)(an:List Nat)(i:Nat):List Nat:=if C i||(nd i).any an.contains then an++[i]else an
noncomputable def H9(nd:Nat→List Nat)(A:List Nat):List Nat:=[4,0,1,3,2].filter λi=>A.contains i||(nd i).any A.contains
noncomputable def tn(C:Nat→Bool)(nd:Nat→List Nat):Nat→Nat→Bool
 |0,i=>C i
 |m+1,i=>C i||(nd i).any (tn C nd m)
theorem wx{C:Nat→Bool}{nd:Nat→List Nat}:∀(m i:Nat),tn C nd m i=true→tn C nd (m+1) i=true
 |0,i,h=>by
  have h:C i=true:=h
  show(C i||_)=true
  rw[h];rfl
 |m+1,i,h=>by
  have h:(C i||(nd i).any (tn C nd m))=true:=h
  show(C i||(nd i).any (tn C nd (m+1)))=true
  rcases Bool.or_eq_true_iff.mp h with h|h
  ·rw[h];rfl
  ·refine aj (Z9.mp h) λj hj h=>?_
   rw[Z9.mpr (al j hj (wx m j h)),Bool.or_true]
theorem jK{l:List Nat}{f g:Nat→Bool}(h:∀x∈l,f x=g x):l.any f=l.any g:=by
 induction l with
 |nil=>rfl
 |cons x l ih=>rw[List.any_cons,List.any_cons,h x (.head _),ih λy hy=>h y (.tail _ hy)]
theorem pK{C:Nat→Bool}{nd:Nat→List Nat}(hn:∀i,∀j∈nd i,j<i):∀(m i:Nat),i≤m→tn C nd (m+1) i=tn C nd m i
 |0,i,h=>by
  have e:i=0:=by lia
  subst e
  show(C 0||(nd 0).any (tn C nd 0))=C 0
  cases q:nd 0 with
  |nil=>simp
  |cons x l=>have:=hn 0 x (by rw[q];exact .head _);lia
 |m+1,i,h=>by
  show(C i||(nd i).any (tn C nd (m+1)))=(C i||(nd i).any (tn C nd m))
  rw[jK λj hj=>pK hn m j (by have:=hn i j hj;lia)]
theorem FP{C:Nat→Bool}(hn:∀i,∀j∈nd i,j<i)(i:Nat)(h:i<5):tn C nd 5 i=(C i||(nd i).any (tn C nd 5)):=by
 show(C i||(nd i).any (tn C nd 4))=_
 rw[jK λj hj=>(pK hn 4 j (by have:=hn i j hj;lia)).symm]
theorem tu(p:Nat→Bool)(h:i<5):([4,0,1,3,2].filter p).contains i=p i:=by
 rw[Zi,ZF,ZQ]
 refine⟨λx=>x.2,λx=>⟨?_,x⟩⟩
 have:i=0∨i=1∨i=2∨i=3∨i=4:=by lia
 rcases this with rfl|rfl|rfl|rfl|rfl<;>decide
theorem m9:∀i∈[4,0,1,3,2],i<5:=by decide
theorem CK{C:Nat→Bool}(hn:∀i,∀j∈nd i,j<i)(m:Nat):H9 nd ([4,0,1,3,2].filter (tn C nd m))=[4,0,1,3,2].filter (tn C nd (m+1)):=by
 unfold H9
 refine Zm λi hi=>?_
 have h5:=m9 i hi
 rw[tu _ h5,jK (g:=tn C nd m) λj hj=>tu _ (by have:=hn i j hj;lia)]
 show(tn C nd m i||(nd i).any (tn C nd m))=(C i||(nd i).any (tn C nd m))
 cases m with
 |zero=>rfl
 |succ m=>
  show((C i||(nd i).any (tn C nd m))||(nd i).any (tn C nd (m+1)))=_
  cases q:(nd i).any (tn C nd m)with
  |false=>simp
  |true=>
   refine aj (Z9.mp q) λj hj h=>?_
   rw[Z9.mpr (al j hj (wx m j h))];simp
noncomputable def AD(nd:Nat→List Nat):List Nat→List Nat→Bool
 |_,[]=>true
 |seen,i::r=>(nd i).all seen.contains&&!seen.contains i&&decide (i<5)&&AD nd (i::seen) r
theorem xG{C:Nat→Bool}(hn:∀i,∀j∈nd i,j<i):∀(o seen an:List Nat),AD nd seen o=true→(∀x∈seen,an.contains x=tn C nd 5 x)→(∀x∈an,x∈seen)→an.Nodup→(∀x∈seen,x<5)→
  (o.foldl (rJ C nd) an).Nodup∧(∀x,x∈seen∨x∈o→(o.foldl (rJ C nd) an).contains x=tn C nd 5 x)∧∀x∈o.foldl (rJ C nd) an,x<5:=by
 intro o
 induction o with
 |nil=>intro seen an _ h1 h2 h3 h5;exact⟨h3,λx hx=>h1 x (hx.elim id λz=>nomatch z),λx hx=>h5 x (h2 x hx)⟩
 |cons i o ih=>
  intro seen an t h1 h2 h3 h5
  refine aO (ZM.mp t) λz0 t4=>aO (ZM.mp z0) λz1 t3=>aO (ZM.mp z1) λt1 t2=>?_
  have t1:=ZG.mp t1
  have t2:seen.contains i=false:=by cases w:seen.contains i with
   |false=>rfl
   |true=>rw[w]at t2;cases t2
  have t3:=of_decide_eq_true t3
  have hi:i∉seen:= λz=>by rw[ZF.mpr z]at t2;cases t2
  have hia:i∉an:= λz=>hi (h2 i z)
  have e:(C i||(nd i).any an.contains)=tn C nd 5 i:=by
   rw[FP hn i t3,jK λj hj=>h1 j (ZF.mp (t1 j hj))]
  rw[Zv]
  have ea:rJ C nd an i=if tn C nd 5 i=true then an++[i]else an:=by unfold rJ;rw[e]
  refine fP (ih (i::seen) (rJ C nd an i) t4 (λx hx=>by
    rw[ea]
    rcases ZI.mp hx with rfl|hx
    ·cases q:tn C nd 5 x with
     |false=>rw[if_neg (by simp)];cases w:an.contains x with
      |false=>rfl
      |true=>exact absurd (ZF.mp w) hia
     |true=>rw[if_pos rfl];simp
    ·have ne:x≠i:= λz=>hi (z▸hx)
     rw[←h1 x hx]
     split
     ·simp[ne]
     ·rfl) (λx hx=>by
    rw[ea]at hx
    split at hx
    ·rcases ZT.mp hx with hx|hx
     ·exact .tail _ (h2 x hx)
     ·simp at hx;rw[hx];exact .head _
    ·exact .tail _ (h2 x hx)) (by
    rw[ea]
    split
    ·rw[List.nodup_append]
     exact⟨h3,by simp,λa ha b hb=>by simp at hb;rw[hb];exact λz=>hia (z▸ha)⟩
    ·exact h3) (λx hx=>by
    rcases ZI.mp hx with rfl|hx
    ·exact t3
    ·exact h5 x hx)) λg1 g2 g3=>?_
  exact⟨g1,λx hx=>g2 x (hx.elim (λz=>.inl (.tail _ z)) λz=>(ZI.mp z).elim (λw=>.inl (w▸ .head _)) .inr),g3⟩
noncomputable def uC(su:Nat→List Nat):(Nat→Int)×List Nat→List Nat→Bool
 |_,[]=>true
 |s,i::r=>s.1 i== -1&&uC su (nz su s i) r
noncomputable def Gb(su:Nat→List Nat)(ord:List Nat):Nat→(Nat→Int)→List Nat→Option (List Nat)
 |0,_,_=>none
 |m+1,np,rd=>match rd with
  | []=>some []
  |_::_=>
   let s0:=(mG np rd,([]:List Nat))
   let s1:=jS su s0 rd
   if uC su s0 rd&&decide (rd.length≤5)&&rd.all ord.contains&&decide (s1.2.length<100)then(Gb su ord m s1.1 s1.2).map (rd++ ·)else none
noncomputable def Hh(b:List Bool):Bool:=
 let g:=ic (fu b)
 match Gb g.su g.ord 7 g.np (dR g.np g.ord)with
  |some o=>g.ord.all (· <5)&&AD (fu b) [] o&&(ZH 5).all o.contains
  |none=>false
theorem En:(cc 10).all Hh=true:=by w_on
theorem Bz{rs:List Nat}:∀{s:(Nat→Int)×List Nat},uC su s rs=true→pQ su s rs:=by
 induction rs with
 |nil=>intro s _;trivial
 |cons i r ih=>intro s h;exact aO (ZM.mp h) λh1 h2=>⟨eq_of_beq h1,ih h2⟩
theorem xB{C:Nat→Bool}{ch:List Str}(hj:∀(an:List Nat)(i:Nat),(∀x∈an,x∈ord)→i∈ord→ud ch sn an i=rJ C nd an i):
  ∀(m:Nat)(np:Nat→Int)(rd an o:List Nat),(∀x∈an,x∈ord)→an.length+5*m≤90→Gb su ord m np rd=some o→kx su ord ch sn np rd an (o.foldl (rJ C nd) an):=by
 intro m
 induction m with
 |zero=>intro np rd an r _ _ h;cases h
 |succ m ih=>
  intro np rd an r ha hl h
  cases rd with
  |nil=>have h:=Option.some.inj h;subst h;exact .stop np an
  |cons x xs=>
   ·refine aO (Fu h) λhc h=>aO (ZM.mp hc) λz0 h5=>aO (ZM.mp z0) λz1 h3=>aO (ZM.mp z1) λh1 h2=>?_
    have h5:=of_decide_eq_true h5
    have h2:=of_decide_eq_true h2
    have ho:∀i∈x::xs,i∈ord:= λi hi=>ZF.mp (ZG.mp h3 i hi)
    have fold:∀(l:List Nat)(an:List Nat),(∀i∈l,i∈ord)→(∀x∈an,x∈ord)→l.foldl (ud ch sn) an=l.foldl (rJ C nd) an∧(∀x∈l.foldl (rJ C nd) an,x∈ord)∧(l.foldl (rJ C nd) an).length≤an.length+l.length:=by
     intro l
     induction l with
     |nil=>intro an _ ha;exact⟨rfl,ha,ZA _⟩
     |cons i l ihl=>
      intro an hl ha
      have e:=hj an i ha (hl i (.head _))
      have ha':(∀x∈rJ C nd an i,x∈ord)∧(rJ C nd an i).length≤an.length+1:=by
       unfold rJ
       split
       ·refine⟨λx hx=>?_,by simp⟩
        rcases ZT.mp hx with hx|hx
        ·exact ha x hx
        ·simp at hx;rw[hx];exact hl i (.head _)
       ·exact⟨ha,by lia⟩
      refine fP (ihl (rJ C nd an i) (λj hj=>hl j (.tail _ hj)) ha'.1) λe2 h2 h3=>?_
      exact⟨(congrArg (λz=>l.foldl _ z) e).trans e2,by rw[Zv];exact h2,by rw[Zv,Zk];have:=ha'.2;lia⟩
    refine fP (fold (x::xs) an ho ha) λfe fo fl=>?_
    refine aj (Z6.mp h) λo' q e=>?_
    ·subst e
     refine .go (λh=>nomatch h) (Bz h1) h2 ho (by lia) h5 ?_
     rw[fe,List.foldl_append]
     exact ih _ _ _ o' fo (by lia) q
theorem FG:∀b∈cc 10,((ZH 5).all λi=>(ZH 5).all λj=>(SB b).contains (nm i,nm j)==(fu b i).contains j)=true:=by decide+kernel
theorem et{b:List Bool}(hb:b∈cc 10)(hi:i<5)(hj:j<5):(SB b).contains (nm i,nm j)=(fu b i).contains j:=by
 have z:=ZG.mp (ZG.mp (FG b hb) i (ZP.mpr hi)) j (ZP.mpr hj)
 simpa using z
theorem wf:∀p∈qV,∃i,i<5∧∃j,j<5∧p=(nm i,nm j):=by decide+kernel
theorem zW{b:List Bool}(hb:b∈cc 10)(h:p∈SB b):∃i,i<5∧∃j,j<5∧p=(nm i,nm j)∧(fu b i).contains j=true:=by
 have hA:p∈qV:=by rw[gO b hb]at h;exact(ZQ.mp h).1
 refine br λGz kz=>?_
 refine nO (wf p hA) λi hi j hj e=>?_
 refine kz ?_
 refine⟨i,hi,j,hj,e,?_⟩
 rw[←et hb hi hj,←e,ZF]
 exact h
noncomputable def wa(b0 b1:List Bool)(i:Nat):Bool:=(ZH 5).any λj=>(fu b0 i).contains j != (fu b1 i).contains j
theorem nW{A:List Nat}(hA:∀x∈A,x<5)(hi:i<5):(A.map nm).contains (nm i)=A.contains i:=by
 rw[Zi,ZF,ZF,ZR]
 exact⟨λ⟨a,ha,e⟩=>kL a (hA a ha) i hi e▸ha,λh=>al i h rfl⟩
theorem FW(h0:b0∈cc 10)(h1:b1∈cc 10)(hi:i<5):(((cL (SB b0) (SB b1)).1++(cL (SB b0) (SB b1)).2).map (·.1)).contains (nm i)=wa b0 b1 i:=by
 refine aO (A5 h0 h1) λl1 l2=>?_
 rw[l1,l2,Zi,ZF,ZR]
 unfold wa
 rw[Z9]
 constructor
 ·rintro⟨p,hp,e⟩
  have e:p.1=nm i:=e
  rcases ZT.mp hp with hp|hp
  ·refine br λGz kz=>?_
   refine aO (ZQ.mp hp) λha hb=>?_
   obtain⟨i',hi',j,hj,ep,hc⟩:=zW h0 ha
   refine kz ?_
   have:i'=i:=kL i' hi' i hi (by rw[←e,ep])
   subst this
   refine al j (ZP.mpr hj) ?_
   have hb:(!(SB b1).contains p)=true:=hb
   rw[ep,et h1 hi hj]at hb
   rw[hc]
   simpa using hb
  ·refine br λGz kz=>?_
   refine aO (ZQ.mp hp) λha hb=>?_
   obtain⟨i',hi',j,hj,ep,hc⟩:=zW h1 ha
   refine kz ?_
   have:i'=i:=kL i' hi' i hi (by rw[←e,ep])
   subst this
   refine al j (ZP.mpr hj) ?_
   have hb:(!(SB b0).contains p)=true:=hb
   rw[ep,et h0 hi hj]at hb
   rw[hc]
   simpa using hb
 ·rintro⟨j,hj,hd⟩
  have hj:=ZP.mp hj
  refine al (nm i,nm j) (ZT.mpr ?_) rfl
  have n0:gP (SB b0) (nm i,nm j)= !(fu b0 i).contains j:=by unfold gP;rw[et h0 hi hj]
  have n1:gP (SB b1) (nm i,nm j)= !(fu b1 i).contains j:=by unfold gP;rw[et h1 hi hj]
  cases q0:(fu b0 i).contains j with
  |true=>
   rw[q0]at hd
   refine .inl (ZQ.mpr ⟨ZF.mp (by rw[et h0 hi hj];exact q0),?_⟩)
   rw[n1];simpa using hd
  |false=>
   rw[q0]at hd
   refine .inr (ZQ.mpr ⟨ZF.mp (by rw[et h1 hi hj];simpa using hd),?_⟩)
   rw[n0,q0];rfl
theorem vv:∀i,i<5→∀j,j<5→((nm i).cps.toList==(nm j).cps.toList)=(i==j):=by decide+kernel
theorem yY(b:List Bool):∀i,∀j∈fu b i,j<i:= λi j h=>by
 unfold fu at h
 exact ZP.mp (ZQ.mp h).1
theorem pO{L:List α}{f:α→Bool}:(!(L.filter f).isEmpty)=true↔∃x∈L,f x=true:=by
 rw[Bool.not_eq_true',←Bool.not_eq_true,List.isEmpty_iff,List.filter_eq_nil_iff]
 simp
theorem Ih(h0:b0∈cc 10)(h1:b1∈cc 10){an:List Nat}(ha:∀x∈an,x<5)(hi:i<5):ud (((cL (SB b0) (SB b1)).1++(cL (SB b0) (SB b1)).2).map (·.1)) (SB b1) an i=rJ (wa b0 b1) (fu b1) an i:=by
 unfold ud rJ
 rw[FW h0 h1 hi]
 have e:(!((SB b1).filter (mK (SB b1) an i)).isEmpty)=(fu b1 i).any an.contains:=by
  rw[Zi,Z9]
  rw[pO]
  constructor
  ·rintro⟨p,hp,hh⟩
   refine br λGz kz=>?_
   obtain⟨i',hi',j,hj,ep,hc⟩:=zW h1 hp
   refine kz ?_
   unfold mK at hh
   rw[ep,Z3]at hh
   have e1:=hh.1
   rw[vv i' hi' i hi]at e1
   have:i'=i:=by simpa using e1
   subst this
   have e2:(an.map nm).contains (nm j)=true:=hh.2
   rw[nW ha hj]at e2
   exact al j (ZF.mp hc) e2
  ·rintro⟨j,hj,hc⟩
   have hj5:j<5:=by have:=yY b1 i j hj;lia
   refine al (nm i,nm j) (ZF.mp (by rw[et h1 hi hj5];exact ZF.mpr hj)) ?_
   unfold mK
   rw[Z3]
   exact⟨by rw[vv i hi i hi];simp,by rw[nW ha hj5];exact hc⟩
 rw[e]
theorem tH{L:List α}{f g:α→Bool}:L.filter f=L.filter g↔∀x∈L,f x=g x:=by
 refine⟨λh x hx=>?_,λh=>Zm h⟩
 rw[Zi]
 constructor
 ·intro q
  have:x∈L.filter g:=h▸ZQ.mpr ⟨hx,q⟩
  exact(ZQ.mp this).2
 ·intro q
  have:x∈L.filter f:=h▸ZQ.mpr ⟨hx,q⟩
  exact(ZQ.mp this).2
theorem y7:∀i,i<5→∀j,j<i→(nm i,nm j)∈qV:=by decide+kernel
theorem F0(h0:b0∈cc 10)(h1:b1∈cc 10)(hi:i<5):qQ (SB b0) (SB b1) (nm i)=wa b0 b1 i:=by
 unfold qQ
 have e:((SB b0).filter (kT (nm i))=(SB b1).filter (kT (nm i)))↔∀j,j<5→(fu b0 i).contains j=(fu b1 i).contains j:=by
  rw[gO b0 h0,gO b1 h1,List.filter_filter,List.filter_filter,tH]
  constructor
  ·intro h j hj
   by_cases hji:j<i
   ·have z:=h _ (y7 i hi j hji)
    have f1:kT (nm i) (nm i,nm j)=true:=by unfold kT;simp
    rw[f1,Bool.true_and,Bool.true_and]at z
    unfold uy at z
    rw[et h0 hi hj,et h1 hi hj]at z
    exact z
   ·have n:∀b,(fu b i).contains j=false:= λb=>by
     cases q:(fu b i).contains j with
     |false=>rfl
     |true=>exact absurd (yY b i j (ZF.mp q)) hji
    rw[n,n]
  ·intro h p hp
   refine br λGz kz=>?_
   refine nO (wf p hp) λi' hi' j hj ep=>?_
   refine kz ?_
   subst ep
   have f1:kT (nm i) (nm i',nm j)=(i'==i):=vv i' hi' i hi
   rw[f1]
   cases q:i'==i with
   |false=>rfl
   |true=>
    have:i'=i:=by simpa using q
    subst this
    rw[Bool.true_and,Bool.true_and]
    unfold uy
    rw[et h0 hi hj,et h1 hi hj]
    exact h j hj
 unfold wa
 rw[Zi,Bool.not_eq_true',decide_eq_false_iff_not,e,Z9]
 constructor
 ·intro h
  apply Classical.byContradiction
  intro n
  refine h λj hj=>?_
  cases q:(fu b0 i).contains j==(fu b1 i).contains j with
  |true=>simpa using q
  |false=>exact absurd (al j (ZP.mpr hj) (by simpa using q)) n
 ·rintro⟨j,hj,hd⟩ h
  rw[h j (ZP.mp hj)]at hd
  simp at hd
theorem Fx{A:List Nat}(hA:∀x∈A,x<5)(hi:i<5)(hn:∀j∈nd i,j<5):mF (A.map nm) (nm i::(nd i).map nm)=(A.contains i||(nd i).any A.contains):=by
 unfold mF sw
 rw[List.headD_cons,nW hA hi,List.drop_succ_cons,List.drop_zero,Zr]
 congr 1
 rw[Zi,Z9]
 rw[pO]
 constructor
 ·rintro⟨p,hp,h⟩
  refine aj (ZR.mp hp) λj hj z0=>?_;subst z0
  have h:(A.map nm).contains (nm j)=true:=h
  rw[nW hA (hn j hj)]at h
  exact al j hj h
 ·rintro⟨j,hj,h⟩
  refine al _ (ZR.mpr (al j hj rfl)) ?_
  show(A.map nm).contains (nm j)=true
  rw[nW hA (hn j hj)]
  exact h
theorem qJ(P:Nat→Bool):lK ((ZH 5).filter P)=[4,0,1,3,2].filter P:=by
 unfold lK
 refine Zm λi hi=>?_
 rw[Zi,ZF,ZQ]
 exact⟨λh=>h.2,λh=>⟨ZP.mpr (m9 i hi),h⟩⟩
theorem Cg(P:Nat→Bool):∀x∈(ZH 5).filter P,x<5:= λx hx=>ZP.mp (ZQ.mp hx).1
theorem o6(P:Nat→Bool):iJ (((ZH 5).filter P).map nm) (([4,0,1,3,2].filter P).map nm):=by
 rw[←qJ P]
 exact on (Cg P) (List.Pairwise.filter _ List.nodup_range)
theorem oL(nd:Nat→List Nat)(f:List Str→Bool)(P:Nat→Bool)(h:∀i,i<5→f (nm i::(nd i).map nm)=P i):((bK nd).filter f).map sw=((ZH 5).filter P).map nm:=by
 unfold bK
 rw[List.filter_map,Zr]
 have e:(ZH 5).filter (f∘ λi=>nm i::(nd i).map nm)=(ZH 5).filter P:=Zm λi hi=>h i (ZP.mp hi)
 rw[e]
 rfl
theorem vL{nd:Nat→List Nat}{C:Nat→Bool}(hn:∀i,∀j∈nd i,j<i):∀(m k:Nat),vk (bK nd) k (([4,0,1,3,2].filter (tn C nd m)).map nm) (([4,0,1,3,2].filter (tn C nd (m+k))).map nm)
 |m,0=>.z _
 |m,k+1=>by
  have lt:∀x∈[4,0,1,3,2].filter (tn C nd m),x<5:= λx hx=>m9 x (ZQ.mp hx).1
  refine .su (zs:=([4,0,1,3,2].filter (tn C nd (m+1))).map nm) ?_ ?_
  ·rw[oL nd _ (λi=>([4,0,1,3,2].filter (tn C nd m)).contains i||(nd i).any ([4,0,1,3,2].filter (tn C nd m)).contains) λi hi=>Fx lt hi λj hj=>by have:=hn i j hj;lia]
   rw[←CK hn m]
   exact o6 _
  ·have z:=vL (nd:=nd) (C:=C) hn (m+1) k
   rw[show m+1+k=m+(k+1)by lia]at z
   exact z
theorem yL(h0:b0∈cc 10)(h1:b1∈cc 10):∃r z1 zs,GV (bK (fu b0)) (fu b1) (SB b0) (SB b1) r z1 zs:=by
 have B0:=y8 h0
 have B1:=y8 h1
 refine aO (A5 h0 h1) λl1 l2=>?_
 have o:=ZG.mp En b1 h1
 unfold Hh at o
 dsimp only at o
 split at o
 ·rename_i ol eo
  rw[Z3,Z3]at o
  refine br λGz kz=>?_
  refine aO o λz0 o3=>aO z0 λo1 o2=>?_
  have o1:∀x∈(ic (fu b1)).ord,x<5:= λx hx=>by simpa using ZG.mp o1 x hx
  have o3:∀x,x<5→x∈ol:= λx hx=>by simpa using ZG.mp o3 x (ZP.mpr hx)
  have nl:=yY b1
  refine fP (xG (C:=wa b0 b1) nl ol [] [] o2 (λ_ h=>nomatch h) (λ_ h=>nomatch h) .nil (λ_ h=>nomatch h)) λg1 g2 g3=>?_
  refine kz ?_
  refine wW (ol.foldl (rJ (wa b0 b1) (fu b1)) []) (([4,0,1,3,2].filter (wa b0 b1)).map nm) (([4,0,1,3,2].filter (tn (wa b0 b1) (fu b1) 5)).map nm) ?_
  have rn:=xB (ch:=((cL (SB b0) (SB b1)).1++(cL (SB b0) (SB b1)).2).map (·.1)) (sn:=SB b1) (C:=wa b0 b1) (nd:=fu b1) (su:=(ic (fu b1)).su) (ord:=(ic (fu b1)).ord) (λan i ha hi=>Ih h0 h1 (λx hx=>o1 x (ha x hx)) (o1 i hi)) 7 _ _ [] ol (λ_ h=>nomatch h) (by simp) eo
  have l5:=i8 5 _ g1 g3
  have ll:=At b0
  have lm:=At b1
  exact {
   B0:=B0
   B1:=B1
   k0:= λr hr=>(jo h0 r hr).2.1
   k1:= λr hr=>(jo h1 r hr).2.1
   j0:=v7 b0 h0
   j1:=v7 b1 h1
   n0:=by unfold bK;simp
   S0:=by rw[n8 b0 h0];exact kS h0
   S1:=by rw[n8 b1 h1];exact kS h1
   ao:=Ab h0
   an:=Ab h1
   zo:=by lia
   zn:=by lia
   zl:=by
    rw[l1,l2]
    have:=Zc (gP (SB b1)) (SB b0)
    have:=Zc (gP (SB b0)) (SB b1)
    lia
   hp:=E4 b1
   su:=GZ h1
   sz:=Gm _ λi hi=>(E4 b1 i hi).1
   h0:=Ap h1
   rn:=rn
   rl:=by lia
   hs:=by
    have e:lK (ol.foldl (rJ (wa b0 b1) (fu b1)) [])=[4,0,1,3,2].filter (tn (wa b0 b1) (fu b1) 5):=by
     unfold lK
     exact Zm λi hi=>g2 i (.inr (o3 i (m9 i hi)))
    rw[←e]
    exact on g3 g1
   d0:=by
    rw[oL (fu b0) _ (wa b0 b1) λi hi=>F0 h0 h1 hi]
    exact o6 _
   dn:=by
    have z:=vL (nd:=fu b1) (C:=wa b0 b1) nl 0 5
    exact z
   l1:=l1
   l2:=l2}
 ·cases o
theorem yo(h:IntsAre its ns):cF ρ n (ns.map .int) its:=by
 induction h with
 |nil=>exact .nil
 |cons i t _ ih=>exact .cons ⟨_,rfl⟩ ih
theorem rQ:∀{its:List Value}{ns:List Int},IntsAre its ns→its.length=ns.length
 |_,_,.nil=>rfl
 |_,_,.cons i t h=>by simp[rQ h]
theorem xC{lower upper step:Option Expr}{p:Pos}{a:Addr}{l u t:Option Int}{σ₄:St}{v':List AV}(hz:its.length<1000)(h0:t≠some 0)(hs:∀o x,∃ops,subscripted (.Slice lower upper step p) false o x=operate ops (getItem o x))
  (e0:Ev c F k value σ (.val (.ref a)) σ₁)(h1:Pt c F k lower σ₁ l σ₂)(h2:Pt c F k upper σ₂ u σ₃)(h3:Pt c F k step σ₃ t σ₄)(hL:c.h₁.IsList a ⟨its⟩)(hne:a≠c.tj)(hp:∀ρ n,cF ρ n v' (slicePick ⟨its⟩ l u t).toList):
  Ev c F k (.Subscript value (.Slice lower upper step p) pos) σ (.obj σ₄.H.length) ⟨σ₄.loc,σ₄.H++[.list v']⟩:= λA ρ s env Q E K r q=>
 Subscript_ (e0 A ρ s env _ E K r λρ1 s1 y r1 st1 vy=>wpAny_Slice (h1 A ρ1 s1 env _ E K r1 λρ2 s2 y2 r2 st2 vl=>h2 A ρ2 s2 env _ E K r2 λρ3 s3 y3 r3 st3 vu=>h3 A ρ3 s3 env _ E K r3 λρ4 s4 y4 r4 st4 vt=>by
  have vy:y=.ref a:=vy
  subst vy
  refine aj vl ?_;clear vl;intro l' z0 hl;subst z0
  refine aj vu ?_;clear vu;intro u' z0 hu;subst z0
  refine aj vt ?_;clear vt;intro t' z0 htt;subst z0
  subst hl hu htt
  have g3:s4.heap.IsList a ⟨its⟩:=by
   refine br λGz kz=>?_
   refine bz hL λo ho hc hd=>?_
   refine kz ?_
   exact bO o (r4.hr.base a o ho hne) hc hd
  have pp:=HP.of_push (o:={cls:=.type "slice",data:=.fields #[partValue l',partValue u',partValue t']}) r4
  have r5:=pp.1 s4.toks
  refine br λGz kz=>?_
  refine bp (hs (.ref a) (.ref s4.heap.objs.size)) λops hops=>?_
  refine aO (r5.alloc (ao:=.list v') (ob:={cls:=.type "list",data:=.seq (slicePick ⟨its⟩ (l'.map (·.1)) (u'.map (·.1)) (t'.map (·.1)))}) s4.toks rfl (cH ((slicePick ⟨its⟩ (l'.map (·.1)) (u'.map (·.1)) (t'.map (·.1))).toList) _ rfl (hp _ _))) λr6 st6'=>?_
  refine kz ?_
  refine tail_any (ops:=ops) (g3.push _).typeIs slot_list_getitem.lookup (wpAny_getItem_list_slice (g3.push _) (bO _ (ZN _ rfl) rfl rfl) mm mm mm h0 ?_ (by show its.length≤_;unfold sizeLine;lia)) hops
  exact q _ _ _ r6 ((((st1.trans st2).trans st3).trans st4).trans ((pp.step s4.toks).trans st6')) ⟨by simp,by rw[aF]⟩))
theorem EF(hz:c.rz=true)(Jc:c.GoJ){S:Addr}(hS:c.h₁.IsList S ⟨its⟩)(hne:S≠c.tj)(hI:IntsAre its ns)(hn:ns.length<900){r:List Nat}{z1:List Str}
  (e1:(ZH 5).map (jP (ns.take 30) mA 0 5 0 1)=bK nd)(P:GV ((ZH 5).map (jP (ns.take 30) mA 0 5 0 0)) nd so sn r z1 zs):
  ∃H',Fn c (k+114) (.ref 916) [.val (.ref S)] [] H (.bool true) H':=by
 have G:=Jc.go
 refine br λGz kz=>?_
 refine xP λsc sc2 p1 p2 p3 p4 p5 p6 p7 p8 t1 a0 a1 a2 a3 a4 a5 a6 a7 a8 a9 a10 a11 a12 a13 a14 a15 a16 a17 a18 t2 hz_=>?_
 obtain⟨hb,he,S1,S2,k1,k2,n1,n2,n3⟩:=hz_
 let l0:List (Str×AV):=[("script",.val (.ref S))]
 refine bb (H++[AO.list ((ns.take 30).map .int)]) λH1 e1'=>?_
 have h1:H1[H.length]?=some (.list ((ns.take 30).map .int)):=by rw[e1'];exact aP
 refine cT (Ao (k:=k+12) G h1 (by rw[List.length_take];lia)) λbk H2 f2 z0 x2 _=>i7 z0 λnm' a js bs=>?_
 let l1:List (Str×AV):=aS ("drawn":Str) (.obj bk) l0
 have R0:=tI bs (k:=0) (by decide)
 have R1:=tI bs (k:=1) (by decide)
 rw[e1]at R1
 refine bz (zw (k:=k+11) (l:=l1) (a13:=a13) (a11:=a11) (a12:=a12) Jc S1 S2 k1 k2 n1 n2 n3 he (ah _ _ _) bs.b R0 R1 (λr hr=>⟨P.B0.ok r hr,P.k0 r hr⟩) (λr hr=>⟨P.B1.ok r hr,P.k1 r hr⟩) P.B0.n P.B1.n P.j0 P.j1) λH3 ev3 h3 x3=>?_
 obtain⟨Z,M,U,A,H4,f4,q1,q2,q3,q4,kp⟩:=DU (k:=k) (H:=H3) hz G h3 P.B0 P.B1 P.S0 P.S1 P.ao P.an P.zo P.zn P.zl P.hp P.su P.sz P.h0 P.rn P.rl P.hs
 have k34:∀(y:Nat)(o:AO),o.lt=true→H2[y]?=some o→H4[y]?=some o:= λy o t h=>kp y o t (x3 _ _ h)
 obtain⟨Z',M',U',A',H5,f5,w1,w2,w3,w4,kq⟩:=GD (k:=k+11) (H:=H4) G (k34 _ _ rfl bs.b) (R0.keep k34) (R1.keep k34) P.B0.r P.B1.r P.n0 (by unfold bK;simp) P.B0.q P.B1.q P.S0 P.S1 (by have:=P.zo;lia) (by have:=P.zn;lia) P.d0 P.dn
 refine kz ?_
 refine⟨H5,?_⟩
 refine da (k:=k+113) (fl:=.ret (.bool true)) (loc:=l0) G (Fe _) (by w_on) (by w_on) (λρ m s xs ks X hx hk=>?_) ?_
 ·refine mx hx hk λ_ hx=>?_
  refine al [("script",_)] (@bC _ _ _ _ _ X ?_) (.cons hx .nil)
  exact Fv _ _
 ·apply aK (loc:=l1)
  rw[hb]
  have sl:=xC (c:=c) (F:=qF) (k:=k+113) (σ:=⟨l0,H⟩) (σ₁:=⟨l0,H⟩) (σ₂:=⟨l0,H⟩) (σ₃:=⟨l0,H⟩) (σ₄:=⟨l0,H⟩) (value:=.Name "script" p3) (lower:=none) (upper:=some (.Constant (.int 30) t1 p4)) (step:=none) (p:=p5) (pos:=p6) (a:=S) (its:=its) (l:=none) (u:=some 30) (t:=none) (v':=(ns.take 30).map .int) (by rw[rQ hI];lia) (by simp) (λ_ _=>⟨_,rfl⟩) (aa ir rfl rfl) dm (e9 aJ) dm hS hne (λρ n=>by rw[List.map_take];exact uY 30 (yo hI))
  rw[show(St.H ⟨l0,H⟩)++[AO.list ((ns.take 30).map .int)]=H1 from e1'.symm]at sl
  have s0:Ex c qF (k+113) (.Assign [.Name "drawn" p1] (.Call (.Name "_law_books" p2) [.Subscript (.Name "script" p3) (.Slice none (some (.Constant (.int 30) t1 p4)) none p5) p6] [] p7) p8) ⟨l0,H⟩ .next ⟨l1,H2⟩:=
   aw (σ₁:=⟨l0,H2⟩) ir rfl (λ_=>rfl) (jU (σ₂:=⟨l0,H1⟩) G (rP _) (λ_=>rfl) (dp G ir rfl (CN _)) (af λ_=>rfl) (am (λ_=>rfl) sl au) f2)
  have told:sP c.w.params 906 gm oq:=xj _
  have due:sP c.w.params 911 jV wz:=Br _
  have kt:∃kp,∀S,peek c.K S (keeperOf (.ref 906))=some kp:=⟨.frame,λS=>by rw[G.hK];w_on⟩
  have kd:∃kp,∀S,peek c.K S (keeperOf (.ref 911))=some kp:=⟨.frame,λS=>by rw[G.hK];w_on⟩
  have c1:=fS (c:=c) (F:=qF) (k:=k+113) (σ:=⟨l1,H2⟩) (σ₁:=⟨l1,H2⟩) (σ₂:=⟨l1,H3⟩) (func:=.Name "_law_told" a1) (pos:=a14) (f:=.ref 906) (kws:=[]) G.ok (λ_=>rfl) (dp G ir rfl (Fw _)) kt (gF (af λ_=>rfl) (am (λ_=>rfl) ev3 au)) f4
  have c2:=fS (c:=c) (F:=qF) (k:=k+113) (σ:=⟨l1,H4⟩) (σ₁:=⟨l1,H4⟩) (σ₂:=⟨l1,H4⟩) (func:=.Name "_law_due" a15) (args:=[.Name "drawn" a16]) (pos:=a17) (f:=.ref 911) (kws:=[]) G.ok (λ_=>rfl) (dp G ir rfl (HW _)) kd (gF (af λ_=>rfl) (am (λ_=>rfl) (aa ir rfl (ah _ _ _)) au)) f5
  rw[P.l1]at q2
  rw[P.l2]at q3
  exact ae s0 (bv (aX (uP rfl c1 c2 (uf (σ:=⟨l1,H5⟩) (kq _ _ rfl q1) w1 (q2.lt kq) (q3.lt kq) (kq _ _ rfl q4) w2 w3 w4))))
noncomputable def wV(ns:List Int)(k:Nat):List Bool:=(ZH 10).map λp=>cj (ca ns p) k
theorem nY(ns:List Int)(k:Nat):wV ns k∈cc 10:=mi (by unfold wV;simp)
theorem CS:∀i,i<5→∀j,j<i→i*(i - 1)/2+j<10:=by decide
theorem pF(ns:List Int)(hk:k<2):(ZH 5).map (jP ns mA 0 5 0 k)=bK (fu (wV ns k)):=by
 rw[←wU _ (nY ns k)]
 refine ZO λi hi=>?_
 have hi:=ZP.mp hi
 rw[vh ns k i hk hi]
 unfold A8 z9
 congr 1
 refine ZO λj hj=>?_
 have hj:=ZP.mp hj
 have hp:=CS i hi j hj
 unfold wV
 rw[List.getD_eq_getElem?_getD,ZK,List.getElem?_range hp]
 rfl
theorem D4(hz:c.rz=true)(Jc:c.GoJ){S:Addr}(hS:c.h₁.IsList S ⟨its⟩)(hne:S≠c.tj)(hI:IntsAre its ns)(hn:ns.length<900):∃H',Fn c (k+114) (.ref 916) [.val (.ref S)] [] H (.bool true) H':=by
 refine br λGz kz=>?_
 refine i7 (yL (nY (ns.take 30) 0) (nY (ns.take 30) 1)) λr z1 zs P=>?_
 refine kz ?_
 rw[←pF (ns.take 30) (by decide)]at P
 exact EF hz Jc hS hne hI hn (pF (ns.take 30) (by decide)) P
theorem mo{K:Frag}{p:Addr→Bool}{a:Addr}{o:Obj}:∀{l:Frag},(l.filter λq=>p q.1).lookup a=some o→l.lookup a=some o
 | [],h=>by cases h
 |(b,x)::l,h=>by
  rw[Z5]at h
  rw[ZD]
  by_cases q:p b=true
  ·rw[if_pos q,ZD]at h
   cases e:a==b with
   |true=>rw[e]at h;exact h
   |false=>rw[e]at h;exact mo (K:=K) h
  ·rw[if_neg q]at h
   have ih:=mo (K:=K) h
   cases e:a==b with
   |true=>
    have e:a=b:=by simpa using e
    subst e
    exfalso
    have:∀{l:Frag},(l.filter λq=>p q.1).lookup a=none:= λ{l}=>by
     induction l with
     |nil=>rfl
     |cons y l ih=>
      rw[Z5]
      split
      ·rename_i hy
       rw[ZD]
       have:(a==y.1)=false:=by
        cases w:a==y.1 with
        |false=>rfl
        |true=>
         have w:a=y.1:=by simpa using w
         rw[w]at q;exact absurd hy q
       rw[this];exact ih
      ·exact ih
    rw[this]at h;cases h
   |false=>exact ih
theorem IK{P:Params}(X:(hd.heap_1 P).In h):(Kx P).In h:= λa o q=>X a o (mo (K:=[]) (p:= λb=>b != 873) q)
theorem IC(P:Params):(Kx P).lookup 873=none:=by w_on
theorem Dd(P:Params):nsIn (Kx P) mainGlobals ("law":Str)=some (some (.ref 916)):=by w_on
theorem qI:mainGlobals≠873∧builtinsNs≠873∧cStatics≠873:=by decide
theorem law_join{pr:Program}{p:Program}{loose:List Str}{mean:ExcName→Option Value}{mg mb:Str→Option Value}{fa a:Addr}{vs:List Value}
  (T:Top p loose mean mg mb s.heap)(KX:(hd.heap_1 w.params).In s.heap)(hT:s.heap.get? 873=some (tabObj #[]))(hg:s.gens= #[])(hmg:mg ("law":Str)=some (.ref fa))(hL:s.heap.IsList a vs.toArray)(hI:IntsAre vs ns)(hn:ns.length<900)
  (q:∀s',OldK s.heap s'.heap→s'.os=s.os→AllBare s'.gens→Q (.bool true) s'):wpAny (model pr w) callerA (call (.ref fa) [.ref a]) Q E s:=by
 let c:Cx:=⟨pr,w,s.heap,Kx w.params,873,mg,mb,λg _=>AllBare g,true⟩
 have X:=IK KX
 have O:c.Ok:=⟨X,IC _,⟨_,hT⟩,T.g,qI.1,T.b,qI.2.1,T.nolimit,qI.2.2,T.builtins⟩
 have G:c.Go:=⟨O,rfl⟩
 refine br λGz kz=>?_
 refine eQ (T.bmain) λbm ob b1 b2 b3 b4 b5 b6=>?_
 refine kz ?_
 have J:c.GoJ:=⟨G,rfl,al (#[]) hT trivial,rfl,bm,ob,b1,b2,b3,b4,b5,b6,λe=>by
  have e:bm=873:=e
  rw[e,hT]at b3
  rw[←Option.some.inj b3]at b4
  cases b4⟩
 have hfa:fa=916:=by
  have z:=mg_of O.X O.g (Dd w.params)
  have z:mg ("law":Str)=some (.ref 916):=z
  rw[hmg]at z
  exact Value.ref.inj (Option.some.inj z)
 subst hfa
 have hne:a≠c.tj:= λe=>by
  have e:a=873:=e
  refine br λGz kz=>?_
  refine bz hL λo h1 h2 _=>?_
  refine kz ?_
  rw[e,hT]at h1
  rw[←Option.some.inj h1]at h2
  cases h2
 refine bp (D4 (c:=c) (k:=0) (H:=[]) rfl J hL hne hI hn) λH' f=>?_
 refine wpAny_call ?_
 have hr:eu c (λ_=>0) [] s.heap:=⟨λi o e=>by simp at e,λi j h=>by simp at h,λi h=>by simp at h,λb o e _=>e,λo e=>.inl e⟩
 refine f callerA (λ_=>0) s [.ref a] [] _ ⟨by decide,by decide,λ_=>rfl⟩ hr (AllBare.of_eq hg) (λ_=>al [] rfl λe h=>nomatch h) (.cons rfl .nil) .nil λρ' s' x hr' gq st vx=>?_
 have vx:x=.bool true:=vx
 subst vx
 refine q s' ⟨λb o e=>?_,λb o e=>?_⟩ st.os gq
 ·by_cases hb:b=873
  ·subst hb
   rcases hr'.tj o e with h|⟨h1,h2,v,more,⟨h3,_⟩,h4⟩
   ·exact .inl h
   ·exact .inr (.inl (bS h1 h2 v more h3 h4))
  ·exact .inl (hr'.base b o e hb)
 ·by_cases hb:b=873
  ·subst hb;exact hr'.tj.there e
  ·exact⟨o,hr'.base b o e hb⟩
end Mine
theorem PySem.Challenge.cw_nb0353_01_holds : PySem.Challenge.rw_nb0353_01.Holds :=
 Mine.hd (by
  intro w s₀ s₁ mg mb G Y fa o pm cd doc dV kV ho hd hcd hD hmg hg args vals as hpre hlay hrd hwl hlo
  have KX := km_in_of Y
  have hT := km_tabs_of Y 873 (.head _)
  refine Ground.open G ?_
  intro T B D TE TW
  clear ho hd hcd hD B D TE TW Y G
  wrow_args hpre hlay hrd hwl hlo
  refine Mine.law_join T KX hT hg hmg (by assumption) (by assumption) (by omega) ?_
  intro s' hk hos hgn
  refine ⟨.inl ⟨.bool true, .bool true, [], rfl, fun _ => rfl, .bool _, by with_unfolding_all rfl, fun _ => ⟨.nil, fun _ h => nomatch h⟩⟩, hk, hos, hgn⟩)
