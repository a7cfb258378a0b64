import PyProof.Rows.All
import Wide.All
import OpenK.AllK
import Wide.FinOn
import PySem.Challenge.RW_lp0003_07
set_option Elab.async false
set_option maxRecDepth 1000000
set_option maxHeartbeats 80000000
set_option linter.all false
set_option compiler.extract_closed false
set_option genSizeOf false
set_option genInjectivity false
set_option bootstrap.genMatcherCode false
section
open PySem PySem.W PyProof.Rows PySem.Calls
namespace Mine
noncomputable def topRunT (tb : String → Option Builtin) (p : Program) (w : World) (n₀ : Nat) (ann : Option Value) (n : Nat) : SharedT → Thread → Option SharedT :=
  @Nat.rec (fun _ => SharedT → Thread → Option SharedT) (fun _ _ => none) (fun _ ih s t => match through t with
    | true => some s
    | false => match stepOk n₀ ann t with
      | false => none
      | true => match stepT (denote tb) p w s t with
        | some (s', t') => ih s' t'
        | none => none) n
theorem topRun_of {tb : String → Option Builtin} {p : Program} {w : World} {n₀ : Nat} {ann : Option Value} : ∀ {n : Nat} {s s' : SharedT} {t : Thread}, topRunT tb p w n₀ ann n s t = some s' → topRun tb p w n₀ ann n s.abs t = some s'.abs
  | 0, _, _, _, h => by cases h
  | n + 1, s, s', t, h => by
    have h' : (match through t with
      | true => some s
      | false => match stepOk n₀ ann t with
        | false => none
        | true => match stepT (denote tb) p w s t with
          | some (s', t') => topRunT tb p w n₀ ann n s' t'
          | none => none) = some s' := h
    unfold topRun
    cases ht : through t with
    | true => rw [ht] at h'; cases h'; rfl
    | false =>
      rw [ht] at h'
      dsimp only at h' ⊢
      cases hk : stepOk n₀ ann t with
      | false => rw [hk] at h'; cases h'
      | true =>
        rw [hk] at h'
        dsimp only at h' ⊢
        cases hs : stepT (denote tb) p w s t with
        | none => rw [hs] at h'; cases h'
        | some r => obtain ⟨s₂, t₂⟩ := r; rw [hs] at h'; rw [stepT_spec hs]; exact topRun_of h'
noncomputable def toT (l : List Obj) : BT → Nat → Option (BT × Nat) :=
  @List.rec Obj (fun _ => BT → Nat → Option (BT × Nat)) (fun T n => some (T, n)) (fun o _ ih T n => match ((T.ins n o).get n).isSome with | true => ih (T.ins n o) (n + 1) | false => none) l
theorem toT_of : ∀ {l : List Obj} {T T' : BT} {n n' : Nat} {life : Life}, toT l T n = some (T', n') → absHeap T' n' life = ⟨(absHeap T n life).objs ++ l.toArray, life⟩
  | [], T, T', n, n', life, h => by
    have h : some (T, n) = some (T', n') := h
    cases h; simp [absHeap]
  | o :: r, T, T', n, n', life, h => by
    have h : (match ((T.ins n o).get n).isSome with | true => toT r (T.ins n o) (n + 1) | false => none) = some (T', n') := h
    cases hg : ((T.ins n o).get n).isSome with
    | false => rw [hg] at h; cases h
    | true =>
      rw [hg] at h
      rw [toT_of h, absHeap_ins hg]
      simp [Heap.push]
theorem left_of {p q : Program} {loose : List Str} {Xt : Shared → Bool} {α : Type} {Yf : Shared → α} {Ya : World → α} {N : Nat} {g0 : Bool}
    (h : ∀ w : World, ((fencedOpening treeTable p w N).bind fun s => match s.heap.isNs mainGlobals && s.gens.size == 0 with
      | true => (toT s.heap.objs.toList .nil 0).bind fun T => (topRunT treeTable p w s.heap.objs.size (s.heap.nsMap mainGlobals (Str.ofString "__annotations__")) N ⟨T.1, T.2, s.heap.life, s.gens, s.drawn, s.toks, s.os⟩ (topStub p)).bind fun sT =>
        match staticsOk (importedModules p.main.body) s.heap sT.abs.heap && namesBound p sT.abs.heap && gensDone sT.abs && laidKept s.heap sT.abs.heap with
        | true => some (openSeen q loose (importedModules p.main.body) Xt g0 sT.abs, Yf sT.abs)
        | false => none
      | false => none) = some (openGood q loose, Ya w)) : LeftO p q loose Xt Yf Ya N g0 := fun w => by
  obtain ⟨s, e, h⟩ := Option.bind_eq_some_iff.mp (h w)
  unfold openEnds topFrom
  rw [e]
  show (match s.heap.isNs mainGlobals && s.gens.size == 0 with | true => _ | false => _ : Option Shared).map _ = _
  cases hb : (s.heap.isNs mainGlobals && s.gens.size == 0) with
  | false => rw [hb] at h; cases h
  | true =>
    rw [hb] at h
    obtain ⟨T, hT, h⟩ := Option.bind_eq_some_iff.mp h
    obtain ⟨sT, hr, h⟩ := Option.bind_eq_some_iff.mp h
    have ha := toT_of (life := s.heap.life) hT
    have habs : (⟨T.1, T.2, s.heap.life, s.gens, s.drawn, s.toks, s.os⟩ : SharedT).abs = s := by
      unfold SharedT.abs
      dsimp only
      rw [ha]
      simp [absHeap, BT.list]
    have hr2 := topRun_of hr
    rw [habs] at hr2
    dsimp only
    rw [hr2]
    show (match staticsOk (importedModules p.main.body) s.heap sT.abs.heap && namesBound p sT.abs.heap && gensDone sT.abs && laidKept s.heap sT.abs.heap with | true => _ | false => _ : Option Shared).map _ = _
    cases hc : (staticsOk (importedModules p.main.body) s.heap sT.abs.heap && namesBound p sT.abs.heap && gensDone sT.abs && laidKept s.heap sT.abs.heap) with
    | false => rw [hc] at h; cases h
    | true => rw [hc] at h; exact h
theorem lk : OpenLaw.wellSaid PySem.Challenge.rw_lp0003_07 = true := by
  unfold OpenLaw.wellSaid OpenRow.wellSaid OpenRow.partSaid looksOpen
  try rw [Fast.te11788848310118352699]
  try rw [Fast.te2368527892694137696]
  try rw [Fast.te9807087744658564304]
  try rw [Fast.te12862048085361865435]
  try rw [Fast.te8377067652309620493]
  try rw [Fast.te18344453789297297638]
  try rw [Fast.te3471404346716756564]
  try rw [Fast.te14412699480532031325]
  try rw [Fast.te8326940854005059898]
  try rw [Fast.te5923862056798008813]
  try rw [Fast.te17691160309236699985]
  try rw [Fast.te13343964577679436407]
  try rw [Fast.te17119622794617984870]
  try rw [Fast.te17868728402115742887]
  try rw [Fast.te9706382859710513879]
  try rw [Fast.te2357444279172408678]
  try rw [Fast.te4857012375875476094]
  try rw [Fast.te13582783067957832011]
  try rw [Fast.te5318747976498570220]
  try rw [Fast.te4579403493507170074]
  try rw [Fast.te4274047373036748609]
  try rw [Fast.te12749700546528644094]
  try rw [Fast.te10501279942588096481]
  try rw [Fast.te8179353310426384613]
  try rw [Fast.te797321630700447069]
  try rw [Fast.te9572597257264208301]
  try rw [Fast.te9558739934217749035]
  try rw [Fast.te16286561074155671207]
  try rw [Fast.te6984425678791042302]
  try rw [Fast.te17095254045102204799]
  try rw [Fast.te12879404354523853263]
  try rw [Fast.te482687673346738481]
  try rw [Fast.te10792542408131684335]
  try rw [Fast.te7723801398212525404]
  kernel_rfl
noncomputable def vw : Program := { PySem.Challenge.pw_lp0003_07 with main := { PySem.Challenge.pw_lp0003_07.main with body := (PySem.Challenge.pw_lp0003_07.main.body.eraseIdx 5).eraseIdx 2 } }
noncomputable def lo : List Str := [Str.ofString "CellId", Str.ofString "CellUnion"]
local macro_rules | `(tactic| o_law) => `(tactic| refine holds_law Mine.lk fun said => ?_)
local macro_rules | `(tactic| o_head ($f $k $a $e $t)) => `(tactic| (
  refine holds_open (q := Mine.vw) (loose := Mine.lo) (Xt := fun s => xlAt Mine.vw [] s && recOk (RowW.records (OpenRow.toRowW PySem.Challenge.rw_lp0003_07.row)) s) (XP := XL Mine.vw []) (Yf := Hook.obs ($f $k $a $e (510 :: 520 :: $t))) (Ya := Hook.val ($f $k $a $e (510 :: 520 :: $t))) (YP := Hook.says ($f $k $a $e (510 :: 520 :: $t))) (N := 10098) ?hl (Hook.of ($f $k $a $e (510 :: 520 :: $t))) (Hook.keeps ($f $k $a $e (510 :: 520 :: $t))) (fun s e => xl_of s (Bool.and_eq_true_iff.mp e).1) XL.keeps (by rfl) (by rfl) (by rfl) (fun s e => recFacts_of (Bool.and_eq_true_iff.mp e).2) (by rfl) (by first | assumption | decide +kernel) (by decide +kernel) ⟨rfl, rfl, rfl, rfl, rfl, by decide +kernel⟩ ?hw ?hc
  (case' hl => (refine Mine.left_of fun w => ?_; unfold fencedOpening Mine.topRunT; rw [PySem.W.Fast.te10274390034422433532, PySem.W.Fast.te14364793385576792824, PySem.W.Fast.te14289696077712309145, PySem.W.Fast.te1435165496053646825, PySem.W.Fast.te10156331382660048174, PySem.W.Fast.te6613529449190102663, PySem.W.Fast.te11892475500146522536, PySem.W.Fast.te4187177175401517315, PySem.W.Fast.te5923862056798008813]; kernel_rfl))))
open_top hd7 for PySem.Challenge.rw_lp0003_07
end Mine
end
section
open PySem
namespace Mine.Ar
set_option genCtorIdx false
inductive N | v (i:Nat) | n (k:Nat) | a (x y:N) | l (k:Nat) (x:N) | r (x:N) (k:Nat)
inductive Z | v (i:Nat) | n (k:Int) | a (x y:Z) | s (x y:Z) | g (x:Z) | l (k:Int) (x:Z) | r (x:Z) (k:Int) | c (x:N)
inductive F | le (x y:N) | lt (x y:N) | eq (x y:N) | zl (x y:Z) | zt (x y:Z) | ze (x y:Z) | no (f:F) | an (f g:F) | or (f g:F) | im (f g:F) | ff
set_option genCtorIdx true
noncomputable def qNth:List Nat→Nat→Nat
 | [],_=>0
 | x::_,0=>x
 | _::r,n+1=>qNth r n
noncomputable def qZth:List Int→Nat→Int
 | [],_=>0
 | x::_,0=>x
 | _::r,n+1=>qZth r n
noncomputable def N.d (c:List Nat):N→Nat
 | .v i=>qNth c i
 | .n k=>k
 | .a x y=>x.d c+y.d c
 | .l k x=>k*x.d c
 | .r x k=>x.d c*k
noncomputable def Z.d (c:List Nat) (z:List Int):Z→Int
 | .v i=>qZth z i
 | .n k=>k
 | .a x y=>x.d c z+y.d c z
 | .s x y=>x.d c z-y.d c z
 | .g x=>- x.d c z
 | .l k x=>k*x.d c z
 | .r x k=>x.d c z*k
 | .c x=>(x.d c:Nat)
noncomputable def F.d (c:List Nat) (z:List Int):F→Prop
 | .le x y=>x.d c≤y.d c
 | .lt x y=>x.d c<y.d c
 | .eq x y=>x.d c=y.d c
 | .zl x y=>x.d c z≤y.d c z
 | .zt x y=>x.d c z<y.d c z
 | .ze x y=>x.d c z=y.d c z
 | .no f=>¬f.d c z
 | .an f g=>f.d c z∧g.d c z
 | .or f g=>f.d c z∨g.d c z
 | .im f g=>f.d c z→g.d c z
 | .ff=>False
noncomputable def F.ds (c:List Nat) (z:List Int) (g:F):List F→Prop
 | []=>g.d c z
 | f::r=>f.d c z→F.ds c z g r
abbrev P:=Int×List Int
noncomputable def qDot:List Int→(Nat→Int)→Int
 | c::cs,f=>c*f 0+qDot cs (fun n=>f (n+1))
 | [],_=>0
noncomputable def P.e (x:Nat→Int) (p:P):Int:=p.1+qDot p.2 x
noncomputable def qAddL:List Int→List Int→List Int
 | c::cs,d::ds=>Int.add c d::qAddL cs ds
 | [],ds=>ds
 | cs,[]=>cs
noncomputable def qMulL (k:Int):List Int→List Int
 | []=>[]
 | c::cs=>Int.mul k c::qMulL k cs
noncomputable def P.add (p q:P):P:=(Int.add p.1 q.1,qAddL p.2 q.2)
noncomputable def P.mul (k:Int) (p:P):P:=(Int.mul k p.1,qMulL k p.2)
noncomputable def qUnit:Nat→List Int
 | 0=>[1]
 | n+1=>0::qUnit n
noncomputable def N.p:N→P
 | .v i=>(0,qUnit (Nat.mul 2 i))
 | .n k=>(Int.ofNat k,[])
 | .a x y=>x.p.add y.p
 | .l k x=>x.p.mul (Int.ofNat k)
 | .r x k=>x.p.mul (Int.ofNat k)
noncomputable def Z.p:Z→P
 | .v i=>(0,qUnit (Nat.succ (Nat.mul 2 i)))
 | .n k=>(k,[])
 | .a x y=>x.p.add y.p
 | .s x y=>x.p.add (y.p.mul (-1))
 | .g x=>x.p.mul (-1)
 | .l k x=>x.p.mul k
 | .r x k=>x.p.mul k
 | .c x=>x.p
noncomputable def qLeP (q p:P):P:=p.add (q.mul (-1))
noncomputable def qLtP (q p:P):P:=let r:=qLeP q p;(Int.add r.1 (-1),r.2)
noncomputable def qProd:List (List P)→List (List P)→List (List P)
 | [],_=>[]
 | a::as,bs=>bs.map (a++·)++qProd as bs
noncomputable def F.dnf:F→Bool→List (List P)
 | .le x y,true=>[[qLeP x.p y.p]]
 | .le x y,false=>[[qLtP y.p x.p]]
 | .lt x y,true=>[[qLtP x.p y.p]]
 | .lt x y,false=>[[qLeP y.p x.p]]
 | .eq x y,true=>[[qLeP x.p y.p,qLeP y.p x.p]]
 | .eq x y,false=>[[qLtP x.p y.p],[qLtP y.p x.p]]
 | .zl x y,true=>[[qLeP x.p y.p]]
 | .zl x y,false=>[[qLtP y.p x.p]]
 | .zt x y,true=>[[qLtP x.p y.p]]
 | .zt x y,false=>[[qLeP y.p x.p]]
 | .ze x y,true=>[[qLeP x.p y.p,qLeP y.p x.p]]
 | .ze x y,false=>[[qLtP x.p y.p],[qLtP y.p x.p]]
 | .no f,b=>f.dnf (!b)
 | .an f g,true=>qProd (f.dnf true) (g.dnf true)
 | .an f g,false=>f.dnf false++g.dnf false
 | .or f g,true=>f.dnf true++g.dnf true
 | .or f g,false=>qProd (f.dnf false) (g.dnf false)
 | .im f g,true=>f.dnf false++g.dnf true
 | .im f g,false=>qProd (f.dnf true) (g.dnf false)
 | .ff,true=>[]
 | .ff,false=>[[]]
noncomputable def qIsPos:Int→Bool
 | .ofNat (_+1)=>true
 | _=>false
noncomputable def qIsNeg:Int→Bool
 | .negSucc _=>true
 | _=>false
noncomputable def qIsZ:Int→Bool
 | .ofNat 0=>true
 | _=>false
noncomputable def qHd:List Int→Int
 | []=>0
 | c::_=>c
noncomputable def qGcdL:List Int→Nat→Nat
 | [],g=>g
 | c::cs,g=>qGcdL cs (Nat.gcd c.natAbs g)
noncomputable def qDivL (g:Int):List Int→List Int
 | []=>[]
 | c::cs=>Int.ediv c g::qDivL g cs
noncomputable def qEqL:List Int→List Int→Bool
 | [],[]=>true
 | a::as,b::bs=>qIsZ (Int.sub a b) && qEqL as bs
 | _,_=>false
noncomputable def qTight (p:P):P :=
 match qGcdL p.2 0 with
 | 0=>p
 | 1=>p
 | g=>bif qEqL (qMulL (Int.ofNat g) (qDivL (Int.ofNat g) p.2)) p.2 then (Int.ediv p.1 (Int.ofNat g),qDivL (Int.ofNat g) p.2) else p
noncomputable def qDropP (p:P):P:=(p.1,p.2.tail)
noncomputable def qPairs (p:P):List P→List P→List P
 | [],acc=>acc
 | q::qs,acc=>bif qIsNeg (qHd q.2) then qTight (qDropP ((q.mul (qHd p.2)).add (p.mul (Int.neg (qHd q.2)))))::qPairs p qs acc else qPairs p qs acc
noncomputable def qElim (all:List P):List P→List P
 | []=>[]
 | p::ps=>bif qIsPos (qHd p.2) then qPairs p all (qElim all ps) else bif qIsNeg (qHd p.2) then qElim all ps else qDropP p::qElim all ps
noncomputable def qBad:List P→Bool
 | []=>false
 | p::ps=>(qIsNeg p.1 && (qGcdL p.2 0).beq 0) || qBad ps
noncomputable def qFm:Nat→List P→Bool
 | 0,ps=>qBad ps
 | n+1,ps=>qBad ps || qFm n (qElim ps ps)
noncomputable def qNonneg:Nat→List P
 | 0=>[]
 | n+1=>(0,qUnit (Nat.mul 2 n))::qNonneg n
noncomputable def qMax (a b:Nat):Nat:=bif Nat.ble a b then b else a
noncomputable def qLen:List P→Nat
 | []=>0
 | p::ps=>qMax p.2.length (qLen ps)
noncomputable def N.mx:N→Nat
 | .v i=>Nat.succ i
 | .n _=>0
 | .a x y=>qMax x.mx y.mx
 | .l _ x=>x.mx
 | .r x _=>x.mx
noncomputable def Z.mx:Z→Nat
 | .a x y=>qMax x.mx y.mx
 | .s x y=>qMax x.mx y.mx
 | .g x=>x.mx
 | .l _ x=>x.mx
 | .r x _=>x.mx
 | .c x=>x.mx
 | _=>0
noncomputable def F.mx:F→Nat
 | .le x y=>qMax x.mx y.mx
 | .lt x y=>qMax x.mx y.mx
 | .eq x y=>qMax x.mx y.mx
 | .zl x y=>qMax x.mx y.mx
 | .zt x y=>qMax x.mx y.mx
 | .ze x y=>qMax x.mx y.mx
 | .no f=>f.mx
 | .an f g=>qMax f.mx g.mx
 | .or f g=>qMax f.mx g.mx
 | .im f g=>qMax f.mx g.mx
 | .ff=>0
noncomputable def qMx:List F→Nat
 | []=>0
 | f::fs=>qMax f.mx (qMx fs)
noncomputable def qFms (nn:List P):List (List P)→Bool
 | []=>true
 | a::as=>qFm (qLen ((a++nn).map qTight)) ((a++nn).map qTight) && qFms nn as
noncomputable def qAllF (g:F):List F→List (List P)
 | []=>g.dnf false
 | f::fs=>qProd (f.dnf true) (qAllF g fs)
noncomputable def qChk (g:F) (fs:List F):Bool:=qFms (qNonneg (qMx (g::fs))) (qAllF g fs)
-- ------------- it is sound
theorem qDot_add:∀ (a b:List Int) (x:Nat→Int),qDot (qAddL a b) x=qDot a x+qDot b x
 | [],b,x=>by
  have e:qAddL [] b=b:=by cases b<;>rfl
  rw [e];exact (Int.zero_add _).symm
 | a::as,[],x=>(Int.add_zero _).symm
 | a::as,b::bs,x=>by
  show (a+b)*x 0+qDot (qAddL as bs) _=(a*x 0+qDot as _)+(b*x 0+qDot bs _)
  rw [qDot_add as bs,Int.add_mul,Int.add_assoc,Int.add_assoc,Int.add_left_comm (b*x 0)]
theorem qDot_mul (k:Int):∀ (a:List Int) (x:Nat→Int),qDot (qMulL k a) x=k*qDot a x
 | [],x=>(Int.mul_zero k).symm
 | a::as,x=>by
  show (k*a)*x 0+qDot (qMulL k as) _=k*(a*x 0+qDot as _)
  rw [qDot_mul k as,Int.mul_add,Int.mul_assoc]
theorem qE_add (p q:P) (x:Nat→Int):(p.add q).e x=p.e x+q.e x:=by
 show (p.1+q.1)+qDot (qAddL p.2 q.2) x=(p.1+qDot p.2 x)+(q.1+qDot q.2 x)
 rw [qDot_add,Int.add_assoc,Int.add_assoc,Int.add_left_comm q.1]
theorem qE_mul (k:Int) (p:P) (x:Nat→Int):(p.mul k).e x=k*p.e x:=by
 show (k*p.1)+qDot (qMulL k p.2) x=k*(p.1+qDot p.2 x)
 rw [qDot_mul,Int.mul_add]
theorem qE_le {q p:P} {x:Nat→Int} (h:q.e x≤p.e x):0≤(qLeP q p).e x:=by
 unfold qLeP;rw [qE_add,qE_mul,Int.neg_mul,Int.one_mul];exact Int.sub_nonneg_of_le h
theorem qE_lt {q p:P} {x:Nat→Int} (h:q.e x<p.e x):0≤(qLtP q p).e x:=by
 have e:(qLtP q p).e x=(qLeP q p).e x + -1:=by
  show ((qLeP q p).1 + -1)+qDot (qLeP q p).2 x=((qLeP q p).1+qDot (qLeP q p).2 x) + -1
  exact Int.add_right_comm _ _ _
 rw [e];unfold qLeP;rw [qE_add,qE_mul,Int.neg_mul,Int.one_mul];exact Int.sub_nonneg_of_le (Int.le_sub_left_of_add_le h)
theorem qTight_s {p:P} {x:Nat→Int} (h:0≤p.e x):0≤(qTight p).e x:=by
 unfold qTight
 split
 ·exact h
 ·exact h
 ·rename_i g h0 h1
  cases hb:qEqL (qMulL (Int.ofNat (qGcdL p.2 0)) (qDivL (Int.ofNat (qGcdL p.2 0)) p.2)) p.2 with
  | false=>exact h
  | true =>
   have eqs:∀ a b:List Int,qEqL a b=true→a=b:=by
    intro a
    induction a with
    | nil=>intro b e;cases b with
     | nil=>rfl
     | cons _ _=>cases e
    | cons c cs ih=>intro b e;cases b with
     | nil=>cases e
     | cons d ds =>
      have e':(qIsZ (c-d) && qEqL cs ds)=true:=e
      rw [Bool.and_eq_true] at e'
      have q:c=d:=by
       have z:=e'.1
       unfold qIsZ at z
       split at z
       ·rename_i hz;exact Int.eq_of_sub_eq_zero hz
       ·cases z
      rw [q,ih ds e'.2]
   have eq:=eqs _ _ hb
   have qHd:=congrArg (fun l=>qDot l x) eq
   have qHd:qDot (qMulL (Int.ofNat (qGcdL p.2 0)) (qDivL (Int.ofNat (qGcdL p.2 0)) p.2)) x=qDot p.2 x:=qHd
   rw [qDot_mul] at qHd
   show 0≤Int.ediv p.1 (Int.ofNat (qGcdL p.2 0))+qDot (qDivL (Int.ofNat (qGcdL p.2 0)) p.2) x
   have h':0≤p.1+qDot p.2 x:=h
   rw [←qHd] at h'
   have gp:(0:Int)<Int.ofNat (qGcdL p.2 0):=by
    have:qGcdL p.2 0≠0:=h0
    show (0:Int)<((qGcdL p.2 0:Nat):Int)
    exact Int.natCast_pos.mpr (Nat.pos_of_ne_zero this)
   have z:0≤(p.1+Int.ofNat (qGcdL p.2 0)*qDot (qDivL (Int.ofNat (qGcdL p.2 0)) p.2) x) / Int.ofNat (qGcdL p.2 0):=Int.ediv_nonneg h' (Int.le_of_lt gp)
   rw [Int.add_mul_ediv_left _ _ (Int.ne_of_gt gp)] at z
   exact z
theorem qProd_mem {Q:P→Prop}:∀ {A B:List (List P)},(∃ a∈A,∀ p∈a,Q p)→(∃ b∈B,∀ p∈b,Q p)→∃ c∈qProd A B,∀ p∈c,Q p
 | [],B,⟨a,ha,_⟩,_=>by cases ha
 | a'::A,B,⟨a,ha,h⟩,hB=>by
  unfold qProd
  cases ha with
  | head =>
   obtain ⟨b,hb,h2⟩:=hB
   exact ⟨a'++b,List.mem_append_left _ (List.mem_map_of_mem hb),fun p hp=>(List.mem_append.mp hp).elim (h p) (h2 p)⟩
  | tail _ ha =>
   obtain ⟨c,hc,h3⟩:=qProd_mem ⟨a,ha,h⟩ hB
   exact ⟨c,List.mem_append_right _ hc,h3⟩
theorem qApp_l {Q:P→Prop} {A B:List (List P)} (h:∃ a∈A,∀ p∈a,Q p):∃ c∈A++B,∀ p∈c,Q p:=let ⟨a,ha,h⟩:=h;⟨a,List.mem_append_left _ ha,h⟩
theorem qApp_r {Q:P→Prop} {A B:List (List P)} (h:∃ a∈B,∀ p∈a,Q p):∃ c∈A++B,∀ p∈c,Q p:=let ⟨a,ha,h⟩:=h;⟨a,List.mem_append_right _ ha,h⟩
theorem qOne {Q:P→Prop} {p:P} (h:Q p):∃ c∈[[p]],∀ p∈c,Q p:=⟨_,.head _,fun _ hp=>by rw [List.mem_singleton.mp hp];exact h⟩
theorem qTwo {Q:P→Prop} {p q:P} (h:Q p) (h':Q q):∃ c∈[[p,q]],∀ p∈c,Q p:=⟨_,.head _,fun _ hp=>by
 cases hp with
 | head=>exact h
 | tail _ hp=>rw [List.mem_singleton.mp hp];exact h'⟩
noncomputable def qVal (c:List Nat) (z:List Int):Nat→Int
 | 0=>(qNth c 0:Nat)
 | 1=>qZth z 0
 | n+2=>qVal c.tail z.tail n
theorem qUnit_val:∀ (i:Nat) (f:Nat→Int),qDot (qUnit i) f=f i
 | 0,f=>by show 1*f 0+0=f 0;rw [Int.one_mul,Int.add_zero]
 | i+1,f=>by show 0*f 0+qDot (qUnit i) (fun n=>f (n+1))=f (i+1);rw [qUnit_val i,Int.zero_mul,Int.zero_add]
theorem qNth_tail (c:List Nat) (i:Nat):qNth c.tail i=qNth c (i+1):=by cases c<;>rfl
theorem qZth_tail (c:List Int) (i:Nat):qZth c.tail i=qZth c (i+1):=by cases c<;>rfl
theorem qVal_n:∀ (i:Nat) (c:List Nat) (z:List Int),qVal c z (2*i)=(qNth c i:Nat)
 | 0,c,z=>rfl
 | i+1,c,z=>by show qVal c.tail z.tail (2*i)=_;rw [qVal_n i,qNth_tail]
theorem qVal_z:∀ (i:Nat) (c:List Nat) (z:List Int),qVal c z (2*i+1)=qZth z i
 | 0,c,z=>rfl
 | i+1,c,z=>by show qVal c.tail z.tail (2*i+1)=_;rw [qVal_z i,qZth_tail]
theorem qN_p (c:List Nat) (z:List Int):∀ x:N,x.p.e (qVal c z)=(x.d c:Nat)
 | .v i=>by
  show 0+qDot (qUnit (2*i)) (qVal c z)=(qNth c i:Nat)
  rw [qUnit_val,qVal_n,Int.zero_add]
 | .n k=>Int.add_zero _
 | .a x y=>by show (x.p.add y.p).e _=((x.d c+y.d c:Nat):Int);rw [qE_add,qN_p c z x,qN_p c z y];rfl
 | .l k x=>by show (x.p.mul k).e _=((k*x.d c:Nat):Int);rw [qE_mul,qN_p c z x,Int.natCast_mul]
 | .r x k=>by show (x.p.mul k).e _=((x.d c*k:Nat):Int);rw [qE_mul,qN_p c z x,Int.natCast_mul,Int.mul_comm]
theorem qZ_p (c:List Nat) (z:List Int):∀ x:Z,x.p.e (qVal c z)=x.d c z
 | .v i=>by
  show 0+qDot (qUnit (2*i+1)) (qVal c z)=qZth z i
  rw [qUnit_val,qVal_z,Int.zero_add]
 | .n k=>Int.add_zero _
 | .a x y=>by show (x.p.add y.p).e _=x.d c z+y.d c z;rw [qE_add,qZ_p c z x,qZ_p c z y]
 | .s x y=>by show (x.p.add (y.p.mul (-1))).e _=x.d c z-y.d c z;rw [qE_add,qE_mul,qZ_p c z x,qZ_p c z y,Int.neg_mul,Int.one_mul];rfl
 | .g x=>by show (x.p.mul (-1)).e _=- x.d c z;rw [qE_mul,qZ_p c z x,Int.neg_mul,Int.one_mul]
 | .l k x=>by show (x.p.mul k).e _=k*x.d c z;rw [qE_mul,qZ_p c z x]
 | .r x k=>by show (x.p.mul k).e _=x.d c z*k;rw [qE_mul,qZ_p c z x,Int.mul_comm]
 | .c x=>qN_p c z x
theorem qF_dnf (c:List Nat) (z:List Int):∀ f:F,(f.d c z→∃ a∈f.dnf true,∀ p∈a,0≤P.e (qVal c z) p)∧(¬f.d c z→∃ a∈f.dnf false,∀ p∈a,0≤P.e (qVal c z) p)
 | .le x y=>⟨fun h=>qOne (qE_le (by rw [qN_p,qN_p];exact Int.ofNat_le.mpr h)),fun h=>qOne (qE_lt (by rw [qN_p,qN_p];exact Int.ofNat_lt.mpr (Nat.lt_of_not_le h)))⟩
 | .lt x y=>⟨fun h=>qOne (qE_lt (by rw [qN_p,qN_p];exact Int.ofNat_lt.mpr h)),fun h=>qOne (qE_le (by rw [qN_p,qN_p];exact Int.ofNat_le.mpr (Nat.le_of_not_lt h)))⟩
 | .eq x y=>⟨fun h=>qTwo (qE_le (by rw [qN_p,qN_p];exact Int.le_of_eq (congrArg _ h))) (qE_le (by rw [qN_p,qN_p];exact Int.le_of_eq (congrArg _ (Eq.symm h)))),fun h=>(Nat.lt_or_gt_of_ne h).elim (fun q=>qApp_l (B:=[[qLtP y.p x.p]]) (qOne (qE_lt (by rw [qN_p,qN_p];exact Int.ofNat_lt.mpr q)))) fun q=>qApp_r (A:=[[qLtP x.p y.p]]) (qOne (qE_lt (by rw [qN_p,qN_p];exact Int.ofNat_lt.mpr q)))⟩
 | .zl x y=>⟨fun h=>qOne (qE_le (by rw [qZ_p,qZ_p];exact h)),fun h=>qOne (qE_lt (by rw [qZ_p,qZ_p];exact Int.not_le.mp h))⟩
 | .zt x y=>⟨fun h=>qOne (qE_lt (by rw [qZ_p,qZ_p];exact h)),fun h=>qOne (qE_le (by rw [qZ_p,qZ_p];exact Int.not_lt.mp h))⟩
 | .ze x y=>⟨fun h=>qTwo (qE_le (by rw [qZ_p,qZ_p];exact Int.le_of_eq h)) (qE_le (by rw [qZ_p,qZ_p];exact Int.le_of_eq (Eq.symm h))),fun h=>(Int.lt_or_gt_of_ne h).elim (fun q=>qApp_l (B:=[[qLtP y.p x.p]]) (qOne (qE_lt (by rw [qZ_p,qZ_p];exact q)))) fun q=>qApp_r (A:=[[qLtP x.p y.p]]) (qOne (qE_lt (by rw [qZ_p,qZ_p];exact q)))⟩
 | .no f=>⟨fun h=>(qF_dnf c z f).2 h,fun h=>(qF_dnf c z f).1 (Classical.not_not.mp h)⟩
 | .an f g=>⟨fun h=>qProd_mem ((qF_dnf c z f).1 h.1) ((qF_dnf c z g).1 h.2),fun h=>by
   by_cases q:f.d c z
   ·exact qApp_r ((qF_dnf c z g).2 fun r=>h ⟨q,r⟩)
   ·exact qApp_l ((qF_dnf c z f).2 q)⟩
 | .or f g=>⟨fun h=>h.elim (fun h=>qApp_l ((qF_dnf c z f).1 h)) (fun h=>qApp_r ((qF_dnf c z g).1 h)),fun h=>qProd_mem ((qF_dnf c z f).2 fun r=>h (.inl r)) ((qF_dnf c z g).2 fun r=>h (.inr r))⟩
 | .im f g=>⟨fun h=>by
   by_cases q:f.d c z
   ·exact qApp_r ((qF_dnf c z g).1 (h q))
   ·exact qApp_l ((qF_dnf c z f).2 q),fun h=>by
   have h:¬(f.d c z→g.d c z):=h
   exact qProd_mem ((qF_dnf c z f).1 (Classical.byContradiction fun q=>h fun r=>(q r).elim)) ((qF_dnf c z g).2 fun r=>h fun _=>r)⟩
 | .ff=>⟨fun h=>h.elim,fun _=>⟨[],.head _,fun _ h=>(nomatch h)⟩⟩
theorem qHd_tail (p:P) (f:Nat→Int):p.e f=p.1+(qHd p.2*f 0+qDot p.2.tail (fun n=>f (n+1))):=by
 obtain ⟨k,l⟩:=p
 cases l with
 | nil=>show k+0=k+(0*f 0+0);rw [Int.zero_mul];rfl
 | cons a as=>rfl
theorem qDropP_s {p:P} {f:Nat→Int} (h:0≤p.e f) (h0:qIsPos (qHd p.2)=false) (h1:qIsNeg (qHd p.2)=false):0≤(qDropP p).e (fun n=>f (n+1)):=by
 rw [qHd_tail] at h
 have:qHd p.2=0:=by
  revert h0 h1
  generalize qHd p.2=k
  intro h0 h1
  match k,h0,h1 with
  | .ofNat 0,_,_=>rfl
  | .ofNat (_+1),h,_=>cases h
  | .negSucc _,_,h=>cases h
 rw [this,Int.zero_mul,Int.zero_add] at h
 exact h
theorem qPair_s {p q:P} {f:Nat→Int} (hp:0≤p.e f) (hq:0≤q.e f) (h0:qIsPos (qHd p.2)=true) (h1:qIsNeg (qHd q.2)=true) :
  0≤(qTight (qDropP ((q.mul (qHd p.2)).add (p.mul (Int.neg (qHd q.2)))))).e (fun n=>f (n+1)):=by
 have a0:0<qHd p.2:=by
  revert h0
  generalize qHd p.2=k
  intro h0
  match k,h0 with
  | .ofNat (n+1),_=>exact Int.natCast_pos.mpr (Nat.succ_pos n)
 have a1:qHd q.2<0:=by
  revert h1
  generalize qHd q.2=k
  intro h1
  match k,h1 with
  | .negSucc n,_=>exact Int.negSucc_lt_zero n
 have hh:∀ (a b:List Int),qHd (qAddL a b)=qHd a+qHd b:=by
  intro a b
  cases a with
  | nil=>cases b with
   | nil=>rfl
   | cons b bs=>exact (Int.zero_add b).symm
  | cons a as=>cases b with
   | nil=>exact (Int.add_zero a).symm
   | cons b bs=>rfl
 have hm:∀ (k:Int) (a:List Int),qHd (qMulL k a)=k*qHd a:=by
  intro k a
  cases a with
  | nil=>exact (Int.mul_zero k).symm
  | cons a as=>rfl
 refine qTight_s ?_
 have e:0≤((q.mul (qHd p.2)).add (p.mul (Int.neg (qHd q.2)))).e f:=by
  rw [qE_add,qE_mul,qE_mul]
  have z0:=Int.mul_nonneg (Int.le_of_lt a0) hq
  have z1:0≤-qHd q.2*p.e f:=Int.mul_nonneg (Int.neg_nonneg_of_nonpos (Int.le_of_lt a1)) hp
  exact Int.add_nonneg z0 z1
 rw [qHd_tail] at e
 have z:qHd ((q.mul (qHd p.2)).add (p.mul (Int.neg (qHd q.2)))).2=0:=by
  show qHd (qAddL (qMulL (qHd p.2) q.2) (qMulL (-qHd q.2) p.2))=0
  rw [hh,hm,hm,Int.neg_mul,Int.mul_comm (qHd q.2)];exact Int.add_right_neg _
 rw [z,Int.zero_mul,Int.zero_add] at e
 exact e
theorem qPairs_s {p:P} {f:Nat→Int} (hp:0≤p.e f) (h0:qIsPos (qHd p.2)=true) {acc:List P} (ha:∀ q∈acc,0≤q.e (fun n=>f (n+1))):∀ {qs:List P},(∀ q∈qs,0≤q.e f)→∀ r∈qPairs p qs acc,0≤r.e (fun n=>f (n+1))
 | [],_,r,hr=>ha r hr
 | q::qs,h,r,hr=>by
  unfold qPairs at hr
  cases hb:qIsNeg (qHd q.2) with
  | true =>
   rw [hb] at hr
   cases hr with
   | head=>exact qPair_s hp (h _ (.head _)) h0 hb
   | tail _ hr=>exact qPairs_s hp h0 ha (fun q hq=>h q (.tail _ hq)) r hr
  | false=>rw [hb] at hr;exact qPairs_s hp h0 ha (fun q hq=>h q (.tail _ hq)) r hr
theorem qElim_s {f:Nat→Int} {all:List P} (hA:∀ q∈all,0≤q.e f):∀ {qs:List P},(∀ q∈qs,0≤q.e f)→∀ r∈qElim all qs,0≤r.e (fun n=>f (n+1))
 | [],_,r,hr=>by cases hr
 | q::qs,h,r,hr=>by
  have ih:=qElim_s hA (fun q hq=>h q (.tail _ hq))
  unfold qElim at hr
  cases hb:qIsPos (qHd q.2) with
  | true=>rw [hb] at hr;exact qPairs_s (h _ (.head _)) hb ih hA r hr
  | false =>
   rw [hb] at hr
   cases hc:qIsNeg (qHd q.2) with
   | true=>rw [hc] at hr;exact ih r hr
   | false =>
    rw [hc] at hr
    cases hr with
    | head=>exact qDropP_s (h _ (.head _)) hb hc
    | tail _ hr=>exact ih r hr
theorem qGcd_zero:∀ (l:List Int) (g:Nat) (f:Nat→Int),qGcdL l g=0→g=0∧qDot l f=0
 | [],g,f,h=>⟨h,rfl⟩
 | c::cs,g,f,h=>by
  obtain ⟨a,b⟩:=qGcd_zero cs (Nat.gcd c.natAbs g) (fun n=>f (n+1)) h
  obtain ⟨a1,a2⟩:=Nat.gcd_eq_zero_iff.mp a
  refine ⟨a2,?_⟩
  show c*f 0+qDot cs _=0
  rw [b,Int.natAbs_eq_zero.mp a1,Int.zero_mul];rfl
theorem qBad_s {f:Nat→Int}:∀ {ps:List P},(∀ q∈ps,0≤q.e f)→qBad ps=true→False
 | [],_,h=>by cases h
 | p::ps,h,e=>by
  unfold qBad at e
  cases hb:qIsNeg p.1 && (qGcdL p.2 0).beq 0 with
  | false=>rw [hb] at e;exact qBad_s (fun q hq=>h q (.tail _ hq)) e
  | true =>
   rw [Bool.and_eq_true] at hb
   have z:=(qGcd_zero p.2 0 f (Nat.eq_of_beq_eq_true hb.2)).2
   have w:0≤p.1+qDot p.2 f:=h _ (.head _)
   have n:=hb.1
   rw [z] at w
   revert n w
   generalize p.1=k
   intro w n
   match k,n with
   | .negSucc n,_=>exact Int.not_le.mpr (Int.negSucc_lt_zero n) (by rw [Int.add_zero] at w;exact w)
theorem qFm_s:∀ {n:Nat} {ps:List P} {f:Nat→Int},(∀ q∈ps,0≤q.e f)→qFm n ps=true→False
 | 0,_,_,h,e=>qBad_s h e
 | n+1,ps,f,h,e=>by
  unfold qFm at e
  cases hb:qBad ps with
  | true=>exact qBad_s h hb
  | false=>rw [hb] at e;exact qFm_s (qElim_s h h) e
theorem qNonneg_s (c:List Nat) (z:List Int):∀ m,∀ p∈qNonneg m,0≤p.e (qVal c z)
 | 0,p,h=>by cases h
 | m+1,p,h=>by
  cases h with
  | head =>
   show 0≤0+qDot (qUnit (2*m)) (qVal c z)
   rw [qUnit_val,qVal_n,Int.zero_add];exact Int.natCast_nonneg _
  | tail _ h=>exact qNonneg_s c z m p h
theorem qFms_s {nn:List P} {f:Nat→Int} (hn:∀ p∈nn,0≤p.e f):∀ {as:List (List P)},(∃ a∈as,∀ p∈a,0≤P.e f p)→qFms nn as=true→False
 | [],⟨a,ha,_⟩,_=>by cases ha
 | a'::as,⟨a,ha,h⟩,e=>by
  unfold qFms at e
  rw [Bool.and_eq_true] at e
  cases ha with
  | head =>
   refine qFm_s (f:=f) (fun q hq=>?_) e.1
   obtain ⟨p,hp,rfl⟩:=List.mem_map.mp hq
   exact qTight_s ((List.mem_append.mp hp).elim (h p) (hn p))
  | tail _ ha=>exact qFms_s hn ⟨a,ha,h⟩ e.2
theorem qAll_s (c:List Nat) (z:List Int) (g:F) (hg:¬g.d c z):∀ fs:List F,(∃ a∈qAllF g fs,∀ p∈a,0≤P.e (qVal c z) p)∨g.ds c z fs
 | []=>.inl ((qF_dnf c z g).2 hg)
 | f::fs=>by
  by_cases q:f.d c z
  ·exact (qAll_s c z g hg fs).elim (fun h=>.inl (qProd_mem ((qF_dnf c z f).1 q) h)) fun h=>.inr fun _=>h
  ·exact .inr fun r=>(q r).elim
noncomputable abbrev F.sb (v x y:N):F:=.or (.an (.le y x) (.eq (.a v y) x)) (.an (.le x y) (.eq v (.n 0)))
noncomputable abbrev F.dv (k:Nat) (v x:N):F:=.an (.le (.l k v) x) (.lt x (.a (.l k v) (.n k)))
noncomputable abbrev F.md (k:Nat) (v w x:N):F:=.an (.eq (.a (.l k w) v) x) (.lt v (.n k))
noncomputable abbrev N.v0:N:=.v 0
noncomputable abbrev N.v1:N:=.v 1
noncomputable abbrev N.v2:N:=.v 2
noncomputable abbrev N.v3:N:=.v 3
noncomputable abbrev N.v4:N:=.v 4
noncomputable abbrev N.v5:N:=.v 5
noncomputable abbrev N.v6:N:=.v 6
noncomputable abbrev N.v7:N:=.v 7
noncomputable abbrev N.n0:N:=.n 0
noncomputable abbrev N.n1:N:=.n 1
noncomputable abbrev N.n2:N:=.n 2
noncomputable abbrev N.n3:N:=.n 3
noncomputable abbrev N.n4:N:=.n 4
noncomputable abbrev Z.v0:Z:=.v 0
noncomputable abbrev Z.v1:Z:=.v 1
noncomputable abbrev Z.v2:Z:=.v 2
noncomputable abbrev Z.v3:Z:=.v 3
noncomputable abbrev Z.v4:Z:=.v 4
noncomputable abbrev Z.v5:Z:=.v 5
noncomputable abbrev Z.v6:Z:=.v 6
noncomputable abbrev Z.v7:Z:=.v 7
noncomputable abbrev Z.n0:Z:=.n 0
noncomputable abbrev Z.n1:Z:=.n 1
noncomputable abbrev Z.n2:Z:=.n 2
noncomputable abbrev Z.n3:Z:=.n 3
noncomputable abbrev Z.n4:Z:=.n 4
end Mine.Ar
namespace Mine
section
open Ar
theorem lin (c:List Nat) (z:List Int) (g:F) (fs:List F) (h:qChk g fs=true:=by decide +kernel):g.ds c z fs:=by
 by_cases hg:g.d c z
 ·clear h
  induction fs with
  | nil=>exact hg
  | cons f fs ih=>exact fun _=>ih
 ·exact (qAll_s c z g hg fs).elim (fun e=>(qFms_s (qNonneg_s c z _) e h).elim) id
theorem lin1 {x:Nat} (g:F) (fs:List F) (h:qChk g fs=true:=by decide +kernel):g.ds [x] [] fs:=lin _ _ g fs h
theorem lin2 {x y:Nat} (g:F) (fs:List F) (h:qChk g fs=true:=by decide +kernel):g.ds [x,y] [] fs:=lin _ _ g fs h
theorem lin3 {x y u:Nat} (g:F) (fs:List F) (h:qChk g fs=true:=by decide +kernel):g.ds [x,y,u] [] fs:=lin _ _ g fs h
theorem lin4 {x y u v:Nat} (g:F) (fs:List F) (h:qChk g fs=true:=by decide +kernel):g.ds [x,y,u,v] [] fs:=lin _ _ g fs h
theorem lin5 {x y u v w:Nat} (g:F) (fs:List F) (h:qChk g fs=true:=by decide +kernel):g.ds [x,y,u,v,w] [] fs:=lin _ _ g fs h
theorem lin6 {x y u v w p:Nat} (g:F) (fs:List F) (h:qChk g fs=true:=by decide +kernel):g.ds [x,y,u,v,w,p] [] fs:=lin _ _ g fs h
theorem lin7 {x y u v w p q:Nat} (g:F) (fs:List F) (h:qChk g fs=true:=by decide +kernel):g.ds [x,y,u,v,w,p,q] [] fs:=lin _ _ g fs h
end
theorem sbc (a b:Nat):b≤a∧a-b+b=a∨a≤b∧a-b=0:=(Nat.le_total b a).imp (fun h=>⟨h,Nat.sub_add_cancel h⟩) fun h=>⟨h,Nat.sub_eq_zero_of_le h⟩
theorem dvc (k:Nat) (h:0<k) (x:Nat):k*(x / k)≤x∧x<k*(x / k)+k:=⟨Nat.mul_div_le x k,Nat.lt_mul_div_succ x h⟩
theorem mdc (k:Nat) (h:0<k) (x:Nat):k*(x / k)+x%k=x∧x%k<k:=⟨Nat.div_add_mod x k,Nat.mod_lt x h⟩
theorem zdc (k:Int) (h:0<k) (x:Int):k*(x / k)≤x∧x<k*(x / k)+k:=⟨Int.mul_ediv_self_le (Int.ne_of_gt h),Int.lt_mul_ediv_self_add h⟩
theorem tnc (x:Int):0≤x∧(x.toNat:Int)=x∨x<0∧x.toNat=0:=(Int.lt_or_le x 0).symm.imp (fun h=>⟨h,Int.toNat_of_nonneg h⟩) fun h=>⟨h,Int.toNat_eq_zero.mpr (Int.le_of_lt h)⟩
theorem nac (x:Int):0≤x∧(x.natAbs:Int)=x∨x<0∧(x.natAbs:Int)=-x:=(Int.lt_or_le x 0).symm.imp (fun h=>⟨h,Int.natAbs_of_nonneg h⟩) fun h=>⟨h,Int.ofNat_natAbs_of_nonpos (Int.le_of_lt h)⟩
theorem mnc (a b:Nat):a≤b∧min a b=a∨b<a∧min a b=b:=(Nat.lt_or_ge b a).symm.imp (fun h=>⟨h,Nat.min_eq_left h⟩) fun h=>⟨h,Nat.min_eq_right (Nat.le_of_lt h)⟩
theorem mxc (a b:Nat):a≤b∧max a b=b∨b<a∧max a b=a:=(Nat.lt_or_ge b a).symm.imp (fun h=>⟨h,Nat.max_eq_right h⟩) fun h=>⟨h,Nat.max_eq_left (Nat.le_of_lt h)⟩
end Mine
end
section
open PySem
namespace Mine
theorem nat_and_pred (p k:Nat):((2*p+1)*2^k) &&& ((2*p+1)*2^k-1)=2*p*2^k:=by
 apply Nat.eq_of_testBit_eq
 intro i
 have e1:(2*p+1)*2^k=2^k*(2*p+1):=Nat.mul_comm _ _
 have e2:(2*p+1)*2^k-1=2^k*(2*p)+(2^k-1):=by
  have:0<2^k:=Nat.two_pow_pos k
  rw [Nat.add_mul,Nat.one_mul,Nat.mul_comm (2*p)];exact (lin4 (.eq .v0 (.a .v1 .v3)) [.lt .n0 .v2,.sb .v0 (.a .v1 .v2) .n1,.sb .v3 .v2 .n1]) this (sbc _ _) (sbc _ _)
 have e3:2*p*2^k=2^k*(2*p):=Nat.mul_comm _ _
 have hlt:2^k-1<2^k:=Nat.sub_lt (Nat.two_pow_pos k) Nat.one_pos
 rw [Nat.testBit_and,e2,e3,e1,Nat.testBit_two_pow_mul_add _ hlt,Nat.testBit_two_pow_mul,Nat.testBit_two_pow_mul]
 by_cases h:i<k
 ·have:¬k≤i:=by exact (lin2 (.no (.le .v0 .v1)) [.lt .v1 .v0]) h
  simp [h,this]
 ·have h':k≤i:=by exact (lin2 (.le .v0 .v1) [.no (.lt .v1 .v0)]) h
  simp only [h,h',if_false,decide_true,Bool.true_and]
  cases hq:i-k with
  | zero=>simp [Nat.testBit_zero]
  | succ j=>simp [Nat.testBit_succ];rw [show (2*p+1) / 2=p by exact (lin2 (.eq .v0 .v1) [.dv 2 .v0 (.a (.l 2 .v1) .n1)]) (dvc 2 (by decide) _)];simp
theorem bitAnd_nn (x y:Nat):Builtin.bitAnd (x:Int) (y:Int)=((x &&& y:Nat):Int):=by
 unfold Builtin.bitAnd
 rw [decide_eq_true (Int.natCast_nonneg x),decide_eq_true (Int.natCast_nonneg y)]
 rfl
theorem bitAnd_np (x y:Nat):Builtin.bitAnd (x:Int) (-(y+1:Nat):Int)=(x:Int)-((x &&& y:Nat):Int):=by
 unfold Builtin.bitAnd
 rw [decide_eq_true (Int.natCast_nonneg x),decide_eq_false (by exact lin1 (.no (.zl .n0 (.g (.c (.a .v0 .n1))))) [])]
 show (x:Int)-_=_
 have:(Builtin.bitNot (-(y+1:Nat):Int)).toNat=y:=by unfold Builtin.bitNot;exact (lin2 (.eq .v0 .v1) [.or (.an (.zl .n0 (.s (.g (.g (.c (.a .v1 .n1)))) .n1)) (.ze (.c .v0) (.s (.g (.g (.c (.a .v1 .n1)))) .n1))) (.an (.zt (.s (.g (.g (.c (.a .v1 .n1)))) .n1) .n0) (.eq .v0 .n0))]) (tnc _)
 rw [this,Int.toNat_natCast]
theorem lsb_nat (p k:Nat):Builtin.bitAnd (((2*p+1)*2^k:Nat):Int) (-(((2*p+1)*2^k:Nat):Int))=((2^k:Nat):Int):=by
 have hp:0<(2*p+1)*2^k:=Nat.mul_pos (by exact lin1 (.lt .n0 (.a (.l 2 .v0) .n1)) []) (Nat.two_pow_pos k)
 have e:(-(((2*p+1)*2^k:Nat):Int))=(-(((2*p+1)*2^k-1)+1:Nat):Int):=by rw [Nat.sub_add_cancel hp]
 rw [e,bitAnd_np,nat_and_pred]
 have:(2*p+1)*2^k=2*p*2^k+2^k:=by rw [Nat.add_mul,Nat.one_mul]
 rw [this];exact lin2 (.ze (.s (.c (.a .v0 .v1)) (.c .v0)) (.c .v1)) []
theorem bitAnd_mask (x k:Nat):Builtin.bitAnd (x:Int) (-((2^k:Nat):Int))=((x-x%2^k:Nat):Int):=by
 have hp:0<2^k:=Nat.two_pow_pos k
 have e:(-((2^k:Nat):Int))=(-((2^k-1)+1:Nat):Int):=by rw [Nat.sub_add_cancel hp]
 rw [e,bitAnd_np,Nat.and_two_pow_sub_one_eq_mod]
 have:=Nat.mod_le x (2^k)
 exact (lin3 (.ze (.s (.c .v0) (.c .v1)) (.c .v2)) [.le .v1 .v0,.sb .v2 .v0 .v1]) this (sbc _ _)
structure Cel where
 p:Nat
 u:Nat
 deriving DecidableEq
def Cel.ok (c:Cel):Prop:=c.u≤30∧c.p<6*4^(30-c.u)
def Cel.nid (c:Cel):Nat:=(2*c.p+1)*4^c.u
def Cel.id (c:Cel):Int:=(c.nid:Int)
theorem four_pow (u:Nat):4^u=2^(2*u):=by rw [Nat.pow_mul]
theorem Cel.lsb (c:Cel):Builtin.bitAnd c.id (-c.id)=((4^c.u:Nat):Int):=by
 unfold Cel.id Cel.nid
 rw [four_pow];exact lsb_nat _ _
theorem Cel.nid_lt {c:Cel} (h:c.ok):c.nid<12*4^30:=by
 obtain ⟨hu,hp⟩:=h
 have e:4^30=4^(30-c.u)*4^c.u:=by rw [←Nat.pow_add];congr 1;exact (lin2 (.eq (.n 30) (.a .v0 .v1)) [.le .v1 (.n 30),.sb .v0 (.n 30) .v1]) hu (sbc _ _)
 unfold Cel.nid
 rw [e,←Nat.mul_assoc]
 exact Nat.mul_lt_mul_of_pos_right (by exact (lin2 (.lt (.a (.l 2 .v0) .n1) (.l 12 .v1)) [.lt .v0 (.l 6 .v1)]) hp) (Nat.pow_pos (by decide))
theorem Cel.face_lt {c:Cel} (h:c.ok):c.id.fdiv (2^61)<6:=by
 have:=Cel.nid_lt h
 rw [Int.fdiv_eq_ediv_of_nonneg _ (by decide)]
 unfold Cel.id
 lia
theorem valid_bits:∀ u,u<31→Builtin.bitAnd ((4^u:Nat):Int) 1537228672809129301≠0:=by decide +kernel
theorem Cel.odd_iff (c:Cel):c.id%2=if c.u=0 then 1 else 0:=by
 unfold Cel.id Cel.nid
 by_cases h:c.u=0
 ·rw [if_pos h,h];lia
 ·rw [if_neg h]
  obtain ⟨k,hk⟩:∃ k,c.u=k+1:=⟨c.u-1,by exact (lin2 (.eq .v0 (.a .v1 .n1)) [.no (.eq .v0 .n0),.sb .v1 .v0 .n1]) h (sbc _ _)⟩
  rw [hk,Nat.pow_succ,←Nat.mul_assoc]
  lia
theorem Cel.leaf_bit (c:Cel):(Builtin.bitAnd c.id 1 != 0)=decide (c.u=0):=by
 rw [PyProof.Rows.bitAnd_m1,c.odd_iff]
 by_cases h:c.u=0<;>simp [h]
theorem Cel.face_bit {c:Cel} (h:c.ok):(Builtin.bitAnd c.id (((4^(30-Int.toNat 0):Nat):Int)-1)==0)=decide (c.u=30):=by
 have e:(((4^(30-Int.toNat 0):Nat):Int)-1)=((2^60-1:Nat):Int):=by decide
 unfold Cel.id
 rw [e,bitAnd_nn,Nat.and_two_pow_sub_one_eq_mod]
 obtain ⟨hu,hp⟩:=h
 have key:c.nid%2^60=0↔c.u=30:=by
  constructor
  ·intro h0
   by_cases h30:c.u=30
   ·exact h30
   ·exfalso
    have hd:2^60∣(2*c.p+1)*4^c.u:=Nat.dvd_of_mod_eq_zero h0
    rw [four_pow] at hd
    have h2:(2:Nat)^60=2*2^(59-2*c.u)*2^(2*c.u):=by
     rw [Nat.mul_assoc,←Nat.pow_add,Nat.mul_comm,←Nat.pow_succ];congr 1;exact (lin2 (.eq (.n 60) (.a (.a .v0 (.l 2 .v1)) .n1)) [.le .v1 (.n 30),.no (.eq .v1 (.n 30)),.sb .v0 (.n 59) (.l 2 .v1)]) hu h30 (sbc _ _)
    rw [h2] at hd
    have:=Nat.dvd_of_mul_dvd_mul_right (Nat.two_pow_pos _) hd
    have h3:2∣2*c.p+1:=Nat.dvd_trans (Nat.dvd_mul_right 2 _) this
    lia
  ·intro h30
   unfold Cel.nid
   rw [h30,show (2:Nat)^60=4^30 by decide]
   exact Nat.mul_mod_left _ _
 by_cases h30:c.u=30
 ·rw [key.mpr h30,decide_eq_true h30];rfl
 ·have:c.nid%2^60≠0:=fun q=>h30 (key.mp q)
  rw [decide_eq_false h30]
  simp only [beq_eq_false_iff_ne,ne_eq]
  exact (lin4 (.no (.ze (.c .v0) .n0)) [.im (.eq .v0 .n0) (.eq .v3 (.n 30)),.no (.eq .v3 (.n 30)),.md (2^60) .v0 .v2 .v1]) key.mp h30 (mdc (2^60) (by decide) _)
def Cel.first (c:Cel):Cel:=⟨c.p*4^c.u,0⟩
def Cel.last (c:Cel):Cel:=⟨(c.p+1)*4^c.u-1,0⟩
theorem Cel.first_id (c:Cel):c.id-(((4^c.u:Nat):Int)-1)=c.first.id:=by
 unfold Cel.id Cel.nid Cel.first
 have:=Nat.pow_pos (n:=c.u) (show 0<4 by decide)
 dsimp only
 rw [Nat.pow_zero,Nat.mul_one,Nat.add_mul,Nat.one_mul,Nat.mul_assoc]
 exact lin2 (.ze (.s (.c (.a (.l 2 .v0) .v1)) (.s (.c .v1) .n1)) (.c (.a (.l 2 .v0) .n1))) []
theorem Cel.last_id (c:Cel):c.id+(((4^c.u:Nat):Int)-1)=c.last.id:=by
 unfold Cel.id Cel.nid Cel.last
 have:=Nat.pow_pos (n:=c.u) (show 0<4 by decide)
 dsimp only
 rw [Nat.pow_zero,Nat.mul_one,Nat.add_mul,Nat.one_mul,Nat.mul_assoc,Nat.add_mul,Nat.one_mul]
 exact (lin3 (.ze (.a (.c (.a (.l 2 .v0) .v1)) (.s (.c .v1) .n1)) (.c (.a (.l 2 .v2) .n1))) [.lt .n0 .v1,.sb .v2 (.a .v0 .v1) .n1]) this (sbc _ _)
theorem four_split {u:Nat} (h:u≤30):4^30=4^(30-u)*4^u:=by rw [←Nat.pow_add];congr 1;exact (lin2 (.eq (.n 30) (.a .v0 .v1)) [.le .v1 (.n 30),.sb .v0 (.n 30) .v1]) h (sbc _ _)
theorem Cel.end_le {c:Cel} (h:c.ok):(c.p+1)*4^c.u≤6*4^30:=by
 obtain ⟨hu,hp⟩:=h
 rw [four_split hu,←Nat.mul_assoc]
 exact Nat.mul_le_mul_right _ (by exact (lin2 (.le (.a .v0 .n1) (.l 6 .v1)) [.lt .v0 (.l 6 .v1)]) hp)
theorem Cel.first_ok {c:Cel} (h:c.ok):c.first.ok:=by
 refine ⟨Nat.zero_le _,?_⟩
 have:=Cel.end_le h
 have:=Nat.pow_pos (n:=c.u) (show 0<4 by decide)
 show c.p*4^c.u<6*4^30
 rw [Nat.add_mul,Nat.one_mul] at *
 exact (lin2 (.lt .v0 (.l 6 (.n (2^60)))) [.le (.a .v0 .v1) (.l 6 (.n (2^60))),.lt .n0 .v1]) ‹_› this
theorem Cel.last_ok {c:Cel} (h:c.ok):c.last.ok:=by
 refine ⟨Nat.zero_le _,?_⟩
 have:=Cel.end_le h
 have:=Nat.pow_pos (n:=c.u) (show 0<4 by decide)
 show (c.p+1)*4^c.u-1<6*4^30
 rw [Nat.add_mul,Nat.one_mul] at *
 exact (lin3 (.lt .v0 (.l 6 (.n (2^60)))) [.le (.a .v1 .v2) (.l 6 (.n (2^60))),.lt .n0 .v2,.sb .v0 (.a .v1 .v2) .n1]) ‹_› this (sbc (c.p*4^c.u+4^c.u) (1))
theorem Cel.fmod {c:Cel} (h:c.ok):c.id.fmod 18446744073709551615=c.id:=by
 have:=Cel.nid_lt h
 rw [Int.fmod_eq_emod_of_nonneg _ (by decide)]
 unfold Cel.id
 exact Int.emod_eq_of_lt (by exact lin1 (.zl .n0 (.c .v0)) []) (by lia)
def Cel.par (c:Cel):Cel:=⟨c.p / 4,c.u+1⟩
theorem Cel.par_ok {c:Cel} (h:c.ok) (hu:c.u≠30):c.par.ok:=by
 obtain ⟨h1,h2⟩:=h
 refine ⟨show c.u+1≤30 by exact (lin1 (.le (.a .v0 .n1) (.n 30)) [.no (.eq .v0 (.n 30)),.le .v0 (.n 30)]) hu h1,?_⟩
 show c.p / 4<6*4^(30-(c.u+1))
 have:4^(30-c.u)=4^(30-(c.u+1))*4:=by rw [←Nat.pow_succ];congr 1;exact (lin3 (.eq .v0 (.a .v2 .n1)) [.no (.eq .v1 (.n 30)),.le .v1 (.n 30),.sb .v0 (.n 30) .v1,.sb .v2 (.n 30) (.a .v1 .n1)]) hu h1 (sbc _ _) (sbc _ _)
 rw [this] at h2
 exact (lin3 (.lt .v0 (.l 6 .v2)) [.lt .v1 (.l 6 (.r .v2 4)),.dv 4 .v0 .v1]) h2 (dvc 4 (by decide) _)
theorem bitOr_nn (x y:Nat):Builtin.bitOr (x:Int) (y:Int)=((x ||| y:Nat):Int):=by
 unfold Builtin.bitOr Builtin.bitNot Builtin.bitAnd
 rw [decide_eq_false (by exact lin1 (.no (.zl .n0 (.s (.g (.c .v0)) .n1))) []),decide_eq_false (by exact lin1 (.no (.zl .n0 (.s (.g (.c .v0)) .n1))) [])]
 show -(Builtin.bitNot (((Builtin.bitNot (-(x:Int)-1)).toNat ||| (Builtin.bitNot (-(y:Int)-1)).toNat:Nat):Int))-1=_
 unfold Builtin.bitNot
 have e1:(-(-(x:Int)-1)-1).toNat=x:=by exact (lin2 (.eq .v0 .v1) [.or (.an (.zl .n0 (.s (.g (.s (.g (.c .v1)) .n1)) .n1)) (.ze (.c .v0) (.s (.g (.s (.g (.c .v1)) .n1)) .n1))) (.an (.zt (.s (.g (.s (.g (.c .v1)) .n1)) .n1) .n0) (.eq .v0 .n0))]) (tnc _)
 have e2:(-(-(y:Int)-1)-1).toNat=y:=by exact (lin2 (.eq .v0 .v1) [.or (.an (.zl .n0 (.s (.g (.s (.g (.c .v1)) .n1)) .n1)) (.ze (.c .v0) (.s (.g (.s (.g (.c .v1)) .n1)) .n1))) (.an (.zt (.s (.g (.s (.g (.c .v1)) .n1)) .n1) .n0) (.eq .v0 .n0))]) (tnc _)
 rw [e1,e2];exact lin1 (.ze (.s (.g (.s (.g (.c .v0)) .n1)) .n1) (.c .v0)) []
theorem or_pow_of_even (q k:Nat):(2*q*2^k) ||| 2^k=(2*q+1)*2^k:=by
 apply Nat.eq_of_testBit_eq
 intro i
 rw [Nat.testBit_or,Nat.testBit_two_pow,Nat.mul_comm (2*q),Nat.mul_comm (2*q+1),Nat.testBit_two_pow_mul,Nat.testBit_two_pow_mul]
 by_cases h:k≤i
 ·simp only [h,decide_true,Bool.true_and]
  cases hq:i-k with
  | zero =>
   have:k=i:=by exact (lin3 (.eq .v0 .v1) [.le .v0 .v1,.eq .v2 .n0,.sb .v2 .v1 .v0]) h hq (sbc _ _)
   simp [Nat.testBit_zero,this]
  | succ j =>
   have:k≠i:=by exact (lin4 (.no (.eq .v0 .v1)) [.eq .v2 (.a .v3 .n1),.sb .v2 .v1 .v0]) hq (sbc _ _)
   simp [Nat.testBit_succ,this];rw [show (2*q+1) / 2=q by exact (lin2 (.eq .v0 .v1) [.dv 2 .v0 (.a (.l 2 .v1) .n1)]) (dvc 2 (by decide) _)]
 ·have:k≠i:=by exact (lin2 (.no (.eq .v0 .v1)) [.no (.le .v0 .v1)]) h
  simp [h,this]
theorem or_pow_of_odd (q k:Nat):((2*q+1)*2^k) ||| 2^k=(2*q+1)*2^k:=by
 apply Nat.eq_of_testBit_eq
 intro i
 rw [Nat.testBit_or,Nat.testBit_two_pow,Nat.mul_comm (2*q+1),Nat.testBit_two_pow_mul]
 by_cases h:k=i
 ·subst h;simp [Nat.testBit_zero]
 ·simp [h]
theorem Cel.par_bits (c:Cel):Builtin.bitOr (Builtin.bitAnd c.id (-(((4^c.u:Nat):Int)*2^Int.toNat 2))) (((4^c.u:Nat):Int)*2^Int.toNat 2)=c.par.id:=by
 have e:(((4^c.u:Nat):Int)*2^Int.toNat 2)=((2^(2*c.u+2):Nat):Int):=by
  rw [four_pow,Nat.pow_add];simp
 rw [e]
 unfold Cel.id
 rw [bitAnd_mask,bitOr_nn]
 congr 1
 have hp:=Nat.two_pow_pos (2*c.u)
 have e1:c.nid-c.nid%2^(2*c.u+2)=(c.p / 2)*2^(2*c.u+2):=by
  have hdiv:c.nid / 2^(2*c.u+2)=c.p / 2:=by
   unfold Cel.nid
   rw [four_pow,Nat.pow_add,Nat.mul_comm (2^(2*c.u)) (2^2),Nat.mul_div_mul_right _ _ hp]
   exact (lin3 (.eq .v0 .v2) [.dv 4 .v0 (.a (.l 2 .v1) .n1),.dv 2 .v2 .v1]) (dvc 4 (by decide) _) (dvc 2 (by decide) _)
  have:=Nat.div_add_mod c.nid (2^(2*c.u+2))
  rw [hdiv] at this
  rw [Nat.mul_comm (c.p / 2)]
  exact (lin4 (.eq .v0 .v3) [.eq (.a .v3 .v2) .v1,.sb .v0 .v1 .v2]) this (sbc _ _)
 rw [e1]
 have e2:c.par.nid=(2*(c.p / 4)+1)*2^(2*c.u+2):=by
  unfold Cel.nid Cel.par
  dsimp only
  rw [four_pow,Nat.mul_add]
 rw [e2]
 rcases Nat.mod_two_eq_zero_or_one (c.p / 2) with h | h
 ·rw [show c.p / 2=2*(c.p / 4) by lia,or_pow_of_even]
 ·rw [show c.p / 2=2*(c.p / 4)+1 by lia,or_pow_of_odd]
end Mine
end
section
open PySem
namespace Mine
def Cel.has (c e:Cel):Bool:=decide (c.first.id≤e.id) && decide (e.id≤c.last.id)
def popIn (e:Cel):List Cel→List Cel
 | []=>[]
 | t::r=>if e.has t then popIn e r else t::r
def Cel.mask (c:Cel):Int:=Builtin.bitNot (((4^c.u:Nat):Int)*2^Int.toNat 1+((4^c.u:Nat):Int)*2^Int.toNat 1*2^Int.toNat 1)
def quad (x3 x2 x1 c:Cel):Bool :=
 decide (Builtin.bitXor (Builtin.bitXor x3.id x2.id) x1.id=c.id) && (decide (Builtin.bitAnd x3.id c.mask=Builtin.bitAnd c.id c.mask) && (decide (Builtin.bitAnd x2.id c.mask=Builtin.bitAnd c.id c.mask) && (decide (Builtin.bitAnd x1.id c.mask=Builtin.bitAnd c.id c.mask) && !decide (c.u=30))))
def merge:Cel→List Cel→Cel×List Cel
 | c,x1::x2::x3::r=>if quad x3 x2 x1 c then merge c.par r else (c,x1::x2::x3::r)
 | c,st=>(c,st)
def push (st:List Cel) (c:Cel):List Cel:=(merge c (popIn c st)).1::(merge c (popIn c st)).2
def nstep (st:List Cel) (c:Cel):List Cel:=match st with
 | []=>push st c
 | t::_=>if t.has c then st else push st c
theorem merge_no {c x1 x2 x3:Cel} {r:List Cel} (h:quad x3 x2 x1 c=false):merge c (x1::x2::x3::r)=(c,x1::x2::x3::r):=by rw [merge,if_neg (by rw [h];decide)]
theorem merge_yes {c x1 x2 x3:Cel} {r:List Cel} (h:quad x3 x2 x1 c=true):merge c (x1::x2::x3::r)=merge c.par r:=by rw [merge,if_pos h]
theorem merge_few {c:Cel} {st:List Cel} (h:st.length<3):merge c st=(c,st):=by
 match st,h with
 | [],_=>rfl
 | [_],_=>rfl
 | [_,_],_=>rfl
end Mine
end
section
open PySem
namespace Mine
/-! cells as stretches of leaves -/
def Cel.lo (c:Cel):Nat:=c.p*4^c.u
def Cel.hi (c:Cel):Nat:=(c.p+1)*4^c.u
theorem p4 (u:Nat):0<4^u:=Nat.pow_pos (by decide)
theorem Cel.hi_eq (c:Cel):c.hi=c.lo+4^c.u:=by unfold Cel.hi Cel.lo;rw [Nat.add_mul,Nat.one_mul]
theorem Cel.lo_lt (c:Cel):c.lo<c.hi:=by rw [c.hi_eq];have:=p4 c.u;exact (lin2 (.lt .v0 (.a .v0 .v1)) [.lt .n0 .v1]) this
def Cel.sub (c d:Cel):Prop:=d.lo≤c.lo∧c.hi≤d.hi
theorem Cel.sub_rfl (c:Cel):c.sub c:=⟨Nat.le_refl _,Nat.le_refl _⟩
theorem Cel.sub.trans {c d e:Cel} (h:c.sub d) (k:d.sub e):c.sub e:=⟨Nat.le_trans k.1 h.1,Nat.le_trans h.2 k.2⟩
theorem four_add {u v:Nat} (h:u≤v):4^v=4^(v-u)*4^u:=by rw [←Nat.pow_add];congr 1;exact (lin3 (.eq .v0 (.a .v1 .v2)) [.le .v2 .v0,.sb .v1 .v0 .v2]) h (sbc _ _)
theorem Cel.nest {c d:Cel} (h:c.u≤d.u):c.sub d∨c.hi≤d.lo∨d.hi≤c.lo:=by
 have e:=four_add h
 have m:=p4 c.u
 unfold Cel.sub Cel.lo Cel.hi
 rw [e,←Nat.mul_assoc,←Nat.mul_assoc]
 generalize 4^(d.u-c.u)=k at *
 by_cases a:c.p+1≤d.p*k
 ·exact .inr (.inl (Nat.mul_le_mul_right _ a))
 ·by_cases b:(d.p+1)*k≤c.p
  ·exact .inr (.inr (Nat.mul_le_mul_right _ b))
  ·exact .inl ⟨Nat.mul_le_mul_right _ (by exact (lin2 (.le .v0 .v1) [.no (.le (.a .v1 .n1) .v0)]) a),Nat.mul_le_mul_right _ (by exact (lin2 (.le (.a .v0 .n1) .v1) [.no (.le .v1 .v0)]) b)⟩
theorem Cel.nest' (c d:Cel):c.sub d∨d.sub c∨c.hi≤d.lo∨d.hi≤c.lo:=by
 by_cases h:c.u≤d.u
 ·rcases Cel.nest h with q | q | q
  ·exact .inl q
  ·exact .inr (.inr (.inl q))
  ·exact .inr (.inr (.inr q))
 ·rcases Cel.nest (c:=d) (d:=c) (by exact (lin2 (.le .v0 .v1) [.no (.le .v1 .v0)]) h) with q | q | q
  ·exact .inr (.inl q)
  ·exact .inr (.inr (.inr q))
  ·exact .inr (.inr (.inl q))
theorem Cel.meet_sub {c d:Cel} (h:c.u≤d.u) {x:Nat} (a:c.lo≤x) (b:x<c.hi) (a':d.lo≤x) (b':x<d.hi):c.sub d:=by
 rcases Cel.nest h with q | q | q
 ·exact q
 ·exact ((lin3 .ff [.lt .v0 .v1,.le .v2 .v0,.le .v1 .v2]) b a' q).elim
 ·exact ((lin3 .ff [.le .v0 .v1,.lt .v1 .v2,.le .v2 .v0]) a b' q).elim
theorem Cel.sub.u_le {c d:Cel} (h:c.sub d):c.u≤d.u:=by
 have h1:=h.1;have h2:=h.2
 rw [c.hi_eq,d.hi_eq] at h2
 have:4^c.u≤4^d.u:=by exact (lin4 (.le .v0 .v1) [.le .v2 .v3,.le (.a .v3 .v0) (.a .v2 .v1)]) h1 h2
 exact (Nat.pow_le_pow_iff_right (by decide)).mp this
theorem Cel.eq_of_lo {c d:Cel} (h:c.lo=d.lo) (k:c.u=d.u):c=d:=by
 obtain ⟨p,u⟩:=c;obtain ⟨q,v⟩:=d
 dsimp only [Cel.lo] at *
 subst k
 rw [Nat.eq_of_mul_eq_mul_right (p4 u) h]
theorem Cel.sub.sub_eq {c d:Cel} (h:c.sub d) (k:c.u=d.u):c=d:=by
 refine Cel.eq_of_lo ?_ k
 have h1:=h.1;have h2:=h.2
 rw [c.hi_eq,d.hi_eq,k] at h2
 exact (lin3 (.eq .v0 .v1) [.le .v1 .v0,.le (.a .v0 .v2) (.a .v1 .v2)]) h1 h2
theorem Cel.nid_eq (c:Cel):c.nid=c.lo+c.hi:=by
 rw [c.hi_eq];unfold Cel.nid Cel.lo
 rw [Nat.add_mul,Nat.one_mul,Nat.mul_assoc];exact lin2 (.eq (.a (.l 2 .v0) .v1) (.a .v0 (.a .v0 .v1))) []
theorem Cel.id_eq (c:Cel):c.id=(c.lo:Int)+c.hi:=by unfold Cel.id;rw [c.nid_eq];exact lin2 (.ze (.c (.a .v0 .v1)) (.a (.c .v0) (.c .v1))) []
theorem Cel.first_lo (c:Cel):c.first.lo=c.lo∧c.first.hi=c.lo+1:=by
 unfold Cel.first Cel.lo Cel.hi;simp
theorem Cel.last_lo (c:Cel):c.last.lo=c.hi-1∧c.last.hi=c.hi:=by
 have:=c.lo_lt
 have e:c.last.lo=c.hi-1:=by unfold Cel.last Cel.lo Cel.hi;simp
 have e2:c.last.hi=c.hi-1+1:=by unfold Cel.last Cel.hi;simp
 exact ⟨e,by exact (lin4 (.eq .v0 .v1) [.lt .v2 .v1,.eq .v0 (.a .v3 .n1),.sb .v3 .v1 .n1]) this e2 (sbc _ _)⟩
theorem Cel.first_id' (c:Cel):c.first.id=2*(c.lo:Int)+1:=by
 have:=c.first_lo
 rw [Cel.id_eq,this.1,this.2];exact lin1 (.ze (.a (.c .v0) (.c (.a .v0 .n1))) (.a (.l 2 (.c .v0)) .n1)) []
theorem Cel.last_id' (c:Cel):c.last.id=2*(c.hi:Int)-1:=by
 have:=c.last_lo
 have:=c.lo_lt
 rw [Cel.id_eq,c.last_lo.1,c.last_lo.2];exact (lin3 (.ze (.a (.c .v0) (.c .v1)) (.s (.l 2 (.c .v1)) .n1)) [.lt .v2 .v1,.sb .v0 .v1 .n1]) this (sbc _ _)
theorem Cel.mid {c e:Cel} (h:c.u<e.u):e.lo+e.hi≤2*c.lo∨2*c.hi≤e.lo+e.hi:=by
 have h':e.lo+e.hi=2*((4*e.p+2)*4^(e.u-1-c.u)*4^c.u):=by
  rw [←e.nid_eq];unfold Cel.nid
  have:4^e.u=4*(4^(e.u-1-c.u)*4^c.u):=by
   rw [←Nat.pow_add,Nat.mul_comm,←Nat.pow_succ];congr 1;exact (lin4 (.eq .v0 (.a (.a .v1 .v3) .n1)) [.lt .v3 .v0,.sb .v2 .v0 .n1,.sb .v1 .v2 .v3]) h (sbc (e.u) (1)) (sbc (e.u-1) (c.u))
  rw [this,Nat.mul_assoc (4*e.p+2)]
  generalize 4^(e.u-1-c.u)*4^c.u=k
  have e1:(2*e.p+1)*(4*k)=(2*e.p+1)*4*k:=(Nat.mul_assoc _ _ _).symm
  have e2:2*((4*e.p+2)*k)=2*(4*e.p+2)*k:=(Nat.mul_assoc _ _ _).symm
  rw [e1,e2];congr 1;exact lin1 (.eq (.r (.a (.l 2 .v0) .n1) 4) (.l 2 (.a (.l 4 .v0) .n2))) []
 rw [h']
 generalize (4*e.p+2)*4^(e.u-1-c.u)=k
 unfold Cel.lo Cel.hi
 by_cases q:k≤c.p
 ·left;exact Nat.mul_le_mul_left _ (Nat.mul_le_mul_right _ q)
 ·right;exact Nat.mul_le_mul_left _ (Nat.mul_le_mul_right _ (by exact (lin2 (.le (.a .v0 .n1) .v1) [.no (.le .v1 .v0)]) q))
theorem Cel.has_iff (c e:Cel):c.has e=true↔e.sub c:=by
 unfold Cel.has
 rw [Bool.and_eq_true,decide_eq_true_eq,decide_eq_true_eq,c.first_id',c.last_id',e.id_eq]
 have:=e.lo_lt
 have:=c.lo_lt
 constructor
 ·rintro ⟨h1,h2⟩
  by_cases q:e.u≤c.u
  ·rcases Cel.nest q with z | z | z
   ·exact z
   ·exact ((lin3 .ff [.lt .v0 .v1,.zl (.a (.l 2 (.c .v2)) .n1) (.a (.c .v0) (.c .v1)),.le .v1 .v2]) ‹_› h1 z).elim
   ·exact ((lin3 .ff [.lt .v0 .v1,.zl (.a (.c .v0) (.c .v1)) (.s (.l 2 (.c .v2)) .n1),.le .v2 .v0]) ‹_› h2 z).elim
  ·have:=Cel.mid (c:=c) (e:=e) (by exact (lin2 (.lt .v0 .v1) [.no (.le .v1 .v0)]) q)
   exact ((lin4 .ff [.zl (.a (.l 2 (.c .v0)) .n1) (.a (.c .v1) (.c .v2)),.zl (.a (.c .v1) (.c .v2)) (.s (.l 2 (.c .v3)) .n1),.or (.le (.a .v1 .v2) (.l 2 .v0)) (.le (.l 2 .v3) (.a .v1 .v2))]) h1 h2 this).elim
 ·rintro ⟨h1,h2⟩
  exact (lin4 (.an (.zl (.a (.l 2 (.c .v0)) .n1) (.a (.c .v1) (.c .v2))) (.zl (.a (.c .v1) (.c .v2)) (.s (.l 2 (.c .v3)) .n1))) [.lt .v1 .v2,.le .v0 .v1,.le .v2 .v3]) ‹_› h1 h2
/-! rows -/
def Lf (cs:List Cel) (x:Nat):Prop:=∃ c∈cs,c.lo≤x∧x<c.hi
abbrev Asc (cs:List Cel):Prop:=cs.Pairwise fun a b=>a.hi≤b.lo
abbrev Dsc (cs:List Cel):Prop:=cs.Pairwise fun a b=>b.hi≤a.lo
def NoQuad (cs:List Cel):Prop:=∀ P u,u<30→(∀ r,r<4→(⟨4*P+r,u⟩:Cel)∈cs)→False
theorem apart {cs:List Cel} (h:Asc cs) {c d:Cel} (hc:c∈cs) (hd:d∈cs) (hne:c≠d):c.hi≤d.lo∨d.hi≤c.lo:=by
 induction cs with
 | nil=>cases hc
 | cons a r ih =>
  have h':=List.pairwise_cons.mp h
  rcases List.mem_cons.mp hc with e1 | m1
  ·rcases List.mem_cons.mp hd with e2 | m2
   ·exact absurd (e1.trans e2.symm) hne
   ·rw [e1];exact .inl (h'.1 d m2)
  ·rcases List.mem_cons.mp hd with e2 | m2
   ·rw [e2];exact .inr (h'.1 c m1)
   ·exact ih h'.2 m1 m2
theorem apart_eq {cs:List Cel} (h:Asc cs) {c d:Cel} (hc:c∈cs) (hd:d∈cs) (hs:c.sub d):c=d:=by
 apply Classical.byContradiction
 intro q
 have:=apart h hc hd q
 have:=c.lo_lt
 have:=d.lo_lt
 have h1:=hs.1;have h2:=hs.2
 exact (lin4 .ff [.or (.le .v0 .v1) (.le .v2 .v3),.lt .v3 .v0,.le .v1 .v3,.le .v0 .v2]) ‹_› ‹_› h1 h2
theorem Cel.sub_par (P r u:Nat) (h:r<4):(⟨4*P+r,u⟩:Cel).sub ⟨P,u+1⟩:=by
 unfold Cel.sub Cel.lo Cel.hi
 dsimp only
 have e:∀ k:Nat,k*4^(u+1)=(4*k)*4^u:=fun k=>by rw [Nat.pow_succ,←Nat.mul_assoc,Nat.mul_right_comm,Nat.mul_comm k 4]
 rw [e,e]
 exact ⟨Nat.mul_le_mul_right _ (by exact lin2 (.le (.l 4 .v0) (.a (.l 4 .v0) .v1)) []),Nat.mul_le_mul_right _ (by exact (lin2 (.le (.a (.a (.l 4 .v0) .v1) .n1) (.l 4 (.a .v0 .n1))) [.lt .v1 .n4]) h)⟩
theorem Cel.eta_p (d:Cel):d=⟨4*(d.p / 4)+d.p%4,d.u⟩:=by
 obtain ⟨p,u⟩:=d
 dsimp only
 congr 1;exact (lin3 (.eq .v0 (.a (.l 4 .v1) .v2)) [.dv 4 .v1 .v0,.md 4 .v2 .v1 .v0]) (dvc 4 (by decide) _) (mdc 4 (by decide) _)
theorem grow {cs:List Cel} (ha:Asc cs) (hq:NoQuad cs) {q:Cel} (hqo:q.u≤30) (hS:∀ x,q.lo≤x→x<q.hi→Lf cs x):∀ n (d:Cel),d∈cs→d.u=n→d.sub q→d=q:=by
 intro n
 induction n using Nat.strongRecOn with
 | _ n ih =>
  intro d hd hn hs
  apply Classical.byContradiction
  intro hne
  have hlt:d.u<q.u:=by
   have:=hs.u_le
   rcases Nat.lt_or_eq_of_le this with z | z
   ·exact z
   ·exact absurd (hs.sub_eq z) hne
  have dpar:d.sub ⟨d.p / 4,d.u+1⟩:=by
   have:=Cel.sub_par (d.p / 4) (d.p%4) d.u (Nat.mod_lt _ (by decide))
   rwa [←d.eta_p] at this
  have parq:(⟨d.p / 4,d.u+1⟩:Cel).sub q:=Cel.meet_sub (x:=d.lo) (show d.u+1≤q.u by exact (lin2 (.le (.a .v0 .n1) .v1) [.lt .v0 .v1]) hlt) dpar.1 (Nat.lt_of_lt_of_le d.lo_lt dpar.2) hs.1 (Nat.lt_of_lt_of_le d.lo_lt hs.2)
  refine hq (d.p / 4) d.u (by exact (lin2 (.lt .v0 (.n 30)) [.le .v1 (.n 30),.lt .v0 .v1]) hqo hlt) fun r hr=>?_
  have s1:=Cel.sub_par (d.p / 4) r d.u hr
  have sq:=s1.trans parq
  have sl:=Cel.lo_lt ⟨4*(d.p / 4)+r,d.u⟩
  generalize hs':(⟨4*(d.p / 4)+r,d.u⟩:Cel)=s at *
  have su:s.u=d.u:=by rw [←hs']
  obtain ⟨f,hf,f1,f2⟩:=hS s.lo sq.1 (Nat.lt_of_lt_of_le sl sq.2)
  by_cases hfq:q.u≤f.u
  ·have qf:q.sub f:=Cel.meet_sub hfq sq.1 (Nat.lt_of_lt_of_le sl sq.2) f1 f2
   have:=apart_eq ha hd hf (hs.trans qf)
   have:=this▸hlt
   lia
  ·have fq:f.sub q:=Cel.meet_sub (by exact (lin2 (.le .v0 .v1) [.no (.le .v1 .v0)]) hfq) f1 f2 sq.1 (Nat.lt_of_lt_of_le sl sq.2)
   by_cases hfd:f.u<d.u
   ·have:=ih f.u (by exact (lin3 (.lt .v0 .v1) [.eq .v2 .v1,.lt .v0 .v2]) hn hfd) f hf rfl fq
    subst this;exact ((lin1 .ff [.no (.le .v0 .v0)]) hfq).elim
   ·have sf:s.sub f:=Cel.meet_sub (by exact (lin3 (.le .v0 .v1) [.eq .v0 .v2,.no (.lt .v1 .v2)]) su hfd) (Nat.le_refl _) sl f1 f2
    by_cases hu:f.u=d.u
    ·rw [sf.sub_eq (su.trans hu.symm)];exact hf
    ·exfalso
     have pf:(⟨d.p / 4,d.u+1⟩:Cel).sub f:=Cel.meet_sub (x:=s.lo) (show d.u+1≤f.u by exact (lin2 (.le (.a .v0 .n1) .v1) [.no (.lt .v1 .v0),.no (.eq .v1 .v0)]) hfd hu) s1.1 (Nat.lt_of_lt_of_le sl s1.2) f1 f2
     have:=apart_eq ha hd hf (dpar.trans pf)
     subst this;exact (lin1 .ff [.no (.eq .v0 .v0)]) hu
structure Least (S:Nat→Prop) (cs:List Cel):Prop where
 asc:Asc cs
 ok:∀ c∈cs,c.ok
 lf:∀ x,Lf cs x↔S x
 mx:∀ c∈cs,∀ q:Cel,q.u≤30→(∀ x,q.lo≤x→x<q.hi→S x)→c.sub q→c=q
theorem Least.of_noquad {cs:List Cel} (ha:Asc cs) (ho:∀ c∈cs,c.ok) (hq:NoQuad cs):Least (Lf cs) cs :=
 ⟨ha,ho,fun _=>Iff.rfl,fun c hc q hqo hS hs=>grow ha hq hqo hS c.u c hc rfl hs⟩
theorem Least.congr {S T:Nat→Prop} {cs:List Cel} (h:Least S cs) (e:∀ x,S x↔T x):Least T cs :=
 ⟨h.asc,h.ok,fun x=>(h.lf x).trans (e x),fun c hc q hq hS=>h.mx c hc q hq fun x a b=>(e x).mpr (hS x a b)⟩
theorem Least.cell {S:Nat→Prop} {cs:List Cel} (h:Least S cs) {c:Cel} (hc:c∈cs) {x:Nat} (a:c.lo≤x) (b:x<c.hi):S x:=(h.lf x).mp ⟨c,hc,a,b⟩
theorem Least.mem {S:Nat→Prop} {cs ds:List Cel} (h:Least S cs) (k:Least S ds) {c:Cel} (hc:c∈cs):c∈ds:=by
 obtain ⟨d,hd,d1,d2⟩:=(k.lf c.lo).mpr (h.cell hc (Nat.le_refl _) c.lo_lt)
 by_cases q:c.u≤d.u
 ·have:=Cel.meet_sub q (Nat.le_refl _) c.lo_lt d1 d2
  rw [h.mx c hc d (k.ok d hd).1 (fun x a b=>k.cell hd a b) this];exact hd
 ·have:=Cel.meet_sub (c:=d) (d:=c) (by exact (lin2 (.le .v0 .v1) [.no (.le .v1 .v0)]) q) d1 d2 (Nat.le_refl _) c.lo_lt
  rw [←k.mx d hd c (h.ok c hc).1 (fun x a b=>h.cell hc a b) this];exact hd
theorem asc_ext:∀ {cs ds:List Cel},Asc cs→Asc ds→(∀ c,c∈cs↔c∈ds)→cs=ds
 | [],[],_,_,_=>rfl
 | [],d::_,_,_,h=>by have:=(h d).mpr (.head _);cases this
 | c::_,[],_,_,h=>by have:=(h c).mp (.head _);cases this
 | c::r,d::t,h1,h2,h=>by
  have a1:=List.pairwise_cons.mp h1
  have a2:=List.pairwise_cons.mp h2
  have hcd:c=d:=by
   rcases List.mem_cons.mp ((h c).mp (.head _)) with q | q
   ·exact q
   ·rcases List.mem_cons.mp ((h d).mpr (.head _)) with z | z
    ·exact z.symm
    ·have:=a2.1 c q
     have:=a1.1 d z
     have:=c.lo_lt
     have:=d.lo_lt
     exact ((lin4 .ff [.le .v0 .v1,.le .v2 .v3,.lt .v1 .v2,.lt .v3 .v0]) ‹_› ‹_› ‹_› this).elim
  subst hcd
  rw [asc_ext a1.2 a2.2 fun x=>?_]
  constructor
  ·intro hx
   rcases List.mem_cons.mp ((h x).mp (.tail _ hx)) with rfl | q
   ·have:=a1.1 x hx;have:=x.lo_lt;exact ((lin2 .ff [.le .v0 .v1,.lt .v1 .v0]) ‹_› this).elim
   ·exact q
  ·intro hx
   rcases List.mem_cons.mp ((h x).mpr (.tail _ hx)) with rfl | q
   ·have:=a2.1 x hx;have:=x.lo_lt;exact ((lin2 .ff [.le .v0 .v1,.lt .v1 .v0]) ‹_› this).elim
   ·exact q
theorem Least.uniq {S:Nat→Prop} {cs ds:List Cel} (h:Least S cs) (k:Least S ds):cs=ds :=
 asc_ext h.asc k.asc fun c=>⟨h.mem k,k.mem h⟩
end Mine
end
section
open PySem
namespace Mine
theorem and3 (X k:Nat):X &&& (3*2^k)=(X / 2^k%4)*2^k:=by
 apply Nat.eq_of_testBit_eq
 intro i
 rw [Nat.testBit_and,Nat.mul_comm 3,Nat.mul_comm (X / 2^k%4),Nat.testBit_two_pow_mul,Nat.testBit_two_pow_mul,show (4:Nat)=2^2 from rfl,Nat.testBit_mod_two_pow,Nat.testBit_div_two_pow,show (3:Nat)=2^2-1 from rfl,Nat.testBit_two_pow_sub_one]
 by_cases h:k≤i
 ·have e:i-k+k=i∧k+(i-k)=i:=by exact (lin3 (.an (.eq (.a .v0 .v2) .v1) (.eq (.a .v2 .v0) .v1)) [.le .v2 .v1,.sb .v0 .v1 .v2]) h (sbc _ _)
  simp only [h,decide_true,Bool.true_and]
  first | rw [e.1] | rw [e.2]
  exact Bool.and_comm _ _
 ·simp [h]
theorem xor3 (P a b c:Nat) (ha:a<8) (hb:b<8) (hc:c<8):((8*P+a) ^^^ (8*P+b)) ^^^ (8*P+c)=8*P+((a ^^^ b) ^^^ c):=by
 have hx:((a ^^^ b) ^^^ c)<2^3:=Nat.xor_lt_two_pow (Nat.xor_lt_two_pow ha hb) hc
 apply Nat.eq_of_testBit_eq
 intro i
 rw [Nat.testBit_xor,Nat.testBit_xor,show (8:Nat)=2^3 from rfl,Nat.testBit_two_pow_mul_add _ ha,Nat.testBit_two_pow_mul_add _ hb,Nat.testBit_two_pow_mul_add _ hc,Nat.testBit_two_pow_mul_add _ hx]
 by_cases h:i<3
 ·simp only [h,if_true,Nat.testBit_xor]
 ·simp only [h,if_false]
  cases P.testBit (i-3)<;>rfl
theorem xor_scale (x y k:Nat):(x*2^k) ^^^ (y*2^k)=(x ^^^ y)*2^k:=by
 apply Nat.eq_of_testBit_eq
 intro i
 rw [Nat.testBit_xor,Nat.mul_comm x,Nat.mul_comm y,Nat.mul_comm (x ^^^ y),Nat.testBit_two_pow_mul,Nat.testBit_two_pow_mul,Nat.testBit_two_pow_mul,Nat.testBit_xor]
 by_cases h:k≤i<;>simp [h]
theorem mask_eq (c:Cel):c.mask=(-(((3*2^(2*c.u+1):Nat))+1:Nat):Int):=by
 unfold Cel.mask Builtin.bitNot
 have e:4^c.u*2=2^(2*c.u+1):=by rw [four_pow,Nat.pow_succ]
 have e1:((4^c.u:Nat):Int)*2^Int.toNat 1=((2^(2*c.u+1):Nat):Int):=by rw [←e];simp
 rw [e1]
 generalize 2^(2*c.u+1)=K
 simp only [show (2:Int)^Int.toNat 1=2 from rfl]
 exact lin1 (.ze (.s (.g (.a (.c .v0) (.r (.c .v0) (2)))) .n1) (.g (.c (.a (.l 3 .v0) .n1)))) []
theorem and_mask (x c:Cel):Builtin.bitAnd x.id c.mask=((x.nid-(x.nid / 2^(2*c.u+1)%4)*2^(2*c.u+1):Nat):Int):=by
 rw [mask_eq]
 unfold Cel.id
 rw [bitAnd_np,and3]
 have h1:x.nid / 2^(2*c.u+1)%4*2^(2*c.u+1)≤x.nid:=Nat.le_trans (Nat.mul_le_mul_right _ (Nat.mod_le _ _)) (Nat.div_mul_le_self _ _)
 exact (lin3 (.ze (.s (.c .v0) (.c .v1)) (.c .v2)) [.le .v1 .v0,.sb .v2 .v0 .v1]) h1 (sbc _ _)
theorem split4 (A K:Nat):A-(A / K%4)*K=(A / K / 4)*(4*K)+A%K:=by
 have h1:=Nat.div_add_mod A K
 have h2:=Nat.div_add_mod (A / K) 4
 have e:A / K / 4*(4*K)=4*(A / K / 4)*K:=by rw [←Nat.mul_assoc,Nat.mul_comm (A / K / 4) 4]
 have e2:K*(A / K)=4*(A / K / 4)*K+(A / K%4)*K:=by
  rw [←Nat.add_mul,h2,Nat.mul_comm]
 rw [e]
 generalize 4*(A / K / 4)*K=z at *
 generalize (A / K%4)*K=y at *
 generalize K*(A / K)=w at *
 exact (lin6 (.eq .v0 (.a .v3 .v4)) [.eq (.a .v5 .v4) .v1,.eq .v5 (.a .v3 .v2),.sb .v0 .v1 .v2]) h1 e2 (sbc _ _)
theorem unq {a a' b b' K:Nat} (hb:b<K) (hb':b'<K) (h:a*(4*K)+b=a'*(4*K)+b'):a=a'∧b=b':=by
 have key:a=a':=by
  rcases Nat.lt_trichotomy a a' with q | q | q
  ·have:=Nat.mul_le_mul_right (4*K) (show a+1≤a' from q)
   rw [Nat.add_mul] at this;exact (lin7 (.eq .v0 .v1) [.lt .v2 .v3,.eq (.a .v4 .v2) (.a .v5 .v6),.le (.a .v4 (.l 1 (.l 4 .v3))) .v5]) hb h this
  ·exact q
  ·have:=Nat.mul_le_mul_right (4*K) (show a'+1≤a from q)
   rw [Nat.add_mul] at this;exact (lin7 (.eq .v0 .v1) [.lt .v2 .v3,.eq (.a .v4 .v5) (.a .v6 .v2),.le (.a .v6 (.l 1 (.l 4 .v3))) .v4]) hb' h this
 subst key
 exact ⟨rfl,by exact (lin3 (.eq .v0 .v1) [.eq (.a .v2 .v0) (.a .v2 .v1)]) h⟩
theorem nid_split (c:Cel):c.nid / 2^(2*c.u+1)=c.p∧c.nid%2^(2*c.u+1)=2^(2*c.u):=by
 have hp:=Nat.two_pow_pos (2*c.u)
 have e:c.nid=2^(2*c.u+1)*c.p+2^(2*c.u):=by
  unfold Cel.nid
  rw [four_pow,Nat.pow_succ,Nat.add_mul,Nat.one_mul,Nat.mul_comm 2 c.p,Nat.mul_assoc,Nat.mul_comm c.p,Nat.mul_comm (2^(2*c.u)) 2]
 have hlt:2^(2*c.u)<2^(2*c.u+1):=by rw [Nat.pow_succ];exact (lin1 (.lt .v0 (.r .v0 2)) [.lt .n0 .v0]) hp
 rw [e]
 exact ⟨by rw [Nat.mul_add_div (Nat.two_pow_pos _),Nat.div_eq_of_lt hlt,Nat.add_zero],by rw [Nat.mul_add_mod,Nat.mod_eq_of_lt hlt]⟩
theorem mod_other {x:Cel} {u:Nat} (h:x.nid%2^(2*u+1)=2^(2*u)):x.u=u:=by
 rcases Nat.lt_trichotomy x.u u with q | q | q
 ·exfalso
  have h2:=(nid_split x).2
  have d1:2^(2*x.u+1)∣2^(2*u):=Nat.pow_dvd_pow 2 (by exact (lin2 (.le (.a (.l 2 .v0) .n1) (.l 2 .v1)) [.lt .v0 .v1]) q)
  have d2:2^(2*x.u+1)∣2^(2*u+1):=Nat.pow_dvd_pow 2 (by exact (lin2 (.le (.a (.l 2 .v0) .n1) (.a (.l 2 .v1) .n1)) [.lt .v0 .v1]) q)
  have d3:2^(2*x.u+1)∣x.nid:=by
   rw [←Nat.div_add_mod x.nid (2^(2*u+1)),h]
   exact Nat.dvd_add (Nat.dvd_trans d2 (Nat.dvd_mul_right _ _)) d1
  rw [Nat.mod_eq_zero_of_dvd d3] at h2
  have:=Nat.two_pow_pos (2*x.u)
  exact (lin1 .ff [.eq .n0 .v0,.lt .n0 .v0]) h2 this
 ·exact q
 ·exfalso
  have d:2^(2*u+1)∣x.nid:=by
   unfold Cel.nid
   rw [four_pow]
   exact Nat.dvd_trans (Nat.pow_dvd_pow 2 (by exact (lin2 (.le (.a (.l 2 .v0) .n1) (.l 2 .v1)) [.lt .v0 .v1]) q)) (Nat.dvd_mul_left _ _)
  rw [Nat.mod_eq_zero_of_dvd d] at h
  have:=Nat.two_pow_pos (2*u)
  exact (lin1 .ff [.eq .n0 .v0,.lt .n0 .v0]) h this
theorem mask_iff (x c:Cel):Builtin.bitAnd x.id c.mask=Builtin.bitAnd c.id c.mask↔x.u=c.u∧x.p / 4=c.p / 4:=by
 rw [and_mask,and_mask,Int.ofNat_inj,split4,split4,(nid_split c).1,(nid_split c).2]
 constructor
 ·intro h
  have hlt:2^(2*c.u)<2^(2*c.u+1):=by rw [Nat.pow_succ];have:=Nat.two_pow_pos (2*c.u);exact (lin1 (.lt .v0 (.r .v0 2)) [.lt .n0 .v0]) this
  obtain ⟨h1,h2⟩:=unq (Nat.mod_lt _ (Nat.two_pow_pos _)) hlt h
  have hu:=mod_other h2
  refine ⟨hu,?_⟩
  rw [←hu,(nid_split x).1] at h1
  exact h1
 ·rintro ⟨hu,hp⟩
  have:=nid_split x
  rw [hu] at this
  rw [this.1,this.2,hp]
theorem or_xor_and (x y:Nat):x ||| y=(x ^^^ y)+(x &&& y):=by
 induction x using Nat.strongRecOn generalizing y with
 | _ x ih =>
  by_cases hx:x=0
  ·subst hx;simp
  ·have h:=ih (x / 2) (by exact (lin2 (.lt .v0 .v1) [.no (.eq .v1 .n0),.dv 2 .v0 .v1]) hx (dvc 2 (by decide) _)) (y / 2)
   have o1:=@Nat.or_div_two x y
   have o2:=@Nat.xor_div_two x y
   have o3:=@Nat.and_div_two x y
   have m1:=@Nat.or_mod_two_eq_one x y
   have m2:=@Nat.xor_mod_two_eq_one x y
   have m3:=@Nat.and_mod_two_eq_one x y
   rw [←o1,←o2,←o3] at h
   generalize x ||| y=a at *
   generalize x ^^^ y=b at *
   generalize x &&& y=c at *
   rcases Nat.mod_two_eq_zero_or_one x with hx2 | hx2<;>rcases Nat.mod_two_eq_zero_or_one y with hy2 | hy2<;>simp [hx2,hy2] at m1 m2 m3<;>(first | exact (lin [_,_,_,_,_,_,_,_,_] [] (.eq .v0 (.a .v1 .v2)) [.eq .v3 (.a .v4 .v5),.eq .v6 .n0,.eq .v7 .n0,.eq (.v 8) .n0,.dv 2 .v3 .v0,.dv 2 .v4 .v1,.dv 2 .v5 .v2,.md 2 .v6 .v3 .v0,.md 2 .v7 .v4 .v1,.md 2 (.v 8) .v5 .v2]) h m1 m2 m3 (dvc 2 (by decide) _) (dvc 2 (by decide) _) (dvc 2 (by decide) _) (mdc 2 (by decide) _) (mdc 2 (by decide) _) (mdc 2 (by decide) _) | exact (lin [_,_,_,_,_,_,_,_,_] [] (.eq .v0 (.a .v1 .v2)) [.eq .v3 (.a .v4 .v5),.eq .v6 .n1,.eq .v7 .n1,.eq (.v 8) .n0,.dv 2 .v3 .v0,.dv 2 .v4 .v1,.dv 2 .v5 .v2,.md 2 .v6 .v3 .v0,.md 2 .v7 .v4 .v1,.md 2 (.v 8) .v5 .v2]) h m1 m2 m3 (dvc 2 (by decide) _) (dvc 2 (by decide) _) (dvc 2 (by decide) _) (mdc 2 (by decide) _) (mdc 2 (by decide) _) (mdc 2 (by decide) _) | exact (lin [_,_,_,_,_,_,_,_,_] [] (.eq .v0 (.a .v1 .v2)) [.eq .v3 (.a .v4 .v5),.eq .v6 .n1,.eq .v7 .n0,.eq (.v 8) .n1,.dv 2 .v3 .v0,.dv 2 .v4 .v1,.dv 2 .v5 .v2,.md 2 .v6 .v3 .v0,.md 2 .v7 .v4 .v1,.md 2 (.v 8) .v5 .v2]) h m1 m2 m3 (dvc 2 (by decide) _) (dvc 2 (by decide) _) (dvc 2 (by decide) _) (mdc 2 (by decide) _) (mdc 2 (by decide) _) (mdc 2 (by decide) _))
theorem bitXor_nn (x y:Nat):Builtin.bitXor (x:Int) (y:Int)=((x ^^^ y:Nat):Int):=by
 have e:Builtin.bitXor (x:Int) (y:Int)=Builtin.bitOr (x:Int) (y:Int)-Builtin.bitAnd (x:Int) (y:Int):=rfl
 rw [e,bitOr_nn,bitAnd_nn,or_xor_and]
 exact lin2 (.ze (.s (.c (.a .v0 .v1)) (.c .v1)) (.c .v0)) []
theorem quad_kids {x3 x2 x1 c:Cel} (hd:Dsc [c,x1,x2,x3]) (h:quad x3 x2 x1 c=true):c.u≠30∧c=⟨4*(c.p / 4)+3,c.u⟩∧x1=⟨4*(c.p / 4)+2,c.u⟩∧x2=⟨4*(c.p / 4)+1,c.u⟩∧x3=⟨4*(c.p / 4)+0,c.u⟩:=by
 unfold quad at h
 simp only [Bool.and_eq_true,decide_eq_true_eq,Bool.not_eq_true',decide_eq_false_iff_not,mask_iff] at h
 obtain ⟨_,⟨u3,p3⟩,⟨u2,p2⟩,⟨u1,p1⟩,h30⟩:=h
 have a:=List.pairwise_cons.mp hd
 have b:=List.pairwise_cons.mp a.2
 have d:=List.pairwise_cons.mp b.2
 have g1:=a.1 x1 (by simp)
 have g2:=b.1 x2 (by simp)
 have g3:=d.1 x3 (by simp)
 have lt:∀ {x y:Cel},x.u=c.u→y.u=c.u→x.hi≤y.lo→x.p<y.p:=by
  intro x y hx hy q
  unfold Cel.hi Cel.lo at q
  rw [hx,hy] at q
  have:=Nat.le_of_mul_le_mul_right q (p4 c.u)
  exact (lin2 (.lt .v0 .v1) [.le (.a .v0 .n1) .v1]) this
 have l1:=lt u1 rfl g1
 have l2:=lt u2 u1 g2
 have l3:=lt u3 u2 g3
 obtain ⟨q3,v3⟩:=x3
 obtain ⟨q2,v2⟩:=x2
 obtain ⟨q1,v1⟩:=x1
 obtain ⟨q,v⟩:=c
 dsimp only at *
 subst u3 u2 u1
 refine ⟨h30,?_,?_,?_,?_⟩<;>(congr 1;(first | exact (lin6 (.eq .v0 (.a (.l 4 .v1) .n3)) [.lt .v2 .v3,.lt .v3 .v4,.eq .v5 .v1,.lt .v4 .v0,.dv 4 .v1 .v0,.dv 4 .v5 .v2]) l3 l2 p3 l1 (dvc 4 (by decide) _) (dvc 4 (by decide) _) | exact (lin6 (.eq .v0 (.a (.l 4 .v1) .n2)) [.lt .v3 .v4,.lt .v4 .v0,.eq .v5 .v1,.lt .v0 .v2,.dv 4 .v1 .v2,.dv 4 .v5 .v3]) l3 l2 p3 l1 (dvc 4 (by decide) _) (dvc 4 (by decide) _) | exact (lin6 (.eq .v0 (.a (.l 4 .v1) .n1)) [.lt .v3 .v0,.lt .v0 .v4,.eq .v5 .v1,.lt .v4 .v2,.dv 4 .v1 .v2,.dv 4 .v5 .v3]) l3 l2 p3 l1 (dvc 4 (by decide) _) (dvc 4 (by decide) _) | exact (lin6 (.eq .v0 (.a (.l 4 .v1) .n0)) [.lt .v0 .v3,.lt .v3 .v4,.eq .v5 .v1,.lt .v4 .v2,.dv 4 .v1 .v2,.dv 4 .v5 .v0]) l3 l2 p3 l1 (dvc 4 (by decide) _) (dvc 4 (by decide) _)))
theorem kids_quad {P u:Nat} (h:u≠30):quad ⟨4*P+0,u⟩ ⟨4*P+1,u⟩ ⟨4*P+2,u⟩ ⟨4*P+3,u⟩=true:=by
 unfold quad
 simp only [Bool.and_eq_true,decide_eq_true_eq,Bool.not_eq_true',decide_eq_false_iff_not,mask_iff]
 refine ⟨?_,⟨trivial,by exact (lin3 (.eq .v0 .v2) [.dv 4 .v0 (.a (.l 4 .v1) .n0),.dv 4 .v2 (.a (.l 4 .v1) .n3)]) (dvc 4 (by decide) _) (dvc 4 (by decide) _)⟩,⟨trivial,by exact (lin3 (.eq .v0 .v2) [.dv 4 .v0 (.a (.l 4 .v1) .n1),.dv 4 .v2 (.a (.l 4 .v1) .n3)]) (dvc 4 (by decide) _) (dvc 4 (by decide) _)⟩,⟨trivial,by exact (lin3 (.eq .v0 .v2) [.dv 4 .v0 (.a (.l 4 .v1) .n2),.dv 4 .v2 (.a (.l 4 .v1) .n3)]) (dvc 4 (by decide) _) (dvc 4 (by decide) _)⟩,h⟩
 unfold Cel.id Cel.nid
 dsimp only
 rw [four_pow,bitXor_nn,bitXor_nn,xor_scale,xor_scale]
 congr 2
 have:=xor3 P 1 3 5 (by decide) (by decide) (by decide)
 rw [show 2*(4*P+0)+1=8*P+1 by exact lin1 (.eq (.a (.l 2 (.a (.l 4 .v0) .n0)) .n1) (.a (.l 8 .v0) .n1)) [],show 2*(4*P+1)+1=8*P+3 by exact lin1 (.eq (.a (.l 2 (.a (.l 4 .v0) .n1)) .n1) (.a (.l 8 .v0) .n3)) [],show 2*(4*P+2)+1=8*P+5 by exact lin1 (.eq (.a (.l 2 (.a (.l 4 .v0) .n2)) .n1) (.a (.l 8 .v0) (.n 5))) [],show 2*(4*P+3)+1=8*P+7 by exact lin1 (.eq (.a (.l 2 (.a (.l 4 .v0) .n3)) .n1) (.a (.l 8 .v0) (.n 7))) [],this]
 rfl
end Mine
end
section
open PySem
namespace Mine
theorem NoQuad.sub {cs ds:List Cel} (h:NoQuad cs) (k:∀ c∈ds,c∈cs):NoQuad ds:=fun P u hu q=>h P u hu fun r hr=>k _ (q r hr)
theorem top_of {a k:Cel} {st:List Cel} (h:Dsc (a::st)) (hk:k∈st) (e:k.hi=a.lo):∃ r,st=k::r:=by
 cases st with
 | nil=>cases hk
 | cons x r =>
  have h1:=List.pairwise_cons.mp h
  have h2:=List.pairwise_cons.mp h1.2
  rcases List.mem_cons.mp hk with q | q
  ·exact ⟨r,by rw [q]⟩
  ·have:=h2.1 k q
   have:=h1.1 x (.head _)
   have:=x.lo_lt
   exact ((lin4 .ff [.eq .v0 .v1,.le .v0 .v2,.le .v3 .v1,.lt .v2 .v3]) e ‹_› ‹_› this).elim
theorem noquad_push {e:Cel} {st:List Cel} (hd:Dsc (e::st)) (hq:NoQuad st) (hn:∀ P u r,u<30→e=⟨4*P+3,u⟩→st=⟨4*P+2,u⟩::⟨4*P+1,u⟩::⟨4*P+0,u⟩::r→False):NoQuad (e::st):=by
 intro P u hu h
 have h1:=List.pairwise_cons.mp hd
 have mem:∀ s,s<4→(⟨4*P+s,u⟩:Cel)≠e→(⟨4*P+s,u⟩:Cel)∈st:=fun s hs hne=>(List.mem_cons.mp (h s hs)).resolve_left hne
 have he:e=⟨4*P+3,u⟩:=by
  apply Classical.byContradiction
  intro hne
  have m3:=mem 3 (by decide) (fun z=>hne z.symm)
  refine hq P u hu fun r hr=>?_
  by_cases q:(⟨4*P+r,u⟩:Cel)=e
  ·exfalso
   have a:=h1.1 _ m3
   rw [←q] at a
   have l:=Cel.lo_lt ⟨4*P+3,u⟩
   have:(⟨4*P+r,u⟩:Cel).lo≤(⟨4*P+3,u⟩:Cel).lo:=by
    unfold Cel.lo;exact Nat.mul_le_mul_right _ (by dsimp only;exact (lin2 (.le (.a (.l 4 .v0) .v1) (.a (.l 4 .v0) .n3)) [.lt .v1 .n4]) hr)
   exact (lin3 .ff [.le .v0 .v1,.lt .v2 .v0,.le .v1 .v2]) a l this
  ·exact mem r hr q
 have ne:∀ s,s<3→(⟨4*P+s,u⟩:Cel)≠e:=fun s hs z=>by
  rw [he] at z
  have:=congrArg Cel.p z
  dsimp only at this
  lia
 have m2:=mem 2 (by decide) (ne 2 (by decide))
 have m1:=mem 1 (by decide) (ne 1 (by decide))
 have m0:=mem 0 (by decide) (ne 0 (by decide))
 obtain ⟨r2,e2⟩:=top_of hd m2 (by rw [he];rfl)
 rw [e2] at m1 m0
 have pne:∀ s t,s≠t→(⟨4*P+s,u⟩:Cel)≠⟨4*P+t,u⟩:=fun s t hs z=>by
  have:=congrArg Cel.p z
  dsimp only at this
  lia
 have m1:=(List.mem_cons.mp m1).resolve_left (pne 1 2 (by decide))
 have m0:=(List.mem_cons.mp m0).resolve_left (pne 0 2 (by decide))
 have d2:=h1.2
 rw [e2] at d2
 obtain ⟨r1,e1⟩:=top_of d2 m1 rfl
 rw [e1] at m0
 have m0:=(List.mem_cons.mp m0).resolve_left (pne 0 1 (by decide))
 have d1:=(List.pairwise_cons.mp d2).2
 rw [e1] at d1
 obtain ⟨r0,e0⟩:=top_of d1 m0 rfl
 exact hn P u r0 hu he (by rw [e2,e1,e0])
theorem par_lo (P u:Nat):(⟨P,u+1⟩:Cel).lo=4*P*4^u∧(⟨P,u+1⟩:Cel).hi=4*P*4^u+4*4^u:=by
 unfold Cel.lo Cel.hi
 dsimp only
 rw [Nat.pow_succ,Nat.add_mul,Nat.one_mul,Nat.mul_comm (4^u) 4,←Nat.mul_assoc,Nat.mul_comm P 4]
 exact ⟨rfl,rfl⟩
theorem kid_lo (P u r:Nat):(⟨4*P+r,u⟩:Cel).lo=4*P*4^u+r*4^u∧(⟨4*P+r,u⟩:Cel).hi=4*P*4^u+(r+1)*4^u:=by
 unfold Cel.lo Cel.hi
 dsimp only
 rw [Nat.add_assoc,Nat.add_mul,Nat.add_mul]
 exact ⟨rfl,rfl⟩
theorem Lf_cons {c:Cel} {cs:List Cel} {x:Nat}:Lf (c::cs) x↔(c.lo≤x∧x<c.hi)∨Lf cs x:=by
 unfold Lf
 simp only [List.mem_cons,exists_eq_or_imp]
theorem Lf_append {cs ds:List Cel} {x:Nat}:Lf (cs++ds) x↔Lf cs x∨Lf ds x:=by
 induction cs with
 | nil=>simp [Lf]
 | cons a r ih=>rw [List.cons_append,Lf_cons,Lf_cons,ih,or_assoc]
theorem Lf_nil {x:Nat}:¬Lf [] x:=fun ⟨_,h,_⟩=>nomatch h
theorem Lf_perm {cs ds:List Cel} (h:cs.Perm ds) (x:Nat):Lf cs x↔Lf ds x:=by
 unfold Lf
 constructor
 ·rintro ⟨c,a,b⟩;exact ⟨c,h.subset a,b⟩
 ·rintro ⟨c,a,b⟩;exact ⟨c,h.symm.subset a,b⟩
structure MInv (e:Cel) (st:List Cel) (m:Cel×List Cel):Prop where
 dsc:Dsc (m.1::m.2)
 ok:∀ c∈m.1::m.2,c.ok
 nq:NoQuad (m.1::m.2)
 lf:∀ x,Lf (m.1::m.2) x↔Lf (e::st) x
 lw:∀ n,(∀ c∈e::st,2*c.lo+1≤n)→∀ c∈m.1::m.2,2*c.lo+1≤n
theorem cut1 {a c x:Nat} (m:Nat) (h1:a≤m) (h2:m≤c):(a≤x∧x<c)↔(m≤x∧x<c)∨(a≤x∧x<m):=by
 constructor
 ·rintro ⟨p,q⟩
  rcases Nat.lt_or_ge x m with r | r
  ·exact .inr ⟨p,r⟩
  ·exact .inl ⟨r,q⟩
 ·rintro (⟨p,q⟩ | ⟨p,q⟩)
  ·exact ⟨Nat.le_trans h1 p,q⟩
  ·exact ⟨p,Nat.lt_of_lt_of_le q h2⟩
theorem cut4 (a b x:Nat):(a≤x∧x<a+4*b)↔(a+3*b≤x∧x<a+(3+1)*b)∨(a+2*b≤x∧x<a+(2+1)*b)∨(a+1*b≤x∧x<a+(1+1)*b)∨(a+0*b≤x∧x<a+(0+1)*b):=by
 have m:∀ k,a+k*b≤a+(k+1)*b:=fun k=>Nat.add_le_add_left (Nat.mul_le_mul_right _ (Nat.le_succ k)) a
 rw [cut1 (a+3*b) (Nat.le_add_right _ _) (m 3),cut1 (c:=a+3*b) (a+2*b) (Nat.le_add_right _ _) (m 2),cut1 (c:=a+2*b) (a+1*b) (Nat.le_add_right _ _) (m 1),Nat.zero_mul,Nat.zero_add]
 exact Iff.rfl
theorem merge_inv:∀ (n:Nat) (st:List Cel) (e:Cel),st.length≤n→Dsc (e::st)→(∀ c∈e::st,c.ok)→NoQuad st→MInv e st (merge e st):=by
 intro n
 induction n using Nat.strongRecOn with
 | _ n ih =>
  intro st e hn hd ho hq
  have few:st.length<3→MInv e st (merge e st):=fun h=>by
   rw [merge_few h]
   refine ⟨hd,ho,noquad_push hd hq fun P u r hu h1 h2=>?_,fun x=>Iff.rfl,fun n h=>h⟩
   dsimp only at h2;rw [h2] at h;simp at h;exact (lin1 .ff [.lt (.a (.a (.a .v0 .n1) .n1) .n1) .n3]) h
  match st,hn,hd,ho,hq,few with
  | [],_,_,_,_,few=>exact few (by decide)
  | [_],_,_,_,_,few=>exact few (by decide:1<3)
  | [_,_],_,_,_,_,few=>exact few (by decide:2<3)
  | x1::x2::x3::r,hn,hd,ho,hq,_ =>
   have h1:=List.pairwise_cons.mp hd
   have h2:=List.pairwise_cons.mp h1.2
   have h3:=List.pairwise_cons.mp h2.2
   have h4:=List.pairwise_cons.mp h3.2
   have hd4:Dsc [e,x1,x2,x3]:=hd.sublist (by simp)
   cases hqd:quad x3 x2 x1 e with
   | false =>
    rw [merge_no hqd]
    refine ⟨hd,ho,noquad_push hd hq fun P u r' hu e1 e2=>?_,fun x=>Iff.rfl,fun n h=>h⟩
    injection e2 with a1 a2
    injection a2 with a2 a3
    injection a3 with a3 a4
    have:=kids_quad (P:=P) (u:=u) (by exact (lin1 (.no (.eq .v0 (.n 30))) [.lt .v0 (.n 30)]) hu)
    rw [←a1,←a2,←a3,←e1,hqd] at this
    cases this
   | true =>
    rw [merge_yes hqd]
    obtain ⟨h30,ke,k1,k2,k3⟩:=quad_kids hd4 hqd
    have hpe:e.par=⟨e.p / 4,e.u+1⟩:=rfl
    have L:=par_lo (e.p / 4) e.u
    have K0:=kid_lo (e.p / 4) e.u 0
    have K1:=kid_lo (e.p / 4) e.u 1
    have K2:=kid_lo (e.p / 4) e.u 2
    have K3:=kid_lo (e.p / 4) e.u 3
    rw [←ke] at K3
    rw [←k1] at K2
    rw [←k2] at K1
    rw [←k3] at K0
    rw [←hpe] at L
    have hd':Dsc (e.par::r):=List.pairwise_cons.mpr ⟨fun d hdm=>by have:=h4.1 d hdm;exact (lin [_,_,_,_,_,_,_,_] [] (.le .v0 .v1) [.an (.eq .v1 .v2) (.eq .v3 (.a .v2 (.l 4 .v4))),.an (.eq .v5 (.a .v2 (.l 0 .v4))) (.eq .v6 (.a .v2 .v7)),.le .v0 .v5]) L K0 this,h4.2⟩
    have ho':∀ c∈e.par::r,c.ok:=fun c hc=>by
     rcases List.mem_cons.mp hc with rfl | hc
     ·exact Cel.par_ok (ho e (.head _)) h30
     ·exact ho c (by simp [hc])
    have hq':NoQuad r:=hq.sub fun c hc=>by simp [hc]
    have:=ih r.length (by simp at hn;exact (lin2 (.lt .v0 .v1) [.le (.a (.a (.a .v0 .n1) .n1) .n1) .v1]) hn) r e.par (Nat.le_refl _) hd' ho' hq'
    refine ⟨this.dsc,this.ok,this.nq,fun x=>(this.lf x).trans ?_,fun n h=>this.lw n fun c hc=>?_⟩
    ·rw [Lf_cons,Lf_cons,Lf_cons,Lf_cons,Lf_cons]
     by_cases w:Lf r x
     ·simp [w]
     ·simp only [w,or_false]
      generalize 4*(e.p / 4)*4^e.u=a at *
      generalize 4^e.u=b at *
      rw [L.1,L.2,K3.1,K3.2,K2.1,K2.2,K1.1,K1.2,K0.1,K0.2]
      exact cut4 a b x
    ·rcases List.mem_cons.mp hc with rfl | hc
     ·have:=h x3 (by simp);exact (lin [_,_,_,_,_,_,_,_] [] (.le (.a (.l 2 .v0) .n1) .v1) [.an (.eq .v0 .v2) (.eq .v3 (.a .v2 (.l 4 .v4))),.an (.eq .v5 (.a .v2 (.l 0 .v4))) (.eq .v6 (.a .v2 .v7)),.le (.a (.l 2 .v5) .n1) .v1]) L K0 this
     ·exact h c (by simp [hc])
structure Stk (S:Nat→Prop) (n:Nat) (st:List Cel):Prop where
 dsc:Dsc st
 ok:∀ c∈st,c.ok
 nq:NoQuad st
 lf:∀ x,Lf st x↔S x
 lw:∀ c∈st,2*c.lo+1≤n
theorem popIn_spec (e:Cel):∀ st:List Cel,∃ pre,st=pre++popIn e st∧(∀ t∈pre,t.sub e)∧(∀ t r,popIn e st=t::r→¬t.sub e)
 | []=>⟨[],rfl,(fun _ h=>nomatch h),fun t r h=>by cases h⟩
 | t::r=>by
  unfold popIn
  cases h:e.has t with
  | true =>
   rw [if_pos rfl]
   obtain ⟨pre,a,b,d⟩:=popIn_spec e r
   refine ⟨t::pre,by rw [List.cons_append,←a],fun s hs=>?_,d⟩
   rcases List.mem_cons.mp hs with rfl | hs
   ·exact (Cel.has_iff e s).mp h
   ·exact b s hs
  | false =>
   rw [if_neg (by decide)]
   refine ⟨[],rfl,(fun _ h=>nomatch h),fun s r' hs=>?_⟩
   injection hs with h1 h2
   subst h1
   intro z
   rw [(Cel.has_iff e t).mpr z] at h
   cases h
theorem push_inv {S:Nat→Prop} {n:Nat} {st:List Cel} {e:Cel} (h:Stk S n st) (he:e.ok) (hn:n≤e.nid) (ht:∀ t r,st=t::r→¬e.sub t):Stk (fun x=>S x∨(e.lo≤x∧x<e.hi)) e.nid (push st e):=by
 obtain ⟨pre,h1,h2,h3⟩:=popIn_spec e st
 unfold push
 have le:=e.lo_lt
 have hd':=h.dsc
 have hp:∀ c∈popIn e st,c∈st:=fun c hc=>by rw [h1];exact List.mem_append_right _ hc
 rw [h1] at hd'
 have ap:=List.pairwise_append.mp hd'
 have key:Dsc (e::popIn e st):=by
  refine List.pairwise_cons.mpr ⟨?_,ap.2.1⟩
  cases hq:popIn e st with
  | nil=>intro c hc;cases hc
  | cons t r =>
   have ts:=h3 t r hq
   have tl:=t.lo_lt
   have tw:=h.lw t (hp t (by rw [hq];exact .head _))
   have tle:t.hi≤e.lo:=by
    rcases Cel.nest' t e with z | z | z | z
    ·exact absurd z ts
    ·exfalso
     cases pre with
     | nil=>exact ht t r (by rw [h1,hq];rfl) z
     | cons p pre =>
      have:=(h2 p (.head _)).trans z
      have a:=ap.2.2 p (.head _) t (by rw [hq];exact .head _)
      have:=p.lo_lt
      have b1:=this
      have:=(h2 p (.head _)).trans z
      have c1:=this.1
      have c2:=this.2
      exact (lin3 .ff [.le .v0 .v1,.lt .v1 .v2,.le .v2 .v0]) a ‹_› c2
    ·exact z
    ·rw [e.nid_eq] at hn;exact (lin5 (.le .v0 .v1) [.le .v2 (.a .v1 .v3),.lt .v1 .v3,.le (.a (.l 2 .v4) .n1) .v2,.le .v3 .v4]) hn le tw z
   intro c hc
   rcases List.mem_cons.mp hc with rfl | hc
   ·exact tle
   ·have a:=ap.2.1
    rw [hq] at a
    have:=(List.pairwise_cons.mp a).1 c hc
    exact (lin4 (.le .v0 .v1) [.lt .v2 .v3,.le .v3 .v1,.le .v0 .v2]) tl tle this
 have ok':∀ c∈e::popIn e st,c.ok:=fun c hc=>by
  rcases List.mem_cons.mp hc with rfl | hc
  ·exact he
  ·exact h.ok c (hp c hc)
 have M:=merge_inv _ (popIn e st) e (Nat.le_refl _) key ok' (h.nq.sub hp)
 refine ⟨M.dsc,M.ok,M.nq,fun x=>(M.lf x).trans ?_,M.lw _ fun c hc=>?_⟩
 ·rw [Lf_cons,←h.lf x]
  constructor
  ·rintro (z | z)
   ·exact .inr z
   ·rw [h1];exact .inl (Lf_append.mpr (.inr z))
  ·rintro (z | z)
   ·rw [h1] at z
    rcases Lf_append.mp z with w | w
    ·obtain ⟨c,c1,c2,c3⟩:=w
     have:=h2 c c1
     have t1:=this.1
     have t2:=this.2
     exact .inl ⟨by exact (lin3 (.le .v0 .v1) [.le .v2 .v1,.le .v0 .v2]) c2 t1,by exact (lin3 (.lt .v0 .v1) [.lt .v0 .v2,.le .v2 .v1]) c3 t2⟩
    ·exact .inr w
   ·exact .inl z
 ·rcases List.mem_cons.mp hc with rfl | hc
  ·rw [c.nid_eq];exact (lin2 (.le (.a (.l 2 .v0) .n1) (.a .v0 .v1)) [.lt .v0 .v1]) le
  ·have:=h.lw c (hp c hc);exact (lin3 (.le (.a (.l 2 .v0) .n1) .v1) [.le .v2 .v1,.le (.a (.l 2 .v0) .n1) .v2]) hn this
theorem nstep_inv {S:Nat→Prop} {n:Nat} {st:List Cel} {e:Cel} (h:Stk S n st) (he:e.ok) (hn:n≤e.nid):Stk (fun x=>S x∨(e.lo≤x∧x<e.hi)) e.nid (nstep st e):=by
 cases st with
 | nil=>exact push_inv h he hn fun t r z=>by cases z
 | cons t r =>
  unfold nstep
  dsimp only
  cases hh:t.has e with
  | true =>
   rw [if_pos rfl]
   have s:=(Cel.has_iff t e).mp hh
   refine ⟨h.dsc,h.ok,h.nq,fun x=>(h.lf x).trans ⟨.inl,fun z=>z.elim id fun z=>(h.lf x).mp ⟨t,.head _,?_⟩⟩,fun c hc=>Nat.le_trans (h.lw c hc) hn⟩
   have s1:=s.1
   have s2:=s.2
   exact (lin5 (.an (.le .v0 .v1) (.lt .v1 .v2)) [.an (.le .v3 .v1) (.lt .v1 .v4),.le .v0 .v3,.le .v4 .v2]) z s1 s2
  | false =>
   rw [if_neg (by decide)]
   refine push_inv h he hn fun s r' z w=>?_
   injection z with z1 z2
   subst z1
   rw [(Cel.has_iff t e).mpr w] at hh
   cases hh
theorem fold_inv:∀ (es:List Cel) (st:List Cel) (S:Nat→Prop) (n:Nat),Stk S n st→(∀ e∈es,e.ok)→es.Pairwise (fun a b=>a.id≤b.id)→(∀ e∈es,n≤e.nid)→∃ m,Stk (fun x=>S x∨Lf es x) m (es.foldl nstep st)
 | [],st,S,n,h,_,_,_=>⟨n,⟨h.dsc,h.ok,h.nq,fun x=>(h.lf x).trans ⟨.inl,fun z=>z.elim id fun z=>absurd z Lf_nil⟩,h.lw⟩⟩
 | e::r,st,S,n,h,ho,hs,hn=>by
  have hp:=List.pairwise_cons.mp hs
  obtain ⟨m,k⟩:=fold_inv r _ _ _ (nstep_inv h (ho e (.head _)) (hn e (.head _))) (fun c hc=>ho c (.tail _ hc)) hp.2 fun c hc=>by
   have:=hp.1 c hc;unfold Cel.id at this;exact (lin2 (.le .v0 .v1) [.zl (.c .v0) (.c .v1)]) this
  refine ⟨m,k.dsc,k.ok,k.nq,fun x=>(k.lf x).trans ?_,k.lw⟩
  rw [Lf_cons,or_assoc]
theorem nfold_least {cs:List Cel} (ho:∀ e∈cs,e.ok) (hs:cs.Pairwise fun a b=>a.id≤b.id):Least (Lf cs) (cs.foldl nstep []).reverse:=by
 obtain ⟨m,k⟩:=fold_inv cs [] (fun _=>False) 0 ⟨List.Pairwise.nil,(fun _ h=>nomatch h),(fun P u _ h=>by have:=h 0 (by decide);cases this),fun x=>⟨fun z=>absurd z Lf_nil,False.elim⟩,(fun _ h=>nomatch h)⟩ ho hs fun _ _=>Nat.zero_le _
 have hr:∀ c,c∈(cs.foldl nstep []).reverse↔c∈cs.foldl nstep []:=fun c=>List.mem_reverse
 refine (Least.of_noquad (List.pairwise_reverse.mpr k.dsc) (fun c hc=>k.ok c ((hr c).mp hc)) (k.nq.sub fun c hc=>(hr c).mp hc)).congr fun x=>?_
 rw [Lf_perm (List.reverse_perm _),k.lf x,false_or]
theorem merge_len:∀ (n:Nat) (st:List Cel) (e:Cel),st.length≤n→(merge e st).2.length≤st.length∧((merge e st).2.length=st.length→merge e st=(e,st)):=by
 intro n
 induction n using Nat.strongRecOn with
 | _ n ih =>
  intro st e hn
  match st,hn with
  | [],_=>exact ⟨Nat.le_refl _,fun _=>rfl⟩
  | [_],_=>exact ⟨Nat.le_refl _,fun _=>rfl⟩
  | [_,_],_=>exact ⟨Nat.le_refl _,fun _=>rfl⟩
  | x1::x2::x3::r,hn =>
   cases hqd:quad x3 x2 x1 e with
   | false=>rw [merge_no hqd];exact ⟨Nat.le_refl _,fun _=>rfl⟩
   | true =>
    rw [merge_yes hqd]
    have:=ih r.length (by simp at hn;exact (lin2 (.lt .v0 .v1) [.le (.a (.a (.a .v0 .n1) .n1) .n1) .v1]) hn) r e.par (Nat.le_refl _)
    refine ⟨by simp;exact (lin2 (.le .v0 (.a (.a (.a .v1 .n1) .n1) .n1)) [.le .v0 .v1]) this.1,fun h=>?_⟩
    simp at h
    exact ((lin2 .ff [.le .v0 .v1,.eq .v0 (.a (.a (.a .v1 .n1) .n1) .n1)]) this.1 h).elim
theorem nstep_same {st:List Cel} {e:Cel}:(nstep st e).length≤st.length+1∧((nstep st e).length=st.length+1→nstep st e=e::st):=by
 have hp:(push st e).length≤st.length+1∧((push st e).length=st.length+1→push st e=e::st):=by
  obtain ⟨pre,h1,_,_⟩:=popIn_spec e st
  have hm:=merge_len _ (popIn e st) e (Nat.le_refl _)
  have hl:=congrArg List.length h1
  rw [List.length_append] at hl
  unfold push
  refine ⟨by rw [List.length_cons];exact (lin4 (.le (.a .v0 .n1) (.a .v1 .n1)) [.le .v0 .v2,.eq .v1 (.a .v3 .v2)]) hm.1 hl,fun h=>?_⟩
  rw [List.length_cons] at h
  have e1:=hm.2 (by exact (lin4 (.eq .v0 .v1) [.le .v0 .v1,.eq .v2 (.a .v3 .v1),.eq (.a .v0 .n1) (.a .v2 .n1)]) hm.1 hl h)
  have e2:pre=[]:=List.eq_nil_of_length_eq_zero (by exact (lin4 (.eq .v0 .n0) [.le .v1 .v2,.eq .v3 (.a .v0 .v2),.eq (.a .v1 .n1) (.a .v3 .n1)]) hm.1 hl h)
  rw [e2,List.nil_append] at h1
  rw [e1,←h1]
 cases st with
 | nil=>exact hp
 | cons t r =>
  unfold nstep
  dsimp only
  split
  ·exact ⟨by exact lin1 (.le .v0 (.a .v0 .n1)) [],fun h=>by exact ((lin1 .ff [.eq .v0 (.a .v0 .n1)]) h).elim⟩
  ·exact hp
theorem fold_len:∀ (es st:List Cel),(es.foldl nstep st).length≤es.length+st.length∧((es.foldl nstep st).length=es.length+st.length→es.foldl nstep st=es.reverse++st)
 | [],st=>by simp
 | e::r,st=>by
  have h1:=fold_len r (nstep st e)
  have h2:=nstep_same (st:=st) (e:=e)
  rw [List.foldl_cons,List.length_cons]
  refine ⟨by exact (lin4 (.le .v0 (.a (.a .v1 .n1) .v2)) [.le .v0 (.a .v1 .v3),.le .v3 (.a .v2 .n1)]) h1.1 h2.1,fun h=>?_⟩
  rw [h1.2 (by exact (lin4 (.eq .v0 (.a .v1 .v2)) [.le .v0 (.a .v1 .v2),.le .v2 (.a .v3 .n1),.eq .v0 (.a (.a .v1 .n1) .v3)]) h1.1 h2.1 h),h2.2 (by exact (lin4 (.eq .v0 (.a .v1 .n1)) [.le .v2 (.a .v3 .v0),.le .v0 (.a .v1 .n1),.eq .v2 (.a (.a .v3 .n1) .v1)]) h1.1 h2.1 h)]
  simp
theorem nrm_least {cs:List Cel} (ho:∀ e∈cs,e.ok) (hs:cs.Pairwise fun a b=>a.id≤b.id):Least (Lf cs) (if (cs.foldl nstep []).reverse.length<cs.length then (cs.foldl nstep []).reverse else cs):=by
 have h:=nfold_least ho hs
 split
 ·exact h
 ·rename_i q
  have k:=fold_len cs []
  rw [List.length_reverse] at q
  rw [List.length_nil,Nat.add_zero] at k
  have e:=k.2 (by exact (lin2 (.eq .v0 .v1) [.no (.lt .v0 .v1),.le .v0 .v1]) q k.1)
  rw [List.append_nil] at e
  rw [e,List.reverse_reverse] at h
  exact h
end Mine
end
section
open PySem
namespace Mine
structure TI (xs ys:List Cel) (i j:Nat) (acc:List Cel):Prop where
 lf:∀ z,(Lf xs z∧Lf ys z)↔Lf acc z∨(Lf (xs.drop i) z∧Lf (ys.drop j) z)
 mem:∀ c∈acc,c∈xs∨c∈ys
 len:acc.length≤i+j
theorem TI.start (xs ys:List Cel):TI xs ys 0 0 []:=⟨fun z=>by simp [Lf],fun c h=>(nomatch h),Nat.le_refl _⟩
theorem TI.swap {xs ys acc:List Cel} {i j:Nat} (h:TI xs ys i j acc):TI ys xs j i acc :=
 ⟨fun z=>by rw [and_comm,h.lf z,and_comm (a:=Lf (ys.drop j) z)],fun c hc=>(h.mem c hc).symm,by have:=h.len;exact (lin3 (.le .v0 (.a .v1 .v2)) [.le .v0 (.a .v2 .v1)]) this⟩
theorem Lf_drop {cs:List Cel} {i:Nat} {c:Cel} (h:cs[i]?=some c) (z:Nat):Lf (cs.drop i) z↔(c.lo≤z∧z<c.hi)∨Lf (cs.drop (i+1)) z:=by
 obtain ⟨hi,rfl⟩:=List.getElem?_eq_some_iff.mp h
 rw [List.drop_eq_getElem_cons hi,Lf_cons]
theorem TI.push {xs ys acc:List Cel} {i j:Nat} {x y:Cel} (h:TI xs ys i j acc) (hx:xs[i]?=some x) (hy:ys[j]?=some y) (s:x.sub y):TI xs ys (i+1) j (acc++[x]) where
 lf z:=by
  rw [h.lf z,Lf_drop hx z,Lf_append,Lf_cons]
  have:x.lo≤z∧z<x.hi→Lf (ys.drop j) z:=fun q=>(Lf_drop hy z).mpr (.inl ⟨Nat.le_trans s.1 q.1,Nat.lt_of_lt_of_le q.2 s.2⟩)
  have n:¬Lf [] z:=Lf_nil
  constructor
  ·rintro (a | ⟨a | b,c⟩)
   ·exact .inl (.inl a)
   ·exact .inl (.inr (.inl a))
   ·exact .inr ⟨b,c⟩
  ·rintro ((a | a | a) | ⟨b,c⟩)
   ·exact .inl a
   ·exact .inr ⟨.inl a,this a⟩
   ·exact (n a).elim
   ·exact .inr ⟨.inr b,c⟩
 mem c hc:=by
  rcases List.mem_append.mp hc with hc | hc
  ·exact h.mem c hc
  ·rw [List.mem_singleton.mp hc];exact .inl (List.mem_of_getElem? hx)
 len:=by have:=h.len;rw [List.length_append,List.length_singleton];exact (lin3 (.le (.a .v0 .n1) (.a (.a .v1 .n1) .v2)) [.le .v0 (.a .v1 .v2)]) this
theorem Lf_drop_of {cs:List Cel} {i k:Nat} {z:Nat} (hik:i≤k) (h:Lf (cs.drop k) z):Lf (cs.drop i) z:=by
 obtain ⟨c,hc,q⟩:=h
 obtain ⟨m,rfl⟩:=Nat.exists_eq_add_of_le hik
 rw [←List.drop_drop] at hc
 exact ⟨c,List.mem_of_mem_drop hc,q⟩
theorem asc_from {xs:List Cel} (ha:Asc xs) {i:Nat} {x:Cel} (hx:xs[i]?=some x) {z:Nat} (h:Lf (xs.drop i) z):x.lo≤z:=by
 obtain ⟨c,hc,q1,q2⟩:=h
 obtain ⟨k,hk⟩:=List.mem_iff_getElem?.mp hc
 rw [List.getElem?_drop] at hk
 obtain ⟨hi,rfl⟩:=List.getElem?_eq_some_iff.mp hx
 obtain ⟨hj,rfl⟩:=List.getElem?_eq_some_iff.mp hk
 rcases Nat.eq_zero_or_pos k with rfl | hp
 ·exact q1
 ·have:=List.pairwise_iff_getElem.mp ha i (i+k) hi hj (by exact (lin2 (.lt .v0 (.a .v0 .v1)) [.lt .n0 .v1]) hp)
  have:=(xs[i]).lo_lt
  exact (lin4 (.le .v0 .v1) [.le .v2 .v1,.le .v3 .v2,.lt .v0 .v3]) q1 ‹_› this
theorem TI.skip {xs ys acc:List Cel} (ha:Asc xs) {i j j':Nat} {x:Cel} (h:TI xs ys i j acc) (hx:xs[i]?=some x) (hj:j≤j') (s:∀ k y,j≤k→k<j'→ys[k]?=some y→y.hi≤x.lo):TI xs ys i j' acc where
 lf z:=by
  rw [h.lf z]
  constructor
  ·rintro (q | ⟨q1,c,hc,q2,q3⟩)
   ·exact .inl q
   ·refine .inr ⟨q1,?_⟩
    obtain ⟨k,hk⟩:=List.mem_iff_getElem?.mp hc
    rw [List.getElem?_drop] at hk
    have hz:=asc_from ha hx q1
    by_cases hlt:j+k<j'
    ·have:=s (j+k) c (by exact lin2 (.le .v0 (.a .v0 .v1)) []) hlt hk
     exact ((lin3 .ff [.lt .v0 .v1,.le .v2 .v0,.le .v1 .v2]) q3 hz this).elim
    ·refine ⟨c,?_,q2,q3⟩
     refine List.mem_of_getElem? (i:=j+k-j') ?_
     rw [List.getElem?_drop,show j'+(j+k-j')=j+k by exact (lin4 (.eq (.a .v0 .v1) (.a .v2 .v3)) [.no (.lt (.a .v2 .v3) .v0),.sb .v1 (.a .v2 .v3) .v0]) hlt (sbc _ _)]
     exact hk
  ·rintro (q | ⟨q1,q2⟩)
   ·exact .inl q
   ·exact .inr ⟨q1,Lf_drop_of hj q2⟩
 mem:=h.mem
 len:=by have:=h.len;exact (lin4 (.le .v0 (.a .v1 .v2)) [.le .v3 .v2,.le .v0 (.a .v1 .v3)]) hj this
theorem TI.done {xs ys acc:List Cel} {i j:Nat} (h:TI xs ys i j acc) (e:xs.length≤i∨ys.length≤j) (z:Nat):Lf acc z↔Lf xs z∧Lf ys z:=by
 rw [h.lf z]
 have:¬(Lf (xs.drop i) z∧Lf (ys.drop j) z):=fun ⟨q1,q2⟩=>by
  rcases e with e | e
  ·rw [List.drop_eq_nil_of_le e] at q1;exact Lf_nil q1
  ·rw [List.drop_eq_nil_of_le e] at q2;exact Lf_nil q2
 exact ⟨Or.inl,fun q=>q.resolve_right this⟩
theorem id_sub {x y:Cel} (h:y.first.id<x.first.id) (k:x.id≤y.last.id):x.sub y:=by
 rw [Cel.first_id',Cel.first_id'] at h
 rw [Cel.last_id',Cel.id_eq] at k
 have h1:=x.lo_lt
 have h2:=y.lo_lt
 rcases Cel.nest' x y with q | q | q | q
 ·exact q
 ·have:=q.1;exact ((lin2 .ff [.zt (.a (.l (2) (.c .v0)) .n1) (.a (.l (2) (.c .v1)) .n1),.le .v1 .v0]) h this).elim
 ·exact ((lin3 .ff [.zt (.a (.l (2) (.c .v0)) .n1) (.a (.l (2) (.c .v1)) .n1),.lt .v1 .v2,.le .v2 .v0]) h h1 q).elim
 ·exact ((lin3 .ff [.zl (.a (.c .v0) (.c .v1)) (.s (.l (2) (.c .v2)) .n1),.lt .v0 .v1,.le .v2 .v0]) k h1 q).elim
theorem id_off {x y:Cel} (h:y.first.id<x.first.id) (k:¬x.id≤y.last.id):y.hi≤x.lo:=by
 rw [Cel.first_id',Cel.first_id'] at h
 rw [Cel.last_id',Cel.id_eq] at k
 have h1:=x.lo_lt
 have h2:=y.lo_lt
 rcases Cel.nest' x y with q | q | q | q
 ·have:=q.2;exact (lin3 (.le .v0 .v1) [.no (.zl (.a (.c .v1) (.c .v2)) (.s (.l (2) (.c .v0)) .n1)),.le .v2 .v0]) k this
 ·have:=q.1;exact (lin3 (.le .v0 .v1) [.zt (.a (.l (2) (.c .v2)) .n1) (.a (.l (2) (.c .v1)) .n1),.le .v1 .v2]) h this
 ·exact (lin4 (.le .v0 .v1) [.no (.zl (.a (.c .v1) (.c .v2)) (.s (.l (2) (.c .v0)) .n1)),.lt .v3 .v0,.le .v2 .v3]) k h2 q
 ·exact (lin2 (.le .v0 .v1) [.le .v0 .v1]) q
theorem id_same {x y:Cel} (h:x.first.id=y.first.id):(x.id<y.id→x.sub y)∧(¬x.id<y.id→y.sub x):=by
 rw [Cel.first_id',Cel.first_id'] at h
 rw [Cel.id_eq,Cel.id_eq]
 exact ⟨fun k=>⟨by exact (lin2 (.le .v0 .v1) [.ze (.a (.l (2) (.c .v1)) .n1) (.a (.l (2) (.c .v0)) .n1)]) h,by exact (lin4 (.le .v0 .v1) [.ze (.a (.l (2) (.c .v2)) .n1) (.a (.l (2) (.c .v3)) .n1),.zt (.a (.c .v2) (.c .v0)) (.a (.c .v3) (.c .v1))]) h k⟩,fun k=>⟨by exact (lin2 (.le .v0 .v1) [.ze (.a (.l (2) (.c .v0)) .n1) (.a (.l (2) (.c .v1)) .n1)]) h,by exact (lin4 (.le .v0 .v1) [.ze (.a (.l (2) (.c .v2)) .n1) (.a (.l (2) (.c .v3)) .n1),.no (.zt (.a (.c .v2) (.c .v1)) (.a (.c .v3) (.c .v0)))]) h k⟩⟩
theorem id_low {x y:Cel} (h:y.id<x.first.id):y.lo≤x.lo:=by
 rw [Cel.first_id',Cel.id_eq] at h
 have h2:=y.lo_lt
 exact (lin3 (.le .v0 .v1) [.zt (.a (.c .v0) (.c .v2)) (.a (.l (2) (.c .v1)) .n1),.lt .v0 .v2]) h h2
theorem id_off2 {x y:Cel} (h:y.id<x.first.id) (k:¬x.id≤y.last.id):y.hi≤x.lo:=by
 rw [Cel.first_id',Cel.id_eq] at h
 rw [Cel.last_id',Cel.id_eq] at k
 have h1:=x.lo_lt
 have h2:=y.lo_lt
 rcases Cel.nest' x y with q | q | q | q
 ·have:=q.2;exact (lin3 (.le .v0 .v1) [.no (.zl (.a (.c .v1) (.c .v2)) (.s (.l (2) (.c .v0)) .n1)),.le .v2 .v0]) k this
 ·have:=q.1;exact (lin3 (.le .v0 .v1) [.zt (.a (.c .v2) (.c .v0)) (.a (.l (2) (.c .v1)) .n1),.le .v1 .v2]) h this
 ·exact (lin4 (.le .v0 .v1) [.zt (.a (.c .v2) (.c .v0)) (.a (.l (2) (.c .v1)) .n1),.lt .v1 .v3,.le .v3 .v2]) h h1 q
 ·exact (lin2 (.le .v0 .v1) [.le .v0 .v1]) q
theorem skip_ok {ys:List Cel} (hb:Asc ys) {x y:Cel} {j j₁:Nat} (hy:ys[j]?=some y) (h:y.first.id<x.first.id) (k:¬x.id≤y.last.id) (hj:j+1≤j₁) (hs:∀ m c,j+1≤m→m<j₁→ys[m]?=some c→c.id<x.first.id) {e:Cel} (he:ys[j₁-1]?=some e) :
  (x.id≤e.last.id→j+1≤j₁-1∧∀ m c,j≤m→m<j₁-1→ys[m]?=some c→c.hi≤x.lo)∧(¬x.id≤e.last.id→∀ m c,j≤m→m<j₁→ys[m]?=some c→c.hi≤x.lo):=by
 have front:∀ m c,m<j₁-1→j+1≤j₁-1→ys[m]?=some c→c.hi≤x.lo:=fun m c hm hj' hc=>by
  obtain ⟨h1,rfl⟩:=List.getElem?_eq_some_iff.mp hc
  obtain ⟨h2,e2⟩:=List.getElem?_eq_some_iff.mp he
  have h3:=List.pairwise_iff_getElem.mp hb m (j₁-1) h1 h2 hm
  rw [e2] at h3
  have h4:=id_low (hs (j₁-1) e hj' (by exact (lin3 (.lt .v0 .v1) [.le (.a .v2 .n1) .v1,.sb .v0 .v1 .n1]) hj (sbc _ _)) he)
  exact (lin3 (.le .v0 .v1) [.le .v0 .v2,.le .v2 .v1]) h3 h4
 constructor
 ·intro q
  have hj':j+1≤j₁-1:=by
   rcases Nat.lt_or_ge j (j₁-1) with z | z
   ·exact (lin3 (.le (.a .v0 .n1) .v1) [.lt .v0 .v1,.sb .v1 .v2 .n1]) z (sbc _ _)
   ·have:j₁-1=j:=by exact (lin3 (.eq .v0 .v2) [.le (.a .v2 .n1) .v1,.le .v0 .v2,.sb .v0 .v1 .n1]) hj z (sbc _ _)
    rw [this,hy] at he
    cases he
    exact absurd q k
  exact ⟨hj',fun m c _ hm hc=>front m c hm hj' hc⟩
 ·intro q m c h1 h2 hc
  by_cases hm:m=j₁-1
  ·rw [hm,he] at hc
   cases hc
   by_cases hj':j+1≤j₁-1
   ·exact id_off2 (hs _ _ hj' (by exact (lin3 (.lt .v0 .v1) [.lt .v2 .v1,.sb .v0 .v1 .n1]) h2 (sbc _ _)) he) q
   ·have:j₁-1=j:=by exact (lin4 (.eq .v0 .v2) [.le .v2 .v3,.eq .v3 .v0,.no (.le (.a .v2 .n1) .v0),.sb .v0 .v1 .n1]) h1 hm hj' (sbc _ _)
    rw [this,hy] at he
    cases he
    exact id_off h k
  ·by_cases hj':j+1≤j₁-1
   ·exact front m c (by exact (lin3 (.lt .v0 .v1) [.lt .v0 .v2,.no (.eq .v0 .v1),.sb .v1 .v2 .n1]) h2 hm (sbc _ _)) hj' hc
   ·exact (lin6 (.le .v0 .v1) [.le .v2 .v3,.lt .v3 .v4,.no (.eq .v3 .v5),.no (.le (.a .v2 .n1) .v5),.sb .v5 .v4 .n1]) h1 h2 hm hj' (sbc _ _)
end Mine
end
open PySem PySem.W PyProof.Rows PySem.Calls
namespace Mine
abbrev Sto:=Addr→Obj→Prop
def Sto.Le (S T:Sto):Prop:=∀ a o,S a o→T a o
theorem Sto.Le.rfl {S:Sto}:S.Le S:=fun _ _ h=>h
theorem Sto.Le.trans {S T U:Sto} (h:S.Le T) (k:T.Le U):S.Le U:=fun a o x=>k a o (h a o x)
inductive AV where
 | ext (R:(Addr→Obj→Prop)→Value→Prop) | none | bool (b:Bool) | int (n:Int) | str (s:Str) | raw (v:Value)
 | tup (xs:List AV) | lst (xs:List AV) | inst (C:Addr) (ks:List Str) (vs:List AV) | rng (n:Int)
abbrev rngO (n:Int) (t u v:Tok):Obj:={cls:=.type "range", dict:=none,data:=.fields #[.int 0 t,.int n u,.int 1 v],slots:=#[]}
inductive Rep (S:Sto):Value→AV→Prop
 | ext {v:Value} {R:Sto→Value→Prop}:R S v→(∀ T,S.Le T→R T v)→Rep S v (.ext R)
 | none:Rep S .none .none
 | bool (b:Bool):Rep S (.bool b) (.bool b)
 | int (n:Int) (t:Tok):Rep S (.int n t) (.int n)
 | str (x:Str) (t:Tok):Rep S (.str x t) (.str x)
 | raw (v:Value):Rep S v (.raw v)
 | rng {a:Addr} {n:Int} {t u v:Tok}:S a (rngO n t u v)→Rep S (.ref a) (.rng n)
 | tup {a:Addr} {vs:List Value} {n:Nat} {xs:List AV}:S a (seqObj "tuple" vs.toArray n)→vs.length=xs.length→(∀ (i:Nat) v V,vs[i]?=some v→xs[i]?=some V→Rep S v V)→Rep S (.ref a) (.tup xs)
 | lst {a:Addr} {vs:List Value} {n:Nat} {xs:List AV}:S a (seqObj "list" vs.toArray n)→vs.length=xs.length→(∀ (i:Nat) v V,vs[i]?=some v→xs[i]?=some V→Rep S v V)→Rep S (.ref a) (.lst xs)
 | inst {a d C:Addr} {es:List DictEntry} {ep:Nat} {ks:List Str} {vs:List AV}:S a (instObj C d)→S d (dictOf es ep)→es.length=ks.length→es.length=vs.length →
   (∀ (i:Nat) e k,es[i]?=some e→ks[i]?=some k→∃ t,e.key=.str k t)→(∀ (i:Nat) e V,es[i]?=some e→vs[i]?=some V→Rep S e.val V)→Rep S (.ref a) (.inst C ks vs)
theorem Rep.mono {S T:Sto} (k:S.Le T) {v:Value} {V:AV} (h:Rep S v V):Rep T v V:=by
 induction h with
 | ext a b=>exact .ext (b _ k) fun U l=>b U (k.trans l)
 | none=>exact .none
 | bool b=>exact .bool b
 | int n t=>exact .int n t
 | str x t=>exact .str x t
 | raw v=>exact .raw v
 | rng h=>exact .rng (k _ _ h)
 | tup a b _ ih=>exact .tup (k _ _ a) b ih
 | lst a b _ ih=>exact .lst (k _ _ a) b ih
 | inst a b c d e _ ih=>exact .inst (k _ _ a) (k _ _ b) c d e ih
def Reps (S:Sto) (vs:List Value) (Vs:List AV):Prop:=vs.length=Vs.length∧∀ (i:Nat) v V,vs[i]?=some v→Vs[i]?=some V→Rep S v V
theorem Reps.mono {S T:Sto} (k:S.Le T) {vs:List Value} {Vs:List AV} (h:Reps S vs Vs):Reps T vs Vs:=⟨h.1,fun i v V a b=>(h.2 i v V a b).mono k⟩
theorem Reps.nil {S:Sto}:Reps S [] []:=⟨rfl,fun i v V h=>by simp at h⟩
theorem Reps.cons {S:Sto} {v:Value} {V:AV} {vs:List Value} {Vs:List AV} (h:Rep S v V) (r:Reps S vs Vs):Reps S (v::vs) (V::Vs):=by
 refine ⟨by simp [r.1],fun i u U a b=>?_⟩
 cases i with
 | zero=>simp at a b;subst a b;exact h
 | succ i=>simp at a b;exact r.2 i u U a b
theorem Reps.uncons {S:Sto} {v:Value} {V:AV} {vs:List Value} {Vs:List AV} (h:Reps S (v::vs) (V::Vs)):Rep S v V∧Reps S vs Vs :=
 ⟨h.2 0 v V rfl rfl,⟨by simpa using h.1,fun i u U a b=>h.2 (i+1) u U (by simpa using a) (by simpa using b)⟩⟩
theorem Reps.nil_inv {S:Sto} {vs:List Value} (h:Reps S vs []):vs=[]:=List.eq_nil_of_length_eq_zero h.1
theorem Reps.cons_inv {S:Sto} {vs:List Value} {V:AV} {Vs:List AV} (h:Reps S vs (V::Vs)):∃ v r,vs=v::r∧Rep S v V∧Reps S r Vs:=by
 cases vs with
 | nil=>have:=h.1;simp at this
 | cons v r=>exact ⟨v,r,rfl,h.uncons.1,h.uncons.2⟩
theorem Reps.append {S:Sto} {vs us:List Value} {Vs Us:List AV} (h:Reps S vs Vs) (k:Reps S us Us):Reps S (vs++us) (Vs++Us):=by
 induction vs generalizing Vs with
 | nil=>have:Vs=[]:=List.eq_nil_of_length_eq_zero (by have:=h.1;simpa using this.symm);subst this;exact k
 | cons v r ih =>
  cases Vs with
  | nil=>have:=h.1;simp at this
  | cons V R=>exact (Reps.uncons h).1 |> fun a=>Reps.cons a (ih (Reps.uncons h).2)
theorem Rep.tup' {S:Sto} {a:Addr} {vs:List Value} {n:Nat} {xs:List AV} (h:S a (seqObj "tuple" vs.toArray n)) (r:Reps S vs xs):Rep S (.ref a) (.tup xs):=.tup h r.1 r.2
theorem Rep.lst' {S:Sto} {a:Addr} {vs:List Value} {n:Nat} {xs:List AV} (h:S a (seqObj "list" vs.toArray n)) (r:Reps S vs xs):Rep S (.ref a) (.lst xs):=.lst h r.1 r.2
inductive SeqInv (T:String) (S:Sto) (v:Value) (xs:List AV):Prop
 | mk (a:Addr) (vs:List Value) (n:Nat) (e:v=.ref a) (h:S a (seqObj T vs.toArray n)) (r:Reps S vs xs)
theorem Rep.tup_inv {S:Sto} {v:Value} {xs:List AV} (h:Rep S v (.tup xs)):SeqInv "tuple" S v xs:=by
 cases h with | tup a b c=>exact ⟨_,_,_,rfl,a,b,c⟩
theorem Rep.lst_inv {S:Sto} {v:Value} {xs:List AV} (h:Rep S v (.lst xs)):SeqInv "list" S v xs:=by
 cases h with | lst a b c=>exact ⟨_,_,_,rfl,a,b,c⟩
structure Ents (S:Sto) (es:List DictEntry) (ks:List Str) (vs:List AV):Prop where
 lk:es.length=ks.length
 lv:es.length=vs.length
 key:∀ (i:Nat) e k,es[i]?=some e→ks[i]?=some k→∃ t,e.key=.str k t
 val:∀ (i:Nat) e V,es[i]?=some e→vs[i]?=some V→Rep S e.val V
theorem Ents.mono {S T:Sto} (k:S.Le T) {es:List DictEntry} {ks:List Str} {vs:List AV} (h:Ents S es ks vs):Ents T es ks vs:=⟨h.lk,h.lv,h.key,fun i e V a b=>(h.val i e V a b).mono k⟩
inductive InstInv (S:Sto) (v:Value) (C:Addr) (ks:List Str) (vs:List AV):Prop
 | mk (a d:Addr) (es:List DictEntry) (ep:Nat) (e:v=.ref a) (h:S a (instObj C d)) (k:S d (dictOf es ep)) (en:Ents S es ks vs)
theorem Rep.inst_inv {S:Sto} {v:Value} {C:Addr} {ks:List Str} {vs:List AV} (h:Rep S v (.inst C ks vs)):InstInv S v C ks vs:=by
 cases h with | inst a b c d e f=>exact ⟨_,_,_,_,rfl,a,b,c,d,e,f⟩
theorem Rep.inst' {S:Sto} {a d C:Addr} {es:List DictEntry} {ep:Nat} {ks:List Str} {vs:List AV} (h:S a (instObj C d)) (k:S d (dictOf es ep)) (e:Ents S es ks vs):Rep S (.ref a) (.inst C ks vs):=.inst h k e.lk e.lv e.key e.val
theorem Rep.int_inv {S:Sto} {v:Value} {n:Int} (h:Rep S v (.int n)):∃ t,v=.int n t:=by cases h;exact ⟨_,rfl⟩
theorem Rep.bool_inv {S:Sto} {v:Value} {b:Bool} (h:Rep S v (.bool b)):v=.bool b:=by cases h;rfl
theorem Rep.none_inv {S:Sto} {v:Value} (h:Rep S v .none):v=.none:=by cases h;rfl
theorem Rep.raw_inv {S:Sto} {v u:Value} (h:Rep S v (.raw u)):v=u:=by cases h;rfl
inductive MO where
 | lst (xs:List AV)
 | inst (C d:Addr) (ks:List Str) (vs:List AV)
 | obj (o:Obj)
 | ext (as:List Addr) (R:Sto→Heap→Prop)
def MO.addrs (a:Addr):MO→List Addr
 | .inst _ d _ _=>[a,d]
 | .ext as _=>a::as
 | _=>[a]
def MRep (S:Sto) (h:Heap) (a:Addr):MO→Prop
 | .lst xs=>∃ vs n,h.get? a=some (seqObj "list" vs.toArray n)∧Reps S vs xs
 | .inst C d ks vs=>h.get? a=some (instObj C d)∧∃ es ep,h.get? d=some (dictOf es ep)∧Ents S es ks vs
 | .obj o=>h.get? a=some o
 | .ext as R=>(∀ b∈a::as,∃ o,h.get? b=some o)∧R S h∧∀ T h',S.Le T→(∀ b∈a::as,∀ o,h.get? b=some o→h'.get? b=some o)→R T h'
theorem MRep.mono {S T:Sto} {h h':Heap} {a:Addr} {mo:MO} (k:S.Le T) (e:∀ b∈mo.addrs a,∀ o,h.get? b=some o→h'.get? b=some o) (x:MRep S h a mo):MRep T h' a mo:=by
 cases mo with
 | lst xs=>obtain ⟨vs,n,a1,a2⟩:=x;exact ⟨vs,n,e _ (.head _) _ a1,a2.mono k⟩
 | inst C d ks vs=>obtain ⟨a1,es,ep,a2,a3⟩:=x;exact ⟨e _ (.head _) _ a1,es,ep,e _ (.tail _ (.head _)) _ a2,a3.mono k⟩
 | obj o=>exact e _ (.head _) _ x
 | ext as R =>
  obtain ⟨a1,a2,a3⟩:=x
  exact ⟨fun b hb=>let ⟨o,ho⟩:=a1 b hb;⟨o,e b hb o ho⟩,a3 T h' k e,fun U h'' l e'=>a3 U h'' (k.trans l) fun b hb o ho=>e' b hb o (e b hb o ho)⟩
theorem MRep.dom {S:Sto} {h:Heap} {a:Addr} {mo:MO} (x:MRep S h a mo):∀ b∈mo.addrs a,∃ o,h.get? b=some o:=by
 cases mo with
 | lst xs=>obtain ⟨vs,n,a1,a2⟩:=x;intro b hb;rw [List.mem_singleton.mp hb];exact ⟨_,a1⟩
 | inst C d ks vs =>
  obtain ⟨a1,es,ep,a2,a3⟩:=x
  intro b hb
  simp only [MO.addrs,List.mem_cons,List.not_mem_nil,or_false] at hb
  rcases hb with rfl | rfl
  ·exact ⟨_,a1⟩
  ·exact ⟨_,a2⟩
 | obj o=>intro b hb;rw [List.mem_singleton.mp hb];exact ⟨_,x⟩
 | ext as R=>obtain ⟨a1,_⟩:=x;exact a1
structure AX where
 σ:List (Addr×MO)
 m:List (Str×AV)
def AX.adr (σ:List (Addr×MO)):List Addr:=σ.flatMap fun p=>p.2.addrs p.1
structure Cx where
 P:Program
 w:World
 K:Frag
 g:Heap
 A:Around
 env:Env
 own:List Addr
 E:Value→Shared→Prop
 fix:Bool
structure Gd (A:Around) (d:Nat):Prop where
 hd:A.handled=none
 dp:A.depth+d<recursionLimit
 un:A.units+8*d+8<cLine
structure Cx.Ok (c:Cx):Prop where
 X:c.K.In c.g
 T:∃ p loose mean mg mb,Top p loose mean mg mb c.g
 G:Gd c.A 0
 gl:c.env.globals=mainGlobals
 bi:c.env.builtins=builtinsNs
 fk:c.env.scope.kind=.function
 noE:∀ e s,c.E e s→False
 kl:∀ a o,c.K.lookup a=some o→a<c.env.locals
 cnd:∀ x y k,c.env.cells.lookup x=some k→c.env.cells.lookup y=some k→x=y
structure Bg where
 base:Sto
 prot:Addr→Prop
 os:OsState
 gens:Array GenState
 drawn:Drawn
def GLe (a b:Array GenState):Prop:=(∀ (i:Nat) (x:GenState),a[i]?=some x→b[i]?=some x)∧(AllBare a→AllBare b)
theorem GLe.refl (a:Array GenState):GLe a a:=⟨fun _ _ e=>e,id⟩
theorem GLe.trans {a b c:Array GenState} (x:GLe a b) (y:GLe b c):GLe a c:=⟨fun i g e=>y.1 i g (x.1 i g e),fun h=>y.2 (x.2 h)⟩
def GLx (f:Bool) (a b:Array GenState):Prop:=GLe a b∧(f=true→b=a)
theorem GLx.refl {f:Bool} (a:Array GenState):GLx f a a:=⟨.refl a,fun _=>rfl⟩
theorem GLx.trans {f:Bool} {a b c:Array GenState} (x:GLx f a b) (y:GLx f b c):GLx f a c:=⟨x.1.trans y.1,fun h=>(y.2 h).trans (x.2 h)⟩
theorem GLx.to {f:Bool} {a b c:Array GenState} (e:c=b) (x:GLx f a b):GLx f a c:=e▸x
def Var (c:Cx) (B:Bg) (h:Heap) (mc:Str→Option Value) (x:Str) (v:Value):Prop :=
 (c.env.kindOf x=some .local∧mc x=some v) ∨
 ((c.env.kindOf x=some .cell∨c.env.kindOf x=some .free)∧∃ k o,c.env.cells.lookup x=some k∧h.get? k=some o∧o.data=.cell (some v)∧(k∈c.own∨B.base k o)∧k≠c.env.locals)
def CelOk (c:Cx) (B:Bg) (h:Heap):Prop:=∀ x k,c.env.cells.lookup x=some k→k≠c.env.locals∧(k∈c.own∨∃ o,B.base k o)∧∃ o v,h.get? k=some o∧o.data=.cell v
structure St (c:Cx) (B:Bg) (S:Sto) (X:AX) (s:Shared):Prop where
 loc:c.env.locals∈c.own∨(c.own=[]∧∃ o,B.base c.env.locals o)
 gr:c.g.StaysIn s.heap
 base:∀ b o,B.base b o→s.heap.get? b=some o
 sto:∀ b o,S b o→s.heap.get? b=some o
 cel:CelOk c B s.heap
 fr:∃ mc,s.heap.Ns c.env.locals mc∧∀ x V,X.m.lookup x=some V→∃ v,Rep S v V∧Var c B s.heap mc x v
 mu:∀ p∈X.σ,MRep S s.heap p.1 p.2
 nd:(AX.adr X.σ).Nodup
 sep:∀ a,a∈c.own∨a∈AX.adr X.σ→c.g.get? a=none∧(∀ o,¬B.base a o)∧∀ o,¬S a o
 dis:∀ a∈c.own,a∉AX.adr X.σ
 dom:∀ a∈c.own,∃ o,s.heap.get? a=some o
 prot:∀ a o,S a o→¬B.prot a
 pin:∀ a,B.prot a→∃ o,B.base a o
 os:s.os=B.os
 gens:GLx c.fix B.gens s.gens
 drawn:s.drawn=B.drawn
inductive Post {α β:Type} (c:Cx) (B:Bg) (S:Sto) (R:Sto→α→β→Prop) (Q:β→AX→Prop) (a:α) (s':Shared):Prop
 | mk (S':Sto) (b:β) (X':AX) (le:S.Le S') (r:R S' a b) (st:St c B S' X' s') (q:Q b X')
theorem Post.up {α β:Type} {c:Cx} {B:Bg} {S T:Sto} {R:Sto→α→β→Prop} {Q:β→AX→Prop} {a:α} {s':Shared} (k:S.Le T) (p:Post c B T R Q a s'):Post c B S R Q a s' :=
 let ⟨S',b,X',h1,h2,h3,h4⟩:=p;⟨S',b,X',k.trans h1,h2,h3,h4⟩
theorem Post.imp {α β:Type} {c:Cx} {B:Bg} {S:Sto} {R:Sto→α→β→Prop} {Q Q':β→AX→Prop} {a:α} {s':Shared} (k:∀ b X,Q b X→Q' b X) (p:Post c B S R Q a s'):Post c B S R Q' a s' :=
 let ⟨S',b,X',h1,h2,h3,h4⟩:=p;⟨S',b,X',h1,h2,h3,k _ _ h4⟩
def WT {α β:Type} (c:Cx) (R:Sto→α→β→Prop) (t:Sem α) (Q:β→AX→Prop) (X:AX):Prop :=
 ∀ B S s,c.Ok→St c B S X s→wpAny (model c.P c.w) c.A t (Post c B S R Q) c.E s
def W1 {α β:Type} (c:Cx) (R:Sto→α→β→Prop) (V:AV) (f:Value→Sem α) (Q:β→AX→Prop) (X:AX):Prop :=
 ∀ B S s v,c.Ok→Rep S v V→St c B S X s→wpAny (model c.P c.w) c.A (f v) (Post c B S R Q) c.E s
def W2 {α β:Type} (c:Cx) (R:Sto→α→β→Prop) (V U:AV) (f:Value→Value→Sem α) (Q:β→AX→Prop) (X:AX):Prop :=
 ∀ B S s v u,c.Ok→Rep S v V→Rep S u U→St c B S X s→wpAny (model c.P c.w) c.A (f v u) (Post c B S R Q) c.E s
def WN {α β:Type} (c:Cx) (R:Sto→α→β→Prop) (Vs:List AV) (f:List Value→Sem α) (Q:β→AX→Prop) (X:AX):Prop :=
 ∀ B S s vs,c.Ok→Reps S vs Vs→St c B S X s→wpAny (model c.P c.w) c.A (f vs) (Post c B S R Q) c.E s
abbrev Same {α:Type}:Sto→α→α→Prop:=fun _ a b=>a=b
abbrev WE (c:Cx) (e:Expr) (Q:AV→AX→Prop) (X:AX):Prop:=WT c Rep (eval e c.env) Q X
inductive AF where
 | next | brk | cont | ret (V:AV)
inductive RepF (S:Sto):Flow→AF→Prop
 | next:RepF S .next .next
 | brk:RepF S .brk .brk
 | cont:RepF S .cont .cont
 | ret {v V}:Rep S v V→RepF S (.ret v) (.ret V)
abbrev WS (c:Cx) (st:Stmt) (Q:AF→AX→Prop) (X:AX):Prop:=WT c RepF (exec st c.env) Q X
abbrev WSs (c:Cx) (st:List Stmt) (Q:AF→AX→Prop) (X:AX):Prop:=WT c RepF (execs st c.env) Q X
abbrev WB (c:Cx) (e:Expr) (Q:Bool→AX→Prop) (X:AX):Prop:=WT c (Same (α:=Bool)) (isTrue e c.env (eval e c.env)) Q X
def Back (c:Cx) (B:Bg) (S:Sto) (Q:AV→AX→Prop) (r:Result) (s':Shared):Prop:=match r with
 | .ok (.ret v)=>Post c B S Rep Q v s'
 | .ok _=>False
 | .error e=>c.E e s'
def Cx.Stays (c:Cx) (s s':Shared):Prop:=∀ a∈c.own,∀ o,s.heap.get? a=some o→s'.heap.get? a=some o
def RepK (S:Sto) (kw:List (Str×Value)) (kws:List (Str×AV)):Prop:=kw.map (·.1)=kws.map (·.1)∧Reps S (kw.map (·.2)) (kws.map (·.2))
def WF (c:Cx) (f:Value) (Vs:List AV) (kws:List (Str×AV)) (Q:AV→AX→Prop) (X:AX):Prop :=
 ∀ B S s vs kw,c.Ok→Reps S vs Vs→RepK S kw kws→St c B S X s→codeAny (model c.P c.w) c.A (.call f ⟨vs,kw⟩) (fun r s'=>Back c B S Q r s'∧c.Stays s s') s
theorem WT.imp {α β:Type} {c:Cx} {R:Sto→α→β→Prop} {t:Sem α} {Q Q':β→AX→Prop} {X:AX} (h:WT c R t Q X) (k:∀ b X,Q b X→Q' b X):WT c R t Q' X :=
 fun B S s ok st=>wpAny_mono (h B S s ok st) (fun _ _ p=>p.imp k) fun _ _ e=>e
theorem WF.imp {c:Cx} {f:Value} {Vs:List AV} {kws:List (Str×AV)} {Q Q':AV→AX→Prop} {X:AX} (h:WF c f Vs kws Q X) (k:∀ b X,Q b X→Q' b X):WF c f Vs kws Q' X:=by
 intro B S s vs kw ok r rk st
 refine codeAny_mono (h B S s vs kw ok r rk st) fun r s' p=>?_
 refine ⟨?_,p.2⟩
 cases r with
 | error e=>exact p.1
 | ok f=>cases f<;>first | exact Post.imp k p.1 | exact p.1
theorem get?_lt_none {h:Heap} {a:Addr} (q:h.objs.size≤a):h.get? a=none:=by
 cases e:h.get? a with
 | none=>rfl
 | some o=>exact absurd (Heap.lt_size e) (Nat.not_lt.mpr q)
def Keeps (h h':Heap):Prop:=∀ b o,h.get? b=some o→h'.get? b=some o
theorem Keeps.rfl {h:Heap}:Keeps h h:=fun _ _ e=>e
theorem Keeps.trans {h h' h'':Heap} (a:Keeps h h') (b:Keeps h' h''):Keeps h h'':=fun x o e=>b x o (a x o e)
theorem Keeps.push (h:Heap) (o:Obj):Keeps h (h.push o):=fun _ _ e=>Heap.get?_push_of_some _ e
def KeepsBut (l:List Addr) (h h':Heap):Prop:=∀ b o,b∉l→h.get? b=some o→h'.get? b=some o
theorem Keeps.but {h h':Heap} (k:Keeps h h') (l:List Addr):KeepsBut l h h':=fun b o _ e=>k b o e
theorem KeepsBut.of_same {a:Addr} {h h':Heap} (k:Heap.SameBut a h h'):KeepsBut [a] h h':=fun b _ q e=>(k.2 b (fun z=>q (List.mem_singleton.mpr z))).trans e
theorem AX.mem_adr {σ:List (Addr×MO)} {p:Addr×MO} {b:Addr} (hp:p∈σ) (hb:b∈p.2.addrs p.1):b∈AX.adr σ:=List.mem_flatMap.mpr ⟨p,hp,hb⟩
theorem AX.adr_cons (p:Addr×MO) (σ:List (Addr×MO)):AX.adr (p::σ)=p.2.addrs p.1++AX.adr σ:=rfl
theorem AX.adr_append (σ τ:List (Addr×MO)):AX.adr (σ++τ)=AX.adr σ++AX.adr τ:=List.flatMap_append
theorem AX.adr_sub {σ τ:List (Addr×MO)} (h:σ.Sublist τ):(AX.adr σ).Sublist (AX.adr τ):=by
 induction h with
 | slnil=>exact List.Sublist.refl _
 | cons p _ ih=>rw [AX.adr_cons];exact ih.trans (List.sublist_append_right _ _)
 | cons_cons p _ ih=>rw [AX.adr_cons,AX.adr_cons];exact (List.Sublist.refl _).append ih
inductive SUpd (a:Addr) (mo mo':MO):List (Addr×MO)→List (Addr×MO)→Prop
 | head {r}:SUpd a mo mo' ((a,mo)::r) ((a,mo')::r)
 | tail {p r r'}:SUpd a mo mo' r r'→SUpd a mo mo' (p::r) (p::r')
theorem SUpd.split {a:Addr} {mo mo':MO} {l l':List (Addr×MO)} (h:SUpd a mo mo' l l'):∃ pre post,l=pre++(a,mo)::post∧l'=pre++(a,mo')::post:=by
 induction h with
 | head=>exact ⟨[],_,rfl,rfl⟩
 | tail _ ih=>obtain ⟨pre,post,rfl,rfl⟩:=ih;exact ⟨_::pre,post,rfl,rfl⟩
theorem SUpd.mem {a:Addr} {mo mo':MO} {l l':List (Addr×MO)} (h:SUpd a mo mo' l l'):(a,mo)∈l:=by
 obtain ⟨pre,post,rfl,_⟩:=h.split;simp
section
variable {c:Cx} {B:Bg} {S:Sto} {X:AX} {s:Shared}
theorem Var.keeps {h h':Heap} {mc:Str→Option Value} {x:Str} {v:Value} {l:List Addr} (k:KeepsBut l h h') (hl:∀ a∈l,(∀ o,¬B.base a o)∧a∉c.own) (y:Var c B h mc x v):Var c B h' mc x v:=by
 rcases y with y | ⟨a,q,o,e1,e2,e3,e4,e5⟩
 ·exact .inl y
 ·exact .inr ⟨a,q,o,e1,k _ _ (fun z=>e4.elim (hl q z).2 ((hl q z).1 o)) e2,e3,e4,e5⟩
theorem CelOk.keeps {h h':Heap} {l:List Addr} (k:KeepsBut l h h') (hl:∀ a∈l,(∀ o,¬B.base a o)∧a∉c.own) (y:CelOk c B h):CelOk c B h':=fun x a e=>by
 obtain ⟨h1,h2,o,v,h3,h4⟩:=y x a e
 exact ⟨h1,h2,o,v,k _ _ (fun z=>h2.elim (hl a z).2 fun ⟨p,q⟩=>(hl a z).1 p q) h3,h4⟩
theorem CelOk.store {h h':Heap} (k:KeepsBut [c.env.locals] h h') (y:CelOk c B h):CelOk c B h':=fun x a e=>by
 obtain ⟨h1,h2,o,v,h3,h4⟩:=y x a e
 exact ⟨h1,h2,o,v,k _ _ (fun z=>h1 (List.mem_singleton.mp z)) h3,h4⟩
theorem Var.store {h h':Heap} {mc mc':Str→Option Value} {x:Str} {v:Value} (k:KeepsBut [c.env.locals] h h') (hm:mc' x=mc x) (y:Var c B h mc x v):Var c B h' mc' x v:=by
 rcases y with y | ⟨a,q,o,e1,e2,e3,e4,e5⟩
 ·exact .inl ⟨y.1,hm.trans y.2⟩
 ·exact .inr ⟨a,q,o,e1,k _ _ (fun z=>e5 (List.mem_singleton.mp z)) e2,e3,e4,e5⟩
theorem Heap.Ns.keepsBut {h h':Heap} {L:Addr} {mc:Str→Option Value} {l:List Addr} (k:KeepsBut l h h') (hl:L∉l) (n:h.Ns L mc):h'.Ns L mc :=
 let ⟨o,es,ep,e,r⟩:=n;⟨o,es,ep,k _ _ hl e,r⟩
theorem St.locN (st:St c B S X s):c.env.locals∉AX.adr X.σ:=st.loc.elim (st.dis _) fun ⟨_,o,e⟩ q=>(st.sep _ (.inr q)).2.1 o e
theorem St.locB (st:St c B S X s) {a:Addr} (h1:a∉c.own) (h2:∀ o,¬B.base a o):a≠c.env.locals:=fun q=>st.loc.elim (fun z=>h1 (q▸z)) fun ⟨_,o,e⟩=>h2 o (q▸e)
theorem St.keep {s':Shared} {l:List Addr} (st:St c B S X s) (k:KeepsBut l s.heap s'.heap) (hl:∀ a∈l,c.g.get? a=none∧(∀ o,¬B.base a o)∧(∀ o,¬S a o)∧a∉c.own∧a∉AX.adr X.σ) (e1:s'.os=s.os) (e2:s'.gens=s.gens) (e3:s'.drawn=s.drawn):St c B S X s' where
 loc:=st.loc
 gr b o e:=k b o (fun q=>by rw [(hl b q).1] at e;cases e) (st.gr b o e)
 base b o e:=k b o (fun q=>(hl b q).2.1 o e) (st.base b o e)
 sto b o e:=k b o (fun q=>(hl b q).2.2.1 o e) (st.sto b o e)
 cel:=st.cel.keeps k fun a ha=>⟨(hl a ha).2.1,(hl a ha).2.2.2.1⟩
 fr:=by
  obtain ⟨mc,n,f⟩:=st.fr
  refine ⟨mc,Heap.Ns.keepsBut k (fun q=>st.locB (hl _ q).2.2.2.1 (hl _ q).2.1 rfl) n,fun x V e=>?_⟩
  obtain ⟨v,r,y⟩:=f x V e
  exact ⟨v,r,y.keeps k fun a ha=>⟨(hl a ha).2.1,(hl a ha).2.2.2.1⟩⟩
 mu p hp:=(st.mu p hp).mono .rfl fun b hb o e=>k b o (fun q=>(hl b q).2.2.2.2 (AX.mem_adr hp hb)) e
 nd:=st.nd
 sep:=st.sep
 dis:=st.dis
 dom a ha:=let ⟨o,e⟩:=st.dom a ha;⟨o,k a o (fun q=>(hl a q).2.2.2.1 ha) e⟩
 prot:=st.prot
 pin:=st.pin
 os:=e1.trans st.os
 gens:=.to e2 st.gens
 drawn:=e3.trans st.drawn
theorem St.grow {s':Shared} (st:St c B S X s) (k:Keeps s.heap s'.heap) (e1:s'.os=s.os) (e2:s'.gens=s.gens) (e3:s'.drawn=s.drawn):St c B S X s' :=
 st.keep (k.but []) (fun _ h=>nomatch h) e1 e2 e3
theorem St.toks (st:St c B S X s) (t:Nat):St c B S X {s with toks:=t}:=st.grow .rfl rfl rfl rfl
structure Bare (c:Cx) (B:Bg) (S:Sto) (X:AX) (a:Addr):Prop where
 g:c.g.get? a=none
 base:∀ o,¬B.base a o
 sto:∀ o,¬S a o
 own:a∉c.own
 adr:a∉AX.adr X.σ
 prot:¬B.prot a
theorem St.bare (st:St c B S X s) {a:Addr} (h:s.heap.get? a=none):Bare c B S X a where
 g:=by
  cases e:c.g.get? a with
  | none=>rfl
  | some o=>rw [st.gr _ _ e] at h;cases h
 base o e:=by rw [st.base _ _ e] at h;cases h
 sto o e:=by rw [st.sto _ _ e] at h;cases h
 own q:=by obtain ⟨o,e⟩:=st.dom a q;rw [e] at h;cases h
 adr q:=by
  obtain ⟨p,hp,hb⟩:=List.mem_flatMap.mp q
  obtain ⟨o,e⟩:=(st.mu p hp).dom a hb
  rw [e] at h;cases h
 prot q:=by obtain ⟨o,e⟩:=st.pin a q;rw [st.base _ _ e] at h;cases h
theorem St.addS {S':Sto} (st:St c B S X s) (k:S.Le S') (h:∀ a o,S' a o→S a o∨(s.heap.get? a=some o∧a∉c.own∧a∉AX.adr X.σ∧¬B.prot a)):St c B S' X s where
 loc:=st.loc
 gr:=st.gr
 base:=st.base
 sto b o e:=(h b o e).elim (st.sto b o) (·.1)
 cel:=st.cel
 fr:=by
  obtain ⟨mc,n,f⟩:=st.fr
  exact ⟨mc,n,fun x V e=>let ⟨v,r,y⟩:=f x V e;⟨v,r.mono k,y⟩⟩
 mu p hp:=(st.mu p hp).mono k fun _ _ _ e=>e
 nd:=st.nd
 sep a ha:=⟨(st.sep a ha).1,(st.sep a ha).2.1,fun o e=>(h a o e).elim ((st.sep a ha).2.2 o) fun q=>ha.elim q.2.1 q.2.2.1⟩
 dis:=st.dis
 dom:=st.dom
 prot a o e:=(h a o e).elim (st.prot a o) (·.2.2.2)
 pin:=st.pin
 os:=st.os
 gens:=st.gens
 drawn:=st.drawn
def Sto.put (S:Sto) (a:Addr) (o:Obj):Sto:=fun b p=>S b p∨(b=a∧p=o)
theorem Sto.put_le (S:Sto) (a:Addr) (o:Obj):S.Le (S.put a o):=fun _ _ h=>.inl h
theorem Sto.put_self (S:Sto) (a:Addr) (o:Obj):S.put a o a o:=.inr ⟨rfl,rfl⟩
theorem St.push (st:St c B S X s) (o:Obj) (hf:o.isFreed=false):St c B (S.put s.heap.objs.size o) X {s with heap:=s.heap.push o}:=by
 have b:=st.bare (get?_lt_none (Nat.le_refl s.heap.objs.size))
 refine (st.grow (s':={s with heap:=s.heap.push o}) (Keeps.push _ _) rfl rfl rfl).addS (Sto.put_le _ _ _) fun a p h=>?_
 rcases h with h | ⟨rfl,rfl⟩
 ·exact .inl h
 ·exact .inr ⟨Heap.get?_push_size _ hf,b.own,b.adr,b.prot⟩
theorem St.addM {a:Addr} {mo:MO} (st:St c B S X s) (h:MRep S s.heap a mo) (hn:(mo.addrs a).Nodup) (hb:∀ b∈mo.addrs a,Bare c B S X b):St c B S ⟨(a,mo)::X.σ,X.m⟩ s where
 loc:=st.loc
 gr:=st.gr
 base:=st.base
 sto:=st.sto
 cel:=st.cel
 fr:=st.fr
 mu p hp:=by
  rcases List.mem_cons.mp hp with rfl | hp
  ·exact h
  ·exact st.mu p hp
 nd:=by
  rw [AX.adr_cons]
  refine List.nodup_append.mpr ⟨hn,st.nd,fun x hx y hy e=>?_⟩
  subst e;exact (hb x hx).adr hy
 sep x hx:=by
  rw [AX.adr_cons] at hx
  rcases hx with hx | hx
  ·exact st.sep x (.inl hx)
  ·rcases List.mem_append.mp hx with hx | hx
   ·exact ⟨(hb x hx).g,(hb x hx).base,(hb x hx).sto⟩
   ·exact st.sep x (.inr hx)
 dis x hx q:=by
  rw [AX.adr_cons] at q
  rcases List.mem_append.mp q with q | q
  ·exact (hb x q).own hx
  ·exact st.dis x hx q
 dom:=st.dom
 prot:=st.prot
 pin:=st.pin
 os:=st.os
 gens:=st.gens
 drawn:=st.drawn
theorem St.upd {a:Addr} {mo mo':MO} {σ':List (Addr×MO)} {s':Shared} (st:St c B S X s) (U:SUpd a mo mo' X.σ σ') (ha:mo'.addrs a=mo.addrs a) (k:KeepsBut (mo.addrs a) s.heap s'.heap) (h:MRep S s'.heap a mo') (e1:s'.os=s.os) (e2:s'.gens=s.gens) (e3:s'.drawn=s.drawn):St c B S ⟨σ',X.m⟩ s':=by
 obtain ⟨pre,post,hσ,rfl⟩:=U.split
 have hadr:AX.adr (pre++(a,mo')::post)=AX.adr X.σ:=by rw [hσ,AX.adr_append,AX.adr_append,AX.adr_cons,AX.adr_cons];dsimp only;rw [ha]
 have hin:∀ b∈mo.addrs a,b∈AX.adr X.σ:=fun b hb=>by rw [hσ];exact AX.mem_adr (p:=(a,mo)) (by simp) hb
 have nd:=st.nd
 rw [hσ,AX.adr_append,AX.adr_cons] at nd
 dsimp only at nd
 have nd1:=List.nodup_append.mp nd
 have nd2:=List.nodup_append.mp nd1.2.1
 refine ⟨st.loc,fun b o e=>k b o (fun q=>?_) (st.gr b o e),fun b o e=>k b o (fun q=>?_) (st.base b o e),fun b o e=>k b o (fun q=>?_) (st.sto b o e),st.cel.keeps k fun b hb=>⟨(st.sep b (.inr (hin b hb))).2.1,fun q=>st.dis b q (hin b hb)⟩,?_,fun p hp=>?_,by rw [hadr];exact st.nd,fun x hx=>st.sep x (by rw [hadr] at hx;exact hx),fun x hx=>by rw [hadr];exact st.dis x hx,fun x hx=>?_,st.prot,st.pin,e1.trans st.os,(.to e2 st.gens),e3.trans st.drawn⟩
 ·have:=(st.sep b (.inr (hin b q))).1;rw [this] at e;cases e
 ·exact (st.sep b (.inr (hin b q))).2.1 o e
 ·exact (st.sep b (.inr (hin b q))).2.2 o e
 ·obtain ⟨mc,n,f⟩:=st.fr
  refine ⟨mc,Heap.Ns.keepsBut k (fun q=>st.locN (hin _ q)) n,fun x V e=>?_⟩
  obtain ⟨v,r,y⟩:=f x V e
  exact ⟨v,r,y.keeps k fun b hb=>⟨(st.sep b (.inr (hin b hb))).2.1,fun q=>st.dis b q (hin b hb)⟩⟩
 ·rcases List.mem_append.mp hp with hp | hp
  ·refine (st.mu p (by rw [hσ];exact List.mem_append_left _ hp)).mono .rfl fun b hb o e=>k b o (fun q=>?_) e
   exact nd1.2.2 b (AX.mem_adr hp hb) b (List.mem_append_left _ q) rfl
  ·rcases List.mem_cons.mp hp with rfl | hp
   ·exact h
   ·refine (st.mu p (by rw [hσ];exact List.mem_append_right _ (.tail _ hp))).mono .rfl fun b hb o e=>k b o (fun q=>?_) e
    exact nd2.2.2 b q b (AX.mem_adr hp hb) rfl
 ·obtain ⟨o,e⟩:=st.dom x hx
  exact ⟨o,k x o (fun q=>st.dis x hx (hin x q)) e⟩
theorem St.get {a:Addr} {mo:MO} (st:St c B S X s) (h:(a,mo)∈X.σ):MRep S s.heap a mo:=st.mu _ h
theorem St.weak {X':AX} (st:St c B S X s) (hσ:X'.σ.Sublist X.σ) (hm:∀ x V,X'.m.lookup x=some V→X.m.lookup x=some V):St c B S X' s:=by
 have sub:=AX.adr_sub hσ
 refine ⟨st.loc,st.gr,st.base,st.sto,st.cel,?_,fun p hp=>st.mu p (hσ.subset hp),st.nd.sublist sub,fun a ha=>st.sep a (ha.imp id fun q=>sub.subset q),fun a ha q=>st.dis a ha (sub.subset q),st.dom,st.prot,st.pin,st.os,st.gens,st.drawn⟩
 obtain ⟨mc,n,f⟩:=st.fr
 exact ⟨mc,n,fun x V e=>f x V (hm x V e)⟩
theorem St.local {x:Str} {v:Value} {V:AV} {s':Shared} {mc:Str→Option Value} (st:St c B S X s) (hw:c.env.locals∈c.own) (hn:s.heap.Ns c.env.locals mc) (r:Rep S v V) (hk:c.env.kindOf x=some .local) (n:s'.heap.Ns c.env.locals (fun y=>if y=x then some v else mc y)) (k:Heap.SameBut c.env.locals s.heap s'.heap) (e1:s'.os=s.os) (e2:s'.gens=s.gens) (e3:s'.drawn=s.drawn):St c B S ⟨X.σ,(x,V)::X.m⟩ s':=by
 have kb:=KeepsBut.of_same k
 have sp:=st.sep _ (.inl hw)
 have ne:∀ b,b∈[c.env.locals]→b=c.env.locals:=fun b q=>List.mem_singleton.mp q
 refine ⟨st.loc,fun b o e=>kb b o (fun q=>?_) (st.gr b o e),fun b o e=>kb b o (fun q=>?_) (st.base b o e),fun b o e=>kb b o (fun q=>?_) (st.sto b o e),st.cel.store kb,⟨_,n,fun y U e=>?_⟩,fun p hp=>(st.mu p hp).mono .rfl fun b hb o e=>kb b o (fun q=>?_) e,st.nd,st.sep,st.dis,fun a ha=>?_,st.prot,st.pin,e1.trans st.os,(.to e2 st.gens),e3.trans st.drawn⟩
 ·rw [ne b q,sp.1] at e;cases e
 ·rw [ne b q] at e;exact sp.2.1 o e
 ·rw [ne b q] at e;exact sp.2.2 o e
 ·rw [List.lookup_cons] at e
  by_cases hy:y=x
  ·subst hy
   rw [beq_self_eq_true] at e
   cases e
   exact ⟨v,r,.inl ⟨hk,if_pos rfl⟩⟩
  ·rw [beq_eq_false_iff_ne.mpr hy] at e
   obtain ⟨mc',n',f⟩:=st.fr
   obtain ⟨u,ru,yu⟩:=f y U e
   have em:mc' y=mc y:=by
    obtain ⟨o1,es1,ep1,a1,a2,a3,a4⟩:=n'
    obtain ⟨o2,es2,ep2,b1,b2,b3,b4⟩:=hn
    rw [a1] at b1;cases b1
    rw [a2] at b2;cases b2
    rw [←a4,b4]
   exact ⟨u,ru,yu.store kb ((if_neg hy).trans em.symm)⟩
 ·rw [ne b q] at hb;exact st.dis _ hw (AX.mem_adr hp hb)
 ·by_cases q:a=c.env.locals
  ·subst q
   obtain ⟨o,es,ep,h1,_⟩:=n
   exact ⟨o,h1⟩
  ·obtain ⟨o,e⟩:=st.dom a ha
   exact ⟨o,kb a o (fun z=>q (ne a z)) e⟩
end
def Bg.pin (B:Bg) (a:Addr) (o:Obj):Bg:={B with base:=fun b p=>B.base b p∨(b=a∧p=o),prot:=fun b=>B.prot b∨b=a}
section
variable {c:Cx} {B:Bg} {S:Sto} {X:AX} {s:Shared}
theorem Var.bg {B':Bg} {h:Heap} {mc:Str→Option Value} {x:Str} {v:Value} (k:∀ a o,B.base a o→B'.base a o) (y:Var c B h mc x v):Var c B' h mc x v:=by
 rcases y with y | ⟨a,q,o,e1,e2,e3,e4,e5⟩
 ·exact .inl y
 ·exact .inr ⟨a,q,o,e1,e2,e3,e4.imp id (k _ _),e5⟩
theorem St.pin_ {a:Addr} {o:Obj} (st:St c B S X s) (b:Bare c B S X a) (h:s.heap.get? a=some o):St c (B.pin a o) S X s where
 loc:=st.loc.imp id fun ⟨a,o,e⟩=>⟨a,o,.inl e⟩
 gr:=st.gr
 base x p e:=e.elim (st.base x p) fun q=>by rw [q.1,q.2];exact h
 sto:=st.sto
 cel:=fun x a e=>let ⟨h1,h2,h3⟩:=st.cel x a e;⟨h1,h2.imp id fun ⟨p,q⟩=>⟨p,.inl q⟩,h3⟩
 fr:=by
  obtain ⟨mc,n,f⟩:=st.fr
  exact ⟨mc,n,fun x V e=>let ⟨v,r,y⟩:=f x V e;⟨v,r,y.bg fun _ _=>.inl⟩⟩
 mu:=st.mu
 nd:=st.nd
 sep x hx:=by
  obtain ⟨h1,h2,h3⟩:=st.sep x hx
  refine ⟨h1,fun p e=>e.elim (h2 p) fun q=>?_,h3⟩
  rw [q.1] at hx
  exact hx.elim b.own b.adr
 dis:=st.dis
 dom:=st.dom
 prot x p e q:=q.elim (st.prot x p e) fun z=>b.sto p (z▸e)
 pin x q:=q.elim (fun z=>let ⟨p,e⟩:=st.pin x z;⟨p,.inl e⟩) fun z=>⟨o,.inr ⟨z,rfl⟩⟩
 os:=st.os
 gens:=st.gens
 drawn:=st.drawn
end
def AF.val:AF→AV
 | .ret V=>V
 | _=>.none
def Cx.callee (c:Cx) (env:Env) (own:List Addr):Cx:={c with A:=c.A.deeper env,env:=env,own:=own,E:=fun _ _=>False}
theorem Gd.deeper {A:Around} {d:Nat} (env:Env) (x:Gd A (d+1)):Gd (A.deeper env) d:=⟨x.hd,by have:=x.dp;show A.depth+1+d<_;exact (lin3 (.lt (.a (.a .v0 .n1) .v1) .v2) [.lt (.a .v0 (.a .v1 .n1)) .v2]) this,by have:=x.un;show A.units+3+8*d+8<_;exact (lin3 (.lt (.a (.a (.a .v0 .n3) (.l 8 .v1)) (.n 8)) .v2) [.lt (.a (.a .v0 (.l 8 (.a .v1 .n1))) (.n 8)) .v2]) this⟩
theorem Gd.room {A:Around} {d:Nat} (x:Gd A d):A.depth<recursionLimit:=by have:=x.dp;exact (lin3 (.lt .v0 .v1) [.lt (.a .v0 .v2) .v1]) this
theorem Gd.units {A:Around} {d:Nat} (x:Gd A d):A.units<cLine:=by have:=x.un;exact (lin3 (.lt .v0 .v1) [.lt (.a (.a .v0 (.l 8 .v2)) (.n 8)) .v1]) this
theorem Gd.le {A:Around} {d e:Nat} (x:Gd A d) (h:Nat.ble e d=true):Gd A e:=by
 have h:=Nat.le_of_ble_eq_true h
 exact ⟨x.hd,by have:=x.dp;exact (lin4 (.lt (.a .v0 .v1) .v2) [.le .v1 .v3,.lt (.a .v0 .v3) .v2]) h this,by have:=x.un;exact (lin4 (.lt (.a (.a .v0 (.l 8 .v1)) (.n 8)) .v2) [.le .v1 .v3,.lt (.a (.a .v0 (.l 8 .v3)) (.n 8)) .v2]) h this⟩
section
variable {c:Cx} {B:Bg} {S:Sto} {X:AX} {s:Shared}
def Bg.call (c:Cx) (B:Bg) (X:AX) (s:Shared) (ex:List Addr):Bg:={base:=fun b o=>s.heap.get? b=some o∧b∉AX.adr X.σ∧b∉ex,prot:=fun a=>B.prot a∨a∈c.own,os:=s.os,gens:=s.gens,drawn:=s.drawn}
theorem St.noadr (st:St c B S X s) {b:Addr} {o:Obj} (e:B.base b o):b∉AX.adr X.σ:=fun q=>(st.sep b (.inr q)).2.1 o e
theorem St.callIn (st:St c B S X s) {ex:List Addr} (hex:∀ a∈ex,Bare c B S X a) {env:Env} {L:Addr} {own:List Addr} {m:List (Str×AV)} {s':Shared} (k:Keeps s.heap s'.heap) (hL:env.locals=L) (hown:L∈own) (fresh:∀ a∈own,s.heap.get? a=none) (hdom:∀ a∈own,∃ o,s'.heap.get? a=some o)
  (hcel:CelOk (c.callee env own) (Bg.call c B X s ex) s'.heap) (hfr:∃ mc,s'.heap.Ns L mc∧∀ x V,m.lookup x=some V→∃ v,Rep S v V∧Var (c.callee env own) (Bg.call c B X s ex) s'.heap mc x v) (e1:s'.os=s.os) (e2:s'.gens=s.gens) (e3:s'.drawn=s.drawn):St (c.callee env own) (Bg.call c B X s ex) S ⟨X.σ,m⟩ s' where
 loc:=.inl (by show env.locals∈own;rw [hL];exact hown)
 gr b o e:=k b o (st.gr b o e)
 base b o e:=k b o e.1
 sto b o e:=k b o (st.sto b o e)
 cel:=hcel
 fr:=by rw [←hL] at hfr;exact hfr
 mu p hp:=(st.mu p hp).mono .rfl fun b _ o e=>k b o e
 nd:=st.nd
 sep a ha:=by
  rcases ha with ha | ha
  ·have b:=st.bare (fresh a ha)
   refine ⟨b.g,fun o (e:s.heap.get? a=some o∧_∧_)=>?_,b.sto⟩
   rw [fresh a ha] at e;cases e.1
  ·exact ⟨(st.sep a (.inr ha)).1,fun o e=>e.2.1 ha,(st.sep a (.inr ha)).2.2⟩
 dis a ha:=(st.bare (fresh a ha)).adr
 dom:=hdom
 prot a o e q:=q.elim (st.prot a o e) fun z=>(st.sep a (.inl z)).2.2 o e
 pin a q:=q.elim (fun z=>let ⟨o,e⟩:=st.pin a z;⟨o,st.base a o e,st.noadr e,fun w=>(hex a w).base o e⟩) fun z=>let ⟨o,e⟩:=st.dom a z;⟨o,e,st.dis a z,fun w=>(hex a w).own z⟩
 os:=e1
 gens:=.to e2 (.refl _)
 drawn:=e3
theorem St.callOut (st:St c B S X s) {ex:List Addr} (hex:∀ a∈ex,Bare c B S X a) {env:Env} {own:List Addr} {S':Sto} {X':AX} {s':Shared} (le:S.Le S') (st':St (c.callee env own) (Bg.call c B X s ex) S' X' s'):St c B S' ⟨X'.σ,X.m⟩ s' where
 loc:=st.loc
 gr:=st'.gr
 base b o e:=st'.base b o ⟨st.base b o e,st.noadr e,fun w=>(hex b w).base o e⟩
 sto:=st'.sto
 cel:=fun x a e=>by
  obtain ⟨h1,h2,o,v,h3,h4⟩:=st.cel x a e
  exact ⟨h1,h2,o,v,st'.base _ _ ⟨h3,h2.elim (st.dis _) fun ⟨p,q⟩=>st.noadr q,fun w=>h2.elim (hex a w).own fun ⟨p,q⟩=>(hex a w).base p q⟩,h4⟩
 fr:=by
  obtain ⟨mc,⟨o,es,ep,h1,h2⟩,f⟩:=st.fr
  refine ⟨mc,⟨o,es,ep,st'.base _ _ ⟨h1,st.locN,fun w=>st.locB (hex _ w).own (hex _ w).base rfl⟩,h2⟩,fun x V e=>?_⟩
  obtain ⟨v,r,y⟩:=f x V e
  refine ⟨v,r.mono le,?_⟩
  rcases y with y | ⟨a,q,p,e1,e2,e3,e4,e5⟩
  ·exact .inl y
  ·exact .inr ⟨a,q,p,e1,st'.base _ _ ⟨e2,e4.elim (st.dis _) st.noadr,fun w=>e4.elim (hex q w).own ((hex q w).base p)⟩,e3,e4,e5⟩
 mu:=st'.mu
 nd:=st'.nd
 sep a ha:=by
  rcases ha with ha | ha
  ·exact ⟨(st.sep a (.inl ha)).1,(st.sep a (.inl ha)).2.1,fun o e=>st'.prot a o e (.inr ha)⟩
  ·obtain ⟨h1,h2,h3⟩:=st'.sep a (.inr ha)
   exact ⟨h1,fun o e=>h2 o ⟨st.base a o e,st.noadr e,fun w=>(hex a w).base o e⟩,h3⟩
 dis a ha q:=by
  obtain ⟨o,e⟩:=st.dom a ha
  exact (st'.sep a (.inr q)).2.1 o ⟨e,st.dis a ha,fun w=>(hex a w).own ha⟩
 dom a ha:=let ⟨o,e⟩:=st.dom a ha;⟨o,st'.base a o ⟨e,st.dis a ha,fun w=>(hex a w).own ha⟩⟩
 prot a o e q:=st'.prot a o e (.inl q)
 pin:=st.pin
 os:=st'.os.trans st.os
 gens:=st.gens.trans st'.gens
 drawn:=st'.drawn.trans st.drawn
end
theorem RepK.lookup {S:Sto} {kw:List (Str×Value)} {kws:List (Str×AV)} (r:RepK S kw kws) {x:Str} {V:AV} (e:kws.lookup x=some V):∃ v,kw.lookup x=some v∧Rep S v V:=by
 induction kws generalizing kw with
 | nil=>cases e
 | cons p r' ih =>
  obtain ⟨y,U⟩:=p
  cases kw with
  | nil=>have:=r.1;simp at this
  | cons q t =>
   obtain ⟨z,u⟩:=q
   have h1:=r.1
   simp only [List.map_cons,List.cons.injEq] at h1
   obtain ⟨rfl,h1⟩:=h1
   have h2:=r.2.uncons
   rw [List.lookup_cons] at e ⊢
   cases hb:x==z with
   | true=>rw [hb] at e;cases e;exact ⟨u,rfl,h2.1⟩
   | false=>rw [hb] at e;exact ih ⟨h1,h2.2⟩ e
theorem Reps.reverse {S:Sto} {vs:List Value} {Vs:List AV} (h:Reps S vs Vs):Reps S vs.reverse Vs.reverse:=by
 induction vs generalizing Vs with
 | nil=>have:Vs=[]:=List.eq_nil_of_length_eq_zero (by have:=h.1;simpa using this.symm);subst this;exact .nil
 | cons v r ih =>
  cases Vs with
  | nil=>have:=h.1;simp at this
  | cons V R =>
   have h2:=Reps.uncons h
   rw [List.reverse_cons,List.reverse_cons]
   exact (ih h2.2).append (.cons h2.1 .nil)
theorem RepK.reverse {S:Sto} {kw:List (Str×Value)} {kws:List (Str×AV)} (r:RepK S kw kws):RepK S kw.reverse kws.reverse:=by
 refine ⟨by rw [List.map_reverse,List.map_reverse,r.1],?_⟩
 rw [List.map_reverse,List.map_reverse];exact r.2.reverse
theorem lookup_mem {α:Type} {x:Str} {v:α}:∀ {l:List (Str×α)},l.lookup x=some v→∃ y,(y,v)∈l∧y=x
 | [],e=>by cases e
 | (y,u)::r,e=>by
  rw [List.lookup_cons] at e
  cases hb:x==y with
  | true=>rw [hb] at e;cases e;exact ⟨y,.head _,(beq_iff_eq.mp hb).symm⟩
  | false=>rw [hb] at e;obtain ⟨z,h1,h2⟩:=lookup_mem e;exact ⟨z,.tail _ h1,h2⟩
structure Kin (c c':Cx):Prop where
 fix:c'.fix=c.fix
 P:c'.P=c.P
 w:c'.w=c.w
 K:c'.K=c.K
 g:c'.g=c.g
section
variable {c:Cx} {X:AX} {Q:AV→AX→Prop}
theorem E_name {x:Str} {pos:Pos} {V:AV} (hv:X.m.lookup x=some V) (h:Q V X) (hd:(x==("__debug__" : Str))=false:=by decide) (hn:(x==("__classdict__" : Str))=false:=by decide):WE c (.Name x pos) Q X:=by
 intro B S s ok st
 obtain ⟨mc,n,f⟩:=st.fr
 obtain ⟨v,r,y⟩:=f x V hv
 have fin:Post c B S Rep Q v s:=⟨S,V,X,.rfl,r,st,h⟩
 rcases y with ⟨k,e⟩ | ⟨k | k,q,o,e1,e2,e3,_⟩
 ·exact wpAny_Name (wpAny_loadName_local ok.fk k n e fin) hd
 ·exact wpAny_Name (wpAny_loadName_cell ok.fk k e1 ⟨o,e2,e3⟩ fin) hd
 ·exact wpAny_Name (wpAny_loadName_free ok.fk k e1 ⟨o,e2,e3⟩ fin hn) hd
theorem E_global {x:Str} {pos:Pos} {v:Value} (hk:c.env.kindOf x=some .globalImplicit) (e:nsIn c.K mainGlobals x=some (some v)) (h:Q (.raw v) X) (hd:(x==("__debug__" : Str))=false:=by decide):WE c (.Name x pos) Q X:=by
 intro B S s ok st
 obtain ⟨p,loose,mean,mg,mb,T⟩:=ok.T
 have T':=(topRead_of T).keeps st.gr
 exact Name_function_global ok.fk hk (loadGlobal_global (by rw [ok.gl];exact T'.g) (mg_of (ok.X.keeps st.gr) T'.g e) ⟨S,_,X,.rfl,.raw v,st,h⟩) hd
theorem E_builtin {x:Str} {pos:Pos} {v:Value} (hk:c.env.kindOf x=some .globalImplicit) (e:nsIn c.K mainGlobals x=some none) (hv:bootBuiltins x=some v) (hn:x ≠ "__name__") (h:Q (.raw v) X) (hd:(x==("__debug__" : Str))=false:=by decide):WE c (.Name x pos) Q X:=by
 intro B S s ok st
 obtain ⟨p,loose,mean,mg,mb,T⟩:=ok.T
 have T':=(topRead_of T).keeps st.gr
 exact Name_function_global ok.fk hk (loadGlobal_builtin (by rw [ok.gl];exact T'.g) (mg_none_of (ok.X.keeps st.gr) T'.g e) (by rw [ok.bi];exact T'.b) ((T'.builtins x hn).trans hv) ⟨S,_,X,.rfl,.raw v,st,h⟩) hd
theorem E_int {i k pos} (h:Q (.int i) X):WE c (.Constant (.int i) k pos) Q X:=fun B S s ok st=>wpAny_Constant_int ⟨S,_,X,.rfl,.int _ _,st.toks _,h⟩
theorem E_none {k pos} (h:Q .none X):WE c (.Constant .none k pos) Q X:=fun B S s ok st=>wpAny_Constant_none ⟨S,_,X,.rfl,.none,st,h⟩
theorem E_bool {b k pos} (h:Q (.bool b) X):WE c (.Constant (.bool b) k pos) Q X:=fun B S s ok st=>wpAny_Constant_bool ⟨S,_,X,.rfl,.bool b,st,h⟩
theorem E_bin {l op r pos} (h:WE c l (fun V X₁=>WE c r (fun U X₂=>W2 c Rep V U (binaryOp op) Q X₂) X₁) X):WE c (.BinOp l op r pos) Q X :=
 fun B S s ok st=>wpAny_BinOp (wpAny_mono (h B S s ok st) (fun a s₁ ⟨S₁,V,X₁,u₁,ra,st₁,h₁⟩=>wpAny_mono (h₁ B S₁ s₁ ok st₁) (fun b s₂ ⟨S₂,W,X₂,u₂,rb,st₂,h₂⟩=>wpAny_mono (h₂ B S₂ s₂ a b ok (ra.mono u₂) rb st₂) (fun _ _ p=>p.up (u₁.trans u₂)) fun _ _ e=>e) fun _ _ e=>e) fun _ _ e=>e)
theorem E_un {op x pos} (h:WE c x (fun V X₁=>W1 c Rep V (unaryOp op) Q X₁) X):WE c (.UnaryOp op x pos) Q X :=
 fun B S s ok st=>wpAny_UnaryOp (wpAny_mono (h B S s ok st) (fun a s₁ ⟨S₁,V,X₁,u₁,ra,st₁,h₁⟩=>wpAny_mono (h₁ B S₁ s₁ a ok ra st₁) (fun _ _ p=>p.up u₁) fun _ _ e=>e) fun _ _ e=>e)
theorem E_cmp {l op r pos} (h:WE c l (fun V X₁=>WE c r (fun U X₂=>W2 c Rep V U (compareOp op) Q X₂) X₁) X) (hm:behindInMarks op r=false:=by with_unfolding_all rfl):WE c (.Compare l [op] [r] pos) Q X :=
 fun B S s ok st=>wpAny_Compare1 (wpAny_mono (h B S s ok st) (fun a s₁ ⟨S₁,V,X₁,u₁,ra,st₁,h₁⟩=>wpAny_mono (h₁ B S₁ s₁ ok st₁) (fun b s₂ ⟨S₂,W,X₂,u₂,rb,st₂,h₂⟩=>wpAny_mono (h₂ B S₂ s₂ a b ok (ra.mono u₂) rb st₂) (fun _ _ p=>p.up (u₁.trans u₂)) fun _ _ e=>e) fun _ _ e=>e) fun _ _ e=>e) hm
theorem E_ifexp {test body orelse pos} (h:WB c test (fun b X₁=>if b=true then WE c body Q X₁ else WE c orelse Q X₁) X):WE c (.IfExp test body orelse pos) Q X :=
 fun B S s ok st=>wpAny_IfExp (wpAny_mono (h B S s ok st) (fun a s₁ ⟨S₁,b,X₁,u₁,ra,st₁,h₁⟩=>by
  cases ra
  cases a with
  | true=>rw [if_pos rfl] at h₁ ⊢;exact wpAny_mono (h₁ B S₁ s₁ ok st₁) (fun _ _ p=>p.up u₁) fun _ _ e=>e
  | false=>rw [if_neg (by decide)] at h₁ ⊢;exact wpAny_mono (h₁ B S₁ s₁ ok st₁) (fun _ _ p=>p.up u₁) fun _ _ e=>e) fun _ _ e=>e)
abbrev WTr (c:Cx) (V:AV) (Q:Bool→AX→Prop) (X:AX):Prop:=W1 c (Same (α:=Bool)) V truthy Q X
theorem E_and {x y pos} (h:WE c x (fun V X₁=>WTr c V (fun b X₂=>if b=true then WE c y Q X₂ else Q V X₂) X₁) X):WE c (.BoolOp .And [x,y] pos) Q X :=
 fun B S s ok st=>wpAny_And2 (wpAny_mono (h B S s ok st) (fun a s₁ ⟨S₁,V,X₁,u₁,ra,st₁,h₁⟩=>wpAny_mono (h₁ B S₁ s₁ a ok ra st₁) (fun t s₂ ⟨S₂,b,X₂,u₂,rb,st₂,h₂⟩=>by
  cases rb
  cases t with
  | true=>rw [if_pos rfl] at h₂ ⊢;exact wpAny_mono (h₂ B S₂ s₂ ok st₂) (fun _ _ p=>p.up (u₁.trans u₂)) fun _ _ e=>e
  | false=>rw [if_neg (by decide)] at h₂ ⊢;exact ⟨S₂,V,X₂,u₁.trans u₂,ra.mono u₂,st₂,h₂⟩) fun _ _ e=>e) fun _ _ e=>e)
theorem E_or {x y pos} (h:WE c x (fun V X₁=>WTr c V (fun b X₂=>if b=true then Q V X₂ else WE c y Q X₂) X₁) X):WE c (.BoolOp .Or [x,y] pos) Q X :=
 fun B S s ok st=>wpAny_Or2 (wpAny_mono (h B S s ok st) (fun a s₁ ⟨S₁,V,X₁,u₁,ra,st₁,h₁⟩=>wpAny_mono (h₁ B S₁ s₁ a ok ra st₁) (fun t s₂ ⟨S₂,b,X₂,u₂,rb,st₂,h₂⟩=>by
  cases rb
  cases t with
  | false=>rw [if_neg (by decide)] at h₂ ⊢;exact wpAny_mono (h₂ B S₂ s₂ ok st₂) (fun _ _ p=>p.up (u₁.trans u₂)) fun _ _ e=>e
  | true=>rw [if_pos rfl] at h₂ ⊢;exact ⟨S₂,V,X₂,u₁.trans u₂,ra.mono u₂,st₂,h₂⟩) fun _ _ e=>e) fun _ _ e=>e)
end
section
variable {c:Cx} {X:AX} {Q:Bool→AX→Prop}
theorem T_not {x pos} (h:WB c x (fun b X₁=>Q (!b) X₁) X):WB c (.UnaryOp .Not x pos) Q X :=
 fun B S s ok st=>wpAny_isTrue_Not (wpAny_mono (h B S s ok st) (fun a s₁ ⟨S₁,b,X₁,u₁,ra,st₁,h₁⟩=>by cases ra;exact ⟨S₁,_,X₁,u₁,rfl,st₁,h₁⟩) fun _ _ e=>e)
theorem T_cmp {l op r pos} (h:WE c l (fun V X₁=>WE c r (fun U X₂=>W2 c Rep V U (compareOp op) (fun W X₃=>WTr c W Q X₃) X₂) X₁) X) (hm:behindInMarks op r=false:=by with_unfolding_all rfl):WB c (.Compare l [op] [r] pos) Q X :=
 fun B S s ok st=>wpAny_isTrue_Compare1 (wpAny_mono (h B S s ok st) (fun a s₁ ⟨S₁,V,X₁,u₁,ra,st₁,h₁⟩=>wpAny_mono (h₁ B S₁ s₁ ok st₁) (fun b s₂ ⟨S₂,W,X₂,u₂,rb,st₂,h₂⟩=>wpAny_mono (h₂ B S₂ s₂ a b ok (ra.mono u₂) rb st₂) (fun d s₃ ⟨S₃,W',X₃,u₃,rc,st₃,h₃⟩ =>
  wpAny_mono (h₃ B S₃ s₃ d ok rc st₃) (fun _ _ p=>p.up (u₁.trans (u₂.trans u₃))) fun _ _ e=>e) fun _ _ e=>e) fun _ _ e=>e) fun _ _ e=>e) hm
theorem T_and {x rest pos} (h:WB c x (fun b X₁=>if b=true then WB c (.BoolOp .And rest pos) Q X₁ else Q false X₁) X):WB c (.BoolOp .And (x::rest) pos) Q X :=
 fun B S s ok st=>isTrue_and (wpAny_mono (h B S s ok st) (fun a s₁ ⟨S₁,b,X₁,u₁,ra,st₁,h₁⟩=>by
  cases ra
  cases a with
  | true=>rw [if_pos rfl] at h₁ ⊢;exact wpAny_mono (h₁ B S₁ s₁ ok st₁) (fun _ _ p=>p.up u₁) fun _ _ e=>e
  | false=>rw [if_neg (by decide)] at h₁ ⊢;exact ⟨S₁,_,X₁,u₁,rfl,st₁,h₁⟩) fun _ _ e=>e)
theorem T_or {x rest pos} (h:WB c x (fun b X₁=>if b=true then Q true X₁ else WB c (.BoolOp .Or rest pos) Q X₁) X):WB c (.BoolOp .Or (x::rest) pos) Q X :=
 fun B S s ok st=>isTrue_or (wpAny_mono (h B S s ok st) (fun a s₁ ⟨S₁,b,X₁,u₁,ra,st₁,h₁⟩=>by
  cases ra
  cases a with
  | false=>rw [if_neg (by decide)] at h₁ ⊢;exact wpAny_mono (h₁ B S₁ s₁ ok st₁) (fun _ _ p=>p.up u₁) fun _ _ e=>e
  | true=>rw [if_pos rfl] at h₁ ⊢;exact ⟨S₁,_,X₁,u₁,rfl,st₁,h₁⟩) fun _ _ e=>e)
theorem T_val {e:Expr} (h:WE c e (fun V X₁=>WTr c V Q X₁) X) (he:∀ whole,isTrue e c.env whole=(do let v ←whole;standAt e.pos;holding [v] (truthy v)):=by intro _;rfl):WB c e Q X :=
 fun B S s ok st=>isTrue_plain (wpAny_mono (h B S s ok st) (fun a s₁ ⟨S₁,V,X₁,u₁,ra,st₁,h₁⟩=>wpAny_mono (h₁ B S₁ s₁ a ok ra st₁) (fun _ _ p=>p.up u₁) fun _ _ e=>e) fun _ _ e=>e) (he _)
theorem T_and_nil {pos} (h:Q true X):WB c (.BoolOp .And [] pos) Q X:=fun B S s ok st=>isTrue_and_nil ⟨S,_,X,.rfl,rfl,st,h⟩
theorem T_or_nil {pos} (h:Q false X):WB c (.BoolOp .Or [] pos) Q X:=fun B S s ok st=>isTrue_or_nil ⟨S,_,X,.rfl,rfl,st,h⟩
end
section
variable {c:Cx} {B:Bg} {S:Sto} {X:AX} {s:Shared}
theorem St.cell {x:Str} {v:Value} {V:AV} {s':Shared} {k:Addr} (st:St c B S X s) (cnd:∀ x y k,c.env.cells.lookup x=some k→c.env.cells.lookup y=some k→x=y) (r:Rep S v V) (hk:c.env.kindOf x=some .cell) (hc:c.env.cells.lookup x=some k) (hkL:k≠c.env.locals) (hown:k∈c.own) (n:∃ o,s'.heap.get? k=some o∧o.data=.cell (some v)) (kk:Heap.SameBut k s.heap s'.heap) (e1:s'.os=s.os) (e2:s'.gens=s.gens) (e3:s'.drawn=s.drawn):St c B S ⟨X.σ,(x,V)::X.m⟩ s':=by
 have kb:=KeepsBut.of_same kk
 have sp:=st.sep _ (.inl hown)
 have ne:∀ b,b∈[k]→b=k:=fun b q=>List.mem_singleton.mp q
 obtain ⟨ok,hok1,hok2⟩:=n
 refine ⟨st.loc,fun b o e=>kb b o (fun q=>?_) (st.gr b o e),fun b o e=>kb b o (fun q=>?_) (st.base b o e),fun b o e=>kb b o (fun q=>?_) (st.sto b o e),fun y a e=>?_,?_,fun p hp=>(st.mu p hp).mono .rfl fun b hb o e=>kb b o (fun q=>?_) e,st.nd,st.sep,st.dis,fun a ha=>?_,st.prot,st.pin,e1.trans st.os,(.to e2 st.gens),e3.trans st.drawn⟩
 ·rw [ne b q,sp.1] at e;cases e
 ·rw [ne b q] at e;exact sp.2.1 o e
 ·rw [ne b q] at e;exact sp.2.2 o e
 ·obtain ⟨h1,h2,o,v',h3,h4⟩:=st.cel y a e
  by_cases q:a=k
  ·subst q;exact ⟨h1,h2,ok,_,hok1,hok2⟩
  ·exact ⟨h1,h2,o,v',kb a o (fun z=>q (ne a z)) h3,h4⟩
 ·obtain ⟨mc,nn,f⟩:=st.fr
  refine ⟨mc,Heap.Ns.keepsBut kb (fun q=>hkL (ne _ q).symm) nn,fun y U e=>?_⟩
  rw [List.lookup_cons] at e
  by_cases hy:y=x
  ·subst hy
   rw [beq_self_eq_true] at e
   cases e
   exact ⟨v,r,.inr ⟨.inl hk,k,ok,hc,hok1,hok2,.inl hown,hkL⟩⟩
  ·rw [beq_eq_false_iff_ne.mpr hy] at e
   obtain ⟨u,ru,yu⟩:=f y U e
   refine ⟨u,ru,?_⟩
   rcases yu with yu | ⟨w,a,o,f1,f2,f3,f4,f5⟩
   ·exact .inl yu
   ·exact .inr ⟨w,a,o,f1,kb _ _ (fun z=>hy (cnd _ _ _ f1 (ne a z▸hc))) f2,f3,f4,f5⟩
 ·rw [ne b q] at hb;exact st.dis _ hown (AX.mem_adr hp hb)
 ·by_cases q:a=k
  ·subst q;exact ⟨ok,hok1⟩
  ·obtain ⟨o,e⟩:=st.dom a ha
   exact ⟨o,kb a o (fun z=>q (ne a z)) e⟩
def Own (c:Cx) (x:Str):Prop:=(c.env.kindOf x=some .local∧c.env.locals∈c.own)∨(c.env.kindOf x=some .cell∧∃ k,c.env.cells.lookup x=some k∧k∈c.own)
theorem store_ {x:Str} {V:AV} {Q:Unit→AX→Prop} (hx:Own c x) (h:Q () ⟨X.σ,(x,V)::X.m⟩):W1 c (fun _ (a b:Unit)=>a=b) V (storeName c.env x) Q X:=by
 intro B S s v ok r st
 rcases hx with ⟨hl,hw⟩ | ⟨hl,k,hc,hown⟩
 ·obtain ⟨mc,n,f⟩:=st.fr
  refine wpAny_storeName_local hl n (fun h' hn hs=>⟨S,(),_,.rfl,rfl,st.local hw n r hl hn hs rfl rfl rfl,h⟩) ?_
  rw [ok.fk];rfl
 ·obtain ⟨h1,h2,o,v',h3,h4⟩:=st.cel x k hc
  exact wpAny_storeName_cell ok.fk hl hc ⟨o,h3,h4⟩ fun h' hv hs=>⟨S,(),_,.rfl,rfl,st.cell ok.cnd r hl hc h1 hown hv hs rfl rfl rfl,h⟩
end
section
variable {c:Cx} {X:AX} {Q:AF→AX→Prop} {rest:List Stmt}
def Then (c:Cx) (rest:List Stmt) (Q:AF→AX→Prop):AF→AX→Prop
 | .next,X=>WSs c rest Q X
 | F,X=>Q F X
theorem Then_next (h:WSs c rest Q X):Then c rest Q .next X:=h
theorem Then_brk (h:Q .brk X):Then c rest Q .brk X:=h
theorem Then_cont (h:Q .cont X):Then c rest Q .cont X:=h
theorem Then_ret {V} (h:Q (.ret V) X):Then c rest Q (.ret V) X:=h
theorem S_nil (h:Q .next X):WSs c [] Q X:=fun B S s ok st=>wpAny_execs_nil ⟨S,.next,X,.rfl,.next,st,h⟩
theorem S_cons {st:Stmt} (h:WS c st (Then c rest Q) X):WSs c (st::rest) Q X:=fun B S s ok st=>wpAny_execs_cons (wpAny_mono (h B S s ok st) (fun f s₁ ⟨S₁,F,X₁,u₁,rf,st₁,h₁⟩=>by
 cases rf with
 | next=>exact wpAny_mono (h₁ B S₁ s₁ ok st₁) (fun _ _ p=>p.up u₁) fun _ _ e=>e
 | brk=>exact ⟨S₁,_,X₁,u₁,.brk,st₁,h₁⟩
 | cont=>exact ⟨S₁,_,X₁,u₁,.cont,st₁,h₁⟩
 | ret r=>exact ⟨S₁,_,X₁,u₁,.ret r,st₁,h₁⟩) fun _ _ e=>e)
theorem S_last {st:Stmt} (h:WS c st Q X):WSs c [st] Q X:=S_cons (h.imp fun F X' q=>by cases F<;>first | exact S_nil q | exact q)
theorem S_break {pos} (h:Q .brk X):WS c (.Break pos) Q X:=fun B S s ok st=>wpAny_Break ⟨S,.brk,X,.rfl,.brk,st,h⟩
theorem S_continue {pos} (h:Q .cont X):WS c (.Continue pos) Q X:=fun B S s ok st=>wpAny_Continue ⟨S,.cont,X,.rfl,.cont,st,h⟩
theorem S_return {e pos} (h:WE c e (fun V X₁=>Q (.ret V) X₁) X):WS c (.Return (some e) pos) Q X :=
 fun B S s ok st=>wpAny_Return_some (wpAny_mono (h B S s ok st) (fun v s₁ ⟨S₁,V,X₁,u₁,r,st₁,h₁⟩=>⟨S₁,.ret V,X₁,u₁,.ret r,st₁,h₁⟩) fun _ _ e=>e)
theorem S_assign {x px e pos} (hx:Own c x) (h:WE c e (fun V X₁=>Q .next ⟨X₁.σ,(x,V)::X₁.m⟩) X) (hs:swapsWith e (some (.Name x px)) pos.line c.env=pure false:=by rfl):WS c (.Assign [.Name x px] e pos) Q X :=
 fun B S s ok st=>wpAny_Assign_Name (wpAny_mono (h B S s ok st) (fun v s₁ ⟨S₁,V,X₁,u₁,r,st₁,h₁⟩=>wpAny_mono (store_ hx (Q:=fun _=>Q .next) h₁ B S₁ s₁ v ok r st₁) (fun _ _ ⟨S₂,_,X₂,u₂,_,st₂,h₂⟩=>⟨S₂,.next,X₂,u₁.trans u₂,.next,st₂,h₂⟩) fun _ _ e=>e) fun _ _ e=>e) hs
theorem S_aug {x px op e pos V} (hx:Own c x) (hv:X.m.lookup x=some V) (h:WE c e (fun U X₁=>W2 c Rep V U (inplaceOp op) (fun W X₂=>Q .next ⟨X₂.σ,(x,W)::X₂.m⟩) X₁) X):WS c (.AugAssign (.Name x px) op e pos) Q X:=by
 intro B S s ok st
 refine wpAny_AugAssign_Name ?_
 obtain ⟨mc,n,f⟩:=st.fr
 obtain ⟨v,r,y⟩:=f x V hv
 have go:wpAny (model c.P c.w) c.A (eval e c.env) (fun u s₂=>wpAny (model c.P c.w) c.A (inplaceOp op v u) (fun w s₃=>wpAny (model c.P c.w) c.A (storeName c.env x w) (fun _=>Post c B S RepF Q .next) c.E s₃) c.E s₂) c.E s :=
  wpAny_mono (h B S s ok st) (fun u s₁ ⟨S₁,U,X₁,u₁,ru,st₁,h₁⟩=>wpAny_mono (h₁ B S₁ s₁ v u ok (r.mono u₁) ru st₁) (fun w s₂ ⟨S₂,W,X₂,u₂,rw',st₂,h₂⟩ =>
   wpAny_mono (store_ hx (Q:=fun _=>Q .next) h₂ B S₂ s₂ w ok rw' st₂) (fun _ _ ⟨S₃,_,X₃,u₃,_,st₃,h₃⟩=>⟨S₃,.next,X₃,u₁.trans (u₂.trans u₃),.next,st₃,h₃⟩) fun _ _ e=>e) fun _ _ e=>e) fun _ _ e=>e
 rcases y with ⟨k,e⟩ | ⟨k | k,q,o,e1,e2,e3,_⟩
 ·exact wpAny_loadName_local ok.fk k n e go
 ·exact wpAny_loadName_cell ok.fk k e1 ⟨o,e2,e3⟩ go
 ·rcases hx with ⟨hx,_⟩ | ⟨hx,_⟩<;>rw [k] at hx<;>cases hx
theorem S_if {test body orelse pos} (h:WB c test (fun b X₁=>if b=true then WSs c body Q X₁ else WSs c orelse Q X₁) X):WS c (.If test body orelse pos) Q X :=
 fun B S s ok st=>wpAny_If (wpAny_mono (h B S s ok st) (fun a s₁ ⟨S₁,b,X₁,u₁,ra,st₁,h₁⟩=>by
  cases ra
  cases a with
  | true=>rw [if_pos rfl] at h₁ ⊢;exact wpAny_mono (h₁ B S₁ s₁ ok st₁) (fun _ _ p=>p.up u₁) fun _ _ e=>e
  | false=>rw [if_neg (by decide)] at h₁ ⊢;exact wpAny_mono (h₁ B S₁ s₁ ok st₁) (fun _ _ p=>p.up u₁) fun _ _ e=>e) fun _ _ e=>e)
theorem S_assert {test msg pos} (h:WB c test (fun b X₁=>b=true∧Q .next X₁) X):WS c (.Assert test msg pos) Q X :=
 fun B S s ok st=>wpAny_Assert_holds (wpAny_mono (h B S s ok st) (fun a s₁ ⟨S₁,b,X₁,u₁,ra,st₁,h₁⟩=>by
  cases ra;exact ⟨h₁.1,S₁,.next,X₁,u₁,.next,st₁,h₁.2⟩) fun _ _ e=>e)
theorem S_expr {e pos} (h:WE c e (fun _ X₁=>Q .next X₁) X) (hi:interactive c.env=false:=by rfl) (hs:swapsWith e none pos.line c.env=pure false:=by rfl):WS c (.Expr e pos) Q X :=
 fun B S s ok st=>wpAny_Expr_any (wpAny_mono (h B S s ok st) (fun v s₁ ⟨S₁,V,X₁,u₁,r,st₁,h₁⟩=>⟨S₁,.next,X₁,u₁,.next,st₁,h₁⟩) fun _ _ e=>e) hi hs
end
section
variable {c:Cx} {X:AX} {Q:AV→AX→Prop} {a b:Int}
theorem opI {f:Value→Value→Sem Value} {V:AV} (h:∀ (S:Sto) (s:Shared) t u (R:Value→Shared→Prop),(∀ v s',Rep S v V→s'.heap=s.heap→s'.os=s.os→s'.gens=s.gens→s'.drawn=s.drawn→R v s')→wpAny (model c.P c.w) c.A (f (.int a t) (.int b u)) R c.E s) (hq:Q V X):W2 c Rep (.int a) (.int b) f Q X:=by
 intro B S s v u ok r₁ r₂ st
 obtain ⟨t,rfl⟩:=r₁.int_inv
 obtain ⟨u,rfl⟩:=r₂.int_inv
 exact h S s t u _ fun v s' r e1 e2 e3 e4=>⟨S,V,X,.rfl,r,st.grow (by rw [e1];exact .rfl) e2 e3 e4,hq⟩
theorem O_add (h:Q (.int (a+b)) X):W2 c Rep (.int a) (.int b) (binaryOp .Add) Q X:=opI (fun S s t u R k=>PySem.P.add_int (k _ _ (.int _ _) rfl rfl rfl rfl)) h
theorem O_sub (h:Q (.int (a-b)) X):W2 c Rep (.int a) (.int b) (binaryOp .Sub) Q X:=opI (fun S s t u R k=>PySem.P.sub_int (k _ _ (.int _ _) rfl rfl rfl rfl)) h
theorem O_mul (hm:(-(2^64)<a∧a<2^64)∨(-(2^64)<b∧b<2^64)) (h:Q (.int (a*b)) X):W2 c Rep (.int a) (.int b) (binaryOp .Mult) Q X :=
 opI (fun S s t u R k=>PySem.P.mul_int (k _ _ (.int _ _) rfl rfl rfl rfl) (hm.elim (fun q=>IntMulOk.of_left (intBits_le_64 q.1 q.2)) fun q=>IntMulOk.of_right (intBits_le_64 q.1 q.2))) h
theorem O_div (hb:b≠0) (hs:b.natAbs<2^200) (h:Q (.int (a.fdiv b)) X):W2 c Rep (.int a) (.int b) (binaryOp .FloorDiv) Q X :=
 opI (fun S s t u R k=>PyProof.Rows.floordiv_int hb (k _ _ (.int _ _) rfl rfl rfl rfl) (.inl (PyProof.noPylong_of_log2 (by
  rcases Nat.eq_zero_or_pos b.natAbs with h0 | h0
  ·rw [h0];decide
  ·exact (Nat.log2_lt (Nat.ne_of_gt h0)).mpr (Nat.lt_of_lt_of_le hs (Nat.pow_le_pow_right (by decide) (by decide))))))) h
theorem O_mod (hb:b≠0) (h:Q (.int (a.fmod b)) X):W2 c Rep (.int a) (.int b) (binaryOp .Mod) Q X:=opI (fun S s t u R k=>PyProof.Rows.mod_int' hb (k _ _ (.int _ _) rfl rfl rfl rfl)) h
theorem O_pow (h0:0≤b) (h1:b≤1000000) (ha:a.natAbs<2^64) (h:Q (.int (a^b.toNat)) X):W2 c Rep (.int a) (.int b) (binaryOp .Pow) Q X:=opI (fun S s t u R k=>PyProof.Rows.pow_int_small h0 h1 ha (k _ _ (.int _ _) rfl rfl rfl rfl)) h
theorem O_shl (h0:0≤b) (h1:b≤1000000) (ha:a.natAbs<2^64) (h:Q (.int (a*2^b.toNat)) X):W2 c Rep (.int a) (.int b) (binaryOp .LShift) Q X:=opI (fun S s t u R k=>PyProof.Rows.lshift_int_small h0 h1 ha (k _ _ (.int _ _) rfl rfl rfl rfl)) h
theorem O_shr (h0:0≤b) (h:Q (.int (a.fdiv (2^b.toNat))) X):W2 c Rep (.int a) (.int b) (binaryOp .RShift) Q X:=opI (fun S s t u R k=>PyProof.Rows.rshift_int h0 (k _ _ (.int _ _) rfl rfl rfl rfl)) h
theorem O_band (h:Q (.int (Builtin.bitAnd a b)) X):W2 c Rep (.int a) (.int b) (binaryOp .BitAnd) Q X:=opI (fun S s t u R k=>PyProof.Rows.and_int (k _ _ (.int _ _) rfl rfl rfl rfl)) h
theorem O_bor (h:Q (.int (Builtin.bitOr a b)) X):W2 c Rep (.int a) (.int b) (binaryOp .BitOr) Q X:=opI (fun S s t u R k=>PyProof.Rows.or_int (k _ _ (.int _ _) rfl rfl rfl rfl)) h
theorem O_bxor (h:Q (.int (Builtin.bitXor a b)) X):W2 c Rep (.int a) (.int b) (binaryOp .BitXor) Q X:=opI (fun S s t u R k=>PyProof.Rows.xor_int (k _ _ (.int _ _) rfl rfl rfl rfl)) h
theorem O_iadd (h:Q (.int (a+b)) X):W2 c Rep (.int a) (.int b) (inplaceOp .Add) Q X:=opI (fun S s t u R k=>AutoIntOps.iadd_0 (k _ _ (.int _ _) rfl rfl rfl rfl)) h
theorem O_isub (h:Q (.int (a-b)) X):W2 c Rep (.int a) (.int b) (inplaceOp .Sub) Q X:=opI (fun S s t u R k=>PySem.P.isub_int (k _ _ (.int _ _) rfl rfl rfl rfl)) h
theorem O_lt (h:Q (.bool (decide (a<b))) X):W2 c Rep (.int a) (.int b) (compareOp .Lt) Q X:=opI (fun S s t u R k=>PySem.P.lt_int (k _ _ (.bool _) rfl rfl rfl rfl)) h
theorem O_gt (h:Q (.bool (decide (b<a))) X):W2 c Rep (.int a) (.int b) (compareOp .Gt) Q X:=opI (fun S s t u R k=>PySem.P.gt_int (k _ _ (.bool _) rfl rfl rfl rfl)) h
theorem O_ge (h:Q (.bool (decide (b≤a))) X):W2 c Rep (.int a) (.int b) (compareOp .GtE) Q X:=opI (fun S s t u R k=>PySem.P.ge_int (k _ _ (.bool _) rfl rfl rfl rfl)) h
theorem O_eq (h:Q (.bool (decide (a=b))) X):W2 c Rep (.int a) (.int b) (compareOp .Eq) Q X:=opI (fun S s t u R k=>PySem.P.eq_int (by rw [show (a==b)=decide (a=b) from rfl];exact k _ _ (.bool _) rfl rfl rfl rfl)) h
theorem O_ne (h:Q (.bool (!decide (a=b))) X):W2 c Rep (.int a) (.int b) (compareOp .NotEq) Q X:=opI (fun S s t u R k=>PySem.P.ne_int (by rw [show (a != b)=!decide (a=b) from rfl];exact k _ _ (.bool _) rfl rfl rfl rfl)) h
theorem op1I {f:Value→Sem Value} {V:AV} (h:∀ (S:Sto) (s:Shared) t (R:Value→Shared→Prop),(∀ v s',Rep S v V→s'.heap=s.heap→s'.os=s.os→s'.gens=s.gens→s'.drawn=s.drawn→R v s')→wpAny (model c.P c.w) c.A (f (.int a t)) R c.E s) (hq:Q V X):W1 c Rep (.int a) f Q X:=by
 intro B S s v ok r₁ st
 obtain ⟨t,rfl⟩:=r₁.int_inv
 exact h S s t _ fun v s' r e1 e2 e3 e4=>⟨S,V,X,.rfl,r,st.grow (by rw [e1];exact .rfl) e2 e3 e4,hq⟩
theorem O_neg (h:Q (.int (-a)) X):W1 c Rep (.int a) (unaryOp .USub) Q X:=op1I (fun S s t R k=>PySem.P.neg_int (k _ _ (.int _ _) rfl rfl rfl rfl)) h
theorem O_inv (h:Q (.int (Builtin.bitNot a)) X):W1 c Rep (.int a) (unaryOp .Invert) Q X:=op1I (fun S s t R k=>PyProof.Rows.invert_int (k _ _ (.int _ _) rfl rfl rfl rfl)) h
theorem O_not {V:AV} (h:WTr c V (fun b X₁=>Q (.bool (!b)) X₁) X):W1 c Rep V (unaryOp .Not) Q X :=
 fun B S s v ok r st=>not_of (wpAny_mono (h B S s v ok r st) (fun b s₁ ⟨S₁,b',X₁,u₁,e,st₁,h₁⟩=>by cases e;exact ⟨S₁,_,X₁,u₁,.bool _,st₁,h₁⟩) fun _ _ e=>e)
end
section
variable {c:Cx} {X:AX} {Q:Bool→AX→Prop}
theorem Tr_bool {b:Bool} (h:Q b X):WTr c (.bool b) Q X:=fun B S s v ok r st=>by rw [r.bool_inv];exact wpAny_truthy_bool ⟨S,b,X,.rfl,rfl,st,h⟩
theorem Reps.isEmpty {S:Sto} {vs:List Value} {xs:List AV} (r:Reps S vs xs):vs.toArray.isEmpty=xs.isEmpty:=by
 cases xs with
 | nil=>rw [r.nil_inv];rfl
 | cons V Vs=>obtain ⟨v,t,rfl,_⟩:=r.cons_inv;rfl
theorem Tr_lst {xs:List AV} (hz:(xs.length:Int)<2^63) (h:Q (!xs.isEmpty) X):WTr c (.lst xs) Q X:=fun B S s v ok r st=>by
 obtain ⟨a,vs,n,rfl,h1,h2⟩:=r.lst_inv
 refine wpAny_truthy_list (items:=vs.toArray) ⟨_,st.sto _ _ h1,rfl,n,rfl⟩ (by rw [List.size_toArray,h2.1];exact hz) ?_
 rw [h2.isEmpty]
 exact ⟨S,_,X,.rfl,rfl,st.toks _,h⟩
theorem Tr_mlst {xs:List AV} {a:Addr} (hm:(a,MO.lst xs)∈X.σ) (hz:(xs.length:Int)<2^63) (h:Q (!xs.isEmpty) X):WTr c (.raw (.ref a)) Q X:=fun B S s v ok r st=>by
 rw [r.raw_inv]
 obtain ⟨vs,n,h1,h2⟩:=st.get hm
 refine wpAny_truthy_list (items:=vs.toArray) ⟨_,h1,rfl,n,rfl⟩ (by rw [List.size_toArray,h2.1];exact hz) ?_
 rw [h2.isEmpty]
 exact ⟨S,_,X,.rfl,rfl,st.toks _,h⟩
end
section
variable {c:Cx} {X:AX} {Q:AV→AX→Prop}
abbrev WAs (c:Cx) (pos:Pos) (es:List Expr) (Q:List AV→AX→Prop) (X:AX):Prop:=WT c Reps (spliced (backTo pos (starEach es c.env))) Q X
theorem A_nil {pos} {Q:List AV→AX→Prop} (h:Q [] X):WAs c pos [] Q X:=fun B S s ok st=>spliced_none ⟨S,[],X,.rfl,.nil,st,h⟩
theorem A_cons {pos e es} {Q:List AV→AX→Prop} (h:WE c e (fun V X₁=>WAs c pos es (fun Vs X₂=>Q (V::Vs) X₂) X₁) X) (he:starEach (e::es) c.env=(false,eval e c.env)::starEach es c.env:=by rfl):WAs c pos (e::es) Q X :=
 fun B S s ok st=>spliced_more (wpAny_mono (h B S s ok st) (fun v s₁ ⟨S₁,V,X₁,u₁,r,st₁,h₁⟩=>wpAny_mono (h₁ B S₁ s₁ ok st₁) (fun vs s₂ ⟨S₂,Vs,X₂,u₂,rs,st₂,h₂⟩=>⟨S₂,V::Vs,X₂,u₁.trans u₂,.cons (r.mono u₂) rs,st₂,h₂⟩) fun _ _ e=>e) fun _ _ e=>e) he
theorem St.newM {B:Bg} {S:Sto} {s:Shared} (st:St c B S X s) {o:Obj} {mo:MO} (hf:o.isFreed=false) (hm:∀ h:Heap,h.get? s.heap.objs.size=some o→MRep S h s.heap.objs.size mo) (ha:mo.addrs s.heap.objs.size=[s.heap.objs.size]):St c B S ⟨(s.heap.objs.size,mo)::X.σ,X.m⟩ {s with heap:=s.heap.push o}:=by
 have b:=st.bare (get?_lt_none (Nat.le_refl s.heap.objs.size))
 refine (st.grow (s':={s with heap:=s.heap.push o}) (Keeps.push _ _) rfl rfl rfl).addM (hm _ (Heap.get?_push_size _ hf)) (by rw [ha];simp) fun x hx=>?_
 rw [ha] at hx
 rw [List.mem_singleton.mp hx];exact b
theorem E_tup {es k pos} (h:WAs c pos es (fun Vs X₁=>Vs.length≤1000∧Q (.tup Vs) X₁) X):WE c (.Tuple es k pos) Q X :=
 fun B S s ok st=>Tuple_ (wpAny_mono (h B S s ok st) (fun vs s₁ ⟨S₁,Vs,X₁,u₁,r,st₁,hz,h₁⟩=>wpAny_newTuple ⟨_,.tup Vs,X₁,u₁.trans (Sto.put_le _ _ _),.tup' (n:=0) (Sto.put_self _ _ _) (r.mono (Sto.put_le _ _ _)),st₁.push _ rfl,h₁⟩ (by rw [sizeLine_eq,r.1];exact (lin1 (.le .v0 (.n (2^24))) [.le .v0 (.n 1000)]) hz)) fun _ _ e=>e)
theorem E_list {es pos} (h:WAs c pos es (fun Vs X₁=>Vs.length≤1000∧Q (.lst Vs) X₁) X):WE c (.List es pos) Q X :=
 fun B S s ok st=>List_ (wpAny_mono (h B S s ok st) (fun vs s₁ ⟨S₁,Vs,X₁,u₁,r,st₁,hz,h₁⟩=>wpAny_newList ⟨_,.lst Vs,X₁,u₁.trans (Sto.put_le _ _ _),.lst' (n:=0) (Sto.put_self _ _ _) (r.mono (Sto.put_le _ _ _)),st₁.push _ rfl,h₁⟩ (by rw [sizeLine_eq,r.1];exact (lin1 (.le .v0 (.n (2^24))) [.le .v0 (.n 1000)]) hz)) fun _ _ e=>e)
theorem E_listM {es pos} (h:WAs c pos es (fun Vs X₁=>Vs.length≤1000∧∀ a,Q (.raw (.ref a)) ⟨(a,.lst Vs)::X₁.σ,X₁.m⟩) X):WE c (.List es pos) Q X :=
 fun B S s ok st=>List_ (wpAny_mono (h B S s ok st) (fun vs s₁ ⟨S₁,Vs,X₁,u₁,r,st₁,hz,h₁⟩=>wpAny_newList ⟨S₁,_,_,u₁,.raw _,st₁.newM (mo:=.lst Vs) rfl (fun h e=>⟨vs,0,e,r⟩) rfl,h₁ _⟩ (by rw [sizeLine_eq,r.1];exact (lin1 (.le .v0 (.n (2^24))) [.le .v0 (.n 1000)]) hz)) fun _ _ e=>e)
theorem E_sub {value slice pos} (h:WE c value (fun V X₁=>WE c slice (fun U X₂=>W2 c Rep V U (subscriptTail value slice) Q X₂) X₁) X):WE c (.Subscript value slice pos) Q X :=
 fun B S s ok st=>Subscript_ (wpAny_mono (h B S s ok st) (fun a s₁ ⟨S₁,V,X₁,u₁,ra,st₁,h₁⟩=>wpAny_mono (h₁ B S₁ s₁ ok st₁) (fun b s₂ ⟨S₂,W,X₂,u₂,rb,st₂,h₂⟩=>wpAny_mono (h₂ B S₂ s₂ a b ok (ra.mono u₂) rb st₂) (fun _ _ p=>p.up (u₁.trans u₂)) fun _ _ e=>e) fun _ _ e=>e) fun _ _ e=>e)
theorem Reps.at {S:Sto} {vs:List Value} {xs:List AV} (r:Reps S vs xs) {i:Nat} {V:AV} (h:xs[i]?=some V):∃ v,vs[i]?=some v∧Rep S v V:=by
 have hl:i<vs.length:=by rw [r.1];exact (List.getElem?_eq_some_iff.mp h).1
 exact ⟨vs[i],List.getElem?_eq_getElem hl,r.2 i _ _ (List.getElem?_eq_getElem hl) h⟩
def atI (xs:List AV) (i:Int):Option AV:=if 0≤i then xs[i.toNat]? else if -(xs.length:Int)≤i then xs[(i+xs.length).toNat]? else Option.none
theorem sub_any {A:Around} {E:Value→Shared→Prop} {S:Sto} {s:Shared} {a:Addr} {i:Int} {t:Tok} {vs:List Value} {n:Nat} {xs:List AV} {V:AV} {R:Value→Shared→Prop} {P:Program} {w:World} (hl:s.heap.get? a=some (seqObj "list" vs.toArray n)) (r:Reps S vs xs) (hz:xs.length<2^62) (hx:atI xs i=some V) (h:∀ v,Rep S v V→R v s):wpAny (model P w) A (getItem (.ref a) (.int i t)) R E s:=by
 have il:s.heap.IsList a vs.toArray:=⟨_,hl,rfl,n,rfl⟩
 unfold atI at hx
 split at hx
 ·rename_i h0
  obtain ⟨v,hv,rv⟩:=r.at hx
  have:=(List.getElem?_eq_some_iff.mp hx).1
  exact wpAny_getItem_list il h0 (by exact (lin [_,_] [_] (.zt .v0 (.n (2^63))) [.lt .v0 (.n (2^62)),.lt .v1 .v0,.or (.an (.zl .n0 .v0) (.ze (.c .v1) .v0)) (.an (.zt .v0 .n0) (.eq .v1 .n0))]) hz this (tnc _)) (by simpa using hv) (h v rv)
 ·split at hx
  ·rename_i h0 h1
   obtain ⟨v,hv,rv⟩:=r.at hx
   exact wpAny_getItem_list_neg il (by exact (lin [] [_] (.zt .v0 .n0) [.no (.zl .n0 .v0)]) h0) (by rw [List.size_toArray,r.1];exact (lin [_] [_] (.zl (.g (.c .v0)) .v0) [.zl (.g (.c .v0)) .v0]) h1) (by exact (lin [_] [_] (.zl (.g (.n (2^63))) .v0) [.lt .v0 (.n (2^62)),.zl (.g (.c .v0)) .v0]) hz h1) (by rw [List.size_toArray,r.1];simpa using hv) (h v rv)
  ·cases hx
theorem Su_lst {value slice:Expr} {xs:List AV} {i:Int} {V:AV} (hx:atI xs i=some V) (hz:xs.length<2^62) (h:Q V X) (hs:∀ o i,subscripted slice false o i=operate [o,i] (getItem o i):=by intro _ _;rfl):W2 c Rep (.lst xs) (.int i) (subscriptTail value slice) Q X:=by
 intro B S s v u ok r₁ r₂ st
 obtain ⟨a,vs,n,rfl,h1,h2⟩:=r₁.lst_inv
 obtain ⟨t,rfl⟩:=r₂.int_inv
 have il:s.heap.IsList a vs.toArray:=⟨_,st.sto _ _ h1,rfl,n,rfl⟩
 unfold subscriptTail getitemInPython
 refine wpAny_bind (wpAny_bind (wpAny_specialOf il.typeIs slot_list_getitem.lookup ?_))
 refine wpAny_pure ?_
 rw [hs]
 refine wpAny_bind (wpAny_operateT (sub_any (st.sto _ _ h1) h2 hz hx fun w rw'=>wpAny_bind (wpAny_letTemporaryGo (wpAny_pure ⟨S,V,X,.rfl,rw',st,h⟩))))
theorem Su_mlst {value slice:Expr} {xs:List AV} {a:Addr} {i:Int} {V:AV} (hm:(a,MO.lst xs)∈X.σ) (hx:atI xs i=some V) (hz:xs.length<2^62) (h:Q V X) (hs:∀ o i,subscripted slice false o i=operate [o,i] (getItem o i):=by intro _ _;rfl):W2 c Rep (.raw (.ref a)) (.int i) (subscriptTail value slice) Q X:=by
 intro B S s v u ok r₁ r₂ st
 rw [r₁.raw_inv]
 obtain ⟨t,rfl⟩:=r₂.int_inv
 obtain ⟨vs,n,h1,h2⟩:=st.get hm
 have il:s.heap.IsList a vs.toArray:=⟨_,h1,rfl,n,rfl⟩
 unfold subscriptTail getitemInPython
 refine wpAny_bind (wpAny_bind (wpAny_specialOf il.typeIs slot_list_getitem.lookup ?_))
 refine wpAny_pure ?_
 rw [hs]
 refine wpAny_bind (wpAny_operateT (sub_any h1 h2 hz hx fun w rw'=>wpAny_bind (wpAny_letTemporaryGo (wpAny_pure ⟨S,V,X,.rfl,rw',st,h⟩))))
end
theorem callWith_any {M:Model} {A:Around} {E:Value→Shared→Prop} {s:Shared} {pos:Pos} {f:Value} {first:List Value} {Q:Value→Shared→Prop} {P:Shared→Prop} {args:List (Bool×Sem Value)} {keywords:List (Option Str×Sem Value)}
  (hk:∀ s',P s'→∃ k,Looks M s'.heap (keeperOf f) k) (h:wpAny M A (evalArgs f true args keywords) (fun a s₁=>P s₁∧wpAny M A (call f (first++a.pos) a.kw) Q E s₁) E s):wpAny M A (callWith pos f first args keywords) Q E s:=by
 unfold callWith
 refine wpAny_bind (wpAny_holding (wpAny_mono h (fun a s₁ h₁=>wpAny_bind (wpAny_standAt ?_)) fun _ _ x=>x))
 obtain ⟨k,L⟩:=hk _ h₁.1
 refine wpAny_bind (L.here ?_)
 have tail:∀ {t:Sem Value},wpAny M A t Q E s₁→wpAny M A (t >>= fun r=>holding [r] point >>= fun _=>pure r) Q E s₁ :=
  fun ht=>wpAny_bind (wpAny_mono ht (fun r s₂ hr=>wpAny_bind (wpAny_holding (wpAny_point (wpAny_pure hr)))) fun _ _ x=>x)
 have marked (mk:Value):wpAny M A (callMarked mk f (first++a.pos) a.kw) Q E s₁:=by unfold callMarked;exact Calls.wpAny_keep h₁.2
 have oper (vs:List Value):wpAny M A (operate vs (call f (first++a.pos) a.kw)) Q E s₁:=wpAny_operateT h₁.2
 dsimp only
 generalize ((args.any fun x=>x.fst) || keywords.any fun x=>x.fst.isNone)=st
 cases k<;>cases st<;>dsimp only<;>first | exact tail h₁.2 | exact tail (marked _) | exact tail (oper _) | (split<;>first | exact tail h₁.2 | exact tail (marked _))
theorem evalArgs_nilB {M:Model} {A:Around} {E:Value→Shared→Prop} {s:Shared} {f:Value} {keywords:List (Option Str×Sem Value)} {Q:Args→Shared→Prop} (hall:keywords.all (·.1.isSome)=true)
  (h:wpAny M A (spliced []) (fun vs s₁=>wpAny M A (evalAll (keywords.map (·.2))) (fun ks s₂=>Q ⟨vs,(keywords.filterMap (·.1)).zip ks⟩ s₂) E s₁) E s):wpAny M A (evalArgs f true [] keywords) Q E s:=by
 unfold evalArgs
 show wpAny M A (spliced [] >>= _) Q E s
 refine wpAny_bind (wpAny_mono h (fun vs s₁ h₁=>?_) fun _ _ x=>x)
 refine wpAny_bind (wpAny_pure ?_)
 refine wpAny_holding ?_
 simp only [hall,if_true]
 refine wpAny_bind (wpAny_mono h₁ (fun ks s₂ h₂=>?_) fun _ _ x=>x)
 exact wpAny_bind (wpAny_pure (wpAny_pure h₂))
section
variable {c:Cx} {X:AX} {Q:AV→AX→Prop}
abbrev WKs (c:Cx) (pos:Pos) (kws:List Keyword) (Q:List AV→AX→Prop) (X:AX):Prop:=WT c Reps (evalAll ((backToKw pos (keywordEach kws c.env)).map (·.2))) Q X
theorem K_nil {pos} {Q:List AV→AX→Prop} (h:Q [] X):WKs c pos [] Q X:=fun B S s ok st=>kwAll_nil ⟨S,[],X,.rfl,.nil,st,h⟩
theorem K_cons {pos name value kp rest} {Q:List AV→AX→Prop} (h:WE c value (fun V X₁=>WKs c pos rest (fun Vs X₂=>Q (V::Vs) X₂) X₁) X):WKs c pos (⟨some name,value,kp⟩::rest) Q X :=
 fun B S s ok st=>PyProof.Rows.kws_cons (wpAny_mono (h B S s ok st) (fun v s₁ ⟨S₁,V,X₁,u₁,r,st₁,h₁⟩=>wpAny_mono (h₁ B S₁ s₁ ok st₁) (fun vs s₂ ⟨S₂,Vs,X₂,u₂,rs,st₂,h₂⟩=>⟨S₂,V::Vs,X₂,u₁.trans u₂,.cons (r.mono u₂) rs,st₂,h₂⟩) fun _ _ e=>e) fun _ _ e=>e)
def WC (c:Cx) (f:Value) (Vs:List AV) (kws:List (Str×AV)) (Q:AV→AX→Prop) (X:AX):Prop :=
 ∀ B S s vs kw,c.Ok→Reps S vs Vs→RepK S kw kws→St c B S X s→wpAny (model c.P c.w) c.A (call f vs kw) (Post c B S Rep Q) c.E s
theorem WC.of {f:Value} {Vs:List AV} {kws:List (Str×AV)} (h:WF c f Vs kws Q X):WC c f Vs kws Q X:=fun B S s vs kw ok r rk st=>wpAny_call (codeAny_mono (h B S s vs kw ok r rk st) fun r s' z=>by
 replace z:=z.1
 rcases r with e | (v | _ | _ | _)<;>first | exact z | exact z.elim)
theorem RepK.zip {S:Sto}:∀ {names:List Str} {vs:List Value} {Vs:List AV},Reps S vs Vs→RepK S (names.zip vs) (names.zip Vs)
 | [],_,_,_=>⟨rfl,.nil⟩
 | x::r,[],Vs,h=>by
  have:Vs=[]:=List.eq_nil_of_length_eq_zero (by have:=h.1;simpa using this.symm)
  subst this;exact ⟨rfl,.nil⟩
 | x::r,v::vs,[],h=>by have:=h.1;simp at this
 | x::r,v::vs,V::Vs,h=>by
  have h2:=Reps.uncons h
  have ih:=RepK.zip (names:=r) h2.2
  exact ⟨by simp only [List.zip_cons_cons,List.map_cons];rw [ih.1],.cons h2.1 ih.2⟩
theorem RepK.nil {S:Sto}:RepK S [] []:=⟨rfl,.nil⟩
theorem run_call_ {B:Bg} {S:Sto} {s:Shared} {pos:Pos} {f:Value} {first:List Value} {args:List Expr} {kws:List Keyword} (Fin:List AV→List (Str×AV)→AX→Prop) (ok:c.Ok) (st:St c B S X s)
  (hk:∀ h,c.K.In h→(∀ b o,S b o→h.get? b=some o)→∃ k,Looks (model c.P c.w) h (keeperOf f) k)
  (hfin:∀ S₂ s₂ X₂ vs Us kw Ks,S.Le S₂→Reps S₂ vs Us→RepK S₂ kw Ks→St c B S₂ X₂ s₂→Fin Us Ks X₂→wpAny (model c.P c.w) c.A (call f (first++vs) kw) (Post c B S₂ Rep Q) c.E s₂)
  (h:WAs c pos args (fun Us X₁=>WKs c pos kws (fun Ks X₂=>Fin Us (((backToKw pos (keywordEach kws c.env)).filterMap (·.1)).zip Ks) X₂) X₁) X)
  (he:∀ e r,args=e::r→starEach args c.env=(false,eval e c.env)::starEach r c.env) (hall:(backToKw pos (keywordEach kws c.env)).all (·.1.isSome)=true) :
  wpAny (model c.P c.w) c.A (callWith pos f first (backTo pos (starEach args c.env)) (backToKw pos (keywordEach kws c.env))) (Post c B S Rep Q) c.E s:=by
 refine callWith_any (P:=fun s'=>c.K.In s'.heap∧∀ b o,S b o→s'.heap.get? b=some o) (fun s' z=>hk _ z.1 z.2) ?_
 have fin:∀ vs s₁,Post c B S Reps (fun Us X₁=>WKs c pos kws (fun Ks X₂=>Fin Us (((backToKw pos (keywordEach kws c.env)).filterMap (·.1)).zip Ks) X₂) X₁) vs s₁→wpAny (model c.P c.w) c.A (evalAll ((backToKw pos (keywordEach kws c.env)).map (·.2))) (fun ks s₂=>(c.K.In s₂.heap∧∀ b o,S b o→s₂.heap.get? b=some o)∧wpAny (model c.P c.w) c.A (call f (first++vs) (((backToKw pos (keywordEach kws c.env)).filterMap (·.1)).zip ks)) (Post c B S Rep Q) c.E s₂) c.E s₁:=by
  rintro vs s₁ ⟨S₁,Us,X₁,u₁,r₁,st₁,h₁⟩
  refine wpAny_mono (h₁ B S₁ s₁ ok st₁) (fun ks s₂ ⟨S₂,Ks,X₂,u₂,r₂,st₂,h₂⟩=>⟨⟨ok.X.keeps st₂.gr,fun b o e=>st₂.sto b o (u₂ _ _ (u₁ _ _ e))⟩,?_⟩) fun _ _ e=>e
  exact wpAny_mono (hfin S₂ s₂ X₂ _ _ _ _ (u₁.trans u₂) (r₁.mono u₂) (.zip r₂) st₂ h₂) (fun _ _ p=>p.up (u₁.trans u₂)) fun _ _ e=>e
 cases args with
 | nil=>exact evalArgs_nilB hall (wpAny_mono (h B S s ok st) (fun vs s₁ p=>fin vs s₁ p) fun _ _ e=>e)
 | cons e r=>exact evalArgs_kw2 hall (wpAny_mono (h B S s ok st) (fun vs s₁ p=>fin vs s₁ p) fun _ _ e=>e) (he e r rfl)
theorem run_call {B:Bg} {S:Sto} {s:Shared} {pos:Pos} {f:Value} {first:List Value} {Fs:List AV} {args:List Expr} {kws:List Keyword} (ok:c.Ok) (st:St c B S X s) (rf:Reps S first Fs)
  (hk:∀ h,c.K.In h→(∀ b o,S b o→h.get? b=some o)→∃ k,Looks (model c.P c.w) h (keeperOf f) k)
  (h:WAs c pos args (fun Us X₁=>WKs c pos kws (fun Ks X₂=>WC c f (Fs++Us) (((backToKw pos (keywordEach kws c.env)).filterMap (·.1)).zip Ks) Q X₂) X₁) X)
  (he:∀ e r,args=e::r→starEach args c.env=(false,eval e c.env)::starEach r c.env) (hall:(backToKw pos (keywordEach kws c.env)).all (·.1.isSome)=true) :
  wpAny (model c.P c.w) c.A (callWith pos f first (backTo pos (starEach args c.env)) (backToKw pos (keywordEach kws c.env))) (Post c B S Rep Q) c.E s :=
 run_call_ (fun Us Ks X₂=>WC c f (Fs++Us) Ks Q X₂) ok st hk (fun S₂ s₂ X₂ vs Us kw Ks u r rk st₂ z=>z B S₂ s₂ _ _ ok ((rf.mono u).append r) rk st₂) h he hall
end
def kv (ks:List Str) (vs:List AV) (x:Str):Option AV:=(ks.zip vs).lookup x
theorem Ents.cons_inv {S:Sto} {es:List DictEntry} {k:Str} {ks:List Str} {V:AV} {vs:List AV} (h:Ents S es (k::ks) (V::vs)):∃ e r t,es=e::r∧e.key=.str k t∧Rep S e.val V∧Ents S r ks vs:=by
 obtain ⟨a,b,c,d⟩:=h
 cases es with
 | nil=>simp at a
 | cons e r =>
  obtain ⟨t,ht⟩:=c 0 e k rfl rfl
  exact ⟨e,r,t,rfl,ht,d 0 e V rfl rfl,by simpa using a,by simpa using b,fun i e' k' p q=>c (i+1) e' k' (by simpa using p) (by simpa using q),fun i e' k' p q=>d (i+1) e' k' (by simpa using p) (by simpa using q)⟩
theorem Ents.nil_inv {S:Sto} {es:List DictEntry} {vs:List AV} (h:Ents S es [] vs):es=[]∧vs=[]:=by
 have:=h.lk;have h2:=h.lv
 cases es with
 | nil=>exact ⟨rfl,List.eq_nil_of_length_eq_zero (by simpa using h2.symm)⟩
 | cons _ _=>simp at this
theorem getL_cons (x:Str) (e:DictEntry) (r:List DictEntry) (k:Str) (t:Tok) (hk:e.key=.str k t):getL x (e::r)=if k=x then some (some e.val) else getL x r:=by
 unfold getL
 rw [List.find?_cons,List.any_cons]
 have h1:e.key.isStr x=(k==x):=by rw [hk];rfl
 have h2:e.refKey=false:=by simp [DictEntry.refKey,hk]
 rw [h1,h2]
 by_cases q:k=x
 ·subst q;simp
 ·rw [beq_eq_false_iff_ne.mpr q];simp [q]
theorem Ents.get {S:Sto} {x:Str} {V:AV}:∀ {ks:List Str} {vs:List AV} {es:List DictEntry},Ents S es ks vs→kv ks vs x=some V→∃ v,getL x es=some (some v)∧Rep S v V
 | [],_,_,h,e=>by cases e
 | k::ks,[],_,h,e=>by cases e
 | k::ks,U::vs,_,h,e=>by
  obtain ⟨en,r,t,rfl,h1,h2,h3⟩:=h.cons_inv
  rw [getL_cons x en r k t h1]
  unfold kv at e
  rw [List.zip_cons_cons,List.lookup_cons] at e
  by_cases q:x=k
  ·subst q
   rw [beq_self_eq_true] at e;cases e
   rw [if_pos rfl];exact ⟨_,rfl,h2⟩
  ·rw [beq_eq_false_iff_ne.mpr q] at e
   rw [if_neg (Ne.symm q)]
   exact Ents.get h3 e
theorem Ents.miss {S:Sto} {x:Str}:∀ {ks:List Str} {vs:List AV} {es:List DictEntry},Ents S es ks vs→x∉ks→getL x es=some none
 | [],_,es,h,_=>by obtain ⟨rfl,_⟩:=h.nil_inv;rfl
 | k::ks,[],es,h,_=>by have a:=h.lk;have b:=h.lv;rw [a] at b;simp at b
 | k::ks,U::vs,_,h,e=>by
  obtain ⟨en,r,t,rfl,h1,h2,h3⟩:=h.cons_inv
  rw [getL_cons x en r k t h1,if_neg (fun q=>e (by rw [q];exact .head _))]
  exact Ents.miss h3 fun q=>e (.tail _ q)
def IsInst (X:AX) (V:AV) (C:Addr) (ks:List Str) (vs:List AV):Prop:=V=.inst C ks vs∨∃ a d,V=.raw (.ref a)∧(a,MO.inst C d ks vs)∈X.σ
inductive IsAt (S:Sto) (v:Value) (C:Addr) (ks:List Str) (vs:List AV) (s:Shared):Prop
 | mk (a d:Addr) (es:List DictEntry) (ep:Nat) (e:v=.ref a) (h:W.InstAt s.heap a (instObj C d) C (some (dictOf es ep))) (en:Ents S es ks vs)
section
variable {c:Cx} {X:AX} {Q:AV→AX→Prop} {B:Bg} {S:Sto} {s:Shared} {V:AV} {v:Value} {C:Addr} {ks:List Str} {vs:List AV}
theorem IsInst.at (h:IsInst X V C ks vs) (st:St c B S X s) (r:Rep S v V):IsAt S v C ks vs s:=by
 rcases h with rfl | ⟨a,d,rfl,hm⟩
 ·obtain ⟨a,d,es,ep,rfl,h1,h2,h3⟩:=r.inst_inv
  exact ⟨a,d,es,ep,rfl,⟨st.sto _ _ h1,rfl,rfl,st.sto _ _ h2⟩,h3⟩
 ·rw [r.raw_inv]
  obtain ⟨h1,es,ep,h2,h3⟩:=st.get hm
  exact ⟨a,d,es,ep,rfl,⟨h1,rfl,rfl,h2⟩,h3⟩
def AV.handed:AV→Bool
 | .raw v=>handedIn v
 | .ext _=>false
 | _=>true
theorem Rep.handed (r:Rep S v V) (h:V.handed=true):handedIn v=true:=by cases r<;>first | rfl | exact h | (cases h)
theorem E_attr {value attr pos} (h:WE c value (fun V X₁=>W1 c Rep V (fun o=>getAttr o attr true) Q X₁) X)
  (he:eval (.Attribute value attr pos) c.env=(do let o ←eval value c.env;standAt pos.atName;let r ←holding [o] (getAttr o attr true);letTemporaryGo value o r;pure r):=by with_unfolding_all rfl):WE c (.Attribute value attr pos) Q X :=
 fun B S s ok st=>Attribute_any_ (wpAny_mono (h B S s ok st) (fun a s₁ ⟨S₁,V,X₁,u₁,ra,st₁,h₁⟩=>wpAny_mono (h₁ B S₁ s₁ a ok ra st₁) (fun _ _ p=>p.up u₁) fun _ _ e=>e) fun _ _ e=>e) he
theorem G_own {attr:Str} {U:AV} {ca:Option Value} (hi:IsInst X V C ks vs) (hg:plainGet c.K C attr=true) (hh:hasDictIn c.K C=true) (ha:findIn c.K (.ref C) attr=some ca) (hn:noGet c.K ca=true) (hv:kv ks vs attr=some U) (hu:U.handed=true) (h:Q U X):W1 c Rep V (fun o=>getAttr o attr true) Q X:=by
 intro B S s v ok r st
 obtain ⟨a,d,es,ep,rfl,I,en⟩:=hi.at st r
 obtain ⟨u,hu1,hu2⟩:=en.get hv
 exact get_value (ok.X.keeps st.gr) I (plainGet_of hg).1 (findObj_own hh ha hn hu1) (hu2.handed hu) ⟨S,U,X,.rfl,hu2,st.toks _,h⟩
theorem G_class (hi:IsInst X V C ks vs) (hg:plainGet c.K C "__class__" = true) (hh:hasDictIn c.K C=true)
  (ha:findIn c.K (.ref C) "__class__" = some (some (.builtin "object.__class__"))) (hn:specialIn c.K (.builtin "object.__class__") "__get__" = some (some (.builtin "getset_descriptor.__get__"))) (ht:takesIn c.K (.builtin "object.__class__")=some true)
  (hm:mroIn c.K C (.type "object")=some true) (h:Q (.raw (.ref C)) X):W1 c Rep V (fun o=>getAttr o "__class__" true) Q X:=by
 intro B S s v ok r st
 obtain ⟨a,d,es,ep,rfl,I,en⟩:=hi.at st r
 have X0:=ok.X.keeps st.gr
 refine get_bind X0 I (plainGet_of hg).1 (findObj_data (by obtain ⟨cd,hc,_⟩:=any_some hh;rw [hc];rfl) ha hn ht) (plainGet_of hg).2 (wpAny_call (class_get (s:={s with toks:=s.toks+1}) X0 I hm ?_))
 exact handed_on rfl ⟨S,_,X,.rfl,.raw _,st.toks _,h⟩
theorem G_clsval {attr:Str} {mc a:Value} {U:AV} (hr:readsIn c.K C mc=true) (e:findCls c.K (.ref C) mc attr=some (.val a)) (hh:handedIn a=true) (hU:∀ S,Rep S a U) (h:Q U X):W1 c Rep (.raw (.ref C)) (fun o=>getAttr o attr true) Q X:=by
 intro B S s v ok r st
 rw [r.raw_inv]
 exact cls_value (ok.X.keeps st.gr) hr e hh ⟨S,U,X,.rfl,hU S,st.toks _,h⟩
abbrev WM (c:Cx) (name:Str) (pl:Sem Bool) (pos:Pos) (args:List Expr) (kws:List Keyword) (V:AV) (Q:AV→AX→Prop) (X:AX):Prop:=W1 c Rep V (fun ov=>getMethod ov name pl >>= fun fx=>callWith pos fx.1 fx.2 (backTo pos (starEach args c.env)) (backToKw pos (keywordEach kws c.env))) Q X
theorem E_meth {o:Expr} {name:Str} {apos pos:Pos} {args:List Expr} {kws:List Keyword} {pl:Sem Bool} (h:WE c o (fun V X₁=>WM c name pl pos args kws V Q X₁) X)
  (he:eval (.Call (.Attribute o name apos) args kws pos) c.env=(do
   let ov ←eval o c.env
   standAt apos.atName
   let (f,first) ←holding [ov] (getMethod ov name pl)
   callWith pos f first (backTo pos (starEach args c.env)) (backToKw pos (keywordEach kws c.env))):=by rfl):WE c (.Call (.Attribute o name apos) args kws pos) Q X:=by
 intro B S s ok st
 rw [he]
 refine wpAny_bind (wpAny_mono (h B S s ok st) (fun a s₁ ⟨S₁,V,X₁,u₁,ra,st₁,h₁⟩=>wpAny_bind (wpAny_standAt ?_)) fun _ _ e=>e)
 have:=h₁ B S₁ s₁ a ok ra st₁
 refine (fun Γ p hΓ=>?_:wpAny (model c.P c.w) c.A _ _ c.E s₁)
 have z:=this Γ p hΓ
 rw [Sem.wp_bind'] at z ⊢
 rw [Sem.wp_holding]
 exact Sem.wp_mono _ Γ _ (fun fx p' s' q=>Sem.wp_mono _ Γ _ (fun _ _ _ p=>p.up u₁) (fun _ _ _ e=>e) _ _ q) (fun _ _ _ e=>e) _ _ z
def WArgs (c:Cx) (pos:Pos) (args:List Expr) (kws:List Keyword) (Q:List AV→List (Str×AV)→AX→Prop) (X:AX):Prop :=
 WAs c pos args (fun Us X₁=>WKs c pos kws (fun Ks X₂=>Q Us (((backToKw pos (keywordEach kws c.env)).filterMap (·.1)).zip Ks) X₂) X₁) X
theorem Args_plain {pos args} {Q:List AV→List (Str×AV)→AX→Prop} (h:WAs c pos args (fun Us X₁=>Q Us [] X₁) X):WArgs c pos args [] Q X:=WT.imp h fun Us X₁ q=>K_nil q
theorem keeper_fn {f:Addr} (hf:fnIn c.K f=true):∀ h,c.K.In h→∃ k,Looks (model c.P c.w) h (keeperOf (.ref f)) k:=fun h X0=>by
 unfold fnIn at hf
 split at hf
 ·rename_i q;exact ⟨.frame,(Looks.ld (part:=none) (X0 _ _ q)).andThen .now⟩
 ·cases hf
theorem keeper_keep {f:Value} (hf:keepIn c.K f=true):∀ h,c.K.In h→∃ k,Looks (model c.P c.w) h (keeperOf f) k:=fun h X0=>let ⟨k,_,L⟩:=keeps_K hf h X0;⟨k,L⟩
theorem keeper_builtin {id:String}:∀ h,c.K.In h→∃ k,Looks (model c.P c.w) h (keeperOf (.builtin id)) k:=fun h X0=>⟨.machine,.now⟩
theorem keeper_type {T:String}:∀ h,c.K.In h→∃ k,Looks (model c.P c.w) h (keeperOf (.type T)) k:=fun h X0=>⟨.machine,.now⟩
theorem M_fn {name:Str} {pl pos args kws} {f:Addr} (hi:IsInst X V C ks vs) (hg:plainGet c.K C name=true) (hf:findIn c.K (.ref C) name=some (some (.ref f))) (ht:isFn c.K (.ref f)=true) (hfn:fnIn c.K f=true) (hk:name∉ks)
  (h:WArgs c pos args kws (fun Us Ks X₁=>WC c (.ref f) (V::Us) Ks Q X₁) X) (he:∀ e r,args=e::r→starEach args c.env=(false,eval e c.env)::starEach r c.env:=by intro _ _ h;first | (cases h;rfl) | cases h) (hall:(backToKw pos (keywordEach kws c.env)).all (·.1.isSome)=true:=by rfl):WM c name pl pos args kws V Q X:=by
 intro B S s v ok r st
 obtain ⟨a,d,es,ep,rfl,I,en⟩:=hi.at st r
 refine wpAny_bind (method_fn (ok.X.keeps st.gr) I (plainGet_of hg).1 (plainGet_of hg).2 hf (beq_iff_eq.mp ht) (by show (lookIn name (dictOf es ep)).map _=_;rw [lookIn_dict,en.miss hk];rfl) ?_)
 exact run_call (Fs:=[V]) ok st (.cons r .nil) (fun h X0 _=>keeper_fn hfn h X0) h he hall
theorem M_cm {name:Str} {pl pos args kws} {mc:Value} {p f:Addr} {rest:List Value} (hs:specialIn c.K (.ref C) "__getattribute__" = some (some (.builtin "type.__getattribute__"))) (hr:readsIn c.K C mc=true) (e:findCls c.K (.ref C) mc name=some (.get (.builtin "classmethod.__get__") (.ref p) .none (.ref C)))
  (hp:recIn c.K p "classmethod" = some (.ref f::rest)) (hfn:fnIn c.K f=true) (h:WArgs c pos args kws (fun Us Ks X₁=>WF c (.ref f) (.raw (.ref C)::Us) Ks Q X₁) X) (he:∀ e r,args=e::r→starEach args c.env=(false,eval e c.env)::starEach r c.env:=by intro _ _ h;first | (cases h;rfl) | cases h) (hall:(backToKw pos (keywordEach kws c.env)).all (·.1.isSome)=true:=by rfl):WM c name pl pos args kws (.raw (.ref C)) Q X:=by
 intro B S s v ok r st
 rw [r.raw_inv]
 have X0:=ok.X.keeps st.gr
 refine wpAny_bind (method_cls X0 hs (cls_bind X0 hr e (wpAny_call (cm_get (s:={s with toks:=s.toks+1}) X0 hp (handed_on rfl ?_)))))
 have st1:=(st.toks (s.toks+1)).push (methodObj (.ref f) (.ref C)) rfl
 refine wpAny_mono (run_call_ (S:=S.put s.heap.objs.size (methodObj (.ref f) (.ref C))) (fun Us Ks X₁=>WF c (.ref f) (.raw (.ref C)::Us) Ks Q X₁) ok st1 (fun h X0 k=>?_) (fun S₂ s₂ X₂ vs Us kw Ks u r rk st₂ z=>?_) (Q:=Q) h he hall) (fun _ _ p=>p.up (Sto.put_le _ _ _)) fun _ _ e=>e
 ·have:=k _ _ (Sto.put_self S s.heap.objs.size (methodObj (.ref f) (.ref C)))
  unfold fnIn at hfn
  split at hfn
  ·rename_i q
   exact ⟨_,(Looks.ld (part:=none) this).andThen ((Looks.ld (part:=none) (X0 _ _ q)).andThen .now)⟩
  ·cases hfn
 ·refine wpAny_call (method_call (st₂.sto _ _ (u _ _ (Sto.put_self S s.heap.objs.size (methodObj (.ref f) (.ref C))))) (codeAny_mono (z B S₂ s₂ _ _ ok (.cons (.raw _) r) rk st₂) fun r s' z=>?_))
  replace z:=z.1
  rcases r with e | (v | _ | _ | _)<;>first | exact z | exact z.elim
theorem E_call {func:Expr} {args:List Expr} {kws:List Keyword} {pos:Pos} (h:WE c func (fun F X₁=>W1 c Rep F (fun f=>callWith pos f [] (backTo pos (starEach args c.env)) (backToKw pos (keywordEach kws c.env))) Q X₁) X)
  (he:eval (.Call func args kws pos) c.env=(do callWith pos (←eval func c.env) [] (backTo pos (starEach args c.env)) (backToKw pos (keywordEach kws c.env))):=by rfl):WE c (.Call func args kws pos) Q X:=by
 intro B S s ok st
 rw [he]
 exact wpAny_bind (wpAny_mono (h B S s ok st) (fun a s₁ ⟨S₁,V,X₁,u₁,ra,st₁,h₁⟩=>wpAny_mono (h₁ B S₁ s₁ a ok ra st₁) (fun _ _ p=>p.up u₁) fun _ _ e=>e) fun _ _ e=>e)
theorem C_raw {f:Value} {args:List Expr} {kws:List Keyword} {pos:Pos} (hk:∀ h,c.K.In h→∃ k,Looks (model c.P c.w) h (keeperOf f) k) (h:WArgs c pos args kws (fun Us Ks X₁=>WC c f Us Ks Q X₁) X) (he:∀ e r,args=e::r→starEach args c.env=(false,eval e c.env)::starEach r c.env:=by intro _ _ h;first | (cases h;rfl) | cases h) (hall:(backToKw pos (keywordEach kws c.env)).all (·.1.isSome)=true:=by rfl) :
  W1 c Rep (.raw f) (fun f=>callWith pos f [] (backTo pos (starEach args c.env)) (backToKw pos (keywordEach kws c.env))) Q X:=by
 intro B S s v ok r st
 rw [r.raw_inv]
 exact run_call (Fs:=[]) ok st .nil (fun h X0 _=>hk h X0) h he hall
end
def Bg.pins (B:Bg) (l:List (Addr×Obj)):Bg:={B with base:=fun b p=>B.base b p∨(b,p)∈l,prot:=fun b=>B.prot b∨b∈l.map (·.1)}
section
variable {c:Cx} {B:Bg} {S:Sto} {X:AX} {s:Shared}
theorem St.pins (st:St c B S X s) {l:List (Addr×Obj)} (h:∀ p∈l,s.heap.get? p.1=some p.2∧Bare c B S X p.1):St c (B.pins l) S X s where
 loc:=st.loc.imp id fun ⟨a,o,e⟩=>⟨a,o,.inl e⟩
 gr:=st.gr
 base x p e:=e.elim (st.base x p) fun q=>(h _ q).1
 sto:=st.sto
 cel:=fun x a e=>let ⟨h1,h2,h3⟩:=st.cel x a e;⟨h1,h2.imp id fun ⟨p,q⟩=>⟨p,.inl q⟩,h3⟩
 fr:=by
  obtain ⟨mc,n,f⟩:=st.fr
  exact ⟨mc,n,fun x V e=>let ⟨v,r,y⟩:=f x V e;⟨v,r,y.bg fun _ _=>.inl⟩⟩
 mu:=st.mu
 nd:=st.nd
 sep x hx:=by
  obtain ⟨h1,h2,h3⟩:=st.sep x hx
  refine ⟨h1,fun p e=>e.elim (h2 p) fun q=>?_,h3⟩
  exact hx.elim (h _ q).2.own (h _ q).2.adr
 dis:=st.dis
 dom:=st.dom
 prot x p e q:=q.elim (st.prot x p e) fun z=>by
  obtain ⟨y,hy,rfl⟩:=List.mem_map.mp z
  exact (h _ hy).2.sto p e
 pin x q:=q.elim (fun z=>let ⟨p,e⟩:=st.pin x z;⟨p,.inl e⟩) fun z=>by
  obtain ⟨y,hy,rfl⟩:=List.mem_map.mp z
  exact ⟨y.2,.inr hy⟩
 os:=st.os
 gens:=st.gens
 drawn:=st.drawn
theorem St.unpins {l:List (Addr×Obj)} {S':Sto} {X':AX} {s':Shared} (st:St c B S X s) (h:∀ p∈l,Bare c B S X p.1) (st':St c (B.pins l) S' X' s') :
  St c B S' X' s'∧∀ p∈l,s'.heap.get? p.1=some p.2∧Bare c B S' X' p.1:=by
 have hk:∀ x k,c.env.cells.lookup x=some k→∀ p∈l,k≠p.1:=fun x k e p hp q=>by
  obtain ⟨_,h2,_⟩:=st.cel x k e
  rcases h2 with h2 | ⟨o,h2⟩
  ·exact (h p hp).own (q▸h2)
  ·exact (h p hp).base o (q▸h2)
 refine ⟨⟨st.loc,st'.gr,fun x p e=>st'.base x p (.inl e),st'.sto,fun x k e=>?_,?_,st'.mu,st'.nd,fun x hx=>?_,st'.dis,st'.dom,fun x p e q=>st'.prot x p e (.inl q),st.pin,st'.os,st'.gens,st'.drawn⟩,fun p hp=>⟨st'.base _ _ (.inr hp),(h p hp).g,(h p hp).base,fun o e=>st'.prot _ o e (.inr (List.mem_map_of_mem hp)),fun q=>?_,fun q=>?_,(h p hp).prot⟩⟩
 ·obtain ⟨h1,h2,h3⟩:=st'.cel x k e
  refine ⟨h1,h2.imp id fun ⟨o,q⟩=>q.elim (fun z=>⟨o,z⟩) fun z=>absurd rfl (hk x k e _ z),h3⟩
 ·obtain ⟨mc,n,f⟩:=st'.fr
  refine ⟨mc,n,fun x V e=>let ⟨v,r,y⟩:=f x V e;⟨v,r,?_⟩⟩
  rcases y with y | ⟨z,q,p,e1,e2,e3,e4,e5⟩
  ·exact .inl y
  ·exact .inr ⟨z,q,p,e1,e2,e3,e4.imp id fun w=>w.elim id fun w=>absurd rfl (hk x q e1 _ w),e5⟩
 ·obtain ⟨h1,h2,h3⟩:=st'.sep x hx
  exact ⟨h1,fun p e=>h2 p (.inl e),h3⟩
 ·exact (st'.sep p.1 (.inl q)).2.1 p.2 (.inr hp)
 ·exact (st'.sep p.1 (.inr q)).2.1 p.2 (.inr hp)
end
structure Itr (c:Cx) (target:Expr) (it:Value) (fp:List Addr) (J:List AV→Sto→Heap→Prop) (E:Sto→Heap→Prop):Prop where
 dom:∀ xs S h,J xs S h→∀ a∈fp,∃ o,h.get? a=some o
 keep:∀ xs S S' h h',J xs S h→S.Le S'→(∀ a∈fp,∀ o,h.get? a=some o→h'.get? a=some o)→J xs S' h'
 done:∀ xs S h,J xs S h→E S h
 self:∀ B S X s xs (R:Value→Shared→Prop) (F:Value→Shared→Prop),St c B S X s→J xs S s.heap→R it s→wpAny (model c.P c.w) c.A (pyIter it) R F s
 next:∀ B S X s x xs,c.Ok→St c B S X s→(∀ a∈fp,Bare c B S X a)→J (x::xs) S s.heap→wpAny (model c.P c.w) c.A (pyNext it) (fun r s'=>∃ v,r=some v ∧
  wpAny (model c.P c.w) c.A (letOwnedTupleGo target it v) (fun _ s'=>∃ S',S.Le S'∧Rep S' v x∧St c B S' X s'∧(∀ a∈fp,Bare c B S' X a)∧J xs S' s'.heap) (fun _ _=>False) s') (fun _ _=>False) s
 stop:∀ B S X s,c.Ok→St c B S X s→(∀ a∈fp,Bare c B S X a)→J [] S s.heap→wpAny (model c.P c.w) c.A (pyNext it) (fun r s'=>r=none∧St c B S X s'∧E S s'.heap) (fun _ _=>False) s
inductive WIp (c:Cx) (target:Expr) (B:Bg) (S:Sto) (Q:List AV→(AX→AX)→AX→Prop) (it:Value) (s':Shared):Prop
 | mk (S':Sto) (X':AX) (fp:List Addr) (J:List AV→Sto→Heap→Prop) (E:Sto→Heap→Prop) (xs:List AV) (bk:AX→AX) (le:S.Le S') (st:St c B S' X' s') (itr:∀ c':Cx,c'.P=c.P→c'.w=c.w→Itr c' target it fp J E) (bare:∀ a∈fp,Bare c B S' X' a) (hJ:J xs S' s'.heap)
   (back:∀ (c':Cx) B S X s,St c' B S X s→(∀ a∈fp,Bare c' B S X a)→E S s.heap→St c' B S (bk X) s) (q:Q xs bk X')
def WI (c:Cx) (target:Expr) (V:AV) (Q:List AV→(AX→AX)→AX→Prop) (X:AX):Prop :=
 ∀ B S s v,c.Ok→Rep S v V→St c B S X s→wpAny (model c.P c.w) c.A (pyIter v) (fun it s'=>WIp c target B S Q it s') (fun _ _=>False) s
abbrev WA (c:Cx) (t:Expr) (V:AV) (Q:AX→Prop) (X:AX):Prop:=W1 c (Same (α:=Unit)) V (assign t c.env) (fun _=>Q) X
def Conv (c:Cx) (X Y:AX):Prop:=∀ B S s,St c B S X s→∃ S',S.Le S'∧(∀ a o,S' a o→S a o∨(s.heap.get? a=some o∧a∈AX.adr X.σ))∧St c B S' Y s
theorem Conv.rfl {c:Cx} {X:AX}:Conv c X X:=fun B S s st=>⟨S,.rfl,fun _ _=>.inl,st⟩
theorem Conv.weak {c:Cx} {X Y:AX} (hσ:Y.σ.Sublist X.σ) (hm:∀ x V,Y.m.lookup x=some V→X.m.lookup x=some V):Conv c X Y:=fun B S s st=>⟨S,.rfl,fun _ _=>.inl,st.weak hσ hm⟩
theorem Conv.bare {c:Cx} {B:Bg} {S S':Sto} {X Y:AX} {s:Shared} {a:Addr} (hb:Bare c B S X a) (st:St c B S' Y s) (h:∀ a o,S' a o→S a o∨(s.heap.get? a=some o∧a∈AX.adr X.σ)) (hY:a∉AX.adr Y.σ):Bare c B S' Y a :=
 ⟨hb.g,hb.base,fun o e=>(h a o e).elim (hb.sto o) fun z=>hb.adr z.2,hb.own,hY,hb.prot⟩
section
variable {c:Cx} {X:AX}
theorem A_name {x px V} {Q:AX→Prop} (hx:Own c x) (h:Q ⟨X.σ,(x,V)::X.m⟩):WA c (.Name x px) V Q X:=fun B S s v ok r st=>wpAny_assign_Name (store_ hx (Q:=fun _=>Q) h B S s v ok r st)
def WAl (c:Cx) (ts:List Expr) (Vs:List AV) (Q:AX→Prop) (X:AX):Prop:=WN c (Same (α:=Unit)) Vs (assignInOrder ((assignEach ts c.env).map (·.2))) (fun _=>Q) X
theorem Al_nil {Vs} {Q:AX→Prop} (h:Q X):WAl c [] Vs Q X:=fun B S s vs ok r st=>wpAny_pure ⟨S,(),X,.rfl,rfl,st,h⟩
theorem Al_cons {t ts V Vs} {Q:AX→Prop} (h:WA c t V (fun X₁=>WAl c ts Vs Q X₁) X) (he:assignEach (t::ts) c.env=(false,assign t c.env)::assignEach ts c.env:=by rfl):WAl c (t::ts) (V::Vs) Q X:=by
 intro B S s vs ok r st
 obtain ⟨v,vs,rfl,r1,r2⟩:=r.cons_inv
 rw [he]
 show wpAny _ _ (holding vs (assign t c.env v) >>= fun _=>assignInOrder ((assignEach ts c.env).map (·.2)) vs) _ _ _
 refine wpAny_bind (wpAny_holding (wpAny_mono (h B S s v ok r1 st) (fun _ s₁ hz₉=>?_) fun _ _ e=>e))
 obtain ⟨S₁,_,X₁,u₁,_,st₁,h₁⟩:=hz₉
 exact wpAny_mono (h₁ B S₁ s₁ vs ok (r2.mono u₁) st₁) (fun _ _ p=>p.up u₁) fun _ _ e=>e
theorem A_tup {ts k pos Vs} {Q:AX→Prop} (hl:ts.length=Vs.length) (h:WAl c ts Vs Q X) (hn:(assignEach ts c.env).length=ts.length:=by rfl) (hs:(assignEach ts c.env).findIdx? (·.1)=none:=by rfl):WA c (.Tuple ts k pos) (.tup Vs) Q X:=by
 intro B S s v ok r st
 obtain ⟨a,vs,n,rfl,h1,h2⟩:=r.tup_inv
 refine wpAny_assign_Tuple (items:=vs.toArray) ok.G.hd ⟨_,st.sto _ _ h1,rfl,n,rfl⟩ (by rw [hn,hl,List.size_toArray,h2.1]) hs fun h' hx=>?_
 have b:=st.bare (get?_lt_none (Nat.le_refl s.heap.objs.size))
 refine h B S _ vs ok h2 (st.keep (l:=[s.heap.objs.size]) (fun b o q e=>hx b o (fun z=>q (List.mem_singleton.mpr z)) e) (fun a ha=>?_) rfl rfl rfl)
 rw [List.mem_singleton.mp ha];exact ⟨b.g,b.base,b.sto,b.own,b.adr⟩
end
section
variable {c:Cx} {B:Bg} {S:Sto} {X:AX} {s:Shared}
theorem St.same (st:St c B S X s) {a:Addr} {h':Heap} (hs:Heap.SameBut a s.heap h') (b:Bare c B S X a):St c B S X {s with heap:=h'} :=
 st.keep (l:=[a]) (KeepsBut.of_same hs) (fun x hx=>by rw [List.mem_singleton.mp hx];exact ⟨b.g,b.base,b.sto,b.own,b.adr⟩) rfl rfl rfl
theorem St.extBut (st:St c B S X s) {a:Addr} {h':Heap} (hs:Heap.ExtBut a s.heap h') (b:Bare c B S X a):St c B S X {s with heap:=h'} :=
 st.keep (l:=[a]) (fun x o q e=>hs x o (fun z=>q (List.mem_singleton.mpr z)) e) (fun x hx=>by rw [List.mem_singleton.mp hx];exact ⟨b.g,b.base,b.sto,b.own,b.adr⟩) rfl rfl rfl
theorem Reps.drop {vs:List Value} {xs:List AV} (r:Reps S vs xs) {i:Nat} {x:AV} {ys:List AV} (e:xs.drop i=x::ys):∃ v,vs[i]?=some v∧Rep S v x∧xs.drop (i+1)=ys:=by
 have h1:xs[i]?=some x:=by rw [←List.head?_drop,e];rfl
 obtain ⟨v,hv,rv⟩:=r.at h1
 exact ⟨v,hv,rv,by rw [←List.tail_drop,e];rfl⟩
theorem drop_nil {vs:List Value} {xs:List AV} (r:Reps S vs xs) {i:Nat} (e:xs.drop i=[]):vs[i]?=none:=by
 rw [List.getElem?_eq_none_iff,r.1]
 exact List.drop_eq_nil_iff.mp e
inductive JL (I l:Addr) (xs:List AV) (P:Sto→Heap→List Value→Nat→Prop) (ys:List AV) (S:Sto) (h:Heap):Prop
 | mk (o:Obj) (i:Nat) (vs:List Value) (n:Nat) (h1:h.get? I=some o) (h2:o.cls=.type "list_iterator") (h3:o.data=.fields #[.ref l,.int (i:Nat) 0]) (h4:P S h vs n) (h5:Reps S vs xs) (h6:xs.drop i=ys)
theorem letgo_list {P:Program} {w:World} {A:Around} {E:Value→Shared→Prop} {I l:Addr} {i:Nat} {target:Expr} {v:Value} {Q:Unit→Shared→Prop} (hit:s.heap.IsListIter I l i) (h:Q () s):wpAny (model P w) A (letOwnedTupleGo target (.ref I) v) Q E s:=by
 obtain ⟨o,ho,hc,hd⟩:=hit
 unfold letOwnedTupleGo
 split
 ·split
  ·rename_i r a e1
   cases e1
   refine wpAny_bind (wpAny_load ho ?_)
   rw [hc,hd]
   exact wpAny_ite (by
    rw [show (["enumerate", "zip", "dict_itemiterator", "dict_reverseitemiterator", "odict_iterator", "itertools.zip_longest", "itertools.pairwise"].contains "list_iterator")=false from by decide,Bool.false_and,if_neg (by decide)]
    exact wpAny_pure h)
  ·exact wpAny_pure h
 ·split
  ·rename_i r a e1
   cases e1
   refine wpAny_bind (wpAny_load ho ?_)
   rw [hc,hd]
   exact wpAny_ite (by
    rw [show (["enumerate", "zip", "dict_itemiterator", "dict_reverseitemiterator", "odict_iterator", "itertools.zip_longest", "itertools.pairwise"].contains "list_iterator")=false from by decide,Bool.false_and,if_neg (by decide)]
    exact wpAny_pure h)
  ·exact wpAny_pure h
 ·exact wpAny_pure h
theorem itr_list {target:Expr} {I l:Addr} {xs:List AV} {fp:List Addr} {P:Sto→Heap→List Value→Nat→Prop} {E:Sto→Heap→Prop} (hne:I≠l) (hfp:∀ a,a∈fp→a=I∨a=l) (hI:I∈fp)
  (hdom:∀ S h vs n,P S h vs n→∀ a∈fp,a≠I→∃ o,h.get? a=some o)
  (hk:∀ S S' h h' vs n,P S h vs n→S.Le S'→(∀ a∈fp,a≠I→∀ o,h.get? a=some o→h'.get? a=some o)→P S' h' vs n)
  (hP:∀ B S X s vs n,St c B S X s→P S s.heap vs n→s.heap.get? l=some (seqObj "list" vs.toArray n))
  (hE:∀ S h vs n,P S h vs n→Reps S vs xs→E S h):Itr c target (.ref I) fp (JL I l xs P) E where
 dom:=by
  rintro ys S h ⟨o,i,vs,n,h1,h2,h3,h4,h5,h6⟩ a ha
  by_cases q:a=I
  ·subst q;exact ⟨o,h1⟩
  ·exact hdom _ _ _ _ h4 a ha q
 keep:=by
  rintro ys S S' h h' ⟨o,i,vs,n,h1,h2,h3,h4,h5,h6⟩ le k
  exact ⟨o,i,vs,n,k I hI _ h1,h2,h3,hk _ _ _ _ _ _ h4 le (fun a ha _ o e=>k a ha o e),h5.mono le,h6⟩
 done:=by
  rintro ys S h ⟨o,i,vs,n,h1,h2,h3,h4,h5,h6⟩
  exact hE _ _ _ _ h4 h5
 self:=by
  rintro B S X s ys R F st ⟨o,i,vs,n,h1,h2,h3,h4,h5,h6⟩ h
  exact wpAny_pyIter_listiter ⟨o,h1,h2,h3⟩ h
 next:=by
  rintro B S X s x ys ok st hb ⟨o,i,vs,n,h1,h2,h3,h4,h5,h6⟩
  have hl:=hP _ _ _ _ _ _ st h4
  obtain ⟨v,hv,rv,hd⟩:=h5.drop h6
  refine wpAny_pyNext_list_item ⟨o,h1,h2,h3⟩ (l:=l) (items:=vs.toArray) ⟨_,hl,rfl,n,rfl⟩ (x:=v) (by simpa using hv) fun h' hit hs=>?_
  refine ⟨v,rfl,letgo_list (s:={s with heap:=h'}) hit ?_⟩
  obtain ⟨o',e1,e2,e3⟩:=hit
  exact ⟨S,.rfl,rv,st.same hs (hb I hI),hb,o',i+1,vs,n,e1,e2,e3,hk _ _ _ _ _ _ h4 .rfl (fun a ha q o e=>(hs.2 a q).trans e),h5,hd⟩
 stop:=by
  rintro B S X s ok st hb ⟨o,i,vs,n,h1,h2,h3,h4,h5,h6⟩
  have hl:=hP _ _ _ _ _ _ st h4
  refine wpAny_pyNext_list_end ok.G.hd ⟨o,h1,h2,h3⟩ (l:=l) (items:=vs.toArray) ⟨_,hl,rfl,n,rfl⟩ (by simpa using drop_nil h5 h6) fun h' hx=>?_
  exact ⟨rfl,st.extBut hx (hb I hI),hE _ _ _ _ (hk _ _ _ _ _ _ h4 .rfl fun a ha q o e=>hx a o q e) h5⟩
theorem I_lst {target:Expr} {xs:List AV} {Q:List AV→(AX→AX)→AX→Prop} (h:Q xs id X):WI c target (.lst xs) Q X:=by
 intro B S s v ok r st
 obtain ⟨l,vs,n,rfl,h1,h2⟩:=r.lst_inv
 have hl:=st.sto _ _ h1
 have b:=st.bare (get?_lt_none (Nat.le_refl s.heap.objs.size))
 have hne:s.heap.objs.size≠l:=fun q=>by rw [←q] at hl;rw [get?_lt_none (Nat.le_refl _)] at hl;cases hl
 refine wpAny_pyIter_list (items:=vs.toArray) ⟨_,hl,rfl,n,rfl⟩ ⟨S,X,[s.heap.objs.size],JL s.heap.objs.size l xs (fun S h vs n=>S l (seqObj "list" vs.toArray n)),fun _ _=>True,xs,id,.rfl,
  st.grow (Keeps.push _ _) rfl rfl rfl,fun _ _ _=>itr_list hne (fun a ha=>.inl (List.mem_singleton.mp ha)) (.head _) (fun _ _ _ _ _ a ha q=>absurd (List.mem_singleton.mp ha) q) (fun _ _ _ _ _ _ e le _=>le _ _ e) (fun _ _ _ _ _ _ st e=>st.sto _ _ e) (fun _ _ _ _ _ _=>trivial),
  fun a ha=>by rw [List.mem_singleton.mp ha];exact b,⟨_,0,vs,n,Heap.get?_push_size _ rfl,rfl,rfl,h1,h2,rfl⟩,fun _ _ _ _ _ st _ _=>st,h⟩
inductive SDel (a:Addr) (mo:MO):List (Addr×MO)→List (Addr×MO)→Prop
 | head {r}:SDel a mo ((a,mo)::r) r
 | tail {p r r'}:SDel a mo r r'→SDel a mo (p::r) (p::r')
theorem SDel.mem {a:Addr} {mo:MO} {l l':List (Addr×MO)} (h:SDel a mo l l'):(a,mo)∈l:=by
 induction h with
 | head=>exact .head _
 | tail _ ih=>exact .tail _ ih
theorem SDel.sub {a:Addr} {mo:MO} {l l':List (Addr×MO)} (h:SDel a mo l l'):l'.Sublist l:=by
 induction h with
 | head=>exact List.sublist_cons_self _ _
 | tail _ ih=>exact ih.cons_cons _
theorem SDel.apart {a:Addr} {mo:MO} {l l':List (Addr×MO)} (h:SDel a mo l l') (nd:(AX.adr l).Nodup):∀ b∈mo.addrs a,b∉AX.adr l':=by
 induction h with
 | head =>
  intro b hb q
  rw [AX.adr_cons] at nd
  exact (List.nodup_append.mp nd).2.2 b hb b q rfl
 | tail hd ih =>
  rename_i p r r'
  intro b hb q
  rw [AX.adr_cons] at nd q
  have z:=List.nodup_append.mp nd
  rcases List.mem_append.mp q with q | q
  ·exact z.2.2 b q b (AX.mem_adr hd.mem hb) rfl
  ·exact ih z.2.1 b hb q
theorem St.bareM (st:St c B S X s) {a:Addr} {mo:MO} {σ':List (Addr×MO)} (h:SDel a mo X.σ σ'):∀ b∈mo.addrs a,Bare c B S ⟨σ',X.m⟩ b:=fun b hb=>by
 have hin:=AX.mem_adr h.mem hb
 have sp:=st.sep b (.inr hin)
 exact ⟨sp.1,sp.2.1,sp.2.2,fun q=>st.dis b q hin,h.apart st.nd b hb,fun q=>let ⟨o,e⟩:=st.pin b q;sp.2.1 o e⟩
theorem I_mlst {target:Expr} {xs:List AV} {l:Addr} {σ':List (Addr×MO)} {Q:List AV→(AX→AX)→AX→Prop} (hd:SDel l (.lst xs) X.σ σ') (h:Q xs (fun Y=>⟨(l,.lst xs)::Y.σ,Y.m⟩) ⟨σ',X.m⟩):WI c target (.raw (.ref l)) Q X:=by
 intro B S s v ok r st
 rw [r.raw_inv]
 obtain ⟨vs,n,hl,h2⟩:=st.get hd.mem
 have hbl:=st.bareM hd l (.head _)
 have st':St c B S ⟨σ',X.m⟩ s:=st.weak (X':=⟨σ',X.m⟩) hd.sub fun _ _ e=>e
 have b:=st'.bare (get?_lt_none (Nat.le_refl s.heap.objs.size))
 have hne:s.heap.objs.size≠l:=fun q=>by rw [←q] at hl;rw [get?_lt_none (Nat.le_refl _)] at hl;cases hl
 refine wpAny_pyIter_list (items:=vs.toArray) ⟨_,hl,rfl,n,rfl⟩ ⟨S,⟨σ',X.m⟩,[s.heap.objs.size,l],JL s.heap.objs.size l xs (fun S h vs n=>h.get? l=some (seqObj "list" vs.toArray n)),fun S h=>∃ vs n,h.get? l=some (seqObj "list" vs.toArray n)∧Reps S vs xs,xs,_,.rfl,
  st'.grow (Keeps.push _ _) rfl rfl rfl,fun _ _ _=>itr_list hne (fun a ha=>by simpa using ha) (.head _) (fun _ _ _ _ e a ha q=>?_) (fun _ _ _ _ _ _ e le k=>k l (.tail _ (.head _)) (Ne.symm hne) _ e) (fun _ _ _ _ _ _ st e=>e) (fun _ _ _ _ e r=>⟨_,_,e,r⟩),
  fun a ha=>?_,⟨_,0,vs,n,Heap.get?_push_size _ rfl,rfl,rfl,Heap.get?_push_of_some _ hl,h2,rfl⟩,fun c' B S Y s st hb ⟨vs,n,e,r⟩=>?_,h⟩
 ·have:a=l:=by simpa [q] using ha
  subst this;exact ⟨_,e⟩
 ·simp only [List.mem_cons,List.not_mem_nil,or_false] at ha
  rcases ha with rfl | rfl
  ·exact b
  ·exact hbl
 ·exact st.addM (mo:=.lst xs) ⟨vs,n,e,r⟩ (by simp [MO.addrs]) fun x hx=>by rw [List.mem_singleton.mp hx];exact hb l (.tail _ (.head _))
theorem forLoop_ {P:Program} {w:World} {A:Around} {s:Shared} {R:Result→Shared→Prop} {target it body orelse env} (I:Nat→Shared→Prop)
  (turn:∀ n s,I n s→wpAny (model P w) A (pyNext it) (fun r s₁=>match r with
   | none=>wpAny (model P w) A (execs orelse env) (fun f s₃=>R (.ok f) s₃) (fun _ _=>False) s₁
   | some v=>wpAny (model P w) A (letOwnedTupleGo target it v) (fun _ s₁=>wpAny (model P w) A (assign target env v) (fun _ s₂=>wpAny (model P w) A (execs body env) (fun f s₃=>match f with
     | .next | .cont=>∃ m,m<n∧I m s₃
     | .brk=>R (.ok .next) s₃
     | .ret v=>R (.ok (.ret v)) s₃) (fun _ _=>False) s₂) (fun _ _=>False) s₁) (fun _ _=>False) s₁) (fun _ _=>False) s)
  (n:Nat) (h:I n s):codeAny (model P w) A (.forLoop target it body orelse env) R s:=by
 refine codeAny_loop' rfl I (fun n s hI=>?_) n h
 show wpAny _ _ ((forTurn target it body orelse env).onRaise (fun x=>do noteFrame x env;theTreesLotGoes x)) _ _ s
 refine wpAny_noted ?_
 simp only [forTurn]
 refine wpAny_bind (wpAny_standAt (wpAny_bind (wpAny_onRaise (wpAny_mono (turn n s hI) (fun r s₁ h₁=>?_) fun _ _ h'=>h'.elim))))
 cases r with
 | none=>exact wpAny_pure (.inr ⟨rfl,codeAny_block (wpAny_mono h₁ (fun _ _ z=>z) fun _ _ z=>z.elim)⟩)
 | some v =>
  refine wpAny_bind (wpAny_mono h₁ (fun _ s₂ h₂=>wpAny_bind (wpAny_mono h₂ (fun _ s₃ h₃=>wpAny_bind (wpAny_mono h₃ (fun f s₃ h₃=>?_) fun _ _ h'=>h'.elim)) fun _ _ h'=>h'.elim)) fun _ _ h'=>h'.elim)
  cases f with
  | next=>exact wpAny_pure (.inl ⟨rfl,h₃⟩)
  | cont=>exact wpAny_pure (.inl ⟨rfl,h₃⟩)
  | brk=>exact wpAny_pure h₃
  | ret v=>exact wpAny_pure h₃
end
theorem objList {h:Heap}:∀ {fp:List Addr},(∀ a∈fp,∃ o,h.get? a=some o)→∃ l:List (Addr×Obj),l.map (·.1)=fp∧∀ p∈l,h.get? p.1=some p.2
 | [],_=>⟨[],rfl,fun _ h=>nomatch h⟩
 | a::r,hobj=>by
  obtain ⟨l,e1,e2⟩:=objList fun b hb=>hobj b (.tail _ hb)
  obtain ⟨o,ho⟩:=hobj a (.head _)
  exact ⟨(a,o)::l,by simp [e1],fun p hp=>by
   rcases List.mem_cons.mp hp with rfl | hp
   ·exact ho
   ·exact e2 p hp⟩
section
variable {c:Cx} {X:AX} {Q:AF→AX→Prop}
def Turn (c:Cx) (bk:AX→AX) (I:AX→Prop) (Q:AF→AX→Prop):AF→AX→Prop
 | .next,Y=>∃ Z,Conv c Y Z∧I Z
 | .cont,Y=>∃ Z,Conv c Y Z∧I Z
 | .brk,Y=>Q .next (bk Y)
 | .ret V,Y=>Q (.ret V) (bk Y)
theorem run_exec {B:Bg} {S:Sto} {s:Shared} {t:Sem Flow} {Q:AF→AX→Prop} (ok:c.Ok) (h:WT c RepF t Q X) (st:St c B S X s):wpAny (model c.P c.w) c.A t (Post c B S RepF Q) (fun _ _=>False) s :=
 wpAny_mono (h B S s ok st) (fun _ _ p=>p) fun e s' z=>ok.noE e s' z
theorem S_for {target iter body pos} (h:WE c iter (fun V X₁=>WI c target V (fun xs bk X₂=>∃ I:Nat→AX→Prop,(∃ Z,Conv c X₂ Z∧I 0 Z) ∧
   (∀ i x Y,xs[i]?=some x→I i Y→WA c target x (fun Y'=>WSs c body (Turn c bk (I (i+1)) Q) Y') Y)∧(∀ Y,I xs.length Y→Q .next (bk Y))) X₁) X)
  (hs:∀ x,foldedSetIterable iter c.env x=pure x:=by intro _;rfl):WS c (.For target iter body [] pos) Q X:=by
 intro B S s ok st
 refine wpAny_For (wpAny_mono (h B S s ok st) (fun v s₁ ⟨S₁,V,X₁,u₁,r,st₁,h₁⟩=>wpAny_mono (h₁ B S₁ s₁ v ok r st₁) (fun it s₂ hi=>?_) fun _ _ z=>z.elim) fun _ _ e=>e) hs
 obtain ⟨S₂,X₂,fp,J,E,xs,bk,u₂,st₂,itr',hb,hJ,hbk',I,⟨Z,hZ,hI0⟩,turn,fin⟩:=hi
 have itr:=itr' c rfl rfl
 have hbk:=hbk' c
 -- the loop's state
 let K:Nat→Shared→Prop:=fun k s=>∃ i S' Y,k=xs.length-i∧i≤xs.length∧S.Le S'∧St c B S' Y s∧(∀ a∈fp,Bare c B S' Y a)∧J (xs.drop i) S' s.heap∧I i Y
 -- the start
 have start:K xs.length s₂:=by
  -- pin,turn the view,unpin
  have hobj:∀ a∈fp,∃ o,s₂.heap.get? a=some o:=fun a ha=>itr.dom _ _ _ hJ a ha
  obtain ⟨l,hl1,hl2⟩:=objList hobj
  have hbl:∀ p∈l,Bare c B S₂ X₂ p.1:=fun p hp=>hb _ (by rw [←hl1];exact List.mem_map_of_mem hp)
  obtain ⟨S',le,new,st'⟩:=hZ _ _ _ (st₂.pins fun p hp=>⟨hl2 p hp,hbl p hp⟩)
  obtain ⟨st'',hp⟩:=st₂.unpins hbl st'
  refine ⟨0,S',Z,by simp,Nat.zero_le _,u₁.trans (u₂.trans le),st'',fun a ha=>?_,itr.keep _ _ _ _ _ hJ le fun a ha o e=>e,hI0⟩
  rw [←hl1] at ha
  obtain ⟨p,hp',rfl⟩:=List.mem_map.mp ha
  exact (hp p hp').2
 refine codeAny_mono (forLoop_ (R:=fun r s'=>match r with | .ok f=>Post c B S RepF Q f s' | .error e=>False) K (fun k s hK=>?_) xs.length start) fun r s' z=>by
  cases r with
  | ok f=>exact z
  | error e=>exact z.elim
 obtain ⟨i,S',Y,rfl,hi,le,st',hb',hJ',hI⟩:=hK
 rcases Nat.lt_or_ge i xs.length with hlt | hge
 ·have hx:xs[i]?=some xs[i]:=List.getElem?_eq_getElem hlt
  rw [List.drop_eq_getElem_cons hlt] at hJ'
  refine wpAny_mono (itr.next B S' Y s xs[i] _ ok st' hb' hJ') (fun r s₁ hz₉=>?_) fun _ _ z=>z
  obtain ⟨v,er,hlg⟩:=hz₉
  subst er
  refine wpAny_mono hlg (fun _ s₂ hz₉=>?_) fun _ _ z=>z
  obtain ⟨S₁,le₁,rv,st₂,hb₁,hJ₂⟩:=hz₉
  -- pin the iterator's own
  have hobj:∀ a∈fp,∃ o,s₂.heap.get? a=some o:=fun a ha=>itr.dom _ _ _ hJ₂ a ha
  obtain ⟨l,hl1,hl2⟩:=objList hobj
  have hbl:∀ p∈l,Bare c B S₁ Y p.1:=fun p hp=>hb₁ _ (by rw [←hl1];exact List.mem_map_of_mem hp)
  have stp:=st₂.pins (l:=l) fun p hp=>⟨hl2 p hp,hbl p hp⟩
  refine wpAny_mono (turn i xs[i] Y hx hI _ S₁ s₂ v ok rv stp) (fun _ s₃ hz₉=>?_) fun e s' z=>ok.noE e s' z
  obtain ⟨S₃,_,Y₃,le₃,_,st₃,h₃⟩:=hz₉
  refine wpAny_mono (run_exec ok h₃ st₃) (fun f s₄ hz₉=>?_) fun _ _ z=>z
  obtain ⟨S₄,F,Y₄,le₄,rf,st₄,h₄⟩:=hz₉
  have jkeep:∀ {S₅:Sto},S₁.Le S₅→J (List.drop (i+1) xs) S₅ s₄.heap:=fun le=>itr.keep _ _ _ _ _ hJ₂ le fun a ha o e=>by
   have ha':=ha
   rw [←hl1] at ha'
   obtain ⟨p,hp,rfl⟩:=List.mem_map.mp ha'
   have:=hl2 p hp
   rw [e] at this;cases this
   exact st₄.base _ _ (.inr hp)
  have again:(∃ Z,Conv c Y₄ Z∧I (i+1) Z)→∃ m,m<xs.length-i∧K m s₄:=by
   rintro ⟨Z,hZ,hIZ⟩
   obtain ⟨S₅,le₅,new₅,st₅⟩:=hZ _ _ _ st₄
   obtain ⟨st₆,hp⟩:=st₂.unpins hbl st₅
   refine ⟨xs.length-(i+1),Nat.sub_succ_lt_self _ _ hlt,i+1,S₅,Z,rfl,hlt,le.trans (le₁.trans (le₃.trans (le₄.trans le₅))),st₆,fun a ha=>?_,jkeep (le₃.trans (le₄.trans le₅)),hIZ⟩
   rw [←hl1] at ha
   obtain ⟨p,hp',rfl⟩:=List.mem_map.mp ha
   exact (hp p hp').2
  have out:St c B S₄ (bk Y₄) s₄:=by
   obtain ⟨st₆,hp⟩:=st₂.unpins hbl st₄
   refine hbk _ _ _ _ st₆ (fun a ha=>?_) (itr.done _ _ _ (jkeep (le₃.trans le₄)))
   rw [←hl1] at ha
   obtain ⟨p,hp',rfl⟩:=List.mem_map.mp ha
   exact (hp p hp').2
  cases rf with
  | next=>exact again h₄
  | cont=>exact again h₄
  | brk=>exact ⟨S₄,.next,bk Y₄,le.trans (le₁.trans (le₃.trans le₄)),.next,out,h₄⟩
  | ret r=>exact ⟨S₄,_,bk Y₄,le.trans (le₁.trans (le₃.trans le₄)),.ret r,out,h₄⟩
 ·have:i=xs.length:=Nat.le_antisymm hi hge
  subst this
  rw [List.drop_length] at hJ'
  refine wpAny_mono (itr.stop B S' Y s ok st' hb' hJ') (fun r s₁ hz₉=>?_) fun _ _ z=>z
  obtain ⟨er,st₁,hE⟩:=hz₉
  subst er
  exact wpAny_execs_nil ⟨S',.next,bk Y,le,.next,hbk _ _ _ _ st₁ hb' hE,fin Y hI⟩
theorem S_while {test body pos} (I:Nat→AX→Prop) (n₀:Nat) (h0:∃ Z,Conv c X Z∧I n₀ Z)
  (turn:∀ n Y,I n Y→WB c test (fun b Y'=>if b=true then WSs c body (Turn c id (fun Z=>∃ m,m<n∧I m Z) Q) Y' else Q .next Y') Y):WS c (.While test body [] pos) Q X:=by
 intro B S s ok st
 obtain ⟨Z,hZ,hI0⟩:=h0
 obtain ⟨S₀,le₀,_,st₀⟩:=hZ _ _ _ st
 let K:Nat→Shared→Prop:=fun k s=>∃ S' Y,S.Le S'∧St c B S' Y s∧I k Y
 refine wpAny_While (codeAny_whileLoop K (fun k s hK=>?_) n₀ ⟨S₀,Z,le₀,st₀,hI0⟩)
 obtain ⟨S',Y,le,st',hI⟩:=hK
 refine wpAny_mono (turn k Y hI B S' s ok st') (fun b s₂ hz₉=>?_) fun e s' z=>(ok.noE e s' z).elim
 obtain ⟨S₂,b',Y₂,le₂,e,st₂,h₂⟩:=hz₉
 cases e
 cases b with
 | true =>
  rw [if_pos rfl] at h₂ ⊢
  refine wpAny_mono (run_exec ok h₂ st₂) (fun f s₃ hz₉=>?_) fun _ _ z=>z.elim
  obtain ⟨S₃,F,Y₃,le₃,rf,st₃,h₃⟩:=hz₉
  have again:(∃ Z,Conv c Y₃ Z∧∃ m,m<k∧I m Z)→∃ m,m<k∧K m s₃:=by
   rintro ⟨Z,hZ,m,hm,hIZ⟩
   obtain ⟨S₅,le₅,_,st₅⟩:=hZ _ _ _ st₃
   exact ⟨m,hm,S₅,Z,le.trans (le₂.trans (le₃.trans le₅)),st₅,hIZ⟩
  cases rf with
  | next=>exact again h₃
  | cont=>exact again h₃
  | brk=>exact ⟨S₃,.next,Y₃,le.trans (le₂.trans le₃),.next,st₃,h₃⟩
  | ret r=>exact ⟨S₃,_,Y₃,le.trans (le₂.trans le₃),.ret r,st₃,h₃⟩
 | false =>
  rw [if_neg (by decide)] at h₂ ⊢
  exact wpAny_execs_nil ⟨S₂,.next,Y₂,le.trans le₂,.next,st₂,h₂⟩
end
def ifsRun (ifs:List Expr) (env:Env):Sem Bool:=forIn ifs true fun c r=>if r=true then do let ok ←isTrue c env (eval c env);pure (ForInStep.yield ok) else pure (ForInStep.yield r)
theorem compTurn_last (elt:Expr) (gens:List Comprehension) (scope:Scope) (pos:Pos) (depth:Nat) (it acc:Value) (env:Env) (g:Comprehension) (hg:gens[depth]?=some g) (ha:g.is_async=0) (hn:gens[depth+1]?=none) :
   compTurn (.ListComp elt gens scope pos) depth it acc env=(standAt g.iter.pos >>= fun _=>pyNext it >>= fun r=>match r with
     | none=>pure (.done .next)
     | some v=>letOwnedTupleGo g.target it v >>= fun _=>assign g.target env v >>= fun _=>ifsRun g.ifs env >>= fun ok =>
       (if ok=true then (eval elt env >>= fun x=>call (.builtin "list.append") [acc,x] >>= fun _=>pure ()) >>= fun _=>again (.compLoop (.ListComp elt gens scope pos) depth it acc env)
        else again (.compLoop (.ListComp elt gens scope pos) depth it acc env))):=by
  unfold compTurn
  simp only [hg,ha,hn]
  rfl
theorem compTurn_more (elt:Expr) (gens:List Comprehension) (scope:Scope) (pos:Pos) (depth:Nat) (it acc:Value) (env:Env) (g g':Comprehension) (hg:gens[depth]?=some g) (ha:g.is_async=0) (hn:gens[depth+1]?=some g') (ha':g'.is_async=0) :
   compTurn (.ListComp elt gens scope pos) depth it acc env=(standAt g.iter.pos >>= fun _=>pyNext it >>= fun r=>match r with
     | none=>pure (.done .next)
     | some v=>letOwnedTupleGo g.target it v >>= fun _=>assign g.target env v >>= fun _=>ifsRun g.ifs env >>= fun ok =>
       (if ok=true then (eval g'.iter env >>= fun x=>standAt g'.iter.pos >>= fun _=>foldedSetIterable g'.iter env x >>= fun x=>holding [x] (pyIter x) >>= fun it'=>runOwn (.compStart (.ListComp elt gens scope pos) (depth+1) it' acc env) env >>= fun _=>again (.compLoop (.ListComp elt gens scope pos) depth it acc env))
        else again (.compLoop (.ListComp elt gens scope pos) depth it acc env))):=by
  unfold compTurn
  simp only [hg,ha,hn,ha']
  rfl
theorem compStart_ {P:Program} {w:World} {A:Around} {s:Shared} {R:Result→Shared→Prop} {elt:Expr} {gens:List Comprehension} {scope:Scope} {pos:Pos} {depth:Nat} {it acc:Value} {env:Env} {g:Comprehension} (hg:gens[depth]?=some g) (ha:g.is_async=0)
  (h0:codeAny (model P w) A (.compLoop (.ListComp elt gens scope pos) depth it acc env) R s)
  (h:∀ (Q:Value→Shared→Prop) (F:Value→Shared→Prop),Q it s→wpAny (model P w) A (pyIter it) Q F s):codeAny (model P w) A (.compStart (.ListComp elt gens scope pos) depth it acc env) R s:=by
 refine codeAny_of_tree ?_
 show wpAny _ _ ((compStart (.ListComp elt gens scope pos) depth it acc env).onRaise (fun x=>do noteFrame x env;standAt theWindowsPlace)) _ _ s
 refine wpAny_notedAt ?_
 unfold compStart
 have hc:(clausesOf (.ListComp elt gens scope pos))[depth]?=some g:=hg
 simp only [hc,Option.elim,ha,bne_self_eq_false,Bool.false_eq_true,if_false]
 refine wpAny_bind (wpAny_askSetting (wpAny_ite ?_))
 split
 ·exact wpAny_bind (wpAny_pure (wpAny_pure (And.intro rfl h0)))
 ·exact wpAny_bind (wpAny_rule (wpAny_bind (wpAny_standAt (wpAny_bind (h _ _ (wpAny_pure (And.intro rfl h0)))))))
section
variable {c:Cx} {X:AX}
abbrev WIfs (c:Cx) (ifs:List Expr) (Q:Bool→AX→Prop) (X:AX):Prop:=WT c (Same (α:=Bool)) (ifsRun ifs c.env) Q X
theorem If_nil {Q:Bool→AX→Prop} (h:Q true X):WIfs c [] Q X:=fun B S s ok st=>wpAny_pure ⟨S,true,X,.rfl,rfl,st,h⟩
theorem ifs_false {env:Env} (ifs:List Expr):(forIn ifs false fun c r=>if r=true then do let ok ←isTrue c env (eval c env);pure (ForInStep.yield ok) else pure (ForInStep.yield r):Sem Bool)=pure false:=by
 induction ifs with
 | nil=>rfl
 | cons e r ih=>rw [List.forIn_cons,if_neg (by decide),pure_bind];exact ih
theorem If_cons {e rest} {Q:Bool→AX→Prop} (h:WB c e (fun b X₁=>if b=true then WIfs c rest Q X₁ else Q false X₁) X):WIfs c (e::rest) Q X:=by
 intro B S s ok st
 unfold ifsRun
 rw [List.forIn_cons,if_pos rfl]
 refine wpAny_bind (wpAny_bind (wpAny_mono (h B S s ok st) (fun a s₁ ⟨S₁,b,X₁,u₁,e,st₁,h₁⟩=>wpAny_pure ?_) fun _ _ e=>e))
 cases e
 cases a with
 | true=>rw [if_pos rfl] at h₁;exact wpAny_mono (h₁ B S₁ s₁ ok st₁) (fun _ _ p=>p.up u₁) fun _ _ e=>e
 | false =>
  rw [if_neg (by decide)] at h₁
  show wpAny _ _ (forIn rest false _) _ _ _
  rw [ifs_false]
  exact wpAny_pure ⟨S₁,false,X₁,u₁,rfl,st₁,h₁⟩
def WGen (c:Cx) (g:Comprehension) (inner:(AX→Prop)→AX→Prop) (xs:List AV) (bk:AX→AX) (Q:AX→Prop) (Y₂:AX):Prop :=
 ∃ I:Nat→AX→Prop,(∃ Z,Conv c Y₂ Z∧I 0 Z)∧(∀ i x Y,xs[i]?=some x→I i Y→WA c g.target x (fun Y'=>WIfs c g.ifs (fun b Y''=>if b=true then inner (fun Z=>∃ Z',Conv c Z Z'∧I (i+1) Z') Y'' else ∃ Z',Conv c Y'' Z'∧I (i+1) Z') Y') Y)∧(∀ Y,I xs.length Y→Q (bk Y))
def WTurn (c:Cx) (D:Addr) (elt:Expr):List Comprehension→(AX→Prop)→AX→Prop
 | [],Q,X=>WE c elt (fun V Y=>∃ ys σ',SUpd D (.lst ys) (.lst (ys++[V])) Y.σ σ'∧ys.length≤1000000∧Q ⟨σ',Y.m⟩) X
 | g::gs,Q,X=>WE c g.iter (fun V Y=>WI c g.target V (fun xs bk Y₂=>WGen c g (WTurn c D elt gs) xs bk Q Y₂) Y) X
theorem append_M {xs:List AV} {V:AV} {D:Addr} {σ':List (Addr×MO)} {B:Bg} {S:Sto} {s:Shared} {v:Value} {R F:Value→Shared→Prop} (st:St c B S X s) (r:Rep S v V) (U:SUpd D (.lst xs) (.lst (xs++[V])) X.σ σ') (hz:xs.length≤1000000) (h:∀ s',St c B S ⟨σ',X.m⟩ s'→R .none s'):wpAny (model c.P c.w) c.A (call (.builtin "list.append") [.ref D,v]) R F s:=by
 obtain ⟨vs,n,h1,h2⟩:=st.get U.mem
 refine append_at h1 (fun h' hs ho=>h _ (st.upd U rfl (KeepsBut.of_same hs) ⟨vs++[v],n+1,?_,h2.append (.cons r .nil)⟩ rfl rfl rfl)) (by rw [sizeLine_eq,List.size_toArray,h2.1];exact (lin1 (.le .v0 (.n (2^24))) [.le .v0 (.n 1000000)]) hz)
 rw [ho];simp
theorem comp_core {B:Bg} {S:Sto} {s:Shared} {it acc:Value} {e:Expr} {depth:Nat} {p₀:Pos} {g:Comprehension} {treeK:Sem Fin} {inner:(AX→Prop)→AX→Prop} {fp:List Addr} {J:List AV→Sto→Heap→Prop} {E:Sto→Heap→Prop} {xs:List AV} {bk:AX→AX} {Q:AX→Prop}
    (hturn:compTurn e depth it acc c.env=(standAt p₀ >>= fun _=>pyNext it >>= fun r=>match r with
     | none=>pure (.done .next)
     | some v=>letOwnedTupleGo g.target it v >>= fun _=>assign g.target c.env v >>= fun _=>ifsRun g.ifs c.env >>= fun ok=>(if ok=true then treeK else again (.compLoop e depth it acc c.env))))
    (hframe:(Code.compLoop e depth it acc c.env).isFrame=false) (hw:(Code.compLoop e depth it acc c.env).weight=0) (hu:(Code.compLoop e depth it acc c.env).cUnits=0) (hq:(Code.compLoop e depth it acc c.env).quiet=true)
    (hinner:∀ (B:Bg) (S:Sto) (X:AX) (s:Shared) (Q:AX→Prop),St c B S X s→inner Q X→∀ (R:Fin→Shared→Prop),(∀ S' Y s',S.Le S'→St c B S' Y s'→Q Y→R (.again (.compLoop e depth it acc c.env)) s')→wpAny (model c.P c.w) c.A treeK R (fun _ _=>False) s)
    (ok:c.Ok) (st₂:St c B S X s) (itr:Itr c g.target it fp J E) (hb:∀ a∈fp,Bare c B S X a) (hJ:J xs S s.heap)
    (hbk:∀ B S X s,St c B S X s→(∀ a∈fp,Bare c B S X a)→E S s.heap→St c B S (bk X) s) (hG:WGen c g inner xs bk Q X) :
    codeAny (model c.P c.w) c.A (.compLoop e depth it acc c.env) (fun r s'=>match r with | .ok _=>∃ S' Y,S.Le S'∧St c B S' Y s'∧Q Y | .error _=>False) s:=by
  obtain ⟨I,⟨Z,hZ,hI0⟩,turn,fin⟩:=hG
  let K:Nat→Shared→Prop:=fun k s=>∃ i S' Y,k=xs.length-i∧i≤xs.length∧S.Le S'∧St c B S' Y s∧(∀ a∈fp,Bare c B S' Y a)∧J (xs.drop i) S' s.heap∧I i Y
  have start:K xs.length s:=by
    obtain ⟨l,hl1,hl2⟩:=objList fun a ha=>itr.dom _ _ _ hJ a ha
    have hbl:∀ p∈l,Bare c B S X p.1:=fun p hp=>hb _ (by rw [←hl1];exact List.mem_map_of_mem hp)
    obtain ⟨S',le,new,st'⟩:=hZ _ _ _ (st₂.pins fun p hp=>⟨hl2 p hp,hbl p hp⟩)
    obtain ⟨st'',hp⟩:=st₂.unpins hbl st'
    refine ⟨0,S',Z,by simp,Nat.zero_le _,le,st'',fun a ha=>?_,itr.keep _ _ _ _ _ hJ le fun a ha o e=>e,hI0⟩
    rw [←hl1] at ha
    obtain ⟨p,hp',rfl⟩:=List.mem_map.mp ha
    exact (hp p hp').2
  refine codeAny_loop hq K (fun k s₀ hK=>?_) xs.length start
  rw [Around.under_of_weight hw hu]
  show wpAny _ _ (denote table (.compLoop e depth it acc c.env)) _ _ s₀
  have hden:denote table (.compLoop e depth it acc c.env)=(compTurn e depth it acc c.env).onRaise (fun x=>do noteFrame x c.env;theTreesLotGoes x):=by
    unfold denote
    simp only [hframe,Bool.false_eq_true,if_false]
  rw [hden]
  refine wpAny_noted ?_
  rw [hturn]
  obtain ⟨i,S',Y,rfl,hi,le,st',hb',hJ',hI⟩:=hK
  refine wpAny_bind (wpAny_standAt (wpAny_bind ?_))
  rcases Nat.lt_or_ge i xs.length with hlt | hge
  · have hx:xs[i]?=some xs[i]:=List.getElem?_eq_getElem hlt
    rw [List.drop_eq_getElem_cons hlt] at hJ'
    refine wpAny_mono (itr.next B S' Y s₀ xs[i] _ ok st' hb' hJ') (fun r s₁ hz₉=>?_) fun _ _ z=>z.elim
    obtain ⟨v,er,hlg⟩:=hz₉
    subst er
    refine wpAny_bind (wpAny_mono hlg (fun _ s₂ hz₉=>?_) fun _ _ z=>z.elim)
    obtain ⟨S₁,le₁,rv,st₂,hb₁,hJ₂⟩:=hz₉
    obtain ⟨l,hl1,hl2⟩:=objList fun a ha=>itr.dom _ _ _ hJ₂ a ha
    have hbl:∀ p∈l,Bare c B S₁ Y p.1:=fun p hp=>hb₁ _ (by rw [←hl1];exact List.mem_map_of_mem hp)
    have stp:=st₂.pins (l:=l) fun p hp=>⟨hl2 p hp,hbl p hp⟩
    refine wpAny_bind (wpAny_mono (turn i xs[i] Y hx hI _ S₁ s₂ v ok rv stp) (fun _ s₃ hz₉=>?_) fun e s' z=>(ok.noE e s' z).elim)
    obtain ⟨S₃,_,Y₃,le₃,_,st₃,h₃⟩:=hz₉
    have finish:∀ S₄ Y₄ s₄,S₁.Le S₄→St c (B.pins l) S₄ Y₄ s₄→(∃ Z',Conv c Y₄ Z'∧I (i+1) Z')→∃ m,m<xs.length-i∧K m s₄:=by
      rintro S₄ Y₄ s₄ le₄ st₄ ⟨Z,hZ,hIZ⟩
      obtain ⟨S₅,le₅,new₅,st₅⟩:=hZ _ _ _ st₄
      obtain ⟨st₆,hp⟩:=st₂.unpins hbl st₅
      refine ⟨xs.length-(i+1),by exact (lin4 (.lt .v0 .v3) [.lt .v2 .v1,.sb .v0 .v1 (.a .v2 .n1),.sb .v3 .v1 .v2]) hlt (sbc _ _) (sbc _ _),i+1,S₅,Z,rfl,hlt,le.trans (le₁.trans (le₄.trans le₅)),st₆,fun a ha=>?_,itr.keep _ _ _ _ _ hJ₂ (le₄.trans le₅) fun a ha o e=>?_,hIZ⟩
      · rw [←hl1] at ha
        obtain ⟨p,hp',rfl⟩:=List.mem_map.mp ha
        exact (hp p hp').2
      · rw [←hl1] at ha
        obtain ⟨p,hp',rfl⟩:=List.mem_map.mp ha
        have:=hl2 p hp'
        rw [e] at this;cases this
        exact (hp p hp').1
    refine wpAny_bind (wpAny_mono (h₃ _ S₃ s₃ ok st₃) (fun b s₄ hz₉=>?_) fun e s' z=>(ok.noE e s' z).elim)
    obtain ⟨S₄,b',Y₄,le₄,eb,st₄,h₄⟩:=hz₉
    cases eb
    cases b with
    | true =>
      rw [if_pos rfl] at h₄ ⊢
      exact wpAny_mono (hinner _ _ _ _ _ st₄ h₄ _ fun S' Y s' u st q=>⟨rfl,finish _ _ _ (le₃.trans (le₄.trans u)) st q⟩) (fun _ _ z=>z) fun _ _ z=>z.elim
    | false =>
      rw [if_neg (by decide)] at h₄ ⊢
      exact wpAny_pure ⟨rfl,finish _ _ _ (le₃.trans le₄) st₄ h₄⟩
  · have:i=xs.length:=by exact (lin2 (.eq .v0 .v1) [.le .v0 .v1,.le .v1 .v0]) hi hge
    subst this
    rw [List.drop_length] at hJ'
    refine wpAny_mono (itr.stop B S' Y s₀ ok st' hb' hJ') (fun r s₁ hz₉=>?_) fun _ _ z=>z.elim
    obtain ⟨er,st₁,hE⟩:=hz₉
    subst er
    exact wpAny_pure ⟨S',bk Y,le,hbk _ _ _ _ st₁ hb' hE,fin Y hI⟩
theorem getElem?_of_drop {α:Type} {l:List α} {n:Nat} {a:α} {r:List α} (h:l.drop n=a::r):l[n]?=some a∧l.drop (n+1)=r:=by
 refine ⟨by rw [←List.head?_drop,h];rfl,by rw [←List.tail_drop,h];rfl⟩
theorem comp_gen {D:Addr} {elt:Expr} {gens:List Comprehension} {scope:Scope} {pos:Pos}:∀ (gs:List Comprehension) (depth:Nat) (g:Comprehension),gens.drop depth=g::gs→(∀ q∈g::gs,q.is_async=0)→(∀ q∈gs,∀ x,foldedSetIterable q.iter c.env x=pure x) →
  ∀ (B:Bg) (S:Sto) (X:AX) (s:Shared) (it:Value) (fp:List Addr) (J:List AV→Sto→Heap→Prop) (E:Sto→Heap→Prop) (xs:List AV) (bk:AX→AX) (Q:AX→Prop),c.Ok→St c B S X s→Itr c g.target it fp J E→(∀ a∈fp,Bare c B S X a)→J xs S s.heap →
   (∀ B S X s,St c B S X s→(∀ a∈fp,Bare c B S X a)→E S s.heap→St c B S (bk X) s)→WGen c g (WTurn c D elt gs) xs bk Q X →
   codeAny (model c.P c.w) c.A (.compLoop (.ListComp elt gens scope pos) depth it (.ref D) c.env) (fun r s'=>match r with | .ok _=>∃ S' Y,S.Le S'∧St c B S' Y s'∧Q Y | .error _=>False) s:=by
 intro gs
 induction gs with
 | nil =>
  intro depth g hd ha hf B S X₂ s₂ it fp J E xs bk Q ok st₂ itr hb hJ hbk hG
  obtain ⟨h1,h2⟩:=getElem?_of_drop hd
  have h3:gens[depth+1]?=none:=by rw [←List.head?_drop,h2];rfl
  refine comp_core (inner:=WTurn c D elt []) (compTurn_last elt gens scope pos depth it (.ref D) c.env g h1 (ha g (.head _)) h3) rfl rfl rfl rfl ?_ ok st₂ itr hb hJ hbk hG
  intro B S X s Q st hT R hR
  refine wpAny_bind (wpAny_bind (wpAny_mono (hT B S s ok st) (fun v s₁ ⟨S₁,V,Y,u₁,r,st₁,ys,σ',U,hz,q⟩=>wpAny_bind (append_M st₁ r U hz fun s' st'=>wpAny_pure (wpAny_pure (hR S₁ _ s' u₁ st' q)))) fun e s' z=>ok.noE e s' z))
 | cons g' gs ih =>
  intro depth g hd ha hf B S X₂ s₂ it fp J E xs bk Q ok st₂ itr hb hJ hbk hG
  obtain ⟨h1,h2⟩:=getElem?_of_drop hd
  obtain ⟨h3,_⟩:=getElem?_of_drop h2
  refine comp_core (inner:=WTurn c D elt (g'::gs)) (compTurn_more elt gens scope pos depth it (.ref D) c.env g g' h1 (ha g (.head _)) h3 (ha g' (.tail _ (.head _)))) rfl rfl rfl rfl ?_ ok st₂ itr hb hJ hbk hG
  intro B S X s Q st hT R hR
  refine wpAny_bind (wpAny_mono (hT B S s ok st) (fun v s₁ ⟨S₁,V,Y,u₁,r,st₁,h₁⟩=>wpAny_bind (wpAny_standAt (wpAny_bind (wpAny_of_eq (hf g' (.head _) v) (wpAny_bind (wpAny_holding (wpAny_mono (h₁ B S₁ s₁ v ok r st₁) (fun it' s₂ hi=>?_) fun _ _ z=>z))))))) fun e s' z=>ok.noE e s' z)
  obtain ⟨S₂,Y₂,fp',J',E',xs',bk',u₂,st₂',itr',hb',hJ',hbk',hG'⟩:=hi
  refine wpAny_bind (wpAny_runOwn (compStart_ h3 (ha g' (.tail _ (.head _))) ?_ fun Q F h=>(itr' c rfl rfl).self _ _ _ _ _ _ _ st₂' hJ' h))
  refine codeAny_mono (ih (depth+1) g' h2 (fun g hg=>ha g (.tail _ hg)) (fun g hg=>hf g (.tail _ hg)) B S₂ Y₂ s₂ it' fp' J' E' xs' bk' Q ok st₂' (itr' c rfl rfl) hb' hJ' (hbk' c) hG') fun r s' z=>?_
  cases r with
  | ok f=>obtain ⟨S₃,Y₃,u₃,st₃,q⟩:=z;exact wpAny_pure (hR S₃ Y₃ s' (u₁.trans (u₂.trans u₃)) st₃ q)
  | error e=>exact z.elim
end
def clOf (cells:List (Str×Addr)):List (Str×NameKind)→List (Str×Addr)→List (Str×Addr)
 | [],cs=>cs
 | (n,k)::r,cs=>if k==.free then clOf cells r ((n,(cells.lookup n).getD 0)::cs) else clOf cells r cs
theorem closure_of {env:Env} {scope:Scope} (h:∀ p∈scope.names,p.2=.free→(env.cells.lookup p.1).isSome=true):closureFor scope env=pure (clOf env.cells scope.names []):=by
 unfold closureFor
 suffices H:∀ (names:List (Str×NameKind)) cs,(∀ p∈names,p.2=.free→(env.cells.lookup p.1).isSome=true)→(forIn names cs fun (x:Str×NameKind) (r:List (Str×Addr))=>if (x.2==NameKind.free)=true then (do let __do_lift ←cellOf env x.1;pure (ForInStep.yield ((x.1,__do_lift)::r))) else pure (ForInStep.yield r):Sem (List (Str×Addr)))=pure (clOf env.cells names cs) by
  have:=H scope.names [] h
  simp only [bind_pure]
  exact this
 intro names
 induction names with
 | nil=>intro cs _;rfl
 | cons p r ih =>
  intro cs hp
  obtain ⟨n,k⟩:=p
  rw [List.forIn_cons]
  have hr:=fun p hm=>hp p (List.Mem.tail _ hm)
  by_cases q:k=.free
  ·subst q
   obtain ⟨a,ha⟩:=Option.isSome_iff_exists.mp (hp (n,.free) (.head _) rfl)
   have hc:cellOf env n=pure a:=by unfold cellOf;rw [ha]
   simp only [beq_self_eq_true,if_true,hc,pure_bind]
   rw [ih _ hr]
   simp [clOf,ha]
  ·have:(k==NameKind.free)=false:=beq_eq_false_iff_ne.mpr q
   simp only [this,Bool.false_eq_true,if_false,pure_bind]
   rw [ih _ hr]
   simp [clOf,this]
theorem St.cx {c c':Cx} {B:Bg} {S:Sto} {X:AX} {s:Shared} (hg:c'.g=c.g) (he:c'.env=c.env) (ho:c'.own=c.own) (st:St c B S X s) (hx:c'.fix=c.fix:=by rfl):St c' B S X s:=by
 obtain ⟨P,w,K,g,A,env,own,E,fx⟩:=c
 obtain ⟨P',w',K',g',A',env',own',E',fx'⟩:=c'
 dsimp only at hg he ho hx
 subst hg he ho hx
 exact ⟨st.loc,st.gr,st.base,st.sto,st.cel,st.fr,st.mu,st.nd,st.sep,st.dis,st.dom,st.prot,st.pin,st.os,st.gens,st.drawn⟩
def Cx.block (c:Cx) (scope:Scope) (C:Addr):Cx:={c with env:=compEnvC scope (clOf c.env.cells scope.names []) C c.env,own:=[C]}
theorem clOf_lookup {cells:List (Str×Addr)} {x:Str} {k:Addr}:∀ {names:List (Str×NameKind)} {cs:List (Str×Addr)},(∀ p∈names,p.2=.free→(cells.lookup p.1).isSome=true)→(∀ k,cs.lookup x=some k→cells.lookup x=some k)→(clOf cells names cs).lookup x=some k→cells.lookup x=some k
 | [],cs,_,hc,h=>hc _ h
 | (n,kd)::r,cs,hf,hc,h=>by
  unfold clOf at h
  split at h
  ·rename_i q
   refine clOf_lookup (fun p hp=>hf p (.tail _ hp)) (fun k hk=>?_) h
   rw [List.lookup_cons] at hk
   by_cases e:x=n
   ·subst e
    rw [beq_self_eq_true] at hk
    cases hk
    obtain ⟨a,ha⟩:=Option.isSome_iff_exists.mp (hf (x,kd) (.head _) (beq_iff_eq.mp q))
    rw [ha];rfl
   ·rw [beq_eq_false_iff_ne.mpr e] at hk;exact hc k hk
  ·exact clOf_lookup (fun p hp=>hf p (.tail _ hp)) hc h
def Capt (c:Cx) (scope:Scope) (x:Str):Prop:=(c.env.kindOf x=some .cell∨c.env.kindOf x=some .free)∧((relabel scope c.env).names.lookup x=some .cell∨(relabel scope c.env).names.lookup x=some .free)∧(clOf c.env.cells scope.names []).lookup x=c.env.cells.lookup x
theorem cellsFrom_app:∀ (names:List (Str×NameKind)) (n:Nat) (acc:List (Str×Addr)),cellsFrom n names acc=cellsFrom n names []++acc
 | [],n,acc=>rfl
 | (x,k)::r,n,acc=>by
  unfold cellsFrom
  split
  ·rw [cellsFrom_app r (n+1) ((x,n)::acc),cellsFrom_app r (n+1) [(x,n)],List.append_assoc];rfl
  ·exact cellsFrom_app r n acc
theorem newEnvC {M:Model} {A:Around} {E:Value→Shared→Prop} {s:Shared} {scope:Scope} {globals:Addr} {closure:List (Str×Addr)} {qual:Str} {outer:Env} {Q:Env→Shared→Prop} (hk:scope.kind=.function)
  (h:∀ h₁:Heap,h₁.Ns s.heap.objs.size (fun _=>none)→Keeps s.heap h₁→CellsOk h₁ (s.heap.objs.size+1) (cellsFrom (s.heap.objs.size+1) scope.names []) →
   Q (newEnv scope s.heap.objs.size globals (cellsFrom (s.heap.objs.size+1) scope.names closure) qual none .none (some outer) builtinsNs) {s with heap:=h₁}) :
  wpAny M A (newFunctionEnv scope globals closure [] qual none .none (some outer)) Q E s:=by
 simp only [newFunctionEnv,Option.isSome_some,if_true]
 refine wpAny_bind (wpAny_alloc ?_)
 refine wpAny_bind (wpAny_layCells _ (fun name kind cells=>by cases hkc:kind==NameKind.cell<;>simp) _ _ _ _ ?_)
 have ok:=cellsFrom_ok scope.names (s.heap.push {cls:=.type "dict", data:=.dict #[]}) (s.heap.objs.size+1) [] ⟨fun _ _ hm=>(nomatch hm),List.Pairwise.nil⟩ (by rw [Heap.size_push];exact Nat.le_refl _)
 rw [Heap.size_push] at ok
 rw [show ({s with heap:=s.heap.push {cls:=.type "dict", data:=.dict #[]}}:Shared).heap.objs.size=s.heap.objs.size+1 from Heap.size_push ..]
 refine wpAny_bind ?_
 rw [List.forIn_nil]
 exact wpAny_pure (wpAny_pure (h _ ((Heap.Ns.new s.heap (.type "dict")).keeps (pushCells_keeps _ _)) (fun b o e=>pushCells_keeps _ _ b o (Heap.get?_push_of_some _ e)) ok))
def Cx.blockC (c:Cx) (scope:Scope) (C:Addr):Cx:={c with env:=compEnvC scope (cellsFrom (C+1) scope.names (clOf c.env.cells scope.names [])) C c.env,own:=C::(cellsFrom (C+1) scope.names []).map (·.2)}
section
variable {c:Cx} {X:AX} {Q:AV→AX→Prop}
theorem comp_all {use:Option (Value→Sem Unit)} {R:Value→Shared→Prop} {U:Addr→List (Str×AV)→AX→Prop} {B:Bg} {S:Sto} {s:Shared} {elt:Expr} {g:Comprehension} {gs:List Comprehension} {scope:Scope} {pos pos':Pos} (m₂:List (Str×AV)) (ok:c.Ok) (st:St c B S X s)
  (h:WE c g.iter (fun V X₁=>WI c g.target V (fun xs bk X₂=>(∀ p∈m₂,X₂.m.lookup p.1=some p.2∧Capt c scope p.1)∧∀ C D,(c.blockC scope C).Ok →
   WGen (c.blockC scope C) g (WTurn (c.blockC scope C) D elt gs) xs bk (U D X₂.m) ⟨(D,.lst [])::X₂.σ,m₂⟩) X₁) X)
  (hno:∀ p∈m₂,∀ n,(cellsFrom n scope.names []).lookup p.1=none)
  (hfree:∀ p∈scope.names,p.2=.free→(c.env.cells.lookup p.1).isSome=true) (hkind:scope.kind=.function) (hnames:∀ x∈scope.names,x.2=.local→scope.names.lookup x.1=some .local)
  (ha:∀ q∈g::gs,q.is_async=0) (hf:∀ q∈g::gs,∀ x,foldedSetIterable q.iter c.env x=pure x) (hf2:∀ C,∀ q∈gs,∀ x,foldedSetIterable q.iter (c.blockC scope C).env x=pure x)
  (fin:∀ D m Y S' s' C mc f,S.Le S'→St c B S' ⟨Y.σ,m⟩ s'→Bare c B S' ⟨Y.σ,m⟩ C→s'.heap.Ns C mc→U D m Y→compPost (model c.P c.w) c.A c.E use R (.ref D) C (.ok f) s') :
  wpAny (model c.P c.w) c.A (comprehension (.ListComp elt (g::gs) scope pos) scope c.env pos' (newList []) false (eval g.iter c.env) use) R c.E s:=by
 refine wpAny_comprehension_free (use:=use) rfl (hf g (.head _)) (closure_of hfree) hkind hnames ?_
 refine wpAny_mono (h B S s ok st) (fun v s₁ ⟨S₁,V,X₁,u₁,r,st₁,h₁⟩=>wpAny_mono (h₁ B S₁ s₁ v ok r st₁) (fun it s₂ hi=>?_) fun _ _ z=>z.elim) fun _ _ e=>e
 obtain ⟨S₂,X₂,fp,J,E,xs,bk,u₂,st₂,itr',hb,hJ,hbk,hm₂,hG⟩:=hi
 refine wpAny_newList ?_ (Nat.zero_le _)
 -- the list
 generalize hD:s₂.heap.objs.size=D
 have st₃:St c B S₂ ⟨(D,.lst [])::X₂.σ,X₂.m⟩ {s₂ with heap:=s₂.heap.push {cls:=.type "list", data:=.seq ([]:List Value).toArray}}:=by
  rw [←hD];exact st₂.newM (mo:=.lst []) rfl (fun h e=>⟨[],0,e,.nil⟩) rfl
 have itr:=itr' c rfl rfl
 have hDfp:∀ a∈fp,a≠D:=fun a hab q=>by
  obtain ⟨o,ho⟩:=itr.dom _ _ _ hJ a hab
  rw [q,←hD,get?_lt_none (Nat.le_refl _)] at ho;cases ho
 have hb₃:∀ a∈fp,Bare c B S₂ ⟨(D,.lst [])::X₂.σ,X₂.m⟩ a:=fun a hab=>by
  have b:=hb a hab
  refine ⟨b.g,b.base,b.sto,b.own,fun q=>?_,b.prot⟩
  rw [AX.adr_cons] at q
  rcases List.mem_append.mp q with q | q
  ·exact hDfp a hab (List.mem_singleton.mp q)
  ·exact b.adr q
 have hJ₃:J xs S₂ ({s₂ with heap:=s₂.heap.push {cls:=.type "list", data:=.seq ([]:List Value).toArray}}:Shared).heap:=itr.keep _ _ S₂ _ (s₂.heap.push {cls:=.type "list", data:=.seq ([]:List Value).toArray}) hJ .rfl fun a _ o e=>Heap.get?_push_of_some _ e
 have hP₃:∀ (R:Value→Shared→Prop) (F:Value→Shared→Prop),R it {s₂ with heap:=s₂.heap.push {cls:=.type "list", data:=.seq ([]:List Value).toArray}}→wpAny (model c.P c.w) c.A (pyIter it) R F {s₂ with heap:=s₂.heap.push {cls:=.type "list", data:=.seq ([]:List Value).toArray}}:=fun R F h=>itr.self _ _ _ _ _ _ _ st₃ hJ₃ h
 generalize ({s₂ with heap:=s₂.heap.push {cls:=.type "list", data:=.seq ([]:List Value).toArray}}:Shared)=s₃ at st₃ hJ₃ hP₃ ⊢
 generalize hX₃:(⟨(D,.lst [])::X₂.σ,X₂.m⟩:AX)=X₃ at st₃ hb₃
 refine newEnvC hkind fun h₁ hns hk₁ hnc=>?_
 have hC:=get?_lt_none (Nat.le_refl s₃.heap.objs.size)
 have bC:=st₃.bare hC
 have klC:∀ a o,c.K.lookup a=some o→a<s₃.heap.objs.size:=fun a o e=>Heap.lt_size ((ok.X.keeps st₃.gr) a o e)
 have hnw:∀ y k,(y,k)∈cellsFrom (s₃.heap.objs.size+1) scope.names []→s₃.heap.get? k=none:=fun y k hm=>get?_lt_none (Nat.le_of_lt (hnc.empty y k hm).2)
 have hCk:∀ y k,(y,k)∈cellsFrom (s₃.heap.objs.size+1) scope.names []→k≠s₃.heap.objs.size:=fun y k hm=>Nat.ne_of_gt (hnc.empty y k hm).2
 generalize s₃.heap.objs.size=C at hns hC bC klC hnc hnw hCk ⊢
 have old:∀ {y k},(clOf c.env.cells scope.names []).lookup y=some k→c.env.cells.lookup y=some k:=fun e=>clOf_lookup hfree (fun _ e=>by cases e) e
 have two:∀ {y k},(c.blockC scope C).env.cells.lookup y=some k→(y,k)∈cellsFrom (C+1) scope.names []∨c.env.cells.lookup y=some k:=fun {y k} e=>by
  have e:(cellsFrom (C+1) scope.names (clOf c.env.cells scope.names [])).lookup y=some k:=e
  rw [cellsFrom_app,List.lookup_append] at e
  cases q:(cellsFrom (C+1) scope.names []).lookup y with
  | some k'=>rw [q] at e;cases e;exact .inl (mem_of_lookup q)
  | none=>rw [q] at e;exact .inr (old e)
 have there:∀ {y k},c.env.cells.lookup y=some k→∃ o,s₃.heap.get? k=some o:=fun e=>let ⟨_,_,o,_,h,_⟩:=st₃.cel _ _ e;⟨o,h⟩
 have ok₂:(c.blockC scope C).Ok:=⟨ok.X,ok.T,ok.G,ok.gl,ok.bi,hkind,ok.noE,klC,fun x y k e1 e2=>by
  rcases two e1 with a | a<;>rcases two e2 with b | b
  ·exact name_of_addr hnc.apart a b
  ·obtain ⟨o,ho⟩:=there b;rw [hnw _ _ a] at ho;cases ho
  ·obtain ⟨o,ho⟩:=there a;rw [hnw _ _ b] at ho;cases ho
  ·exact ok.cnd x y k a b⟩
 have inB:∀ k o,(k∈c.own∨∃ o,B.base k o)→s₃.heap.get? k=some o→(Bg.call c B X₃ s₃ fp).base k o:=fun k o hk e =>
  ⟨e,fun q=>hk.elim (fun z=>st₃.dis k z q) fun ⟨p,z⟩=>st₃.noadr z q,fun q=>hk.elim (hb₃ k q).own fun ⟨p,z⟩=>(hb₃ k q).base p z⟩
 have st₄:St (c.blockC scope C) (Bg.call c B X₃ s₃ fp) S₂ ⟨X₃.σ,m₂⟩ {s₃ with heap:=h₁}:=by
  refine St.cx (c:=c.callee (c.blockC scope C).env (c.blockC scope C).own) rfl rfl rfl (st₃.callIn hb₃ hk₁ rfl (.head _) (fun a ha=>?_) (fun a ha=>?_) (fun x k e=>?_) ⟨_,hns,fun x V e=>?_⟩ rfl rfl rfl)
  ·rcases List.mem_cons.mp ha with rfl | ha
   ·exact hC
   ·obtain ⟨q,hq,rfl⟩:=List.mem_map.mp ha
    exact hnw q.1 q.2 hq
  ·rcases List.mem_cons.mp ha with rfl | ha
   ·obtain ⟨o,_,_,e,_⟩:=hns
    exact ⟨o,e⟩
   ·obtain ⟨q,hq,rfl⟩:=List.mem_map.mp ha
    obtain ⟨⟨o,e,_⟩,_⟩:=hnc.empty q.1 q.2 hq
    exact ⟨o,e⟩
  ·rcases two e with e | e
   ·obtain ⟨⟨o,e1,e2⟩,_⟩:=hnc.empty x k e
    exact ⟨hCk x k e,.inl (.tail _ (List.mem_map.mpr ⟨(x,k),e,rfl⟩)),o,_,e1,e2⟩
   ·obtain ⟨h1,h2,o,v,h3,h4⟩:=st₃.cel x k e
    refine ⟨fun q=>?_,.inr ⟨o,inB k o h2 h3⟩,o,v,hk₁ _ _ h3,h4⟩
    have q:k=C:=q
    rw [q,hC] at h3;cases h3
  ·obtain ⟨y,hy,rfl⟩:=lookup_mem e
   obtain ⟨hl,hc1,hc2,hc3⟩:=hm₂ _ hy
   obtain ⟨mc,n,f⟩:=st₃.fr
   obtain ⟨u,ru,yu⟩:=f y V (by rw [←hX₃];exact hl)
   refine ⟨u,ru,?_⟩
   rcases yu with ⟨k,_⟩ | ⟨w,k,o,e1,e2,e3,e4,e5⟩
   ·rcases hc1 with q | q<;>rw [k] at q<;>cases q
   ·have hlk:(cellsFrom (C+1) scope.names (clOf c.env.cells scope.names [])).lookup y=some k:=by
     rw [cellsFrom_app,List.lookup_append,hno _ hy (C+1)]
     exact hc3.trans e1
    refine .inr ⟨hc2,k,o,hlk,hk₁ _ _ e2,e3,.inr (inB k o (e4.imp id fun z=>⟨o,z⟩) e2),fun q=>?_⟩
    have q:k=C:=q
    rw [q,hC] at e2;cases e2
 have itr₂:=itr' (c.blockC scope C) rfl rfl
 have hb₄:∀ a∈fp,Bare (c.blockC scope C) (Bg.call c B X₃ s₃ fp) S₂ ⟨X₃.σ,m₂⟩ a:=fun a hab=>by
  have b:=hb₃ a hab
  refine ⟨b.g,fun o e=>e.2.2 hab,b.sto,fun q=>?_,b.adr,fun q=>q.elim b.prot b.own⟩
  obtain ⟨o,ho⟩:=itr.dom _ _ _ hJ₃ a hab
  rcases List.mem_cons.mp q with q | q
  ·rw [q,hC] at ho;cases ho
  ·obtain ⟨z,hz,rfl⟩:=List.mem_map.mp q
   rw [hnw z.1 z.2 hz] at ho;cases ho
 have hJ₄:J xs S₂ h₁:=itr.keep _ _ _ _ _ hJ₃ .rfl fun a _ o e=>hk₁ _ _ e
 refine codeAny_mono (compStart_ (g:=g) rfl (ha g (.head _)) (comp_gen (c:=c.blockC scope C) gs 0 g rfl ha (hf2 C) _ S₂ _ _ it fp J E xs bk _ ok₂ st₄ itr₂ hb₄ hJ₄ (hbk (c.blockC scope C)) (by rw [←hX₃];exact hG C D ok₂)) fun R F h=>itr₂.self _ _ _ _ _ _ _ st₄ hJ₄ h) fun r s' z=>?_
 cases r with
 | error e=>exact z.elim
 | ok f =>
  obtain ⟨S',Y,le,st',q⟩:=z
  have stc:=st₃.callOut hb₃ (env:=(c.blockC scope C).env) (own:=(c.blockC scope C).own) le (St.cx (c:=c.blockC scope C) rfl rfl rfl st')
  have hCown:=st'.sep C (.inl (.head _))
  obtain ⟨mc,n,_⟩:=st'.fr
  exact fin D X₂.m Y S' s' C mc f (u₁.trans (u₂.trans le)) (by rw [←hX₃] at stc;exact stc) ⟨bC.g,bC.base,hCown.2.2,bC.own,st'.dis C (.head _),bC.prot⟩ n q
theorem comp_fst {g:Comprehension} {gs:List Comprehension} (ha:∀ q∈g::gs,q.is_async=0):firstAsync (g::gs)=false:=by
 obtain ⟨t,i,ifs,a⟩:=g
 have:=ha _ (.head _)
 subst this
 rfl
theorem comp_itr {g:Comprehension} {gs:List Comprehension} {env:Env}:firstIter (g::gs) env=eval g.iter env:=by obtain ⟨t,i,ifs,a⟩:=g;rfl
theorem E_compMc {elt:Expr} {g:Comprehension} {gs:List Comprehension} {scope:Scope} {pos:Pos} (m₂:List (Str×AV))
  (h:WE c g.iter (fun V X₁=>WI c g.target V (fun xs bk X₂=>(∀ p∈m₂,X₂.m.lookup p.1=some p.2∧Capt c scope p.1)∧∀ C D,(c.blockC scope C).Ok →
   WGen (c.blockC scope C) g (WTurn (c.blockC scope C) D elt gs) xs bk (fun Y=>Q (.raw (.ref D)) ⟨Y.σ,X₂.m⟩) ⟨(D,.lst [])::X₂.σ,m₂⟩) X₁) X)
  (hno:∀ p∈m₂,∀ n,(cellsFrom n scope.names []).lookup p.1=none)
  (hfree:∀ p∈scope.names,p.2=.free→(c.env.cells.lookup p.1).isSome=true) (hkind:scope.kind=.function) (hnames:∀ x∈scope.names,x.2=.local→scope.names.lookup x.1=some .local)
  (ha:∀ q∈g::gs,q.is_async=0) (hf:∀ q∈g::gs,∀ x,foldedSetIterable q.iter c.env x=pure x) (hf2:∀ C,∀ q∈gs,∀ x,foldedSetIterable q.iter (c.blockC scope C).env x=pure x) :
  WE c (.ListComp elt (g::gs) scope pos) Q X:=by
 intro B S s ok st
 rw [eval_ListComp,comp_fst ha,comp_itr]
 exact comp_all (U:=fun D m Y=>Q (.raw (.ref D)) ⟨Y.σ,m⟩) m₂ ok st h hno hfree hkind hnames ha hf hf2 fun D m Y S' s' C mc f u stc bC n q=>⟨mc,n,fun h' hs'=>⟨S',.raw (.ref D),⟨Y.σ,m⟩,u,.raw _,stc.same hs' bC,q⟩⟩
theorem cellsFrom_none:∀ {names:List (Str×NameKind)} {n:Nat} {acc:List (Str×Addr)},(∀ p∈names,p.2≠.cell)→cellsFrom n names acc=acc
 | [],_,_,_=>rfl
 | (x,k)::r,n,acc,h=>by
  unfold cellsFrom
  rw [if_neg (fun z=>h (x,k) (.head _) (beq_iff_eq.mp z))]
  exact cellsFrom_none fun p hp=>h p (.tail _ hp)
theorem blockC_eq {scope:Scope} (hcell:∀ p∈scope.names,p.2≠.cell) (C:Addr):c.blockC scope C=c.block scope C:=by
 unfold Cx.blockC Cx.block
 rw [cellsFrom_none hcell,cellsFrom_none hcell]
 rfl
theorem E_compM {elt:Expr} {g:Comprehension} {gs:List Comprehension} {scope:Scope} {pos:Pos} (m₂:List (Str×AV))
  (h:WE c g.iter (fun V X₁=>WI c g.target V (fun xs bk X₂=>(∀ p∈m₂,X₂.m.lookup p.1=some p.2∧Capt c scope p.1)∧∀ C D,(c.block scope C).Ok →
   WGen (c.block scope C) g (WTurn (c.block scope C) D elt gs) xs bk (fun Y=>Q (.raw (.ref D)) ⟨Y.σ,X₂.m⟩) ⟨(D,.lst [])::X₂.σ,m₂⟩) X₁) X)
  (hfree:∀ p∈scope.names,p.2=.free→(c.env.cells.lookup p.1).isSome=true) (hcell:∀ p∈scope.names,p.2≠.cell) (hkind:scope.kind=.function) (hnames:∀ x∈scope.names,x.2=.local→scope.names.lookup x.1=some .local)
  (ha:∀ q∈g::gs,q.is_async=0) (hf:∀ q∈g::gs,∀ x,foldedSetIterable q.iter c.env x=pure x) (hf2:∀ C,∀ q∈gs,∀ x,foldedSetIterable q.iter (c.block scope C).env x=pure x) :
  WE c (.ListComp elt (g::gs) scope pos) Q X :=
 E_compMc m₂ (by simp only [blockC_eq hcell];exact h) (fun _ _ _=>by rw [cellsFrom_none hcell];rfl) hfree hkind hnames ha hf (by simp only [blockC_eq hcell];exact hf2)
theorem S_compM {y:Str} {py spos:Pos} {Q:AF→AX→Prop} {elt:Expr} {g:Comprehension} {gs:List Comprehension} {scope:Scope} {pos:Pos} (m₂:List (Str×AV)) (hl:c.env.kindOf y=some .local) (hw:c.env.locals∈c.own)
  (hsw:swapsWith (.ListComp elt (g::gs) scope pos) (some (.Name y py)) spos.line c.env=pure true)
  (h:WE c g.iter (fun V X₁=>WI c g.target V (fun xs bk X₂=>(∀ p∈m₂,X₂.m.lookup p.1=some p.2∧Capt c scope p.1)∧∀ C D,(c.block scope C).Ok →
   WGen (c.block scope C) g (WTurn (c.block scope C) D elt gs) xs bk (fun Y=>Q .next ⟨Y.σ,(y,.raw (.ref D))::X₂.m⟩) ⟨(D,.lst [])::X₂.σ,m₂⟩) X₁) X)
  (hfree:∀ p∈scope.names,p.2=.free→(c.env.cells.lookup p.1).isSome=true) (hcell:∀ p∈scope.names,p.2≠.cell) (hkind:scope.kind=.function) (hnames:∀ x∈scope.names,x.2=.local→scope.names.lookup x.1=some .local)
  (ha:∀ q∈g::gs,q.is_async=0) (hf:∀ q∈g::gs,∀ x,foldedSetIterable q.iter c.env x=pure x) (hf2:∀ C,∀ q∈gs,∀ x,foldedSetIterable q.iter (c.block scope C).env x=pure x) :
  WS c (.Assign [.Name y py] (.ListComp elt (g::gs) scope pos) spos) Q X:=by
 intro B S s ok st
 rw [exec_Assign_Name_used _ _ _ _ hsw]
 refine wpAny_bind (wpAny_standAt (wpAny_bind ?_))
 show wpAny _ _ (do let _ ←comprehension (.ListComp elt (g::gs) scope pos) scope c.env (firstIterPos (g::gs) pos) (newList []) (firstAsync (g::gs)) (firstIter (g::gs) c.env) (some (assign (.Name y py) c.env))) _ _ s
 rw [comp_fst ha,comp_itr]
 refine wpAny_bind (wpAny_mono (comp_all (use:=some (assign (.Name y py) c.env)) (R:=fun _ s'=>Post c B S RepF Q .next s') (U:=fun D m Y=>Q .next ⟨Y.σ,(y,.raw (.ref D))::m⟩) m₂ ok st (by simp only [blockC_eq hcell];exact h) (fun _ _ _=>by rw [cellsFrom_none hcell];rfl) hfree hkind hnames ha hf (by simp only [blockC_eq hcell];exact hf2) fun D m Y S' s' C mC f u stc bC nC q=>?_) (fun _ s' hq=>wpAny_pure (wpAny_pure hq)) fun _ _ e=>e)
 obtain ⟨mc,n,_⟩:=stc.fr
 have hne:C≠c.env.locals:=fun q=>bC.own (q▸hw)
 refine wpAny_assign_Name (wpAny_storeName_local hl n (fun h'' hn hs=>?_) (by rw [ok.fk];rfl))
 have st5:=stc.local (s':={s' with heap:=h'',toks:=s'.toks+1}) hw n (Rep.raw (Value.ref D)) hl hn hs rfl rfl rfl
 have bC5:Bare c B S' ⟨Y.σ,(y,.raw (.ref D))::m⟩ C:=⟨bC.g,bC.base,bC.sto,bC.own,bC.adr,bC.prot⟩
 exact ⟨mC,nC.sameBut hs hne,fun h' hs'=>⟨S',.next,⟨Y.σ,(y,.raw (.ref D))::m⟩,u,.next,st5.same hs' bC5,q⟩⟩
end
inductive Fz (D:Addr) (W:AV):AV→AV→Prop
 | same (V:AV):Fz D W V V
 | here:Fz D W (.raw (.ref D)) W
 | lst {xs ys:List AV}:xs.length=ys.length→(∀ (i:Nat) x y,xs[i]?=some x→ys[i]?=some y→Fz D W x y)→Fz D W (.lst xs) (.lst ys)
 | tup {xs ys:List AV}:xs.length=ys.length→(∀ (i:Nat) x y,xs[i]?=some x→ys[i]?=some y→Fz D W x y)→Fz D W (.tup xs) (.tup ys)
 | inst {C:Addr} {ks:List Str} {xs ys:List AV}:xs.length=ys.length→(∀ (i:Nat) x y,xs[i]?=some x→ys[i]?=some y→Fz D W x y)→Fz D W (.inst C ks xs) (.inst C ks ys)
theorem Fz.rep {D:Addr} {W V V':AV} {S S':Sto} (z:Fz D W V V') (le:S.Le S') (hW:Rep S' (.ref D) W) {v:Value} (r:Rep S v V):Rep S' v V':=by
 induction z generalizing v with
 | same V=>exact r.mono le
 | here=>rw [r.raw_inv];exact hW
 | lst hl _ ih =>
  obtain ⟨a,vs,n,rfl,h1,h2⟩:=r.lst_inv
  refine .lst (le _ _ h1) (h2.1.trans hl) fun i v y hv hy=>?_
  obtain ⟨x,hx⟩:∃ x,_=some x:=⟨_,List.getElem?_eq_getElem (by rw [hl];exact (List.getElem?_eq_some_iff.mp hy).1)⟩
  exact ih i x y hx hy (h2.2 i v x hv hx)
 | tup hl _ ih =>
  obtain ⟨a,vs,n,rfl,h1,h2⟩:=r.tup_inv
  refine .tup (le _ _ h1) (h2.1.trans hl) fun i v y hv hy=>?_
  obtain ⟨x,hx⟩:∃ x,_=some x:=⟨_,List.getElem?_eq_getElem (by rw [hl];exact (List.getElem?_eq_some_iff.mp hy).1)⟩
  exact ih i x y hx hy (h2.2 i v x hv hx)
 | inst hl _ ih =>
  obtain ⟨a,d,es,ep,rfl,h1,h2,h3⟩:=r.inst_inv
  refine .inst (le _ _ h1) (le _ _ h2) h3.lk (h3.lv.trans hl) h3.key fun i e y he hy=>?_
  obtain ⟨x,hx⟩:∃ x,_=some x:=⟨_,List.getElem?_eq_getElem (by rw [hl];exact (List.getElem?_eq_some_iff.mp hy).1)⟩
  exact ih i x y hx hy (h3.val i e x he hx)
def MO.still:MO→Option AV
 | .lst xs=>some (.lst xs)
 | .inst C _ ks vs=>some (.inst C ks vs)
 | _=>Option.none
section
variable {c:Cx} {B:Bg} {S:Sto} {X:AX} {s:Shared}
theorem St.freeze {D:Addr} {mo:MO} {W:AV} {σ':List (Addr×MO)} (st:St c B S X s) (h:SDel D mo X.σ σ') (hW:mo.still=some W):∃ S',S.Le S'∧(∀ a o,S' a o→S a o∨(s.heap.get? a=some o∧a∈AX.adr X.σ))∧Rep S' (.ref D) W∧St c B S' ⟨σ',X.m⟩ s:=by
 have hb:=st.bareM h
 have st':St c B S ⟨σ',X.m⟩ s:=st.weak (X':=⟨σ',X.m⟩) h.sub fun _ _ e=>e
 have hin:∀ b∈mo.addrs D,b∈AX.adr X.σ:=fun b hb=>AX.mem_adr h.mem hb
 cases mo with
 | lst xs =>
  cases hW
  obtain ⟨vs,n,h1,h2⟩:=st.get h.mem
  refine ⟨S.put D (seqObj "list" vs.toArray n),Sto.put_le _ _ _,fun a o e=>e.imp id fun q=>?_,.lst' (Sto.put_self _ _ _) (h2.mono (Sto.put_le _ _ _)),st'.addS (Sto.put_le _ _ _) fun a o e=>e.imp id fun q=>?_⟩
  ·rw [q.1,q.2];exact ⟨h1,hin _ (.head _)⟩
  ·rw [q.1,q.2];exact ⟨h1,(hb D (.head _)).own,(hb D (.head _)).adr,(hb D (.head _)).prot⟩
 | inst C d ks vs =>
  cases hW
  obtain ⟨h1,es,ep,h2,h3⟩:=st.get h.mem
  refine ⟨(S.put D (instObj C d)).put d (dictOf es ep),(Sto.put_le _ _ _).trans (Sto.put_le _ _ _),fun a o e=>?_,.inst' (Sto.put_le _ _ _ _ _ (Sto.put_self _ _ _)) (Sto.put_self _ _ _) (h3.mono ((Sto.put_le _ _ _).trans (Sto.put_le _ _ _))),st'.addS ((Sto.put_le _ _ _).trans (Sto.put_le _ _ _)) fun a o e=>?_⟩
  ·rcases e with (e | q) | q
   ·exact .inl e
   ·rw [q.1,q.2];exact .inr ⟨h1,hin _ (.head _)⟩
   ·rw [q.1,q.2];exact .inr ⟨h2,hin _ (.tail _ (.head _))⟩
  ·rcases e with (e | q) | q
   ·exact .inl e
   ·have:=hb D (.head _);rw [q.1,q.2];exact .inr ⟨h1,this.own,this.adr,this.prot⟩
   ·have:=hb d (.tail _ (.head _));rw [q.1,q.2];exact .inr ⟨h2,this.own,this.adr,this.prot⟩
 | obj o=>cases hW
 | ext as R=>cases hW
end
section
variable {c:Cx} {X:AX}
theorem Conv.freeze {D:Addr} {mo:MO} {W:AV} {σ':List (Addr×MO)} {m':List (Str×AV)} (h:SDel D mo X.σ σ') (hW:mo.still=some W) (hm:∀ x V',m'.lookup x=some V'→∃ V,X.m.lookup x=some V∧Fz D W V V'):Conv c X ⟨σ',m'⟩:=by
 intro B S s st
 obtain ⟨S',le,new,r,st'⟩:=st.freeze h hW
 refine ⟨S',le,new,st'.loc,st'.gr,st'.base,st'.sto,st'.cel,?_,st'.mu,st'.nd,st'.sep,st'.dis,st'.dom,st'.prot,st'.pin,st'.os,st'.gens,st'.drawn⟩
 obtain ⟨mc,n,f⟩:=st.fr
 refine ⟨mc,n,fun x V' e=>?_⟩
 obtain ⟨V,hV,z⟩:=hm x V' e
 obtain ⟨v,rv,y⟩:=f x V hV
 exact ⟨v,z.rep le r rv,y⟩
theorem Conv.trans {X Y Z:AX} (h:Conv c X Y) (k:Conv c Y Z) (hsub:∀ a,a∈AX.adr Y.σ→a∈AX.adr X.σ):Conv c X Z:=fun B S s st=>by
 obtain ⟨S₁,l1,n1,st1⟩:=h B S s st
 obtain ⟨S₂,l2,n2,st2⟩:=k B S₁ s st1
 exact ⟨S₂,l1.trans l2,fun a o e=>(n2 a o e).elim (n1 a o) fun q=>.inr ⟨q.1,hsub a q.2⟩,st2⟩
theorem WT.pre {α β:Type} {R:Sto→α→β→Prop} {t:Sem α} {Q:β→AX→Prop} {Y:AX} (h:Conv c X Y) (k:WT c R t Q Y):WT c R t Q X:=fun B S s ok st=>by
 obtain ⟨S',le,_,st'⟩:=h B S s st
 exact wpAny_mono (k B S' s ok st') (fun _ _ p=>p.up le) fun _ _ e=>e
def ConvV (c:Cx) (V:AV) (X:AX) (V':AV) (X':AX):Prop:=∀ B S s v,Rep S v V→St c B S X s→∃ S',S.Le S'∧Rep S' v V'∧St c B S' X' s
theorem ConvV.rfl {V:AV}:ConvV c V X V X:=fun B S s v r st=>⟨S,.rfl,r,st⟩
theorem ConvV.weak {V:AV} {Y:AX} (hσ:Y.σ.Sublist X.σ) (hm:∀ x V,Y.m.lookup x=some V→X.m.lookup x=some V):ConvV c V X V Y:=fun B S s v r st=>⟨S,.rfl,r,st.weak hσ hm⟩
theorem ConvV.freeze {V V':AV} {D:Addr} {mo:MO} {W:AV} {σ':List (Addr×MO)} {m':List (Str×AV)} (h:SDel D mo X.σ σ') (hW:mo.still=some W) (hV:Fz D W V V') (hm:∀ x V',m'.lookup x=some V'→∃ V,X.m.lookup x=some V∧Fz D W V V'):ConvV c V X V' ⟨σ',m'⟩:=by
 intro B S s v rv st
 obtain ⟨S',le,new,r,st'⟩:=st.freeze h hW
 refine ⟨S',le,hV.rep le r rv,st'.loc,st'.gr,st'.base,st'.sto,st'.cel,?_,st'.mu,st'.nd,st'.sep,st'.dis,st'.dom,st'.prot,st'.pin,st'.os,st'.gens,st'.drawn⟩
 obtain ⟨mc,n,f⟩:=st.fr
 refine ⟨mc,n,fun x V' e=>?_⟩
 obtain ⟨V,hV,z⟩:=hm x V' e
 obtain ⟨v,rv,y⟩:=f x V hV
 exact ⟨v,z.rep le r rv,y⟩
theorem ConvV.trans {V V' V'':AV} {X X' X'':AX} (h:ConvV c V X V' X') (k:ConvV c V' X' V'' X''):ConvV c V X V'' X'':=fun B S s v r st=>by
 obtain ⟨S₁,l1,r1,st1⟩:=h B S s v r st
 obtain ⟨S₂,l2,r2,st2⟩:=k B S₁ s v r1 st1
 exact ⟨S₂,l1.trans l2,r2,st2⟩
theorem WE.conv {t:Sem Value} {Q:AV→AX→Prop} (h:WT c Rep t (fun V Y=>∃ V' Y',ConvV c V Y V' Y'∧Q V' Y') X):WT c Rep t Q X:=fun B S s ok st =>
 wpAny_mono (h B S s ok st) (fun v s' ⟨S',V,Y,le,r,st',V',Y',k,q⟩=>let ⟨S₂,l2,r2,st2⟩:=k B S' s' v r st';⟨S₂,V',Y',le.trans l2,r2,st2,q⟩) fun _ _ e=>e
theorem WF.conv {f:Value} {Vs:List AV} {kws:List (Str×AV)} {Q:AV→AX→Prop} (h:WF c f Vs kws (fun V Y=>∃ V' Y',ConvV c V Y V' Y'∧Q V' Y') X):WF c f Vs kws Q X:=by
 intro B S s vs kw ok r rk st
 refine codeAny_mono (h B S s vs kw ok r rk st) fun r s' p=>?_
 refine ⟨?_,p.2⟩
 replace p:=p.1
 rcases r with e | (v | _ | _ | _)<;>first | exact p | skip
 obtain ⟨S',V,Y,le,r,st',V',Y',k,q⟩:=p
 obtain ⟨S₂,l2,r2,st2⟩:=k B S' s' _ r st'
 exact ⟨S₂,V',Y',le.trans l2,r2,st2,q⟩
theorem WC.conv {f:Value} {Vs:List AV} {kws:List (Str×AV)} {Q:AV→AX→Prop} (h:WC c f Vs kws (fun V Y=>∃ V' Y',ConvV c V Y V' Y'∧Q V' Y') X):WC c f Vs kws Q X:=fun B S s vs kw ok r rk st =>
 wpAny_mono (h B S s vs kw ok r rk st) (fun v s' ⟨S',V,Y,le,r,st',V',Y',k,q⟩=>let ⟨S₂,l2,r2,st2⟩:=k B S' s' v r st';⟨S₂,V',Y',le.trans l2,r2,st2,q⟩) fun _ _ e=>e
end
section
variable {c:Cx} {X:AX} {Q:AV→AX→Prop}
theorem M_list {name:Str} {id:String} {pl pos args kws} {a:Addr} {xs:List AV} (hm:(a,MO.lst xs)∈X.σ) (slot:Slot "list" name id) (hty:typeOf (.builtin id)=pure (.type "method_descriptor"))
  (h:WArgs c pos args kws (fun Us Ks X₁=>WC c (.builtin id) (.raw (.ref a)::Us) Ks Q X₁) X) (he:∀ e r,args=e::r→starEach args c.env=(false,eval e c.env)::starEach r c.env:=by intro _ _ h;first | (cases h;rfl) | cases h) (hall:(backToKw pos (keywordEach kws c.env)).all (·.1.isSome)=true:=by rfl):WM c name pl pos args kws (.raw (.ref a)) Q X:=by
 intro B S s v ok r st
 rw [r.raw_inv]
 obtain ⟨vs,n,h1,h2⟩:=st.get hm
 refine wpAny_bind (getMethod_builtin ⟨_,h1,rfl⟩ PySem.F.plainAttrs_list slot hty (fun b e=>by cases e;exact ⟨_,h1,rfl⟩) ?_)
 exact run_call (Fs:=[.raw (.ref a)]) ok st (.cons (.raw _) .nil) (fun h X0 _=>keeper_builtin h X0) h he hall
theorem B_append {a:Addr} {V:AV} {xs:List AV} {σ':List (Addr×MO)} (U:SUpd a (.lst xs) (.lst (xs++[V])) X.σ σ') (hz:xs.length≤1000000) (h:Q .none ⟨σ',X.m⟩):WC c (.builtin "list.append") [.raw (.ref a),V] [] Q X:=by
 intro B S s vs kw ok r rk st
 obtain ⟨v,t,rfl,r1,r2⟩:=r.cons_inv
 obtain ⟨u,t,rfl,r3,r4⟩:=r2.cons_inv
 cases r4.nil_inv
 rw [r1.raw_inv]
 have:kw=[]:=by have:=rk.1;simpa using this
 subst this
 exact append_M st r3 U hz fun s' st'=>⟨S,.none,_,.rfl,.none,st',h⟩
theorem B_pop {a:Addr} {V:AV} {xs:List AV} {σ':List (Addr×MO)} (U:SUpd a (.lst (xs++[V])) (.lst xs) X.σ σ') (hz:xs.length≤1000000) (h:Q V ⟨σ',X.m⟩):WC c (.builtin "list.pop") [.raw (.ref a)] [] Q X:=by
 intro B S s vs kw ok r rk st
 obtain ⟨v,t,rfl,r1,r2⟩:=r.cons_inv
 cases r2.nil_inv
 rw [r1.raw_inv]
 have:kw=[]:=by have:=rk.1;simpa using this
 subst this
 obtain ⟨vs,n,h1,h2⟩:=st.get U.mem
 obtain ⟨us,u,rfl⟩:∃ us u,vs=us++[u]:=by
  rcases List.eq_nil_or_concat vs with rfl | ⟨us,u,e⟩
  ·have:=h2.1;simp at this
  ·exact ⟨us,u,by simpa using e⟩
 have hlen:us.length=xs.length:=by have:=h2.1;simpa using this
 have ru:Rep S u V:=h2.2 us.length u V (by simp) (by rw [hlen];simp)
 have rus:Reps S us xs:=⟨hlen,fun i v V hv hV=>by
  have hi:i<us.length:=(List.getElem?_eq_some_iff.mp hv).1
  exact h2.2 i v V (by rw [List.getElem?_append_left hi];exact hv) (by rw [List.getElem?_append_left (by rw [←hlen];exact hi)];exact hV)⟩
 have hz':(us++[u]).toArray.size≤sizeLine:=by rw [sizeLine_eq,List.size_toArray];simp;exact (lin2 (.le .v0 (.n 16777215)) [.le .v1 (.n 1000000),.eq .v0 .v1]) hz hlen
 have hk:(us++[u]).toArray.size-1=us.length:=by rw [List.size_toArray,List.length_append];rfl
 have hy:(us++[u]).toArray[(us++[u]).toArray.size-1]?=some u:=by rw [hk];simp
 refine call_meets PySem.F.slot_list_pop ⟨_,h1,rfl⟩ PySem.F.entry_list_pop (PySem.F.args_list_pop_1 _) (PySem.MeetsSeq.list_pop_last a _ n u hy hz') ⟨h1,S,V,_,.rfl,ru,st.upd U rfl (KeepsBut.of_same (Heap.SameBut.update ..)) ⟨us,n+1,?_,rus⟩ rfl rfl rfl,h⟩
 have q:=PySem.IsL.update h1 (fun xs=>xs.eraseIdxIfInBounds ((us++[u]).toArray.size-1))
 rw [hk,kl_erase,List.append_nil,if_neg (by simp)] at q
 rw [hk]
 exact q
theorem B_len_lst {xs:List AV} (hz:xs.length<2^62) (h:Q (.int xs.length) X):WC c (.builtin "len") [.lst xs] [] Q X:=by
 intro B S s vs kw ok r rk st
 obtain ⟨v,t,rfl,r1,r2⟩:=r.cons_inv
 cases r2.nil_inv
 have:kw=[]:=by have:=rk.1;simpa using this
 subst this
 obtain ⟨a,vs,n,rfl,h1,h2⟩:=r1.lst_inv
 refine PyProof.Rows.len_list (items:=vs.toArray) ⟨_,st.sto _ _ h1,rfl,n,rfl⟩ (by rw [List.size_toArray,h2.1];exact (lin1 (.zt (.c .v0) (.n (2^63))) [.lt .v0 (.n (2^62))]) hz) ?_
 rw [List.size_toArray,h2.1]
 exact ⟨S,_,X,.rfl,.int _ _,st.toks _,h⟩
theorem B_len_mlst {xs:List AV} {a:Addr} (hm:(a,MO.lst xs)∈X.σ) (hz:xs.length<2^62) (h:Q (.int xs.length) X):WC c (.builtin "len") [.raw (.ref a)] [] Q X:=by
 intro B S s vs kw ok r rk st
 obtain ⟨v,t,rfl,r1,r2⟩:=r.cons_inv
 cases r2.nil_inv
 have:kw=[]:=by have:=rk.1;simpa using this
 subst this
 rw [r1.raw_inv]
 obtain ⟨vs,n,h1,h2⟩:=st.get hm
 refine PyProof.Rows.len_list (items:=vs.toArray) ⟨_,h1,rfl,n,rfl⟩ (by rw [List.size_toArray,h2.1];exact (lin1 (.zt (.c .v0) (.n (2^63))) [.lt .v0 (.n (2^62))]) hz) ?_
 rw [List.size_toArray,h2.1]
 exact ⟨S,_,X,.rfl,.int _ _,st.toks _,h⟩
theorem B_len_tup {xs:List AV} (hz:xs.length<2^62) (h:Q (.int xs.length) X):WC c (.builtin "len") [.tup xs] [] Q X:=by
 intro B S s vs kw ok r rk st
 obtain ⟨v,t,rfl,r1,r2⟩:=r.cons_inv
 cases r2.nil_inv
 have:kw=[]:=by have:=rk.1;simpa using this
 subst this
 obtain ⟨a,vs,n,rfl,h1,h2⟩:=r1.tup_inv
 refine PyProof.Rows.len_tuple (items:=vs.toArray) ⟨_,st.sto _ _ h1,rfl,n,rfl⟩ (by rw [List.size_toArray,h2.1];exact (lin1 (.zt (.c .v0) (.n (2^63))) [.lt .v0 (.n (2^62))]) hz) ?_
 rw [List.size_toArray,h2.1]
 exact ⟨S,_,X,.rfl,.int _ _,st.toks _,h⟩
end
theorem Gd.make {A:Around} {d:Nat} (C:Addr) (vals:List Value) (kw:List (Str×Value)) (x:Gd A (d+1)):Gd (A.under (.builtin "type.__call__" ⟨.ref C::vals,kw⟩)) d:=⟨x.hd,by have:=x.dp;show A.depth+1+d<_;exact (lin3 (.lt (.a (.a .v0 .n1) .v1) .v2) [.lt (.a .v0 (.a .v1 .n1)) .v2]) this,by have:=x.un;show A.units+1+8*d+8<_;exact (lin3 (.lt (.a (.a (.a .v0 .n1) (.l 8 .v1)) (.n 8)) .v2) [.lt (.a (.a .v0 (.l 8 (.a .v1 .n1))) (.n 8)) .v2]) this⟩
section
variable {c:Cx} {X:AX} {Q:AV→AX→Prop}
theorem WF.new {C fI:Addr} {Vs:List AV} {kws:List (Str×AV)} {d:Nat} (hm:makesIn c.K C=true) (hi:findIn c.K (.ref C) "__init__" = some (some (.ref fI))) (hf:typeIn c.K (.ref fI)=some (.type "function")) (G:Gd c.A (d+1))
  (h:∀ a dd c',Kin c c'→c'.env=c.env→c'.own=c.own→c'.Ok→Gd c'.A d→WF c' (.ref fI) (.raw (.ref a)::Vs) kws (fun V X'=>V=.none∧Q (.raw (.ref a)) X') ⟨(a,.inst C dd [] [])::X.σ,X.m⟩):WF c (.ref C) Vs kws Q X:=by
 intro B S s vs kw ok r rk st
 have X0:=ok.X.keeps st.gr
 obtain ⟨hp,gs,dr,tk,os⟩:=s
 refine make_core (makes_of X0 hm) (looks_findIn X0 hi) (fun self=>bind_fn X0 self hf) (.inl rfl) ?_
 have e1:(hp.push emptyDict).objs.size=hp.objs.size+1:=Heap.size_push _ _
 have ba:=st.bare (a:=hp.objs.size+1) (get?_lt_none (Nat.le_succ _))
 have bd:=st.bare (a:=hp.objs.size) (get?_lt_none (Nat.le_refl _))
 have ha:((hp.push emptyDict).push (instObj C hp.objs.size)).get? (hp.objs.size+1)=some (instObj C hp.objs.size):=by rw [←e1];exact Heap.get?_push_size _ rfl
 have hd:((hp.push emptyDict).push (instObj C hp.objs.size)).get? hp.objs.size=some (dictOf [] 0):=Heap.get?_push_of_some _ (Heap.get?_push_size _ rfl)
 have kp:Keeps hp ((hp.push emptyDict).push (instObj C hp.objs.size)):=(Keeps.push _ _).trans (Keeps.push _ _)
 have st1:St c B S ⟨(hp.objs.size+1,.inst C hp.objs.size [] [])::X.σ,X.m⟩ ⟨(hp.push emptyDict).push (instObj C hp.objs.size),gs,dr,tk,os⟩:=by
  refine (st.grow (s':=⟨(hp.push emptyDict).push (instObj C hp.objs.size),gs,dr,tk,os⟩) kp rfl rfl rfl).addM (mo:=.inst C hp.objs.size [] []) ⟨ha,[],0,hd,rfl,rfl,fun i e k h=>by simp at h,fun i e V h=>by simp at h⟩ (by simp [MO.addrs]) fun b hb=>?_
  simp only [MO.addrs,List.mem_cons,List.not_mem_nil,or_false] at hb
  rcases hb with rfl | rfl
  ·exact ba
  ·exact bd
 let c':Cx:={c with A:=c.A.under (.builtin "type.__call__" ⟨.ref C::vs,kw⟩)}
 have ok':c'.Ok:=⟨ok.X,ok.T,(G.make C vs kw).le rfl,ok.gl,ok.bi,ok.fk,ok.noE,ok.kl,ok.cnd⟩
 have:=h (hp.objs.size+1) hp.objs.size c' ⟨rfl,rfl,rfl,rfl,rfl⟩ rfl rfl ok' (G.make C vs kw) B S _ (.ref (hp.objs.size+1)::vs) kw ok' (.cons (.raw _) r) rk (St.cx (c:=c) rfl rfl rfl st1)
 refine codeAny_mono this fun r s' hz₉=>?_
 obtain ⟨z,zs⟩:=hz₉
 have kso:c.Stays ⟨hp,gs,dr,tk,os⟩ s':=fun a ha o e=>zs a ha o (kp _ _ e)
 rcases r with e | (v | _ | _ | _)<;>first | exact z | exact ⟨z,kso⟩ | exact z.elim | exact z.1.elim | skip
 obtain ⟨S',V,Y,le,rv,st',rfl,q⟩:=z
 refine ⟨rv.none_inv,?_,kso⟩
 exact ⟨S',_,Y,le,.raw _,St.cx (c:=c') rfl rfl rfl st',q⟩
def setKV (x:Str) (V:AV):List Str→List AV→List Str×List AV
 | k::ks,U::vs=>if k=x then (k::ks,V::vs) else (k::(setKV x V ks vs).1,U::(setKV x V ks vs).2)
 | _,_=>([x],[V])
theorem Ents.cons {S:Sto} {e:DictEntry} {es:List DictEntry} {k:Str} {ks:List Str} {V:AV} {vs:List AV} {t:Tok} (hk:e.key=.str k t) (hv:Rep S e.val V) (h:Ents S es ks vs):Ents S (e::es) (k::ks) (V::vs):=by
 refine ⟨by simp [h.lk],by simp [h.lv],fun i e' k' a b=>?_,fun i e' V' a b=>?_⟩
 ·cases i with
  | zero=>simp at a b;subst a b;exact ⟨t,hk⟩
  | succ i=>simp at a b;exact h.key i e' k' a b
 ·cases i with
  | zero=>simp at a b;subst a b;exact hv
  | succ i=>simp at a b;exact h.val i e' V' a b
theorem Ents.put {S:Sto} {x:Str} {hsh:Int} {tk:Tok} {v:Value} {V:AV} (r:Rep S v V):∀ {ks:List Str} {vs:List AV} {es:List DictEntry},Ents S es ks vs→Ents S (putL x hsh (.str x tk) v es) (setKV x V ks vs).1 (setKV x V ks vs).2
 | [],vs,es,h=>by
  obtain ⟨rfl,rfl⟩:=h.nil_inv
  exact .cons (e:=⟨hsh,.str x tk,v⟩) rfl r h
 | k::ks,[],es,h=>by have a:=h.lk;have b:=h.lv;rw [a] at b;simp at b
 | k::ks,U::vs,es,h=>by
  obtain ⟨e,t,tk',rfl,h1,h2,h3⟩:=h.cons_inv
  unfold putL setKV
  have hs:e.key.isStr x=(k==x):=by rw [h1];rfl
  rw [hs]
  by_cases q:k=x
  ·subst q;rw [if_pos (by simp),if_pos rfl];exact .cons (e:=⟨e.hash,e.key,v⟩) h1 r h3
  ·rw [if_neg (by simpa using q),if_neg q];exact .cons h1 h2 (Ents.put r h3)
theorem Ents.look {S:Sto} {x:Str} {ks:List Str} {vs:List AV} {es:List DictEntry} (h:Ents S es ks vs):(getL x es).isSome=true:=by
 by_cases q:x∈ks
 ·induction ks generalizing vs es with
  | nil=>cases q
  | cons k ks ih =>
   cases vs with
   | nil=>have a:=h.lk;have b:=h.lv;rw [a] at b;simp at b
   | cons U vs =>
    obtain ⟨e,t,tk',rfl,h1,h2,h3⟩:=h.cons_inv
    rw [getL_cons x e t k tk' h1]
    split
    ·rfl
    ·rename_i z
     rcases List.mem_cons.mp q with rfl | q
     ·exact absurd rfl z
     ·exact ih h3 q
 ·rw [h.miss q];rfl
theorem setAttr_raw {P:Program} {w:World} {A:Around} {E:Value→Shared→Prop} {s:Shared} {K:Frag} {x C dx:Addr} {es:List DictEntry} {n:Nat} {name:Str} {v:Value} {R:Unit→Shared→Prop} (X:K.In s.heap) (I:W.InstAt s.heap x (instObj C dx) C (some (dictOf es n)))
  (hs:findIn K (.ref C) "__setattr__" = some (some (.builtin "object.__setattr__"))) (hp:plainOver K C=true) (ht:takerIn K C name=some none) (hh:hasDictIn K C=true) (hl:(getL name es).isSome=true) (hz:es.length≤100)
  (h:∀ h' hsh tk n' t',Heap.SameBut dx s.heap h'→h'.get? dx=some (dictOf (putL name hsh (.str name tk) v es) n')→R () {s with heap:=h',toks:=t'}):wpAny (model P w) A (setAttr (.ref x) name v) R E s:=by
 refine set_plain X I hs (osa_open (s:={s with toks:=s.toks+1}) X I hp ht fun b=>?_)
 obtain ⟨cd,hc,hd'⟩:=any_some hh
 have D:s.heap.get? dx=some (dictOf es n):=I.dict
 have lenP:∀ l:List DictEntry,(putL name (PyData.keyHash w.params name) (.str name (s.toks+1)) v l).length≤l.length+1:=by
  intro l
  induction l with
  | nil=>simp [putL]
  | cons e r ih=>unfold putL;split<;>simp<;>exact (lin2 (.le .v0 (.a .v1 .n1)) [.le .v0 (.a .v1 .n1)]) ih
 have D':(s.heap.update dx (Obj.putName name (PyData.keyHash w.params name) (.str name (s.toks+1)) v)).get? dx=some (dictOf (putL name (PyData.keyHash w.params name) (.str name (s.toks+1)) v es) (putN name es n)):=by
  rw [Heap.get?_update_self _ D (by rw [putName_dict];rfl),putName_dict]
 refine wpAny_bind (wpAny_pure (wpAny_bind (wpAny_bind (wpAny_loadPart I.at_ (wpAny_bind (Looks.here (s:={s with toks:=s.toks+1}) (looks_clsIn X hc) ?_))))))
 rw [hd']
 refine wpAny_pure (a:=some dx) (wpAny_bind (wpAny_pure (wpAny_bind ?_)))
 unfold nsSet
 refine wpAny_bind (wpAny_bind (wpAny_askSetting (wpAny_pure (wpAny_bind (wpAny_mkText (wpAny_bind (wpAny_loadPart D ?_)))))))
 dsimp only
 have c0:(!(es.toArray.any (·.key.isStr name)) && es.toArray.any (·.refKey))=false:=by
  unfold getL at hl
  rw [←Array.any_toList,←Array.any_toList]
  split at hl
  ·rename_i en he
   rw [List.any_eq_true.mpr ⟨en,List.mem_of_find?_eq_some he,List.find?_some he⟩];rfl
  ·split at hl
   ·cases hl
   ·rename_i z;rw [Bool.not_eq_true] at z;rw [z,Bool.and_false]
 rw [aRefKeyMayBeTheName_at,c0]
 refine wpAny_updatePart D ?_
 refine wpAny_bind (wpAny_lookBehind D' (pastItsLine_dict (by rw [List.size_toArray,sizeLine_eq];have:=lenP es;exact (lin2 (.le .v0 (.a (.n (2^24)) .n1)) [.le .v1 (.n 100),.le .v0 (.a .v1 .n1)]) hz this)) ?_)
 exact wpAny_pure (h _ _ _ _ _ (Heap.SameBut.update ..) D')
end
section
variable {c:Cx} {X:AX}
theorem A_attr {o:Expr} {attr:Str} {pos:Pos} {V:AV} {Q:AX→Prop}
  (h:WE c o (fun U X₁=>∃ a C d ks vs σ',U=.raw (.ref a)∧SUpd a (.inst C d ks vs) (.inst C d (setKV attr V ks vs).1 (setKV attr V ks vs).2) X₁.σ σ'∧vs.length≤100 ∧
   findIn c.K (.ref C) "__setattr__" = some (some (.builtin "object.__setattr__"))∧plainOver c.K C=true∧takerIn c.K C attr=some none∧hasDictIn c.K C=true∧Q ⟨σ',X₁.m⟩) X):WA c (.Attribute o attr pos) V Q X:=by
 intro B S s v ok r st
 show wpAny _ _ (do let ov ←holding [v] (eval o c.env);standAt pos.atName;holding [v,ov] (setAttr ov attr v);release [v,ov] []) _ _ _
 refine wpAny_bind (wpAny_holding (wpAny_mono (h B S s ok st) (fun ov s₁ hz₉=>?_) fun _ _ e=>e))
 obtain ⟨S₁,U,X₁,u₁,ru,st₁,a,C,d,ks,vs,σ',eU,hU,hz,h1,h2,h3,h4,q⟩:=hz₉
 subst eU
 rw [ru.raw_inv]
 obtain ⟨g1,es,ep,g2,g3⟩:=st₁.get hU.mem
 refine wpAny_bind (wpAny_standAt (wpAny_bind (wpAny_holding (setAttr_raw (ok.X.keeps st₁.gr) ⟨g1,rfl,rfl,g2⟩ h1 h2 h3 h4 g3.look (by rw [g3.lv];exact hz) fun h' hsh tk n' t' hs e=>?_))))
 have st₂:St c B S₁ ⟨σ',X₁.m⟩ {s₁ with heap:=h',toks:=t'}:=by
  refine st₁.upd hU rfl (fun b o hb e=>?_) ⟨?_,_,n',e,g3.put (r.mono u₁)⟩ rfl rfl rfl
  ·simp only [MO.addrs,List.mem_cons,List.not_mem_nil,or_false,not_or] at hb
   exact (hs.2 b hb.2).trans e
  ·have had:a≠d:=by
    have nd:=st₁.nd
    obtain ⟨pre,post,e1,_⟩:=hU.split
    rw [e1,AX.adr_append,AX.adr_cons] at nd
    have:=(List.nodup_append.mp (List.nodup_append.mp nd).2.1).1
    simpa [MO.addrs] using this
   exact (hs.2 a had).trans g1
 refine (fun Γ p hΓ=>?_:wpAny _ _ _ _ _ _)
 rw [Sem.wp_release]
 exact ⟨S₁,(),_,u₁,rfl,st₂,q⟩
theorem S_assignT {t value pos} {Q:AF→AX→Prop} (h:WE c value (fun V X₁=>WA c t V (fun X₂=>Q .next X₂) X₁) X) (hs:swapsWithSole [t] value pos.line c.env=pure false:=by rfl) (hw:swappedStores [t] value c.env=pure none:=by rfl) (he:(assignEach [t] c.env).map (·.2)=[assign t c.env]:=by rfl):WS c (.Assign [t] value pos) Q X :=
 fun B S s ok st=>wpAny_Assign_stores (wpAny_mono (h B S s ok st) (fun v s₁ ⟨S₁,V,X₁,u₁,r,st₁,h₁⟩=>by
  rw [he]
  show wpAny _ _ (assign t c.env v) _ _ _
  exact wpAny_mono (h₁ B S₁ s₁ v ok r st₁) (fun _ s₂ ⟨S₂,_,X₂,u₂,_,st₂,h₂⟩=>⟨S₂,.next,X₂,u₁.trans u₂,.next,st₂,h₂⟩) fun _ _ e=>e) fun _ _ e=>e) hs hw
end
section
open PySem.Spec PySem.SeqAt
def cutAt (h:Heap) (L:Addr):Heap:=⟨h.objs.extract 0 L,h.life⟩
theorem cutAt_get {h:Heap} {L a:Addr} {o:Obj} (e:(cutAt h L).get? a=some o):h.get? a=some o:=by
 unfold cutAt Heap.get? at e
 unfold Heap.get?
 dsimp only at e
 rw [Array.getElem?_extract] at e
 by_cases q:a<min L h.objs.size-0
 ·rw [if_pos q,Nat.zero_add] at e;exact e
 ·rw [if_neg q] at e;cases e
theorem cutAt_lt {h:Heap} {L a:Addr} {o:Obj} (e:h.get? a=some o) (q:a<L):(cutAt h L).get? a=some o:=by
 have hl:=Heap.lt_size e
 unfold Heap.get? at e
 unfold cutAt Heap.get?
 dsimp only
 rw [Array.getElem?_extract,if_pos (by rw [Nat.sub_zero];exact Nat.lt_min.mpr ⟨q,hl⟩),Nat.zero_add];exact e
section
variable {c:Cx} {X:AX} {Q:AV→AX→Prop} {B:Bg} {S:Sto} {s:Shared}
theorem St.toFr (ok:c.Ok) (st:St c B S X s):∃ h₀ mc,Fr h₀ c.env.locals s.heap mc∧c.K.In h₀:=by
 obtain ⟨mc,n,_⟩:=st.fr
 refine ⟨cutAt s.heap c.env.locals,mc,⟨n,fun b o e=>cutAt_get e,?_⟩,fun a o e=>cutAt_lt ((ok.X.keeps st.gr) a o e) (ok.kl a o e)⟩
 unfold cutAt
 rw [Array.size_extract];exact (lin4 (.le .v0 .v2) [.or (.an (.le .v2 .v3) (.eq .v1 .v2)) (.an (.lt .v3 .v2) (.eq .v1 .v3)),.sb .v0 .v1 .n0]) (mnc (c.env.locals) (s.heap.objs.size)) (sbc (min c.env.locals s.heap.objs.size) (0))
theorem IsInst.type {V:AV} {v:Value} {C:Addr} {ks:List Str} {vs:List AV} (h:IsInst X V C ks vs) (st:St c B S X s) (r:Rep S v V):∀ M,Looks M s.heap (typeOf v) (.ref C):=fun M=>by
 obtain ⟨a,d,es,ep,rfl,I,_⟩:=h.at st r
 exact InstAt.type I
theorem O_cmp {op:CmpOp} {V U:AV} {C C' f:Addr} {ks ks':List Str} {vs vs':List AV} (hi:IsInst X V C ks vs) (hi':IsInst X U C' ks' vs') (hn:notFirst c.K C (.ref C')=true) (hs:findIn c.K (.ref C) (cmpInfo op).2.1=some (some (.ref f))) (hf:isFn c.K (.ref f)=true)
  (hop:∀ a b,compareOp op a b=richCompare op a b) (h:WF c (.ref f) [V,U] [] (fun W X'=>∃ b,W=.bool b∧Q (.bool b) X') X):W2 c Rep V U (compareOp op) Q X:=by
 intro B S s v u ok r₁ r₂ st
 have ht:=hi'.type st r₂
 obtain ⟨a,d,es,ep,rfl,I,_⟩:=hi.at st r₁
 obtain ⟨h₀,mc,F,X₀⟩:=st.toFr ok
 rw [hop]
 refine cmp_K ok.G.units F X₀ I (ht _) hn hs hf (wpAny_call (codeAny_mono (h B S s [_,u] [] ok (.cons r₁ (.cons r₂ .nil)) .nil st) fun r s' z=>?_))
 replace z:=z.1
 rcases r with e | (v | _ | _ | _)<;>first | exact z | exact z.elim | skip
 obtain ⟨S',W,X',le,rw',st',b,rfl,q⟩:=z
 rw [rw'.bool_inv]
 exact ⟨S',.bool b,X',le,.bool b,st',q⟩
abbrev AV.ints (ns:List Int):AV:=.lst (ns.map .int)
theorem Reps.ints {vs:List Value}:∀ {ns:List Int},Reps S vs (ns.map .int)→IntsAre vs ns:=by
 intro ns
 induction ns generalizing vs with
 | nil=>intro h;rw [h.nil_inv];exact .nil
 | cons n r ih =>
  intro h
  obtain ⟨v,t,rfl,r1,r2⟩:=h.cons_inv
  obtain ⟨tk,rfl⟩:=r1.int_inv
  exact .cons n tk (ih r2)
theorem O_eqInts {ns ms:List Int} (G:Gd c.A 8) (h:Q (.bool (decide (ns=ms))) X):W2 c Rep (.ints ns) (.ints ms) (compareOp .Eq) Q X:=by
 intro B S s v u ok r₁ r₂ st
 obtain ⟨a,vs,n,rfl,h1,h2⟩:=r₁.lst_inv
 obtain ⟨b,us,k,rfl,g1,g2⟩:=r₂.lst_inv
 exact eq_intsK ⟨_,st.sto _ _ h1,rfl,n,rfl⟩ h2.ints ⟨_,st.sto _ _ g1,rfl,k,rfl⟩ g2.ints (by have:=G.un;exact (lin2 (.lt (.a .v0 (.n 64)) .v1) [.lt (.a (.a .v0 (.l 8 (.n 8))) (.n 8)) .v1]) this) ⟨S,_,X,.rfl,.bool _,st,h⟩
theorem O_neInts {ns ms:List Int} (G:Gd c.A 8) (h:Q (.bool (!decide (ns=ms))) X):W2 c Rep (.ints ns) (.ints ms) (compareOp .NotEq) Q X:=by
 intro B S s v u ok r₁ r₂ st
 obtain ⟨a,vs,n,rfl,h1,h2⟩:=r₁.lst_inv
 obtain ⟨b,us,k,rfl,g1,g2⟩:=r₂.lst_inv
 exact ne_intsK ⟨_,st.sto _ _ h1,rfl,n,rfl⟩ h2.ints ⟨_,st.sto _ _ g1,rfl,k,rfl⟩ g2.ints (by have:=G.un;exact (lin2 (.lt (.a .v0 (.n 64)) .v1) [.lt (.a (.a .v0 (.l 8 (.n 8))) (.n 8)) .v1]) this) ⟨S,_,X,.rfl,.bool _,st,h⟩
end
end
def aboveOf (h:Heap) (L:Addr):List (Addr×Obj):=(List.range h.objs.size).filterMap fun b=>if L<b then (h.get? b).map fun o=>(b,o) else none
theorem mem_above {h:Heap} {L b:Addr} {o:Obj}:(b,o)∈aboveOf h L↔L<b∧h.get? b=some o:=by
 unfold aboveOf
 rw [List.mem_filterMap]
 constructor
 ·rintro ⟨x,hx,e⟩
  split at e
  ·rename_i q
   obtain ⟨p,hp,e⟩:=Option.map_eq_some_iff.mp e
   cases e;exact ⟨q,hp⟩
  ·cases e
 ·rintro ⟨q,e⟩
  exact ⟨b,List.mem_range.mpr (Heap.lt_size e),by rw [if_pos q,e];rfl⟩
section
variable {c:Cx} {X:AX} {B:Bg} {S:Sto} {s:Shared}
structure Opened (c:Cx) (B:Bg) (S:Sto) (X:AX) (s:Shared) (h₀:Heap) (mc:Str→Option Value) (full:List (Addr×Obj)):Prop where
 F:Fr h₀ c.env.locals s.heap mc
 K:c.K.In h₀
 N:News h₀ c.env.locals s.heap full
 all:∀ b o,s.heap.get? b=some o→b≠c.env.locals→h₀.get? b=some o∨(b,o)∈full
 fit:∀ p∈full,s.heap.get? p.1=some p.2
 low:∀ b o,h₀.get? b=some o→s.heap.get? b=some o
theorem St.opened (ok:c.Ok) (st:St c B S X s):∃ h₀ mc,Opened c B S X s h₀ mc (aboveOf s.heap c.env.locals)∧∀ x V,X.m.lookup x=some V→∃ v,Rep S v V∧Var c B s.heap mc x v:=by
 obtain ⟨mc,n,f⟩:=st.fr
 have low:∀ b o,(cutAt s.heap c.env.locals).get? b=some o→s.heap.get? b=some o:=fun b o e=>cutAt_get e
 have sz:(cutAt s.heap c.env.locals).objs.size≤c.env.locals:=by unfold cutAt;rw [Array.size_extract];exact (lin4 (.le .v0 .v2) [.or (.an (.le .v2 .v3) (.eq .v1 .v2)) (.an (.lt .v3 .v2) (.eq .v1 .v3)),.sb .v0 .v1 .n0]) (mnc (c.env.locals) (s.heap.objs.size)) (sbc (min c.env.locals s.heap.objs.size) (0))
 refine ⟨cutAt s.heap c.env.locals,mc,⟨⟨n,low,sz⟩,fun a o e=>cutAt_lt ((ok.X.keeps st.gr) a o e) (ok.kl a o e),fun p hp=>?_,fun b o e ne=>?_,fun p hp=>(mem_above.mp hp).2,low⟩,f⟩
 ·obtain ⟨q,e⟩:=mem_above.mp hp
  refine ⟨e,Nat.ne_of_gt q,get?_lt_none (Nat.le_trans sz (Nat.le_of_lt q))⟩
 ·rcases Nat.lt_or_ge b c.env.locals with q | q
  ·exact .inl (cutAt_lt e q)
  ·exact .inr (mem_above.mpr ⟨Nat.lt_of_le_of_ne q (Ne.symm ne),e⟩)
theorem Opened.back {h₀:Heap} {mc:Str→Option Value} {full:List (Addr×Obj)} (O:Opened c B S X s h₀ mc full) (st:St c B S X s) (f:∀ x V,X.m.lookup x=some V→∃ v,Rep S v V∧Var c B s.heap mc x v) {h':Heap} {tk:Nat} (hw:c.env.locals∈c.own) (F:Fr h₀ c.env.locals h' mc) (N:News h₀ c.env.locals h' full):St c B S X {s with heap:=h',toks:=tk}:=by
 have k:KeepsBut [c.env.locals] s.heap h':=fun b o q e=>(O.all b o e (fun z=>q (List.mem_singleton.mpr z))).elim (F.keep b o) fun z=>N.get z
 have ne:∀ b,b∈[c.env.locals]→b=c.env.locals:=fun b q=>List.mem_singleton.mp q
 have sp:=st.sep _ (.inl hw)
 refine ⟨st.loc,fun b o e=>k b o (fun q=>?_) (st.gr b o e),fun b o e=>k b o (fun q=>?_) (st.base b o e),fun b o e=>k b o (fun q=>?_) (st.sto b o e),st.cel.store k,⟨mc,F.ns,fun x V e=>?_⟩,fun p hp=>(st.mu p hp).mono .rfl fun b hb o e=>k b o (fun q=>?_) e,st.nd,st.sep,st.dis,fun a ha=>?_,st.prot,st.pin,st.os,st.gens,st.drawn⟩
 ·rw [ne b q,sp.1] at e;cases e
 ·rw [ne b q] at e;exact sp.2.1 o e
 ·rw [ne b q] at e;exact sp.2.2 o e
 ·obtain ⟨v,r,y⟩:=f x V e
  exact ⟨v,r,y.store k rfl⟩
 ·rw [ne b q] at hb;exact st.dis _ hw (AX.mem_adr hp hb)
 ·by_cases q:a=c.env.locals
  ·subst q
   obtain ⟨o,es,ep,h1,_⟩:=F.ns
   exact ⟨o,h1⟩
  ·obtain ⟨o,e⟩:=st.dom a ha
   exact ⟨o,k a o (fun z=>q (ne a z)) e⟩
end
theorem one_arg {S:Sto} {vs:List Value} {V:AV} (r:Reps S vs [V]):∃ v,vs=[v]∧Rep S v V:=by
 obtain ⟨v,t,rfl,r1,r2⟩:=r.cons_inv
 cases r2.nil_inv;exact ⟨v,rfl,r1⟩
theorem two_args {S:Sto} {vs:List Value} {V U:AV} (r:Reps S vs [V,U]):∃ v u,vs=[v,u]∧Rep S v V∧Rep S u U:=by
 obtain ⟨v,t,rfl,r1,r2⟩:=r.cons_inv
 obtain ⟨u,rfl,r3⟩:=one_arg r2
 exact ⟨v,u,rfl,r1,r3⟩
theorem no_kw {S:Sto} {kw:List (Str×Value)} (rk:RepK S kw []):kw=[]:=by have:=rk.1;simpa using this
section
variable {c:Cx} {X:AX} {Q:AV→AX→Prop}
theorem O_addL {xs ys:List AV} (hz:xs.length+ys.length≤1000000) (h:Q (.lst (xs++ys)) X) (hw:c.env.locals∈c.own:=by first | assumption | exact List.mem_cons_self):W2 c Rep (.lst xs) (.lst ys) (binaryOp .Add) Q X:=by
 intro B S s v u ok r₁ r₂ st
 obtain ⟨a,vs,n,rfl,h1,h2⟩:=r₁.lst_inv
 obtain ⟨b,us,k,rfl,g1,g2⟩:=r₂.lst_inv
 obtain ⟨h₀,mc,O,f⟩:=st.opened ok
 refine add_lists (hsz:=by rw [sizeLine_eq,h2.1,g2.1];exact (lin2 (.le (.a .v0 .v1) (.n (2^24))) [.le (.a .v0 .v1) (.n 1000000)]) hz) O.F O.N ⟨_,st.sto _ _ h1,rfl,n,rfl⟩ ⟨_,st.sto _ _ g1,rfl,k,rfl⟩ fun h' F' N'=>?_
 have st':=O.back (tk:=s.toks) st f hw F' (fun p hp=>N' p (.tail _ hp))
 have hn:=(N' _ (.head _)).1
 have b:=st.bare (get?_lt_none (Nat.le_refl s.heap.objs.size))
 refine ⟨S.put s.heap.objs.size (seqObj "list" (vs++us).toArray 0),.lst (xs++ys),X,Sto.put_le _ _ _,.lst' (Sto.put_self _ _ _) ((h2.append g2).mono (Sto.put_le _ _ _)),st'.addS (Sto.put_le _ _ _) fun a o e=>e.imp id fun q=>?_,h⟩
 rw [q.1,q.2];exact ⟨hn,b.own,b.adr,b.prot⟩
theorem B_isi {V:AV} {C C':Addr} {ks:List Str} {vs:List AV} (hi:IsInst X V C ks vs) (e:isIn c.K (.ref C) C'=true) (h:Q (.bool true) X):WC c (.builtin "isinstance") [V,.raw (.ref C')] [] Q X:=by
 intro B S s us kw ok r rk st
 obtain ⟨v,u,rfl,r1,r2⟩:=two_args r
 cases no_kw rk
 rw [r2.raw_inv]
 have ht:=hi.type st r1
 obtain ⟨a,d,es,ep,rfl,I,_⟩:=hi.at st r1
 exact isi_call (ok.X.keeps st.gr) ht e (by intro e;cases e) ⟨S,_,X,.rfl,.bool _,st,h⟩
theorem B_isnot {V:AV} {C C':Addr} {ks:List Str} {vs:List AV} (hi:IsInst X V C ks vs) (e:kin_not c.K C C'=true) (hg:plainGet c.K C "__class__" = true) (hdct:hasDictIn c.K C=true) (ha:findIn c.K (.ref C) "__class__" = some (some (.builtin "object.__class__")))
  (hn:specialIn c.K (.builtin "object.__class__") "__get__" = some (some (.builtin "getset_descriptor.__get__"))) (htk:takesIn c.K (.builtin "object.__class__")=some true) (hm:mroIn c.K C (.type "object")=some true) (h:Q (.bool false) X):WC c (.builtin "isinstance") [V,.raw (.ref C')] [] Q X:=by
 intro B S s us kw ok r rk st
 obtain ⟨v,u,rfl,r1,r2⟩:=two_args r
 cases no_kw rk
 rw [r2.raw_inv]
 obtain ⟨a,d,es,ep,rfl,I,_⟩:=hi.at st r1
 exact kin_callC (ok.X.keeps st.gr) I e hg hdct ha hn htk hm ⟨S,_,X,.rfl,.bool _,st.toks _,h⟩
theorem B_isintnot {n:Int} {C':Addr} (e:isNotIn c.K "int" C'=true) (h:Q (.bool false) X):WC c (.builtin "isinstance") [.int n,.raw (.ref C')] [] Q X:=by
 intro B S s us kw ok r rk st
 obtain ⟨v,u,rfl,r1,r2⟩:=two_args r
 cases no_kw rk
 rw [r2.raw_inv]
 obtain ⟨t,rfl⟩:=r1.int_inv
 exact isn_call (P:=fun _=>True) (ok.X.keeps st.gr) (fun M=>Looks.of_pure rfl) e (by intro e;cases e) trivial int_cls ⟨S,_,X,.rfl,.bool _,st.toks _,h⟩
end
section
variable {c:Cx} {X:AX} {Q:AV→AX→Prop} {B:Bg} {S:Sto} {s:Shared}
theorem seqIndex_at {xs:List AV} {i:Int} {V:AV} (hz:xs.length<2^62) (h:atI xs i=some V):∃ k,seqIndex? i xs.length=some k∧xs[k]?=some V∧-2^63≤i∧i<2^63:=by
 unfold atI at h
 unfold seqIndex?
 split at h
 ·rename_i h0
  have hl:=(List.getElem?_eq_some_iff.mp h).1
  refine ⟨i.toNat,?_,h,by exact (lin [] [_] (.zl (.g (.n (2^63))) .v0) [.zl .n0 .v0]) h0,by exact (lin [_,_] [_] (.zt .v0 (.n (2^63))) [.lt .v0 (.n (2^62)),.lt .v1 .v0,.or (.an (.zl .n0 .v0) (.ze (.c .v1) .v0)) (.an (.zt .v0 .n0) (.eq .v1 .n0))]) hz hl (tnc _)⟩
  have e:¬i<0:=by exact (lin [] [_] (.no (.zt .v0 .n0)) [.zl .n0 .v0]) h0
  simp only [e,if_false]
  rw [if_pos (by simp only [Bool.and_eq_true,decide_eq_true_eq];exact (lin [_,_] [_] (.an (.zl .n0 .v0) (.zt .v0 (.c .v0))) [.zl .n0 .v0,.lt .v1 .v0,.or (.an (.zl .n0 .v0) (.ze (.c .v1) .v0)) (.an (.zt .v0 .n0) (.eq .v1 .n0))]) h0 hl (tnc _))]
 ·split at h
  ·rename_i h0 h1
   have hl:=(List.getElem?_eq_some_iff.mp h).1
   refine ⟨(i+xs.length).toNat,?_,h,by exact (lin [_] [_] (.zl (.g (.n (2^63))) .v0) [.lt .v0 (.n (2^62)),.zl (.g (.c .v0)) .v0]) hz h1,by exact (lin [] [_] (.zt .v0 (.n (2^63))) [.no (.zl .n0 .v0)]) h0⟩
   have e:i<0:=by exact (lin [] [_] (.zt .v0 .n0) [.no (.zl .n0 .v0)]) h0
   simp only [e,if_true]
   rw [if_pos (by simp only [Bool.and_eq_true,decide_eq_true_eq];exact (lin [_] [_] (.an (.zl .n0 (.a .v0 (.c .v0))) (.zt (.a .v0 (.c .v0)) (.c .v0))) [.no (.zl .n0 .v0),.zl (.g (.c .v0)) .v0]) h0 h1)]
  ·cases h
theorem Su_tup {value slice:Expr} {xs:List AV} {i:Int} {V:AV} (hx:atI xs i=some V) (hz:xs.length<2^62) (h:Q V X) (hs:∀ o i,subscripted slice false o i=operate [o,i] (getItem o i):=by intro _ _;rfl):W2 c Rep (.tup xs) (.int i) (subscriptTail value slice) Q X:=by
 intro B S s v u ok r₁ r₂ st
 obtain ⟨a,vs,n,rfl,h1,h2⟩:=r₁.tup_inv
 obtain ⟨t,rfl⟩:=r₂.int_inv
 obtain ⟨k,e1,e2,e3,e4⟩:=seqIndex_at hz hx
 obtain ⟨w,hw,rw'⟩:=h2.at e2
 unfold subscriptTail getitemInPython
 refine wpAny_bind (wpAny_bind (wpAny_specialOf (T := "tuple") ⟨_,st.sto _ _ h1,rfl⟩ slot_tuple_getitem.lookup ?_))
 refine wpAny_pure ?_
 rw [hs]
 exact wpAny_bind (wpAny_operateT (PySem.P.getItem_tuple (items:=vs.toArray) (st.sto _ _ h1) e3 e4 (by rw [List.size_toArray,h2.1];exact e1) (by simpa using hw) (wpAny_bind (wpAny_letTemporaryGo (wpAny_pure ⟨S,V,X,.rfl,rw',st,h⟩)))))
end
section
variable {c:Cx} {X:AX} {B:Bg} {S:Sto} {s:Shared}
theorem letgo_plain {P:Program} {w:World} {A:Around} {E:Value→Shared→Prop} {I:Addr} {o:Obj} {T:String} {vs:Array Value} {target:Expr} {v:Value} {Q:Unit→Shared→Prop} (ho:s.heap.get? I=some o) (hc:o.cls=.type T) (hd:o.data=.fields vs)
  (hT:(["enumerate", "zip", "dict_itemiterator", "dict_reverseitemiterator", "odict_iterator", "itertools.zip_longest", "itertools.pairwise"].contains T)=false) (h:Q () s):wpAny (model P w) A (letOwnedTupleGo target (.ref I) v) Q E s:=by
 unfold letOwnedTupleGo
 split
 ·split
  ·rename_i r a e1
   cases e1
   refine wpAny_bind (wpAny_load ho ?_)
   rw [hc,hd]
   exact wpAny_ite (by rw [hT,Bool.false_and,if_neg (by decide)];exact wpAny_pure h)
  ·exact wpAny_pure h
 ·split
  ·rename_i r a e1
   cases e1
   refine wpAny_bind (wpAny_load ho ?_)
   rw [hc,hd]
   exact wpAny_ite (by rw [hT,Bool.false_and,if_neg (by decide)];exact wpAny_pure h)
  ·exact wpAny_pure h
 ·exact wpAny_pure h
inductive JT (I t:Addr) (xs:List AV) (ys:List AV) (S:Sto) (h:Heap):Prop
 | mk (o:Obj) (i:Nat) (vs:List Value) (n:Nat) (h1:h.get? I=some o) (h2:o.cls=.type "tuple_iterator") (h3:o.data=.fields #[.ref t,.int (i:Nat) 0]) (h4:S t (seqObj "tuple" vs.toArray n)) (h5:Reps S vs xs) (h6:xs.drop i=ys)
def upto (n:Nat):List AV:=(List.range n).map fun (i:Nat)=>.int (i:Int)
def JR (I:Addr) (n:Nat) (ys:List AV) (S:Sto) (h:Heap):Prop:=∃ i:Nat,i≤n∧IsRangeIter h I i ((n:Int)-i) 1∧(upto n).drop i=ys
theorem upto_drop {n i:Nat} {x:AV} {ys:List AV} (h:(upto n).drop i=x::ys):i<n∧x=.int i∧(upto n).drop (i+1)=ys:=by
 have h1:(upto n)[i]?=some x:=by rw [←List.head?_drop,h];rfl
 have hl:=(List.getElem?_eq_some_iff.mp h1).1
 have hl:i<n:=by simpa [upto] using hl
 refine ⟨hl,?_,by rw [←List.tail_drop,h];rfl⟩
 simp [upto,hl] at h1
 exact h1.symm
theorem itr_rng {target:Expr} {I:Addr} {n:Nat}:Itr c target (.ref I) [I] (JR I n) (fun _ _=>True) where
 dom:=by
  rintro ys S h ⟨i,_,h1,_⟩ a ha
  rw [List.mem_singleton.mp ha];exact ⟨_,h1⟩
 keep:=by
  rintro ys S S' h h' ⟨i,h0,h1,h2⟩ le k
  exact ⟨i,h0,k I (.head _) _ h1,h2⟩
 done:=fun _ _ _ _=>trivial
 self:=by
  rintro B S X s ys R F st ⟨i,h0,h1,h2⟩ h
  exact wpAny_pyIter_slot (T := "range_iterator") ⟨_,h1,rfl⟩ PySem.F.slot_range_iterator_iter (wpAny_call_entry PySem.F.slot_range_iterator_iter ⟨_,h1,rfl⟩ PySem.F.entry_range_iterator_iter (wpAny_pure ⟨_,rfl, "range_iterator", _,⟨_,h1,rfl⟩,PySem.F.slot_range_iterator_next.lookup,h⟩) (PySem.F.args_range_iterator_iter_1 _))
 next:=by
  rintro B S X s x ys ok st hb ⟨i,h0,h1,h2⟩
  obtain ⟨hl,rfl,hd⟩:=upto_drop h2
  refine wpAny_pyNext_range_item h1 (by exact (lin2 (.zt .n0 (.s (.c .v0) (.c .v1))) [.lt .v1 .v0]) hl) fun h' hit hs=>?_
  have hit:IsRangeIter h' I ((i+1:Nat):Int) ((n:Int)-((i+1:Nat):Int)) 1:=by
   have e:(n:Int)-((i+1:Nat):Int)=(n:Int)-(i:Int)-1:=by exact lin2 (.ze (.s (.c .v0) (.c (.a .v1 .n1))) (.s (.s (.c .v0) (.c .v1)) .n1)) []
   rw [e];exact hit
  have st':St c B S X {s with heap:=h',toks:=s.toks+1}:=(st.same hs (hb I (.head _))).toks _
  exact ⟨_,rfl,letgo_plain (s:={s with heap:=h',toks:=s.toks+1}) hit rfl rfl (by decide) ⟨S,.rfl,.int _ _,st',hb,i+1,by exact (lin2 (.le (.a .v0 .n1) .v1) [.lt .v0 .v1]) hl,hit,hd⟩⟩
 stop:=by
  rintro B S X s ok st hb ⟨i,h0,h1,h2⟩
  have hl:=List.drop_eq_nil_iff.mp h2
  have hl:n≤i:=by simpa [upto] using hl
  refine wpAny_pyNext_range_end ok.G.hd h1 (by exact (lin2 (.zl (.s (.c .v0) (.c .v1)) .n0) [.le .v0 .v1]) hl) fun h' hx=>?_
  exact ⟨rfl,st.extBut hx (hb I (.head _)),trivial⟩
theorem I_rng {target:Expr} {n:Int} {Q:List AV→(AX→AX)→AX→Prop} (hn:0≤n) (hz:n<2^62) (h:Q (upto n.toNat) id X):WI c target (.rng n) Q X:=by
 intro B S s v ok r st
 cases r with
 | rng hr =>
 rename_i a t u w
 have b:=st.bare (get?_lt_none (Nat.le_refl s.heap.objs.size))
 have hsz:Builtin.Range.rangeSize 0 n 1=n:=by
  unfold Builtin.Range.rangeSize
  simp only [show (1:Int) > 0 by decide,if_true]
  split
  ·rw [Int.ediv_one];exact lin [] [_] (.ze (.a (.s (.s .v0 .n0) .n1) .n1) .v0) []
  ·exact (lin [] [_] (.ze .n0 .v0) [.zl .n0 .v0,.no (.zt .n0 .v0)]) hn ‹_›
 refine wpAny_pyIter_range (st.sto _ _ hr) ?_ ?_
 ·unfold Builtin.Range.small
  rw [hsz]
  simp only [Builtin.Range.rangeFitsLong,Bool.and_eq_true,decide_eq_true_eq,Bool.or_eq_true,beq_iff_eq,show (1:Int) > 0 by decide,if_true]
  exact (lin [] [_] (.an (.an (.an (.an (.an (.zl (.g (.n (2^63))) .n0) (.zt .n0 (.n (2^63)))) (.an (.zl (.g (.n (2^63))) .v0) (.zt .v0 (.n (2^63))))) (.an (.zl (.g (.n (2^63))) .n1) (.zt .n1 (.n (2^63))))) (.an (.zl (.g (.n (2^63))) .v0) (.zt .v0 (.n (2^63))))) (.or (.ze .v0 .n0) (.an (.zl (.g (.n (2^63))) (.a .v0 (.s .n1 .n1))) (.zt (.a .v0 (.s .n1 .n1)) (.n (2^63)))))) [.zl .n0 .v0,.zt .v0 (.n (2^62))]) hn hz
 ·rw [hsz]
  refine ⟨S,X,[s.heap.objs.size],JR s.heap.objs.size n.toNat,fun _ _=>True,_,id,.rfl,st.grow (Keeps.push _ _) rfl rfl rfl,fun _ _ _=>itr_rng,fun a ha=>by rw [List.mem_singleton.mp ha];exact b,⟨0,Nat.zero_le _,?_,rfl⟩,fun _ _ _ _ _ st _ _=>st,h⟩
  have e:((n.toNat:Nat):Int)-((0:Nat):Int)=n:=by exact (lin [_] [_] (.ze (.s (.c .v0) (.c .n0)) .v0) [.zl .n0 .v0,.or (.an (.zl .n0 .v0) (.ze (.c .v0) .v0)) (.an (.zt .v0 .n0) (.eq .v0 .n0))]) hn (tnc _)
  unfold IsRangeIter
  rw [e]
  exact Heap.get?_push_size _ rfl
theorem B_range {n:Int} {Q:AV→AX→Prop} (h:Q (.rng n) X):WC c (.type "range") [.int n] [] Q X:=by
 intro B S s us kw ok r rk st
 obtain ⟨v,rfl,r1⟩:=one_arg r
 cases no_kw rk
 obtain ⟨t,rfl⟩:=r1.int_inv
 refine call_range_1 ⟨S.put s.heap.objs.size _,.rng n,X,Sto.put_le _ _ _,.rng (Sto.put_self _ _ _),(st.push _ rfl).toks _,h⟩
end
section
variable {c:Cx} {X:AX} {B:Bg} {S:Sto} {s:Shared}
def numbered (xs:List AV):List AV:=xs.zipIdx.map fun p=>.tup [.int (p.2:Int),p.1]
inductive JE (e it l:Addr) (xs:List AV) (ys:List AV) (S:Sto) (h:Heap):Prop
 | mk (i:Nat) (old:Value) (vs:List Value) (n:Nat) (h1:IsEnum h e it (i:Int) old) (h2:h.IsListIter it l i) (h4:S l (seqObj "list" vs.toArray n)) (h5:Reps S vs xs) (h6:(numbered xs).drop i=ys)
end
def Binds (c:Cx) (fd:FuncData) (Vs:List AV) (kws M:List (Str×AV)):Prop :=
 ∀ (S:Sto) (s:Shared) (vs:List Value) (kw:List (Str×Value)) (A:Around) (E:Value→Shared→Prop) (Q:List (Str×Value)→Shared→Prop),c.K.In s.heap→Reps S vs Vs→RepK S kw kws →
  (∀ binds s' S',S.Le S'→RepK S' binds M→Keeps s.heap s'.heap→s'.os=s.os→s'.gens=s.gens→s'.drawn=s.drawn→(∀ c' B X,St c' B S X s→St c' B S' X s')→Q binds s') →
  wpAny (model c.P c.w) A (bindArgs fd ⟨vs,kw⟩) Q E s
theorem Binds.plain {c:Cx} {fd:FuncData} {Vs:List AV} {kws M:List (Str×AV)} (h:∀ S s vs kw,c.K.In s.heap→Reps S vs Vs→RepK S kw kws→∃ binds,BindsTo s fd ⟨vs,kw⟩ binds∧RepK S binds M):Binds c fd Vs kws M:=by
 intro S s vs kw A E Q X r rk q
 obtain ⟨binds,b,k⟩:=h S s vs kw X r rk
 exact b _ _ _ _ (q binds s S .rfl k .rfl rfl rfl rfl fun _ _ _ st=>st)
theorem peek1_at {α:Type} {K:Frag} {M:Model} {A:Around} {E:Value→Shared→Prop} {Q:α→Shared→Prop} {s:Shared} {o:Obj} {r:Addr→α} (X:K.In s.heap)
  (q:Q (r s.heap.objs.size) {s with heap:=s.heap.push o}) :
  ∀ (t:Sem α) (g:Addr→Option α),peek1 K ⟨M.prog,M.w.params⟩ t=some (o,g)→(∀ D,g D=some (r D))→wpAny M A t Q E s:=by
 intro t
 induction t with
 | rule _ k ih=>intro g e hg Γ p hΓ;exact ih () g e hg Γ p hΓ
 | point _ k ih=>intro g e hg Γ p hΓ;exact ih () g e hg Γ p hΓ
 | ask k ih=>intro g e hg Γ p hΓ;exact ih _ g e hg Γ p hΓ
 | load a _ k ih =>
  intro g e hg Γ p hΓ
  simp only [peek1] at e
  split at e
  ·rename_i ob ho;exact ⟨ob,X _ _ ho,ih ob g e hg Γ p hΓ⟩
  ·cases e
 | alloc ob k _ =>
  intro g e hg
  have e:some (ob,fun D=>peek K ⟨M.prog,M.w.params⟩ (k D))=some (o,g):=e
  obtain ⟨e1,e2⟩:=Prod.mk.inj (Option.some.inj e)
  subst e1
  subst e2
  show wpAny M A (alloc ob >>= k) Q E s
  refine wpAny_bind (wpAny_alloc ?_)
  exact (Looks.of_peek (M:=M) (h:=s.heap.push ob) (X.keeps (Keeps.push _ _)) (hg s.heap.objs.size)).here (s:={s with heap:=s.heap.push ob}) q
 | _=>intro g e;cases e
theorem Binds.star {c:Cx} {fd:FuncData} {Vs:List AV} {kws M:List (Str×AV)} (rest:List Value→List Value) (binds:List Value→List (Str×Value)→Addr→List (Str×Value))
  (h:∀ S vs kw,Reps S vs Vs→RepK S kw kws→(∃ g₁,peek1 c.K ⟨c.P,c.w.params⟩ (bindArgs fd ⟨vs,kw⟩)=some (({cls:=.type "tuple", data:=.seq (rest vs).toArray}:Obj),g₁)∧∀ D,g₁ D=some (binds vs kw D)) ∧
   ∀ D S',S.Le S'→S' D (seqObj "tuple" (rest vs).toArray 0)→RepK S' (binds vs kw D) M):Binds c fd Vs kws M:=by
 intro S s vs kw A E Q X r rk q
 obtain ⟨⟨g₁,h1,h2⟩,h3⟩:=h S vs kw r rk
 obtain ⟨hp,gs,dr,tk,os⟩:=s
 exact peek1_at (r:=binds vs kw) (s:=⟨hp,gs,dr,tk,os⟩) X (q _ _ _ (Sto.put_le _ _ _) (h3 _ _ (Sto.put_le _ _ _) (Sto.put_self _ _ _)) (Keeps.push _ _) rfl rfl rfl fun c' B Y st=>st.push _ rfl) _ g₁ h1 h2
section
variable {c:Cx} {fd:FuncData} {x y z u:Str} {V U W T:AV} {M:List (Str×AV)}
theorem bind1 (e:∀ s v,c.K.In s.heap→BindsTo s fd ⟨[v],[]⟩ [(x,v)]):Binds c fd [V] [] [(x,V)]:=.plain fun S s vs kw X r rk=>by
 obtain ⟨v,rfl,h⟩:=one_arg r
 rw [no_kw rk]
 exact ⟨_,e s v X,rfl,.cons h .nil⟩
theorem bind2 (e:∀ s v u,c.K.In s.heap→BindsTo s fd ⟨[v,u],[]⟩ [(x,v),(y,u)]):Binds c fd [V,U] [] [(x,V),(y,U)]:=.plain fun S s vs kw X r rk=>by
 obtain ⟨v,u,rfl,h,k⟩:=two_args r
 rw [no_kw rk]
 exact ⟨_,e s v u X,rfl,.cons h (.cons k .nil)⟩
theorem three_args {S:Sto} {vs:List Value} {V U W:AV} (r:Reps S vs [V,U,W]):∃ v u w,vs=[v,u,w]∧Rep S v V∧Rep S u U∧Rep S w W:=by
 obtain ⟨v,r',rfl,h,k⟩:=r.cons_inv
 obtain ⟨u,w,rfl,h2,h3⟩:=two_args k
 exact ⟨v,u,w,rfl,h,h2,h3⟩
theorem bind3 (e:∀ s v u w,c.K.In s.heap→BindsTo s fd ⟨[v,u,w],[]⟩ [(x,v),(y,u),(z,w)]):Binds c fd [V,U,W] [] [(x,V),(y,U),(z,W)]:=.plain fun S s vs kw X r rk=>by
 obtain ⟨v,u,w,rfl,h,k,l⟩:=three_args r
 rw [no_kw rk]
 exact ⟨_,e s v u w X,rfl,.cons h (.cons k (.cons l .nil))⟩
theorem bind2d {d:Value} (e:∀ s v u,c.K.In s.heap→BindsTo s fd ⟨[v,u],[]⟩ [(x,v),(y,u),(z,d)]) (hd:∀ S,Rep S d W):Binds c fd [V,U] [] [(x,V),(y,U),(z,W)]:=.plain fun S s vs kw X r rk=>by
 obtain ⟨v,u,rfl,h,k⟩:=two_args r
 rw [no_kw rk]
 exact ⟨_,e s v u X,rfl,.cons h (.cons k (.cons (hd _) .nil))⟩
theorem bindS0 (e:∀ v,∃ g₁,peek1 c.K ⟨c.P,c.w.params⟩ (bindArgs fd ⟨[v],[]⟩)=some (({cls:=.type "tuple", data:=.seq [].toArray}:Obj),g₁)∧∀ D,g₁ D=some [(x,v),(y,.ref D)]):Binds c fd [V] [] [(x,V),(y,.tup [])] :=
 .star (fun _=>[]) (fun vs _ D=>match vs with | [v]=>[(x,v),(y,.ref D)] | _=>[]) fun S vs kw r rk=>by
  obtain ⟨v,rfl,h⟩:=one_arg r
  rw [no_kw rk]
  exact ⟨e v,fun D S' le hD=>⟨rfl,.cons (h.mono le) (.cons (.tup' hD .nil) .nil)⟩⟩
theorem bindS1 (e:∀ v u,∃ g₁,peek1 c.K ⟨c.P,c.w.params⟩ (bindArgs fd ⟨[v,u],[]⟩)=some (({cls:=.type "tuple", data:=.seq [u].toArray}:Obj),g₁)∧∀ D,g₁ D=some [(x,v),(y,.ref D)]):Binds c fd [V,U] [] [(x,V),(y,.tup [U])] :=
 .star (fun vs=>vs.drop 1) (fun vs _ D=>match vs with | v::_=>[(x,v),(y,.ref D)] | _=>[]) fun S vs kw r rk=>by
  obtain ⟨v,u,rfl,h,k⟩:=two_args r
  rw [no_kw rk]
  exact ⟨e v u,fun D S' le hD=>⟨rfl,.cons (h.mono le) (.cons (.tup' hD (.cons (k.mono le) .nil)) .nil)⟩⟩
theorem bindS2 (e:∀ v u w,∃ g₁,peek1 c.K ⟨c.P,c.w.params⟩ (bindArgs fd ⟨[v,u,w],[]⟩)=some (({cls:=.type "tuple", data:=.seq [u,w].toArray}:Obj),g₁)∧∀ D,g₁ D=some [(x,v),(y,.ref D)]):Binds c fd [V,U,W] [] [(x,V),(y,.tup [U,W])] :=
 .star (fun vs=>vs.drop 1) (fun vs _ D=>match vs with | v::_=>[(x,v),(y,.ref D)] | _=>[]) fun S vs kw r rk=>by
  obtain ⟨v,u,w,rfl,h,k,l⟩:=three_args r
  rw [no_kw rk]
  exact ⟨e v u w,fun D S' le hD=>⟨rfl,.cons (h.mono le) (.cons (.tup' hD (.cons (k.mono le) (.cons (l.mono le) .nil))) .nil)⟩⟩
end
theorem bindL_get {kindOf:Str→Option NameKind} {x:Str} (hk:kindOf x=some .local):∀ (binds:List (Str×Value)) (m:Str→Option Value),bindL kindOf binds m x=(binds.reverse.lookup x).or (m x)
 | [],m=>rfl
 | (n,v)::r,m=>by
  unfold bindL
  rw [bindL_get hk r,List.reverse_cons,List.lookup_append]
  rw [Option.or_assoc]
  congr 1
  rw [List.lookup_cons]
  by_cases hx:x=n
  ·subst hx
   rw [if_pos hk,beq_self_eq_true]
   simp
  ·rw [beq_eq_false_iff_ne.mpr hx]
   simp only [List.lookup_nil,Option.none_or]
   split
   ·exact if_neg hx
   ·rfl
theorem bindC_get {kindOf:Str→Option NameKind} {x:Str} (hk:kindOf x≠some .local):∀ (binds:List (Str×Value)) (m:Str→Option Value),bindC kindOf binds m x=(binds.reverse.lookup x).or (m x)
 | [],m=>rfl
 | (n,v)::r,m=>by
  unfold bindC
  rw [bindC_get hk r,List.reverse_cons,List.lookup_append]
  rw [Option.or_assoc]
  congr 1
  rw [List.lookup_cons]
  by_cases hx:x=n
  ·subst hx
   rw [if_neg hk,beq_self_eq_true]
   simp
  ·rw [beq_eq_false_iff_ne.mpr hx]
   simp only [List.lookup_nil,Option.none_or]
   split
   ·rfl
   ·exact if_neg hx
abbrev ownOf (scope:Scope) (L:Addr):List Addr:=L::(cellsFrom (L+1) scope.names []).map (·.2)
theorem WF.go {c:Cx} {f:Addr} {Vs:List AV} {kws:List (Str×AV)} {Q:AV→AX→Prop} {X:AX} {name qual:Str} {params:Arguments} {body:List Stmt} {scope:Scope} {dV kV doc pm cdv ct oc:Value} {an od:Option Addr} {osl:Array (Option Value)} {d:Nat} (M:List (Str×AV))
  (G:Gd c.A (d+1)) (ho:c.K.lookup f=some ⟨oc,od,.func (fnOf name qual params body scope dV kV doc pm an cdv ct),osl⟩) (hcd:codeIn c.K cdv qual=true)
  (hb:Binds c (fnOf name qual params body scope dV kV doc pm an cdv ct) Vs kws M)
  (hkind:(M.all fun y=>scope.names.lookup y.1==some .local || scope.names.lookup y.1==some .cell)=true)
  (hnd:((cellsFrom 0 scope.names []).map (·.1)).Nodup)
  (hco:scope.isCoroutine=false) (hgen:scope.isGenerator=false) (hk:scope.kind=.function)
  (h:∀ L c',Kin c c'→c'.env=envOfC qual scope L f cdv→c'.own=ownOf scope L→c'.Ok→Gd c'.A d→WSs c' body (fun F X'=>Q F.val ⟨X'.σ,X.m⟩) ⟨X.σ,M.reverse⟩):WF c (.ref f) Vs kws Q X:=by
 intro B S s vs kw ok r rk st
 have X0:=ok.X.keeps st.gr
 obtain ⟨p,loose,mean,mg,mb,T⟩:=ok.T
 have T':=(topRead_of T).keeps st.gr
 refine codeAny_call_function (fd:=fnOf name qual params body scope dV kV doc pm an cdv ct) (body:=body) G.room (X0 _ _ ho) rfl hco hgen rfl (codeRec_of X0 hcd) ?_
 refine hb S s vs kw _ _ _ X0 r rk fun binds s₁ S₁ le hbr ks e1 e2 e3 stUp=>?_
 have st1:=stUp c B X st
 have hkind':(binds.all fun y=>scope.names.lookup y.1==some .local || scope.names.lookup y.1==some .cell)=true:=by
  rw [List.all_eq_true] at hkind ⊢
  intro y hy
  have:y.1∈binds.map (·.1):=List.mem_map_of_mem hy
  rw [hbr.1] at this
  obtain ⟨z,hz,e⟩:=List.mem_map.mp this
  rw [←e];exact hkind z hz
 refine wpAny_newFunctionEnv_cells hk (kindsX hkind' _) fun env' he s' x=>?_
 subst he
 refine ⟨(T'.nolimit.keeps ks).keeps x.toInCall.keep,codeAny_func ?_⟩
 obtain ⟨h₁,tk,rfl,_⟩:=x.done
 have hk₁:Keeps s₁.heap h₁:=x.toInCall.keep
 have xc:=x.cell
 have xa:=x.apart
 have xb:=x.above
 have xn:=x.toInCall.ns
 have hlk:∀ n k,(n,k)∈cellsFrom (s₁.heap.objs.size+1) scope.names []→(cellsFrom (s₁.heap.objs.size+1) scope.names []).lookup n=some k:=fun n k hm=>lookup_of_mem_nodup (cellsFrom_names scope.names 0 (s₁.heap.objs.size+1) [] [] rfl▸hnd) hm
 have okX:(c.callee (envOfC qual scope s₁.heap.objs.size f cdv) (ownOf scope s₁.heap.objs.size)).Ok:=⟨ok.X,ok.T,(G.deeper _).le rfl,rfl,rfl,hk,fun _ _ e=>e,fun a o e=>Heap.lt_size (ks _ _ (X0 a o e)),fun a b k ha hb=>name_of_addr xa (mem_of_lookup ha) (mem_of_lookup hb)⟩
 have stX:St (c.callee (envOfC qual scope s₁.heap.objs.size f cdv) (ownOf scope s₁.heap.objs.size)) (Bg.call c B X s₁ []) S₁ ⟨X.σ,M.reverse⟩ {s₁ with heap:=h₁,toks:=tk}:=by
  refine st1.callIn (ex:=[]) (fun _ h=>nomatch h) hk₁ rfl (.head _) (fun a ha=>?_) (fun a ha=>?_) (fun y k e=>?_) ⟨_,xn,fun y V e=>?_⟩ rfl rfl rfl
  ·rcases List.mem_cons.mp ha with rfl | ha
   ·exact get?_lt_none (Nat.le_refl _)
   ·obtain ⟨q,hq,rfl⟩:=List.mem_map.mp ha
    exact get?_lt_none (Nat.le_of_lt (xb q.1 q.2 hq))
  ·rcases List.mem_cons.mp ha with rfl | ha
   ·obtain ⟨o,_,_,e,_⟩:=xn
    exact ⟨o,e⟩
   ·obtain ⟨q,hq,rfl⟩:=List.mem_map.mp ha
    obtain ⟨o,e,_⟩:=xc q.1 q.2 (hlk _ _ hq)
    exact ⟨o,e⟩
  ·obtain ⟨o,e1,e2⟩:=xc y k e
   exact ⟨Nat.ne_of_gt (xb y k (mem_of_lookup e)),.inl (.tail _ (List.mem_map_of_mem (f:=(·.2)) (mem_of_lookup e))),o,_,e1,e2⟩
  ·obtain ⟨v,h1,h2⟩:=hbr.reverse.lookup e
   refine ⟨v,h2,?_⟩
   obtain ⟨q,hq,rfl⟩:=lookup_mem e
   have hq':=List.all_eq_true.mp hkind (q,V) (List.mem_reverse.mp hq)
   rcases Bool.or_eq_true_iff.mp hq' with k1 | k1
   ·have k2:scope.names.lookup q=some .local:=by simpa using k1
    refine .inl ⟨k2,?_⟩
    rw [bindL_get k2,h1];rfl
   ·have k2:scope.names.lookup q=some .cell:=by simpa using k1
    obtain ⟨k,hk3⟩:=Option.isSome_iff_exists.mp (cellsFrom_some scope.names (s₁.heap.objs.size+1) [] (.inl k2))
    obtain ⟨o,e1,e2⟩:=xc q k hk3
    refine .inr ⟨.inl k2,k,o,hk3,e1,?_,.inl (.tail _ (List.mem_map_of_mem (f:=(·.2)) (mem_of_lookup hk3))),Nat.ne_of_gt (xb q k (mem_of_lookup hk3))⟩
    rw [e2,bindC_get (by show ¬scope.names.lookup q=some .local;rw [k2];decide),h1];rfl
 refine wpAny_mono (h _ (c.callee (envOfC qual scope s₁.heap.objs.size f cdv) (ownOf scope s₁.heap.objs.size)) ⟨rfl,rfl,rfl,rfl,rfl⟩ rfl rfl okX (G.deeper _) _ _ _ okX stX) (fun fl s' hp=>?_) fun _ _ z=>z.elim
 obtain ⟨S',F,X',le',rf,st',q⟩:=hp
 refine ⟨?_,fun a ha o e=>st'.base a o ⟨ks _ _ e,st1.dis a ha,fun h=>nomatch h⟩⟩
 refine ⟨S',F.val,⟨X'.σ,X.m⟩,le.trans le',?_,st1.callOut (ex:=[]) (fun _ h=>nomatch h) le' st',q⟩
 cases rf with
 | ret r=>exact r
 | _=>exact .none
theorem entry_bl:entryFor table "_bisect.bisect_left" = some Builtin.«_bisect.bisect_left»:=entryFor_of_tree (by kernel_rfl)
theorem entry_bloop:entryFor table "_bisect.bisect_right.loop" = some Builtin.«_bisect.bisect_right.loop»:=entryFor_of_tree (by kernel_rfl)
theorem chk_bl (a x:Value):checkBuiltinCall "_bisect.bisect_left" ⟨[a,x],[]⟩=pure ():=by kernel_rfl
theorem chk_blo (a x i:Value):checkBuiltinCall "_bisect.bisect_left" ⟨[a,x],[(Str.ofString "lo", i)]⟩=pure ():=by kernel_rfl
theorem lk_list_len:typeLookup (.type "list") "__len__" = pure (some (.builtin "list.__len__")):=by rw [typeLookup_type,builtinLookup_eq_fast];kernel_rfl
theorem tName_list:typeNameCut 200 (.type "list")=pure "list" := by kernel_rfl
section
variable {prog:Program} {w:World} {A:Around} {E:Value→Shared→Prop} {s:Shared} {a:Addr} {x:Value} {items:Array Value}
theorem shown_list {Q:Value→Shared→Prop} (hl:s.heap.IsList a items) (h:Q (.type "list") s):wpAny (model prog w) A (shownTypeOf (.ref a)) Q E s:=by
 unfold shownTypeOf
 refine wpAny_bind (wpAny_typeOf hl.typeIs ?_)
 simp only [show ((Value.type "list" == Value.type "builtin_function_or_method")=false) from by decide,Bool.false_eq_true,if_false]
 exact wpAny_pure h
theorem cut_list {Q:String→Shared→Prop} (hl:s.heap.IsList a items) (h:Q "list" s):wpAny (model prog w) A (typeNameOfCut 200 (.ref a)) Q E s:=by
 unfold typeNameOfCut
 exact wpAny_bind (shown_list hl (wpAny_of_eq tName_list h))
theorem getI_list {l:Addr} {k:Int} {t:Tok} {v:Value} {Q:Option Value→Shared→Prop} (hl:s.heap.IsList l items)
  (h0:0≤k) (hfit:k<2^63) (hx:items[k.toNat]?=some v) (h:Q (some v) s):wpAny (model prog w) A (callSpecial? (.ref l) (Str.ofString "__getitem__") [.int k t]) Q E s:=by
 obtain ⟨o,ho,hc,ne,hd⟩:=id hl
 refine (wpAny_callSpecial?_slot (name:=Str.ofString "__getitem__") hl.typeIs slot_list_getitem
  (wpAny_call_entry slot_list_getitem hl.typeIs entry_list_getitem ?_ (args_list_getitem _ _)))
 show wpAny _ _ (Builtin.List.listSubscript? (.int k t) >>= _) _ _ s
 refine wpAny_bind (wpAny_listSubscript_int (fitsIndex_of h0 hfit) ?_)
 clear hfit
 obtain ⟨j,rfl⟩:=Int.eq_ofNat_of_zero_le h0
 have hx':items[j]?=some v:=hx
 show wpAny _ _ ((seqItemAt l j >>= fun r=>pure (r.map (j,·))) >>= _) _ _ s
 refine wpAny_bind (wpAny_bind (wpAny_seqItemAt ho hd (wpAny_pure ?_)))
 rw [hx']
 first
  | exact wpAny_bind (wpAny_pure (wpAny_pure ⟨v,rfl,h⟩))
  | exact wpAny_pure ⟨v,rfl,h⟩
theorem len_run {Q:Value→Shared→Prop} (hl:s.heap.IsList a items) (hfit:(items.size:Int)<2^63) (h:Q (.int items.size (s.toks+1)) {s with toks:=s.toks+1+1}) :
  wpAny (model prog w) A (runValue (.builtin "len" ⟨[.ref a],[]⟩)) Q E s:=by
 refine wpAny_runValue (codeAny_builtin entry_len ?_)
 rw [Around.under_plainId plain_len _]
 exact wpAny_mono (wpAny_len_body_list (Q:=Q) hl hfit h) (fun fin s' h'=>by obtain ⟨r,rfl,hq⟩:=h';exact hq) fun _ _ e=>e
abbrev bloop (a:Addr) (x:Value) (lo hi:Int):Code:=.builtin "_bisect.bisect_right.loop" ⟨[.ref a,x,rawInt lo,rawInt hi,.none,.bool false,.bool true,rawInt 0],[]⟩
theorem bl_start {Q:Fin→Shared→Prop} (hl:s.heap.IsList a items) (hfit:(items.size:Int)<2^63) (h:Q (.again (bloop a x 0 items.size)) {s with toks:=s.toks+1+1}):wpAny (model prog w) A (Builtin.«_bisect.bisect_left» ⟨[.ref a,x],[]⟩) Q E s:=by
 unfold Builtin.«_bisect.bisect_left»
 k_delta "bisectStart"
 k_delta "bisectBind"
 refine wpAny_holding (vs:=[x]) ?_
 dsimp only
 rw [if_neg (by decide),if_neg (by decide)]
 refine wpAny_bind ?_
 k_delta "bisectSequence"
 refine wpAny_bind (wpAny_typeOf hl.typeIs (wpAny_bind (cut_list hl ?_)))
 refine wpAny_bind (wpAny_of_eq F.mro_list ?_)
 dsimp only
 rw [if_neg (by decide),if_pos rfl]
 refine wpAny_bind (wpAny_of_eq lk_list_len ?_)
 refine wpAny_pure (wpAny_bind (len_run hl hfit ?_))
 dsimp only
 refine wpAny_bind (wpAny_pure (wpAny_bind ?_))
 have hl':({s with toks:=s.toks+1+1}:Shared).heap.IsList a items:=hl
 refine wpAny_bind (wpAny_typeOf hl'.typeIs (wpAny_bind (cut_list hl' ?_)))
 refine wpAny_bind (wpAny_of_eq F.mro_list ?_)
 dsimp only
 rw [if_neg (by decide),if_neg (by decide)]
 refine wpAny_bind (wpAny_of_eq slot_list_getitem.lookup ?_)
 refine wpAny_pure ?_
 exact wpAny_pure h
theorem blo_start {t:Tok} {lo:Int} {Q:Fin→Shared→Prop} (h0:0≤lo) (h1:lo<2^63) (hl:s.heap.IsList a items) (hfit:(items.size:Int)<2^63) (h:Q (.again (bloop a x lo items.size)) {s with toks:=s.toks+1+1}):wpAny (model prog w) A (Builtin.«_bisect.bisect_left» ⟨[.ref a,x],[(Str.ofString "lo", .int lo t)]⟩) Q E s:=by
 unfold Builtin.«_bisect.bisect_left»
 k_delta "bisectStart"
 k_delta "bisectBind"
 refine wpAny_bind (wpAny_of_eq (a:=(.ref a,x,some (.int lo t),none,none)) (by kernel_rfl) ?_)
 dsimp only
 refine wpAny_bind (wpAny_of_eq (rfl:asIndex (.int lo t)=pure lo) ?_)
 k_delta "bisectFits"
 have e1:decide (-(2^63:Int)≤lo)=true:=decide_eq_true (by exact (lin [] [_] (.zl (.g (.n (2^63))) .v0) [.zl .n0 .v0]) h0)
 have e2:decide (lo<(2:Int)^63)=true:=decide_eq_true h1
 rw [if_neg (by show ¬(!(decide (-(2^63:Int)≤lo) && decide (lo<(2:Int)^63)))=true;rw [e1,e2];decide)]
 refine wpAny_bind (wpAny_pure (wpAny_bind (wpAny_pure ?_)))
 rw [if_neg (by decide)]
 refine wpAny_bind (wpAny_pure (wpAny_holding ?_))
 rw [if_neg (by exact (lin [] [_] (.no (.zt .v0 .n0)) [.zl .n0 .v0]) h0),if_neg (by decide)]
 refine wpAny_bind ?_
 k_delta "bisectSequence"
 refine wpAny_bind (wpAny_typeOf hl.typeIs (wpAny_bind (cut_list hl ?_)))
 refine wpAny_bind (wpAny_of_eq F.mro_list ?_)
 dsimp only
 rw [if_neg (by decide),if_pos rfl]
 refine wpAny_bind (wpAny_of_eq lk_list_len ?_)
 refine wpAny_pure (wpAny_bind (len_run hl hfit ?_))
 dsimp only
 refine wpAny_bind (wpAny_pure (wpAny_bind ?_))
 have hl':({s with toks:=s.toks+1+1}:Shared).heap.IsList a items:=hl
 refine wpAny_bind (wpAny_typeOf hl'.typeIs (wpAny_bind (cut_list hl' ?_)))
 refine wpAny_bind (wpAny_of_eq F.mro_list ?_)
 dsimp only
 rw [if_neg (by decide),if_neg (by decide)]
 refine wpAny_bind (wpAny_of_eq slot_list_getitem.lookup ?_)
 refine wpAny_pure ?_
 exact wpAny_pure h
theorem plain_bl:plainId "_bisect.bisect_left" = true:=by kernel_rfl
theorem plain_bloop:plainId "_bisect.bisect_right.loop" = true:=by kernel_rfl
theorem call_bl {kw:List (Str×Value)} {R:Value→Shared→Prop} (hchk:checkBuiltinCall "_bisect.bisect_left" ⟨[.ref a,x],kw⟩=pure ())
  (h:wpAny (model prog w) A.in1 (Builtin.«_bisect.bisect_left» ⟨[.ref a,x],kw⟩) (fun fin s'=>∃ lo hi,fin=.again (bloop a x lo hi)∧codeAny (model prog w) A (bloop a x lo hi) (fun r s'=>match r with | .ok (.ret v)=>R v s' | .ok _=>False | .error e=>E e s') s') E s) :
  wpAny (model prog w) A (call (.builtin "_bisect.bisect_left") [.ref a,x] kw) R E s:=by
 refine wpAny_call (codeAny_call_builtin plain_bl entry_bl (wpAny_of_eq hchk (wpAny_mono h (fun fin s' h'=>?_) fun _ _ h'=>h')))
 obtain ⟨lo,hi,rfl,hc⟩:=h'
 exact ⟨plainId_quiet plain_bloop _,hc⟩
end
section
variable {c:Cx} {X:AX} {Q:AV→AX→Prop} {B:Bg} {S:Sto} {s:Shared}
theorem Gd.in1 {A:Around} {d:Nat} (x:Gd A (d+1)):Gd A.in1 d:=⟨x.hd,by have:=x.dp;show A.depth+d<_;exact (lin3 (.lt (.a .v0 .v1) .v2) [.lt (.a .v0 (.a .v1 .n1)) .v2]) this,by have:=x.un;show A.units+1+8*d+8<_;exact (lin3 (.lt (.a (.a (.a .v0 .n1) (.l 8 .v1)) (.n 8)) .v2) [.lt (.a (.a .v0 (.l 8 (.a .v1 .n1))) (.n 8)) .v2]) this⟩
abbrev Cx.at1 (c:Cx):Cx:={c with A:=c.A.in1}
theorem bl_loop {xs:List AV} {W:AV} {C f:Addr} {ks:List Str} {k d:Nat} (G:Gd c.A (d+1)) (hW:∃ ws,IsInst X W C ks ws) (hI:∀ (i:Nat) U,xs[i]?=some U→∃ us,IsInst X U C ks us) (hz:xs.length<2^62)
  (hs:findIn c.K (.ref C) "__lt__" = some (some (.ref f))) (hf:isFn c.K (.ref f)=true) (lo₀:Nat)
  (hlt:∀ (i:Nat) U,lo₀≤i→xs[i]?=some U→WF c.at1 (.ref f) [U,W] [] (fun R Y=>R=.bool (decide (i<k))∧Y=X) X) (hQ:Q (.int k) X)
  {a:Addr} {x:Value} {vs:List Value} {nv:Nat} (ok:c.Ok):∀ (n lo hi:Nat) (S:Sto) (s:Shared),hi-lo≤n→lo₀≤lo→lo≤k→k≤hi→hi≤xs.length→S a (seqObj "list" vs.toArray nv)→Reps S vs xs→Rep S x W→St c B S X s →
  codeAny (model c.P c.w) c.A (bloop a x lo hi) (Back c B S Q) s:=by
 intro n
 induction n with
 | zero =>
  intro lo hi S s hn h0 h1 h2 h3 ha r rx st
  refine codeAny_builtin entry_bloop ?_
  rw [Around.under_plainId plain_bloop _]
  unfold Builtin.«_bisect.bisect_right.loop»
  dsimp only [rawInt]
  rw [if_neg (by exact (lin3 (.no (.zt (.c .v0) (.c .v1))) [.le .v2 .n0,.sb .v2 .v1 .v0]) hn (sbc _ _))]
  have e:lo=k:=by exact (lin4 (.eq .v0 .v1) [.le .v2 .n0,.le .v0 .v1,.le .v1 .v3,.sb .v2 .v3 .v0]) hn h1 h2 (sbc _ _)
  exact wpAny_bind (wpAny_mkInt (wpAny_pure ⟨S,.int k,X,.rfl,by rw [e];exact .int _ _,st.toks _,hQ⟩))
 | succ n ih =>
  intro lo hi S s hn h0 h1 h2 h3 ha r rx st
  refine codeAny_builtin entry_bloop ?_
  rw [Around.under_plainId plain_bloop _]
  unfold Builtin.«_bisect.bisect_right.loop»
  dsimp only [rawInt]
  by_cases hlh:lo<hi
  ·rw [if_pos (by exact (lin2 (.zt (.c .v0) (.c .v1)) [.lt .v0 .v1]) hlh)]
   have hm:((lo:Int)+hi) / 2=((lo+hi) / 2:Nat):=by exact (lin [_,_,_] [_] (.ze .v0 (.c .v2)) [.an (.zl (.l 2 .v0) (.a (.c .v0) (.c .v1))) (.zt (.a (.c .v0) (.c .v1)) (.a (.l 2 .v0) .n2)),.dv 2 .v2 (.a .v0 .v1)]) (zdc 2 (by decide) _) (dvc 2 (by decide) _)
   rw [hm]
   generalize hmid:(lo+hi) / 2=mid
   have hmid1:lo≤mid:=by exact (lin4 (.le .v0 .v1) [.lt .v0 .v2,.eq .v3 .v1,.dv 2 .v3 (.a .v0 .v2)]) hlh hmid (dvc 2 (by decide) _)
   have hmid2:mid<hi:=by exact (lin4 (.lt .v0 .v1) [.lt .v2 .v1,.eq .v3 .v0,.dv 2 .v3 (.a .v2 .v1)]) hlh hmid (dvc 2 (by decide) _)
   obtain ⟨U,hU⟩:∃ U,xs[mid]?=some U:=⟨_,List.getElem?_eq_getElem (by exact (lin3 (.lt .v0 .v1) [.le .v2 .v1,.lt .v0 .v2]) h3 hmid2)⟩
   obtain ⟨v,hv,rv⟩:=r.at hU
   obtain ⟨us,iU⟩:=hI mid U hU
   obtain ⟨ws,iW⟩:=hW
   refine wpAny_bind (wpAny_mkInt ?_)
   have st':=st.toks (s.toks+1)
   refine wpAny_bind (getI_list (items:=vs.toArray) ⟨_,st'.sto _ _ ha,rfl,nv,rfl⟩ (by exact lin1 (.zl .n0 (.c .v0)) []) (by exact (lin3 (.zt (.c .v0) (.n (2^63))) [.lt .v1 (.n (2^62)),.le .v2 .v1,.lt .v0 .v2]) hz h3 hmid2) (by simpa using hv) ?_)
   dsimp only
   rw [if_pos (by decide)]
   refine wpAny_bind (wpAny_pure (wpAny_holding ?_))
   rw [if_pos rfl]
   refine wpAny_bind ((iU.type st' rv _).here (wpAny_bind ((iW.type st' rx _).here ?_)))
   rw [if_pos (by simp)]
   refine wpAny_bind (wpAny_cRoomFor (G.in1.units) ?_)
   obtain ⟨av,dv,es,ep,rfl,I,_⟩:=iU.at st' rv
   rw [if_neg (by decide)]
   dsimp only
   have ok1:c.at1.Ok:=⟨ok.X,ok.T,G.in1.le rfl,ok.gl,ok.bi,ok.fk,ok.noE,ok.kl,ok.cnd⟩
   refine wpAny_bind (ifBound_K (ok.X.keeps st'.gr) I hs hf (wpAny_mono (WC.of (hlt mid U (by exact (lin5 (.le .v0 .v1) [.le .v0 .v2,.lt .v2 .v3,.eq .v4 .v1,.dv 2 .v4 (.a .v2 .v3)]) h0 hlh hmid (dvc 2 (by decide) _)) hU) B S _ _ _ ok1 (.cons rv (.cons rx .nil)) .nil (St.cx (c:=c) rfl rfl rfl st')) (fun v' s' z=>?_) fun _ _ e=>e))
   obtain ⟨S',R,Y,le,rr,st2,hR,hY⟩:=z
   rw [hY] at st2
   subst hR
   have st2:St c B S' X s':=St.cx (c:=c.at1) rfl rfl rfl st2
   rw [rr.bool_inv]
   dsimp only
   refine wpAny_bind (wpAny_truthy_bool (wpAny_bind (wpAny_pure ?_)))
   have up:∀ {r s'},Back c B S' Q r s'→Back c B S Q r s':=fun {r s'} z=>by
    rcases r with e | (v | _ | _ | _)<;>first | exact z | exact z.elim | exact Post.up le z
   by_cases q:mid<k
   ·rw [if_neg (by rw [decide_eq_true q];decide)]
    have:=ih (mid+1) hi S' s' (by exact (lin7 (.le .v0 .v3) [.le .v4 (.a .v3 .n1),.eq .v6 .v2,.sb .v0 .v1 (.a .v2 .n1),.sb .v4 .v1 .v5,.dv 2 .v6 (.a .v5 .v1)]) hn hmid (sbc _ _) (sbc _ _) (dvc 2 (by decide) _)) (by exact (lin5 (.le .v0 (.a .v1 .n1)) [.le .v0 .v2,.lt .v2 .v3,.eq .v4 .v1,.dv 2 .v4 (.a .v2 .v3)]) h0 hlh hmid (dvc 2 (by decide) _)) (by exact (lin2 (.le (.a .v0 .n1) .v1) [.lt .v0 .v1]) q) h2 h3 (le _ _ ha) (r.mono le) (rx.mono le) st2
    exact wpAny_pure (a:=Fin.again (bloop (a) x ((mid+1:Nat):Int) hi)) ⟨plainId_quiet plain_bloop _,codeAny_mono this fun _ _ z=>up z⟩
   ·rw [if_pos (by rw [decide_eq_false q];decide)]
    have:=ih lo mid S' s' (by exact (lin6 (.le .v0 .v3) [.le .v4 (.a .v3 .n1),.lt .v1 .v5,.sb .v0 .v1 .v2,.sb .v4 .v5 .v2]) hn hmid2 (sbc _ _) (sbc _ _)) h0 h1 (by exact (lin2 (.le .v0 .v1) [.no (.lt .v1 .v0)]) q) (by exact (lin3 (.le .v0 .v1) [.le .v2 .v1,.lt .v0 .v2]) h3 hmid2) (le _ _ ha) (r.mono le) (rx.mono le) st2
    exact wpAny_pure (a:=Fin.again (bloop (a) x lo mid)) ⟨plainId_quiet plain_bloop _,codeAny_mono this fun _ _ z=>up z⟩
  ·rw [if_neg (by exact (lin2 (.no (.zt (.c .v0) (.c .v1))) [.no (.lt .v0 .v1)]) hlh)]
   have e:lo=k:=by exact (lin3 (.eq .v0 .v1) [.le .v0 .v1,.le .v1 .v2,.no (.lt .v0 .v2)]) h1 h2 hlh
   exact wpAny_bind (wpAny_mkInt (wpAny_pure ⟨S,.int k,X,.rfl,by rw [e];exact .int _ _,st.toks _,hQ⟩))
theorem B_bisect {xs:List AV} {W:AV} {C f:Addr} {ks:List Str} {k d:Nat} (G:Gd c.A (d+1)) (hW:∃ ws,IsInst X W C ks ws) (hI:∀ (i:Nat) U,xs[i]?=some U→∃ us,IsInst X U C ks us) (hz:xs.length<2^62)
  (hs:findIn c.K (.ref C) "__lt__" = some (some (.ref f))) (hf:isFn c.K (.ref f)=true) (hk:k≤xs.length)
  (hlt:∀ (i:Nat) U,xs[i]?=some U→WF c.at1 (.ref f) [U,W] [] (fun R Y=>R=.bool (decide (i<k))∧Y=X) X) (hQ:Q (.int k) X):WC c (.builtin "_bisect.bisect_left") [.lst xs,W] [] Q X:=by
 intro B S s vs kw ok r rk st
 obtain ⟨v,x,rfl,r1,r2⟩:=two_args r
 cases no_kw rk
 obtain ⟨a,vs,n,rfl,h1,h2⟩:=r1.lst_inv
 refine call_bl (chk_bl _ _) (bl_start (items:=vs.toArray) ⟨_,st.sto _ _ h1,rfl,n,rfl⟩ (by rw [List.size_toArray,h2.1];exact (lin1 (.zt (.c .v0) (.n (2^63))) [.lt .v0 (.n (2^62))]) hz) ?_)
 rw [List.size_toArray,h2.1]
 refine ⟨((0:Nat):Int),xs.length,rfl,codeAny_mono (bl_loop G hW hI hz hs hf 0 (fun i U _=>hlt i U) hQ ok xs.length 0 xs.length S _ (by exact (lin2 (.le .v0 .v1) [.sb .v0 .v1 .n0]) (sbc _ _)) (Nat.le_refl _) (Nat.zero_le _) hk (Nat.le_refl _) h1 h2 r2 (st.toks _)) fun r s' z=>?_⟩
 rcases r with e | (v | _ | _ | _)<;>first | exact z | exact z.elim
theorem B_bisectLo {xs:List AV} {W:AV} {C f:Addr} {ks:List Str} {lo k d:Nat} (G:Gd c.A (d+1)) (hW:∃ ws,IsInst X W C ks ws) (hI:∀ (i:Nat) U,xs[i]?=some U→∃ us,IsInst X U C ks us) (hz:xs.length<2^62)
  (hs:findIn c.K (.ref C) "__lt__" = some (some (.ref f))) (hf:isFn c.K (.ref f)=true) (hlo:lo≤k) (hk:k≤xs.length)
  (hlt:∀ (i:Nat) U,lo≤i→xs[i]?=some U→WF c.at1 (.ref f) [U,W] [] (fun R Y=>R=.bool (decide (i<k))∧Y=X) X) (hQ:Q (.int k) X):WC c (.builtin "_bisect.bisect_left") [.lst xs,W] [(Str.ofString "lo", .int lo)] Q X:=by
 have b0:(0:Int)≤(lo:Int):=by exact lin1 (.zl .n0 (.c .v0)) []
 have b1:(lo:Int)<2^63:=by exact (lin3 (.zt (.c .v0) (.n (2^63))) [.lt .v1 (.n (2^62)),.le .v0 .v2,.le .v2 .v1]) hz hlo hk
 have b2:(xs.length:Int)<2^63:=by exact (lin1 (.zt (.c .v0) (.n (2^63))) [.lt .v0 (.n (2^62))]) hz
 intro B S s vs kw ok r rk st
 obtain ⟨v,x,rfl,r1,r2⟩:=two_args r
 obtain ⟨a,vs,n,rfl,h1,h2⟩:=r1.lst_inv
 obtain ⟨y,u,rfl,rfl,ru⟩:∃ y u,kw=[(y,u)]∧y=Str.ofString "lo" ∧ Rep S u (.int lo):=by
  have e1:=rk.1
  cases kw with
  | nil=>simp at e1
  | cons p t =>
   simp only [List.map_cons,List.map_nil,List.cons.injEq,List.map_eq_nil_iff] at e1
   obtain ⟨e1,rfl⟩:=e1
   exact ⟨p.1,p.2,rfl,e1,(rk.2.uncons).1⟩
 obtain ⟨t,rfl⟩:=ru.int_inv
 have hsz:(vs.toArray.size:Int)=xs.length:=by rw [List.size_toArray,h2.1]
 have hl:s.heap.IsList a vs.toArray:=⟨_,st.sto _ _ h1,rfl,n,rfl⟩
 have hz2:(vs.toArray.size:Int)<2^63:=by rw [hsz];exact b2
 have h9:=fun Q h=>@blo_start c.P c.w c.A.in1 c.E s a x vs.toArray t (lo:Int) Q b0 b1 hl hz2 h
 refine call_bl (chk_blo _ _ _) ?_
 with_reducible refine h9 _ ?_
 refine ⟨(lo:Int),(vs.toArray.size:Int),rfl,?_⟩
 rw [hsz]
 refine codeAny_mono (bl_loop G hW hI hz hs hf lo hlt hQ ok (xs.length-lo) lo xs.length S _ (Nat.le_refl _) (Nat.le_refl _) hlo hk (Nat.le_refl _) h1 h2 r2 (st.toks _)) fun r s' z=>?_
 rcases r with e | (v | _ | _ | _)<;>first | exact z | exact z.elim
end
theorem triples_snoc (l:List Value) (i j:Int) (c:Value) (h:TriplesOk l):TriplesOk (l++[rawInt i,rawInt j,c]):=TriplesOk_snoc i j c l h
def TabR (P:Addr) (pos:Pos) (qual:Str) (S:Sto) (h:Heap):Prop :=
 ∃ ps:Array Value,h.get? P=some (tabObj ps)∧TriplesOk ps.toList∧(codeAmong pos ps.toList=none∨∃ c' oc vs t,codeAmong pos ps.toList=some (.ref c')∧S c' oc∧oc.data=.fields vs∧vs[1]?=some (.str qual t))
theorem TabR.ext {P:Addr} {pos:Pos} {qual:Str} {S:Sto} {h:Heap} (x:TabR P pos qual S h):MRep S h P (.ext [] (TabR P pos qual)):=by
 obtain ⟨ps,hP,ht,hc⟩:=x
 refine ⟨fun b hb=>by have:=List.mem_singleton.mp hb;subst this;exact ⟨_,hP⟩,⟨ps,hP,ht,hc⟩,fun T h' le k=>⟨ps,k P (.head _) _ hP,ht,hc.imp id fun ⟨c',oc,vs,t,e,hs,r⟩=>⟨c',oc,vs,t,e,le _ _ hs,r⟩⟩⟩
def LamR (qual:Str) (params:Arguments) (body:Expr) (scope:Scope) (S:Sto) (v:Value):Prop :=
 ∃ f pm c' ctv oc vs t,v=.ref f∧S f (kla_obj (Str.ofString "<lambda>") qual params body scope [] pm c' ctv)∧S c' oc∧oc.data=.fields vs∧vs[1]?=some (.str qual t)
theorem LamR.rep {qual:Str} {params:Arguments} {body:Expr} {scope:Scope} {S:Sto} {v:Value} (x:LamR qual params body scope S v):Rep S v (.ext (LamR qual params body scope)):=by
 obtain ⟨f,pm,c',ctv,oc,vs,t,e,h1,h2,r⟩:=x
 exact .ext ⟨f,pm,c',ctv,oc,vs,t,e,h1,h2,r⟩ fun T le=>⟨f,pm,c',ctv,oc,vs,t,e,le _ _ h1,le _ _ h2,r⟩
theorem Rep.ext_inv {S:Sto} {v:Value} {R:Sto→Value→Prop} (h:Rep S v (.ext R)):R S v:=by cases h with | ext a b=>exact a
def WFv (c:Cx) (F:AV) (Vs:List AV) (kws:List (Str×AV)) (Q:AV→AX→Prop) (X:AX):Prop :=
 ∀ B S s f vs kw,c.Ok→Rep S f F→Reps S vs Vs→RepK S kw kws→St c B S X s→codeAny (model c.P c.w) c.A (.call f ⟨vs,kw⟩) (fun r s'=>Back c B S Q r s'∧c.Stays s s') s
section
variable {c:Cx} {X:AX} {Q:AV→AX→Prop}
theorem E_lam {params:Arguments} {body:Expr} {scope:Scope} {pos:Pos} {P cd:Addr} {qual:Str} {σ':List (Addr×MO)} (hdef:defaultsOf params c.env=([],[])) (hcl:closureFor scope c.env=pure []) (hq:c.env.qual ++ "<lambda>" = qual) (hcode:c.env.code=.ref cd) (C:CodeHd c.g cd P)
  (hd:SDel P (.ext [] (TabR P pos qual)) X.σ σ') (h:Q (.ext (LamR qual params body scope)) ⟨(P,.ext [] (TabR P pos qual))::σ',X.m⟩):WE c (.Lambda params body scope pos) Q X:=by
 intro B S s ok st
 refine kla_eval hdef ?_
 rw [hq]
 obtain ⟨_,⟨ps,hP,ht,hc⟩,_⟩:=st.get hd.mem
 have hbr:=st.bareM hd P (.head _)
 have st0:St c B S ⟨σ',X.m⟩ s:=st.weak (X':=⟨σ',X.m⟩) hd.sub fun _ _ e=>e
 obtain ⟨p,loose,mean,mg,mb,T⟩:=ok.T
 have hgs:=T.g.keeps st.gr
 obtain ⟨bm,ob,b1,b2,b3,b4,b5,b6⟩:=T.bmain
 have hgP:mainGlobals≠P:=fun q=>by
  obtain ⟨o,es,ep,e,hd,_⟩:=hgs
  rw [q,hP] at e;cases e;cases hd
 have hbP:bm≠P:=fun q=>by
  have e:=st.gr _ _ b3
  rw [q,hP] at e;cases e;cases b4
 have hbG:bm≠mainGlobals:=fun q=>by
  obtain ⟨o,es,ep,e,hd,_⟩:=T.g
  rw [q,e] at b3;cases b3;rw [hd] at b6;cases b6
 rcases hc with hnf | ⟨c',oc,vs,t,hf,hS,hoc,hv⟩
 ·refine kla_makeFunction (mg:=mg) hcl ok.gl hgs hcode (C.keeps st.gr) hP ht hnf hgP ⟨bm,ob,b1,b2,hbG,hbP,st.gr _ _ b3,b4,b5,b6⟩ fun c' ctv h' tk hx hge hlt hrec htb=>?_
  obtain ⟨c₂,oc,vs,t,e2,hoc,hdt,hv⟩:=hrec
  cases e2
  have kb:KeepsBut [P] s.heap h':=fun b o q e=>hx b o (fun z=>q (List.mem_singleton.mpr z)) e
  have st1:St c B S ⟨σ',X.m⟩ {s with heap:=h',toks:=tk}:=st0.keep (s':={s with heap:=h',toks:=tk}) kb (fun a ha=>by rw [List.mem_singleton.mp ha];exact ⟨hbr.g,hbr.base,hbr.sto,hbr.own,hbr.adr⟩) rfl rfl rfl
  have bc:=st0.bare (a:=c') (get?_lt_none hge)
  have st2:St c B (S.put c' oc) ⟨σ',X.m⟩ {s with heap:=h',toks:=tk}:=st1.addS (Sto.put_le _ _ _) fun a o e=>e.imp id fun q=>by
   rw [q.1,q.2];exact ⟨hoc,bc.own,bc.adr,bc.prot⟩
  have nc:P≠c':=fun q=>by have:=Heap.lt_size hP;rw [q] at this;exact absurd this (Nat.not_lt.mpr hge)
  have st3:=st2.addM (a:=P) (mo:=.ext [] (TabR P pos qual)) (TabR.ext ⟨_,htb,by rw [Array.toList_append];exact triples_snoc _ _ _ _ ht,.inr ⟨c',oc,vs,t,by rw [Array.toList_append];exact codeAmong_snoc _ ht hnf,Sto.put_self _ _ _,hdt,hv⟩⟩) (by simp [MO.addrs]) (fun b hb=>by
   rw [List.mem_singleton.mp hb]
   exact ⟨hbr.g,hbr.base,fun o e=>e.elim (hbr.sto o) fun q=>nc q.1,hbr.own,hbr.adr,hbr.prot⟩)
  exact ⟨_,_,_,(Sto.put_le _ _ _).trans (Sto.put_le _ _ _),LamR.rep ⟨_,_,_,ctv,oc,vs,t,rfl,Sto.put_self _ _ _,Sto.put_le _ _ _ _ _ (Sto.put_self _ _ _),hdt,hv⟩,st3.push _ rfl,h⟩
 ·refine kla_makeFunctionHit (mg:=mg) hcl ok.gl hgs hcode (C.keeps st.gr) hP ht hf ⟨bm,ob,b1,b2,hbG,hbP,st.gr _ _ b3,b4,b5,b6⟩ fun ctv h' tk hk hsz=>?_
  have st1:St c B S ⟨σ',X.m⟩ {s with heap:=h',toks:=tk}:=st0.grow (s':={s with heap:=h',toks:=tk}) hk rfl rfl rfl
  have st3:=st1.addM (a:=P) (mo:=.ext [] (TabR P pos qual)) (TabR.ext ⟨_,hk _ _ hP,ht,.inr ⟨c',oc,vs,t,hf,hS,hoc,hv⟩⟩) (by simp [MO.addrs]) (fun b hb=>by
   rw [List.mem_singleton.mp hb];exact hbr)
  exact ⟨_,_,_,(Sto.put_le _ _ _),LamR.rep ⟨_,_,_,ctv,oc,vs,t,rfl,Sto.put_self _ _ _,Sto.put_le _ _ _ _ _ hS,hoc,hv⟩,st3.push _ rfl,h⟩
theorem WFv.lam {x:Str} {V:AV} {qual:Str} {params:Arguments} {body:Expr} {scope:Scope} {d:Nat} (G:Gd c.A (d+1)) (hb:∀ v pm c' ctv,bindArgs (kla_fn (Str.ofString "<lambda>") qual params body scope [] pm (.ref c') ctv) ⟨[v],[]⟩=pure [(x,v)])
  (hloc:scope.names.lookup x=some .local) (hco:scope.isCoroutine=false) (hgen:scope.isGenerator=false) (hk:scope.kind=.function) (hcell:∀ x∈scope.names,x.2≠.cell)
  (h:∀ L f cd c',Kin c c'→c'.env=envX qual scope L f (.ref cd) []→c'.own=[L]→c'.Ok→Gd c'.A d→WE c' body (fun U X'=>Q U ⟨X'.σ,X.m⟩) ⟨X.σ,[(x,V)]⟩):WFv c (.ext (LamR qual params body scope)) [V] [] Q X:=by
 intro B S s f vs kw ok rf r rk st
 obtain ⟨v,rfl,rv⟩:=one_arg r
 cases no_kw rk
 obtain ⟨f,pm,c',ctv,oc,vs,t,rfl,h1,h2,h3,h4⟩:=rf.ext_inv
 obtain ⟨p,loose,mean,mg,mb,T⟩:=ok.T
 have T':=(topRead_of T).keeps st.gr
 refine kla_callFunE G.room (st.sto _ _ h1) rfl hco hgen rfl ⟨c',oc,vs,t,rfl,st.sto _ _ h2,h3,h4⟩ ?_
 rw [hb]
 refine wpAny_pure (wpAny_newFunctionEnv hcell (fun y hy=>by rw [List.mem_singleton.mp hy];exact hloc) (fun h₁ hns hsb=>⟨T'.nolimit.fresh _ hsb,?_⟩) hk)
 have hk₁:Keeps s.heap h₁:=fun b o e=>hsb.extBut b o (Nat.ne_of_lt (Heap.lt_size e)) (Heap.get?_push_of_some _ e)
 show codeAny _ _ (.expr body (envX qual scope s.heap.objs.size f (.ref c') [])) _ _
 have ok':(c.callee (envX qual scope s.heap.objs.size f (.ref c') []) [s.heap.objs.size]).Ok:=⟨ok.X,ok.T,(G.deeper _).le rfl,rfl,rfl,hk,fun _ _ e=>e,fun a o e=>Heap.lt_size ((ok.X.keeps st.gr) a o e),fun _ _ _ e=>by cases e⟩
 have st₁:St (c.callee (envX qual scope s.heap.objs.size f (.ref c') []) [s.heap.objs.size]) (Bg.call c B X s []) S ⟨X.σ,[(x,V)]⟩ {s with heap:=h₁,toks:=s.toks+1} :=
  st.callIn (ex:=[]) (fun _ h=>nomatch h) hk₁ rfl (.head _) (fun a ha=>by rw [List.mem_singleton.mp ha];exact get?_lt_none (Nat.le_refl _)) (fun a ha=>by
   rw [List.mem_singleton.mp ha]
   obtain ⟨o,_,_,e,_⟩:=hns
   exact ⟨o,e⟩) (fun _ _ e=>by cases e) ⟨_,hns,fun y U e=>by
    rw [List.lookup_cons] at e
    cases hb:y==x with
    | true =>
     rw [hb] at e;cases e
     have:=beq_iff_eq.mp hb
     subst this
     exact ⟨v,rv,.inl ⟨hloc,by simp⟩⟩
    | false=>rw [hb] at e;cases e⟩ rfl rfl rfl
 refine kla_codeExpr (wpAny_mono (h _ f c' (c.callee (envX qual scope s.heap.objs.size f (.ref c') []) [s.heap.objs.size]) ⟨rfl,rfl,rfl,rfl,rfl⟩ rfl rfl ok' (G.deeper _) _ _ _ ok' st₁) (fun fl s' hp=>?_) fun _ _ z=>z.elim)
 obtain ⟨S',U,X',le,rf,st',q⟩:=hp
 exact ⟨⟨S',U,⟨X'.σ,X.m⟩,le,rf,st.callOut (ex:=[]) (fun _ h=>nomatch h) le st',q⟩,fun a ha o e=>st'.base a o ⟨e,st.dis a ha,fun h=>nomatch h⟩⟩
end
theorem Heap.Ns.same {h:Heap} {L:Addr} {m m':Str→Option Value} (a:h.Ns L m) (b:h.Ns L m'):m'=m:=by
 obtain ⟨o1,es1,ep1,a1,a2,a3,a4⟩:=a
 obtain ⟨o2,es2,ep2,b1,b2,b3,b4⟩:=b
 rw [a1] at b1;cases b1
 rw [a2] at b2;cases b2
 funext y
 rw [←a4,b4]
theorem perm_map_inv {α β:Type} {f:α→β} {l' m:List β} (h:l'.Perm m):∀ l:List α,m=l.map f→∃ l₂:List α,l₂.Perm l∧l'=l₂.map f:=by
 induction h with
 | nil =>
  intro l e
  cases l with
  | nil=>exact ⟨[],.nil,rfl⟩
  | cons _ _=>cases e
 | cons x _ ih =>
  intro l e
  cases l with
  | nil=>cases e
  | cons a r =>
   rw [List.map_cons] at e
   obtain ⟨e1,e2⟩:=List.cons.inj e
   obtain ⟨l₂,p,q⟩:=ih r e2
   exact ⟨a::l₂,p.cons a,by rw [List.map_cons,e1,q]⟩
 | swap x y l₀ =>
  intro l e
  match l,e with
  | a::b::r,e =>
   simp only [List.map_cons,List.cons.injEq] at e
   obtain ⟨e1,e2,e3⟩:=e
   exact ⟨b::a::r,.swap a b r,by simp [e1,e2,e3]⟩
 | trans _ _ ih1 ih2 =>
  intro l e
  obtain ⟨l₂,p,q⟩:=ih2 l e
  obtain ⟨l₃,p',q'⟩:=ih1 l₂ q
  exact ⟨l₃,p'.trans p,q'⟩
section
variable {c:Cx} {B:Bg} {S:Sto} {X:AX} {s:Shared}
theorem St.turned (st:St c B S X s) (hw:c.env.locals∈c.own) {mc:Str→Option Value} (hn:s.heap.Ns c.env.locals mc) {h':Heap} {tk:Nat} {l:List Addr} (k:KeepsBut (c.env.locals::l) s.heap h') (n':h'.Ns c.env.locals mc) (hl:∀ a∈l,Bare c B S X a):St c B S X {s with heap:=h',toks:=tk}:=by
 have sp:=st.sep _ (.inl hw)
 have hg:∀ b∈c.env.locals::l,c.g.get? b=none∧(∀ o,¬B.base b o)∧(∀ o,¬S b o)∧b∉AX.adr X.σ:=fun b hb=>by
  rcases List.mem_cons.mp hb with rfl | hb
  ·exact ⟨sp.1,sp.2.1,sp.2.2,st.dis _ hw⟩
  ·exact ⟨(hl b hb).g,(hl b hb).base,(hl b hb).sto,(hl b hb).adr⟩
 have kc:∀ b o,b≠c.env.locals→(b∈c.own∨∃ p,B.base b p)→s.heap.get? b=some o→h'.get? b=some o:=fun b o ne q e=>k b o (fun z=>by
  rcases List.mem_cons.mp z with z | z
  ·exact ne z
  ·exact q.elim (hl b z).own fun ⟨p,w⟩=>(hl b z).base p w) e
 refine ⟨st.loc,fun b o e=>k b o (fun q=>?_) (st.gr b o e),fun b o e=>k b o (fun q=>(hg b q).2.1 o e) (st.base b o e),fun b o e=>k b o (fun q=>(hg b q).2.2.1 o e) (st.sto b o e),fun x a e=>?_,⟨mc,n',fun x V e=>?_⟩,fun p hp=>(st.mu p hp).mono .rfl fun b hb o e=>k b o (fun q=>(hg b q).2.2.2 (AX.mem_adr hp hb)) e,st.nd,st.sep,st.dis,fun a ha=>?_,st.prot,st.pin,st.os,st.gens,st.drawn⟩
 ·rw [(hg b q).1] at e;cases e
 ·obtain ⟨h1,h2,o,v,h3,h4⟩:=st.cel x a e
  exact ⟨h1,h2,o,v,kc _ _ h1 h2 h3,h4⟩
 ·obtain ⟨mc',n,f⟩:=st.fr
  cases Heap.Ns.same n hn
  obtain ⟨v,r,y⟩:=f x V e
  refine ⟨v,r,?_⟩
  rcases y with y | ⟨a,q,o,e1,e2,e3,e4,e5⟩
  ·exact .inl y
  ·exact .inr ⟨a,q,o,e1,kc _ _ e5 (e4.imp id fun w=>⟨o,w⟩) e2,e3,e4,e5⟩
 ·by_cases q:a=c.env.locals
  ·subst q
   obtain ⟨o,es,ep,h1,_⟩:=n'
   exact ⟨o,h1⟩
  ·obtain ⟨o,e⟩:=st.dom a ha
   exact ⟨o,kc a o q (.inl ha) e⟩
def Bg.all (c:Cx) (B:Bg) (s:Shared):Bg:={base:=fun b o=>s.heap.get? b=some o∧b∉c.own,prot:=B.prot,os:=s.os,gens:=s.gens,drawn:=s.drawn}
theorem St.allB (st:St c B S X s):St {c with fix:=true} (Bg.all c B s) S ⟨[],X.m⟩ s where
 loc:=st.loc.imp id fun ⟨a,o,e⟩=>⟨a,o,st.base _ _ e,by rw [a];exact List.not_mem_nil⟩
 gr:=st.gr
 base b o e:=e.1
 sto:=st.sto
 cel x a e:=by
  obtain ⟨h1,h2,o,v,h3,h4⟩:=st.cel x a e
  refine ⟨h1,?_,o,v,h3,h4⟩
  by_cases q:a∈c.own
  ·exact .inl q
  ·exact .inr ⟨o,h3,q⟩
 fr:=by
  obtain ⟨mc,n,f⟩:=st.fr
  refine ⟨mc,n,fun x V e=>let ⟨v,r,y⟩:=f x V e;⟨v,r,?_⟩⟩
  rcases y with y | ⟨a,q,o,e1,e2,e3,e4,e5⟩
  ·exact .inl y
  ·refine .inr ⟨a,q,o,e1,e2,e3,?_,e5⟩
   by_cases w:q∈c.own
   ·exact .inl w
   ·exact .inr ⟨e2,w⟩
 mu _ hp:=nomatch hp
 nd:=.nil
 sep a ha:=ha.elim (fun q=>⟨(st.sep a (.inl q)).1,fun o e=>e.2 q,(st.sep a (.inl q)).2.2⟩) fun q=>nomatch q
 dis _ _ q:=nomatch q
 dom:=st.dom
 prot:=st.prot
 pin a q:=let ⟨o,e⟩:=st.pin a q;⟨o,st.base a o e,fun z=>(st.sep a (.inl z)).2.1 o e⟩
 os:=rfl
 gens:=.refl _
 drawn:=rfl
theorem pureCall {V:AV} {Vs:List AV} {f:Value} {vs:List Value} {Q:AV→Prop} (h:WFv {c with fix:=true} V Vs [] (fun R _=>Q R) ⟨[],X.m⟩) (ok:c.Ok) (st:St c B S X s) (rf:Rep S f V) (r:Reps S vs Vs) :
  codeAny (model c.P c.w) c.A (.call f ⟨vs,[]⟩) (fun r s'=>∃ S' v R h' tk,r=.ok (.ret v)∧S.Le S'∧Rep S' v R∧Q R∧s'={s with heap:=h',toks:=tk}∧Keeps s.heap h') s:=by
 have ok1:({c with fix:=true}:Cx).Ok:=⟨ok.X,ok.T,ok.G,ok.gl,ok.bi,ok.fk,ok.noE,ok.kl,ok.cnd⟩
 refine codeAny_mono (h (Bg.all c B s) S s f vs [] ok1 rf r .nil st.allB) fun r s' hz₉=>?_
 obtain ⟨z,ks⟩:=hz₉
 rcases r with e | (v | _ | _ | _)
 ·exact (ok1.noE _ _ z).elim
 ·exact z.elim
 ·exact z.elim
 ·exact z.elim
 ·obtain ⟨S',R,Y,le,rv,st',q⟩:=z
  refine ⟨S',_,R,s'.heap,s'.toks,rfl,le,rv,q,?_,fun b o e=>?_⟩
  ·have e1:=st'.os
   have e2:=st'.gens.2 rfl
   have e3:=st'.drawn
   obtain ⟨_,_,_,_,_⟩:=s'
   dsimp only [Bg.all] at e1 e2 e3 ⊢
   subst e1 e2 e3;rfl
  ·by_cases w:b∈c.own
   ·exact ks b w o e
   ·exact st'.base b o ⟨e,w⟩
end
section
variable {c:Cx} {X:AX} {Q:AV→AX→Prop}
theorem B_sort {la:Addr} {LV:AV} {xs:List AV} {kz:List Int} {σ':List (Addr×MO)} {d:Nat} (G:Gd c.A (d+1)) (hd:SDel la (.lst xs) X.σ σ') (hlen:kz.length=xs.length) (h64:xs.length<64)
  (turn:∀ (i:Nat) V k,xs[i]?=some V→kz[i]?=some k→WFv {c.at1 with fix:=true} LV [V] [] (fun R _=>R=.int k) ⟨[],X.m⟩) (hf:∀ S v,Rep S v LV→∃ f,v=.ref f)
  (h:∀ ps:List (Int×AV),ps.Perm (kz.zip xs)→ps.Pairwise (fun p q=>p.1≤q.1)→Q .none ⟨(la,.lst (ps.map (·.2)))::σ',X.m⟩) (hw:c.env.locals∈c.own:=by first | assumption | exact List.mem_cons_self):WC c (.builtin "list.sort") [.raw (.ref la)] [(Str.ofString "key", LV)] Q X:=by
 intro B S s vs kw ok r rk st
 obtain ⟨v,rfl,r1⟩:=one_arg r
 rw [r1.raw_inv]
 obtain ⟨u,rfl,ru⟩:∃ u,kw=[(Str.ofString "key", u)]∧Rep S u LV:=by
  have e1:=rk.1
  cases kw with
  | nil=>simp at e1
  | cons p t =>
   obtain ⟨y,u⟩:=p
   simp only [List.map_cons,List.map_nil,List.cons.injEq,List.map_eq_nil_iff] at e1
   obtain ⟨rfl,rfl⟩:=e1
   exact ⟨u,rfl,(rk.2.uncons).1⟩
 obtain ⟨f,rfl⟩:=hf _ _ ru
 obtain ⟨ws,n,hl,rs⟩:=st.get hd.mem
 have hbl:=st.bareM hd la (.head _)
 have st0:St c B S ⟨σ',X.m⟩ s:=st.weak (X':=⟨σ',X.m⟩) hd.sub fun _ _ e=>e
 obtain ⟨mc,hns,hfr⟩:=st0.fr
 have hne:la≠c.env.locals:=st.locB hbl.own hbl.base
 have sz:(cutAt s.heap c.env.locals).objs.size≤c.env.locals:=by unfold cutAt;rw [Array.size_extract];exact (lin4 (.le .v0 .v2) [.or (.an (.le .v2 .v3) (.eq .v1 .v2)) (.an (.lt .v3 .v2) (.eq .v1 .v3)),.sb .v0 .v1 .n0]) (mnc (c.env.locals) (s.heap.objs.size)) (sbc (min c.env.locals s.heap.objs.size) (0))
 have low:∀ b o,(hideAll (cutAt s.heap c.env.locals) [la]).get? b=some o→s.heap.get? b=some o:=fun b o e=>cutAt_get (of_hideAll _ e)
 have F:Fr (hideAll (cutAt s.heap c.env.locals) [la]) c.env.locals s.heap mc:=⟨hns,low,by rw [hideAll_size];exact sz⟩
 have ha0:(hideAll (cutAt s.heap c.env.locals) [la]).get? la=none:=hideAll_none _ (.head _)
 have memN:∀ {p:Addr×Obj},p∈(aboveOf s.heap c.env.locals).filter (fun p=>decide (p.1≠la))↔(c.env.locals<p.1∧s.heap.get? p.1=some p.2)∧p.1≠la:=fun {p}=>by
  rw [List.mem_filter,decide_eq_true_iff,show p=(p.1,p.2) from rfl,mem_above]
 have N:News (hideAll (cutAt s.heap c.env.locals) [la]) c.env.locals s.heap ((aboveOf s.heap c.env.locals).filter (fun p=>decide (p.1≠la))):=fun p hp=>by
  obtain ⟨⟨q,e⟩,_⟩:=memN.mp hp
  exact ⟨e,Nat.ne_of_gt q,get?_lt_none (Nat.le_trans (by rw [hideAll_size];exact sz) (Nat.le_of_lt q))⟩
 have key:∀ {h':Heap},Fr (hideAll (cutAt s.heap c.env.locals) [la]) c.env.locals h' mc→(∀ p∈(aboveOf s.heap c.env.locals).filter (fun p=>decide (p.1≠la)),h'.get? p.1=some p.2)→KeepsBut [c.env.locals,la] s.heap h':=fun {h'} F' N' b o q e=>by
  have h1:b≠c.env.locals:=fun z=>q (z▸.head _)
  have h2:b≠la:=fun z=>q (z▸.tail _ (.head _))
  rcases Nat.lt_or_ge b c.env.locals with w | w
  ·exact F'.keep b o (hideAll_get _ (cutAt_lt e w) fun z=>h2 (List.mem_singleton.mp z))
  ·exact N' (b,o) (memN.mpr ⟨⟨Nat.lt_of_le_of_ne w (Ne.symm h1),e⟩,h2⟩)
 have hbs:∀ a∈[la],Bare c B S ⟨σ',X.m⟩ a:=fun a ha=>by rw [List.mem_singleton.mp ha];exact hbl
 refine wpAny_call_entry_kw (Q:=Post c B S Rep Q) PyProof.Rows.slot_list_sort ⟨_,hl,rfl⟩ PyProof.Rows.entry_list_sort ?_ (ksk_l1 _ _)
 rw [ksk_t1]
 refine ksk_sort (kz:=kz) F N hl hne ha0 (fun p hp=>(memN.mp hp).2) (by rw [rs.1];exact hlen) (by rw [rs.1];exact h64) (fun i v k hv hk h1 tk1 own F1 N1=>?_) (fun h1 tk1 out e F1 N1 ho=>⟨.none,rfl,?_⟩)
 ·obtain ⟨V,hV⟩:∃ V,xs[i]?=some V:=⟨_,List.getElem?_eq_getElem (by rw [←rs.1];exact (List.getElem?_eq_some_iff.mp hv).1)⟩
  have st1:St c.at1 B S ⟨σ',X.m⟩ {s with heap:=h1,toks:=tk1}:=St.cx (c:=c) rfl rfl rfl (st0.turned hw hns (key F1 fun p hp=>(N1 p (List.mem_append_left _ hp)).1) F1.ns hbs)
  have ok1:c.at1.Ok:=⟨ok.X,ok.T,G.in1.le rfl,ok.gl,ok.bi,ok.fk,ok.noE,ok.kl,ok.cnd⟩
  refine wpAny_call (codeAny_mono (pureCall (c:=c.at1) (X:=⟨σ',X.m⟩) (turn i V k hV hk) ok1 st1 ru (.cons (rs.2 i v V hv hV) .nil)) fun r s' z=>?_)
  obtain ⟨S',v',R,h',tk',rfl,le,rv,rfl,rfl,kp⟩:=z
  obtain ⟨t',rfl⟩:=rv.int_inv
  exact ⟨h',tk',t',rfl,rfl,⟨F1.ns.keeps kp,fun b o e=>kp b o (F1.keep b o e),F1.above⟩,fun p hp=>⟨kp _ _ (N1 p hp).1,(N1 p hp).2⟩⟩
 ·have st1:=st0.turned (tk:=tk1) hw hns (key F1 fun p hp=>(N1 p (.tail _ hp)).1) F1.ns hbs
  have hla:=(N1 (la,seqObj "list" out e) (.head _)).1
  obtain ⟨ps,hp,hout,hs⟩:=ho
  have ez:kz.zip ws=(kz.zip (ws.zip xs)).map (fun q=>(q.1,q.2.1)):=by
   rw [show (fun q:Int×(Value×AV)=>(q.1,q.2.1))=Prod.map id Prod.fst from rfl,←List.zip_map_right,List.map_fst_zip (by rw [rs.1];exact Nat.le_refl _)]
  obtain ⟨qs,hq,rfl⟩:=perm_map_inv hp _ ez
  have ez2:kz.zip xs=(kz.zip (ws.zip xs)).map (fun q=>(q.1,q.2.2)):=by
   rw [show (fun q:Int×(Value×AV)=>(q.1,q.2.2))=Prod.map id Prod.snd from rfl,←List.zip_map_right,List.map_snd_zip (by rw [rs.1];exact Nat.le_refl _)]
  have hrep:∀ q∈qs,Rep S q.2.1 q.2.2:=fun q hm=>by
   have hm':=hq.mem_iff.mp hm
   obtain ⟨j,hj⟩:=List.getElem?_of_mem hm'
   rw [List.getElem?_zip_eq_some] at hj
   have hj2:=hj.2
   rw [List.getElem?_zip_eq_some] at hj2
   exact rs.2 j _ _ hj2.1 hj2.2
  have hreps:Reps S (qs.map (fun q=>q.2.1)) (qs.map (fun q=>q.2.2)):=by
   refine ⟨by simp,fun i v V hv hV=>?_⟩
   rw [List.getElem?_map] at hv hV
   cases hqi:qs[i]? with
   | none=>rw [hqi] at hv;cases hv
   | some q =>
    rw [hqi] at hv hV
    cases hv;cases hV
    exact hrep q (List.mem_of_getElem? hqi)
  have st2:=st1.addM (a:=la) (mo:=.lst (qs.map (fun q=>q.2.2))) ⟨_,e,by rw [hla,←Array.toArray_toList (xs:=out),hout,List.map_map];rfl,hreps⟩ (by simp [MO.addrs]) (fun b hb=>hbs b hb)
  have:=h (qs.map fun q=>(q.1,q.2.2)) (by rw [ez2];exact hq.map _) (by
   rw [List.pairwise_map] at hs ⊢
   exact hs.imp fun {a b} h=>by simpa using h)
  rw [List.map_map] at this
  exact ⟨S,_,_,.rfl,.none,st2,this⟩
end
section
variable {cmp:Nat→Nat→(Bool→Shared→Prop)→Shared→Prop} {r:Nat→Int} {N:Nat} {Inv:Shared→Prop}
def Sp (cmp:Nat→Nat→(Bool→Shared→Prop)→Shared→Prop) (Inv:Shared→Prop) {α:Type} (t:KasT α) (P:α→Prop):Prop :=
 ∀ (Q:α→Shared→Prop) s,Inv s→(∀ a s',Inv s'→P a→Q a s')→t.kasWp cmp Q s
theorem Sp.ret {α:Type} {a:α} {P:α→Prop} (h:P a):Sp cmp Inv (.ret a) P:=fun Q s i k=>k a s i h
theorem Sp.imp {α:Type} {t:KasT α} {P P':α→Prop} (h:Sp cmp Inv t P) (k:∀ a,P a→P' a):Sp cmp Inv t P':=fun Q s i q=>h Q s i fun a s' i' p=>q a s' i' (k a p)
abbrev PB (N:Nat) (p:Array Nat):Prop:=p.Perm (List.toArray (List.range N))
theorem PB.size {p:Array Nat} (h:PB N p):p.size=N:=by rw [h.size_eq];simp
theorem PB.lt {p:Array Nat} (h:PB N p) {i:Nat} (hi:i<N):p.getD i 0<N:=by
 have hs:=h.size
 have e:p.getD i 0=p[i]:=by simp [Array.getD,show i<p.size by exact (lin3 (.lt .v0 .v1) [.lt .v0 .v2,.eq .v1 .v2]) hi hs]
 rw [e]
 have hm:p[i]∈p.toList:=by simp
 have:=(Array.perm_iff_toList_perm.mp h).mem_iff.mp hm
 simpa using this
end
section
variable {c:Cx} {X:AX} {Q:AV→AX→Prop}
end
section
variable {c:Cx} {X:AX} {Q:AV→AX→Prop} {B:Bg}
theorem Cx.Ok.at1 {d:Nat} (ok:c.Ok) (G:Gd c.A (d+1)):c.at1.Ok:=⟨ok.X,ok.T,G.in1.le rfl,ok.gl,ok.bi,ok.fk,ok.noE,ok.kl,ok.cnd⟩
theorem St.at1 {S:Sto} {s:Shared} (st:St c B S X s):St c.at1 B S X s:=St.cx (c:=c) rfl rfl rfl st
theorem St.of1 {S:Sto} {s:Shared} (st:St c.at1 B S X s):St c B S X s:=St.cx (c:=c.at1) rfl rfl rfl st
theorem eqBool_inst {V U:AV} {C f:Addr} {ks:List Str} {us ws:List AV} {b:Bool} {S:Sto} {s:Shared} {v u:Value} (hi:IsInst X V C ks us) (hi':IsInst X U C ks ws) (hn:notFirst c.K C (.ref C)=true) (hs:findIn c.K (.ref C) (cmpInfo .Eq).2.1=some (some (.ref f))) (hf:isFn c.K (.ref f)=true)
  (h:WF c (.ref f) [V,U] [] (fun R Y=>R=.bool b∧Y=X) X) (hb:v=u→b=true) (ok:c.Ok) (st:St c B S X s) (r1:Rep S v V) (r2:Rep S u U) {R:Bool→Shared→Prop} (hR:∀ S' s',S.Le S'→St c B S' X s'→R b s'):wpAny (model c.P c.w) c.A (eqBool v u) R c.E s:=by
 obtain ⟨a,d,es,ep,rfl,I,_⟩:=hi.at st r1
 obtain ⟨a',d',es',ep',rfl,I',_⟩:=hi'.at st r2
 unfold eqBool
 refine wpAny_holding ?_
 refine wpAny_ite_split (fun hab=>?_) (fun _=>?_)
 ·have:=eq_of_beq hab
  rw [hb this] at hR
  exact wpAny_bind (wpAny_rule (wpAny_pure (hR S s .rfl st)))
 ·refine wpAny_bind (wpAny_mono (O_cmp (op:=.Eq) (Q:=fun W Y=>W=.bool b∧Y=X) hi hi' hn hs hf (fun _ _=>rfl) (h.imp fun W Y z=>⟨b,z.1,rfl,z.2⟩) B S s _ _ ok r1 r2 st) (fun w s' z=>?_) fun _ _ e=>e)
  obtain ⟨S',W,Y,le,rw',st',hW,hY⟩:=z
  subst hW
  rw [rw'.bool_inv]
  exact wpAny_truthy_bool (hR S' s' le (hY▸st'))
theorem eq_loopI {xs ys:List AV} {C f:Addr} {ks:List Str} {e:Nat→Bool} {d:Nat} (G:Gd c.A (d+1)) (hsz:xs.length=ys.length) (hI:∀ (i:Nat) U,xs[i]?=some U→∃ us,IsInst X U C ks us) (hI':∀ (i:Nat) U,ys[i]?=some U→∃ us,IsInst X U C ks us)
  (hn:notFirst c.K C (.ref C)=true) (hs:findIn c.K (.ref C) (cmpInfo .Eq).2.1=some (some (.ref f))) (hf:isFn c.K (.ref f)=true)
  (h:∀ (i:Nat) U W,xs[i]?=some U→ys[i]?=some W→WF c.at1 (.ref f) [U,W] [] (fun R Y=>R=.bool (e i)∧Y=X) X) (hb:∀ (S:Sto) (hp:Heap) (i:Nat) U W v,(∀ b o,S b o→hp.get? b=some o)→xs[i]?=some U→ys[i]?=some W→Rep S v U→Rep S v W→e i=true)
  {l b:Addr} {us ws:List Value} {n n2:Nat} (ok:c.Ok) {R:Result→Shared→Prop}:∀ (k i:Nat) (S:Sto) (s:Shared),us.length-i=k→S l (seqObj "list" us.toArray n)→S b (seqObj "list" ws.toArray n2)→Reps S us xs→Reps S ws ys→St c B S X s →
   (∀ S' s',S.Le S'→St c B S' X s'→R (.ok (.ret (.bool (((List.range xs.length).drop i).all e)))) s') →
   wpAny (model c.P c.w) c.A.in1 (Builtin.«list.__eq__.loop» ⟨[.ref l,.ref b,rawInt i,rawInt 2],[]⟩) (fun fin s'=>match fin with | .done f=>R (.ok f) s' | .again c'=>c'.quiet=true∧codeAny (model c.P c.w) c.A c' R s') (fun e s'=>R (.error e) s') s:=by
 intro k
 induction k with
 | zero =>
  intro i S s hk h1 h2 r1 r2 st hR
  have g1:=st.sto _ _ h1
  have g2:=st.sto _ _ h2
  have hR:=hR S s .rfl st
  clear st
  obtain ⟨hp,g,dr,tk,os⟩:=s
  have hl1:=r1.1
  have hl2:=r2.1
  wp_walk using AutoSeq1.wpAny_loadPart' g1,AutoSeq1.wpAny_loadPart' g2
  have hi1:us.toArray[((i:Nat):Int).toNat]?=none:=by simp;exact (lin3 (.le .v0 .v1) [.eq .v2 .n0,.sb .v2 .v0 .v1]) hk (sbc _ _)
  have hi2:ws.toArray[((i:Nat):Int).toNat]?=none:=by simp;exact (lin6 (.le .v0 .v1) [.eq .v2 .v3,.eq .v4 .n0,.eq .v5 .v2,.eq .v0 .v3,.sb .v4 .v5 .v1]) hsz hk hl1 hl2 (sbc _ _)
  have hd:(List.range xs.length).drop i=[]:=by simp;exact (lin4 (.le .v0 .v1) [.eq .v2 .n0,.eq .v3 .v0,.sb .v2 .v3 .v1]) hk hl1 (sbc _ _)
  rw [hd] at hR
  rw [hi1,hi2]
  wp_walk using AutoSeq1.wpAny_loadPart' g1,AutoSeq1.wpAny_loadPart' g2
  show R (.ok (.ret (.bool (us.toArray.size==ws.toArray.size)))) _
  rw [List.size_toArray,List.size_toArray,hl1,hl2,hsz]
  simpa using hR
 | succ k ih =>
  intro i S s hk h1 h2 r1 r2 st hR
  have g1:=st.sto _ _ h1
  have g2:=st.sto _ _ h2
  have hl1:=r1.1
  have hl2:=r2.1
  have hlt:i<us.length:=by exact (lin4 (.lt .v0 .v1) [.eq .v2 (.a .v3 .n1),.sb .v2 .v1 .v0]) hk (sbc _ _)
  have hlt2:i<ws.length:=by exact (lin5 (.lt .v0 .v1) [.eq .v2 .v3,.eq .v4 .v2,.eq .v1 .v3,.lt .v0 .v4]) hsz hl1 hl2 hlt
  have hi1:us.toArray[((i:Nat):Int).toNat]?=some us[i]:=by simp [hlt]
  have hi2:ws.toArray[((i:Nat):Int).toNat]?=some ws[i]:=by simp [hlt2]
  have hd:(List.range xs.length).drop i=i::(List.range xs.length).drop (i+1):=by
   rw [List.drop_eq_getElem_cons (by simp;exact (lin3 (.lt .v0 .v1) [.eq .v2 .v1,.lt .v0 .v2]) hl1 hlt)];simp
  have hc:((i:Int)+1)=((i+1:Nat):Int):=by push_cast;rfl
  rw [hd,List.all_cons] at hR
  have hx:xs[i]?=some xs[i]:=List.getElem?_eq_getElem (by exact (lin3 (.lt .v0 .v1) [.eq .v2 .v1,.lt .v0 .v2]) hl1 hlt)
  have hy:ys[i]?=some ys[i]:=List.getElem?_eq_getElem (by exact (lin4 (.lt .v0 .v1) [.eq .v2 .v1,.eq .v3 .v2,.lt .v0 .v3]) hsz hl1 hlt)
  have rx:=r1.2 i _ _ (List.getElem?_eq_getElem hlt) hx
  have ry:=r2.2 i _ _ (List.getElem?_eq_getElem hlt2) hy
  obtain ⟨cu,iu⟩:=hI i _ hx
  obtain ⟨cw,iw⟩:=hI' i _ hy
  have key:=@eqBool_inst c.at1 X B xs[i] ys[i] C f ks cu cw (e i) S s us[i] ws[i] iu iw hn hs hf (h i _ _ hx hy) (fun z=>hb S s.heap i _ _ us[i] st.sto hx hy rx (z▸ry)) (ok.at1 G) st.at1 rx ry
  obtain ⟨hp,g,dr,tk,os⟩:=s
  wp_walk using AutoSeq1.wpAny_loadPart' g1,AutoSeq1.wpAny_loadPart' g2
  rw [hi1,hi2]
  refine wpAny_bind (wpAny_mono (key (R:=fun bb s'=>bb=e i∧∃ S',S.Le S'∧St c B S' X s') fun S' s' le st'=>⟨rfl,S',le,st'.of1⟩) (fun bb s' z=>?_) (fun e s' z=>((ok.at1 G).noE _ _ z).elim))
  obtain ⟨rfl,S',le,st'⟩:=z
  have k1:=st'.sto _ _ (le _ _ h1)
  have k2:=st'.sto _ _ (le _ _ h2)
  cases hb':e i with
  | true =>
   rw [hb'] at hR
   obtain ⟨hp',g',dr',tk',os'⟩:=s'
   wp_walk
   rw [hc]
   exact ⟨plainId_quiet MeetsSeq3.plain_eq_loop _,codeAny_builtin MeetsSeq3.entry_eq_loop (by
    rw [Around.under_plainId MeetsSeq3.plain_eq_loop _]
    exact ih (i+1) S' _ (by exact (lin5 (.eq .v0 .v3) [.eq .v4 (.a .v3 .n1),.sb .v0 .v1 (.a .v2 .n1),.sb .v4 .v1 .v2]) hk (sbc _ _) (sbc _ _)) (le _ _ h1) (le _ _ h2) (r1.mono le) (r2.mono le) st' fun S₂ s₂ l₂ st₂=>by simpa using hR S₂ s₂ (le.trans l₂) st₂)⟩
  | false =>
   rw [hb'] at hR
   have hR:=hR S' s' le st'
   clear st'
   obtain ⟨hp',g',dr',tk',os'⟩:=s'
   wp_walk using AutoSeq1.wpAny_loadPart' k1,AutoSeq1.wpAny_loadPart' k2
   rw [hi1,hi2]
   wp_walk
   simpa using hR
theorem O_eqInst {xs ys:List AV} {C f:Addr} {ks:List Str} {e:Nat→Bool} {d:Nat} (G:Gd c.A (d+1)) (hI:∀ (i:Nat) U,xs[i]?=some U→∃ us,IsInst X U C ks us) (hI':∀ (i:Nat) U,ys[i]?=some U→∃ us,IsInst X U C ks us)
  (hn:notFirst c.K C (.ref C)=true) (hs:findIn c.K (.ref C) (cmpInfo .Eq).2.1=some (some (.ref f))) (hf:isFn c.K (.ref f)=true)
  (h:∀ (i:Nat) U W,xs[i]?=some U→ys[i]?=some W→WF c.at1 (.ref f) [U,W] [] (fun R Y=>R=.bool (e i)∧Y=X) X) (hb:∀ (S:Sto) (hp:Heap) (i:Nat) U W v,(∀ b o,S b o→hp.get? b=some o)→xs[i]?=some U→ys[i]?=some W→Rep S v U→Rep S v W→e i=true)
  (hq:Q (.bool (xs.length==ys.length && (List.range xs.length).all e)) X):W2 c Rep (.lst xs) (.lst ys) (compareOp .Eq) Q X:=by
 intro B S s v u ok r₁ r₂ st
 obtain ⟨l,us,n,rfl,h1,h2⟩:=r₁.lst_inv
 obtain ⟨b,ws,n2,rfl,g1,g2⟩:=r₂.lst_inv
 have a1:=st.sto _ _ h1
 have a2:=st.sto _ _ g1
 refine cmp_ofEq (wpAny_richCompare_same_room (T := "list") ⟨_,a1,rfl⟩ ⟨_,a2,rfl⟩ F.slot_list_eq ?_ (G.le (Nat.ble_eq.mpr (Nat.le_refl _))).units)
 refine wpAny_call (codeAny_call_builtin F.slot_list_eq.plain F.entry_list_eq (F.slot_list_eq.check _ _ _ _ _ _ _ _ ⟨_,a1,rfl⟩ (F.args_list_eq_2 _ _) ?_))
 have f3:=AutoSeq1.sub_list_list
 by_cases hl:xs.length=ys.length
 ·have hne:¬(us.toArray.size != ws.toArray.size)=true:=by simp [h2.1,g2.1,hl]
  have main:=eq_loopI (B:=B) G hl hI hI' hn hs hf h hb ok (l:=l) (b:=b) (R:=fun r s'=>match r with | .ok (.ret v)=>v≠.notImplemented∧Post c B S Rep Q v s' | .ok _=>False | .error e=>c.E e s') _ 0 S s rfl h1 g1 h2 g2 st fun S' s' le st'=>⟨(fun x=>nomatch x),S',_,X,le,.bool _,st',by
   rw [show (xs.length==ys.length && (List.range xs.length).all e)=(((List.range xs.length).drop 0).all e) by simp [hl]] at hq;exact hq⟩
  obtain ⟨hp,g,dr,tk,os⟩:=s
  wp_walk using AutoSeq1.wpAny_loadPart' a1,AutoSeq1.wpAny_loadPart' a2
  rw [if_neg hne]
  refine wpAny_pure (a:=Fin.again (.builtin "list.__eq__.loop" ⟨[.ref l,.ref b,rawInt ((0:Nat):Int),rawInt 2],[]⟩)) ⟨plainId_quiet MeetsSeq3.plain_eq_loop _,codeAny_builtin MeetsSeq3.entry_eq_loop ?_⟩
  rw [Around.under_plainId MeetsSeq3.plain_eq_loop _]
  exact main
 ·have hne:(us.toArray.size != ws.toArray.size)=true:=by simp [h2.1,g2.1,hl]
  have fin:Post c B S Rep Q (.bool false) s:=⟨S,_,X,.rfl,.bool _,st,by
   rw [show (xs.length==ys.length && (List.range xs.length).all e)=false by simp [hl]] at hq;exact hq⟩
  clear st
  obtain ⟨hp,g,dr,tk,os⟩:=s
  wp_walk using AutoSeq1.wpAny_loadPart' a1,AutoSeq1.wpAny_loadPart' a2
  rw [if_pos hne]
  exact wpAny_bind (wpAny_rule (wpAny_pure ⟨(fun x=>nomatch x),fin⟩))
end
section
variable {c:Cx} {X:AX} {Q:AV→AX→Prop} {C:Addr}
theorem G_cv {attr:Str} {mc a:Value} {U:AV} (hm:typeIn c.K (.ref C)=some mc) (hr:readsIn c.K C mc=true) (e:findCls c.K (.ref C) mc attr=some (.val a)) (hh:handedIn a=true) (hU:∀ S,Rep S a U) (h:Q U X):W1 c Rep (.raw (.ref C)) (fun o=>getAttr o attr true) Q X:=G_clsval hr e hh hU h
theorem M_cmm {name:Str} {pl pos args kws} {mc:Value} {p f:Addr} {rest:List Value} (hs:specialIn c.K (.ref C) "__getattribute__" = some (some (.builtin "type.__getattribute__"))) (hm:typeIn c.K (.ref C)=some mc) (hr:readsIn c.K C mc=true) (e:findCls c.K (.ref C) mc name=some (.get (.builtin "classmethod.__get__") (.ref p) .none (.ref C)))
  (hp:recIn c.K p "classmethod" = some (.ref f::rest)) (hfn:fnIn c.K f=true) (h:WArgs c pos args kws (fun Us Ks X₁=>WF c (.ref f) (.raw (.ref C)::Us) Ks Q X₁) X) (he:∀ e r,args=e::r→starEach args c.env=(false,eval e c.env)::starEach r c.env:=by intro _ _ h;first | (cases h;rfl) | cases h) (hall:(backToKw pos (keywordEach kws c.env)).all (·.1.isSome)=true:=by rfl):WM c name pl pos args kws (.raw (.ref C)) Q X:=M_cm hs hr e hp hfn h he hall
variable {V:AV} {ks:List Str} {vs:List AV}
theorem M_class {pl pos args kws} (hi:IsInst X V C ks vs) (hg:plainGet c.K C "__class__" = true) (hh:hasDictIn c.K C=true)
  (ha:findIn c.K (.ref C) "__class__" = some (some (.builtin "object.__class__"))) (ht':typeIn c.K (.builtin "object.__class__")=some (.type "getset_descriptor")) (hn:specialIn c.K (.builtin "object.__class__") "__get__" = some (some (.builtin "getset_descriptor.__get__"))) (ht:takesIn c.K (.builtin "object.__class__")=some true)
  (hm:mroIn c.K C (.type "object")=some true) (hk:keepIn c.K (.ref C)=true) (h:WArgs c pos args kws (fun Us Ks X₁=>WC c (.ref C) Us Ks Q X₁) X)
  (he:∀ e r,args=e::r→starEach args c.env=(false,eval e c.env)::starEach r c.env:=by intro _ _ h;first | (cases h;rfl) | cases h) (hall:(backToKw pos (keywordEach kws c.env)).all (·.1.isSome)=true:=by rfl):WM c (Str.ofString "__class__") pl pos args kws V Q X:=by
 intro B S s v ok r st
 have X0:=ok.X.keeps st.gr
 have go:=G_class (Q:=fun U Y=>U=.raw (.ref C)∧Y=X) hi hg hh ha hn ht hm ⟨rfl,rfl⟩ B S s v ok r st
 obtain ⟨a,d,es,ep,rfl,I,en⟩:=hi.at st r
 refine wpAny_bind (method_usual (r:=some (.builtin "object.__class__")) X0 I (plainGet_of hg).1 (plainGet_of hg).2 ha (by simp only [Option.all_some,ht',Option.any_some];decide +kernel) ?_)
 have go':wpAny (model c.P c.w) c.A (getAttr (.ref a) (Str.ofString "__class__")) (Post c B S Rep fun U Y=>U=.raw (.ref C)∧Y=X) c.E s:=by
  refine get_bind X0 I (plainGet_of hg).1 (findObj_data (by obtain ⟨cd,hc,_⟩:=any_some hh;rw [hc];rfl) ha hn ht) (plainGet_of hg).2 (wpAny_call (class_get (s:={s with toks:=s.toks+1}) X0 I hm ?_))
  exact handed_on rfl ⟨S,.raw (.ref C),X,.rfl,.raw _,st.toks _,rfl,rfl⟩
 refine wpAny_mono go' (fun u s' z=>?_) fun _ _ e=>e
 obtain ⟨S',U,Y,le,ru,st',hU,hY⟩:=z
 subst hU
 rw [hY] at st'
 rw [ru.raw_inv]
 exact wpAny_mono (run_call (Fs:=[]) ok st' .nil (fun h X0 _=>keeper_keep hk h X0) h he hall) (fun _ _ p=>p.up le) fun _ _ e=>e
theorem M_cmi {name:Str} {pl pos args kws} {p f:Addr} {rest:List Value} (hi:IsInst X V C ks vs) (hg:plainGet c.K C name=true) (hh:hasDictIn c.K C=true) (ha:findIn c.K (.ref C) name=some (some (.ref p))) (ht:typeIn c.K (.ref p)=some (.type "classmethod"))
  (hgf:specialIn c.K (.ref p) "__get__" = some (some (.builtin "classmethod.__get__"))) (hts:takesIn c.K (.ref p)=some false) (hc:copiedNames.contains name=false) (hk:name∉ks) (hp:recIn c.K p "classmethod" = some (.ref f::rest)) (hfn:fnIn c.K f=true)
  (h:WArgs c pos args kws (fun Us Ks X₁=>WF c (.ref f) (.raw (.ref C)::Us) Ks Q X₁) X) (he:∀ e r,args=e::r→starEach args c.env=(false,eval e c.env)::starEach r c.env:=by intro _ _ h;first | (cases h;rfl) | cases h) (hall:(backToKw pos (keywordEach kws c.env)).all (·.1.isSome)=true:=by rfl):WM c name pl pos args kws V Q X:=by
 intro B S s v ok r st
 have X0:=ok.X.keeps st.gr
 obtain ⟨a,d,es,ep,rfl,I,en⟩:=hi.at st r
 refine wpAny_bind (method_usual (r:=some (.ref p)) X0 I (plainGet_of hg).1 (plainGet_of hg).2 ha (by simp only [Option.all_some,ht,Option.any_some];decide +kernel)
  (get_bind X0 I (plainGet_of hg).1 (findObj_fn hh ha hgf hts hc (by show lookIn name (dictOf es ep)=_;rw [lookIn_dict,en.miss hk])) (plainGet_of hg).2
   (wpAny_call (cm_get (s:={s with toks:=s.toks+1}) X0 hp (handed_on rfl ?_)))))
 have st1:=(st.toks (s.toks+1)).push (methodObj (.ref f) (.ref C)) rfl
 refine wpAny_mono (run_call_ (S:=S.put s.heap.objs.size (methodObj (.ref f) (.ref C))) (fun Us Ks X₁=>WF c (.ref f) (.raw (.ref C)::Us) Ks Q X₁) ok st1 (fun h X0 k=>?_) (fun S₂ s₂ X₂ vs Us kw Ks u r rk st₂ z=>?_) (Q:=Q) h he hall) (fun _ _ p=>p.up (Sto.put_le _ _ _)) fun _ _ e=>e
 ·have:=k _ _ (Sto.put_self S s.heap.objs.size (methodObj (.ref f) (.ref C)))
  unfold fnIn at hfn
  split at hfn
  ·rename_i q
   exact ⟨_,(Looks.ld (part:=none) this).andThen ((Looks.ld (part:=none) (X0 _ _ q)).andThen .now)⟩
  ·cases hfn
 ·refine wpAny_call (method_call (st₂.sto _ _ (u _ _ (Sto.put_self S s.heap.objs.size (methodObj (.ref f) (.ref C))))) (codeAny_mono (z B S₂ s₂ _ _ ok (.cons (.raw _) r) rk st₂) fun r s' z=>?_))
  replace z:=z.1
  rcases r with e | (v | _ | _ | _)<;>first | exact z | exact z.elim
end
section
variable {c:Cx} {B:Bg} {S:Sto} {X:AX} {s:Shared}
theorem St.perm {τ:List (Addr×MO)} (p:X.σ.Perm τ) (st:St c B S X s):St c B S ⟨τ,X.m⟩ s:=by
 have pa:(AX.adr X.σ).Perm (AX.adr τ):=p.flatMap_right _
 exact ⟨st.loc,st.gr,st.base,st.sto,st.cel,st.fr,fun q hq=>st.mu q (p.mem_iff.mpr hq),pa.nodup_iff.mp st.nd,fun a ha=>st.sep a (ha.imp id pa.mem_iff.mpr),fun a ha q=>st.dis a ha (pa.mem_iff.mpr q),st.dom,st.prot,st.pin,st.os,st.gens,st.drawn⟩
theorem Conv.perm {τ:List (Addr×MO)} (p:X.σ.Perm τ):Conv c X ⟨τ,X.m⟩:=fun B S s st=>⟨S,.rfl,fun _ _=>.inl,st.perm p⟩
theorem ConvV.perm {V:AV} {τ:List (Addr×MO)} (p:X.σ.Perm τ):ConvV c V X V ⟨τ,X.m⟩:=fun B S s v r st=>⟨S,.rfl,r,st.perm p⟩
theorem WF.pre {f:Value} {Vs:List AV} {kws:List (Str×AV)} {Q:AV→AX→Prop} {Y:AX} (h:Conv c X Y) (k:WF c f Vs kws Q Y):WF c f Vs kws Q X:=by
 intro B S s vs kw ok r rk st
 obtain ⟨S',le,_,st'⟩:=h B S s st
 refine codeAny_mono (k B S' s vs kw ok (r.mono le) ⟨rk.1,rk.2.mono le⟩ st') fun r s' p=>⟨?_,p.2⟩
 replace p:=p.1
 rcases r with e | (v | _ | _ | _)<;>first | exact p | exact Post.up le p
theorem WC.pre {f:Value} {Vs:List AV} {kws:List (Str×AV)} {Q:AV→AX→Prop} {Y:AX} (h:Conv c X Y) (k:WC c f Vs kws Q Y):WC c f Vs kws Q X:=by
 intro B S s vs kw ok r rk st
 obtain ⟨S',le,_,st'⟩:=h B S s st
 exact wpAny_mono (k B S' s vs kw ok (r.mono le) ⟨rk.1,rk.2.mono le⟩ st') (fun _ _ p=>p.up le) fun _ _ e=>e
theorem atI_last {xs:List AV} {k:Nat} {V:AV} (h:xs.reverse[k]?=some V):atI xs (-((k:Int)+1))=some V:=by
 have hk:k<xs.length:=by
  have:=(List.getElem?_eq_some_iff.mp h).1
  simpa using this
 unfold atI
 rw [if_neg (by exact lin1 (.no (.zl .n0 (.g (.a (.c .v0) .n1)))) []),if_pos (by exact (lin2 (.zl (.g (.c .v0)) (.g (.a (.c .v1) .n1))) [.lt .v1 .v0]) hk)]
 rw [List.getElem?_reverse hk] at h
 rw [show (-((k:Int)+1)+(xs.length:Int)).toNat=xs.length-1-k by lia]
 exact h
theorem IsInst.turn {a C d:Addr} {ks:List Str} {vs:List AV} (h:(a,MO.inst C d ks vs)∈X.σ):IsInst X (.raw (.ref a)) C ks vs:=.inr ⟨a,d,rfl,h⟩
end
section
variable {c:Cx} {X:AX} {Q:AV→AX→Prop}
theorem WA.imp' {t:Expr} {V:AV} {Q Q':AX→Prop} (h:WA c t V Q X) (k:∀ Y,Q Y→Q' Y):WA c t V Q' X:=fun B S s v ok r st=>wpAny_mono (h B S s v ok r st) (fun _ _ p=>p.imp fun _ _ q=>k _ q) fun _ _ e=>e
theorem WI.fix {t:Expr} {V:AV} {xs:List AV} {X₁:AX} {P:List AV→(AX→AX)→AX→Prop} (h:WI c t V (fun xs' bk X₃=>xs'=xs∧bk=id∧X₃=X₁) X) (k:P xs id X₁):WI c t V P X:=by
 intro B S s v ok r st
 refine wpAny_mono (h B S s v ok r st) (fun it s' z=>?_) fun _ _ z=>z
 obtain ⟨S',X',fp,J,E,xs',bk,h1,h2,h3,h4,h5,h6,rfl,rfl,rfl⟩:=z
 exact ⟨S',X',fp,J,E,xs',id,h1,h2,h3,h4,h5,h6,k⟩
theorem gen_weak {τ:List (Addr×MO)} {m m₂:List (Str×AV)} {σ:List (Addr×MO)} (e:σ=τ) (hl:∀ p∈m₂,m.lookup p.1=some p.2):Conv c ⟨σ,m⟩ ⟨τ,m₂⟩ :=
 Conv.weak (e▸List.Sublist.refl _) fun x V e=>by
  obtain ⟨p,hp,rfl⟩:=lookup_mem e
  exact hl _ hp
theorem map_gen {elt:Expr} {g:Comprehension} {D:Addr} {xs ys:List AV} {σ:List (Addr×MO)} {m₂:List (Str×AV)} {U:AX→Prop} (hlen:ys.length=xs.length) (hz:xs.length≤1000000) (hifs:g.ifs=[])
  (item:∀ (i:Nat) x y,xs[i]?=some x→ys[i]?=some y→WA c g.target x (fun Y'=>WE c elt (fun V Y=>V=y∧Y.σ=(D,.lst (ys.take i))::σ∧∀ p∈m₂,Y.m.lookup p.1=some p.2) Y') ⟨(D,.lst (ys.take i))::σ,m₂⟩) (hq:U ⟨(D,.lst ys)::σ,m₂⟩) :
  WGen c g (WTurn c D elt []) xs id U ⟨(D,.lst [])::σ,m₂⟩:=by
 refine ⟨fun i Y=>Y=⟨(D,.lst (ys.take i))::σ,m₂⟩,⟨_,Conv.rfl,rfl⟩,fun i x Y hx hY=>?_,fun Y hY=>by subst hY;rw [←hlen,List.take_length];exact hq⟩
 subst hY
 have hi:i<ys.length:=by rw [hlen];exact (List.getElem?_eq_some_iff.mp hx).1
 have hy:ys[i]?=some ys[i]:=List.getElem?_eq_getElem hi
 refine WA.imp' (item i x _ hx hy) fun Y' hE=>?_
 rw [hifs]
 refine If_nil ?_
 rw [if_pos rfl]
 refine hE.imp fun V Y hz₉=>?_
 obtain ⟨hV,hσ,hl⟩:=hz₉
 subst hV
 refine ⟨ys.take i,(D,.lst (ys.take i++[ys[i]]))::σ,by rw [hσ];exact .head,Nat.le_trans (List.length_take_le' i ys) (hlen▸hz),⟨(D,.lst (ys.take (i+1)))::σ,m₂⟩,?_,rfl⟩
 rw [List.take_add_one,hy]
 exact gen_weak rfl hl
theorem E_map {elt:Expr} {g:Comprehension} {scope:Scope} {pos:Pos} {xs ys:List AV} {X₁:AX} (m₂:List (Str×AV))
  (hiter:WE c g.iter (fun V X₂=>WI c g.target V (fun xs' bk X₃=>xs'=xs∧bk=id∧X₃=X₁) X₂) X) (hlen:ys.length=xs.length) (hz:xs.length≤1000000)
  (hm:∀ p∈m₂,X₁.m.lookup p.1=some p.2∧Capt c scope p.1) (hifs:g.ifs=[])
  (item:∀ C D (i:Nat) x y,(c.block scope C).Ok→xs[i]?=some x→ys[i]?=some y→WA (c.block scope C) g.target x (fun Y'=>WE (c.block scope C) elt (fun V Y=>V=y∧Y.σ=(D,.lst (ys.take i))::X₁.σ∧∀ p∈m₂,Y.m.lookup p.1=some p.2) Y') ⟨(D,.lst (ys.take i))::X₁.σ,m₂⟩)
  (hq:∀ D,Q (.raw (.ref D)) ⟨(D,.lst ys)::X₁.σ,X₁.m⟩)
  (hnd:(m₂.map (·.1)).Nodup) (hfree:∀ p∈scope.names,p.2=.free→(c.env.cells.lookup p.1).isSome=true) (hcell:∀ p∈scope.names,p.2≠.cell) (hkind:scope.kind=.function) (hnames:∀ x∈scope.names,x.2=.local→scope.names.lookup x.1=some .local)
  (ha:g.is_async=0) (hf:∀ x,foldedSetIterable g.iter c.env x=pure x) :
  WE c (.ListComp elt [g] scope pos) Q X :=
 E_compM m₂ (hiter.imp fun V X₂ h=>WI.fix h ⟨hm,fun C D okC=>map_gen hlen hz hifs (fun i x y=>item C D i x y okC) (hq D)⟩) hfree hcell hkind hnames (fun q hq=>by rw [List.mem_singleton.mp hq];exact ha) (fun q hq=>by rw [List.mem_singleton.mp hq];exact hf) (fun _ q hq=>nomatch hq)
theorem E_mapF {elt:Expr} {g:Comprehension} {scope:Scope} {pos:Pos} {xs ys:List AV} {X₁:AX} (m₂:List (Str×AV))
  (hiter:WE c g.iter (fun V X₂=>WI c g.target V (fun xs' bk X₃=>xs'=xs∧bk=id∧X₃=X₁) X₂) X) (hlen:ys.length=xs.length) (hz:xs.length≤1000000)
  (hm:∀ p∈m₂,X₁.m.lookup p.1=some p.2∧Capt c scope p.1) (hifs:g.ifs=[])
  (item:∀ C D (i:Nat) x y,(c.block scope C).Ok→xs[i]?=some x→ys[i]?=some y→WA (c.block scope C) g.target x (fun Y'=>WE (c.block scope C) elt (fun V Y=>V=y∧Y.σ=(D,.lst (ys.take i))::X₁.σ∧∀ p∈m₂,Y.m.lookup p.1=some p.2) Y') ⟨(D,.lst (ys.take i))::X₁.σ,m₂⟩)
  (hq:Q (.lst ys) X₁)
  (hnd:(m₂.map (·.1)).Nodup) (hfree:∀ p∈scope.names,p.2=.free→(c.env.cells.lookup p.1).isSome=true) (hcell:∀ p∈scope.names,p.2≠.cell) (hkind:scope.kind=.function) (hnames:∀ x∈scope.names,x.2=.local→scope.names.lookup x.1=some .local)
  (ha:g.is_async=0) (hf:∀ x,foldedSetIterable g.iter c.env x=pure x) :
  WE c (.ListComp elt [g] scope pos) Q X :=
 WE.conv (E_map m₂ hiter hlen hz hm hifs item (fun D=>⟨_,_,ConvV.freeze (m':=X₁.m) .head rfl .here (fun x V e=>⟨V,e,.same V⟩),hq⟩) hnd hfree hcell hkind hnames ha hf)
theorem O_isNo {V:AV} (hV:∀ S v,Rep S v V→v≠.none) (h:Q (.bool false) X):W2 c Rep V .none (compareOp .Is) Q X:=by
 intro B S s v u ok r₁ r₂ st
 rw [r₂.none_inv]
 exact is_none_ne (hV S v r₁) ⟨S,_,X,.rfl,.bool _,st,h⟩
theorem lst_some {xs:List AV}:∀ S v,Rep S v (.lst xs)→v≠.none:=fun S v r=>by
 obtain ⟨a,_,_,rfl,_⟩:=r.lst_inv
 intro e;cases e
end
inductive FzL (D:Addr) (W:AV):List AV→List AV→Prop
 | nil:FzL D W [] []
 | cons {x y:AV} {xs ys:List AV}:Fz D W x y→FzL D W xs ys→FzL D W (x::xs) (y::ys)
theorem FzL.same {D:Addr} {W:AV}:∀ xs:List AV,FzL D W xs xs
 | []=>.nil
 | x::r=>.cons (.same x) (FzL.same r)
theorem FzL.len {D:Addr} {W:AV} {xs ys:List AV} (h:FzL D W xs ys):xs.length=ys.length:=by
 induction h with
 | nil=>rfl
 | cons _ _ ih=>simp [ih]
theorem FzL.at {D:Addr} {W:AV} {xs ys:List AV} (h:FzL D W xs ys):∀ (i:Nat) x y,xs[i]?=some x→ys[i]?=some y→Fz D W x y:=by
 induction h with
 | nil=>intro i x y e;simp at e
 | cons h _ ih =>
  intro i x y e1 e2
  cases i with
  | zero=>simp at e1 e2;subst e1 e2;exact h
  | succ i=>simp at e1 e2;exact ih i x y e1 e2
inductive FzM (D:Addr) (W:AV):MO→MO→Prop
 | lst {xs ys:List AV}:FzL D W xs ys→FzM D W (.lst xs) (.lst ys)
 | inst {C d:Addr} {ks:List Str} {xs ys:List AV}:FzL D W xs ys→FzM D W (.inst C d ks xs) (.inst C d ks ys)
section
variable {c:Cx} {B:Bg} {S:Sto} {X:AX} {s:Shared}
theorem FzM.rep {D:Addr} {W:AV} {mo mo':MO} (z:FzM D W mo mo') {h:Heap} {a:Addr} (hW:Rep S (.ref D) W) (x:MRep S h a mo):MRep S h a mo':=by
 cases z with
 | lst z =>
  obtain ⟨vs,n,h1,h2⟩:=x
  refine ⟨vs,n,h1,h2.1.trans z.len,fun i v y hv hy=>?_⟩
  obtain ⟨x,hx⟩:∃ x,_=some x:=⟨_,List.getElem?_eq_getElem (by rw [z.len];exact (List.getElem?_eq_some_iff.mp hy).1)⟩
  exact (z.at i x y hx hy).rep .rfl hW (h2.2 i v x hv hx)
 | inst z =>
  obtain ⟨h1,es,ep,h2,h3⟩:=x
  refine ⟨h1,es,ep,h2,h3.lk,h3.lv.trans z.len,h3.key,fun i e y he hy=>?_⟩
  obtain ⟨x,hx⟩:∃ x,_=some x:=⟨_,List.getElem?_eq_getElem (by rw [z.len];exact (List.getElem?_eq_some_iff.mp hy).1)⟩
  exact (z.at i x y hx hy).rep .rfl hW (h3.val i e x he hx)
theorem FzM.addrs {D:Addr} {W:AV} {mo mo':MO} (z:FzM D W mo mo') (a:Addr):mo'.addrs a=mo.addrs a:=by cases z<;>rfl
theorem Conv.freezeIn {D a:Addr} {mo m m':MO} {W:AV} {σ₁ σ₂:List (Addr×MO)} {m₂:List (Str×AV)} (h:SDel D mo X.σ σ₁) (hW:mo.still=some W) (U:SUpd a m m' σ₁ σ₂) (z:FzM D W m m') (hm:∀ x V',m₂.lookup x=some V'→∃ V,X.m.lookup x=some V∧Fz D W V V'):Conv c X ⟨σ₂,m₂⟩:=by
 intro B S s st
 obtain ⟨S',le,new,r,st'⟩:=st.freeze h hW
 have st2:=st'.upd U (z.addrs a) (fun _ _ _ e=>e) (z.rep r (st'.get U.mem)) (Eq.refl _) (Eq.refl _) (Eq.refl _)
 refine ⟨S',le,new,st2.loc,st2.gr,st2.base,st2.sto,st2.cel,?_,st2.mu,st2.nd,st2.sep,st2.dis,st2.dom,st2.prot,st2.pin,st2.os,st2.gens,st2.drawn⟩
 obtain ⟨mc,n,f⟩:=st.fr
 refine ⟨mc,n,fun x V' e=>?_⟩
 obtain ⟨V,hV,z⟩:=hm x V' e
 obtain ⟨v,rv,y⟩:=f x V hV
 exact ⟨v,z.rep le r rv,y⟩
theorem ConvV.freezeIn {D a:Addr} {mo m m':MO} {V V' W:AV} {σ₁ σ₂:List (Addr×MO)} {m₂:List (Str×AV)} (h:SDel D mo X.σ σ₁) (hW:mo.still=some W) (U:SUpd a m m' σ₁ σ₂) (z:FzM D W m m') (hV:Fz D W V V') (hm:∀ x V',m₂.lookup x=some V'→∃ V,X.m.lookup x=some V∧Fz D W V V'):ConvV c V X V' ⟨σ₂,m₂⟩:=by
 intro B S s v rv st
 obtain ⟨S',le,new,r,st'⟩:=st.freeze h hW
 have st2:=st'.upd U (z.addrs a) (fun _ _ _ e=>e) (z.rep r (st'.get U.mem)) (Eq.refl _) (Eq.refl _) (Eq.refl _)
 refine ⟨S',le,hV.rep le r rv,st2.loc,st2.gr,st2.base,st2.sto,st2.cel,?_,st2.mu,st2.nd,st2.sep,st2.dis,st2.dom,st2.prot,st2.pin,st2.os,st2.gens,st2.drawn⟩
 obtain ⟨mc,n,f⟩:=st.fr
 refine ⟨mc,n,fun x V' e=>?_⟩
 obtain ⟨V,hV,z⟩:=hm x V' e
 obtain ⟨v,rv,y⟩:=f x V hV
 exact ⟨v,z.rep le r rv,y⟩
end
theorem freeOk {names:List (Str×NameKind)} {cells:List (Str×Addr)} (h:(names.all fun p=>p.2 != .free || (cells.lookup p.1).isSome)=true):∀ p∈names,p.2=.free→(cells.lookup p.1).isSome=true:=fun p hp hf=>by
 have:=List.all_eq_true.mp h p hp
 rw [hf] at this
 simpa using this
theorem O_neBool {c:Cx} {X:AX} {Q:AV→AX→Prop} {a b:Bool} (h:Q (.bool (!(a==b))) X):W2 c Rep (.bool a) (.bool b) (compareOp .NotEq) Q X:=by
 intro B S s v u ok r₁ r₂ st
 rw [r₁.bool_inv,r₂.bool_inv]
 exact PySem.EqBoolInt.of_rcne (PySem.SeqAt.RcNeAt.bool_bool a b) ⟨S,_,X,.rfl,.bool _,st,h⟩
section
variable {c:Cx} {X:AX}
end
structure TopEnd (s:Shared) (σ:List (Addr×MO)) (fx:Bool) (Q:AV→AX→Prop) (u:Value) (s':Shared) (S':Sto) (U:AV) (Y:AX):Prop where
 q:Q U Y
 r:Rep S' u U
 sto:∀ b o,S' b o→s'.heap.get? b=some o
 old:∀ b o,s.heap.get? b=some o→b∉AX.adr σ→s'.heap.get? b=some o
 mu:∀ p∈Y.σ,MRep S' s'.heap p.1 p.2
 os:s'.os=s.os
 gens:GLx fx s.gens s'.gens
 drawn:s'.drawn=s.drawn
theorem top_go {P:Program} {w:World} {K:Frag} {g:Heap} {s:Shared} {A:Around} {f:Addr} {v:Value} {V:AV} {S:Sto} {σ:List (Addr×MO)} {x:Str} {Q:AV→AX→Prop} {fx:Bool}
  {p:Program} {loose:List Str} {mean:ExcName→Option Value} {mg mb:Str→Option Value}
  {name qual:Str} {params:Arguments} {body:List Stmt} {scope:Scope} {dV kV doc pm cdv ct oc:Value} {an od:Option Addr} {osl:Array (Option Value)} {d:Nat}
  (X:K.In g) (T:Top p loose mean mg mb g) (G:Gd A (d+1)) (gr:g.StaysIn s.heap) (sto:∀ b o,S b o→s.heap.get? b=some o) (r:Rep S v V)
  (mu:∀ p∈σ,MRep S s.heap p.1 p.2) (nd:(AX.adr σ).Nodup) (sep:∀ a∈AX.adr σ,g.get? a=none∧∀ o,¬S a o)
  (ho:K.lookup f=some ⟨oc,od,.func (fnOf name qual params body scope dV kV doc pm an cdv ct),osl⟩) (hcd:codeIn K cdv qual=true)
  (hb:∀ v,BindsTo s (fnOf name qual params body scope dV kV doc pm an cdv ct) ⟨[v],[]⟩ [(x,v)])
  (hkind:scope.names.lookup x=some .local) (hnd:((cellsFrom 0 scope.names []).map (·.1)).Nodup)
  (hco:scope.isCoroutine=false) (hgen:scope.isGenerator=false) (hk:scope.kind=.function)
  (h:∀ L (c':Cx),c'.P=P→c'.w=w→c'.K=K→c'.g=g→c'.fix=fx→c'.env=envOfC qual scope L f cdv→c'.own=ownOf scope L→c'.Ok→Gd c'.A d→WSs c' body (fun F X'=>Q F.val X') ⟨σ,[(x,V)]⟩) :
  codeAny (model P w) A (.call (.ref f) ⟨[v],[]⟩) (fun r s'=>∃ u S' U Y,r=.ok (.ret u)∧TopEnd s σ fx Q u s' S' U Y) s:=by
 have X0:=X.keeps gr
 have T':=(topRead_of T).keeps gr
 refine codeAny_call_function (fd:=fnOf name qual params body scope dV kV doc pm an cdv ct) (body:=body) G.room (X0 _ _ ho) rfl hco hgen rfl (codeRec_of X0 hcd) ?_
 refine hb v _ _ _ _ ?_
 have hkind':([(x,v)].all fun y=>scope.names.lookup y.1==some .local || scope.names.lookup y.1==some .cell)=true:=by simp [hkind]
 refine wpAny_newFunctionEnv_cells hk (kindsX hkind' _) fun env' he s' e=>?_
 subst he
 refine ⟨T'.nolimit.keeps e.toInCall.keep,codeAny_func ?_⟩
 obtain ⟨h₁,tk,rfl,_⟩:=e.done
 have hk₁:Keeps s.heap h₁:=e.toInCall.keep
 have xc:=e.cell
 have xa:=e.apart
 have xb:=e.above
 have xn:=e.toInCall.ns
 have hlk:∀ n k,(n,k)∈cellsFrom (s.heap.objs.size+1) scope.names []→(cellsFrom (s.heap.objs.size+1) scope.names []).lookup n=some k:=fun n k hm=>lookup_of_mem_nodup (cellsFrom_names scope.names 0 (s.heap.objs.size+1) [] [] rfl▸hnd) hm
 let c':Cx:=⟨P,w,K,g,A.deeper (envOfC qual scope s.heap.objs.size f cdv),envOfC qual scope s.heap.objs.size f cdv,ownOf scope s.heap.objs.size,fun _ _=>False,fx⟩
 have okX:c'.Ok:=⟨X,⟨_,_,_,_,_,T⟩,(G.deeper _).le rfl,rfl,rfl,hk,fun _ _ e=>e,fun a o e=>Heap.lt_size (X0 a o e),fun a b k ha hb=>name_of_addr xa (mem_of_lookup ha) (mem_of_lookup hb)⟩
 have dom:∀ a∈AX.adr σ,∃ o,s.heap.get? a=some o:=fun a ha=>by
  obtain ⟨q,hq,hb⟩:=List.mem_flatMap.mp ha
  exact (mu q hq).dom a hb
 have fresh:∀ a∈ownOf scope s.heap.objs.size,s.heap.get? a=none:=fun a ha=>by
  rcases List.mem_cons.mp ha with rfl | ha
  ·exact get?_lt_none (Nat.le_refl _)
  ·obtain ⟨q,hq,rfl⟩:=List.mem_map.mp ha
   exact get?_lt_none (Nat.le_of_lt (xb q.1 q.2 hq))
 let B':Bg:={base:=fun b o=>s.heap.get? b=some o∧b∉AX.adr σ,prot:=fun _=>False,os:=s.os,gens:=s.gens,drawn:=s.drawn}
 have stX:St c' B' S ⟨σ,[(x,V)]⟩ {s with heap:=h₁,toks:=tk}:=by
  refine ⟨.inl (.head _),fun b o e=>hk₁ b o (gr b o e),fun b o e=>hk₁ b o e.1,fun b o e=>hk₁ b o (sto b o e),fun y k e=>?_,⟨_,xn,fun y U e=>?_⟩,fun q hq=>(mu q hq).mono .rfl fun b _ o e=>hk₁ b o e,nd,fun a ha=>?_,fun a ha q=>?_,fun a ha=>?_,fun _ _ _ q=>q,fun _ q=>q.elim,rfl,.refl _,rfl⟩
  ·obtain ⟨o,e1,e2⟩:=xc y k e
   exact ⟨Nat.ne_of_gt (xb y k (mem_of_lookup e)),.inl (.tail _ (List.mem_map_of_mem (f:=(·.2)) (mem_of_lookup e))),o,_,e1,e2⟩
  ·rw [List.lookup_cons] at e
   cases hb:y==x with
   | true =>
    rw [hb] at e;cases e
    have hyx:y=x:=beq_iff_eq.mp hb
    subst hyx
    refine ⟨v,r,.inl ⟨hkind,?_⟩⟩
    rw [bindL_get hkind]
    simp [List.lookup_cons]
   | false=>rw [hb] at e;cases e
  ·rcases ha with ha | ha
   ·have fr:=fresh a ha
    refine ⟨?_,fun o e=>?_,fun o e=>?_⟩
    ·cases q:g.get? a with
     | none=>rfl
     | some o=>have:=gr _ _ q;rw [fr] at this;cases this
    ·have:=e.1;rw [fr] at this;cases this
    ·have:=sto _ _ e;rw [fr] at this;cases this
   ·exact ⟨(sep a ha).1,fun o e=>e.2 ha,(sep a ha).2⟩
  ·obtain ⟨o,e⟩:=dom a q
   rw [fresh a ha] at e;cases e
  ·rcases List.mem_cons.mp ha with rfl | ha
   ·obtain ⟨o,_,_,e,_⟩:=xn
    exact ⟨o,e⟩
   ·obtain ⟨q,hq,rfl⟩:=List.mem_map.mp ha
    obtain ⟨o,e,_⟩:=xc q.1 q.2 (hlk _ _ hq)
    exact ⟨o,e⟩
 refine wpAny_mono (h _ c' rfl rfl rfl rfl rfl rfl rfl okX (G.deeper _) B' S _ okX stX) (fun fl s' hp=>?_) fun _ _ z=>z.elim
 obtain ⟨S',F,X',le',rf,st',q⟩:=hp
 refine ⟨_,S',F.val,X',rfl,q,?_,st'.sto,fun b o e n=>st'.base b o ⟨e,n⟩,st'.mu,st'.os,st'.gens,st'.drawn⟩
 cases rf with
 | ret r=>exact r
 | _=>exact .none
theorem reps_ints {S:Sto}:∀ {vs:List Value} {ns:List Int},IntsAre vs ns→Reps S vs (ns.map .int)
 | _,_,.nil=>.nil
 | _,_,.cons n t h=>.cons (.int n t) (reps_ints h)
def TabG (P:Addr) (S:Sto) (h:Heap):Prop:=∃ ps:Array Value,h.get? P=some (tabObj ps)∧TriplesOk ps.toList
abbrev MO.tabG (P:Addr):MO:=.ext [] (TabG P)
theorem TabG.ext {P:Addr} {S:Sto} {h:Heap} (x:TabG P S h):MRep S h P (MO.tabG P):=by
 obtain ⟨ps,hP,ht⟩:=x
 exact ⟨fun b hb=>by have:=List.mem_singleton.mp hb;subst this;exact ⟨_,hP⟩,⟨ps,hP,ht⟩,fun T h' le k=>⟨ps,k P (.head _) _ hP,ht⟩⟩
theorem SUpd.same {a:Addr} {mo:MO}:∀ {σ:List (Addr×MO)},(a,mo)∈σ→SUpd a mo mo σ σ
 | _::_,.head _=>.head
 | _::_,.tail _ h=>.tail (SUpd.same h)
theorem St.regen {c:Cx} {B:Bg} {S:Sto} {X:AX} {s:Shared} (st:St c B S X s) (hf:c.fix=false) {gs:Array GenState} (h:GLe s.gens gs):St c B S X {s with gens:=gs} :=
 ⟨st.loc,st.gr,st.base,st.sto,st.cel,st.fr,st.mu,st.nd,st.sep,st.dis,st.dom,st.prot,st.pin,st.os,⟨st.gens.1.trans h,fun e=>by rw [hf] at e;cases e⟩,st.drawn⟩
def Cx.gen (c:Cx) (scope:Scope) (C:Addr) (code:Value) (A':Around):Cx :=
 {c with A:=A',env:=genEnv scope (clOf c.env.cells scope.names []) C code builtinsNs c.env,own:=[],E:=fun _ _=>False,fix:=true}
theorem rangeSize_to {n:Int}:Builtin.Range.rangeSize 0 n 1=(n.toNat:Int):=by
 unfold Builtin.Range.rangeSize
 simp only [show (1:Int) > 0 by decide,if_true]
 split
 ·rw [Int.ediv_one];exact (lin [_] [_] (.ze (.a (.s (.s .v0 .n0) .n1) .n1) (.c .v0)) [.zt .n0 .v0,.or (.an (.zl .n0 .v0) (.ze (.c .v0) .v0)) (.an (.zt .v0 .n0) (.eq .v0 .n0))]) ‹_› (tnc _)
 ·exact (lin [_] [_] (.ze .n0 (.c .v0)) [.no (.zt .n0 .v0),.or (.an (.zl .n0 .v0) (.ze (.c .v0) .v0)) (.an (.zt .v0 .n0) (.eq .v0 .n0))]) ‹_› (tnc _)
theorem genCode_ {M:Model} {A:Around} {E:Value→Shared→Prop} {s:Shared} {env:Env} {cd P:Addr} {ps:Array Value} {pos:Pos} {qual:Str} {scope:Scope} {Q:Value→Shared→Prop} (hc:env.code=.ref cd) (C:CodeHd s.heap cd P) (hP:s.heap.get? P=some (tabObj ps)) (ht:TriplesOk ps.toList)
  (hQ:∀ code h' tk ps',Heap.ExtBut P s.heap h'→s.heap.objs.size≤h'.objs.size→h'.get? P=some (tabObj ps')→TriplesOk ps'.toList→Q code {s with heap:=h',toks:=tk}):wpAny M A (genexprCode env pos qual scope) Q E s:=by
 cases hnf:codeAmong pos ps.toList with
 | some cv=>exact wpAny_genexprCode_hit hc (C.code hP ht) hnf (hQ cv s.heap s.toks ps (Heap.ExtBut.refl _ _) (Nat.le_refl _) hP ht)
 | none=>exact wpAny_genexprCodeX hc (C.code hP ht) (C.tab hP) hnf fun c' h' tk hx hge hlt _ _ htb _=>hQ _ h' tk _ hx (by exact (lin3 (.le .v0 .v1) [.le .v0 .v2,.lt .v2 .v1]) hge hlt) htb.2 (by rw [Array.toList_append];exact triples_snoc _ _ _ _ ht)
def Bg.whole (s:Shared):Bg:={base:=fun b o=>s.heap.get? b=some o,prot:=fun _=>False,os:=s.os,gens:=s.gens,drawn:=s.drawn}
theorem AllBare.ext {a b:Array GenState} {x:GenState} (hx:x.bare=true) (q:GenOnlyQ a.size (a.push x) b):GLe a b:=by
 refine ⟨fun i y e=>?_,fun ha=>?_⟩
 ·have hi:i<a.size:=by
   rcases Nat.lt_or_ge i a.size with h | h
   ·exact h
   ·rw [Array.getElem?_eq_none h] at e;cases e
  have e1:(a.push x)[i]?=some y:=by rw [Array.getElem?_push];rw [if_neg (by exact (lin2 (.no (.eq .v0 .v1)) [.lt .v0 .v1]) hi)];exact e
  rcases q with q | ⟨⟨_,q⟩,_⟩
  ·rw [q];exact e1
  ·rw [q i (by exact (lin2 (.no (.eq .v0 .v1)) [.lt .v0 .v1]) hi)];exact e1
 ·exact q.bare (fun y hy=>(Array.mem_push.mp hy).elim (ha y) fun z=>z▸hx)
theorem mem_of_look {y:Str} {V:AV}:∀ {m:List (Str×AV)},m.lookup y=some V→(y,V)∈m
 | [],h=>by cases h
 | (z,U)::r,h=>by
  rw [List.lookup_cons] at h
  by_cases e:y=z
  ·subst e;rw [beq_self_eq_true] at h;cases h;exact .head _
  ·rw [beq_eq_false_iff_ne.mpr e] at h;exact .tail _ (mem_of_look h)
section
variable {c:Cx} {X:AX} {Q:AV→AX→Prop}
theorem E_allGen {elt iter:Expr} {x:Str} {px pos cpos fpos:Pos} {scope:Scope} {P cd:Addr} {d:Nat} {m₂:List (Str×AV)} {X₁ X₂:AX} {n:Int}
  (G:Gd c.A (d+2)) (hfix:c.fix=false)
  (hall:WE c (.Name (Str.ofString "all") fpos) (fun V Y=>V=.raw (.builtin "all")∧Y=X) X)
  (hcode:c.env.code=.ref cd) (hC:CodeHd c.g cd P)
  (hiter:WE c iter (fun V Y=>V=.rng n∧Y=X₁) X) (hn:-2^62<n) (hz:n<2^62) (hP:(P,MO.tabG P)∈X₁.σ) (hcv:Conv c X₁ X₂) (hP₂:(P,MO.tabG P)∈X₂.σ)
  (hm:∀ p∈m₂,X₂.m.lookup p.1=some p.2∧(c.env.kindOf p.1=some .cell∨c.env.kindOf p.1=some .free)∧scope.names.lookup p.1=some .free∧(clOf c.env.cells scope.names []).lookup p.1=c.env.cells.lookup p.1)
  (item:∀ (i:Nat) C code A',i<n.toNat→Gd A' d→(c.gen scope C code A').Ok→WE (c.gen scope C code A') elt (fun V _=>V=.bool true) ⟨[],(x,.int i)::m₂⟩)
  (hq:Q (.bool true) X₁)
  (hfree:∀ p∈scope.names,p.2=.free→(c.env.cells.lookup p.1).isSome=true) (hcell:∀ y∈scope.names,y.2≠.cell) (h0:scope.names.lookup (".0" : Str)=some NameKind.local) (hx:scope.names.lookup x=some .local)
  (hkind:scope.kind=.function) (hco:scope.isCoroutine=false) (hs:∀ y,genFold iter c.env y=pure y) :
  WE c (.Call (.Name (Str.ofString "all") fpos) [.GeneratorExp elt [⟨.Name x px,iter,[],0⟩] scope pos] [] cpos) Q X:=by
 intro B S s ok st
 show wpAny _ _ (eval (.Name (Str.ofString "all") fpos) c.env >>= fun f=>callWith cpos f [] (backTo cpos (starEach [.GeneratorExp elt [⟨.Name x px,iter,[],0⟩] scope pos] c.env)) (backToKw cpos (keywordEach [] c.env))) _ _ _
 refine wpAny_bind (wpAny_mono (hall B S s ok st) (fun f s₀ hz₉=>?_) fun _ _ e=>e)
 obtain ⟨S₀,V₀,Y₀,u₀,r₀,st₀,e₀,eY⟩:=hz₉
 subst e₀ eY
 rw [r₀.raw_inv]
 refine callWith_any (P:=fun _=>True) (fun s' _=>⟨.machine,.now⟩) ?_
 refine evalArgs_kw2 rfl (spliced_more (wpAny_GeneratorExp_walksQD ok.G.hd hco (closure_of hfree) hcell h0 hx hkind G.room (wpAny_mono (hiter B S₀ s₀ ok st₀) (fun xv s₁ hz₉=>?_) fun _ _ e=>e) hs))
 obtain ⟨S₁,V,Y,u₁,r₁,st₁,e1,e2⟩:=hz₉
 subst e1 e2
 obtain ⟨S₂,_,_,st₂⟩:=hcv B S₁ s₁ st₁
 obtain ⟨a,t,u,w,rfl,hr⟩:∃ a t u w,xv=.ref a∧S₁ a (rngO n t u w):=by
  cases r₁ with | rng h=>exact ⟨_,_,_,_,rfl,h⟩
 refine wpAny_pyIter_range (st₁.sto _ _ hr) ?_ ?_
 ·unfold Builtin.Range.small
  rw [rangeSize_to]
  simp only [Builtin.Range.rangeFitsLong,Bool.and_eq_true,decide_eq_true_eq,Bool.or_eq_true,beq_iff_eq,show (1:Int) > 0 by decide,if_true]
  exact (lin [_] [_] (.an (.an (.an (.an (.an (.zl (.g (.n (2^63))) .n0) (.zt .n0 (.n (2^63)))) (.an (.zl (.g (.n (2^63))) .v0) (.zt .v0 (.n (2^63))))) (.an (.zl (.g (.n (2^63))) .n1) (.zt .n1 (.n (2^63))))) (.an (.zl (.g (.n (2^63))) (.c .v0)) (.zt (.c .v0) (.n (2^63))))) (.or (.ze (.c .v0) .n0) (.an (.zl (.g (.n (2^63))) (.a .v0 (.s .n1 .n1))) (.zt (.a .v0 (.s .n1 .n1)) (.n (2^63)))))) [.zt (.g (.n (2^62))) .v0,.zt .v0 (.n (2^62)),.or (.an (.zl .n0 .v0) (.ze (.c .v0) .v0)) (.an (.zt .v0 .n0) (.eq .v0 .n0))]) hn hz (tnc _)
 rw [rangeSize_to]
 obtain ⟨p,loose,mean,mg,mb,T⟩:=ok.T
 have T₁:=T.keeps st₁.gr
 have hI:=get?_lt_none (Nat.le_refl s₁.heap.objs.size)
 have hlim:=T₁.nolimit
 obtain ⟨_,⟨ps,hPh,ht⟩,_⟩:=st₁.get hP
 have hPI:P<s₁.heap.objs.size:=Heap.lt_size hPh
 have spP:=st₁.sep P (.inr (AX.mem_adr (p:=(P,MO.tabG P)) hP (by simp [MO.addrs])))
 have spP₂:=st₂.sep P (.inr (AX.mem_adr (p:=(P,MO.tabG P)) hP₂ (by simp [MO.addrs])))
 have k₂:∀ o' b o,s₁.heap.get? b=some o→(s₁.heap.push o').get? b=some o:=fun o' b o e=>Heap.get?_push_of_some _ e
 obtain ⟨bm,ob,b1,b2,b3,b4,b5,b6⟩:=T.bmain
 have hgs:=T.g.keeps st₁.gr
 have hgP:mainGlobals≠P:=fun q=>by
  obtain ⟨o,es,ep,e,hd,_⟩:=hgs
  rw [q,hPh] at e;cases e;cases hd
 have hbP:bm≠P:=fun q=>by
  have e:=st₁.gr _ _ b3
  rw [q,hPh] at e;cases e;cases b4
 have hcP:cStatics≠P:=fun e=>by
  obtain ⟨_,hns,_⟩:=hlim
  obtain ⟨o,es,ep,ho,hd,_⟩:=hns
  rw [e,hPh] at ho;cases ho;cases hd
 have hcI:cStatics<s₁.heap.objs.size:=by
  obtain ⟨_,hns,_⟩:=hlim
  exact hns.lt
 refine ⟨hlim.push _,genCode_ hcode ((hC.keeps st₁.gr).keeps (k₂ _)) (k₂ _ _ _ hPh) ht fun code h₄ tk₄ ps' hxb hsz hP' ht'=>?_⟩
 have hx₁:∀ b o,b≠P→s₁.heap.get? b=some o→h₄.get? b=some o:=fun b o q e=>hxb b o q (k₂ _ b o e)
 have hsz₁:s₁.heap.objs.size<h₄.objs.size:=by
  have h1:(s₁.heap.push {cls:=.type "range_iterator", data:=.fields #[rawInt 0,rawInt (n.toNat:Int),rawInt 1]}).objs.size≤h₄.objs.size:=hsz
  rw [Heap.size_push] at h1
  exact h1
 rw [ok.gl]
 refine wpAny_builtinsFor ((hgs.push _).extBut hxb hgP) b1 b2 (hx₁ _ _ hbP (st₁.gr _ _ b3)) b4 b5 b6 ?_
 refine ⟨s₁.heap.objs.size,[s₁.heap.objs.size],[s₁.heap.objs.size],n.toNat,_,_,fun _=>true,fun _ y=>y=.bool true,rfl,fun A' hA=>(Walks.range hA _ 0 1 n.toNat).bound,?_,?_,(hlim.push _).extBut hxb hcP,?_,fun href hhref=>⟨?_,?_⟩,?_⟩
 ·have e:h₄.get? s₁.heap.objs.size=some _:=hxb _ _ (Nat.ne_of_gt hPI) (Heap.get?_push_size _ rfl)
  show IsRangeIter h₄ _ _ _ _
  simpa using e
 ·intro b hb
  rw [List.mem_singleton.mp hb];exact hsz₁
 ·intro hm
  exact absurd (List.mem_singleton.mp hm) (Nat.ne_of_lt hcI)
 ·intro A' E' i v s₂ m₂' hA hD hU hPv hn' hm' hkp
  exact wpAny_pure ⟨rfl,s₂.heap,s₂.toks,rfl,fun _ _ e=>e⟩
 ·intro A' E' i v s₂ m₂' hA hD hU hPv _ hn' hm' hkp
  obtain ⟨hi,t₀,rfl⟩:=hPv
  have low:∀ b o,b≠P→s₁.heap.get? b=some o→s₂.heap.get? b=some o:=fun b o q e=>by
   have h1:=hx₁ b o q e
   exact hkp b (List.mem_range.mpr (Heap.lt_size h1)) (fun z=>by rw [List.mem_singleton.mp z] at e;rw [hI] at e;cases e) o (hhref b o h1)
  have hC:∃ o,s₂.heap.get? h₄.objs.size=some o:=by
   obtain ⟨o,es,ep,e,_⟩:=hn'
   exact ⟨o,e⟩
  have cl:∀ {y:Str} {k:Addr},(clOf c.env.cells scope.names []).lookup y=some k→c.env.cells.lookup y=some k:=fun e=>clOf_lookup hfree (fun k hk=>by cases hk) e
  have kC:∀ b o,s₁.heap.get? b=some o→b≠h₄.objs.size:=fun b o e q=>absurd (q▸Heap.lt_size e) (Nat.lt_asymm hsz₁)
  have GA:Gd A' d:=⟨hA,by have:=G.dp;exact (lin4 (.lt (.a .v0 .v1) .v2) [.le .v0 (.a .v3 .n1),.lt (.a .v3 (.a .v1 .n2)) .v2]) hD this,by have:=G.un;exact (lin4 (.lt (.a (.a .v0 (.l 8 .v1)) (.n 8)) .v2) [.le .v0 (.a .v3 (.n 8)),.lt (.a (.a .v3 (.l 8 (.a .v1 .n2))) (.n 8)) .v2]) hU this⟩
  let c':Cx:=c.gen scope h₄.objs.size code A'
  have ok':c'.Ok:={
   X:=ok.X
   T:=ok.T
   G:=GA.le (Nat.ble_eq.mpr (Nat.zero_le _))
   gl:=ok.gl
   bi:=rfl
   fk:=hkind
   noE:=fun _ _ h=>h
   kl:=fun a o e=>by
    exact Nat.lt_trans (Heap.lt_size ((ok.X.keeps st₁.gr) a o e)) hsz₁
   cnd:=fun y z k e1 e2=>ok.cnd y z k (cl e1) (cl e2)}
  have st':St c' (Bg.whole s₂) S₂ ⟨[],(x,.int (i:Int))::m₂⟩ s₂:=by
   refine ⟨.inr ⟨rfl,hC⟩,fun b o e=>low b o (fun q=>by have e:c.g.get? b=some o:=e;rw [q,spP.1] at e;cases e) (st₁.gr b o e),fun b o e=>e,fun b o e=>low b o (fun q=>by rw [q] at e;exact spP₂.2.2 o e) (st₂.sto b o e),fun y k e=>?_,⟨m₂',hn',fun y V e=>?_⟩,fun q hq=>(List.not_mem_nil hq).elim,List.nodup_nil,fun a ha=>?_,fun a ha=>(List.not_mem_nil ha).elim,fun a ha=>(List.not_mem_nil ha).elim,fun _ _ _ h=>h,fun a h=>h.elim,rfl,.refl _,rfl⟩
   ·have e1:=cl e
    obtain ⟨h1,h2,o,v,h3,h4⟩:=st₂.cel y k e1
    have hkP:k≠P:=fun q=>by rw [q,hPh] at h3;cases h3;cases h4
    exact ⟨kC _ _ h3,.inr ⟨o,low _ _ hkP h3⟩,o,v,low _ _ hkP h3,h4⟩
   ·rw [List.lookup_cons] at e
    by_cases hy:y=x
    ·subst hy
     rw [beq_self_eq_true] at e
     cases e
     exact ⟨_,.int _ _,.inl ⟨hx,by rw [hm'];congr 2;exact lin1 (.ze (.a .n0 (.r (.c .v0) 1)) (.c .v0)) []⟩⟩
    ·rw [beq_eq_false_iff_ne.mpr hy] at e
     obtain ⟨f1,f2,f3,f4⟩:=hm _ (mem_of_look e)
     obtain ⟨mc,nn,ff⟩:=st₂.fr
     obtain ⟨v,r,yv⟩:=ff y V f1
     refine ⟨v,r,.inr ⟨.inr f3,?_⟩⟩
     rcases yv with ⟨z,_⟩ | ⟨_,k,o,e1,e2,e3,e4,e5⟩
     ·rcases f2 with f2 | f2<;>rw [z] at f2<;>cases f2
     ·have hkP:k≠P:=fun q=>by rw [q,hPh] at e2;cases e2;cases e3
      exact ⟨k,o,f4.trans e1,low _ _ hkP e2,e3,.inr (low _ _ hkP e2),kC _ _ e2⟩
   ·exact ha.elim (fun q=>(List.not_mem_nil q).elim) fun q=>(List.not_mem_nil q).elim
  have:=item i h₄.objs.size code A' hi GA ok' (Bg.whole s₂) S₂ s₂ ok' st'
  refine wpAny_mono this (fun y s₃ hz₉=>?_) fun e s₃ h=>h.elim
  obtain ⟨S₃,V,X₃,u₃,r₃,st₃,e₃⟩:=hz₉
  subst e₃
  refine ⟨r₃.bool_inv,s₃.heap,s₃.toks,?_,fun b o e=>st₃.base b o e⟩
  have g1:s₃.gens=s₂.gens:=st₃.gens.2 rfl
  have g2:s₃.os=s₂.os:=st₃.os
  have g3:s₃.drawn=s₂.drawn:=st₃.drawn
  obtain ⟨_,_,_,_,_⟩:=s₃
  obtain ⟨_,_,_,_,_⟩:=s₂
  dsimp only at g1 g2 g3 ⊢
  subst g1 g2 g3
  rfl
 ·intro g h₅ tk₅ gs hgb hag hsz₅ hk₅ W hat
  refine spliced_none (wpAny_pure ⟨trivial,?_⟩)
  have W1:=W.of_in1.of_in1.of_in1
  refine call_all_walkS (W1.self 0 _ _ _ hat ⟨_,_,_,_,_,_,_,fun _=>true,rfl,W1,hat,fun j v s' Q' E' hv hq'=>?_,fun s' mv=>?_⟩)
  ·obtain ⟨i,_,rfl⟩:=hv
   exact wpAny_truthy_bool hq'
  have hall:(List.range (passing (fun _=>true) n.toNat 0).length).all (fun _=>true)=true:=by simp
  rw [hall]
  have nw:∀ b,b<s₁.heap.objs.size→b∉h₄.objs.size::[s₁.heap.objs.size]:=fun b hb hm=>by
   rcases List.mem_cons.mp hm with q | q
   ·exact absurd (q▸hb) (Nat.lt_asymm hsz₁)
   ·exact absurd (List.mem_singleton.mp q▸hb) (Nat.lt_irrefl _)
  have kept:∀ b o,b≠P→s₁.heap.get? b=some o→s'.heap.get? b=some o:=fun b o q e=>mv.heap b o (nw b (Heap.lt_size e)) (hk₅ b o (hx₁ b o q e))
  have hPs:s'.heap.get? P=some (tabObj ps'):=mv.heap P _ (nw P hPI) (hk₅ _ _ hP')
  have st₂:St c B S₁ ⟨Y.σ,Y.m⟩ {s₁ with heap:=s'.heap,toks:=s'.toks}:=st₁.upd (SUpd.same hP) rfl (fun b o q e=>kept b o (fun z=>q (by rw [z];exact .head _)) e) (TabG.ext ⟨ps',hPs,ht'⟩) rfl rfl rfl
  have st₃:=st₂.regen hfix (gs:=s'.gens) (AllBare.ext hgb mv.gens)
  have g2:s'.os=s₁.os:=mv.os
  have g3:s'.drawn=s₁.drawn:=mv.drawn
  have es:s'={s₁ with heap:=s'.heap,toks:=s'.toks,gens:=s'.gens}:=by
   obtain ⟨_,_,_,_,_⟩:=s'
   dsimp only at g2 g3 ⊢
   rw [g2,g3]
  rw [es]
  exact ⟨S₁,.bool true,Y,u₀.trans u₁,.bool _,st₃,hq⟩
end
inductive Thin:AV→Prop
 | int (n:Int):Thin (.int n)
 | raw (v:Value):Thin (.raw v)
 | nil:Thin (.tup [])
 | one (n:Int):Thin (.tup [.int n])
 | inst (C:Addr) (k:Str) (n:Int):Thin (.inst C [k] [.int n])
theorem Thin.inter {h:Heap} {P:Sto→Prop} {v:Value} {V:AV} (hP:∀ S,P S→∀ b o,S b o→h.get? b=some o) (ex:∃ S,P S) (t:Thin V) (r:∀ S,P S→Rep S v V):Rep (fun b o=>∀ S,P S→S b o) v V:=by
 obtain ⟨S₀,p₀⟩:=ex
 have r₀:=r S₀ p₀
 cases t with
 | int n=>obtain ⟨t,rfl⟩:=r₀.int_inv;exact .int _ _
 | raw v=>rw [r₀.raw_inv];exact .raw _
 | nil =>
  obtain ⟨a,vs,n,rfl,h1,h2⟩:=r₀.tup_inv
  cases h2.nil_inv
  refine .tup' (vs:=[]) (n:=n) (fun S p=>?_) .nil
  obtain ⟨a',vs',n',e,h1',h2'⟩:=(r S p).tup_inv
  cases e
  have:=(hP _ p₀ _ _ h1).symm.trans (hP _ p _ _ h1')
  rw [Option.some.inj this];exact h1'
 | one m =>
  obtain ⟨a,vs,n,rfl,h1,h2⟩:=r₀.tup_inv
  obtain ⟨u,t,rfl,h3,h4⟩:=h2.cons_inv
  cases h4.nil_inv
  obtain ⟨tk,rfl⟩:=h3.int_inv
  refine .tup' (vs:=[.int m tk]) (n:=n) (fun S p=>?_) (.cons (.int _ _) .nil)
  obtain ⟨a',vs',n',e,h1',h2'⟩:=(r S p).tup_inv
  cases e
  have:=(hP _ p₀ _ _ h1).symm.trans (hP _ p _ _ h1')
  rw [Option.some.inj this];exact h1'
 | inst C k m =>
  obtain ⟨a,d,es,ep,rfl,h1,h2,h3⟩:=r₀.inst_inv
  have same:∀ S,P S→S a (instObj C d)∧S d (dictOf es ep):=fun S p=>by
   obtain ⟨a',d',es',ep',e,h1',h2',h3'⟩:=(r S p).inst_inv
   cases e
   have e1:=(hP _ p₀ _ _ h1).symm.trans (hP _ p _ _ h1')
   have e1:=Option.some.inj e1
   have hd:d=d':=by injection e1 with _ q;exact Option.some.inj q
   subst hd
   have e2:=(hP _ p₀ _ _ h2).symm.trans (hP _ p _ _ h2')
   rw [Option.some.inj e2]
   exact ⟨h1',h2'⟩
  refine .inst' (d:=d) (es:=es) (ep:=ep) (fun S p=>(same S p).1) (fun S p=>(same S p).2) ⟨h3.lk,h3.lv,h3.key,fun i e V he hV=>?_⟩
  have hr:=h3.val i e V he hV
  match i,hV with
  | 0,hV=>cases hV;obtain ⟨t,q⟩:=hr.int_inv;rw [q];exact .int _ _
  | i+1,hV=>simp at hV
structure Good (c:Cx) (env:Env) (m:List (Str×AV)) (S:Sto) (s:Shared):Prop where
 gr:c.g.StaysIn s.heap
 sto:∀ b o,S b o→s.heap.get? b=some o
 loc:∀ o,¬S env.locals o
 ns:∃ mc,s.heap.Ns env.locals mc
 names:∀ x V,m.lookup x=some V→∃ v,Rep S v V∧env.kindOf x=some .local∧s.heap.nsMap env.locals x=some v
def leastG (c:Cx) (env:Env) (m:List (Str×AV)) (s:Shared):Sto:=fun b o=>∀ S,Good c env m S s→S b o
theorem Good.least {c:Cx} {env:Env} {m:List (Str×AV)} {S:Sto} {s:Shared} (h:Good c env m S s) (ht:∀ x V,m.lookup x=some V→Thin V):Good c env m (leastG c env m s) s where
 gr:=h.gr
 sto b o e:=h.sto b o (e S h)
 loc o e:=h.loc o (e S h)
 ns:=h.ns
 names x V e:=by
  obtain ⟨v,r,k,hv⟩:=h.names x V e
  refine ⟨v,Thin.inter (fun S p=>p.sto) ⟨S,h⟩ (ht x V e) fun S' p=>?_,k,hv⟩
  obtain ⟨v',r',_,hv'⟩:=p.names x V e
  rw [hv] at hv';cases hv'
  exact r'
theorem leastG_le {c:Cx} {env:Env} {m:List (Str×AV)} {S:Sto} {s:Shared} (h:Good c env m S s):(leastG c env m s).Le S:=fun _ _ e=>e S h
def Bg.gen (s:Shared) (L:Addr) (S:Sto):Bg:={base:=fun b o=>s.heap.get? b=some o∧b≠L,prot:=fun b=>(∃ o,s.heap.get? b=some o)∧b≠L∧∀ o,¬S b o,os:=s.os,gens:=s.gens,drawn:=s.drawn}
def Cx.gx (c:Cx) (env:Env) (A:Around):Cx:={c with A:=A,env:=env,own:=[env.locals],E:=fun _ _=>False,fix:=true}
theorem Good.st {c:Cx} {env:Env} {m:List (Str×AV)} {S:Sto} {s:Shared} (h:Good c env m S s) (hL:c.g.get? env.locals=none) (hc:env.cells=[]) (A:Around):St (c.gx env A) (Bg.gen s env.locals S) S ⟨[],m⟩ s where
 loc:=.inl (.head _)
 gr:=h.gr
 base b o e:=e.1
 sto:=h.sto
 cel x k e:=by have e:env.cells.lookup x=some k:=e;rw [hc] at e;cases e
 fr:=by
  obtain ⟨mc,n⟩:=h.ns
  refine ⟨mc,n,fun x V e=>?_⟩
  obtain ⟨v,r,k,hv⟩:=h.names x V e
  exact ⟨v,r,.inl ⟨k,by rw [n.eq_nsMap];exact hv⟩⟩
 mu p hp:=(List.not_mem_nil hp).elim
 nd:=List.nodup_nil
 sep a ha:=by
  rcases ha with ha | ha
  ·rw [List.mem_singleton.mp ha]
   exact ⟨hL,fun o e=>e.2 rfl,h.loc⟩
  ·exact (List.not_mem_nil ha).elim
 dis a _ ha:=(List.not_mem_nil ha).elim
 dom a ha:=by rw [List.mem_singleton.mp ha];obtain ⟨mc,o,es,ep,e,_⟩:=h.ns;exact ⟨o,e⟩
 prot a o e q:=q.2.2 o e
 pin a q:=let ⟨⟨o,e⟩,h1,_⟩:=q;⟨o,e,h1⟩
 os:=rfl
 gens:=.refl _
 drawn:=rfl
structure Since (c:Cx) (env:Env) (S:Sto) (s₀ s:Shared) (T:Sto):Prop where
 keep:∀ b o,b≠env.locals→s₀.heap.get? b=some o→s.heap.get? b=some o
 gens:s.gens=s₀.gens
 os:s.os=s₀.os
 drawn:s.drawn=s₀.drawn
 le:S.Le T
 new:∀ b o,T b o→S b o∨s₀.heap.get? b=none
theorem Good.out {c:Cx} {env:Env} {m m':List (Str×AV)} {S T:Sto} {s₀ s:Shared} {A:Around} {X:AX} (h:Good c env m S s₀) (le:S.Le T) (st:St (c.gx env A) (Bg.gen s₀ env.locals S) T X s) (hm:∀ x V,m'.lookup x=some V→X.m.lookup x=some V) (hc:env.cells=[]) :
  Since c env S s₀ s T∧Good c env m' T s:=by
 refine ⟨⟨fun b o q e=>st.base b o ⟨e,q⟩,st.gens.2 rfl,st.os,st.drawn,le,fun b o e=>?_⟩,st.gr,st.sto,(st.sep _ (.inl (.head _))).2.2,?_,fun x V e=>?_⟩
 ·cases q:s₀.heap.get? b with
  | none=>exact .inr rfl
  | some o' =>
   have hb:b≠env.locals:=fun z=>(st.sep env.locals (.inl (.head _))).2.2 o (z▸e)
   have hn:=st.prot b o e
   have:∃ o'',S b o'':=Classical.byContradiction fun z=>hn ⟨⟨o',q⟩,hb,fun o'' w=>z ⟨o'',w⟩⟩
   obtain ⟨o'',w⟩:=this
   have:=(st.sto _ _ (le _ _ w)).symm.trans (st.sto _ _ e)
   rw [←Option.some.inj this];exact .inl w
 ·obtain ⟨mc,n,_⟩:=st.fr
  exact ⟨mc,n⟩
 ·obtain ⟨mc,n,f⟩:=st.fr
  obtain ⟨v,r,y⟩:=f x V (hm x V e)
  rcases y with ⟨k,q⟩ | ⟨_,k,o,e1,_⟩
  ·have n':s.heap.Ns env.locals mc:=n
   exact ⟨v,r,k,by rw [←n'.eq_nsMap];exact q⟩
  ·have e1:env.cells.lookup x=some k:=e1
   rw [hc] at e1;cases e1
theorem Since.refl {c:Cx} {env:Env} {S:Sto} {s:Shared}:Since c env S s s S:=⟨fun _ _ _ e=>e,rfl,rfl,rfl,.rfl,fun _ _=>.inl⟩
theorem Since.trans {c:Cx} {env:Env} {S T U:Sto} {s₀ s₁ s₂:Shared} (h:Since c env S s₀ s₁ T) (k:Since c env T s₁ s₂ U) (hU:∀ o,¬U env.locals o):Since c env S s₀ s₂ U where
 keep b o q e:=k.keep b o q (h.keep b o q e)
 gens:=k.gens.trans h.gens
 os:=k.os.trans h.os
 drawn:=k.drawn.trans h.drawn
 le:=h.le.trans k.le
 new b o e:=by
  rcases k.new b o e with q | q
  ·exact h.new b o q
  ·cases z:s₀.heap.get? b with
   | none=>exact .inr rfl
   | some o' =>
    by_cases hb:b=env.locals
    ·exact (hU o (hb▸e)).elim
    ·rw [h.keep b o' hb z] at q;cases q
structure GenSpec (c:Cx) (env:Env) (d:Nat) (s1 s2 s3:Stmt) (test e:Expr) (xs:List AV) (mi:List (Str×AV)) (m:Nat→List (Str×AV)):Prop where
 thin:∀ j x V,(m j).lookup x=some V→Thin V
 thin0:∀ x V,mi.lookup x=some V→Thin V
 pre:∀ A,Gd A d→(c.gx env A).Ok→WS (c.gx env A) s1 (fun F Y=>F=.next∧WS (c.gx env A) s2 (fun F' Y'=>F'=.next∧∀ x V,(m 0).lookup x=some V→Y'.m.lookup x=some V) Y) ⟨[],mi⟩
 test:∀ j A,j≤xs.length→Gd A d→(c.gx env A).Ok→WB (c.gx env A) test (fun b Y=>b=decide (j<xs.length)∧Y=⟨[],m j⟩) ⟨[],m j⟩
 item:∀ j A,j<xs.length→Gd A d→(c.gx env A).Ok→WE (c.gx env A) e (fun V Y=>xs[j]?=some V∧Y=⟨[],m j⟩) ⟨[],m j⟩
 step:∀ j A,j<xs.length→Gd A d→(c.gx env A).Ok→WS (c.gx env A) s3 (fun F Y=>F=.next∧∀ x V,(m (j+1)).lookup x=some V→Y.m.lookup x=some V) ⟨[],m j⟩
def mmOf (mi:List (Str×AV)) (m:Nat→List (Str×AV)):Nat→List (Str×AV)
 | 0=>mi
 | j+1=>m j
def GY (c:Cx) (env:Env) (xs:List AV) (mi:List (Str×AV)) (m:Nat→List (Str×AV)):Protocol:=fun n s₀ v s kap =>
 n<xs.length∧∃ S T V,Since c env S s₀ s T∧(∀ S',Good c env (mmOf mi m (xs.length-1-n)) S' s₀→S.Le S')∧Good c env (m (xs.length-1-n)) T s∧xs[xs.length-1-n]?=some V∧Rep T v V ∧
  ∀ s'' T'',Good c env (m (xs.length-1-n)) T'' s''→kap (.send .none) s''
def GP (c:Cx) (env:Env):Nat→Shared→Shared→Prop:=fun n s₀ s=>n=0∧∃ S T,Since c env S s₀ s T
abbrev GEnd (c:Cx) (env:Env):GenEnd:=fun n s₀ r s₁=>r=.ok (.ret .none)∧GP c env n s₀ s₁
theorem ar1 {n i k:Nat} (h:n-i=k+1):i<n:=by exact (lin4 (.lt .v0 .v1) [.eq .v2 (.a .v3 .n1),.sb .v2 .v1 .v0]) h (sbc _ _)
theorem ar2 {n i k:Nat} (h:n-i=k+1):n-1-k=i:=by exact (lin6 (.eq .v0 .v4) [.eq .v5 (.a .v3 .n1),.sb .v1 .v2 .n1,.sb .v0 .v1 .v3,.sb .v5 .v2 .v4]) h (sbc (n) (1)) (sbc (n-1) (k)) (sbc (n) (i))
theorem ar3 {n i k:Nat} (h:n-i=k+1):n-(i+1)=k:=by exact (lin5 (.eq .v0 .v3) [.eq .v4 (.a .v3 .n1),.sb .v0 .v1 (.a .v2 .n1),.sb .v4 .v1 .v2]) h (sbc _ _) (sbc _ _)
theorem ar4 {n i k:Nat} (h:n-i=k+1):k<n:=by exact (lin4 (.lt .v0 .v1) [.eq .v2 (.a .v0 .n1),.sb .v2 .v1 .v3]) h (sbc _ _)
theorem ar5 {n i:Nat} (h:n-i=0):¬i<n:=by exact (lin3 (.no (.lt .v0 .v1)) [.eq .v2 .n0,.sb .v2 .v1 .v0]) h (sbc _ _)
section
variable {c:Cx} {env:Env} {d:Nat} {s1 s2 s3:Stmt} {test e:Expr} {xs:List AV} {mi:List (Str×AV)} {m:Nat→List (Str×AV)} {A:Around} {yp ep wp:Pos}
abbrev gBody (s3:Stmt) (e:Expr) (yp ep:Pos):List Stmt:=[.Expr (.Yield (some e) yp) ep,s3]
theorem Gd.over {A:Around} {d:Nat} {c₁ c₂:Code} {p:Pos} {k:Result→Sem Fin} {l kp:List Value} (x:Gd A (d+1)) (h1:c₁.weight=0) (h2:c₁.cUnits=0) (h3:c₂.weight=1) (h4:c₂.cUnits=3):Gd (A.over c₁ [.ret k none false l c₂ p kp]) d:=by
 refine ⟨x.hd,?_,?_⟩
 ·have:=x.dp
  show A.depth+(c₂.weight+0)+c₁.weight+d<_
  rw [h1,h3];exact (lin3 (.lt (.a (.a (.a .v0 (.a .n1 .n0)) .n0) .v1) .v2) [.lt (.a .v0 (.a .v1 .n1)) .v2]) this
 ·have:=x.un
  show A.units+(c₂.cUnits+0)+c₁.cUnits+8*d+8<_
  rw [h2,h4];exact (lin3 (.lt (.a (.a (.a (.a .v0 (.a .n3 .n0)) .n0) (.l 8 .v1)) (.n 8)) .v2) [.lt (.a (.a .v0 (.l 8 (.a .v1 .n1))) (.n 8)) .v2]) this
theorem Gd.over0 {A:Around} {d:Nat} {c₂:Code} (x:Gd A (d+1)) (h3:c₂.weight=1) (h4:c₂.cUnits=3):Gd (A.over c₂ []) d:=by
 refine ⟨x.hd,?_,?_⟩
 ·have:=x.dp
  show A.depth+0+c₂.weight+d<_
  rw [h3];exact (lin3 (.lt (.a (.a (.a .v0 .n0) .n1) .v1) .v2) [.lt (.a .v0 (.a .v1 .n1)) .v2]) this
 ·have:=x.un
  show A.units+0+c₂.cUnits+8*d+8<_
  rw [h4];exact (lin3 (.lt (.a (.a (.a (.a .v0 .n0) .n3) (.l 8 .v1)) (.n 8)) .v2) [.lt (.a (.a .v0 (.l 8 (.a .v1 .n1))) (.n 8)) .v2]) this
theorem gen_loop (hS:GenSpec c env d s1 s2 s3 test e xs mi m) (hL:c.g.get? env.locals=none) (hc:env.cells=[]) (hOk:∀ A,Gd A 0→(c.gx env A).Ok) (G:Gd A (d+1))
  (hco:env.scope.isCoroutine=false) (hin:interactive env=false) {body:List Stmt} {K:Flow→Sem Fin} {H:Value→Sem Fin} {p:Pos} {l:List Value}
  (hK:K .next=.pure (.done (.ret .none))) {kk:Result→Sem Fin} (hkk:kk (.ok .next)=K .next) :
  ∀ k j s₀ s S T,xs.length-j=k→j≤xs.length→Since c env S s₀ s T→Good c env (m j) T s→(∀ S',Good c env (mmOf mi m j) S' s₀→S.Le S') →
   Seg (model c.P c.w) A (GEnd c env) (GY c env xs mi m) k s₀ (.whileLoop test (gBody s3 e yp ep) [] env) ((model c.P c.w).den (.whileLoop test (gBody s3 e yp ep) [] env)) [.ret kk none false l (.func body env) p []] s:=by
 have Gw:Gd (A.over (.whileLoop test (gBody s3 e yp ep) [] env) [.ret kk none false l (.func body env) p []]) d:=G.over rfl rfl rfl rfl
 have ok:=hOk _ (Gw.le (Nat.ble_eq.mpr (Nat.zero_le _)))
 intro k
 induction k with
 | zero =>
  intro j s₀ s S T hk hj hs hg hl
  refine seg_whileLoop (wpAny_mono (hS.test j _ hj Gw ok _ _ _ ok (hg.st hL hc _)) (fun b s' hz=>?_) fun _ _ z=>z.elim)
  obtain ⟨T',b',X',le,eb,st',rfl,rfl⟩:=hz
  have eb:b=_:=eb
  subst eb
  rw [decide_eq_false (ar5 hk),if_neg (by decide)]
  obtain ⟨hs',hg'⟩:=hg.out le st' (fun _ _ e=>e) hc
  refine seg_execs_nil ?_
  refine seg_leaf (.ok .next) ?_
  rw [hkk,hK]
  exact seg_end (.ok (.ret .none)) ⟨rfl,rfl,S,T',hs.trans hs' hg'.loc⟩
 | succ k ih =>
  intro j s₀ s S T hk hj hs hg hl
  have hlt:j<xs.length:=ar1 hk
  have hn:xs.length-1-k=j:=ar2 hk
  refine seg_whileLoop (wpAny_mono (hS.test j _ hj Gw ok _ _ _ ok (hg.st hL hc _)) (fun b s₁ hz=>?_) fun _ _ z=>z.elim)
  obtain ⟨T₁,b',X',le,eb,st₁,rfl,rfl⟩:=hz
  have eb:b=_:=eb
  subst eb
  rw [decide_eq_true hlt,if_pos rfl]
  obtain ⟨hs₁,hg₁⟩:=hg.out le st₁ (fun _ _ e=>e) hc
  refine seg_execs_cons (seg_Expr_Yield rfl rfl rfl (wpAny_mono (hS.item j _ hlt Gw ok _ _ _ ok (hg₁.st hL hc _)) (fun v s₂ hz=>?_) fun _ _ z=>z.elim) hco hin)
  obtain ⟨T₂,V,X₂,le₂,rv,st₂,hV,rfl⟩:=hz
  obtain ⟨hs₂,hg₂⟩:=hg₁.out le₂ st₂ (fun _ _ e=>e) hc
  intro kap hkap
  refine ⟨ar4 hk,S,T₂,V,(hs.trans hs₁ hg₁.loc).trans hs₂ hg₂.loc,by rw [hn];exact hl,by rw [hn];exact hg₂,by rw [hn];exact hV,rv,fun s'' T'' hg''=>hkap _ _ ?_⟩
  rw [hn] at hg''
  have hl₀:=hg''.least (hS.thin j)
  show Seg _ A _ _ k s'' _ ((execs [s3] env).wrap _ _ _ _) _ s''
  refine seg_execs_cons (seg_wrap (wpAny_mono (hS.step j _ hlt Gw ok _ _ _ ok (hl₀.st hL hc _)) (fun f s₃ hz=>?_) fun _ _ z=>z.elim))
  obtain ⟨T₃,F,X₃,le₃,rf,st₃,rfl,hm⟩:=hz
  cases rf
  obtain ⟨hs₃,hg₃⟩:=hl₀.out le₃ st₃ hm hc
  refine seg_execs_nil ?_
  refine seg_again rfl (ih (j+1) s'' s₃ _ _ (ar3 hk) hlt hs₃ hg₃ fun S' h=>leastG_le h)
theorem gen_start (hS:GenSpec c env d s1 s2 s3 test e xs mi m) (hL:c.g.get? env.locals=none) (hc:env.cells=[]) (hOk:∀ A,Gd A 0→(c.gx env A).Ok) (G:Gd A (d+1))
  (hco:env.scope.isCoroutine=false) (hin:interactive env=false) {s:Shared} {S:Sto} (hg:Good c env mi S s) :
  (GenState.fresh (.func [s1,s2,.While test (gBody s3 e yp ep) [] wp] env)).Goes (model c.P c.w) A (GEnd c env) (GY c env xs mi m) xs.length (.send .none) s:=by
 have Gf:Gd (A.over (.func [s1,s2,.While test (gBody s3 e yp ep) [] wp] env) []) d:=G.over0 rfl rfl
 have ok:=hOk _ (Gf.le (Nat.ble_eq.mpr (Nat.zero_le _)))
 have hl:=hg.least hS.thin0
 refine ⟨rfl,seg_func (seg_execs_cons (seg_wrap (wpAny_mono (hS.pre _ Gf ok _ _ _ ok (hl.st hL hc _)) (fun f s₁ hz=>?_) fun _ _ z=>z.elim)))⟩
 obtain ⟨T₁,F,X₁,le₁,rf,st₁,rfl,h2⟩:=hz
 cases rf
 refine seg_execs_cons (seg_wrap (wpAny_mono (h2 _ _ _ ok st₁) (fun f s₂ hz=>?_) fun _ _ z=>z.elim))
 obtain ⟨T₂,F,X₂,le₂,rf,st₂,rfl,hm⟩:=hz
 cases rf
 obtain ⟨hs₂,hg₂⟩:=hl.out (le₁.trans le₂) st₂ hm hc
 refine seg_execs_cons (seg_While fun p=>?_)
 exact gen_loop hS hL hc hOk G hco hin (K:=fun f=>.pure (.done (.ret (match f with | .ret v=>v | _=>.none)))) (H:=fun e=>.raise e) rfl rfl _ 0 s s₂ _ _ (Nat.sub_zero _) (Nat.zero_le _) hs₂ hg₂ fun S' h=>leastG_le h
end
structure GReady (c:Cx) (B:Bg) (X:AX) (S:Sto) (a:Addr) (g:Nat) (env:Env) (m:List (Str×AV)) (s:Shared):Prop where
 st:St c B S X s
 bL:Bare c B S X env.locals
 bA:Bare c B S X a
 ne:a≠env.locals
 isg:s.heap.IsGen a g
 lo:B.gens.size≤g
 good:Good c env m S s
theorem GLe.push {a:Array GenState} {x:GenState} (h:x.bare=true):GLe a (a.push x) :=
 ⟨fun i y e=>by
  have hi:i<a.size:=by
   rcases Nat.lt_or_ge i a.size with h | h
   ·exact h
   ·rw [Array.getElem?_eq_none h] at e;cases e
  rw [Array.getElem?_push,if_neg (by exact (lin2 (.no (.eq .v0 .v1)) [.lt .v0 .v1]) hi)];exact e,fun ha y hy=>(Array.mem_push.mp hy).elim (ha y) fun z=>z▸h⟩
theorem GLe.size {a b:Array GenState} (h:GLe a b):a.size≤b.size:=by
 rcases Nat.lt_or_ge b.size a.size with q | q
 ·have:=h.1 b.size a[b.size] (Array.getElem?_eq_getElem q)
  rw [Array.getElem?_eq_none (Nat.le_refl _)] at this
  cases this
 ·exact q
theorem gen_call {c:Cx} {B:Bg} {S:Sto} {X:AX} {s:Shared} {vs:List Value} {kw:List (Str×Value)} {f:Addr} {Vs:List AV} {kws:List (Str×AV)} {name qual:Str} {params:Arguments} {body:List Stmt} {scope:Scope} {dV kV doc pm cdv ct oc:Value} {an od:Option Addr} {osl:Array (Option Value)} {d:Nat} (M:List (Str×AV))
  (G:Gd c.A (d+1)) (ho:c.K.lookup f=some ⟨oc,od,.func (fnOf name qual params body scope dV kV doc pm an cdv ct),osl⟩) (hcd:codeIn c.K cdv qual=true)
  (hb:Binds c (fnOf name qual params body scope dV kV doc pm an cdv ct) Vs kws M)
  (hkind:(M.all fun y=>scope.names.lookup y.1==some .local)=true)
  (hcl:∀ L,cellsFrom L scope.names []=[])
  (hco:scope.isCoroutine=false) (hgen:scope.isGenerator=true) (hk:scope.kind=.function) (hfix:c.fix=false)
  (ok:c.Ok) (r:Reps S vs Vs) (rk:RepK S kw kws) (st:St c B S X s) :
  codeAny (model c.P c.w) c.A (.call (.ref f) ⟨vs,kw⟩) (fun r s'=>∃ S' L a g,r=.ok (.ret (.ref a))∧S.Le S'∧GReady c B X S' a g (envOfC qual scope L f cdv) M.reverse s' ∧
   s'.gens[g]?=some (.fresh (.func body (envOfC qual scope L f cdv)))∧∀ A,Gd A 0→(c.gx (envOfC qual scope L f cdv) A).Ok) s:=by
 have X0:=ok.X.keeps st.gr
 obtain ⟨p,loose,mean,mg,mb,T⟩:=ok.T
 have T':=(topRead_of T).keeps st.gr
 refine codeAny_call_generator (fd:=fnOf name qual params body scope dV kV doc pm an cdv ct) (body:=body) G.room (X0 _ _ ho) rfl hco hgen rfl (codeRec_of X0 hcd) ?_
 refine hb S s vs kw _ _ _ X0 r rk fun binds s₁ S₁ le hbr ks e1 e2 e3 stUp=>?_
 have st1:=stUp c B X st
 have hkind':(binds.all fun y=>scope.names.lookup y.1==some .local || scope.names.lookup y.1==some .cell)=true:=by
  rw [List.all_eq_true] at hkind ⊢
  intro y hy
  have:y.1∈binds.map (·.1):=List.mem_map_of_mem hy
  rw [hbr.1] at this
  obtain ⟨z,hz,e⟩:=List.mem_map.mp this
  rw [←e,hkind z hz,Bool.true_or]
 refine wpAny_newFunctionEnv_cells hk (kindsX hkind' _) fun env' he s' x=>?_
 subst he
 refine ⟨(T'.nolimit.keeps ks).keeps x.toInCall.keep,?_⟩
 obtain ⟨h₁,tk,rfl,_⟩:=x.done
 have hk₁:Keeps s₁.heap h₁:=x.toInCall.keep
 have xn:=x.toInCall.ns
 have bL:=st1.bare (a:=s₁.heap.objs.size) (get?_lt_none (Nat.le_refl _))
 have hLlt:s₁.heap.objs.size<h₁.objs.size:=by obtain ⟨o,es,ep,e,_⟩:=xn;exact Heap.lt_size e
 have bA:=st1.bare (a:=h₁.objs.size) (get?_lt_none (by exact (lin2 (.le .v0 .v1) [.lt .v0 .v1]) hLlt))
 have hxn:∀ o:Obj,Keeps h₁ (h₁.push o):=fun o=>Keeps.push _ _
 have hcells:(envOfC qual scope s₁.heap.objs.size f cdv).cells=[]:=hcl _
 refine ⟨S₁,s₁.heap.objs.size,h₁.objs.size,s₁.gens.size,rfl,le,⟨?_,bL,bA,Nat.ne_of_gt hLlt,?_,?_,?_⟩,?_,fun A GA=>?_⟩
 ·have st2:St c B S₁ X {s₁ with heap:=h₁.push {cls:=.type "generator", data:=.fields #[.int s₁.gens.size 0,.str name tk,.str qual (tk+1)]},toks:=tk+1+1}:=st1.grow (fun b o e=>hxn _ b o (hk₁ b o e)) rfl rfl rfl
  exact st2.regen hfix (GLe.push rfl)
 ·exact ⟨_,_,_,Heap.get?_push_size _ rfl,rfl,rfl,rfl⟩
 ·have:=st1.gens.1.size;exact this
 ·have n':=xn.keeps (hxn {cls:=.type "generator", data:=.fields #[.int s₁.gens.size 0,.str name tk,.str qual (tk+1)]})
  refine ⟨fun b o e=>hxn _ b o (hk₁ b o (st1.gr b o e)),fun b o e=>hxn _ b o (hk₁ b o (st1.sto b o e)),bL.sto,⟨_,n'⟩,fun y V e=>?_⟩
  obtain ⟨v,h1,h2⟩:=hbr.reverse.lookup e
  obtain ⟨q,hq,rfl⟩:=lookup_mem e
  have hq':=List.all_eq_true.mp hkind (q,V) (List.mem_reverse.mp hq)
  have k2:scope.names.lookup q=some .local:=by simpa using hq'
  refine ⟨v,h2,k2,?_⟩
  refine (congrFun n'.eq_nsMap q).symm.trans ?_
  rw [bindL_get k2,h1];rfl
 ·show (s₁.gens.push _)[s₁.gens.size]?=_
  rw [Array.getElem?_push,if_pos rfl];rfl
 ·exact ⟨ok.X,ok.T,GA,rfl,rfl,hk,fun _ _ e=>e,fun a o e=>Heap.lt_size (ks _ _ (X0 a o e)),fun a b k ha hb=>by
   have ha:(envOfC qual scope s₁.heap.objs.size f cdv).cells.lookup a=some k:=ha
   rw [hcells] at ha;cases ha⟩
theorem St.since {c:Cx} {B:Bg} {S S₀ T:Sto} {X:AX} {s z₀ s₁:Shared} {env:Env} {m:List (Str×AV)} (st:St c B S X s) (b:Bare c B S X env.locals) (hs:Since c env S₀ z₀ s₁ T) (eh:z₀.heap=s.heap) (eo:z₀.os=s.os) (ed:z₀.drawn=s.drawn) (le:S₀.Le S) (hg:Good c env m T s₁) {gs:Array GenState} (hgs:GLx c.fix B.gens gs) :
  St c B (fun b o=>S b o∨T b o) X {s₁ with gens:=gs}:=by
 have keep:∀ a,a≠env.locals→∀ o,s.heap.get? a=some o→s₁.heap.get? a=some o:=fun a q o e=>hs.keep a o q (by rw [eh];exact e)
 have nL:∀ x k,c.env.cells.lookup x=some k→k≠env.locals:=fun x k e q=>by
  obtain ⟨_,h2,_⟩:=st.cel x k e
  rcases h2 with h2 | ⟨o,h2⟩
  ·exact b.own (q▸h2)
  ·exact b.base o (q▸h2)
 have nl:c.env.locals≠env.locals:=fun q=>by
  rcases st.loc with h | ⟨_,o,h⟩
  ·exact b.own (q▸h)
  ·exact b.base o (q▸h)
 have old:∀ a o,T a o→(∃ o',s.heap.get? a=some o')→S a o:=fun a o e ⟨o',q⟩=>by
  rcases hs.new a o e with z | z
  ·exact le _ _ z
  ·rw [eh,q] at z;cases z
 refine ⟨st.loc,fun a o e=>keep a (fun q=>by rw [q,b.g] at e;cases e) o (st.gr a o e),fun a o e=>keep a (fun q=>b.base o (q▸e)) o (st.base a o e),fun a o e=>e.elim (fun e=>keep a (fun q=>b.sto o (q▸e)) o (st.sto a o e)) (hg.sto a o),fun x k e=>?_,?_,fun p hp=>?_,st.nd,fun a ha=>?_,st.dis,fun a ha=>?_,fun a o e q=>?_,st.pin,hs.os.trans (eo.trans st.os),hgs,hs.drawn.trans (ed.trans st.drawn)⟩
 ·obtain ⟨h1,h2,o,v,h3,h4⟩:=st.cel x k e
  exact ⟨h1,h2,o,v,keep k (nL x k e) o h3,h4⟩
 ·obtain ⟨mc,⟨o,es,ep,e,r⟩,f⟩:=st.fr
  refine ⟨mc,⟨o,es,ep,keep _ nl o e,r⟩,fun x V e=>?_⟩
  obtain ⟨v,r,y⟩:=f x V e
  refine ⟨v,r.mono fun _ _=>.inl,?_⟩
  rcases y with y | ⟨z,k,o,e1,e2,e3,e4,e5⟩
  ·exact .inl y
  ·exact .inr ⟨z,k,o,e1,keep k (nL x k e1) o e2,e3,e4,e5⟩
 ·refine (st.mu p hp).mono (fun _ _=>.inl) fun a ha o e=>keep a (fun q=>b.adr (q▸AX.mem_adr hp ha)) o e
 ·obtain ⟨h1,h2,h3⟩:=st.sep a ha
  refine ⟨h1,h2,fun o e=>e.elim (h3 o) fun e=>h3 o (old a o e ?_)⟩
  rcases ha with ha | ha
  ·exact st.dom a ha
  ·obtain ⟨p,hp,hq⟩:=List.mem_flatMap.mp ha
   exact (st.mu p hp).dom a hq
 ·obtain ⟨o,e⟩:=st.dom a ha
  exact ⟨o,keep a (fun q=>b.own (q▸ha)) o e⟩
 ·rcases e with e | e
  ·exact st.prot a o e q
  ·obtain ⟨o',w⟩:=st.pin a q
   exact st.prot a o (old a o e ⟨o',st.base a o' w⟩) q
theorem next_gen {P:Program} {w:World} {A:Around} {E:Value→Shared→Prop} {s:Shared} {a:Addr} {g n:Nat} {gs:GenState} {F:Nat→Shared→Shared→Prop} {Y:Protocol} {Q:Option Value→Shared→Prop}
  (hh:A.handled=none) (hl:s.heap.NoLimit) (hroom:A.depth<recursionLimit) (hg:s.heap.IsGen a g) (hgs:s.gens[g]?=some gs)
  (hgo:gs.Goes (model P w) A.in1 (fun n s₀ r s₁=>r=.ok (.ret .none)∧F n s₀ s₁) Y n (.send .none) (s.setGen g .running))
  (hY:∀ v s₁ gs',gs'.bare=true→Y (n-1) (s.setGen g .running) v s₁ (fun r' s''=>match n with
    | 0=>False
    | m+1=>gs'.Goes (model P w) A.in1 (fun n s₀ r s₁=>r=.ok (.ret .none)∧F n s₀ s₁) Y m r' s'')→Q (some v) (s₁.setGen g gs'))
  (hF:∀ s₁,F n (s.setGen g .running) s₁→∀ h',Keeps s₁.heap h'→Q none {s₁.setGen g .finished with heap:=h'}) :
  wpAny (model P w) A (pyNext (.ref a)) Q E s:=by
 have live:gs≠.running∧gs≠.finished:=⟨fun q=>by rw [q] at hgo;exact hgo,fun q=>by rw [q] at hgo;exact hgo⟩
 unfold pyNext
 refine wpAny_bind (wpAny_attempt (wpAny_callSpecial?_slot (name:=Str.ofString "__next__") hg.typeIs slot_gen_next (wpAny_call_entry slot_gen_next hg.typeIs entry_gen_next ?_ (args_gen_next _))))
 show wpAny _ A.in1 (Builtin.Generator.genWake (.ref a) (.send .none)) _ _ s
 unfold Builtin.Generator.genWake
 refine wpAny_bind (wpAny_holding (wpAny_genNumber hg (wpAny_bind (wpAny_genState hgs ?_))))
 cases gs with
 | running=>exact (live.1 rfl).elim
 | finished=>exact (live.2 rfl).elim
 | _ =>
  refine wpAny_bind (wpAny_roomToWake hl hroom ?_)
  show wpAny _ A.in1 (.resume g (.send .none) [] _) _ _ s
  refine wpAny_resumeQ hgs hgo (fun r s₁ hr=>?_) (fun v s₁ gs' hb hv=>wpAny_pure ⟨v,rfl,wpAny_pure (hY v s₁ gs' hb hv)⟩)
  obtain ⟨er,hr⟩:=hr
  rw [er]
  show wpAny _ A.in1 (newExc (.type "StopIteration") [] >>= _) _ _ _
  refine wpAny_bind ?_
  simp only [newExc,newTuple]
  refine wpAny_bind (wpAny_newObj_type ?_ (by size_fits))
  refine wpAny_bind (m:=firstArgMember _ _) (wpAny_of_eq (a:=Value.none) (by first | rfl | (simp only [firstArgMember];rfl)) ?_)
  refine wpAny_newObj_type ?_ (by size_fits)
  simp only [raiseNew]
  refine wpAny_bind (wpAny_bind (wpAny_handled ?_))
  rw [show A.in1.handled=none from hh]
  refine wpAny_throw (wpAny_bind (wpAny_isInstance (T := "StopIteration") (b:=true) ⟨_,Heap.get?_push_size _ rfl,rfl⟩ isSubtype_stop ?_))
  exact wpAny_pure (hF s₁ hr _ fun b o e=>Heap.get?_push_of_some _ (Heap.get?_push_of_some _ e))
theorem Good.keep {c:Cx} {env:Env} {m:List (Str×AV)} {S S':Sto} {s s':Shared} (h:Good c env m S s) (le:S.Le S') (k:∀ o,s.heap.get? env.locals=some o→s'.heap.get? env.locals=some o) (gr:c.g.StaysIn s'.heap) (sto:∀ b o,S' b o→s'.heap.get? b=some o) (loc:∀ o,¬S' env.locals o):Good c env m S' s':=by
 obtain ⟨mc,n⟩:=h.ns
 have n':s'.heap.Ns env.locals mc:=n.at' k
 refine ⟨gr,sto,loc,⟨mc,n'⟩,fun x V e=>?_⟩
 obtain ⟨v,r,q,hv⟩:=h.names x V e
 exact ⟨v,r.mono le,q,(congrFun (n'.eq_nsMap.symm.trans n.eq_nsMap) x).trans hv⟩
theorem St.nowGens {c:Cx} {B:Bg} {S:Sto} {X:AX} {s:Shared} (st:St c B S X s):St c {B with gens:=s.gens} S X s :=
 ⟨st.loc,st.gr,st.base,st.sto,st.cel,st.fr,st.mu,st.nd,st.sep,st.dis,st.dom,st.prot,st.pin,st.os,.refl _,st.drawn⟩
theorem St.backGens {c:Cx} {B:Bg} {S:Sto} {X:AX} {s:Shared} {gs:Array GenState} (st:St c {B with gens:=gs} S X s) (h:GLx c.fix B.gens gs):St c B S X s :=
 ⟨st.loc,st.gr,st.base,st.sto,st.cel,st.fr,st.mu,st.nd,st.sep,st.dis,st.dom,st.prot,st.pin,st.os,h.trans st.gens,st.drawn⟩
theorem St.setGens {c:Cx} {B:Bg} {S:Sto} {X:AX} {s:Shared} {gs:Array GenState} (st:St c B S X s) (h:GLx c.fix B.gens gs):St c B S X {s with gens:=gs} :=
 ⟨st.loc,st.gr,st.base,st.sto,st.cel,st.fr,st.mu,st.nd,st.sep,st.dis,st.dom,st.prot,st.pin,st.os,h,st.drawn⟩
theorem GLe.set {b a:Array GenState} {g:Nat} {x:GenState} (h:GLe b a) (hg:b.size≤g) (hx:x.bare=true):GLe b (a.setIfInBounds g x):=by
 refine ⟨fun i y e=>?_,fun hb y hy=>?_⟩
 ·have hi:i<b.size:=by
   rcases Nat.lt_or_ge i b.size with q | q
   ·exact q
   ·rw [Array.getElem?_eq_none q] at e;cases e
  rw [Array.getElem?_setIfInBounds_ne (by exact (lin3 (.no (.eq .v0 .v1)) [.le .v2 .v0,.lt .v1 .v2]) hg hi)]
  exact h.1 i y e
 ·rcases Array.mem_or_eq_of_mem_setIfInBounds hy with q | q
  ·exact h.2 hb y q
  ·rw [q];exact hx
inductive Hands (c:Cx) (d:Nat) (y:Str) (yp':Pos) (body:List Stmt) (Q:AF→AX→Prop) (B:Bg) (S:Sto) (v:Value) (s':Shared):Prop
 | mk (S':Sto) (X':AX) (a:Addr) (g:Nat) (env:Env) (s1 s2 s3:Stmt) (test e:Expr) (yp ep wp:Pos) (xs:List AV) (mi:List (Str×AV)) (m:Nat→List (Str×AV)) (hv:v=.ref a) (le:S.Le S') (R:GReady c B X' S' a g env mi s')
   (hgs:s'.gens[g]?=some (.fresh (.func [s1,s2,.While test (gBody s3 e yp ep) [] wp] env))) (hOk:∀ A,Gd A 0→(c.gx env A).Ok) (hc:env.cells=[]) (hco:env.scope.isCoroutine=false) (hin:interactive env=false) (hS:GenSpec c env d s1 s2 s3 test e xs mi m)
   (I:Nat→AX→Prop) (hI0:I 0 X') (turn:∀ i x Y,xs[i]?=some x→I i Y→WA c (.Name y yp') x (fun Y'=>WSs c body (Turn c id (I (i+1)) Q) Y') Y) (fin:∀ Y,I xs.length Y→Q .next Y)
section
variable {c:Cx} {X:AX} {Q:AF→AX→Prop}
theorem S_forGen {y:Str} {yp':Pos} {iter:Expr} {body:List Stmt} {pos:Pos} {d:Nat} (G:Gd c.A (d+2)) (hfix:c.fix=false)
  (h:∀ B S s,c.Ok→St c B S X s→wpAny (model c.P c.w) c.A (eval iter c.env) (fun v s'=>Hands c d y yp' body Q B S v s') c.E s)
  (hs:∀ x,foldedSetIterable iter c.env x=pure x:=by intro _;rfl):WS c (.For (.Name y yp') iter body [] pos) Q X:=by
 intro B S s ok st
 refine wpAny_For (wpAny_mono (h B S s ok st) (fun v s₁ hz=>?_) fun _ _ e=>e) hs
 obtain ⟨S₁,X₁,a,g,env,s1,s2,s3,test,e,yp,ep,wp,xs,mi,m,rfl,le₁,R₁,hgs,hOk,hc,hco,hin,hS,I,hI0,turn,fin⟩:=hz
 refine wpAny_pyIter_gen R₁.isg ?_
 have hL:c.g.get? env.locals=none:=R₁.bL.g
 have G1:Gd c.A.in1 (d+1):=Gd.in1 (d:=d+1) G
 obtain ⟨p,loose,mean,mg,mb,Tp⟩:=ok.T
 let K:Nat→Shared→Prop:=fun k s=>∃ i S' Y gs,k=xs.length-i∧i≤xs.length∧S.Le S'∧GReady c B Y S' a g env (mmOf mi m i) s∧s.gens[g]?=some gs ∧
  (∀ s'' T'',Good c env (mmOf mi m i) T'' s''→gs.Goes (model c.P c.w) c.A.in1 (GEnd c env) (GY c env xs mi m) (xs.length-i) (.send .none) s'')∧I i Y
 have start:K xs.length s₁:=⟨0,S₁,X₁,_,by simp,Nat.zero_le _,le₁,R₁,hgs,fun s'' T'' hg=>gen_start hS hL hc hOk G1 hco hin hg,hI0⟩
 refine codeAny_mono (forLoop_ (R:=fun r s'=>match r with | .ok f=>Post c B S RepF Q f s' | .error e=>False) K (fun k s hK=>?_) xs.length start) fun r s' z=>by
  cases r with
  | ok f=>exact z
  | error e=>exact z.elim
 obtain ⟨i,S',Y,gs,rfl,hi,le,R,hgs,hgo,hI⟩:=hK
 have hgood:Good c env (mmOf mi m i) S' (s.setGen g .running):=⟨R.good.gr,R.good.sto,R.good.loc,R.good.ns,R.good.names⟩
 have hlim:=(Tp.keeps R.st.gr).nolimit
 have stay:∀ b∈[env.locals,a],Bare c B S' Y b:=fun b hb=>by
  rcases List.mem_cons.mp hb with q | q
  ·rw [q];exact R.bL
  ·rw [List.mem_singleton.mp q];exact R.bA
 have glx:∀ (s₂:Shared) (x:GenState),s₂.gens=(s.setGen g .running).gens→x.bare=true→GLx c.fix B.gens (s₂.setGen g x).gens:=fun s₂ x e hx=>by
  refine ⟨?_,fun q=>by rw [hfix] at q;cases q⟩
  show GLe B.gens (s₂.gens.setIfInBounds g x)
  rw [e]
  exact (R.st.gens.1.set R.lo rfl).set R.lo hx
 cases hn0:xs.length-i with
 | zero =>
  rw [hn0] at hgo
  have hie:i=xs.length:=Nat.le_antisymm hi (Nat.not_lt.mp (ar5 hn0))
  refine next_gen (F:=GP c env) ok.G.hd hlim G.room R.isg hgs (hgo _ _ hgood) (fun v s₂ gs' hb hv=>?_) (fun s₂ hf h' hk=>?_)
  ·obtain ⟨hn,S₀,T,V,hsin,hleast,hg₂,hV,rV,kap⟩:=hv
   exact (kap s₂ T hg₂).elim
  ·obtain ⟨_,S₀,T,hsin⟩:=hf
   have st₂:St c B S' Y {s₂.setGen g .finished with heap:=h',gens:=s.gens} :=
    R.st.keep (l:=[env.locals]) (fun b o q e=>hk b o (hsin.keep b o (fun z=>q (List.mem_singleton.mpr z)) e)) (fun b hb=>by rw [List.mem_singleton.mp hb];exact ⟨R.bL.g,R.bL.base,R.bL.sto,R.bL.own,R.bL.adr⟩) hsin.os rfl hsin.drawn
   have st₃:=st₂.setGens (glx s₂ .finished hsin.gens rfl)
   exact wpAny_execs_nil ⟨S',.next,Y,le,.next,st₃,fin Y (by rw [←hie];exact hI)⟩
 | succ k =>
  rw [hn0] at hgo
  have hlt:i<xs.length:=ar1 hn0
  refine next_gen (F:=GP c env) ok.G.hd hlim G.room R.isg hgs (hgo _ _ hgood) (fun v s₂ gs' hb hv=>?_) (fun s₂ hf h' hk=>absurd hf.1 (Nat.succ_ne_zero k))
  obtain ⟨hn,S₀,T,V,hsin,hleast,hg₂,hV,rV,kap⟩:=hv
  have hid:xs.length-1-(k+1-1)=i:=ar2 hn0
  rw [hid] at hleast hg₂ hV kap
  have st₂:St c B (fun b o=>S' b o∨T b o) Y (s₂.setGen g gs'):=R.st.since R.bL hsin rfl rfl rfl (hleast S' hgood) hg₂ (glx s₂ gs' hsin.gens hb)
  have le₂:S'.Le (fun b o=>S' b o∨T b o):=fun _ _=>.inl
  have rV₂:Rep (fun b o=>S' b o∨T b o) v V:=rV.mono fun _ _=>.inr
  have bare₂:∀ b∈[env.locals,a],Bare c B (fun b o=>S' b o∨T b o) Y b:=fun b hb=>by
   have q:=stay b hb
   refine ⟨q.g,q.base,fun o z=>z.elim (q.sto o) fun z=>?_,q.own,q.adr,q.prot⟩
   rcases hsin.new b o z with w | w
   ·exact q.sto o (hleast S' hgood _ _ w)
   ·have w:s.heap.get? b=none:=w
    rcases List.mem_cons.mp hb with e | e
    ·obtain ⟨mc,o',es,ep,e',_⟩:=R.good.ns
     rw [e,e'] at w;cases w
    ·obtain ⟨o',nm,qn,e',_⟩:=R.isg
     rw [List.mem_singleton.mp e,e'] at w;cases w
  refine wpAny_of_eq (rfl:letOwnedTupleGo (.Name y yp') (.ref a) v=pure ()) ?_
  -- pin the frame and the generator
  obtain ⟨mc,oL,esL,epL,eL,_⟩:=hg₂.ns
  obtain ⟨oA,nmA,qnA,eA,restA⟩:=R.isg
  have eA₂:(s₂.setGen g gs').heap.get? a=some oA:=hsin.keep a oA R.ne eA
  have pin:∀ p∈[(env.locals,oL),(a,oA)],(s₂.setGen g gs').heap.get? p.1=some p.2∧Bare c B (fun b o=>S' b o∨T b o) Y p.1:=fun p hp=>by
   rcases List.mem_cons.mp hp with e | e
   ·rw [e];exact ⟨eL,bare₂ _ (.head _)⟩
   ·rw [List.mem_singleton.mp e];exact ⟨eA₂,bare₂ _ (.tail _ (.head _))⟩
  have stp:=(st₂.pins pin).nowGens
  refine wpAny_mono (turn i V Y hV hI _ _ _ v ok rV₂ stp) (fun _ s₃ hz=>?_) fun e s' z=>ok.noE e s' z
  obtain ⟨S₃,_,Y₃,le₃,_,st₃,h₃⟩:=hz
  refine wpAny_mono (run_exec ok h₃ st₃) (fun f s₄ hz=>?_) fun _ _ z=>z
  obtain ⟨S₄,F,Y₄,le₄,rf,st₄,h₄⟩:=hz
  have hg4:s₄.gens[g]?=some gs':=st₄.gens.1.1 g gs' (setGen_self (gs:=.running) (by rw [hsin.gens];exact setGen_self hgs))
  have back:∀ {S₅:Sto} {Z:AX},St c {B.pins [(env.locals,oL),(a,oA)] with gens:=(s₂.setGen g gs').gens} S₅ Z s₄→St c B S₅ Z s₄∧∀ p∈[(env.locals,oL),(a,oA)],s₄.heap.get? p.1=some p.2∧Bare c B S₅ Z p.1:=fun st₅ =>
   st₂.unpins (fun p hp=>(pin p hp).2) (st₅.backGens (B:=B.pins [(env.locals,oL),(a,oA)]) (glx s₂ gs' hsin.gens hb))
  have again:(∃ Z,Conv c Y₄ Z∧I (i+1) Z)→∃ m,m<k+1∧K m s₄:=by
   rintro ⟨Z,hZ,hIZ⟩
   obtain ⟨S₅,le₅,new₅,st₅⟩:=hZ _ _ _ st₄
   obtain ⟨st₆,hp⟩:=back st₅
   have l5:Sto.Le (fun b o=>S' b o∨T b o) S₅:=le₃.trans (le₄.trans le₅)
   refine ⟨k,Nat.lt_succ_self k,i+1,S₅,Z,gs',(ar3 hn0).symm,hlt,le.trans (le₂.trans l5),⟨st₆,(hp _ (.head _)).2,(hp _ (.tail _ (.head _))).2,R.ne,⟨oA,nmA,qnA,(hp _ (.tail _ (.head _))).1,restA⟩,R.lo,?_⟩,hg4,fun s'' T'' hg''=>?_,hIZ⟩
   ·refine hg₂.keep (fun _ _ z=>l5 _ _ (.inr z)) (fun o e=>?_) st₆.gr st₆.sto (hp _ (.head _)).2.sto
    rw [eL] at e;cases e;exact (hp _ (.head _)).1
   ·have:=kap s'' T'' hg''
    rw [ar3 hn0]
    exact this
  obtain ⟨st₆,-⟩:=back st₄
  have l4:S.Le S₄:=le.trans (le₂.trans (le₃.trans le₄))
  cases rf with
  | next=>exact again h₄
  | cont=>exact again h₄
  | brk=>exact ⟨S₄,.next,Y₄,l4,.next,st₆,h₄⟩
  | ret r=>exact ⟨S₄,_,Y₄,l4,.ret r,st₆,h₄⟩
end
section
variable {c:Cx} {X:AX}
theorem run_raw {B:Bg} {S:Sto} {s:Shared} {pos:Pos} {f:Value} {first:List Value} {args:List Expr} {Us:List AV} {X₁:AX} {R:Value→Shared→Prop} (ok:c.Ok) (st:St c B S X s)
  (hk:∀ h,c.K.In h→∃ k,Looks (model c.P c.w) h (keeperOf f) k) (h:WAs c pos args (fun Vs Y=>Vs=Us∧Y=X₁) X)
  (fin:∀ S₂ s₂ vs,S.Le S₂→Reps S₂ vs Us→St c B S₂ X₁ s₂→wpAny (model c.P c.w) c.A (call f (first++vs) []) R c.E s₂)
  (he:∀ e r,args=e::r→starEach args c.env=(false,eval e c.env)::starEach r c.env) :
  wpAny (model c.P c.w) c.A (callWith pos f first (backTo pos (starEach args c.env)) (backToKw pos (keywordEach [] c.env))) R c.E s:=by
 refine callWith_any (P:=fun s'=>c.K.In s'.heap) (fun s' z=>hk _ z) ?_
 have last:∀ vs s₁,Post c B S Reps (fun Vs Y=>Vs=Us∧Y=X₁) vs s₁→wpAny (model c.P c.w) c.A (evalAll ((backToKw pos (keywordEach [] c.env)).map (·.2))) (fun ks s₂=>c.K.In s₂.heap∧wpAny (model c.P c.w) c.A (call f (first++vs) (((backToKw pos (keywordEach [] c.env)).filterMap (·.1)).zip ks)) R c.E s₂) c.E s₁:=by
  rintro vs s₁ ⟨S₁,Vs,Y,u₁,r₁,st₁,rfl,rfl⟩
  exact kwAll_nil ⟨ok.X.keeps st₁.gr,fin S₁ s₁ vs u₁ r₁ st₁⟩
 cases args with
 | nil=>exact evalArgs_nilB rfl (wpAny_mono (h B S s ok st) (fun vs s₁ p=>last vs s₁ p) fun _ _ e=>e)
 | cons e r=>exact evalArgs_kw2 rfl (wpAny_mono (h B S s ok st) (fun vs s₁ p=>last vs s₁ p) fun _ _ e=>e) (he e r rfl)
theorem meth_raw {o:Expr} {name:Str} {apos pos:Pos} {args:List Expr} {V:AV} {C f:Addr} {ks:List Str} {ws:List AV} {Us:List AV} {X₁:AX} {R:Value→Shared→Prop} {pl:Sem Bool} {B:Bg} {S:Sto} {s:Shared} (ok:c.Ok) (st:St c B S X s)
  (ho:WE c o (fun U Y=>U=V∧Y=X) X) (hi:IsInst X V C ks ws) (hg:plainGet c.K C name=true) (hf:findIn c.K (.ref C) name=some (some (.ref f))) (ht:isFn c.K (.ref f)=true) (hfn:fnIn c.K f=true) (hk:name∉ks)
  (h:WAs c pos args (fun Vs Y=>Vs=Us∧Y=X₁) X)
  (fin:∀ S₂ s₂ vs,S.Le S₂→Reps S₂ vs (V::Us)→St c B S₂ X₁ s₂→codeAny (model c.P c.w) c.A (.call (.ref f) ⟨vs,[]⟩) (fun r s'=>match r with | .ok (.ret v)=>R v s' | _=>False) s₂)
  (hst:∀ e r,args=e::r→starEach args c.env=(false,eval e c.env)::starEach r c.env:=by intro _ _ h;first | (cases h;rfl) | cases h)
  (he:eval (.Call (.Attribute o name apos) args [] pos) c.env=(do
   let ov ←eval o c.env
   standAt apos.atName
   let (f,first) ←holding [ov] (getMethod ov name pl)
   callWith pos f first (backTo pos (starEach args c.env)) (backToKw pos (keywordEach [] c.env))):=by rfl) :
  wpAny (model c.P c.w) c.A (eval (.Call (.Attribute o name apos) args [] pos) c.env) R c.E s:=by
 rw [he]
 refine wpAny_bind (wpAny_mono (ho B S s ok st) (fun ov s₁ hz=>wpAny_bind (wpAny_standAt ?_)) fun _ _ e=>e)
 obtain ⟨S₁,U,Y,u₁,r,st₁,rfl,rfl⟩:=hz
 obtain ⟨a,d,es,ep,rfl,I,en⟩:=hi.at st₁ r
 have z:wpAny (model c.P c.w) c.A (getMethod (.ref a) name pl >>= fun fx=>callWith pos fx.1 fx.2 (backTo pos (starEach args c.env)) (backToKw pos (keywordEach [] c.env))) R c.E s₁:=by
  refine wpAny_bind (method_fn (ok.X.keeps st₁.gr) I (plainGet_of hg).1 (plainGet_of hg).2 hf (beq_iff_eq.mp ht) (by show (lookIn name (dictOf es ep)).map _=_;rw [lookIn_dict,en.miss hk];rfl) ?_)
  refine run_raw ok st₁ (fun h X0=>keeper_fn hfn h X0) h (fun S₂ s₂ vs u r₂ st₂=>?_) hst
  refine wpAny_call (codeAny_mono (fin S₂ s₂ (.ref a::vs) (u₁.trans u) (.cons (r.mono u) r₂) st₂) fun q s' w=>?_)
  rcases q with e | (v | _ | _ | _)<;>first | exact w | exact w.elim
 refine (fun Γ p hΓ=>?_:wpAny (model c.P c.w) c.A _ _ c.E s₁)
 have z:=z Γ p hΓ
 rw [Sem.wp_bind'] at z ⊢
 rw [Sem.wp_holding]
 exact z
end
section
variable {c:Cx} {X:AX} {Q:AV→AX→Prop}
theorem E_methS {o e:Expr} {name:Str} {apos pos p:Pos} {V:AV} {C f:Addr} {ks:List Str} {ws Us:List AV}
  (ho:WE c o (fun U Y=>U=V∧Y=X) X) (hi:IsInst X V C ks ws) (hg:plainGet c.K C name=true) (hh:hasDictIn c.K C=true) (ha:findIn c.K (.ref C) name=some (some (.ref f))) (hf:isFn c.K (.ref f)=true)
  (hgf:specialIn c.K (.ref f) "__get__" = some (some (.builtin "function.__get__"))) (hts:takesIn c.K (.ref f)=some false) (hc:copiedNames.contains name=false) (hk:name∉ks) (hfn:fnIn c.K f=true)
  (ht:WE c e (fun U Y=>U=.tup Us∧Y=X) X) (hz:Us.length≤1000) (h:WF c (.ref f) (V::Us) [] Q X)
  (he:eval (.Call (.Attribute o name apos) [.Starred e p] [] pos) c.env=(do
   let ov ←eval o c.env
   standAt apos.atName
   let fx ←holding [ov] (do pure (←getAttr ov name true,([]:List Value)))
   callWith pos fx.1 fx.2 (backTo pos (starEach [.Starred e p] c.env)) []):=by rfl)
  (hse:starEach [.Starred e p] c.env=[(true,eval e c.env)]:=by rfl) :
  WE c (.Call (.Attribute o name apos) [.Starred e p] [] pos) Q X:=by
 intro B S s ok st
 rw [he]
 refine wpAny_bind (wpAny_mono (ho B S s ok st) (fun ov s₁ hz₉=>wpAny_bind (wpAny_standAt ?_)) fun _ _ e=>e)
 obtain ⟨S₁,U,Y,u₁,r,st₁,rfl,rfl⟩:=hz₉
 have X0:=ok.X.keeps st₁.gr
 obtain ⟨a,d,es,ep,rfl,I,en⟩:=hi.at st₁ r
 have st2:=(st₁.toks (s₁.toks+1)).push (methodObj (.ref f) (.ref a)) rfl
 refine wpAny_bind (wpAny_holding (wpAny_bind (get_bind X0 I (plainGet_of hg).1 (findObj_fn hh ha hgf hts hc (by show lookIn name (dictOf es ep)=_;rw [lookIn_dict,en.miss hk])) (plainGet_of hg).2
   (wpAny_call (fn_get (s:={s₁ with toks:=s₁.toks+1}) X0 (beq_iff_eq.mp hf) (handed_on rfl (wpAny_pure ?_)))))))
 show wpAny _ _ (callWith pos (.ref s₁.heap.objs.size) [] (backTo pos (starEach [.Starred e p] c.env)) []) _ _ _
 rw [hse]
 refine ks_call (P:=MethP c.K s₁.heap.objs.size f (.ref a)) rfl (keeps_M hfn) (ks_lone ?_)
 refine wpAny_mono (ht B _ _ ok st2) (fun tv s₃ hz₉=>?_) fun _ _ e=>e
 obtain ⟨S₃,U,Y',u₃,r₃,st₃,rfl,rfl⟩:=hz₉
 obtain ⟨b,vs,n,rfl,hb,rv⟩:=r₃.tup_inv
 have hb':=st₃.sto _ _ hb
 have hT:s₃.TypeIs (.ref b) "tuple" := ⟨_,hb',rfl⟩
 have hq:S₃ s₁.heap.objs.size (methodObj (.ref f) (.ref a)):=u₃ _ _ (Sto.put_self S₁ s₁.heap.objs.size (methodObj (.ref f) (.ref a)))
 unfold StarOf notIterableAtAll
 refine wpAny_bind (wpAny_specialOf hT PySem.F.slot_tuple_iter.lookup (wpAny_pure ⟨rfl,?_⟩))
 refine wpAny_collect_seq b (.inr rfl) hb' rfl rfl (fun h' hk'=>?_) (by rw [sizeLine_eq,List.size_toArray,rv.1];exact (lin1 (.le .v0 (.n (2^24))) [.le .v0 (.n 1000)]) hz)
 have st4:St c B S₃ Y' {s₃ with heap:=h'}:=st₃.grow hk' rfl rfl rfl
 have X4:=ok.X.keeps st4.gr
 refine ⟨⟨st4.sto _ _ hq,X4⟩,wpAny_call (method_call (st4.sto _ _ hq) ?_)⟩
 rw [show ([]++vs.toArray.toList:List Value)=vs by simp]
 refine codeAny_mono (h B S₃ _ (.ref a::vs) [] ok (.cons (r.mono ((Sto.put_le _ _ _).trans u₃)) rv) ⟨rfl,.nil⟩ st4) fun q s' z=>?_
 replace z:=z.1
 rcases q with e | (v | _ | _ | _)<;>first | exact Post.up (u₁.trans ((Sto.put_le _ _ _).trans u₃)) z | exact z | exact z.elim
end
section
variable {c:Cx} {X X₁:AX} {Q:AF→AX→Prop}
theorem S_forMeth {y:Str} {yp':Pos} {o:Expr} {name:Str} {apos cpos pos:Pos} {args:List Expr} {body:List Stmt} {V:AV} {C f:Addr} {ks:List Str} {ws Us:List AV} {pl:Sem Bool}
  {fname qual:Str} {params:Arguments} {scope:Scope} {dV kV doc pm cdv ct oc:Value} {an od:Option Addr} {osl:Array (Option Value)} {s1 s2 s3:Stmt} {test e:Expr} {yp ep wp:Pos} {d:Nat} {xs:List AV} {m:Nat→List (Str×AV)} (M:List (Str×AV))
  (G:Gd c.A (d+2)) (hfix:c.fix=false)
  (ho:WE c o (fun U Y=>U=V∧Y=X) X) (hi:IsInst X V C ks ws) (hg:plainGet c.K C name=true) (hf:findIn c.K (.ref C) name=some (some (.ref f))) (ht:isFn c.K (.ref f)=true) (hfn:fnIn c.K f=true) (hk:name∉ks)
  (h:WAs c cpos args (fun Vs Y=>Vs=Us∧Y=X₁) X)
  (hl:c.K.lookup f=some ⟨oc,od,.func (fnOf fname qual params [s1,s2,.While test (gBody s3 e yp ep) [] wp] scope dV kV doc pm an cdv ct),osl⟩) (hcd:codeIn c.K cdv qual=true)
  (hb:Binds c (fnOf fname qual params [s1,s2,.While test (gBody s3 e yp ep) [] wp] scope dV kV doc pm an cdv ct) (V::Us) [] M)
  (hkind:(M.all fun y=>scope.names.lookup y.1==some .local)=true) (hcl:∀ L,cellsFrom L scope.names []=[])
  (hco:scope.isCoroutine=false) (hgen:scope.isGenerator=true) (hk':scope.kind=.function) (hin:∀ L,interactive (envOfC qual scope L f cdv)=false)
  (spec:∀ L,GenSpec c (envOfC qual scope L f cdv) d s1 s2 s3 test e xs M.reverse m)
  (hI:∃ I:Nat→AX→Prop,I 0 X₁∧(∀ i x Y,xs[i]?=some x→I i Y→WA c (.Name y yp') x (fun Y'=>WSs c body (Turn c id (I (i+1)) Q) Y') Y)∧∀ Y,I xs.length Y→Q .next Y)
  (hst:∀ e r,args=e::r→starEach args c.env=(false,eval e c.env)::starEach r c.env:=by intro _ _ h;first | (cases h;rfl) | cases h)
  (he:eval (.Call (.Attribute o name apos) args [] cpos) c.env=(do
   let ov ←eval o c.env
   standAt apos.atName
   let (f,first) ←holding [ov] (getMethod ov name pl)
   callWith cpos f first (backTo cpos (starEach args c.env)) (backToKw cpos (keywordEach [] c.env))):=by rfl)
  (hs:∀ x,foldedSetIterable (.Call (.Attribute o name apos) args [] cpos) c.env x=pure x:=by intro _;rfl) :
  WS c (.For (.Name y yp') (.Call (.Attribute o name apos) args [] cpos) body [] pos) Q X:=by
 refine S_forGen G hfix (fun B S s ok st=>meth_raw ok st ho hi hg hf ht hfn hk h (fun S₂ s₂ vs le r st₂=>?_) hst he) hs
 refine codeAny_mono (gen_call (d:=d+1) M G hl hcd hb hkind hcl hco hgen hk' hfix ok r ⟨rfl,.nil⟩ st₂) fun r s' hz=>?_
 obtain ⟨S',L,a,g,rfl,le',R,hgs,hOk⟩:=hz
 obtain ⟨I,hI0,turn,fin⟩:=hI
 exact ⟨S',X₁,a,g,_,s1,s2,s3,test,e,yp,ep,wp,xs,M.reverse,m,rfl,le.trans le',R,hgs,hOk,hcl _,hco,hin L,spec L,I,hI0,turn,fin⟩
end
section
variable {c:Cx} {X:AX} {Q:AV→AX→Prop}
theorem E_slice2 {value low up:Expr} {p pos:Pos} (h:WE c value (fun V X₁=>WE c low (fun W X₂=>WE c up (fun U X₃=>∃ xs j k,V=.lst xs∧W=.int j∧U=.int k∧0≤j∧j≤k∧xs.length≤1000000∧Q (.lst ((xs.drop (min j.toNat xs.length)).take (min k.toNat xs.length-min j.toNat xs.length))) X₃) X₂) X₁) X) (ht:∀ o r,letTemporaryGo value o r=pure ():=by intro _ _;rfl):WE c (.Subscript value (.Slice (some low) (some up) none p) pos) Q X:=by
 intro B S s ok st
 refine wpAny_Subscript_list_slice (wpAny_mono (h B S s ok st) (fun v s₁ hz₉=>?_) fun _ _ e=>e) ht
 obtain ⟨S₁,V,X₁,u₁,rv,st₁,h₁⟩:=hz₉
 rw [evalPart_some,evalPart_some]
 refine wpAny_mono (h₁ B S₁ s₁ ok st₁) (fun y s₂ hz₉=>?_) fun _ _ e=>e
 obtain ⟨S₂,W,X₂,u₂,rw',st₂,h₂⟩:=hz₉
 refine wpAny_mono (h₂ B S₂ s₂ ok st₂) (fun u s₃ hz₉=>?_) fun _ _ e=>e
 obtain ⟨S₃,U,X₃,u₃,ru,st₃,xs,j,k,eV,eW,eU,hj,hk,hz,q⟩:=hz₉
 subst eV eW eU
 obtain ⟨l,vs,n,rfl,g1,g2⟩:=(rv.mono (u₂.trans u₃)).lst_inv
 obtain ⟨t,rfl⟩:=ru.int_inv
 obtain ⟨t',rfl⟩:=rw'.int_inv
 have e:slicePick vs.toArray (some j) (some k) none=((vs.drop (min j.toNat vs.length)).take (min k.toNat vs.length-min j.toNat vs.length)).toArray:=by
  obtain ⟨a,rfl⟩:=Int.eq_ofNat_of_zero_le hj
  obtain ⟨b,rfl⟩:=Int.eq_ofNat_of_zero_le (show 0≤k by exact (lin [_] [_] (.zl .n0 .v0) [.zl (.c .v0) .v0]) hk)
  have e:sliceBounds (some (a:Int)) (some (b:Int)) none vs.toArray.size=(((min a vs.length:Nat):Int),((min b vs.length:Nat):Int),1):=by
   simp only [sliceBounds,Option.getD_none,List.size_toArray]
   have h1:¬((a:Int)<0):=by exact lin1 (.no (.zt (.c .v0) .n0)) []
   have h2:¬((b:Int)<0):=by exact lin1 (.no (.zt (.c .v0) .n0)) []
   simp only [h1,h2,if_false,show (1:Int) > 0 by decide,if_true]
   congr 1
   ·lia
   ·congr 1;lia
  unfold slicePick
  rw [e]
  simp only [sliceRange_one,pick_run,Int.toNat_natCast]
 refine ⟨l,vs.toArray,some j,some k,rfl,⟨_,st₃.sto _ _ g1,rfl,n,rfl⟩,by rw [sizeLine_eq,List.size_toArray,g2.1];exact (lin1 (.le .v0 (.n (2^24))) [.le .v0 (.n 1000000)]) hz,.int j t',.int k t,?_⟩
 rw [e]
 have st₄:=(st₃.grow (s':={s₃ with heap:=s₃.heap.push {cls:=.type "slice", data:=.fields #[.int j t',.int k t,.none]}}) (Keeps.push _ _) rfl rfl rfl).push (seqObj "list" ((vs.drop (min j.toNat vs.length)).take (min k.toNat vs.length-min j.toNat vs.length)).toArray 0) rfl
 have hsz:(s₃.heap.push {cls:=.type "slice", data:=.fields #[.int j t',.int k t,.none]}).objs.size=s₃.heap.objs.size+1:=Heap.size_push _ _
 dsimp only at st₄
 rw [hsz] at st₄
 have hl:=g2.1
 refine ⟨_,_,X₃,(u₁.trans (u₂.trans u₃)).trans (Sto.put_le _ _ _),.lst' (Sto.put_self _ _ _) ⟨by simp [hl],fun i v V a b=>?_⟩,st₄,q⟩
 rw [←hl] at b
 rw [List.getElem?_take,List.getElem?_drop] at a b
 split at a
 ·rename_i hi;rw [if_pos hi] at b;exact (g2.2 _ v V a b).mono (Sto.put_le _ _ _)
 ·cases a
end
structure Off (c:Cx) (B:Bg) (S:Sto) (X:AX) (a:Addr):Prop where
 g:c.g.get? a=none
 base:∀ o,¬B.base a o
 sto:∀ o,¬S a o
 adr:a∉AX.adr X.σ
 own:a∉c.own
def Raises (c:Cx) (body:List Stmt) (X:AX):Prop:=∀ B S s (Q:Flow→Shared→Prop) (E:Value→Shared→Prop),c.Ok→St c B S X s →
 (∀ h' e S' s₂,S.Le S'→St c B S' X s₂→Heap.MadeExc s₂.heap h' e "AssertionError" []→E (.ref e) {s₂ with heap:=h'})→wpAny (model c.P c.w) c.A (execs body c.env) Q E s
theorem Raises.next {c:Cx} {X:AX} {st:Stmt} {rest:List Stmt} (h:WS c st (fun F Y=>F=.next∧Y=X) X) (k:Raises c rest X):Raises c (st::rest) X:=by
 intro B S s Q E ok st' f
 refine wpAny_execs_cons (wpAny_mono (h B S s ok st') (fun fl s₁ hp=>?_) fun e s' z=>(ok.noE e s' z).elim)
 obtain ⟨S₁,F,Y,le,rf,st₁,rfl,rfl⟩:=hp
 cases rf
 exact k B S₁ s₁ Q E ok st₁ fun h' e S' s₂ le'=>f h' e S' s₂ (le.trans le')
section
variable {c:Cx} {X:AX}
end
section
variable {c:Cx} {X:AX} {Q:AV→AX→Prop}
end
section
variable {prog:Program} {w:World} {A:Around} {E:Value→Shared→Prop} {s:Shared}
end
section
variable {c:Cx} {X:AX} {Q:AV→AX→Prop}
end
section
variable {c:Cx} {X:AX} {Q:AV→AX→Prop}
theorem filt_gen {elt t:Expr} {g:Comprehension} {D:Addr} {xs:List AV} {f:AV→Option AV} {σ:List (Addr×MO)} {m₂:List (Str×AV)} {U:AX→Prop} (hz:xs.length≤1000000) (hifs:g.ifs=[t])
  (item:∀ (i:Nat) x,xs[i]?=some x→WA c g.target x (fun Y'=>WB c t (fun b Y=>b=(f x).isSome ∧
   if b=true then WE c elt (fun V Z=>f x=some V∧Z.σ=(D,.lst ((xs.take i).filterMap f))::σ∧∀ p∈m₂,Z.m.lookup p.1=some p.2) Y
   else Y.σ=(D,.lst ((xs.take i).filterMap f))::σ∧∀ p∈m₂,Y.m.lookup p.1=some p.2) Y') ⟨(D,.lst ((xs.take i).filterMap f))::σ,m₂⟩) (hq:U ⟨(D,.lst (xs.filterMap f))::σ,m₂⟩) :
  WGen c g (WTurn c D elt []) xs id U ⟨(D,.lst [])::σ,m₂⟩:=by
 refine ⟨fun i Y=>Y=⟨(D,.lst ((xs.take i).filterMap f))::σ,m₂⟩,⟨_,Conv.rfl,rfl⟩,fun i x Y hx hY=>?_,fun Y hY=>by subst hY;rw [List.take_length];exact hq⟩
 subst hY
 have hle:((xs.take i).filterMap f).length≤1000000:=Nat.le_trans (List.length_filterMap_le _ _) (Nat.le_trans (List.length_take_le' i xs) hz)
 have hnext:(xs.take (i+1)).filterMap f=(xs.take i).filterMap f++(f x).toList:=by
  rw [List.take_add_one,hx,List.filterMap_append]
  show _++List.filterMap f [x]=_
  rw [List.filterMap_cons]
  cases f x<;>rfl
 refine (item i x hx).imp' fun Y' hT=>?_
 rw [hifs]
 refine If_cons (hT.imp fun b Y hz₉=>?_)
 obtain ⟨hb,hz₉⟩:=hz₉
 cases b with
 | true =>
  rw [if_pos rfl] at hz₉ ⊢
  refine If_nil ?_
  rw [if_pos rfl]
  refine hz₉.imp fun V Z hz₈=>?_
  obtain ⟨hV,hσ,hl⟩:=hz₈
  rw [hV] at hnext
  exact ⟨(xs.take i).filterMap f,(D,.lst ((xs.take i).filterMap f++[V]))::σ,by rw [hσ];exact .head,hle,⟨(D,.lst ((xs.take (i+1)).filterMap f))::σ,m₂⟩,gen_weak (by rw [hnext];rfl) hl,rfl⟩
 | false =>
  rw [if_neg (by decide)] at hz₉ ⊢
  rw [if_neg (by decide)]
  rw [Option.isSome_eq_false_iff.mp hb.symm |> Option.isNone_iff_eq_none.mp] at hnext
  exact ⟨⟨(D,.lst ((xs.take (i+1)).filterMap f))::σ,m₂⟩,gen_weak (by rw [hz₉.1,hnext];simp) hz₉.2,rfl⟩
theorem E_filtC {elt t:Expr} {g:Comprehension} {scope:Scope} {pos:Pos} {xs:List AV} {X₁:AX} (f:AV→Option AV) (m₂:List (Str×AV))
  (hiter:WE c g.iter (fun V X₂=>WI c g.target V (fun xs' bk X₃=>xs'=xs∧bk=id∧X₃=X₁) X₂) X) (hz:xs.length≤1000000)
  (hm:∀ p∈m₂,X₁.m.lookup p.1=some p.2∧Capt c scope p.1∧∀ n,(cellsFrom n scope.names []).lookup p.1=none) (hifs:g.ifs=[t])
  (item:∀ C D (i:Nat) x,(c.blockC scope C).Ok→xs[i]?=some x→WA (c.blockC scope C) g.target x (fun Y'=>WB (c.blockC scope C) t (fun b Y=>b=(f x).isSome ∧
   if b=true then WE (c.blockC scope C) elt (fun V Z=>f x=some V∧Z.σ=(D,.lst ((xs.take i).filterMap f))::X₁.σ∧∀ p∈m₂,Z.m.lookup p.1=some p.2) Y
   else Y.σ=(D,.lst ((xs.take i).filterMap f))::X₁.σ∧∀ p∈m₂,Y.m.lookup p.1=some p.2) Y') ⟨(D,.lst ((xs.take i).filterMap f))::X₁.σ,m₂⟩)
  (hq:Q (.lst (xs.filterMap f)) X₁)
  (hfree:∀ p∈scope.names,p.2=.free→(c.env.cells.lookup p.1).isSome=true) (hkind:scope.kind=.function) (hnames:∀ x∈scope.names,x.2=.local→scope.names.lookup x.1=some .local)
  (ha:g.is_async=0) (hf:∀ x,foldedSetIterable g.iter c.env x=pure x) :
  WE c (.ListComp elt [g] scope pos) Q X :=
 WE.conv (E_compMc m₂ (hiter.imp fun V X₂ h=>WI.fix h ⟨fun p hp=>⟨(hm p hp).1,(hm p hp).2.1⟩,fun C D okC=>filt_gen hz hifs (fun i x=>item C D i x okC) ⟨_,_,ConvV.freeze (m':=X₁.m) .head rfl .here (fun x V e=>⟨V,e,.same V⟩),hq⟩⟩) (fun p hp=>(hm p hp).2.2) hfree hkind hnames (fun q hq=>by rw [List.mem_singleton.mp hq];exact ha) (fun q hq=>by rw [List.mem_singleton.mp hq];exact hf) (fun _ q hq=>nomatch hq))
theorem E_filt {elt t:Expr} {g:Comprehension} {scope:Scope} {pos:Pos} {xs:List AV} {X₁:AX} (f:AV→Option AV) (m₂:List (Str×AV))
  (hiter:WE c g.iter (fun V X₂=>WI c g.target V (fun xs' bk X₃=>xs'=xs∧bk=id∧X₃=X₁) X₂) X) (hz:xs.length≤1000000)
  (hm:∀ p∈m₂,X₁.m.lookup p.1=some p.2∧Capt c scope p.1) (hifs:g.ifs=[t])
  (item:∀ C D (i:Nat) x,(c.block scope C).Ok→xs[i]?=some x→WA (c.block scope C) g.target x (fun Y'=>WB (c.block scope C) t (fun b Y=>b=(f x).isSome ∧
   if b=true then WE (c.block scope C) elt (fun V Z=>f x=some V∧Z.σ=(D,.lst ((xs.take i).filterMap f))::X₁.σ∧∀ p∈m₂,Z.m.lookup p.1=some p.2) Y
   else Y.σ=(D,.lst ((xs.take i).filterMap f))::X₁.σ∧∀ p∈m₂,Y.m.lookup p.1=some p.2) Y') ⟨(D,.lst ((xs.take i).filterMap f))::X₁.σ,m₂⟩)
  (hq:Q (.lst (xs.filterMap f)) X₁)
  (hfree:∀ p∈scope.names,p.2=.free→(c.env.cells.lookup p.1).isSome=true) (hcell:∀ p∈scope.names,p.2≠.cell) (hkind:scope.kind=.function) (hnames:∀ x∈scope.names,x.2=.local→scope.names.lookup x.1=some .local)
  (ha:g.is_async=0) (hf:∀ x,foldedSetIterable g.iter c.env x=pure x) :
  WE c (.ListComp elt [g] scope pos) Q X :=
 E_filtC f m₂ hiter hz (fun p hp=>⟨(hm p hp).1,(hm p hp).2,fun _=>by rw [cellsFrom_none hcell];rfl⟩) hifs (by simp only [blockC_eq hcell];exact item) hq hfree hkind hnames ha hf
theorem Own.cellOf {c:Cx} {x:Str} {scope:Scope} {C:Addr} (h1:(c.blockC scope C).env.kindOf x=some .cell) (h4:((cellsFrom (C+1) scope.names []).lookup x).isSome=true):Own (c.blockC scope C) x:=by
 obtain ⟨k,hk⟩:=Option.isSome_iff_exists.mp h4
 refine .inr ⟨h1,k,?_,.tail _ (List.mem_map.mpr ⟨(x,k),mem_of_lookup hk,rfl⟩)⟩
 show (cellsFrom (C+1) scope.names (clOf c.env.cells scope.names [])).lookup x=some k
 rw [cellsFrom_app,List.lookup_append,hk]
 rfl
theorem ints_are {S:Sto}:∀ {vs:List Value} {ns:List Int},Reps S vs (ns.map .int)→IntsAre vs ns
 | [],[],_=>.nil
 | v::r,[],h=>by have:=h.1;simp at this
 | [],n::r,h=>by have:=h.1;simp at this
 | v::r,n::t,h=>by
  obtain ⟨h1,h2⟩:=Reps.uncons h
  obtain ⟨tk,rfl⟩:=h1.int_inv
  exact .cons n tk (ints_are h2)
theorem O_inInts {k:Int} {ns:List Int} (h:Q (.bool (decide (k∈ns))) X):W2 c Rep (.int k) (.ints ns) (compareOp .In) Q X:=by
 intro B S s v u ok r₁ r₂ st
 obtain ⟨t,rfl⟩:=r₁.int_inv
 obtain ⟨a,vs,n,rfl,h1,h2⟩:=r₂.lst_inv
 have e:ns.any (·==k)=decide (k∈ns):=by
  rw [Bool.eq_iff_iff,List.any_eq_true,decide_eq_true_eq]
  constructor
  ·rintro ⟨x,hx,q⟩;rw [beq_iff_eq] at q;exact q▸hx
  ·exact fun hk=>⟨k,hk,by simp⟩
 refine in_list_ints ⟨_,st.sto _ _ h1,rfl,n,rfl⟩ (ints_are h2) ⟨S,.bool _,X,.rfl,?_,st,h⟩
 rw [e];exact .bool _
theorem O_addLM {xs ys:List AV} {a:Addr} (hm:(a,MO.lst xs)∈X.σ) (hz:xs.length+ys.length≤1000000) (h:∀ b,Q (.raw (.ref b)) ⟨(b,.lst (xs++ys))::X.σ,X.m⟩):W2 c Rep (.raw (.ref a)) (.lst ys) (binaryOp .Add) Q X:=by
 intro B S s v u ok r₁ r₂ st
 cases r₁.raw_inv
 obtain ⟨b,us,k,rfl,g1,g2⟩:=r₂.lst_inv
 obtain ⟨vs,n,h1,h2⟩:=st.get hm
 have hb:=st.sto _ _ g1
 have e:vs.toArray++us.toArray=(vs++us).toArray:=by simp
 refine concat_meets ⟨_,h1,rfl⟩ ⟨_,hb,rfl⟩ noFill_list_add seq_list_add PySem.F.slot_list_add PySem.F.entry_list_add (PySem.F.args_list_add_2 _ _) (list_addW a b vs.toArray us.toArray n k none none #[] #[] (by rw [sizeLine_eq,List.size_toArray,List.size_toArray,h2.1,g2.1];exact (lin2 (.le (.a .v0 .v1) (.n (2^24))) [.le (.a .v0 .v1) (.n 1000000)]) hz)) ⟨h1,hb,?_⟩
 rw [e]
 exact ⟨S,_,_,.rfl,.raw _,st.newM (mo:=.lst (xs++ys)) rfl (fun h e=>⟨vs++us,0,e,h2.append g2⟩) rfl,h _⟩
theorem E_sliceNeg {value low:Expr} {p pos:Pos} (h:WE c value (fun V X₁=>WE c low (fun U X₂=>∃ xs,∃ k:Nat,V=.lst xs∧U=.int (-(k:Int))∧1≤k∧xs.length≤1000000∧Q (.lst (xs.drop (xs.length-k))) X₂) X₁) X) (ht:∀ o r,letTemporaryGo value o r=pure ():=by intro _ _;rfl):WE c (.Subscript value (.Slice (some low) none none p) pos) Q X:=by
 intro B S s ok st
 refine wpAny_Subscript_list_slice (wpAny_mono (h B S s ok st) (fun v s₁ hz₉=>?_) fun _ _ e=>e) ht
 obtain ⟨S₁,V,X₁,u₁,rv,st₁,h₁⟩:=hz₉
 rw [evalPart_some,evalPart_none]
 refine wpAny_mono (h₁ B S₁ s₁ ok st₁) (fun u s₂ hz₉=>wpAny_pure ?_) fun _ _ e=>e
 obtain ⟨S₂,U,X₂,u₂,ru,st₂,xs,k,eV,eU,h0,hz,q⟩:=hz₉
 subst eV eU
 obtain ⟨l,vs,n,rfl,g1,g2⟩:=(rv.mono u₂).lst_inv
 obtain ⟨t,rfl⟩:=ru.int_inv
 have e:slicePick vs.toArray (some (-(k:Int))) none none=(vs.drop (xs.length-k)).toArray:=by
  rw [slicePick_last _ _ h0,List.size_toArray,g2.1]
 refine ⟨l,vs.toArray,some (-(k:Int)),none,rfl,⟨_,st₂.sto _ _ g1,rfl,n,rfl⟩,by rw [sizeLine_eq,List.size_toArray,g2.1];exact (lin1 (.le .v0 (.n (2^24))) [.le .v0 (.n 1000000)]) hz,.int _ t,.none,?_⟩
 rw [e]
 have st₃:=(st₂.grow (s':={s₂ with heap:=s₂.heap.push {cls:=.type "slice", data:=.fields #[.int (-(k:Int)) t,.none,.none]}}) (Keeps.push _ _) rfl rfl rfl).push (seqObj "list" (vs.drop (xs.length-k)).toArray 0) rfl
 have hsz:(s₂.heap.push {cls:=.type "slice", data:=.fields #[.int (-(k:Int)) t,.none,.none]}).objs.size=s₂.heap.objs.size+1:=Heap.size_push _ _
 dsimp only at st₃
 rw [hsz] at st₃
 refine ⟨_,.lst (xs.drop (xs.length-k)),X₂,(u₁.trans u₂).trans (Sto.put_le _ _ _),.lst' (Sto.put_self _ _ _) ⟨by simp [g2.1],fun i v V a b=>?_⟩,st₃,q⟩
 rw [List.getElem?_drop] at a b
 exact (g2.2 _ v V a b).mono (Sto.put_le _ _ _)
end
section
variable {c:Cx} {X:AX} {Q:AV→AX→Prop}
theorem B_listRng {n:Int} (hn:0≤n) (hz:n≤1000000) (h:Q (.ints ((List.range n.toNat).map Int.ofNat)) X):WC c (.type "list") [.rng n] [] Q X:=by
 intro B S s vs kw ok r rk st
 obtain ⟨v,rfl,r1⟩:=one_arg r
 cases no_kw rk
 cases r1 with
 | rng hr =>
  rename_i a t u w
  have hsz:Builtin.Range.rangeSize 0 n 1=(n.toNat:Int):=rangeSize_to
  refine call_list_range (n:=n.toNat) ok.G.hd (st.sto _ _ hr) ?_ hsz (by exact (lin [_] [_] (.le .v0 (.n (2^24))) [.zl .v0 (.n 1000000),.or (.an (.zl .n0 .v0) (.ze (.c .v0) .v0)) (.an (.zt .v0 .n0) (.eq .v0 .n0))]) hz (tnc _)) fun h' tk acc' c' hk hS hacc=>?_
  ·unfold Builtin.Range.small
   rw [rangeSize_to]
   simp only [Builtin.Range.rangeFitsLong,Bool.and_eq_true,decide_eq_true_eq,Bool.or_eq_true,beq_iff_eq,show (1:Int) > 0 by decide,if_true]
   exact (lin [_] [_] (.an (.an (.an (.an (.an (.zl (.g (.n (2^63))) .n0) (.zt .n0 (.n (2^63)))) (.an (.zl (.g (.n (2^63))) .v0) (.zt .v0 (.n (2^63))))) (.an (.zl (.g (.n (2^63))) .n1) (.zt .n1 (.n (2^63))))) (.an (.zl (.g (.n (2^63))) (.c .v0)) (.zt (.c .v0) (.n (2^63))))) (.or (.ze (.c .v0) .n0) (.an (.zl (.g (.n (2^63))) (.a .v0 (.s .n1 .n1))) (.zt (.a .v0 (.s .n1 .n1)) (.n (2^63)))))) [.zl .n0 .v0,.zl .v0 (.n 1000000),.or (.an (.zl .n0 .v0) (.ze (.c .v0) .v0)) (.an (.zt .v0 .n0) (.eq .v0 .n0))]) hn hz (tnc _)
  have b:=st.bare (get?_lt_none (Nat.le_refl s.heap.objs.size))
  have st':=st.grow (s':={s with heap:=h',toks:=tk}) hk rfl rfl rfl
  refine ⟨S.put s.heap.objs.size (seqObj "list" acc'.toList.toArray c'),_,X,Sto.put_le _ _ _,.lst' (Sto.put_self _ _ _) ⟨?_,fun i v V hv hV=>?_⟩,st'.addS (Sto.put_le _ _ _) fun a o e=>e.imp id fun q=>?_,h⟩
  ·simp [hacc.1]
  ·rw [Array.getElem?_toList] at hv
   obtain ⟨tk',rfl⟩:=hacc.2 i v hv
   rw [List.getElem?_map,List.getElem?_map] at hV
   have hi:i<n.toNat:=by
    have:=(Array.getElem?_eq_some_iff.mp hv).1
    rw [hacc.1] at this;exact this
   rw [List.getElem?_range hi] at hV
   cases hV
   rw [show (0:Int)+(i:Int)*1=Int.ofNat i by show _=(i:Int);exact lin1 (.ze (.a .n0 (.r (.c .v0) 1)) (.c .v0)) []]
   exact .int _ _
  ·rw [q.1,q.2];exact ⟨hS,b.own,b.adr,b.prot⟩
end
section
variable {c:Cx} {X:AX}
theorem WS.conv {st:Stmt} {Q:AF→AX→Prop} (h:WS c st (fun F Y=>F=.next∧∃ Z,Conv c Y Z∧Q .next Z) X):WS c st Q X:=by
 intro B S s ok st'
 refine wpAny_mono (h B S s ok st') (fun f s' hz=>?_) fun _ _ e=>e
 obtain ⟨S',F,Y,le,rf,st2,rfl,Z,cv,q⟩:=hz
 obtain ⟨S'',le2,_,st3⟩:=cv B S' s' st2
 cases rf
 exact ⟨S'',.next,Z,le.trans le2,.next,st3,q⟩
theorem frz_name {y:Str} {D:Addr} {xs:List AV} {σ:List (Addr×MO)} {m:List (Str×AV)}:Conv c ⟨(D,.lst xs)::σ,(y,.raw (.ref D))::m⟩ ⟨σ,(y,.lst xs)::m⟩ :=
 Conv.freeze .head rfl fun x V e=>by
  rw [List.lookup_cons] at e ⊢
  split at e
  ·cases e;exact ⟨_,rfl,.here⟩
  ·exact ⟨V,e,.same V⟩
theorem S_filtA {y:Str} {py spos:Pos} {Q:AF→AX→Prop} {elt t:Expr} {g:Comprehension} {scope:Scope} {pos:Pos} {xs:List AV} {X₁:AX} (f:AV→Option AV) (m₂:List (Str×AV)) (hl:c.env.kindOf y=some .local) (hw:c.env.locals∈c.own)
  (hsw:swapsWith (.ListComp elt [g] scope pos) (some (.Name y py)) spos.line c.env=pure true)
  (hiter:WE c g.iter (fun V X₂=>WI c g.target V (fun xs' bk X₃=>xs'=xs∧bk=id∧X₃=X₁) X₂) X) (hz:xs.length≤1000000)
  (hm:∀ p∈m₂,X₁.m.lookup p.1=some p.2∧Capt c scope p.1) (hifs:g.ifs=[t])
  (item:∀ C D (i:Nat) x,(c.block scope C).Ok→xs[i]?=some x→WA (c.block scope C) g.target x (fun Y'=>WB (c.block scope C) t (fun b Y=>b=(f x).isSome ∧
   if b=true then WE (c.block scope C) elt (fun V Z=>f x=some V∧Z.σ=(D,.lst ((xs.take i).filterMap f))::X₁.σ∧∀ p∈m₂,Z.m.lookup p.1=some p.2) Y
   else Y.σ=(D,.lst ((xs.take i).filterMap f))::X₁.σ∧∀ p∈m₂,Y.m.lookup p.1=some p.2) Y') ⟨(D,.lst ((xs.take i).filterMap f))::X₁.σ,m₂⟩)
  (hq:Q .next ⟨X₁.σ,(y,.lst (xs.filterMap f))::X₁.m⟩)
  (hfree:∀ p∈scope.names,p.2=.free→(c.env.cells.lookup p.1).isSome=true) (hcell:∀ p∈scope.names,p.2≠.cell) (hkind:scope.kind=.function) (hnames:∀ x∈scope.names,x.2=.local→scope.names.lookup x.1=some .local)
  (ha:g.is_async=0) (hf:∀ x,foldedSetIterable g.iter c.env x=pure x) :
  WS c (.Assign [.Name y py] (.ListComp elt [g] scope pos) spos) Q X :=
 WS.conv (S_compM m₂ hl hw hsw (hiter.imp fun V X₂ h=>WI.fix h ⟨hm,fun C D okC=>filt_gen hz hifs (fun i x=>item C D i x okC) ⟨rfl,_,frz_name,hq⟩⟩) hfree hcell hkind hnames (fun q hq=>by rw [List.mem_singleton.mp hq];exact ha) (fun q hq=>by rw [List.mem_singleton.mp hq];exact hf) (fun _ q hq=>nomatch hq))
theorem S_mapA {y:Str} {py spos:Pos} {Q:AF→AX→Prop} {elt:Expr} {g:Comprehension} {scope:Scope} {pos:Pos} {xs ys:List AV} {X₁:AX} (m₂:List (Str×AV)) (hl:c.env.kindOf y=some .local) (hw:c.env.locals∈c.own)
  (hsw:swapsWith (.ListComp elt [g] scope pos) (some (.Name y py)) spos.line c.env=pure true)
  (hiter:WE c g.iter (fun V X₂=>WI c g.target V (fun xs' bk X₃=>xs'=xs∧bk=id∧X₃=X₁) X₂) X) (hlen:ys.length=xs.length) (hz:xs.length≤1000000)
  (hm:∀ p∈m₂,X₁.m.lookup p.1=some p.2∧Capt c scope p.1) (hifs:g.ifs=[])
  (item:∀ C D (i:Nat) x y,(c.block scope C).Ok→xs[i]?=some x→ys[i]?=some y→WA (c.block scope C) g.target x (fun Y'=>WE (c.block scope C) elt (fun V Y=>V=y∧Y.σ=(D,.lst (ys.take i))::X₁.σ∧∀ p∈m₂,Y.m.lookup p.1=some p.2) Y') ⟨(D,.lst (ys.take i))::X₁.σ,m₂⟩)
  (hq:Q .next ⟨X₁.σ,(y,.lst ys)::X₁.m⟩)
  (hfree:∀ p∈scope.names,p.2=.free→(c.env.cells.lookup p.1).isSome=true) (hcell:∀ p∈scope.names,p.2≠.cell) (hkind:scope.kind=.function) (hnames:∀ x∈scope.names,x.2=.local→scope.names.lookup x.1=some .local)
  (ha:g.is_async=0) (hf:∀ x,foldedSetIterable g.iter c.env x=pure x) :
  WS c (.Assign [.Name y py] (.ListComp elt [g] scope pos) spos) Q X :=
 WS.conv (S_compM m₂ hl hw hsw (hiter.imp fun V X₂ h=>WI.fix h ⟨hm,fun C D okC=>map_gen hlen hz hifs (fun i x y=>item C D i x y okC) ⟨rfl,_,frz_name,hq⟩⟩) hfree hcell hkind hnames (fun q hq=>by rw [List.mem_singleton.mp hq];exact ha) (fun q hq=>by rw [List.mem_singleton.mp hq];exact hf) (fun _ q hq=>nomatch hq))
end
abbrev prog:Program:=PySem.Challenge.rw_lp0003_07.row.prog
structure Lw (c:Cx):Prop where
 P:c.P=prog
 K:c.K=hd7.heap_1 c.w.params
 C:CodeHd c.g 565 561
 N:c.g.get? 561=none
theorem Lw.kin {c c':Cx} (L:Lw c) (k:Kin c c'):Lw c':=⟨k.P.trans L.P,by rw [k.K,k.w];exact L.K,by rw [k.g];exact L.C,by rw [k.g];exact L.N⟩
abbrev AV.cell (n:Int):AV:=.inst 453 [Str.ofString "_CellId__id"] [.int n]
theorem id_c {c:Cx} {Q:AV→AX→Prop} {X:AX} {n:Int} (L:Lw c) (G:Gd c.A 1)  (h:Q (.int n) X):WF c (.ref 222) [.cell n] [] Q X:=by
 (have _:PySem.Challenge.rw_lp0003_07=PySem.Challenge.rw_lp0003_07→∀ w:World,(hd7.heap_1 w.params).In default→True:=by (k_fill;intros;trivial))
 have L₀:=L
 obtain ⟨P,w,K,g,A,env,own,E,fx⟩:=c
 obtain ⟨hP,hK,hC,hN⟩:=L
 dsimp only at hP hK hC hN G
 subst hP hK
 refine' WF.go (M:=[((Str.ofString "self"),.cell n)]) G ?k1 ?k2 ?k3 ?k4 ?k5 ?k6 ?k7 ?k8 ?_
 case k1=>(dsimp only;k_is)
 case k2=>(dsimp only;k_is)
 case k3=>exact bind1 fun s v X=>.of_eq rfl
 case k4=>rfl
 case k5=>decide
 case k6=>rfl
 case k7=>rfl
 case k8=>rfl
 intro F c' kn he ho ok G'
 have L':=L₀.kin kn
 obtain ⟨P',w',K',g',A',env',own',E',fx'⟩:=c'
 obtain ⟨f1,f2,f3,f4,f5⟩:=kn
 dsimp only at f1 f2 f3 f4 f5 he ho G'
 subst f1 f2 f3 f4 f5 he ho
 clear L₀
 simp only [List.reverse_cons,List.reverse_nil,List.nil_append,List.cons_append]
 (refine S_last ?_;refine S_return ?_;refine E_attr ?_;(refine E_name (by exact rfl) ?_);refine' G_own (ca:=none) ?hi2 ?a2 ?b2 ?c2 ?d2 ?e2 ?f2 ?_;(case hi2=>exact .inl rfl);(case a2=>dsimp only;k_is);(case b2=>dsimp only;k_is);(case c2=>dsimp only;k_is);(case d2=>dsimp only;k_is);(case e2=>exact rfl);(case f2=>exact rfl);dsimp only)
 exact h
theorem lsb_c {c:Cx} {Q:AV→AX→Prop} {X:AX} {c₀:Cel} (L:Lw c) (G:Gd c.A 2)  (h:Q (.int ((4^c₀.u:Nat):Int)) X):WF c (.ref 236) [.cell c₀.id] [] Q X:=by
 (have _:PySem.Challenge.rw_lp0003_07=PySem.Challenge.rw_lp0003_07→∀ w:World,(hd7.heap_1 w.params).In default→True:=by (k_fill;intros;trivial))
 have L₀:=L
 obtain ⟨P,w,K,g,A,env,own,E,fx⟩:=c
 obtain ⟨hP,hK,hC,hN⟩:=L
 dsimp only at hP hK hC hN G
 subst hP hK
 refine' WF.go (M:=[((Str.ofString "self"),.cell c₀.id)]) G ?k1 ?k2 ?k3 ?k4 ?k5 ?k6 ?k7 ?k8 ?_
 case k1=>(dsimp only;k_is)
 case k2=>(dsimp only;k_is)
 case k3=>exact bind1 fun s v X=>.of_eq rfl
 case k4=>rfl
 case k5=>decide
 case k6=>rfl
 case k7=>rfl
 case k8=>rfl
 intro F c' kn he ho ok G'
 have L':=L₀.kin kn
 obtain ⟨P',w',K',g',A',env',own',E',fx'⟩:=c'
 obtain ⟨f1,f2,f3,f4,f5⟩:=kn
 dsimp only at f1 f2 f3 f4 f5 he ho G'
 subst f1 f2 f3 f4 f5 he ho
 clear L₀
 simp only [List.reverse_cons,List.reverse_nil,List.nil_append,List.cons_append]
 (refine S_last ?_;refine S_return ?_;refine E_bin ?_;refine E_meth ?_;dsimp only;(refine E_name (by exact rfl) ?_);refine' M_fn ?hi4 ?a4 ?b4 ?c4 ?d4 ?e4 ?_;(case hi4=>exact .inl rfl);(case a4=>dsimp only;k_is);(case b4=>dsimp only;k_is);(case c4=>dsimp only;k_is);(case d4=>dsimp only;k_is);(case e4=>decide);refine Args_plain ?_;refine A_nil ?_;refine WC.of (id_c (by with_reducible assumption) (by exact Gd.le (by with_reducible assumption) rfl)  ?_);refine E_un ?_;refine E_meth ?_;dsimp only;(refine E_name (by exact rfl) ?_);refine' M_fn ?hi6 ?a6 ?b6 ?c6 ?d6 ?e6 ?_;(case hi6=>exact .inl rfl);(case a6=>dsimp only;k_is);(case b6=>dsimp only;k_is);(case c6=>dsimp only;k_is);(case d6=>dsimp only;k_is);(case e6=>decide);refine Args_plain ?_;refine A_nil ?_;refine WC.of (id_c (by with_reducible assumption) (by exact Gd.le (by with_reducible assumption) rfl)  ?_);refine O_neg ?_;refine O_band ?_;dsimp only)
 rw [c₀.lsb];exact h
theorem retB {Q:AV→AX→Prop} {X:AX} {b b':Bool} (h:Q (.bool b) X) (e:b'=b):Q (.bool b') X:=e▸h
theorem retI {Q:AV→AX→Prop} {X:AX} {b b':Int} (h:Q (.int b) X) (e:b'=b):Q (.int b') X:=e▸h
theorem face_c {c:Cx} {Q:AV→AX→Prop} {X:AX} {c₀:Cel} (L:Lw c) (G:Gd c.A 2)  (h:Q (.int (c₀.id.fdiv (2^61))) X):WF c (.ref 243) [.cell c₀.id] [] Q X:=by
 (have _:PySem.Challenge.rw_lp0003_07=PySem.Challenge.rw_lp0003_07→∀ w:World,(hd7.heap_1 w.params).In default→True:=by (k_fill;intros;trivial))
 have L₀:=L
 obtain ⟨P,w,K,g,A,env,own,E,fx⟩:=c
 obtain ⟨hP,hK,hC,hN⟩:=L
 dsimp only at hP hK hC hN G
 subst hP hK
 refine' WF.go (M:=[((Str.ofString "self"),.cell c₀.id)]) G ?k1 ?k2 ?k3 ?k4 ?k5 ?k6 ?k7 ?k8 ?_
 case k1=>(dsimp only;k_is)
 case k2=>(dsimp only;k_is)
 case k3=>exact bind1 fun s v X=>.of_eq rfl
 case k4=>rfl
 case k5=>decide
 case k6=>rfl
 case k7=>rfl
 case k8=>rfl
 intro F c' kn he ho ok G'
 have L':=L₀.kin kn
 obtain ⟨P',w',K',g',A',env',own',E',fx'⟩:=c'
 obtain ⟨f1,f2,f3,f4,f5⟩:=kn
 dsimp only at f1 f2 f3 f4 f5 he ho G'
 subst f1 f2 f3 f4 f5 he ho
 clear L₀
 simp only [List.reverse_cons,List.reverse_nil,List.nil_append,List.cons_append]
 (refine S_last ?_;refine S_return ?_;refine E_bin ?_;refine E_meth ?_;dsimp only;(refine E_name (by exact rfl) ?_);refine' M_fn ?hi8 ?a8 ?b8 ?c8 ?d8 ?e8 ?_;(case hi8=>exact .inl rfl);(case a8=>dsimp only;k_is);(case b8=>dsimp only;k_is);(case c8=>dsimp only;k_is);(case d8=>dsimp only;k_is);(case e8=>decide);refine Args_plain ?_;refine A_nil ?_;refine WC.of (id_c (by with_reducible assumption) (by exact Gd.le (by with_reducible assumption) rfl)  ?_);refine E_attr ?_;refine E_attr ?_;(refine E_name (by exact rfl) ?_);refine' G_class ?hi10 ?a10 ?b10 ?c10 ?d10 ?e10 ?f10 ?_;(case hi10=>exact .inl rfl);(case a10=>dsimp only;k_is);(case b10=>dsimp only;k_is);(case c10=>dsimp only;k_is);(case d10=>dsimp only;k_is);(case e10=>dsimp only;k_is);(case f10=>dsimp only;k_is);skip;refine' G_cv ?hm11 ?a11 ?b11 ?c11 ?d11 ?_;(case hm11=>dsimp only;k_is);(case a11=>dsimp only;k_is);(case b11=>dsimp only;k_is);(case c11=>rfl);(case d11=>intro _;exact .int _ _);refine O_shr (by decide) ?_;dsimp only)
 exact h
theorem is_leaf_c {c:Cx} {Q:AV→AX→Prop} {X:AX} {c₀:Cel} (L:Lw c) (G:Gd c.A 2)  (h:Q (.bool (decide (c₀.u=0))) X):WF c (.ref 257) [.cell c₀.id] [] Q X:=by
 (have _:PySem.Challenge.rw_lp0003_07=PySem.Challenge.rw_lp0003_07→∀ w:World,(hd7.heap_1 w.params).In default→True:=by (k_fill;intros;trivial))
 have L₀:=L
 obtain ⟨P,w,K,g,A,env,own,E,fx⟩:=c
 obtain ⟨hP,hK,hC,hN⟩:=L
 dsimp only at hP hK hC hN G
 subst hP hK
 refine' WF.go (M:=[((Str.ofString "self"),.cell c₀.id)]) G ?k1 ?k2 ?k3 ?k4 ?k5 ?k6 ?k7 ?k8 ?_
 case k1=>(dsimp only;k_is)
 case k2=>(dsimp only;k_is)
 case k3=>exact bind1 fun s v X=>.of_eq rfl
 case k4=>rfl
 case k5=>decide
 case k6=>rfl
 case k7=>rfl
 case k8=>rfl
 intro F c' kn he ho ok G'
 have L':=L₀.kin kn
 obtain ⟨P',w',K',g',A',env',own',E',fx'⟩:=c'
 obtain ⟨f1,f2,f3,f4,f5⟩:=kn
 dsimp only at f1 f2 f3 f4 f5 he ho G'
 subst f1 f2 f3 f4 f5 he ho
 clear L₀
 simp only [List.reverse_cons,List.reverse_nil,List.nil_append,List.cons_append]
 (refine S_last ?_;refine S_return ?_;refine E_cmp ?_;refine E_bin ?_;refine E_meth ?_;dsimp only;(refine E_name (by exact rfl) ?_);refine' M_fn ?hi13 ?a13 ?b13 ?c13 ?d13 ?e13 ?_;(case hi13=>exact .inl rfl);(case a13=>dsimp only;k_is);(case b13=>dsimp only;k_is);(case c13=>dsimp only;k_is);(case d13=>dsimp only;k_is);(case e13=>decide);refine Args_plain ?_;refine A_nil ?_;refine WC.of (id_c (by with_reducible assumption) (by exact Gd.le (by with_reducible assumption) rfl)  ?_);refine E_int ?_;refine O_band ?_;refine E_int ?_;refine O_ne ?_;dsimp only)
 exact retB h (by rw [←c₀.leaf_bit];rfl)
theorem is_valid_c {c:Cx} {Q:AV→AX→Prop} {X:AX} {c₀:Cel} (L:Lw c) (G:Gd c.A 3) (hv:c₀.ok) (h:Q (.bool true) X):WF c (.ref 229) [.cell c₀.id] [] Q X:=by
 (have _:PySem.Challenge.rw_lp0003_07=PySem.Challenge.rw_lp0003_07→∀ w:World,(hd7.heap_1 w.params).In default→True:=by (k_fill;intros;trivial))
 have L₀:=L
 obtain ⟨P,w,K,g,A,env,own,E,fx⟩:=c
 obtain ⟨hP,hK,hC,hN⟩:=L
 dsimp only at hP hK hC hN G
 subst hP hK
 refine' WF.go (M:=[((Str.ofString "self"),.cell c₀.id)]) G ?k1 ?k2 ?k3 ?k4 ?k5 ?k6 ?k7 ?k8 ?_
 case k1=>(dsimp only;k_is)
 case k2=>(dsimp only;k_is)
 case k3=>exact bind1 fun s v X=>.of_eq rfl
 case k4=>rfl
 case k5=>decide
 case k6=>rfl
 case k7=>rfl
 case k8=>rfl
 intro F c' kn he ho ok G'
 have L':=L₀.kin kn
 obtain ⟨P',w',K',g',A',env',own',E',fx'⟩:=c'
 obtain ⟨f1,f2,f3,f4,f5⟩:=kn
 dsimp only at f1 f2 f3 f4 f5 he ho G'
 subst f1 f2 f3 f4 f5 he ho
 clear L₀
 simp only [List.reverse_cons,List.reverse_nil,List.nil_append,List.cons_append]
 (refine S_last ?_;refine S_return ?_;refine E_and ?_;refine E_cmp ?_;refine E_meth ?_;dsimp only;(refine E_name (by exact rfl) ?_);refine' M_fn ?hi15 ?a15 ?b15 ?c15 ?d15 ?e15 ?_;(case hi15=>exact .inl rfl);(case a15=>dsimp only;k_is);(case b15=>dsimp only;k_is);(case c15=>dsimp only;k_is);(case d15=>dsimp only;k_is);(case e15=>decide);refine Args_plain ?_;refine A_nil ?_;refine WC.of (face_c (by with_reducible assumption) (by exact Gd.le (by with_reducible assumption) rfl)  ?_);refine E_attr ?_;refine E_attr ?_;(refine E_name (by exact rfl) ?_);refine' G_class ?hi17 ?a17 ?b17 ?c17 ?d17 ?e17 ?f17 ?_;(case hi17=>exact .inl rfl);(case a17=>dsimp only;k_is);(case b17=>dsimp only;k_is);(case c17=>dsimp only;k_is);(case d17=>dsimp only;k_is);(case e17=>dsimp only;k_is);(case f17=>dsimp only;k_is);skip;refine' G_cv ?hm18 ?a18 ?b18 ?c18 ?d18 ?_;(case hm18=>dsimp only;k_is);(case a18=>dsimp only;k_is);(case b18=>dsimp only;k_is);(case c18=>rfl);(case d18=>intro _;exact .int _ _);refine O_lt ?_;refine Tr_bool ?_;dsimp only)
 rw [if_pos (decide_eq_true (Cel.face_lt hv))]
 (refine E_cmp ?_;refine E_bin ?_;refine E_meth ?_;dsimp only;(refine E_name (by exact rfl) ?_);refine' M_fn ?hi20 ?a20 ?b20 ?c20 ?d20 ?e20 ?_;(case hi20=>exact .inl rfl);(case a20=>dsimp only;k_is);(case b20=>dsimp only;k_is);(case c20=>dsimp only;k_is);(case d20=>dsimp only;k_is);(case e20=>decide);refine Args_plain ?_;refine A_nil ?_;refine WC.of (lsb_c (by with_reducible assumption) (by exact Gd.le (by with_reducible assumption) rfl)  ?_);refine E_int ?_;refine O_band ?_;refine E_int ?_;refine O_ne ?_;dsimp only)
 exact retB h (by rw [decide_eq_false (valid_bits _ (Nat.lt_succ_of_le hv.1))];rfl)
theorem lsbfl_c {c:Cx} {Q:AV→AX→Prop} {X:AX} {lv:Int} (L:Lw c) (G:Gd c.A 1) (h0:0≤lv) (h1:lv≤30) (h:Q (.int ((4^(30-lv.toNat):Nat):Int)) X):WF c (.ref 177) [.raw (.ref 453),.int lv] [] Q X:=by
 (have _:PySem.Challenge.rw_lp0003_07=PySem.Challenge.rw_lp0003_07→∀ w:World,(hd7.heap_1 w.params).In default→True:=by (k_fill;intros;trivial))
 have L₀:=L
 obtain ⟨P,w,K,g,A,env,own,E,fx⟩:=c
 obtain ⟨hP,hK,hC,hN⟩:=L
 dsimp only at hP hK hC hN G
 subst hP hK
 refine' WF.go (M:=[((Str.ofString "cls"),.raw (.ref 453)),((Str.ofString "level"),.int lv)]) G ?k1 ?k2 ?k3 ?k4 ?k5 ?k6 ?k7 ?k8 ?_
 case k1=>(dsimp only;k_is)
 case k2=>(dsimp only;k_is)
 case k3=>exact bind2 fun s v u X=>.of_eq rfl
 case k4=>rfl
 case k5=>decide
 case k6=>rfl
 case k7=>rfl
 case k8=>rfl
 intro F c' kn he ho ok G'
 have L':=L₀.kin kn
 obtain ⟨P',w',K',g',A',env',own',E',fx'⟩:=c'
 obtain ⟨f1,f2,f3,f4,f5⟩:=kn
 dsimp only at f1 f2 f3 f4 f5 he ho G'
 subst f1 f2 f3 f4 f5 he ho
 clear L₀
 simp only [List.reverse_cons,List.reverse_nil,List.nil_append,List.cons_append]
 (refine S_last ?_;refine S_return ?_;refine E_bin ?_;refine E_int ?_;refine E_bin ?_;refine E_int ?_;refine E_bin ?_;refine E_attr ?_;(refine E_name (by exact rfl) ?_);refine' G_cv ?hm22 ?a22 ?b22 ?c22 ?d22 ?_;(case hm22=>dsimp only;k_is);(case a22=>dsimp only;k_is);(case b22=>dsimp only;k_is);(case c22=>rfl);(case d22=>intro _;exact .int _ _);(refine E_name (by exact rfl) ?_);refine O_sub ?_;refine O_mul (by exact lin [] [_] (.or (.an (.zt (.g (.n (2^64))) .n2) (.zt .n2 (.n (2^64)))) (.an (.zt (.g (.n (2^64))) (.s (.n 30) .v0)) (.zt (.s (.n 30) .v0) (.n (2^64))))) []) ?_;refine O_shl (by exact (lin [] [_] (.zl .n0 (.l 2 (.s (.n 30) .v0))) [.zl .v0 (.n 30)]) h1) (by exact (lin [] [_] (.zl (.l 2 (.s (.n 30) .v0)) (.n 1000000)) [.zl .n0 .v0]) h0) (by decide) ?_;dsimp only)
 exact retI h (by
  have e:(2*(30-lv)).toNat=2*(30-lv.toNat):=by exact (lin [_,_,_] [_] (.eq .v0 (.l 2 .v1)) [.zl .n0 .v0,.zl .v0 (.n 30),.or (.an (.zl .n0 (.l 2 (.s (.n 30) .v0))) (.ze (.c .v0) (.l 2 (.s (.n 30) .v0)))) (.an (.zt (.l 2 (.s (.n 30) .v0)) .n0) (.eq .v0 .n0)),.or (.an (.zl .n0 .v0) (.ze (.c .v2) .v0)) (.an (.zt .v0 .n0) (.eq .v2 .n0)),.sb .v1 (.n 30) .v2]) h0 h1 (tnc (2*(30-lv))) (tnc (lv)) (sbc (30) (lv.toNat))
  rw [e,Int.one_mul,four_pow];simp)
theorem is_face_c {c:Cx} {Q:AV→AX→Prop} {X:AX} {c₀:Cel} (L:Lw c) (G:Gd c.A 3) (hv:c₀.ok) (h:Q (.bool (decide (c₀.u=30))) X):WF c (.ref 215) [.cell c₀.id] [] Q X:=by
 (have _:PySem.Challenge.rw_lp0003_07=PySem.Challenge.rw_lp0003_07→∀ w:World,(hd7.heap_1 w.params).In default→True:=by (k_fill;intros;trivial))
 have L₀:=L
 obtain ⟨P,w,K,g,A,env,own,E,fx⟩:=c
 obtain ⟨hP,hK,hC,hN⟩:=L
 dsimp only at hP hK hC hN G
 subst hP hK
 refine' WF.go (M:=[((Str.ofString "self"),.cell c₀.id)]) G ?k1 ?k2 ?k3 ?k4 ?k5 ?k6 ?k7 ?k8 ?_
 case k1=>(dsimp only;k_is)
 case k2=>(dsimp only;k_is)
 case k3=>exact bind1 fun s v X=>.of_eq rfl
 case k4=>rfl
 case k5=>decide
 case k6=>rfl
 case k7=>rfl
 case k8=>rfl
 intro F c' kn he ho ok G'
 have L':=L₀.kin kn
 obtain ⟨P',w',K',g',A',env',own',E',fx'⟩:=c'
 obtain ⟨f1,f2,f3,f4,f5⟩:=kn
 dsimp only at f1 f2 f3 f4 f5 he ho G'
 subst f1 f2 f3 f4 f5 he ho
 clear L₀
 simp only [List.reverse_cons,List.reverse_nil,List.nil_append,List.cons_append]
 (refine S_last ?_;refine S_return ?_;refine E_cmp ?_;refine E_bin ?_;refine E_meth ?_;dsimp only;(refine E_name (by exact rfl) ?_);refine' M_fn ?hi25 ?a25 ?b25 ?c25 ?d25 ?e25 ?_;(case hi25=>exact .inl rfl);(case a25=>dsimp only;k_is);(case b25=>dsimp only;k_is);(case c25=>dsimp only;k_is);(case d25=>dsimp only;k_is);(case e25=>decide);refine Args_plain ?_;refine A_nil ?_;refine WC.of (id_c (by with_reducible assumption) (by exact Gd.le (by with_reducible assumption) rfl)  ?_);refine E_bin ?_;refine E_meth ?_;dsimp only;(refine E_name (by exact rfl) ?_);refine' M_cmi ?hi27 ?a27 ?b27 ?c27 ?d27 ?e27 ?f27 ?g27 ?i27 ?j27 ?k27 ?_;(case hi27=>exact .inl rfl);(case a27=>dsimp only;k_is);(case b27=>dsimp only;k_is);(case c27=>dsimp only;k_is);(case d27=>dsimp only;k_is);(case e27=>dsimp only;k_is);(case f27=>dsimp only;k_is);(case g27=>decide +kernel);(case i27=>decide);(case j27=>dsimp only;k_is);(case k27=>dsimp only;k_is);refine Args_plain ?_;refine A_cons ?_;refine E_int ?_;refine A_nil ?_;refine lsbfl_c (by with_reducible assumption) (by exact Gd.le (by with_reducible assumption) rfl) (by decide) (by decide) ?_;refine E_int ?_;refine O_sub ?_;refine O_band ?_;refine E_int ?_;refine O_eq ?_;dsimp only)
 exact retB h (by rw [←Cel.face_bit hv];rfl)
theorem bool_eq {p q:Prop} [Decidable p] [Decidable q] (h:p↔q):decide p=decide q:=decide_eq_decide.mpr h
theorem lt_c {c:Cx} {Q:AV→AX→Prop} {X:AX} {c₀ e₀:Cel} (L:Lw c) (G:Gd c.A 2)  (h:Q (.bool (decide (c₀.id<e₀.id))) X):WF c (.ref 99) [.cell c₀.id,.cell e₀.id] [] Q X:=by
 (have _:PySem.Challenge.rw_lp0003_07=PySem.Challenge.rw_lp0003_07→∀ w:World,(hd7.heap_1 w.params).In default→True:=by (k_fill;intros;trivial))
 have L₀:=L
 obtain ⟨P,w,K,g,A,env,own,E,fx⟩:=c
 obtain ⟨hP,hK,hC,hN⟩:=L
 dsimp only at hP hK hC hN G
 subst hP hK
 refine' WF.go (M:=[((Str.ofString "self"),.cell c₀.id),((Str.ofString "other"),.cell e₀.id)]) G ?k1 ?k2 ?k3 ?k4 ?k5 ?k6 ?k7 ?k8 ?_
 case k1=>(dsimp only;k_is)
 case k2=>(dsimp only;k_is)
 case k3=>exact bind2 fun s v u X=>.of_eq rfl
 case k4=>rfl
 case k5=>decide
 case k6=>rfl
 case k7=>rfl
 case k8=>rfl
 intro F c' kn he ho ok G'
 have L':=L₀.kin kn
 obtain ⟨P',w',K',g',A',env',own',E',fx'⟩:=c'
 obtain ⟨f1,f2,f3,f4,f5⟩:=kn
 dsimp only at f1 f2 f3 f4 f5 he ho G'
 subst f1 f2 f3 f4 f5 he ho
 clear L₀
 simp only [List.reverse_cons,List.reverse_nil,List.nil_append,List.cons_append]
 (refine S_last ?_;refine S_return ?_;refine E_cmp ?_;refine E_meth ?_;dsimp only;(refine E_name (by exact rfl) ?_);refine' M_fn ?hi29 ?a29 ?b29 ?c29 ?d29 ?e29 ?_;(case hi29=>exact .inl rfl);(case a29=>dsimp only;k_is);(case b29=>dsimp only;k_is);(case c29=>dsimp only;k_is);(case d29=>dsimp only;k_is);(case e29=>decide);refine Args_plain ?_;refine A_nil ?_;refine WC.of (id_c (by with_reducible assumption) (by exact Gd.le (by with_reducible assumption) rfl)  ?_);refine E_meth ?_;dsimp only;(refine E_name (by exact rfl) ?_);refine' M_fn ?hi31 ?a31 ?b31 ?c31 ?d31 ?e31 ?_;(case hi31=>exact .inl rfl);(case a31=>dsimp only;k_is);(case b31=>dsimp only;k_is);(case c31=>dsimp only;k_is);(case d31=>dsimp only;k_is);(case e31=>decide);refine Args_plain ?_;refine A_nil ?_;refine WC.of (id_c (by with_reducible assumption) (by exact Gd.le (by with_reducible assumption) rfl)  ?_);refine O_lt ?_;dsimp only)
 exact h
theorem eq_c {c:Cx} {Q:AV→AX→Prop} {X:AX} {c₀ e₀:Cel} (L:Lw c) (G:Gd c.A 2)  (h:Q (.bool (decide (c₀.id=e₀.id))) X):WF c (.ref 85) [.cell c₀.id,.cell e₀.id] [] Q X:=by
 (have _:PySem.Challenge.rw_lp0003_07=PySem.Challenge.rw_lp0003_07→∀ w:World,(hd7.heap_1 w.params).In default→True:=by (k_fill;intros;trivial))
 have L₀:=L
 obtain ⟨P,w,K,g,A,env,own,E,fx⟩:=c
 obtain ⟨hP,hK,hC,hN⟩:=L
 dsimp only at hP hK hC hN G
 subst hP hK
 refine' WF.go (M:=[((Str.ofString "self"),.cell c₀.id),((Str.ofString "other"),.cell e₀.id)]) G ?k1 ?k2 ?k3 ?k4 ?k5 ?k6 ?k7 ?k8 ?_
 case k1=>(dsimp only;k_is)
 case k2=>(dsimp only;k_is)
 case k3=>exact bind2 fun s v u X=>.of_eq rfl
 case k4=>rfl
 case k5=>decide
 case k6=>rfl
 case k7=>rfl
 case k8=>rfl
 intro F c' kn he ho ok G'
 have L':=L₀.kin kn
 obtain ⟨P',w',K',g',A',env',own',E',fx'⟩:=c'
 obtain ⟨f1,f2,f3,f4,f5⟩:=kn
 dsimp only at f1 f2 f3 f4 f5 he ho G'
 subst f1 f2 f3 f4 f5 he ho
 clear L₀
 simp only [List.reverse_cons,List.reverse_nil,List.nil_append,List.cons_append]
 (refine S_last ?_;refine S_return ?_;refine E_and ?_;refine E_call ?_;dsimp only;(refine' E_builtin (v:=.builtin ?id32) ?hk32 ?e32 ?hv32 ?hn32 ?_;(case hk32=>exact rfl);(case e32=>dsimp only;k_is);(case hv32=>exact rfl);(case hn32=>decide));dsimp only;refine C_raw keeper_builtin ?_;refine Args_plain ?_;refine A_cons ?_;(refine E_name (by exact rfl) ?_);refine A_cons ?_;refine E_attr ?_;(refine E_name (by exact rfl) ?_);refine' G_class ?hi35 ?a35 ?b35 ?c35 ?d35 ?e35 ?f35 ?_;(case hi35=>exact .inl rfl);(case a35=>dsimp only;k_is);(case b35=>dsimp only;k_is);(case c35=>dsimp only;k_is);(case d35=>dsimp only;k_is);(case e35=>dsimp only;k_is);(case f35=>dsimp only;k_is);skip;refine A_nil ?_;refine' B_isi ?hi36 ?a36 ?_;(case hi36=>exact .inl rfl);(case a36=>dsimp only;k_is);refine Tr_bool ?_;dsimp only;rw [if_pos rfl];refine E_cmp ?_;refine E_meth ?_;dsimp only;(refine E_name (by exact rfl) ?_);refine' M_fn ?hi38 ?a38 ?b38 ?c38 ?d38 ?e38 ?_;(case hi38=>exact .inl rfl);(case a38=>dsimp only;k_is);(case b38=>dsimp only;k_is);(case c38=>dsimp only;k_is);(case d38=>dsimp only;k_is);(case e38=>decide);refine Args_plain ?_;refine A_nil ?_;refine WC.of (id_c (by with_reducible assumption) (by exact Gd.le (by with_reducible assumption) rfl)  ?_);refine E_meth ?_;dsimp only;(refine E_name (by exact rfl) ?_);refine' M_fn ?hi40 ?a40 ?b40 ?c40 ?d40 ?e40 ?_;(case hi40=>exact .inl rfl);(case a40=>dsimp only;k_is);(case b40=>dsimp only;k_is);(case c40=>dsimp only;k_is);(case d40=>dsimp only;k_is);(case e40=>decide);refine Args_plain ?_;refine A_nil ?_;refine WC.of (id_c (by with_reducible assumption) (by exact Gd.le (by with_reducible assumption) rfl)  ?_);refine O_eq ?_;dsimp only)
 exact h
theorem ne_c {c:Cx} {Q:AV→AX→Prop} {X:AX} {c₀ e₀:Cel} (L:Lw c) (G:Gd c.A 3)  (h:Q (.bool (!decide (c₀.id=e₀.id))) X):WF c (.ref 92) [.cell c₀.id,.cell e₀.id] [] Q X:=by
 (have _:PySem.Challenge.rw_lp0003_07=PySem.Challenge.rw_lp0003_07→∀ w:World,(hd7.heap_1 w.params).In default→True:=by (k_fill;intros;trivial))
 have L₀:=L
 obtain ⟨P,w,K,g,A,env,own,E,fx⟩:=c
 obtain ⟨hP,hK,hC,hN⟩:=L
 dsimp only at hP hK hC hN G
 subst hP hK
 refine' WF.go (M:=[((Str.ofString "self"),.cell c₀.id),((Str.ofString "other"),.cell e₀.id)]) G ?k1 ?k2 ?k3 ?k4 ?k5 ?k6 ?k7 ?k8 ?_
 case k1=>(dsimp only;k_is)
 case k2=>(dsimp only;k_is)
 case k3=>exact bind2 fun s v u X=>.of_eq rfl
 case k4=>rfl
 case k5=>decide
 case k6=>rfl
 case k7=>rfl
 case k8=>rfl
 intro F c' kn he ho ok G'
 have L':=L₀.kin kn
 obtain ⟨P',w',K',g',A',env',own',E',fx'⟩:=c'
 obtain ⟨f1,f2,f3,f4,f5⟩:=kn
 dsimp only at f1 f2 f3 f4 f5 he ho G'
 subst f1 f2 f3 f4 f5 he ho
 clear L₀
 simp only [List.reverse_cons,List.reverse_nil,List.nil_append,List.cons_append]
 (refine S_last ?_;refine S_return ?_;refine E_un ?_;refine E_meth ?_;dsimp only;(refine E_name (by exact rfl) ?_);refine' M_fn ?hi42 ?a42 ?b42 ?c42 ?d42 ?e42 ?_;(case hi42=>exact .inl rfl);(case a42=>dsimp only;k_is);(case b42=>dsimp only;k_is);(case c42=>dsimp only;k_is);(case d42=>dsimp only;k_is);(case e42=>decide);refine Args_plain ?_;refine A_cons ?_;(refine E_name (by exact rfl) ?_);refine A_nil ?_;refine WC.of (eq_c (by with_reducible assumption) (by exact Gd.le (by with_reducible assumption) rfl)  ?_);refine O_not ?_;refine Tr_bool ?_;dsimp only)
 exact h
theorem le_c {c:Cx} {Q:AV→AX→Prop} {X:AX} {c₀ e₀:Cel} (L:Lw c) (G:Gd c.A 3)  (h:Q (.bool (decide (c₀.id≤e₀.id))) X):WF c (.ref 106) [.cell c₀.id,.cell e₀.id] [] Q X:=by
 (have _:PySem.Challenge.rw_lp0003_07=PySem.Challenge.rw_lp0003_07→∀ w:World,(hd7.heap_1 w.params).In default→True:=by (k_fill;intros;trivial))
 have L₀:=L
 obtain ⟨P,w,K,g,A,env,own,E,fx⟩:=c
 obtain ⟨hP,hK,hC,hN⟩:=L
 dsimp only at hP hK hC hN G
 subst hP hK
 refine' WF.go (M:=[((Str.ofString "self"),.cell c₀.id),((Str.ofString "other"),.cell e₀.id)]) G ?k1 ?k2 ?k3 ?k4 ?k5 ?k6 ?k7 ?k8 ?_
 case k1=>(dsimp only;k_is)
 case k2=>(dsimp only;k_is)
 case k3=>exact bind2 fun s v u X=>.of_eq rfl
 case k4=>rfl
 case k5=>decide
 case k6=>rfl
 case k7=>rfl
 case k8=>rfl
 intro F c' kn he ho ok G'
 have L':=L₀.kin kn
 obtain ⟨P',w',K',g',A',env',own',E',fx'⟩:=c'
 obtain ⟨f1,f2,f3,f4,f5⟩:=kn
 dsimp only at f1 f2 f3 f4 f5 he ho G'
 subst f1 f2 f3 f4 f5 he ho
 clear L₀
 simp only [List.reverse_cons,List.reverse_nil,List.nil_append,List.cons_append]
 (refine S_last ?_;refine S_return ?_;refine E_or ?_;refine E_cmp ?_;(refine E_name (by exact rfl) ?_);(refine E_name (by exact rfl) ?_);refine' O_cmp ?hi46 ?hj46 ?a46 ?b46 ?d46 (fun _ _=>rfl) ?_;(case hi46=>exact .inl rfl);(case hj46=>exact .inl rfl);(case a46=>dsimp only;k_is);(case b46=>dsimp only;k_is);(case d46=>dsimp only;k_is);refine lt_c (by with_reducible assumption) (by exact Gd.le (by with_reducible assumption) rfl) ⟨_,rfl,?_⟩;refine Tr_bool ?_;dsimp only)
 ((split<;>rename_i hq);all_goals (try simp only [decide_eq_true_eq,Bool.not_eq_true',decide_eq_false_iff_not,Bool.not_eq_true,Bool.not_eq_false',Bool.not_eq_false] at hq))
 ·exact retB h (bool_eq (by lia))
 ·(refine E_cmp ?_;(refine E_name (by exact rfl) ?_);(refine E_name (by exact rfl) ?_);refine' O_cmp ?hi49 ?hj49 ?a49 ?b49 ?d49 (fun _ _=>rfl) ?_;(case hi49=>exact .inl rfl);(case hj49=>exact .inl rfl);(case a49=>dsimp only;k_is);(case b49=>dsimp only;k_is);(case d49=>dsimp only;k_is);refine eq_c (by with_reducible assumption) (by exact Gd.le (by with_reducible assumption) rfl) ⟨_,rfl,?_⟩;dsimp only)
  exact retB h (bool_eq (by lia))
theorem ge_c {c:Cx} {Q:AV→AX→Prop} {X:AX} {c₀ e₀:Cel} (L:Lw c) (G:Gd c.A 3)  (h:Q (.bool (decide (e₀.id≤c₀.id))) X):WF c (.ref 120) [.cell c₀.id,.cell e₀.id] [] Q X:=by
 (have _:PySem.Challenge.rw_lp0003_07=PySem.Challenge.rw_lp0003_07→∀ w:World,(hd7.heap_1 w.params).In default→True:=by (k_fill;intros;trivial))
 have L₀:=L
 obtain ⟨P,w,K,g,A,env,own,E,fx⟩:=c
 obtain ⟨hP,hK,hC,hN⟩:=L
 dsimp only at hP hK hC hN G
 subst hP hK
 refine' WF.go (M:=[((Str.ofString "self"),.cell c₀.id),((Str.ofString "other"),.cell e₀.id)]) G ?k1 ?k2 ?k3 ?k4 ?k5 ?k6 ?k7 ?k8 ?_
 case k1=>(dsimp only;k_is)
 case k2=>(dsimp only;k_is)
 case k3=>exact bind2 fun s v u X=>.of_eq rfl
 case k4=>rfl
 case k5=>decide
 case k6=>rfl
 case k7=>rfl
 case k8=>rfl
 intro F c' kn he ho ok G'
 have L':=L₀.kin kn
 obtain ⟨P',w',K',g',A',env',own',E',fx'⟩:=c'
 obtain ⟨f1,f2,f3,f4,f5⟩:=kn
 dsimp only at f1 f2 f3 f4 f5 he ho G'
 subst f1 f2 f3 f4 f5 he ho
 clear L₀
 simp only [List.reverse_cons,List.reverse_nil,List.nil_append,List.cons_append]
 (refine S_last ?_;refine S_return ?_;refine E_un ?_;refine E_cmp ?_;(refine E_name (by exact rfl) ?_);(refine E_name (by exact rfl) ?_);refine' O_cmp ?hi52 ?hj52 ?a52 ?b52 ?d52 (fun _ _=>rfl) ?_;(case hi52=>exact .inl rfl);(case hj52=>exact .inl rfl);(case a52=>dsimp only;k_is);(case b52=>dsimp only;k_is);(case d52=>dsimp only;k_is);refine lt_c (by with_reducible assumption) (by exact Gd.le (by with_reducible assumption) rfl) ⟨_,rfl,?_⟩;refine O_not ?_;refine Tr_bool ?_;dsimp only)
 exact retB h (by rw [Bool.eq_iff_iff];simp only [decide_eq_true_eq,Bool.not_eq_true',decide_eq_false_iff_not];lia)
theorem gt_c {c:Cx} {Q:AV→AX→Prop} {X:AX} {c₀ e₀:Cel} (L:Lw c) (G:Gd c.A 4)  (h:Q (.bool (decide (e₀.id<c₀.id))) X):WF c (.ref 113) [.cell c₀.id,.cell e₀.id] [] Q X:=by
 (have _:PySem.Challenge.rw_lp0003_07=PySem.Challenge.rw_lp0003_07→∀ w:World,(hd7.heap_1 w.params).In default→True:=by (k_fill;intros;trivial))
 have L₀:=L
 obtain ⟨P,w,K,g,A,env,own,E,fx⟩:=c
 obtain ⟨hP,hK,hC,hN⟩:=L
 dsimp only at hP hK hC hN G
 subst hP hK
 refine' WF.go (M:=[((Str.ofString "self"),.cell c₀.id),((Str.ofString "other"),.cell e₀.id)]) G ?k1 ?k2 ?k3 ?k4 ?k5 ?k6 ?k7 ?k8 ?_
 case k1=>(dsimp only;k_is)
 case k2=>(dsimp only;k_is)
 case k3=>exact bind2 fun s v u X=>.of_eq rfl
 case k4=>rfl
 case k5=>decide
 case k6=>rfl
 case k7=>rfl
 case k8=>rfl
 intro F c' kn he ho ok G'
 have L':=L₀.kin kn
 obtain ⟨P',w',K',g',A',env',own',E',fx'⟩:=c'
 obtain ⟨f1,f2,f3,f4,f5⟩:=kn
 dsimp only at f1 f2 f3 f4 f5 he ho G'
 subst f1 f2 f3 f4 f5 he ho
 clear L₀
 simp only [List.reverse_cons,List.reverse_nil,List.nil_append,List.cons_append]
 (refine S_last ?_;refine S_return ?_;refine E_and ?_;refine E_un ?_;refine E_cmp ?_;(refine E_name (by exact rfl) ?_);(refine E_name (by exact rfl) ?_);refine' O_cmp ?hi55 ?hj55 ?a55 ?b55 ?d55 (fun _ _=>rfl) ?_;(case hi55=>exact .inl rfl);(case hj55=>exact .inl rfl);(case a55=>dsimp only;k_is);(case b55=>dsimp only;k_is);(case d55=>dsimp only;k_is);refine lt_c (by with_reducible assumption) (by exact Gd.le (by with_reducible assumption) rfl) ⟨_,rfl,?_⟩;refine O_not ?_;refine Tr_bool ?_;refine Tr_bool ?_;dsimp only)
 ((split<;>rename_i hq);all_goals (try simp only [decide_eq_true_eq,Bool.not_eq_true',decide_eq_false_iff_not,Bool.not_eq_true,Bool.not_eq_false',Bool.not_eq_false] at hq))
 ·(refine E_cmp ?_;(refine E_name (by exact rfl) ?_);(refine E_name (by exact rfl) ?_);refine' O_cmp ?hi58 ?hj58 ?a58 ?b58 ?d58 (fun _ _=>rfl) ?_;(case hi58=>exact .inl rfl);(case hj58=>exact .inl rfl);(case a58=>dsimp only;k_is);(case b58=>dsimp only;k_is);(case d58=>dsimp only;k_is);refine ne_c (by with_reducible assumption) (by exact Gd.le (by with_reducible assumption) rfl) ⟨_,rfl,?_⟩;dsimp only)
  exact retB h (by rw [Bool.eq_iff_iff];simp only [decide_eq_true_eq,Bool.not_eq_true',decide_eq_false_iff_not];lia)
 ·exact retB h (by rw [Bool.eq_iff_iff];simp only [decide_eq_true_eq,Bool.not_eq_true',decide_eq_false_iff_not];lia)
theorem init_c {c:Cx} {Q:AV→AX→Prop} {X:AX} {n:Int} {a dd:Addr} {σ':List (Addr×MO)} (L:Lw c) (G:Gd c.A 1) (U:SUpd a (.inst 453 dd [] []) (.inst 453 dd [Str.ofString "_CellId__id"] [.int (n.fmod 18446744073709551615)]) X.σ σ') (h:Q .none ⟨σ',X.m⟩):WF c (.ref 64) [.raw (.ref a),.int n] [] Q X:=by
 (have _:PySem.Challenge.rw_lp0003_07=PySem.Challenge.rw_lp0003_07→∀ w:World,(hd7.heap_1 w.params).In default→True:=by (k_fill;intros;trivial))
 have L₀:=L
 obtain ⟨P,w,K,g,A,env,own,E,fx⟩:=c
 obtain ⟨hP,hK,hC,hN⟩:=L
 dsimp only at hP hK hC hN G
 subst hP hK
 refine' WF.go (M:=[((Str.ofString "self"),.raw (.ref a)),((Str.ofString "id_"),.int n)]) G ?k1 ?k2 ?k3 ?k4 ?k5 ?k6 ?k7 ?k8 ?_
 case k1=>(dsimp only;k_is)
 case k2=>(dsimp only;k_is)
 case k3=>exact bind2 fun s v u X=>binds_K X rfl (by (dsimp only;k_is)) rfl rfl rfl
 case k4=>rfl
 case k5=>decide
 case k6=>rfl
 case k7=>rfl
 case k8=>rfl
 intro F c' kn he ho ok G'
 have L':=L₀.kin kn
 obtain ⟨P',w',K',g',A',env',own',E',fx'⟩:=c'
 obtain ⟨f1,f2,f3,f4,f5⟩:=kn
 dsimp only at f1 f2 f3 f4 f5 he ho G'
 subst f1 f2 f3 f4 f5 he ho
 clear L₀
 simp only [List.reverse_cons,List.reverse_nil,List.nil_append,List.cons_append]
 (refine S_last ?_;refine S_assignT ?_;refine E_bin ?_;(refine E_name (by exact rfl) ?_);refine E_int ?_;refine O_mod (by decide) ?_;refine A_attr ?_;dsimp only;(refine E_name (by exact rfl) ?_);dsimp only)
 exact ⟨a,453,dd,[],[],σ',rfl,U,by decide,by (k_is),by (k_is),by (k_is),by (k_is),h⟩
theorem new_c {c:Cx} {Q:AV→AX→Prop} {X:AX} {n:Int} (L:Lw c) (G:Gd c.A 2) (h:Q (.cell (n.fmod 18446744073709551615)) X):WF c (.ref 453) [.int n] [] Q X:=by
 (have _:PySem.Challenge.rw_lp0003_07=PySem.Challenge.rw_lp0003_07→∀ w:World,(hd7.heap_1 w.params).In default→True:=by (k_fill;intros;trivial))
 have L₀:=L
 obtain ⟨P,w,K,g,A,env,own,E,fx⟩:=c
 obtain ⟨hP,hK,hC,hN⟩:=L
 dsimp only at hP hK hC hN G
 subst hP hK
 refine' WF.conv (WF.new ?k1 ?k2 ?k3 G ?_)
 case k1=>(dsimp only;k_is)
 case k2=>(dsimp only;k_is)
 case k3=>(dsimp only;k_is)
 intro a dd c' kn he ho ok G'
 exact init_c (L₀.kin kn) (G'.le rfl) .head ⟨rfl,_,_,ConvV.freeze (m':=X.m) .head rfl .here (fun x V e=>⟨V,e,.same V⟩),h⟩
theorem newK {c:Cx} {Q:AV→AX→Prop} {X:AX} {n:Int} (e₀:Cel) (L:Lw c) (G:Gd c.A 2) (ho:e₀.ok) (e:n=e₀.id) (h:Q (.cell e₀.id) X):WF c (.ref 453) [.int n] [] Q X :=
 new_c L G (by rw [e,Cel.fmod ho];exact h)
theorem rmin_c {c:Cx} {Q:AV→AX→Prop} {X:AX} {c₀:Cel} (L:Lw c) (G:Gd c.A 3) (hv:c₀.ok) (h:Q (.cell c₀.first.id) X):WF c (.ref 306) [.cell c₀.id] [] Q X:=by
 (have _:PySem.Challenge.rw_lp0003_07=PySem.Challenge.rw_lp0003_07→∀ w:World,(hd7.heap_1 w.params).In default→True:=by (k_fill;intros;trivial))
 have L₀:=L
 obtain ⟨P,w,K,g,A,env,own,E,fx⟩:=c
 obtain ⟨hP,hK,hC,hN⟩:=L
 dsimp only at hP hK hC hN G
 subst hP hK
 refine' WF.go (M:=[((Str.ofString "self"),.cell c₀.id)]) G ?k1 ?k2 ?k3 ?k4 ?k5 ?k6 ?k7 ?k8 ?_
 case k1=>(dsimp only;k_is)
 case k2=>(dsimp only;k_is)
 case k3=>exact bind1 fun s v X=>.of_eq rfl
 case k4=>rfl
 case k5=>decide
 case k6=>rfl
 case k7=>rfl
 case k8=>rfl
 intro F c' kn he ho ok G'
 have L':=L₀.kin kn
 obtain ⟨P',w',K',g',A',env',own',E',fx'⟩:=c'
 obtain ⟨f1,f2,f3,f4,f5⟩:=kn
 dsimp only at f1 f2 f3 f4 f5 he ho G'
 subst f1 f2 f3 f4 f5 he ho
 clear L₀
 simp only [List.reverse_cons,List.reverse_nil,List.nil_append,List.cons_append]
 (refine S_last ?_;refine S_return ?_;refine E_meth ?_;dsimp only;(refine E_name (by exact rfl) ?_);refine' M_class ?hi62 ?a62 ?b62 ?c62 ?d62 ?e62 ?f62 ?g62 ?i62 ?_;(case hi62=>exact .inl rfl);(case a62=>dsimp only;k_is);(case b62=>dsimp only;k_is);(case c62=>dsimp only;k_is);(case d62=>dsimp only;k_is);(case e62=>dsimp only;k_is);(case f62=>dsimp only;k_is);(case g62=>dsimp only;k_is);(case i62=>dsimp only;k_is);skip;refine Args_plain ?_;refine A_cons ?_;refine E_bin ?_;refine E_meth ?_;dsimp only;(refine E_name (by exact rfl) ?_);refine' M_fn ?hi64 ?a64 ?b64 ?c64 ?d64 ?e64 ?_;(case hi64=>exact .inl rfl);(case a64=>dsimp only;k_is);(case b64=>dsimp only;k_is);(case c64=>dsimp only;k_is);(case d64=>dsimp only;k_is);(case e64=>decide);refine Args_plain ?_;refine A_nil ?_;refine WC.of (id_c (by with_reducible assumption) (by exact Gd.le (by with_reducible assumption) rfl)  ?_);refine E_bin ?_;refine E_meth ?_;dsimp only;(refine E_name (by exact rfl) ?_);refine' M_fn ?hi66 ?a66 ?b66 ?c66 ?d66 ?e66 ?_;(case hi66=>exact .inl rfl);(case a66=>dsimp only;k_is);(case b66=>dsimp only;k_is);(case c66=>dsimp only;k_is);(case d66=>dsimp only;k_is);(case e66=>decide);refine Args_plain ?_;refine A_nil ?_;refine WC.of (lsb_c (by with_reducible assumption) (by exact Gd.le (by with_reducible assumption) rfl)  ?_);refine E_int ?_;refine O_sub ?_;refine O_sub ?_;refine A_nil ?_)
 exact WC.of (newK c₀.first (by (with_reducible assumption)) (by (exact Gd.le (by with_reducible assumption) rfl)) (Cel.first_ok hv) c₀.first_id h)
theorem rmax_c {c:Cx} {Q:AV→AX→Prop} {X:AX} {c₀:Cel} (L:Lw c) (G:Gd c.A 3) (hv:c₀.ok) (h:Q (.cell c₀.last.id) X):WF c (.ref 313) [.cell c₀.id] [] Q X:=by
 (have _:PySem.Challenge.rw_lp0003_07=PySem.Challenge.rw_lp0003_07→∀ w:World,(hd7.heap_1 w.params).In default→True:=by (k_fill;intros;trivial))
 have L₀:=L
 obtain ⟨P,w,K,g,A,env,own,E,fx⟩:=c
 obtain ⟨hP,hK,hC,hN⟩:=L
 dsimp only at hP hK hC hN G
 subst hP hK
 refine' WF.go (M:=[((Str.ofString "self"),.cell c₀.id)]) G ?k1 ?k2 ?k3 ?k4 ?k5 ?k6 ?k7 ?k8 ?_
 case k1=>(dsimp only;k_is)
 case k2=>(dsimp only;k_is)
 case k3=>exact bind1 fun s v X=>.of_eq rfl
 case k4=>rfl
 case k5=>decide
 case k6=>rfl
 case k7=>rfl
 case k8=>rfl
 intro F c' kn he ho ok G'
 have L':=L₀.kin kn
 obtain ⟨P',w',K',g',A',env',own',E',fx'⟩:=c'
 obtain ⟨f1,f2,f3,f4,f5⟩:=kn
 dsimp only at f1 f2 f3 f4 f5 he ho G'
 subst f1 f2 f3 f4 f5 he ho
 clear L₀
 simp only [List.reverse_cons,List.reverse_nil,List.nil_append,List.cons_append]
 (refine S_last ?_;refine S_return ?_;refine E_meth ?_;dsimp only;(refine E_name (by exact rfl) ?_);refine' M_class ?hi68 ?a68 ?b68 ?c68 ?d68 ?e68 ?f68 ?g68 ?i68 ?_;(case hi68=>exact .inl rfl);(case a68=>dsimp only;k_is);(case b68=>dsimp only;k_is);(case c68=>dsimp only;k_is);(case d68=>dsimp only;k_is);(case e68=>dsimp only;k_is);(case f68=>dsimp only;k_is);(case g68=>dsimp only;k_is);(case i68=>dsimp only;k_is);skip;refine Args_plain ?_;refine A_cons ?_;refine E_bin ?_;refine E_meth ?_;dsimp only;(refine E_name (by exact rfl) ?_);refine' M_fn ?hi70 ?a70 ?b70 ?c70 ?d70 ?e70 ?_;(case hi70=>exact .inl rfl);(case a70=>dsimp only;k_is);(case b70=>dsimp only;k_is);(case c70=>dsimp only;k_is);(case d70=>dsimp only;k_is);(case e70=>decide);refine Args_plain ?_;refine A_nil ?_;refine WC.of (id_c (by with_reducible assumption) (by exact Gd.le (by with_reducible assumption) rfl)  ?_);refine E_bin ?_;refine E_meth ?_;dsimp only;(refine E_name (by exact rfl) ?_);refine' M_fn ?hi72 ?a72 ?b72 ?c72 ?d72 ?e72 ?_;(case hi72=>exact .inl rfl);(case a72=>dsimp only;k_is);(case b72=>dsimp only;k_is);(case c72=>dsimp only;k_is);(case d72=>dsimp only;k_is);(case e72=>decide);refine Args_plain ?_;refine A_nil ?_;refine WC.of (lsb_c (by with_reducible assumption) (by exact Gd.le (by with_reducible assumption) rfl)  ?_);refine E_int ?_;refine O_sub ?_;refine O_add ?_;refine A_nil ?_)
 exact WC.of (newK c₀.last (by (with_reducible assumption)) (by (exact Gd.le (by with_reducible assumption) rfl)) (Cel.last_ok hv) c₀.last_id h)
theorem contains_c {c:Cx} {Q:AV→AX→Prop} {X:AX} {c₀ e₀:Cel} (L:Lw c) (G:Gd c.A 5) (hv:c₀.ok) (hw:e₀.ok) (h:Q (.bool (decide (c₀.first.id≤e₀.id∧e₀.id≤c₀.last.id))) X):WF c (.ref 201) [.cell c₀.id,.cell e₀.id] [] Q X:=by
 (have _:PySem.Challenge.rw_lp0003_07=PySem.Challenge.rw_lp0003_07→∀ w:World,(hd7.heap_1 w.params).In default→True:=by (k_fill;intros;trivial))
 have L₀:=L
 obtain ⟨P,w,K,g,A,env,own,E,fx⟩:=c
 obtain ⟨hP,hK,hC,hN⟩:=L
 dsimp only at hP hK hC hN G
 subst hP hK
 refine' WF.go (M:=[((Str.ofString "self"),.cell c₀.id),((Str.ofString "other"),.cell e₀.id)]) G ?k1 ?k2 ?k3 ?k4 ?k5 ?k6 ?k7 ?k8 ?_
 case k1=>(dsimp only;k_is)
 case k2=>(dsimp only;k_is)
 case k3=>exact bind2 fun s v u X=>.of_eq rfl
 case k4=>rfl
 case k5=>decide
 case k6=>rfl
 case k7=>rfl
 case k8=>rfl
 intro F c' kn he ho ok G'
 have L':=L₀.kin kn
 obtain ⟨P',w',K',g',A',env',own',E',fx'⟩:=c'
 obtain ⟨f1,f2,f3,f4,f5⟩:=kn
 dsimp only at f1 f2 f3 f4 f5 he ho G'
 subst f1 f2 f3 f4 f5 he ho
 clear L₀
 simp only [List.reverse_cons,List.reverse_nil,List.nil_append,List.cons_append]
 (refine S_cons ?_;refine S_assert ?_;refine T_val ?_;refine E_meth ?_;dsimp only;(refine E_name (by exact rfl) ?_);refine' M_fn ?hi74 ?a74 ?b74 ?c74 ?d74 ?e74 ?_;(case hi74=>exact .inl rfl);(case a74=>dsimp only;k_is);(case b74=>dsimp only;k_is);(case c74=>dsimp only;k_is);(case d74=>dsimp only;k_is);(case e74=>decide);refine Args_plain ?_;refine A_nil ?_;refine WC.of (is_valid_c (by with_reducible assumption) (by exact Gd.le (by with_reducible assumption) rfl) (by with_reducible assumption) ?_);refine Tr_bool ?_;refine And.intro rfl ?_;refine Then_next ?_;refine S_cons ?_;refine S_assert ?_;refine T_val ?_;refine E_meth ?_;dsimp only;(refine E_name (by exact rfl) ?_);refine' M_fn ?hi76 ?a76 ?b76 ?c76 ?d76 ?e76 ?_;(case hi76=>exact .inl rfl);(case a76=>dsimp only;k_is);(case b76=>dsimp only;k_is);(case c76=>dsimp only;k_is);(case d76=>dsimp only;k_is);(case e76=>decide);refine Args_plain ?_;refine A_nil ?_;refine WC.of (is_valid_c (by with_reducible assumption) (by exact Gd.le (by with_reducible assumption) rfl) (by with_reducible assumption) ?_);refine Tr_bool ?_;refine And.intro rfl ?_;refine Then_next ?_;refine S_last ?_;refine S_return ?_;refine E_and ?_;refine E_cmp ?_;(refine E_name (by exact rfl) ?_);refine E_meth ?_;dsimp only;(refine E_name (by exact rfl) ?_);refine' M_fn ?hi79 ?a79 ?b79 ?c79 ?d79 ?e79 ?_;(case hi79=>exact .inl rfl);(case a79=>dsimp only;k_is);(case b79=>dsimp only;k_is);(case c79=>dsimp only;k_is);(case d79=>dsimp only;k_is);(case e79=>decide);refine Args_plain ?_;refine A_nil ?_;refine WC.of (rmin_c (by with_reducible assumption) (by exact Gd.le (by with_reducible assumption) rfl) (by with_reducible assumption) ?_);refine' O_cmp ?hi80 ?hj80 ?a80 ?b80 ?d80 (fun _ _=>rfl) ?_;(case hi80=>exact .inl rfl);(case hj80=>exact .inl rfl);(case a80=>dsimp only;k_is);(case b80=>dsimp only;k_is);(case d80=>dsimp only;k_is);refine ge_c (by with_reducible assumption) (by exact Gd.le (by with_reducible assumption) rfl) ⟨_,rfl,?_⟩;refine Tr_bool ?_;dsimp only)
 ((split<;>rename_i hq);all_goals (try simp only [decide_eq_true_eq,Bool.not_eq_true',decide_eq_false_iff_not,Bool.not_eq_true,Bool.not_eq_false',Bool.not_eq_false] at hq))
 ·(refine E_cmp ?_;(refine E_name (by exact rfl) ?_);refine E_meth ?_;dsimp only;(refine E_name (by exact rfl) ?_);refine' M_fn ?hi83 ?a83 ?b83 ?c83 ?d83 ?e83 ?_;(case hi83=>exact .inl rfl);(case a83=>dsimp only;k_is);(case b83=>dsimp only;k_is);(case c83=>dsimp only;k_is);(case d83=>dsimp only;k_is);(case e83=>decide);refine Args_plain ?_;refine A_nil ?_;refine WC.of (rmax_c (by with_reducible assumption) (by exact Gd.le (by with_reducible assumption) rfl) (by with_reducible assumption) ?_);refine' O_cmp ?hi84 ?hj84 ?a84 ?b84 ?d84 (fun _ _=>rfl) ?_;(case hi84=>exact .inl rfl);(case hj84=>exact .inl rfl);(case a84=>dsimp only;k_is);(case b84=>dsimp only;k_is);(case d84=>dsimp only;k_is);refine le_c (by with_reducible assumption) (by exact Gd.le (by with_reducible assumption) rfl) ⟨_,rfl,?_⟩;dsimp only)
  exact retB h (bool_eq (by lia))
 ·exact retB h (bool_eq (by lia))
theorem pow_fit {u:Nat} (h:u≤30):(((4^u:Nat):Int)).natAbs<2^64:=by
 rw [Int.natAbs_natCast]
 exact Nat.lt_of_le_of_lt (Nat.pow_le_pow_right (by decide) h) (by decide)
theorem parent_c {c:Cx} {Q:AV→AX→Prop} {X:AX} {c₀:Cel} (L:Lw c) (G:Gd c.A 4) (hv:c₀.ok) (hu:c₀.u≠30) (h:Q (.cell c₀.par.id) X):WF c (.ref 187) [.cell c₀.id] [] Q X:=by
 (have _:PySem.Challenge.rw_lp0003_07=PySem.Challenge.rw_lp0003_07→∀ w:World,(hd7.heap_1 w.params).In default→True:=by (k_fill;intros;trivial))
 have L₀:=L
 obtain ⟨P,w,K,g,A,env,own,E,fx⟩:=c
 obtain ⟨hP,hK,hC,hN⟩:=L
 dsimp only at hP hK hC hN G
 subst hP hK
 refine' WF.go (M:=[((Str.ofString "self"),.cell c₀.id),((Str.ofString "args"),.tup [])]) G ?k1 ?k2 ?k3 ?k4 ?k5 ?k6 ?k7 ?k8 ?_
 case k1=>(dsimp only;k_is)
 case k2=>(dsimp only;k_is)
 case k3=>exact bindS0 fun v=>⟨_,rfl,fun _=>rfl⟩
 case k4=>rfl
 case k5=>decide
 case k6=>rfl
 case k7=>rfl
 case k8=>rfl
 intro F c' kn he ho ok G'
 have L':=L₀.kin kn
 obtain ⟨P',w',K',g',A',env',own',E',fx'⟩:=c'
 obtain ⟨f1,f2,f3,f4,f5⟩:=kn
 dsimp only at f1 f2 f3 f4 f5 he ho G'
 subst f1 f2 f3 f4 f5 he ho
 clear L₀
 simp only [List.reverse_cons,List.reverse_nil,List.nil_append,List.cons_append]
 have hf:=pow_fit hv.1
 (refine S_cons ?_;refine S_assert ?_;refine T_val ?_;refine E_meth ?_;dsimp only;(refine E_name (by exact rfl) ?_);refine' M_fn ?hi86 ?a86 ?b86 ?c86 ?d86 ?e86 ?_;(case hi86=>exact .inl rfl);(case a86=>dsimp only;k_is);(case b86=>dsimp only;k_is);(case c86=>dsimp only;k_is);(case d86=>dsimp only;k_is);(case e86=>decide);refine Args_plain ?_;refine A_nil ?_;refine WC.of (is_valid_c (by with_reducible assumption) (by exact Gd.le (by with_reducible assumption) rfl) (by with_reducible assumption) ?_);refine Tr_bool ?_;refine And.intro rfl ?_;refine Then_next ?_;refine S_last ?_;refine S_if ?_;refine T_cmp ?_;refine E_call ?_;dsimp only;(refine' E_builtin (v:=.builtin ?id87) ?hk87 ?e87 ?hv87 ?hn87 ?_;(case hk87=>exact rfl);(case e87=>dsimp only;k_is);(case hv87=>exact rfl);(case hn87=>decide));dsimp only;refine C_raw keeper_builtin ?_;refine Args_plain ?_;refine A_cons ?_;(refine E_name (by exact rfl) ?_);refine A_nil ?_;refine B_len_tup (by decide) ?_;refine E_int ?_;refine O_eq ?_;refine Tr_bool ?_;rw [if_pos (by decide)];refine S_cons ?_;refine S_assert ?_;refine T_not ?_;refine T_val ?_;refine E_meth ?_;dsimp only;(refine E_name (by exact rfl) ?_);refine' M_fn ?hi90 ?a90 ?b90 ?c90 ?d90 ?e90 ?_;(case hi90=>exact .inl rfl);(case a90=>dsimp only;k_is);(case b90=>dsimp only;k_is);(case c90=>dsimp only;k_is);(case d90=>dsimp only;k_is);(case e90=>decide);refine Args_plain ?_;refine A_nil ?_;refine WC.of (is_face_c (by with_reducible assumption) (by exact Gd.le (by with_reducible assumption) rfl) (by with_reducible assumption) ?_);refine Tr_bool ?_)
 refine ⟨by simp [hu],?_⟩
 (refine Then_next ?_;refine S_cons ?_;refine S_assign (by exact .inl ⟨rfl,.head _⟩) ?_;refine E_bin ?_;refine E_meth ?_;dsimp only;(refine E_name (by exact rfl) ?_);refine' M_fn ?hi92 ?a92 ?b92 ?c92 ?d92 ?e92 ?_;(case hi92=>exact .inl rfl);(case a92=>dsimp only;k_is);(case b92=>dsimp only;k_is);(case c92=>dsimp only;k_is);(case d92=>dsimp only;k_is);(case e92=>decide);refine Args_plain ?_;refine A_nil ?_;refine WC.of (lsb_c (by with_reducible assumption) (by exact Gd.le (by with_reducible assumption) rfl)  ?_);refine E_int ?_;refine O_shl (by decide) (by decide) (by with_reducible assumption) ?_;dsimp only;refine Then_next ?_;refine S_last ?_;refine S_return ?_;refine E_meth ?_;dsimp only;(refine E_name (by exact rfl) ?_);refine' M_class ?hi94 ?a94 ?b94 ?c94 ?d94 ?e94 ?f94 ?g94 ?i94 ?_;(case hi94=>exact .inl rfl);(case a94=>dsimp only;k_is);(case b94=>dsimp only;k_is);(case c94=>dsimp only;k_is);(case d94=>dsimp only;k_is);(case e94=>dsimp only;k_is);(case f94=>dsimp only;k_is);(case g94=>dsimp only;k_is);(case i94=>dsimp only;k_is);skip;refine Args_plain ?_;refine A_cons ?_;refine E_bin ?_;refine E_bin ?_;refine E_meth ?_;dsimp only;(refine E_name (by exact rfl) ?_);refine' M_fn ?hi96 ?a96 ?b96 ?c96 ?d96 ?e96 ?_;(case hi96=>exact .inl rfl);(case a96=>dsimp only;k_is);(case b96=>dsimp only;k_is);(case c96=>dsimp only;k_is);(case d96=>dsimp only;k_is);(case e96=>decide);refine Args_plain ?_;refine A_nil ?_;refine WC.of (id_c (by with_reducible assumption) (by exact Gd.le (by with_reducible assumption) rfl)  ?_);refine E_un ?_;(refine E_name (by exact rfl) ?_);refine O_neg ?_;refine O_band ?_;(refine E_name (by exact rfl) ?_);refine O_bor ?_;refine A_nil ?_)
 exact WC.of (newK c₀.par (by (with_reducible assumption)) (by (exact Gd.le (by with_reducible assumption) rfl)) (Cel.par_ok hv hu) c₀.par_bits h)
abbrev cidS:Str:=Str.ofString "_CellUnion__cell_ids"
abbrev cellsV (cs:List Cel):List AV:=cs.map fun c=>.cell c.id
abbrev uniM (d la:Addr):MO:=.inst 590 d [cidS] [.raw (.ref la)]
abbrev AV.uni (cs:List Cel):AV:=.inst 590 [cidS] [.lst (cellsV cs)]
theorem numM_c {c:Cx} {Q:AV→AX→Prop} {X:AX} {u d la:Addr} {xs:List AV} (L:Lw c) (G:Gd c.A 1) (hu:(u,uniM d la)∈X.σ) (hl:(la,MO.lst xs)∈X.σ) (hz:xs.length<2^62) (h:Q (.int xs.length) X):WF c (.ref 545) [.raw (.ref u)] [] Q X:=by
 (have _:PySem.Challenge.rw_lp0003_07=PySem.Challenge.rw_lp0003_07→∀ w:World,(hd7.heap_1 w.params).In default→True:=by (k_fill;intros;trivial))
 have L₀:=L
 obtain ⟨P,w,K,g,A,env,own,E,fx⟩:=c
 obtain ⟨hP,hK,hC,hN⟩:=L
 dsimp only at hP hK hC hN G
 subst hP hK
 refine' WF.go (M:=[((Str.ofString "self"),.raw (.ref u))]) G ?k1 ?k2 ?k3 ?k4 ?k5 ?k6 ?k7 ?k8 ?_
 case k1=>(dsimp only;k_is)
 case k2=>(dsimp only;k_is)
 case k3=>exact bind1 fun s v X=>.of_eq rfl
 case k4=>rfl
 case k5=>decide
 case k6=>rfl
 case k7=>rfl
 case k8=>rfl
 intro F c' kn he ho ok G'
 have L':=L₀.kin kn
 obtain ⟨P',w',K',g',A',env',own',E',fx'⟩:=c'
 obtain ⟨f1,f2,f3,f4,f5⟩:=kn
 dsimp only at f1 f2 f3 f4 f5 he ho G'
 subst f1 f2 f3 f4 f5 he ho
 clear L₀
 simp only [List.reverse_cons,List.reverse_nil,List.nil_append,List.cons_append]
 (refine S_last ?_;refine S_return ?_;refine E_call ?_;dsimp only;(refine' E_builtin (v:=.builtin ?id1) ?hk1 ?e1 ?hv1 ?hn1 ?_;(case hk1=>exact rfl);(case e1=>dsimp only;k_is);(case hv1=>exact rfl);(case hn1=>decide));dsimp only;refine C_raw keeper_builtin ?_;refine Args_plain ?_;refine A_cons ?_;refine E_attr ?_;(refine E_name (by exact rfl) ?_);refine' G_own (ca:=none) ?hi4 ?a4 ?b4 ?c4 ?d4 ?e4 ?f4 ?_;(case hi4=>refine' IsInst.turn ?hm3;(case hm3=>with_reducible assumption));(case a4=>dsimp only;k_is);(case b4=>dsimp only;k_is);(case c4=>dsimp only;k_is);(case d4=>dsimp only;k_is);(case e4=>exact rfl);(case f4=>exact rfl);refine A_nil ?_;refine B_len_mlst (by with_reducible assumption) (by with_reducible assumption) ?_;dsimp only)
 exact h
theorem num_c {c:Cx} {Q:AV→AX→Prop} {X:AX} {cs:List Cel} (L:Lw c) (G:Gd c.A 1) (hz:cs.length<2^61) (h:Q (.int cs.length) X):WF c (.ref 545) [.uni cs] [] Q X:=by
 (have _:PySem.Challenge.rw_lp0003_07=PySem.Challenge.rw_lp0003_07→∀ w:World,(hd7.heap_1 w.params).In default→True:=by (k_fill;intros;trivial))
 have L₀:=L
 obtain ⟨P,w,K,g,A,env,own,E,fx⟩:=c
 obtain ⟨hP,hK,hC,hN⟩:=L
 dsimp only at hP hK hC hN G
 subst hP hK
 refine' WF.go (M:=[((Str.ofString "self"),.uni cs)]) G ?k1 ?k2 ?k3 ?k4 ?k5 ?k6 ?k7 ?k8 ?_
 case k1=>(dsimp only;k_is)
 case k2=>(dsimp only;k_is)
 case k3=>exact bind1 fun s v X=>.of_eq rfl
 case k4=>rfl
 case k5=>decide
 case k6=>rfl
 case k7=>rfl
 case k8=>rfl
 intro F c' kn he ho ok G'
 have L':=L₀.kin kn
 obtain ⟨P',w',K',g',A',env',own',E',fx'⟩:=c'
 obtain ⟨f1,f2,f3,f4,f5⟩:=kn
 dsimp only at f1 f2 f3 f4 f5 he ho G'
 subst f1 f2 f3 f4 f5 he ho
 clear L₀
 simp only [List.reverse_cons,List.reverse_nil,List.nil_append,List.cons_append]
 (refine S_last ?_;refine S_return ?_;refine E_call ?_;dsimp only;(refine' E_builtin (v:=.builtin ?id5) ?hk5 ?e5 ?hv5 ?hn5 ?_;(case hk5=>exact rfl);(case e5=>dsimp only;k_is);(case hv5=>exact rfl);(case hn5=>decide));dsimp only;refine C_raw keeper_builtin ?_;refine Args_plain ?_;refine A_cons ?_;refine E_attr ?_;(refine E_name (by exact rfl) ?_);refine' G_own (ca:=none) ?hi7 ?a7 ?b7 ?c7 ?d7 ?e7 ?f7 ?_;(case hi7=>exact .inl rfl);(case a7=>dsimp only;k_is);(case b7=>dsimp only;k_is);(case c7=>dsimp only;k_is);(case d7=>dsimp only;k_is);(case e7=>exact rfl);(case f7=>exact rfl);refine A_nil ?_;refine B_len_lst (by simp only [List.length_map,List.length_cons,List.length_nil];exact (lin1 (.lt .v0 (.n (2^62))) [.lt .v0 (.n (2^61))]) hz) ?_;dsimp only)
 rw [List.length_map];exact h
def nfold (cs:List Cel):List Cel:=(cs.foldl nstep []).reverse
abbrev lamQ:Str:=Str.ofString "CellUnion.normalize.<locals>.<lambda>"
abbrev lamP:Pos:=⟨348,33,348,61⟩
abbrev tabM:MO:=.ext [] (TabR 561 lamP lamQ)
theorem cellsV_get {cs:List Cel} {i:Nat} {V:AV} (h:(cellsV cs)[i]?=some V):∃ e,cs[i]?=some e∧V=.cell e.id:=by
 rw [List.getElem?_map] at h
 obtain ⟨e,h1,h2⟩:=Option.map_eq_some_iff.mp h
 exact ⟨e,h1,h2.symm⟩
theorem sortCells {cs:List Cel} {ps:List (Int×AV)} (hp:ps.Perm ((cs.map Cel.id).zip (cellsV cs))) (hs:ps.Pairwise fun p q=>p.1≤q.1):∃ cs':List Cel,cs'.Perm cs∧cs'.Pairwise (fun a b=>a.id≤b.id)∧ps.map (·.2)=cellsV cs':=by
 have e:(cs.map Cel.id).zip (cellsV cs)=cs.map fun c=>(c.id,AV.cell c.id):=by
  unfold cellsV
  rw [List.zip_map']
 obtain ⟨cs',h1,rfl⟩:=perm_map_inv hp _ e
 refine ⟨cs',h1,?_,by rw [List.map_map];rfl⟩
 rw [List.pairwise_map] at hs
 exact hs
abbrev oS (o u d la:Addr) (σ₀:List (Addr×MO)) (st:List Cel):List (Addr×MO):=(o,.lst (cellsV st.reverse))::(561,tabM)::(u,uniM d la)::σ₀
abbrev oM (o u:Addr):List (Str×AV):=[(Str.ofString "output", .raw (.ref o)),(Str.ofString "self", .raw (.ref u))]
abbrev eM (e:Cel) (o u:Addr):List (Str×AV):=(Str.ofString "cell_id", .cell e.id)::oM o u
structure HasE (Y:AX) (σ:List (Addr×MO)) (e:Cel) (o u:Addr):Prop where
 s:Y.σ=σ
 c:Y.m.lookup (Str.ofString "cell_id")=some (.cell e.id)
 o:Y.m.lookup (Str.ofString "output")=some (.raw (.ref o))
 u:Y.m.lookup (Str.ofString "self")=some (.raw (.ref u))
theorem look_of {m:List (Str×AV)}:∀ {l:List (Str×AV)},(∀ p∈l,m.lookup p.1=some p.2)→∀ x V,l.lookup x=some V→m.lookup x=some V
 | [],_,x,V,e=>by cases e
 | (y,U)::r,h,x,V,e=>by
  rw [List.lookup_cons] at e
  cases hb:x==y with
  | true=>rw [hb] at e;cases e;rw [beq_iff_eq.mp hb];exact h _ (.head _)
  | false=>rw [hb] at e;exact look_of (fun p hp=>h p (.tail _ hp)) x V e
theorem HasE.conv {c:Cx} {Y:AX} {σ:List (Addr×MO)} {e:Cel} {o u:Addr} (h:HasE Y σ e o u):Conv c Y ⟨σ,eM e o u⟩:=by
 refine Conv.weak (by rw [h.s];exact List.Sublist.refl _) (look_of fun p hp=>?_)
 rcases List.mem_cons.mp hp with rfl | hp
 ·exact h.c
 ·rcases List.mem_cons.mp hp with rfl | hp
  ·exact h.o
  ·rw [List.mem_singleton.mp hp];exact h.u
theorem HasE.conv2 {c:Cx} {Y:AX} {σ:List (Addr×MO)} {e:Cel} {o u:Addr} (h:HasE Y σ e o u):Conv c Y ⟨σ,oM o u⟩:=by
 refine Conv.weak (by rw [h.s];exact List.Sublist.refl _) (look_of fun p hp=>?_)
 rcases List.mem_cons.mp hp with rfl | hp
 ·exact h.o
 ·rw [List.mem_singleton.mp hp];exact h.u
theorem cellsV_empty (st:List Cel):(cellsV st.reverse).isEmpty=st.isEmpty:=by cases st<;>simp
theorem cellsV_cons (t:Cel) (r:List Cel):cellsV (t::r).reverse=cellsV r.reverse++[.cell t.id]:=by simp
theorem has_eq (t e:Cel):decide (t.first.id≤e.id∧e.id≤t.last.id)=t.has e:=by unfold Cel.has;rw [Bool.decide_and]
theorem popIn_sub (e:Cel):∀ st:List Cel,(∀ x∈popIn e st,x∈st)∧(popIn e st).length≤st.length
 | []=>⟨fun _ h=>h,Nat.le_refl _⟩
 | t::r=>by
  unfold popIn
  split
  ·exact ⟨fun x hx=>.tail _ ((popIn_sub e r).1 x hx),Nat.le_succ_of_le (popIn_sub e r).2⟩
  ·exact ⟨fun _ h=>h,Nat.le_refl _⟩
theorem merge_ok:∀ (st:List Cel) (c:Cel),c.ok→(∀ x∈st,x.ok)→(merge c st).1.ok∧(∀ x∈(merge c st).2,x.ok)∧(merge c st).2.length≤st.length
 | [],c,hc,h=>⟨hc,h,Nat.le_refl _⟩
 | [_],c,hc,h=>⟨hc,h,Nat.le_refl _⟩
 | [_,_],c,hc,h=>⟨hc,h,Nat.le_refl _⟩
 | x1::x2::x3::r,c,hc,h=>by
  rw [merge]
  split
  ·rename_i q
   have hu:c.u≠30:=by
    unfold quad at q
    simp only [Bool.and_eq_true,Bool.not_eq_true',decide_eq_false_iff_not] at q
    exact q.2.2.2.2
   have:=merge_ok r c.par (Cel.par_ok hc hu) fun x hx=>h x (.tail _ (.tail _ (.tail _ hx)))
   refine ⟨this.1,this.2.1,?_⟩
   have:=this.2.2
   simp only [List.length_cons];lia
  ·exact ⟨hc,h,Nat.le_refl _⟩
theorem push_ok {st:List Cel} {e:Cel} (he:e.ok) (h:∀ x∈st,x.ok):(∀ x∈push st e,x.ok)∧(push st e).length≤st.length+1:=by
 have a:=popIn_sub e st
 have b:=merge_ok (popIn e st) e he fun x hx=>h x (a.1 x hx)
 unfold push
 refine ⟨fun x hx=>?_,?_⟩
 ·rcases List.mem_cons.mp hx with rfl | hx
  ·exact b.1
  ·exact b.2.1 x hx
 ·have:=b.2.2;have:=a.2;simp only [List.length_cons];exact (lin3 (.le (.a .v0 .n1) (.a .v1 .n1)) [.le .v2 .v1,.le .v0 .v2]) a.2 b.2.2
theorem nstep_ok {st:List Cel} {e:Cel} (he:e.ok) (h:∀ x∈st,x.ok):(∀ x∈nstep st e,x.ok)∧(nstep st e).length≤st.length+1:=by
 unfold nstep
 split
 ·exact push_ok he h
 ·split
  ·exact ⟨h,Nat.le_succ _⟩
  ·exact push_ok he h
theorem nstep_oks:∀ (es st:List Cel),(∀ x∈es,x.ok)→(∀ x∈st,x.ok)→∀ x∈es.foldl nstep st,x.ok
 | [],st,_,h=>h
 | e::r,st,he,h=>nstep_oks r _ (fun x hx=>he x (.tail _ hx)) (nstep_ok (he e (.head _)) h).1
theorem nstep_len' {st:List Cel} {e:Cel}:(nstep st e).length≤st.length+1:=by
 have pl:(push st e).length≤st.length+1:=by
  have a:=(popIn_sub e st).2
  have:∀ (n:Nat) (st:List Cel) (c:Cel),st.length=n→(merge c st).2.length≤st.length:=by
   intro n
   induction n using Nat.strongRecOn with
   | ind n ih =>
    intro st c hn
    match st,hn with
    | [],_=>exact Nat.le_refl _
    | [_],_=>exact Nat.le_refl _
    | [_,_],_=>exact Nat.le_refl _
    | x1::x2::x3::r,hn =>
     rw [merge]
     split
     ·have:=ih r.length (by simp at hn;exact (lin2 (.lt .v0 .v1) [.eq (.a (.a (.a .v0 .n1) .n1) .n1) .v1]) hn) r c.par rfl
      simp only [List.length_cons];exact (lin2 (.le .v0 (.a (.a (.a .v1 .n1) .n1) .n1)) [.le .v0 .v1]) this
     ·exact Nat.le_refl _
  have b:=this _ (popIn e st) e rfl
  unfold push
  simp only [List.length_cons];exact (lin3 (.le (.a .v0 .n1) (.a .v1 .n1)) [.le .v2 .v1,.le .v0 .v2]) a b
 unfold nstep
 split
 ·exact pl
 ·split
  ·exact Nat.le_succ _
  ·exact pl
theorem nstep_len:∀ (es st:List Cel),(es.foldl nstep st).length≤es.length+st.length
 | [],st=>by simp
 | e::r,st=>by
  have:=nstep_len r (nstep st e)
  have:=@nstep_len' st e
  simp only [List.foldl_cons,List.length_cons];exact (lin4 (.le .v0 (.a (.a .v1 .n1) .v2)) [.le .v0 (.a .v1 .v3),.le .v3 (.a .v2 .n1)]) ‹_› this
theorem quad_f0 {x3 x2 x1 c:Cel} (h:Builtin.bitXor (Builtin.bitXor x3.id x2.id) x1.id≠c.id):quad x3 x2 x1 c=false:=by simp [quad,h]
theorem quad_f1 {x3 x2 x1 c:Cel} (h:Builtin.bitAnd x3.id c.mask≠Builtin.bitAnd c.id c.mask):quad x3 x2 x1 c=false:=by simp [quad,h]
theorem quad_f2 {x3 x2 x1 c:Cel} (h:Builtin.bitAnd x2.id c.mask≠Builtin.bitAnd c.id c.mask):quad x3 x2 x1 c=false:=by simp [quad,h]
theorem quad_f3 {x3 x2 x1 c:Cel} (h:Builtin.bitAnd x1.id c.mask≠Builtin.bitAnd c.id c.mask):quad x3 x2 x1 c=false:=by simp [quad,h]
theorem quad_f4 {x3 x2 x1 c:Cel} (h:decide (c.u=30)=true):quad x3 x2 x1 c=false:=by simp [quad,of_decide_eq_true h]
theorem quad_t {x3 x2 x1 c:Cel} (h0:Builtin.bitXor (Builtin.bitXor x3.id x2.id) x1.id=c.id) (h1:Builtin.bitAnd x3.id c.mask=Builtin.bitAnd c.id c.mask) (h2:Builtin.bitAnd x2.id c.mask=Builtin.bitAnd c.id c.mask) (h3:Builtin.bitAnd x1.id c.mask=Builtin.bitAnd c.id c.mask) (h4:c.u≠30):quad x3 x2 x1 c=true:=by simp [quad,h0,h1,h2,h3,h4]
theorem nstep_has {t e:Cel} {r:List Cel} (h:t.has e=true):nstep (t::r) e=t::r:=if_pos h
theorem nstep_not {t e:Cel} {r:List Cel} (h:t.has e=false):nstep (t::r) e=push (t::r) e:=if_neg (by rw [h];decide)
theorem popU {o u d la:Addr} {σ₀:List (Addr×MO)} {t:Cel} {r:List Cel}:SUpd o (.lst (cellsV r.reverse++[.cell t.id])) (.lst (cellsV r.reverse)) (oS o u d la σ₀ (t::r)) (oS o u d la σ₀ r):=by rw [←cellsV_cons];exact .head
theorem shl_fit {u:Nat} (h:u≤30):(((4^u:Nat):Int)*2^Int.toNat 1).natAbs<2^64:=by
 rw [Int.natAbs_mul,Int.natAbs_natCast]
 have:4^u≤4^30:=Nat.pow_le_pow_right (by decide) h
 have e:((2:Int)^Int.toNat 1).natAbs=2:=by decide
 rw [e];lia
theorem at1 (t:Cel) (r:List Cel):atI (cellsV (t::r).reverse) (-1)=some (.cell t.id):=atI_last (k:=0) (by simp)
theorem at2 (t t2:Cel) (r:List Cel):atI (cellsV (t::t2::r).reverse) (-2)=some (.cell t2.id):=atI_last (k:=1) (by simp)
theorem at3 (t t2 t3:Cel) (r:List Cel):atI (cellsV (t::t2::t3::r).reverse) (-3)=some (.cell t3.id):=atI_last (k:=2) (by simp)
theorem normalize_a {c:Cx} {Q:AV→AX→Prop} {σ₀:List (Addr×MO)} {m₀:List (Str×AV)} {u d la:Addr} {cs:List Cel} (L:Lw c) (G:Gd c.A 8) (hok:∀ e∈cs,e.ok) (h64:cs.length<64)
  (hT:∀ o cs',cs'.Perm cs→cs'.Pairwise (fun a b=>a.id≤b.id)→(nfold cs').length<cs.length→Q (.bool true) ⟨(la,.lst (cellsV cs'))::(o,.lst (cellsV (nfold cs')))::(561,tabM)::(u,uniM d o)::σ₀,m₀⟩)
  (hF:∀ o cs',cs'.Perm cs→cs'.Pairwise (fun a b=>a.id≤b.id)→¬(nfold cs').length<cs.length→Q (.bool false) ⟨(la,.lst (cellsV cs'))::(o,.lst (cellsV (nfold cs')))::(561,tabM)::(u,uniM d la)::σ₀,m₀⟩) :
  WF c (.ref 566) [.raw (.ref u)] [] Q ⟨(la,.lst (cellsV cs))::(u,uniM d la)::(561,tabM)::σ₀,m₀⟩:=by
 (have _:PySem.Challenge.rw_lp0003_07=PySem.Challenge.rw_lp0003_07→∀ w:World,(hd7.heap_1 w.params).In default→True:=by (k_fill;intros;trivial))
 have L₀:=L
 obtain ⟨P,w,K,g,A,env,own,E,fx⟩:=c
 obtain ⟨hP,hK,hC,hN⟩:=L
 dsimp only at hP hK hC hN G
 subst hP hK
 refine' WF.go (M:=[((Str.ofString "self"),.raw (.ref u))]) G ?k1 ?k2 ?k3 ?k4 ?k5 ?k6 ?k7 ?k8 ?_
 case k1=>(dsimp only;k_is)
 case k2=>(dsimp only;k_is)
 case k3=>exact bind1 fun s v X=>.of_eq rfl
 case k4=>rfl
 case k5=>decide
 case k6=>rfl
 case k7=>rfl
 case k8=>rfl
 intro F c' kn he ho ok G'
 have L':=L₀.kin kn
 obtain ⟨P',w',K',g',A',env',own',E',fx'⟩:=c'
 obtain ⟨f1,f2,f3,f4,f5⟩:=kn
 dsimp only at f1 f2 f3 f4 f5 he ho G'
 subst f1 f2 f3 f4 f5 he ho
 clear L₀
 simp only [List.reverse_cons,List.reverse_nil,List.nil_append,List.cons_append]
 (refine S_cons ?_;refine S_expr ?_;refine E_meth ?_;dsimp only;refine E_attr ?_;(refine E_name (by exact rfl) ?_);refine' G_own (ca:=none) ?hi3 ?a3 ?b3 ?c3 ?d3 ?e3 ?f3 ?_;(case hi3=>refine' IsInst.turn ?hm2;(case hm2=>refine' List.Mem.tail _ ?_;exact List.Mem.head _));(case a3=>dsimp only;k_is);(case b3=>dsimp only;k_is);(case c3=>dsimp only;k_is);(case d3=>dsimp only;k_is);(case e3=>exact rfl);(case f3=>exact rfl))
 refine M_list (by (exact List.Mem.head _)) PyProof.Rows.slot_list_sort PySem.F.type_list_sort (A_nil (K_cons ?_))
 refine' E_lam (P:=561) (cd:=565) (qual:=lamQ) ?h1 ?h2 ?h3 ?h4 ?h5 ?h6 ?_
 case h1=>rfl
 case h2=>rfl
 case h3=>rfl
 case h4=>rfl
 case h5=>exact hC
 case h6=>(refine' SDel.tail ?hq5;(case hq5=>refine' SDel.tail ?hq4;(case hq4=>exact SDel.head)))
 refine K_nil ?_
 dsimp only
 refine' B_sort (la:=la) (xs:=cellsV cs) (kz:=cs.map Cel.id) (d:=6) ?g1 ?g2 ?g3 ?g4 ?g5 ?g6 ?_
 case g1=>exact G'.le rfl
 case g2=>(refine' SDel.tail ?hq6;(case hq6=>exact SDel.head))
 case g3=>rw [List.length_map,List.length_map]
 case g4=>rw [List.length_map];exact h64
 case g5 =>
  intro i V k hV hk
  obtain ⟨e,he,rfl⟩:=cellsV_get hV
  have ek:k=e.id:=by
   rw [List.getElem?_map,he] at hk;cases hk;rfl
  subst ek
  refine WFv.lam (x:=Str.ofString "cell_id") (d:=2) (Gd.le (Gd.in1 (d:=6) (G'.le rfl)) rfl) (fun _ _ _ _=>rfl) rfl rfl rfl rfl (by decide) ?_
  intro F' f' cd' c'' kn' he' ho' ok' G''
  have L'':Lw c'':=Lw.kin (c:={P:=prog,w:=w',K:=hd7.heap_1 w'.params,g:=g',A:=A'.in1,env:=env,own:=own,E:=E',fix:=true}) ⟨rfl,rfl,hC,hN⟩ ⟨kn'.fix,kn'.P,kn'.w,kn'.K,kn'.g⟩
  obtain ⟨P'',w'',K'',g'',A'',env'',own'',E'',fx''⟩:=c''
  obtain ⟨q1,q2,q3,q4,q5⟩:=kn'
  dsimp only at q1 q2 q3 q4 q5 he' ho' G''
  subst q1 q2 q3 q4 q5 he' ho'
  (refine E_meth ?_;dsimp only;(refine E_name (by exact rfl) ?_);refine' M_fn ?hi8 ?a8 ?b8 ?c8 ?d8 ?e8 ?_;(case hi8=>exact .inl rfl);(case a8=>dsimp only;k_is);(case b8=>dsimp only;k_is);(case c8=>dsimp only;k_is);(case d8=>dsimp only;k_is);(case e8=>decide);refine Args_plain ?_;refine A_nil ?_;refine WC.of (id_c (by with_reducible assumption) (by exact Gd.le (by with_reducible assumption) rfl)  ?_);dsimp only)
 case g6=>intro S v r;obtain ⟨f,_,_,_,_,_,_,e,_⟩:=r.ext_inv;exact ⟨f,e⟩
 intro ps hp hs
 obtain ⟨cs',hp',hs',e⟩:=sortCells hp hs
 rw [e]
 (refine Then_next ?_;dsimp only;refine S_cons ?_;refine S_assign (by exact .inl ⟨rfl,.head _⟩) ?_)
 refine E_listM (A_nil ⟨by decide,fun o=>?_⟩)
 (refine Then_next ?_;dsimp only;refine S_cons ?_)
 refine S_for ?_
 (refine E_attr ?_;(refine E_name (by exact rfl) ?_);refine' G_own (ca:=none) ?hi11 ?a11 ?b11 ?c11 ?d11 ?e11 ?f11 ?_;(case hi11=>refine' IsInst.turn ?hm10;(case hm10=>refine' List.Mem.tail _ ?_;refine' List.Mem.tail _ ?_;refine' List.Mem.tail _ ?_;exact List.Mem.head _));(case a11=>dsimp only;k_is);(case b11=>dsimp only;k_is);(case c11=>dsimp only;k_is);(case d11=>dsimp only;k_is);(case e11=>exact rfl);(case f11=>exact rfl))
 refine I_mlst (l:=la) (by (refine' SDel.tail ?hq12;(case hq12=>exact SDel.head))) ?_
 refine ⟨fun i Y=>Y=⟨oS o u d la σ₀ ((cs'.take i).foldl nstep []),oM o u⟩,⟨_,Conv.rfl,rfl⟩,?turn,?fin⟩
 case turn =>
  intro i x Y hx hY
  subst hY
  obtain ⟨e,he,rfl⟩:=cellsV_get hx
  have hst:∀ x∈(cs'.take i).foldl nstep [],x.ok:=nstep_oks _ _ (fun x hx=>hok x (hp'.mem_iff.mp (List.mem_of_mem_take hx))) fun x hx=>nomatch hx
  have hln:((cs'.take i).foldl nstep []).length≤i:=Nat.le_trans (nstep_len _ _) (by simp;exact (lin3 (.le .v0 .v1) [.or (.an (.le .v1 .v2) (.eq .v0 .v1)) (.an (.lt .v2 .v1) (.eq .v0 .v2))]) (mnc _ _))
  have hi64:i<64:=by have:=(List.getElem?_eq_some_iff.mp he).1;rw [hp'.length_eq] at this;exact (lin2 (.lt .v0 (.n 64)) [.lt .v1 (.n 64),.lt .v0 .v1]) h64 this
  have hfold:(cs'.take (i+1)).foldl nstep []=nstep ((cs'.take i).foldl nstep []) e:=by rw [List.take_succ,he];simp
  dsimp only
  rw [hfold]
  have heok:e.ok:=hok e (hp'.mem_iff.mp (List.mem_of_getElem? he))
  revert hst hln
  generalize (cs'.take i).foldl nstep []=st
  intro hst hln
  clear hfold he hx
  refine A_name (by exact .inl ⟨rfl,.head _⟩) (S_cons ?_)
  refine WT.imp (Q:=fun F Y=>Y=⟨oS o u d la σ₀ st,eM e o u⟩∧((F=AF.cont∧nstep st e=st)∨(F=AF.next∧nstep st e=push st e))) ?if1 ?rest
  case if1 =>
   refine S_if ?_
   cases st with
   | nil =>
    (refine T_and ?_;dsimp only;refine T_val ?_;(refine E_name (by exact rfl) ?_);refine Tr_mlst (by exact List.Mem.head _) (by simp only [cellsV,List.length_map,List.length_reverse,List.length_cons,List.length_append,List.length_nil];decide) ?_;rw [if_neg (by decide)];rw [if_neg (by decide)];refine S_nil ?_)
    exact ⟨rfl,.inr ⟨rfl,rfl⟩⟩
   | cons t r =>
    have ht:=hst t (.head _)
    have hl2:r.length<63:=by simp only [List.length_cons] at hln;exact (lin2 (.lt .v0 (.n 63)) [.lt .v1 (.n 64),.le (.a .v0 .n1) .v1]) hi64 hln
    (refine T_and ?_;dsimp only;refine T_val ?_;(refine E_name (by exact rfl) ?_);refine Tr_mlst (by exact List.Mem.head _) (by simp only [cellsV,List.length_map,List.length_reverse,List.length_cons,List.length_append,List.length_nil];exact (lin1 (.zt (.c (.a .v0 .n1)) (.n (2^63))) [.lt .v0 (.n 63)]) hl2) ?_)
    rw [if_pos (by rw [cellsV_empty];rfl)]
    (refine T_and ?_;refine T_val ?_;refine E_meth ?_;dsimp only;refine E_sub ?_;(refine E_name (by exact rfl) ?_);refine E_un ?_;refine E_int ?_;refine O_neg ?_;refine Su_mlst (by exact List.Mem.head _) (at1 _ _) (by simp only [cellsV,List.length_map,List.length_reverse,List.length_cons,List.length_append,List.length_nil];exact (lin1 (.lt (.a .v0 .n1) (.n (2^62))) [.lt .v0 (.n 63)]) hl2) ?_;refine' M_fn ?hi16 ?a16 ?b16 ?c16 ?d16 ?e16 ?_;(case hi16=>exact .inl rfl);(case a16=>dsimp only;k_is);(case b16=>dsimp only;k_is);(case c16=>dsimp only;k_is);(case d16=>dsimp only;k_is);(case e16=>decide);refine Args_plain ?_;refine A_cons ?_;(refine E_name (by exact rfl) ?_);refine A_nil ?_;refine WC.of (contains_c (by with_reducible assumption) (by exact Gd.le (by with_reducible assumption) rfl) (by with_reducible assumption) (by with_reducible assumption) ?_);refine Tr_bool ?_)
    rw [has_eq]
    cases hb:t.has e
    ·(rw [if_neg (by decide)];rw [if_neg (by decide)];refine S_nil ?_)
     exact ⟨rfl,.inr ⟨rfl,nstep_not hb⟩⟩
    ·(rw [if_pos rfl];refine T_and_nil ?_;rw [if_pos rfl];refine S_last ?_;refine S_continue ?_)
     exact ⟨rfl,.inl ⟨rfl,nstep_has hb⟩⟩
  case rest =>
   rintro F Y ⟨rfl,⟨rfl,e1⟩ | ⟨rfl,e1⟩⟩
   ·rw [e1]
    exact Then_cont ⟨_,HasE.conv2 ⟨rfl,rfl,rfl,rfl⟩,rfl⟩
   ·rw [e1]
    clear e1
    (refine Then_next ?_;refine S_cons ?_)
    refine WT.imp (Q:=fun F Y=>F=AF.next∧Y=⟨oS o u d la σ₀ (popIn e st),eM e o u⟩) ?w1 ?rest2
    case w1 =>
     refine S_while (fun n Y=>∃ st₁,n=st₁.length∧Y=⟨oS o u d la σ₀ st₁,eM e o u⟩∧popIn e st₁=popIn e st∧(∀ x∈st₁,x.ok)∧st₁.length≤i) st.length ⟨_,Conv.rfl,st,rfl,rfl,rfl,hst,hln⟩ ?_
     rintro n Y ⟨st₁,rfl,rfl,hp1,hok1,hl1⟩
     cases st₁ with
     | nil =>
      (refine T_and ?_;refine T_val ?_;(refine E_name (by exact rfl) ?_);refine Tr_mlst (by exact List.Mem.head _) (by simp only [cellsV,List.length_map,List.length_reverse,List.length_cons,List.length_append,List.length_nil];decide) ?_;rw [if_neg (by decide)];rw [if_neg (by decide)])
      exact ⟨rfl,by rw [←hp1];rfl⟩
     | cons t r =>
      have ht:=hok1 t (.head _)
      have hl2:r.length<63:=by simp only [List.length_cons] at hl1;exact (lin2 (.lt .v0 (.n 63)) [.lt .v1 (.n 64),.le (.a .v0 .n1) .v1]) hi64 hl1
      (refine T_and ?_;refine T_val ?_;(refine E_name (by exact rfl) ?_);refine Tr_mlst (by exact List.Mem.head _) (by simp only [cellsV,List.length_map,List.length_reverse,List.length_cons,List.length_append,List.length_nil];exact (lin1 (.zt (.c (.a .v0 .n1)) (.n (2^63))) [.lt .v0 (.n 63)]) hl2) ?_)
      rw [if_pos (by rw [cellsV_empty];rfl)]
      (refine T_and ?_;refine T_val ?_;refine E_meth ?_;dsimp only;(refine E_name (by exact rfl) ?_);refine' M_fn ?hi21 ?a21 ?b21 ?c21 ?d21 ?e21 ?_;(case hi21=>exact .inl rfl);(case a21=>dsimp only;k_is);(case b21=>dsimp only;k_is);(case c21=>dsimp only;k_is);(case d21=>dsimp only;k_is);(case e21=>decide);refine Args_plain ?_;refine A_cons ?_;refine E_sub ?_;(refine E_name (by exact rfl) ?_);refine E_un ?_;refine E_int ?_;refine O_neg ?_;refine Su_mlst (by exact List.Mem.head _) (at1 _ _) (by simp only [cellsV,List.length_map,List.length_reverse,List.length_cons,List.length_append,List.length_nil];exact (lin1 (.lt (.a .v0 .n1) (.n (2^62))) [.lt .v0 (.n 63)]) hl2) ?_;refine A_nil ?_;refine WC.of (contains_c (by with_reducible assumption) (by exact Gd.le (by with_reducible assumption) rfl) (by with_reducible assumption) (by with_reducible assumption) ?_);refine Tr_bool ?_)
      rw [has_eq]
      cases hb:e.has t
      ·(rw [if_neg (by decide)];rw [if_neg (by decide)])
       exact ⟨rfl,by rw [←hp1,popIn,if_neg (by rw [hb];decide)]⟩
      ·(rw [if_pos rfl];refine T_and_nil ?_;rw [if_pos rfl];refine S_last ?_;refine S_expr ?_;refine E_meth ?_;dsimp only;(refine E_name (by exact rfl) ?_);refine M_list (by exact List.Mem.head _) PySem.F.slot_list_pop PySem.F.type_list_pop ?_;refine Args_plain ?_;refine A_nil ?_;refine B_pop popU (by simp only [cellsV,List.length_map,List.length_reverse,List.length_cons,List.length_append,List.length_nil];exact (lin1 (.le .v0 (.n 1000000)) [.lt .v0 (.n 63)]) hl2) ?_;dsimp only)
       exact ⟨_,Conv.rfl,_,Nat.lt_succ_self _,r,rfl,rfl,by rw [←hp1,popIn,if_pos hb],fun x hx=>hok1 x (.tail _ hx),by simp only [List.length_cons] at hl1;exact (lin2 (.le .v0 .v1) [.le (.a .v0 .n1) .v1]) hl1⟩
    case rest2 =>
     rintro F Y ⟨rfl,rfl⟩
     have hst2:∀ x∈popIn e st,x.ok:=fun x hx=>hst x ((popIn_sub e st).1 x hx)
     have hln2:(popIn e st).length≤i:=Nat.le_trans (popIn_sub e st).2 hln
     unfold push
     revert hst2 hln2
     generalize popIn e st=st2
     intro hst2 hln2
     clear hst hln
     (refine Then_next ?_;refine S_cons ?_)
     refine WT.imp (Q:=fun F Y=>F=AF.next∧HasE Y (oS o u d la σ₀ (merge e st2).2) (merge e st2).1 o u) ?w2 ?rest3
     case w2 =>
      refine S_while (fun n Y=>∃ e₁ st₁,n=st₁.length∧Y=⟨oS o u d la σ₀ st₁,eM e₁ o u⟩∧merge e₁ st₁=merge e st2∧e₁.ok∧(∀ x∈st₁,x.ok)∧st₁.length≤i) st2.length ⟨_,Conv.rfl,e,st2,rfl,rfl,rfl,heok,hst2,hln2⟩ ?_
      rintro n Y ⟨e₁,st₁,rfl,rfl,hm,he1,hok1,hl1⟩
      have hf:=pow_fit he1.1
      have hf2:=shl_fit he1.1
      have few:st₁.length<3→HasE ⟨oS o u d la σ₀ st₁,eM e₁ o u⟩ (oS o u d la σ₀ (merge e st2).2) (merge e st2).1 o u:=fun q=>by
       rw [←hm,merge_few q];exact ⟨rfl,rfl,rfl,rfl⟩
      have hl3:st₁.length<64:=by exact (lin2 (.lt .v0 (.n 64)) [.lt .v1 (.n 64),.le .v0 .v1]) hi64 hl1
      (refine T_cmp ?_;refine E_call ?_;dsimp only;(refine' E_builtin (v:=.builtin ?id24) ?hk24 ?e24 ?hv24 ?hn24 ?_;(case hk24=>exact rfl);(case e24=>dsimp only;k_is);(case hv24=>exact rfl);(case hn24=>decide));dsimp only;refine C_raw keeper_builtin ?_;refine Args_plain ?_;refine A_cons ?_;(refine E_name (by exact rfl) ?_);refine A_nil ?_;refine B_len_mlst (by exact List.Mem.head _) (by simp only [cellsV,List.length_map,List.length_reverse,List.length_cons,List.length_append,List.length_nil];exact (lin2 (.lt .v0 (.n (2^62))) [.lt .v1 (.n 64),.le .v0 .v1]) hi64 hl1) ?_;refine E_int ?_;refine O_ge ?_;refine Tr_bool ?_)
      by_cases q3:st₁.length<3
      ·rw [if_neg (by simp only [cellsV,List.length_map,List.length_reverse,decide_eq_true_eq];exact (lin1 (.no (.zl .n3 (.c .v0))) [.lt .v0 .n3]) q3)]
       exact ⟨rfl,few q3⟩
      ·clear few
       obtain ⟨x1,x2,x3,r,rfl⟩:∃ x1 x2 x3 r,st₁=x1::x2::x3::r:=by
        match st₁,q3 with
        | x1::x2::x3::r,_=>exact ⟨x1,x2,x3,r,rfl⟩
        | [],q=>exact absurd (by decide) q
        | [_],q=>exact absurd (by simp) q
        | [_,_],q=>exact absurd (by simp) q
       have hl4:r.length<61:=by simp only [List.length_cons] at hl3;exact (lin1 (.lt .v0 (.n 61)) [.lt (.a (.a (.a .v0 .n1) .n1) .n1) (.n 64)]) hl3
       have no:quad x3 x2 x1 e₁=false→∀ {m:List (Str×AV)},m.lookup (Str.ofString "cell_id")=some (.cell e₁.id)→m.lookup (Str.ofString "output")=some (.raw (.ref o))→m.lookup (Str.ofString "self")=some (.raw (.ref u)) →
         HasE ⟨oS o u d la σ₀ (x1::x2::x3::r),m⟩ (oS o u d la σ₀ (merge e st2).2) (merge e st2).1 o u:=fun q m h1 h2 h3=>by
        rw [←hm,merge_no q];exact ⟨rfl,h1,h2,h3⟩
       rw [if_pos (by simp only [cellsV,List.length_map,List.length_reverse,decide_eq_true_eq];exact (lin1 (.zl .n3 (.c .v0)) [.no (.lt .v0 .n3)]) q3)]
       (refine S_cons ?_;refine S_if ?_;refine T_cmp ?_;refine E_bin ?_;refine E_bin ?_;refine E_meth ?_;dsimp only;refine E_sub ?_;(refine E_name (by exact rfl) ?_);refine E_un ?_;refine E_int ?_;refine O_neg ?_;refine Su_mlst (by exact List.Mem.head _) (at3 _ _ _ _) (by simp only [cellsV,List.length_map,List.length_reverse,List.length_cons,List.length_append,List.length_nil];exact (lin1 (.lt (.a (.a (.a .v0 .n1) .n1) .n1) (.n (2^62))) [.lt .v0 (.n 61)]) hl4) ?_;refine' M_fn ?hi27 ?a27 ?b27 ?c27 ?d27 ?e27 ?_;(case hi27=>exact .inl rfl);(case a27=>dsimp only;k_is);(case b27=>dsimp only;k_is);(case c27=>dsimp only;k_is);(case d27=>dsimp only;k_is);(case e27=>decide);refine Args_plain ?_;refine A_nil ?_;refine WC.of (id_c (by with_reducible assumption) (by exact Gd.le (by with_reducible assumption) rfl)  ?_);refine E_meth ?_;dsimp only;refine E_sub ?_;(refine E_name (by exact rfl) ?_);refine E_un ?_;refine E_int ?_;refine O_neg ?_;refine Su_mlst (by exact List.Mem.head _) (at2 _ _ _) (by simp only [cellsV,List.length_map,List.length_reverse,List.length_cons,List.length_append,List.length_nil];exact (lin1 (.lt (.a (.a (.a .v0 .n1) .n1) .n1) (.n (2^62))) [.lt .v0 (.n 61)]) hl4) ?_;refine' M_fn ?hi29 ?a29 ?b29 ?c29 ?d29 ?e29 ?_;(case hi29=>exact .inl rfl);(case a29=>dsimp only;k_is);(case b29=>dsimp only;k_is);(case c29=>dsimp only;k_is);(case d29=>dsimp only;k_is);(case e29=>decide);refine Args_plain ?_;refine A_nil ?_;refine WC.of (id_c (by with_reducible assumption) (by exact Gd.le (by with_reducible assumption) rfl)  ?_);refine O_bxor ?_;refine E_meth ?_;dsimp only;refine E_sub ?_;(refine E_name (by exact rfl) ?_);refine E_un ?_;refine E_int ?_;refine O_neg ?_;refine Su_mlst (by exact List.Mem.head _) (at1 _ _) (by simp only [cellsV,List.length_map,List.length_reverse,List.length_cons,List.length_append,List.length_nil];exact (lin1 (.lt (.a (.a (.a .v0 .n1) .n1) .n1) (.n (2^62))) [.lt .v0 (.n 61)]) hl4) ?_;refine' M_fn ?hi31 ?a31 ?b31 ?c31 ?d31 ?e31 ?_;(case hi31=>exact .inl rfl);(case a31=>dsimp only;k_is);(case b31=>dsimp only;k_is);(case c31=>dsimp only;k_is);(case d31=>dsimp only;k_is);(case e31=>decide);refine Args_plain ?_;refine A_nil ?_;refine WC.of (id_c (by with_reducible assumption) (by exact Gd.le (by with_reducible assumption) rfl)  ?_);refine O_bxor ?_;refine E_meth ?_;dsimp only;(refine E_name (by exact rfl) ?_);refine' M_fn ?hi33 ?a33 ?b33 ?c33 ?d33 ?e33 ?_;(case hi33=>exact .inl rfl);(case a33=>dsimp only;k_is);(case b33=>dsimp only;k_is);(case c33=>dsimp only;k_is);(case d33=>dsimp only;k_is);(case e33=>decide);refine Args_plain ?_;refine A_nil ?_;refine WC.of (id_c (by with_reducible assumption) (by exact Gd.le (by with_reducible assumption) rfl)  ?_);refine O_ne ?_;refine Tr_bool ?_)
       by_cases c0:Builtin.bitXor (Builtin.bitXor x3.id x2.id) x1.id=e₁.id
       case neg =>
        rw [if_pos (by rw [decide_eq_false c0];rfl)]
        (refine S_last ?_;refine S_break ?_;refine Then_brk ?_)
        exact ⟨rfl,no (quad_f0 c0) rfl rfl rfl⟩
       rw [if_neg (by rw [decide_eq_true c0];decide)]
       (refine S_nil ?_;refine Then_next ?_;refine S_cons ?_;refine S_assign (by exact .inl ⟨rfl,.head _⟩) ?_;refine E_bin ?_;refine E_meth ?_;dsimp only;(refine E_name (by exact rfl) ?_);refine' M_fn ?hi35 ?a35 ?b35 ?c35 ?d35 ?e35 ?_;(case hi35=>exact .inl rfl);(case a35=>dsimp only;k_is);(case b35=>dsimp only;k_is);(case c35=>dsimp only;k_is);(case d35=>dsimp only;k_is);(case e35=>decide);refine Args_plain ?_;refine A_nil ?_;refine WC.of (lsb_c (by with_reducible assumption) (by exact Gd.le (by with_reducible assumption) rfl)  ?_);refine E_int ?_;refine O_shl (by decide) (by decide) (by with_reducible assumption) ?_;dsimp only;refine Then_next ?_;refine S_cons ?_;refine S_assign (by exact .inl ⟨rfl,.head _⟩) ?_;refine E_un ?_;refine E_bin ?_;(refine E_name (by exact rfl) ?_);refine E_bin ?_;(refine E_name (by exact rfl) ?_);refine E_int ?_;refine O_shl (by decide) (by decide) (by with_reducible assumption) ?_;refine O_add ?_;refine O_inv ?_;dsimp only;refine Then_next ?_;refine S_cons ?_;refine S_assign (by exact .inl ⟨rfl,.head _⟩) ?_;refine E_bin ?_;refine E_meth ?_;dsimp only;(refine E_name (by exact rfl) ?_);refine' M_fn ?hi39 ?a39 ?b39 ?c39 ?d39 ?e39 ?_;(case hi39=>exact .inl rfl);(case a39=>dsimp only;k_is);(case b39=>dsimp only;k_is);(case c39=>dsimp only;k_is);(case d39=>dsimp only;k_is);(case e39=>decide);refine Args_plain ?_;refine A_nil ?_;refine WC.of (id_c (by with_reducible assumption) (by exact Gd.le (by with_reducible assumption) rfl)  ?_);(refine E_name (by exact rfl) ?_);refine O_band ?_;dsimp only;refine Then_next ?_;refine S_cons ?_;refine S_if ?_;refine T_or ?_;refine T_cmp ?_;refine E_bin ?_;refine E_meth ?_;dsimp only;refine E_sub ?_;(refine E_name (by exact rfl) ?_);refine E_un ?_;refine E_int ?_;refine O_neg ?_;refine Su_mlst (by exact List.Mem.head _) (at3 _ _ _ _) (by simp only [cellsV,List.length_map,List.length_reverse,List.length_cons,List.length_append,List.length_nil];exact (lin1 (.lt (.a (.a (.a .v0 .n1) .n1) .n1) (.n (2^62))) [.lt .v0 (.n 61)]) hl4) ?_;refine' M_fn ?hi42 ?a42 ?b42 ?c42 ?d42 ?e42 ?_;(case hi42=>exact .inl rfl);(case a42=>dsimp only;k_is);(case b42=>dsimp only;k_is);(case c42=>dsimp only;k_is);(case d42=>dsimp only;k_is);(case e42=>decide);refine Args_plain ?_;refine A_nil ?_;refine WC.of (id_c (by with_reducible assumption) (by exact Gd.le (by with_reducible assumption) rfl)  ?_);(refine E_name (by exact rfl) ?_);refine O_band ?_;(refine E_name (by exact rfl) ?_);refine O_ne ?_;refine Tr_bool ?_;rw [if_pos rfl])
       by_cases c1:Builtin.bitAnd x3.id e₁.mask=Builtin.bitAnd e₁.id e₁.mask
       case neg =>
        rw [if_pos (by show (!decide (Builtin.bitAnd x3.id e₁.mask=Builtin.bitAnd e₁.id e₁.mask))=true;rw [decide_eq_false c1];rfl)]
        (refine S_last ?_;refine S_break ?_;refine Then_brk ?_)
        exact ⟨rfl,no (quad_f1 c1) rfl rfl rfl⟩
       rw [if_neg (by show ¬(!decide (Builtin.bitAnd x3.id e₁.mask=Builtin.bitAnd e₁.id e₁.mask))=true;rw [decide_eq_true c1];decide)]
       (refine T_or ?_;refine T_cmp ?_;refine E_bin ?_;refine E_meth ?_;dsimp only;refine E_sub ?_;(refine E_name (by exact rfl) ?_);refine E_un ?_;refine E_int ?_;refine O_neg ?_;refine Su_mlst (by exact List.Mem.head _) (at2 _ _ _) (by simp only [cellsV,List.length_map,List.length_reverse,List.length_cons,List.length_append,List.length_nil];exact (lin1 (.lt (.a (.a (.a .v0 .n1) .n1) .n1) (.n (2^62))) [.lt .v0 (.n 61)]) hl4) ?_;refine' M_fn ?hi46 ?a46 ?b46 ?c46 ?d46 ?e46 ?_;(case hi46=>exact .inl rfl);(case a46=>dsimp only;k_is);(case b46=>dsimp only;k_is);(case c46=>dsimp only;k_is);(case d46=>dsimp only;k_is);(case e46=>decide);refine Args_plain ?_;refine A_nil ?_;refine WC.of (id_c (by with_reducible assumption) (by exact Gd.le (by with_reducible assumption) rfl)  ?_);(refine E_name (by exact rfl) ?_);refine O_band ?_;(refine E_name (by exact rfl) ?_);refine O_ne ?_;refine Tr_bool ?_;rw [if_pos rfl])
       by_cases c2:Builtin.bitAnd x2.id e₁.mask=Builtin.bitAnd e₁.id e₁.mask
       case neg =>
        rw [if_pos (by show (!decide (Builtin.bitAnd x2.id e₁.mask=Builtin.bitAnd e₁.id e₁.mask))=true;rw [decide_eq_false c2];rfl)]
        (refine S_last ?_;refine S_break ?_;refine Then_brk ?_)
        exact ⟨rfl,no (quad_f2 c2) rfl rfl rfl⟩
       rw [if_neg (by show ¬(!decide (Builtin.bitAnd x2.id e₁.mask=Builtin.bitAnd e₁.id e₁.mask))=true;rw [decide_eq_true c2];decide)]
       (refine T_or ?_;refine T_cmp ?_;refine E_bin ?_;refine E_meth ?_;dsimp only;refine E_sub ?_;(refine E_name (by exact rfl) ?_);refine E_un ?_;refine E_int ?_;refine O_neg ?_;refine Su_mlst (by exact List.Mem.head _) (at1 _ _) (by simp only [cellsV,List.length_map,List.length_reverse,List.length_cons,List.length_append,List.length_nil];exact (lin1 (.lt (.a (.a (.a .v0 .n1) .n1) .n1) (.n (2^62))) [.lt .v0 (.n 61)]) hl4) ?_;refine' M_fn ?hi50 ?a50 ?b50 ?c50 ?d50 ?e50 ?_;(case hi50=>exact .inl rfl);(case a50=>dsimp only;k_is);(case b50=>dsimp only;k_is);(case c50=>dsimp only;k_is);(case d50=>dsimp only;k_is);(case e50=>decide);refine Args_plain ?_;refine A_nil ?_;refine WC.of (id_c (by with_reducible assumption) (by exact Gd.le (by with_reducible assumption) rfl)  ?_);(refine E_name (by exact rfl) ?_);refine O_band ?_;(refine E_name (by exact rfl) ?_);refine O_ne ?_;refine Tr_bool ?_;rw [if_pos rfl])
       by_cases c3:Builtin.bitAnd x1.id e₁.mask=Builtin.bitAnd e₁.id e₁.mask
       case neg =>
        rw [if_pos (by show (!decide (Builtin.bitAnd x1.id e₁.mask=Builtin.bitAnd e₁.id e₁.mask))=true;rw [decide_eq_false c3];rfl)]
        (refine S_last ?_;refine S_break ?_;refine Then_brk ?_)
        exact ⟨rfl,no (quad_f3 c3) rfl rfl rfl⟩
       rw [if_neg (by show ¬(!decide (Builtin.bitAnd x1.id e₁.mask=Builtin.bitAnd e₁.id e₁.mask))=true;rw [decide_eq_true c3];decide)]
       (refine T_or ?_;refine T_val ?_;refine E_meth ?_;dsimp only;(refine E_name (by exact rfl) ?_);refine' M_fn ?hi54 ?a54 ?b54 ?c54 ?d54 ?e54 ?_;(case hi54=>exact .inl rfl);(case a54=>dsimp only;k_is);(case b54=>dsimp only;k_is);(case c54=>dsimp only;k_is);(case d54=>dsimp only;k_is);(case e54=>decide);refine Args_plain ?_;refine A_nil ?_;refine WC.of (is_face_c (by with_reducible assumption) (by exact Gd.le (by with_reducible assumption) rfl) (by with_reducible assumption) ?_);refine Tr_bool ?_;rw [if_pos rfl])
       by_cases c4:e₁.u=30
       case pos =>
        rw [if_pos (decide_eq_true c4)]
        (refine S_last ?_;refine S_break ?_;refine Then_brk ?_)
        exact ⟨rfl,no (quad_f4 (decide_eq_true c4)) rfl rfl rfl⟩
       have hu:e₁.u≠30:=c4
       rw [if_neg (by rw [decide_eq_false c4];decide)]
       (refine T_or_nil ?_;rw [if_neg (by decide)];refine S_nil ?_;refine Then_next ?_;refine S_cons ?_;refine S_expr ?_;refine E_meth ?_;dsimp only;(refine E_name (by exact rfl) ?_);refine M_list (by exact List.Mem.head _) PySem.F.slot_list_pop PySem.F.type_list_pop ?_;refine Args_plain ?_;refine A_nil ?_;refine B_pop popU (by simp only [cellsV,List.length_map,List.length_reverse,List.length_cons,List.length_append,List.length_nil];exact (lin1 (.le (.a (.a .v0 .n1) .n1) (.n 1000000)) [.lt .v0 (.n 61)]) hl4) ?_;dsimp only;refine Then_next ?_;refine S_cons ?_;refine S_expr ?_;refine E_meth ?_;dsimp only;(refine E_name (by exact rfl) ?_);refine M_list (by exact List.Mem.head _) PySem.F.slot_list_pop PySem.F.type_list_pop ?_;refine Args_plain ?_;refine A_nil ?_;refine B_pop popU (by simp only [cellsV,List.length_map,List.length_reverse,List.length_cons,List.length_append,List.length_nil];exact (lin1 (.le (.a .v0 .n1) (.n 1000000)) [.lt .v0 (.n 61)]) hl4) ?_;dsimp only;refine Then_next ?_;refine S_cons ?_;refine S_expr ?_;refine E_meth ?_;dsimp only;(refine E_name (by exact rfl) ?_);refine M_list (by exact List.Mem.head _) PySem.F.slot_list_pop PySem.F.type_list_pop ?_;refine Args_plain ?_;refine A_nil ?_;refine B_pop popU (by simp only [cellsV,List.length_map,List.length_reverse,List.length_cons,List.length_append,List.length_nil];exact (lin1 (.le .v0 (.n 1000000)) [.lt .v0 (.n 61)]) hl4) ?_;dsimp only;refine Then_next ?_;refine S_last ?_;refine S_assign (by exact .inl ⟨rfl,.head _⟩) ?_;refine E_meth ?_;dsimp only;(refine E_name (by exact rfl) ?_);refine' M_fn ?hi59 ?a59 ?b59 ?c59 ?d59 ?e59 ?_;(case hi59=>exact .inl rfl);(case a59=>dsimp only;k_is);(case b59=>dsimp only;k_is);(case c59=>dsimp only;k_is);(case d59=>dsimp only;k_is);(case e59=>decide);refine Args_plain ?_;refine A_nil ?_;refine WC.of (parent_c (by with_reducible assumption) (by exact Gd.le (by with_reducible assumption) rfl) (by with_reducible assumption) (by with_reducible assumption) ?_);dsimp only)
       refine ⟨_,HasE.conv (e:=e₁.par) ⟨rfl,rfl,rfl,rfl⟩,r.length,by simp only [List.length_cons];exact lin1 (.lt .v0 (.a (.a (.a .v0 .n1) .n1) .n1)) [],e₁.par,r,rfl,rfl,by rw [←hm,merge_yes (quad_t c0 c1 c2 c3 hu)],Cel.par_ok he1 hu,fun x hx=>hok1 x (.tail _ (.tail _ (.tail _ hx))),by simp only [List.length_cons] at hl1;exact (lin2 (.le .v0 .v1) [.le (.a (.a (.a .v0 .n1) .n1) .n1) .v1]) hl1⟩
     case rest3 =>
      rintro F Y ⟨rfl,hE⟩
      have hl5:=(merge_ok st2 e heok hst2).2.2
      revert hE hl5
      generalize (merge e st2).1=e3
      generalize (merge e st2).2=st3
      intro hE hl5
      have hl6:st3.length<64:=by exact (lin3 (.lt .v0 (.n 64)) [.lt .v1 (.n 64),.le .v2 .v1,.le .v0 .v2]) hi64 hln2 hl5
      refine Then_next (WT.pre hE.conv ?_)
      (refine S_last ?_;refine S_expr ?_;refine E_meth ?_;dsimp only;(refine E_name (by exact rfl) ?_);refine M_list (by exact List.Mem.head _) PySem.F.slot_list_append PySem.F.type_list_append ?_;refine Args_plain ?_;refine A_cons ?_;(refine E_name (by exact rfl) ?_);refine A_nil ?_;refine B_append (by exact SUpd.head) (by simp only [cellsV,List.length_map,List.length_reverse,List.length_cons,List.length_append,List.length_nil];exact (lin3 (.le .v0 (.n 1000000)) [.lt .v1 (.n 64),.le .v2 .v1,.le .v0 .v2]) hi64 hln2 hl5) ?_;dsimp only)
      exact ⟨_,HasE.conv2 ⟨by rw [oS,cellsV_cons],rfl,rfl,rfl⟩,rfl⟩
 case fin =>
  intro Y hY
  subst hY
  have et:(cs'.take (cellsV cs').length).foldl nstep []=(nfold cs').reverse:=by
   rw [List.length_map,List.take_length];unfold nfold;rw [List.reverse_reverse]
  rw [et]
  have hlen:cs'.length=cs.length:=hp'.length_eq
  have hln:(nfold cs').length≤cs'.length:=by
   unfold nfold
   have:=nstep_len cs' []
   simpa using this
  have hl64:(nfold cs').length<64:=by exact (lin3 (.lt .v0 (.n 64)) [.lt .v1 (.n 64),.eq .v2 .v1,.le .v0 .v2]) h64 hlen hln
  have hl65:cs'.length<64:=by exact (lin2 (.lt .v0 (.n 64)) [.lt .v1 (.n 64),.eq .v0 .v1]) h64 hlen
  (refine Then_next ?_;dsimp only;refine S_cons ?_;refine S_if ?_;refine T_cmp ?_;refine E_call ?_;dsimp only;(refine' E_builtin (v:=.builtin ?id62) ?hk62 ?e62 ?hv62 ?hn62 ?_;(case hk62=>exact rfl);(case e62=>dsimp only;k_is);(case hv62=>exact rfl);(case hn62=>decide));dsimp only;refine C_raw keeper_builtin ?_;refine Args_plain ?_;refine A_cons ?_;(refine E_name (by exact rfl) ?_);refine A_nil ?_;refine B_len_mlst (by refine' List.Mem.tail _ ?_;exact List.Mem.head _) (by simp only [cellsV,List.length_map,List.length_reverse,List.length_cons,List.length_append,List.length_nil];exact (lin3 (.lt .v0 (.n (2^62))) [.lt .v1 (.n 64),.eq .v2 .v1,.le .v0 .v2]) h64 hlen hln) ?_;refine E_meth ?_;dsimp only;(refine E_name (by exact rfl) ?_);refine' M_fn ?hi66 ?a66 ?b66 ?c66 ?d66 ?e66 ?_;(case hi66=>refine' IsInst.turn ?hm65;(case hm65=>refine' List.Mem.tail _ ?_;refine' List.Mem.tail _ ?_;refine' List.Mem.tail _ ?_;exact List.Mem.head _));(case a66=>dsimp only;k_is);(case b66=>dsimp only;k_is);(case c66=>dsimp only;k_is);(case d66=>dsimp only;k_is);(case e66=>decide);refine Args_plain ?_;refine A_nil ?_;refine WC.of (numM_c (by with_reducible assumption) (by exact Gd.le (by with_reducible assumption) rfl) (by refine' List.Mem.tail _ ?_;refine' List.Mem.tail _ ?_;refine' List.Mem.tail _ ?_;exact List.Mem.head _) (by exact List.Mem.head _) (by simp only [cellsV,List.length_map,List.length_reverse,List.length_cons,List.length_append,List.length_nil];exact (lin2 (.lt .v0 (.n (2^62))) [.lt .v1 (.n 64),.eq .v0 .v1]) h64 hlen) ?_);refine O_lt ?_;refine Tr_bool ?_)
  by_cases hq:(nfold cs').length<cs.length
  ·rw [if_pos (by simp only [cellsV,List.length_map,List.length_reverse,decide_eq_true_eq];exact (lin3 (.zt (.c .v0) (.c .v1)) [.eq .v1 .v2,.lt .v0 .v2]) hlen hq)]
   (refine S_cons ?_;refine S_assignT ?_;(refine E_name (by exact rfl) ?_);refine A_attr ?_;dsimp only;(refine E_name (by exact rfl) ?_);dsimp only)
   refine ⟨u,590,d,[cidS],[.raw (.ref la)],(la,.lst (cellsV cs'))::(o,.lst (cellsV (nfold cs').reverse.reverse))::(561,tabM)::(u,uniM d o)::σ₀,rfl,.tail (.tail (.tail .head)),(by show 1≤100;decide),by ((try dsimp only);k_is),by ((try dsimp only);k_is),by ((try dsimp only);k_is),by ((try dsimp only);k_is),?_⟩
   (refine Then_next ?_;refine S_last ?_;refine S_return ?_;refine E_bool ?_;refine Then_ret ?_;dsimp only)
   rw [List.reverse_reverse]
   exact hT o cs' hp' hs' hq
  ·rw [if_neg (by simp only [cellsV,List.length_map,List.length_reverse,decide_eq_true_eq];exact (lin3 (.no (.zt (.c .v0) (.c .v1))) [.eq .v1 .v2,.no (.lt .v0 .v2)]) hlen hq)]
   (refine S_nil ?_;refine Then_next ?_;refine S_last ?_;refine S_return ?_;refine E_bool ?_;dsimp only)
   show Q (.bool false) ⟨(la,.lst (cellsV cs'))::(o,.lst (cellsV (nfold cs').reverse.reverse))::(561,tabM)::(u,uniM d la)::σ₀,m₀⟩
   rw [List.reverse_reverse]
   exact hF o cs' hp' hs' hq
theorem normalize_c {c:Cx} {Q:AV→AX→Prop} {σ₀:List (Addr×MO)} {m₀:List (Str×AV)} {u d la:Addr} {cs:List Cel} (L:Lw c) (G:Gd c.A 8) (hok:∀ e∈cs,e.ok) (h64:cs.length<64)
  (h:∀ lb cs',cs'.Perm cs→cs'.Pairwise (fun a b=>a.id≤b.id)→Q (.bool (decide ((nfold cs').length<cs.length))) ⟨(lb,.lst (cellsV (if (nfold cs').length<cs.length then nfold cs' else cs')))::(u,uniM d lb)::(561,tabM)::σ₀,m₀⟩) :
  WF c (.ref 566) [.raw (.ref u)] [] Q ⟨(la,.lst (cellsV cs))::(u,uniM d la)::(561,tabM)::σ₀,m₀⟩:=by
 refine WF.conv (normalize_a L G hok h64 (fun o cs' hp hs hq=>?_) fun o cs' hp hs hq=>?_)
 ·have:=h o cs' hp hs
  rw [if_pos hq,decide_eq_true hq] at this
  refine ⟨_,_,(ConvV.weak (X:=⟨(la,.lst (cellsV cs'))::(o,.lst (cellsV (nfold cs')))::(561,tabM)::(u,uniM d o)::σ₀,m₀⟩) (Y:=⟨(o,.lst (cellsV (nfold cs')))::(561,tabM)::(u,uniM d o)::σ₀,m₀⟩) (List.sublist_cons_self _ _) fun _ _ e=>e).trans (ConvV.perm (τ:=(o,.lst (cellsV (nfold cs')))::(u,uniM d o)::(561,tabM)::σ₀) ?_),this⟩
  exact (List.Perm.swap _ _ _).cons _
 ·have:=h la cs' hp hs
  rw [if_neg hq,decide_eq_false hq] at this
  refine ⟨_,_,(ConvV.weak (X:=⟨(la,.lst (cellsV cs'))::(o,.lst (cellsV (nfold cs')))::(561,tabM)::(u,uniM d la)::σ₀,m₀⟩) (Y:=⟨(la,.lst (cellsV cs'))::(561,tabM)::(u,uniM d la)::σ₀,m₀⟩) ((List.sublist_cons_self _ _).cons_cons _) fun _ _ e=>e).trans (ConvV.perm (τ:=(la,.lst (cellsV cs'))::(u,uniM d la)::(561,tabM)::σ₀) ?_),this⟩
  exact (List.Perm.swap _ _ _).cons _
theorem initU_c {c:Cx} {Q:AV→AX→Prop} {σ₀:List (Addr×MO)} {m₀:List (Str×AV)} {u d:Addr} {cs:List Cel} (L:Lw c) (G:Gd c.A 10) (hok:∀ e∈cs,e.ok) (h64:cs.length<64)
  (h:∀ lb cs',cs'.Perm cs→cs'.Pairwise (fun a b=>a.id≤b.id)→Q .none ⟨(lb,.lst (cellsV (if (nfold cs').length<cs.length then nfold cs' else cs')))::(u,uniM d lb)::(561,tabM)::σ₀,m₀⟩) :
  WF c (.ref 470) [.raw (.ref u),.lst (cellsV cs)] [] Q ⟨(u,.inst 590 d [] [])::(561,tabM)::σ₀,m₀⟩:=by
 (have _:PySem.Challenge.rw_lp0003_07=PySem.Challenge.rw_lp0003_07→∀ w:World,(hd7.heap_1 w.params).In default→True:=by (k_fill;intros;trivial))
 have L₀:=L
 obtain ⟨P,w,K,g,A,env,own,E,fx⟩:=c
 obtain ⟨hP,hK,hC,hN⟩:=L
 dsimp only at hP hK hC hN G
 subst hP hK
 refine' WF.go (M:=[((Str.ofString "self"),.raw (.ref u)),((Str.ofString "cell_ids"),.lst (cellsV cs)),((Str.ofString "raw"),.bool true)]) G ?k1 ?k2 ?k3 ?k4 ?k5 ?k6 ?k7 ?k8 ?_
 case k1=>(dsimp only;k_is)
 case k2=>(dsimp only;k_is)
 case k3=>exact bind2d (d:=.bool true) (fun s v u X=>binds_K X rfl (by (dsimp only;k_is)) rfl rfl rfl) fun _=>.bool _
 case k4=>rfl
 case k5=>decide
 case k6=>rfl
 case k7=>rfl
 case k8=>rfl
 intro F c' kn he ho ok G'
 have L':=L₀.kin kn
 obtain ⟨P',w',K',g',A',env',own',E',fx'⟩:=c'
 obtain ⟨f1,f2,f3,f4,f5⟩:=kn
 dsimp only at f1 f2 f3 f4 f5 he ho G'
 subst f1 f2 f3 f4 f5 he ho
 clear L₀
 simp only [List.reverse_cons,List.reverse_nil,List.nil_append,List.cons_append]
 (refine S_last ?_;refine S_if ?_;refine T_cmp ?_;(refine E_name (by exact rfl) ?_);refine E_none ?_;refine O_isNo lst_some ?_;refine Tr_bool ?_;rw [if_neg (by decide)];refine S_cons ?_;refine S_assignT ?_)
 refine' E_map (X₁:=⟨(u,.inst 590 d [] [])::(561,tabM)::σ₀,[(Str.ofString "raw", .bool true),(Str.ofString "cell_ids", .lst (cellsV cs)),(Str.ofString "self", .raw (.ref u))]⟩) (xs:=cellsV cs) (ys:=cellsV cs) [] ?i rfl ?z (fun p h=>nomatch h) ?ifs ?item ?q ?nd ?free ?cell ?kind ?names ?as ?f
 ((case nd=>decide);(case free=>exact freeOk rfl);(case cell=>decide);(case kind=>rfl);(case names=>decide);(case as=>rfl);(case f=>intro x;rfl);(case ifs=>rfl))
 case i =>
  ((refine E_name (by exact rfl) ?_);dsimp only)
  exact I_lst ⟨rfl,rfl,rfl⟩
 case z=>rw [List.length_map];exact (lin1 (.le .v0 (.n 1000000)) [.lt .v0 (.n 64)]) h64
 case item =>
  intro C D i x y okC hx hy
  rw [hx] at hy;cases hy
  obtain ⟨e,he,rfl⟩:=cellsV_get hx
  dsimp only [Cx.block]
  (refine A_name (by exact .inl ⟨rfl,.head _⟩) ?_;dsimp only;refine E_ifexp ?_;refine T_val ?_;refine E_call ?_;dsimp only;(refine' E_builtin (v:=.builtin ?id3) ?hk3 ?e3 ?hv3 ?hn3 ?_;(case hk3=>exact rfl);(case e3=>dsimp only;k_is);(case hv3=>exact rfl);(case hn3=>decide));dsimp only;refine C_raw keeper_builtin ?_;refine Args_plain ?_;refine A_cons ?_;(refine E_name (by exact rfl) ?_);refine A_cons ?_;(refine' E_global ?hk5 ?e5 ?_;(case hk5=>exact rfl);(case e5=>dsimp only;k_is));refine A_nil ?_;refine' B_isi ?hi6 ?a6 ?_;(case hi6=>exact .inl rfl);(case a6=>dsimp only;k_is);refine Tr_bool ?_;rw [if_pos rfl];(refine E_name (by exact rfl) ?_);dsimp only)
  exact ⟨rfl,rfl,fun p h=>nomatch h⟩
 case q =>
  intro la
  (refine A_attr ?_;dsimp only;(refine E_name (by exact rfl) ?_);dsimp only)
  refine ⟨u,590,d,[],[],(la,.lst (cellsV cs))::(u,uniM d la)::(561,tabM)::σ₀,rfl,.tail .head,by decide,by (k_is),by (k_is),by (k_is),by (k_is),?_⟩
  (refine Then_next ?_;refine S_last ?_;refine S_if ?_;refine T_val ?_;(refine E_name (by exact rfl) ?_);refine Tr_bool ?_;rw [if_pos rfl];refine S_last ?_;refine S_expr ?_;refine E_meth ?_;dsimp only;(refine E_name (by exact rfl) ?_);refine' M_fn ?hi12 ?a12 ?b12 ?c12 ?d12 ?e12 ?_;(case hi12=>refine' IsInst.turn ?hm11;(case hm11=>refine' List.Mem.tail _ ?_;exact List.Mem.head _));(case a12=>dsimp only;k_is);(case b12=>dsimp only;k_is);(case c12=>dsimp only;k_is);(case d12=>dsimp only;k_is);(case e12=>decide);refine Args_plain ?_;refine A_nil ?_)
  refine WC.of (normalize_c (by (with_reducible assumption)) (by (exact Gd.le (by with_reducible assumption) rfl)) hok h64 fun lb cs' hp hs=>?_)
  skip
  exact h lb cs' hp hs
theorem newU_c {c:Cx} {Q:AV→AX→Prop} {σ₀:List (Addr×MO)} {m₀:List (Str×AV)} {cs:List Cel} (L:Lw c) (G:Gd c.A 11) (hok:∀ e∈cs,e.ok) (h64:cs.length<64)
  (h:∀ cs',cs'.Perm cs→cs'.Pairwise (fun a b=>a.id≤b.id)→Q (.uni (if (nfold cs').length<cs.length then nfold cs' else cs')) ⟨(561,tabM)::σ₀,m₀⟩) :
  WF c (.ref 590) [.lst (cellsV cs)] [] Q ⟨(561,tabM)::σ₀,m₀⟩:=by
 (have _:PySem.Challenge.rw_lp0003_07=PySem.Challenge.rw_lp0003_07→∀ w:World,(hd7.heap_1 w.params).In default→True:=by (k_fill;intros;trivial))
 have L₀:=L
 obtain ⟨P,w,K,g,A,env,own,E,fx⟩:=c
 obtain ⟨hP,hK,hC,hN⟩:=L
 dsimp only at hP hK hC hN G
 subst hP hK
 refine' WF.conv (WF.new ?k1 ?k2 ?k3 G ?_)
 case k1=>(dsimp only;k_is)
 case k2=>(dsimp only;k_is)
 case k3=>(dsimp only;k_is)
 intro a dd c' kn he ho ok G'
 refine initU_c (L₀.kin kn) G' hok h64 fun lb cs' hp hs=>⟨rfl,_,_,?_,h cs' hp hs⟩
 refine ConvV.trans (V':=.raw (.ref a)) (X':=⟨(a,.inst 590 dd [cidS] [.lst (cellsV (if (nfold cs').length<cs.length then nfold cs' else cs'))])::(561,tabM)::σ₀,m₀⟩) ?_ (ConvV.freeze (m':=m₀) .head rfl .here fun x V e=>⟨V,e,.same V⟩)
 exact ConvV.freezeIn (X:=⟨(lb,.lst (cellsV (if (nfold cs').length<cs.length then nfold cs' else cs')))::(a,uniM dd lb)::(561,tabM)::σ₀,m₀⟩) .head rfl .head (.inst (.cons .here .nil)) (.same _) fun x V e=>⟨V,e,.same V⟩
theorem cellid_c {c:Cx} {Q:AV→AX→Prop} {X:AX} {cs:List Cel} {e₀:Cel} {i:Int} (L:Lw c) (G:Gd c.A 1) (hi:atI (cellsV cs) i=some (.cell e₀.id)) (hz:(cellsV cs).length<2^62) (h:Q (.cell e₀.id) X):WF c (.ref 552) [.uni cs,.int i] [] Q X:=by
 (have _:PySem.Challenge.rw_lp0003_07=PySem.Challenge.rw_lp0003_07→∀ w:World,(hd7.heap_1 w.params).In default→True:=by (k_fill;intros;trivial))
 have L₀:=L
 obtain ⟨P,w,K,g,A,env,own,E,fx⟩:=c
 obtain ⟨hP,hK,hC,hN⟩:=L
 dsimp only at hP hK hC hN G
 subst hP hK
 refine' WF.go (M:=[((Str.ofString "self"),.uni cs),((Str.ofString "i"),.int i)]) G ?k1 ?k2 ?k3 ?k4 ?k5 ?k6 ?k7 ?k8 ?_
 case k1=>(dsimp only;k_is)
 case k2=>(dsimp only;k_is)
 case k3=>exact bind2 fun s v u X=>.of_eq rfl
 case k4=>rfl
 case k5=>decide
 case k6=>rfl
 case k7=>rfl
 case k8=>rfl
 intro F c' kn he ho ok G'
 have L':=L₀.kin kn
 obtain ⟨P',w',K',g',A',env',own',E',fx'⟩:=c'
 obtain ⟨f1,f2,f3,f4,f5⟩:=kn
 dsimp only at f1 f2 f3 f4 f5 he ho G'
 subst f1 f2 f3 f4 f5 he ho
 clear L₀
 simp only [List.reverse_cons,List.reverse_nil,List.nil_append,List.cons_append]
 (refine S_last ?_;refine S_return ?_;refine E_sub ?_;refine E_attr ?_;(refine E_name (by exact rfl) ?_);refine' G_own (ca:=none) ?hi2 ?a2 ?b2 ?c2 ?d2 ?e2 ?f2 ?_;(case hi2=>exact .inl rfl);(case a2=>dsimp only;k_is);(case b2=>dsimp only;k_is);(case c2=>dsimp only;k_is);(case d2=>dsimp only;k_is);(case e2=>exact rfl);(case f2=>exact rfl);(refine E_name (by exact rfl) ?_))
 exact Su_lst hi hz h
theorem cellids_c {c:Cx} {Q:AV→AX→Prop} {X:AX} {cs:List Cel} (L:Lw c) (G:Gd c.A 1)  (h:Q (.lst (cellsV cs)) X):WF c (.ref 559) [.uni cs] [] Q X:=by
 (have _:PySem.Challenge.rw_lp0003_07=PySem.Challenge.rw_lp0003_07→∀ w:World,(hd7.heap_1 w.params).In default→True:=by (k_fill;intros;trivial))
 have L₀:=L
 obtain ⟨P,w,K,g,A,env,own,E,fx⟩:=c
 obtain ⟨hP,hK,hC,hN⟩:=L
 dsimp only at hP hK hC hN G
 subst hP hK
 refine' WF.go (M:=[((Str.ofString "self"),.uni cs)]) G ?k1 ?k2 ?k3 ?k4 ?k5 ?k6 ?k7 ?k8 ?_
 case k1=>(dsimp only;k_is)
 case k2=>(dsimp only;k_is)
 case k3=>exact bind1 fun s v X=>.of_eq rfl
 case k4=>rfl
 case k5=>decide
 case k6=>rfl
 case k7=>rfl
 case k8=>rfl
 intro F c' kn he ho ok G'
 have L':=L₀.kin kn
 obtain ⟨P',w',K',g',A',env',own',E',fx'⟩:=c'
 obtain ⟨f1,f2,f3,f4,f5⟩:=kn
 dsimp only at f1 f2 f3 f4 f5 he ho G'
 subst f1 f2 f3 f4 f5 he ho
 clear L₀
 simp only [List.reverse_cons,List.reverse_nil,List.nil_append,List.cons_append]
 (refine S_last ?_;refine S_return ?_;refine E_attr ?_;(refine E_name (by exact rfl) ?_);refine' G_own (ca:=none) ?hi5 ?a5 ?b5 ?c5 ?d5 ?e5 ?f5 ?_;(case hi5=>exact .inl rfl);(case a5=>dsimp only;k_is);(case b5=>dsimp only;k_is);(case c5=>dsimp only;k_is);(case d5=>dsimp only;k_is);(case e5=>exact rfl);(case f5=>exact rfl);dsimp only)
 exact h
theorem ids_eq (cs ds:List Cel):((cellsV cs).length==(cellsV ds).length && (List.range (cellsV cs).length).all fun i=>decide ((cs.map Cel.id)[i]?=(ds.map Cel.id)[i]?))=decide (cs.map Cel.id=ds.map Cel.id):=by
 rw [Bool.eq_iff_iff]
 simp only [Bool.and_eq_true,beq_iff_eq,List.all_eq_true,decide_eq_true_eq,List.length_map,List.mem_range]
 constructor
 ·rintro ⟨h1,h2⟩
  refine List.ext_getElem? fun i=>?_
  by_cases hi:i<cs.length
  ·exact h2 i hi
  ·rw [List.getElem?_eq_none (by simp;exact (lin2 (.le .v0 .v1) [.no (.lt .v1 .v0)]) hi),List.getElem?_eq_none (by simp;exact (lin3 (.le .v0 .v1) [.eq .v2 .v0,.no (.lt .v1 .v2)]) h1 hi)]
 ·intro h
  refine ⟨by have:=congrArg List.length h;simpa using this,fun i _=>by rw [h]⟩
theorem cell_same {S:Sto} {hp:Heap} (hS:∀ b o,S b o→hp.get? b=some o) {v:Value} {n k:Int} (h:Rep S v (.cell n)) (h':Rep S v (.cell k)):n=k:=by
 obtain ⟨a,d,es,ep,rfl,h1,h2,h3⟩:=h.inst_inv
 obtain ⟨a',d',es',ep',e,g1,g2,g3⟩:=h'.inst_inv
 cases e
 have e1:=hS _ _ h1
 rw [hS _ _ g1] at e1
 cases e1
 have e2:=hS _ _ h2
 rw [hS _ _ g2] at e2
 cases e2
 obtain ⟨e,r,t,rfl,_,r1,_⟩:=h3.cons_inv
 obtain ⟨e',r',t',q,_,r2,_⟩:=g3.cons_inv
 cases q
 obtain ⟨t1,e1⟩:=r1.int_inv
 obtain ⟨t2,e2⟩:=r2.int_inv
 rw [e1] at e2
 cases e2;rfl
theorem ueq_c {c:Cx} {Q:AV→AX→Prop} {X:AX} {cs ds:List Cel} (L:Lw c) (G:Gd c.A 4)  (h:Q (.bool (decide (cs.map Cel.id=ds.map Cel.id))) X):WF c (.ref 477) [.uni cs,.uni ds] [] Q X:=by
 (have _:PySem.Challenge.rw_lp0003_07=PySem.Challenge.rw_lp0003_07→∀ w:World,(hd7.heap_1 w.params).In default→True:=by (k_fill;intros;trivial))
 have L₀:=L
 obtain ⟨P,w,K,g,A,env,own,E,fx⟩:=c
 obtain ⟨hP,hK,hC,hN⟩:=L
 dsimp only at hP hK hC hN G
 subst hP hK
 refine' WF.go (M:=[((Str.ofString "self"),.uni cs),((Str.ofString "other"),.uni ds)]) G ?k1 ?k2 ?k3 ?k4 ?k5 ?k6 ?k7 ?k8 ?_
 case k1=>(dsimp only;k_is)
 case k2=>(dsimp only;k_is)
 case k3=>exact bind2 fun s v u X=>.of_eq rfl
 case k4=>rfl
 case k5=>decide
 case k6=>rfl
 case k7=>rfl
 case k8=>rfl
 intro F c' kn he ho ok G'
 have L':=L₀.kin kn
 obtain ⟨P',w',K',g',A',env',own',E',fx'⟩:=c'
 obtain ⟨f1,f2,f3,f4,f5⟩:=kn
 dsimp only at f1 f2 f3 f4 f5 he ho G'
 subst f1 f2 f3 f4 f5 he ho
 clear L₀
 simp only [List.reverse_cons,List.reverse_nil,List.nil_append,List.cons_append]
 (refine S_last ?_;refine S_return ?_;refine E_and ?_;refine E_call ?_;dsimp only;(refine' E_builtin (v:=.builtin ?id6) ?hk6 ?e6 ?hv6 ?hn6 ?_;(case hk6=>exact rfl);(case e6=>dsimp only;k_is);(case hv6=>exact rfl);(case hn6=>decide));dsimp only;refine C_raw keeper_builtin ?_;refine Args_plain ?_;refine A_cons ?_;(refine E_name (by exact rfl) ?_);refine A_cons ?_;refine E_attr ?_;(refine E_name (by exact rfl) ?_);refine' G_class ?hi9 ?a9 ?b9 ?c9 ?d9 ?e9 ?f9 ?_;(case hi9=>exact .inl rfl);(case a9=>dsimp only;k_is);(case b9=>dsimp only;k_is);(case c9=>dsimp only;k_is);(case d9=>dsimp only;k_is);(case e9=>dsimp only;k_is);(case f9=>dsimp only;k_is);skip;refine A_nil ?_;refine' B_isi ?hi10 ?a10 ?_;(case hi10=>exact .inl rfl);(case a10=>dsimp only;k_is);refine Tr_bool ?_;dsimp only;rw [if_pos rfl];refine E_cmp ?_;refine E_attr ?_;(refine E_name (by exact rfl) ?_);refine' G_own (ca:=none) ?hi12 ?a12 ?b12 ?c12 ?d12 ?e12 ?f12 ?_;(case hi12=>exact .inl rfl);(case a12=>dsimp only;k_is);(case b12=>dsimp only;k_is);(case c12=>dsimp only;k_is);(case d12=>dsimp only;k_is);(case e12=>exact rfl);(case f12=>exact rfl);refine E_attr ?_;(refine E_name (by exact rfl) ?_);refine' G_own (ca:=none) ?hi14 ?a14 ?b14 ?c14 ?d14 ?e14 ?f14 ?_;(case hi14=>exact .inl rfl);(case a14=>dsimp only;k_is);(case b14=>dsimp only;k_is);(case c14=>dsimp only;k_is);(case d14=>dsimp only;k_is);(case e14=>exact rfl);(case f14=>exact rfl))
 rw [←ids_eq] at h
 refine' O_eqInst (C:=453) (f:=85) (ks:=[Str.ofString "_CellId__id"]) (d:=2) ?a1 ?a2 ?a3 ?a4 ?a5 ?a6 ?a7 ?a8 h
 case a1=>exact G'.le rfl
 case a2=>intro i U hU;obtain ⟨e,_,rfl⟩:=cellsV_get hU;exact ⟨_,.inl rfl⟩
 case a3=>intro i U hU;obtain ⟨e,_,rfl⟩:=cellsV_get hU;exact ⟨_,.inl rfl⟩
 case a4=>(dsimp only;k_is)
 case a5=>(dsimp only;k_is)
 case a6=>(dsimp only;k_is)
 case a7 =>
  intro i U W hU hW
  obtain ⟨e,he,rfl⟩:=cellsV_get hU
  obtain ⟨k,hk,rfl⟩:=cellsV_get hW
  refine eq_c (by (exact ⟨rfl,rfl,by assumption,by assumption⟩)) (Gd.in1 (d:=2) (G'.le rfl)) ⟨?_,rfl⟩
  rw [List.getElem?_map,List.getElem?_map,he,hk]
  simp
 case a8 =>
  intro S hp i U W v hS hU hW rU rW
  obtain ⟨e,he,rfl⟩:=cellsV_get hU
  obtain ⟨k,hk,rfl⟩:=cellsV_get hW
  have:e.id=k.id:=cell_same hS rU rW
  rw [List.getElem?_map,List.getElem?_map,he,hk]
  simp [this]
abbrev Sd (cs:List Cel):Prop:=cs.Pairwise fun a b=>a.id≤b.id
def blc (cs:List Cel) (n:Int):Nat:=(cs.filter fun c=>decide (c.id<n)).length
theorem blc_le (cs:List Cel) (n:Int):blc cs n≤cs.length:=List.length_filter_le _ _
theorem bl_lt {cs:List Cel} {n:Int} (hs:Sd cs):∀ {i:Nat} {c:Cel},cs[i]?=some c→(c.id<n↔i<blc cs n):=by
 induction cs with
 | nil=>intro i c h;simp at h
 | cons a r ih =>
  intro i c h
  obtain ⟨h1,h2⟩:=List.pairwise_cons.mp hs
  by_cases ha:a.id<n
  ·have e:blc (a::r) n=blc r n+1:=by unfold blc;rw [List.filter_cons,if_pos (decide_eq_true ha)];rfl
   rw [e]
   cases i with
   | zero=>simp at h;subst h;exact ⟨fun _=>Nat.succ_pos _,fun _=>ha⟩
   | succ i =>
    simp at h
    have:=ih h2 h
    rw [this];lia
  ·have e:blc (a::r) n=0:=by
    unfold blc
    rw [List.length_eq_zero_iff,List.filter_eq_nil_iff]
    intro b hb
    rcases List.mem_cons.mp hb with rfl | hb
    ·simpa using ha
    ·have:=h1 b hb
     simp only [decide_eq_true_eq];exact (lin [] [_,_,_] (.no (.zt .v0 .v1)) [.no (.zt .v2 .v1),.zl .v2 .v0]) ha this
   rw [e]
   have hc:a.id≤c.id:=by
    cases i with
    | zero=>simp at h;subst h;exact Int.le_refl _
    | succ i=>simp at h;exact h1 c (List.mem_of_getElem? h)
   lia
theorem atI_nat {xs:List AV} {i:Nat} {V:AV} (h:xs[i]?=some V):atI xs i=some V:=by
 unfold atI
 rw [if_pos (by exact lin1 (.zl .n0 (.c .v0)) [])]
 exact h
theorem cellsV_at {cs:List Cel} {i:Nat} {c:Cel} (h:cs[i]?=some c):(cellsV cs)[i]?=some (.cell c.id):=by
 rw [List.getElem?_map,h];rfl
def inC (cs:List Cel) (e:Cel):Prop:=(∃ c,cs[blc cs e.id]?=some c∧c.first.id≤e.id)∨(0<blc cs e.id∧∃ c,cs[blc cs e.id-1]?=some c∧e.id≤c.last.id)
def meetC (cs:List Cel) (e:Cel):Prop:=(∃ c,cs[blc cs e.id]?=some c∧c.first.id≤e.last.id)∨(0<blc cs e.id∧∃ c,cs[blc cs e.id-1]?=some c∧e.first.id≤c.last.id)
theorem B_bl {c:Cx} {X:AX} {Q:AV→AX→Prop} {cs:List Cel} {e₀:Cel} (L:Lw c) (G:Gd c.A 3) (hs:Sd cs) (h62:cs.length<2^61) (h:Q (.int (blc cs e₀.id)) X):WC c (.builtin "_bisect.bisect_left") [.lst (cellsV cs),.cell e₀.id] [] Q X:=by
 (have _:PySem.Challenge.rw_lp0003_07=PySem.Challenge.rw_lp0003_07→∀ w:World,(hd7.heap_1 w.params).In default→True:=by (k_fill;intros;trivial))
 have L₀:=L
 obtain ⟨P,w,K,g,A,env,own,E,fx⟩:=c
 obtain ⟨hP,hK,hC,hN⟩:=L
 dsimp only at hP hK hC hN G
 subst hP hK
 refine' B_bisect (C:=453) (f:=99) (ks:=[Str.ofString "_CellId__id"]) (k:=blc cs e₀.id) (d:=2) ?b1 ?b2 ?b3 ?b4 ?b5 ?b6 ?b7 ?b8 h
 case b1=>exact G
 case b2=>exact ⟨_,.inl rfl⟩
 case b3=>intro i U hU;obtain ⟨e,_,rfl⟩:=cellsV_get hU;exact ⟨_,.inl rfl⟩
 case b4=>rw [List.length_map];exact (lin1 (.lt .v0 (.n (2^62))) [.lt .v0 (.n (2^61))]) h62
 case b5=>(dsimp only;k_is)
 case b6=>(dsimp only;k_is)
 case b7=>rw [List.length_map];exact blc_le _ _
 case b8 =>
  intro i U hU
  obtain ⟨e,he,rfl⟩:=cellsV_get hU
  refine lt_c ⟨L₀.P,L₀.K,L₀.C,L₀.N⟩ (Gd.in1 (d:=2) G) ⟨?_,rfl⟩
  rw [decide_eq_decide.mpr (bl_lt hs he)]
theorem atI_pred {xs:List AV} {k:Nat} {V:AV} (hk:0<k) (h:xs[k-1]?=some V):atI xs ((k:Int)-1)=some V:=by
 have e:(k:Int)-1=((k-1:Nat):Int):=by exact (lin2 (.ze (.s (.c .v0) .n1) (.c .v1)) [.lt .n0 .v0,.sb .v1 .v0 .n1]) hk (sbc _ _)
 rw [e];exact atI_nat h
theorem get_lt {cs:List Cel} {k:Nat} (h:k<cs.length):∃ c,cs[k]?=some c∧c∈cs:=⟨cs[k],List.getElem?_eq_getElem h,List.getElem_mem _⟩
theorem none_iff {k:Nat} {A B:Prop} (hA:¬A) (k0:k=0):(!decide ((k:Int)=0))=true↔(A∨(0<k∧B)):=by
 subst k0
 exact ⟨fun q=>absurd q (by decide),fun q=>q.elim (fun z=>absurd z hA) fun z=>absurd z.1 (Nat.lt_irrefl _)⟩
theorem ret_iff {Q:AV→AX→Prop} {X:AX} {p:Prop} (h:∀ b:Bool,(b=true↔p)→Q (.bool b) X) {b:Bool} (e:b=true↔p):Q (.bool b) X:=h b e
theorem ucell_c {c:Cx} {Q:AV→AX→Prop} {X:AX} {cs:List Cel} {e₀:Cel} (L:Lw c) (G:Gd c.A 7) (hok:∀ c∈cs,c.ok) (he:e₀.ok) (hs:Sd cs) (h62:cs.length<2^61) (h:∀ b:Bool,(b=true↔inC cs e₀)→Q (.bool b) X):WF c (.ref 580) [.uni cs,.cell e₀.id] [] Q X:=by
 (have _:PySem.Challenge.rw_lp0003_07=PySem.Challenge.rw_lp0003_07→∀ w:World,(hd7.heap_1 w.params).In default→True:=by (k_fill;intros;trivial))
 have L₀:=L
 obtain ⟨P,w,K,g,A,env,own,E,fx⟩:=c
 obtain ⟨hP,hK,hC,hN⟩:=L
 dsimp only at hP hK hC hN G
 subst hP hK
 refine' WF.go (M:=[((Str.ofString "self"),.uni cs),((Str.ofString "args"),.tup [.cell e₀.id])]) G ?k1 ?k2 ?k3 ?k4 ?k5 ?k6 ?k7 ?k8 ?_
 case k1=>(dsimp only;k_is)
 case k2=>(dsimp only;k_is)
 case k3=>exact bindS1 fun v u=>⟨_,rfl,fun _=>rfl⟩
 case k4=>rfl
 case k5=>decide
 case k6=>rfl
 case k7=>rfl
 case k8=>rfl
 intro F c' kn he ho ok G'
 have L':=L₀.kin kn
 obtain ⟨P',w',K',g',A',env',own',E',fx'⟩:=c'
 obtain ⟨f1,f2,f3,f4,f5⟩:=kn
 dsimp only at f1 f2 f3 f4 f5 he ho G'
 subst f1 f2 f3 f4 f5 he ho
 clear L₀
 simp only [List.reverse_cons,List.reverse_nil,List.nil_append,List.cons_append]
 (refine S_last ?_;refine S_if ?_;refine T_and ?_;refine T_cmp ?_;refine E_call ?_;dsimp only;(refine' E_builtin (v:=.builtin ?id1) ?hk1 ?e1 ?hv1 ?hn1 ?_;(case hk1=>exact rfl);(case e1=>dsimp only;k_is);(case hv1=>exact rfl);(case hn1=>decide));dsimp only;refine C_raw keeper_builtin ?_;refine Args_plain ?_;refine A_cons ?_;(refine E_name (by exact rfl) ?_);refine A_nil ?_;refine B_len_tup (by simp only [cellsV,List.length_map,List.length_reverse,List.length_cons,List.length_append,List.length_nil];decide) ?_;refine E_int ?_;refine O_eq ?_;refine Tr_bool ?_;rw [if_pos (by rfl)];refine T_and ?_;refine T_val ?_;refine E_call ?_;dsimp only;(refine' E_builtin (v:=.builtin ?id3) ?hk3 ?e3 ?hv3 ?hn3 ?_;(case hk3=>exact rfl);(case e3=>dsimp only;k_is);(case hv3=>exact rfl);(case hn3=>decide));dsimp only;refine C_raw keeper_builtin ?_;refine Args_plain ?_;refine A_cons ?_;refine E_sub ?_;(refine E_name (by exact rfl) ?_);refine E_int ?_;refine Su_tup (i:=0) rfl (by simp only [cellsV,List.length_map,List.length_reverse,List.length_cons,List.length_append,List.length_nil];decide) ?_;refine A_cons ?_;(refine' E_global ?hk5 ?e5 ?_;(case hk5=>exact rfl);(case e5=>dsimp only;k_is));refine A_nil ?_;refine' B_isi ?hi6 ?a6 ?_;(case hi6=>exact .inl rfl);(case a6=>dsimp only;k_is);refine Tr_bool ?_;rw [if_pos rfl];refine T_and_nil ?_;rw [if_pos rfl];refine S_cons ?_;refine S_assign (by exact .inl ⟨rfl,.head _⟩) ?_;refine E_sub ?_;(refine E_name (by exact rfl) ?_);refine E_int ?_;refine Su_tup (i:=0) rfl (by simp only [cellsV,List.length_map,List.length_reverse,List.length_cons,List.length_append,List.length_nil];decide) ?_;dsimp only;refine Then_next ?_;refine S_cons ?_;refine S_assign (by exact .inl ⟨rfl,.head _⟩) ?_;refine E_call ?_;dsimp only;(refine' E_global ?hk8 ?e8 ?_;(case hk8=>exact rfl);(case e8=>dsimp only;k_is));refine C_raw keeper_builtin ?_;refine Args_plain ?_;refine A_cons ?_;refine E_attr ?_;(refine E_name (by exact rfl) ?_);refine' G_own (ca:=none) ?hi10 ?a10 ?b10 ?c10 ?d10 ?e10 ?f10 ?_;(case hi10=>exact .inl rfl);(case a10=>dsimp only;k_is);(case b10=>dsimp only;k_is);(case c10=>dsimp only;k_is);(case d10=>dsimp only;k_is);(case e10=>exact rfl);(case f10=>exact rfl);refine A_cons ?_;(refine E_name (by exact rfl) ?_);refine A_nil ?_;refine B_bl (by with_reducible assumption) (by exact Gd.le (by with_reducible assumption) rfl) (by with_reducible assumption) (by with_reducible assumption) ?_;dsimp only;refine Then_next ?_;refine S_cons ?_;refine S_if ?_;refine T_and ?_;refine T_cmp ?_;(refine E_name (by exact rfl) ?_);refine E_call ?_;dsimp only;(refine' E_builtin (v:=.builtin ?id13) ?hk13 ?e13 ?hv13 ?hn13 ?_;(case hk13=>exact rfl);(case e13=>dsimp only;k_is);(case hv13=>exact rfl);(case hn13=>decide));dsimp only;refine C_raw keeper_builtin ?_;refine Args_plain ?_;refine A_cons ?_;refine E_attr ?_;(refine E_name (by exact rfl) ?_);refine' G_own (ca:=none) ?hi15 ?a15 ?b15 ?c15 ?d15 ?e15 ?f15 ?_;(case hi15=>exact .inl rfl);(case a15=>dsimp only;k_is);(case b15=>dsimp only;k_is);(case c15=>dsimp only;k_is);(case d15=>dsimp only;k_is);(case e15=>exact rfl);(case f15=>exact rfl);refine A_nil ?_;refine B_len_lst (by simp only [cellsV,List.length_map,List.length_reverse,List.length_cons,List.length_append,List.length_nil];exact (lin1 (.lt .v0 (.n (2^62))) [.lt .v0 (.n (2^61))]) h62) ?_;refine O_lt ?_;refine Tr_bool ?_)
 by_cases hk:blc cs e₀.id<cs.length
 ·obtain ⟨c1,hc1,hm1⟩:=get_lt hk
  have ok1:=hok c1 hm1
  rw [if_pos (by simp only [cellsV,List.length_map,decide_eq_true_eq];exact (lin2 (.zt (.c .v0) (.c .v1)) [.lt .v0 .v1]) hk)]
  (refine T_and ?_;refine T_cmp ?_;refine E_meth ?_;dsimp only;refine E_sub ?_;refine E_attr ?_;(refine E_name (by exact rfl) ?_);refine' G_own (ca:=none) ?hi17 ?a17 ?b17 ?c17 ?d17 ?e17 ?f17 ?_;(case hi17=>exact .inl rfl);(case a17=>dsimp only;k_is);(case b17=>dsimp only;k_is);(case c17=>dsimp only;k_is);(case d17=>dsimp only;k_is);(case e17=>exact rfl);(case f17=>exact rfl);(refine E_name (by exact rfl) ?_))
  refine Su_lst (V:=.cell c1.id) (atI_nat (cellsV_at hc1)) (by (simp only [cellsV,List.length_map,List.length_reverse,List.length_cons,List.length_append,List.length_nil];exact (lin1 (.lt .v0 (.n (2^62))) [.lt .v0 (.n (2^61))]) h62)) ?_
  (refine' M_fn ?hi19 ?a19 ?b19 ?c19 ?d19 ?e19 ?_;(case hi19=>exact .inl rfl);(case a19=>dsimp only;k_is);(case b19=>dsimp only;k_is);(case c19=>dsimp only;k_is);(case d19=>dsimp only;k_is);(case e19=>decide);refine Args_plain ?_;refine A_nil ?_;refine WC.of (rmin_c (by with_reducible assumption) (by exact Gd.le (by with_reducible assumption) rfl) (by with_reducible assumption) ?_);(refine E_name (by exact rfl) ?_);refine' O_cmp ?hi21 ?hj21 ?a21 ?b21 ?d21 (fun _ _=>rfl) ?_;(case hi21=>exact .inl rfl);(case hj21=>exact .inl rfl);(case a21=>dsimp only;k_is);(case b21=>dsimp only;k_is);(case d21=>dsimp only;k_is);refine le_c (by with_reducible assumption) (by exact Gd.le (by with_reducible assumption) rfl) ⟨_,rfl,?_⟩;refine Tr_bool ?_)
  by_cases q1:c1.first.id≤e₀.id
  ·rw [if_pos (decide_eq_true q1)]
   (refine T_and_nil ?_;rw [if_pos rfl];refine S_last ?_;refine S_return ?_;refine E_bool ?_;refine Then_ret ?_;dsimp only)
   exact ret_iff h ⟨fun _=>.inl ⟨c1,hc1,q1⟩,fun _=>rfl⟩
  ·have hA:¬ ∃ c,cs[blc cs e₀.id]?=some c∧c.first.id≤e₀.id:=by
    rintro ⟨c,hc,q⟩
    rw [hc1] at hc;cases hc;exact q1 q
   rw [if_neg (by rw [decide_eq_false q1];decide)]
   (rw [if_neg (by decide)];refine S_nil ?_;refine Then_next ?_;refine S_last ?_;refine S_return ?_;refine E_and ?_;refine E_cmp ?_;(refine E_name (by exact rfl) ?_);refine E_int ?_;refine O_ne ?_;refine Tr_bool ?_;dsimp only)
   by_cases k0:blc cs e₀.id=0
   ·rw [if_neg (by rw [k0];decide)]
    exact ret_iff h (none_iff hA k0)
   ·have kp:0<blc cs e₀.id:=Nat.pos_of_ne_zero k0
    obtain ⟨c2,hc2,hm2⟩:=get_lt (cs:=cs) (k:=blc cs e₀.id-1) (by have:=blc_le cs e₀.id;exact (lin3 (.lt .v0 .v2) [.lt .v1 .v2,.sb .v0 .v1 .n1]) hk (sbc _ _))
    have ok2:=hok c2 hm2
    rw [if_pos (by rw [decide_eq_false (by exact (lin1 (.no (.ze (.c .v0) .n0)) [.no (.eq .v0 .n0)]) k0)];rfl)]
    (refine E_cmp ?_;refine E_meth ?_;dsimp only;refine E_sub ?_;refine E_attr ?_;(refine E_name (by exact rfl) ?_);refine' G_own (ca:=none) ?hi24 ?a24 ?b24 ?c24 ?d24 ?e24 ?f24 ?_;(case hi24=>exact .inl rfl);(case a24=>dsimp only;k_is);(case b24=>dsimp only;k_is);(case c24=>dsimp only;k_is);(case d24=>dsimp only;k_is);(case e24=>exact rfl);(case f24=>exact rfl);refine E_bin ?_;(refine E_name (by exact rfl) ?_);refine E_int ?_;refine O_sub ?_)
    refine Su_lst (V:=.cell c2.id) (atI_pred kp (cellsV_at hc2)) (by (simp only [cellsV,List.length_map,List.length_reverse,List.length_cons,List.length_append,List.length_nil];exact (lin1 (.lt .v0 (.n (2^62))) [.lt .v0 (.n (2^61))]) h62)) ?_
    (refine' M_fn ?hi26 ?a26 ?b26 ?c26 ?d26 ?e26 ?_;(case hi26=>exact .inl rfl);(case a26=>dsimp only;k_is);(case b26=>dsimp only;k_is);(case c26=>dsimp only;k_is);(case d26=>dsimp only;k_is);(case e26=>decide);refine Args_plain ?_;refine A_nil ?_;refine WC.of (rmax_c (by with_reducible assumption) (by exact Gd.le (by with_reducible assumption) rfl) (by with_reducible assumption) ?_);(refine E_name (by exact rfl) ?_);refine' O_cmp ?hi28 ?hj28 ?a28 ?b28 ?d28 (fun _ _=>rfl) ?_;(case hi28=>exact .inl rfl);(case hj28=>exact .inl rfl);(case a28=>dsimp only;k_is);(case b28=>dsimp only;k_is);(case d28=>dsimp only;k_is);refine ge_c (by with_reducible assumption) (by exact Gd.le (by with_reducible assumption) rfl) ⟨_,rfl,?_⟩;dsimp only)
    refine ret_iff h ?_
    rw [decide_eq_true_eq]
    constructor
    ·intro q;exact .inr ⟨kp,c2,hc2,q⟩
    ·rintro (q | ⟨_,c,hc,q⟩)
     ·exact absurd q hA
     ·rw [hc2] at hc;cases hc;exact q
 ·have hA:¬ ∃ c,cs[blc cs e₀.id]?=some c∧c.first.id≤e₀.id:=by
   rintro ⟨c,hc,_⟩
   exact hk (List.getElem?_eq_some_iff.mp hc).1
  rw [if_neg (by simp only [cellsV,List.length_map,decide_eq_true_eq];exact (lin2 (.no (.zt (.c .v0) (.c .v1))) [.no (.lt .v0 .v1)]) hk)]
  (rw [if_neg (by decide)];refine S_nil ?_;refine Then_next ?_;refine S_last ?_;refine S_return ?_;refine E_and ?_;refine E_cmp ?_;(refine E_name (by exact rfl) ?_);refine E_int ?_;refine O_ne ?_;refine Tr_bool ?_;dsimp only)
  by_cases k0:blc cs e₀.id=0
  ·rw [if_neg (by rw [k0];decide)]
   exact ret_iff h (none_iff hA k0)
  ·have kp:0<blc cs e₀.id:=Nat.pos_of_ne_zero k0
   obtain ⟨c2,hc2,hm2⟩:=get_lt (cs:=cs) (k:=blc cs e₀.id-1) (by have:=blc_le cs e₀.id;exact (lin3 (.lt .v0 .v2) [.no (.eq .v1 .n0),.le .v1 .v2,.sb .v0 .v1 .n1]) k0 this (sbc _ _))
   have ok2:=hok c2 hm2
   rw [if_pos (by rw [decide_eq_false (by exact (lin1 (.no (.ze (.c .v0) .n0)) [.no (.eq .v0 .n0)]) k0)];rfl)]
   (refine E_cmp ?_;refine E_meth ?_;dsimp only;refine E_sub ?_;refine E_attr ?_;(refine E_name (by exact rfl) ?_);refine' G_own (ca:=none) ?hi31 ?a31 ?b31 ?c31 ?d31 ?e31 ?f31 ?_;(case hi31=>exact .inl rfl);(case a31=>dsimp only;k_is);(case b31=>dsimp only;k_is);(case c31=>dsimp only;k_is);(case d31=>dsimp only;k_is);(case e31=>exact rfl);(case f31=>exact rfl);refine E_bin ?_;(refine E_name (by exact rfl) ?_);refine E_int ?_;refine O_sub ?_)
   refine Su_lst (V:=.cell c2.id) (atI_pred kp (cellsV_at hc2)) (by (simp only [cellsV,List.length_map,List.length_reverse,List.length_cons,List.length_append,List.length_nil];exact (lin1 (.lt .v0 (.n (2^62))) [.lt .v0 (.n (2^61))]) h62)) ?_
   (refine' M_fn ?hi33 ?a33 ?b33 ?c33 ?d33 ?e33 ?_;(case hi33=>exact .inl rfl);(case a33=>dsimp only;k_is);(case b33=>dsimp only;k_is);(case c33=>dsimp only;k_is);(case d33=>dsimp only;k_is);(case e33=>decide);refine Args_plain ?_;refine A_nil ?_;refine WC.of (rmax_c (by with_reducible assumption) (by exact Gd.le (by with_reducible assumption) rfl) (by with_reducible assumption) ?_);(refine E_name (by exact rfl) ?_);refine' O_cmp ?hi35 ?hj35 ?a35 ?b35 ?d35 (fun _ _=>rfl) ?_;(case hi35=>exact .inl rfl);(case hj35=>exact .inl rfl);(case a35=>dsimp only;k_is);(case b35=>dsimp only;k_is);(case d35=>dsimp only;k_is);refine ge_c (by with_reducible assumption) (by exact Gd.le (by with_reducible assumption) rfl) ⟨_,rfl,?_⟩;dsimp only)
   refine ret_iff h ?_
   rw [decide_eq_true_eq]
   constructor
   ·intro q;exact .inr ⟨kp,c2,hc2,q⟩
   ·rintro (q | ⟨_,c,hc,q⟩)
    ·exact absurd q hA
    ·rw [hc2] at hc;cases hc;exact q
theorem ucellm_c {c:Cx} {Q:AV→AX→Prop} {X:AX} {cs:List Cel} {e₀:Cel} (L:Lw c) (G:Gd c.A 7) (hok:∀ c∈cs,c.ok) (he:e₀.ok) (hs:Sd cs) (h62:cs.length<2^61) (h:∀ b:Bool,(b=true↔meetC cs e₀)→Q (.bool b) X):WF c (.ref 587) [.uni cs,.cell e₀.id] [] Q X:=by
 (have _:PySem.Challenge.rw_lp0003_07=PySem.Challenge.rw_lp0003_07→∀ w:World,(hd7.heap_1 w.params).In default→True:=by (k_fill;intros;trivial))
 have L₀:=L
 obtain ⟨P,w,K,g,A,env,own,E,fx⟩:=c
 obtain ⟨hP,hK,hC,hN⟩:=L
 dsimp only at hP hK hC hN G
 subst hP hK
 refine' WF.go (M:=[((Str.ofString "self"),.uni cs),((Str.ofString "args"),.tup [.cell e₀.id])]) G ?k1 ?k2 ?k3 ?k4 ?k5 ?k6 ?k7 ?k8 ?_
 case k1=>(dsimp only;k_is)
 case k2=>(dsimp only;k_is)
 case k3=>exact bindS1 fun v u=>⟨_,rfl,fun _=>rfl⟩
 case k4=>rfl
 case k5=>decide
 case k6=>rfl
 case k7=>rfl
 case k8=>rfl
 intro F c' kn he ho ok G'
 have L':=L₀.kin kn
 obtain ⟨P',w',K',g',A',env',own',E',fx'⟩:=c'
 obtain ⟨f1,f2,f3,f4,f5⟩:=kn
 dsimp only at f1 f2 f3 f4 f5 he ho G'
 subst f1 f2 f3 f4 f5 he ho
 clear L₀
 simp only [List.reverse_cons,List.reverse_nil,List.nil_append,List.cons_append]
 (refine S_last ?_;refine S_if ?_;refine T_and ?_;refine T_cmp ?_;refine E_call ?_;dsimp only;(refine' E_builtin (v:=.builtin ?id36) ?hk36 ?e36 ?hv36 ?hn36 ?_;(case hk36=>exact rfl);(case e36=>dsimp only;k_is);(case hv36=>exact rfl);(case hn36=>decide));dsimp only;refine C_raw keeper_builtin ?_;refine Args_plain ?_;refine A_cons ?_;(refine E_name (by exact rfl) ?_);refine A_nil ?_;refine B_len_tup (by simp only [cellsV,List.length_map,List.length_reverse,List.length_cons,List.length_append,List.length_nil];decide) ?_;refine E_int ?_;refine O_eq ?_;refine Tr_bool ?_;rw [if_pos (by rfl)];refine T_and ?_;refine T_val ?_;refine E_call ?_;dsimp only;(refine' E_builtin (v:=.builtin ?id38) ?hk38 ?e38 ?hv38 ?hn38 ?_;(case hk38=>exact rfl);(case e38=>dsimp only;k_is);(case hv38=>exact rfl);(case hn38=>decide));dsimp only;refine C_raw keeper_builtin ?_;refine Args_plain ?_;refine A_cons ?_;refine E_sub ?_;(refine E_name (by exact rfl) ?_);refine E_int ?_;refine Su_tup (i:=0) rfl (by simp only [cellsV,List.length_map,List.length_reverse,List.length_cons,List.length_append,List.length_nil];decide) ?_;refine A_cons ?_;(refine' E_global ?hk40 ?e40 ?_;(case hk40=>exact rfl);(case e40=>dsimp only;k_is));refine A_nil ?_;refine' B_isi ?hi41 ?a41 ?_;(case hi41=>exact .inl rfl);(case a41=>dsimp only;k_is);refine Tr_bool ?_;rw [if_pos rfl];refine T_and_nil ?_;rw [if_pos rfl];refine S_cons ?_;refine S_assign (by exact .inl ⟨rfl,.head _⟩) ?_;refine E_sub ?_;(refine E_name (by exact rfl) ?_);refine E_int ?_;refine Su_tup (i:=0) rfl (by simp only [cellsV,List.length_map,List.length_reverse,List.length_cons,List.length_append,List.length_nil];decide) ?_;dsimp only;refine Then_next ?_;refine S_cons ?_;refine S_assign (by exact .inl ⟨rfl,.head _⟩) ?_;refine E_call ?_;dsimp only;(refine' E_global ?hk43 ?e43 ?_;(case hk43=>exact rfl);(case e43=>dsimp only;k_is));refine C_raw keeper_builtin ?_;refine Args_plain ?_;refine A_cons ?_;refine E_attr ?_;(refine E_name (by exact rfl) ?_);refine' G_own (ca:=none) ?hi45 ?a45 ?b45 ?c45 ?d45 ?e45 ?f45 ?_;(case hi45=>exact .inl rfl);(case a45=>dsimp only;k_is);(case b45=>dsimp only;k_is);(case c45=>dsimp only;k_is);(case d45=>dsimp only;k_is);(case e45=>exact rfl);(case f45=>exact rfl);refine A_cons ?_;(refine E_name (by exact rfl) ?_);refine A_nil ?_;refine B_bl (by with_reducible assumption) (by exact Gd.le (by with_reducible assumption) rfl) (by with_reducible assumption) (by with_reducible assumption) ?_;dsimp only;refine Then_next ?_;refine S_cons ?_;refine S_if ?_;refine T_and ?_;refine T_cmp ?_;(refine E_name (by exact rfl) ?_);refine E_call ?_;dsimp only;(refine' E_builtin (v:=.builtin ?id48) ?hk48 ?e48 ?hv48 ?hn48 ?_;(case hk48=>exact rfl);(case e48=>dsimp only;k_is);(case hv48=>exact rfl);(case hn48=>decide));dsimp only;refine C_raw keeper_builtin ?_;refine Args_plain ?_;refine A_cons ?_;refine E_attr ?_;(refine E_name (by exact rfl) ?_);refine' G_own (ca:=none) ?hi50 ?a50 ?b50 ?c50 ?d50 ?e50 ?f50 ?_;(case hi50=>exact .inl rfl);(case a50=>dsimp only;k_is);(case b50=>dsimp only;k_is);(case c50=>dsimp only;k_is);(case d50=>dsimp only;k_is);(case e50=>exact rfl);(case f50=>exact rfl);refine A_nil ?_;refine B_len_lst (by simp only [cellsV,List.length_map,List.length_reverse,List.length_cons,List.length_append,List.length_nil];exact (lin1 (.lt .v0 (.n (2^62))) [.lt .v0 (.n (2^61))]) h62) ?_;refine O_ne ?_;refine Tr_bool ?_)
 by_cases hk:blc cs e₀.id<cs.length
 ·obtain ⟨c1,hc1,hm1⟩:=get_lt hk
  have ok1:=hok c1 hm1
  rw [if_pos (by rw [decide_eq_false (by simp only [cellsV,List.length_map];exact (lin2 (.no (.ze (.c .v0) (.c .v1))) [.lt .v0 .v1]) hk)];rfl)]
  (refine T_and ?_;refine T_cmp ?_;refine E_meth ?_;dsimp only;refine E_sub ?_;refine E_attr ?_;(refine E_name (by exact rfl) ?_);refine' G_own (ca:=none) ?hi52 ?a52 ?b52 ?c52 ?d52 ?e52 ?f52 ?_;(case hi52=>exact .inl rfl);(case a52=>dsimp only;k_is);(case b52=>dsimp only;k_is);(case c52=>dsimp only;k_is);(case d52=>dsimp only;k_is);(case e52=>exact rfl);(case f52=>exact rfl);(refine E_name (by exact rfl) ?_))
  refine Su_lst (V:=.cell c1.id) (atI_nat (cellsV_at hc1)) (by (simp only [cellsV,List.length_map,List.length_reverse,List.length_cons,List.length_append,List.length_nil];exact (lin1 (.lt .v0 (.n (2^62))) [.lt .v0 (.n (2^61))]) h62)) ?_
  (refine' M_fn ?hi54 ?a54 ?b54 ?c54 ?d54 ?e54 ?_;(case hi54=>exact .inl rfl);(case a54=>dsimp only;k_is);(case b54=>dsimp only;k_is);(case c54=>dsimp only;k_is);(case d54=>dsimp only;k_is);(case e54=>decide);refine Args_plain ?_;refine A_nil ?_;refine WC.of (rmin_c (by with_reducible assumption) (by exact Gd.le (by with_reducible assumption) rfl) (by with_reducible assumption) ?_);refine E_meth ?_;dsimp only;(refine E_name (by exact rfl) ?_);refine' M_fn ?hi56 ?a56 ?b56 ?c56 ?d56 ?e56 ?_;(case hi56=>exact .inl rfl);(case a56=>dsimp only;k_is);(case b56=>dsimp only;k_is);(case c56=>dsimp only;k_is);(case d56=>dsimp only;k_is);(case e56=>decide);refine Args_plain ?_;refine A_nil ?_;refine WC.of (rmax_c (by with_reducible assumption) (by exact Gd.le (by with_reducible assumption) rfl) (by with_reducible assumption) ?_);refine' O_cmp ?hi57 ?hj57 ?a57 ?b57 ?d57 (fun _ _=>rfl) ?_;(case hi57=>exact .inl rfl);(case hj57=>exact .inl rfl);(case a57=>dsimp only;k_is);(case b57=>dsimp only;k_is);(case d57=>dsimp only;k_is);refine le_c (by with_reducible assumption) (by exact Gd.le (by with_reducible assumption) rfl) ⟨_,rfl,?_⟩;refine Tr_bool ?_)
  by_cases q1:c1.first.id≤e₀.last.id
  ·rw [if_pos (decide_eq_true q1)]
   (refine T_and_nil ?_;rw [if_pos rfl];refine S_last ?_;refine S_return ?_;refine E_bool ?_;refine Then_ret ?_;dsimp only)
   exact ret_iff h ⟨fun _=>.inl ⟨c1,hc1,q1⟩,fun _=>rfl⟩
  ·have hA:¬ ∃ c,cs[blc cs e₀.id]?=some c∧c.first.id≤e₀.last.id:=by
    rintro ⟨c,hc,q⟩
    rw [hc1] at hc;cases hc;exact q1 q
   rw [if_neg (by rw [decide_eq_false q1];decide)]
   (rw [if_neg (by decide)];refine S_nil ?_;refine Then_next ?_;refine S_last ?_;refine S_return ?_;refine E_and ?_;refine E_cmp ?_;(refine E_name (by exact rfl) ?_);refine E_int ?_;refine O_ne ?_;refine Tr_bool ?_;dsimp only)
   by_cases k0:blc cs e₀.id=0
   ·rw [if_neg (by rw [k0];decide)]
    exact ret_iff h (none_iff hA k0)
   ·have kp:0<blc cs e₀.id:=Nat.pos_of_ne_zero k0
    obtain ⟨c2,hc2,hm2⟩:=get_lt (cs:=cs) (k:=blc cs e₀.id-1) (by have:=blc_le cs e₀.id;exact (lin3 (.lt .v0 .v2) [.lt .v1 .v2,.sb .v0 .v1 .n1]) hk (sbc _ _))
    have ok2:=hok c2 hm2
    rw [if_pos (by rw [decide_eq_false (by exact (lin1 (.no (.ze (.c .v0) .n0)) [.no (.eq .v0 .n0)]) k0)];rfl)]
    (refine E_cmp ?_;refine E_meth ?_;dsimp only;refine E_sub ?_;refine E_attr ?_;(refine E_name (by exact rfl) ?_);refine' G_own (ca:=none) ?hi60 ?a60 ?b60 ?c60 ?d60 ?e60 ?f60 ?_;(case hi60=>exact .inl rfl);(case a60=>dsimp only;k_is);(case b60=>dsimp only;k_is);(case c60=>dsimp only;k_is);(case d60=>dsimp only;k_is);(case e60=>exact rfl);(case f60=>exact rfl);refine E_bin ?_;(refine E_name (by exact rfl) ?_);refine E_int ?_;refine O_sub ?_)
    refine Su_lst (V:=.cell c2.id) (atI_pred kp (cellsV_at hc2)) (by (simp only [cellsV,List.length_map,List.length_reverse,List.length_cons,List.length_append,List.length_nil];exact (lin1 (.lt .v0 (.n (2^62))) [.lt .v0 (.n (2^61))]) h62)) ?_
    (refine' M_fn ?hi62 ?a62 ?b62 ?c62 ?d62 ?e62 ?_;(case hi62=>exact .inl rfl);(case a62=>dsimp only;k_is);(case b62=>dsimp only;k_is);(case c62=>dsimp only;k_is);(case d62=>dsimp only;k_is);(case e62=>decide);refine Args_plain ?_;refine A_nil ?_;refine WC.of (rmax_c (by with_reducible assumption) (by exact Gd.le (by with_reducible assumption) rfl) (by with_reducible assumption) ?_);refine E_meth ?_;dsimp only;(refine E_name (by exact rfl) ?_);refine' M_fn ?hi64 ?a64 ?b64 ?c64 ?d64 ?e64 ?_;(case hi64=>exact .inl rfl);(case a64=>dsimp only;k_is);(case b64=>dsimp only;k_is);(case c64=>dsimp only;k_is);(case d64=>dsimp only;k_is);(case e64=>decide);refine Args_plain ?_;refine A_nil ?_;refine WC.of (rmin_c (by with_reducible assumption) (by exact Gd.le (by with_reducible assumption) rfl) (by with_reducible assumption) ?_);refine' O_cmp ?hi65 ?hj65 ?a65 ?b65 ?d65 (fun _ _=>rfl) ?_;(case hi65=>exact .inl rfl);(case hj65=>exact .inl rfl);(case a65=>dsimp only;k_is);(case b65=>dsimp only;k_is);(case d65=>dsimp only;k_is);refine ge_c (by with_reducible assumption) (by exact Gd.le (by with_reducible assumption) rfl) ⟨_,rfl,?_⟩;dsimp only)
    refine ret_iff h ?_
    rw [decide_eq_true_eq]
    constructor
    ·intro q;exact .inr ⟨kp,c2,hc2,q⟩
    ·rintro (q | ⟨_,c,hc,q⟩)
     ·exact absurd q hA
     ·rw [hc2] at hc;cases hc;exact q
 ·have hA:¬ ∃ c,cs[blc cs e₀.id]?=some c∧c.first.id≤e₀.last.id:=by
   rintro ⟨c,hc,_⟩
   exact hk (List.getElem?_eq_some_iff.mp hc).1
  rw [if_neg (by rw [decide_eq_true (by have:=blc_le cs e₀.id;simp only [cellsV,List.length_map];exact (lin2 (.ze (.c .v0) (.c .v1)) [.no (.lt .v0 .v1),.le .v0 .v1]) hk this)];decide)]
  (rw [if_neg (by decide)];refine S_nil ?_;refine Then_next ?_;refine S_last ?_;refine S_return ?_;refine E_and ?_;refine E_cmp ?_;(refine E_name (by exact rfl) ?_);refine E_int ?_;refine O_ne ?_;refine Tr_bool ?_;dsimp only)
  by_cases k0:blc cs e₀.id=0
  ·rw [if_neg (by rw [k0];decide)]
   exact ret_iff h (none_iff hA k0)
  ·have kp:0<blc cs e₀.id:=Nat.pos_of_ne_zero k0
   obtain ⟨c2,hc2,hm2⟩:=get_lt (cs:=cs) (k:=blc cs e₀.id-1) (by have:=blc_le cs e₀.id;exact (lin3 (.lt .v0 .v2) [.no (.eq .v1 .n0),.le .v1 .v2,.sb .v0 .v1 .n1]) k0 this (sbc _ _))
   have ok2:=hok c2 hm2
   rw [if_pos (by rw [decide_eq_false (by exact (lin1 (.no (.ze (.c .v0) .n0)) [.no (.eq .v0 .n0)]) k0)];rfl)]
   (refine E_cmp ?_;refine E_meth ?_;dsimp only;refine E_sub ?_;refine E_attr ?_;(refine E_name (by exact rfl) ?_);refine' G_own (ca:=none) ?hi68 ?a68 ?b68 ?c68 ?d68 ?e68 ?f68 ?_;(case hi68=>exact .inl rfl);(case a68=>dsimp only;k_is);(case b68=>dsimp only;k_is);(case c68=>dsimp only;k_is);(case d68=>dsimp only;k_is);(case e68=>exact rfl);(case f68=>exact rfl);refine E_bin ?_;(refine E_name (by exact rfl) ?_);refine E_int ?_;refine O_sub ?_)
   refine Su_lst (V:=.cell c2.id) (atI_pred kp (cellsV_at hc2)) (by (simp only [cellsV,List.length_map,List.length_reverse,List.length_cons,List.length_append,List.length_nil];exact (lin1 (.lt .v0 (.n (2^62))) [.lt .v0 (.n (2^61))]) h62)) ?_
   (refine' M_fn ?hi70 ?a70 ?b70 ?c70 ?d70 ?e70 ?_;(case hi70=>exact .inl rfl);(case a70=>dsimp only;k_is);(case b70=>dsimp only;k_is);(case c70=>dsimp only;k_is);(case d70=>dsimp only;k_is);(case e70=>decide);refine Args_plain ?_;refine A_nil ?_;refine WC.of (rmax_c (by with_reducible assumption) (by exact Gd.le (by with_reducible assumption) rfl) (by with_reducible assumption) ?_);refine E_meth ?_;dsimp only;(refine E_name (by exact rfl) ?_);refine' M_fn ?hi72 ?a72 ?b72 ?c72 ?d72 ?e72 ?_;(case hi72=>exact .inl rfl);(case a72=>dsimp only;k_is);(case b72=>dsimp only;k_is);(case c72=>dsimp only;k_is);(case d72=>dsimp only;k_is);(case e72=>decide);refine Args_plain ?_;refine A_nil ?_;refine WC.of (rmin_c (by with_reducible assumption) (by exact Gd.le (by with_reducible assumption) rfl) (by with_reducible assumption) ?_);refine' O_cmp ?hi73 ?hj73 ?a73 ?b73 ?d73 (fun _ _=>rfl) ?_;(case hi73=>exact .inl rfl);(case hj73=>exact .inl rfl);(case a73=>dsimp only;k_is);(case b73=>dsimp only;k_is);(case d73=>dsimp only;k_is);refine ge_c (by with_reducible assumption) (by exact Gd.le (by with_reducible assumption) rfl) ⟨_,rfl,?_⟩;dsimp only)
   refine ret_iff h ?_
   rw [decide_eq_true_eq]
   constructor
   ·intro q;exact .inr ⟨kp,c2,hc2,q⟩
   ·rintro (q | ⟨_,c,hc,q⟩)
    ·exact absurd q hA
    ·rw [hc2] at hc;cases hc;exact q
theorem Conv.names {c:Cx} {X:AX} (l:List (Str×AV)) (h:∀ p∈l,X.m.lookup p.1=some p.2):Conv c X ⟨X.σ,l⟩:=Conv.weak (List.Sublist.refl _) (look_of h)
theorem upto_at {n i:Nat} {x:AV} (h:(upto n)[i]?=some x):i<n∧x=.int i:=by
 have hl:=(List.getElem?_eq_some_iff.mp h).1
 have hl:i<n:=by simpa [upto] using hl
 simp [upto,hl] at h
 exact ⟨hl,h.symm⟩
theorem ucont_c {c:Cx} {Q:AV→AX→Prop} {X:AX} {cs ds:List Cel} (L:Lw c) (G:Gd c.A 9) (hok:∀ c∈cs,c.ok) (hod:∀ c∈ds,c.ok) (hs:Sd cs) (h62:cs.length<2^61) (hd62:ds.length<2^61) (h:∀ b:Bool,(b=true↔∀ k∈ds,inC cs k)→Q (.bool b) X):WF c (.ref 580) [.uni cs,.uni ds] [] Q X:=by
 (have _:PySem.Challenge.rw_lp0003_07=PySem.Challenge.rw_lp0003_07→∀ w:World,(hd7.heap_1 w.params).In default→True:=by (k_fill;intros;trivial))
 have L₀:=L
 obtain ⟨P,w,K,g,A,env,own,E,fx⟩:=c
 obtain ⟨hP,hK,hC,hN⟩:=L
 dsimp only at hP hK hC hN G
 subst hP hK
 refine' WF.go (M:=[((Str.ofString "self"),.uni cs),((Str.ofString "args"),.tup [.uni ds])]) G ?k1 ?k2 ?k3 ?k4 ?k5 ?k6 ?k7 ?k8 ?_
 case k1=>(dsimp only;k_is)
 case k2=>(dsimp only;k_is)
 case k3=>exact bindS1 fun v u=>⟨_,rfl,fun _=>rfl⟩
 case k4=>rfl
 case k5=>decide
 case k6=>rfl
 case k7=>rfl
 case k8=>rfl
 intro F c' kn he ho ok G'
 have L':=L₀.kin kn
 obtain ⟨P',w',K',g',A',env',own',E',fx'⟩:=c'
 obtain ⟨f1,f2,f3,f4,f5⟩:=kn
 dsimp only at f1 f2 f3 f4 f5 he ho G'
 subst f1 f2 f3 f4 f5 he ho
 clear L₀
 simp only [List.reverse_cons,List.reverse_nil,List.nil_append,List.cons_append]
 (refine S_last ?_;refine S_if ?_;refine T_and ?_;refine T_cmp ?_;refine E_call ?_;dsimp only;(refine' E_builtin (v:=.builtin ?id1) ?hk1 ?e1 ?hv1 ?hn1 ?_;(case hk1=>exact rfl);(case e1=>dsimp only;k_is);(case hv1=>exact rfl);(case hn1=>decide));dsimp only;refine C_raw keeper_builtin ?_;refine Args_plain ?_;refine A_cons ?_;(refine E_name (by exact rfl) ?_);refine A_nil ?_;refine B_len_tup (by simp only [cellsV,List.length_map,List.length_reverse,List.length_cons,List.length_append,List.length_nil];decide) ?_;refine E_int ?_;refine O_eq ?_;refine Tr_bool ?_;rw [if_pos (by rfl)];refine T_and ?_;refine T_val ?_;refine E_call ?_;dsimp only;(refine' E_builtin (v:=.builtin ?id3) ?hk3 ?e3 ?hv3 ?hn3 ?_;(case hk3=>exact rfl);(case e3=>dsimp only;k_is);(case hv3=>exact rfl);(case hn3=>decide));dsimp only;refine C_raw keeper_builtin ?_;refine Args_plain ?_;refine A_cons ?_;refine E_sub ?_;(refine E_name (by exact rfl) ?_);refine E_int ?_;refine Su_tup (i:=0) rfl (by simp only [cellsV,List.length_map,List.length_reverse,List.length_cons,List.length_append,List.length_nil];decide) ?_;refine A_cons ?_;(refine' E_global ?hk5 ?e5 ?_;(case hk5=>exact rfl);(case e5=>dsimp only;k_is));refine A_nil ?_;refine' B_isnot ?hi6 ?a6 ?b6 ?c6 ?d6 ?e6 ?f6 ?g6 ?_;(case hi6=>exact .inl rfl);(case a6=>(try dsimp only);kin_no);(case b6=>dsimp only;k_is);(case c6=>dsimp only;k_is);(case d6=>dsimp only;k_is);(case e6=>dsimp only;k_is);(case f6=>dsimp only;k_is);(case g6=>dsimp only;k_is);skip;refine Tr_bool ?_;rw [if_neg (by decide)];rw [if_neg (by decide)];refine S_last ?_;refine S_if ?_;refine T_and ?_;refine T_cmp ?_;refine E_call ?_;dsimp only;(refine' E_builtin (v:=.builtin ?id7) ?hk7 ?e7 ?hv7 ?hn7 ?_;(case hk7=>exact rfl);(case e7=>dsimp only;k_is);(case hv7=>exact rfl);(case hn7=>decide));dsimp only;refine C_raw keeper_builtin ?_;refine Args_plain ?_;refine A_cons ?_;(refine E_name (by exact rfl) ?_);refine A_nil ?_;refine B_len_tup (by simp only [cellsV,List.length_map,List.length_reverse,List.length_cons,List.length_append,List.length_nil];decide) ?_;refine E_int ?_;refine O_eq ?_;refine Tr_bool ?_;rw [if_pos (by rfl)];refine T_and ?_;refine T_val ?_;refine E_call ?_;dsimp only;(refine' E_builtin (v:=.builtin ?id9) ?hk9 ?e9 ?hv9 ?hn9 ?_;(case hk9=>exact rfl);(case e9=>dsimp only;k_is);(case hv9=>exact rfl);(case hn9=>decide));dsimp only;refine C_raw keeper_builtin ?_;refine Args_plain ?_;refine A_cons ?_;refine E_sub ?_;(refine E_name (by exact rfl) ?_);refine E_int ?_;refine Su_tup (i:=0) rfl (by simp only [cellsV,List.length_map,List.length_reverse,List.length_cons,List.length_append,List.length_nil];decide) ?_;refine A_cons ?_;refine E_attr ?_;(refine E_name (by exact rfl) ?_);refine' G_class ?hi12 ?a12 ?b12 ?c12 ?d12 ?e12 ?f12 ?_;(case hi12=>exact .inl rfl);(case a12=>dsimp only;k_is);(case b12=>dsimp only;k_is);(case c12=>dsimp only;k_is);(case d12=>dsimp only;k_is);(case e12=>dsimp only;k_is);(case f12=>dsimp only;k_is);skip;refine A_nil ?_;refine' B_isi ?hi13 ?a13 ?_;(case hi13=>exact .inl rfl);(case a13=>dsimp only;k_is);refine Tr_bool ?_;rw [if_pos rfl];refine T_and_nil ?_;rw [if_pos rfl];refine S_cons ?_;refine S_assign (by exact .inl ⟨rfl,.head _⟩) ?_;refine E_sub ?_;(refine E_name (by exact rfl) ?_);refine E_int ?_;refine Su_tup (i:=0) rfl (by simp only [cellsV,List.length_map,List.length_reverse,List.length_cons,List.length_append,List.length_nil];decide) ?_;dsimp only;refine Then_next ?_;refine S_cons ?_)
 refine S_for ?_
 (refine E_call ?_;dsimp only;(refine' E_builtin (v:=.type ?id15) ?hk15 ?e15 ?hv15 ?hn15 ?_;(case hk15=>exact rfl);(case e15=>dsimp only;k_is);(case hv15=>exact rfl);(case hn15=>decide));refine C_raw keeper_type ?_;refine Args_plain ?_;refine A_cons ?_;refine E_meth ?_;dsimp only;(refine E_name (by exact rfl) ?_);refine' M_fn ?hi17 ?a17 ?b17 ?c17 ?d17 ?e17 ?_;(case hi17=>exact .inl rfl);(case a17=>dsimp only;k_is);(case b17=>dsimp only;k_is);(case c17=>dsimp only;k_is);(case d17=>dsimp only;k_is);(case e17=>decide);refine Args_plain ?_;refine A_nil ?_;refine WC.of (num_c (by with_reducible assumption) (by exact Gd.le (by with_reducible assumption) rfl) (by with_reducible assumption) ?_);refine A_nil ?_;refine B_range ?_)
 refine I_rng (by exact lin1 (.zl .n0 (.c .v0)) []) (by (exact (lin1 (.zt (.c .v0) (.n (2^62))) [.lt .v0 (.n (2^61))]) hd62)) ?_
 refine ⟨fun i Y=>Y=⟨X.σ,[(Str.ofString "cell_union", .uni ds),(Str.ofString "args", .tup [.uni ds]),(Str.ofString "self", .uni cs)]⟩∧∀ (j:Nat) k,j<i→ds[j]?=some k→inC cs k,⟨_,Conv.rfl,rfl,fun j k q=>absurd q (Nat.not_lt_zero _)⟩,?turn,?fin⟩
 case turn =>
  rintro i x Y hx ⟨rfl,hY⟩
  obtain ⟨hi,rfl⟩:=upto_at hx
  obtain ⟨k,hk,hm⟩:=get_lt (cs:=ds) (k:=i) (by exact (lin3 (.lt .v0 .v1) [.lt .v0 .v2,.or (.an (.zl .n0 (.c .v1)) (.ze (.c .v2) (.c .v1))) (.an (.zt (.c .v1) .n0) (.eq .v2 .n0))]) hi (tnc _))
  (refine A_name (by exact .inl ⟨rfl,.head _⟩) ?_;dsimp only;refine S_last ?_;refine S_if ?_;refine T_not ?_;refine T_val ?_;refine E_meth ?_;dsimp only;(refine E_name (by exact rfl) ?_);refine' M_fn ?hi19 ?a19 ?b19 ?c19 ?d19 ?e19 ?_;(case hi19=>exact .inl rfl);(case a19=>dsimp only;k_is);(case b19=>dsimp only;k_is);(case c19=>dsimp only;k_is);(case d19=>dsimp only;k_is);(case e19=>decide);refine Args_plain ?_;refine A_cons ?_;refine E_meth ?_;dsimp only;(refine E_name (by exact rfl) ?_);refine' M_fn ?hi21 ?a21 ?b21 ?c21 ?d21 ?e21 ?_;(case hi21=>exact .inl rfl);(case a21=>dsimp only;k_is);(case b21=>dsimp only;k_is);(case c21=>dsimp only;k_is);(case d21=>dsimp only;k_is);(case e21=>decide);refine Args_plain ?_;refine A_cons ?_;(refine E_name (by exact rfl) ?_);refine A_nil ?_)
  refine WC.of (cellid_c (e₀:=k) (by (with_reducible assumption)) (by (exact Gd.le (by with_reducible assumption) rfl)) (atI_nat (cellsV_at hk)) (by (simp only [cellsV,List.length_map,List.length_reverse,List.length_cons,List.length_append,List.length_nil];exact (lin1 (.lt .v0 (.n (2^62))) [.lt .v0 (.n (2^61))]) hd62)) ?_)
  (refine A_nil ?_)
  refine WC.of (ucell_c (by (with_reducible assumption)) (by (exact Gd.le (by with_reducible assumption) rfl)) hok (hod k hm) hs h62 fun b hb=>?_)
  (refine Tr_bool ?_)
  cases b with
  | true =>
   (rw [if_neg (by decide)];refine S_nil ?_)
   refine ⟨_,Conv.names [(Str.ofString "cell_union", .uni ds),(Str.ofString "args", .tup [.uni ds]),(Str.ofString "self", .uni cs)] (by intro p hp;simp only [List.mem_cons,List.not_mem_nil,or_false] at hp;rcases hp with rfl | rfl | rfl<;>rfl),rfl,fun j k' hj hk'=>?_⟩
   by_cases q:j=i
   ·subst q;rw [hk] at hk';cases hk';exact hb.mp rfl
   ·exact hY j k' (by exact (lin2 (.lt .v0 .v1) [.lt .v0 (.a .v1 .n1),.no (.eq .v0 .v1)]) hj q) hk'
  | false =>
   (rw [if_pos (by decide)];refine S_last ?_;refine S_return ?_;refine E_bool ?_)
   exact ret_iff h ⟨fun q=>Bool.noConfusion q,fun q=>hb.mpr (q k hm)⟩
 case fin =>
  rintro Y ⟨rfl,hY⟩
  (refine Then_next ?_;refine S_last ?_;refine S_return ?_;refine E_bool ?_)
  refine ret_iff h ⟨fun _ k hk=>?_,fun _=>rfl⟩
  obtain ⟨j,hj⟩:=List.getElem?_of_mem hk
  refine hY j k ?_ hj
  have:=(List.getElem?_eq_some_iff.mp hj).1
  unfold upto
  rw [List.length_map,List.length_range];exact (lin3 (.lt .v0 .v1) [.lt .v0 .v2,.or (.an (.zl .n0 (.c .v2)) (.ze (.c .v1) (.c .v2))) (.an (.zt (.c .v2) .n0) (.eq .v1 .n0))]) this (tnc _)
theorem umeet_c {c:Cx} {Q:AV→AX→Prop} {X:AX} {cs ds:List Cel} (L:Lw c) (G:Gd c.A 9) (hok:∀ c∈cs,c.ok) (hod:∀ c∈ds,c.ok) (hs:Sd cs) (h62:cs.length<2^61) (hd62:ds.length<2^61) (h:∀ b:Bool,(b=true↔∃ k∈ds,meetC cs k)→Q (.bool b) X):WF c (.ref 587) [.uni cs,.uni ds] [] Q X:=by
 (have _:PySem.Challenge.rw_lp0003_07=PySem.Challenge.rw_lp0003_07→∀ w:World,(hd7.heap_1 w.params).In default→True:=by (k_fill;intros;trivial))
 have L₀:=L
 obtain ⟨P,w,K,g,A,env,own,E,fx⟩:=c
 obtain ⟨hP,hK,hC,hN⟩:=L
 dsimp only at hP hK hC hN G
 subst hP hK
 refine' WF.go (M:=[((Str.ofString "self"),.uni cs),((Str.ofString "args"),.tup [.uni ds])]) G ?k1 ?k2 ?k3 ?k4 ?k5 ?k6 ?k7 ?k8 ?_
 case k1=>(dsimp only;k_is)
 case k2=>(dsimp only;k_is)
 case k3=>exact bindS1 fun v u=>⟨_,rfl,fun _=>rfl⟩
 case k4=>rfl
 case k5=>decide
 case k6=>rfl
 case k7=>rfl
 case k8=>rfl
 intro F c' kn he ho ok G'
 have L':=L₀.kin kn
 obtain ⟨P',w',K',g',A',env',own',E',fx'⟩:=c'
 obtain ⟨f1,f2,f3,f4,f5⟩:=kn
 dsimp only at f1 f2 f3 f4 f5 he ho G'
 subst f1 f2 f3 f4 f5 he ho
 clear L₀
 simp only [List.reverse_cons,List.reverse_nil,List.nil_append,List.cons_append]
 (refine S_last ?_;refine S_if ?_;refine T_and ?_;refine T_cmp ?_;refine E_call ?_;dsimp only;(refine' E_builtin (v:=.builtin ?id23) ?hk23 ?e23 ?hv23 ?hn23 ?_;(case hk23=>exact rfl);(case e23=>dsimp only;k_is);(case hv23=>exact rfl);(case hn23=>decide));dsimp only;refine C_raw keeper_builtin ?_;refine Args_plain ?_;refine A_cons ?_;(refine E_name (by exact rfl) ?_);refine A_nil ?_;refine B_len_tup (by simp only [cellsV,List.length_map,List.length_reverse,List.length_cons,List.length_append,List.length_nil];decide) ?_;refine E_int ?_;refine O_eq ?_;refine Tr_bool ?_;rw [if_pos (by rfl)];refine T_and ?_;refine T_val ?_;refine E_call ?_;dsimp only;(refine' E_builtin (v:=.builtin ?id25) ?hk25 ?e25 ?hv25 ?hn25 ?_;(case hk25=>exact rfl);(case e25=>dsimp only;k_is);(case hv25=>exact rfl);(case hn25=>decide));dsimp only;refine C_raw keeper_builtin ?_;refine Args_plain ?_;refine A_cons ?_;refine E_sub ?_;(refine E_name (by exact rfl) ?_);refine E_int ?_;refine Su_tup (i:=0) rfl (by simp only [cellsV,List.length_map,List.length_reverse,List.length_cons,List.length_append,List.length_nil];decide) ?_;refine A_cons ?_;(refine' E_global ?hk27 ?e27 ?_;(case hk27=>exact rfl);(case e27=>dsimp only;k_is));refine A_nil ?_;refine' B_isnot ?hi28 ?a28 ?b28 ?c28 ?d28 ?e28 ?f28 ?g28 ?_;(case hi28=>exact .inl rfl);(case a28=>(try dsimp only);kin_no);(case b28=>dsimp only;k_is);(case c28=>dsimp only;k_is);(case d28=>dsimp only;k_is);(case e28=>dsimp only;k_is);(case f28=>dsimp only;k_is);(case g28=>dsimp only;k_is);skip;refine Tr_bool ?_;rw [if_neg (by decide)];rw [if_neg (by decide)];refine S_last ?_;refine S_if ?_;refine T_and ?_;refine T_cmp ?_;refine E_call ?_;dsimp only;(refine' E_builtin (v:=.builtin ?id29) ?hk29 ?e29 ?hv29 ?hn29 ?_;(case hk29=>exact rfl);(case e29=>dsimp only;k_is);(case hv29=>exact rfl);(case hn29=>decide));dsimp only;refine C_raw keeper_builtin ?_;refine Args_plain ?_;refine A_cons ?_;(refine E_name (by exact rfl) ?_);refine A_nil ?_;refine B_len_tup (by simp only [cellsV,List.length_map,List.length_reverse,List.length_cons,List.length_append,List.length_nil];decide) ?_;refine E_int ?_;refine O_eq ?_;refine Tr_bool ?_;rw [if_pos (by rfl)];refine T_and ?_;refine T_val ?_;refine E_call ?_;dsimp only;(refine' E_builtin (v:=.builtin ?id31) ?hk31 ?e31 ?hv31 ?hn31 ?_;(case hk31=>exact rfl);(case e31=>dsimp only;k_is);(case hv31=>exact rfl);(case hn31=>decide));dsimp only;refine C_raw keeper_builtin ?_;refine Args_plain ?_;refine A_cons ?_;refine E_sub ?_;(refine E_name (by exact rfl) ?_);refine E_int ?_;refine Su_tup (i:=0) rfl (by simp only [cellsV,List.length_map,List.length_reverse,List.length_cons,List.length_append,List.length_nil];decide) ?_;refine A_cons ?_;(refine' E_global ?hk33 ?e33 ?_;(case hk33=>exact rfl);(case e33=>dsimp only;k_is));refine A_nil ?_;refine' B_isi ?hi34 ?a34 ?_;(case hi34=>exact .inl rfl);(case a34=>dsimp only;k_is);refine Tr_bool ?_;rw [if_pos rfl];refine T_and_nil ?_;rw [if_pos rfl];refine S_cons ?_;refine S_assign (by exact .inl ⟨rfl,.head _⟩) ?_;refine E_sub ?_;(refine E_name (by exact rfl) ?_);refine E_int ?_;refine Su_tup (i:=0) rfl (by simp only [cellsV,List.length_map,List.length_reverse,List.length_cons,List.length_append,List.length_nil];decide) ?_;dsimp only;refine Then_next ?_;refine S_cons ?_)
 refine S_for ?_
 (refine E_attr ?_;(refine E_name (by exact rfl) ?_);refine' G_own (ca:=none) ?hi37 ?a37 ?b37 ?c37 ?d37 ?e37 ?f37 ?_;(case hi37=>exact .inl rfl);(case a37=>dsimp only;k_is);(case b37=>dsimp only;k_is);(case c37=>dsimp only;k_is);(case d37=>dsimp only;k_is);(case e37=>exact rfl);(case f37=>exact rfl))
 refine I_lst ?_
 refine ⟨fun i Y=>Y=⟨X.σ,[(Str.ofString "cell_union", .uni ds),(Str.ofString "args", .tup [.uni ds]),(Str.ofString "self", .uni cs)]⟩∧∀ (j:Nat) k,j<i→ds[j]?=some k→¬meetC cs k,⟨_,Conv.rfl,rfl,fun j k q=>absurd q (Nat.not_lt_zero _)⟩,?turn,?fin⟩
 case turn =>
  rintro i x Y hx ⟨rfl,hY⟩
  obtain ⟨k,hk,rfl⟩:=cellsV_get hx
  have hm:=List.mem_of_getElem? hk
  (refine A_name (by exact .inl ⟨rfl,.head _⟩) ?_;dsimp only;refine S_last ?_;refine S_if ?_;refine T_val ?_;refine E_meth ?_;dsimp only;(refine E_name (by exact rfl) ?_);refine' M_fn ?hi39 ?a39 ?b39 ?c39 ?d39 ?e39 ?_;(case hi39=>exact .inl rfl);(case a39=>dsimp only;k_is);(case b39=>dsimp only;k_is);(case c39=>dsimp only;k_is);(case d39=>dsimp only;k_is);(case e39=>decide);refine Args_plain ?_;refine A_cons ?_;(refine E_name (by exact rfl) ?_);refine A_nil ?_)
  refine WC.of (ucellm_c (by (with_reducible assumption)) (by (exact Gd.le (by with_reducible assumption) rfl)) hok (hod k hm) hs h62 fun b hb=>?_)
  (refine Tr_bool ?_)
  cases b with
  | false =>
   (rw [if_neg (by decide)];refine S_nil ?_)
   refine ⟨_,Conv.names [(Str.ofString "cell_union", .uni ds),(Str.ofString "args", .tup [.uni ds]),(Str.ofString "self", .uni cs)] (by intro p hp;simp only [List.mem_cons,List.not_mem_nil,or_false] at hp;rcases hp with rfl | rfl | rfl<;>rfl),rfl,fun j k' hj hk'=>?_⟩
   by_cases q:j=i
   ·subst q;rw [hk] at hk';cases hk';exact fun z=>Bool.noConfusion (hb.mpr z)
   ·exact hY j k' (by exact (lin2 (.lt .v0 .v1) [.lt .v0 (.a .v1 .n1),.no (.eq .v0 .v1)]) hj q) hk'
  | true =>
   (rw [if_pos rfl];refine S_last ?_;refine S_return ?_;refine E_bool ?_)
   exact ret_iff h ⟨fun _=>⟨k,hm,hb.mp rfl⟩,fun _=>rfl⟩
 case fin =>
  rintro Y ⟨rfl,hY⟩
  (refine Then_next ?_;refine S_last ?_;refine S_return ?_;refine E_bool ?_)
  refine ret_iff h ⟨fun q=>Bool.noConfusion q,?_⟩
  rintro ⟨k,hk,hz⟩
  obtain ⟨j,hj⟩:=List.getElem?_of_mem hk
  refine absurd hz (hY j k ?_ hj)
  have:=(List.getElem?_eq_some_iff.mp hj).1
  rw [List.length_map];exact (lin2 (.lt .v0 .v1) [.lt .v0 .v1]) this
theorem une_c {c:Cx} {Q:AV→AX→Prop} {X:AX} {cs ds:List Cel} (L:Lw c) (G:Gd c.A 5)  (h:Q (.bool (!decide (cs.map Cel.id=ds.map Cel.id))) X):WF c (.ref 484) [.uni cs,.uni ds] [] Q X:=by
 (have _:PySem.Challenge.rw_lp0003_07=PySem.Challenge.rw_lp0003_07→∀ w:World,(hd7.heap_1 w.params).In default→True:=by (k_fill;intros;trivial))
 have L₀:=L
 obtain ⟨P,w,K,g,A,env,own,E,fx⟩:=c
 obtain ⟨hP,hK,hC,hN⟩:=L
 dsimp only at hP hK hC hN G
 subst hP hK
 refine' WF.go (M:=[((Str.ofString "self"),.uni cs),((Str.ofString "other"),.uni ds)]) G ?k1 ?k2 ?k3 ?k4 ?k5 ?k6 ?k7 ?k8 ?_
 case k1=>(dsimp only;k_is)
 case k2=>(dsimp only;k_is)
 case k3=>exact bind2 fun s v u X=>.of_eq rfl
 case k4=>rfl
 case k5=>decide
 case k6=>rfl
 case k7=>rfl
 case k8=>rfl
 intro F c' kn he ho ok G'
 have L':=L₀.kin kn
 obtain ⟨P',w',K',g',A',env',own',E',fx'⟩:=c'
 obtain ⟨f1,f2,f3,f4,f5⟩:=kn
 dsimp only at f1 f2 f3 f4 f5 he ho G'
 subst f1 f2 f3 f4 f5 he ho
 clear L₀
 simp only [List.reverse_cons,List.reverse_nil,List.nil_append,List.cons_append]
 (refine S_last ?_;refine S_return ?_;refine E_un ?_;refine E_meth ?_;dsimp only;(refine E_name (by exact rfl) ?_);refine' M_fn ?hi42 ?a42 ?b42 ?c42 ?d42 ?e42 ?_;(case hi42=>exact .inl rfl);(case a42=>dsimp only;k_is);(case b42=>dsimp only;k_is);(case c42=>dsimp only;k_is);(case d42=>dsimp only;k_is);(case e42=>decide);refine Args_plain ?_;refine A_cons ?_;(refine E_name (by exact rfl) ?_);refine A_nil ?_)
 refine WC.of (ueq_c (by (with_reducible assumption)) (by (exact Gd.le (by with_reducible assumption) rfl)) ?_)
 (refine O_not ?_;refine Tr_bool ?_;dsimp only)
 exact h
def nrm (cs:List Cel):List Cel:=if (nfold cs).length<cs.length then nfold cs else cs
def seg (cs:List Cel) (e:Cel):List Cel:=(cs.drop (blc cs e.first.id)).takeWhile fun c=>decide (c.id≤e.last.id)
theorem tw {p:Cel→Bool}:∀ (D:List Cel) (m:Nat),(∀ c∈D.take m,p c=true)→(∀ c,D[m]?=some c→p c=false)→D.takeWhile p=D.take m
 | [],m,_,_=>by simp
 | a::r,0,_,h2=>by rw [List.takeWhile_cons,h2 a rfl];rfl
 | a::r,m+1,h1,h2=>by
  rw [List.takeWhile_cons,h1 a (by simp),if_pos rfl,List.take_succ_cons,tw r m (fun c hc=>h1 c (by rw [List.take_succ_cons];exact .tail _ hc)) fun c hc=>h2 c (by simpa using hc)]
abbrev giN (o:Addr) (cs:List Cel) (e₀:Cel) (j:Nat):List (Str×AV):=[(Str.ofString "index", .int j),(Str.ofString "intersected_cell_ids", .raw (.ref o)),(Str.ofString "idmax", .cell e₀.last.id),(Str.ofString "cell_union", .uni cs),(Str.ofString "cls", .raw (.ref 590))]
theorem WC.convArg {c:Cx} {X X':AX} {Q:AV→AX→Prop} {f:Value} {V V':AV} (h:ConvV c V X V' X') (k:WC c f [V'] [] Q X'):WC c f [V] [] Q X:=by
 intro B S s vs kw ok r rk st
 obtain ⟨v,e1,rv⟩:=one_arg r
 subst e1
 obtain ⟨S',le,rv',st'⟩:=h B S s v rv st
 exact wpAny_mono (k B S' s [v] kw ok (.cons rv' .nil) ⟨rk.1,rk.2.mono le⟩ st') (fun _ _ p=>p.up le) fun _ _ e=>e
theorem newU_n {c:Cx} {Q:AV→AX→Prop} {σ₀:List (Addr×MO)} {m₀:List (Str×AV)} {cs:List Cel} (L:Lw c) (G:Gd c.A 11) (hok:∀ e∈cs,e.ok) (h64:cs.length<64)
  (h:∀ cs',cs'.Perm cs→Sd cs'→Q (.uni (nrm cs')) ⟨(561,tabM)::σ₀,m₀⟩):WF c (.ref 590) [.lst (cellsV cs)] [] Q ⟨(561,tabM)::σ₀,m₀⟩ :=
 newU_c L G hok h64 fun cs' hp hs=>by
  have:=h cs' hp hs
  unfold nrm at this
  rw [hp.length_eq] at this
  exact this
theorem inter_c {c:Cx} {Q:AV→AX→Prop} {σ₀:List (Addr×MO)} {m₀:List (Str×AV)} {cs:List Cel} {e₀:Cel} (L:Lw c) (G:Gd c.A 13) (hok:∀ c∈cs,c.ok) (he:e₀.ok) (hs:Sd cs) (h64:cs.length<64) (h:(inC cs e₀→∀ cs',cs'.Perm [e₀]→Sd cs'→Q (.uni (nrm cs')) ⟨(561,tabM)::σ₀,m₀⟩)∧(¬inC cs e₀→∀ cs',cs'.Perm (seg cs e₀)→Sd cs'→Q (.uni (nrm cs')) ⟨(561,tabM)::σ₀,m₀⟩)):WF c (.ref 515) [.raw (.ref 590),.uni cs,.cell e₀.id] [] Q ⟨(561,tabM)::σ₀,m₀⟩:=by
 (have _:PySem.Challenge.rw_lp0003_07=PySem.Challenge.rw_lp0003_07→∀ w:World,(hd7.heap_1 w.params).In default→True:=by (k_fill;intros;trivial))
 have L₀:=L
 obtain ⟨P,w,K,g,A,env,own,E,fx⟩:=c
 obtain ⟨hP,hK,hC,hN⟩:=L
 dsimp only at hP hK hC hN G
 subst hP hK
 refine' WF.go (M:=[((Str.ofString "cls"),.raw (.ref 590)),((Str.ofString "args"),.tup [.uni cs,.cell e₀.id])]) G ?k1 ?k2 ?k3 ?k4 ?k5 ?k6 ?k7 ?k8 ?_
 case k1=>(dsimp only;k_is)
 case k2=>(dsimp only;k_is)
 case k3=>exact bindS2 fun v u w=>⟨_,rfl,fun _=>rfl⟩
 case k4=>rfl
 case k5=>decide
 case k6=>rfl
 case k7=>rfl
 case k8=>rfl
 intro F c' kn he ho ok G'
 have L':=L₀.kin kn
 obtain ⟨P',w',K',g',A',env',own',E',fx'⟩:=c'
 obtain ⟨f1,f2,f3,f4,f5⟩:=kn
 dsimp only at f1 f2 f3 f4 f5 he ho G'
 subst f1 f2 f3 f4 f5 he ho
 clear L₀
 simp only [List.reverse_cons,List.reverse_nil,List.nil_append,List.cons_append]
 (refine S_last ?_;refine S_if ?_;refine T_and ?_;refine T_cmp ?_;refine E_call ?_;dsimp only;(refine' E_builtin (v:=.builtin ?id1) ?hk1 ?e1 ?hv1 ?hn1 ?_;(case hk1=>exact rfl);(case e1=>dsimp only;k_is);(case hv1=>exact rfl);(case hn1=>decide));dsimp only;refine C_raw keeper_builtin ?_;refine Args_plain ?_;refine A_cons ?_;(refine E_name (by exact rfl) ?_);refine A_nil ?_;refine B_len_tup (by simp only [cellsV,List.length_map,List.length_reverse,List.length_cons,List.length_append,List.length_nil];decide) ?_;refine E_int ?_;refine O_eq ?_;refine Tr_bool ?_;rw [if_pos (by rfl)];refine T_and ?_;refine T_val ?_;refine E_call ?_;dsimp only;(refine' E_builtin (v:=.builtin ?id3) ?hk3 ?e3 ?hv3 ?hn3 ?_;(case hk3=>exact rfl);(case e3=>dsimp only;k_is);(case hv3=>exact rfl);(case hn3=>decide));dsimp only;refine C_raw keeper_builtin ?_;refine Args_plain ?_;refine A_cons ?_;refine E_sub ?_;(refine E_name (by exact rfl) ?_);refine E_int ?_;refine Su_tup (i:=0) rfl (by simp only [cellsV,List.length_map,List.length_reverse,List.length_cons,List.length_append,List.length_nil];decide) ?_;refine A_cons ?_;(refine E_name (by exact rfl) ?_);refine A_nil ?_;refine' B_isi ?hi6 ?a6 ?_;(case hi6=>exact .inl rfl);(case a6=>dsimp only;k_is);refine Tr_bool ?_;rw [if_pos rfl];refine T_and ?_;refine T_val ?_;refine E_call ?_;dsimp only;(refine' E_builtin (v:=.builtin ?id7) ?hk7 ?e7 ?hv7 ?hn7 ?_;(case hk7=>exact rfl);(case e7=>dsimp only;k_is);(case hv7=>exact rfl);(case hn7=>decide));dsimp only;refine C_raw keeper_builtin ?_;refine Args_plain ?_;refine A_cons ?_;refine E_sub ?_;(refine E_name (by exact rfl) ?_);refine E_int ?_;refine Su_tup (i:=1) rfl (by simp only [cellsV,List.length_map,List.length_reverse,List.length_cons,List.length_append,List.length_nil];decide) ?_;refine A_cons ?_;(refine' E_global ?hk9 ?e9 ?_;(case hk9=>exact rfl);(case e9=>dsimp only;k_is));refine A_nil ?_;refine' B_isi ?hi10 ?a10 ?_;(case hi10=>exact .inl rfl);(case a10=>dsimp only;k_is);refine Tr_bool ?_;rw [if_pos rfl];refine T_and_nil ?_;rw [if_pos rfl];refine S_cons ?_;refine S_assignT ?_;(refine E_name (by exact rfl) ?_);refine A_tup rfl ?_;refine Al_cons ?_;refine A_name (by exact .inr ⟨rfl,_,rfl,by first | exact .tail _ (.head _) | exact .tail _ (.tail _ (.head _))⟩) ?_;dsimp only;refine Al_cons ?_;refine A_name (by exact .inl ⟨rfl,.head _⟩) ?_;dsimp only;refine Al_nil ?_;refine Then_next ?_;refine S_last ?_;refine S_if ?_;refine T_val ?_;refine E_meth ?_;dsimp only;(refine E_name (by exact rfl) ?_);refine' M_fn ?hi13 ?a13 ?b13 ?c13 ?d13 ?e13 ?_;(case hi13=>exact .inl rfl);(case a13=>dsimp only;k_is);(case b13=>dsimp only;k_is);(case c13=>dsimp only;k_is);(case d13=>dsimp only;k_is);(case e13=>decide);refine Args_plain ?_;refine A_cons ?_;(refine E_name (by exact rfl) ?_);refine A_nil ?_)
 refine WC.of (ucell_c (by (with_reducible assumption)) (by (exact Gd.le (by with_reducible assumption) rfl)) hok he hs (by exact (lin1 (.lt .v0 (.n (2^61))) [.lt .v0 (.n 64)]) h64) fun b hb=>?_)
 (refine Tr_bool ?_)
 cases b with
 | true =>
  (rw [if_pos rfl];refine S_last ?_;refine S_return ?_;refine E_call ?_;dsimp only;(refine E_name (by exact rfl) ?_);(refine' C_raw (keeper_keep ?a16) ?_;(case a16=>dsimp only;k_is));refine Args_plain ?_;refine A_cons ?_)
  refine E_list (A_cons ?_)
  ((refine E_name (by exact rfl) ?_);refine A_nil ?_)
  refine ⟨by show 1≤1000;decide,?_⟩
  refine A_nil ?_
  refine WC.of (newU_n (cs:=[e₀]) (by (with_reducible assumption)) (by (exact Gd.le (by with_reducible assumption) rfl)) (fun x hx=>by rw [List.mem_singleton.mp hx];exact he) (by show 1<64;decide) fun cs' hp hs'=>?_)
  skip
  exact h.1 (hb.mp rfl) cs' hp hs'
 | false =>
  have hne:¬inC cs e₀:=fun z=>Bool.noConfusion (hb.mpr z)
  have hfo:=Cel.first_ok he
  have hle:=Cel.last_ok he
  have hlen:=blc_le cs e₀.first.id
  (rw [if_neg (by decide)];refine S_cons ?_;refine S_assign (by exact .inl ⟨rfl,.head _⟩) ?_;refine E_call ?_;dsimp only;(refine' E_global ?hk18 ?e18 ?_;(case hk18=>exact rfl);(case e18=>dsimp only;k_is));refine C_raw keeper_builtin ?_;refine Args_plain ?_;refine A_cons ?_;refine E_attr ?_;(refine E_name (by exact rfl) ?_);refine' G_own (ca:=none) ?hi20 ?a20 ?b20 ?c20 ?d20 ?e20 ?f20 ?_;(case hi20=>exact .inl rfl);(case a20=>dsimp only;k_is);(case b20=>dsimp only;k_is);(case c20=>dsimp only;k_is);(case d20=>dsimp only;k_is);(case e20=>exact rfl);(case f20=>exact rfl);refine A_cons ?_;refine E_meth ?_;dsimp only;(refine E_name (by exact rfl) ?_);refine' M_fn ?hi22 ?a22 ?b22 ?c22 ?d22 ?e22 ?_;(case hi22=>exact .inl rfl);(case a22=>dsimp only;k_is);(case b22=>dsimp only;k_is);(case c22=>dsimp only;k_is);(case d22=>dsimp only;k_is);(case e22=>decide);refine Args_plain ?_;refine A_nil ?_;refine WC.of (rmin_c (by with_reducible assumption) (by exact Gd.le (by with_reducible assumption) rfl) (by with_reducible assumption) ?_);refine A_nil ?_;refine B_bl (by with_reducible assumption) (by exact Gd.le (by with_reducible assumption) rfl) (by with_reducible assumption) (by exact (lin1 (.lt .v0 (.n (2^61))) [.lt .v0 (.n 64)]) h64) ?_;dsimp only;refine Then_next ?_;refine S_cons ?_;refine S_assign (by exact .inl ⟨rfl,.head _⟩) ?_;refine E_meth ?_;dsimp only;(refine E_name (by exact rfl) ?_);refine' M_fn ?hi24 ?a24 ?b24 ?c24 ?d24 ?e24 ?_;(case hi24=>exact .inl rfl);(case a24=>dsimp only;k_is);(case b24=>dsimp only;k_is);(case c24=>dsimp only;k_is);(case d24=>dsimp only;k_is);(case e24=>decide);refine Args_plain ?_;refine A_nil ?_;refine WC.of (rmax_c (by with_reducible assumption) (by exact Gd.le (by with_reducible assumption) rfl) (by with_reducible assumption) ?_);dsimp only;refine Then_next ?_;refine S_cons ?_;refine S_assign (by exact .inl ⟨rfl,.head _⟩) ?_)
  refine E_listM (A_nil ⟨by decide,fun o=>?_⟩)
  (refine Then_next ?_;dsimp only;refine S_cons ?_)
  refine WT.imp (Q:=fun F Y=>F=AF.next∧∃ j,Y=⟨(o,.lst (cellsV (seg cs e₀)))::(561,tabM)::σ₀,giN o cs e₀ j⟩) ?w ?rest
  case w =>
   refine S_while (fun n Y=>∃ j:Nat,n=cs.length-j∧blc cs e₀.first.id≤j∧j≤cs.length∧Y=⟨(o,.lst (cellsV ((cs.drop (blc cs e₀.first.id)).take (j-blc cs e₀.first.id))))::(561,tabM)::σ₀,giN o cs e₀ j⟩∧∀ c∈(cs.drop (blc cs e₀.first.id)).take (j-blc cs e₀.first.id),c.id≤e₀.last.id) (cs.length-blc cs e₀.first.id)
    ⟨⟨(o,.lst [])::(561,tabM)::σ₀,giN o cs e₀ (blc cs e₀.first.id)⟩,Conv.names _ (by intro p hp;simp only [List.mem_cons,List.not_mem_nil,or_false] at hp;rcases hp with rfl | rfl | rfl | rfl | rfl<;>rfl),blc cs e₀.first.id,rfl,Nat.le_refl _,hlen,by rw [Nat.sub_self,List.take_zero];rfl,by rw [Nat.sub_self,List.take_zero];exact fun c hc=>nomatch hc⟩ ?_
   rintro n Y ⟨j,rfl,hj0,hj1,rfl,hall⟩
   generalize hk0:blc cs e₀.first.id=k₀ at *
   have hget:∀ c,(cs.drop k₀)[j-k₀]?=some c↔cs[j]?=some c:=fun c=>by rw [List.getElem?_drop,show k₀+(j-k₀)=j by exact (lin3 (.eq (.a .v0 .v1) .v2) [.le .v0 .v2,.sb .v1 .v2 .v0]) hj0 (sbc _ _)]
   (refine T_and ?_;refine T_cmp ?_;(refine E_name (by exact rfl) ?_);refine E_call ?_;dsimp only;(refine' E_builtin (v:=.builtin ?id26) ?hk26 ?e26 ?hv26 ?hn26 ?_;(case hk26=>exact rfl);(case e26=>dsimp only;k_is);(case hv26=>exact rfl);(case hn26=>decide));dsimp only;refine C_raw keeper_builtin ?_;refine Args_plain ?_;refine A_cons ?_;refine E_attr ?_;(refine E_name (by exact rfl) ?_);refine' G_own (ca:=none) ?hi28 ?a28 ?b28 ?c28 ?d28 ?e28 ?f28 ?_;(case hi28=>exact .inl rfl);(case a28=>dsimp only;k_is);(case b28=>dsimp only;k_is);(case c28=>dsimp only;k_is);(case d28=>dsimp only;k_is);(case e28=>exact rfl);(case f28=>exact rfl);refine A_nil ?_;refine B_len_lst (by simp only [cellsV,List.length_map,List.length_reverse,List.length_cons,List.length_append,List.length_nil];exact (lin1 (.lt .v0 (.n (2^62))) [.lt .v0 (.n 64)]) h64) ?_;refine O_ne ?_;refine Tr_bool ?_)
   by_cases hj:j<cs.length
   ·obtain ⟨c1,hc1,hm1⟩:=get_lt hj
    have ok1:=hok c1 hm1
    rw [if_pos (by rw [decide_eq_false (by simp only [cellsV,List.length_map];exact (lin2 (.no (.ze (.c .v0) (.c .v1))) [.lt .v0 .v1]) hj)];rfl)]
    (refine T_and ?_;refine T_cmp ?_;refine E_sub ?_;refine E_attr ?_;(refine E_name (by exact rfl) ?_);refine' G_own (ca:=none) ?hi30 ?a30 ?b30 ?c30 ?d30 ?e30 ?f30 ?_;(case hi30=>exact .inl rfl);(case a30=>dsimp only;k_is);(case b30=>dsimp only;k_is);(case c30=>dsimp only;k_is);(case d30=>dsimp only;k_is);(case e30=>exact rfl);(case f30=>exact rfl);(refine E_name (by exact rfl) ?_))
    refine Su_lst (V:=.cell c1.id) (atI_nat (cellsV_at hc1)) (by (simp only [cellsV,List.length_map,List.length_reverse,List.length_cons,List.length_append,List.length_nil];exact (lin1 (.lt .v0 (.n (2^62))) [.lt .v0 (.n 64)]) h64)) ?_
    ((refine E_name (by exact rfl) ?_);refine' O_cmp ?hi33 ?hj33 ?a33 ?b33 ?d33 (fun _ _=>rfl) ?_;(case hi33=>exact .inl rfl);(case hj33=>exact .inl rfl);(case a33=>dsimp only;k_is);(case b33=>dsimp only;k_is);(case d33=>dsimp only;k_is);refine le_c (by with_reducible assumption) (by exact Gd.le (by with_reducible assumption) rfl) ⟨_,rfl,?_⟩;refine Tr_bool ?_)
    by_cases q1:c1.id≤e₀.last.id
    ·rw [if_pos (decide_eq_true q1)]
     (refine T_and_nil ?_;rw [if_pos rfl];refine S_cons ?_;refine S_expr ?_;refine E_meth ?_;dsimp only;(refine E_name (by exact rfl) ?_);refine M_list (by exact List.Mem.head _) PySem.F.slot_list_append PySem.F.type_list_append ?_;refine Args_plain ?_;refine A_cons ?_;refine E_sub ?_;refine E_attr ?_;(refine E_name (by exact rfl) ?_);refine' G_own (ca:=none) ?hi36 ?a36 ?b36 ?c36 ?d36 ?e36 ?f36 ?_;(case hi36=>exact .inl rfl);(case a36=>dsimp only;k_is);(case b36=>dsimp only;k_is);(case c36=>dsimp only;k_is);(case d36=>dsimp only;k_is);(case e36=>exact rfl);(case f36=>exact rfl);(refine E_name (by exact rfl) ?_))
     refine Su_lst (V:=.cell c1.id) (atI_nat (cellsV_at hc1)) (by (simp only [cellsV,List.length_map,List.length_reverse,List.length_cons,List.length_append,List.length_nil];exact (lin1 (.lt .v0 (.n (2^62))) [.lt .v0 (.n 64)]) h64)) ?_
     (refine A_nil ?_)
     refine' B_append (xs:=cellsV ((cs.drop k₀).take (j-k₀))) ?u ?z ?_
     case u=>exact .head
     case z=>rw [List.length_map,List.length_take,List.length_drop];exact (lin6 (.le .v0 (.n 1000000)) [.lt .v5 (.n 64),.le .v3 .v2,.lt .v2 .v5,.sb .v1 .v2 .v3,.sb .v4 .v5 .v3,.or (.an (.le .v1 .v4) (.eq .v0 .v1)) (.an (.lt .v4 .v1) (.eq .v0 .v4))]) h64 hj0 hj (sbc (j) (k₀)) (sbc (cs.length) (k₀)) (mnc (j-k₀) (cs.length-k₀))
     (refine Then_next ?_;dsimp only;refine S_last ?_;refine S_aug (by exact .inl ⟨rfl,.head _⟩) rfl ?_;refine E_int ?_;refine O_iadd ?_;dsimp only)
     have et:cellsV ((cs.drop k₀).take (j+1-k₀))=cellsV ((cs.drop k₀).take (j-k₀))++[.cell c1.id]:=by
      rw [show j+1-k₀=(j-k₀)+1 by exact (lin4 (.eq .v0 (.a .v3 .n1)) [.le .v2 .v1,.sb .v0 (.a .v1 .n1) .v2,.sb .v3 .v1 .v2]) hj0 (sbc _ _) (sbc _ _),List.take_succ,(hget c1).mpr hc1];simp
     have et2:(cs.drop k₀).take (j+1-k₀)=(cs.drop k₀).take (j-k₀)++[c1]:=by
      rw [show j+1-k₀=(j-k₀)+1 by exact (lin4 (.eq .v0 (.a .v3 .n1)) [.le .v2 .v1,.sb .v0 (.a .v1 .n1) .v2,.sb .v3 .v1 .v2]) hj0 (sbc _ _) (sbc _ _),List.take_succ,(hget c1).mpr hc1];rfl
     refine ⟨⟨(o,.lst (cellsV ((cs.drop k₀).take (j+1-k₀))))::(561,tabM)::σ₀,giN o cs e₀ (j+1)⟩,?_,cs.length-(j+1),by exact (lin4 (.lt .v0 .v3) [.lt .v2 .v1,.sb .v0 .v1 (.a .v2 .n1),.sb .v3 .v1 .v2]) hj (sbc _ _) (sbc _ _),j+1,rfl,by exact (lin2 (.le .v0 (.a .v1 .n1)) [.le .v0 .v1]) hj0,by exact (lin2 (.le (.a .v0 .n1) .v1) [.lt .v0 .v1]) hj,rfl,fun c hc=>?_⟩
     ·rw [et]
      exact Conv.names _ (by intro p hp;simp only [List.mem_cons,List.not_mem_nil,or_false] at hp;rcases hp with rfl | rfl | rfl | rfl | rfl<;>rfl)
     ·rw [et2] at hc
      rcases List.mem_append.mp hc with hc | hc
      ·exact hall c hc
      ·rw [List.mem_singleton.mp hc];exact q1
    ·rw [if_neg (by rw [decide_eq_false q1];decide)]
     (rw [if_neg (by decide)])
     have es:seg cs e₀=(cs.drop k₀).take (j-k₀):=by
      unfold seg
      rw [hk0]
      exact tw _ _ (fun c hc=>decide_eq_true (hall c hc)) fun c hc=>by
       rw [hget,hc1] at hc;cases hc;exact decide_eq_false q1
     exact ⟨rfl,j,by rw [es]⟩
   ·rw [if_neg (by rw [decide_eq_true (by simp only [cellsV,List.length_map];exact (lin2 (.ze (.c .v0) (.c .v1)) [.le .v0 .v1,.no (.lt .v0 .v1)]) hj1 hj)];decide)]
    (rw [if_neg (by decide)])
    have es:seg cs e₀=(cs.drop k₀).take (j-k₀):=by
     unfold seg
     rw [hk0]
     exact tw _ _ (fun c hc=>decide_eq_true (hall c hc)) fun c hc=>by
      rw [hget] at hc
      exact absurd (List.getElem?_eq_some_iff.mp hc).1 hj
    exact ⟨rfl,j,by rw [es]⟩
  case rest =>
   rintro F Y ⟨rfl,j,rfl⟩
   (refine Then_next ?_;refine S_last ?_;refine S_return ?_;refine E_call ?_;dsimp only;(refine E_name (by exact rfl) ?_);(refine' C_raw (keeper_keep ?a39) ?_;(case a39=>dsimp only;k_is));refine Args_plain ?_;refine A_cons ?_;(refine E_name (by exact rfl) ?_);refine A_nil ?_)
   have hsl:(seg cs e₀).Sublist cs:=(List.takeWhile_sublist _).trans (List.drop_sublist _ _)
   refine WC.convArg (ConvV.freeze (m':=giN o cs e₀ j) .head rfl .here fun x V e=>⟨V,e,.same V⟩) ?_
   refine WC.of (newU_n (by (with_reducible assumption)) (by (exact Gd.le (by with_reducible assumption) rfl)) (fun x hx=>hok x (hsl.subset hx)) (Nat.lt_of_le_of_lt hsl.length_le h64) fun cs' hp hs'=>?_)
   skip
   exact h.2 hne cs' hp hs'
def row1 (p:Int×Int) (qs:List (Int×Int)):List (Int×Int):=(qs.filter fun q=>decide (max p.1 q.1<min p.2 q.2)).map fun q=>(max p.1 q.1,min p.2 q.2)
def both (ps qs:List (Int×Int)):List (Int×Int):=ps.flatMap fun p=>row1 p qs
theorem pow4_cast (u:Nat):(4:Int)^u=((4^u:Nat):Int):=by simp
structure CutI (low high:Int) (cs:List Cel):Prop where
 ok:∀ c∈cs,c.ok
 rng:∀ c∈cs,low≤c.lo∧(c.hi:Int)≤high
 asc:Asc cs
 lf:∀ x:Nat,Lf cs x↔low≤x∧(x:Int)<high
 mx:∀ c∈cs,∀ q:Cel,q.u≤30→low≤q.lo→(q.hi:Int)≤high→c.sub q→c=q
/-! spans apart from one another -/
def Sp1 (p:Int×Int):Prop:=0≤p.1∧p.1<p.2∧p.2≤6*4^30
structure Sep (ps:List (Int×Int)):Prop where
 pw:ps.Pairwise fun a b=>a.2<b.1
 ok:∀ p∈ps,Sp1 p
def Ls (ps:List (Int×Int)) (x:Nat):Prop:=∃ p∈ps,p.1≤x∧(x:Int)<p.2
theorem Ls_cons {p:Int×Int} {ps:List (Int×Int)} {x:Nat}:Ls (p::ps) x↔(p.1≤x∧(x:Int)<p.2)∨Ls ps x:=by
 unfold Ls;simp only [List.mem_cons,exists_eq_or_imp]
theorem Ls_nil {x:Nat}:¬Ls [] x:=fun ⟨_,h,_⟩=>nomatch h
theorem Sep.uniq:∀ {ps qs:List (Int×Int)},Sep ps→Sep qs→(∀ x,Ls ps x↔Ls qs x)→ps=qs
 | [],[],_,_,_=>rfl
 | [],q::_,_,h,e=>by
  have:=h.ok q (.head _)
  unfold Sp1 at this
  exact absurd ((e q.1.toNat).mpr ⟨q,.head _,by lia,by lia⟩) Ls_nil
 | p::_,[],h,_,e=>by
  have:=h.ok p (.head _)
  unfold Sp1 at this
  exact absurd ((e p.1.toNat).mp ⟨p,.head _,by lia,by lia⟩) Ls_nil
 | p::r,q::t,h,k,e=>by
  have wp:=List.pairwise_cons.mp h.pw
  have wq:=List.pairwise_cons.mp k.pw
  have hp:=h.ok p (.head _)
  have hq:=k.ok q (.head _)
  unfold Sp1 at hp hq
  have lowp:∀ x,Ls (p::r) x→p.1≤x:=fun x ⟨a,ha,a1,a2⟩=>by
   rcases List.mem_cons.mp ha with rfl | ha
   ·exact a1
   ·have:=wp.1 a ha;lia
  have lowq:∀ x,Ls (q::t) x→q.1≤x:=fun x ⟨a,ha,a1,a2⟩=>by
   rcases List.mem_cons.mp ha with rfl | ha
   ·exact a1
   ·have:=wq.1 a ha;lia
  have e1:p.1=q.1:=by
   have a:=lowq p.1.toNat ((e _).mp ⟨p,.head _,by lia,by lia⟩)
   have b:=lowp q.1.toNat ((e _).mpr ⟨q,.head _,by lia,by lia⟩)
   lia
  have e2:p.2=q.2:=by
   rcases Int.lt_trichotomy p.2 q.2 with z | z | z
   ·obtain ⟨a,ha,a1,a2⟩:=(e p.2.toNat).mpr ⟨q,.head _,by lia,by lia⟩
    rcases List.mem_cons.mp ha with rfl | ha
    ·lia
    ·have:=wp.1 a ha;lia
   ·exact z
   ·obtain ⟨a,ha,a1,a2⟩:=(e q.2.toNat).mp ⟨p,.head _,by lia,by lia⟩
    rcases List.mem_cons.mp ha with rfl | ha
    ·lia
    ·have:=wq.1 a ha;lia
  have epq:p=q:=Prod.ext e1 e2
  subst epq
  rw [Sep.uniq (ps:=r) (qs:=t) ⟨wp.2,fun a ha=>h.ok a (.tail _ ha)⟩ ⟨wq.2,fun a ha=>k.ok a (.tail _ ha)⟩ fun x=>?_]
  constructor
  ·rintro ⟨a,ha,a1,a2⟩
   have:=wp.1 a ha
   rcases Ls_cons.mp ((e x).mp (Ls_cons.mpr (.inr ⟨a,ha,a1,a2⟩))) with z | z
   ·exact ((lin [_] [_,_,_] .ff [.zl .v0 (.c .v0),.zt .v1 .v0,.an (.zl .v2 (.c .v0)) (.zt (.c .v0) .v1)]) a1 this z).elim
   ·exact z
  ·rintro ⟨a,ha,a1,a2⟩
   have:=wq.1 a ha
   rcases Ls_cons.mp ((e x).mpr (Ls_cons.mpr (.inr ⟨a,ha,a1,a2⟩))) with z | z
   ·exact ((lin [_] [_,_,_] .ff [.zl .v0 (.c .v0),.zt .v1 .v0,.an (.zl .v2 (.c .v0)) (.zt (.c .v0) .v1)]) a1 this z).elim
   ·exact z
structure JI (S:Nat→Prop) (st:List (Int×Int)):Prop where
 pw:st.Pairwise fun a b=>b.2<a.1
 ok:∀ p∈st,Sp1 p
 lf:∀ x,Ls st x↔S x
/-! the leaves of both -/
/-! a union and a cell -/
theorem asc_sd {cs:List Cel} (h:Asc cs):Sd cs:=h.imp fun {a b} hab=>by
 rw [a.id_eq,b.id_eq]
 have:=a.lo_lt
 have:=b.lo_lt
 exact (lin4 (.zl (.a (.c .v0) (.c .v1)) (.a (.c .v2) (.c .v3))) [.le .v1 .v2,.lt .v0 .v1,.lt .v2 .v3]) hab ‹_› this
theorem asc_at {cs:List Cel} (h:Asc cs) {i j:Nat} {c d:Cel} (hc:cs[i]?=some c) (hd:cs[j]?=some d) (hij:i<j):c.hi≤d.lo:=by
 obtain ⟨hi,rfl⟩:=List.getElem?_eq_some_iff.mp hc
 obtain ⟨hj,rfl⟩:=List.getElem?_eq_some_iff.mp hd
 exact List.pairwise_iff_getElem.mp h i j hi hj hij
theorem mem_at {cs:List Cel} {c:Cel} (h:c∈cs):∃ i:Nat,cs[i]?=some c:=List.mem_iff_getElem?.mp h
theorem inC_iff {S:Nat→Prop} {cs:List Cel} (h:Least S cs) {e:Cel} (he:e.ok):inC cs e↔∀ x,e.lo≤x→x<e.hi→S x:=by
 have sd:=asc_sd h.asc
 have el:=e.lo_lt
 constructor
 ·have fin:∀ c∈cs,c.first.id≤e.id→e.id≤c.last.id→∀ x,e.lo≤x→x<e.hi→S x:=fun c hc a b x x1 x2=>by
   have s:=(Cel.has_iff c e).mp (by unfold Cel.has;rw [decide_eq_true a,decide_eq_true b];rfl)
   have s1:=s.1
   have s2:=s.2
   exact h.cell hc (x:=x) (by exact (lin3 (.le .v0 .v1) [.le .v2 .v1,.le .v0 .v2]) x1 s1) (by exact (lin3 (.lt .v0 .v1) [.lt .v0 .v2,.le .v2 .v1]) x2 s2)
  rintro (⟨c,hc,h1⟩ | ⟨h0,c,hc,h1⟩)
  ·have ge:¬c.id<e.id:=fun z=>Nat.lt_irrefl _ ((bl_lt sd hc).mp z)
   refine fin c (List.mem_of_getElem? hc) h1 ?_
   have:=c.lo_lt
   rw [c.id_eq] at ge
   rw [c.last_id']
   exact (lin [_,_] [_] (.zl .v0 (.s (.l 2 (.c .v0)) .n1)) [.no (.zt (.a (.c .v1) (.c .v0)) .v0),.lt .v1 .v0]) ge this
  ·have lt:c.id<e.id:=(bl_lt sd hc).mpr (by exact (lin2 (.lt .v0 .v1) [.lt .n0 .v1,.sb .v0 .v1 .n1]) h0 (sbc _ _))
   refine fin c (List.mem_of_getElem? hc) ?_ h1
   have:=c.lo_lt
   rw [c.id_eq] at lt
   rw [c.first_id']
   exact (lin [_,_] [_] (.zl (.a (.l 2 (.c .v0)) .n1) .v0) [.zt (.a (.c .v0) (.c .v1)) .v0,.lt .v0 .v1]) lt this
 ·intro hS
  obtain ⟨c,hc,c1,c2⟩:=(h.lf e.lo).mpr (hS _ (Nat.le_refl _) el)
  have cl:=c.lo_lt
  have sub:e.sub c:=by
   by_cases q:e.u≤c.u
   ·exact Cel.meet_sub q (Nat.le_refl _) el c1 c2
   ·have:=Cel.meet_sub (c:=c) (d:=e) (by exact (lin2 (.le .v0 .v1) [.no (.le .v1 .v0)]) q) c1 c2 (Nat.le_refl _) el
    rw [h.mx c hc e he.1 hS this];exact e.sub_rfl
  have s1:=sub.1
  have s2:=sub.2
  obtain ⟨i,hi⟩:=mem_at hc
  have hb:=bl_lt sd hi (n:=e.id)
  have ilt:=(List.getElem?_eq_some_iff.mp hi).1
  have ble:=blc_le cs e.id
  by_cases q:i<blc cs e.id
  ·right
   have hj:i=blc cs e.id-1:=by
    apply Classical.byContradiction
    intro z
    obtain ⟨d,hd,_⟩:=get_lt (cs:=cs) (k:=blc cs e.id-1) (by exact (lin4 (.lt .v0 .v2) [.le .v1 .v2,.lt .v3 .v1,.sb .v0 .v1 .n1]) ble q (sbc _ _))
    have a:=asc_at h.asc hi hd (by exact (lin3 (.lt .v0 .v1) [.lt .v0 .v2,.no (.eq .v0 .v1),.sb .v1 .v2 .n1]) q z (sbc _ _))
    have b:=(bl_lt sd hd (n:=e.id)).mpr (by exact (lin3 (.lt .v0 .v1) [.lt .v2 .v1,.sb .v0 .v1 .n1]) q (sbc _ _))
    have:=d.lo_lt
    rw [d.id_eq,e.id_eq] at b
    exact (lin5 .ff [.lt .v0 .v1,.le .v2 .v1,.le .v1 .v3,.zt (.a (.c .v3) (.c .v4)) (.a (.c .v0) (.c .v2)),.lt .v3 .v4]) c2 s2 a b this
   refine ⟨by exact (lin2 (.lt .n0 .v0) [.lt .v1 .v0]) q,c,by rw [←hj];exact hi,?_⟩
   rw [e.id_eq,c.last_id'];exact (lin3 (.zl (.a (.c .v0) (.c .v1)) (.s (.l 2 (.c .v2)) .n1)) [.lt .v0 .v2,.le .v1 .v2]) c2 s2
  ·left
   have hj:i=blc cs e.id:=by
    apply Classical.byContradiction
    intro z
    obtain ⟨d,hd,_⟩:=get_lt (cs:=cs) (k:=blc cs e.id) (by exact (lin3 (.lt .v0 .v1) [.lt .v2 .v1,.no (.lt .v2 .v0)]) ilt q)
    have a:=asc_at h.asc hd hi (by exact (lin2 (.lt .v0 .v1) [.no (.lt .v1 .v0),.no (.eq .v1 .v0)]) q z)
    have b:¬d.id<e.id:=fun w=>Nat.lt_irrefl _ ((bl_lt sd hd (n:=e.id)).mp w)
    have:=d.lo_lt
    rw [d.id_eq,e.id_eq] at b
    exact (lin5 .ff [.lt .v0 .v1,.le .v2 .v0,.le .v3 .v2,.no (.zt (.a (.c .v4) (.c .v3)) (.a (.c .v0) (.c .v1))),.lt .v4 .v3]) el c1 a b this
   refine ⟨c,by rw [←hj];exact hi,?_⟩
   rw [e.id_eq,c.first_id'];exact (lin3 (.zl (.a (.l 2 (.c .v0)) .n1) (.a (.c .v1) (.c .v2))) [.lt .v1 .v2,.le .v0 .v1]) el c1
theorem meetC_iff {S:Nat→Prop} {cs:List Cel} (h:Least S cs) {e:Cel} (he:e.ok):meetC cs e↔∃ x,e.lo≤x∧x<e.hi∧S x:=by
 have sd:=asc_sd h.asc
 have el:=e.lo_lt
 constructor
 ·rintro (⟨c,hc,h1⟩ | ⟨h0,c,hc,h1⟩)
  ·have ge:¬c.id<e.id:=fun z=>Nat.lt_irrefl _ ((bl_lt sd hc).mp z)
   have cl:=c.lo_lt
   rw [c.id_eq,e.id_eq] at ge
   rw [c.first_id',e.last_id'] at h1
   exact ⟨max c.lo e.lo,by exact (lin3 (.le .v0 .v1) [.or (.an (.le .v2 .v0) (.eq .v1 .v0)) (.an (.lt .v0 .v2) (.eq .v1 .v2))]) (mxc _ _),by exact (lin4 (.lt .v0 .v3) [.lt .v2 .v3,.zl (.a (.l 2 (.c .v1)) .n1) (.s (.l 2 (.c .v3)) .n1),.or (.an (.le .v1 .v2) (.eq .v0 .v2)) (.an (.lt .v2 .v1) (.eq .v0 .v1))]) el h1 (mxc _ _),h.cell (List.mem_of_getElem? hc) (by exact (lin3 (.le .v0 .v1) [.or (.an (.le .v0 .v2) (.eq .v1 .v2)) (.an (.lt .v2 .v0) (.eq .v1 .v0))]) (mxc _ _)) (by exact (lin5 (.lt .v0 .v3) [.zl (.a (.l 2 (.c .v1)) .n1) (.s (.l 2 (.c .v4)) .n1),.no (.zt (.a (.c .v1) (.c .v3)) (.a (.c .v2) (.c .v4))),.lt .v1 .v3,.or (.an (.le .v1 .v2) (.eq .v0 .v2)) (.an (.lt .v2 .v1) (.eq .v0 .v1))]) h1 ge cl (mxc _ _))⟩
  ·have lt:c.id<e.id:=(bl_lt sd hc).mpr (by exact (lin2 (.lt .v0 .v1) [.lt .n0 .v1,.sb .v0 .v1 .n1]) h0 (sbc _ _))
   have cl:=c.lo_lt
   rw [c.id_eq,e.id_eq] at lt
   rw [e.first_id',c.last_id'] at h1
   exact ⟨max c.lo e.lo,by exact (lin3 (.le .v0 .v1) [.or (.an (.le .v2 .v0) (.eq .v1 .v0)) (.an (.lt .v0 .v2) (.eq .v1 .v2))]) (mxc _ _),by exact (lin5 (.lt .v0 .v3) [.lt .v2 .v3,.zl (.a (.l 2 (.c .v2)) .n1) (.s (.l 2 (.c .v4)) .n1),.zt (.a (.c .v1) (.c .v4)) (.a (.c .v2) (.c .v3)),.or (.an (.le .v1 .v2) (.eq .v0 .v2)) (.an (.lt .v2 .v1) (.eq .v0 .v1))]) el h1 lt (mxc _ _),h.cell (List.mem_of_getElem? hc) (by exact (lin3 (.le .v0 .v1) [.or (.an (.le .v0 .v2) (.eq .v1 .v2)) (.an (.lt .v2 .v0) (.eq .v1 .v0))]) (mxc _ _)) (by exact (lin4 (.lt .v0 .v3) [.zl (.a (.l 2 (.c .v2)) .n1) (.s (.l 2 (.c .v3)) .n1),.lt .v1 .v3,.or (.an (.le .v1 .v2) (.eq .v0 .v2)) (.an (.lt .v2 .v1) (.eq .v0 .v1))]) h1 cl (mxc _ _))⟩
 ·rintro ⟨x,x1,x2,hx⟩
  obtain ⟨c,hc,c1,c2⟩:=(h.lf x).mpr hx
  obtain ⟨i,hi⟩:=mem_at hc
  have hb:=bl_lt sd hi (n:=e.id)
  have ilt:=(List.getElem?_eq_some_iff.mp hi).1
  have ble:=blc_le cs e.id
  by_cases q:i<blc cs e.id
  ·right
   obtain ⟨d,hd,_⟩:=get_lt (cs:=cs) (k:=blc cs e.id-1) (by exact (lin4 (.lt .v0 .v2) [.le .v1 .v2,.lt .v3 .v1,.sb .v0 .v1 .n1]) ble q (sbc _ _))
   refine ⟨by exact (lin2 (.lt .n0 .v0) [.lt .v1 .v0]) q,d,hd,?_⟩
   rw [e.first_id',d.last_id']
   have dl:=d.lo_lt
   by_cases z:i=blc cs e.id-1
   ·subst z;rw [hi] at hd;cases hd;exact (lin3 (.zl (.a (.l 2 (.c .v0)) .n1) (.s (.l 2 (.c .v1)) .n1)) [.le .v0 .v2,.lt .v2 .v1]) x1 c2
   ·have:=asc_at h.asc hi hd (by exact (lin3 (.lt .v0 .v1) [.lt .v0 .v2,.no (.eq .v0 .v1),.sb .v1 .v2 .n1]) q z (sbc _ _));exact (lin5 (.zl (.a (.l 2 (.c .v0)) .n1) (.s (.l 2 (.c .v1)) .n1)) [.le .v0 .v2,.lt .v2 .v3,.lt .v4 .v1,.le .v3 .v4]) x1 c2 dl this
  ·left
   obtain ⟨d,hd,_⟩:=get_lt (cs:=cs) (k:=blc cs e.id) (by exact (lin3 (.lt .v0 .v1) [.lt .v2 .v1,.no (.lt .v2 .v0)]) ilt q)
   refine ⟨d,hd,?_⟩
   rw [d.first_id',e.last_id']
   have dl:=d.lo_lt
   by_cases z:i=blc cs e.id
   ·rw [←z,hi] at hd;cases hd;exact (lin3 (.zl (.a (.l 2 (.c .v0)) .n1) (.s (.l 2 (.c .v1)) .n1)) [.lt .v2 .v1,.le .v0 .v2]) x2 c1
   ·have:=asc_at h.asc hd hi (by exact (lin2 (.lt .v0 .v1) [.no (.lt .v1 .v0),.no (.eq .v1 .v0)]) q z);exact (lin5 (.zl (.a (.l 2 (.c .v0)) .n1) (.s (.l 2 (.c .v1)) .n1)) [.lt .v2 .v1,.le .v3 .v2,.lt .v0 .v4,.le .v4 .v3]) x2 c1 dl this
theorem mem_drop_blc {cs:List Cel} (h:Sd cs) {n:Int} {c:Cel}:c∈cs.drop (blc cs n)↔c∈cs∧n≤c.id:=by
 constructor
 ·intro hc
  obtain ⟨i,hi⟩:=List.mem_iff_getElem?.mp hc
  rw [List.getElem?_drop] at hi
  refine ⟨List.mem_of_getElem? hi,?_⟩
  have:=bl_lt h hi (n:=n)
  exact (lin [_,_] [_,_] (.zl .v0 .v1) [.im (.zt .v1 .v0) (.lt (.a .v0 .v1) .v0)]) this.mp
 ·rintro ⟨hc,hn⟩
  obtain ⟨i,hi⟩:=mem_at hc
  have:=bl_lt h hi (n:=n)
  refine List.mem_iff_getElem?.mpr ⟨i-blc cs n,?_⟩
  rw [List.getElem?_drop,show blc cs n+(i-blc cs n)=i by exact (lin [_,_,_] [_,_] (.eq (.a .v0 .v1) .v2) [.zl .v0 .v1,.im (.lt .v2 .v0) (.zt .v1 .v0),.sb .v1 .v2 .v0]) hn this.mpr (sbc _ _)]
  exact hi
theorem mem_tw {m:Int}:∀ {cs:List Cel},Sd cs→∀ {c:Cel},c∈cs.takeWhile (fun c=>decide (c.id≤m))↔c∈cs∧c.id≤m
 | [],_,c=>by simp
 | a::r,h,c=>by
  have w:=List.pairwise_cons.mp h
  rw [List.takeWhile_cons]
  split
  ·rename_i q
   rw [List.mem_cons,mem_tw w.2,List.mem_cons]
   constructor
   ·rintro (rfl | ⟨x,y⟩)
    ·exact ⟨.inl rfl,of_decide_eq_true q⟩
    ·exact ⟨.inr x,y⟩
   ·rintro ⟨rfl | x,y⟩
    ·exact .inl rfl
    ·exact .inr ⟨x,y⟩
  ·rename_i q
   have q':¬a.id≤m:=fun z=>q (decide_eq_true z)
   constructor
   ·intro z;cases z
   ·rintro ⟨x,y⟩
    rcases List.mem_cons.mp x with rfl | x
    ·exact absurd y q'
    ·have:=w.1 c x;lia
theorem mem_seg {cs:List Cel} (h:Sd cs) {e c:Cel}:c∈seg cs e↔c∈cs∧c.sub e:=by
 unfold seg
 rw [mem_tw (h.sublist (List.drop_sublist _ _)),mem_drop_blc h,←Cel.has_iff e c]
 unfold Cel.has
 rw [Bool.and_eq_true,decide_eq_true_eq,decide_eq_true_eq,and_assoc]
theorem seg_lf {S:Nat→Prop} {cs:List Cel} (h:Least S cs) {e:Cel} (he:e.ok) (hn:¬inC cs e) (x:Nat):Lf (seg cs e) x↔S x∧(e.lo≤x∧x<e.hi):=by
 have sd:=asc_sd h.asc
 constructor
 ·rintro ⟨c,hc,c1,c2⟩
  obtain ⟨m,s⟩:=(mem_seg sd).mp hc
  have s1:=s.1
  have s2:=s.2
  exact ⟨h.cell m c1 c2,by exact (lin3 (.le .v0 .v1) [.le .v2 .v1,.le .v0 .v2]) c1 s1,by exact (lin3 (.lt .v0 .v1) [.lt .v0 .v2,.le .v2 .v1]) c2 s2⟩
 ·rintro ⟨hx,x1,x2⟩
  obtain ⟨c,hc,c1,c2⟩:=(h.lf x).mpr hx
  refine ⟨c,(mem_seg sd).mpr ⟨hc,?_⟩,c1,c2⟩
  by_cases q:c.u≤e.u
  ·exact Cel.meet_sub q c1 c2 x1 x2
  ·exfalso
   have s:=Cel.meet_sub (c:=e) (d:=c) (by exact (lin2 (.le .v0 .v1) [.no (.le .v1 .v0)]) q) x1 x2 c1 c2
   have s1:=s.1
   have s2:=s.2
   exact hn ((inC_iff h he).mpr fun y y1 y2=>h.cell hc (by exact (lin3 (.le .v0 .v1) [.le .v0 .v2,.le .v2 .v1]) s1 y1) (by exact (lin3 (.lt .v0 .v1) [.le .v2 .v1,.lt .v0 .v2]) s2 y2))
theorem nrm_eq {cs:List Cel} (ho:∀ e∈cs,e.ok) (hs:Sd cs):Least (Lf cs) (nrm cs):=nrm_least ho hs
section
variable {C D:List Cel} {F G:List (Int×Int)} {l:Int×Int} {b:Bool}
end
theorem idsV_get {cs:List Cel} {i:Nat} {x y:AV} (hx:((cs.map Cel.id).map AV.int)[i]?=some x) (hy:(cellsV cs)[i]?=some y):∃ e∈cs,x=.int e.id∧y=.cell e.id:=by
 unfold cellsV at hy
 rw [List.getElem?_map,List.getElem?_map] at hx
 rw [List.getElem?_map] at hy
 cases h:cs[i]? with
 | none=>rw [h] at hx;cases hx
 | some e =>
  rw [h] at hx hy
  cases hx;cases hy
  exact ⟨e,List.mem_of_getElem? h,rfl,rfl⟩
theorem initI_c {c:Cx} {Q:AV→AX→Prop} {σ₀:List (Addr×MO)} {m₀:List (Str×AV)} {u d:Addr} {cs:List Cel} (L:Lw c) (G:Gd c.A 10) (hok:∀ e∈cs,e.ok) (h64:cs.length<64)
  (h:∀ lb cs',cs'.Perm cs→cs'.Pairwise (fun a b=>a.id≤b.id)→Q .none ⟨(lb,.lst (cellsV (if (nfold cs').length<cs.length then nfold cs' else cs')))::(u,uniM d lb)::(561,tabM)::σ₀,m₀⟩) :
  WF c (.ref 470) [.raw (.ref u),.lst ((cs.map Cel.id).map .int)] [] Q ⟨(u,.inst 590 d [] [])::(561,tabM)::σ₀,m₀⟩:=by
 (have _:PySem.Challenge.rw_lp0003_07=PySem.Challenge.rw_lp0003_07→∀ w:World,(hd7.heap_1 w.params).In default→True:=by (k_fill;intros;trivial))
 have L₀:=L
 obtain ⟨P,w,K,g,A,env,own,E,fx⟩:=c
 obtain ⟨hP,hK,hC,hN⟩:=L
 dsimp only at hP hK hC hN G
 subst hP hK
 refine' WF.go (M:=[((Str.ofString "self"),.raw (.ref u)),((Str.ofString "cell_ids"),.lst ((cs.map Cel.id).map .int)),((Str.ofString "raw"),.bool true)]) G ?k1 ?k2 ?k3 ?k4 ?k5 ?k6 ?k7 ?k8 ?_
 case k1=>(dsimp only;k_is)
 case k2=>(dsimp only;k_is)
 case k3=>exact bind2d (d:=.bool true) (fun s v u X=>binds_K X rfl (by (dsimp only;k_is)) rfl rfl rfl) fun _=>.bool _
 case k4=>rfl
 case k5=>decide
 case k6=>rfl
 case k7=>rfl
 case k8=>rfl
 intro F c' kn he ho ok G'
 have L':=L₀.kin kn
 obtain ⟨P',w',K',g',A',env',own',E',fx'⟩:=c'
 obtain ⟨f1,f2,f3,f4,f5⟩:=kn
 dsimp only at f1 f2 f3 f4 f5 he ho G'
 subst f1 f2 f3 f4 f5 he ho
 clear L₀
 simp only [List.reverse_cons,List.reverse_nil,List.nil_append,List.cons_append]
 (refine S_last ?_;refine S_if ?_;refine T_cmp ?_;(refine E_name (by exact rfl) ?_);refine E_none ?_;refine O_isNo lst_some ?_;refine Tr_bool ?_;rw [if_neg (by decide)];refine S_cons ?_;refine S_assignT ?_)
 refine' E_map (X₁:=⟨(u,.inst 590 d [] [])::(561,tabM)::σ₀,[(Str.ofString "raw", .bool true),(Str.ofString "cell_ids", .lst ((cs.map Cel.id).map .int)),(Str.ofString "self", .raw (.ref u))]⟩) (xs:=(cs.map Cel.id).map .int) (ys:=cellsV cs) [] ?i ?len ?z (fun p h=>nomatch h) ?ifs ?item ?q ?nd ?free ?cell ?kind ?names ?as ?f
 ((case nd=>decide);(case free=>exact freeOk rfl);(case cell=>decide);(case kind=>rfl);(case names=>decide);(case as=>rfl);(case f=>intro x;rfl);(case ifs=>rfl))
 case i =>
  ((refine E_name (by exact rfl) ?_);dsimp only)
  exact I_lst ⟨rfl,rfl,rfl⟩
 case len=>unfold cellsV;simp
 case z=>rw [List.length_map,List.length_map];exact (lin1 (.le .v0 (.n 1000000)) [.lt .v0 (.n 64)]) h64
 case item =>
  intro C D i x y okC hx hy
  obtain ⟨e,he,rfl,rfl⟩:=idsV_get hx hy
  dsimp only [Cx.block]
  (refine A_name (by exact .inl ⟨rfl,.head _⟩) ?_;dsimp only;refine E_ifexp ?_;refine T_val ?_;refine E_call ?_;dsimp only;(refine' E_builtin (v:=.builtin ?id3) ?hk3 ?e3 ?hv3 ?hn3 ?_;(case hk3=>exact rfl);(case e3=>dsimp only;k_is);(case hv3=>exact rfl);(case hn3=>decide));dsimp only;refine C_raw keeper_builtin ?_;refine Args_plain ?_;refine A_cons ?_;(refine E_name (by exact rfl) ?_);refine A_cons ?_;(refine' E_global ?hk5 ?e5 ?_;(case hk5=>exact rfl);(case e5=>dsimp only;k_is));refine A_nil ?_)
  refine B_isintnot (by kernel_rfl) ?_
  (refine Tr_bool ?_;rw [if_neg (by decide)];refine E_call ?_;dsimp only;(refine' E_global ?hk6 ?e6 ?_;(case hk6=>exact rfl);(case e6=>dsimp only;k_is));(refine' C_raw (keeper_keep ?a7) ?_;(case a7=>dsimp only;k_is));refine Args_plain ?_;refine A_cons ?_;(refine E_name (by exact rfl) ?_);refine A_nil ?_)
  refine WC.of (newK e (by (exact ⟨rfl,rfl,by assumption,by assumption⟩)) (by (exact Gd.le (by with_reducible assumption) rfl)) (hok e he) rfl ?_)
  exact ⟨rfl,rfl,fun p h=>nomatch h⟩
 case q =>
  intro la
  (refine A_attr ?_;dsimp only;(refine E_name (by exact rfl) ?_);dsimp only)
  refine ⟨u,590,d,[],[],(la,.lst (cellsV cs))::(u,uniM d la)::(561,tabM)::σ₀,rfl,.tail .head,by decide,by (k_is),by (k_is),by (k_is),by (k_is),?_⟩
  (refine Then_next ?_;refine S_last ?_;refine S_if ?_;refine T_val ?_;(refine E_name (by exact rfl) ?_);refine Tr_bool ?_;rw [if_pos rfl];refine S_last ?_;refine S_expr ?_;refine E_meth ?_;dsimp only;(refine E_name (by exact rfl) ?_);refine' M_fn ?hi13 ?a13 ?b13 ?c13 ?d13 ?e13 ?_;(case hi13=>refine' IsInst.turn ?hm12;(case hm12=>refine' List.Mem.tail _ ?_;exact List.Mem.head _));(case a13=>dsimp only;k_is);(case b13=>dsimp only;k_is);(case c13=>dsimp only;k_is);(case d13=>dsimp only;k_is);(case e13=>decide);refine Args_plain ?_;refine A_nil ?_)
  refine WC.of (normalize_c (by (with_reducible assumption)) (by (exact Gd.le (by with_reducible assumption) rfl)) hok h64 fun lb cs' hp hs=>?_)
  skip
  exact h lb cs' hp hs
theorem newI_c {c:Cx} {Q:AV→AX→Prop} {σ₀:List (Addr×MO)} {m₀:List (Str×AV)} {cs:List Cel} (L:Lw c) (G:Gd c.A 11) (hok:∀ e∈cs,e.ok) (h64:cs.length<64)
  (h:∀ cs',cs'.Perm cs→cs'.Pairwise (fun a b=>a.id≤b.id)→Q (.uni (if (nfold cs').length<cs.length then nfold cs' else cs')) ⟨(561,tabM)::σ₀,m₀⟩) :
  WF c (.ref 590) [.lst ((cs.map Cel.id).map .int)] [] Q ⟨(561,tabM)::σ₀,m₀⟩:=by
 (have _:PySem.Challenge.rw_lp0003_07=PySem.Challenge.rw_lp0003_07→∀ w:World,(hd7.heap_1 w.params).In default→True:=by (k_fill;intros;trivial))
 have L₀:=L
 obtain ⟨P,w,K,g,A,env,own,E,fx⟩:=c
 obtain ⟨hP,hK,hC,hN⟩:=L
 dsimp only at hP hK hC hN G
 subst hP hK
 refine' WF.conv (WF.new ?k1 ?k2 ?k3 G ?_)
 case k1=>(dsimp only;k_is)
 case k2=>(dsimp only;k_is)
 case k3=>(dsimp only;k_is)
 intro a dd c' kn he ho ok G'
 refine initI_c (L₀.kin kn) G' hok h64 fun lb cs' hp hs=>⟨rfl,_,_,?_,h cs' hp hs⟩
 refine ConvV.trans (V':=.raw (.ref a)) (X':=⟨(a,.inst 590 dd [cidS] [.lst (cellsV (if (nfold cs').length<cs.length then nfold cs' else cs'))])::(561,tabM)::σ₀,m₀⟩) ?_ (ConvV.freeze (m':=m₀) .head rfl .here fun x V e=>⟨V,e,.same V⟩)
 exact ConvV.freezeIn (X:=⟨(lb,.lst (cellsV (if (nfold cs').length<cs.length then nfold cs' else cs')))::(a,uniM dd lb)::(561,tabM)::σ₀,m₀⟩) .head rfl .head (.inst (.cons .here .nil)) (.same _) fun x V e=>⟨V,e,.same V⟩
theorem union_c {c:Cx} {Q:AV→AX→Prop} {σ₀:List (Addr×MO)} {m₀:List (Str×AV)} {cs ds:List Cel} (L:Lw c) (G:Gd c.A 13) (hok:∀ e∈cs,e.ok) (hod:∀ e∈ds,e.ok) (h64:cs.length+ds.length<64) (h:∀ es,es.Perm (cs++ds)→Sd es→Q (.uni (nrm es)) ⟨(561,tabM)::σ₀,m₀⟩):WF c (.ref 505) [.raw (.ref 590),.uni cs,.uni ds] [] Q ⟨(561,tabM)::σ₀,m₀⟩:=by
 (have _:PySem.Challenge.rw_lp0003_07=PySem.Challenge.rw_lp0003_07→∀ w:World,(hd7.heap_1 w.params).In default→True:=by (k_fill;intros;trivial))
 have L₀:=L
 obtain ⟨P,w,K,g,A,env,own,E,fx⟩:=c
 obtain ⟨hP,hK,hC,hN⟩:=L
 dsimp only at hP hK hC hN G
 subst hP hK
 refine' WF.go (M:=[((Str.ofString "cls"),.raw (.ref 590)),((Str.ofString "x"),.uni cs),((Str.ofString "y"),.uni ds)]) G ?k1 ?k2 ?k3 ?k4 ?k5 ?k6 ?k7 ?k8 ?_
 case k1=>(dsimp only;k_is)
 case k2=>(dsimp only;k_is)
 case k3=>exact bind3 fun s v u w X=>.of_eq rfl
 case k4=>rfl
 case k5=>decide
 case k6=>rfl
 case k7=>rfl
 case k8=>rfl
 intro F c' kn he ho ok G'
 have L':=L₀.kin kn
 obtain ⟨P',w',K',g',A',env',own',E',fx'⟩:=c'
 obtain ⟨f1,f2,f3,f4,f5⟩:=kn
 dsimp only at f1 f2 f3 f4 f5 he ho G'
 subst f1 f2 f3 f4 f5 he ho
 clear L₀
 simp only [List.reverse_cons,List.reverse_nil,List.nil_append,List.cons_append]
 (refine S_last ?_;refine S_return ?_;refine E_call ?_;dsimp only;(refine E_name (by exact rfl) ?_);(refine' C_raw (keeper_keep ?a2) ?_;(case a2=>dsimp only;k_is));refine Args_plain ?_;refine A_cons ?_;refine E_bin ?_;refine E_attr ?_;(refine E_name (by exact rfl) ?_);refine' G_own (ca:=none) ?hi4 ?a4 ?b4 ?c4 ?d4 ?e4 ?f4 ?_;(case hi4=>exact .inl rfl);(case a4=>dsimp only;k_is);(case b4=>dsimp only;k_is);(case c4=>dsimp only;k_is);(case d4=>dsimp only;k_is);(case e4=>exact rfl);(case f4=>exact rfl);refine E_attr ?_;(refine E_name (by exact rfl) ?_);refine' G_own (ca:=none) ?hi6 ?a6 ?b6 ?c6 ?d6 ?e6 ?f6 ?_;(case hi6=>exact .inl rfl);(case a6=>dsimp only;k_is);(case b6=>dsimp only;k_is);(case c6=>dsimp only;k_is);(case d6=>dsimp only;k_is);(case e6=>exact rfl);(case f6=>exact rfl);refine O_addL (by unfold cellsV;rw [List.length_map,List.length_map];exact (lin2 (.le (.a .v0 .v1) (.n 1000000)) [.lt (.a .v0 .v1) (.n 64)]) h64) ?_;refine A_nil ?_)
 rw [show cellsV cs++cellsV ds=cellsV (cs++ds) by unfold cellsV;rw [List.map_append]]
 refine WC.of (newU_n (by (with_reducible assumption)) (by (exact Gd.le (by with_reducible assumption) rfl)) (fun e he=>(List.mem_append.mp he).elim (hok e) (hod e)) (by rw [List.length_append];exact (lin2 (.lt (.a .v0 .v1) (.n 64)) [.lt (.a .v0 .v1) (.n 64)]) h64) fun es hp hs=>?_)
 skip
 exact h es hp hs
abbrev gi2 (o:Addr) (cs ds:List Cel) (i j:Nat):List (Str×AV):=[(Str.ofString "cell_ids", .raw (.ref o)),(Str.ofString "i", .int i),(Str.ofString "j", .int j),(Str.ofString "y", .uni ds),(Str.ofString "x", .uni cs),(Str.ofString "cls", .raw (.ref 590))]
theorem B_blo {c:Cx} {X:AX} {Q:AV→AX→Prop} {cs:List Cel} {e₀:Cel} {lo:Nat} (L:Lw c) (G:Gd c.A 3) (hs:Sd cs) (h62:cs.length<2^61) (hlo:lo≤cs.length) (h:Q (.int ((max lo (blc cs e₀.id):Nat):Int)) X):WC c (.builtin "_bisect.bisect_left") [.lst (cellsV cs),.cell e₀.id] [(Str.ofString "lo", .int lo)] Q X:=by
 (have _:PySem.Challenge.rw_lp0003_07=PySem.Challenge.rw_lp0003_07→∀ w:World,(hd7.heap_1 w.params).In default→True:=by (k_fill;intros;trivial))
 have L₀:=L
 obtain ⟨P,w,K,g,A,env,own,E,fx⟩:=c
 obtain ⟨hP,hK,hC,hN⟩:=L
 dsimp only at hP hK hC hN G
 subst hP hK
 have hb:=blc_le cs e₀.id
 refine' B_bisectLo (C:=453) (f:=99) (ks:=[Str.ofString "_CellId__id"]) (k:=max lo (blc cs e₀.id)) (d:=2) ?b1 ?b2 ?b3 ?b4 ?b5 ?b6 ?b7 ?b8 ?b9 h
 case b1=>exact G
 case b2=>exact ⟨_,.inl rfl⟩
 case b3=>intro i U hU;obtain ⟨e,_,rfl⟩:=cellsV_get hU;exact ⟨_,.inl rfl⟩
 case b4=>rw [List.length_map];exact (lin1 (.lt .v0 (.n (2^62))) [.lt .v0 (.n (2^61))]) h62
 case b5=>(dsimp only;k_is)
 case b6=>(dsimp only;k_is)
 case b7=>exact (lin3 (.le .v0 .v1) [.or (.an (.le .v0 .v2) (.eq .v1 .v2)) (.an (.lt .v2 .v0) (.eq .v1 .v0))]) (mxc _ _)
 case b8=>rw [List.length_map];exact (lin4 (.le .v0 .v3) [.le .v1 .v3,.le .v2 .v3,.or (.an (.le .v1 .v2) (.eq .v0 .v2)) (.an (.lt .v2 .v1) (.eq .v0 .v1))]) hlo hb (mxc _ _)
 case b9 =>
  intro i U hi hU
  obtain ⟨e,he,rfl⟩:=cellsV_get hU
  refine lt_c ⟨L₀.P,L₀.K,L₀.C,L₀.N⟩ (Gd.in1 (d:=2) G) ⟨?_,rfl⟩
  rw [decide_eq_decide.mpr (show e.id<e₀.id↔i<max lo (blc cs e₀.id) from (bl_lt hs he).trans (by omega))]
theorem newM_c {c:Cx} {Q:AV→AX→Prop} {σ₀:List (Addr×MO)} {m₀:List (Str×AV)} {cs:List Cel} (L:Lw c) (G:Gd c.A 11) (hok:∀ e∈cs,e.ok) (h64:cs.length<64)
  (h:∀ u dd lb cs',cs'.Perm cs→Sd cs'→Q (.raw (.ref u)) ⟨(lb,.lst (cellsV (nrm cs')))::(u,uniM dd lb)::(561,tabM)::σ₀,m₀⟩) :
  WF c (.ref 590) [.lst (cellsV cs)] [] Q ⟨(561,tabM)::σ₀,m₀⟩:=by
 (have _:PySem.Challenge.rw_lp0003_07=PySem.Challenge.rw_lp0003_07→∀ w:World,(hd7.heap_1 w.params).In default→True:=by (k_fill;intros;trivial))
 have L₀:=L
 obtain ⟨P,w,K,g,A,env,own,E,fx⟩:=c
 obtain ⟨hP,hK,hC,hN⟩:=L
 dsimp only at hP hK hC hN G
 subst hP hK
 refine' WF.new ?k1 ?k2 ?k3 G ?_
 case k1=>(dsimp only;k_is)
 case k2=>(dsimp only;k_is)
 case k3=>(dsimp only;k_is)
 intro a dd c' kn he ho ok G'
 refine initU_c (L₀.kin kn) G' hok h64 fun lb cs' hp hs=>⟨rfl,?_⟩
 have:=h a dd lb cs' hp hs
 unfold nrm at this
 rw [hp.length_eq] at this
 exact this
theorem nrm_fix {S:Nat→Prop} {es fs:List Cel} (h:Least S es) (hp:fs.Perm es) (hs:Sd fs):¬(nfold fs).length<es.length∧(if (nfold fs).length<es.length then nfold fs else fs)=es:=by
 have ok:∀ e∈fs,e.ok:=fun e he=>h.ok e (hp.subset he)
 have e1:nrm fs=es:=(nrm_eq ok hs).uniq ((h.congr fun x=>(h.lf x).symm).congr fun x=>(Lf_perm hp x).symm)
 unfold nrm at e1
 rw [hp.length_eq] at e1
 refine ⟨fun q=>?_,e1⟩
 rw [if_pos q] at e1
 rw [e1] at q
 exact Nat.lt_irrefl _ q
theorem fzN_nil {D:Addr} {W:AV} {m:List (Str×AV)}:∀ x V',([]:List (Str×AV)).lookup x=some V'→∃ V,m.lookup x=some V∧Fz D W V V':=fun x V e=>by cases e
theorem fzN_cons {D:Addr} {W V V':AV} {a:Str} {m m':List (Str×AV)} (z:Fz D W V V') (h:∀ x V',m'.lookup x=some V'→∃ V,m.lookup x=some V∧Fz D W V V'):∀ x U',((a,V')::m').lookup x=some U'→∃ U,((a,V)::m).lookup x=some U∧Fz D W U U':=fun x U' e=>by
 rw [List.lookup_cons] at e ⊢
 cases hb:x==a with
 | true=>rw [hb] at e;cases e;exact ⟨V,rfl,z⟩
 | false=>rw [hb] at e;exact h x U' e
theorem inter2_c {c:Cx} {Q:AV→AX→Prop} {σ₀:List (Addr×MO)} {m₀:List (Str×AV)} {cs ds:List Cel} (L:Lw c) (G:Gd c.A 13) (C2:CodeHd c.g 514 510) (hfx:c.fix=false) (hok:∀ c∈cs,c.ok) (hod:∀ c∈ds,c.ok) (hs:Asc cs) (hd:Asc ds) (h64:cs.length+ds.length<64) (h:∀ C,Least (fun z=>Lf cs z∧Lf ds z) C→C.length≤cs.length+ds.length→Q (.uni C) ⟨(561,tabM)::(510,MO.tabG 510)::σ₀,m₀⟩):WF c (.ref 515) [.raw (.ref 590),.uni cs,.uni ds] [] Q ⟨(561,tabM)::(510,MO.tabG 510)::σ₀,m₀⟩:=by
 (have _:PySem.Challenge.rw_lp0003_07=PySem.Challenge.rw_lp0003_07→∀ w:World,(hd7.heap_1 w.params).In default→True:=by (k_fill;intros;trivial))
 have L₀:=L
 obtain ⟨P,w,K,g,A,env,own,E,fx⟩:=c
 obtain ⟨hP,hK,hC,hN⟩:=L
 dsimp only at hP hK hC hN G
 subst hP hK
 refine WF.conv ?_
 refine' WF.go (M:=[((Str.ofString "cls"),.raw (.ref 590)),((Str.ofString "args"),.tup [.uni cs,.uni ds])]) G ?k1 ?k2 ?k3 ?k4 ?k5 ?k6 ?k7 ?k8 ?_
 case k1=>(dsimp only;k_is)
 case k2=>(dsimp only;k_is)
 case k3=>exact bindS2 fun v u w=>⟨_,rfl,fun _=>rfl⟩
 case k4=>rfl
 case k5=>decide
 case k6=>rfl
 case k7=>rfl
 case k8=>rfl
 intro F c' kn he ho ok G'
 have L':=L₀.kin kn
 obtain ⟨P',w',K',g',A',env',own',E',fx'⟩:=c'
 obtain ⟨f1,f2,f3,f4,f5⟩:=kn
 dsimp only at f1 f2 f3 f4 f5 he ho G'
 subst f1 f2 f3 f4 f5 he ho
 clear L₀
 simp only [List.reverse_cons,List.reverse_nil,List.nil_append,List.cons_append]
 (refine S_last ?_;refine S_if ?_;refine T_and ?_;refine T_cmp ?_;refine E_call ?_;dsimp only;(refine' E_builtin (v:=.builtin ?id1) ?hk1 ?e1 ?hv1 ?hn1 ?_;(case hk1=>exact rfl);(case e1=>dsimp only;k_is);(case hv1=>exact rfl);(case hn1=>decide));dsimp only;refine C_raw keeper_builtin ?_;refine Args_plain ?_;refine A_cons ?_;(refine E_name (by exact rfl) ?_);refine A_nil ?_;refine B_len_tup (by simp only [cellsV,List.length_map,List.length_reverse,List.length_cons,List.length_append,List.length_nil];decide) ?_;refine E_int ?_;refine O_eq ?_;refine Tr_bool ?_;rw [if_pos (by rfl)];refine T_and ?_;refine T_val ?_;refine E_call ?_;dsimp only;(refine' E_builtin (v:=.builtin ?id3) ?hk3 ?e3 ?hv3 ?hn3 ?_;(case hk3=>exact rfl);(case e3=>dsimp only;k_is);(case hv3=>exact rfl);(case hn3=>decide));dsimp only;refine C_raw keeper_builtin ?_;refine Args_plain ?_;refine A_cons ?_;refine E_sub ?_;(refine E_name (by exact rfl) ?_);refine E_int ?_;refine Su_tup (i:=0) rfl (by simp only [cellsV,List.length_map,List.length_reverse,List.length_cons,List.length_append,List.length_nil];decide) ?_;refine A_cons ?_;(refine E_name (by exact rfl) ?_);refine A_nil ?_;refine' B_isi ?hi6 ?a6 ?_;(case hi6=>exact .inl rfl);(case a6=>dsimp only;k_is);refine Tr_bool ?_;rw [if_pos rfl];refine T_and ?_;refine T_val ?_;refine E_call ?_;dsimp only;(refine' E_builtin (v:=.builtin ?id7) ?hk7 ?e7 ?hv7 ?hn7 ?_;(case hk7=>exact rfl);(case e7=>dsimp only;k_is);(case hv7=>exact rfl);(case hn7=>decide));dsimp only;refine C_raw keeper_builtin ?_;refine Args_plain ?_;refine A_cons ?_;refine E_sub ?_;(refine E_name (by exact rfl) ?_);refine E_int ?_;refine Su_tup (i:=1) rfl (by simp only [cellsV,List.length_map,List.length_reverse,List.length_cons,List.length_append,List.length_nil];decide) ?_;refine A_cons ?_;(refine' E_global ?hk9 ?e9 ?_;(case hk9=>exact rfl);(case e9=>dsimp only;k_is));refine A_nil ?_;refine' B_isnot ?hi10 ?a10 ?b10 ?c10 ?d10 ?e10 ?f10 ?g10 ?_;(case hi10=>exact .inl rfl);(case a10=>(try dsimp only);kin_no);(case b10=>dsimp only;k_is);(case c10=>dsimp only;k_is);(case d10=>dsimp only;k_is);(case e10=>dsimp only;k_is);(case f10=>dsimp only;k_is);(case g10=>dsimp only;k_is);skip;refine Tr_bool ?_;rw [if_neg (by decide)];rw [if_neg (by decide)];refine S_last ?_;refine S_if ?_;refine T_and ?_;refine T_cmp ?_;refine E_call ?_;dsimp only;(refine' E_builtin (v:=.builtin ?id11) ?hk11 ?e11 ?hv11 ?hn11 ?_;(case hk11=>exact rfl);(case e11=>dsimp only;k_is);(case hv11=>exact rfl);(case hn11=>decide));dsimp only;refine C_raw keeper_builtin ?_;refine Args_plain ?_;refine A_cons ?_;(refine E_name (by exact rfl) ?_);refine A_nil ?_;refine B_len_tup (by simp only [cellsV,List.length_map,List.length_reverse,List.length_cons,List.length_append,List.length_nil];decide) ?_;refine E_int ?_;refine O_eq ?_;refine Tr_bool ?_;rw [if_pos (by rfl)];refine T_and ?_;refine T_val ?_;refine E_call ?_;dsimp only;(refine' E_builtin (v:=.builtin ?id13) ?hk13 ?e13 ?hv13 ?hn13 ?_;(case hk13=>exact rfl);(case e13=>dsimp only;k_is);(case hv13=>exact rfl);(case hn13=>decide));dsimp only;refine C_raw keeper_builtin ?_;refine Args_plain ?_;refine A_cons ?_;refine E_sub ?_;(refine E_name (by exact rfl) ?_);refine E_int ?_;refine Su_tup (i:=0) rfl (by simp only [cellsV,List.length_map,List.length_reverse,List.length_cons,List.length_append,List.length_nil];decide) ?_;refine A_cons ?_;(refine E_name (by exact rfl) ?_);refine A_nil ?_;refine' B_isi ?hi16 ?a16 ?_;(case hi16=>exact .inl rfl);(case a16=>dsimp only;k_is);refine Tr_bool ?_;rw [if_pos rfl];refine T_and ?_;refine T_val ?_;refine E_call ?_;dsimp only;(refine' E_builtin (v:=.builtin ?id17) ?hk17 ?e17 ?hv17 ?hn17 ?_;(case hk17=>exact rfl);(case e17=>dsimp only;k_is);(case hv17=>exact rfl);(case hn17=>decide));dsimp only;refine C_raw keeper_builtin ?_;refine Args_plain ?_;refine A_cons ?_;refine E_sub ?_;(refine E_name (by exact rfl) ?_);refine E_int ?_;refine Su_tup (i:=1) rfl (by simp only [cellsV,List.length_map,List.length_reverse,List.length_cons,List.length_append,List.length_nil];decide) ?_;refine A_cons ?_;(refine E_name (by exact rfl) ?_);refine A_nil ?_;refine' B_isi ?hi20 ?a20 ?_;(case hi20=>exact .inl rfl);(case a20=>dsimp only;k_is);refine Tr_bool ?_;rw [if_pos rfl];refine T_and_nil ?_;rw [if_pos rfl];refine S_cons ?_;refine S_assignT ?_;(refine E_name (by exact rfl) ?_);refine A_tup rfl ?_;refine Al_cons ?_;refine A_name (by exact .inl ⟨rfl,.head _⟩) ?_;dsimp only;refine Al_cons ?_;refine A_name (by exact .inl ⟨rfl,.head _⟩) ?_;dsimp only;refine Al_nil ?_;refine Then_next ?_;refine S_cons ?_;refine S_assignT ?_;refine E_tup ?_;refine A_cons ?_;refine E_int ?_;refine A_cons ?_;refine E_int ?_;refine A_nil ?_;refine And.intro (Nat.le_of_ble_eq_true rfl) ?_;refine A_tup rfl ?_;refine Al_cons ?_;refine A_name (by exact .inl ⟨rfl,.head _⟩) ?_;dsimp only;refine Al_cons ?_;refine A_name (by exact .inl ⟨rfl,.head _⟩) ?_;dsimp only;refine Al_nil ?_;refine Then_next ?_;refine S_cons ?_;refine S_assign (by exact .inl ⟨rfl,.head _⟩) ?_)
 refine E_listM (A_nil ⟨by decide,fun o=>?_⟩)
 (refine Then_next ?_;dsimp only;refine S_cons ?_)
 refine WT.imp (Q:=fun F Y=>F=AF.next∧∃ acc i j,TI cs ds i j acc∧(cs.length≤i∨ds.length≤j)∧i≤cs.length∧j≤ds.length∧Y=⟨(o,.lst (cellsV acc))::(561,tabM)::(510,MO.tabG 510)::σ₀,gi2 o cs ds i j⟩) ?w ?rest
 case w =>
  refine S_while (fun n Y=>∃ acc i j,n=(cs.length-i)+(ds.length-j)∧TI cs ds i j acc∧i≤cs.length∧j≤ds.length∧Y=⟨(o,.lst (cellsV acc))::(561,tabM)::(510,MO.tabG 510)::σ₀,gi2 o cs ds i j⟩) (cs.length+ds.length)
   ⟨⟨(o,.lst (cellsV []))::(561,tabM)::(510,MO.tabG 510)::σ₀,gi2 o cs ds 0 0⟩,Conv.names _ (by intro p hp;simp only [List.mem_cons,List.not_mem_nil,or_false] at hp;rcases hp with rfl | rfl | rfl | rfl | rfl | rfl<;>rfl),[],0,0,rfl,TI.start cs ds,Nat.zero_le _,Nat.zero_le _,rfl⟩ ?_
  rintro n Y ⟨acc,i,j,rfl,hT,hi,hj,rfl⟩
  (refine T_and ?_;refine T_cmp ?_;(refine E_name (by exact rfl) ?_);refine E_meth ?_;dsimp only;(refine E_name (by exact rfl) ?_);refine' M_fn ?hi24 ?a24 ?b24 ?c24 ?d24 ?e24 ?_;(case hi24=>exact .inl rfl);(case a24=>dsimp only;k_is);(case b24=>dsimp only;k_is);(case c24=>dsimp only;k_is);(case d24=>dsimp only;k_is);(case e24=>decide);refine Args_plain ?_;refine A_nil ?_;refine WC.of (num_c (by with_reducible assumption) (by exact Gd.le (by with_reducible assumption) rfl) (by exact (lin2 (.lt .v0 (.n (2^61))) [.lt (.a .v0 .v1) (.n 64)]) h64) ?_);refine O_lt ?_;refine Tr_bool ?_)
  by_cases hi':i<cs.length
  case neg =>
   rw [if_neg (by rw [decide_eq_false (by exact (lin2 (.no (.zt (.c .v0) (.c .v1))) [.no (.lt .v0 .v1)]) hi')];decide)]
   exact ⟨rfl,acc,i,j,hT,.inl (by exact (lin2 (.le .v0 .v1) [.no (.lt .v1 .v0)]) hi'),hi,hj,rfl⟩
  rw [if_pos (decide_eq_true (by exact (lin2 (.zt (.c .v0) (.c .v1)) [.lt .v0 .v1]) hi'))]
  (refine T_and ?_;refine T_cmp ?_;(refine E_name (by exact rfl) ?_);refine E_meth ?_;dsimp only;(refine E_name (by exact rfl) ?_);refine' M_fn ?hi27 ?a27 ?b27 ?c27 ?d27 ?e27 ?_;(case hi27=>exact .inl rfl);(case a27=>dsimp only;k_is);(case b27=>dsimp only;k_is);(case c27=>dsimp only;k_is);(case d27=>dsimp only;k_is);(case e27=>decide);refine Args_plain ?_;refine A_nil ?_;refine WC.of (num_c (by with_reducible assumption) (by exact Gd.le (by with_reducible assumption) rfl) (by exact (lin2 (.lt .v0 (.n (2^61))) [.lt (.a .v1 .v0) (.n 64)]) h64) ?_);refine O_lt ?_;refine Tr_bool ?_)
  by_cases hj':j<ds.length
  case neg =>
   rw [if_neg (by rw [decide_eq_false (by exact (lin2 (.no (.zt (.c .v0) (.c .v1))) [.no (.lt .v0 .v1)]) hj')];decide)]
   exact ⟨rfl,acc,i,j,hT,.inr (by exact (lin2 (.le .v0 .v1) [.no (.lt .v1 .v0)]) hj'),hi,hj,rfl⟩
  rw [if_pos (decide_eq_true (by exact (lin2 (.zt (.c .v0) (.c .v1)) [.lt .v0 .v1]) hj'))]
  obtain ⟨x,hx,hxm⟩:=get_lt hi'
  obtain ⟨y,hy,hym⟩:=get_lt hj'
  have okx:=hok x hxm
  have oky:=hod y hym
  have ofx:=Cel.first_ok okx
  have ofy:=Cel.first_ok oky
  (refine T_and_nil ?_;rw [if_pos rfl];refine S_cons ?_;refine S_assign (by exact .inl ⟨rfl,.head _⟩) ?_;refine E_meth ?_;dsimp only;refine E_sub ?_;refine E_attr ?_;(refine E_name (by exact rfl) ?_);refine' G_own (ca:=none) ?hi29 ?a29 ?b29 ?c29 ?d29 ?e29 ?f29 ?_;(case hi29=>exact .inl rfl);(case a29=>dsimp only;k_is);(case b29=>dsimp only;k_is);(case c29=>dsimp only;k_is);(case d29=>dsimp only;k_is);(case e29=>exact rfl);(case f29=>exact rfl);(refine E_name (by exact rfl) ?_))
  refine Su_lst (V:=.cell x.id) (atI_nat (cellsV_at hx)) (by (simp only [cellsV,List.length_map,List.length_reverse,List.length_cons,List.length_append,List.length_nil];exact (lin2 (.lt .v0 (.n (2^62))) [.lt (.a .v0 .v1) (.n 64)]) h64)) ?_
  (refine' M_fn ?hi31 ?a31 ?b31 ?c31 ?d31 ?e31 ?_;(case hi31=>exact .inl rfl);(case a31=>dsimp only;k_is);(case b31=>dsimp only;k_is);(case c31=>dsimp only;k_is);(case d31=>dsimp only;k_is);(case e31=>decide);refine Args_plain ?_;refine A_nil ?_;refine WC.of (rmin_c (by with_reducible assumption) (by exact Gd.le (by with_reducible assumption) rfl) (by with_reducible assumption) ?_);dsimp only;refine Then_next ?_;refine S_cons ?_;refine S_assign (by exact .inl ⟨rfl,.head _⟩) ?_;refine E_meth ?_;dsimp only;refine E_sub ?_;refine E_attr ?_;(refine E_name (by exact rfl) ?_);refine' G_own (ca:=none) ?hi33 ?a33 ?b33 ?c33 ?d33 ?e33 ?f33 ?_;(case hi33=>exact .inl rfl);(case a33=>dsimp only;k_is);(case b33=>dsimp only;k_is);(case c33=>dsimp only;k_is);(case d33=>dsimp only;k_is);(case e33=>exact rfl);(case f33=>exact rfl);(refine E_name (by exact rfl) ?_))
  refine Su_lst (V:=.cell y.id) (atI_nat (cellsV_at hy)) (by (simp only [cellsV,List.length_map,List.length_reverse,List.length_cons,List.length_append,List.length_nil];exact (lin2 (.lt .v0 (.n (2^62))) [.lt (.a .v1 .v0) (.n 64)]) h64)) ?_
  (refine' M_fn ?hi35 ?a35 ?b35 ?c35 ?d35 ?e35 ?_;(case hi35=>exact .inl rfl);(case a35=>dsimp only;k_is);(case b35=>dsimp only;k_is);(case c35=>dsimp only;k_is);(case d35=>dsimp only;k_is);(case e35=>decide);refine Args_plain ?_;refine A_nil ?_;refine WC.of (rmin_c (by with_reducible assumption) (by exact Gd.le (by with_reducible assumption) rfl) (by with_reducible assumption) ?_);dsimp only;refine Then_next ?_;refine S_last ?_;refine S_if ?_;refine T_cmp ?_;(refine E_name (by exact rfl) ?_);(refine E_name (by exact rfl) ?_);refine' O_cmp ?hi38 ?hj38 ?a38 ?b38 ?d38 (fun _ _=>rfl) ?_;(case hi38=>exact .inl rfl);(case hj38=>exact .inl rfl);(case a38=>dsimp only;k_is);(case b38=>dsimp only;k_is);(case d38=>dsimp only;k_is);refine gt_c (by with_reducible assumption) (by exact Gd.le (by with_reducible assumption) rfl) ⟨_,rfl,?_⟩;refine Tr_bool ?_)
  have hlen:=hT.len
  have olx:=Cel.last_ok okx
  have oly:=Cel.last_ok oky
  by_cases q1:y.first.id<x.first.id
  ·rw [if_pos (decide_eq_true q1)]
   (refine S_last ?_;refine S_if ?_;refine T_cmp ?_;refine E_sub ?_;refine E_attr ?_;(refine E_name (by exact rfl) ?_);refine' G_own (ca:=none) ?hi40 ?a40 ?b40 ?c40 ?d40 ?e40 ?f40 ?_;(case hi40=>exact .inl rfl);(case a40=>dsimp only;k_is);(case b40=>dsimp only;k_is);(case c40=>dsimp only;k_is);(case d40=>dsimp only;k_is);(case e40=>exact rfl);(case f40=>exact rfl);(refine E_name (by exact rfl) ?_))
   refine Su_lst (V:=.cell x.id) (atI_nat (cellsV_at hx)) (by (simp only [cellsV,List.length_map,List.length_reverse,List.length_cons,List.length_append,List.length_nil];exact (lin2 (.lt .v0 (.n (2^62))) [.lt (.a .v0 .v1) (.n 64)]) h64)) ?_
   (refine E_meth ?_;dsimp only;refine E_sub ?_;refine E_attr ?_;(refine E_name (by exact rfl) ?_);refine' G_own (ca:=none) ?hi43 ?a43 ?b43 ?c43 ?d43 ?e43 ?f43 ?_;(case hi43=>exact .inl rfl);(case a43=>dsimp only;k_is);(case b43=>dsimp only;k_is);(case c43=>dsimp only;k_is);(case d43=>dsimp only;k_is);(case e43=>exact rfl);(case f43=>exact rfl);(refine E_name (by exact rfl) ?_))
   refine Su_lst (V:=.cell y.id) (atI_nat (cellsV_at hy)) (by (simp only [cellsV,List.length_map,List.length_reverse,List.length_cons,List.length_append,List.length_nil];exact (lin2 (.lt .v0 (.n (2^62))) [.lt (.a .v1 .v0) (.n 64)]) h64)) ?_
   (refine' M_fn ?hi45 ?a45 ?b45 ?c45 ?d45 ?e45 ?_;(case hi45=>exact .inl rfl);(case a45=>dsimp only;k_is);(case b45=>dsimp only;k_is);(case c45=>dsimp only;k_is);(case d45=>dsimp only;k_is);(case e45=>decide);refine Args_plain ?_;refine A_nil ?_;refine WC.of (rmax_c (by with_reducible assumption) (by exact Gd.le (by with_reducible assumption) rfl) (by with_reducible assumption) ?_);refine' O_cmp ?hi46 ?hj46 ?a46 ?b46 ?d46 (fun _ _=>rfl) ?_;(case hi46=>exact .inl rfl);(case hj46=>exact .inl rfl);(case a46=>dsimp only;k_is);(case b46=>dsimp only;k_is);(case d46=>dsimp only;k_is);refine le_c (by with_reducible assumption) (by exact Gd.le (by with_reducible assumption) rfl) ⟨_,rfl,?_⟩;refine Tr_bool ?_)
   by_cases q2:x.id≤y.last.id
   ·rw [if_pos (decide_eq_true q2)]
    (refine S_cons ?_;refine S_expr ?_;refine E_meth ?_;dsimp only;(refine E_name (by exact rfl) ?_);refine M_list (by exact List.Mem.head _) PySem.F.slot_list_append PySem.F.type_list_append ?_;refine Args_plain ?_;refine A_cons ?_;refine E_sub ?_;refine E_attr ?_;(refine E_name (by exact rfl) ?_);refine' G_own (ca:=none) ?hi49 ?a49 ?b49 ?c49 ?d49 ?e49 ?f49 ?_;(case hi49=>exact .inl rfl);(case a49=>dsimp only;k_is);(case b49=>dsimp only;k_is);(case c49=>dsimp only;k_is);(case d49=>dsimp only;k_is);(case e49=>exact rfl);(case f49=>exact rfl);(refine E_name (by exact rfl) ?_))
    refine Su_lst (V:=.cell x.id) (atI_nat (cellsV_at hx)) (by (simp only [cellsV,List.length_map,List.length_reverse,List.length_cons,List.length_append,List.length_nil];exact (lin2 (.lt .v0 (.n (2^62))) [.lt (.a .v0 .v1) (.n 64)]) h64)) ?_
    (refine A_nil ?_;refine B_append (by exact SUpd.head) (by simp only [cellsV,List.length_map,List.length_reverse,List.length_cons,List.length_append,List.length_nil];exact (lin5 (.le .v0 (.n 1000000)) [.lt (.a .v1 .v2) (.n 64),.lt .v3 .v1,.lt .v4 .v2,.le .v0 (.a .v3 .v4)]) h64 hi' hj' hlen) ?_;dsimp only;refine Then_next ?_;refine S_last ?_;refine S_aug (by exact .inl ⟨rfl,.head _⟩) rfl ?_;refine E_int ?_;refine O_iadd ?_;dsimp only)
    refine ⟨⟨(o,.lst (cellsV (acc++[x])))::(561,tabM)::(510,MO.tabG 510)::σ₀,gi2 o cs ds (i+1) j⟩,?_,_,?_,acc++[x],i+1,j,rfl,hT.push hx hy (id_sub q1 q2),by exact (lin2 (.le (.a .v0 .n1) .v1) [.lt .v0 .v1]) hi',by exact (lin2 (.le .v0 .v1) [.le .v0 .v1]) hj,rfl⟩
    ·rw [show cellsV (acc++[x])=cellsV acc++[.cell x.id] by unfold cellsV;rw [List.map_append];rfl]
     exact Conv.names _ (by intro p hp;simp only [List.mem_cons,List.not_mem_nil,or_false] at hp;rcases hp with rfl | rfl | rfl | rfl | rfl | rfl<;>rfl)
    ·exact (lin7 (.lt (.a .v0 .v3) (.a .v6 .v3)) [.lt .v2 .v1,.sb .v0 .v1 (.a .v2 .n1),.sb .v3 .v4 .v5,.sb .v6 .v1 .v2]) hi' (sbc _ _) (sbc _ _) (sbc _ _)
   ·rw [if_neg (by rw [decide_eq_false q2];decide)]
    (refine S_cons ?_;refine S_assign (by exact .inl ⟨rfl,.head _⟩) ?_;refine E_call ?_;dsimp only;(refine' E_global ?hk51 ?e51 ?_;(case hk51=>exact rfl);(case e51=>dsimp only;k_is));refine C_raw keeper_builtin ?_)
    unfold WArgs
    (refine A_cons ?_;dsimp only;refine E_attr ?_;(refine E_name (by exact rfl) ?_);refine' G_own (ca:=none) ?hi53 ?a53 ?b53 ?c53 ?d53 ?e53 ?f53 ?_;(case hi53=>exact .inl rfl);(case a53=>dsimp only;k_is);(case b53=>dsimp only;k_is);(case c53=>dsimp only;k_is);(case d53=>dsimp only;k_is);(case e53=>exact rfl);(case f53=>exact rfl);refine A_cons ?_;(refine E_name (by exact rfl) ?_);refine A_nil ?_)
    refine K_cons ?_
    (refine E_bin ?_;(refine E_name (by exact rfl) ?_);refine E_int ?_;refine O_add ?_)
    refine K_nil ?_
    rw [show ((j:Int)+1)=((j+1:Nat):Int) by exact lin1 (.ze (.a (.c .v0) .n1) (.c (.a .v0 .n1))) []]
    refine (B_blo (e₀:=x.first) (by (with_reducible assumption)) (by (exact Gd.le (by with_reducible assumption) rfl)) (asc_sd hd) (by exact (lin2 (.lt .v0 (.n (2^61))) [.lt (.a .v1 .v0) (.n 64)]) h64) (by exact (lin2 (.le (.a .v0 .n1) .v1) [.lt .v0 .v1]) hj') ?_)
    have hbl:=blc_le ds x.first.id
    have hsk:∀ m c,j+1≤m→m<max (j+1) (blc ds x.first.id)→ds[m]?=some c→c.id<x.first.id:=fun m c h1 h2 h3=>(bl_lt (asc_sd hd) h3).mpr (by exact (lin4 (.lt .v0 .v1) [.le (.a .v2 .n1) .v0,.lt .v0 .v3,.or (.an (.le (.a .v2 .n1) .v1) (.eq .v3 .v1)) (.an (.lt .v1 (.a .v2 .n1)) (.eq .v3 (.a .v2 .n1)))]) h1 h2 (mxc _ _))
    generalize hj1:max (j+1) (blc ds x.first.id)=j₁ at *
    have g1:j+1≤j₁:=by exact (lin4 (.le (.a .v0 .n1) .v1) [.eq .v2 .v1,.or (.an (.le (.a .v0 .n1) .v3) (.eq .v2 .v3)) (.an (.lt .v3 (.a .v0 .n1)) (.eq .v2 (.a .v0 .n1)))]) hj1 (mxc _ _)
    have g2:j₁≤ds.length:=by exact (lin5 (.le .v0 .v1) [.lt .v2 .v1,.le .v3 .v1,.eq .v4 .v0,.or (.an (.le (.a .v2 .n1) .v3) (.eq .v4 .v3)) (.an (.lt .v3 (.a .v2 .n1)) (.eq .v4 (.a .v2 .n1)))]) hj' hbl hj1 (mxc _ _)
    obtain ⟨e,he,hem⟩:=get_lt (show j₁-1<ds.length by exact (lin4 (.lt .v0 .v2) [.le (.a .v3 .n1) .v1,.le .v1 .v2,.sb .v0 .v1 .n1]) g1 g2 (sbc _ _))
    have oke:=hod e hem
    have ole:=Cel.last_ok oke
    have hso:=skip_ok hd hy q1 q2 g1 hsk he
    (refine Then_next ?_;dsimp only;refine S_last ?_;refine S_if ?_;refine T_cmp ?_;refine E_sub ?_;refine E_attr ?_;(refine E_name (by exact rfl) ?_);refine' G_own (ca:=none) ?hi57 ?a57 ?b57 ?c57 ?d57 ?e57 ?f57 ?_;(case hi57=>exact .inl rfl);(case a57=>dsimp only;k_is);(case b57=>dsimp only;k_is);(case c57=>dsimp only;k_is);(case d57=>dsimp only;k_is);(case e57=>exact rfl);(case f57=>exact rfl);(refine E_name (by exact rfl) ?_))
    refine Su_lst (V:=.cell x.id) (atI_nat (cellsV_at hx)) (by (simp only [cellsV,List.length_map,List.length_reverse,List.length_cons,List.length_append,List.length_nil];exact (lin2 (.lt .v0 (.n (2^62))) [.lt (.a .v0 .v1) (.n 64)]) h64)) ?_
    (refine E_meth ?_;dsimp only;refine E_sub ?_;refine E_attr ?_;(refine E_name (by exact rfl) ?_);refine' G_own (ca:=none) ?hi60 ?a60 ?b60 ?c60 ?d60 ?e60 ?f60 ?_;(case hi60=>exact .inl rfl);(case a60=>dsimp only;k_is);(case b60=>dsimp only;k_is);(case c60=>dsimp only;k_is);(case d60=>dsimp only;k_is);(case e60=>exact rfl);(case f60=>exact rfl);refine E_bin ?_;(refine E_name (by exact rfl) ?_);refine E_int ?_;refine O_sub ?_)
    rw [show ((j₁:Int)-1)=((j₁-1:Nat):Int) by exact (lin3 (.ze (.s (.c .v0) .n1) (.c .v1)) [.le (.a .v2 .n1) .v0,.sb .v1 .v0 .n1]) g1 (sbc _ _)]
    refine Su_lst (V:=.cell e.id) (atI_nat (cellsV_at he)) (by (simp only [cellsV,List.length_map,List.length_reverse,List.length_cons,List.length_append,List.length_nil];exact (lin2 (.lt .v0 (.n (2^62))) [.lt (.a .v1 .v0) (.n 64)]) h64)) ?_
    (refine' M_fn ?hi62 ?a62 ?b62 ?c62 ?d62 ?e62 ?_;(case hi62=>exact .inl rfl);(case a62=>dsimp only;k_is);(case b62=>dsimp only;k_is);(case c62=>dsimp only;k_is);(case d62=>dsimp only;k_is);(case e62=>decide);refine Args_plain ?_;refine A_nil ?_;refine WC.of (rmax_c (by with_reducible assumption) (by exact Gd.le (by with_reducible assumption) rfl) (by with_reducible assumption) ?_);refine' O_cmp ?hi63 ?hj63 ?a63 ?b63 ?d63 (fun _ _=>rfl) ?_;(case hi63=>exact .inl rfl);(case hj63=>exact .inl rfl);(case a63=>dsimp only;k_is);(case b63=>dsimp only;k_is);(case d63=>dsimp only;k_is);refine le_c (by with_reducible assumption) (by exact Gd.le (by with_reducible assumption) rfl) ⟨_,rfl,?_⟩;refine Tr_bool ?_)
    by_cases q5:x.id≤e.last.id
    ·rw [if_pos (decide_eq_true q5)]
     obtain ⟨g3,g4⟩:=hso.1 q5
     (refine S_last ?_;refine S_aug (by exact .inl ⟨rfl,.head _⟩) rfl ?_;refine E_int ?_;refine O_isub ?_;dsimp only)
     rw [show ((j₁:Int)-1)=((j₁-1:Nat):Int) by exact (lin3 (.ze (.s (.c .v0) .n1) (.c .v1)) [.le (.a .v2 .n1) .v0,.sb .v1 .v0 .n1]) g1 (sbc _ _)]
     exact ⟨⟨(o,.lst (cellsV acc))::(561,tabM)::(510,MO.tabG 510)::σ₀,gi2 o cs ds i (j₁-1)⟩,Conv.names _ (by intro p hp;simp only [List.mem_cons,List.not_mem_nil,or_false] at hp;rcases hp with rfl | rfl | rfl | rfl | rfl | rfl<;>rfl),_,by exact (lin [_,_,_,_,_,_,_,_,_] [] (.lt (.a .v0 .v3) (.a .v0 .v7)) [.lt (.v 8) .v4,.le (.a (.v 8) .n1) .v5,.sb .v0 .v1 .v2,.sb .v5 .v6 .n1,.sb .v3 .v4 .v5,.sb .v7 .v4 (.v 8)]) hj' g3 (sbc _ _) (sbc _ _) (sbc _ _) (sbc _ _),acc,i,j₁-1,rfl,hT.skip hs hx (by exact (lin3 (.le .v0 .v1) [.le (.a .v0 .n1) .v1,.sb .v1 .v2 .n1]) g3 (sbc _ _)) (g4),by exact (lin2 (.le .v0 .v1) [.le .v0 .v1]) hi,by exact (lin3 (.le .v0 .v2) [.le .v1 .v2,.sb .v0 .v1 .n1]) g2 (sbc _ _),rfl⟩
    ·rw [if_neg (by rw [decide_eq_false q5];decide)]
     have g4:=hso.2 q5
     (refine S_nil ?_)
     exact ⟨⟨(o,.lst (cellsV acc))::(561,tabM)::(510,MO.tabG 510)::σ₀,gi2 o cs ds i j₁⟩,Conv.names _ (by intro p hp;simp only [List.mem_cons,List.not_mem_nil,or_false] at hp;rcases hp with rfl | rfl | rfl | rfl | rfl | rfl<;>rfl),_,by exact (lin [_,_,_,_,_,_,_,_] [] (.lt (.a .v0 .v3) (.a .v0 .v6)) [.le (.a .v7 .n1) .v5,.le .v5 .v4,.sb .v0 .v1 .v2,.sb .v3 .v4 .v5,.sb .v6 .v4 .v7]) g1 g2 (sbc _ _) (sbc _ _) (sbc _ _),acc,i,j₁,rfl,hT.skip hs hx (by exact (lin2 (.le .v0 .v1) [.le (.a .v0 .n1) .v1]) g1) (g4),by exact (lin2 (.le .v0 .v1) [.le .v0 .v1]) hi,by exact (lin2 (.le .v0 .v1) [.le .v0 .v1]) g2,rfl⟩
  rw [if_neg (by rw [decide_eq_false q1];decide)]
  (refine S_last ?_;refine S_if ?_;refine T_cmp ?_;(refine E_name (by exact rfl) ?_);(refine E_name (by exact rfl) ?_);refine' O_cmp ?hi66 ?hj66 ?a66 ?b66 ?d66 (fun _ _=>rfl) ?_;(case hi66=>exact .inl rfl);(case hj66=>exact .inl rfl);(case a66=>dsimp only;k_is);(case b66=>dsimp only;k_is);(case d66=>dsimp only;k_is);refine gt_c (by with_reducible assumption) (by exact Gd.le (by with_reducible assumption) rfl) ⟨_,rfl,?_⟩;refine Tr_bool ?_)
  by_cases q3:x.first.id<y.first.id
  ·rw [if_pos (decide_eq_true q3)]
   (refine S_last ?_;refine S_if ?_;refine T_cmp ?_;refine E_sub ?_;refine E_attr ?_;(refine E_name (by exact rfl) ?_);refine' G_own (ca:=none) ?hi68 ?a68 ?b68 ?c68 ?d68 ?e68 ?f68 ?_;(case hi68=>exact .inl rfl);(case a68=>dsimp only;k_is);(case b68=>dsimp only;k_is);(case c68=>dsimp only;k_is);(case d68=>dsimp only;k_is);(case e68=>exact rfl);(case f68=>exact rfl);(refine E_name (by exact rfl) ?_))
   refine Su_lst (V:=.cell y.id) (atI_nat (cellsV_at hy)) (by (simp only [cellsV,List.length_map,List.length_reverse,List.length_cons,List.length_append,List.length_nil];exact (lin2 (.lt .v0 (.n (2^62))) [.lt (.a .v1 .v0) (.n 64)]) h64)) ?_
   (refine E_meth ?_;dsimp only;refine E_sub ?_;refine E_attr ?_;(refine E_name (by exact rfl) ?_);refine' G_own (ca:=none) ?hi71 ?a71 ?b71 ?c71 ?d71 ?e71 ?f71 ?_;(case hi71=>exact .inl rfl);(case a71=>dsimp only;k_is);(case b71=>dsimp only;k_is);(case c71=>dsimp only;k_is);(case d71=>dsimp only;k_is);(case e71=>exact rfl);(case f71=>exact rfl);(refine E_name (by exact rfl) ?_))
   refine Su_lst (V:=.cell x.id) (atI_nat (cellsV_at hx)) (by (simp only [cellsV,List.length_map,List.length_reverse,List.length_cons,List.length_append,List.length_nil];exact (lin2 (.lt .v0 (.n (2^62))) [.lt (.a .v0 .v1) (.n 64)]) h64)) ?_
   (refine' M_fn ?hi73 ?a73 ?b73 ?c73 ?d73 ?e73 ?_;(case hi73=>exact .inl rfl);(case a73=>dsimp only;k_is);(case b73=>dsimp only;k_is);(case c73=>dsimp only;k_is);(case d73=>dsimp only;k_is);(case e73=>decide);refine Args_plain ?_;refine A_nil ?_;refine WC.of (rmax_c (by with_reducible assumption) (by exact Gd.le (by with_reducible assumption) rfl) (by with_reducible assumption) ?_);refine' O_cmp ?hi74 ?hj74 ?a74 ?b74 ?d74 (fun _ _=>rfl) ?_;(case hi74=>exact .inl rfl);(case hj74=>exact .inl rfl);(case a74=>dsimp only;k_is);(case b74=>dsimp only;k_is);(case d74=>dsimp only;k_is);refine le_c (by with_reducible assumption) (by exact Gd.le (by with_reducible assumption) rfl) ⟨_,rfl,?_⟩;refine Tr_bool ?_)
   by_cases q4:y.id≤x.last.id
   ·rw [if_pos (decide_eq_true q4)]
    (refine S_cons ?_;refine S_expr ?_;refine E_meth ?_;dsimp only;(refine E_name (by exact rfl) ?_);refine M_list (by exact List.Mem.head _) PySem.F.slot_list_append PySem.F.type_list_append ?_;refine Args_plain ?_;refine A_cons ?_;refine E_sub ?_;refine E_attr ?_;(refine E_name (by exact rfl) ?_);refine' G_own (ca:=none) ?hi77 ?a77 ?b77 ?c77 ?d77 ?e77 ?f77 ?_;(case hi77=>exact .inl rfl);(case a77=>dsimp only;k_is);(case b77=>dsimp only;k_is);(case c77=>dsimp only;k_is);(case d77=>dsimp only;k_is);(case e77=>exact rfl);(case f77=>exact rfl);(refine E_name (by exact rfl) ?_))
    refine Su_lst (V:=.cell y.id) (atI_nat (cellsV_at hy)) (by (simp only [cellsV,List.length_map,List.length_reverse,List.length_cons,List.length_append,List.length_nil];exact (lin2 (.lt .v0 (.n (2^62))) [.lt (.a .v1 .v0) (.n 64)]) h64)) ?_
    (refine A_nil ?_;refine B_append (by exact SUpd.head) (by simp only [cellsV,List.length_map,List.length_reverse,List.length_cons,List.length_append,List.length_nil];exact (lin5 (.le .v0 (.n 1000000)) [.lt (.a .v1 .v2) (.n 64),.lt .v3 .v1,.lt .v4 .v2,.le .v0 (.a .v3 .v4)]) h64 hi' hj' hlen) ?_;dsimp only;refine Then_next ?_;refine S_last ?_;refine S_aug (by exact .inl ⟨rfl,.head _⟩) rfl ?_;refine E_int ?_;refine O_iadd ?_;dsimp only)
    refine ⟨⟨(o,.lst (cellsV (acc++[y])))::(561,tabM)::(510,MO.tabG 510)::σ₀,gi2 o cs ds i (j+1)⟩,?_,_,?_,acc++[y],i,j+1,rfl,(hT.swap.push hy hx (id_sub q3 q4)).swap,by exact (lin2 (.le .v0 .v1) [.le .v0 .v1]) hi,by exact (lin2 (.le (.a .v0 .n1) .v1) [.lt .v0 .v1]) hj',rfl⟩
    ·rw [show cellsV (acc++[y])=cellsV acc++[.cell y.id] by unfold cellsV;rw [List.map_append];rfl]
     exact Conv.names _ (by intro p hp;simp only [List.mem_cons,List.not_mem_nil,or_false] at hp;rcases hp with rfl | rfl | rfl | rfl | rfl | rfl<;>rfl)
    ·exact (lin7 (.lt (.a .v0 .v3) (.a .v0 .v6)) [.lt .v5 .v4,.sb .v0 .v1 .v2,.sb .v3 .v4 (.a .v5 .n1),.sb .v6 .v4 .v5]) hj' (sbc _ _) (sbc _ _) (sbc _ _)
   ·rw [if_neg (by rw [decide_eq_false q4];decide)]
    (refine S_cons ?_;refine S_assign (by exact .inl ⟨rfl,.head _⟩) ?_;refine E_call ?_;dsimp only;(refine' E_global ?hk79 ?e79 ?_;(case hk79=>exact rfl);(case e79=>dsimp only;k_is));refine C_raw keeper_builtin ?_)
    unfold WArgs
    (refine A_cons ?_;dsimp only;refine E_attr ?_;(refine E_name (by exact rfl) ?_);refine' G_own (ca:=none) ?hi81 ?a81 ?b81 ?c81 ?d81 ?e81 ?f81 ?_;(case hi81=>exact .inl rfl);(case a81=>dsimp only;k_is);(case b81=>dsimp only;k_is);(case c81=>dsimp only;k_is);(case d81=>dsimp only;k_is);(case e81=>exact rfl);(case f81=>exact rfl);refine A_cons ?_;(refine E_name (by exact rfl) ?_);refine A_nil ?_)
    refine K_cons ?_
    (refine E_bin ?_;(refine E_name (by exact rfl) ?_);refine E_int ?_;refine O_add ?_)
    refine K_nil ?_
    rw [show ((i:Int)+1)=((i+1:Nat):Int) by exact lin1 (.ze (.a (.c .v0) .n1) (.c (.a .v0 .n1))) []]
    refine (B_blo (e₀:=y.first) (by (with_reducible assumption)) (by (exact Gd.le (by with_reducible assumption) rfl)) (asc_sd hs) (by exact (lin2 (.lt .v0 (.n (2^61))) [.lt (.a .v0 .v1) (.n 64)]) h64) (by exact (lin2 (.le (.a .v0 .n1) .v1) [.lt .v0 .v1]) hi') ?_)
    have hbl:=blc_le cs y.first.id
    have hsk:∀ m c,i+1≤m→m<max (i+1) (blc cs y.first.id)→cs[m]?=some c→c.id<y.first.id:=fun m c h1 h2 h3=>(bl_lt (asc_sd hs) h3).mpr (by exact (lin4 (.lt .v0 .v1) [.le (.a .v2 .n1) .v0,.lt .v0 .v3,.or (.an (.le (.a .v2 .n1) .v1) (.eq .v3 .v1)) (.an (.lt .v1 (.a .v2 .n1)) (.eq .v3 (.a .v2 .n1)))]) h1 h2 (mxc _ _))
    generalize hj1:max (i+1) (blc cs y.first.id)=j₁ at *
    have g1:i+1≤j₁:=by exact (lin4 (.le (.a .v0 .n1) .v1) [.eq .v2 .v1,.or (.an (.le (.a .v0 .n1) .v3) (.eq .v2 .v3)) (.an (.lt .v3 (.a .v0 .n1)) (.eq .v2 (.a .v0 .n1)))]) hj1 (mxc _ _)
    have g2:j₁≤cs.length:=by exact (lin5 (.le .v0 .v1) [.lt .v2 .v1,.le .v3 .v1,.eq .v4 .v0,.or (.an (.le (.a .v2 .n1) .v3) (.eq .v4 .v3)) (.an (.lt .v3 (.a .v2 .n1)) (.eq .v4 (.a .v2 .n1)))]) hi' hbl hj1 (mxc _ _)
    obtain ⟨e,he,hem⟩:=get_lt (show j₁-1<cs.length by exact (lin4 (.lt .v0 .v2) [.le (.a .v3 .n1) .v1,.le .v1 .v2,.sb .v0 .v1 .n1]) g1 g2 (sbc _ _))
    have oke:=hok e hem
    have ole:=Cel.last_ok oke
    have hso:=skip_ok hs hx q3 q4 g1 hsk he
    (refine Then_next ?_;dsimp only;refine S_last ?_;refine S_if ?_;refine T_cmp ?_;refine E_sub ?_;refine E_attr ?_;(refine E_name (by exact rfl) ?_);refine' G_own (ca:=none) ?hi85 ?a85 ?b85 ?c85 ?d85 ?e85 ?f85 ?_;(case hi85=>exact .inl rfl);(case a85=>dsimp only;k_is);(case b85=>dsimp only;k_is);(case c85=>dsimp only;k_is);(case d85=>dsimp only;k_is);(case e85=>exact rfl);(case f85=>exact rfl);(refine E_name (by exact rfl) ?_))
    refine Su_lst (V:=.cell y.id) (atI_nat (cellsV_at hy)) (by (simp only [cellsV,List.length_map,List.length_reverse,List.length_cons,List.length_append,List.length_nil];exact (lin2 (.lt .v0 (.n (2^62))) [.lt (.a .v1 .v0) (.n 64)]) h64)) ?_
    (refine E_meth ?_;dsimp only;refine E_sub ?_;refine E_attr ?_;(refine E_name (by exact rfl) ?_);refine' G_own (ca:=none) ?hi88 ?a88 ?b88 ?c88 ?d88 ?e88 ?f88 ?_;(case hi88=>exact .inl rfl);(case a88=>dsimp only;k_is);(case b88=>dsimp only;k_is);(case c88=>dsimp only;k_is);(case d88=>dsimp only;k_is);(case e88=>exact rfl);(case f88=>exact rfl);refine E_bin ?_;(refine E_name (by exact rfl) ?_);refine E_int ?_;refine O_sub ?_)
    rw [show ((j₁:Int)-1)=((j₁-1:Nat):Int) by exact (lin3 (.ze (.s (.c .v0) .n1) (.c .v1)) [.le (.a .v2 .n1) .v0,.sb .v1 .v0 .n1]) g1 (sbc _ _)]
    refine Su_lst (V:=.cell e.id) (atI_nat (cellsV_at he)) (by (simp only [cellsV,List.length_map,List.length_reverse,List.length_cons,List.length_append,List.length_nil];exact (lin2 (.lt .v0 (.n (2^62))) [.lt (.a .v0 .v1) (.n 64)]) h64)) ?_
    (refine' M_fn ?hi90 ?a90 ?b90 ?c90 ?d90 ?e90 ?_;(case hi90=>exact .inl rfl);(case a90=>dsimp only;k_is);(case b90=>dsimp only;k_is);(case c90=>dsimp only;k_is);(case d90=>dsimp only;k_is);(case e90=>decide);refine Args_plain ?_;refine A_nil ?_;refine WC.of (rmax_c (by with_reducible assumption) (by exact Gd.le (by with_reducible assumption) rfl) (by with_reducible assumption) ?_);refine' O_cmp ?hi91 ?hj91 ?a91 ?b91 ?d91 (fun _ _=>rfl) ?_;(case hi91=>exact .inl rfl);(case hj91=>exact .inl rfl);(case a91=>dsimp only;k_is);(case b91=>dsimp only;k_is);(case d91=>dsimp only;k_is);refine le_c (by with_reducible assumption) (by exact Gd.le (by with_reducible assumption) rfl) ⟨_,rfl,?_⟩;refine Tr_bool ?_)
    by_cases q5:y.id≤e.last.id
    ·rw [if_pos (decide_eq_true q5)]
     obtain ⟨g3,g4⟩:=hso.1 q5
     (refine S_last ?_;refine S_aug (by exact .inl ⟨rfl,.head _⟩) rfl ?_;refine E_int ?_;refine O_isub ?_;dsimp only)
     rw [show ((j₁:Int)-1)=((j₁-1:Nat):Int) by exact (lin3 (.ze (.s (.c .v0) .n1) (.c .v1)) [.le (.a .v2 .n1) .v0,.sb .v1 .v0 .n1]) g1 (sbc _ _)]
     exact ⟨⟨(o,.lst (cellsV acc))::(561,tabM)::(510,MO.tabG 510)::σ₀,gi2 o cs ds (j₁-1) j⟩,Conv.names _ (by intro p hp;simp only [List.mem_cons,List.not_mem_nil,or_false] at hp;rcases hp with rfl | rfl | rfl | rfl | rfl | rfl<;>rfl),_,by exact (lin [_,_,_,_,_,_,_,_,_] [] (.lt (.a .v0 .v4) (.a .v7 .v4)) [.lt (.v 8) .v1,.le (.a (.v 8) .n1) .v2,.sb .v2 .v3 .n1,.sb .v0 .v1 .v2,.sb .v4 .v5 .v6,.sb .v7 .v1 (.v 8)]) hi' g3 (sbc _ _) (sbc _ _) (sbc _ _) (sbc _ _),acc,j₁-1,j,rfl,(hT.swap.skip hd hy (by exact (lin3 (.le .v0 .v1) [.le (.a .v0 .n1) .v1,.sb .v1 .v2 .n1]) g3 (sbc _ _)) (g4)).swap,by exact (lin3 (.le .v0 .v2) [.le .v1 .v2,.sb .v0 .v1 .n1]) g2 (sbc _ _),by exact (lin2 (.le .v0 .v1) [.le .v0 .v1]) hj,rfl⟩
    ·rw [if_neg (by rw [decide_eq_false q5];decide)]
     have g4:=hso.2 q5
     (refine S_nil ?_)
     exact ⟨⟨(o,.lst (cellsV acc))::(561,tabM)::(510,MO.tabG 510)::σ₀,gi2 o cs ds j₁ j⟩,Conv.names _ (by intro p hp;simp only [List.mem_cons,List.not_mem_nil,or_false] at hp;rcases hp with rfl | rfl | rfl | rfl | rfl | rfl<;>rfl),_,by exact (lin [_,_,_,_,_,_,_,_] [] (.lt (.a .v0 .v3) (.a .v6 .v3)) [.le (.a .v7 .n1) .v2,.le .v2 .v1,.sb .v0 .v1 .v2,.sb .v3 .v4 .v5,.sb .v6 .v1 .v7]) g1 g2 (sbc _ _) (sbc _ _) (sbc _ _),acc,j₁,j,rfl,(hT.swap.skip hd hy (by exact (lin2 (.le .v0 .v1) [.le (.a .v0 .n1) .v1]) g1) (g4)).swap,by exact (lin2 (.le .v0 .v1) [.le .v0 .v1]) g2,by exact (lin2 (.le .v0 .v1) [.le .v0 .v1]) hj,rfl⟩
  rw [if_neg (by rw [decide_eq_false q3];decide)]
  have hq:=id_same (x:=x) (y:=y) (by exact (lin [] [_,_] (.ze .v0 .v1) [.no (.zt .v1 .v0),.no (.zt .v0 .v1)]) q1 q3)
  (refine S_last ?_;refine S_if ?_;refine T_cmp ?_;refine E_sub ?_;refine E_attr ?_;(refine E_name (by exact rfl) ?_);refine' G_own (ca:=none) ?hi93 ?a93 ?b93 ?c93 ?d93 ?e93 ?f93 ?_;(case hi93=>exact .inl rfl);(case a93=>dsimp only;k_is);(case b93=>dsimp only;k_is);(case c93=>dsimp only;k_is);(case d93=>dsimp only;k_is);(case e93=>exact rfl);(case f93=>exact rfl);(refine E_name (by exact rfl) ?_))
  refine Su_lst (V:=.cell x.id) (atI_nat (cellsV_at hx)) (by (simp only [cellsV,List.length_map,List.length_reverse,List.length_cons,List.length_append,List.length_nil];exact (lin2 (.lt .v0 (.n (2^62))) [.lt (.a .v0 .v1) (.n 64)]) h64)) ?_
  (refine E_sub ?_;refine E_attr ?_;(refine E_name (by exact rfl) ?_);refine' G_own (ca:=none) ?hi96 ?a96 ?b96 ?c96 ?d96 ?e96 ?f96 ?_;(case hi96=>exact .inl rfl);(case a96=>dsimp only;k_is);(case b96=>dsimp only;k_is);(case c96=>dsimp only;k_is);(case d96=>dsimp only;k_is);(case e96=>exact rfl);(case f96=>exact rfl);(refine E_name (by exact rfl) ?_))
  refine Su_lst (V:=.cell y.id) (atI_nat (cellsV_at hy)) (by (simp only [cellsV,List.length_map,List.length_reverse,List.length_cons,List.length_append,List.length_nil];exact (lin2 (.lt .v0 (.n (2^62))) [.lt (.a .v1 .v0) (.n 64)]) h64)) ?_
  (refine' O_cmp ?hi98 ?hj98 ?a98 ?b98 ?d98 (fun _ _=>rfl) ?_;(case hi98=>exact .inl rfl);(case hj98=>exact .inl rfl);(case a98=>dsimp only;k_is);(case b98=>dsimp only;k_is);(case d98=>dsimp only;k_is);refine lt_c (by with_reducible assumption) (by exact Gd.le (by with_reducible assumption) rfl) ⟨_,rfl,?_⟩;refine Tr_bool ?_)
  by_cases q6:x.id<y.id
  ·rw [if_pos (decide_eq_true q6)]
   (refine S_cons ?_;refine S_expr ?_;refine E_meth ?_;dsimp only;(refine E_name (by exact rfl) ?_);refine M_list (by exact List.Mem.head _) PySem.F.slot_list_append PySem.F.type_list_append ?_;refine Args_plain ?_;refine A_cons ?_;refine E_sub ?_;refine E_attr ?_;(refine E_name (by exact rfl) ?_);refine' G_own (ca:=none) ?hi101 ?a101 ?b101 ?c101 ?d101 ?e101 ?f101 ?_;(case hi101=>exact .inl rfl);(case a101=>dsimp only;k_is);(case b101=>dsimp only;k_is);(case c101=>dsimp only;k_is);(case d101=>dsimp only;k_is);(case e101=>exact rfl);(case f101=>exact rfl);(refine E_name (by exact rfl) ?_))
   refine Su_lst (V:=.cell x.id) (atI_nat (cellsV_at hx)) (by (simp only [cellsV,List.length_map,List.length_reverse,List.length_cons,List.length_append,List.length_nil];exact (lin2 (.lt .v0 (.n (2^62))) [.lt (.a .v0 .v1) (.n 64)]) h64)) ?_
   (refine A_nil ?_;refine B_append (by exact SUpd.head) (by simp only [cellsV,List.length_map,List.length_reverse,List.length_cons,List.length_append,List.length_nil];exact (lin5 (.le .v0 (.n 1000000)) [.lt (.a .v1 .v2) (.n 64),.lt .v3 .v1,.lt .v4 .v2,.le .v0 (.a .v3 .v4)]) h64 hi' hj' hlen) ?_;dsimp only;refine Then_next ?_;refine S_last ?_;refine S_aug (by exact .inl ⟨rfl,.head _⟩) rfl ?_;refine E_int ?_;refine O_iadd ?_;dsimp only)
   refine ⟨⟨(o,.lst (cellsV (acc++[x])))::(561,tabM)::(510,MO.tabG 510)::σ₀,gi2 o cs ds (i+1) j⟩,?_,_,?_,acc++[x],i+1,j,rfl,hT.push hx hy (hq.1 q6),by exact (lin2 (.le (.a .v0 .n1) .v1) [.lt .v0 .v1]) hi',by exact (lin2 (.le .v0 .v1) [.le .v0 .v1]) hj,rfl⟩
   ·rw [show cellsV (acc++[x])=cellsV acc++[.cell x.id] by unfold cellsV;rw [List.map_append];rfl]
    exact Conv.names _ (by intro p hp;simp only [List.mem_cons,List.not_mem_nil,or_false] at hp;rcases hp with rfl | rfl | rfl | rfl | rfl | rfl<;>rfl)
   ·exact (lin7 (.lt (.a .v0 .v3) (.a .v6 .v3)) [.lt .v2 .v1,.sb .v0 .v1 (.a .v2 .n1),.sb .v3 .v4 .v5,.sb .v6 .v1 .v2]) hi' (sbc _ _) (sbc _ _) (sbc _ _)
  ·rw [if_neg (by rw [decide_eq_false q6];decide)]
   (refine S_cons ?_;refine S_expr ?_;refine E_meth ?_;dsimp only;(refine E_name (by exact rfl) ?_);refine M_list (by exact List.Mem.head _) PySem.F.slot_list_append PySem.F.type_list_append ?_;refine Args_plain ?_;refine A_cons ?_;refine E_sub ?_;refine E_attr ?_;(refine E_name (by exact rfl) ?_);refine' G_own (ca:=none) ?hi105 ?a105 ?b105 ?c105 ?d105 ?e105 ?f105 ?_;(case hi105=>exact .inl rfl);(case a105=>dsimp only;k_is);(case b105=>dsimp only;k_is);(case c105=>dsimp only;k_is);(case d105=>dsimp only;k_is);(case e105=>exact rfl);(case f105=>exact rfl);(refine E_name (by exact rfl) ?_))
   refine Su_lst (V:=.cell y.id) (atI_nat (cellsV_at hy)) (by (simp only [cellsV,List.length_map,List.length_reverse,List.length_cons,List.length_append,List.length_nil];exact (lin2 (.lt .v0 (.n (2^62))) [.lt (.a .v1 .v0) (.n 64)]) h64)) ?_
   (refine A_nil ?_;refine B_append (by exact SUpd.head) (by simp only [cellsV,List.length_map,List.length_reverse,List.length_cons,List.length_append,List.length_nil];exact (lin5 (.le .v0 (.n 1000000)) [.lt (.a .v1 .v2) (.n 64),.lt .v3 .v1,.lt .v4 .v2,.le .v0 (.a .v3 .v4)]) h64 hi' hj' hlen) ?_;dsimp only;refine Then_next ?_;refine S_last ?_;refine S_aug (by exact .inl ⟨rfl,.head _⟩) rfl ?_;refine E_int ?_;refine O_iadd ?_;dsimp only)
   refine ⟨⟨(o,.lst (cellsV (acc++[y])))::(561,tabM)::(510,MO.tabG 510)::σ₀,gi2 o cs ds i (j+1)⟩,?_,_,?_,acc++[y],i,j+1,rfl,(hT.swap.push hy hx (hq.2 q6)).swap,by exact (lin2 (.le .v0 .v1) [.le .v0 .v1]) hi,by exact (lin2 (.le (.a .v0 .n1) .v1) [.lt .v0 .v1]) hj',rfl⟩
   ·rw [show cellsV (acc++[y])=cellsV acc++[.cell y.id] by unfold cellsV;rw [List.map_append];rfl]
    exact Conv.names _ (by intro p hp;simp only [List.mem_cons,List.not_mem_nil,or_false] at hp;rcases hp with rfl | rfl | rfl | rfl | rfl | rfl<;>rfl)
   ·exact (lin7 (.lt (.a .v0 .v3) (.a .v0 .v6)) [.lt .v5 .v4,.sb .v0 .v1 .v2,.sb .v3 .v4 (.a .v5 .n1),.sb .v6 .v4 .v5]) hj' (sbc _ _) (sbc _ _) (sbc _ _)
 case rest =>
  rintro F Y ⟨rfl,acc,i,j,hT,hend,hi,hj,rfl⟩
  have hlen:=hT.len
  have hoa:∀ c∈acc,c.ok:=fun c hc=>(hT.mem c hc).elim (hok c) (hod c)
  have hlf:=hT.done hend
  (refine Then_next ?_;refine S_cons ?_;refine S_assign (by exact .inr ⟨rfl,_,rfl,by first | exact .tail _ (.head _) | exact .tail _ (.tail _ (.head _))⟩) ?_;refine E_call ?_;dsimp only;(refine E_name (by exact rfl) ?_);(refine' C_raw (keeper_keep ?a108) ?_;(case a108=>dsimp only;k_is));refine Args_plain ?_;refine A_cons ?_;(refine E_name (by exact rfl) ?_);refine A_nil ?_)
  refine WC.convArg (ConvV.freeze (X:=⟨(o,.lst (cellsV acc))::(561,tabM)::(510,MO.tabG 510)::σ₀,gi2 o cs ds i j⟩) (m':=gi2 o cs ds i j) .head rfl .here fun x V e=>⟨V,e,.same V⟩) ?_
  refine WC.of (newM_c (by (with_reducible assumption)) (by (exact Gd.le (by with_reducible assumption) rfl)) hoa (by exact (lin5 (.lt .v0 (.n 64)) [.lt (.a .v1 .v2) (.n 64),.le .v3 .v1,.le .v4 .v2,.le .v0 (.a .v3 .v4)]) h64 hi hj hlen) fun u dd lb cs' hp hs'=>?_)
  have hLs:Least (fun z=>Lf cs z∧Lf ds z) (nrm cs'):=(nrm_eq (fun e he=>hoa e (hp.subset he)) hs').congr fun z=>(Lf_perm hp z).trans (hlf z)
  have hln:(nrm cs').length≤cs.length+ds.length:=by
   have:(nrm cs').length≤cs'.length:=by unfold nrm;split<;>(first | exact (lin2 (.le .v0 .v1) [.lt .v0 .v1]) ‹_› | exact lin1 (.le .v0 .v0) [])
   rw [hp.length_eq] at this;exact (lin6 (.le .v0 (.a .v1 .v2)) [.le .v3 .v1,.le .v4 .v2,.le .v5 (.a .v3 .v4),.le .v0 .v5]) hi hj hlen this
  generalize nrm cs'=es at *
  clear hp hs' hlf hend hoa hlen hT
  refine Then_next ?_
  dsimp only
  refine S_cons ?_
  refine S_assert ?_
  refine T_val ?_
  refine' E_allGen (P:=510) (cd:=514) (d:=8) (m₂:=?m2) (X₁:=?X1) (X₂:=?X2) (n:=?n) ?G ?fix ?all ?code ?C ?iter ?n1 ?n2 ?P ?cv ?P2 ?m ?item ?q ?free ?cell ?h0 ?hx ?kind ?co ?hs
  case n=>exact (es.length:Int)-1
  case X1=>exact ⟨(lb,.lst (cellsV es))::(u,uniM dd lb)::(561,tabM)::(510,MO.tabG 510)::σ₀,(Str.ofString "cell_union", .raw (.ref u))::gi2 o cs ds i j⟩
  case X2=>exact ⟨(561,tabM)::(510,MO.tabG 510)::σ₀,[(Str.ofString "cell_union", .uni es)]⟩
  case m2=>exact [(Str.ofString "cell_union", .uni es)]
  case G=>(exact Gd.le (by with_reducible assumption) rfl)
  case fix=>exact hfx
  case all=>((refine' E_builtin (v:=.builtin ?id110) ?hk110 ?e110 ?hv110 ?hn110 ?_;(case hk110=>exact rfl);(case e110=>dsimp only;k_is);(case hv110=>exact rfl);(case hn110=>decide));dsimp only);exact ⟨rfl,rfl⟩
  case code=>rfl
  case C=>exact C2
  case iter =>
   (refine E_call ?_;dsimp only;(refine' E_builtin (v:=.type ?id111) ?hk111 ?e111 ?hv111 ?hn111 ?_;(case hk111=>exact rfl);(case e111=>dsimp only;k_is);(case hv111=>exact rfl);(case hn111=>decide));refine C_raw keeper_type ?_;refine Args_plain ?_;refine A_cons ?_;refine E_bin ?_;refine E_meth ?_;dsimp only;(refine E_name (by exact rfl) ?_);refine' M_fn ?hi114 ?a114 ?b114 ?c114 ?d114 ?e114 ?_;(case hi114=>refine' IsInst.turn ?hm113;(case hm113=>refine' List.Mem.tail _ ?_;exact List.Mem.head _));(case a114=>dsimp only;k_is);(case b114=>dsimp only;k_is);(case c114=>dsimp only;k_is);(case d114=>dsimp only;k_is);(case e114=>decide);refine Args_plain ?_;refine A_nil ?_;refine WC.of (numM_c (by with_reducible assumption) (by exact Gd.le (by with_reducible assumption) rfl) (by refine' List.Mem.tail _ ?_;exact List.Mem.head _) (by exact List.Mem.head _) (by simp only [cellsV,List.length_map,List.length_reverse,List.length_cons,List.length_append,List.length_nil];exact (lin3 (.lt .v0 (.n (2^62))) [.lt (.a .v1 .v2) (.n 64),.le .v0 (.a .v1 .v2)]) h64 hln) ?_);refine E_int ?_;refine O_sub ?_;refine A_nil ?_;refine B_range ?_)
   rw [List.length_map]
   exact ⟨rfl,rfl⟩
  case n1=>exact lin1 (.zt (.g (.n (2^62))) (.s (.c .v0) .n1)) []
  case n2=>exact (lin3 (.zt (.s (.c .v0) .n1) (.n (2^62))) [.lt (.a .v1 .v2) (.n 64),.le .v0 (.a .v1 .v2)]) h64 hln
  case P=>exact .tail _ (.tail _ (.tail _ (.head _)))
  case P2=>exact .tail _ (.head _)
  case cv =>
   refine Conv.trans (Y:=⟨(u,.inst 590 dd [cidS] [.lst (cellsV es)])::(561,tabM)::(510,MO.tabG 510)::σ₀,[(Str.ofString "cell_union", .raw (.ref u))]⟩) (Conv.freezeIn .head rfl .head (.inst (.cons .here .nil)) (fzN_cons (.same _) fzN_nil)) (Conv.freeze .head rfl (fzN_cons .here fzN_nil)) ?_
   intro a ha
   exact List.mem_append_right _ ha
  case m =>
   intro p hp
   rw [List.mem_singleton.mp hp]
   exact ⟨rfl,.inl rfl,rfl,rfl⟩
  case free=>exact freeOk rfl
  case cell=>decide
  case h0=>rfl
  case hx=>rfl
  case kind=>rfl
  case co=>rfl
  case hs=>intro y;rfl
  case item =>
   intro n C code A'' hn G₃ ok₃
   obtain ⟨a,ha,ham⟩:=get_lt (show n<es.length by exact (lin3 (.lt .v0 .v1) [.lt .v0 .v2,.or (.an (.zl .n0 (.s (.c .v1) .n1)) (.ze (.c .v2) (.s (.c .v1) .n1))) (.an (.zt (.s (.c .v1) .n1) .n0) (.eq .v2 .n0))]) hn (tnc _))
   obtain ⟨b,hb,hbm⟩:=get_lt (show n+1<es.length by exact (lin3 (.lt (.a .v0 .n1) .v1) [.lt .v0 .v2,.or (.an (.zl .n0 (.s (.c .v1) .n1)) (.ze (.c .v2) (.s (.c .v1) .n1))) (.an (.zt (.s (.c .v1) .n1) .n0) (.eq .v2 .n0))]) hn (tnc _))
   have oka:=hLs.ok a ham
   have okb:=hLs.ok b hbm
   have hle:a.id≤b.id:=(List.pairwise_iff_getElem.mp (asc_sd hLs.asc) n (n+1) (by exact (lin3 (.lt .v0 .v1) [.lt .v0 .v2,.or (.an (.zl .n0 (.s (.c .v1) .n1)) (.ze (.c .v2) (.s (.c .v1) .n1))) (.an (.zt (.s (.c .v1) .n1) .n0) (.eq .v2 .n0))]) hn (tnc _)) (by exact (lin3 (.lt (.a .v0 .n1) .v1) [.lt .v0 .v2,.or (.an (.zl .n0 (.s (.c .v1) .n1)) (.ze (.c .v2) (.s (.c .v1) .n1))) (.an (.zt (.s (.c .v1) .n1) .n0) (.eq .v2 .n0))]) hn (tnc _)) (Nat.lt_succ_self n)) |> fun z=>by
    rw [(List.getElem?_eq_some_iff.mp ha).2,(List.getElem?_eq_some_iff.mp hb).2] at z;exact z
   clear ok₃
   dsimp only [Cx.gen]
   (refine E_cmp ?_;refine E_sub ?_;refine E_attr ?_;(refine E_name (by exact rfl) ?_);refine' G_own (ca:=none) ?hi116 ?a116 ?b116 ?c116 ?d116 ?e116 ?f116 ?_;(case hi116=>exact .inl rfl);(case a116=>dsimp only;k_is);(case b116=>dsimp only;k_is);(case c116=>dsimp only;k_is);(case d116=>dsimp only;k_is);(case e116=>exact rfl);(case f116=>exact rfl);(refine E_name (by exact rfl) ?_))
   refine Su_lst (V:=.cell a.id) (atI_nat (cellsV_at ha)) (by rw [List.length_map];exact (lin3 (.lt .v0 (.n (2^62))) [.lt (.a .v1 .v2) (.n 64),.le .v0 (.a .v1 .v2)]) h64 hln) ?_
   (refine E_sub ?_;refine E_attr ?_;(refine E_name (by exact rfl) ?_);refine' G_own (ca:=none) ?hi119 ?a119 ?b119 ?c119 ?d119 ?e119 ?f119 ?_;(case hi119=>exact .inl rfl);(case a119=>dsimp only;k_is);(case b119=>dsimp only;k_is);(case c119=>dsimp only;k_is);(case d119=>dsimp only;k_is);(case e119=>exact rfl);(case f119=>exact rfl);refine E_bin ?_;(refine E_name (by exact rfl) ?_);refine E_int ?_;refine O_add ?_)
   rw [show ((n:Int)+1)=((n+1:Nat):Int) by exact lin1 (.ze (.a (.c .v0) .n1) (.c (.a .v0 .n1))) []]
   refine Su_lst (V:=.cell b.id) (atI_nat (cellsV_at hb)) (by rw [List.length_map];exact (lin3 (.lt .v0 (.n (2^62))) [.lt (.a .v1 .v2) (.n 64),.le .v0 (.a .v1 .v2)]) h64 hln) ?_
   (refine' O_cmp ?hi121 ?hj121 ?a121 ?b121 ?d121 (fun _ _=>rfl) ?_;(case hi121=>exact .inl rfl);(case hj121=>exact .inl rfl);(case a121=>dsimp only;k_is);(case b121=>dsimp only;k_is);(case d121=>dsimp only;k_is);refine le_c (by exact ⟨rfl,rfl,by assumption,by assumption⟩) (by exact Gd.le (by with_reducible assumption) rfl) ⟨_,rfl,?_⟩)
   rw [decide_eq_true hle]
  case q =>
   (refine Tr_bool ?_;refine And.intro rfl ?_;refine Then_next ?_;refine S_cons ?_;refine S_assert ?_;refine T_not ?_;refine T_val ?_;refine E_meth ?_;dsimp only;(refine E_name (by exact rfl) ?_);refine' M_fn ?hi124 ?a124 ?b124 ?c124 ?d124 ?e124 ?_;(case hi124=>refine' IsInst.turn ?hm123;(case hm123=>refine' List.Mem.tail _ ?_;exact List.Mem.head _));(case a124=>dsimp only;k_is);(case b124=>dsimp only;k_is);(case c124=>dsimp only;k_is);(case d124=>dsimp only;k_is);(case e124=>decide);refine Args_plain ?_;refine A_nil ?_)
   refine WC.of (normalize_c (by (with_reducible assumption)) (by (exact Gd.le (by with_reducible assumption) rfl)) hLs.ok (by exact (lin3 (.lt .v0 (.n 64)) [.lt (.a .v1 .v2) (.n 64),.le .v0 (.a .v1 .v2)]) h64 hln) fun lb' fs hp hs'=>?_)
   obtain ⟨f1,f2⟩:=nrm_fix hLs hp hs'
   rw [f2,decide_eq_false f1]
   (refine Tr_bool ?_)
   refine ⟨rfl,?_⟩
   (refine Then_next ?_;refine S_last ?_;refine S_return ?_;(refine E_name (by exact rfl) ?_);dsimp only)
   refine ⟨_,_,?_,h es hLs hln⟩
   refine ConvV.trans (V':=.raw (.ref u)) (X':=⟨(u,.inst 590 dd [cidS] [.lst (cellsV es)])::(561,tabM)::(510,MO.tabG 510)::σ₀,m₀⟩) ?_ (ConvV.freeze (m':=m₀) .head rfl .here fun x V e=>⟨V,e,.same V⟩)
   exact ConvV.freezeIn (X:=⟨(lb',.lst (cellsV es))::(u,uniM dd lb')::(561,tabM)::(510,MO.tabG 510)::σ₀,m₀⟩) .head rfl .head (.inst (.cons .here .nil)) (.same _) fun x V e=>⟨V,e,.same V⟩
def Cel.kid (c:Cel) (k:Nat):Cel:=⟨4*c.p+k,c.u-1⟩
def Cel.nx (c:Cel):Cel:=⟨c.p+1,c.u⟩
theorem pw_kid {u:Nat} (h:u≠0):4^u=4*4^(u-1):=by
 obtain ⟨v,rfl⟩:=Nat.exists_eq_succ_of_ne_zero h
 show 4^(v+1)=4*4^v
 rw [Nat.pow_succ];exact lin1 (.eq (.r .v0 4) (.l 4 .v0)) []
theorem Cel.kid_fit {c:Cel} (h:c.ok) (hu:c.u≠0) {k:Nat} (hk:k≤4):(c.kid k).nid<18446744073709551615:=by
 have h1:=Cel.end_le h
 have h2:=pw_kid hu
 have h3:4^(c.u-1)≤4^30:=Nat.pow_le_pow_right (by decide) (by have:=h.1;exact (lin2 (.le .v0 (.n 30)) [.le .v1 (.n 30),.sb .v0 .v1 .n1]) this (sbc _ _))
 have h4:(2*(4*c.p+k)+1)*4^(c.u-1)≤(8*c.p+9)*4^(c.u-1):=Nat.mul_le_mul_right _ (by exact (lin2 (.le (.a (.l 2 (.a (.l 4 .v0) .v1)) .n1) (.a (.l 8 .v0) (.n 9))) [.le .v1 .n4]) hk)
 have h5:(8*c.p+9)*4^(c.u-1)=2*((c.p+1)*(4*4^(c.u-1)))+4^(c.u-1):=by
  rw [show 8*c.p+9=2*((c.p+1)*4)+1 by exact lin1 (.eq (.a (.l 8 .v0) (.n 9)) (.a (.l 2 (.r (.a .v0 .n1) 4)) .n1)) [],Nat.add_mul,Nat.one_mul,Nat.mul_assoc,Nat.mul_assoc]
 rw [h2] at h1
 show (2*(4*c.p+k)+1)*4^(c.u-1)<_
 have h6:(4:Nat)^30=1152921504606846976:=rfl
 omega
theorem sub30 {u:Nat} (hu:u≠0) (h:u≤30):30-(u-1)=(30-u)+1:=by
 cases u with
 | zero=>exact (hu rfl).elim
 | succ v=>exact (Nat.succ_pred_eq_of_pos (Nat.sub_pos_of_lt h)).symm
theorem Cel.kid_ok {c:Cel} (h:c.ok) (hu:c.u≠0) {k:Nat} (hk:k<4):(c.kid k).ok:=by
 refine ⟨Nat.le_trans (Nat.sub_le _ _) h.1,?_⟩
 have:=h.2
 have h1:30-(c.u-1)=(30-c.u)+1:=sub30 hu h.1
 show 4*c.p+k<6*4^(30-(c.u-1))
 rw [h1,Nat.pow_succ];exact (lin3 (.lt (.a (.l 4 .v0) .v1) (.l 6 (.r .v2 4))) [.lt .v1 .n4,.lt .v0 (.l 6 .v2)]) hk this
theorem newN {c:Cx} {Q:AV→AX→Prop} {X:AX} {n:Int} (e₀:Cel) (L:Lw c) (G:Gd c.A 2) (ho:e₀.nid<18446744073709551615) (e:n=e₀.id) (h:Q (.cell e₀.id) X):WF c (.ref 453) [.int n] [] Q X:=by
 subst e
 refine new_c L G ?_
 rw [Int.fmod_eq_emod_of_nonneg _ (by decide),Int.emod_eq_of_lt (show 0≤e₀.id by show 0≤((e₀.nid:Nat):Int);exact lin1 (.zl .n0 (.c .v0)) []) (show e₀.id<_ by show ((e₀.nid:Nat):Int)<_;exact (lin1 (.zt (.c .v0) (.n 18446744073709551615)) [.lt .v0 (.n 18446744073709551615)]) ho)]
 exact h
theorem Cel.kid_id {c:Cel} (hu:c.u≠0) (k:Nat):(c.kid k).id=c.id-((4^c.u:Nat):Int)+((4^(c.u-1):Nat):Int)+2*k*((4^(c.u-1):Nat):Int):=by
 have h2:=pw_kid hu
 show (((2*(4*c.p+k)+1)*4^(c.u-1):Nat):Int)=(((2*c.p+1)*4^c.u:Nat):Int)-((4^c.u:Nat):Int)+((4^(c.u-1):Nat):Int)+2*k*((4^(c.u-1):Nat):Int)
 rw [h2]
 push_cast
 grind
theorem shr2 {u:Nat} (hu:u≠0):((4^u:Nat):Int).fdiv (2^Int.toNat 2)=((4^(u-1):Nat):Int):=by
 rw [pw_kid hu,Int.fdiv_eq_ediv_of_nonneg _ (by decide),show (2:Int)^Int.toNat 2=4 by decide]
 exact (lin [_] [_] (.ze .v0 (.c .v0)) [.an (.zl (.l 4 .v0) (.c (.l 4 .v0))) (.zt (.c (.l 4 .v0)) (.a (.l 4 .v0) .n4))]) (zdc 4 (by decide) _)
theorem cbeg_c {c:Cx} {Q:AV→AX→Prop} {X:AX} {c₀:Cel} (L:Lw c) (G:Gd c.A 5) (hv:c₀.ok) (hu:c₀.u≠0) (h:Q (.cell (c₀.kid 0).id) X):WF c (.ref 271) [.cell c₀.id] [] Q X:=by
 (have _:PySem.Challenge.rw_lp0003_07=PySem.Challenge.rw_lp0003_07→∀ w:World,(hd7.heap_1 w.params).In default→True:=by (k_fill;intros;trivial))
 have L₀:=L
 obtain ⟨P,w,K,g,A,env,own,E,fx⟩:=c
 obtain ⟨hP,hK,hC,hN⟩:=L
 dsimp only at hP hK hC hN G
 subst hP hK
 refine' WF.go (M:=[((Str.ofString "self"),.cell c₀.id),((Str.ofString "args"),.tup [])]) G ?k1 ?k2 ?k3 ?k4 ?k5 ?k6 ?k7 ?k8 ?_
 case k1=>(dsimp only;k_is)
 case k2=>(dsimp only;k_is)
 case k3=>exact bindS0 fun v=>⟨_,rfl,fun _=>rfl⟩
 case k4=>rfl
 case k5=>decide
 case k6=>rfl
 case k7=>rfl
 case k8=>rfl
 intro F c' kn he ho ok G'
 have L':=L₀.kin kn
 obtain ⟨P',w',K',g',A',env',own',E',fx'⟩:=c'
 obtain ⟨f1,f2,f3,f4,f5⟩:=kn
 dsimp only at f1 f2 f3 f4 f5 he ho G'
 subst f1 f2 f3 f4 f5 he ho
 clear L₀
 simp only [List.reverse_cons,List.reverse_nil,List.nil_append,List.cons_append]
 (refine S_cons ?_;refine S_assert ?_;refine T_val ?_;refine E_meth ?_;dsimp only;(refine E_name (by exact rfl) ?_);refine' M_fn ?hi2 ?a2 ?b2 ?c2 ?d2 ?e2 ?_;(case hi2=>exact .inl rfl);(case a2=>dsimp only;k_is);(case b2=>dsimp only;k_is);(case c2=>dsimp only;k_is);(case d2=>dsimp only;k_is);(case e2=>decide);refine Args_plain ?_;refine A_nil ?_;refine WC.of (is_valid_c (by with_reducible assumption) (by exact Gd.le (by with_reducible assumption) rfl) (by with_reducible assumption) ?_);refine Tr_bool ?_;refine And.intro rfl ?_;refine Then_next ?_;refine S_last ?_;refine S_if ?_;refine T_cmp ?_;refine E_call ?_;dsimp only;(refine' E_builtin (v:=.builtin ?id3) ?hk3 ?e3 ?hv3 ?hn3 ?_;(case hk3=>exact rfl);(case e3=>dsimp only;k_is);(case hv3=>exact rfl);(case hn3=>decide));dsimp only;refine C_raw keeper_builtin ?_;refine Args_plain ?_;refine A_cons ?_;(refine E_name (by exact rfl) ?_);refine A_nil ?_;refine B_len_tup (by simp only [cellsV,List.length_map,List.length_reverse,List.length_cons,List.length_append,List.length_nil];decide) ?_;refine E_int ?_;refine O_eq ?_;refine Tr_bool ?_;rw [if_pos (by decide)];refine S_cons ?_;refine S_assert ?_;refine T_not ?_;refine T_val ?_;refine E_meth ?_;dsimp only;(refine E_name (by exact rfl) ?_);refine' M_fn ?hi6 ?a6 ?b6 ?c6 ?d6 ?e6 ?_;(case hi6=>exact .inl rfl);(case a6=>dsimp only;k_is);(case b6=>dsimp only;k_is);(case c6=>dsimp only;k_is);(case d6=>dsimp only;k_is);(case e6=>decide);refine Args_plain ?_;refine A_nil ?_;refine WC.of (is_leaf_c (by with_reducible assumption) (by exact Gd.le (by with_reducible assumption) rfl)  ?_);refine Tr_bool ?_)
 rw [decide_eq_false hu]
 refine ⟨rfl,?_⟩
 (refine Then_next ?_;refine S_cons ?_;refine S_assign (by exact .inl ⟨rfl,.head _⟩) ?_;refine E_meth ?_;dsimp only;(refine E_name (by exact rfl) ?_);refine' M_fn ?hi8 ?a8 ?b8 ?c8 ?d8 ?e8 ?_;(case hi8=>exact .inl rfl);(case a8=>dsimp only;k_is);(case b8=>dsimp only;k_is);(case c8=>dsimp only;k_is);(case d8=>dsimp only;k_is);(case e8=>decide);refine Args_plain ?_;refine A_nil ?_;refine WC.of (lsb_c (by with_reducible assumption) (by exact Gd.le (by with_reducible assumption) rfl)  ?_);dsimp only;refine Then_next ?_;refine S_last ?_;refine S_return ?_;refine E_meth ?_;dsimp only;(refine E_name (by exact rfl) ?_);refine' M_class ?hi10 ?a10 ?b10 ?c10 ?d10 ?e10 ?f10 ?g10 ?i10 ?_;(case hi10=>exact .inl rfl);(case a10=>dsimp only;k_is);(case b10=>dsimp only;k_is);(case c10=>dsimp only;k_is);(case d10=>dsimp only;k_is);(case e10=>dsimp only;k_is);(case f10=>dsimp only;k_is);(case g10=>dsimp only;k_is);(case i10=>dsimp only;k_is);skip;refine Args_plain ?_;refine A_cons ?_;refine E_bin ?_;refine E_bin ?_;refine E_meth ?_;dsimp only;(refine E_name (by exact rfl) ?_);refine' M_fn ?hi12 ?a12 ?b12 ?c12 ?d12 ?e12 ?_;(case hi12=>exact .inl rfl);(case a12=>dsimp only;k_is);(case b12=>dsimp only;k_is);(case c12=>dsimp only;k_is);(case d12=>dsimp only;k_is);(case e12=>decide);refine Args_plain ?_;refine A_nil ?_;refine WC.of (id_c (by with_reducible assumption) (by exact Gd.le (by with_reducible assumption) rfl)  ?_);(refine E_name (by exact rfl) ?_);refine O_sub ?_;refine E_bin ?_;(refine E_name (by exact rfl) ?_);refine E_int ?_;refine O_shr (by decide) ?_;refine O_add ?_;refine A_nil ?_)
 rw [shr2 hu]
 refine WC.of (newN (c₀.kid 0) (by (with_reducible assumption)) (by (exact Gd.le (by with_reducible assumption) rfl)) (Cel.kid_fit hv hu (by decide)) ?_ ?_)
 ·rw [Cel.kid_id hu];omega
 skip
 exact h
theorem cend_c {c:Cx} {Q:AV→AX→Prop} {X:AX} {c₀:Cel} (L:Lw c) (G:Gd c.A 5) (hv:c₀.ok) (hu:c₀.u≠0) (h:Q (.cell (c₀.kid 4).id) X):WF c (.ref 278) [.cell c₀.id] [] Q X:=by
 (have _:PySem.Challenge.rw_lp0003_07=PySem.Challenge.rw_lp0003_07→∀ w:World,(hd7.heap_1 w.params).In default→True:=by (k_fill;intros;trivial))
 have L₀:=L
 obtain ⟨P,w,K,g,A,env,own,E,fx⟩:=c
 obtain ⟨hP,hK,hC,hN⟩:=L
 dsimp only at hP hK hC hN G
 subst hP hK
 refine' WF.go (M:=[((Str.ofString "self"),.cell c₀.id),((Str.ofString "args"),.tup [])]) G ?k1 ?k2 ?k3 ?k4 ?k5 ?k6 ?k7 ?k8 ?_
 case k1=>(dsimp only;k_is)
 case k2=>(dsimp only;k_is)
 case k3=>exact bindS0 fun v=>⟨_,rfl,fun _=>rfl⟩
 case k4=>rfl
 case k5=>decide
 case k6=>rfl
 case k7=>rfl
 case k8=>rfl
 intro F c' kn he ho ok G'
 have L':=L₀.kin kn
 obtain ⟨P',w',K',g',A',env',own',E',fx'⟩:=c'
 obtain ⟨f1,f2,f3,f4,f5⟩:=kn
 dsimp only at f1 f2 f3 f4 f5 he ho G'
 subst f1 f2 f3 f4 f5 he ho
 clear L₀
 simp only [List.reverse_cons,List.reverse_nil,List.nil_append,List.cons_append]
 (refine S_cons ?_;refine S_assert ?_;refine T_val ?_;refine E_meth ?_;dsimp only;(refine E_name (by exact rfl) ?_);refine' M_fn ?hi16 ?a16 ?b16 ?c16 ?d16 ?e16 ?_;(case hi16=>exact .inl rfl);(case a16=>dsimp only;k_is);(case b16=>dsimp only;k_is);(case c16=>dsimp only;k_is);(case d16=>dsimp only;k_is);(case e16=>decide);refine Args_plain ?_;refine A_nil ?_;refine WC.of (is_valid_c (by with_reducible assumption) (by exact Gd.le (by with_reducible assumption) rfl) (by with_reducible assumption) ?_);refine Tr_bool ?_;refine And.intro rfl ?_;refine Then_next ?_;refine S_last ?_;refine S_if ?_;refine T_cmp ?_;refine E_call ?_;dsimp only;(refine' E_builtin (v:=.builtin ?id17) ?hk17 ?e17 ?hv17 ?hn17 ?_;(case hk17=>exact rfl);(case e17=>dsimp only;k_is);(case hv17=>exact rfl);(case hn17=>decide));dsimp only;refine C_raw keeper_builtin ?_;refine Args_plain ?_;refine A_cons ?_;(refine E_name (by exact rfl) ?_);refine A_nil ?_;refine B_len_tup (by simp only [cellsV,List.length_map,List.length_reverse,List.length_cons,List.length_append,List.length_nil];decide) ?_;refine E_int ?_;refine O_eq ?_;refine Tr_bool ?_;rw [if_pos (by decide)];refine S_cons ?_;refine S_assert ?_;refine T_not ?_;refine T_val ?_;refine E_meth ?_;dsimp only;(refine E_name (by exact rfl) ?_);refine' M_fn ?hi20 ?a20 ?b20 ?c20 ?d20 ?e20 ?_;(case hi20=>exact .inl rfl);(case a20=>dsimp only;k_is);(case b20=>dsimp only;k_is);(case c20=>dsimp only;k_is);(case d20=>dsimp only;k_is);(case e20=>decide);refine Args_plain ?_;refine A_nil ?_;refine WC.of (is_leaf_c (by with_reducible assumption) (by exact Gd.le (by with_reducible assumption) rfl)  ?_);refine Tr_bool ?_)
 rw [decide_eq_false hu]
 refine ⟨rfl,?_⟩
 (refine Then_next ?_;refine S_cons ?_;refine S_assign (by exact .inl ⟨rfl,.head _⟩) ?_;refine E_meth ?_;dsimp only;(refine E_name (by exact rfl) ?_);refine' M_fn ?hi22 ?a22 ?b22 ?c22 ?d22 ?e22 ?_;(case hi22=>exact .inl rfl);(case a22=>dsimp only;k_is);(case b22=>dsimp only;k_is);(case c22=>dsimp only;k_is);(case d22=>dsimp only;k_is);(case e22=>decide);refine Args_plain ?_;refine A_nil ?_;refine WC.of (lsb_c (by with_reducible assumption) (by exact Gd.le (by with_reducible assumption) rfl)  ?_);dsimp only;refine Then_next ?_;refine S_last ?_;refine S_return ?_;refine E_meth ?_;dsimp only;(refine E_name (by exact rfl) ?_);refine' M_class ?hi24 ?a24 ?b24 ?c24 ?d24 ?e24 ?f24 ?g24 ?i24 ?_;(case hi24=>exact .inl rfl);(case a24=>dsimp only;k_is);(case b24=>dsimp only;k_is);(case c24=>dsimp only;k_is);(case d24=>dsimp only;k_is);(case e24=>dsimp only;k_is);(case f24=>dsimp only;k_is);(case g24=>dsimp only;k_is);(case i24=>dsimp only;k_is);skip;refine Args_plain ?_;refine A_cons ?_;refine E_bin ?_;refine E_bin ?_;refine E_meth ?_;dsimp only;(refine E_name (by exact rfl) ?_);refine' M_fn ?hi26 ?a26 ?b26 ?c26 ?d26 ?e26 ?_;(case hi26=>exact .inl rfl);(case a26=>dsimp only;k_is);(case b26=>dsimp only;k_is);(case c26=>dsimp only;k_is);(case d26=>dsimp only;k_is);(case e26=>decide);refine Args_plain ?_;refine A_nil ?_;refine WC.of (id_c (by with_reducible assumption) (by exact Gd.le (by with_reducible assumption) rfl)  ?_);(refine E_name (by exact rfl) ?_);refine O_add ?_;refine E_bin ?_;(refine E_name (by exact rfl) ?_);refine E_int ?_;refine O_shr (by decide) ?_;refine O_add ?_;refine A_nil ?_)
 rw [shr2 hu]
 refine WC.of (newN (c₀.kid 4) (by (with_reducible assumption)) (by (exact Gd.le (by with_reducible assumption) rfl)) (Cel.kid_fit hv hu (by decide)) ?_ ?_)
 ·rw [Cel.kid_id hu];rw [pw_kid hu];push_cast;exact lin [] [_,_] (.ze (.a (.a .v0 (.l 4 .v1)) .v1) (.a (.a (.s .v0 (.l 4 .v1)) .v1) (.l 8 .v1))) []
 skip
 exact h
theorem next_c {c:Cx} {Q:AV→AX→Prop} {X:AX} {c₀:Cel} (L:Lw c) (G:Gd c.A 4) (hv:c₀.u≤30) (hb:c₀.nx.nid<18446744073709551615) (h:Q (.cell c₀.nx.id) X):WF c (.ref 292) [.cell c₀.id] [] Q X:=by
 (have _:PySem.Challenge.rw_lp0003_07=PySem.Challenge.rw_lp0003_07→∀ w:World,(hd7.heap_1 w.params).In default→True:=by (k_fill;intros;trivial))
 have L₀:=L
 obtain ⟨P,w,K,g,A,env,own,E,fx⟩:=c
 obtain ⟨hP,hK,hC,hN⟩:=L
 dsimp only at hP hK hC hN G
 subst hP hK
 refine' WF.go (M:=[((Str.ofString "self"),.cell c₀.id)]) G ?k1 ?k2 ?k3 ?k4 ?k5 ?k6 ?k7 ?k8 ?_
 case k1=>(dsimp only;k_is)
 case k2=>(dsimp only;k_is)
 case k3=>exact bind1 fun s v X=>.of_eq rfl
 case k4=>rfl
 case k5=>decide
 case k6=>rfl
 case k7=>rfl
 case k8=>rfl
 intro F c' kn he ho ok G'
 have L':=L₀.kin kn
 obtain ⟨P',w',K',g',A',env',own',E',fx'⟩:=c'
 obtain ⟨f1,f2,f3,f4,f5⟩:=kn
 dsimp only at f1 f2 f3 f4 f5 he ho G'
 subst f1 f2 f3 f4 f5 he ho
 clear L₀
 simp only [List.reverse_cons,List.reverse_nil,List.nil_append,List.cons_append]
 have hpf:=pow_fit hv
 (refine S_last ?_;refine S_return ?_;refine E_meth ?_;dsimp only;(refine E_name (by exact rfl) ?_);refine' M_class ?hi30 ?a30 ?b30 ?c30 ?d30 ?e30 ?f30 ?g30 ?i30 ?_;(case hi30=>exact .inl rfl);(case a30=>dsimp only;k_is);(case b30=>dsimp only;k_is);(case c30=>dsimp only;k_is);(case d30=>dsimp only;k_is);(case e30=>dsimp only;k_is);(case f30=>dsimp only;k_is);(case g30=>dsimp only;k_is);(case i30=>dsimp only;k_is);skip;refine Args_plain ?_;refine A_cons ?_;refine E_bin ?_;refine E_meth ?_;dsimp only;(refine E_name (by exact rfl) ?_);refine' M_fn ?hi32 ?a32 ?b32 ?c32 ?d32 ?e32 ?_;(case hi32=>exact .inl rfl);(case a32=>dsimp only;k_is);(case b32=>dsimp only;k_is);(case c32=>dsimp only;k_is);(case d32=>dsimp only;k_is);(case e32=>decide);refine Args_plain ?_;refine A_nil ?_;refine WC.of (id_c (by with_reducible assumption) (by exact Gd.le (by with_reducible assumption) rfl)  ?_);refine E_bin ?_;refine E_meth ?_;dsimp only;(refine E_name (by exact rfl) ?_);refine' M_fn ?hi34 ?a34 ?b34 ?c34 ?d34 ?e34 ?_;(case hi34=>exact .inl rfl);(case a34=>dsimp only;k_is);(case b34=>dsimp only;k_is);(case c34=>dsimp only;k_is);(case d34=>dsimp only;k_is);(case e34=>decide);refine Args_plain ?_;refine A_nil ?_;refine WC.of (lsb_c (by with_reducible assumption) (by exact Gd.le (by with_reducible assumption) rfl)  ?_);refine E_int ?_;refine O_shl (by decide) (by decide) (by with_reducible assumption) ?_;refine O_add ?_;refine A_nil ?_)
 refine WC.of (newN c₀.nx (by (with_reducible assumption)) (by (exact Gd.le (by with_reducible assumption) rfl)) hb ?_ ?_)
 ·show (((2*c₀.p+1)*4^c₀.u:Nat):Int)+((4^c₀.u:Nat):Int)*2^Int.toNat 1=(((2*(c₀.p+1)+1)*4^c₀.u:Nat):Int)
  rw [show (2:Int)^Int.toNat 1=2 by decide]
  push_cast
  grind
 skip
 exact h
abbrev mC (c₀:Cel) (j:Nat):List (Str×AV):=[(Str.ofString "end", .cell (c₀.kid 4).id),(Str.ofString "cell_id", .cell (c₀.kid j).id)]
abbrev xs4 (c₀:Cel):List AV:=[.cell (c₀.kid 0).id,.cell (c₀.kid 1).id,.cell (c₀.kid 2).id,.cell (c₀.kid 3).id]
theorem xs4_at {c₀:Cel}:∀ {j:Nat},j<4→(xs4 c₀)[j]?=some (.cell (c₀.kid j).id)
 | 0,_=>rfl
 | 1,_=>rfl
 | 2,_=>rfl
 | 3,_=>rfl
 | j+4,h=>by exact ((lin1 .ff [.lt (.a .v0 .n4) .n4]) h).elim
theorem look2 {a b x:Str} {U W V:AV} (h:[(a,U),(b,W)].lookup x=some V):V=U∨V=W:=by
 rw [List.lookup_cons] at h
 split at h
 ·cases h;exact .inl rfl
 ·rw [List.lookup_cons] at h
  split at h
  ·cases h;exact .inr rfl
  ·cases h
theorem look_pre {x:Str} {V:AV} {l:List (Str×AV)} (r:List (Str×AV)) (h:l.lookup x=some V):(l++r).lookup x=some V:=by rw [List.lookup_append,h];rfl
theorem look_swap {a b x:Str} {U W W' V:AV} (hab:a≠b) (h:[(a,U),(b,W)].lookup x=some V):[(b,W),(a,U),(b,W')].lookup x=some V:=by
 rw [List.lookup_cons] at h ⊢
 by_cases q:x=a
 ·subst q
  rw [beq_self_eq_true] at h
  rw [beq_eq_false_iff_ne.mpr hab,List.lookup_cons,beq_self_eq_true]
  exact h
 ·rw [beq_eq_false_iff_ne.mpr q,List.lookup_cons] at h
  by_cases r:x=b
  ·subst r;rw [beq_self_eq_true] at h ⊢;exact h
  ·rw [beq_eq_false_iff_ne.mpr r] at h;cases h
theorem kid_ne {c₀:Cel} (hu:c₀.u≠0) {j:Nat} (hj:j≤4):(!decide ((c₀.kid j).id=(c₀.kid 4).id))=decide (j<4):=by
 rw [Cel.kid_id hu,Cel.kid_id hu]
 have hp:0<((4^(c₀.u-1):Nat):Int):=by have:=Nat.pow_pos (n:=c₀.u-1) (show 0<4 by decide);exact (lin1 (.zt .n0 (.c .v0)) [.lt .n0 .v0]) this
 rcases Nat.lt_or_ge j 4 with q | q
 ·rw [decide_eq_true q,Bool.not_eq_true',decide_eq_false_iff_not]
  intro e
  have h1:j=0∨j=1∨j=2∨j=3:=by exact (lin1 (.or (.eq .v0 .n0) (.or (.eq .v0 .n1) (.or (.eq .v0 .n2) (.eq .v0 .n3)))) [.lt .v0 .n4]) q
  rcases h1 with rfl | rfl | rfl | rfl<;>omega
 ·rw [show j=4 by exact (lin1 (.eq .v0 .n4) [.le .v0 .n4,.le .n4 .v0]) hj q,decide_eq_true rfl];rfl
theorem S_children {c:Cx} {X:AX} {Q:AF→AX→Prop} {y:Str} {yp':Pos} {o:Expr} {apos cpos pos:Pos} {body:List Stmt} {c₀:Cel} {pl:Sem Bool} (L:Lw c) (G:Gd c.A 12) (hfix:c.fix=false) (hv:c₀.ok) (hu:c₀.u≠0)
  (ho:WE c o (fun U Y=>U=.cell c₀.id∧Y=X) X)
  (hI:∃ I:Nat→AX→Prop,I 0 X∧(∀ i Y,i<4→I i Y→WA c (.Name y yp') (.cell (c₀.kid i).id) (fun Y'=>WSs c body (Turn c id (I (i+1)) Q) Y') Y)∧∀ Y,I 4 Y→Q .next Y)
  (he:eval (.Call (.Attribute o "children" apos) [] [] cpos) c.env=(do
   let ov ←eval o c.env
   standAt apos.atName
   let (f,first) ←holding [ov] (getMethod ov "children" pl)
   callWith cpos f first (backTo cpos (starEach [] c.env)) (backToKw cpos (keywordEach [] c.env))):=by rfl) :
  WS c (.For (.Name y yp') (.Call (.Attribute o "children" apos) [] [] cpos) body [] pos) Q X:=by
 (have _:PySem.Challenge.rw_lp0003_07=PySem.Challenge.rw_lp0003_07→∀ w:World,(hd7.heap_1 w.params).In default→True:=by (k_fill;intros;trivial))
 have L₀:=L
 obtain ⟨P,w,K,g,A,env,own,E,fx⟩:=c
 obtain ⟨hP,hK,hC,hN⟩:=L
 dsimp only at hP hK hC hN G
 subst hP hK
 refine' S_forMeth (C:=453) (f:=299) (ks:=[Str.ofString "_CellId__id"]) (ws:=[.int c₀.id]) (Us:=[]) (xs:=xs4 c₀) (m:=mC c₀) (d:=8) (pl:=pl) [(Str.ofString "self", .cell c₀.id),(Str.ofString "args", .tup [])] ?G hfix ho ?hi ?hg ?hf ?ht ?hfn ?hk ?hA ?hl ?hcd ?hb ?hkind ?hcl ?hco ?hgen ?hk' ?hin ?spec ?hI (fun _ _ h=>nomatch h) he
 case hl=>(dsimp only;k_is)
 case G=>(exact Gd.le (by with_reducible assumption) rfl)
 case hi=>exact .inl rfl
 case hg=>(dsimp only;k_is)
 case hf=>(dsimp only;k_is)
 case ht=>(dsimp only;k_is)
 case hfn=>(dsimp only;k_is)
 case hk=>decide
 case hA=>exact A_nil ⟨rfl,rfl⟩
 case hcd=>(dsimp only;k_is)
 case hb=>exact bindS0 fun v=>⟨_,rfl,fun _=>rfl⟩
 case hkind=>rfl
 case hcl=>intro L;rfl
 case hco=>rfl
 case hgen=>rfl
 case hk'=>rfl
 case hin=>intro L;rfl
 case hI =>
  obtain ⟨I,h1,h2,h3⟩:=hI
  exact ⟨I,h1,fun i x Y hx hY=>by
   have hi:i<4:=(List.getElem?_eq_some_iff.mp hx).1
   rw [xs4_at hi] at hx
   cases hx
   exact h2 i Y hi hY,h3⟩
 case spec =>
  intro Lc
  have hkn:∀ j,j≤4→(c₀.kid j).nid<18446744073709551615:=fun j h=>Cel.kid_fit hv hu h
  have hku:∀ j,(c₀.kid j).u≤30:=fun j=>Nat.le_trans (Nat.sub_le _ _) hv.1
  refine' ⟨?thin,?thin0,?pre,?test,?item,?step⟩
  case thin=>intro j x V h;rcases look2 h with rfl | rfl<;>exact .inst _ _ _
  case thin0=>intro x V h;rcases look2 h with rfl | rfl;exact .nil;exact .inst _ _ _
  case pre =>
   intro A GA okA
   clear okA
   dsimp only [Cx.gx]
   simp only [List.reverse_cons,List.reverse_nil,List.nil_append,List.cons_append]
   (refine S_assign (by exact .inl ⟨rfl,.head _⟩) ?_)
   refine' E_methS (V:=.cell c₀.id) (C:=453) (f:=271) (ks:=[Str.ofString "_CellId__id"]) (ws:=[.int c₀.id]) (Us:=[]) ?o1 ?hi1 ?hg1 ?hh1 ?ha1 ?hf1 ?hgf1 ?hts1 ?hc1 ?hk1 ?hfn1 ?ht1 (by decide) ?h1
   case o1=>((refine E_name (by exact rfl) ?_));exact ⟨rfl,rfl⟩
   case hi1=>exact .inl rfl
   case hg1=>(dsimp only;k_is)
   case hh1=>(dsimp only;k_is)
   case ha1=>(dsimp only;k_is)
   case hf1=>(dsimp only;k_is)
   case hgf1=>(dsimp only;k_is)
   case hts1=>(dsimp only;k_is)
   case hc1=>decide +kernel
   case hk1=>decide
   case hfn1=>(dsimp only;k_is)
   case ht1=>((refine E_name (by exact rfl) ?_));exact ⟨rfl,rfl⟩
   refine cbeg_c (by (exact ⟨rfl,rfl,by assumption,by assumption⟩)) (by (exact Gd.le (by with_reducible assumption) rfl)) hv hu ⟨rfl,?_⟩
   dsimp only
   (refine S_assign (by exact .inl ⟨rfl,.head _⟩) ?_;dsimp only)
   refine' E_methS (V:=.cell c₀.id) (C:=453) (f:=278) (ks:=[Str.ofString "_CellId__id"]) (ws:=[.int c₀.id]) (Us:=[]) ?o2 ?hi2 ?hg2 ?hh2 ?ha2 ?hf2 ?hgf2 ?hts2 ?hc2 ?hk2 ?hfn2 ?ht2 (by decide) ?h2
   case o2=>((refine E_name (by exact rfl) ?_));exact ⟨rfl,rfl⟩
   case hi2=>exact .inl rfl
   case hg2=>(dsimp only;k_is)
   case hh2=>(dsimp only;k_is)
   case ha2=>(dsimp only;k_is)
   case hf2=>(dsimp only;k_is)
   case hgf2=>(dsimp only;k_is)
   case hts2=>(dsimp only;k_is)
   case hc2=>decide +kernel
   case hk2=>decide
   case hfn2=>(dsimp only;k_is)
   case ht2=>((refine E_name (by exact rfl) ?_));exact ⟨rfl,rfl⟩
   refine cend_c (by (exact ⟨rfl,rfl,by assumption,by assumption⟩)) (by (exact Gd.le (by with_reducible assumption) rfl)) hv hu ⟨rfl,fun x V h=>look_pre [(Str.ofString "args", .tup []),(Str.ofString "self", .cell c₀.id)] h⟩
  case test =>
   intro j A hj GA okA
   clear okA
   dsimp only [Cx.gx]
   (refine T_cmp ?_;(refine E_name (by exact rfl) ?_);(refine E_name (by exact rfl) ?_);refine' O_cmp ?hi41 ?hj41 ?a41 ?b41 ?d41 (fun _ _=>rfl) ?_;(case hi41=>exact .inl rfl);(case hj41=>exact .inl rfl);(case a41=>dsimp only;k_is);(case b41=>dsimp only;k_is);(case d41=>dsimp only;k_is);refine ne_c (by exact ⟨rfl,rfl,by assumption,by assumption⟩) (by exact Gd.le (by with_reducible assumption) rfl) ⟨_,rfl,?_⟩;refine Tr_bool ?_)
   exact ⟨kid_ne hu hj,rfl⟩
  case item =>
   intro j A hj GA okA
   clear okA
   dsimp only [Cx.gx]
   ((refine E_name (by exact rfl) ?_))
   exact ⟨xs4_at hj,rfl⟩
  case step =>
   intro j A hj GA okA
   clear okA
   dsimp only [Cx.gx]
   (refine S_assign (by exact .inl ⟨rfl,.head _⟩) ?_;dsimp only;refine E_meth ?_;dsimp only;(refine E_name (by exact rfl) ?_);refine' M_fn ?hi44 ?a44 ?b44 ?c44 ?d44 ?e44 ?_;(case hi44=>exact .inl rfl);(case a44=>dsimp only;k_is);(case b44=>dsimp only;k_is);(case c44=>dsimp only;k_is);(case d44=>dsimp only;k_is);(case e44=>decide);refine Args_plain ?_;refine A_nil ?_)
   refine WC.of (next_c (by (exact ⟨rfl,rfl,by assumption,by assumption⟩)) (by (exact Gd.le (by with_reducible assumption) rfl)) (hku j) (hkn (j+1) hj) ⟨rfl,fun x V h=>look_swap (by decide) h⟩)
theorem Cel.kid_lo (e:Cel) (k:Nat) (hu:e.u≠0):(e.kid k).lo=e.lo+k*4^(e.u-1)∧(e.kid k).hi=e.lo+(k+1)*4^(e.u-1)∧e.hi=e.lo+4*4^(e.u-1):=by
 have h:=pw_kid hu
 unfold Cel.lo Cel.hi Cel.kid
 dsimp only
 rw [h]
 generalize 4^(e.u-1)=q
 refine ⟨?_,?_,?_⟩<;>grind
def wof (P e:Cel):Nat:=if e.lo≤P.lo∧P.hi≤e.hi then e.u-P.u+1 else 0
def wsum (gs:List Cel) (e:Cel):Nat:=(gs.map (wof · e)).sum
theorem wof_no {P e:Cel} (h:¬P.sub e):wof P e=0:=by unfold wof;exact if_neg h
theorem wof_kids (P e:Cel) (hu:e.u≠0):wof P (e.kid 0)+wof P (e.kid 1)+wof P (e.kid 2)+wof P (e.kid 3)+(if e.lo≤P.lo∧P.hi≤e.hi then 1 else 0)≤wof P e:=by
 have sub_e:∀ k,k<4→P.sub (e.kid k)→P.sub e:=fun k hk h=>by
  obtain ⟨x,y,z⟩:=e.kid_lo k hu
  have h1:=h.1
  have h2:=h.2
  rw [x] at h1
  rw [y] at h2
  exact ⟨Nat.le_trans (Nat.le_add_right _ _) h1,by rw [z];exact Nat.le_trans h2 (Nat.add_le_add_left (Nat.mul_le_mul_right _ hk) _)⟩
 have dis:∀ k j,k<j→P.sub (e.kid k)→wof P (e.kid j)=0:=fun k j hkj h=>wof_no fun h'=>by
  obtain ⟨-,y,-⟩:=e.kid_lo k hu
  obtain ⟨x,-,-⟩:=e.kid_lo j hu
  have h2:=h.2
  have h1:=h'.1
  rw [y] at h2
  rw [x] at h1
  exact Nat.lt_irrefl _ (Nat.lt_of_lt_of_le P.lo_lt (Nat.le_trans h2 (Nat.le_trans (Nat.add_le_add_left (Nat.mul_le_mul_right _ hkj) _) h1)))
 by_cases hs:P.sub e
 ·have he:wof P e=e.u-P.u+1:=by unfold wof;rw [if_pos (show e.lo≤P.lo∧P.hi≤e.hi from hs)]
  have f:∀ k,P.sub (e.kid k)→wof P (e.kid k)≤e.u-P.u:=fun k q=>by
   have h1:=q.u_le
   have h2:(e.kid k).u=e.u-1:=rfl
   unfold wof
   rw [if_pos (show (e.kid k).lo≤P.lo∧P.hi≤(e.kid k).hi from q),h2]
   exact (lin6 (.le (.a .v0 .n1) .v4) [.no (.eq .v2 .n0),.le .v3 .v5,.eq .v5 .v1,.sb .v1 .v2 .n1,.sb .v0 .v1 .v3,.sb .v4 .v2 .v3]) hu h1 h2 (sbc _ _) (sbc _ _) (sbc _ _)
  rw [he,if_pos (show e.lo≤P.lo∧P.hi≤e.hi from hs)]
  refine Nat.succ_le_succ ?_
  by_cases q0:P.sub (e.kid 0)
  ·rw [dis 0 1 (by decide) q0,dis 0 2 (by decide) q0,dis 0 3 (by decide) q0];exact f 0 q0
  rw [wof_no q0,Nat.zero_add]
  by_cases q1:P.sub (e.kid 1)
  ·rw [dis 1 2 (by decide) q1,dis 1 3 (by decide) q1];exact f 1 q1
  rw [wof_no q1,Nat.zero_add]
  by_cases q2:P.sub (e.kid 2)
  ·rw [dis 2 3 (by decide) q2];exact f 2 q2
  rw [wof_no q2,Nat.zero_add]
  by_cases q3:P.sub (e.kid 3)
  ·exact f 3 q3
  rw [wof_no q3]
  exact Nat.zero_le _
 ·rw [wof_no hs,wof_no fun h=>hs (sub_e 0 (by decide) h),wof_no fun h=>hs (sub_e 1 (by decide) h),wof_no fun h=>hs (sub_e 2 (by decide) h),wof_no fun h=>hs (sub_e 3 (by decide) h),if_neg (show ¬(e.lo≤P.lo∧P.hi≤e.hi) from hs)]
  exact Nat.le_refl 0
theorem wsum_kids (gs:List Cel) (e:Cel) (hu:e.u≠0):wsum gs (e.kid 0)+wsum gs (e.kid 1)+wsum gs (e.kid 2)+wsum gs (e.kid 3)≤wsum gs e:=by
 induction gs with
 | nil=>exact Nat.le_refl 0
 | cons g r ih =>
  unfold wsum at ih ⊢
  simp only [List.map_cons,List.sum_cons]
  have:=wof_kids g e hu
  exact (lin [_,_,_,_,_,_,_,_,_,_,_] [] (.le (.a (.a (.a (.a .v0 .v1) (.a .v2 .v3)) (.a .v4 .v5)) (.a .v6 .v7)) (.a (.v 8) (.v 9))) [.le (.a (.a (.a .v1 .v3) .v5) .v7) (.v 9),.le (.a (.a (.a (.a .v0 .v2) .v4) .v6) (.v 10)) (.v 8)]) ih this
theorem wsum_kids1 {gs:List Cel} {e P:Cel} (hP:P∈gs) (hs:P.sub e) (hu:e.u≠0):wsum gs (e.kid 0)+wsum gs (e.kid 1)+wsum gs (e.kid 2)+wsum gs (e.kid 3)+1≤wsum gs e:=by
 induction gs with
 | nil=>cases hP
 | cons g r ih =>
  have h1:=wof_kids g e hu
  have h2:=wsum_kids r e hu
  unfold wsum at h2 ih ⊢
  simp only [List.map_cons,List.sum_cons]
  rcases List.mem_cons.mp hP with rfl | hP
  ·rw [if_pos (show e.lo≤P.lo∧P.hi≤e.hi from hs)] at h1;exact (lin [_,_,_,_,_,_,_,_,_,_] [] (.le (.a (.a (.a (.a (.a .v0 .v1) (.a .v2 .v3)) (.a .v4 .v5)) (.a .v6 .v7)) .n1) (.a (.v 8) (.v 9))) [.le (.a (.a (.a .v1 .v3) .v5) .v7) (.v 9),.le (.a (.a (.a (.a .v0 .v2) .v4) .v6) .n1) (.v 8)]) h2 h1
  ·have:=ih hP
   exact (lin [_,_,_,_,_,_,_,_,_,_,_] [] (.le (.a (.a (.a (.a (.a .v0 .v1) (.a .v2 .v3)) (.a .v4 .v5)) (.a .v6 .v7)) .n1) (.a (.v 8) (.v 9))) [.le (.a (.a (.a (.a .v0 .v2) .v4) .v6) (.v 10)) (.v 8),.le (.a (.a (.a (.a .v1 .v3) .v5) .v7) .n1) (.v 9)]) h1 this
structure DI (ys gs:List Cel) (e:Cel) (rs:List Cel):Prop where
 lf:∀ z,Lf rs z↔(e.lo≤z∧z<e.hi)∧¬Lf ys z
 ok:∀ c∈rs,c.ok
 len:rs.length≤1+3*wsum gs e
theorem DI.off {ys gs:List Cel} {e:Cel} (ho:e.ok) (h:¬ ∃ x,e.lo≤x∧x<e.hi∧Lf ys x):DI ys gs e [e] where
 lf z:=by
  rw [Lf_cons]
  constructor
  ·rintro (q | q)
   ·exact ⟨q,fun w=>h ⟨z,q.1,q.2,w⟩⟩
   ·exact (Lf_nil q).elim
  ·exact fun q=>.inl q.1
 ok c hc:=by rw [List.mem_singleton.mp hc];exact ho
 len:=by show 1≤_;exact lin1 (.le .n1 (.a .n1 (.l 3 .v0))) []
theorem DI.inn {ys gs:List Cel} {e:Cel} (h:∀ x,e.lo≤x→x<e.hi→Lf ys x):DI ys gs e [] where
 lf z:=⟨fun q=>(Lf_nil q).elim,fun ⟨⟨a,b⟩,q⟩=>(q (h z a b)).elim⟩
 ok c hc:=(List.not_mem_nil hc).elim
 len:=Nat.zero_le _
theorem DI.split {ys gs:List Cel} {e P:Cel} {r0 r1 r2 r3:List Cel} (hu:e.u≠0) (hP:P∈gs) (hs:P.sub e) (h0:DI ys gs (e.kid 0) r0) (h1:DI ys gs (e.kid 1) r1) (h2:DI ys gs (e.kid 2) r2) (h3:DI ys gs (e.kid 3) r3):DI ys gs e (((r0++r1)++r2)++r3) where
 lf z:=by
  rw [Lf_append,Lf_append,Lf_append,h0.lf,h1.lf,h2.lf,h3.lf]
  obtain ⟨a0,b0,t⟩:=e.kid_lo 0 hu
  obtain ⟨a1,b1,-⟩:=e.kid_lo 1 hu
  obtain ⟨a2,b2,-⟩:=e.kid_lo 2 hu
  obtain ⟨a3,b3,-⟩:=e.kid_lo 3 hu
  have hq:0<4^(e.u-1):=Nat.pow_pos (by decide)
  by_cases hy:Lf ys z
  ·simp [hy]
  ·simp only [hy,not_false_iff,and_true]
   rw [a0,b0,a1,b1,a2,b2,a3,b3,t]
   refine Iff.trans ?_ (cut4 e.lo (4^(e.u-1)) z).symm
   constructor
   ·rintro (((h | h) | h) | h)
    ·exact .inr (.inr (.inr h))
    ·exact .inr (.inr (.inl h))
    ·exact .inr (.inl h)
    ·exact .inl h
   ·rintro (h | h | h | h)
    ·exact .inr h
    ·exact .inl (.inr h)
    ·exact .inl (.inl (.inr h))
    ·exact .inl (.inl (.inl h))
 ok c hc:=by
  rcases List.mem_append.mp hc with hc | hc
  ·rcases List.mem_append.mp hc with hc | hc
   ·rcases List.mem_append.mp hc with hc | hc
    ·exact h0.ok c hc
    ·exact h1.ok c hc
   ·exact h2.ok c hc
  ·exact h3.ok c hc
 len:=by
  have a:=h0.len;have b:=h1.len;have c:=h2.len;have d:=h3.len
  have w:=wsum_kids1 hP hs hu
  simp only [List.length_append]
  exact (lin [_,_,_,_,_,_,_,_,_] [] (.le (.a (.a (.a .v0 .v1) .v2) .v3) (.a .n1 (.l 3 .v4))) [.le .v0 (.a .n1 (.l 3 .v5)),.le .v1 (.a .n1 (.l 3 .v6)),.le .v2 (.a .n1 (.l 3 .v7)),.le .v3 (.a .n1 (.l 3 (.v 8))),.le (.a (.a (.a (.a .v5 .v6) .v7) (.v 8)) .n1) .v4]) a b c d w
theorem leaf_in {S:Nat→Prop} {e:Cel} (hu:e.u=0) (h:∃ x,e.lo≤x∧x<e.hi∧S x):∀ x,e.lo≤x→x<e.hi→S x:=fun x a b=>by
 obtain ⟨y,c,d,hy⟩:=h
 have:=e.hi_eq
 rw [hu] at this
 have:x=y:=by exact (lin4 (.eq .v0 .v1) [.le .v2 .v0,.lt .v0 .v3,.le .v2 .v1,.lt .v1 .v3,.eq .v3 (.a .v2 .n1)]) a b c d this
 rw [this];exact hy
def Tells (ys gs:List Cel):Prop:=∀ q:Cel,q.ok→(∃ x,q.lo≤x∧x<q.hi∧Lf ys x)→¬(∀ x,q.lo≤x→x<q.hi→Lf ys x)→∃ P∈gs,P.sub q
theorem wof_le {P e:Cel} {n:Nat} (h:e.u≤P.u+n):wof P e≤n+1:=by
 unfold wof;split<;>(first | exact (lin4 (.le (.a .v0 .n1) (.a .v3 .n1)) [.le .v1 (.a .v2 .v3),.sb .v0 .v1 .v2]) h (sbc _ _) | exact lin1 (.le .n0 (.a .v0 .n1)) [])
theorem wof_row {P:Cel} {n:Nat}:∀ {xs:List Cel},Asc xs→(∀ e∈xs,e.u≤P.u+n)→(xs.map (wof P)).sum≤n+1
 | [],_,_=>Nat.zero_le _
 | e::r,ha,h=>by
  rw [List.map_cons,List.sum_cons]
  by_cases hs:P.sub e
  ·have hz:(r.map (wof P)).sum=0:=by
    have:∀ x∈r,wof P x=0:=fun x hx=>wof_no fun hsx=>by
     have h1:=(List.pairwise_cons.mp ha).1 x hx
     have h2:=hs.2
     have h3:=hsx.1
     have:=P.lo_lt
     exact (lin4 .ff [.le .v0 .v1,.le .v2 .v0,.le .v1 .v3,.lt .v3 .v2]) h1 h2 h3 this
    clear ha h hs
    induction r with
    | nil=>rfl
    | cons a r ih=>rw [List.map_cons,List.sum_cons,this a (.head _),ih fun x hx=>this x (.tail _ hx)]
   have:=wof_le (h e (.head _))
   exact (lin3 (.le (.a .v0 .v1) (.a .v2 .n1)) [.eq .v1 .n0,.le .v0 (.a .v2 .n1)]) hz this
  ·rw [wof_no hs]
   have:=wof_row (List.pairwise_cons.mp ha).2 fun x hx=>h x (.tail _ hx)
   exact (lin2 (.le (.a .n0 .v0) (.a .v1 .n1)) [.le .v0 (.a .v1 .n1)]) this
theorem wsum_row {n:Nat} {xs:List Cel} (ha:Asc xs):∀ {gs:List Cel},(∀ P∈gs,∀ e∈xs,e.u≤P.u+n)→(xs.map (wsum gs)).sum≤gs.length*(n+1)
 | [],h₀=>by
  clear h₀
  have:xs.map (wsum [])=xs.map fun _=>0:=rfl
  rw [this]
  clear ha this
  induction xs with
  | nil=>exact Nat.zero_le _
  | cons a r ih=>rw [List.map_cons,List.sum_cons,Nat.zero_add];exact ih
 | g::r,h=>by
  have e:(xs.map (wsum (g::r))).sum=(xs.map (wof g)).sum+(xs.map (wsum r)).sum:=by
   clear ha h
   induction xs with
   | nil=>rfl
   | cons a s ih =>
    simp only [List.map_cons,List.sum_cons,ih]
    have:wsum (g::r) a=wof g a+wsum r a:=by unfold wsum;rw [List.map_cons,List.sum_cons]
    exact (lin5 (.eq (.a .v0 (.a .v1 .v2)) (.a (.a .v3 .v1) (.a .v4 .v2))) [.eq .v0 (.a .v3 .v4)]) this
  have h1:=wof_row ha (h g (.head _))
  have h2:=wsum_row ha fun P hP=>h P (.tail _ hP)
  rw [e,List.length_cons,Nat.add_mul]
  exact (lin4 (.le (.a .v0 .v1) (.a .v2 (.l 1 (.a .v3 .n1)))) [.le .v0 (.a .v3 .n1),.le .v1 .v2]) h1 h2
theorem few {w a:Nat} (hw:0<w):∀ {cs:List Cel} {is:List Nat},(∀ c∈cs,c.hi≤c.lo+w)→is.Nodup→(∀ i∈is,Lf cs (a+i*w))→is.length≤cs.length
 | [],is,_,_,h=>by
  cases is with
  | nil=>exact Nat.le_refl _
  | cons i r=>exact (Lf_nil (h i (.head _))).elim
 | c::r,is,hc,hn,h=>by
  by_cases q:∃ i∈is,c.lo≤a+i*w∧a+i*w<c.hi
  ·obtain ⟨i,hi,q1,q2⟩:=q
   have:=few hw (cs:=r) (is:=is.erase i) (fun x hx=>hc x (.tail _ hx)) (hn.erase i) fun j hj=>by
    have hj':=List.mem_of_mem_erase hj
    have hne:j≠i:=fun z=>(List.Nodup.not_mem_erase hn) (z▸hj)
    rcases Lf_cons.mp (h j hj') with z | z
    ·have hcw:=hc c (.head _)
     rcases Nat.lt_or_gt_of_ne hne with k | k
     ·have:(j+1)*w≤i*w:=Nat.mul_le_mul_right _ k
      rw [Nat.add_mul] at this;omega
     ·have:(i+1)*w≤j*w:=Nat.mul_le_mul_right _ k
      rw [Nat.add_mul] at this;omega
    ·exact z
   rw [List.length_erase_of_mem hi] at this
   rw [List.length_cons];exact (lin3 (.le .v0 (.a .v1 .n1)) [.le .v2 .v1,.sb .v2 .v0 .n1]) this (sbc _ _)
  ·have:=few hw (cs:=r) (is:=is) (fun x hx=>hc x (.tail _ hx)) hn fun i hi=>(Lf_cons.mp (h i hi)).resolve_left fun z=>q ⟨i,hi,z⟩
   rw [List.length_cons];exact (lin2 (.le .v0 (.a .v1 .n1)) [.le .v0 .v1]) this
theorem bind4 {c:Cx} {fd:FuncData} {x y z t:Str} {V U W T:AV} (e:∀ s v u w r,c.K.In s.heap→BindsTo s fd ⟨[v,u,w,r],[]⟩ [(x,v),(y,u),(z,w),(t,r)]):Binds c fd [V,U,W,T] [] [(x,V),(y,U),(z,W),(t,T)]:=.plain fun S s vs kw X r rk=>by
 obtain ⟨v,vs',rfl,h,r⟩:=r.cons_inv
 obtain ⟨u,w,q,rfl,k,l,j⟩:=three_args r
 rw [no_kw rk]
 exact ⟨_,e s v u w q X,rfl,.cons h (.cons k (.cons l (.cons j .nil)))⟩
theorem Gd.le2 {A:Around} {d e:Nat} (x:Gd A d) (h:e≤d):Gd A e:=x.le (Nat.ble_eq.mpr h)
def PD (ys gs:List Cel) (e:Cel):Nat→Nat→List Cel→Prop
 | 0,w,rs=>w=0∧rs=[]
 | i+1,w,rs=>∃ w' rs' r,PD ys gs e i w' rs'∧DI ys gs (e.kid i) r∧w=w'+wsum gs (e.kid i)∧rs=rs'++r
theorem PD.nil {ys gs:List Cel} {e:Cel}:PD ys gs e 0 0 []:=⟨rfl,rfl⟩
theorem PD.snoc {ys gs:List Cel} {e:Cel} {i w:Nat} {rs r:List Cel} (h:PD ys gs e i w rs) (k:DI ys gs (e.kid i) r):PD ys gs e (i+1) (w+wsum gs (e.kid i)) (rs++r):=⟨_,_,_,h,k,rfl,rfl⟩
theorem PD.len {ys gs:List Cel} {e:Cel}:∀ {i w:Nat} {rs:List Cel},PD ys gs e i w rs→rs.length≤i+3*w
 | 0,w,rs,h=>by rw [h.2];exact Nat.zero_le _
 | i+1,w,rs,h=>by
  obtain ⟨w',rs',r,h1,h2,rfl,rfl⟩:=h
  have a:=PD.len h1
  have b:=h2.len
  rw [List.length_append];exact (lin5 (.le (.a .v0 .v1) (.a (.a .v2 .n1) (.l 3 (.a .v3 .v4)))) [.le .v0 (.a .v2 (.l 3 .v3)),.le .v1 (.a .n1 (.l 3 .v4))]) a b
theorem PD.room {ys gs:List Cel} {e P:Cel} {i w:Nat} {rs:List Cel} (h:PD ys gs e i w rs) (hi:i<4) (hu:e.u≠0) (hP:P∈gs) (hs:P.sub e):rs.length+3*wsum gs (e.kid i)≤3*wsum gs e:=by
 have h1:=h.len
 have h2:=wsum_kids1 hP hs hu
 rcases (show i=0∨i=1∨i=2∨i=3 by exact (lin1 (.or (.eq .v0 .n0) (.or (.eq .v0 .n1) (.or (.eq .v0 .n2) (.eq .v0 .n3)))) [.lt .v0 .n4]) hi) with rfl | rfl | rfl | rfl
 ·obtain ⟨e0,er⟩:=h
  exact (lin7 (.le (.a .v0 (.l 3 .v1)) (.l 3 .v2)) [.le (.a (.a (.a (.a .v1 .v3) .v4) .v5) .n1) .v2,.le .v0 (.a .n0 (.l 3 .v6)),.eq .v6 .n0]) h2 h1 e0
 ·obtain ⟨w1,r1,s1,⟨e0,-⟩,-,hw,-⟩:=h
  have hw:w=w1+wsum gs (e.kid 0):=hw
  exact (lin [_,_,_,_,_,_,_,_] [] (.le (.a .v0 (.l 3 .v1)) (.l 3 .v2)) [.le (.a (.a (.a (.a .v3 .v1) .v4) .v5) .n1) .v2,.le .v0 (.a .n1 (.l 3 .v6)),.eq .v7 .n0,.eq .v6 (.a .v7 .v3)]) h2 h1 e0 hw
 ·obtain ⟨w2,r2,s2,⟨w1,r1,s1,⟨e0,-⟩,-,hw1,-⟩,-,hw2,-⟩:=h
  have hw1:w2=w1+wsum gs (e.kid 0):=hw1
  have hw2:w=w2+wsum gs (e.kid 1):=hw2
  exact (lin [_,_,_,_,_,_,_,_,_] [] (.le (.a .v0 (.l 3 .v1)) (.l 3 .v2)) [.le (.a (.a (.a (.a .v3 .v4) .v1) .v5) .n1) .v2,.le .v0 (.a .n2 (.l 3 .v6)),.eq .v7 .n0,.eq (.v 8) (.a .v7 .v3),.eq .v6 (.a (.v 8) .v4)]) h2 h1 e0 ‹_› ‹_›
 ·obtain ⟨w3,r3,s3,⟨w2,r2,s2,⟨w1,r1,s1,⟨e0,-⟩,-,hw1,-⟩,-,hw2,-⟩,-,hw3,-⟩:=h
  have hw1:w2=w1+wsum gs (e.kid 0):=hw1
  have hw2:w3=w2+wsum gs (e.kid 1):=hw2
  have hw3:w=w3+wsum gs (e.kid 2):=hw3
  exact (lin [_,_,_,_,_,_,_,_,_,_] [] (.le (.a .v0 (.l 3 .v1)) (.l 3 .v2)) [.le (.a (.a (.a (.a .v3 .v4) .v5) .v1) .n1) .v2,.le .v0 (.a .n3 (.l 3 .v6)),.eq .v7 .n0,.eq (.v 8) (.a .v7 .v3),.eq (.v 9) (.a (.v 8) .v4),.eq .v6 (.a (.v 9) .v5)]) h2 h1 e0 ‹_› ‹_› ‹_›
theorem PD.all {ys gs:List Cel} {e P:Cel} {w:Nat} {rs:List Cel} (h:PD ys gs e 4 w rs) (hu:e.u≠0) (hP:P∈gs) (hs:P.sub e):DI ys gs e rs:=by
 obtain ⟨_,_,_,⟨_,_,_,⟨_,_,_,⟨_,_,_,⟨rfl,rfl⟩,h0,rfl,rfl⟩,h1,rfl,rfl⟩,h2,rfl,rfl⟩,h3,rfl,rfl⟩:=h
 exact DI.split hu hP hs h0 h1 h2 h3
theorem cells_snoc (cs:List Cel) (e:Cel):cellsV cs++[AV.cell e.id]=cellsV (cs++[e]):=by unfold cellsV;rw [List.map_append];rfl
abbrev gdN (a:Addr) (ys:List Cel) (e₀:Cel):List (Str×AV):=[(Str.ofString "cell_ids", .raw (.ref a)),(Str.ofString "y", .uni ys),(Str.ofString "cell_id", .cell e₀.id),(Str.ofString "cls", .raw (.ref 590))]
theorem gdif_c (n:Nat):∀ {c:Cx} {Q:AV→AX→Prop} {σ₀:List (Addr×MO)} {m₀:List (Str×AV)} {e₀:Cel} {ys gs acc:List Cel} {a:Addr} (L:Lw c) (G:Gd c.A (n+20)) (hfx:c.fix=false) (hu:e₀.u<n) (he:e₀.ok) (hy:Least (Lf ys) ys) (hT:Tells ys gs) (h62:ys.length<2^61) (hz:acc.length+3*wsum gs e₀≤10000)
  (h:∀ rs,DI ys gs e₀ rs→Q .none ⟨(a,.lst (cellsV (acc++rs)))::σ₀,m₀⟩),WF c (.ref 535) [.raw (.ref 590),.cell e₀.id,.uni ys,.raw (.ref a)] [] Q ⟨(a,.lst (cellsV acc))::σ₀,m₀⟩:=by
 induction n with
 | zero =>
  intro c Q σ₀ m₀ e₀ ys gs acc a L G hfx hu
  exact absurd hu (Nat.not_lt_zero _)
 | succ n ih =>
  intro c Q σ₀ m₀ e₀ ys gs acc a L G hfx hu he hy hT h62 hz h
  (have _:PySem.Challenge.rw_lp0003_07=PySem.Challenge.rw_lp0003_07→∀ w:World,(hd7.heap_1 w.params).In default→True:=by (k_fill;intros;trivial))
  have L₀:=L
  obtain ⟨P,w,K,g,A,env,own,E,fx⟩:=c
  obtain ⟨hP,hK,hC,hN⟩:=L
  dsimp only at hP hK hC hN G
  subst hP hK
  refine' WF.go (M:=[((Str.ofString "cls"),.raw (.ref 590)),((Str.ofString "cell_id"),.cell e₀.id),((Str.ofString "y"),.uni ys),((Str.ofString "cell_ids"),.raw (.ref a))]) G ?k1 ?k2 ?k3 ?k4 ?k5 ?k6 ?k7 ?k8 ?_
  case k1=>(dsimp only;k_is)
  case k2=>(dsimp only;k_is)
  case k3=>exact bind4 fun s v u w r X=>.of_eq rfl
  case k4=>rfl
  case k5=>decide
  case k6=>rfl
  case k7=>rfl
  case k8=>rfl
  intro F c' kn he ho ok G'
  have L':=L₀.kin kn
  obtain ⟨P',w',K',g',A',env',own',E',fx'⟩:=c'
  obtain ⟨f1,f2,f3,f4,f5⟩:=kn
  dsimp only at f1 f2 f3 f4 f5 he ho G'
  subst f1 f2 f3 f4 f5 he ho
  clear L₀
  simp only [List.reverse_cons,List.reverse_nil,List.nil_append,List.cons_append]
  (refine S_last ?_;refine S_if ?_;refine T_not ?_;refine T_val ?_;refine E_meth ?_;dsimp only;(refine E_name (by exact rfl) ?_);refine' M_fn ?hi2 ?a2 ?b2 ?c2 ?d2 ?e2 ?_;(case hi2=>exact .inl rfl);(case a2=>dsimp only;k_is);(case b2=>dsimp only;k_is);(case c2=>dsimp only;k_is);(case d2=>dsimp only;k_is);(case e2=>decide);refine Args_plain ?_;refine A_cons ?_;(refine E_name (by exact rfl) ?_);refine A_nil ?_)
  refine WC.of (ucellm_c (by (with_reducible assumption)) (by (exact Gd.le (by with_reducible assumption) rfl)) hy.ok he (asc_sd hy.asc) h62 fun b hb=>?_)
  replace hb:=hb.trans (meetC_iff hy he)
  (refine Tr_bool ?_)
  cases b with
  | false =>
   rw [if_pos (by decide)]
   (refine S_last ?_;refine S_expr ?_;refine E_meth ?_;dsimp only;(refine E_name (by exact rfl) ?_);refine M_list (by exact List.Mem.head _) PySem.F.slot_list_append PySem.F.type_list_append ?_;refine Args_plain ?_;refine A_cons ?_;(refine E_name (by exact rfl) ?_);refine A_nil ?_;refine B_append (by exact SUpd.head) (by simp only [cellsV,List.length_map,List.length_reverse,List.length_cons,List.length_append,List.length_nil];exact (lin2 (.le .v0 (.n 1000000)) [.le (.a .v0 (.l 3 .v1)) (.n 10000)]) hz) ?_;dsimp only)
   rw [cells_snoc]
   exact h [e₀] (DI.off he fun z=>Bool.noConfusion (hb.mpr z))
  | true =>
   rw [if_neg (by decide)]
   (refine S_last ?_;refine S_if ?_;refine T_not ?_;refine T_val ?_;refine E_meth ?_;dsimp only;(refine E_name (by exact rfl) ?_);refine' M_fn ?hi7 ?a7 ?b7 ?c7 ?d7 ?e7 ?_;(case hi7=>exact .inl rfl);(case a7=>dsimp only;k_is);(case b7=>dsimp only;k_is);(case c7=>dsimp only;k_is);(case d7=>dsimp only;k_is);(case e7=>decide);refine Args_plain ?_;refine A_cons ?_;(refine E_name (by exact rfl) ?_);refine A_nil ?_)
   refine WC.of (ucell_c (by (with_reducible assumption)) (by (exact Gd.le (by with_reducible assumption) rfl)) hy.ok he (asc_sd hy.asc) h62 fun b' hb'=>?_)
   replace hb':=hb'.trans (inC_iff hy he)
   (refine Tr_bool ?_)
   cases b' with
   | true =>
    rw [if_neg (by decide)]
    (refine S_nil ?_;dsimp only)
    have:=h [] (DI.inn (hb'.mp rfl))
    rw [List.append_nil] at this
    exact this
   | false =>
    rw [if_pos (by decide)]
    have hu0:e₀.u≠0:=fun z=>Bool.noConfusion (hb'.mpr (leaf_in z (hb.mp rfl)))
    obtain ⟨P,hP,hs⟩:=hT e₀ he (hb.mp rfl) fun z=>Bool.noConfusion (hb'.mpr z)
    (refine S_last ?_)
    refine S_children (c₀:=e₀) (by (with_reducible assumption)) (by (exact Gd.le (by with_reducible assumption) rfl)) hfx he hu0 ?o ⟨fun i Y=>∃ w rs,PD ys gs e₀ i w rs∧Y=⟨(a,.lst (cellsV (acc++rs)))::σ₀,gdN a ys e₀⟩,⟨0,[],.nil,by rw [List.append_nil]⟩,?turn,?fin⟩
    case o=>((refine E_name (by exact rfl) ?_));exact ⟨rfl,rfl⟩
    case fin =>
     rintro Y ⟨w,rs,hPD,rfl⟩
     exact h rs (hPD.all hu0 hP hs)
    case turn =>
     rintro i Y hi ⟨w,rs,hPD,rfl⟩
     have hroom:=hPD.room hi hu0 hP hs
     (refine A_name (by exact .inl ⟨rfl,.head _⟩) ?_;dsimp only;refine S_last ?_;refine S_expr ?_;refine E_meth ?_;dsimp only;(refine E_name (by exact rfl) ?_);refine' M_cmm ?hs11 ?hm11 ?a11 ?b11 ?d11 ?f11 ?_;(case hs11=>dsimp only;k_is);(case hm11=>dsimp only;k_is);(case a11=>dsimp only;k_is);(case b11=>dsimp only;k_is);(case d11=>dsimp only;k_is);(case f11=>dsimp only;k_is);skip;refine Args_plain ?_;refine A_cons ?_;(refine E_name (by exact rfl) ?_);refine A_cons ?_;(refine E_name (by exact rfl) ?_);refine A_cons ?_;(refine E_name (by exact rfl) ?_);refine A_nil ?_)
     refine ih (by (with_reducible assumption)) (by (exact Gd.le2 (by with_reducible assumption) (by exact lin1 (.le (.a .v0 (.n 20)) (.a .v0 (.n 20))) []))) hfx (by show e₀.u-1<n;exact (lin3 (.lt .v0 .v2) [.lt .v1 (.a .v2 .n1),.no (.eq .v1 .n0),.sb .v0 .v1 .n1]) hu hu0 (sbc _ _)) (Cel.kid_ok he hu0 hi) hy hT h62 (by rw [List.length_append];exact (lin4 (.le (.a (.a .v0 .v1) (.l 3 .v2)) (.n 10000)) [.le (.a .v0 (.l 3 .v3)) (.n 10000),.le (.a .v1 (.l 3 .v2)) (.l 3 .v3)]) hz hroom) fun r hr=>?_
     skip
     rw [List.append_assoc]
     exact ⟨⟨(a,.lst (cellsV (acc++(rs++r))))::σ₀,gdN a ys e₀⟩,Conv.names _ (by intro p hp;simp only [List.mem_cons,List.not_mem_nil,or_false] at hp;rcases hp with rfl | rfl | rfl | rfl<;>rfl),_,_,.snoc hPD hr,rfl⟩
structure GA (cs ds gs:List Cel) (i:Nat) (acc:List Cel):Prop where
 lf:∀ z,Lf acc z↔Lf (cs.take i) z∧¬Lf ds z
 ok:∀ c∈acc,c.ok
 len:acc.length≤i+3*((cs.take i).map (wsum gs)).sum
theorem sum_take {α:Type} (f:α→Nat):∀ (cs:List α) (i:Nat) (x:α),cs[i]?=some x→((cs.take (i+1)).map f).sum=((cs.take i).map f).sum+f x
 | [],i,x,h=>by simp at h
 | a::r,0,x,h=>by simp at h;subst h;simp
 | a::r,i+1,x,h=>by
  have:=sum_take f r i x (by simpa using h)
  simp only [List.take_succ_cons,List.map_cons,List.sum_cons] at this ⊢
  exact (lin4 (.eq (.a .v0 .v1) (.a (.a .v0 .v2) .v3)) [.eq .v1 (.a .v2 .v3)]) this
theorem sum_take_le {α:Type} (f:α→Nat):∀ (cs:List α) (i:Nat),((cs.take i).map f).sum≤(cs.map f).sum
 | [],i=>by simp
 | a::r,0=>by simp
 | a::r,i+1=>by
  have:=sum_take_le f r i
  simp only [List.take_succ_cons,List.map_cons,List.sum_cons]
  exact (lin3 (.le (.a .v0 .v1) (.a .v0 .v2)) [.le .v1 .v2]) this
theorem GA.step {cs ds gs acc rs:List Cel} {i:Nat} {x:Cel} (h:GA cs ds gs i acc) (hx:cs[i]?=some x) (r:DI ds gs x rs):GA cs ds gs (i+1) (acc++rs) where
 lf z:=by
  rw [Lf_append,h.lf z,r.lf z,List.take_succ,hx]
  show _↔Lf (cs.take i++[x]) z∧_
  rw [Lf_append,Lf_cons]
  have:=@Lf_nil z
  constructor
  ·rintro (⟨a,b⟩ | ⟨a,b⟩)
   ·exact ⟨.inl a,b⟩
   ·exact ⟨.inr (.inl a),b⟩
  ·rintro ⟨a | a | a,b⟩
   ·exact .inl ⟨a,b⟩
   ·exact .inr ⟨a,b⟩
   ·exact (this a).elim
 ok c hc:=(List.mem_append.mp hc).elim (h.ok c) (r.ok c)
 len:=by
  have a:=h.len
  have b:=r.len
  rw [sum_take _ cs i x hx,List.length_append]
  exact (lin5 (.le (.a .v0 .v1) (.a (.a .v2 .n1) (.l 3 (.a .v3 .v4)))) [.le .v0 (.a .v2 (.l 3 .v3)),.le .v1 (.a .n1 (.l 3 .v4))]) a b
abbrev gdM (o:Addr) (cs ds:List Cel):List (Str×AV):=[(Str.ofString "cell_ids", .raw (.ref o)),(Str.ofString "y", .uni ds),(Str.ofString "x", .uni cs),(Str.ofString "cls", .raw (.ref 590))]
theorem gd_c {c:Cx} {Q:AV→AX→Prop} {σ₀:List (Addr×MO)} {m₀:List (Str×AV)} {cs ds gs:List Cel} (L:Lw c) (G:Gd c.A 60) (C2:CodeHd c.g 524 520) (hfx:c.fix=false) (hLC:Least (Lf cs) cs) (hLD:Least (Lf ds) ds) (hT:Tells ds gs) (hd64:ds.length<64) (h64:cs.length+3*(cs.map (wsum gs)).sum<64) (h:∀ C,Least (fun z=>Lf cs z∧¬Lf ds z) C→C.length<64→Q (.uni C) ⟨(561,tabM)::(520,MO.tabG 520)::σ₀,m₀⟩):WF c (.ref 525) [.raw (.ref 590),.uni cs,.uni ds] [] Q ⟨(561,tabM)::(520,MO.tabG 520)::σ₀,m₀⟩:=by
 (have _:PySem.Challenge.rw_lp0003_07=PySem.Challenge.rw_lp0003_07→∀ w:World,(hd7.heap_1 w.params).In default→True:=by (k_fill;intros;trivial))
 have L₀:=L
 obtain ⟨P,w,K,g,A,env,own,E,fx⟩:=c
 obtain ⟨hP,hK,hC,hN⟩:=L
 dsimp only at hP hK hC hN G
 subst hP hK
 refine WF.conv ?_
 refine' WF.go (M:=[((Str.ofString "cls"),.raw (.ref 590)),((Str.ofString "x"),.uni cs),((Str.ofString "y"),.uni ds)]) G ?k1 ?k2 ?k3 ?k4 ?k5 ?k6 ?k7 ?k8 ?_
 case k1=>(dsimp only;k_is)
 case k2=>(dsimp only;k_is)
 case k3=>exact bind3 fun s v u w X=>.of_eq rfl
 case k4=>rfl
 case k5=>decide
 case k6=>rfl
 case k7=>rfl
 case k8=>rfl
 intro F c' kn he ho ok G'
 have L':=L₀.kin kn
 obtain ⟨P',w',K',g',A',env',own',E',fx'⟩:=c'
 obtain ⟨f1,f2,f3,f4,f5⟩:=kn
 dsimp only at f1 f2 f3 f4 f5 he ho G'
 subst f1 f2 f3 f4 f5 he ho
 clear L₀
 simp only [List.reverse_cons,List.reverse_nil,List.nil_append,List.cons_append]
 (refine S_cons ?_;refine S_assign (by exact .inl ⟨rfl,.head _⟩) ?_)
 refine E_listM (A_nil ⟨by decide,fun o=>?_⟩)
 (refine Then_next ?_;dsimp only;refine S_cons ?_)
 refine S_for ?_
 (refine E_attr ?_;(refine E_name (by exact rfl) ?_);refine' G_own (ca:=none) ?hi16 ?a16 ?b16 ?c16 ?d16 ?e16 ?f16 ?_;(case hi16=>exact .inl rfl);(case a16=>dsimp only;k_is);(case b16=>dsimp only;k_is);(case c16=>dsimp only;k_is);(case d16=>dsimp only;k_is);(case e16=>exact rfl);(case f16=>exact rfl))
 refine I_lst ?_
 refine ⟨fun i Y=>∃ acc,GA cs ds gs i acc∧Y=⟨(o,.lst (cellsV acc))::(561,tabM)::(520,MO.tabG 520)::σ₀,gdM o cs ds⟩,⟨_,Conv.rfl,[],⟨fun z=>by rw [List.take_zero];exact ⟨fun q=>(Lf_nil q).elim,fun q=>(Lf_nil q.1).elim⟩,fun c hc=>(List.not_mem_nil hc).elim,Nat.zero_le _⟩,rfl⟩,?turn,?fin⟩
 case turn =>
  rintro i V Y hV ⟨acc,hG,rfl⟩
  obtain ⟨x,hx,rfl⟩:∃ x,cs[i]?=some x∧V=.cell x.id:=by
   unfold cellsV at hV
   rw [List.getElem?_map] at hV
   obtain ⟨x,h1,h2⟩:=Option.map_eq_some_iff.mp hV
   exact ⟨x,h1,h2.symm⟩
  have okx:=hLC.ok x (List.mem_of_getElem? hx)
  have hi:i<cs.length:=(List.getElem?_eq_some_iff.mp hx).1
  have hln:=hG.len
  have hs1:=sum_take (wsum gs) cs i x hx
  have hs2:=sum_take_le (wsum gs) cs (i+1)
  (refine A_name (by exact .inl ⟨rfl,.head _⟩) ?_;dsimp only;refine S_last ?_;refine S_expr ?_;refine E_meth ?_;dsimp only;(refine E_name (by exact rfl) ?_);refine' M_cmm ?hs18 ?hm18 ?a18 ?b18 ?d18 ?f18 ?_;(case hs18=>dsimp only;k_is);(case hm18=>dsimp only;k_is);(case a18=>dsimp only;k_is);(case b18=>dsimp only;k_is);(case d18=>dsimp only;k_is);(case f18=>dsimp only;k_is);skip;refine Args_plain ?_;refine A_cons ?_;(refine E_name (by exact rfl) ?_);refine A_cons ?_;(refine E_name (by exact rfl) ?_);refine A_cons ?_;(refine E_name (by exact rfl) ?_);refine A_nil ?_)
  refine gdif_c 31 (gs:=gs) (by (with_reducible assumption)) (by (exact Gd.le (by with_reducible assumption) rfl)) hfx (by have:=okx.1;exact (lin1 (.lt .v0 (.n 31)) [.le .v0 (.n 30)]) this) okx hLD hT (by exact (lin1 (.lt .v0 (.n (2^61))) [.lt .v0 (.n 64)]) hd64) (by exact (lin7 (.le (.a .v0 (.l 3 .v1)) (.n 10000)) [.lt (.a .v2 (.l 3 .v3)) (.n 64),.lt .v4 .v2,.le .v0 (.a .v4 (.l 3 .v5)),.eq .v6 (.a .v5 .v1),.le .v6 .v3]) h64 hi hln hs1 hs2) fun rs hr=>?_
  skip
  exact ⟨⟨(o,.lst (cellsV (acc++rs)))::(561,tabM)::(520,MO.tabG 520)::σ₀,gdM o cs ds⟩,Conv.names _ (by intro p hp;simp only [List.mem_cons,List.not_mem_nil,or_false] at hp;rcases hp with rfl | rfl | rfl | rfl<;>rfl),acc++rs,hG.step hx hr,rfl⟩
 case fin =>
  rintro Y ⟨acc,hG,rfl⟩
  have hln:=hG.len
  have hlf:=hG.lf
  rw [show (cellsV cs).length=cs.length from List.length_map _,List.take_length] at hln hlf
  have hoa:=hG.ok
  clear hG
  dsimp only [id]
  (refine Then_next ?_;refine S_cons ?_;refine S_assign (by exact .inr ⟨rfl,_,rfl,by first | exact .tail _ (.head _) | exact .tail _ (.tail _ (.head _))⟩) ?_;refine E_call ?_;dsimp only;(refine E_name (by exact rfl) ?_);(refine' C_raw (keeper_keep ?a23) ?_;(case a23=>dsimp only;k_is));refine Args_plain ?_;refine A_cons ?_;(refine E_name (by exact rfl) ?_);refine A_nil ?_)
  refine WC.convArg (ConvV.freeze (X:=⟨(o,.lst (cellsV acc))::(561,tabM)::(520,MO.tabG 520)::σ₀,gdM o cs ds⟩) (m':=gdM o cs ds) .head rfl .here fun x V e=>⟨V,e,.same V⟩) ?_
  refine WC.of (newM_c (by (with_reducible assumption)) (by (exact Gd.le (by with_reducible assumption) rfl)) hoa (by exact (lin3 (.lt .v0 (.n 64)) [.lt (.a .v1 (.l 3 .v2)) (.n 64),.le .v0 (.a .v1 (.l 3 .v2))]) h64 hln) fun u dd lb cs' hp hs'=>?_)
  have hLs:Least (fun z=>Lf cs z∧¬Lf ds z) (nrm cs'):=(nrm_eq (fun e he=>hoa e (hp.subset he)) hs').congr fun z=>(Lf_perm hp z).trans (hlf z)
  have hln2:(nrm cs').length<64:=by
   have:(nrm cs').length≤cs'.length:=by unfold nrm;split<;>(first | exact (lin2 (.le .v0 .v1) [.lt .v0 .v1]) ‹_› | exact lin1 (.le .v0 .v0) [])
   rw [hp.length_eq] at this;exact (lin4 (.lt .v0 (.n 64)) [.lt (.a .v1 (.l 3 .v2)) (.n 64),.le .v3 (.a .v1 (.l 3 .v2)),.le .v0 .v3]) h64 hln this
  generalize nrm cs'=es at *
  clear hp hs' hlf hoa hln
  refine Then_next ?_
  dsimp only
  refine S_cons ?_
  refine S_assert ?_
  refine T_val ?_
  refine' E_allGen (P:=520) (cd:=524) (d:=8) (m₂:=?m2) (X₁:=?X1) (X₂:=?X2) (n:=?n) ?G ?fix ?all ?code ?C ?iter ?n1 ?n2 ?P ?cv ?P2 ?m ?item ?q ?free ?cell ?h0 ?hx ?kind ?co ?hs
  case n=>exact (es.length:Int)-1
  case X1=>exact ⟨(lb,.lst (cellsV es))::(u,uniM dd lb)::(561,tabM)::(520,MO.tabG 520)::σ₀,(Str.ofString "cell_union", .raw (.ref u))::gdM o cs ds⟩
  case X2=>exact ⟨(561,tabM)::(520,MO.tabG 520)::σ₀,[(Str.ofString "cell_union", .uni es)]⟩
  case m2=>exact [(Str.ofString "cell_union", .uni es)]
  case G=>(exact Gd.le (by with_reducible assumption) rfl)
  case fix=>exact hfx
  case all=>((refine' E_builtin (v:=.builtin ?id25) ?hk25 ?e25 ?hv25 ?hn25 ?_;(case hk25=>exact rfl);(case e25=>dsimp only;k_is);(case hv25=>exact rfl);(case hn25=>decide));dsimp only);exact ⟨rfl,rfl⟩
  case code=>rfl
  case C=>exact C2
  case iter =>
   (refine E_call ?_;dsimp only;(refine' E_builtin (v:=.type ?id26) ?hk26 ?e26 ?hv26 ?hn26 ?_;(case hk26=>exact rfl);(case e26=>dsimp only;k_is);(case hv26=>exact rfl);(case hn26=>decide));refine C_raw keeper_type ?_;refine Args_plain ?_;refine A_cons ?_;refine E_bin ?_;refine E_meth ?_;dsimp only;(refine E_name (by exact rfl) ?_);refine' M_fn ?hi29 ?a29 ?b29 ?c29 ?d29 ?e29 ?_;(case hi29=>refine' IsInst.turn ?hm28;(case hm28=>refine' List.Mem.tail _ ?_;exact List.Mem.head _));(case a29=>dsimp only;k_is);(case b29=>dsimp only;k_is);(case c29=>dsimp only;k_is);(case d29=>dsimp only;k_is);(case e29=>decide);refine Args_plain ?_;refine A_nil ?_;refine WC.of (numM_c (by with_reducible assumption) (by exact Gd.le (by with_reducible assumption) rfl) (by refine' List.Mem.tail _ ?_;exact List.Mem.head _) (by exact List.Mem.head _) (by simp only [cellsV,List.length_map,List.length_reverse,List.length_cons,List.length_append,List.length_nil];exact (lin1 (.lt .v0 (.n (2^62))) [.lt .v0 (.n 64)]) hln2) ?_);refine E_int ?_;refine O_sub ?_;refine A_nil ?_;refine B_range ?_)
   rw [List.length_map]
   exact ⟨rfl,rfl⟩
  case n1=>exact lin1 (.zt (.g (.n (2^62))) (.s (.c .v0) .n1)) []
  case n2=>exact (lin1 (.zt (.s (.c .v0) .n1) (.n (2^62))) [.lt .v0 (.n 64)]) hln2
  case P=>exact .tail _ (.tail _ (.tail _ (.head _)))
  case P2=>exact .tail _ (.head _)
  case cv =>
   refine Conv.trans (Y:=⟨(u,.inst 590 dd [cidS] [.lst (cellsV es)])::(561,tabM)::(520,MO.tabG 520)::σ₀,[(Str.ofString "cell_union", .raw (.ref u))]⟩) (Conv.freezeIn .head rfl .head (.inst (.cons .here .nil)) (fzN_cons (.same _) fzN_nil)) (Conv.freeze .head rfl (fzN_cons .here fzN_nil)) ?_
   intro a ha
   exact List.mem_append_right _ ha
  case m =>
   intro p hp
   rw [List.mem_singleton.mp hp]
   exact ⟨rfl,.inl rfl,rfl,rfl⟩
  case free=>exact freeOk rfl
  case cell=>decide
  case h0=>rfl
  case hx=>rfl
  case kind=>rfl
  case co=>rfl
  case hs=>intro y;rfl
  case item =>
   intro n C code A'' hn G₃ ok₃
   obtain ⟨a,ha,ham⟩:=get_lt (show n<es.length by exact (lin3 (.lt .v0 .v1) [.lt .v0 .v2,.or (.an (.zl .n0 (.s (.c .v1) .n1)) (.ze (.c .v2) (.s (.c .v1) .n1))) (.an (.zt (.s (.c .v1) .n1) .n0) (.eq .v2 .n0))]) hn (tnc _))
   obtain ⟨b,hb,hbm⟩:=get_lt (show n+1<es.length by exact (lin3 (.lt (.a .v0 .n1) .v1) [.lt .v0 .v2,.or (.an (.zl .n0 (.s (.c .v1) .n1)) (.ze (.c .v2) (.s (.c .v1) .n1))) (.an (.zt (.s (.c .v1) .n1) .n0) (.eq .v2 .n0))]) hn (tnc _))
   have oka:=hLs.ok a ham
   have okb:=hLs.ok b hbm
   have hle:a.id≤b.id:=(List.pairwise_iff_getElem.mp (asc_sd hLs.asc) n (n+1) (by exact (lin3 (.lt .v0 .v1) [.lt .v0 .v2,.or (.an (.zl .n0 (.s (.c .v1) .n1)) (.ze (.c .v2) (.s (.c .v1) .n1))) (.an (.zt (.s (.c .v1) .n1) .n0) (.eq .v2 .n0))]) hn (tnc _)) (by exact (lin3 (.lt (.a .v0 .n1) .v1) [.lt .v0 .v2,.or (.an (.zl .n0 (.s (.c .v1) .n1)) (.ze (.c .v2) (.s (.c .v1) .n1))) (.an (.zt (.s (.c .v1) .n1) .n0) (.eq .v2 .n0))]) hn (tnc _)) (Nat.lt_succ_self n)) |> fun z=>by
    rw [(List.getElem?_eq_some_iff.mp ha).2,(List.getElem?_eq_some_iff.mp hb).2] at z;exact z
   clear ok₃
   dsimp only [Cx.gen]
   (refine E_cmp ?_;refine E_sub ?_;refine E_attr ?_;(refine E_name (by exact rfl) ?_);refine' G_own (ca:=none) ?hi31 ?a31 ?b31 ?c31 ?d31 ?e31 ?f31 ?_;(case hi31=>exact .inl rfl);(case a31=>dsimp only;k_is);(case b31=>dsimp only;k_is);(case c31=>dsimp only;k_is);(case d31=>dsimp only;k_is);(case e31=>exact rfl);(case f31=>exact rfl);(refine E_name (by exact rfl) ?_))
   refine Su_lst (V:=.cell a.id) (atI_nat (cellsV_at ha)) (by rw [List.length_map];exact (lin1 (.lt .v0 (.n (2^62))) [.lt .v0 (.n 64)]) hln2) ?_
   (refine E_sub ?_;refine E_attr ?_;(refine E_name (by exact rfl) ?_);refine' G_own (ca:=none) ?hi34 ?a34 ?b34 ?c34 ?d34 ?e34 ?f34 ?_;(case hi34=>exact .inl rfl);(case a34=>dsimp only;k_is);(case b34=>dsimp only;k_is);(case c34=>dsimp only;k_is);(case d34=>dsimp only;k_is);(case e34=>exact rfl);(case f34=>exact rfl);refine E_bin ?_;(refine E_name (by exact rfl) ?_);refine E_int ?_;refine O_add ?_)
   rw [show ((n:Int)+1)=((n+1:Nat):Int) by exact lin1 (.ze (.a (.c .v0) .n1) (.c (.a .v0 .n1))) []]
   refine Su_lst (V:=.cell b.id) (atI_nat (cellsV_at hb)) (by rw [List.length_map];exact (lin1 (.lt .v0 (.n (2^62))) [.lt .v0 (.n 64)]) hln2) ?_
   (refine' O_cmp ?hi36 ?hj36 ?a36 ?b36 ?d36 (fun _ _=>rfl) ?_;(case hi36=>exact .inl rfl);(case hj36=>exact .inl rfl);(case a36=>dsimp only;k_is);(case b36=>dsimp only;k_is);(case d36=>dsimp only;k_is);refine le_c (by exact ⟨rfl,rfl,by assumption,by assumption⟩) (by exact Gd.le (by with_reducible assumption) rfl) ⟨_,rfl,?_⟩)
   rw [decide_eq_true hle]
  case q =>
   (refine Tr_bool ?_;refine And.intro rfl ?_;refine Then_next ?_;refine S_cons ?_;refine S_assert ?_;refine T_not ?_;refine T_val ?_;refine E_meth ?_;dsimp only;(refine E_name (by exact rfl) ?_);refine' M_fn ?hi39 ?a39 ?b39 ?c39 ?d39 ?e39 ?_;(case hi39=>refine' IsInst.turn ?hm38;(case hm38=>refine' List.Mem.tail _ ?_;exact List.Mem.head _));(case a39=>dsimp only;k_is);(case b39=>dsimp only;k_is);(case c39=>dsimp only;k_is);(case d39=>dsimp only;k_is);(case e39=>decide);refine Args_plain ?_;refine A_nil ?_)
   refine WC.of (normalize_c (by (with_reducible assumption)) (by (exact Gd.le (by with_reducible assumption) rfl)) hLs.ok (by exact (lin1 (.lt .v0 (.n 64)) [.lt .v0 (.n 64)]) hln2) fun lb' fs hp hs'=>?_)
   obtain ⟨f1,f2⟩:=nrm_fix hLs hp hs'
   rw [f2,decide_eq_false f1]
   (refine Tr_bool ?_)
   refine ⟨rfl,?_⟩
   (refine Then_next ?_;refine S_last ?_;refine S_return ?_;(refine E_name (by exact rfl) ?_);dsimp only)
   refine ⟨_,_,?_,h es hLs hln2⟩
   refine ConvV.trans (V':=.raw (.ref u)) (X':=⟨(u,.inst 590 dd [cidS] [.lst (cellsV es)])::(561,tabM)::(520,MO.tabG 520)::σ₀,m₀⟩) ?_ (ConvV.freeze (m':=m₀) .head rfl .here fun x V e=>⟨V,e,.same V⟩)
   exact ConvV.freezeIn (X:=⟨(lb',.lst (cellsV es))::(u,uniM dd lb')::(561,tabM)::(520,MO.tabG 520)::σ₀,m₀⟩) .head rfl .head (.inst (.cons .here .nil)) (.same _) fun x V e=>⟨V,e,.same V⟩
theorem asc_len:∀ (n:Nat) (lo:Int) (l:List Int),l.Pairwise (·<·)→(∀ x∈l,lo≤x∧x<lo+n)→l.length≤n
 | n,lo,[],_,_=>Nat.zero_le _
 | 0,lo,a::r,_,h=>by have:=h a (.head _);exact (lin [_] [_,_] (.le .v0 .n0) [.an (.zl .v0 .v1) (.zt .v1 (.a .v0 (.c .n0)))]) this
 | n+1,lo,a::r,hp,h=>by
  have hc:=List.pairwise_cons.mp hp
  have ha:=h a (.head _)
  have:=asc_len n (lo+1) r hc.2 fun x hx=>by have h1:=h x (.tail _ hx);have h2:=hc.1 x hx;exact (lin [_] [_,_,_] (.an (.zl (.a .v0 .n1) .v1) (.zt .v1 (.a (.a .v0 .n1) (.c .v0)))) [.an (.zl .v0 .v2) (.zt .v2 (.a .v0 (.c (.a .v0 .n1)))),.an (.zl .v0 .v1) (.zt .v1 (.a .v0 (.c (.a .v0 .n1)))),.zt .v2 .v1]) ha h1 h2
  rw [List.length_cons];exact (lin2 (.le (.a .v0 .n1) (.a .v1 .n1)) [.le .v0 .v1]) this
theorem asc_full:∀ (n:Nat) (lo:Int) (l:List Int),l.Pairwise (·<·)→(∀ x∈l,lo≤x∧x<lo+n)→l.length=n→∀ k,lo≤k→k<lo+n→k∈l
 | 0,lo,l,_,_,_,k,h1,h2=>by exact ((lin [] [_,_] .ff [.zl .v0 .v1,.zt .v1 (.a .v0 (.c .n0))]) h1 h2).elim
 | n+1,lo,[],_,_,h,k,h1,h2=>by cases h
 | n+1,lo,a::r,hp,h,hl,k,h1,h2=>by
  have hc:=List.pairwise_cons.mp hp
  have ha:=h a (.head _)
  have ih:=asc_full n (lo+1) r hc.2 (fun x hx=>by have h1:=h x (.tail _ hx);have h2:=hc.1 x hx;exact (lin [_] [_,_,_] (.an (.zl (.a .v0 .n1) .v1) (.zt .v1 (.a (.a .v0 .n1) (.c .v0)))) [.an (.zl .v0 .v2) (.zt .v2 (.a .v0 (.c (.a .v0 .n1)))),.an (.zl .v0 .v1) (.zt .v1 (.a .v0 (.c (.a .v0 .n1)))),.zt .v2 .v1]) ha h1 h2) (by simpa using hl)
  by_cases q:k=lo
  ·have e:a=lo:=by
    cases n with
    | zero=>exact (lin [] [_,_] (.ze .v0 .v1) [.an (.zl .v1 .v0) (.zt .v0 (.a .v1 (.c (.a .n0 .n1))))]) ha
    | succ n =>
     have:=hc.1 (lo+1) (ih (lo+1) (by exact lin [] [_] (.zl (.a .v0 .n1) (.a .v0 .n1)) []) (by exact lin [_] [_] (.zt (.a .v0 .n1) (.a (.a .v0 .n1) (.c (.a .v0 .n1)))) []))
     exact (lin [_] [_,_] (.ze .v0 .v1) [.an (.zl .v1 .v0) (.zt .v0 (.a .v1 (.c (.a (.a .v0 .n1) .n1)))),.zt .v0 (.a .v1 .n1)]) ha this
   rw [q,←e];exact .head _
  ·exact .tail _ (ih k (by exact (lin [] [_,_] (.zl (.a .v0 .n1) .v1) [.zl .v0 .v1,.no (.ze .v1 .v0)]) h1 q) (by exact (lin [_] [_,_] (.zt .v0 (.a (.a .v1 .n1) (.c .v0))) [.zt .v0 (.a .v1 (.c (.a .v0 .n1)))]) h2))
theorem asc_all:∀ (n:Nat) (lo:Int) (l:List Int),l.Nodup→(∀ k,lo≤k→k<lo+n→k∈l)→n≤l.length
 | 0,lo,l,_,_=>Nat.zero_le _
 | n+1,lo,l,hp,h=>by
  have hm:=h lo (by exact lin [] [_] (.zl .v0 .v0) []) (by exact lin [_] [_] (.zt .v0 (.a .v0 (.c (.a .v0 .n1)))) [])
  have:=asc_all n (lo+1) (l.erase lo) (hp.erase lo) fun k h1 h2=>(List.mem_erase_of_ne (by exact (lin [] [_,_] (.no (.ze .v0 .v1)) [.zl (.a .v1 .n1) .v0]) h1)).mpr (h k (by exact (lin [] [_,_] (.zl .v0 .v1) [.zl (.a .v0 .n1) .v1]) h1) (by exact (lin [_] [_,_] (.zt .v0 (.a .v1 (.c (.a .v0 .n1)))) [.zt .v0 (.a (.a .v1 .n1) (.c .v0))]) h2))
  rw [List.length_erase_of_mem hm] at this
  have:0<l.length:=List.length_pos_of_mem hm
  exact (lin3 (.le (.a .v0 .n1) .v1) [.le .v0 .v2,.lt .n0 .v1,.sb .v2 .v1 .n1]) ‹_› this (sbc (l.length) (1))
theorem asc_nodup {l:List Int} (h:l.Pairwise (·<·)):l.Nodup:=h.imp fun h=>Int.ne_of_lt h
structure W7 (L F:Nat):Prop where
 lev:L≤29
 fit:F+6≤6*4^L
 four:L≠0→F%4=0
def cb (L F b:Nat):Cel:=⟨F+b,30-L⟩
def pc (L F:Nat) (p:Int):Cel:=⟨4*F+p.toNat,29-L⟩
def up (L F:Nat):Cel:=⟨F / 4,31-L⟩
structure Pl (ps:List Int):Prop where
 rng:∀ p∈ps,0≤p∧p<24
 asc:ps.Pairwise (·<·)
theorem Pl.filter {ps:List Int} (h:Pl ps) (f:Int→Bool):Pl (ps.filter f):=⟨fun p hp=>h.rng p (List.mem_filter.mp hp).1,h.asc.filter f⟩
def partOf (ps:List Int) (b:Nat):List Int:=ps.filter fun p=>decide (p.fdiv 4=(b:Int))
theorem fdiv4 (p:Int):p.fdiv 4=p / 4:=Int.fdiv_eq_ediv_of_nonneg _ (by decide)
theorem partOf_mem {ps:List Int} {b:Nat} {p:Int}:p∈partOf ps b↔p∈ps∧4*(b:Int)≤p∧p<4*(b:Int)+4:=by
 unfold partOf
 rw [List.mem_filter,decide_eq_true_eq,fdiv4]
 constructor
 ·rintro ⟨a,b⟩;exact ⟨a,by exact (lin [_] [_,_] (.an (.zl (.l 4 (.c .v0)) .v0) (.zt .v0 (.a (.l 4 (.c .v0)) .n4))) [.ze .v1 (.c .v0),.an (.zl (.l 4 .v1) .v0) (.zt .v0 (.a (.l 4 .v1) .n4))]) b (zdc 4 (by decide) _)⟩
 ·rintro ⟨a,b⟩;exact ⟨a,by exact (lin [_] [_,_] (.ze .v0 (.c .v0)) [.an (.zl (.l 4 (.c .v0)) .v1) (.zt .v1 (.a (.l 4 (.c .v0)) .n4)),.an (.zl (.l 4 .v0) .v1) (.zt .v1 (.a (.l 4 .v0) .n4))]) b (zdc 4 (by decide) _)⟩
theorem partOf_len {ps:List Int} (h:Pl ps) (b:Nat):(partOf ps b).length≤4:=asc_len 4 (4*(b:Int)) _ (h.asc.filter _) fun x hx=>(partOf_mem.mp hx).2
theorem partOf_full {ps:List Int} (h:Pl ps) {b:Nat} (hl:(partOf ps b).length=4) {k:Int} (h1:4*(b:Int)≤k) (h2:k<4*(b:Int)+4):k∈ps :=
 (partOf_mem.mp (asc_full 4 (4*(b:Int)) _ (h.asc.filter _) (fun x hx=>(partOf_mem.mp hx).2) hl k h1 h2)).1
theorem partOf_four {ps:List Int} (h:Pl ps) {b:Nat} (hk:∀ k:Int,4*(b:Int)≤k→k<4*(b:Int)+4→k∈ps):(partOf ps b).length=4 :=
 Nat.le_antisymm (partOf_len h b) (asc_all 4 (4*(b:Int)) _ (asc_nodup (h.asc.filter _)) fun k h1 h2=>partOf_mem.mpr ⟨hk k h1 h2,h1,h2⟩)
def lowOf (ps:List Int):List Int:=ps.filter fun p=>decide (p<16)
def blockOf (L F:Nat) (ps:List Int) (b:Nat):List Cel:=if (partOf ps b).length=4 then [cb L F b] else (partOf ps b).map (pc L F)
def AllLow (L:Nat) (ps:List Int):Prop:=L≠0∧(lowOf ps).length=16
instance (L:Nat) (ps:List Int):Decidable (AllLow L ps):=inferInstanceAs (Decidable (_∧_))
theorem low_full {ps:List Int} (h:Pl ps) (hl:(lowOf ps).length=16) {k:Int} (h1:0≤k) (h2:k<16):k∈ps :=
 (List.mem_filter.mp (asc_full 16 0 _ (h.asc.filter _) (fun x hx=>by
  obtain ⟨a,b⟩:=List.mem_filter.mp hx
  have:=h.rng x a
  have b:=of_decide_eq_true b
  exact (lin [] [_] (.an (.zl .n0 .v0) (.zt .v0 (.a .n0 (.c (.n 16))))) [.an (.zl .n0 .v0) (.zt .v0 (.n 24)),.zt .v0 (.n 16)]) this b) hl k h1 (by exact (lin [] [_] (.zt .v0 (.a .n0 (.c (.n 16)))) [.zt .v0 (.n 16)]) h2))).1
theorem low_all {ps:List Int} (h:Pl ps) (hk:∀ k:Int,0≤k→k<16→k∈ps):(lowOf ps).length=16:=by
 refine Nat.le_antisymm (asc_len 16 0 _ (h.asc.filter _) fun x hx=>?_) (asc_all 16 0 _ (asc_nodup (h.asc.filter _)) fun k h1 h2=>List.mem_filter.mpr ⟨hk k h1 (by exact (lin [] [_] (.zt .v0 (.n 16)) [.zt .v0 (.a .n0 (.c (.n 16)))]) h2),decide_eq_true (by exact (lin [] [_] (.zt .v0 (.n 16)) [.zt .v0 (.a .n0 (.c (.n 16)))]) h2)⟩)
 obtain ⟨a,b⟩:=List.mem_filter.mp hx
 have:=h.rng x a
 have b:=of_decide_eq_true b
 exact (lin [] [_] (.an (.zl .n0 .v0) (.zt .v0 (.a .n0 (.c (.n 16))))) [.an (.zl .n0 .v0) (.zt .v0 (.n 24)),.zt .v0 (.n 16)]) this b
def blocks (L F:Nat) (ps:List Int) (b0 n:Nat):List Cel:=(List.range n).flatMap fun i=>blockOf L F ps (b0+i)
def leastW (L F:Nat) (ps:List Int):List Cel:=if AllLow L ps then up L F::blocks L F ps 4 2 else blocks L F ps 0 6
section
variable {L F:Nat} (h:W7 L F)
theorem pc_lo (p:Int):(pc L F p).lo=(4*F+p.toNat)*4^(29-L)∧(pc L F p).hi=(4*F+p.toNat+1)*4^(29-L):=⟨rfl,rfl⟩
include h in
theorem cb_lo (b:Nat):(cb L F b).lo=(4*F+4*b)*4^(29-L)∧(cb L F b).hi=(4*F+4*b+4)*4^(29-L):=by
 have e:30-L=(29-L)+1:=by have:=h.lev;exact (lin3 (.eq .v0 (.a .v2 .n1)) [.le .v1 (.n 29),.sb .v0 (.n 30) .v1,.sb .v2 (.n 29) .v1]) this (sbc _ _) (sbc _ _)
 unfold Cel.lo Cel.hi cb
 dsimp only
 rw [e,Nat.pow_succ]
 constructor
 ·rw [Nat.mul_comm (4^(29-L)) 4,←Nat.mul_assoc];congr 1;exact lin2 (.eq (.r (.a .v0 .v1) 4) (.a (.l 4 .v0) (.l 4 .v1))) []
 ·rw [Nat.mul_comm (4^(29-L)) 4,←Nat.mul_assoc];congr 1;exact lin2 (.eq (.r (.a (.a .v0 .v1) .n1) 4) (.a (.a (.l 4 .v0) (.l 4 .v1)) .n4)) []
include h in
theorem up_lo (hL:L≠0):(up L F).lo=(4*F)*4^(29-L)∧(up L F).hi=(4*F+16)*4^(29-L):=by
 have e:31-L=(29-L)+1+1:=by have:=h.lev;exact (lin3 (.eq .v0 (.a (.a .v2 .n1) .n1)) [.le .v1 (.n 29),.sb .v0 (.n 31) .v1,.sb .v2 (.n 29) .v1]) this (sbc _ _) (sbc _ _)
 have:=h.four hL
 unfold Cel.lo Cel.hi up
 dsimp only
 rw [e,Nat.pow_succ,Nat.pow_succ]
 constructor
 ·rw [Nat.mul_assoc,Nat.mul_comm (4^(29-L)) (4*4),←Nat.mul_assoc];congr 1;omega
 ·rw [Nat.mul_assoc,Nat.mul_comm (4^(29-L)) (4*4),←Nat.mul_assoc];congr 1;omega
include h in
theorem fit29:4*F+24≤6*4^(L+1):=by have:=h.fit;rw [Nat.pow_succ];exact (lin2 (.le (.a (.l 4 .v0) (.n 24)) (.l 6 (.r .v1 4))) [.le (.a .v0 (.n 6)) (.l 6 .v1)]) this
include h in
theorem pc_ok {p:Int} (hp:0≤p∧p<24):(pc L F p).ok:=by
 refine ⟨by show 29-L≤30;exact (lin2 (.le .v0 (.n 30)) [.sb .v0 (.n 29) .v1]) (sbc _ _),?_⟩
 show 4*F+p.toNat<6*4^(30-(29-L))
 rw [show 30-(29-L)=L+1 by have:=h.lev;exact (lin3 (.eq .v0 (.a .v2 .n1)) [.le .v2 (.n 29),.sb .v1 (.n 29) .v2,.sb .v0 (.n 30) .v1]) this (sbc (29) (L)) (sbc (30) (29-L))]
 have:=fit29 h;exact (lin [_,_,_] [_] (.lt (.a (.l 4 .v0) .v1) (.l 6 .v2)) [.an (.zl .n0 .v0) (.zt .v0 (.n 24)),.le (.a (.l 4 .v0) (.n 24)) (.l 6 .v2),.or (.an (.zl .n0 .v0) (.ze (.c .v1) .v0)) (.an (.zt .v0 .n0) (.eq .v1 .n0))]) hp this (tnc _)
include h in
theorem cb_ok {b:Nat} (hb:b<6):(cb L F b).ok:=by
 refine ⟨by show 30-L≤30;exact (lin2 (.le .v0 (.n 30)) [.sb .v0 (.n 30) .v1]) (sbc _ _),?_⟩
 show F+b<6*4^(30-(30-L))
 rw [show 30-(30-L)=L by have:=h.lev;exact (lin3 (.eq .v0 .v2) [.le .v2 (.n 29),.sb .v1 (.n 30) .v2,.sb .v0 (.n 30) .v1]) this (sbc (30) (L)) (sbc (30) (30-L))]
 have:=h.fit;exact (lin3 (.lt (.a .v0 .v1) (.l 6 .v2)) [.lt .v1 (.n 6),.le (.a .v0 (.n 6)) (.l 6 .v2)]) hb this
include h in
theorem up_ok (hL:L≠0):(up L F).ok:=by
 refine ⟨by show 31-L≤30;exact (lin2 (.le .v0 (.n 30)) [.no (.eq .v1 .n0),.sb .v0 (.n 31) .v1]) hL (sbc _ _),?_⟩
 show F / 4<6*4^(30-(31-L))
 have:=h.fit
 have e:4^L=4^(30-(31-L))*4:=by rw [←Nat.pow_succ];congr 1;have:=h.lev;exact (lin3 (.eq .v0 (.a .v1 .n1)) [.no (.eq .v0 .n0),.le .v0 (.n 29),.sb .v2 (.n 31) .v0,.sb .v1 (.n 30) .v2]) hL this (sbc (31) (L)) (sbc (30) (31-L))
 rw [e] at this;exact (lin3 (.lt .v0 (.l 6 .v2)) [.le (.a .v1 (.n 6)) (.l 6 (.r .v2 4)),.dv 4 .v0 .v1]) this (dvc 4 (by decide) _)
theorem pc_in {x:Nat} {p:Int} (hp:0≤p):((pc L F p).lo≤x∧x<(pc L F p).hi)↔x / 4^(29-L)=4*F+p.toNat:=by
 have hP:0<4^(29-L):=Nat.pow_pos (by decide)
 rw [(pc_lo p).1,(pc_lo p).2]
 constructor
 ·rintro ⟨a,b⟩
  exact Nat.le_antisymm (Nat.le_of_lt_succ (Nat.div_lt_of_lt_mul (by rw [Nat.mul_comm];exact b))) ((Nat.le_div_iff_mul_le hP).mpr a)
 ·intro e
  rw [←e]
  exact ⟨Nat.div_mul_le_self _ _,by rw [Nat.add_mul,Nat.one_mul];exact Nat.lt_div_mul_add hP⟩
theorem rg_in {x a b:Nat}:(a*4^(29-L)≤x∧x<b*4^(29-L))↔a≤x / 4^(29-L)∧x / 4^(29-L)<b:=by
 have hP:0<4^(29-L):=Nat.pow_pos (by decide)
 rw [Nat.le_div_iff_mul_le hP,Nat.div_lt_iff_lt_mul hP]
theorem pl_lf {ps:List Int} (hp:Pl ps) (x:Nat):Lf (ps.map (pc L F)) x↔∃ p∈ps,x / 4^(29-L)=4*F+p.toNat:=by
 constructor
 ·rintro ⟨c,hc,a⟩
  obtain ⟨p,hp',rfl⟩:=List.mem_map.mp hc
  exact ⟨p,hp',(pc_in (hp.rng p hp').1).mp a⟩
 ·rintro ⟨p,hp',a⟩
  exact ⟨_,List.mem_map_of_mem hp',(pc_in (hp.rng p hp').1).mpr a⟩
include h in
theorem block_lf {ps:List Int} (hp:Pl ps) (b x:Nat):Lf (blockOf L F ps b) x↔∃ p∈ps,4*(b:Int)≤p∧p<4*(b:Int)+4∧x / 4^(29-L)=4*F+p.toNat:=by
 unfold blockOf
 split
 ·rename_i hl
  rw [Lf_cons,(cb_lo h b).1,(cb_lo h b).2,rg_in]
  constructor
  ·rintro (⟨a1,a2⟩ | z)
   ·refine ⟨((x / 4^(29-L)-4*F:Nat):Int),partOf_full hp hl (by exact (lin4 (.zl (.l 4 (.c .v0)) (.c .v1)) [.le (.a (.l 4 .v3) (.l 4 .v0)) .v2,.sb .v1 .v2 (.l 4 .v3)]) a1 (sbc _ _)) (by exact (lin4 (.zt (.c .v0) (.a (.l 4 (.c .v3)) .n4)) [.lt .v1 (.a (.a (.l 4 .v2) (.l 4 .v3)) .n4),.sb .v0 .v1 (.l 4 .v2)]) a2 (sbc _ _)),by exact (lin4 (.zl (.l 4 (.c .v0)) (.c .v1)) [.le (.a (.l 4 .v3) (.l 4 .v0)) .v2,.sb .v1 .v2 (.l 4 .v3)]) a1 (sbc _ _),by exact (lin4 (.zt (.c .v0) (.a (.l 4 (.c .v3)) .n4)) [.lt .v1 (.a (.a (.l 4 .v2) (.l 4 .v3)) .n4),.sb .v0 .v1 (.l 4 .v2)]) a2 (sbc _ _),by exact (lin5 (.eq .v0 (.a (.l 4 .v1) .v2)) [.le (.a (.l 4 .v1) (.l 4 .v4)) .v0,.lt .v0 (.a (.a (.l 4 .v1) (.l 4 .v4)) .n4),.sb .v3 .v0 (.l 4 .v1),.or (.an (.zl .n0 (.c .v3)) (.ze (.c .v2) (.c .v3))) (.an (.zt (.c .v3) .n0) (.eq .v2 .n0))]) a1 a2 (sbc (x / 4^(29-L)) (4*F)) (tnc (↑(x / 4^(29-L)-4*F)))⟩
   ·exact (Lf_nil z).elim
  ·rintro ⟨p,_,a1,a2,a3⟩
   exact .inl (by exact (lin [_,_,_,_] [_] (.an (.le (.a (.l 4 .v0) (.l 4 .v1)) .v2) (.lt .v2 (.a (.a (.l 4 .v0) (.l 4 .v1)) .n4))) [.zl (.l 4 (.c .v1)) .v0,.zt .v0 (.a (.l 4 (.c .v1)) .n4),.eq .v2 (.a (.l 4 .v0) .v3),.or (.an (.zl .n0 .v0) (.ze (.c .v3) .v0)) (.an (.zt .v0 .n0) (.eq .v3 .n0))]) a1 a2 a3 (tnc _))
 ·have hpp:Pl (partOf ps b):=hp.filter _
  rw [pl_lf hpp]
  constructor
  ·rintro ⟨p,hp',e⟩
   obtain ⟨a,b,c⟩:=partOf_mem.mp hp'
   exact ⟨p,a,b,c,e⟩
  ·rintro ⟨p,a,b,c,e⟩
   exact ⟨p,partOf_mem.mpr ⟨a,b,c⟩,e⟩
theorem Lf_flat {f:Nat→List Cel} {x n:Nat}:Lf ((List.range n).flatMap f) x↔∃ i,i<n∧Lf (f i) x:=by
 constructor
 ·rintro ⟨c,hc,a⟩
  obtain ⟨i,hi,hc⟩:=List.mem_flatMap.mp hc
  exact ⟨i,List.mem_range.mp hi,c,hc,a⟩
 ·rintro ⟨i,hi,c,hc,a⟩
  exact ⟨c,List.mem_flatMap.mpr ⟨i,List.mem_range.mpr hi,hc⟩,a⟩
include h in
theorem leastW_lf {ps:List Int} (hp:Pl ps) (x:Nat):Lf (leastW L F ps) x↔Lf (ps.map (pc L F)) x:=by
 rw [pl_lf hp]
 unfold leastW
 split
 ·rename_i ha
  rw [Lf_cons,(up_lo h ha.1).1,(up_lo h ha.1).2,rg_in]
  unfold blocks
  rw [Lf_flat]
  constructor
  ·rintro (⟨a1,a2⟩ | ⟨i,hi,z⟩)
   ·exact ⟨((x / 4^(29-L)-4*F:Nat):Int),low_full hp ha.2 (by exact (lin3 (.zl .n0 (.c .v0)) [.sb .v0 .v1 (.l 4 .v2)]) (sbc _ _)) (by exact (lin3 (.zt (.c .v0) (.n 16)) [.lt .v1 (.a (.l 4 .v2) (.n 16)),.sb .v0 .v1 (.l 4 .v2)]) a2 (sbc _ _)),by exact (lin4 (.eq .v0 (.a (.l 4 .v1) .v2)) [.le (.l 4 .v1) .v0,.lt .v0 (.a (.l 4 .v1) (.n 16)),.sb .v3 .v0 (.l 4 .v1),.or (.an (.zl .n0 (.c .v3)) (.ze (.c .v2) (.c .v3))) (.an (.zt (.c .v3) .n0) (.eq .v2 .n0))]) a1 a2 (sbc (x / 4^(29-L)) (4*F)) (tnc (↑(x / 4^(29-L)-4*F)))⟩
   ·obtain ⟨p,a,_,_,e⟩:=(block_lf h hp _ x).mp z
    exact ⟨p,a,e⟩
  ·rintro ⟨p,a,e⟩
   have:=hp.rng p a
   by_cases q:p<16
   ·exact .inl (by exact (lin [_,_,_] [_] (.an (.le (.l 4 .v0) .v1) (.lt .v1 (.a (.l 4 .v0) (.n 16)))) [.eq .v1 (.a (.l 4 .v0) .v2),.zt .v0 (.n 16),.or (.an (.zl .n0 .v0) (.ze (.c .v2) .v0)) (.an (.zt .v0 .n0) (.eq .v2 .n0))]) e q (tnc _))
   ·exact .inr ⟨p.toNat / 4-4,by exact (lin [_,_,_] [_] (.lt .v0 .n2) [.an (.zl .n0 .v0) (.zt .v0 (.n 24)),.no (.zt .v0 (.n 16)),.or (.an (.zl .n0 .v0) (.ze (.c .v2) .v0)) (.an (.zt .v0 .n0) (.eq .v2 .n0)),.dv 4 .v1 .v2,.sb .v0 .v1 .n4]) this q (tnc (p)) (dvc 4 (by decide) (p.toNat)) (sbc (p.toNat / 4) (4)),(block_lf h hp _ x).mpr ⟨p,a,by exact (lin [_,_,_] [_] (.zl (.l 4 (.c (.a .n4 .v0))) .v0) [.an (.zl .n0 .v0) (.zt .v0 (.n 24)),.no (.zt .v0 (.n 16)),.or (.an (.zl .n0 .v0) (.ze (.c .v2) .v0)) (.an (.zt .v0 .n0) (.eq .v2 .n0)),.dv 4 .v1 .v2,.sb .v0 .v1 .n4]) this q (tnc (p)) (dvc 4 (by decide) (p.toNat)) (sbc (p.toNat / 4) (4)),by exact (lin [_,_,_] [_] (.zt .v0 (.a (.l 4 (.c (.a .n4 .v0))) .n4)) [.an (.zl .n0 .v0) (.zt .v0 (.n 24)),.no (.zt .v0 (.n 16)),.or (.an (.zl .n0 .v0) (.ze (.c .v2) .v0)) (.an (.zt .v0 .n0) (.eq .v2 .n0)),.dv 4 .v1 .v2,.sb .v0 .v1 .n4]) this q (tnc (p)) (dvc 4 (by decide) (p.toNat)) (sbc (p.toNat / 4) (4)),e⟩⟩
 ·unfold blocks
  rw [Lf_flat]
  constructor
  ·rintro ⟨i,hi,z⟩
   obtain ⟨p,a,_,_,e⟩:=(block_lf h hp _ x).mp z
   exact ⟨p,a,e⟩
  ·rintro ⟨p,a,e⟩
   have:=hp.rng p a
   exact ⟨p.toNat / 4,by exact (lin [_,_] [_] (.lt .v0 (.n 6)) [.an (.zl .n0 .v0) (.zt .v0 (.n 24)),.or (.an (.zl .n0 .v0) (.ze (.c .v1) .v0)) (.an (.zt .v0 .n0) (.eq .v1 .n0)),.dv 4 .v0 .v1]) this (tnc (p)) (dvc 4 (by decide) (p.toNat)),(block_lf h hp _ x).mpr ⟨p,a,by exact (lin [_,_] [_] (.zl (.l 4 (.c (.a .n0 .v0))) .v0) [.an (.zl .n0 .v0) (.zt .v0 (.n 24)),.or (.an (.zl .n0 .v0) (.ze (.c .v1) .v0)) (.an (.zt .v0 .n0) (.eq .v1 .n0)),.dv 4 .v0 .v1]) this (tnc (p)) (dvc 4 (by decide) (p.toNat)),by exact (lin [_,_] [_] (.zt .v0 (.a (.l 4 (.c (.a .n0 .v0))) .n4)) [.an (.zl .n0 .v0) (.zt .v0 (.n 24)),.or (.an (.zl .n0 .v0) (.ze (.c .v1) .v0)) (.an (.zt .v0 .n0) (.eq .v1 .n0)),.dv 4 .v0 .v1]) this (tnc (p)) (dvc 4 (by decide) (p.toNat)),e⟩⟩
theorem blockOf_mem {ps:List Int} {b:Nat} {c:Cel} (hc:c∈blockOf L F ps b):(c=cb L F b∧(partOf ps b).length=4)∨((partOf ps b).length≠4∧∃ p∈ps,4*(b:Int)≤p∧p<4*(b:Int)+4∧c=pc L F p):=by
 unfold blockOf at hc
 split at hc
 ·rename_i q;exact .inl ⟨List.mem_singleton.mp hc,q⟩
 ·rename_i q
  obtain ⟨p,hp,rfl⟩:=List.mem_map.mp hc
  obtain ⟨a,b,c⟩:=partOf_mem.mp hp
  exact .inr ⟨q,p,a,b,c,rfl⟩
include h in
theorem blockOf_in {ps:List Int} {b:Nat} {c:Cel} (hc:c∈blockOf L F ps b):(4*F+4*b)*4^(29-L)≤c.lo∧c.hi≤(4*F+4*b+4)*4^(29-L):=by
 rcases blockOf_mem hc with ⟨rfl,_⟩ | ⟨_,p,_,h1,h2,rfl⟩
 ·rw [(cb_lo h b).1,(cb_lo h b).2];exact ⟨Nat.le_refl _,Nat.le_refl _⟩
 ·rw [(pc_lo p).1,(pc_lo p).2]
  exact ⟨Nat.mul_le_mul_right _ (by exact (lin [_,_,_] [_] (.le (.a (.l 4 .v0) (.l 4 .v1)) (.a (.l 4 .v0) .v2)) [.zl (.l 4 (.c .v1)) .v0,.or (.an (.zl .n0 .v0) (.ze (.c .v2) .v0)) (.an (.zt .v0 .n0) (.eq .v2 .n0))]) h1 (tnc _)),Nat.mul_le_mul_right _ (by exact (lin [_,_,_] [_] (.le (.a (.a (.l 4 .v0) .v1) .n1) (.a (.a (.l 4 .v0) (.l 4 .v2)) .n4)) [.zt .v0 (.a (.l 4 (.c .v2)) .n4),.or (.an (.zl .n0 .v0) (.ze (.c .v1) .v0)) (.an (.zt .v0 .n0) (.eq .v1 .n0))]) h2 (tnc _))⟩
include h in
theorem blockOf_ok {ps:List Int} (hp:Pl ps) {b:Nat} (hb:b<6) {c:Cel} (hc:c∈blockOf L F ps b):c.ok:=by
 rcases blockOf_mem hc with ⟨rfl,_⟩ | ⟨_,p,hp',h1,h2,rfl⟩
 ·exact cb_ok h hb
 ·exact pc_ok h (hp.rng p hp')
theorem blockOf_asc {ps:List Int} (hp:Pl ps) (b:Nat):Asc (blockOf L F ps b):=by
 unfold blockOf
 split
 ·exact List.pairwise_singleton _ _
 ·refine List.pairwise_map.mpr (((hp.asc.filter _).imp_of_mem fun {p q} hp' hq' hlt=>?_))
  rw [(pc_lo p).2,(pc_lo q).1]
  have:=hp.rng p (List.mem_filter.mp hp').1
  exact Nat.mul_le_mul_right _ (by exact (lin [_,_,_] [_,_] (.le (.a (.a (.l 4 .v0) .v1) .n1) (.a (.l 4 .v0) .v2)) [.zt .v0 .v1,.an (.zl .n0 .v0) (.zt .v0 (.n 24)),.or (.an (.zl .n0 .v0) (.ze (.c .v1) .v0)) (.an (.zt .v0 .n0) (.eq .v1 .n0)),.or (.an (.zl .n0 .v1) (.ze (.c .v2) .v1)) (.an (.zt .v1 .n0) (.eq .v2 .n0))]) hlt this (tnc _) (tnc _))
include h in
theorem blocks_asc {ps:List Int} (hp:Pl ps) (b0:Nat):∀ n,Asc (blocks L F ps b0 n)
 | 0=>List.Pairwise.nil
 | n+1=>by
  unfold blocks
  rw [List.range_succ,List.flatMap_append]
  refine List.pairwise_append.mpr ⟨blocks_asc hp b0 n,?_,fun c hc d hd=>?_⟩
  ·rw [List.flatMap_singleton];exact blockOf_asc hp _
  ·rw [List.flatMap_singleton] at hd
   obtain ⟨i,hi,hc⟩:=List.mem_flatMap.mp hc
   have hi:=List.mem_range.mp hi
   have h1:=(blockOf_in h hc).2
   have h2:=(blockOf_in h hd).1
   have:(4*F+4*(b0+i)+4)*4^(29-L)≤(4*F+4*(b0+n))*4^(29-L):=Nat.mul_le_mul_right _ (by exact (lin4 (.le (.a (.a (.l 4 .v0) (.l 4 (.a .v1 .v2))) .n4) (.a (.l 4 .v0) (.l 4 (.a .v1 .v3)))) [.lt .v2 .v3]) hi)
   exact (lin4 (.le .v0 .v1) [.le .v0 .v2,.le .v3 .v1,.le .v2 .v3]) h1 h2 this
theorem blocks_mem {ps:List Int} {b0 n:Nat} {c:Cel} (hc:c∈blocks L F ps b0 n):∃ b,b0≤b∧b<b0+n∧c∈blockOf L F ps b:=by
 obtain ⟨i,hi,hc⟩:=List.mem_flatMap.mp hc
 have:=List.mem_range.mp hi
 exact ⟨b0+i,by exact lin2 (.le .v0 (.a .v0 .v1)) [],by exact (lin3 (.lt (.a .v0 .v1) (.a .v0 .v2)) [.lt .v1 .v2]) this,hc⟩
theorem leastW_mem {ps:List Int} {c:Cel} (hc:c∈leastW L F ps):(c=up L F∧AllLow L ps)∨∃ b,b<6∧c∈blockOf L F ps b∧(AllLow L ps→4≤b):=by
 unfold leastW at hc
 split at hc
 ·rename_i ha
  rcases List.mem_cons.mp hc with rfl | hc
  ·exact .inl ⟨rfl,ha⟩
  ·obtain ⟨b,b1,b2,hc⟩:=blocks_mem hc
   exact .inr ⟨b,by exact (lin1 (.lt .v0 (.n 6)) [.lt .v0 (.a .n4 .n2)]) b2,hc,fun _=>b1⟩
 ·rename_i ha
  obtain ⟨b,b1,b2,hc⟩:=blocks_mem hc
  exact .inr ⟨b,by exact (lin1 (.lt .v0 (.n 6)) [.lt .v0 (.a .n0 (.n 6))]) b2,hc,fun z=>(ha z).elim⟩
include h in
theorem leastW_u {ps:List Int} {c:Cel} (hc:c∈leastW L F ps):(c.u=31-L∧c=up L F∧AllLow L ps)∨(c.u=30-L∧∃ b,b<6∧c=cb L F b∧(partOf ps b).length=4∧(AllLow L ps→4≤b))∨(c.u=29-L∧∃ b,b<6∧(partOf ps b).length≠4∧∃ p∈ps,4*(b:Int)≤p∧p<4*(b:Int)+4∧c=pc L F p):=by
 rcases leastW_mem hc with ⟨rfl,ha⟩ | ⟨b,hb,hc,hal⟩
 ·exact .inl ⟨rfl,rfl,ha⟩
 ·rcases blockOf_mem hc with ⟨rfl,hl⟩ | ⟨hl,p,hp,h1,h2,rfl⟩
  ·exact .inr (.inl ⟨rfl,b,hb,rfl,hl,hal⟩)
  ·exact .inr (.inr ⟨rfl,b,hb,hl,p,hp,h1,h2,rfl⟩)
include h in
theorem leastW_at {ps:List Int} {c:Cel} (hc:c∈leastW L F ps):(c.u=31-L→c=up L F)∧(c.u=30-L→∃ b,b<6∧c=cb L F b∧(partOf ps b).length=4∧(AllLow L ps→4≤b))∧(c.u=29-L→∃ p∈ps,c=pc L F p):=by
 have hl:=h.lev
 have n1:31-L≠30-L:=by exact (lin3 (.no (.eq .v0 .v2)) [.le .v1 (.n 29),.sb .v0 (.n 31) .v1,.sb .v2 (.n 30) .v1]) hl (sbc _ _) (sbc _ _)
 have n2:31-L≠29-L:=by exact (lin3 (.no (.eq .v0 .v2)) [.le .v1 (.n 29),.sb .v0 (.n 31) .v1,.sb .v2 (.n 29) .v1]) hl (sbc _ _) (sbc _ _)
 have n3:30-L≠29-L:=by exact (lin3 (.no (.eq .v0 .v2)) [.le .v1 (.n 29),.sb .v0 (.n 30) .v1,.sb .v2 (.n 29) .v1]) hl (sbc _ _) (sbc _ _)
 clear hl
 rcases leastW_u h hc with ⟨u0,c0,_⟩ | ⟨u0,c0⟩ | ⟨u0,_,_,_,p,hp,_,_,c0⟩<;>rw [u0]
 ·exact ⟨fun _=>c0,fun z=>(n1 z).elim,fun z=>(n2 z).elim⟩
 ·exact ⟨fun z=>(n1 z.symm).elim,fun _=>c0,fun z=>(n3 z).elim⟩
 ·exact ⟨fun z=>(n2 z.symm).elim,fun z=>(n3 z.symm).elim,fun _=>⟨p,hp,c0⟩⟩
theorem quad_b {P F b0 b3:Nat} (h4:F%4=0) (f0:4*P+0=F+b0) (f3:4*P+3=F+b3) (hb:b3<6):4*P=F:=by exact (lin5 (.eq (.l 4 .v4) .v0) [.eq .v1 .n0,.eq (.a (.l 4 .v4) .n3) (.a .v0 .v3),.lt .v3 (.n 6),.md 4 .v1 .v2 .v0]) h4 f3 hb (mdc 4 (by decide) _)
theorem quad_c {P F r:Nat} {p:Int} (hp:0≤p) (f:4*P+r=4*F+p.toNat):p=4*((P:Int)-F)+r:=by exact (lin [_,_,_,_] [_] (.ze .v0 (.a (.l 4 (.s (.c .v0) (.c .v1))) (.c .v2))) [.zl .n0 .v0,.eq (.a (.l 4 .v0) .v2) (.a (.l 4 .v1) .v3),.or (.an (.zl .n0 .v0) (.ze (.c .v3) .v0)) (.an (.zt .v0 .n0) (.eq .v3 .n0))]) hp f (tnc _)
include h in
theorem leastW_noquad {ps:List Int} (hp:Pl ps):NoQuad (leastW L F ps):=by
 intro P u hu hq
 rcases leastW_u h (hq 0 (by decide)) with ⟨u0,c0,a0⟩ | ⟨u0,b0,hb0,c0,l0,n0⟩ | ⟨u0,b0,hb0,l0,p0,hp0,x0,y0,c0⟩
 ·have e:4*P+0=4*P+1:=congrArg Cel.p (c0.trans ((leastW_at h (hq 1 (by decide))).1 u0).symm)
  exact absurd (Nat.add_left_cancel e) (by decide)
 ·have f0:4*P+0=F+b0:=congrArg Cel.p c0
  obtain ⟨b3,hb3,c3,_⟩:=(leastW_at h (hq 3 (by decide))).2.1 u0
  have hL:L≠0:=fun z=>by subst z;exact absurd (u0:u=30) (Nat.ne_of_lt hu)
  have hP:=quad_b (h.four hL) f0 (congrArg Cel.p c3) hb3
  have e0:b0=0:=Nat.add_left_cancel (f0.symm.trans hP)
  refine absurd (n0 ⟨hL,low_all hp fun k k0 k1=>?_⟩) (by rw [e0];decide)
  have hk:k.toNat / 4<4:=by clear hq;exact (lin [_,_] [_] (.lt .v0 .n4) [.zl .n0 .v0,.zt .v0 (.n 16),.or (.an (.zl .n0 .v0) (.ze (.c .v1) .v0)) (.an (.zt .v0 .n0) (.eq .v1 .n0)),.dv 4 .v0 .v1]) k0 k1 (tnc (k)) (dvc 4 (by decide) (k.toNat))
  obtain ⟨b,hb,c,l,_⟩:=(leastW_at h (hq _ hk)).2.1 u0
  have f:4*P+k.toNat / 4=F+b:=congrArg Cel.p c
  rw [←hP] at f
  rw [←Nat.add_left_cancel f] at l
  refine partOf_full hp l ?_ ?_<;>clear f hP f0 hq u0 n0 hb hb3 l c c3<;>(first | exact (lin [_,_] [_] (.zl (.l 4 (.c .v0)) .v0) [.zl .n0 .v0,.zt .v0 (.n 16),.lt .v0 .n4,.or (.an (.zl .n0 .v0) (.ze (.c .v1) .v0)) (.an (.zt .v0 .n0) (.eq .v1 .n0)),.dv 4 .v0 .v1]) k0 k1 hk (tnc (k)) (dvc 4 (by decide) (k.toNat)) | exact (lin [_,_] [_] (.zt .v0 (.a (.l 4 (.c .v0)) .n4)) [.zl .n0 .v0,.zt .v0 (.n 16),.or (.an (.zl .n0 .v0) (.ze (.c .v1) .v0)) (.an (.zt .v0 .n0) (.eq .v1 .n0)),.dv 4 .v0 .v1]) k0 k1 (tnc (k)) (dvc 4 (by decide) (k.toNat)))
 ·have g:∀ r,r<4→4*((P:Int)-F)+(r:Nat)∈ps:=fun r hr=>by
   obtain ⟨p,hp',c⟩:=(leastW_at h (hq r hr)).2.2 u0
   rw [←quad_c (hp.rng p hp').1 (congrArg Cel.p c)]
   exact hp'
  have e0:=quad_c (hp.rng p0 hp0).1 (congrArg Cel.p c0)
  clear hq c0 hu
  have e0:(P:Int)-F=b0:=by exact (lin [_,_,_] [_] (.ze (.s (.c .v0) (.c .v1)) (.c .v2)) [.zl (.l 4 (.c .v2)) .v0,.zt .v0 (.a (.l 4 (.c .v2)) .n4),.ze .v0 (.a (.l 4 (.s (.c .v0) (.c .v1))) (.c .n0))]) x0 y0 e0
  rw [e0] at g
  refine l0 (partOf_four hp fun k k0 k1=>?_)
  have:=g (k-4*b0).toNat (by exact (lin [_,_] [_] (.lt .v0 .n4) [.zt .v0 (.a (.l 4 (.c .v1)) .n4),.or (.an (.zl .n0 (.s .v0 (.l 4 (.c .v1)))) (.ze (.c .v0) (.s .v0 (.l 4 (.c .v1))))) (.an (.zt (.s .v0 (.l 4 (.c .v1))) .n0) (.eq .v0 .n0))]) k1 (tnc _))
  rw [show 4*(b0:Int)+((k-4*b0).toNat:Nat)=k by exact (lin [_,_] [_] (.ze (.a (.l 4 (.c .v0)) (.c .v1)) .v0) [.zl (.l 4 (.c .v0)) .v0,.or (.an (.zl .n0 (.s .v0 (.l 4 (.c .v0)))) (.ze (.c .v1) (.s .v0 (.l 4 (.c .v0))))) (.an (.zt (.s .v0 (.l 4 (.c .v0))) .n0) (.eq .v1 .n0))]) k0 (tnc _)] at this
  exact this
include h in
theorem leastW_asc {ps:List Int} (hp:Pl ps):Asc (leastW L F ps):=by
 unfold leastW
 split
 ·rename_i ha
  refine List.pairwise_cons.mpr ⟨fun c hc=>?_,blocks_asc h hp 4 2⟩
  obtain ⟨b,b1,b2,hc⟩:=blocks_mem hc
  have h1:=(blockOf_in h hc).1
  rw [(up_lo h ha.1).2]
  have:(4*F+16)*4^(29-L)≤(4*F+4*b)*4^(29-L):=Nat.mul_le_mul_right _ (by exact (lin2 (.le (.a (.l 4 .v0) (.n 16)) (.a (.l 4 .v0) (.l 4 .v1))) [.le .n4 .v1]) b1)
  exact (lin3 (.le .v0 .v1) [.le .v2 .v1,.le .v0 .v2]) h1 this
 ·exact blocks_asc h hp 0 6
include h in
theorem leastW_ok {ps:List Int} (hp:Pl ps):∀ c∈leastW L F ps,c.ok:=fun c hc=>by
 rcases leastW_mem hc with ⟨rfl,ha⟩ | ⟨b,hb,hc,_⟩
 ·exact up_ok h ha.1
 ·exact blockOf_ok h hp hb hc
include h in
theorem leastW_least {ps:List Int} (hp:Pl ps):Least (Lf (ps.map (pc L F))) (leastW L F ps) :=
 (Least.of_noquad (leastW_asc h hp) (leastW_ok h hp) (leastW_noquad h hp)).congr fun x=>leastW_lf h hp x
theorem blocks_len {ps:List Int} (hp:Pl ps) (b0:Nat):∀ n,(blocks L F ps b0 n).length≤4*n
 | 0=>Nat.le_refl _
 | n+1=>by
  have ih:=blocks_len hp b0 n
  unfold blocks at ih ⊢
  rw [List.range_succ,List.flatMap_append,List.length_append,List.flatMap_singleton]
  have:(blockOf L F ps (b0+n)).length≤4:=by
   unfold blockOf
   split
   ·show 1≤4;decide
   ·rw [List.length_map];exact partOf_len hp _
  exact (lin3 (.le (.a .v0 .v1) (.l 4 (.a .v2 .n1))) [.le .v0 (.l 4 .v2),.le .v1 .n4]) ih this
theorem leastW_len {ps:List Int} (hp:Pl ps):(leastW L F ps).length≤24:=by
 unfold leastW
 split
 ·rw [List.length_cons];have:=blocks_len (L:=L) (F:=F) hp 4 2;exact (lin1 (.le (.a .v0 .n1) (.n 24)) [.le .v0 (.l 4 .n2)]) this
 ·exact blocks_len hp 0 6
end
abbrev SP (L F:Nat) (ps:List Int) (x:Nat):Prop:=Lf (ps.map (pc L F)) x
theorem sp_iff {L F:Nat} {ps:List Int} (h:Pl ps) {x:Nat}:SP L F ps x↔4*F≤x / 4^(29-L)∧((x / 4^(29-L)-4*F:Nat):Int)∈ps:=by
 unfold SP
 rw [pl_lf h]
 constructor
 ·rintro ⟨p,hp,e⟩
  have:=(h.rng p hp).1
  refine ⟨by exact (lin [_,_,_] [_] (.le (.l 4 .v0) .v1) [.eq .v1 (.a (.l 4 .v0) .v2),.or (.an (.zl .n0 .v0) (.ze (.c .v2) .v0)) (.an (.zt .v0 .n0) (.eq .v2 .n0))]) e (tnc _),?_⟩
  rw [show ((x / 4^(29-L)-4*F:Nat):Int)=p by exact (lin [_,_,_,_] [_] (.ze (.c .v0) .v0) [.eq .v1 (.a (.l 4 .v2) .v3),.zl .n0 .v0,.sb .v0 .v1 (.l 4 .v2),.or (.an (.zl .n0 .v0) (.ze (.c .v3) .v0)) (.an (.zt .v0 .n0) (.eq .v3 .n0))]) e this (sbc _ _) (tnc _)]
  exact hp
 ·rintro ⟨a,b⟩
  exact ⟨_,b,by exact (lin4 (.eq .v0 (.a (.l 4 .v1) .v2)) [.le (.l 4 .v1) .v0,.sb .v3 .v0 (.l 4 .v1),.or (.an (.zl .n0 (.c .v3)) (.ze (.c .v2) (.c .v3))) (.an (.zt (.c .v3) .n0) (.eq .v2 .n0))]) a (sbc (x / 4^(29-L)) (4*F)) (tnc (↑(x / 4^(29-L)-4*F)))⟩
theorem sp_at {L F:Nat} {ps:List Int} (h:Pl ps) {p:Int} (hp:0≤p):SP L F ps (pc L F p).lo↔p∈ps:=by
 rw [sp_iff h]
 have e:=(pc_in (L:=L) (F:=F) hp).mp ⟨Nat.le_refl _,(pc L F p).lo_lt⟩
 rw [e]
 rw [show ((4*F+p.toNat-4*F:Nat):Int)=p by exact (lin [_,_,_] [_] (.ze (.c .v0) .v0) [.zl .n0 .v0,.or (.an (.zl .n0 .v0) (.ze (.c .v2) .v0)) (.an (.zt .v0 .n0) (.eq .v2 .n0)),.sb .v0 (.a (.l 4 .v1) .v2) (.l 4 .v1)]) hp (tnc (p)) (sbc (4*F+p.toNat) (4*F))]
 exact ⟨fun z=>z.2,fun z=>⟨by exact (lin [_,_] [_] (.le (.l 4 .v0) (.a (.l 4 .v0) .v1)) [.or (.an (.zl .n0 .v0) (.ze (.c .v1) .v0)) (.an (.zt .v0 .n0) (.eq .v1 .n0))]) (tnc _),z⟩⟩
theorem sp_sub {L F:Nat} {as bs:List Int} (ha:Pl as) (hb:Pl bs):(∀ x,SP L F as x→SP L F bs x)↔∀ p∈as,p∈bs:=by
 constructor
 ·intro h p hp
  have:=(ha.rng p hp).1
  exact (sp_at hb this).mp (h _ ((sp_at ha this).mpr hp))
 ·intro h x hx
  have:=(sp_iff ha).mp hx
  exact (sp_iff hb).mpr ⟨this.1,h _ this.2⟩
theorem sp_meet {L F:Nat} {as bs:List Int} (ha:Pl as) (hb:Pl bs):(∃ x,SP L F as x∧SP L F bs x)↔∃ p∈as,p∈bs:=by
 constructor
 ·rintro ⟨x,h1,h2⟩
  exact ⟨_,((sp_iff ha).mp h1).2,((sp_iff hb).mp h2).2⟩
 ·rintro ⟨p,h1,h2⟩
  have:=(ha.rng p h1).1
  exact ⟨_,(sp_at ha this).mpr h1,(sp_at hb this).mpr h2⟩
def all24:List Int:=(List.range 24).map Int.ofNat
theorem all24_mem {p:Int}:p∈all24↔0≤p∧p<24:=by
 unfold all24
 rw [List.mem_map]
 constructor
 ·rintro ⟨k,hk,rfl⟩;have:=List.mem_range.mp hk;exact ⟨Int.natCast_nonneg k,by show (k:Int)<24;exact (lin1 (.zt (.c .v0) (.n 24)) [.lt .v0 (.n 24)]) this⟩
 ·rintro ⟨a,b⟩;exact ⟨p.toNat,List.mem_range.mpr (by exact (lin [_] [_] (.lt .v0 (.n 24)) [.zt .v0 (.n 24),.or (.an (.zl .n0 .v0) (.ze (.c .v0) .v0)) (.an (.zt .v0 .n0) (.eq .v0 .n0))]) b (tnc _)),Int.toNat_of_nonneg a⟩
theorem Pl.all:Pl all24:=⟨fun p hp=>all24_mem.mp hp,by unfold all24;exact List.pairwise_map.mpr (List.pairwise_lt_range.imp fun h=>Int.ofNat_lt.mpr h)⟩
def orOf (ps qs:List Int):List Int:=all24.filter fun p=>decide (p∈ps) || decide (p∈qs)
def andOf (ps qs:List Int):List Int:=ps.filter fun p=>decide (p∈qs)
def butOf (ps qs:List Int):List Int:=ps.filter fun p=>!decide (p∈qs)
theorem sp_or {L F:Nat} {ps qs:List Int} (hp:Pl ps) (hq:Pl qs) (x:Nat):SP L F (orOf ps qs) x↔SP L F ps x∨SP L F qs x:=by
 unfold orOf
 rw [sp_iff (Pl.all.filter _),sp_iff hp,sp_iff hq,List.mem_filter,Bool.or_eq_true,decide_eq_true_eq,decide_eq_true_eq]
 constructor
 ·rintro ⟨a,_,b⟩;exact b.imp (fun z=>⟨a,z⟩) fun z=>⟨a,z⟩
 ·rintro (⟨a,b⟩ | ⟨a,b⟩)
  ·exact ⟨a,all24_mem.mpr (hp.rng _ b),.inl b⟩
  ·exact ⟨a,all24_mem.mpr (hq.rng _ b),.inr b⟩
theorem sp_and {L F:Nat} {ps qs:List Int} (hp:Pl ps) (hq:Pl qs) (x:Nat):SP L F (andOf ps qs) x↔SP L F ps x∧SP L F qs x:=by
 unfold andOf
 rw [sp_iff (hp.filter _),sp_iff hp,sp_iff hq,List.mem_filter,decide_eq_true_eq]
 exact ⟨fun ⟨a,b,c⟩=>⟨⟨a,b⟩,a,c⟩,fun ⟨⟨a,b⟩,_,c⟩=>⟨a,b,c⟩⟩
theorem sp_but {L F:Nat} {ps qs:List Int} (hp:Pl ps) (hq:Pl qs) (x:Nat):SP L F (butOf ps qs) x↔SP L F ps x∧¬SP L F qs x:=by
 unfold butOf
 rw [sp_iff (hp.filter _),sp_iff hp,sp_iff hq,List.mem_filter,Bool.not_eq_true',decide_eq_false_iff_not]
 exact ⟨fun ⟨a,b,c⟩=>⟨⟨a,b⟩,fun z=>c z.2⟩,fun ⟨⟨a,b⟩,c⟩=>⟨a,b,fun z=>c ⟨a,z⟩⟩⟩
structure UW (L F:Nat) (ps:List Int) (C:List Cel):Prop where
 pl:Pl ps
 eq:C=leastW L F ps
section
variable {L F:Nat} {ps qs:List Int} {C D E:List Cel}
theorem UW.least (h:UW L F ps C) (w:W7 L F):Least (SP L F ps) C:=by rw [h.eq];exact leastW_least w h.pl
theorem UW.of (w:W7 L F) (hp:Pl ps) {S:Nat→Prop} (h:Least S C) (e:∀ x,S x↔SP L F ps x):UW L F ps C:=⟨hp,(h.congr e).uniq (leastW_least w hp)⟩
theorem UW.len (h:UW L F ps C):C.length≤24:=by rw [h.eq];exact leastW_len h.pl
theorem UW.lf (h:UW L F ps C) (w:W7 L F) (x:Nat):Lf C x↔SP L F ps x:=(h.least w).lf x
theorem UW.contains (h:UW L F ps C) (k:UW L F qs D) (w:W7 L F) {b:Bool} (hb:b=true↔∀ e∈D,inC C e):b=decide (butOf qs ps=[]):=by
 rw [Bool.eq_iff_iff,hb,decide_eq_true_eq]
 have hD:=k.least w
 have:(∀ e∈D,inC C e)↔∀ x,SP L F qs x→SP L F ps x:=by
  constructor
  ·intro z x hx
   obtain ⟨e,he,a1,a2⟩:=(hD.lf x).mpr hx
   exact (inC_iff (h.least w) (hD.ok e he)).mp (z e he) x a1 a2
  ·intro z e he
   exact (inC_iff (h.least w) (hD.ok e he)).mpr fun x a1 a2=>z x (hD.cell he a1 a2)
 rw [this,sp_sub k.pl h.pl]
 unfold butOf
 rw [List.filter_eq_nil_iff]
 simp
theorem UW.intersects (h:UW L F ps C) (k:UW L F qs D) (w:W7 L F) {b:Bool} (hb:b=true↔∃ e∈D,meetC C e):b=!decide (andOf qs ps=[]):=by
 rw [Bool.eq_iff_iff,hb,Bool.not_eq_true',decide_eq_false_iff_not]
 have hD:=k.least w
 have:(∃ e∈D,meetC C e)↔∃ x,SP L F qs x∧SP L F ps x:=by
  constructor
  ·rintro ⟨e,he,z⟩
   obtain ⟨x,a1,a2,a3⟩:=(meetC_iff (h.least w) (hD.ok e he)).mp z
   exact ⟨x,hD.cell he a1 a2,a3⟩
  ·rintro ⟨x,a,b⟩
   obtain ⟨e,he,a1,a2⟩:=(hD.lf x).mpr a
   exact ⟨e,he,(meetC_iff (h.least w) (hD.ok e he)).mpr ⟨x,a1,a2,b⟩⟩
 rw [this,sp_meet k.pl h.pl]
 unfold andOf
 rw [List.filter_eq_nil_iff]
 simp
theorem and_comm0 (hp:∀ p,p∈ps→True):decide (andOf qs ps=[])=decide (andOf ps qs=[]):=by
 rw [decide_eq_decide]
 unfold andOf
 rw [List.filter_eq_nil_iff,List.filter_eq_nil_iff]
 simp only [decide_eq_true_eq]
 exact ⟨fun h p a b=>h p b a,fun h p a b=>h p b a⟩
theorem UW.union (h:UW L F ps C) (k:UW L F qs D) (w:W7 L F) {es:List Cel} (hp:es.Perm (C++D)) (hs:Sd es):UW L F (orOf ps qs) (nrm es):=by
 have hok:∀ e∈es,e.ok:=fun e he=>(List.mem_append.mp (hp.subset he)).elim ((h.least w).ok e) ((k.least w).ok e)
 refine .of w (Pl.all.filter _) (nrm_eq hok hs) fun x=>?_
 rw [Lf_perm hp,Lf_append,h.lf w,k.lf w]
 exact (sp_or h.pl k.pl x).symm
theorem UW.inter (h:UW L F ps C) (k:UW L F qs D) (w:W7 L F) (hE:Least (fun z=>Lf C z∧Lf D z) E):UW L F (andOf ps qs) E :=
 .of w (h.pl.filter _) hE fun x=>by
  rw [h.lf w,k.lf w]
  exact (sp_and h.pl k.pl x).symm
theorem UW.diff (h:UW L F ps C) (k:UW L F qs D) (w:W7 L F) (hE:Least (fun z=>Lf C z∧¬Lf D z) E):UW L F (butOf ps qs) E :=
 .of w (h.pl.filter _) hE fun x=>by
  rw [h.lf w,k.lf w]
  exact (sp_but h.pl k.pl x).symm
def six (L F:Nat):List Cel:=(List.range 6).map (cb L F)
theorem UW.tells (h:UW L F ps C) (w:W7 L F):Tells C (six L F):=by
 intro q hq ⟨x,x1,x2,hx⟩ hn
 have hx:=(sp_iff h.pl).mp ((h.lf w x).mp hx)
 generalize hy:x / 4^(29-L)-4*F=y at hx
 have hr:=h.pl.rng _ hx.2
 have hpx:(pc L F (y:Int)).lo≤x∧x<(pc L F (y:Int)).hi:=(pc_in (by exact lin1 (.zl .n0 (.c .v0)) [])).mpr (by exact (lin5 (.eq .v0 (.a (.l 4 .v1) .v2)) [.eq .v4 .v3,.le (.l 4 .v1) .v0,.or (.an (.zl .n0 (.c .v3)) (.ze (.c .v2) (.c .v3))) (.an (.zt (.c .v3) .n0) (.eq .v2 .n0)),.sb .v4 .v0 (.l 4 .v1)]) hy hx.1 (tnc _) (sbc _ _))
 have hu:29-L<q.u:=by
  rcases Nat.lt_or_ge (29-L) q.u with z | z
  ·exact z
  ·have hs:q.sub (pc L F (y:Int)):=Cel.meet_sub (show q.u≤(pc L F (y:Int)).u from z) x1 x2 hpx.1 hpx.2
   refine absurd (fun z z1 z2=>?_) hn
   refine (h.lf w z).mpr ⟨pc L F (y:Int),List.mem_map_of_mem hx.2,Nat.le_trans hs.1 z1,Nat.lt_of_lt_of_le z2 hs.2⟩
 refine ⟨cb L F (y / 4),List.mem_map_of_mem (List.mem_range.mpr (by exact (lin2 (.lt .v0 (.n 6)) [.an (.zl .n0 (.c .v1)) (.zt (.c .v1) (.n 24)),.dv 4 .v0 .v1]) hr (dvc 4 (by decide) _))),?_⟩
 have hlev:=w.lev
 refine Cel.meet_sub (x:=x) (show 30-L≤q.u by exact (lin4 (.le .v0 .v2) [.lt .v3 .v2,.sb .v0 (.n 30) .v1,.sb .v3 (.n 29) .v1]) hu (sbc _ _) (sbc _ _)) ?_ ?_ x1 x2
 ·rw [(cb_lo w _).1]
  have:=hpx.1
  rw [(pc_lo _).1] at this
  exact Nat.le_trans (Nat.mul_le_mul_right _ (by exact (lin4 (.le (.a (.l 4 .v0) (.l 4 .v1)) (.a (.l 4 .v0) .v3)) [.dv 4 .v1 .v2,.or (.an (.zl .n0 (.c .v2)) (.ze (.c .v3) (.c .v2))) (.an (.zt (.c .v2) .n0) (.eq .v3 .n0))]) (dvc 4 (by decide) _) (tnc _))) this
 ·rw [(cb_lo w _).2]
  have:=hpx.2
  rw [(pc_lo _).2] at this
  exact Nat.lt_of_lt_of_le this (Nat.mul_le_mul_right _ (by exact (lin4 (.le (.a (.a (.l 4 .v0) .v1) .n1) (.a (.a (.l 4 .v0) (.l 4 .v3)) .n4)) [.or (.an (.zl .n0 (.c .v2)) (.ze (.c .v1) (.c .v2))) (.an (.zt (.c .v2) .n0) (.eq .v1 .n0)),.dv 4 .v3 .v2]) (tnc _) (dvc 4 (by decide) _)))
theorem UW.room (h:UW L F ps C) (w:W7 L F):C.length+3*(C.map (wsum (six L F))).sum<64:=by
 have h1:=h.len
 have h2:=wsum_row (n:=1) (h.least w).asc (gs:=six L F) fun P hP e he=>by
  obtain ⟨b,_,rfl⟩:=List.mem_map.mp hP
  rw [h.eq] at he
  have:=w.lev
  show e.u≤30-L+1
  rcases leastW_u w he with z | z | z<;>(first | exact (lin4 (.le .v0 (.a .v1 .n1)) [.eq .v0 .v3,.sb .v1 (.n 30) .v2,.sb .v3 (.n 31) .v2]) z.1 (sbc _ _) (sbc _ _) | exact (lin3 (.le .v0 (.a .v1 .n1)) [.eq .v0 .v1,.sb .v1 (.n 30) .v2]) z.1 (sbc _ _) | exact (lin4 (.le .v0 (.a .v1 .n1)) [.eq .v0 .v3,.sb .v1 (.n 30) .v2,.sb .v3 (.n 29) .v2]) z.1 (sbc _ _) (sbc _ _))
 have h3:(six L F).length=6:=rfl
 omega
end
structure PkW (L F:Nat) (e:Cel) (part:List Int):Prop where
 ok:e.ok
 pl:Pl part
 lf:∀ x,(e.lo≤x∧x<e.hi)↔SP L F part x
section
variable {L F:Nat} {ps part:List Int} {C:List Cel} {e:Cel}
theorem UW.cellIn (h:UW L F ps C) (k:PkW L F e part) (w:W7 L F) {b:Bool} (hb:b=true↔inC C e):b=decide (andOf part ps=part):=by
 rw [Bool.eq_iff_iff,hb,decide_eq_true_eq,inC_iff (h.least w) k.ok]
 have:(∀ x,e.lo≤x→x<e.hi→SP L F ps x)↔∀ x,SP L F part x→SP L F ps x:=⟨fun z x hx=>z x ((k.lf x).mpr hx).1 ((k.lf x).mpr hx).2,fun z x a1 a2=>z x ((k.lf x).mp ⟨a1,a2⟩)⟩
 rw [this,sp_sub k.pl h.pl]
 unfold andOf
 rw [List.filter_eq_self]
 simp
theorem UW.cellMeet (h:UW L F ps C) (k:PkW L F e part) (w:W7 L F) {b:Bool} (hb:b=true↔meetC C e):b=!decide (andOf part ps=[]):=by
 rw [Bool.eq_iff_iff,hb,Bool.not_eq_true',decide_eq_false_iff_not,meetC_iff (h.least w) k.ok]
 have:(∃ x,e.lo≤x∧x<e.hi∧SP L F ps x)↔∃ x,SP L F part x∧SP L F ps x:=⟨fun ⟨x,a,b,c⟩=>⟨x,(k.lf x).mp ⟨a,b⟩,c⟩,fun ⟨x,a,c⟩=>⟨x,((k.lf x).mpr a).1,((k.lf x).mpr a).2,c⟩⟩
 rw [this,sp_meet k.pl h.pl]
 unfold andOf
 rw [List.filter_eq_nil_iff]
 simp
theorem UW.cellAnd1 (h:UW L F ps C) (k:PkW L F e part) (w:W7 L F) (hi:inC C e) {cs:List Cel} (hp:cs.Perm [e]) (hs:Sd cs):UW L F (andOf part ps) (nrm cs):=by
 refine .of w (k.pl.filter _) (nrm_eq (fun c hc=>by rw [List.mem_singleton.mp (hp.subset hc)];exact k.ok) hs) fun x=>?_
 rw [Lf_perm hp,Lf_cons,sp_and k.pl h.pl,←k.lf x]
 exact ⟨fun z=>z.elim (fun q=>⟨q,(inC_iff (h.least w) k.ok).mp hi x q.1 q.2⟩) fun q=>(Lf_nil q).elim,fun z=>.inl z.1⟩
theorem UW.cellAnd2 (h:UW L F ps C) (k:PkW L F e part) (w:W7 L F) (hi:¬inC C e) {cs:List Cel} (hp:cs.Perm (seg C e)) (hs:Sd cs):UW L F (andOf part ps) (nrm cs):=by
 have hL:=h.least w
 refine .of w (k.pl.filter _) (nrm_eq (fun c hc=>hL.ok c ((mem_seg (asc_sd hL.asc)).mp (hp.subset hc)).1) hs) fun x=>?_
 rw [Lf_perm hp,seg_lf hL k.ok hi,sp_and k.pl h.pl,←k.lf x]
 exact And.comm
theorem pick_place (w:W7 L F) {p:Int} (hp:0≤p∧p<24):PkW L F (pc L F p) [p] where
 ok:=pc_ok w hp
 pl:=⟨fun q hq=>by rw [List.mem_singleton.mp hq];exact hp,List.pairwise_singleton _ _⟩
 lf x:=by show _↔Lf [pc L F p] x;rw [Lf_cons];exact ⟨.inl,fun z=>z.elim id fun q=>(Lf_nil q).elim⟩
def rg (lo n:Nat):List Int:=(List.range n).map fun i=>((lo+i:Nat):Int)
theorem rg_mem {lo n:Nat} {p:Int}:p∈rg lo n↔(lo:Int)≤p∧p<lo+n:=by
 unfold rg
 rw [List.mem_map]
 constructor
 ·rintro ⟨k,hk,rfl⟩;have:=List.mem_range.mp hk;exact (lin3 (.an (.zl (.c .v0) (.c (.a .v0 .v1))) (.zt (.c (.a .v0 .v1)) (.a (.c .v0) (.c .v2)))) [.lt .v1 .v2]) this
 ·rintro ⟨a,b⟩;exact ⟨p.toNat-lo,List.mem_range.mpr (by exact (lin [_,_,_,_] [_] (.lt .v0 .v3) [.zl (.c .v2) .v0,.zt .v0 (.a (.c .v2) (.c .v3)),.or (.an (.zl .n0 .v0) (.ze (.c .v1) .v0)) (.an (.zt .v0 .n0) (.eq .v1 .n0)),.sb .v0 .v1 .v2]) a b (tnc (p)) (sbc (p.toNat) (lo))),by exact (lin [_,_,_] [_] (.ze (.c (.a .v0 .v1)) .v0) [.zl (.c .v0) .v0,.or (.an (.zl .n0 .v0) (.ze (.c .v2) .v0)) (.an (.zt .v0 .n0) (.eq .v2 .n0)),.sb .v1 .v2 .v0]) a (tnc (p)) (sbc (p.toNat) (lo))⟩
theorem rg_pl {lo n:Nat} (h:lo+n≤24):Pl (rg lo n):=⟨fun p hp=>by have:=rg_mem.mp hp;exact (lin [_,_] [_] (.an (.zl .n0 .v0) (.zt .v0 (.n 24))) [.le (.a .v0 .v1) (.n 24),.an (.zl (.c .v0) .v0) (.zt .v0 (.a (.c .v0) (.c .v1)))]) h this,by unfold rg;exact List.pairwise_map.mpr (List.pairwise_lt_range.imp fun h=>by exact (lin3 (.zt (.c (.a .v0 .v1)) (.c (.a .v0 .v2))) [.lt .v1 .v2]) h)⟩
theorem pick_cell (w:W7 L F) {b:Nat} (hb:b<6):PkW L F (cb L F b) (rg (4*b) 4) where
 ok:=cb_ok w hb
 pl:=rg_pl (by exact (lin1 (.le (.a (.l 4 .v0) .n4) (.n 24)) [.lt .v0 (.n 6)]) hb)
 lf x:=by
  rw [sp_iff (rg_pl (by exact (lin1 (.le (.a (.l 4 .v0) .n4) (.n 24)) [.lt .v0 (.n 6)]) hb)),rg_mem,(cb_lo w b).1,(cb_lo w b).2,rg_in]
  constructor<;>intro h<;>(first | exact (lin4 (.an (.le (.l 4 .v0) .v1) (.an (.zl (.c (.l 4 .v2)) (.c .v3)) (.zt (.c .v3) (.a (.c (.l 4 .v2)) (.c .n4))))) [.an (.le (.a (.l 4 .v0) (.l 4 .v2)) .v1) (.lt .v1 (.a (.a (.l 4 .v0) (.l 4 .v2)) .n4)),.sb .v3 .v1 (.l 4 .v0)]) h (sbc _ _) | exact (lin4 (.an (.le (.a (.l 4 .v0) (.l 4 .v1)) .v2) (.lt .v2 (.a (.a (.l 4 .v0) (.l 4 .v1)) .n4))) [.an (.le (.l 4 .v0) .v2) (.an (.zl (.c (.l 4 .v1)) (.c .v3)) (.zt (.c .v3) (.a (.c (.l 4 .v1)) (.c .n4)))),.sb .v3 .v2 (.l 4 .v0)]) h (sbc _ _))
theorem pick_up (w:W7 L F) (hL:L≠0):PkW L F (up L F) (rg 0 16) where
 ok:=up_ok w hL
 pl:=rg_pl (by decide)
 lf x:=by
  rw [sp_iff (rg_pl (by decide)),rg_mem,(up_lo w hL).1,(up_lo w hL).2,rg_in]
  constructor<;>intro h<;>(first | exact (lin3 (.an (.le (.l 4 .v0) .v1) (.an (.zl (.c .n0) (.c .v2)) (.zt (.c .v2) (.a (.c .n0) (.c (.n 16)))))) [.an (.le (.l 4 .v0) .v1) (.lt .v1 (.a (.l 4 .v0) (.n 16))),.sb .v2 .v1 (.l 4 .v0)]) h (sbc _ _) | exact (lin3 (.an (.le (.l 4 .v0) .v1) (.lt .v1 (.a (.l 4 .v0) (.n 16)))) [.an (.le (.l 4 .v0) .v1) (.an (.zl (.c .n0) (.c .v2)) (.zt (.c .v2) (.a (.c .n0) (.c (.n 16))))),.sb .v2 .v1 (.l 4 .v0)]) h (sbc _ _))
end
def fillOf (ks:List (Cel×List Int)):List Int:=all24.filter fun p=>ks.any fun k=>decide (p∈k.2)
theorem fill_pl (ks:List (Cel×List Int)):Pl (fillOf ks):=Pl.all.filter _
theorem UW.fill {L F:Nat} (w:W7 L F) {ks:List (Cel×List Int)} (hk:∀ k∈ks,PkW L F k.1 k.2) {cs:List Cel} (hp:cs.Perm (ks.map (·.1))) (hs:Sd cs):UW L F (fillOf ks) (nrm cs):=by
 have hok:∀ e∈cs,e.ok:=fun e he=>by obtain ⟨k,hk',rfl⟩:=List.mem_map.mp (hp.subset he);exact (hk k hk').ok
 refine .of w (fill_pl ks) (nrm_eq hok hs) fun x=>?_
 rw [Lf_perm hp,sp_iff (fill_pl ks)]
 constructor
 ·rintro ⟨e,he,a⟩
  obtain ⟨k,hk',rfl⟩:=List.mem_map.mp he
  have z:=(sp_iff (hk k hk').pl).mp (((hk k hk').lf x).mp a)
  exact ⟨z.1,List.mem_filter.mpr ⟨all24_mem.mpr ((hk k hk').pl.rng _ z.2),List.any_eq_true.mpr ⟨k,hk',decide_eq_true z.2⟩⟩⟩
 ·rintro ⟨a,b⟩
  obtain ⟨_,b⟩:=List.mem_filter.mp b
  obtain ⟨k,hk',b⟩:=List.any_eq_true.mp b
  have z:=((hk k hk').lf x).mpr ((sp_iff (hk k hk').pl).mpr ⟨a,of_decide_eq_true b⟩)
  exact ⟨k.1,List.mem_map_of_mem hk',z⟩
theorem UW.start {L F:Nat} (w:W7 L F) {cs:List Cel} (hp:cs.Perm ((List.range 3).map (cb L F))) (hs:Sd cs):UW L F (rg 0 12) (nrm cs):=by
 have hok:∀ e∈cs,e.ok:=fun e he=>by obtain ⟨b,hb,rfl⟩:=List.mem_map.mp (hp.subset he);exact cb_ok w (by have:=List.mem_range.mp hb;exact (lin1 (.lt .v0 (.n 6)) [.lt .v0 .n3]) this)
 refine .of w (rg_pl (by decide)) (nrm_eq hok hs) fun x=>?_
 rw [Lf_perm hp,sp_iff (rg_pl (by decide)),rg_mem]
 constructor
 ·rintro ⟨e,he,a⟩
  obtain ⟨b,hb,rfl⟩:=List.mem_map.mp he
  rw [(cb_lo w b).1,(cb_lo w b).2,rg_in] at a
  have:=List.mem_range.mp hb
  exact (lin4 (.an (.le (.l 4 .v0) .v1) (.an (.zl (.c .n0) (.c .v2)) (.zt (.c .v2) (.a (.c .n0) (.c (.n 12)))))) [.an (.le (.a (.l 4 .v0) (.l 4 .v3)) .v1) (.lt .v1 (.a (.a (.l 4 .v0) (.l 4 .v3)) .n4)),.lt .v3 .n3,.sb .v2 .v1 (.l 4 .v0)]) a this (sbc _ _)
 ·rintro ⟨a,b,c⟩
  refine ⟨cb L F ((x / 4^(29-L)-4*F) / 4),List.mem_map_of_mem (List.mem_range.mpr (by exact (lin4 (.lt .v0 .n3) [.zt (.c .v1) (.a (.c .n0) (.c (.n 12))),.sb .v1 .v2 (.l 4 .v3),.dv 4 .v0 .v1]) c (sbc _ _) (dvc 4 (by decide) _))),?_⟩
  rw [(cb_lo w _).1,(cb_lo w _).2,rg_in]
  exact (lin4 (.an (.le (.a (.l 4 .v0) (.l 4 .v1)) .v3) (.lt .v3 (.a (.a (.l 4 .v0) (.l 4 .v1)) .n4))) [.le (.l 4 .v0) .v3,.sb .v2 .v3 (.l 4 .v0),.dv 4 .v1 .v2]) a (sbc (x / 4^(29-L)) (4*F)) (dvc 4 (by decide) (x / 4^(29-L)-4*F))
theorem upto_len (n:Nat):(upto n).length=n:=by unfold upto;rw [List.length_map,List.length_range]
theorem cel_at {cs:List Cel} {i:Nat} {x:AV} (h:(cellsV cs)[i]?=some x):∃ c,cs[i]?=some c∧x=.cell c.id:=by
 unfold cellsV at h
 rw [List.getElem?_map] at h
 obtain ⟨c,hc,rfl⟩:=Option.map_eq_some_iff.mp h
 exact ⟨c,hc,rfl⟩
theorem two_four (lv:Nat) (h:lv≤30) (u:Nat) (e:lv=30-u) (hu:u≤30):(2:Int)^Int.toNat (60-2*(lv:Int))=((4^u:Nat):Int):=by
 rw [show Int.toNat (60-2*(lv:Int))=2*u by exact (lin4 (.eq .v0 (.l 2 .v2)) [.eq .v1 .v3,.le .v2 (.n 30),.or (.an (.zl .n0 (.s (.n 60) (.l 2 (.c .v1)))) (.ze (.c .v0) (.s (.n 60) (.l 2 (.c .v1))))) (.an (.zt (.s (.n 60) (.l 2 (.c .v1))) .n0) (.eq .v0 .n0)),.sb .v3 (.n 30) .v2]) e hu (tnc _) (sbc _ _),four_pow]
 push_cast
 rfl
theorem p_small {e:Cel} (h:e.ok):(e.p:Int)<2^63:=by
 have h1:4^(30-e.u)≤4^30:=Nat.pow_le_pow_right (by decide) (by exact (lin2 (.le .v0 (.n 30)) [.sb .v0 (.n 30) .v1]) (sbc _ _))
 have h2:=h.2
 have h3:(4:Nat)^30=1152921504606846976:=rfl
 omega
theorem lawid_c {c:Cx} {Q:AV→AX→Prop} {X:AX} {e:Cel} {lv n:Int} (L:Lw c) (G:Gd c.A 1) (he:e.ok) (hl:lv=30-(e.u:Int)) (hn:n=(e.p:Int)) (h:Q (.int e.id) X):WF c (.ref 601) [.int lv,.int n] [] Q X:=by
 (have _:PySem.Challenge.rw_lp0003_07=PySem.Challenge.rw_lp0003_07→∀ w:World,(hd7.heap_1 w.params).In default→True:=by (k_fill;intros;trivial))
 have L₀:=L
 obtain ⟨P,w,K,g,A,env,own,E,fx⟩:=c
 obtain ⟨hP,hK,hC,hN⟩:=L
 dsimp only at hP hK hC hN G
 subst hP hK
 refine' WF.go (M:=[((Str.ofString "level"),.int lv),((Str.ofString "number"),.int n)]) G ?k1 ?k2 ?k3 ?k4 ?k5 ?k6 ?k7 ?k8 ?_
 case k1=>(dsimp only;k_is)
 case k2=>(dsimp only;k_is)
 case k3=>exact bind2 fun s v u X=>.of_eq rfl
 case k4=>rfl
 case k5=>decide
 case k6=>rfl
 case k7=>rfl
 case k8=>rfl
 intro F c' kn he ho ok G'
 have L':=L₀.kin kn
 obtain ⟨P',w',K',g',A',env',own',E',fx'⟩:=c'
 obtain ⟨f1,f2,f3,f4,f5⟩:=kn
 dsimp only at f1 f2 f3 f4 f5 he ho G'
 subst f1 f2 f3 f4 f5 he ho
 clear L₀
 simp only [List.reverse_cons,List.reverse_nil,List.nil_append,List.cons_append]
 have hp:=p_small he
 have hu:=he.1
 have h0:(0:Int)≤60-2*lv:=by exact (lin [_] [_] (.zl .n0 (.s (.n 60) (.l 2 .v0))) [.ze .v0 (.s (.n 30) (.c .v0))]) hl
 have h1:(60:Int)-2*lv≤1000000:=by exact (lin [_] [_] (.zl (.s (.n 60) (.l 2 .v0)) (.n 1000000)) [.ze .v0 (.s (.n 30) (.c .v0)),.le .v0 (.n 30)]) hl hu
 have h2:(2*n+1).natAbs<2^64:=by exact (lin [_,_] [_] (.lt .v0 (.n (2^64))) [.ze .v0 (.c .v1),.zt (.c .v1) (.n (2^63)),.or (.an (.zl .n0 (.a (.l 2 .v0) .n1)) (.ze (.c .v0) (.a (.l 2 .v0) .n1))) (.an (.zt (.a (.l 2 .v0) .n1) .n0) (.ze (.c .v0) (.g (.a (.l 2 .v0) .n1))))]) hn hp (nac _)
 (refine S_last ?_;refine S_return ?_;refine E_bin ?_;refine E_bin ?_;refine E_bin ?_;refine E_int ?_;(refine E_name (by exact rfl) ?_);refine O_mul (by exact lin [] [_] (.or (.an (.zt (.g (.n (2^64))) .n2) (.zt .n2 (.n (2^64)))) (.an (.zt (.g (.n (2^64))) .v0) (.zt .v0 (.n (2^64))))) []) ?_;refine E_int ?_;refine O_add ?_;refine E_bin ?_;refine E_int ?_;refine E_bin ?_;refine E_int ?_;(refine E_name (by exact rfl) ?_);refine O_mul (by exact lin [] [_] (.or (.an (.zt (.g (.n (2^64))) .n2) (.zt .n2 (.n (2^64)))) (.an (.zt (.g (.n (2^64))) .v0) (.zt .v0 (.n (2^64))))) []) ?_;refine O_sub ?_;refine O_shl (by with_reducible assumption) (by with_reducible assumption) (by with_reducible assumption) ?_;dsimp only)
 have e1:(2:Int)^Int.toNat (60-2*lv)=((4^e.u:Nat):Int):=by
  rw [show lv=((30-e.u:Nat):Int) by exact (lin [_,_] [_] (.ze .v0 (.c .v0)) [.ze .v0 (.s (.n 30) (.c .v1)),.le .v1 (.n 30),.sb .v0 (.n 30) .v1]) hl hu (sbc _ _)]
  exact two_four _ (by exact (lin2 (.le .v0 (.n 30)) [.sb .v0 (.n 30) .v1]) (sbc _ _)) _ rfl hu
 rw [e1,hn]
 exact retI h (by show (((2*e.p+1)*4^e.u:Nat):Int)=_;push_cast;rfl)
theorem pick_c {c:Cx} {Q:AV→AX→Prop} {X:AX} {lv fi:Nat} {n:Int} (L:Lw c) (G:Gd c.A 3) (hw:W7 lv fi) (h:∀ e part,PkW lv fi e part→Q (.tup [.int e.id,.ints part]) X):WF c (.ref 608) [.int (lv:Nat),.int (fi:Nat),.int n] [] Q X:=by
 (have _:PySem.Challenge.rw_lp0003_07=PySem.Challenge.rw_lp0003_07→∀ w:World,(hd7.heap_1 w.params).In default→True:=by (k_fill;intros;trivial))
 have L₀:=L
 obtain ⟨P,w,K,g,A,env,own,E,fx⟩:=c
 obtain ⟨hP,hK,hC,hN⟩:=L
 dsimp only at hP hK hC hN G
 subst hP hK
 refine' WF.go (M:=[((Str.ofString "level"),.int (lv:Nat)),((Str.ofString "first"),.int (fi:Nat)),((Str.ofString "number"),.int n)]) G ?k1 ?k2 ?k3 ?k4 ?k5 ?k6 ?k7 ?k8 ?_
 case k1=>(dsimp only;k_is)
 case k2=>(dsimp only;k_is)
 case k3=>exact bind3 fun s v u w X=>.of_eq rfl
 case k4=>rfl
 case k5=>decide
 case k6=>rfl
 case k7=>rfl
 case k8=>rfl
 intro F c' kn he ho ok G'
 have L':=L₀.kin kn
 obtain ⟨P',w',K',g',A',env',own',E',fx'⟩:=c'
 obtain ⟨f1,f2,f3,f4,f5⟩:=kn
 dsimp only at f1 f2 f3 f4 f5 he ho G'
 subst f1 f2 f3 f4 f5 he ho
 clear L₀
 simp only [List.reverse_cons,List.reverse_nil,List.nil_append,List.cons_append]
 have hlev:=hw.lev
 have h31:0≤n.fmod 31∧n.fmod 31<31:=by
  rw [Int.fmod_eq_emod_of_nonneg _ (by decide)]
  exact ⟨Int.emod_nonneg _ (by decide),Int.emod_lt_of_pos _ (by decide)⟩
 (refine S_cons ?_;refine S_assign (by exact .inl ⟨rfl,.head _⟩) ?_;refine E_bin ?_;(refine E_name (by exact rfl) ?_);refine E_int ?_;refine O_mod (by decide) ?_;dsimp only;refine Then_next ?_;refine S_cons ?_;refine S_if ?_;refine T_cmp ?_;(refine E_name (by exact rfl) ?_);refine E_int ?_;refine O_lt ?_;refine Tr_bool ?_)
 generalize n.fmod 31=pk at h31
 by_cases c1:pk<24
 ·rw [if_pos (decide_eq_true c1)]
  have hk:=pick_place hw (p:=pk) ⟨h31.1,c1⟩
  (refine S_last ?_;refine S_return ?_;refine E_tup ?_;refine A_cons ?_;refine E_call ?_;dsimp only;(refine' E_global ?hk5 ?e5 ?_;(case hk5=>exact rfl);(case e5=>dsimp only;k_is));(refine' C_raw (keeper_fn ?a6) ?_;(case a6=>dsimp only;k_is));refine Args_plain ?_;refine A_cons ?_;refine E_bin ?_;(refine E_name (by exact rfl) ?_);refine E_int ?_;refine O_add ?_;refine A_cons ?_;refine E_bin ?_;refine E_bin ?_;refine E_int ?_;(refine E_name (by exact rfl) ?_);refine O_mul (by exact lin1 (.or (.an (.zt (.g (.n (2^64))) .n4) (.zt .n4 (.n (2^64)))) (.an (.zt (.g (.n (2^64))) (.c .v0)) (.zt (.c .v0) (.n (2^64))))) []) ?_;(refine E_name (by exact rfl) ?_);refine O_add ?_;refine A_nil ?_)
  refine WC.of (lawid_c (e:=pc lv fi pk) (by (with_reducible assumption)) (by (exact Gd.le (by with_reducible assumption) rfl)) ?_ ?_ ?_ ?_)
  ·exact hk.ok
  ·show _=30-((29-lv:Nat):Int);exact (lin2 (.ze (.a (.c .v0) .n1) (.s (.n 30) (.c .v1))) [.le .v0 (.n 29),.sb .v1 (.n 29) .v0]) hlev (sbc _ _)
  ·show _=((4*fi+pk.toNat:Nat):Int);exact (lin [_,_] [_] (.ze (.a (.l 4 (.c .v0)) .v0) (.c (.a (.l 4 .v0) .v1))) [.an (.zl .n0 .v0) (.zt .v0 (.n 31)),.or (.an (.zl .n0 .v0) (.ze (.c .v1) .v0)) (.an (.zt .v0 .n0) (.eq .v1 .n0))]) h31 (tnc _)
  (refine A_cons ?_)
  refine E_list ?_
  (refine A_cons ?_;(refine E_name (by exact rfl) ?_);refine A_nil ?_;refine And.intro (Nat.le_of_ble_eq_true rfl) ?_;refine A_nil ?_;refine And.intro (Nat.le_of_ble_eq_true rfl) ?_;refine Then_ret ?_;dsimp only)
  exact h _ _ hk
 rw [if_neg (by rw [decide_eq_false c1];decide)]
 refine S_nil ?_
 refine Then_next ?_
 refine S_cons ?_
 refine WT.imp (Q:=fun F Y=>Y=⟨X.σ,[((Str.ofString "pick"),.int pk),((Str.ofString "number"),.int n),((Str.ofString "first"),.int (fi:Nat)),((Str.ofString "level"),.int (lv:Nat))]⟩∧(F=AF.next∨∃ e part,PkW lv fi e part∧F=AF.ret (.tup [.int e.id,.ints part]))) ?w1 ?w2
 case w1 =>
  (refine S_if ?_;refine T_and ?_;refine T_cmp ?_;(refine E_name (by exact rfl) ?_);refine E_int ?_;refine O_eq ?_;refine Tr_bool ?_)
  by_cases q:pk=30
  ·rw [if_pos (decide_eq_true q)]
   (refine T_and ?_;refine T_cmp ?_;(refine E_name (by exact rfl) ?_);refine E_int ?_;refine O_gt ?_;refine Tr_bool ?_)
   by_cases q2:(0:Int)<(lv:Int)
   ·rw [if_pos (decide_eq_true q2)]
    have hk:=pick_up hw (by exact (lin1 (.no (.eq .v0 .n0)) [.zt .n0 (.c .v0)]) q2)
    (refine T_and_nil ?_;rw [if_pos rfl];refine S_last ?_;refine S_return ?_;refine E_tup ?_;refine A_cons ?_;refine E_call ?_;dsimp only;(refine' E_global ?hk13 ?e13 ?_;(case hk13=>exact rfl);(case e13=>dsimp only;k_is));(refine' C_raw (keeper_fn ?a14) ?_;(case a14=>dsimp only;k_is));refine Args_plain ?_;refine A_cons ?_;refine E_bin ?_;(refine E_name (by exact rfl) ?_);refine E_int ?_;refine O_sub ?_;refine A_cons ?_;refine E_bin ?_;(refine E_name (by exact rfl) ?_);refine E_int ?_;refine O_div (by decide) (by decide) ?_;refine A_nil ?_)
    refine WC.of (lawid_c (e:=up lv fi) (by (with_reducible assumption)) (by (exact Gd.le (by with_reducible assumption) rfl)) ?_ ?_ ?_ ?_)
    ·exact hk.ok
    ·show _=30-((31-lv:Nat):Int);exact (lin2 (.ze (.s (.c .v0) .n1) (.s (.n 30) (.c .v1))) [.le .v0 (.n 29),.sb .v1 (.n 31) .v0]) hlev (sbc _ _)
    ·show _=((fi / 4:Nat):Int);rw [Int.fdiv_eq_ediv_of_nonneg _ (by decide)];exact (lin [_,_] [_] (.ze .v0 (.c .v1)) [.an (.zl (.l 4 .v0) (.c .v0)) (.zt (.c .v0) (.a (.l 4 .v0) .n4)),.dv 4 .v1 .v0]) (zdc 4 (by decide) _) (dvc 4 (by decide) _)
    (refine A_cons ?_;refine E_call ?_;dsimp only;(refine' E_builtin (v:=.type ?id17) ?hk17 ?e17 ?hv17 ?hn17 ?_;(case hk17=>exact rfl);(case e17=>dsimp only;k_is);(case hv17=>exact rfl);(case hn17=>decide));refine C_raw keeper_type ?_;refine Args_plain ?_;refine A_cons ?_;refine E_call ?_;dsimp only;(refine' E_builtin (v:=.type ?id18) ?hk18 ?e18 ?hv18 ?hn18 ?_;(case hk18=>exact rfl);(case e18=>dsimp only;k_is);(case hv18=>exact rfl);(case hn18=>decide));refine C_raw keeper_type ?_;refine Args_plain ?_;refine A_cons ?_;refine E_int ?_;refine A_nil ?_;refine B_range ?_;refine A_nil ?_)
    refine B_listRng (by decide) (by decide) ?_
    (refine A_nil ?_;refine And.intro (Nat.le_of_ble_eq_true rfl) ?_)
    exact ⟨rfl,.inr ⟨_,_,hk,rfl⟩⟩
   ·rw [if_neg (by rw [decide_eq_false q2];decide)]
    (rw [if_neg (by decide)];refine S_nil ?_)
    exact ⟨rfl,.inl rfl⟩
  ·rw [if_neg (by rw [decide_eq_false q];decide)]
   (rw [if_neg (by decide)];refine S_nil ?_)
   exact ⟨rfl,.inl rfl⟩
 rintro F Y ⟨rfl,rfl | ⟨e,part,hk,rfl⟩⟩
 ·refine Then_next ?_
  have h6:0≤pk.fmod 6∧pk.fmod 6<6:=by
   rw [Int.fmod_eq_emod_of_nonneg _ (by decide)]
   exact ⟨Int.emod_nonneg _ (by decide),Int.emod_lt_of_pos _ (by decide)⟩
  (refine S_cons ?_;refine S_assign (by exact .inl ⟨rfl,.head _⟩) ?_;refine E_bin ?_;(refine E_name (by exact rfl) ?_);refine E_int ?_;refine O_mod (by decide) ?_;dsimp only;refine Then_next ?_;refine S_last ?_;refine S_return ?_;refine E_tup ?_;refine A_cons ?_;refine E_call ?_;dsimp only;(refine' E_global ?hk20 ?e20 ?_;(case hk20=>exact rfl);(case e20=>dsimp only;k_is));(refine' C_raw (keeper_fn ?a21) ?_;(case a21=>dsimp only;k_is));refine Args_plain ?_;refine A_cons ?_;(refine E_name (by exact rfl) ?_);refine A_cons ?_;refine E_bin ?_;(refine E_name (by exact rfl) ?_);(refine E_name (by exact rfl) ?_);refine O_add ?_;refine A_nil ?_)
  generalize pk.fmod 6=b at h6
  have hk:=pick_cell hw (b:=b.toNat) (by exact (lin [_] [_] (.lt .v0 (.n 6)) [.an (.zl .n0 .v0) (.zt .v0 (.n 6)),.or (.an (.zl .n0 .v0) (.ze (.c .v0) .v0)) (.an (.zt .v0 .n0) (.eq .v0 .n0))]) h6 (tnc _))
  refine WC.of (lawid_c (e:=cb lv fi b.toNat) (by (with_reducible assumption)) (by (exact Gd.le (by with_reducible assumption) rfl)) ?_ ?_ ?_ ?_)
  ·exact hk.ok
  ·show _=30-((30-lv:Nat):Int);exact (lin2 (.ze (.c .v0) (.s (.n 30) (.c .v1))) [.le .v0 (.n 29),.sb .v1 (.n 30) .v0]) hlev (sbc _ _)
  ·show _=((fi+b.toNat:Nat):Int);exact (lin [_,_] [_] (.ze (.a (.c .v0) .v0) (.c (.a .v0 .v1))) [.an (.zl .n0 .v0) (.zt .v0 (.n 6)),.or (.an (.zl .n0 .v0) (.ze (.c .v1) .v0)) (.an (.zt .v0 .n0) (.eq .v1 .n0))]) h6 (tnc _)
  (refine A_cons ?_)
  refine E_list ?_
  (refine A_cons ?_;refine E_bin ?_;refine E_int ?_;(refine E_name (by exact rfl) ?_);refine O_mul (by exact lin [] [_] (.or (.an (.zt (.g (.n (2^64))) .n4) (.zt .n4 (.n (2^64)))) (.an (.zt (.g (.n (2^64))) .v0) (.zt .v0 (.n (2^64))))) []) ?_;refine A_cons ?_;refine E_bin ?_;refine E_bin ?_;refine E_int ?_;(refine E_name (by exact rfl) ?_);refine O_mul (by exact lin [] [_] (.or (.an (.zt (.g (.n (2^64))) .n4) (.zt .n4 (.n (2^64)))) (.an (.zt (.g (.n (2^64))) .v0) (.zt .v0 (.n (2^64))))) []) ?_;refine E_int ?_;refine O_add ?_;refine A_cons ?_;refine E_bin ?_;refine E_bin ?_;refine E_int ?_;(refine E_name (by exact rfl) ?_);refine O_mul (by exact lin [] [_] (.or (.an (.zt (.g (.n (2^64))) .n4) (.zt .n4 (.n (2^64)))) (.an (.zt (.g (.n (2^64))) .v0) (.zt .v0 (.n (2^64))))) []) ?_;refine E_int ?_;refine O_add ?_;refine A_cons ?_;refine E_bin ?_;refine E_bin ?_;refine E_int ?_;(refine E_name (by exact rfl) ?_);refine O_mul (by exact lin [] [_] (.or (.an (.zt (.g (.n (2^64))) .n4) (.zt .n4 (.n (2^64)))) (.an (.zt (.g (.n (2^64))) .v0) (.zt .v0 (.n (2^64))))) []) ?_;refine E_int ?_;refine O_add ?_;refine A_nil ?_;refine And.intro (Nat.le_of_ble_eq_true rfl) ?_;refine A_nil ?_;dsimp only;refine And.intro (Nat.le_of_ble_eq_true rfl) ?_)
  have e4:rg (4*b.toNat) 4=[4*b,4*b+1,4*b+2,4*b+3]:=by
   have:4*b=((4*b.toNat:Nat):Int):=by exact (lin [_] [_] (.ze (.l 4 .v0) (.c (.l 4 .v0))) [.an (.zl .n0 .v0) (.zt .v0 (.n 6)),.or (.an (.zl .n0 .v0) (.ze (.c .v0) .v0)) (.an (.zt .v0 .n0) (.eq .v0 .n0))]) h6 (tnc _)
   rw [this]
   rfl
  rw [e4] at hk
  exact h _ _ hk
 ·exact h _ _ hk
abbrev idA (c:Cel):AV:=.int c.id
def fI (q:Int→Bool):AV→Option AV
 | .int p=>if q p=true then some (.int p) else Option.none
 | _=>Option.none
theorem fI_yes {q:Int→Bool} {p:Int} (h:q p=true):fI q (.int p)=some (.int p):=if_pos h
theorem fI_no {q:Int→Bool} {p:Int} (h:q p=false):fI q (.int p)=Option.none:=if_neg (by rw [h];decide)
theorem fI_ints (q:Int→Bool):∀ ps:List Int,(ps.map AV.int).filterMap (fI q)=(ps.filter q).map AV.int
 | []=>rfl
 | p::r=>by
  rw [List.map_cons,List.filterMap_cons,List.filter_cons]
  cases hq:q p with
  | true=>rw [fI_yes hq,if_pos rfl,List.map_cons,fI_ints q r]
  | false=>rw [fI_no hq,if_neg (by decide),fI_ints q r]
theorem fI_len {q:Int→Bool} {ps:List Int} (h:ps.length≤24):((ps.filter q).map AV.int).length≤24:=by
 rw [List.length_map];exact Nat.le_trans (List.length_filter_le _ _) h
theorem ints_at {ns:List Int} {i:Nat} {x:AV} (h:(ns.map AV.int)[i]?=some x):∃ n,ns[i]?=some n∧x=.int n:=by
 rw [List.getElem?_map] at h
 obtain ⟨p,h1,h2⟩:=Option.map_eq_some_iff.mp h
 exact ⟨p,h1,h2.symm⟩
theorem blocks_succ (L F:Nat) (ps:List Int) (b0 k:Nat):blocks L F ps b0 (k+1)=blocks L F ps b0 k++blockOf L F ps (b0+k):=by
 unfold blocks;rw [List.range_succ,List.flatMap_append,List.flatMap_singleton]
theorem least7_c {c:Cx} {Q:AV→AX→Prop} {X:AX} {lv fi:Nat} {ps:List Int} (L:Lw c) (G:Gd c.A 3) (hw:W7 lv fi) (hp:Pl ps) (h:Q (.ints ((leastW lv fi ps).map Cel.id)) X):WF c (.ref 613) [.int (lv:Nat),.int (fi:Nat),.ints ps] [] Q X:=by
 (have _:PySem.Challenge.rw_lp0003_07=PySem.Challenge.rw_lp0003_07→∀ w:World,(hd7.heap_1 w.params).In default→True:=by (k_fill;intros;trivial))
 have L₀:=L
 obtain ⟨P,w,K,g,A,env,own,E,fx⟩:=c
 obtain ⟨hP,hK,hC,hN⟩:=L
 dsimp only at hP hK hC hN G
 subst hP hK
 refine WF.conv ?_
 refine' WF.go (M:=[((Str.ofString "level"),.int (lv:Nat)),((Str.ofString "first"),.int (fi:Nat)),((Str.ofString "places"),.ints ps)]) G ?k1 ?k2 ?k3 ?k4 ?k5 ?k6 ?k7 ?k8 ?_
 case k1=>(dsimp only;k_is)
 case k2=>(dsimp only;k_is)
 case k3=>exact bind3 fun s v u w X=>.of_eq rfl
 case k4=>rfl
 case k5=>decide
 case k6=>rfl
 case k7=>rfl
 case k8=>rfl
 intro F c' kn he ho ok G'
 have L':=L₀.kin kn
 obtain ⟨P',w',K',g',A',env',own',E',fx'⟩:=c'
 obtain ⟨f1,f2,f3,f4,f5⟩:=kn
 dsimp only at f1 f2 f3 f4 f5 he ho G'
 subst f1 f2 f3 f4 f5 he ho
 clear L₀
 simp only [List.reverse_cons,List.reverse_nil,List.nil_append,List.cons_append]
 have hlev:=hw.lev
 have hpl:ps.length≤24:=asc_len 24 0 ps hp.asc fun x hx=>by have:=hp.rng x hx;exact (lin [] [_] (.an (.zl .n0 .v0) (.zt .v0 (.a .n0 (.c (.n 24))))) [.an (.zl .n0 .v0) (.zt .v0 (.n 24))]) this
 (refine S_cons ?_;refine S_assign (by exact .inl ⟨rfl,.head _⟩) ?_)
 refine E_listM (A_nil ⟨by decide,fun o=>?_⟩)
 refine Then_next ?_
 refine S_cons ?_
 refine S_assign (by (exact .inr ⟨rfl,_,rfl,by first | exact .tail _ (.head _) | exact .tail _ (.tail _ (.head _))⟩)) ?_
 refine E_int ?_
 refine Then_next ?_
 refine S_cons ?_
 refine WT.imp (Q:=fun F Y=>F=AF.next∧∃ (b0 nn:Nat) (pre:List Cel),b0+nn=6∧leastW lv fi ps=pre++blocks lv fi ps b0 nn∧pre.length≤1∧∃ mm,Y=⟨(o,.lst (pre.map idA))::X.σ,mm⟩∧mm.lookup (Str.ofString "base")=some (.int ((b0:Nat):Int))∧mm.lookup (Str.ofString "told")=some (.raw (.ref o))∧mm.lookup (Str.ofString "places")=some (.ints ps)∧mm.lookup (Str.ofString "first")=some (.int (fi:Nat))∧mm.lookup (Str.ofString "level")=some (.int (lv:Nat))) ?w1 ?w2
 case w1 =>
  have no:¬AllLow lv ps→leastW lv fi ps=[]++blocks lv fi ps 0 6:=fun z=>if_neg z
  have yes:AllLow lv ps→leastW lv fi ps=[up lv fi]++blocks lv fi ps 4 2:=fun z=>if_pos z
  (refine S_if ?_;dsimp only;refine T_and ?_;refine T_cmp ?_;(refine E_name (by exact rfl) ?_);refine E_int ?_;refine O_gt ?_;refine Tr_bool ?_)
  by_cases q:(0:Int)<(lv:Int)
  ·rw [if_pos (decide_eq_true q)]
   (refine T_and ?_;refine T_cmp ?_;refine E_call ?_;dsimp only;(refine' E_builtin (v:=.builtin ?id30) ?hk30 ?e30 ?hv30 ?hn30 ?_;(case hk30=>exact rfl);(case e30=>dsimp only;k_is);(case hv30=>exact rfl);(case hn30=>decide));dsimp only;refine C_raw keeper_builtin ?_;refine Args_plain ?_;refine A_cons ?_)
   refine' E_filt (X₁:=⟨(o,.lst [])::X.σ,[((Str.ofString "base"),.int (0)),((Str.ofString "told"),.raw (.ref o)),((Str.ofString "places"),.ints ps),((Str.ofString "first"),.int (fi:Nat)),((Str.ofString "level"),.int (lv:Nat))]⟩) (xs:=ps.map .int) (fI fun p=>decide (p<16)) [] ?i1 ?z1 ?m1 ?ifs1 ?item1 ?q1 ?free1 ?cell1 ?kind1 ?names1 ?as1 ?f1
   case free1=>exact freeOk rfl
   case cell1=>decide
   case kind1=>rfl
   case names1=>decide
   case as1=>rfl
   case f1=>intro x;rfl
   case ifs1=>rfl
   case m1=>exact fun p h=>nomatch h
   case i1 =>
    ((refine E_name (by exact rfl) ?_);dsimp only)
    exact I_lst ⟨rfl,rfl,rfl⟩
   case z1=>rw [List.length_map];exact (lin1 (.le .v0 (.n 1000000)) [.le .v0 (.n 24)]) hpl
   case item1 =>
    intro Ca Da i x okC hx
    obtain ⟨p,hp,rfl⟩:=ints_at hx
    dsimp only [Cx.block]
    (refine A_name (by exact .inl ⟨rfl,.head _⟩) ?_;dsimp only;refine T_cmp ?_;(refine E_name (by exact rfl) ?_);refine E_int ?_;refine O_lt ?_;refine Tr_bool ?_;dsimp only)
    by_cases q:p<16
    ·rw [decide_eq_true q]
     refine ⟨by rw [fI_yes (decide_eq_true q)];rfl,?_⟩
     rw [if_pos rfl]
     ((refine E_name (by exact rfl) ?_);dsimp only)
     exact ⟨fI_yes (decide_eq_true q),rfl,fun p h=>nomatch h⟩
    ·rw [decide_eq_false q]
     refine ⟨by rw [fI_no (decide_eq_false q)];rfl,?_⟩
     rw [if_neg (by decide)]
     exact ⟨rfl,fun p h=>nomatch h⟩
   (refine A_nil ?_)
   rw [fI_ints,show ps.filter (fun p=>decide (p<16))=lowOf ps from rfl]
   have hlf:((lowOf ps).map AV.int).length≤24:=fI_len hpl
   (refine B_len_lst (by exact (lin1 (.lt .v0 (.n (2^62))) [.le .v0 (.n 24)]) hlf) ?_;refine E_int ?_;refine O_eq ?_;refine Tr_bool ?_)
   rw [List.length_map]
   by_cases q2:(((lowOf ps).length:Nat):Int)=16
   ·rw [if_pos (decide_eq_true q2)]
    have ha:AllLow lv ps:=⟨by exact (lin1 (.no (.eq .v0 .n0)) [.zt .n0 (.c .v0)]) q,by exact (lin1 (.eq .v0 (.n 16)) [.ze (.c .v0) (.n 16)]) q2⟩
    have hk:=pick_up hw ha.1
    (refine T_and_nil ?_;rw [if_pos rfl];refine S_cons ?_;refine S_expr ?_;refine E_meth ?_;dsimp only;(refine E_name (by exact rfl) ?_);refine M_list (by exact List.Mem.head _) PySem.F.slot_list_append PySem.F.type_list_append ?_;refine Args_plain ?_;refine A_cons ?_;refine E_call ?_;dsimp only;(refine' E_global ?hk35 ?e35 ?_;(case hk35=>exact rfl);(case e35=>dsimp only;k_is));(refine' C_raw (keeper_fn ?a36) ?_;(case a36=>dsimp only;k_is));refine Args_plain ?_;refine A_cons ?_;refine E_bin ?_;(refine E_name (by exact rfl) ?_);refine E_int ?_;refine O_sub ?_;refine A_cons ?_;refine E_bin ?_;(refine E_name (by exact rfl) ?_);refine E_int ?_;refine O_div (by decide) (by decide) ?_;refine A_nil ?_)
    refine WC.of (lawid_c (e:=up lv fi) (by (with_reducible assumption)) (by (exact Gd.le (by with_reducible assumption) rfl)) ?_ ?_ ?_ ?_)
    ·exact hk.ok
    ·show _=30-((31-lv:Nat):Int);exact (lin2 (.ze (.s (.c .v0) .n1) (.s (.n 30) (.c .v1))) [.le .v0 (.n 29),.sb .v1 (.n 31) .v0]) hlev (sbc _ _)
    ·show _=((fi / 4:Nat):Int);rw [Int.fdiv_eq_ediv_of_nonneg _ (by decide)];exact (lin [_,_] [_] (.ze .v0 (.c .v1)) [.an (.zl (.l 4 .v0) (.c .v0)) (.zt (.c .v0) (.a (.l 4 .v0) .n4)),.dv 4 .v1 .v0]) (zdc 4 (by decide) _) (dvc 4 (by decide) _)
    (refine A_nil ?_;refine B_append (by exact SUpd.head) (by simp only [cellsV,List.length_map,List.length_reverse,List.length_cons,List.length_append,List.length_nil];decide) ?_;dsimp only;refine Then_next ?_;refine S_last ?_;refine S_assign (by exact .inr ⟨rfl,_,rfl,by first | exact .tail _ (.head _) | exact .tail _ (.tail _ (.head _))⟩) ?_;refine E_int ?_;dsimp only)
    exact ⟨rfl,4,2,[up lv fi],rfl,yes ha,Nat.le_refl 1,_,rfl,rfl,rfl,rfl,rfl,rfl⟩
   ·rw [if_neg (by rw [decide_eq_false q2];decide)]
    (rw [if_neg (by decide)];refine S_nil ?_)
    exact ⟨rfl,0,6,[],rfl,no (fun z=>q2 (by rw [z.2];rfl)),Nat.zero_le 1,_,rfl,rfl,rfl,rfl,rfl,rfl⟩
  ·rw [if_neg (by rw [decide_eq_false q];decide)]
   (rw [if_neg (by decide)];refine S_nil ?_)
   exact ⟨rfl,0,6,[],rfl,no (fun z=>q (by have:=z.1;exact (lin1 (.zt .n0 (.c .v0)) [.no (.eq .v0 .n0)]) this)),Nat.zero_le 1,_,rfl,rfl,rfl,rfl,rfl,rfl⟩
 rintro F Y ⟨rfl,b0,nn,pre,hb6,hlw,hpre,mm,rfl,e1,e2,e3,e4,e5⟩
 refine Then_next ?_
 refine WT.pre (Conv.names [((Str.ofString "base"),.int ((b0:Nat):Int)),((Str.ofString "told"),.raw (.ref o)),((Str.ofString "places"),.ints ps),((Str.ofString "first"),.int (fi:Nat)),((Str.ofString "level"),.int (lv:Nat))] (by
  intro p hp
  simp only [List.mem_cons,List.not_mem_nil,or_false] at hp
  rcases hp with rfl | rfl | rfl | rfl | rfl<;>assumption)) ?_
 clear e1 e2 e3 e4 e5
 dsimp only
 refine S_cons ?_
 refine WT.imp (Q:=fun F Y=>F=AF.next∧∃ a,∃ mm,Y=⟨(a,.lst ((leastW lv fi ps).map idA))::X.σ,mm⟩∧mm.lookup (Str.ofString "told")=some (.raw (.ref a))) ?w3 ?w4
 case w4 =>
  rintro F Y ⟨rfl,a,mm,rfl,e1⟩
  refine Then_next ?_
  refine WT.pre (Conv.names [(Str.ofString "told", .raw (.ref a))] (by intro p hp;rw [List.mem_singleton.mp hp];exact e1)) ?_
  dsimp only
  (refine S_last ?_;refine S_return ?_;(refine E_name (by exact rfl) ?_);dsimp only)
  have eI:AV.ints ((leastW lv fi ps).map Cel.id)=.lst ((leastW lv fi ps).map idA):=by show AV.lst _=_;rw [List.map_map];rfl
  rw [eI] at h
  exact ⟨_,_,ConvV.freeze (m':=X.m) .head rfl .here (fun x V e=>⟨V,e,.same V⟩),h⟩
 case w3 =>
  refine S_while (fun n Y=>∃ (k:Nat) (a:Addr),n=nn-k∧k≤nn∧Y=⟨(a,.lst ((pre++blocks lv fi ps b0 k).map idA))::X.σ,[((Str.ofString "base"),.int ((b0+k:Nat):Int)),((Str.ofString "told"),.raw (.ref a)),((Str.ofString "places"),.ints ps),((Str.ofString "first"),.int (fi:Nat)),((Str.ofString "level"),.int (lv:Nat))]⟩) nn ⟨⟨(o,.lst ((pre++blocks lv fi ps b0 0).map idA))::X.σ,[((Str.ofString "base"),.int ((b0+0:Nat):Int)),((Str.ofString "told"),.raw (.ref o)),((Str.ofString "places"),.ints ps),((Str.ofString "first"),.int (fi:Nat)),((Str.ofString "level"),.int (lv:Nat))]⟩,by rw [show pre++blocks lv fi ps b0 0=pre from List.append_nil pre];exact Conv.names [((Str.ofString "base"),.int ((b0+0:Nat):Int)),((Str.ofString "told"),.raw (.ref o)),((Str.ofString "places"),.ints ps),((Str.ofString "first"),.int (fi:Nat)),((Str.ofString "level"),.int (lv:Nat))] (by intro p hp;simp only [List.mem_cons,List.not_mem_nil,or_false] at hp;rcases hp with rfl | rfl | rfl | rfl | rfl<;>rfl),0,o,rfl,Nat.zero_le _,rfl⟩ ?_
  rintro n Y ⟨k,a,rfl,hk,rfl⟩
  (refine T_cmp ?_;(refine E_name (by exact rfl) ?_);refine E_int ?_;refine O_lt ?_;refine Tr_bool ?_)
  by_cases q:((b0+k:Nat):Int)<6
  ·rw [if_pos (decide_eq_true q)]
   have hbl:=blocks_len (L:=lv) (F:=fi) hp b0 k
   have hlen:((pre++blocks lv fi ps b0 k).map idA).length≤100:=by rw [List.length_map,List.length_append];exact (lin4 (.le (.a .v0 .v1) (.n 100)) [.le .v0 .n1,.zt (.c (.a .v2 .v3)) (.n 6),.le .v1 (.l 4 .v3)]) hpre q hbl
   have hbs:=blocks_succ lv fi ps b0 k
   have hpt:=partOf_len hp (b0+k)
   refine S_cons ?_
   refine' S_filtA (X₁:=⟨(a,.lst ((pre++blocks lv fi ps b0 k).map idA))::X.σ,[((Str.ofString "base"),.int ((b0+k:Nat):Int)),((Str.ofString "told"),.raw (.ref a)),((Str.ofString "places"),.ints ps),((Str.ofString "first"),.int (fi:Nat)),((Str.ofString "level"),.int (lv:Nat))]⟩) (xs:=ps.map .int) (fI fun p=>decide (p.fdiv 4=((b0+k:Nat):Int))) [((Str.ofString "base"),.int ((b0+k:Nat):Int))] ?hl2 ?hw2 ?hsw2 ?i2 ?z2 ?m2 ?ifs2 ?item2 ?q2 ?free2 ?cell2 ?kind2 ?names2 ?as2 ?f2
   case hl2=>rfl
   case hw2=>exact .head _
   case hsw2=>rfl
   case free2=>exact freeOk rfl
   case cell2=>decide
   case kind2=>rfl
   case names2=>decide
   case as2=>rfl
   case f2=>intro x;rfl
   case ifs2=>rfl
   case m2=>intro p hp;rw [List.mem_singleton.mp hp];exact ⟨rfl,.inl rfl,.inl rfl,rfl⟩
   case i2 =>
    ((refine E_name (by exact rfl) ?_);dsimp only)
    exact I_lst ⟨rfl,rfl,rfl⟩
   case z2=>rw [List.length_map];exact (lin1 (.le .v0 (.n 1000000)) [.le .v0 (.n 24)]) hpl
   case item2 =>
    intro Ca Da i x okC hx
    obtain ⟨p,hp,rfl⟩:=ints_at hx
    dsimp only [Cx.block]
    (refine A_name (by exact .inl ⟨rfl,.head _⟩) ?_;dsimp only;refine T_cmp ?_;refine E_bin ?_;(refine E_name (by exact rfl) ?_);refine E_int ?_;refine O_div (by decide) (by decide) ?_;(refine E_name (by exact rfl) ?_);refine O_eq ?_;refine Tr_bool ?_;dsimp only)
    by_cases q:p.fdiv 4=((b0+k:Nat):Int)
    ·rw [decide_eq_true q]
     refine ⟨by rw [fI_yes (decide_eq_true q)];rfl,?_⟩
     rw [if_pos rfl]
     ((refine E_name (by exact rfl) ?_);dsimp only)
     exact ⟨fI_yes (decide_eq_true q),rfl,fun p hp=>by rw [List.mem_singleton.mp hp];rfl⟩
    ·rw [decide_eq_false q]
     refine ⟨by rw [fI_no (decide_eq_false q)];rfl,?_⟩
     rw [if_neg (by decide)]
     exact ⟨rfl,fun p hp=>by rw [List.mem_singleton.mp hp];rfl⟩
   (refine Then_next ?_;dsimp only;refine S_cons ?_;refine S_if ?_;refine T_cmp ?_;refine E_call ?_;dsimp only;(refine' E_builtin (v:=.builtin ?id45) ?hk45 ?e45 ?hv45 ?hn45 ?_;(case hk45=>exact rfl);(case e45=>dsimp only;k_is);(case hv45=>exact rfl);(case hn45=>decide));dsimp only;refine C_raw keeper_builtin ?_;refine Args_plain ?_;refine A_cons ?_;(refine E_name (by exact rfl) ?_);refine A_nil ?_)
   rw [fI_ints,show ps.filter (fun p=>decide (p.fdiv 4=((b0+k:Nat):Int)))=partOf ps (b0+k) from rfl]
   have hlf:((partOf ps (b0+k)).map AV.int).length≤24:=fI_len hpl
   (refine B_len_lst (by simp only [cellsV,List.length_map,List.length_reverse,List.length_cons,List.length_append,List.length_nil];exact (lin1 (.lt .v0 (.n (2^62))) [.le .v0 .n4]) hpt) ?_;refine E_int ?_;refine O_eq ?_;refine Tr_bool ?_)
   rw [List.length_map]
   by_cases q2:(((partOf ps (b0+k)).length:Nat):Int)=4
   ·rw [if_pos (decide_eq_true q2)]
    have ho:blockOf lv fi ps (b0+k)=[cb lv fi (b0+k)]:=if_pos (by exact (lin1 (.eq .v0 .n4) [.ze (.c .v0) .n4]) q2)
    have hok:=cb_ok hw (b:=b0+k) (by exact (lin2 (.lt (.a .v0 .v1) (.n 6)) [.zt (.c (.a .v0 .v1)) (.n 6)]) q)
    (refine S_last ?_;refine S_expr ?_;refine E_meth ?_;dsimp only;(refine E_name (by exact rfl) ?_);refine M_list (by exact List.Mem.head _) PySem.F.slot_list_append PySem.F.type_list_append ?_;refine Args_plain ?_;refine A_cons ?_;refine E_call ?_;dsimp only;(refine' E_global ?hk48 ?e48 ?_;(case hk48=>exact rfl);(case e48=>dsimp only;k_is));(refine' C_raw (keeper_fn ?a49) ?_;(case a49=>dsimp only;k_is));refine Args_plain ?_;refine A_cons ?_;(refine E_name (by exact rfl) ?_);refine A_cons ?_;refine E_bin ?_;(refine E_name (by exact rfl) ?_);(refine E_name (by exact rfl) ?_);refine O_add ?_;refine A_nil ?_)
    refine WC.of (lawid_c (e:=cb lv fi (b0+k)) (by (with_reducible assumption)) (by (exact Gd.le (by with_reducible assumption) rfl)) ?_ ?_ ?_ ?_)
    ·exact hok
    ·show _=30-((30-lv:Nat):Int);exact (lin2 (.ze (.c .v0) (.s (.n 30) (.c .v1))) [.le .v0 (.n 29),.sb .v1 (.n 30) .v0]) hlev (sbc _ _)
    ·show _=((fi+(b0+k):Nat):Int);exact lin3 (.ze (.a (.c .v0) (.c (.a .v1 .v2))) (.c (.a .v0 (.a .v1 .v2)))) []
    (refine A_nil ?_;refine B_append (by exact SUpd.head) (by simp only [cellsV,List.length_map,List.length_reverse,List.length_cons,List.length_append,List.length_nil];exact (lin4 (.le (.a .v0 .v1) (.n 1000000)) [.le .v0 .n1,.zt (.c (.a .v2 .v3)) (.n 6),.le .v1 (.l 4 .v3)]) hpre q hbl) ?_;dsimp only;refine Then_next ?_;refine S_last ?_;refine S_aug (by exact .inr ⟨rfl,_,rfl,by first | exact .tail _ (.head _) | exact .tail _ (.tail _ (.head _))⟩) rfl ?_;refine E_int ?_;refine O_iadd ?_;dsimp only)
    refine ⟨⟨(a,.lst ((pre++blocks lv fi ps b0 (k+1)).map idA))::X.σ,[((Str.ofString "base"),.int ((b0+(k+1):Nat):Int)),((Str.ofString "told"),.raw (.ref a)),((Str.ofString "places"),.ints ps),((Str.ofString "first"),.int (fi:Nat)),((Str.ofString "level"),.int (lv:Nat))]⟩,?_,nn-(k+1),by exact (lin5 (.lt .v0 .v3) [.eq (.a .v4 .v1) (.n 6),.zt (.c (.a .v4 .v2)) (.n 6),.sb .v0 .v1 (.a .v2 .n1),.sb .v3 .v1 .v2]) hb6 q (sbc _ _) (sbc _ _),k+1,a,rfl,by exact (lin3 (.le (.a .v0 .n1) .v1) [.eq (.a .v2 .v1) (.n 6),.zt (.c (.a .v2 .v0)) (.n 6)]) hb6 q,rfl⟩
    rw [hbs,ho,←List.append_assoc,List.map_append (l₁:=pre++_)]
    exact Conv.names [((Str.ofString "base"),.int ((b0+(k+1):Nat):Int)),((Str.ofString "told"),.raw (.ref a)),((Str.ofString "places"),.ints ps),((Str.ofString "first"),.int (fi:Nat)),((Str.ofString "level"),.int (lv:Nat))] (by intro p hp;simp only [List.mem_cons,List.not_mem_nil,or_false] at hp;rcases hp with rfl | rfl | rfl | rfl | rfl<;>rfl)
   ·rw [if_neg (by rw [decide_eq_false q2];decide)]
    have ho:blockOf lv fi ps (b0+k)=(partOf ps (b0+k)).map (pc lv fi):=if_neg (by exact (lin1 (.no (.eq .v0 .n4)) [.no (.ze (.c .v0) .n4)]) q2)
    (refine S_last ?_;refine S_assign (by exact .inl ⟨rfl,.head _⟩) ?_;refine E_bin ?_;(refine E_name (by exact rfl) ?_))
    refine' E_mapF (X₁:=⟨(a,.lst ((pre++blocks lv fi ps b0 k).map idA))::X.σ,[((Str.ofString "part"),.ints (partOf ps (b0+k))),((Str.ofString "base"),.int ((b0+k:Nat):Int)),((Str.ofString "told"),.raw (.ref a)),((Str.ofString "places"),.ints ps),((Str.ofString "first"),.int (fi:Nat)),((Str.ofString "level"),.int (lv:Nat))]⟩) (xs:=(partOf ps (b0+k)).map .int) (ys:=((partOf ps (b0+k)).map (pc lv fi)).map idA) [((Str.ofString "first"),.int (fi:Nat)),((Str.ofString "level"),.int (lv:Nat))] ?i3 ?len3 ?z3 ?m3 ?ifs3 ?item3 ?q3 ?nd3 ?free3 ?cell3 ?kind3 ?names3 ?as3 ?f3
    case nd3=>show [Str.ofString "first", Str.ofString "level"].Nodup;decide
    case free3=>exact freeOk rfl
    case cell3=>decide
    case kind3=>rfl
    case names3=>decide
    case as3=>rfl
    case f3=>intro x;rfl
    case ifs3=>rfl
    case m3=>intro p hp;rcases List.mem_cons.mp hp with rfl | hp;exact ⟨rfl,.inl rfl,.inl rfl,rfl⟩;rw [List.mem_singleton.mp hp];exact ⟨rfl,.inl rfl,.inl rfl,rfl⟩
    case i3 =>
     ((refine E_name (by exact rfl) ?_);dsimp only)
     exact I_lst ⟨rfl,rfl,rfl⟩
    case len3=>simp
    case z3=>rw [List.length_map];exact (lin1 (.le .v0 (.n 1000000)) [.le .v0 .n4]) hpt
    case item3 =>
     intro Ca Da i x y okC hx hy
     obtain ⟨p,hp',rfl⟩:=ints_at hx
     rw [List.getElem?_map,List.getElem?_map,hp'] at hy
     cases hy
     have hr:=hp.rng p (partOf_mem.mp (List.mem_of_getElem? hp')).1
     have hok:=pc_ok hw hr
     dsimp only [Cx.block]
     (refine A_name (by exact .inl ⟨rfl,.head _⟩) ?_;dsimp only;refine E_call ?_;dsimp only;(refine' E_global ?hk55 ?e55 ?_;(case hk55=>exact rfl);(case e55=>dsimp only;k_is));(refine' C_raw (keeper_fn ?a56) ?_;(case a56=>dsimp only;k_is));refine Args_plain ?_;refine A_cons ?_;refine E_bin ?_;(refine E_name (by exact rfl) ?_);refine E_int ?_;refine O_add ?_;refine A_cons ?_;refine E_bin ?_;refine E_bin ?_;refine E_int ?_;(refine E_name (by exact rfl) ?_);refine O_mul (by exact lin1 (.or (.an (.zt (.g (.n (2^64))) .n4) (.zt .n4 (.n (2^64)))) (.an (.zt (.g (.n (2^64))) (.c .v0)) (.zt (.c .v0) (.n (2^64))))) []) ?_;(refine E_name (by exact rfl) ?_);refine O_add ?_;refine A_nil ?_)
     refine WC.of (lawid_c (e:=pc lv fi p) (by (exact ⟨rfl,rfl,by assumption,by assumption⟩)) (by (exact Gd.le (by with_reducible assumption) rfl)) ?_ ?_ ?_ ?_)
     ·exact hok
     ·show _=30-((29-lv:Nat):Int);exact (lin2 (.ze (.a (.c .v0) .n1) (.s (.n 30) (.c .v1))) [.le .v0 (.n 29),.sb .v1 (.n 29) .v0]) hlev (sbc _ _)
     ·show _=((4*fi+p.toNat:Nat):Int);exact (lin [_,_] [_] (.ze (.a (.l 4 (.c .v0)) .v0) (.c (.a (.l 4 .v0) .v1))) [.an (.zl .n0 .v0) (.zt .v0 (.n 24)),.or (.an (.zl .n0 .v0) (.ze (.c .v1) .v0)) (.an (.zt .v0 .n0) (.eq .v1 .n0))]) hr (tnc _)
     exact ⟨rfl,rfl,fun p hp=>by rcases List.mem_cons.mp hp with rfl | hp;rfl;rw [List.mem_singleton.mp hp];rfl⟩
    skip
    refine O_addLM (.head _) (by rw [List.length_map,List.length_append,List.length_map,List.length_map];exact (lin5 (.le (.a (.a .v0 .v1) .v2) (.n 1000000)) [.le .v0 .n1,.zt (.c (.a .v3 .v4)) (.n 6),.le .v1 (.l 4 .v4),.le .v2 .n4]) hpre q hbl hpt) fun b=>?_
    (refine Then_next ?_;dsimp only;refine S_last ?_;refine S_aug (by exact .inr ⟨rfl,_,rfl,by first | exact .tail _ (.head _) | exact .tail _ (.tail _ (.head _))⟩) rfl ?_;refine E_int ?_;refine O_iadd ?_;dsimp only)
    refine ⟨⟨(b,.lst ((pre++blocks lv fi ps b0 (k+1)).map idA))::X.σ,[((Str.ofString "base"),.int ((b0+(k+1):Nat):Int)),((Str.ofString "told"),.raw (.ref b)),((Str.ofString "places"),.ints ps),((Str.ofString "first"),.int (fi:Nat)),((Str.ofString "level"),.int (lv:Nat))]⟩,?_,nn-(k+1),by exact (lin5 (.lt .v0 .v3) [.eq (.a .v4 .v1) (.n 6),.zt (.c (.a .v4 .v2)) (.n 6),.sb .v0 .v1 (.a .v2 .n1),.sb .v3 .v1 .v2]) hb6 q (sbc _ _) (sbc _ _),k+1,b,rfl,by exact (lin3 (.le (.a .v0 .n1) .v1) [.eq (.a .v2 .v1) (.n 6),.zt (.c (.a .v2 .v0)) (.n 6)]) hb6 q,rfl⟩
    rw [hbs,ho,←List.append_assoc,List.map_append (l₁:=pre++_)]
    refine Conv.weak (.cons₂ _ (.cons _ (List.Sublist.refl _))) (look_of fun p hp=>?_)
    simp only [List.mem_cons,List.not_mem_nil,or_false] at hp
    rcases hp with rfl | rfl | rfl | rfl | rfl<;>rfl
  ·rw [if_neg (by rw [decide_eq_false q];decide)]
   have:k=nn:=by exact (lin3 (.eq .v0 .v1) [.eq (.a .v2 .v1) (.n 6),.le .v0 .v1,.no (.zt (.c (.a .v2 .v0)) (.n 6))]) hb6 hk q
   subst this
   skip
   rw [hlw]
   exact ⟨rfl,a,_,rfl,rfl⟩
theorem kth_at {C:List Cel} {i:Nat} {e:Cel} (h:C[i]?=some e):atI (cellsV C) ((i:Nat):Int)=some (.cell e.id):=atI_nat (by unfold cellsV;rw [List.getElem?_map,h];rfl)
theorem lids7_c {c:Cx} {Q:AV→AX→Prop} {X:AX} {C:List Cel} (L:Lw c) (G:Gd c.A 12) (hz:C.length≤1000) (h:Q (.ints (C.map Cel.id)) X):WF c (.ref 618) [.uni C] [] Q X:=by
 (have _:PySem.Challenge.rw_lp0003_07=PySem.Challenge.rw_lp0003_07→∀ w:World,(hd7.heap_1 w.params).In default→True:=by (k_fill;intros;trivial))
 have L₀:=L
 obtain ⟨P,w,K,g,A,env,own,E,fx⟩:=c
 obtain ⟨hP,hK,hC,hN⟩:=L
 dsimp only at hP hK hC hN G
 subst hP hK
 refine' WF.go (M:=[((Str.ofString "union"),.uni C)]) G ?k1 ?k2 ?k3 ?k4 ?k5 ?k6 ?k7 ?k8 ?_
 case k1=>(dsimp only;k_is)
 case k2=>(dsimp only;k_is)
 case k3=>exact bind1 fun s v X=>.of_eq rfl
 case k4=>rfl
 case k5=>decide
 case k6=>rfl
 case k7=>rfl
 case k8=>rfl
 intro F c' kn he ho ok G'
 have L':=L₀.kin kn
 obtain ⟨P',w',K',g',A',env',own',E',fx'⟩:=c'
 obtain ⟨f1,f2,f3,f4,f5⟩:=kn
 dsimp only at f1 f2 f3 f4 f5 he ho G'
 subst f1 f2 f3 f4 f5 he ho
 clear L₀
 simp only [List.reverse_cons,List.reverse_nil,List.nil_append,List.cons_append]
 refine S_cons ?_
 have hlt:((C.map Cel.id).map AV.int).length<2^62:=by rw [List.length_map,List.length_map];exact (lin1 (.lt .v0 (.n (2^62))) [.le .v0 (.n 1000)]) hz
 refine' S_mapA (X₁:=⟨X.σ,[((Str.ofString "union"),.uni C)]⟩) (xs:=cellsV C) (ys:=(C.map Cel.id).map .int) [] ?hl1 ?hw1 ?hsw1 ?i1 ?len1 ?z1 ?m1 ?ifs1 ?item1 ?q1 ?free1 ?cell1 ?kind1 ?names1 ?as1 ?f1
 case hl1=>rfl
 case hw1=>exact .head _
 case hsw1=>rfl
 case free1=>exact freeOk rfl
 case cell1=>decide
 case kind1=>rfl
 case names1=>decide
 case as1=>rfl
 case f1=>intro x;rfl
 case ifs1=>rfl
 case m1=>exact fun p h=>nomatch h
 case i1 =>
  (refine E_meth ?_;dsimp only;(refine E_name (by exact rfl) ?_);refine' M_fn ?hi61 ?a61 ?b61 ?c61 ?d61 ?e61 ?_;(case hi61=>exact .inl rfl);(case a61=>dsimp only;k_is);(case b61=>dsimp only;k_is);(case c61=>dsimp only;k_is);(case d61=>dsimp only;k_is);(case e61=>decide);refine Args_plain ?_;refine A_nil ?_)
  refine WC.of (cellids_c (by (with_reducible assumption)) (by (exact Gd.le (by with_reducible assumption) rfl)) ?_)
  exact I_lst ⟨rfl,rfl,rfl⟩
 case len1=>simp
 case z1=>rw [List.length_map];exact (lin1 (.le .v0 (.n 1000000)) [.le .v0 (.n 1000)]) hz
 case item1 =>
  intro Ca Da i x y okC hx hy
  obtain ⟨e,he,rfl⟩:=cel_at hx
  rw [List.getElem?_map,List.getElem?_map,he] at hy
  cases hy
  dsimp only [Cx.block]
  (refine A_name (by exact .inl ⟨rfl,.head _⟩) ?_;dsimp only;refine E_meth ?_;dsimp only;(refine E_name (by exact rfl) ?_);refine' M_fn ?hi63 ?a63 ?b63 ?c63 ?d63 ?e63 ?_;(case hi63=>exact .inl rfl);(case a63=>dsimp only;k_is);(case b63=>dsimp only;k_is);(case c63=>dsimp only;k_is);(case d63=>dsimp only;k_is);(case e63=>decide);refine Args_plain ?_;refine A_nil ?_;refine WC.of (id_c (by exact ⟨rfl,rfl,by assumption,by assumption⟩) (by exact Gd.le (by with_reducible assumption) rfl)  ?_);dsimp only)
  exact ⟨rfl,rfl,fun p h=>nomatch h⟩
 (refine Then_next ?_;dsimp only;refine S_cons ?_;refine S_if ?_;refine T_or ?_;refine T_cmp ?_;refine E_meth ?_;dsimp only;(refine E_name (by exact rfl) ?_);refine' M_fn ?hi65 ?a65 ?b65 ?c65 ?d65 ?e65 ?_;(case hi65=>exact .inl rfl);(case a65=>dsimp only;k_is);(case b65=>dsimp only;k_is);(case c65=>dsimp only;k_is);(case d65=>dsimp only;k_is);(case e65=>decide);refine Args_plain ?_;refine A_nil ?_;refine WC.of (num_c (by with_reducible assumption) (by exact Gd.le (by with_reducible assumption) rfl) (by exact (lin1 (.lt .v0 (.n (2^61))) [.le .v0 (.n 1000)]) hz) ?_);refine E_call ?_;dsimp only;(refine' E_builtin (v:=.builtin ?id66) ?hk66 ?e66 ?hv66 ?hn66 ?_;(case hk66=>exact rfl);(case e66=>dsimp only;k_is);(case hv66=>exact rfl);(case hn66=>decide));dsimp only;refine C_raw keeper_builtin ?_;refine Args_plain ?_;refine A_cons ?_;(refine E_name (by exact rfl) ?_);refine A_nil ?_;refine B_len_lst (by simp only [cellsV,List.length_map,List.length_reverse,List.length_cons,List.length_append,List.length_nil];exact (lin1 (.lt .v0 (.n (2^62))) [.le .v0 (.n 1000)]) hz) ?_;refine O_ne ?_;refine Tr_bool ?_;rw [if_pos rfl])
 rw [List.length_map,List.length_map,decide_eq_true rfl]
 (rw [if_neg (by decide)];refine T_or ?_;refine T_cmp ?_)
 refine' E_mapF (X₁:=⟨X.σ,[((Str.ofString "told"),.ints (C.map Cel.id)),((Str.ofString "union"),.uni C)]⟩) (xs:=upto C.length) (ys:=(C.map Cel.id).map .int) [((Str.ofString "union"),.uni C)] ?i2 ?len2 ?z2 ?m2 ?ifs2 ?item2 ?q2 ?nd2 ?free2 ?cell2 ?kind2 ?names2 ?as2 ?f2
 case nd2=>show [Str.ofString "union"].Nodup;decide
 case free2=>exact freeOk rfl
 case cell2=>decide
 case kind2=>rfl
 case names2=>decide
 case as2=>rfl
 case f2=>intro x;rfl
 case ifs2=>rfl
 case m2=>intro p hp;rw [List.mem_singleton.mp hp];exact ⟨rfl,.inl rfl,.inl rfl,rfl⟩
 case i2 =>
  (refine E_call ?_;dsimp only;(refine' E_builtin (v:=.type ?id68) ?hk68 ?e68 ?hv68 ?hn68 ?_;(case hk68=>exact rfl);(case e68=>dsimp only;k_is);(case hv68=>exact rfl);(case hn68=>decide));refine C_raw keeper_type ?_;refine Args_plain ?_;refine A_cons ?_;refine E_call ?_;dsimp only;(refine' E_builtin (v:=.builtin ?id69) ?hk69 ?e69 ?hv69 ?hn69 ?_;(case hk69=>exact rfl);(case e69=>dsimp only;k_is);(case hv69=>exact rfl);(case hn69=>decide));dsimp only;refine C_raw keeper_builtin ?_;refine Args_plain ?_;refine A_cons ?_;(refine E_name (by exact rfl) ?_);refine A_nil ?_;refine B_len_lst (by simp only [cellsV,List.length_map,List.length_reverse,List.length_cons,List.length_append,List.length_nil];exact (lin1 (.lt .v0 (.n (2^62))) [.le .v0 (.n 1000)]) hz) ?_;refine A_nil ?_;refine B_range ?_)
  rw [List.length_map,List.length_map]
  skip
  refine I_rng (by exact lin1 (.zl .n0 (.c .v0)) []) (by exact (lin1 (.zt (.c .v0) (.n (2^62))) [.le .v0 (.n 1000)]) hz) ?_
  exact ⟨by rw [Int.toNat_natCast],rfl,rfl⟩
 case len2=>rw [List.length_map,List.length_map,upto_len]
 case z2=>rw [upto_len];exact (lin1 (.le .v0 (.n 1000000)) [.le .v0 (.n 1000)]) hz
 case item2 =>
  intro Ca Da i x y okC hx hy
  obtain ⟨hi,rfl⟩:=upto_at hx
  rw [List.getElem?_map,List.getElem?_map,List.getElem?_eq_getElem hi] at hy
  cases hy
  have hk:=kth_at (List.getElem?_eq_getElem hi)
  dsimp only [Cx.block]
  (refine A_name (by exact .inl ⟨rfl,.head _⟩) ?_;dsimp only;refine E_meth ?_;dsimp only;refine E_meth ?_;dsimp only;(refine E_name (by exact rfl) ?_);refine' M_fn ?hi72 ?a72 ?b72 ?c72 ?d72 ?e72 ?_;(case hi72=>exact .inl rfl);(case a72=>dsimp only;k_is);(case b72=>dsimp only;k_is);(case c72=>dsimp only;k_is);(case d72=>dsimp only;k_is);(case e72=>decide);refine Args_plain ?_;refine A_cons ?_;(refine E_name (by exact rfl) ?_);refine A_nil ?_)
  refine WC.of (cellid_c (e₀:=C[i]) (by (exact ⟨rfl,rfl,by assumption,by assumption⟩)) (by (exact Gd.le (by with_reducible assumption) rfl)) hk (by rw [List.length_map];exact (lin1 (.lt .v0 (.n (2^62))) [.le .v0 (.n 1000)]) hz) ?_)
  (refine' M_fn ?hi74 ?a74 ?b74 ?c74 ?d74 ?e74 ?_;(case hi74=>exact .inl rfl);(case a74=>dsimp only;k_is);(case b74=>dsimp only;k_is);(case c74=>dsimp only;k_is);(case d74=>dsimp only;k_is);(case e74=>decide);refine Args_plain ?_;refine A_nil ?_;refine WC.of (id_c (by exact ⟨rfl,rfl,by assumption,by assumption⟩) (by exact Gd.le (by with_reducible assumption) rfl)  ?_);dsimp only)
  exact ⟨rfl,rfl,fun p hp=>by rw [List.mem_singleton.mp hp];rfl⟩
 ((refine E_name (by exact rfl) ?_))
 refine O_neInts (by (exact Gd.le (by with_reducible assumption) rfl)) ?_
 rw [decide_eq_true rfl]
 (refine Tr_bool ?_;rw [if_pos rfl];rw [if_neg (by decide)];refine T_or_nil ?_;rw [if_neg (by decide)];refine S_nil ?_;refine Then_next ?_;refine S_last ?_;refine S_return ?_;(refine E_name (by exact rfl) ?_);dsimp only)
 exact h
theorem fm_rng (n:Int) {k:Int} (h:0<k):0≤n.fmod k∧n.fmod k<k:=by
 rw [Int.fmod_eq_emod_of_nonneg _ (Int.le_of_lt h)]
 exact ⟨Int.emod_nonneg _ (Int.ne_of_gt h),Int.emod_lt_of_pos _ h⟩
theorem nrm_len (cs:List Cel):(nrm cs).length≤cs.length:=by
 unfold nrm;split<;>(first | exact (lin2 (.le .v0 .v1) [.lt .v0 .v1]) ‹_› | exact lin1 (.le .v0 .v0) [])
abbrev AV.pk (k:Cel×List Int):AV:=.tup [.int k.1.id,.ints k.2]
theorem pks_at {ks:List (Cel×List Int)} {i:Nat} {x:AV} (h:(ks.map AV.pk)[i]?=some x):∃ k,ks[i]?=some k∧x=.pk k:=by
 rw [List.getElem?_map] at h
 obtain ⟨p,h1,h2⟩:=Option.map_eq_some_iff.mp h
 exact ⟨p,h1,h2.symm⟩
theorem world_of (seed:Int):W7 (seed.fmod 30).toNat (if seed.fmod 30=0 then 0 else (4*(seed.fdiv 30).fmod ((6*4^(seed.fmod 30).toNat:Int).fdiv 4-1)).toNat) ∧
  (seed.fmod 30≠0→(6*4^(seed.fmod 30).toNat:Int).fdiv 4-1≠0∧0≤(seed.fdiv 30).fmod ((6*4^(seed.fmod 30).toNat:Int).fdiv 4-1)):=by
 have h30:=fm_rng seed (k:=30) (by decide)
 generalize seed.fmod 30=lv at h30
 by_cases q:lv=0
 ·rw [if_pos q]
  subst q
  exact ⟨⟨by decide,by decide,fun z=>(z rfl).elim⟩,fun z=>(z rfl).elim⟩
 ·rw [if_neg q]
  obtain ⟨n,rfl⟩:∃ n:Nat,lv=((n+1:Nat):Int):=⟨lv.toNat-1,by exact (lin [_,_] [_] (.ze .v0 (.c (.a .v0 .n1))) [.an (.zl .n0 .v0) (.zt .v0 (.n 30)),.no (.ze .v0 .n0),.or (.an (.zl .n0 .v0) (.ze (.c .v1) .v0)) (.an (.zt .v0 .n0) (.eq .v1 .n0)),.sb .v0 .v1 .n1]) h30 q (tnc (lv)) (sbc (lv.toNat) (1))⟩
  have hp:0<4^n:=Nat.pow_pos (by decide)
  have e:(6*4^((n+1:Nat):Int).toNat:Int).fdiv 4=6*((4^n:Nat):Int):=by
   rw [Int.fdiv_eq_ediv_of_nonneg _ (by decide),Int.toNat_natCast,Int.pow_succ,pow4_cast]
   exact (lin [_] [_] (.ze .v0 (.l 6 (.c .v0))) [.an (.zl (.l 4 .v0) (.l 6 (.r (.c .v0) 4))) (.zt (.l 6 (.r (.c .v0) 4)) (.a (.l 4 .v0) .n4))]) (zdc 4 (by decide) _)
  rw [e]
  have hk:(0:Int)<6*((4^n:Nat):Int)-1:=by exact (lin1 (.zt .n0 (.s (.l 6 (.c .v0)) .n1)) [.lt .n0 .v0]) hp
  have hm:=fm_rng (seed.fdiv 30) hk
  refine ⟨⟨by exact (lin2 (.le .v0 (.n 29)) [.an (.zl .n0 (.c (.a .v1 .n1))) (.zt (.c (.a .v1 .n1)) (.n 30)),.or (.an (.zl .n0 (.c (.a .v1 .n1))) (.ze (.c .v0) (.c (.a .v1 .n1)))) (.an (.zt (.c (.a .v1 .n1)) .n0) (.eq .v0 .n0))]) h30 (tnc _),?_,fun _=>by omega⟩,fun _=>⟨by exact lin1 (.no (.ze (.s (.l 6 (.c .v0)) .n1) .n0)) [],hm.1⟩⟩
  rw [Int.toNat_natCast,Nat.pow_succ]
  generalize 4^n=P at *
  generalize (seed.fdiv 30).fmod (6*(P:Int)-1)=R at *
  exact (lin [_,_] [_] (.le (.a .v0 (.n 6)) (.l 6 (.r .v1 4))) [.an (.zl .n0 .v0) (.zt .v0 (.s (.l 6 (.c .v1)) .n1)),.or (.an (.zl .n0 (.l 4 .v0)) (.ze (.c .v0) (.l 4 .v0))) (.an (.zt (.l 4 .v0) .n0) (.eq .v0 .n0))]) hm (tnc _)
theorem Own.cell {c:Cx} {x:Str} {scope:Scope} {Lc:Addr} (h1:c.env.kindOf x=some .cell) (h2:c.env.cells=cellsFrom (Lc+1) scope.names []) (h3:c.own=ownOf scope Lc) (h4:(c.env.cells.lookup x).isSome=true):Own c x:=by
 obtain ⟨k,hk⟩:=Option.isSome_iff_exists.mp h4
 refine .inr ⟨h1,k,hk,?_⟩
 rw [h2] at hk
 rw [h3]
 exact .tail _ (List.mem_map.mpr ⟨(x,k),mem_of_lookup hk,rfl⟩)
theorem newI_n {c:Cx} {Q:AV→AX→Prop} {σ₀:List (Addr×MO)} {m₀:List (Str×AV)} {cs:List Cel} (L:Lw c) (G:Gd c.A 11) (hok:∀ e∈cs,e.ok) (h64:cs.length<64)
  (h:∀ cs',cs'.Perm cs→Sd cs'→Q (.uni (nrm cs')) ⟨(561,tabM)::σ₀,m₀⟩):WF c (.ref 590) [.lst ((cs.map Cel.id).map .int)] [] Q ⟨(561,tabM)::σ₀,m₀⟩ :=
 newI_c L G hok h64 fun cs' hp hs=>by
  have:=h cs' hp hs
  unfold nrm at this
  rw [hp.length_eq] at this
  exact this
def intsOf:AV→List Int
 | .lst vs=>vs.filterMap fun | .int n=>some n | _=>Option.none
 | _=>[]
theorem intsOf_ints:∀ l:List Int,intsOf (.ints l)=l
 | []=>rfl
 | n::r=>congrArg (n::·) (intsOf_ints r)
def fP (p:Int):AV→Option AV
 | .tup [_,V]=>if p∈intsOf V then some (.int 1) else Option.none
 | _=>Option.none
theorem fP_yes {p:Int} {k:Cel×List Int} (h:p∈k.2):fP p (.pk k)=some (.int 1):=if_pos (by rw [intsOf_ints];exact h)
theorem fP_no {p:Int} {k:Cel×List Int} (h:p∉k.2):fP p (.pk k)=Option.none:=if_neg (by rw [intsOf_ints];exact h)
theorem fP_all (p:Int):∀ ks:List (Cel×List Int),(ks.map AV.pk).filterMap (fP p)=((ks.filter fun k=>decide (p∈k.2)).map fun _=>(1:Int)).map AV.int
 | []=>rfl
 | k::r=>by
  rw [List.map_cons,List.filterMap_cons,List.filter_cons]
  by_cases h:p∈k.2
  ·rw [fP_yes h,if_pos (decide_eq_true h),List.map_cons,List.map_cons,fP_all p r]
  ·rw [fP_no h,if_neg (by rw [decide_eq_false h];decide),fP_all p r]
theorem fP_any (p:Int) (ks:List (Cel×List Int)):(!decide (((ks.filter fun k=>decide (p∈k.2)).map fun _=>(1:Int))=[]))=ks.any fun k=>decide (p∈k.2):=by
 rw [Bool.eq_iff_iff,Bool.not_eq_true',decide_eq_false_iff_not,List.map_eq_nil_iff,List.filter_eq_nil_iff,List.any_eq_true]
 constructor
 ·intro h
  exact Classical.byContradiction fun z=>h fun k hk q=>z ⟨k,hk,q⟩
 ·rintro ⟨k,hk,q⟩ z;exact z k hk q
theorem O_notinInts {c:Cx} {X:AX} {Q:AV→AX→Prop} {k:Int} {ns:List Int} (h:Q (.bool (!decide (k∈ns))) X):W2 c Rep (.int k) (.ints ns) (compareOp .NotIn) Q X:=by
 intro B S s v u ok r₁ r₂ st
 obtain ⟨t,rfl⟩:=r₁.int_inv
 obtain ⟨a,vs,n,rfl,h1,h2⟩:=r₂.lst_inv
 have e:ns.any (·==k)=decide (k∈ns):=by
  rw [Bool.eq_iff_iff,List.any_eq_true,decide_eq_true_eq]
  constructor
  ·rintro ⟨x,hx,q⟩;rw [beq_iff_eq] at q;exact q▸hx
  ·exact fun hk=>⟨k,hk,by simp⟩
 refine notin_list_ints ⟨_,st.sto _ _ h1,rfl,n,rfl⟩ (ints_are h2) ⟨S,.bool _,X,.rfl,?_,st,h⟩
 rw [e];exact .bool _
theorem upto24:upto 24=all24.map AV.int:=rfl
theorem inter7_c {c:Cx} {Q:AV→AX→Prop} {σ₀:List (Addr×MO)} {m₀:List (Str×AV)} {L F:Nat} {ps part:List Int} {C:List Cel} {e:Cel} (Lc:Lw c) (G:Gd c.A 13) (w:W7 L F) (u:UW L F ps C) (k:PkW L F e part) (h:Q (.uni (leastW L F (andOf part ps))) ⟨(561,tabM)::σ₀,m₀⟩):WF c (.ref 515) [.raw (.ref 590),.uni C,.cell e.id] [] Q ⟨(561,tabM)::σ₀,m₀⟩ :=
 inter_c Lc G (u.least w).ok k.ok (asc_sd (u.least w).asc) (by have:=u.len;exact (lin1 (.lt .v0 (.n 64)) [.le .v0 (.n 24)]) this) ⟨fun hi cs hp hs=>by rw [(u.cellAnd1 k w hi hp hs).eq];exact h,fun hi cs hp hs=>by rw [(u.cellAnd2 k w hi hp hs).eq];exact h⟩
theorem law_t {w:World} {s:Shared} {g:Heap} {A:Around} {v:Value} {S:Sto} {xs:List Int} {p:Program} {loose:List Str} {mean:ExcName→Option Value} {mg mb:Str→Option Value}
  (X:(hd7.heap_1 w.params).In g) (T:Top p loose mean mg mb g) (C:CodeHd g 565 561) (N:g.get? 561=none) (C2:CodeHd g 514 510) (N2:g.get? 510=none) (C3:CodeHd g 524 520) (N3:g.get? 520=none) (G:Gd A 80) (gr:g.StaysIn s.heap) (sto:∀ b o,S b o→s.heap.get? b=some o) (r:Rep S v (.ints xs)) (ht:MRep S s.heap 561 tabM) (ht2:MRep S s.heap 510 (MO.tabG 510)) (ht3:MRep S s.heap 520 (MO.tabG 520)) (hS:∀ o,¬S 561 o) (hS2:∀ o,¬S 510 o) (hS3:∀ o,¬S 520 o) (hz:xs.length<64) :
  codeAny (model prog w) A (.call (.ref 623) ⟨[v],[]⟩) (fun r s'=>∃ u S' U Y,r=.ok (.ret u)∧TopEnd s [(561,tabM),(510,MO.tabG 510),(520,MO.tabG 520)] false (fun V Y=>V=.bool true∧(561,tabM)∈Y.σ∧(510,MO.tabG 510)∈Y.σ∧(520,MO.tabG 520)∈Y.σ) u s' S' U Y) s:=by
 (have _:PySem.Challenge.rw_lp0003_07=PySem.Challenge.rw_lp0003_07→∀ w:World,(hd7.heap_1 w.params).In default→True:=by (k_fill;intros;trivial))
 refine' top_go (x:=(Str.ofString "script")) (V:=.ints xs) (σ:=[(561,tabM),(510,MO.tabG 510),(520,MO.tabG 520)]) (d:=79) X T G gr sto r ?m1 ?m2 ?m3 ?k1 ?k2 ?k3 ?k4 ?k5 ?k6 ?k7 ?k8 ?_
 case m1=>intro p hp;rcases List.mem_cons.mp hp with rfl | hp;exact ht;rcases List.mem_cons.mp hp with rfl | hp;exact ht2;rw [List.mem_singleton.mp hp];exact ht3
 case m2=>show ([561,510,520]:List Addr).Nodup;decide
 case m3=>intro a ha;rcases List.mem_cons.mp ha with rfl | ha;exact ⟨N,hS⟩;rcases List.mem_cons.mp ha with rfl | ha;exact ⟨N2,hS2⟩;rw [List.mem_singleton.mp ha];exact ⟨N3,hS3⟩
 case k1=>((try dsimp only);k_is)
 case k2=>((try dsimp only);k_is)
 case k3=>intro v;exact .of_eq rfl
 case k4=>rfl
 case k5=>decide
 case k6=>rfl
 case k7=>rfl
 case k8=>rfl
 intro F c' e1 e2 e3 e4 e5 he ho ok G'
 have L':Lw c':=⟨e1,by rw [e3,e2],by rw [e4];exact C,by rw [e4];exact N⟩
 obtain ⟨P',w',K',g',A',env',own',E',fx'⟩:=c'
 dsimp only at e1 e2 e3 e4 e5 he ho G'
 subst e1 e2 e3 e4 e5 he ho
 refine S_cons ?_
 refine WT.imp (Q:=fun F Y=>F=AF.next∧∃ seed:Int,Y=⟨(561,tabM)::(510,MO.tabG 510)::(520,MO.tabG 520)::[],[((Str.ofString "seed"),.int seed),((Str.ofString "script"),.ints xs)]⟩) ?b0 ?b1
 case b0 =>
  (refine S_assign (by exact .inl ⟨rfl,.head _⟩) ?_;refine E_ifexp ?_;refine T_val ?_;(refine E_name (by exact rfl) ?_))
  refine Tr_lst (by rw [List.length_map];exact (lin1 (.zt (.c .v0) (.n (2^63))) [.lt .v0 (.n 64)]) hz) ?_
  cases xs with
  | nil =>
   rw [if_neg (by decide)]
   (refine E_int ?_;dsimp only)
   exact ⟨rfl,7,rfl⟩
  | cons x0 xr =>
   rw [if_pos (show (!(List.map AV.int (x0::xr)).isEmpty)=true from rfl)]
   (refine E_sub ?_;(refine E_name (by exact rfl) ?_);refine E_int ?_)
   refine Su_lst (i:=0) (V:=.int x0) rfl (by rw [List.length_map];exact (lin1 (.lt .v0 (.n (2^62))) [.lt .v0 (.n 64)]) hz) ?_
   skip
   exact ⟨rfl,x0,rfl⟩
 rintro F' Y ⟨rfl,seed,rfl⟩
 refine Then_next ?_
 obtain ⟨hw,hnz⟩:=world_of seed
 have h30:=fm_rng seed (k:=30) (by decide)
 refine S_cons ?_
 refine WT.imp (Q:=fun F Y=>F=AF.next∧Y=⟨(561,tabM)::(510,MO.tabG 510)::(520,MO.tabG 520)::[],[((Str.ofString "level"),.int (seed.fmod 30)),((Str.ofString "seed"),.int seed),((Str.ofString "script"),.ints xs)]⟩) ?a0 ?a1
 case a0=>(refine S_assign (by exact Own.cell rfl rfl rfl rfl) ?_;refine E_bin ?_;(refine E_name (by exact rfl) ?_);refine E_int ?_;refine O_mod (by decide) ?_;dsimp only);exact ⟨rfl,rfl⟩
 rintro F' Y ⟨rfl,rfl⟩
 refine Then_next ?_
 refine S_cons ?_
 refine WT.imp (Q:=fun F Y=>F=AF.next∧∃ lv fi:Nat,W7 lv fi∧Y=⟨(561,tabM)::(510,MO.tabG 510)::(520,MO.tabG 520)::[],[((Str.ofString "first"),.int (fi:Nat)),((Str.ofString "level"),.int (lv:Nat)),((Str.ofString "seed"),.int seed),((Str.ofString "script"),.ints xs)]⟩) ?c0 ?c1
 case c0 =>
  (refine S_assign (by exact Own.cell rfl rfl rfl rfl) ?_;refine E_ifexp ?_;refine T_cmp ?_;(refine E_name (by exact rfl) ?_);refine E_int ?_;refine O_eq ?_;refine Tr_bool ?_)
  generalize hlv:seed.fmod 30=l at *
  by_cases q:l=0
  ·rw [if_pos (decide_eq_true q)]
   rw [if_pos q] at hw
   (refine E_int ?_;dsimp only)
   exact ⟨rfl,_,_,hw,by rw [Int.toNat_of_nonneg h30.1];rfl⟩
  ·rw [if_neg (by rw [decide_eq_false q];decide)]
   rw [if_neg q] at hw
   obtain ⟨g1,g2⟩:=hnz q
   (refine E_bin ?_;refine E_int ?_;refine E_bin ?_;refine E_bin ?_;(refine E_name (by exact rfl) ?_);refine E_int ?_;refine O_div (by decide) (by decide) ?_;refine E_bin ?_;refine E_bin ?_;refine E_bin ?_;refine E_int ?_;refine E_bin ?_;refine E_int ?_;(refine E_name (by exact rfl) ?_);refine O_pow (by exact (lin [] [_] (.zl .n0 .v0) [.an (.zl .n0 .v0) (.zt .v0 (.n 30))]) h30) (by exact (lin [] [_] (.zl .v0 (.n 1000000)) [.an (.zl .n0 .v0) (.zt .v0 (.n 30))]) h30) (by decide) ?_;refine O_mul (by exact lin [] [_] (.or (.an (.zt (.g (.n (2^64))) (.n 6)) (.zt (.n 6) (.n (2^64)))) (.an (.zt (.g (.n (2^64))) .v0) (.zt .v0 (.n (2^64))))) []) ?_;refine E_int ?_;refine O_div (by decide) (by decide) ?_;refine E_int ?_;refine O_sub ?_;refine O_mod (by with_reducible assumption) ?_;refine O_mul (by exact lin [] [_] (.or (.an (.zt (.g (.n (2^64))) .n4) (.zt .n4 (.n (2^64)))) (.an (.zt (.g (.n (2^64))) .v0) (.zt .v0 (.n (2^64))))) []) ?_;dsimp only)
   refine ⟨rfl,_,_,hw,?_⟩
   rw [Int.toNat_of_nonneg h30.1,Int.toNat_of_nonneg (by exact (lin [] [_] (.zl .n0 (.l 4 .v0)) [.zl .n0 .v0]) g2)]
 rintro F' Y ⟨rfl,lv,fi,hw,rfl⟩
 clear h30 hnz
 refine Then_next ?_
 have hlev:=hw.lev
 (refine S_cons ?_;refine S_assign (by exact .inl ⟨rfl,.head _⟩) ?_;refine E_call ?_;dsimp only;(refine' E_global ?hk7 ?e7 ?_;(case hk7=>exact rfl);(case e7=>dsimp only;k_is));(refine' C_raw (keeper_keep ?a8) ?_;(case a8=>dsimp only;k_is));refine Args_plain ?_;refine A_cons ?_)
 refine' E_mapF (X₁:=⟨(561,tabM)::(510,MO.tabG 510)::(520,MO.tabG 520)::[],[((Str.ofString "first"),.int (fi:Nat)),((Str.ofString "level"),.int (lv:Nat)),((Str.ofString "seed"),.int seed),((Str.ofString "script"),.ints xs)]⟩) (xs:=upto 3) (ys:=cellsV ((List.range 3).map (cb lv fi))) [((Str.ofString "first"),.int (fi:Nat)),((Str.ofString "level"),.int (lv:Nat))] ?i1 ?len1 ?z1 ?m1 ?ifs1 ?item1 ?q1 ?nd1 ?free1 ?cell1 ?kind1 ?names1 ?as1 ?f1
 case nd1=>show [Str.ofString "first", Str.ofString "level"].Nodup;decide
 case free1=>exact freeOk rfl
 case cell1=>decide
 case kind1=>rfl
 case names1=>decide
 case as1=>rfl
 case f1=>intro x;rfl
 case ifs1=>rfl
 case m1=>intro p hp;rcases List.mem_cons.mp hp with rfl | hp;exact ⟨rfl,.inl rfl,.inl rfl,rfl⟩;rw [List.mem_singleton.mp hp];exact ⟨rfl,.inl rfl,.inl rfl,rfl⟩
 case i1 =>
  (refine E_call ?_;dsimp only;(refine' E_builtin (v:=.type ?id9) ?hk9 ?e9 ?hv9 ?hn9 ?_;(case hk9=>exact rfl);(case e9=>dsimp only;k_is);(case hv9=>exact rfl);(case hn9=>decide));refine C_raw keeper_type ?_;refine Args_plain ?_;refine A_cons ?_;refine E_int ?_;refine A_nil ?_;refine B_range ?_)
  refine I_rng (by decide) (by decide) ?_
  exact ⟨by rw [show Int.toNat 3=3 from rfl],rfl,rfl⟩
 case len1=>rw [upto_len];rfl
 case z1=>rw [upto_len];decide
 case item1 =>
  intro Ca Da i x y okC hx hy
  obtain ⟨hi,rfl⟩:=upto_at hx
  unfold cellsV at hy
  rw [List.getElem?_map,List.getElem?_map,List.getElem?_range hi] at hy
  cases hy
  have hok:=cb_ok hw (b:=i) (by exact (lin1 (.lt .v0 (.n 6)) [.lt .v0 .n3]) hi)
  dsimp only [Cx.block]
  (refine A_name (by exact .inl ⟨rfl,.head _⟩) ?_;dsimp only;refine E_call ?_;dsimp only;(refine' E_global ?hk10 ?e10 ?_;(case hk10=>exact rfl);(case e10=>dsimp only;k_is));(refine' C_raw (keeper_keep ?a11) ?_;(case a11=>dsimp only;k_is));refine Args_plain ?_;refine A_cons ?_;refine E_call ?_;dsimp only;(refine' E_global ?hk12 ?e12 ?_;(case hk12=>exact rfl);(case e12=>dsimp only;k_is));(refine' C_raw (keeper_fn ?a13) ?_;(case a13=>dsimp only;k_is));refine Args_plain ?_;refine A_cons ?_;(refine E_name (by exact rfl) ?_);refine A_cons ?_;refine E_bin ?_;(refine E_name (by exact rfl) ?_);(refine E_name (by exact rfl) ?_);refine O_add ?_;refine A_nil ?_)
  refine WC.of (lawid_c (e:=cb lv fi i) (by (exact ⟨rfl,rfl,by assumption,by assumption⟩)) (by (exact Gd.le (by with_reducible assumption) rfl)) hok ?_ ?_ ?_)
  ·show _=30-((30-lv:Nat):Int);exact (lin2 (.ze (.c .v0) (.s (.n 30) (.c .v1))) [.le .v0 (.n 29),.sb .v1 (.n 30) .v0]) hlev (sbc _ _)
  ·show _=((fi+i:Nat):Int);exact lin2 (.ze (.a (.c .v0) (.c .v1)) (.c (.a .v0 .v1))) []
  (refine A_nil ?_)
  refine WC.of (newK (cb lv fi i) (by (exact ⟨rfl,rfl,by assumption,by assumption⟩)) (by (exact Gd.le (by with_reducible assumption) rfl)) hok rfl ?_)
  exact ⟨rfl,rfl,fun p hp=>by rcases List.mem_cons.mp hp with rfl | hp;rfl;rw [List.mem_singleton.mp hp];rfl⟩
 (refine A_nil ?_)
 refine WC.of (newU_n (by (with_reducible assumption)) (by (exact Gd.le (by with_reducible assumption) rfl)) (fun e he=>?okU) (by rw [List.length_map,List.length_range];decide) fun cs hp hs=>?_)
 case okU =>
  obtain ⟨b,hb,rfl⟩:=List.mem_map.mp he
  exact cb_ok hw (by have:=List.mem_range.mp hb;exact (lin1 (.lt .v0 (.n 6)) [.lt .v0 .n3]) this)
 have U0:=UW.start hw hp hs
 have hP0:=U0.pl
 rw [U0.eq]
 clear hp hs U0 cs
 (refine Then_next ?_;dsimp only;refine S_cons ?_;refine S_assign (by exact Own.cell rfl rfl rfl rfl) ?_;refine E_call ?_;dsimp only;(refine' E_builtin (v:=.type ?id17) ?hk17 ?e17 ?hv17 ?hn17 ?_;(case hk17=>exact rfl);(case e17=>dsimp only;k_is);(case hv17=>exact rfl);(case hn17=>decide));refine C_raw keeper_type ?_;refine Args_plain ?_;refine A_cons ?_;refine E_call ?_;dsimp only;(refine' E_builtin (v:=.type ?id18) ?hk18 ?e18 ?hv18 ?hn18 ?_;(case hk18=>exact rfl);(case e18=>dsimp only;k_is);(case hv18=>exact rfl);(case hn18=>decide));refine C_raw keeper_type ?_;refine Args_plain ?_;refine A_cons ?_;refine E_int ?_;refine A_nil ?_;refine B_range ?_;refine A_nil ?_)
 refine B_listRng (by decide) (by decide) ?_
 rw [show (List.range (Int.toNat 12)).map Int.ofNat=rg 0 12 from rfl]
 (refine Then_next ?_;dsimp only;refine S_cons ?_;refine S_assign (by exact .inl ⟨rfl,.head _⟩) ?_;refine E_call ?_;dsimp only;(refine' E_global ?hk19 ?e19 ?_;(case hk19=>exact rfl);(case e19=>dsimp only;k_is));(refine' C_raw (keeper_fn ?a20) ?_;(case a20=>dsimp only;k_is));refine Args_plain ?_;refine A_cons ?_;(refine E_name (by exact rfl) ?_);refine A_cons ?_;(refine E_name (by exact rfl) ?_);refine A_cons ?_;(refine E_name (by exact rfl) ?_);refine A_nil ?_)
 refine WC.of (least7_c (by (with_reducible assumption)) (by (exact Gd.le (by with_reducible assumption) rfl)) hw hP0 ?_)
 (refine Then_next ?_;dsimp only;refine S_cons ?_;refine S_assign (by exact Own.cell rfl rfl rfl rfl) ?_)
 refine E_list ?_
 (refine A_nil ?_;dsimp only;refine And.intro (Nat.le_of_ble_eq_true rfl) ?_;refine Then_next ?_;refine S_cons ?_;refine S_assign (by exact .inl ⟨rfl,.head _⟩) ?_;refine E_int ?_;dsimp only;refine Then_next ?_;refine S_cons ?_)
 refine WT.imp (Q:=fun F Y=>F=AF.next∧∃ (ks:List (Cel×List Int)) (ps:List Int),(ks.length≤5∧(∀ k∈ks,PkW lv fi k.1 k.2)∧Pl ps)∧∃ mm,Y=⟨(561,tabM)::(510,MO.tabG 510)::(520,MO.tabG 520)::[],mm⟩∧mm.lookup (Str.ofString "aside")=some (.lst (ks.map .pk))∧mm.lookup (Str.ofString "places")=some (.ints ps)∧mm.lookup (Str.ofString "have")=some (.uni (leastW lv fi ps))∧mm.lookup (Str.ofString "first")=some (.int (fi:Nat))∧mm.lookup (Str.ofString "level")=some (.int (lv:Nat))) ?l1 ?l2
 case l1 =>
  refine S_for ?_
  (refine E_bin ?_;refine E_slice2 ?_;(refine E_name (by exact rfl) ?_);refine E_int ?_;refine E_int ?_)
  refine ⟨_,_,_,rfl,rfl,rfl,by decide,by decide,by rw [List.length_map];exact (lin1 (.le .v0 (.n 1000000)) [.lt .v0 (.n 64)]) hz,?_⟩
  skip
  refine E_list ?_
  (refine A_cons ?_;refine E_int ?_;refine A_cons ?_;refine E_int ?_;refine A_nil ?_;refine And.intro (Nat.le_of_ble_eq_true rfl) ?_)
  refine O_addL ?_ ?_
  ·show _+2≤1000000
   rw [List.length_take,List.length_drop,List.length_map];exact (lin [_,_,_,_,_,_,_,_] [] (.le (.a .v0 .n2) (.n 1000000)) [.lt .v4 (.n 64),.or (.an (.zl .n0 (.n 13)) (.ze (.c .v3) (.n 13))) (.an (.zt (.n 13) .n0) (.eq .v3 .n0)),.or (.an (.le .v3 .v4) (.eq .v2 .v3)) (.an (.lt .v4 .v3) (.eq .v2 .v4)),.or (.an (.zl .n0 .n1) (.ze (.c .v6) .n1)) (.an (.zt .n1 .n0) (.eq .v6 .n0)),.or (.an (.le .v6 .v4) (.eq .v5 .v6)) (.an (.lt .v4 .v6) (.eq .v5 .v4)),.sb .v1 .v2 .v5,.sb .v7 .v4 .v5,.or (.an (.le .v1 .v7) (.eq .v0 .v1)) (.an (.lt .v7 .v1) (.eq .v0 .v7))]) hz (tnc (13)) (mnc (Int.toNat 13) (xs.length)) (tnc (1)) (mnc (Int.toNat 1) (xs.length)) (sbc (min (Int.toNat 13) xs.length) (min (Int.toNat 1) xs.length)) (sbc (xs.length) (min (Int.toNat 1) xs.length)) (mnc (min (Int.toNat 13) xs.length-min (Int.toNat 1) xs.length) (xs.length-min (Int.toNat 1) xs.length))
  refine I_lst ?_
  rw [show ([AV.int 162,AV.int 3]:List AV)=[162,3].map .int from rfl,←List.map_drop,←List.map_take,←List.map_append]
  generalize (xs.drop _).take _++[162,3]=ns
  refine ⟨fun i Y=>∃ (dd:Nat) (ks:List (Cel×List Int)) (ps:List Int),(dd≤2∧ks.length≤5∧(∀ k∈ks,PkW lv fi k.1 k.2)∧Pl ps)∧Y=⟨(561,tabM)::(510,MO.tabG 510)::(520,MO.tabG 520)::[],[((Str.ofString "deeds"),.int (dd:Nat)),((Str.ofString "aside"),.lst (ks.map .pk)),((Str.ofString "known"),.ints ((leastW lv fi ps).map Cel.id)),((Str.ofString "places"),.ints ps),((Str.ofString "have"),.uni (leastW lv fi ps)),((Str.ofString "first"),.int (fi:Nat)),((Str.ofString "level"),.int (lv:Nat)),((Str.ofString "seed"),.int seed),((Str.ofString "script"),.ints xs)]⟩,⟨_,Conv.rfl,0,[],rg 0 12,⟨by decide,by decide,(fun _ h=>nomatch h),hP0⟩,rfl⟩,?turn,?fin⟩
  case fin =>
   rintro Y ⟨dd,ks,ps,⟨h1,h2,h3,h4⟩,rfl⟩
   exact ⟨rfl,ks,ps,⟨h2,h3,h4⟩,_,rfl,rfl,rfl,rfl,rfl,rfl⟩
  case turn =>
   rintro i x Y hx ⟨dd,ks,ps,⟨hdd,hks,hpk,hP⟩,rfl⟩
   obtain ⟨n,hn,rfl⟩:=ints_at hx
   clear hx hn
   (refine A_name (by exact .inl ⟨rfl,.head _⟩) ?_;dsimp only;refine S_cons ?_;refine S_assign (by exact .inl ⟨rfl,.head _⟩) ?_;refine E_bin ?_;(refine E_name (by exact rfl) ?_);refine E_int ?_;refine O_mod (by decide) ?_;dsimp only;refine Then_next ?_;refine S_cons ?_;refine S_if ?_;refine T_cmp ?_;(refine E_name (by exact rfl) ?_);refine E_int ?_;refine O_lt ?_;refine Tr_bool ?_)
   have h6:=fm_rng n (k:=6) (by decide)
   generalize n.fmod 6=kd at *
   by_cases q:kd<3
   ·rw [if_pos (decide_eq_true q)]
    (refine S_cons ?_;refine S_assign (by exact Own.cell rfl rfl rfl rfl) ?_;refine E_bin ?_;refine E_sliceNeg ?_;(refine E_name (by exact rfl) ?_);refine E_un ?_;refine E_int ?_;refine O_neg ?_)
    refine ⟨_,4,rfl,rfl,by decide,by rw [List.length_map];exact (lin1 (.le .v0 (.n 1000000)) [.le .v0 (.n 5)]) hks,?_⟩
    skip
    refine E_list ?_
    (refine A_cons ?_;refine E_call ?_;dsimp only;(refine' E_global ?hk28 ?e28 ?_;(case hk28=>exact rfl);(case e28=>dsimp only;k_is));(refine' C_raw (keeper_fn ?a29) ?_;(case a29=>dsimp only;k_is));refine Args_plain ?_;refine A_cons ?_;(refine E_name (by exact rfl) ?_);refine A_cons ?_;(refine E_name (by exact rfl) ?_);refine A_cons ?_;refine E_bin ?_;(refine E_name (by exact rfl) ?_);refine E_int ?_;refine O_div (by decide) (by decide) ?_;refine A_nil ?_)
    refine WC.of (pick_c (by (with_reducible assumption)) (by (exact Gd.le (by with_reducible assumption) rfl)) hw fun e part hk=>?_)
    (refine A_nil ?_;refine And.intro (Nat.le_of_ble_eq_true rfl) ?_)
    rw [List.length_map]
    refine O_addL (by rw [List.length_drop,List.length_map];show _+1≤_;exact (lin3 (.le (.a .v0 .n1) (.n 1000000)) [.le .v1 (.n 5),.sb .v2 .v1 .n4,.sb .v0 .v1 .v2]) hks (sbc (ks.length) (4)) (sbc (ks.length) (ks.length-4))) ?_
    rw [show ∀ ys:List AV,ys++[AV.tup [.int e.id,.ints part]]=ys++[(e,part)].map AV.pk from fun _=>rfl,←List.map_drop,←List.map_append]
    (refine Then_next ?_;dsimp only;refine S_last ?_;refine S_continue ?_;refine Then_cont ?_)
    refine ⟨⟨(561,tabM)::(510,MO.tabG 510)::(520,MO.tabG 520)::[],[((Str.ofString "deeds"),.int (dd:Nat)),((Str.ofString "aside"),.lst ((ks.drop (ks.length-4)++[(e,part)]).map .pk)),((Str.ofString "known"),.ints ((leastW lv fi ps).map Cel.id)),((Str.ofString "places"),.ints ps),((Str.ofString "have"),.uni (leastW lv fi ps)),((Str.ofString "first"),.int (fi:Nat)),((Str.ofString "level"),.int (lv:Nat)),((Str.ofString "seed"),.int seed),((Str.ofString "script"),.ints xs)]⟩,?_,dd,_,ps,⟨hdd,?_,?_,hP⟩,rfl⟩
    ·exact Conv.names [((Str.ofString "deeds"),.int (dd:Nat)),((Str.ofString "aside"),.lst ((ks.drop (ks.length-4)++[(e,part)]).map .pk)),((Str.ofString "known"),.ints ((leastW lv fi ps).map Cel.id)),((Str.ofString "places"),.ints ps),((Str.ofString "have"),.uni (leastW lv fi ps)),((Str.ofString "first"),.int (fi:Nat)),((Str.ofString "level"),.int (lv:Nat)),((Str.ofString "seed"),.int seed),((Str.ofString "script"),.ints xs)] (by intro p hp;simp only [List.mem_cons,List.not_mem_nil,or_false] at hp;rcases hp with rfl | rfl | rfl | rfl | rfl | rfl | rfl | rfl | rfl<;>rfl)
    ·rw [List.length_append,List.length_drop,List.length_singleton];exact (lin3 (.le (.a .v0 .n1) (.n 5)) [.le .v1 (.n 5),.sb .v2 .v1 .n4,.sb .v0 .v1 .v2]) hks (sbc (ks.length) (4)) (sbc (ks.length) (ks.length-4))
    ·intro k hk'
     rcases List.mem_append.mp hk' with z | z
     ·exact hpk k (List.mem_of_mem_drop z)
     ·rw [List.mem_singleton.mp z];exact hk
   ·rw [if_neg (by rw [decide_eq_false q];decide)]
    (refine S_nil ?_;refine Then_next ?_;refine S_cons ?_;refine S_if ?_;refine T_cmp ?_;(refine E_name (by exact rfl) ?_);refine E_int ?_;refine O_eq ?_;refine Tr_bool ?_)
    by_cases qd:((dd:Nat):Int)=2
    ·rw [if_pos (decide_eq_true qd)]
     (refine S_last ?_;refine S_break ?_;refine Then_brk ?_)
     exact ⟨rfl,ks,ps,⟨hks,hpk,hP⟩,_,rfl,rfl,rfl,rfl,rfl,rfl⟩
    ·rw [if_neg (by rw [decide_eq_false qd];decide)]
     (refine S_nil ?_;refine Then_next ?_;refine S_cons ?_;refine S_aug (by exact .inl ⟨rfl,.head _⟩) rfl ?_;refine E_int ?_;refine O_iadd ?_;dsimp only;refine Then_next ?_;refine S_cons ?_;refine S_assign (by exact .inl ⟨rfl,.head _⟩) ?_;refine E_call ?_;dsimp only;(refine' E_global ?hk34 ?e34 ?_;(case hk34=>exact rfl);(case e34=>dsimp only;k_is));(refine' C_raw (keeper_keep ?a35) ?_;(case a35=>dsimp only;k_is));refine Args_plain ?_;refine A_cons ?_)
     refine' E_mapF (X₁:=⟨(561,tabM)::(510,MO.tabG 510)::(520,MO.tabG 520)::[],[((Str.ofString "deeds"),.int ((dd:Nat)+1:Int)),((Str.ofString "kind"),.int kd),((Str.ofString "number"),.int n),((Str.ofString "deeds"),.int (dd:Nat)),((Str.ofString "aside"),.lst (ks.map .pk)),((Str.ofString "known"),.ints ((leastW lv fi ps).map Cel.id)),((Str.ofString "places"),.ints ps),((Str.ofString "have"),.uni (leastW lv fi ps)),((Str.ofString "first"),.int (fi:Nat)),((Str.ofString "level"),.int (lv:Nat)),((Str.ofString "seed"),.int seed),((Str.ofString "script"),.ints xs)]⟩) (xs:=ks.map .pk) (ys:=((ks.map (·.1)).map Cel.id).map .int) [] ?i2 ?len2 ?z2 ?m2 ?ifs2 ?item2 ?q2 ?nd2 ?free2 ?cell2 ?kind2 ?names2 ?as2 ?f2
     case nd2=>decide
     case free2=>exact freeOk rfl
     case cell2=>decide
     case kind2=>rfl
     case names2=>decide
     case as2=>rfl
     case f2=>intro x;rfl
     case ifs2=>rfl
     case m2=>exact fun p h=>nomatch h
     case i2 =>
      ((refine E_name (by exact rfl) ?_);dsimp only)
      exact I_lst ⟨rfl,rfl,rfl⟩
     case len2=>simp
     case z2=>rw [List.length_map];exact (lin1 (.le .v0 (.n 1000000)) [.le .v0 (.n 5)]) hks
     case item2 =>
      intro Ca Da i x y okC hx hy
      obtain ⟨k,hk,rfl⟩:=pks_at hx
      rw [List.getElem?_map,List.getElem?_map,List.getElem?_map,hk] at hy
      cases hy
      dsimp only [Cx.block]
      (refine A_name (by exact .inl ⟨rfl,.head _⟩) ?_;dsimp only;refine E_sub ?_;(refine E_name (by exact rfl) ?_);refine E_int ?_;refine Su_tup (i:=0) rfl (by simp only [cellsV,List.length_map,List.length_reverse,List.length_cons,List.length_append,List.length_nil];decide) ?_;dsimp only)
      exact ⟨rfl,rfl,fun p h=>nomatch h⟩
     (refine A_nil ?_)
     refine WC.of (newI_n (by (with_reducible assumption)) (by (exact Gd.le (by with_reducible assumption) rfl)) (fun e he=>?okV) (by rw [List.length_map];exact (lin1 (.lt .v0 (.n 64)) [.le .v0 (.n 5)]) hks) fun cs hp hs=>?_)
     case okV =>
      obtain ⟨k,hk,rfl⟩:=List.mem_map.mp he
      exact (hpk k hk).ok
     have UF:=UW.fill hw hpk hp hs
     have hF:=UF.pl
     rw [UF.eq]
     clear hp hs UF
     (refine Then_next ?_;dsimp only;refine S_cons ?_;refine S_assign (by exact Own.cell rfl rfl rfl rfl) ?_)
     refine' E_filtC (X₁:=⟨(561,tabM)::(510,MO.tabG 510)::(520,MO.tabG 520)::[],[((Str.ofString "other"),.uni (leastW lv fi (fillOf ks))),((Str.ofString "deeds"),.int ((dd:Nat)+1:Int)),((Str.ofString "kind"),.int kd),((Str.ofString "number"),.int n),((Str.ofString "deeds"),.int (dd:Nat)),((Str.ofString "aside"),.lst (ks.map .pk)),((Str.ofString "known"),.ints ((leastW lv fi ps).map Cel.id)),((Str.ofString "places"),.ints ps),((Str.ofString "have"),.uni (leastW lv fi ps)),((Str.ofString "first"),.int (fi:Nat)),((Str.ofString "level"),.int (lv:Nat)),((Str.ofString "seed"),.int seed),((Str.ofString "script"),.ints xs)]⟩) (xs:=upto 24) (fI fun p=>ks.any fun k=>decide (p∈k.2)) [((Str.ofString "aside"),.lst (ks.map .pk))] ?i3 ?z3 ?m3 ?ifs3 ?item3 ?q3 ?free3 ?kind3 ?names3 ?as3 ?f3
     case free3=>exact freeOk rfl
     case kind3=>rfl
     case names3=>decide
     case as3=>rfl
     case f3=>intro x;rfl
     case ifs3=>rfl
     case m3=>intro p hp;rw [List.mem_singleton.mp hp];exact ⟨rfl,⟨.inl rfl,.inl rfl,rfl⟩,fun _=>rfl⟩
     case i3 =>
      (refine E_call ?_;dsimp only;(refine' E_builtin (v:=.type ?id38) ?hk38 ?e38 ?hv38 ?hn38 ?_;(case hk38=>exact rfl);(case e38=>dsimp only;k_is);(case hv38=>exact rfl);(case hn38=>decide));refine C_raw keeper_type ?_;refine Args_plain ?_;refine A_cons ?_;refine E_int ?_;refine A_nil ?_;refine B_range ?_)
      refine I_rng (by decide) (by decide) ?_
      exact ⟨rfl,rfl,rfl⟩
     case z3=>decide
     case item3 =>
      intro Ca Da i x okC hx
      obtain ⟨hi,rfl⟩:=upto_at hx
      refine A_name (Own.cellOf rfl rfl) ?_
      dsimp only [Cx.blockC]
      generalize ((i:Nat):Int)=p
      (refine T_cmp ?_)
      refine' E_filt (X₁:=⟨(Da,.lst (((upto 24).take i).filterMap (fI fun p=>ks.any fun k=>decide (p∈k.2))))::(561,tabM)::(510,MO.tabG 510)::(520,MO.tabG 520)::[],[((Str.ofString "place"),.int p),((Str.ofString "aside"),.lst (ks.map .pk))]⟩) (xs:=ks.map .pk) (fP p) [((Str.ofString "place"),.int p)] ?i4 ?z4 ?m4 ?ifs4 ?item4 ?q4 ?free4 ?cell4 ?kind4 ?names4 ?as4 ?f4
      case free4=>exact freeOk rfl
      case cell4=>decide
      case kind4=>rfl
      case names4=>decide
      case as4=>rfl
      case f4=>intro x;rfl
      case ifs4=>rfl
      case m4=>intro p hp;rw [List.mem_singleton.mp hp];exact ⟨rfl,.inl rfl,.inl rfl,rfl⟩
      case i4 =>
       ((refine E_name (by exact rfl) ?_);dsimp only)
       exact I_lst ⟨rfl,rfl,rfl⟩
      case z4=>rw [List.length_map];exact (lin1 (.le .v0 (.n 1000000)) [.le .v0 (.n 5)]) hks
      case item4 =>
       intro Ca Da i x okC hx
       obtain ⟨k,hk,rfl⟩:=pks_at hx
       dsimp only [Cx.block]
       (refine A_name (by exact .inl ⟨rfl,.head _⟩) ?_;dsimp only;refine T_cmp ?_;(refine E_name (by exact rfl) ?_);refine E_sub ?_;(refine E_name (by exact rfl) ?_);refine E_int ?_;refine Su_tup (i:=1) rfl (by simp only [cellsV,List.length_map,List.length_reverse,List.length_cons,List.length_append,List.length_nil];decide) ?_;refine O_inInts ?_;refine Tr_bool ?_;dsimp only)
       by_cases q:p∈k.2
       ·rw [decide_eq_true q]
        refine ⟨by rw [fP_yes q];rfl,?_⟩
        rw [if_pos rfl]
        (refine E_int ?_;dsimp only)
        exact ⟨fP_yes q,rfl,fun p hp=>by rw [List.mem_singleton.mp hp];rfl⟩
       ·rw [decide_eq_false q]
        refine ⟨by rw [fP_no q];rfl,?_⟩
        rw [if_neg (by decide)]
        exact ⟨rfl,fun p hp=>by rw [List.mem_singleton.mp hp];rfl⟩
      rw [fP_all]
      skip
      refine E_list ?_
      (refine A_nil ?_;refine And.intro (Nat.le_of_ble_eq_true rfl) ?_)
      refine O_neInts (ms:=[]) (by (exact Gd.le (by with_reducible assumption) rfl)) ?_
      rw [fP_any]
      (refine Tr_bool ?_;dsimp only)
      have hy:fI (fun p=>ks.any fun k=>decide (p∈k.2)) (.int p)=if (ks.any fun k=>decide (p∈k.2))=true then some (.int p) else Option.none:=rfl
      rw [hy]
      cases ks.any fun k=>decide (p∈k.2) with
      | true =>
       refine ⟨rfl,?_⟩
       rw [if_pos rfl]
       ((refine E_name (by exact rfl) ?_);dsimp only;rw [if_pos rfl])
       exact ⟨rfl,rfl,fun p hp=>by rw [List.mem_singleton.mp hp];rfl⟩
      | false =>
       refine ⟨rfl,?_⟩
       rw [if_neg (by decide)]
       exact ⟨rfl,fun p hp=>by rw [List.mem_singleton.mp hp];rfl⟩
     rw [upto24,fI_ints,show all24.filter (fun p=>ks.any fun k=>decide (p∈k.2))=fillOf ks from rfl]
     have uA:UW lv fi ps (leastW lv fi ps):=⟨hP,rfl⟩
     have uF:UW lv fi (fillOf ks) (leastW lv fi (fillOf ks)):=⟨hF,rfl⟩
     have lA:=uA.least hw
     have lF:=uF.least hw
     have nA:=uA.len
     have nF:=uF.len
     have npl:ps.length≤24:=asc_len 24 0 ps hP.asc fun x hx=>by have:=hP.rng x hx;exact (lin [] [_] (.an (.zl .n0 .v0) (.zt .v0 (.a .n0 (.c (.n 24))))) [.an (.zl .n0 .v0) (.zt .v0 (.n 24))]) this
     have npf:(fillOf ks).length≤24:=asc_len 24 0 _ hF.asc fun x hx=>by have:=hF.rng x hx;exact (lin [] [_] (.an (.zl .n0 .v0) (.zt .v0 (.a .n0 (.c (.n 24))))) [.an (.zl .n0 .v0) (.zt .v0 (.n 24))]) this
     refine Then_next ?_
     refine S_cons ?_
     refine WT.imp (Q:=fun F Y=>F=AF.next∧∃ now:List Int,Pl now∧∃ σ' mm,σ'.Perm ((561,tabM)::(510,MO.tabG 510)::(520,MO.tabG 520)::[])∧Y=⟨σ',mm⟩∧mm.lookup (Str.ofString "now")=some (.ints now)∧mm.lookup (Str.ofString "new")=some (.uni (leastW lv fi now))∧mm.lookup (Str.ofString "filled")=some (.ints (fillOf ks))∧mm.lookup (Str.ofString "other")=some (.uni (leastW lv fi (fillOf ks)))∧mm.lookup (Str.ofString "deeds")=some (.int ((dd:Nat)+1:Int))∧mm.lookup (Str.ofString "aside")=some (.lst (ks.map .pk))∧mm.lookup (Str.ofString "known")=some (.ints ((leastW lv fi ps).map Cel.id))∧mm.lookup (Str.ofString "places")=some (.ints ps)∧mm.lookup (Str.ofString "have")=some (.uni (leastW lv fi ps))∧mm.lookup (Str.ofString "first")=some (.int (fi:Nat))∧mm.lookup (Str.ofString "level")=some (.int (lv:Nat))∧mm.lookup (Str.ofString "seed")=some (.int seed)∧mm.lookup (Str.ofString "script")=some (.ints xs)) ?k1 ?k2
     case k1 =>
      (refine S_if ?_;dsimp only;refine T_cmp ?_;(refine E_name (by exact rfl) ?_);refine E_int ?_;refine O_eq ?_;refine Tr_bool ?_)
      by_cases q3:kd=3
      ·rw [if_pos (decide_eq_true q3)]
       (refine S_cons ?_;refine S_assign (by exact .inl ⟨rfl,.head _⟩) ?_;refine E_meth ?_;dsimp only;(refine' E_global ?hk44 ?e44 ?_;(case hk44=>exact rfl);(case e44=>dsimp only;k_is));refine' M_cmm ?hs45 ?hm45 ?a45 ?b45 ?d45 ?f45 ?_;(case hs45=>dsimp only;k_is);(case hm45=>dsimp only;k_is);(case a45=>dsimp only;k_is);(case b45=>dsimp only;k_is);(case d45=>dsimp only;k_is);(case f45=>dsimp only;k_is);skip;refine Args_plain ?_;refine A_cons ?_;(refine E_name (by exact rfl) ?_);refine A_cons ?_;(refine E_name (by exact rfl) ?_);refine A_nil ?_)
       refine union_c (by (with_reducible assumption)) (by (exact Gd.le (by with_reducible assumption) rfl)) lA.ok lF.ok (by exact (lin2 (.lt (.a .v0 .v1) (.n 64)) [.le .v0 (.n 24),.le .v1 (.n 24)]) nA nF) fun es hp hs=>?_
       have U:=uA.union uF hw hp hs
       have hN:=U.pl
       rw [U.eq]
       clear hp hs U es
       (refine Then_next ?_;dsimp only;refine S_last ?_)
       refine' S_filtA (X₁:=⟨(561,tabM)::(510,MO.tabG 510)::(520,MO.tabG 520)::[],[((Str.ofString "new"),.uni (leastW lv fi (orOf ps (fillOf ks)))),((Str.ofString "filled"),.ints (fillOf ks)),((Str.ofString "other"),.uni (leastW lv fi (fillOf ks))),((Str.ofString "deeds"),.int ((dd:Nat)+1:Int)),((Str.ofString "kind"),.int kd),((Str.ofString "number"),.int n),((Str.ofString "deeds"),.int (dd:Nat)),((Str.ofString "aside"),.lst (ks.map .pk)),((Str.ofString "known"),.ints ((leastW lv fi ps).map Cel.id)),((Str.ofString "places"),.ints ps),((Str.ofString "have"),.uni (leastW lv fi ps)),((Str.ofString "first"),.int (fi:Nat)),((Str.ofString "level"),.int (lv:Nat)),((Str.ofString "seed"),.int seed),((Str.ofString "script"),.ints xs)]⟩) (xs:=upto 24) (fI fun p=>decide (p∈ps) || decide (p∈fillOf ks)) [((Str.ofString "places"),.ints ps),((Str.ofString "filled"),.ints (fillOf ks))] ?hl5 ?hw5 ?hsw5 ?i5 ?z5 ?m5 ?ifs5 ?item5 ?q5 ?free5 ?cell5 ?kind5 ?names5 ?as5 ?f5
       case hl5=>rfl
       case hw5=>exact .head _
       case hsw5=>rfl
       case free5=>exact freeOk rfl
       case cell5=>decide
       case kind5=>rfl
       case names5=>decide
       case as5=>rfl
       case f5=>intro x;rfl
       case ifs5=>rfl
       case m5=>intro p hp;rcases List.mem_cons.mp hp with rfl | hp;exact ⟨rfl,.inl rfl,.inl rfl,rfl⟩;rw [List.mem_singleton.mp hp];exact ⟨rfl,.inl rfl,.inl rfl,rfl⟩
       case i5 =>
        (refine E_call ?_;dsimp only;(refine' E_builtin (v:=.type ?id48) ?hk48 ?e48 ?hv48 ?hn48 ?_;(case hk48=>exact rfl);(case e48=>dsimp only;k_is);(case hv48=>exact rfl);(case hn48=>decide));refine C_raw keeper_type ?_;refine Args_plain ?_;refine A_cons ?_;refine E_int ?_;refine A_nil ?_;refine B_range ?_)
        refine I_rng (by decide) (by decide) ?_
        exact ⟨rfl,rfl,rfl⟩
       case z5=>decide
       case item5 =>
        intro Ca Da i x okC hx
        obtain ⟨hi,rfl⟩:=upto_at hx
        dsimp only [Cx.block]
        generalize ((i:Nat):Int)=p
        (refine A_name (by exact .inl ⟨rfl,.head _⟩) ?_;dsimp only;refine T_or ?_;refine T_cmp ?_;(refine E_name (by exact rfl) ?_);(refine E_name (by exact rfl) ?_);refine O_inInts ?_;refine Tr_bool ?_;dsimp only;rw [if_pos rfl])
        by_cases q1:p∈ps
        ·rw [if_pos (decide_eq_true q1)]
         refine ⟨by rw [fI_yes (by rw [decide_eq_true q1];rfl)];rfl,?_⟩
         try rw [if_pos rfl]
         ((refine E_name (by exact rfl) ?_);dsimp only)
         exact ⟨fI_yes (by rw [decide_eq_true q1];rfl),rfl,fun p hp=>by rcases List.mem_cons.mp hp with rfl | hp;rfl;rw [List.mem_singleton.mp hp];rfl⟩
        ·rw [if_neg (by rw [decide_eq_false q1];decide)]
         (refine T_or ?_;refine T_cmp ?_;(refine E_name (by exact rfl) ?_);(refine E_name (by exact rfl) ?_);refine O_inInts ?_;refine Tr_bool ?_;dsimp only;rw [if_pos rfl])
         by_cases q2:p∈fillOf ks
         ·rw [if_pos (decide_eq_true q2)]
          refine ⟨by rw [fI_yes (by rw [decide_eq_true q2,Bool.or_true])];rfl,?_⟩
          try rw [if_pos rfl]
          ((refine E_name (by exact rfl) ?_);dsimp only)
          exact ⟨fI_yes (by rw [decide_eq_true q2,Bool.or_true]),rfl,fun p hp=>by rcases List.mem_cons.mp hp with rfl | hp;rfl;rw [List.mem_singleton.mp hp];rfl⟩
         ·rw [if_neg (by rw [decide_eq_false q2];decide)]
          (refine T_or_nil ?_;dsimp only;rw [if_neg (by decide)])
          refine ⟨by rw [fI_no (by rw [decide_eq_false q1,decide_eq_false q2];rfl)];rfl,?_⟩
          try rw [if_neg (by decide)]
          exact ⟨rfl,fun p hp=>by rcases List.mem_cons.mp hp with rfl | hp;rfl;rw [List.mem_singleton.mp hp];rfl⟩
       rw [upto24,fI_ints,show all24.filter (fun p=>decide (p∈ps) || decide (p∈fillOf ks))=orOf ps (fillOf ks) from rfl]
       refine ⟨rfl,_,hN,_,_,.refl _,rfl,rfl,rfl,rfl,rfl,rfl,rfl,rfl,rfl,rfl,rfl,rfl,rfl,rfl⟩
      rw [if_neg (by rw [decide_eq_false q3];decide)]
      (refine S_last ?_;refine S_if ?_;refine T_cmp ?_;(refine E_name (by exact rfl) ?_);refine E_int ?_;refine O_eq ?_;refine Tr_bool ?_)
      by_cases q4:kd=4
      ·rw [if_pos (decide_eq_true q4)]
       (refine S_cons ?_;refine S_assign (by exact .inl ⟨rfl,.head _⟩) ?_;refine E_meth ?_;dsimp only;(refine' E_global ?hk56 ?e56 ?_;(case hk56=>exact rfl);(case e56=>dsimp only;k_is));refine' M_cmm ?hs57 ?hm57 ?a57 ?b57 ?d57 ?f57 ?_;(case hs57=>dsimp only;k_is);(case hm57=>dsimp only;k_is);(case a57=>dsimp only;k_is);(case b57=>dsimp only;k_is);(case d57=>dsimp only;k_is);(case f57=>dsimp only;k_is);skip;refine Args_plain ?_;refine A_cons ?_;(refine E_name (by exact rfl) ?_);refine A_cons ?_;(refine E_name (by exact rfl) ?_);refine A_nil ?_)
       refine inter2_c (by (with_reducible assumption)) (by (exact Gd.le (by with_reducible assumption) rfl)) C2 rfl lA.ok lF.ok lA.asc lF.asc (by exact (lin2 (.lt (.a .v0 .v1) (.n 64)) [.le .v0 (.n 24),.le .v1 (.n 24)]) nA nF) fun C₄ hL lC₄=>?_
       have U:=uA.inter uF hw hL
       have hN:=U.pl
       rw [U.eq]
       clear hL lC₄ U C₄
       (refine Then_next ?_;dsimp only;refine S_last ?_)
       refine' S_filtA (X₁:=⟨(561,tabM)::(510,MO.tabG 510)::(520,MO.tabG 520)::[],[((Str.ofString "new"),.uni (leastW lv fi (andOf ps (fillOf ks)))),((Str.ofString "filled"),.ints (fillOf ks)),((Str.ofString "other"),.uni (leastW lv fi (fillOf ks))),((Str.ofString "deeds"),.int ((dd:Nat)+1:Int)),((Str.ofString "kind"),.int kd),((Str.ofString "number"),.int n),((Str.ofString "deeds"),.int (dd:Nat)),((Str.ofString "aside"),.lst (ks.map .pk)),((Str.ofString "known"),.ints ((leastW lv fi ps).map Cel.id)),((Str.ofString "places"),.ints ps),((Str.ofString "have"),.uni (leastW lv fi ps)),((Str.ofString "first"),.int (fi:Nat)),((Str.ofString "level"),.int (lv:Nat)),((Str.ofString "seed"),.int seed),((Str.ofString "script"),.ints xs)]⟩) (xs:=ps.map .int) (fI fun p=>decide (p∈fillOf ks)) [((Str.ofString "filled"),.ints (fillOf ks))] ?hl6 ?hw6 ?hsw6 ?i6 ?z6 ?m6 ?ifs6 ?item6 ?q6 ?free6 ?cell6 ?kind6 ?names6 ?as6 ?f6
       case hl6=>rfl
       case hw6=>exact .head _
       case hsw6=>rfl
       case free6=>exact freeOk rfl
       case cell6=>decide
       case kind6=>rfl
       case names6=>decide
       case as6=>rfl
       case f6=>intro x;rfl
       case ifs6=>rfl
       case m6=>intro p hp;rw [List.mem_singleton.mp hp];exact ⟨rfl,.inl rfl,.inl rfl,rfl⟩
       case i6 =>
        ((refine E_name (by exact rfl) ?_);dsimp only)
        exact I_lst ⟨rfl,rfl,rfl⟩
       case z6=>rw [List.length_map];exact (lin1 (.le .v0 (.n 1000000)) [.le .v0 (.n 24)]) npl
       case item6 =>
        intro Ca Da i x okC hx
        obtain ⟨p,hp,rfl⟩:=ints_at hx
        dsimp only [Cx.block]
        (refine A_name (by exact .inl ⟨rfl,.head _⟩) ?_;dsimp only;refine T_cmp ?_;(refine E_name (by exact rfl) ?_);(refine E_name (by exact rfl) ?_);refine O_inInts ?_;refine Tr_bool ?_;dsimp only)
        by_cases q2:p∈fillOf ks
        ·rw [decide_eq_true q2]
         refine ⟨by rw [fI_yes (decide_eq_true q2)];rfl,?_⟩
         try rw [if_pos rfl]
         ((refine E_name (by exact rfl) ?_);dsimp only)
         exact ⟨fI_yes (decide_eq_true q2),rfl,fun p hp=>by rw [List.mem_singleton.mp hp];rfl⟩
        ·rw [decide_eq_false q2]
         refine ⟨by rw [fI_no (decide_eq_false q2)];rfl,?_⟩
         try rw [if_neg (by decide)]
         exact ⟨rfl,fun p hp=>by rw [List.mem_singleton.mp hp];rfl⟩
       rw [fI_ints,show ps.filter (fun p=>decide (p∈fillOf ks))=andOf ps (fillOf ks) from rfl]
       refine ⟨rfl,_,hN,_,_,.refl _,rfl,rfl,rfl,rfl,rfl,rfl,rfl,rfl,rfl,rfl,rfl,rfl,rfl,rfl⟩
      rw [if_neg (by rw [decide_eq_false q4];decide)]
      refine WT.pre (Conv.perm (τ:=(561,tabM)::(520,MO.tabG 520)::(510,MO.tabG 510)::[]) (.cons _ (.swap _ _ _))) ?_
      dsimp only
      (refine S_cons ?_;refine S_assign (by exact .inl ⟨rfl,.head _⟩) ?_;refine E_meth ?_;dsimp only;(refine' E_global ?hk64 ?e64 ?_;(case hk64=>exact rfl);(case e64=>dsimp only;k_is));refine' M_cmm ?hs65 ?hm65 ?a65 ?b65 ?d65 ?f65 ?_;(case hs65=>dsimp only;k_is);(case hm65=>dsimp only;k_is);(case a65=>dsimp only;k_is);(case b65=>dsimp only;k_is);(case d65=>dsimp only;k_is);(case f65=>dsimp only;k_is);skip;refine Args_plain ?_;refine A_cons ?_;(refine E_name (by exact rfl) ?_);refine A_cons ?_;(refine E_name (by exact rfl) ?_);refine A_nil ?_)
      refine gd_c (gs:=six lv fi) (by (with_reducible assumption)) (by (exact Gd.le (by with_reducible assumption) rfl)) C3 rfl (lA.congr fun x=>(lA.lf x).symm) (lF.congr fun x=>(lF.lf x).symm) (uF.tells hw) (by exact (lin1 (.lt .v0 (.n 64)) [.le .v0 (.n 24)]) nF) (uA.room hw) fun C₄ hL lC₄=>?_
      have U:=uA.diff uF hw hL
      have hN:=U.pl
      rw [U.eq]
      clear hL lC₄ U C₄
      (refine Then_next ?_;dsimp only;refine S_last ?_)
      refine' S_filtA (X₁:=⟨(561,tabM)::(520,MO.tabG 520)::(510,MO.tabG 510)::[],[((Str.ofString "new"),.uni (leastW lv fi (butOf ps (fillOf ks)))),((Str.ofString "filled"),.ints (fillOf ks)),((Str.ofString "other"),.uni (leastW lv fi (fillOf ks))),((Str.ofString "deeds"),.int ((dd:Nat)+1:Int)),((Str.ofString "kind"),.int kd),((Str.ofString "number"),.int n),((Str.ofString "deeds"),.int (dd:Nat)),((Str.ofString "aside"),.lst (ks.map .pk)),((Str.ofString "known"),.ints ((leastW lv fi ps).map Cel.id)),((Str.ofString "places"),.ints ps),((Str.ofString "have"),.uni (leastW lv fi ps)),((Str.ofString "first"),.int (fi:Nat)),((Str.ofString "level"),.int (lv:Nat)),((Str.ofString "seed"),.int seed),((Str.ofString "script"),.ints xs)]⟩) (xs:=ps.map .int) (fI fun p=>!decide (p∈fillOf ks)) [((Str.ofString "filled"),.ints (fillOf ks))] ?hl7 ?hw7 ?hsw7 ?i7 ?z7 ?m7 ?ifs7 ?item7 ?q7 ?free7 ?cell7 ?kind7 ?names7 ?as7 ?f7
      case hl7=>rfl
      case hw7=>exact .head _
      case hsw7=>rfl
      case free7=>exact freeOk rfl
      case cell7=>decide
      case kind7=>rfl
      case names7=>decide
      case as7=>rfl
      case f7=>intro x;rfl
      case ifs7=>rfl
      case m7=>intro p hp;rw [List.mem_singleton.mp hp];exact ⟨rfl,.inl rfl,.inl rfl,rfl⟩
      case i7 =>
       ((refine E_name (by exact rfl) ?_);dsimp only)
       exact I_lst ⟨rfl,rfl,rfl⟩
      case z7=>rw [List.length_map];exact (lin1 (.le .v0 (.n 1000000)) [.le .v0 (.n 24)]) npl
      case item7 =>
       intro Ca Da i x okC hx
       obtain ⟨p,hp,rfl⟩:=ints_at hx
       dsimp only [Cx.block]
       (refine A_name (by exact .inl ⟨rfl,.head _⟩) ?_;dsimp only;refine T_cmp ?_;(refine E_name (by exact rfl) ?_);(refine E_name (by exact rfl) ?_);refine O_notinInts ?_;refine Tr_bool ?_;dsimp only)
       by_cases q2:p∈fillOf ks
       ·rw [decide_eq_true q2,Bool.not_true]
        refine ⟨by rw [fI_no (by rw [decide_eq_true q2];rfl)];rfl,?_⟩
        try rw [if_neg (by decide)]
        exact ⟨rfl,fun p hp=>by rw [List.mem_singleton.mp hp];rfl⟩
       ·rw [decide_eq_false q2,Bool.not_false]
        refine ⟨by rw [fI_yes (by rw [decide_eq_false q2];rfl)];rfl,?_⟩
        try rw [if_pos rfl]
        ((refine E_name (by exact rfl) ?_);dsimp only)
        exact ⟨fI_yes (by rw [decide_eq_false q2];rfl),rfl,fun p hp=>by rw [List.mem_singleton.mp hp];rfl⟩
      rw [fI_ints,show ps.filter (fun p=>!decide (p∈fillOf ks))=butOf ps (fillOf ks) from rfl]
      refine ⟨rfl,_,hN,_,_,.cons _ (.swap _ _ _),rfl,rfl,rfl,rfl,rfl,rfl,rfl,rfl,rfl,rfl,rfl,rfl,rfl,rfl⟩
     rintro F Y ⟨rfl,now,hN,σ',mm,hσ,rfl,e0,e1,e2,e3,e4,e5,e6,e7,e8,e9,e10,e11,e12⟩
     refine Then_next ?_
     refine WT.pre (Conv.perm hσ) ?_
     refine WT.pre (Conv.names [((Str.ofString "now"),.ints now),((Str.ofString "new"),.uni (leastW lv fi now)),((Str.ofString "filled"),.ints (fillOf ks)),((Str.ofString "other"),.uni (leastW lv fi (fillOf ks))),((Str.ofString "deeds"),.int ((dd:Nat)+1:Int)),((Str.ofString "aside"),.lst (ks.map .pk)),((Str.ofString "known"),.ints ((leastW lv fi ps).map Cel.id)),((Str.ofString "places"),.ints ps),((Str.ofString "have"),.uni (leastW lv fi ps)),((Str.ofString "first"),.int (fi:Nat)),((Str.ofString "level"),.int (lv:Nat)),((Str.ofString "seed"),.int seed),((Str.ofString "script"),.ints xs)] (by
      intro p hp
      simp only [List.mem_cons,List.not_mem_nil,or_false] at hp
      rcases hp with rfl | rfl | rfl | rfl | rfl | rfl | rfl | rfl | rfl | rfl | rfl | rfl | rfl<;>assumption)) ?_
     clear e0 e1 e2 e3 e4 e5 e6 e7 e8 e9 e10 e11 e12 hσ
     dsimp only
     have uN:UW lv fi now (leastW lv fi now):=⟨hN,rfl⟩
     have lN:=uN.least hw
     have nN:=uN.len
     (refine S_cons ?_;refine S_assign (by exact .inl ⟨rfl,.head _⟩) ?_;refine E_call ?_;dsimp only;(refine' E_global ?hk72 ?e72 ?_;(case hk72=>exact rfl);(case e72=>dsimp only;k_is));(refine' C_raw (keeper_fn ?a73) ?_;(case a73=>dsimp only;k_is));refine Args_plain ?_;refine A_cons ?_;(refine E_name (by exact rfl) ?_);refine A_cons ?_;(refine E_name (by exact rfl) ?_);refine A_cons ?_;(refine E_name (by exact rfl) ?_);refine A_nil ?_)
     refine WC.of (least7_c (by (with_reducible assumption)) (by (exact Gd.le (by with_reducible assumption) rfl)) hw hN ?_)
     (refine Then_next ?_;dsimp only;refine S_cons ?_;refine S_if ?_;refine T_or ?_;refine T_cmp ?_;refine E_call ?_;dsimp only;(refine' E_global ?hk77 ?e77 ?_;(case hk77=>exact rfl);(case e77=>dsimp only;k_is));(refine' C_raw (keeper_fn ?a78) ?_;(case a78=>dsimp only;k_is));refine Args_plain ?_;refine A_cons ?_;(refine E_name (by exact rfl) ?_);refine A_nil ?_)
     refine WC.of (lids7_c (by (with_reducible assumption)) (by (exact Gd.le (by with_reducible assumption) rfl)) (by exact (lin1 (.le .v0 (.n 1000)) [.le .v0 (.n 24)]) nN) ?_)
     ((refine E_name (by exact rfl) ?_))
     refine O_neInts (by (exact Gd.le (by with_reducible assumption) rfl)) ?_
     rw [decide_eq_true rfl]
     (refine Tr_bool ?_;rw [if_pos rfl];rw [if_neg (by decide)];refine T_or ?_;refine T_cmp ?_;refine E_call ?_;dsimp only;(refine' E_global ?hk81 ?e81 ?_;(case hk81=>exact rfl);(case e81=>dsimp only;k_is));(refine' C_raw (keeper_fn ?a82) ?_;(case a82=>dsimp only;k_is));refine Args_plain ?_;refine A_cons ?_;(refine E_name (by exact rfl) ?_);refine A_nil ?_)
     refine WC.of (lids7_c (by (with_reducible assumption)) (by (exact Gd.le (by with_reducible assumption) rfl)) (by exact (lin1 (.le .v0 (.n 1000)) [.le .v0 (.n 24)]) nA) ?_)
     ((refine E_name (by exact rfl) ?_))
     refine O_neInts (by (exact Gd.le (by with_reducible assumption) rfl)) ?_
     rw [decide_eq_true rfl]
     (refine Tr_bool ?_;rw [if_pos rfl];rw [if_neg (by decide)];refine T_or ?_;refine T_cmp ?_;refine E_call ?_;dsimp only;(refine' E_global ?hk85 ?e85 ?_;(case hk85=>exact rfl);(case e85=>dsimp only;k_is));(refine' C_raw (keeper_fn ?a86) ?_;(case a86=>dsimp only;k_is));refine Args_plain ?_;refine A_cons ?_;(refine E_name (by exact rfl) ?_);refine A_nil ?_)
     refine WC.of (lids7_c (by (with_reducible assumption)) (by (exact Gd.le (by with_reducible assumption) rfl)) (by exact (lin1 (.le .v0 (.n 1000)) [.le .v0 (.n 24)]) nF) ?_)
     (refine E_call ?_;dsimp only;(refine' E_global ?hk88 ?e88 ?_;(case hk88=>exact rfl);(case e88=>dsimp only;k_is));(refine' C_raw (keeper_fn ?a89) ?_;(case a89=>dsimp only;k_is));refine Args_plain ?_;refine A_cons ?_;(refine E_name (by exact rfl) ?_);refine A_cons ?_;(refine E_name (by exact rfl) ?_);refine A_cons ?_;(refine E_name (by exact rfl) ?_);refine A_nil ?_)
     refine WC.of (least7_c (by (with_reducible assumption)) (by (exact Gd.le (by with_reducible assumption) rfl)) hw hF ?_)
     skip
     refine O_neInts (by (exact Gd.le (by with_reducible assumption) rfl)) ?_
     rw [decide_eq_true rfl]
     (refine Tr_bool ?_;rw [if_pos rfl];rw [if_neg (by decide)];refine T_or_nil ?_;rw [if_neg (by decide)];refine S_nil ?_;refine Then_next ?_;refine S_cons ?_;refine S_if ?_;refine T_or ?_;refine T_cmp ?_;refine E_cmp ?_;(refine E_name (by exact rfl) ?_);(refine E_name (by exact rfl) ?_))
     refine' O_cmp ?hi51 ?hj51 ?a51 ?b51 ?d51 (fun _ _=>rfl) ?_
     case hi51=>exact .inl rfl
     case hj51=>exact .inl rfl
     case a51=>(dsimp only;k_is)
     case b51=>(dsimp only;k_is)
     case d51=>(dsimp only;k_is)
     refine ueq_c (by (with_reducible assumption)) (by (exact Gd.le (by with_reducible assumption) rfl)) ⟨_,rfl,?_⟩
     (refine E_cmp ?_;(refine E_name (by exact rfl) ?_);(refine E_name (by exact rfl) ?_))
     refine O_eqInts (by (exact Gd.le (by with_reducible assumption) rfl)) ?_
     (refine O_neBool ?_;refine Tr_bool ?_;rw [if_pos rfl])
     rw [beq_self_eq_true,Bool.not_true,if_neg (by decide)]
     (refine T_or ?_;refine T_cmp ?_;refine E_cmp ?_;(refine E_name (by exact rfl) ?_);(refine E_name (by exact rfl) ?_))
     refine' O_cmp ?hi52 ?hj52 ?a52 ?b52 ?d52 (fun _ _=>rfl) ?_
     case hi52=>exact .inl rfl
     case hj52=>exact .inl rfl
     case a52=>(dsimp only;k_is)
     case b52=>(dsimp only;k_is)
     case d52=>(dsimp only;k_is)
     refine une_c (by (with_reducible assumption)) (by (exact Gd.le (by with_reducible assumption) rfl)) ⟨_,rfl,?_⟩
     (refine E_cmp ?_;(refine E_name (by exact rfl) ?_);(refine E_name (by exact rfl) ?_))
     refine O_neInts (by (exact Gd.le (by with_reducible assumption) rfl)) ?_
     (refine O_neBool ?_;refine Tr_bool ?_;rw [if_pos rfl])
     rw [beq_self_eq_true]
     (rw [if_neg (by decide)];refine T_or_nil ?_;rw [if_neg (by decide)];refine S_nil ?_;refine Then_next ?_;refine S_cons ?_;refine S_if ?_;refine T_cmp ?_;refine E_meth ?_;dsimp only;(refine E_name (by exact rfl) ?_);refine' M_fn ?hi102 ?a102 ?b102 ?c102 ?d102 ?e102 ?_;(case hi102=>exact .inl rfl);(case a102=>dsimp only;k_is);(case b102=>dsimp only;k_is);(case c102=>dsimp only;k_is);(case d102=>dsimp only;k_is);(case e102=>decide);refine Args_plain ?_;refine A_cons ?_;(refine E_name (by exact rfl) ?_);refine A_nil ?_)
     refine WC.of (ucont_c (by (with_reducible assumption)) (by (exact Gd.le (by with_reducible assumption) rfl)) lA.ok lF.ok (asc_sd lA.asc) (by exact (lin1 (.lt .v0 (.n (2^61))) [.le .v0 (.n 24)]) nA) (by exact (lin1 (.lt .v0 (.n (2^61))) [.le .v0 (.n 24)]) nF) fun b hb=>?_)
     (refine E_cmp ?_)
     refine' E_filt (X₁:=⟨(561,tabM)::(510,MO.tabG 510)::(520,MO.tabG 520)::[],[((Str.ofString "due"),.ints ((leastW lv fi now).map Cel.id)),((Str.ofString "now"),.ints now),((Str.ofString "new"),.uni (leastW lv fi now)),((Str.ofString "filled"),.ints (fillOf ks)),((Str.ofString "other"),.uni (leastW lv fi (fillOf ks))),((Str.ofString "deeds"),.int ((dd:Nat)+1:Int)),((Str.ofString "aside"),.lst (ks.map .pk)),((Str.ofString "known"),.ints ((leastW lv fi ps).map Cel.id)),((Str.ofString "places"),.ints ps),((Str.ofString "have"),.uni (leastW lv fi ps)),((Str.ofString "first"),.int (fi:Nat)),((Str.ofString "level"),.int (lv:Nat)),((Str.ofString "seed"),.int seed),((Str.ofString "script"),.ints xs)]⟩) (xs:=(fillOf ks).map .int) (fI fun p=>!decide (p∈ps)) [((Str.ofString "places"),.ints ps)] ?i11 ?z11 ?m11 ?ifs11 ?item11 ?q11 ?free11 ?cell11 ?kind11 ?names11 ?as11 ?f11
     case free11=>exact freeOk rfl
     case cell11=>decide
     case kind11=>rfl
     case names11=>decide
     case as11=>rfl
     case f11=>intro x;rfl
     case ifs11=>rfl
     case m11=>intro p hp;rw [List.mem_singleton.mp hp];exact ⟨rfl,.inl rfl,.inl rfl,rfl⟩
     case i11 =>
      ((refine E_name (by exact rfl) ?_);dsimp only)
      exact I_lst ⟨rfl,rfl,rfl⟩
     case z11=>rw [List.length_map];exact (lin1 (.le .v0 (.n 1000000)) [.le .v0 (.n 24)]) npf
     case item11 =>
      intro Ca Da i x okC hx
      obtain ⟨p,hp,rfl⟩:=ints_at hx
      dsimp only [Cx.block]
      (refine A_name (by exact .inl ⟨rfl,.head _⟩) ?_;dsimp only;refine T_cmp ?_;(refine E_name (by exact rfl) ?_);(refine E_name (by exact rfl) ?_);refine O_notinInts ?_;refine Tr_bool ?_;dsimp only)
      by_cases q2:p∈ps
      ·rw [decide_eq_true q2,Bool.not_true]
       refine ⟨by rw [fI_no (by rw [decide_eq_true q2];rfl)];rfl,?_⟩
       try rw [if_neg (by decide)]
       exact ⟨rfl,fun p hp=>by rw [List.mem_singleton.mp hp];rfl⟩
      ·rw [decide_eq_false q2,Bool.not_false]
       refine ⟨by rw [fI_yes (by rw [decide_eq_false q2];rfl)];rfl,?_⟩
       try rw [if_pos rfl]
       ((refine E_name (by exact rfl) ?_);dsimp only)
       exact ⟨fI_yes (by rw [decide_eq_false q2];rfl),rfl,fun p hp=>by rw [List.mem_singleton.mp hp];rfl⟩
     rw [fI_ints,show (fillOf ks).filter (fun p=>!decide (p∈ps))=butOf (fillOf ks) ps from rfl]
     skip
     refine E_list ?_
     (refine A_nil ?_;refine And.intro (Nat.le_of_ble_eq_true rfl) ?_)
     refine O_eqInts (ms:=[]) (by (exact Gd.le (by with_reducible assumption) rfl)) ?_
     (refine O_neBool ?_;refine Tr_bool ?_)
     rw [uA.contains uF hw hb,beq_self_eq_true]
     clear hb b
     (rw [if_neg (by decide)];refine S_nil ?_;refine Then_next ?_;refine S_cons ?_;refine S_if ?_;refine T_cmp ?_;refine E_meth ?_;dsimp only;(refine E_name (by exact rfl) ?_);refine' M_fn ?hi109 ?a109 ?b109 ?c109 ?d109 ?e109 ?_;(case hi109=>exact .inl rfl);(case a109=>dsimp only;k_is);(case b109=>dsimp only;k_is);(case c109=>dsimp only;k_is);(case d109=>dsimp only;k_is);(case e109=>decide);refine Args_plain ?_;refine A_cons ?_;(refine E_name (by exact rfl) ?_);refine A_nil ?_)
     refine WC.of (umeet_c (by (with_reducible assumption)) (by (exact Gd.le (by with_reducible assumption) rfl)) lA.ok lF.ok (asc_sd lA.asc) (by exact (lin1 (.lt .v0 (.n (2^61))) [.le .v0 (.n 24)]) nA) (by exact (lin1 (.lt .v0 (.n (2^61))) [.le .v0 (.n 24)]) nF) fun b hb=>?_)
     (refine E_cmp ?_)
     refine' E_filt (X₁:=⟨(561,tabM)::(510,MO.tabG 510)::(520,MO.tabG 520)::[],[((Str.ofString "due"),.ints ((leastW lv fi now).map Cel.id)),((Str.ofString "now"),.ints now),((Str.ofString "new"),.uni (leastW lv fi now)),((Str.ofString "filled"),.ints (fillOf ks)),((Str.ofString "other"),.uni (leastW lv fi (fillOf ks))),((Str.ofString "deeds"),.int ((dd:Nat)+1:Int)),((Str.ofString "aside"),.lst (ks.map .pk)),((Str.ofString "known"),.ints ((leastW lv fi ps).map Cel.id)),((Str.ofString "places"),.ints ps),((Str.ofString "have"),.uni (leastW lv fi ps)),((Str.ofString "first"),.int (fi:Nat)),((Str.ofString "level"),.int (lv:Nat)),((Str.ofString "seed"),.int seed),((Str.ofString "script"),.ints xs)]⟩) (xs:=(fillOf ks).map .int) (fI fun p=>decide (p∈ps)) [((Str.ofString "places"),.ints ps)] ?i12 ?z12 ?m12 ?ifs12 ?item12 ?q12 ?free12 ?cell12 ?kind12 ?names12 ?as12 ?f12
     case free12=>exact freeOk rfl
     case cell12=>decide
     case kind12=>rfl
     case names12=>decide
     case as12=>rfl
     case f12=>intro x;rfl
     case ifs12=>rfl
     case m12=>intro p hp;rw [List.mem_singleton.mp hp];exact ⟨rfl,.inl rfl,.inl rfl,rfl⟩
     case i12 =>
      ((refine E_name (by exact rfl) ?_);dsimp only)
      exact I_lst ⟨rfl,rfl,rfl⟩
     case z12=>rw [List.length_map];exact (lin1 (.le .v0 (.n 1000000)) [.le .v0 (.n 24)]) npf
     case item12 =>
      intro Ca Da i x okC hx
      obtain ⟨p,hp,rfl⟩:=ints_at hx
      dsimp only [Cx.block]
      (refine A_name (by exact .inl ⟨rfl,.head _⟩) ?_;dsimp only;refine T_cmp ?_;(refine E_name (by exact rfl) ?_);(refine E_name (by exact rfl) ?_);refine O_inInts ?_;refine Tr_bool ?_;dsimp only)
      by_cases q2:p∈ps
      ·rw [decide_eq_true q2]
       refine ⟨by rw [fI_yes (decide_eq_true q2)];rfl,?_⟩
       try rw [if_pos rfl]
       ((refine E_name (by exact rfl) ?_);dsimp only)
       exact ⟨fI_yes (decide_eq_true q2),rfl,fun p hp=>by rw [List.mem_singleton.mp hp];rfl⟩
      ·rw [decide_eq_false q2]
       refine ⟨by rw [fI_no (decide_eq_false q2)];rfl,?_⟩
       try rw [if_neg (by decide)]
       exact ⟨rfl,fun p hp=>by rw [List.mem_singleton.mp hp];rfl⟩
     rw [fI_ints,show (fillOf ks).filter (fun p=>decide (p∈ps))=andOf (fillOf ks) ps from rfl]
     skip
     refine E_list ?_
     (refine A_nil ?_;refine And.intro (Nat.le_of_ble_eq_true rfl) ?_)
     refine O_neInts (ms:=[]) (by (exact Gd.le (by with_reducible assumption) rfl)) ?_
     (refine O_neBool ?_;refine Tr_bool ?_)
     rw [uA.intersects uF hw hb,beq_self_eq_true]
     clear hb b
     (rw [if_neg (by decide)];refine S_nil ?_;refine Then_next ?_;refine S_cons ?_;refine S_if ?_;refine T_cmp ?_;refine E_meth ?_;dsimp only;(refine E_name (by exact rfl) ?_);refine' M_fn ?hi116 ?a116 ?b116 ?c116 ?d116 ?e116 ?_;(case hi116=>exact .inl rfl);(case a116=>dsimp only;k_is);(case b116=>dsimp only;k_is);(case c116=>dsimp only;k_is);(case d116=>dsimp only;k_is);(case e116=>decide);refine Args_plain ?_;refine A_cons ?_;(refine E_name (by exact rfl) ?_);refine A_nil ?_)
     refine WC.of (ucont_c (by (with_reducible assumption)) (by (exact Gd.le (by with_reducible assumption) rfl)) lF.ok lA.ok (asc_sd lF.asc) (by exact (lin1 (.lt .v0 (.n (2^61))) [.le .v0 (.n 24)]) nF) (by exact (lin1 (.lt .v0 (.n (2^61))) [.le .v0 (.n 24)]) nA) fun b hb=>?_)
     (refine E_cmp ?_)
     refine' E_filt (X₁:=⟨(561,tabM)::(510,MO.tabG 510)::(520,MO.tabG 520)::[],[((Str.ofString "due"),.ints ((leastW lv fi now).map Cel.id)),((Str.ofString "now"),.ints now),((Str.ofString "new"),.uni (leastW lv fi now)),((Str.ofString "filled"),.ints (fillOf ks)),((Str.ofString "other"),.uni (leastW lv fi (fillOf ks))),((Str.ofString "deeds"),.int ((dd:Nat)+1:Int)),((Str.ofString "aside"),.lst (ks.map .pk)),((Str.ofString "known"),.ints ((leastW lv fi ps).map Cel.id)),((Str.ofString "places"),.ints ps),((Str.ofString "have"),.uni (leastW lv fi ps)),((Str.ofString "first"),.int (fi:Nat)),((Str.ofString "level"),.int (lv:Nat)),((Str.ofString "seed"),.int seed),((Str.ofString "script"),.ints xs)]⟩) (xs:=(ps).map .int) (fI fun p=>!decide (p∈fillOf ks)) [((Str.ofString "filled"),.ints (fillOf ks))] ?i13 ?z13 ?m13 ?ifs13 ?item13 ?q13 ?free13 ?cell13 ?kind13 ?names13 ?as13 ?f13
     case free13=>exact freeOk rfl
     case cell13=>decide
     case kind13=>rfl
     case names13=>decide
     case as13=>rfl
     case f13=>intro x;rfl
     case ifs13=>rfl
     case m13=>intro p hp;rw [List.mem_singleton.mp hp];exact ⟨rfl,.inl rfl,.inl rfl,rfl⟩
     case i13 =>
      ((refine E_name (by exact rfl) ?_);dsimp only)
      exact I_lst ⟨rfl,rfl,rfl⟩
     case z13=>rw [List.length_map];exact (lin1 (.le .v0 (.n 1000000)) [.le .v0 (.n 24)]) npl
     case item13 =>
      intro Ca Da i x okC hx
      obtain ⟨p,hp,rfl⟩:=ints_at hx
      dsimp only [Cx.block]
      (refine A_name (by exact .inl ⟨rfl,.head _⟩) ?_;dsimp only;refine T_cmp ?_;(refine E_name (by exact rfl) ?_);(refine E_name (by exact rfl) ?_);refine O_notinInts ?_;refine Tr_bool ?_;dsimp only)
      by_cases q2:p∈fillOf ks
      ·rw [decide_eq_true q2,Bool.not_true]
       refine ⟨by rw [fI_no (by rw [decide_eq_true q2];rfl)];rfl,?_⟩
       try rw [if_neg (by decide)]
       exact ⟨rfl,fun p hp=>by rw [List.mem_singleton.mp hp];rfl⟩
      ·rw [decide_eq_false q2,Bool.not_false]
       refine ⟨by rw [fI_yes (by rw [decide_eq_false q2];rfl)];rfl,?_⟩
       try rw [if_pos rfl]
       ((refine E_name (by exact rfl) ?_);dsimp only)
       exact ⟨fI_yes (by rw [decide_eq_false q2];rfl),rfl,fun p hp=>by rw [List.mem_singleton.mp hp];rfl⟩
     rw [fI_ints,show (ps).filter (fun p=>!decide (p∈fillOf ks))=butOf ps (fillOf ks) from rfl]
     skip
     refine E_list ?_
     (refine A_nil ?_;refine And.intro (Nat.le_of_ble_eq_true rfl) ?_)
     refine O_eqInts (ms:=[]) (by (exact Gd.le (by with_reducible assumption) rfl)) ?_
     (refine O_neBool ?_;refine Tr_bool ?_)
     rw [uF.contains uA hw hb,beq_self_eq_true]
     clear hb b
     (rw [if_neg (by decide)];refine S_nil ?_;refine Then_next ?_;refine S_cons ?_;refine S_if ?_;refine T_cmp ?_;refine E_meth ?_;dsimp only;(refine E_name (by exact rfl) ?_);refine' M_fn ?hi123 ?a123 ?b123 ?c123 ?d123 ?e123 ?_;(case hi123=>exact .inl rfl);(case a123=>dsimp only;k_is);(case b123=>dsimp only;k_is);(case c123=>dsimp only;k_is);(case d123=>dsimp only;k_is);(case e123=>decide);refine Args_plain ?_;refine A_cons ?_;(refine E_name (by exact rfl) ?_);refine A_nil ?_)
     refine WC.of (umeet_c (by (with_reducible assumption)) (by (exact Gd.le (by with_reducible assumption) rfl)) lF.ok lA.ok (asc_sd lF.asc) (by exact (lin1 (.lt .v0 (.n (2^61))) [.le .v0 (.n 24)]) nF) (by exact (lin1 (.lt .v0 (.n (2^61))) [.le .v0 (.n 24)]) nA) fun b hb=>?_)
     (refine E_cmp ?_)
     refine' E_filt (X₁:=⟨(561,tabM)::(510,MO.tabG 510)::(520,MO.tabG 520)::[],[((Str.ofString "due"),.ints ((leastW lv fi now).map Cel.id)),((Str.ofString "now"),.ints now),((Str.ofString "new"),.uni (leastW lv fi now)),((Str.ofString "filled"),.ints (fillOf ks)),((Str.ofString "other"),.uni (leastW lv fi (fillOf ks))),((Str.ofString "deeds"),.int ((dd:Nat)+1:Int)),((Str.ofString "aside"),.lst (ks.map .pk)),((Str.ofString "known"),.ints ((leastW lv fi ps).map Cel.id)),((Str.ofString "places"),.ints ps),((Str.ofString "have"),.uni (leastW lv fi ps)),((Str.ofString "first"),.int (fi:Nat)),((Str.ofString "level"),.int (lv:Nat)),((Str.ofString "seed"),.int seed),((Str.ofString "script"),.ints xs)]⟩) (xs:=(fillOf ks).map .int) (fI fun p=>decide (p∈ps)) [((Str.ofString "places"),.ints ps)] ?i14 ?z14 ?m14 ?ifs14 ?item14 ?q14 ?free14 ?cell14 ?kind14 ?names14 ?as14 ?f14
     case free14=>exact freeOk rfl
     case cell14=>decide
     case kind14=>rfl
     case names14=>decide
     case as14=>rfl
     case f14=>intro x;rfl
     case ifs14=>rfl
     case m14=>intro p hp;rw [List.mem_singleton.mp hp];exact ⟨rfl,.inl rfl,.inl rfl,rfl⟩
     case i14 =>
      ((refine E_name (by exact rfl) ?_);dsimp only)
      exact I_lst ⟨rfl,rfl,rfl⟩
     case z14=>rw [List.length_map];exact (lin1 (.le .v0 (.n 1000000)) [.le .v0 (.n 24)]) npf
     case item14 =>
      intro Ca Da i x okC hx
      obtain ⟨p,hp,rfl⟩:=ints_at hx
      dsimp only [Cx.block]
      (refine A_name (by exact .inl ⟨rfl,.head _⟩) ?_;dsimp only;refine T_cmp ?_;(refine E_name (by exact rfl) ?_);(refine E_name (by exact rfl) ?_);refine O_inInts ?_;refine Tr_bool ?_;dsimp only)
      by_cases q2:p∈ps
      ·rw [decide_eq_true q2]
       refine ⟨by rw [fI_yes (decide_eq_true q2)];rfl,?_⟩
       try rw [if_pos rfl]
       ((refine E_name (by exact rfl) ?_);dsimp only)
       exact ⟨fI_yes (decide_eq_true q2),rfl,fun p hp=>by rw [List.mem_singleton.mp hp];rfl⟩
      ·rw [decide_eq_false q2]
       refine ⟨by rw [fI_no (decide_eq_false q2)];rfl,?_⟩
       try rw [if_neg (by decide)]
       exact ⟨rfl,fun p hp=>by rw [List.mem_singleton.mp hp];rfl⟩
     rw [fI_ints,show (fillOf ks).filter (fun p=>decide (p∈ps))=andOf (fillOf ks) ps from rfl]
     skip
     refine E_list ?_
     (refine A_nil ?_;refine And.intro (Nat.le_of_ble_eq_true rfl) ?_)
     refine O_neInts (ms:=[]) (by (exact Gd.le (by with_reducible assumption) rfl)) ?_
     (refine O_neBool ?_;refine Tr_bool ?_)
     rw [uF.intersects uA hw hb,and_comm0 (fun _ _=>trivial),beq_self_eq_true]
     clear hb b
     (rw [if_neg (by decide)];refine S_nil ?_;refine Then_next ?_;refine S_last ?_;refine S_assignT ?_;refine E_tup ?_;refine A_cons ?_;(refine E_name (by exact rfl) ?_);refine A_cons ?_;(refine E_name (by exact rfl) ?_);refine A_cons ?_;(refine E_name (by exact rfl) ?_);refine A_nil ?_;refine And.intro (Nat.le_of_ble_eq_true rfl) ?_;refine A_tup rfl ?_;refine Al_cons ?_;refine A_name (by exact .inl ⟨rfl,.head _⟩) ?_;dsimp only;refine Al_cons ?_;refine A_name (by exact Own.cell rfl rfl rfl rfl) ?_;dsimp only;refine Al_cons ?_;refine A_name (by exact .inl ⟨rfl,.head _⟩) ?_;dsimp only;refine Al_nil ?_)
     refine ⟨⟨(561,tabM)::(510,MO.tabG 510)::(520,MO.tabG 520)::[],[((Str.ofString "deeds"),.int ((dd+1):Nat)),((Str.ofString "aside"),.lst (ks.map .pk)),((Str.ofString "known"),.ints ((leastW lv fi now).map Cel.id)),((Str.ofString "places"),.ints now),((Str.ofString "have"),.uni (leastW lv fi now)),((Str.ofString "first"),.int (fi:Nat)),((Str.ofString "level"),.int (lv:Nat)),((Str.ofString "seed"),.int seed),((Str.ofString "script"),.ints xs)]⟩,Conv.names [((Str.ofString "deeds"),.int ((dd+1):Nat)),((Str.ofString "aside"),.lst (ks.map .pk)),((Str.ofString "known"),.ints ((leastW lv fi now).map Cel.id)),((Str.ofString "places"),.ints now),((Str.ofString "have"),.uni (leastW lv fi now)),((Str.ofString "first"),.int (fi:Nat)),((Str.ofString "level"),.int (lv:Nat)),((Str.ofString "seed"),.int seed),((Str.ofString "script"),.ints xs)] (by intro p hp;simp only [List.mem_cons,List.not_mem_nil,or_false] at hp;rcases hp with rfl | rfl | rfl | rfl | rfl | rfl | rfl | rfl | rfl<;>rfl),dd+1,ks,now,⟨by exact (lin1 (.le (.a .v0 .n1) .n2) [.le .v0 .n2,.no (.ze (.c .v0) .n2)]) hdd qd,hks,hpk,hN⟩,rfl⟩
 rintro F Y ⟨rfl,ks,ps,⟨hks,hpk,hP⟩,mm,rfl,e0,e1,e2,e3,e4⟩
 refine Then_next ?_
 refine WT.pre (Conv.names [((Str.ofString "aside"),.lst (ks.map .pk)),((Str.ofString "places"),.ints ps),((Str.ofString "have"),.uni (leastW lv fi ps)),((Str.ofString "first"),.int (fi:Nat)),((Str.ofString "level"),.int (lv:Nat))] (by
  intro p hp
  simp only [List.mem_cons,List.not_mem_nil,or_false] at hp
  rcases hp with rfl | rfl | rfl | rfl | rfl<;>assumption)) ?_
 clear e0 e1 e2 e3 e4
 dsimp only
 have uA:UW lv fi ps (leastW lv fi ps):=⟨hP,rfl⟩
 have lA:=uA.least hw
 have nA:=uA.len
 refine S_cons ?_
 refine WT.imp (Q:=fun F Y=>F=AF.next∧∃ mm,Y=⟨(561,tabM)::(510,MO.tabG 510)::(520,MO.tabG 520)::[],mm⟩) ?f1 ?f2
 case f2 =>
  rintro F Y ⟨rfl,mm,rfl⟩
  refine Then_next ?_
  (refine S_last ?_;refine S_return ?_;refine E_bool ?_;dsimp only)
  exact ⟨rfl,.head _,.tail _ (.head _),.tail _ (.tail _ (.head _))⟩
 case f1 =>
  refine S_for ?_
  (refine E_sliceNeg ?_;(refine E_name (by exact rfl) ?_);refine E_un ?_;refine E_int ?_;refine O_neg ?_)
  refine ⟨_,3,rfl,rfl,by decide,by rw [List.length_map];exact (lin1 (.le .v0 (.n 1000000)) [.le .v0 (.n 5)]) hks,?_⟩
  refine I_lst ?_
  rw [←List.map_drop]
  generalize hjs:ks.drop _=js
  have hj:∀ k∈js,PkW lv fi k.1 k.2:=fun k hk=>hpk k (List.mem_of_mem_drop (hjs▸hk))
  clear hjs
  refine ⟨fun i Y=>Y=⟨(561,tabM)::(510,MO.tabG 510)::(520,MO.tabG 520)::[],[((Str.ofString "aside"),.lst (ks.map .pk)),((Str.ofString "places"),.ints ps),((Str.ofString "have"),.uni (leastW lv fi ps)),((Str.ofString "first"),.int (fi:Nat)),((Str.ofString "level"),.int (lv:Nat))]⟩,⟨_,Conv.rfl,rfl⟩,?turn2,?fin2⟩
  case fin2 =>
   rintro Y rfl
   exact ⟨rfl,_,rfl⟩
  case turn2 =>
   intro i x Y hx hY
   subst hY
   obtain ⟨k,hk,rfl⟩:=pks_at hx
   replace hk:=hj k (List.mem_of_getElem? hk)
   clear hx
   have hpl:k.2.length≤24:=asc_len 24 0 k.2 hk.pl.asc fun x hx=>by have:=hk.pl.rng x hx;exact (lin [] [_] (.an (.zl .n0 .v0) (.zt .v0 (.a .n0 (.c (.n 24))))) [.an (.zl .n0 .v0) (.zt .v0 (.n 24))]) this
   have hB:Pl (andOf k.2 ps):=hk.pl.filter _
   (refine A_tup rfl ?_;dsimp only;refine Al_cons ?_;refine A_name (by exact .inl ⟨rfl,.head _⟩) ?_;dsimp only;refine Al_cons ?_;refine A_name (by exact .inl ⟨rfl,.head _⟩) ?_;dsimp only;refine Al_nil ?_;refine S_cons ?_)
   refine' S_filtA (X₁:=⟨(561,tabM)::(510,MO.tabG 510)::(520,MO.tabG 520)::[],[((Str.ofString "part"),.ints k.2),((Str.ofString "ident"),.int k.1.id),((Str.ofString "aside"),.lst (ks.map .pk)),((Str.ofString "places"),.ints ps),((Str.ofString "have"),.uni (leastW lv fi ps)),((Str.ofString "first"),.int (fi:Nat)),((Str.ofString "level"),.int (lv:Nat))]⟩) (xs:=k.2.map .int) (fI fun p=>decide (p∈ps)) [((Str.ofString "places"),.ints ps)] ?hl21 ?hw21 ?hsw21 ?i21 ?z21 ?m21 ?ifs21 ?item21 ?q21 ?free21 ?cell21 ?kind21 ?names21 ?as21 ?f21
   case hl21=>rfl
   case hw21=>exact .head _
   case hsw21=>rfl
   case free21=>exact freeOk rfl
   case cell21=>decide
   case kind21=>rfl
   case names21=>decide
   case as21=>rfl
   case f21=>intro x;rfl
   case ifs21=>rfl
   case m21=>intro p hp;rw [List.mem_singleton.mp hp];exact ⟨rfl,.inl rfl,.inl rfl,rfl⟩
   case i21 =>
    ((refine E_name (by exact rfl) ?_);dsimp only)
    exact I_lst ⟨rfl,rfl,rfl⟩
   case z21=>rw [List.length_map];exact (lin1 (.le .v0 (.n 1000000)) [.le .v0 (.n 24)]) hpl
   case item21 =>
    intro Ca Da i x okC hx
    obtain ⟨p,hp,rfl⟩:=ints_at hx
    dsimp only [Cx.block]
    (refine A_name (by exact .inl ⟨rfl,.head _⟩) ?_;dsimp only;refine T_cmp ?_;(refine E_name (by exact rfl) ?_);(refine E_name (by exact rfl) ?_);refine O_inInts ?_;refine Tr_bool ?_;dsimp only)
    by_cases q2:p∈ps
    ·rw [decide_eq_true q2]
     refine ⟨by rw [fI_yes (decide_eq_true q2)];rfl,?_⟩
     try rw [if_pos rfl]
     ((refine E_name (by exact rfl) ?_);dsimp only)
     exact ⟨fI_yes (decide_eq_true q2),rfl,fun p hp=>by rw [List.mem_singleton.mp hp];rfl⟩
    ·rw [decide_eq_false q2]
     refine ⟨by rw [fI_no (decide_eq_false q2)];rfl,?_⟩
     try rw [if_neg (by decide)]
     exact ⟨rfl,fun p hp=>by rw [List.mem_singleton.mp hp];rfl⟩
   rw [fI_ints,show k.2.filter (fun p=>decide (p∈ps))=andOf k.2 ps from rfl]
   (refine Then_next ?_;dsimp only;refine S_cons ?_;refine S_if ?_;refine T_or ?_;refine T_cmp ?_;refine E_meth ?_;dsimp only;(refine E_name (by exact rfl) ?_);refine' M_fn ?hi138 ?a138 ?b138 ?c138 ?d138 ?e138 ?_;(case hi138=>exact .inl rfl);(case a138=>dsimp only;k_is);(case b138=>dsimp only;k_is);(case c138=>dsimp only;k_is);(case d138=>dsimp only;k_is);(case e138=>decide);refine Args_plain ?_;refine A_cons ?_;refine E_call ?_;dsimp only;(refine' E_global ?hk139 ?e139 ?_;(case hk139=>exact rfl);(case e139=>dsimp only;k_is));(refine' C_raw (keeper_keep ?a140) ?_;(case a140=>dsimp only;k_is));refine Args_plain ?_;refine A_cons ?_;(refine E_name (by exact rfl) ?_);refine A_nil ?_)
   refine WC.of (newK k.1 (by (with_reducible assumption)) (by (exact Gd.le (by with_reducible assumption) rfl)) hk.ok rfl ?_)
   (refine A_nil ?_)
   refine WC.of (ucell_c (by (with_reducible assumption)) (by (exact Gd.le (by with_reducible assumption) rfl)) lA.ok hk.ok (asc_sd lA.asc) (by exact (lin1 (.lt .v0 (.n (2^61))) [.le .v0 (.n 24)]) nA) fun b hb=>?_)
   (refine E_cmp ?_;(refine E_name (by exact rfl) ?_);(refine E_name (by exact rfl) ?_))
   refine O_eqInts (by (exact Gd.le (by with_reducible assumption) rfl)) ?_
   (refine O_neBool ?_;refine Tr_bool ?_;rw [if_pos rfl])
   rw [uA.cellIn hk hw hb,beq_self_eq_true,Bool.not_true,if_neg (by decide)]
   clear hb b
   (refine T_or ?_;refine T_cmp ?_;refine E_meth ?_;dsimp only;(refine E_name (by exact rfl) ?_);refine' M_fn ?hi145 ?a145 ?b145 ?c145 ?d145 ?e145 ?_;(case hi145=>exact .inl rfl);(case a145=>dsimp only;k_is);(case b145=>dsimp only;k_is);(case c145=>dsimp only;k_is);(case d145=>dsimp only;k_is);(case e145=>decide);refine Args_plain ?_;refine A_cons ?_;refine E_call ?_;dsimp only;(refine' E_global ?hk146 ?e146 ?_;(case hk146=>exact rfl);(case e146=>dsimp only;k_is));(refine' C_raw (keeper_keep ?a147) ?_;(case a147=>dsimp only;k_is));refine Args_plain ?_;refine A_cons ?_;(refine E_name (by exact rfl) ?_);refine A_nil ?_)
   refine WC.of (newK k.1 (by (with_reducible assumption)) (by (exact Gd.le (by with_reducible assumption) rfl)) hk.ok rfl ?_)
   (refine A_nil ?_)
   refine WC.of (ucellm_c (by (with_reducible assumption)) (by (exact Gd.le (by with_reducible assumption) rfl)) lA.ok hk.ok (asc_sd lA.asc) (by exact (lin1 (.lt .v0 (.n (2^61))) [.le .v0 (.n 24)]) nA) fun b hb=>?_)
   (refine E_cmp ?_;(refine E_name (by exact rfl) ?_))
   refine E_list ?_
   (refine A_nil ?_;refine And.intro (Nat.le_of_ble_eq_true rfl) ?_)
   refine O_neInts (ms:=[]) (by (exact Gd.le (by with_reducible assumption) rfl)) ?_
   (refine O_neBool ?_;refine Tr_bool ?_;rw [if_pos rfl])
   rw [uA.cellMeet hk hw hb,beq_self_eq_true]
   clear hb b
   (rw [if_neg (by decide)];refine T_or_nil ?_;rw [if_neg (by decide)];refine S_nil ?_;refine Then_next ?_;refine S_last ?_;refine S_if ?_;refine T_cmp ?_;refine E_call ?_;dsimp only;(refine' E_global ?hk150 ?e150 ?_;(case hk150=>exact rfl);(case e150=>dsimp only;k_is));(refine' C_raw (keeper_fn ?a151) ?_;(case a151=>dsimp only;k_is));refine Args_plain ?_;refine A_cons ?_;refine E_meth ?_;dsimp only;(refine' E_global ?hk152 ?e152 ?_;(case hk152=>exact rfl);(case e152=>dsimp only;k_is));refine' M_cmm ?hs153 ?hm153 ?a153 ?b153 ?d153 ?f153 ?_;(case hs153=>dsimp only;k_is);(case hm153=>dsimp only;k_is);(case a153=>dsimp only;k_is);(case b153=>dsimp only;k_is);(case d153=>dsimp only;k_is);(case f153=>dsimp only;k_is);skip;refine Args_plain ?_;refine A_cons ?_;(refine E_name (by exact rfl) ?_);refine A_cons ?_;refine E_call ?_;dsimp only;(refine' E_global ?hk155 ?e155 ?_;(case hk155=>exact rfl);(case e155=>dsimp only;k_is));(refine' C_raw (keeper_keep ?a156) ?_;(case a156=>dsimp only;k_is));refine Args_plain ?_;refine A_cons ?_;(refine E_name (by exact rfl) ?_);refine A_nil ?_)
   refine WC.of (newK k.1 (by (with_reducible assumption)) (by (exact Gd.le (by with_reducible assumption) rfl)) hk.ok rfl ?_)
   (refine A_nil ?_)
   refine inter7_c (by (with_reducible assumption)) (by (exact Gd.le (by with_reducible assumption) rfl)) hw uA hk ?_
   (refine A_nil ?_)
   refine WC.of (lids7_c (by (with_reducible assumption)) (by (exact Gd.le (by with_reducible assumption) rfl)) (by have:=leastW_len (L:=lv) (F:=fi) hB;exact (lin1 (.le .v0 (.n 1000)) [.le .v0 (.n 24)]) this) ?_)
   (refine E_call ?_;dsimp only;(refine' E_global ?hk158 ?e158 ?_;(case hk158=>exact rfl);(case e158=>dsimp only;k_is));(refine' C_raw (keeper_fn ?a159) ?_;(case a159=>dsimp only;k_is));refine Args_plain ?_;refine A_cons ?_;(refine E_name (by exact rfl) ?_);refine A_cons ?_;(refine E_name (by exact rfl) ?_);refine A_cons ?_;(refine E_name (by exact rfl) ?_);refine A_nil ?_)
   refine WC.of (least7_c (by (with_reducible assumption)) (by (exact Gd.le (by with_reducible assumption) rfl)) hw hB ?_)
   skip
   refine O_neInts (by (exact Gd.le (by with_reducible assumption) rfl)) ?_
   rw [decide_eq_true rfl]
   (refine Tr_bool ?_;rw [if_neg (by decide)];refine S_nil ?_)
   exact ⟨⟨(561,tabM)::(510,MO.tabG 510)::(520,MO.tabG 520)::[],[((Str.ofString "aside"),.lst (ks.map .pk)),((Str.ofString "places"),.ints ps),((Str.ofString "have"),.uni (leastW lv fi ps)),((Str.ofString "first"),.int (fi:Nat)),((Str.ofString "level"),.int (lv:Nat))]⟩,Conv.names [((Str.ofString "aside"),.lst (ks.map .pk)),((Str.ofString "places"),.ints ps),((Str.ofString "have"),.uni (leastW lv fi ps)),((Str.ofString "first"),.int (fi:Nat)),((Str.ofString "level"),.int (lv:Nat))] (by intro p hp;simp only [List.mem_cons,List.not_mem_nil,or_false] at hp;rcases hp with rfl | rfl | rfl | rfl | rfl<;>rfl),rfl⟩
end Mine
open PySem PySem.W PyProof.Rows PySem.Calls
namespace Mine
theorem top_goods {c:ClaimW} {cl:Str→Option Addr} {mean:ExcName→Option Value} {args:List WData} {s₁ s':Shared} {u:Value} {S':Sto} {U:AV} {Y:AX} {Q:AV→AX→Prop} {fx:Bool} {tabs:List (Addr×Addr)} {σ:List (Addr×MO)}
  (hT:TabsAt tabs s₁.heap) (e:TopEnd s₁ σ fx Q u s' S' U Y) (hσ:AX.adr σ=tabs.map (·.2)) (hU:U=.bool true) (hm:∀ q∈tabs,∃ ps,s'.heap.get? q.2=some (tabObj ps)) (hr:∀ cls,c.raises args cls=false) (hp:c.post args (.bool true) args=true) (hg:s₁.gens=#[]) :
  GoodWG c cl mean args s₁ (.ok (.ret u)) s':=by
 subst hU
 have hu:=e.r.bool_inv
 subst hu
 have old:∀ b o,b∉tabs.map (·.2)→s₁.heap.get? b=some o→s'.heap.get? b=some o:=fun b o hb h=>e.old b o h (by rw [hσ];exact hb)
 refine ⟨.inl ⟨_,.bool true,[],rfl,hr,.bool true,hp,fun _=>⟨.nil,fun _ h=>nomatch h⟩⟩,⟨fun b o h=>?_,fun b o h=>?_⟩,e.os,e.gens.1.2 (.of_eq hg)⟩
 ·by_cases hb:b∈tabs.map (·.2)
  ·obtain ⟨q,hq,rfl⟩:=List.mem_map.mp hb
   have h2:=(hT q hq).2
   rw [h] at h2
   obtain ⟨ps,hps⟩:=hm q hq
   have h3:=Option.some.inj h2
   subst h3
   exact .inr (.inl ⟨((hT q hq).1.tab (hT q hq).2).isCodeTable,rfl,#[],ps,rfl,by rw [Array.empty_append];exact hps⟩)
  ·exact .inl (old b o hb h)
 ·by_cases hb:b∈tabs.map (·.2)
  ·obtain ⟨q,hq,rfl⟩:=List.mem_map.mp hb
   obtain ⟨ps,hps⟩:=hm q hq;exact ⟨_,hps⟩
  ·exact ⟨o,old b o hb h⟩
theorem callerG:Gd callerA 80:=⟨rfl,by decide,by decide⟩
end Mine
open Mine in
set_option maxHeartbeats 8000000 in
theorem PySem.Challenge.cw_lp0003_07_holds : PySem.Challenge.rw_lp0003_07.Holds := by
  refine hd7 ?_
  k_fill
  intro w s₀ s₁ mg mb G Y fa o pm cd doc dV kV ho hd hcd hD hmg hg args vals as hpre hlay hrd hwl hlo
  have KX := km_in_of Y
  km_tabs Y
  have V := (Ground.X G).2
  have T := Ground.T G
  have hT9 : TabsAt [(565, 561), (514, 510), (524, 520)] s₁.heap := List.forall_mem_cons.mpr ⟨⟨codeHd_of_K (c := 565) (P := 561) KX (by kernel_rfl), hT8 561 (by k_mem)⟩, List.forall_mem_cons.mpr ⟨⟨codeHd_of_K (c := 514) (P := 510) KX (by kernel_rfl), hT8 510 (by k_mem)⟩, List.forall_mem_cons.mpr ⟨⟨codeHd_of_K (c := 524) (P := 520) KX (by kernel_rfl), hT8 520 (by k_mem)⟩, fun _ h => nomatch h⟩⟩⟩
  have hfa := mg_of (n := (Str.ofString "law")) (v := .ref 623) KX T.g (by kernel_rfl)
  have hfa2 : fa = 623 := by have := hmg.symm.trans hfa; injection this with this; injection this
  subst hfa2
  clear ho hd hcd hD hmg hfa
  wrow_args hpre hlay hrd hwl hlo
  rename_i xs _ _ _ _ _ _ _ la vs _ hL ra hw1 r0 hI _ hc1 hc2
  have hlen : xs.length < 64 := by exact (lin1 (.lt .v0 (.n 64)) [.no (.zt (.c (.n 63)) (.c .v0))]) hc1
  have hla : s₁.heap.get? la = some (seqObj "list" vs.toArray 0) := by
    cases hw1 with
    | list h1 h2 =>
      obtain ⟨o, h3, h4, n, h5⟩ := hL
      rw [h1] at h3
      cases h3
      injection h5 with h5 h6
      rw [h1, ← h5]
  have hne : ∀ q ∈ [((565, 561) : Addr × Addr), (514, 510), (524, 520)], q.2 ≠ la := fun q hq z => by
    have := (hT9 q hq).2
    rw [z, hla] at this
    injection this with this
    injection this with a b c d
    cases a
  have hcode := ghost_code hT9
  refine enter_call (codeAny_mono (law_t (g := ghostOf s₁.heap [(565, 561), (514, 510), (524, 520)]) (S := fun b o => b = la ∧ o = seqObj "list" vs.toArray 0) (xs := xs) (ghost_K hT9 KX (by kernel_rfl)) (ghost_top hT9 T) hcode.1 (hideAll_none _ (.head _)) hcode.2.1 (hideAll_none _ (.tail _ (.head _))) hcode.2.2.1 (hideAll_none _ (.tail _ (.tail _ (.head _)))) callerG (fun b o e => of_hideAll _ e) (fun b o e => by rw [e.1, e.2]; exact hla) (.lst' ⟨rfl, rfl⟩ (reps_ints hI)) (TabR.ext ⟨#[], (hT9 _ (.head _)).2, trivial, .inl rfl⟩) (TabG.ext ⟨#[], (hT9 _ (.tail _ (.head _))).2, trivial⟩) (TabG.ext ⟨#[], (hT9 _ (.tail _ (.tail _ (.head _)))).2, trivial⟩) (fun o e => hne _ (.head _) e.1) (fun o e => hne _ (.tail _ (.head _)) e.1) (fun o e => hne _ (.tail _ (.tail _ (.head _))) e.1) hlen) fun r s' z => ?_)
  obtain ⟨u, S', U, Y', rfl, e⟩ := z
  refine top_goods hT9 e rfl e.q.1 (fun q hq => ?_) (fun cls => rfl) (by wrow_post) hg
  rcases List.mem_cons.mp hq with rfl | hq
  · obtain ⟨_, ⟨ps, h, _⟩, _⟩ := e.mu _ e.q.2.1
    exact ⟨ps, h⟩
  rcases List.mem_cons.mp hq with rfl | hq
  · obtain ⟨_, ⟨ps, h, _⟩, _⟩ := e.mu _ e.q.2.2.1
    exact ⟨ps, h⟩
  · rw [List.mem_singleton.mp hq]
    obtain ⟨_, ⟨ps, h, _⟩, _⟩ := e.mu _ e.q.2.2.2
    exact ⟨ps, h⟩
