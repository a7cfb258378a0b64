import PyProof.Rows.All
import Wide.All
import OpenK.AllK
import Wide.FinOn
import PySem.Challenge.RW_lp0003_08
set_option Elab.async false
set_option maxRecDepth 1000000
set_option maxHeartbeats 80000000
set_option linter.all false
set_option compiler.extract_closed false
set_option genSizeOf false
set_option genInjectivity false
section
open PySem PySem.W PyProof.Rows PySem.Calls
namespace Mine
noncomputable def topRunT (tb : String → Option Builtin) (p : Program) (w : World) (n₀ : Nat) (ann : Option Value) (n : Nat) : SharedT → Thread → Option SharedT :=
  @Nat.rec (fun _ => SharedT → Thread → Option SharedT) (fun _ _ => none) (fun _ ih s t => match through t with
    | true => some s
    | false => match stepOk n₀ ann t with
      | false => none
      | true => match stepT (denote tb) p w s t with
        | some (s', t') => ih s' t'
        | none => none) n
theorem topRun_of {tb : String → Option Builtin} {p : Program} {w : World} {n₀ : Nat} {ann : Option Value} : ∀ {n : Nat} {s s' : SharedT} {t : Thread}, topRunT tb p w n₀ ann n s t = some s' → topRun tb p w n₀ ann n s.abs t = some s'.abs
  | 0, _, _, _, h => by cases h
  | n + 1, s, s', t, h => by
    have h' : (match through t with
      | true => some s
      | false => match stepOk n₀ ann t with
        | false => none
        | true => match stepT (denote tb) p w s t with
          | some (s', t') => topRunT tb p w n₀ ann n s' t'
          | none => none) = some s' := h
    unfold topRun
    cases ht : through t with
    | true => rw [ht] at h'; cases h'; rfl
    | false =>
      rw [ht] at h'
      dsimp only at h' ⊢
      cases hk : stepOk n₀ ann t with
      | false => rw [hk] at h'; cases h'
      | true =>
        rw [hk] at h'
        dsimp only at h' ⊢
        cases hs : stepT (denote tb) p w s t with
        | none => rw [hs] at h'; cases h'
        | some r => obtain ⟨s₂, t₂⟩ := r; rw [hs] at h'; rw [stepT_spec hs]; exact topRun_of h'
noncomputable def toT (l : List Obj) : BT → Nat → Option (BT × Nat) :=
  @List.rec Obj (fun _ => BT → Nat → Option (BT × Nat)) (fun T n => some (T, n)) (fun o _ ih T n => match ((T.ins n o).get n).isSome with | true => ih (T.ins n o) (n + 1) | false => none) l
theorem toT_of : ∀ {l : List Obj} {T T' : BT} {n n' : Nat} {life : Life}, toT l T n = some (T', n') → absHeap T' n' life = ⟨(absHeap T n life).objs ++ l.toArray, life⟩
  | [], T, T', n, n', life, h => by
    have h : some (T, n) = some (T', n') := h
    cases h; simp [absHeap]
  | o :: r, T, T', n, n', life, h => by
    have h : (match ((T.ins n o).get n).isSome with | true => toT r (T.ins n o) (n + 1) | false => none) = some (T', n') := h
    cases hg : ((T.ins n o).get n).isSome with
    | false => rw [hg] at h; cases h
    | true =>
      rw [hg] at h
      rw [toT_of h, absHeap_ins hg]
      simp [Heap.push]
theorem left_of {p q : Program} {loose : List Str} {Xt : Shared → Bool} {α : Type} {Yf : Shared → α} {Ya : World → α} {N : Nat} {g0 : Bool}
    (h : ∀ w : World, ((fencedOpening treeTable p w N).bind fun s => match s.heap.isNs mainGlobals && s.gens.size == 0 with
      | true => (toT s.heap.objs.toList .nil 0).bind fun T => (topRunT treeTable p w s.heap.objs.size (s.heap.nsMap mainGlobals (Str.ofString "__annotations__")) N ⟨T.1, T.2, s.heap.life, s.gens, s.drawn, s.toks, s.os⟩ (topStub p)).bind fun sT =>
        match staticsOk (importedModules p.main.body) s.heap sT.abs.heap && namesBound p sT.abs.heap && gensDone sT.abs && laidKept s.heap sT.abs.heap with
        | true => some (openSeen q loose (importedModules p.main.body) Xt g0 sT.abs, Yf sT.abs)
        | false => none
      | false => none) = some (openGood q loose, Ya w)) : LeftO p q loose Xt Yf Ya N g0 := fun w => by
  obtain ⟨s, e, h⟩ := Option.bind_eq_some_iff.mp (h w)
  unfold openEnds topFrom
  rw [e]
  show (match s.heap.isNs mainGlobals && s.gens.size == 0 with | true => _ | false => _ : Option Shared).map _ = _
  cases hb : (s.heap.isNs mainGlobals && s.gens.size == 0) with
  | false => rw [hb] at h; cases h
  | true =>
    rw [hb] at h
    obtain ⟨T, hT, h⟩ := Option.bind_eq_some_iff.mp h
    obtain ⟨sT, hr, h⟩ := Option.bind_eq_some_iff.mp h
    have ha := toT_of (life := s.heap.life) hT
    have habs : (⟨T.1, T.2, s.heap.life, s.gens, s.drawn, s.toks, s.os⟩ : SharedT).abs = s := by
      unfold SharedT.abs
      dsimp only
      rw [ha]
      simp [absHeap, BT.list]
    have hr2 := topRun_of hr
    rw [habs] at hr2
    dsimp only
    rw [hr2]
    show (match staticsOk (importedModules p.main.body) s.heap sT.abs.heap && namesBound p sT.abs.heap && gensDone sT.abs && laidKept s.heap sT.abs.heap with | true => _ | false => _ : Option Shared).map _ = _
    cases hc : (staticsOk (importedModules p.main.body) s.heap sT.abs.heap && namesBound p sT.abs.heap && gensDone sT.abs && laidKept s.heap sT.abs.heap) with
    | false => rw [hc] at h; cases h
    | true => rw [hc] at h; exact h
theorem lk : OpenLaw.wellSaid PySem.Challenge.rw_lp0003_08 = true := by
  unfold OpenLaw.wellSaid OpenRow.wellSaid OpenRow.partSaid looksOpen
  try rw [Fast.te11788848310118352699]
  try rw [Fast.te2368527892694137696]
  try rw [Fast.te9807087744658564304]
  try rw [Fast.te12862048085361865435]
  try rw [Fast.te8377067652309620493]
  try rw [Fast.te18344453789297297638]
  try rw [Fast.te3471404346716756564]
  try rw [Fast.te14412699480532031325]
  try rw [Fast.te8326940854005059898]
  try rw [Fast.te5923862056798008813]
  try rw [Fast.te17691160309236699985]
  try rw [Fast.te13343964577679436407]
  try rw [Fast.te17119622794617984870]
  try rw [Fast.te17868728402115742887]
  try rw [Fast.te9706382859710513879]
  try rw [Fast.te2357444279172408678]
  try rw [Fast.te4857012375875476094]
  try rw [Fast.te13582783067957832011]
  try rw [Fast.te5318747976498570220]
  try rw [Fast.te4579403493507170074]
  try rw [Fast.te4274047373036748609]
  try rw [Fast.te12749700546528644094]
  try rw [Fast.te10501279942588096481]
  try rw [Fast.te8179353310426384613]
  try rw [Fast.te797321630700447069]
  try rw [Fast.te9572597257264208301]
  try rw [Fast.te9558739934217749035]
  try rw [Fast.te16286561074155671207]
  try rw [Fast.te6984425678791042302]
  try rw [Fast.te17095254045102204799]
  try rw [Fast.te12879404354523853263]
  try rw [Fast.te482687673346738481]
  try rw [Fast.te10792542408131684335]
  try rw [Fast.te7723801398212525404]
  kernel_rfl
noncomputable def vw : Program := { PySem.Challenge.pw_lp0003_08 with main := { PySem.Challenge.pw_lp0003_08.main with body := (PySem.Challenge.pw_lp0003_08.main.body.eraseIdx 5).eraseIdx 2 } }
noncomputable def lo : List Str := [Str.ofString "CellId", Str.ofString "CellUnion"]
local macro_rules | `(tactic| o_law) => `(tactic| refine holds_law Mine.lk fun said => ?_)
local macro_rules | `(tactic| o_head ($f $k $a $e $t)) => `(tactic| (
  refine holds_open (q := Mine.vw) (loose := Mine.lo) (Xt := fun s => xlAt Mine.vw [] s && recOk (RowW.records (OpenRow.toRowW PySem.Challenge.rw_lp0003_08.row)) s) (XP := XL Mine.vw []) (Yf := Hook.obs ($f $k $a $e $t)) (Ya := Hook.val ($f $k $a $e $t)) (YP := Hook.says ($f $k $a $e $t)) (N := 10098) ?hl (Hook.of ($f $k $a $e $t)) (Hook.keeps ($f $k $a $e $t)) (fun s e => xl_of s (Bool.and_eq_true_iff.mp e).1) XL.keeps (by rfl) (by rfl) (by rfl) (fun s e => recFacts_of (Bool.and_eq_true_iff.mp e).2) (by rfl) (by first | assumption | decide +kernel) (by decide +kernel) ⟨rfl, rfl, rfl, rfl, rfl, by decide +kernel⟩ ?hw ?hc
  (case' hl => (refine Mine.left_of fun w => ?_; unfold fencedOpening Mine.topRunT; rw [PySem.W.Fast.te10274390034422433532, PySem.W.Fast.te14364793385576792824, PySem.W.Fast.te14289696077712309145, PySem.W.Fast.te1435165496053646825, PySem.W.Fast.te10156331382660048174, PySem.W.Fast.te6613529449190102663, PySem.W.Fast.te11892475500146522536, PySem.W.Fast.te4187177175401517315, PySem.W.Fast.te5923862056798008813]; kernel_rfl))))
open_top hd8 for PySem.Challenge.rw_lp0003_08
end Mine
end
section
open PySem
namespace Mine
theorem nat_and_pred (p k : Nat) : ((2 * p + 1) * 2 ^ k) &&& ((2 * p + 1) * 2 ^ k - 1) = 2 * p * 2 ^ k := by
  apply Nat.eq_of_testBit_eq
  intro i
  have e1 : (2 * p + 1) * 2 ^ k = 2 ^ k * (2 * p + 1) := Nat.mul_comm _ _
  have e2 : (2 * p + 1) * 2 ^ k - 1 = 2 ^ k * (2 * p) + (2 ^ k - 1) := by
    have : 0 < 2 ^ k := Nat.two_pow_pos k
    rw [Nat.add_mul, Nat.one_mul, Nat.mul_comm (2 * p)]; lia
  have e3 : 2 * p * 2 ^ k = 2 ^ k * (2 * p) := Nat.mul_comm _ _
  have hlt : 2 ^ k - 1 < 2 ^ k := Nat.sub_lt (Nat.two_pow_pos k) Nat.one_pos
  rw [Nat.testBit_and, e2, e3, e1, Nat.testBit_two_pow_mul_add _ hlt, Nat.testBit_two_pow_mul, Nat.testBit_two_pow_mul]
  by_cases h : i < k
  · have : ¬ k ≤ i := by lia
    simp [h, this]
  · have h' : k ≤ i := by lia
    simp only [h, h', if_false, decide_true, Bool.true_and]
    cases hq : i - k with
    | zero => simp [Nat.testBit_zero]
    | succ j => simp [Nat.testBit_succ]; rw [show (2 * p + 1) / 2 = p by lia]; simp
theorem bitAnd_nn (x y : Nat) : Builtin.bitAnd (x : Int) (y : Int) = ((x &&& y : Nat) : Int) := by
  unfold Builtin.bitAnd
  rw [decide_eq_true (Int.natCast_nonneg x), decide_eq_true (Int.natCast_nonneg y)]
  rfl
theorem bitAnd_np (x y : Nat) : Builtin.bitAnd (x : Int) (-(y + 1 : Nat) : Int) = (x : Int) - ((x &&& y : Nat) : Int) := by
  unfold Builtin.bitAnd
  rw [decide_eq_true (Int.natCast_nonneg x), decide_eq_false (by lia)]
  show (x : Int) - _ = _
  have : (Builtin.bitNot (-(y + 1 : Nat) : Int)).toNat = y := by unfold Builtin.bitNot; lia
  rw [this, Int.toNat_natCast]
theorem lsb_nat (p k : Nat) : Builtin.bitAnd (((2 * p + 1) * 2 ^ k : Nat) : Int) (-(((2 * p + 1) * 2 ^ k : Nat) : Int)) = ((2 ^ k : Nat) : Int) := by
  have hp : 0 < (2 * p + 1) * 2 ^ k := Nat.mul_pos (by lia) (Nat.two_pow_pos k)
  have e : (-(((2 * p + 1) * 2 ^ k : Nat) : Int)) = (-(((2 * p + 1) * 2 ^ k - 1) + 1 : Nat) : Int) := by rw [Nat.sub_add_cancel hp]
  rw [e, bitAnd_np, nat_and_pred]
  have : (2 * p + 1) * 2 ^ k = 2 * p * 2 ^ k + 2 ^ k := by rw [Nat.add_mul, Nat.one_mul]
  rw [this]; lia
theorem bitAnd_mask (x k : Nat) : Builtin.bitAnd (x : Int) (-((2 ^ k : Nat) : Int)) = ((x - x % 2 ^ k : Nat) : Int) := by
  have hp : 0 < 2 ^ k := Nat.two_pow_pos k
  have e : (-((2 ^ k : Nat) : Int)) = (-((2 ^ k - 1) + 1 : Nat) : Int) := by rw [Nat.sub_add_cancel hp]
  rw [e, bitAnd_np, Nat.and_two_pow_sub_one_eq_mod]
  have := Nat.mod_le x (2 ^ k)
  lia
structure Cel where
  p : Nat
  u : Nat
  deriving DecidableEq
def Cel.ok (c : Cel) : Prop := c.u ≤ 30 ∧ c.p < 6 * 4 ^ (30 - c.u)
def Cel.nid (c : Cel) : Nat := (2 * c.p + 1) * 4 ^ c.u
def Cel.id (c : Cel) : Int := (c.nid : Int)
theorem four_pow (u : Nat) : 4 ^ u = 2 ^ (2 * u) := by rw [Nat.pow_mul]
theorem Cel.lsb (c : Cel) : Builtin.bitAnd c.id (-c.id) = ((4 ^ c.u : Nat) : Int) := by
  unfold Cel.id Cel.nid
  rw [four_pow]; exact lsb_nat _ _
theorem Cel.nid_lt {c : Cel} (h : c.ok) : c.nid < 12 * 4 ^ 30 := by
  obtain ⟨hu, hp⟩ := h
  have e : 4 ^ 30 = 4 ^ (30 - c.u) * 4 ^ c.u := by rw [← Nat.pow_add]; congr 1; lia
  unfold Cel.nid
  rw [e, ← Nat.mul_assoc]
  exact Nat.mul_lt_mul_of_pos_right (by lia) (Nat.pow_pos (by lia))
theorem Cel.face_lt {c : Cel} (h : c.ok) : c.id.fdiv (2 ^ 61) < 6 := by
  have := Cel.nid_lt h
  rw [Int.fdiv_eq_ediv_of_nonneg _ (by decide)]
  unfold Cel.id
  lia
theorem valid_bits : ∀ u, u < 31 → Builtin.bitAnd ((4 ^ u : Nat) : Int) 1537228672809129301 ≠ 0 := by decide +kernel
theorem Cel.odd_iff (c : Cel) : c.id % 2 = if c.u = 0 then 1 else 0 := by
  unfold Cel.id Cel.nid
  by_cases h : c.u = 0
  · rw [if_pos h, h]; lia
  · rw [if_neg h]
    obtain ⟨k, hk⟩ : ∃ k, c.u = k + 1 := ⟨c.u - 1, by lia⟩
    rw [hk, Nat.pow_succ, ← Nat.mul_assoc]
    lia
theorem Cel.leaf_bit (c : Cel) : (Builtin.bitAnd c.id 1 != 0) = decide (c.u = 0) := by
  rw [PyProof.Rows.bitAnd_m1, c.odd_iff]
  by_cases h : c.u = 0 <;> simp [h]
theorem Cel.face_bit {c : Cel} (h : c.ok) : (Builtin.bitAnd c.id (((4 ^ (30 - Int.toNat 0) : Nat) : Int) - 1) == 0) = decide (c.u = 30) := by
  have e : (((4 ^ (30 - Int.toNat 0) : Nat) : Int) - 1) = ((2 ^ 60 - 1 : Nat) : Int) := by decide
  unfold Cel.id
  rw [e, bitAnd_nn, Nat.and_two_pow_sub_one_eq_mod]
  obtain ⟨hu, hp⟩ := h
  have key : c.nid % 2 ^ 60 = 0 ↔ c.u = 30 := by
    constructor
    · intro h0
      by_cases h30 : c.u = 30
      · exact h30
      · exfalso
        have hd : 2 ^ 60 ∣ (2 * c.p + 1) * 4 ^ c.u := Nat.dvd_of_mod_eq_zero h0
        rw [four_pow] at hd
        have h2 : (2 : Nat) ^ 60 = 2 * 2 ^ (59 - 2 * c.u) * 2 ^ (2 * c.u) := by
          rw [Nat.mul_assoc, ← Nat.pow_add, Nat.mul_comm, ← Nat.pow_succ]; congr 1; lia
        rw [h2] at hd
        have := Nat.dvd_of_mul_dvd_mul_right (Nat.two_pow_pos _) hd
        have h3 : 2 ∣ 2 * c.p + 1 := Nat.dvd_trans (Nat.dvd_mul_right 2 _) this
        lia
    · intro h30
      unfold Cel.nid
      rw [h30, show (2 : Nat) ^ 60 = 4 ^ 30 by decide]
      exact Nat.mul_mod_left _ _
  by_cases h30 : c.u = 30
  · rw [key.mpr h30, decide_eq_true h30]; rfl
  · have : c.nid % 2 ^ 60 ≠ 0 := fun q => h30 (key.mp q)
    rw [decide_eq_false h30]
    simp only [beq_eq_false_iff_ne, ne_eq]
    lia
def Cel.first (c : Cel) : Cel := ⟨c.p * 4 ^ c.u, 0⟩
def Cel.last (c : Cel) : Cel := ⟨(c.p + 1) * 4 ^ c.u - 1, 0⟩
theorem Cel.first_id (c : Cel) : c.id - (((4 ^ c.u : Nat) : Int) - 1) = c.first.id := by
  unfold Cel.id Cel.nid Cel.first
  have := Nat.pow_pos (n := c.u) (show 0 < 4 by lia)
  dsimp only
  rw [Nat.pow_zero, Nat.mul_one, Nat.add_mul, Nat.one_mul, Nat.mul_assoc]
  lia
theorem Cel.last_id (c : Cel) : c.id + (((4 ^ c.u : Nat) : Int) - 1) = c.last.id := by
  unfold Cel.id Cel.nid Cel.last
  have := Nat.pow_pos (n := c.u) (show 0 < 4 by lia)
  dsimp only
  rw [Nat.pow_zero, Nat.mul_one, Nat.add_mul, Nat.one_mul, Nat.mul_assoc, Nat.add_mul, Nat.one_mul]
  lia
theorem four_split {u : Nat} (h : u ≤ 30) : 4 ^ 30 = 4 ^ (30 - u) * 4 ^ u := by rw [← Nat.pow_add]; congr 1; lia
theorem Cel.end_le {c : Cel} (h : c.ok) : (c.p + 1) * 4 ^ c.u ≤ 6 * 4 ^ 30 := by
  obtain ⟨hu, hp⟩ := h
  rw [four_split hu, ← Nat.mul_assoc]
  exact Nat.mul_le_mul_right _ (by lia)
theorem Cel.first_ok {c : Cel} (h : c.ok) : c.first.ok := by
  refine ⟨Nat.zero_le _, ?_⟩
  have := Cel.end_le h
  have := Nat.pow_pos (n := c.u) (show 0 < 4 by lia)
  show c.p * 4 ^ c.u < 6 * 4 ^ 30
  rw [Nat.add_mul, Nat.one_mul] at *
  lia
theorem Cel.last_ok {c : Cel} (h : c.ok) : c.last.ok := by
  refine ⟨Nat.zero_le _, ?_⟩
  have := Cel.end_le h
  have := Nat.pow_pos (n := c.u) (show 0 < 4 by lia)
  show (c.p + 1) * 4 ^ c.u - 1 < 6 * 4 ^ 30
  rw [Nat.add_mul, Nat.one_mul] at *
  lia
theorem Cel.fmod {c : Cel} (h : c.ok) : c.id.fmod 18446744073709551615 = c.id := by
  have := Cel.nid_lt h
  rw [Int.fmod_eq_emod_of_nonneg _ (by decide)]
  unfold Cel.id
  exact Int.emod_eq_of_lt (by lia) (by lia)
def Cel.par (c : Cel) : Cel := ⟨c.p / 4, c.u + 1⟩
theorem Cel.par_ok {c : Cel} (h : c.ok) (hu : c.u ≠ 30) : c.par.ok := by
  obtain ⟨h1, h2⟩ := h
  refine ⟨show c.u + 1 ≤ 30 by lia, ?_⟩
  show c.p / 4 < 6 * 4 ^ (30 - (c.u + 1))
  have : 4 ^ (30 - c.u) = 4 ^ (30 - (c.u + 1)) * 4 := by rw [← Nat.pow_succ]; congr 1; lia
  rw [this] at h2
  lia
theorem bitOr_nn (x y : Nat) : Builtin.bitOr (x : Int) (y : Int) = ((x ||| y : Nat) : Int) := by
  unfold Builtin.bitOr Builtin.bitNot Builtin.bitAnd
  rw [decide_eq_false (by lia), decide_eq_false (by lia)]
  show -(Builtin.bitNot (((Builtin.bitNot (-(x : Int) - 1)).toNat ||| (Builtin.bitNot (-(y : Int) - 1)).toNat : Nat) : Int)) - 1 = _
  unfold Builtin.bitNot
  have e1 : (-(-(x : Int) - 1) - 1).toNat = x := by lia
  have e2 : (-(-(y : Int) - 1) - 1).toNat = y := by lia
  rw [e1, e2]; lia
theorem or_pow_of_even (q k : Nat) : (2 * q * 2 ^ k) ||| 2 ^ k = (2 * q + 1) * 2 ^ k := by
  apply Nat.eq_of_testBit_eq
  intro i
  rw [Nat.testBit_or, Nat.testBit_two_pow, Nat.mul_comm (2 * q), Nat.mul_comm (2 * q + 1), Nat.testBit_two_pow_mul, Nat.testBit_two_pow_mul]
  by_cases h : k ≤ i
  · simp only [h, decide_true, Bool.true_and]
    cases hq : i - k with
    | zero => have : k = i := by lia
              simp [Nat.testBit_zero, this]
    | succ j => have : k ≠ i := by lia
                simp [Nat.testBit_succ, this]; rw [show (2 * q + 1) / 2 = q by lia]
  · have : k ≠ i := by lia
    simp [h, this]
theorem or_pow_of_odd (q k : Nat) : ((2 * q + 1) * 2 ^ k) ||| 2 ^ k = (2 * q + 1) * 2 ^ k := by
  apply Nat.eq_of_testBit_eq
  intro i
  rw [Nat.testBit_or, Nat.testBit_two_pow, Nat.mul_comm (2 * q + 1), Nat.testBit_two_pow_mul]
  by_cases h : k = i
  · subst h; simp [Nat.testBit_zero]
  · simp [h]
theorem Cel.par_bits (c : Cel) : Builtin.bitOr (Builtin.bitAnd c.id (-(((4 ^ c.u : Nat) : Int) * 2 ^ Int.toNat 2))) (((4 ^ c.u : Nat) : Int) * 2 ^ Int.toNat 2) = c.par.id := by
  have e : (((4 ^ c.u : Nat) : Int) * 2 ^ Int.toNat 2) = ((2 ^ (2 * c.u + 2) : Nat) : Int) := by
    rw [four_pow, Nat.pow_add]; simp
  rw [e]
  unfold Cel.id
  rw [bitAnd_mask, bitOr_nn]
  congr 1
  have hp := Nat.two_pow_pos (2 * c.u)
  have e1 : c.nid - c.nid % 2 ^ (2 * c.u + 2) = (c.p / 2) * 2 ^ (2 * c.u + 2) := by
    have hdiv : c.nid / 2 ^ (2 * c.u + 2) = c.p / 2 := by
      unfold Cel.nid
      rw [four_pow, Nat.pow_add, Nat.mul_comm (2 ^ (2 * c.u)) (2 ^ 2), Nat.mul_div_mul_right _ _ hp]
      lia
    have := Nat.div_add_mod c.nid (2 ^ (2 * c.u + 2))
    rw [hdiv] at this
    rw [Nat.mul_comm (c.p / 2)]
    lia
  rw [e1]
  have e2 : c.par.nid = (2 * (c.p / 4) + 1) * 2 ^ (2 * c.u + 2) := by
    unfold Cel.nid Cel.par
    dsimp only
    rw [four_pow, Nat.mul_add]
  rw [e2]
  rcases Nat.mod_two_eq_zero_or_one (c.p / 2) with h | h
  · rw [show c.p / 2 = 2 * (c.p / 4) by lia, or_pow_of_even]
  · rw [show c.p / 2 = 2 * (c.p / 4) + 1 by lia, or_pow_of_odd]
end Mine
end
section
open PySem
namespace Mine
def Cel.has (c e : Cel) : Bool := decide (c.first.id ≤ e.id) && decide (e.id ≤ c.last.id)
def popIn (e : Cel) : List Cel → List Cel
  | [] => []
  | t :: r => if e.has t then popIn e r else t :: r
def Cel.mask (c : Cel) : Int := Builtin.bitNot (((4 ^ c.u : Nat) : Int) * 2 ^ Int.toNat 1 + ((4 ^ c.u : Nat) : Int) * 2 ^ Int.toNat 1 * 2 ^ Int.toNat 1)
def quad (x3 x2 x1 c : Cel) : Bool :=
  decide (Builtin.bitXor (Builtin.bitXor x3.id x2.id) x1.id = c.id) && (decide (Builtin.bitAnd x3.id c.mask = Builtin.bitAnd c.id c.mask) && (decide (Builtin.bitAnd x2.id c.mask = Builtin.bitAnd c.id c.mask) && (decide (Builtin.bitAnd x1.id c.mask = Builtin.bitAnd c.id c.mask) && !decide (c.u = 30))))
def merge : Cel → List Cel → Cel × List Cel
  | c, x1 :: x2 :: x3 :: r => if quad x3 x2 x1 c then merge c.par r else (c, x1 :: x2 :: x3 :: r)
  | c, st => (c, st)
def push (st : List Cel) (c : Cel) : List Cel := (merge c (popIn c st)).1 :: (merge c (popIn c st)).2
def nstep (st : List Cel) (c : Cel) : List Cel := match st with
  | [] => push st c
  | t :: _ => if t.has c then st else push st c
theorem merge_no {c x1 x2 x3 : Cel} {r : List Cel} (h : quad x3 x2 x1 c = false) : merge c (x1 :: x2 :: x3 :: r) = (c, x1 :: x2 :: x3 :: r) := by rw [merge, if_neg (by rw [h]; decide)]
theorem merge_yes {c x1 x2 x3 : Cel} {r : List Cel} (h : quad x3 x2 x1 c = true) : merge c (x1 :: x2 :: x3 :: r) = merge c.par r := by rw [merge, if_pos h]
theorem merge_few {c : Cel} {st : List Cel} (h : st.length < 3) : merge c st = (c, st) := by
  match st, h with
  | [], _ => rfl
  | [_], _ => rfl
  | [_, _], _ => rfl
end Mine
end
section
open PySem
namespace Mine
/-! cells as stretches of leaves -/
def Cel.lo (c : Cel) : Nat := c.p * 4 ^ c.u
def Cel.hi (c : Cel) : Nat := (c.p + 1) * 4 ^ c.u
theorem p4 (u : Nat) : 0 < 4 ^ u := Nat.pow_pos (by decide)
theorem Cel.hi_eq (c : Cel) : c.hi = c.lo + 4 ^ c.u := by unfold Cel.hi Cel.lo; rw [Nat.add_mul, Nat.one_mul]
theorem Cel.lo_lt (c : Cel) : c.lo < c.hi := by rw [c.hi_eq]; have := p4 c.u; lia
def Cel.sub (c d : Cel) : Prop := d.lo ≤ c.lo ∧ c.hi ≤ d.hi
theorem Cel.sub_rfl (c : Cel) : c.sub c := ⟨Nat.le_refl _, Nat.le_refl _⟩
theorem Cel.sub.trans {c d e : Cel} (h : c.sub d) (k : d.sub e) : c.sub e := ⟨Nat.le_trans k.1 h.1, Nat.le_trans h.2 k.2⟩
theorem four_add {u v : Nat} (h : u ≤ v) : 4 ^ v = 4 ^ (v - u) * 4 ^ u := by rw [← Nat.pow_add]; congr 1; lia
theorem Cel.nest {c d : Cel} (h : c.u ≤ d.u) : c.sub d ∨ c.hi ≤ d.lo ∨ d.hi ≤ c.lo := by
  have e := four_add h
  have m := p4 c.u
  unfold Cel.sub Cel.lo Cel.hi
  rw [e, ← Nat.mul_assoc, ← Nat.mul_assoc]
  generalize 4 ^ (d.u - c.u) = k at *
  by_cases a : c.p + 1 ≤ d.p * k
  · exact .inr (.inl (Nat.mul_le_mul_right _ a))
  · by_cases b : (d.p + 1) * k ≤ c.p
    · exact .inr (.inr (Nat.mul_le_mul_right _ b))
    · exact .inl ⟨Nat.mul_le_mul_right _ (by lia), Nat.mul_le_mul_right _ (by lia)⟩
theorem Cel.nest' (c d : Cel) : c.sub d ∨ d.sub c ∨ c.hi ≤ d.lo ∨ d.hi ≤ c.lo := by
  by_cases h : c.u ≤ d.u
  · rcases Cel.nest h with q | q | q
    · exact .inl q
    · exact .inr (.inr (.inl q))
    · exact .inr (.inr (.inr q))
  · rcases Cel.nest (c := d) (d := c) (by lia) with q | q | q
    · exact .inr (.inl q)
    · exact .inr (.inr (.inr q))
    · exact .inr (.inr (.inl q))
theorem Cel.meet_sub {c d : Cel} (h : c.u ≤ d.u) {x : Nat} (a : c.lo ≤ x) (b : x < c.hi) (a' : d.lo ≤ x) (b' : x < d.hi) : c.sub d := by
  rcases Cel.nest h with q | q | q
  · exact q
  · lia
  · lia
theorem pow4_inj {u v : Nat} (h : 4 ^ u = 4 ^ v) : u = v := Nat.le_antisymm ((Nat.pow_le_pow_iff_right (by decide)).mp (Nat.le_of_eq h)) ((Nat.pow_le_pow_iff_right (by decide)).mp (Nat.le_of_eq h.symm))
theorem Cel.sub.u_le {c d : Cel} (h : c.sub d) : c.u ≤ d.u := by
  have h1 := h.1; have h2 := h.2
  rw [c.hi_eq, d.hi_eq] at h2
  have : 4 ^ c.u ≤ 4 ^ d.u := by lia
  exact (Nat.pow_le_pow_iff_right (by decide)).mp this
theorem Cel.eq_of_lo {c d : Cel} (h : c.lo = d.lo) (k : c.u = d.u) : c = d := by
  obtain ⟨p, u⟩ := c; obtain ⟨q, v⟩ := d
  dsimp only [Cel.lo] at *
  subst k
  rw [Nat.eq_of_mul_eq_mul_right (p4 u) h]
theorem Cel.sub.sub_eq {c d : Cel} (h : c.sub d) (k : c.u = d.u) : c = d := by
  refine Cel.eq_of_lo ?_ k
  have h1 := h.1; have h2 := h.2
  rw [c.hi_eq, d.hi_eq, k] at h2
  lia
theorem Cel.nid_eq (c : Cel) : c.nid = c.lo + c.hi := by
  rw [c.hi_eq]; unfold Cel.nid Cel.lo
  rw [Nat.add_mul, Nat.one_mul, Nat.mul_assoc]; lia
theorem Cel.id_eq (c : Cel) : c.id = (c.lo : Int) + c.hi := by unfold Cel.id; rw [c.nid_eq]; lia
theorem Cel.first_lo (c : Cel) : c.first.lo = c.lo ∧ c.first.hi = c.lo + 1 := by
  unfold Cel.first Cel.lo Cel.hi; simp
theorem Cel.last_lo (c : Cel) : c.last.lo = c.hi - 1 ∧ c.last.hi = c.hi := by
  have := c.lo_lt
  have e : c.last.lo = c.hi - 1 := by unfold Cel.last Cel.lo Cel.hi; simp
  have e2 : c.last.hi = c.hi - 1 + 1 := by unfold Cel.last Cel.hi; simp
  exact ⟨e, by lia⟩
theorem Cel.first_id' (c : Cel) : c.first.id = 2 * (c.lo : Int) + 1 := by
  have := c.first_lo
  rw [Cel.id_eq, this.1, this.2]; lia
theorem Cel.last_id' (c : Cel) : c.last.id = 2 * (c.hi : Int) - 1 := by
  have := c.last_lo
  have := c.lo_lt
  rw [Cel.id_eq, c.last_lo.1, c.last_lo.2]; lia
theorem Cel.mid {c e : Cel} (h : c.u < e.u) : e.lo + e.hi ≤ 2 * c.lo ∨ 2 * c.hi ≤ e.lo + e.hi := by
  have h' : e.lo + e.hi = 2 * ((4 * e.p + 2) * 4 ^ (e.u - 1 - c.u) * 4 ^ c.u) := by
    rw [← e.nid_eq]; unfold Cel.nid
    have : 4 ^ e.u = 4 * (4 ^ (e.u - 1 - c.u) * 4 ^ c.u) := by
      rw [← Nat.pow_add, Nat.mul_comm, ← Nat.pow_succ]; congr 1; lia
    rw [this, Nat.mul_assoc (4 * e.p + 2)]
    generalize 4 ^ (e.u - 1 - c.u) * 4 ^ c.u = k
    have e1 : (2 * e.p + 1) * (4 * k) = (2 * e.p + 1) * 4 * k := (Nat.mul_assoc _ _ _).symm
    have e2 : 2 * ((4 * e.p + 2) * k) = 2 * (4 * e.p + 2) * k := (Nat.mul_assoc _ _ _).symm
    rw [e1, e2]; congr 1; lia
  rw [h']
  generalize (4 * e.p + 2) * 4 ^ (e.u - 1 - c.u) = k
  unfold Cel.lo Cel.hi
  by_cases q : k ≤ c.p
  · left; exact Nat.mul_le_mul_left _ (Nat.mul_le_mul_right _ q)
  · right; exact Nat.mul_le_mul_left _ (Nat.mul_le_mul_right _ (by lia))
theorem Cel.has_iff (c e : Cel) : c.has e = true ↔ e.sub c := by
  unfold Cel.has
  rw [Bool.and_eq_true, decide_eq_true_eq, decide_eq_true_eq, c.first_id', c.last_id', e.id_eq]
  have := e.lo_lt
  have := c.lo_lt
  constructor
  · rintro ⟨h1, h2⟩
    by_cases q : e.u ≤ c.u
    · rcases Cel.nest q with z | z | z
      · exact z
      · lia
      · lia
    · have := Cel.mid (c := c) (e := e) (by lia)
      lia
  · rintro ⟨h1, h2⟩
    lia
/-! rows -/
def Lf (cs : List Cel) (x : Nat) : Prop := ∃ c ∈ cs, c.lo ≤ x ∧ x < c.hi
abbrev Asc (cs : List Cel) : Prop := cs.Pairwise fun a b => a.hi ≤ b.lo
abbrev Dsc (cs : List Cel) : Prop := cs.Pairwise fun a b => b.hi ≤ a.lo
def NoQuad (cs : List Cel) : Prop := ∀ P u, u < 30 → (∀ r, r < 4 → (⟨4 * P + r, u⟩ : Cel) ∈ cs) → False
theorem apart {cs : List Cel} (h : Asc cs) {c d : Cel} (hc : c ∈ cs) (hd : d ∈ cs) (hne : c ≠ d) : c.hi ≤ d.lo ∨ d.hi ≤ c.lo := by
  induction cs with
  | nil => cases hc
  | cons a r ih =>
    have h' := List.pairwise_cons.mp h
    rcases List.mem_cons.mp hc with e1 | m1
    · rcases List.mem_cons.mp hd with e2 | m2
      · exact absurd (e1.trans e2.symm) hne
      · rw [e1]; exact .inl (h'.1 d m2)
    · rcases List.mem_cons.mp hd with e2 | m2
      · rw [e2]; exact .inr (h'.1 c m1)
      · exact ih h'.2 m1 m2
theorem apart_eq {cs : List Cel} (h : Asc cs) {c d : Cel} (hc : c ∈ cs) (hd : d ∈ cs) (hs : c.sub d) : c = d := by
  apply Classical.byContradiction
  intro q
  have := apart h hc hd q
  have := c.lo_lt
  have := d.lo_lt
  have h1 := hs.1; have h2 := hs.2
  lia
theorem Cel.sub_par (P r u : Nat) (h : r < 4) : (⟨4 * P + r, u⟩ : Cel).sub ⟨P, u + 1⟩ := by
  unfold Cel.sub Cel.lo Cel.hi
  dsimp only
  have e : ∀ k : Nat, k * 4 ^ (u + 1) = (4 * k) * 4 ^ u := fun k => by rw [Nat.pow_succ, ← Nat.mul_assoc, Nat.mul_right_comm, Nat.mul_comm k 4]
  rw [e, e]
  exact ⟨Nat.mul_le_mul_right _ (by lia), Nat.mul_le_mul_right _ (by lia)⟩
theorem Cel.eta_p (d : Cel) : d = ⟨4 * (d.p / 4) + d.p % 4, d.u⟩ := by
  obtain ⟨p, u⟩ := d
  dsimp only
  congr 1; lia
theorem grow {cs : List Cel} (ha : Asc cs) (hq : NoQuad cs) {q : Cel} (hqo : q.u ≤ 30) (hS : ∀ x, q.lo ≤ x → x < q.hi → Lf cs x) : ∀ n (d : Cel), d ∈ cs → d.u = n → d.sub q → d = q := by
  intro n
  induction n using Nat.strongRecOn with
  | _ n ih =>
    intro d hd hn hs
    apply Classical.byContradiction
    intro hne
    have hlt : d.u < q.u := by
      have := hs.u_le
      rcases Nat.lt_or_eq_of_le this with z | z
      · exact z
      · exact absurd (hs.sub_eq z) hne
    have dpar : d.sub ⟨d.p / 4, d.u + 1⟩ := by
      have := Cel.sub_par (d.p / 4) (d.p % 4) d.u (Nat.mod_lt _ (by decide))
      rwa [← d.eta_p] at this
    have parq : (⟨d.p / 4, d.u + 1⟩ : Cel).sub q := Cel.meet_sub (x := d.lo) (show d.u + 1 ≤ q.u by lia) dpar.1 (Nat.lt_of_lt_of_le d.lo_lt dpar.2) hs.1 (Nat.lt_of_lt_of_le d.lo_lt hs.2)
    refine hq (d.p / 4) d.u (by lia) fun r hr => ?_
    have s1 := Cel.sub_par (d.p / 4) r d.u hr
    have sq := s1.trans parq
    have sl := Cel.lo_lt ⟨4 * (d.p / 4) + r, d.u⟩
    generalize hs' : (⟨4 * (d.p / 4) + r, d.u⟩ : Cel) = s at *
    have su : s.u = d.u := by rw [← hs']
    obtain ⟨f, hf, f1, f2⟩ := hS s.lo sq.1 (Nat.lt_of_lt_of_le sl sq.2)
    by_cases hfq : q.u ≤ f.u
    · have qf : q.sub f := Cel.meet_sub hfq sq.1 (Nat.lt_of_lt_of_le sl sq.2) f1 f2
      have := apart_eq ha hd hf (hs.trans qf)
      have := this ▸ hlt
      lia
    · have fq : f.sub q := Cel.meet_sub (by lia) f1 f2 sq.1 (Nat.lt_of_lt_of_le sl sq.2)
      by_cases hfd : f.u < d.u
      · have := ih f.u (by lia) f hf rfl fq
        subst this; lia
      · have sf : s.sub f := Cel.meet_sub (by lia) (Nat.le_refl _) sl f1 f2
        by_cases hu : f.u = d.u
        · rw [sf.sub_eq (su.trans hu.symm)]; exact hf
        · exfalso
          have pf : (⟨d.p / 4, d.u + 1⟩ : Cel).sub f := Cel.meet_sub (x := s.lo) (show d.u + 1 ≤ f.u by lia) s1.1 (Nat.lt_of_lt_of_le sl s1.2) f1 f2
          have := apart_eq ha hd hf (dpar.trans pf)
          subst this; lia
structure Least (S : Nat → Prop) (cs : List Cel) : Prop where
  asc : Asc cs
  ok : ∀ c ∈ cs, c.ok
  lf : ∀ x, Lf cs x ↔ S x
  mx : ∀ c ∈ cs, ∀ q : Cel, q.u ≤ 30 → (∀ x, q.lo ≤ x → x < q.hi → S x) → c.sub q → c = q
theorem Least.of_noquad {cs : List Cel} (ha : Asc cs) (ho : ∀ c ∈ cs, c.ok) (hq : NoQuad cs) : Least (Lf cs) cs :=
  ⟨ha, ho, fun _ => Iff.rfl, fun c hc q hqo hS hs => grow ha hq hqo hS c.u c hc rfl hs⟩
theorem Least.congr {S T : Nat → Prop} {cs : List Cel} (h : Least S cs) (e : ∀ x, S x ↔ T x) : Least T cs :=
  ⟨h.asc, h.ok, fun x => (h.lf x).trans (e x), fun c hc q hq hS => h.mx c hc q hq fun x a b => (e x).mpr (hS x a b)⟩
theorem Least.cell {S : Nat → Prop} {cs : List Cel} (h : Least S cs) {c : Cel} (hc : c ∈ cs) {x : Nat} (a : c.lo ≤ x) (b : x < c.hi) : S x := (h.lf x).mp ⟨c, hc, a, b⟩
theorem Least.mem {S : Nat → Prop} {cs ds : List Cel} (h : Least S cs) (k : Least S ds) {c : Cel} (hc : c ∈ cs) : c ∈ ds := by
  obtain ⟨d, hd, d1, d2⟩ := (k.lf c.lo).mpr (h.cell hc (Nat.le_refl _) c.lo_lt)
  by_cases q : c.u ≤ d.u
  · have := Cel.meet_sub q (Nat.le_refl _) c.lo_lt d1 d2
    rw [h.mx c hc d (k.ok d hd).1 (fun x a b => k.cell hd a b) this]; exact hd
  · have := Cel.meet_sub (c := d) (d := c) (by lia) d1 d2 (Nat.le_refl _) c.lo_lt
    rw [← k.mx d hd c (h.ok c hc).1 (fun x a b => h.cell hc a b) this]; exact hd
theorem asc_ext : ∀ {cs ds : List Cel}, Asc cs → Asc ds → (∀ c, c ∈ cs ↔ c ∈ ds) → cs = ds
  | [], [], _, _, _ => rfl
  | [], d :: _, _, _, h => by have := (h d).mpr (.head _); cases this
  | c :: _, [], _, _, h => by have := (h c).mp (.head _); cases this
  | c :: r, d :: t, h1, h2, h => by
    have a1 := List.pairwise_cons.mp h1
    have a2 := List.pairwise_cons.mp h2
    have hcd : c = d := by
      rcases List.mem_cons.mp ((h c).mp (.head _)) with q | q
      · exact q
      · rcases List.mem_cons.mp ((h d).mpr (.head _)) with z | z
        · exact z.symm
        · have := a2.1 c q
          have := a1.1 d z
          have := c.lo_lt
          have := d.lo_lt
          lia
    subst hcd
    rw [asc_ext a1.2 a2.2 fun x => ?_]
    constructor
    · intro hx
      rcases List.mem_cons.mp ((h x).mp (.tail _ hx)) with rfl | q
      · have := a1.1 x hx; have := x.lo_lt; lia
      · exact q
    · intro hx
      rcases List.mem_cons.mp ((h x).mpr (.tail _ hx)) with rfl | q
      · have := a2.1 x hx; have := x.lo_lt; lia
      · exact q
theorem Least.uniq {S : Nat → Prop} {cs ds : List Cel} (h : Least S cs) (k : Least S ds) : cs = ds :=
  asc_ext h.asc k.asc fun c => ⟨h.mem k, k.mem h⟩
end Mine
end
section
open PySem
namespace Mine
theorem and3 (X k : Nat) : X &&& (3 * 2 ^ k) = (X / 2 ^ k % 4) * 2 ^ k := by
  apply Nat.eq_of_testBit_eq
  intro i
  rw [Nat.testBit_and, Nat.mul_comm 3, Nat.mul_comm (X / 2 ^ k % 4), Nat.testBit_two_pow_mul, Nat.testBit_two_pow_mul, show (4 : Nat) = 2 ^ 2 from rfl, Nat.testBit_mod_two_pow, Nat.testBit_div_two_pow, show (3 : Nat) = 2 ^ 2 - 1 from rfl, Nat.testBit_two_pow_sub_one]
  by_cases h : k ≤ i
  · have e : i - k + k = i ∧ k + (i - k) = i := by lia
    simp only [h, decide_true, Bool.true_and]
    first | rw [e.1] | rw [e.2]
    exact Bool.and_comm _ _
  · simp [h]
theorem xor3 (P a b c : Nat) (ha : a < 8) (hb : b < 8) (hc : c < 8) : ((8 * P + a) ^^^ (8 * P + b)) ^^^ (8 * P + c) = 8 * P + ((a ^^^ b) ^^^ c) := by
  have hx : ((a ^^^ b) ^^^ c) < 2 ^ 3 := Nat.xor_lt_two_pow (Nat.xor_lt_two_pow ha hb) hc
  apply Nat.eq_of_testBit_eq
  intro i
  rw [Nat.testBit_xor, Nat.testBit_xor, show (8 : Nat) = 2 ^ 3 from rfl, Nat.testBit_two_pow_mul_add _ ha, Nat.testBit_two_pow_mul_add _ hb, Nat.testBit_two_pow_mul_add _ hc, Nat.testBit_two_pow_mul_add _ hx]
  by_cases h : i < 3
  · simp only [h, if_true, Nat.testBit_xor]
  · simp only [h, if_false]
    cases P.testBit (i - 3) <;> rfl
theorem xor_scale (x y k : Nat) : (x * 2 ^ k) ^^^ (y * 2 ^ k) = (x ^^^ y) * 2 ^ k := by
  apply Nat.eq_of_testBit_eq
  intro i
  rw [Nat.testBit_xor, Nat.mul_comm x, Nat.mul_comm y, Nat.mul_comm (x ^^^ y), Nat.testBit_two_pow_mul, Nat.testBit_two_pow_mul, Nat.testBit_two_pow_mul, Nat.testBit_xor]
  by_cases h : k ≤ i <;> simp [h]
theorem mask_eq (c : Cel) : c.mask = (-(((3 * 2 ^ (2 * c.u + 1) : Nat)) + 1 : Nat) : Int) := by
  unfold Cel.mask Builtin.bitNot
  have e : 4 ^ c.u * 2 = 2 ^ (2 * c.u + 1) := by rw [four_pow, Nat.pow_succ]
  have e1 : ((4 ^ c.u : Nat) : Int) * 2 ^ Int.toNat 1 = ((2 ^ (2 * c.u + 1) : Nat) : Int) := by rw [← e]; simp
  rw [e1]
  generalize 2 ^ (2 * c.u + 1) = K
  simp only [show (2 : Int) ^ Int.toNat 1 = 2 from rfl]
  lia
theorem and_mask (x c : Cel) : Builtin.bitAnd x.id c.mask = ((x.nid - (x.nid / 2 ^ (2 * c.u + 1) % 4) * 2 ^ (2 * c.u + 1) : Nat) : Int) := by
  rw [mask_eq]
  unfold Cel.id
  rw [bitAnd_np, and3]
  have h1 : x.nid / 2 ^ (2 * c.u + 1) % 4 * 2 ^ (2 * c.u + 1) ≤ x.nid := Nat.le_trans (Nat.mul_le_mul_right _ (Nat.mod_le _ _)) (Nat.div_mul_le_self _ _)
  lia
theorem split4 (A K : Nat) : A - (A / K % 4) * K = (A / K / 4) * (4 * K) + A % K := by
  have h1 := Nat.div_add_mod A K
  have h2 := Nat.div_add_mod (A / K) 4
  have e : A / K / 4 * (4 * K) = 4 * (A / K / 4) * K := by rw [← Nat.mul_assoc, Nat.mul_comm (A / K / 4) 4]
  have e2 : K * (A / K) = 4 * (A / K / 4) * K + (A / K % 4) * K := by
    rw [← Nat.add_mul, h2, Nat.mul_comm]
  rw [e]
  generalize 4 * (A / K / 4) * K = z at *
  generalize (A / K % 4) * K = y at *
  generalize K * (A / K) = w at *
  lia
theorem unq {a a' b b' K : Nat} (hb : b < K) (hb' : b' < K) (h : a * (4 * K) + b = a' * (4 * K) + b') : a = a' ∧ b = b' := by
  have key : a = a' := by
    rcases Nat.lt_trichotomy a a' with q | q | q
    · have := Nat.mul_le_mul_right (4 * K) (show a + 1 ≤ a' from q)
      rw [Nat.add_mul] at this; lia
    · exact q
    · have := Nat.mul_le_mul_right (4 * K) (show a' + 1 ≤ a from q)
      rw [Nat.add_mul] at this; lia
  subst key
  exact ⟨rfl, by lia⟩
theorem nid_split (c : Cel) : c.nid / 2 ^ (2 * c.u + 1) = c.p ∧ c.nid % 2 ^ (2 * c.u + 1) = 2 ^ (2 * c.u) := by
  have hp := Nat.two_pow_pos (2 * c.u)
  have e : c.nid = 2 ^ (2 * c.u + 1) * c.p + 2 ^ (2 * c.u) := by
    unfold Cel.nid
    rw [four_pow, Nat.pow_succ, Nat.add_mul, Nat.one_mul, Nat.mul_comm 2 c.p, Nat.mul_assoc, Nat.mul_comm c.p, Nat.mul_comm (2 ^ (2 * c.u)) 2]
  have hlt : 2 ^ (2 * c.u) < 2 ^ (2 * c.u + 1) := by rw [Nat.pow_succ]; lia
  rw [e]
  exact ⟨by rw [Nat.mul_add_div (Nat.two_pow_pos _), Nat.div_eq_of_lt hlt, Nat.add_zero], by rw [Nat.mul_add_mod, Nat.mod_eq_of_lt hlt]⟩
theorem mod_other {x : Cel} {u : Nat} (h : x.nid % 2 ^ (2 * u + 1) = 2 ^ (2 * u)) : x.u = u := by
  rcases Nat.lt_trichotomy x.u u with q | q | q
  · exfalso
    have h2 := (nid_split x).2
    have d1 : 2 ^ (2 * x.u + 1) ∣ 2 ^ (2 * u) := Nat.pow_dvd_pow 2 (by lia)
    have d2 : 2 ^ (2 * x.u + 1) ∣ 2 ^ (2 * u + 1) := Nat.pow_dvd_pow 2 (by lia)
    have d3 : 2 ^ (2 * x.u + 1) ∣ x.nid := by
      rw [← Nat.div_add_mod x.nid (2 ^ (2 * u + 1)), h]
      exact Nat.dvd_add (Nat.dvd_trans d2 (Nat.dvd_mul_right _ _)) d1
    rw [Nat.mod_eq_zero_of_dvd d3] at h2
    have := Nat.two_pow_pos (2 * x.u)
    lia
  · exact q
  · exfalso
    have d : 2 ^ (2 * u + 1) ∣ x.nid := by
      unfold Cel.nid
      rw [four_pow]
      exact Nat.dvd_trans (Nat.pow_dvd_pow 2 (by lia)) (Nat.dvd_mul_left _ _)
    rw [Nat.mod_eq_zero_of_dvd d] at h
    have := Nat.two_pow_pos (2 * u)
    lia
theorem mask_iff (x c : Cel) : Builtin.bitAnd x.id c.mask = Builtin.bitAnd c.id c.mask ↔ x.u = c.u ∧ x.p / 4 = c.p / 4 := by
  rw [and_mask, and_mask, Int.ofNat_inj, split4, split4, (nid_split c).1, (nid_split c).2]
  constructor
  · intro h
    have hlt : 2 ^ (2 * c.u) < 2 ^ (2 * c.u + 1) := by rw [Nat.pow_succ]; have := Nat.two_pow_pos (2 * c.u); lia
    obtain ⟨h1, h2⟩ := unq (Nat.mod_lt _ (Nat.two_pow_pos _)) hlt h
    have hu := mod_other h2
    refine ⟨hu, ?_⟩
    rw [← hu, (nid_split x).1] at h1
    exact h1
  · rintro ⟨hu, hp⟩
    have := nid_split x
    rw [hu] at this
    rw [this.1, this.2, hp]
theorem or_xor_and (x y : Nat) : x ||| y = (x ^^^ y) + (x &&& y) := by
  induction x using Nat.strongRecOn generalizing y with
  | _ x ih =>
    by_cases hx : x = 0
    · subst hx; simp
    · have h := ih (x / 2) (by lia) (y / 2)
      have o1 := @Nat.or_div_two x y
      have o2 := @Nat.xor_div_two x y
      have o3 := @Nat.and_div_two x y
      have m1 := @Nat.or_mod_two_eq_one x y
      have m2 := @Nat.xor_mod_two_eq_one x y
      have m3 := @Nat.and_mod_two_eq_one x y
      rw [← o1, ← o2, ← o3] at h
      generalize x ||| y = a at *
      generalize x ^^^ y = b at *
      generalize x &&& y = c at *
      rcases Nat.mod_two_eq_zero_or_one x with hx2 | hx2 <;> rcases Nat.mod_two_eq_zero_or_one y with hy2 | hy2 <;> simp [hx2, hy2] at m1 m2 m3 <;> lia
theorem bitXor_nn (x y : Nat) : Builtin.bitXor (x : Int) (y : Int) = ((x ^^^ y : Nat) : Int) := by
  have e : Builtin.bitXor (x : Int) (y : Int) = Builtin.bitOr (x : Int) (y : Int) - Builtin.bitAnd (x : Int) (y : Int) := rfl
  rw [e, bitOr_nn, bitAnd_nn, or_xor_and]
  lia
theorem quad_kids {x3 x2 x1 c : Cel} (hd : Dsc [c, x1, x2, x3]) (h : quad x3 x2 x1 c = true) : c.u ≠ 30 ∧ c = ⟨4 * (c.p / 4) + 3, c.u⟩ ∧ x1 = ⟨4 * (c.p / 4) + 2, c.u⟩ ∧ x2 = ⟨4 * (c.p / 4) + 1, c.u⟩ ∧ x3 = ⟨4 * (c.p / 4) + 0, c.u⟩ := by
  unfold quad at h
  simp only [Bool.and_eq_true, decide_eq_true_eq, Bool.not_eq_true', decide_eq_false_iff_not, mask_iff] at h
  obtain ⟨_, ⟨u3, p3⟩, ⟨u2, p2⟩, ⟨u1, p1⟩, h30⟩ := h
  have a := List.pairwise_cons.mp hd
  have b := List.pairwise_cons.mp a.2
  have d := List.pairwise_cons.mp b.2
  have g1 := a.1 x1 (by simp)
  have g2 := b.1 x2 (by simp)
  have g3 := d.1 x3 (by simp)
  have lt : ∀ {x y : Cel}, x.u = c.u → y.u = c.u → x.hi ≤ y.lo → x.p < y.p := by
    intro x y hx hy q
    unfold Cel.hi Cel.lo at q
    rw [hx, hy] at q
    have := Nat.le_of_mul_le_mul_right q (p4 c.u)
    lia
  have l1 := lt u1 rfl g1
  have l2 := lt u2 u1 g2
  have l3 := lt u3 u2 g3
  obtain ⟨q3, v3⟩ := x3
  obtain ⟨q2, v2⟩ := x2
  obtain ⟨q1, v1⟩ := x1
  obtain ⟨q, v⟩ := c
  dsimp only at *
  subst u3 u2 u1
  refine ⟨h30, ?_, ?_, ?_, ?_⟩ <;> (congr 1; lia)
theorem kids_quad {P u : Nat} (h : u ≠ 30) : quad ⟨4 * P + 0, u⟩ ⟨4 * P + 1, u⟩ ⟨4 * P + 2, u⟩ ⟨4 * P + 3, u⟩ = true := by
  unfold quad
  simp only [Bool.and_eq_true, decide_eq_true_eq, Bool.not_eq_true', decide_eq_false_iff_not, mask_iff]
  refine ⟨?_, ⟨trivial, by lia⟩, ⟨trivial, by lia⟩, ⟨trivial, by lia⟩, h⟩
  unfold Cel.id Cel.nid
  dsimp only
  rw [four_pow, bitXor_nn, bitXor_nn, xor_scale, xor_scale]
  congr 2
  have := xor3 P 1 3 5 (by decide) (by decide) (by decide)
  rw [show 2 * (4 * P + 0) + 1 = 8 * P + 1 by lia, show 2 * (4 * P + 1) + 1 = 8 * P + 3 by lia, show 2 * (4 * P + 2) + 1 = 8 * P + 5 by lia, show 2 * (4 * P + 3) + 1 = 8 * P + 7 by lia, this]
  rfl
end Mine
end
section
open PySem
namespace Mine
theorem NoQuad.sub {cs ds : List Cel} (h : NoQuad cs) (k : ∀ c ∈ ds, c ∈ cs) : NoQuad ds := fun P u hu q => h P u hu fun r hr => k _ (q r hr)
theorem top_of {a k : Cel} {st : List Cel} (h : Dsc (a :: st)) (hk : k ∈ st) (e : k.hi = a.lo) : ∃ r, st = k :: r := by
  cases st with
  | nil => cases hk
  | cons x r =>
    have h1 := List.pairwise_cons.mp h
    have h2 := List.pairwise_cons.mp h1.2
    rcases List.mem_cons.mp hk with q | q
    · exact ⟨r, by rw [q]⟩
    · have := h2.1 k q
      have := h1.1 x (.head _)
      have := x.lo_lt
      lia
theorem noquad_push {e : Cel} {st : List Cel} (hd : Dsc (e :: st)) (hq : NoQuad st) (hn : ∀ P u r, u < 30 → e = ⟨4 * P + 3, u⟩ → st = ⟨4 * P + 2, u⟩ :: ⟨4 * P + 1, u⟩ :: ⟨4 * P + 0, u⟩ :: r → False) : NoQuad (e :: st) := by
  intro P u hu h
  have h1 := List.pairwise_cons.mp hd
  have mem : ∀ s, s < 4 → (⟨4 * P + s, u⟩ : Cel) ≠ e → (⟨4 * P + s, u⟩ : Cel) ∈ st := fun s hs hne => (List.mem_cons.mp (h s hs)).resolve_left hne
  have he : e = ⟨4 * P + 3, u⟩ := by
    apply Classical.byContradiction
    intro hne
    have m3 := mem 3 (by decide) (fun z => hne z.symm)
    refine hq P u hu fun r hr => ?_
    by_cases q : (⟨4 * P + r, u⟩ : Cel) = e
    · exfalso
      have a := h1.1 _ m3
      rw [← q] at a
      have l := Cel.lo_lt ⟨4 * P + 3, u⟩
      have : (⟨4 * P + r, u⟩ : Cel).lo ≤ (⟨4 * P + 3, u⟩ : Cel).lo := by
        unfold Cel.lo; exact Nat.mul_le_mul_right _ (by dsimp only; lia)
      lia
    · exact mem r hr q
  have ne : ∀ s, s < 3 → (⟨4 * P + s, u⟩ : Cel) ≠ e := fun s hs z => by
    rw [he] at z
    have := congrArg Cel.p z
    dsimp only at this
    lia
  have m2 := mem 2 (by decide) (ne 2 (by decide))
  have m1 := mem 1 (by decide) (ne 1 (by decide))
  have m0 := mem 0 (by decide) (ne 0 (by decide))
  obtain ⟨r2, e2⟩ := top_of hd m2 (by rw [he]; rfl)
  rw [e2] at m1 m0
  have pne : ∀ s t, s ≠ t → (⟨4 * P + s, u⟩ : Cel) ≠ ⟨4 * P + t, u⟩ := fun s t hs z => by
    have := congrArg Cel.p z
    dsimp only at this
    lia
  have m1 := (List.mem_cons.mp m1).resolve_left (pne 1 2 (by decide))
  have m0 := (List.mem_cons.mp m0).resolve_left (pne 0 2 (by decide))
  have d2 := h1.2
  rw [e2] at d2
  obtain ⟨r1, e1⟩ := top_of d2 m1 rfl
  rw [e1] at m0
  have m0 := (List.mem_cons.mp m0).resolve_left (pne 0 1 (by decide))
  have d1 := (List.pairwise_cons.mp d2).2
  rw [e1] at d1
  obtain ⟨r0, e0⟩ := top_of d1 m0 rfl
  exact hn P u r0 hu he (by rw [e2, e1, e0])
theorem par_lo (P u : Nat) : (⟨P, u + 1⟩ : Cel).lo = 4 * P * 4 ^ u ∧ (⟨P, u + 1⟩ : Cel).hi = 4 * P * 4 ^ u + 4 * 4 ^ u := by
  unfold Cel.lo Cel.hi
  dsimp only
  rw [Nat.pow_succ, Nat.add_mul, Nat.one_mul, Nat.mul_comm (4 ^ u) 4, ← Nat.mul_assoc, Nat.mul_comm P 4]
  exact ⟨rfl, rfl⟩
theorem kid_lo (P u r : Nat) : (⟨4 * P + r, u⟩ : Cel).lo = 4 * P * 4 ^ u + r * 4 ^ u ∧ (⟨4 * P + r, u⟩ : Cel).hi = 4 * P * 4 ^ u + (r + 1) * 4 ^ u := by
  unfold Cel.lo Cel.hi
  dsimp only
  rw [Nat.add_assoc, Nat.add_mul, Nat.add_mul]
  exact ⟨rfl, rfl⟩
theorem Lf_cons {c : Cel} {cs : List Cel} {x : Nat} : Lf (c :: cs) x ↔ (c.lo ≤ x ∧ x < c.hi) ∨ Lf cs x := by
  unfold Lf
  simp only [List.mem_cons, exists_eq_or_imp]
theorem Lf_append {cs ds : List Cel} {x : Nat} : Lf (cs ++ ds) x ↔ Lf cs x ∨ Lf ds x := by
  induction cs with
  | nil => simp [Lf]
  | cons a r ih => rw [List.cons_append, Lf_cons, Lf_cons, ih, or_assoc]
theorem Lf_nil {x : Nat} : ¬ Lf [] x := fun ⟨_, h, _⟩ => nomatch h
theorem Lf_perm {cs ds : List Cel} (h : cs.Perm ds) (x : Nat) : Lf cs x ↔ Lf ds x := by
  unfold Lf
  constructor
  · rintro ⟨c, a, b⟩; exact ⟨c, h.subset a, b⟩
  · rintro ⟨c, a, b⟩; exact ⟨c, h.symm.subset a, b⟩
structure MInv (e : Cel) (st : List Cel) (m : Cel × List Cel) : Prop where
  dsc : Dsc (m.1 :: m.2)
  ok : ∀ c ∈ m.1 :: m.2, c.ok
  nq : NoQuad (m.1 :: m.2)
  lf : ∀ x, Lf (m.1 :: m.2) x ↔ Lf (e :: st) x
  lw : ∀ n, (∀ c ∈ e :: st, 2 * c.lo + 1 ≤ n) → ∀ c ∈ m.1 :: m.2, 2 * c.lo + 1 ≤ n
theorem cut1 {a c x : Nat} (m : Nat) (h1 : a ≤ m) (h2 : m ≤ c) : (a ≤ x ∧ x < c) ↔ (m ≤ x ∧ x < c) ∨ (a ≤ x ∧ x < m) := by
  constructor
  · rintro ⟨p, q⟩
    rcases Nat.lt_or_ge x m with r | r
    · exact .inr ⟨p, r⟩
    · exact .inl ⟨r, q⟩
  · rintro (⟨p, q⟩ | ⟨p, q⟩)
    · exact ⟨Nat.le_trans h1 p, q⟩
    · exact ⟨p, Nat.lt_of_lt_of_le q h2⟩
theorem cut4 (a b x : Nat) : (a ≤ x ∧ x < a + 4 * b) ↔ (a + 3 * b ≤ x ∧ x < a + (3 + 1) * b) ∨ (a + 2 * b ≤ x ∧ x < a + (2 + 1) * b) ∨ (a + 1 * b ≤ x ∧ x < a + (1 + 1) * b) ∨ (a + 0 * b ≤ x ∧ x < a + (0 + 1) * b) := by
  have m : ∀ k, a + k * b ≤ a + (k + 1) * b := fun k => Nat.add_le_add_left (Nat.mul_le_mul_right _ (Nat.le_succ k)) a
  rw [cut1 (a + 3 * b) (Nat.le_add_right _ _) (m 3), cut1 (c := a + 3 * b) (a + 2 * b) (Nat.le_add_right _ _) (m 2), cut1 (c := a + 2 * b) (a + 1 * b) (Nat.le_add_right _ _) (m 1), Nat.zero_mul, Nat.zero_add]
  exact Iff.rfl
theorem merge_inv : ∀ (n : Nat) (st : List Cel) (e : Cel), st.length ≤ n → Dsc (e :: st) → (∀ c ∈ e :: st, c.ok) → NoQuad st → MInv e st (merge e st) := by
  intro n
  induction n using Nat.strongRecOn with
  | _ n ih =>
    intro st e hn hd ho hq
    have few : st.length < 3 → MInv e st (merge e st) := fun h => by
      rw [merge_few h]
      refine ⟨hd, ho, noquad_push hd hq fun P u r hu h1 h2 => ?_, fun x => Iff.rfl, fun n h => h⟩
      dsimp only at h2; rw [h2] at h; simp at h; lia
    match st, hn, hd, ho, hq, few with
    | [], _, _, _, _, few => exact few (by decide)
    | [_], _, _, _, _, few => exact few (by decide : 1 < 3)
    | [_, _], _, _, _, _, few => exact few (by decide : 2 < 3)
    | x1 :: x2 :: x3 :: r, hn, hd, ho, hq, _ =>
      have h1 := List.pairwise_cons.mp hd
      have h2 := List.pairwise_cons.mp h1.2
      have h3 := List.pairwise_cons.mp h2.2
      have h4 := List.pairwise_cons.mp h3.2
      have hd4 : Dsc [e, x1, x2, x3] := hd.sublist (by simp)
      cases hqd : quad x3 x2 x1 e with
      | false =>
        rw [merge_no hqd]
        refine ⟨hd, ho, noquad_push hd hq fun P u r' hu e1 e2 => ?_, fun x => Iff.rfl, fun n h => h⟩
        injection e2 with a1 a2
        injection a2 with a2 a3
        injection a3 with a3 a4
        have := kids_quad (P := P) (u := u) (by lia)
        rw [← a1, ← a2, ← a3, ← e1, hqd] at this
        cases this
      | true =>
        rw [merge_yes hqd]
        obtain ⟨h30, ke, k1, k2, k3⟩ := quad_kids hd4 hqd
        have hpe : e.par = ⟨e.p / 4, e.u + 1⟩ := rfl
        have L := par_lo (e.p / 4) e.u
        have K0 := kid_lo (e.p / 4) e.u 0
        have K1 := kid_lo (e.p / 4) e.u 1
        have K2 := kid_lo (e.p / 4) e.u 2
        have K3 := kid_lo (e.p / 4) e.u 3
        rw [← ke] at K3
        rw [← k1] at K2
        rw [← k2] at K1
        rw [← k3] at K0
        rw [← hpe] at L
        have hd' : Dsc (e.par :: r) := List.pairwise_cons.mpr ⟨fun d hdm => by have := h4.1 d hdm; lia, h4.2⟩
        have ho' : ∀ c ∈ e.par :: r, c.ok := fun c hc => by
          rcases List.mem_cons.mp hc with rfl | hc
          · exact Cel.par_ok (ho e (.head _)) h30
          · exact ho c (by simp [hc])
        have hq' : NoQuad r := hq.sub fun c hc => by simp [hc]
        have := ih r.length (by simp at hn; lia) r e.par (Nat.le_refl _) hd' ho' hq'
        refine ⟨this.dsc, this.ok, this.nq, fun x => (this.lf x).trans ?_, fun n h => this.lw n fun c hc => ?_⟩
        · rw [Lf_cons, Lf_cons, Lf_cons, Lf_cons, Lf_cons]
          by_cases w : Lf r x
          · simp [w]
          · simp only [w, or_false]
            generalize 4 * (e.p / 4) * 4 ^ e.u = a at *
            generalize 4 ^ e.u = b at *
            rw [L.1, L.2, K3.1, K3.2, K2.1, K2.2, K1.1, K1.2, K0.1, K0.2]
            exact cut4 a b x
        · rcases List.mem_cons.mp hc with rfl | hc
          · have := h x3 (by simp); lia
          · exact h c (by simp [hc])
structure Stk (S : Nat → Prop) (n : Nat) (st : List Cel) : Prop where
  dsc : Dsc st
  ok : ∀ c ∈ st, c.ok
  nq : NoQuad st
  lf : ∀ x, Lf st x ↔ S x
  lw : ∀ c ∈ st, 2 * c.lo + 1 ≤ n
theorem popIn_spec (e : Cel) : ∀ st : List Cel, ∃ pre, st = pre ++ popIn e st ∧ (∀ t ∈ pre, t.sub e) ∧ (∀ t r, popIn e st = t :: r → ¬ t.sub e)
  | [] => ⟨[], rfl, (fun _ h => nomatch h), fun t r h => by cases h⟩
  | t :: r => by
    unfold popIn
    cases h : e.has t with
    | true =>
      rw [if_pos rfl]
      obtain ⟨pre, a, b, d⟩ := popIn_spec e r
      refine ⟨t :: pre, by rw [List.cons_append, ← a], fun s hs => ?_, d⟩
      rcases List.mem_cons.mp hs with rfl | hs
      · exact (Cel.has_iff e s).mp h
      · exact b s hs
    | false =>
      rw [if_neg (by decide)]
      refine ⟨[], rfl, (fun _ h => nomatch h), fun s r' hs => ?_⟩
      injection hs with h1 h2
      subst h1
      intro z
      rw [(Cel.has_iff e t).mpr z] at h
      cases h
theorem push_inv {S : Nat → Prop} {n : Nat} {st : List Cel} {e : Cel} (h : Stk S n st) (he : e.ok) (hn : n ≤ e.nid) (ht : ∀ t r, st = t :: r → ¬ e.sub t) : Stk (fun x => S x ∨ (e.lo ≤ x ∧ x < e.hi)) e.nid (push st e) := by
  obtain ⟨pre, h1, h2, h3⟩ := popIn_spec e st
  unfold push
  have le := e.lo_lt
  have hd' := h.dsc
  have hp : ∀ c ∈ popIn e st, c ∈ st := fun c hc => by rw [h1]; exact List.mem_append_right _ hc
  rw [h1] at hd'
  have ap := List.pairwise_append.mp hd'
  have key : Dsc (e :: popIn e st) := by
    refine List.pairwise_cons.mpr ⟨?_, ap.2.1⟩
    cases hq : popIn e st with
    | nil => intro c hc; cases hc
    | cons t r =>
      have ts := h3 t r hq
      have tl := t.lo_lt
      have tw := h.lw t (hp t (by rw [hq]; exact .head _))
      have tle : t.hi ≤ e.lo := by
        rcases Cel.nest' t e with z | z | z | z
        · exact absurd z ts
        · exfalso
          cases pre with
          | nil => exact ht t r (by rw [h1, hq]; rfl) z
          | cons p pre =>
            have := (h2 p (.head _)).trans z
            have a := ap.2.2 p (.head _) t (by rw [hq]; exact .head _)
            have := p.lo_lt
            have b1 := this
            have := (h2 p (.head _)).trans z
            have c1 := this.1
            have c2 := this.2
            lia
        · exact z
        · rw [e.nid_eq] at hn; lia
      intro c hc
      rcases List.mem_cons.mp hc with rfl | hc
      · exact tle
      · have a := ap.2.1
        rw [hq] at a
        have := (List.pairwise_cons.mp a).1 c hc
        lia
  have ok' : ∀ c ∈ e :: popIn e st, c.ok := fun c hc => by
    rcases List.mem_cons.mp hc with rfl | hc
    · exact he
    · exact h.ok c (hp c hc)
  have M := merge_inv _ (popIn e st) e (Nat.le_refl _) key ok' (h.nq.sub hp)
  refine ⟨M.dsc, M.ok, M.nq, fun x => (M.lf x).trans ?_, M.lw _ fun c hc => ?_⟩
  · rw [Lf_cons, ← h.lf x]
    constructor
    · rintro (z | z)
      · exact .inr z
      · rw [h1]; exact .inl (Lf_append.mpr (.inr z))
    · rintro (z | z)
      · rw [h1] at z
        rcases Lf_append.mp z with w | w
        · obtain ⟨c, c1, c2, c3⟩ := w
          have := h2 c c1
          have t1 := this.1
          have t2 := this.2
          exact .inl ⟨by lia, by lia⟩
        · exact .inr w
      · exact .inl z
  · rcases List.mem_cons.mp hc with rfl | hc
    · rw [c.nid_eq]; lia
    · have := h.lw c (hp c hc); lia
theorem nstep_inv {S : Nat → Prop} {n : Nat} {st : List Cel} {e : Cel} (h : Stk S n st) (he : e.ok) (hn : n ≤ e.nid) : Stk (fun x => S x ∨ (e.lo ≤ x ∧ x < e.hi)) e.nid (nstep st e) := by
  cases st with
  | nil => exact push_inv h he hn fun t r z => by cases z
  | cons t r =>
    unfold nstep
    dsimp only
    cases hh : t.has e with
    | true =>
      rw [if_pos rfl]
      have s := (Cel.has_iff t e).mp hh
      refine ⟨h.dsc, h.ok, h.nq, fun x => (h.lf x).trans ⟨.inl, fun z => z.elim id fun z => (h.lf x).mp ⟨t, .head _, ?_⟩⟩, fun c hc => Nat.le_trans (h.lw c hc) hn⟩
      have s1 := s.1
      have s2 := s.2
      lia
    | false =>
      rw [if_neg (by decide)]
      refine push_inv h he hn fun s r' z w => ?_
      injection z with z1 z2
      subst z1
      rw [(Cel.has_iff t e).mpr w] at hh
      cases hh
theorem fold_inv : ∀ (es : List Cel) (st : List Cel) (S : Nat → Prop) (n : Nat), Stk S n st → (∀ e ∈ es, e.ok) → es.Pairwise (fun a b => a.id ≤ b.id) → (∀ e ∈ es, n ≤ e.nid) → ∃ m, Stk (fun x => S x ∨ Lf es x) m (es.foldl nstep st)
  | [], st, S, n, h, _, _, _ => ⟨n, ⟨h.dsc, h.ok, h.nq, fun x => (h.lf x).trans ⟨.inl, fun z => z.elim id fun z => absurd z Lf_nil⟩, h.lw⟩⟩
  | e :: r, st, S, n, h, ho, hs, hn => by
    have hp := List.pairwise_cons.mp hs
    obtain ⟨m, k⟩ := fold_inv r _ _ _ (nstep_inv h (ho e (.head _)) (hn e (.head _))) (fun c hc => ho c (.tail _ hc)) hp.2 fun c hc => by
      have := hp.1 c hc; unfold Cel.id at this; lia
    refine ⟨m, k.dsc, k.ok, k.nq, fun x => (k.lf x).trans ?_, k.lw⟩
    rw [Lf_cons, or_assoc]
theorem nfold_least {cs : List Cel} (ho : ∀ e ∈ cs, e.ok) (hs : cs.Pairwise fun a b => a.id ≤ b.id) : Least (Lf cs) (cs.foldl nstep []).reverse := by
  obtain ⟨m, k⟩ := fold_inv cs [] (fun _ => False) 0 ⟨List.Pairwise.nil, (fun _ h => nomatch h), (fun P u _ h => by have := h 0 (by decide); cases this), fun x => ⟨fun z => absurd z Lf_nil, False.elim⟩, (fun _ h => nomatch h)⟩ ho hs fun _ _ => Nat.zero_le _
  have hr : ∀ c, c ∈ (cs.foldl nstep []).reverse ↔ c ∈ cs.foldl nstep [] := fun c => List.mem_reverse
  refine (Least.of_noquad (List.pairwise_reverse.mpr k.dsc) (fun c hc => k.ok c ((hr c).mp hc)) (k.nq.sub fun c hc => (hr c).mp hc)).congr fun x => ?_
  rw [Lf_perm (List.reverse_perm _), k.lf x, false_or]
theorem merge_len : ∀ (n : Nat) (st : List Cel) (e : Cel), st.length ≤ n → (merge e st).2.length ≤ st.length ∧ ((merge e st).2.length = st.length → merge e st = (e, st)) := by
  intro n
  induction n using Nat.strongRecOn with
  | _ n ih =>
    intro st e hn
    match st, hn with
    | [], _ => exact ⟨Nat.le_refl _, fun _ => rfl⟩
    | [_], _ => exact ⟨Nat.le_refl _, fun _ => rfl⟩
    | [_, _], _ => exact ⟨Nat.le_refl _, fun _ => rfl⟩
    | x1 :: x2 :: x3 :: r, hn =>
      cases hqd : quad x3 x2 x1 e with
      | false => rw [merge_no hqd]; exact ⟨Nat.le_refl _, fun _ => rfl⟩
      | true =>
        rw [merge_yes hqd]
        have := ih r.length (by simp at hn; lia) r e.par (Nat.le_refl _)
        refine ⟨by simp; lia, fun h => ?_⟩
        simp at h
        lia
theorem nstep_same {st : List Cel} {e : Cel} : (nstep st e).length ≤ st.length + 1 ∧ ((nstep st e).length = st.length + 1 → nstep st e = e :: st) := by
  have hp : (push st e).length ≤ st.length + 1 ∧ ((push st e).length = st.length + 1 → push st e = e :: st) := by
    obtain ⟨pre, h1, _, _⟩ := popIn_spec e st
    have hm := merge_len _ (popIn e st) e (Nat.le_refl _)
    have hl := congrArg List.length h1
    rw [List.length_append] at hl
    unfold push
    refine ⟨by rw [List.length_cons]; lia, fun h => ?_⟩
    rw [List.length_cons] at h
    have e1 := hm.2 (by lia)
    have e2 : pre = [] := List.eq_nil_of_length_eq_zero (by lia)
    rw [e2, List.nil_append] at h1
    rw [e1, ← h1]
  cases st with
  | nil => exact hp
  | cons t r =>
    unfold nstep
    dsimp only
    split
    · exact ⟨by lia, fun h => by lia⟩
    · exact hp
theorem fold_len : ∀ (es st : List Cel), (es.foldl nstep st).length ≤ es.length + st.length ∧ ((es.foldl nstep st).length = es.length + st.length → es.foldl nstep st = es.reverse ++ st)
  | [], st => by simp
  | e :: r, st => by
    have h1 := fold_len r (nstep st e)
    have h2 := nstep_same (st := st) (e := e)
    rw [List.foldl_cons, List.length_cons]
    refine ⟨by lia, fun h => ?_⟩
    rw [h1.2 (by lia), h2.2 (by lia)]
    simp
theorem nrm_least {cs : List Cel} (ho : ∀ e ∈ cs, e.ok) (hs : cs.Pairwise fun a b => a.id ≤ b.id) : Least (Lf cs) (if (cs.foldl nstep []).reverse.length < cs.length then (cs.foldl nstep []).reverse else cs) := by
  have h := nfold_least ho hs
  split
  · exact h
  · rename_i q
    have k := fold_len cs []
    rw [List.length_reverse] at q
    rw [List.length_nil, Nat.add_zero] at k
    have e := k.2 (by lia)
    rw [List.append_nil] at e
    rw [e, List.reverse_reverse] at h
    exact h
end Mine
end
open PySem PySem.W PyProof.Rows PySem.Calls
namespace Mine
abbrev Sto := Addr → Obj → Prop
def Sto.Le (S T : Sto) : Prop := ∀ a o, S a o → T a o
theorem Sto.Le.rfl {S : Sto} : S.Le S := fun _ _ h => h
theorem Sto.Le.trans {S T U : Sto} (h : S.Le T) (k : T.Le U) : S.Le U := fun a o x => k a o (h a o x)
inductive AV where
  | ext (R : (Addr → Obj → Prop) → Value → Prop) | none | bool (b : Bool) | int (n : Int) | str (s : Str) | raw (v : Value)
  | tup (xs : List AV) | lst (xs : List AV) | inst (C : Addr) (ks : List Str) (vs : List AV) | rng (n : Int)
abbrev rngO (n : Int) (t u v : Tok) : Obj := { cls := .type "range", dict := none, data := .fields #[.int 0 t, .int n u, .int 1 v], slots := #[] }
inductive Rep (S : Sto) : Value → AV → Prop
  | ext {v : Value} {R : Sto → Value → Prop} : R S v → (∀ T, S.Le T → R T v) → Rep S v (.ext R)
  | none : Rep S .none .none
  | bool (b : Bool) : Rep S (.bool b) (.bool b)
  | int (n : Int) (t : Tok) : Rep S (.int n t) (.int n)
  | str (x : Str) (t : Tok) : Rep S (.str x t) (.str x)
  | raw (v : Value) : Rep S v (.raw v)
  | rng {a : Addr} {n : Int} {t u v : Tok} : S a (rngO n t u v) → Rep S (.ref a) (.rng n)
  | tup {a : Addr} {vs : List Value} {n : Nat} {xs : List AV} : S a (seqObj "tuple" vs.toArray n) → vs.length = xs.length → (∀ (i : Nat) v V, vs[i]? = some v → xs[i]? = some V → Rep S v V) → Rep S (.ref a) (.tup xs)
  | lst {a : Addr} {vs : List Value} {n : Nat} {xs : List AV} : S a (seqObj "list" vs.toArray n) → vs.length = xs.length → (∀ (i : Nat) v V, vs[i]? = some v → xs[i]? = some V → Rep S v V) → Rep S (.ref a) (.lst xs)
  | inst {a d C : Addr} {es : List DictEntry} {ep : Nat} {ks : List Str} {vs : List AV} : S a (instObj C d) → S d (dictOf es ep) → es.length = ks.length → es.length = vs.length →
      (∀ (i : Nat) e k, es[i]? = some e → ks[i]? = some k → ∃ t, e.key = .str k t) → (∀ (i : Nat) e V, es[i]? = some e → vs[i]? = some V → Rep S e.val V) → Rep S (.ref a) (.inst C ks vs)
theorem Rep.mono {S T : Sto} (k : S.Le T) {v : Value} {V : AV} (h : Rep S v V) : Rep T v V := by
  induction h with
  | ext a b => exact .ext (b _ k) fun U l => b U (k.trans l)
  | none => exact .none
  | bool b => exact .bool b
  | int n t => exact .int n t
  | str x t => exact .str x t
  | raw v => exact .raw v
  | rng h => exact .rng (k _ _ h)
  | tup a b _ ih => exact .tup (k _ _ a) b ih
  | lst a b _ ih => exact .lst (k _ _ a) b ih
  | inst a b c d e _ ih => exact .inst (k _ _ a) (k _ _ b) c d e ih
def Reps (S : Sto) (vs : List Value) (Vs : List AV) : Prop := vs.length = Vs.length ∧ ∀ (i : Nat) v V, vs[i]? = some v → Vs[i]? = some V → Rep S v V
theorem Reps.mono {S T : Sto} (k : S.Le T) {vs : List Value} {Vs : List AV} (h : Reps S vs Vs) : Reps T vs Vs := ⟨h.1, fun i v V a b => (h.2 i v V a b).mono k⟩
theorem Reps.nil {S : Sto} : Reps S [] [] := ⟨rfl, fun i v V h => by simp at h⟩
theorem Reps.cons {S : Sto} {v : Value} {V : AV} {vs : List Value} {Vs : List AV} (h : Rep S v V) (r : Reps S vs Vs) : Reps S (v :: vs) (V :: Vs) := by
  refine ⟨by simp [r.1], fun i u U a b => ?_⟩
  cases i with
  | zero => simp at a b; subst a b; exact h
  | succ i => simp at a b; exact r.2 i u U a b
theorem Reps.uncons {S : Sto} {v : Value} {V : AV} {vs : List Value} {Vs : List AV} (h : Reps S (v :: vs) (V :: Vs)) : Rep S v V ∧ Reps S vs Vs :=
  ⟨h.2 0 v V rfl rfl, ⟨by simpa using h.1, fun i u U a b => h.2 (i + 1) u U (by simpa using a) (by simpa using b)⟩⟩
theorem Reps.nil_inv {S : Sto} {vs : List Value} (h : Reps S vs []) : vs = [] := List.eq_nil_of_length_eq_zero h.1
theorem Reps.cons_inv {S : Sto} {vs : List Value} {V : AV} {Vs : List AV} (h : Reps S vs (V :: Vs)) : ∃ v r, vs = v :: r ∧ Rep S v V ∧ Reps S r Vs := by
  cases vs with
  | nil => have := h.1; simp at this
  | cons v r => exact ⟨v, r, rfl, h.uncons.1, h.uncons.2⟩
theorem Reps.append {S : Sto} {vs us : List Value} {Vs Us : List AV} (h : Reps S vs Vs) (k : Reps S us Us) : Reps S (vs ++ us) (Vs ++ Us) := by
  induction vs generalizing Vs with
  | nil => have : Vs = [] := List.eq_nil_of_length_eq_zero (by have := h.1; simpa using this.symm); subst this; exact k
  | cons v r ih =>
    cases Vs with
    | nil => have := h.1; simp at this
    | cons V R => exact (Reps.uncons h).1 |> fun a => Reps.cons a (ih (Reps.uncons h).2)
theorem Rep.tup' {S : Sto} {a : Addr} {vs : List Value} {n : Nat} {xs : List AV} (h : S a (seqObj "tuple" vs.toArray n)) (r : Reps S vs xs) : Rep S (.ref a) (.tup xs) := .tup h r.1 r.2
theorem Rep.lst' {S : Sto} {a : Addr} {vs : List Value} {n : Nat} {xs : List AV} (h : S a (seqObj "list" vs.toArray n)) (r : Reps S vs xs) : Rep S (.ref a) (.lst xs) := .lst h r.1 r.2
inductive SeqInv (T : String) (S : Sto) (v : Value) (xs : List AV) : Prop
  | mk (a : Addr) (vs : List Value) (n : Nat) (e : v = .ref a) (h : S a (seqObj T vs.toArray n)) (r : Reps S vs xs)
theorem Rep.tup_inv {S : Sto} {v : Value} {xs : List AV} (h : Rep S v (.tup xs)) : SeqInv "tuple" S v xs := by
  cases h with | tup a b c => exact ⟨_, _, _, rfl, a, b, c⟩
theorem Rep.lst_inv {S : Sto} {v : Value} {xs : List AV} (h : Rep S v (.lst xs)) : SeqInv "list" S v xs := by
  cases h with | lst a b c => exact ⟨_, _, _, rfl, a, b, c⟩
structure Ents (S : Sto) (es : List DictEntry) (ks : List Str) (vs : List AV) : Prop where
  lk : es.length = ks.length
  lv : es.length = vs.length
  key : ∀ (i : Nat) e k, es[i]? = some e → ks[i]? = some k → ∃ t, e.key = .str k t
  val : ∀ (i : Nat) e V, es[i]? = some e → vs[i]? = some V → Rep S e.val V
theorem Ents.mono {S T : Sto} (k : S.Le T) {es : List DictEntry} {ks : List Str} {vs : List AV} (h : Ents S es ks vs) : Ents T es ks vs := ⟨h.lk, h.lv, h.key, fun i e V a b => (h.val i e V a b).mono k⟩
inductive InstInv (S : Sto) (v : Value) (C : Addr) (ks : List Str) (vs : List AV) : Prop
  | mk (a d : Addr) (es : List DictEntry) (ep : Nat) (e : v = .ref a) (h : S a (instObj C d)) (k : S d (dictOf es ep)) (en : Ents S es ks vs)
theorem Rep.inst_inv {S : Sto} {v : Value} {C : Addr} {ks : List Str} {vs : List AV} (h : Rep S v (.inst C ks vs)) : InstInv S v C ks vs := by
  cases h with | inst a b c d e f => exact ⟨_, _, _, _, rfl, a, b, c, d, e, f⟩
theorem Rep.inst' {S : Sto} {a d C : Addr} {es : List DictEntry} {ep : Nat} {ks : List Str} {vs : List AV} (h : S a (instObj C d)) (k : S d (dictOf es ep)) (e : Ents S es ks vs) : Rep S (.ref a) (.inst C ks vs) := .inst h k e.lk e.lv e.key e.val
theorem Rep.int_inv {S : Sto} {v : Value} {n : Int} (h : Rep S v (.int n)) : ∃ t, v = .int n t := by cases h; exact ⟨_, rfl⟩
theorem Rep.bool_inv {S : Sto} {v : Value} {b : Bool} (h : Rep S v (.bool b)) : v = .bool b := by cases h; rfl
theorem Rep.none_inv {S : Sto} {v : Value} (h : Rep S v .none) : v = .none := by cases h; rfl
theorem Rep.raw_inv {S : Sto} {v u : Value} (h : Rep S v (.raw u)) : v = u := by cases h; rfl
inductive MO where
  | lst (xs : List AV)
  | inst (C d : Addr) (ks : List Str) (vs : List AV)
  | obj (o : Obj)
  | ext (as : List Addr) (R : Sto → Heap → Prop)
def MO.addrs (a : Addr) : MO → List Addr
  | .inst _ d _ _ => [a, d]
  | .ext as _ => a :: as
  | _ => [a]
def MRep (S : Sto) (h : Heap) (a : Addr) : MO → Prop
  | .lst xs => ∃ vs n, h.get? a = some (seqObj "list" vs.toArray n) ∧ Reps S vs xs
  | .inst C d ks vs => h.get? a = some (instObj C d) ∧ ∃ es ep, h.get? d = some (dictOf es ep) ∧ Ents S es ks vs
  | .obj o => h.get? a = some o
  | .ext as R => (∀ b ∈ a :: as, ∃ o, h.get? b = some o) ∧ R S h ∧ ∀ T h', S.Le T → (∀ b ∈ a :: as, ∀ o, h.get? b = some o → h'.get? b = some o) → R T h'
theorem MRep.mono {S T : Sto} {h h' : Heap} {a : Addr} {mo : MO} (k : S.Le T) (e : ∀ b ∈ mo.addrs a, ∀ o, h.get? b = some o → h'.get? b = some o) (x : MRep S h a mo) : MRep T h' a mo := by
  cases mo with
  | lst xs => obtain ⟨vs, n, a1, a2⟩ := x; exact ⟨vs, n, e _ (.head _) _ a1, a2.mono k⟩
  | inst C d ks vs => obtain ⟨a1, es, ep, a2, a3⟩ := x; exact ⟨e _ (.head _) _ a1, es, ep, e _ (.tail _ (.head _)) _ a2, a3.mono k⟩
  | obj o => exact e _ (.head _) _ x
  | ext as R =>
    obtain ⟨a1, a2, a3⟩ := x
    exact ⟨fun b hb => let ⟨o, ho⟩ := a1 b hb; ⟨o, e b hb o ho⟩, a3 T h' k e, fun U h'' l e' => a3 U h'' (k.trans l) fun b hb o ho => e' b hb o (e b hb o ho)⟩
theorem MRep.dom {S : Sto} {h : Heap} {a : Addr} {mo : MO} (x : MRep S h a mo) : ∀ b ∈ mo.addrs a, ∃ o, h.get? b = some o := by
  cases mo with
  | lst xs => obtain ⟨vs, n, a1, a2⟩ := x; intro b hb; rw [List.mem_singleton.mp hb]; exact ⟨_, a1⟩
  | inst C d ks vs =>
    obtain ⟨a1, es, ep, a2, a3⟩ := x
    intro b hb
    simp only [MO.addrs, List.mem_cons, List.not_mem_nil, or_false] at hb
    rcases hb with rfl | rfl
    · exact ⟨_, a1⟩
    · exact ⟨_, a2⟩
  | obj o => intro b hb; rw [List.mem_singleton.mp hb]; exact ⟨_, x⟩
  | ext as R => obtain ⟨a1, _⟩ := x; exact a1
structure AX where
  σ : List (Addr × MO)
  m : List (Str × AV)
def AX.adr (σ : List (Addr × MO)) : List Addr := σ.flatMap fun p => p.2.addrs p.1
structure Cx where
  P : Program
  w : World
  K : Frag
  g : Heap
  A : Around
  env : Env
  own : List Addr
  E : Value → Shared → Prop
  fix : Bool
structure Gd (A : Around) (d : Nat) : Prop where
  hd : A.handled = none
  dp : A.depth + d < recursionLimit
  un : A.units + 8 * d + 8 < cLine
structure Cx.Ok (c : Cx) : Prop where
  X : c.K.In c.g
  T : ∃ p loose mean mg mb, Top p loose mean mg mb c.g
  G : Gd c.A 0
  gl : c.env.globals = mainGlobals
  bi : c.env.builtins = builtinsNs
  fk : c.env.scope.kind = .function
  noE : ∀ e s, c.E e s → False
  kl : ∀ a o, c.K.lookup a = some o → a < c.env.locals
  cnd : ∀ x y k, c.env.cells.lookup x = some k → c.env.cells.lookup y = some k → x = y
structure Bg where
  base : Sto
  prot : Addr → Prop
  os : OsState
  gens : Array GenState
  drawn : Drawn
def GLe (a b : Array GenState) : Prop := (∀ (i : Nat) (x : GenState), a[i]? = some x → b[i]? = some x) ∧ (AllBare a → AllBare b)
theorem GLe.refl (a : Array GenState) : GLe a a := ⟨fun _ _ e => e, id⟩
theorem GLe.trans {a b c : Array GenState} (x : GLe a b) (y : GLe b c) : GLe a c := ⟨fun i g e => y.1 i g (x.1 i g e), fun h => y.2 (x.2 h)⟩
def GLx (f : Bool) (a b : Array GenState) : Prop := GLe a b ∧ (f = true → b = a)
theorem GLx.refl {f : Bool} (a : Array GenState) : GLx f a a := ⟨.refl a, fun _ => rfl⟩
theorem GLx.trans {f : Bool} {a b c : Array GenState} (x : GLx f a b) (y : GLx f b c) : GLx f a c := ⟨x.1.trans y.1, fun h => (y.2 h).trans (x.2 h)⟩
theorem GLx.to {f : Bool} {a b c : Array GenState} (e : c = b) (x : GLx f a b) : GLx f a c := e ▸ x
def Var (c : Cx) (B : Bg) (h : Heap) (mc : Str → Option Value) (x : Str) (v : Value) : Prop :=
  (c.env.kindOf x = some .local ∧ mc x = some v) ∨
  ((c.env.kindOf x = some .cell ∨ c.env.kindOf x = some .free) ∧ ∃ k o, c.env.cells.lookup x = some k ∧ h.get? k = some o ∧ o.data = .cell (some v) ∧ (k ∈ c.own ∨ B.base k o) ∧ k ≠ c.env.locals)
def CelOk (c : Cx) (B : Bg) (h : Heap) : Prop := ∀ x k, c.env.cells.lookup x = some k → k ≠ c.env.locals ∧ (k ∈ c.own ∨ ∃ o, B.base k o) ∧ ∃ o v, h.get? k = some o ∧ o.data = .cell v
structure St (c : Cx) (B : Bg) (S : Sto) (X : AX) (s : Shared) : Prop where
  loc : c.env.locals ∈ c.own ∨ (c.own = [] ∧ ∃ o, B.base c.env.locals o)
  gr : c.g.StaysIn s.heap
  base : ∀ b o, B.base b o → s.heap.get? b = some o
  sto : ∀ b o, S b o → s.heap.get? b = some o
  cel : CelOk c B s.heap
  fr : ∃ mc, s.heap.Ns c.env.locals mc ∧ ∀ x V, X.m.lookup x = some V → ∃ v, Rep S v V ∧ Var c B s.heap mc x v
  mu : ∀ p ∈ X.σ, MRep S s.heap p.1 p.2
  nd : (AX.adr X.σ).Nodup
  sep : ∀ a, a ∈ c.own ∨ a ∈ AX.adr X.σ → c.g.get? a = none ∧ (∀ o, ¬ B.base a o) ∧ ∀ o, ¬ S a o
  dis : ∀ a ∈ c.own, a ∉ AX.adr X.σ
  dom : ∀ a ∈ c.own, ∃ o, s.heap.get? a = some o
  prot : ∀ a o, S a o → ¬ B.prot a
  pin : ∀ a, B.prot a → ∃ o, B.base a o
  os : s.os = B.os
  gens : GLx c.fix B.gens s.gens
  drawn : s.drawn = B.drawn
inductive Post {α β : Type} (c : Cx) (B : Bg) (S : Sto) (R : Sto → α → β → Prop) (Q : β → AX → Prop) (a : α) (s' : Shared) : Prop
  | mk (S' : Sto) (b : β) (X' : AX) (le : S.Le S') (r : R S' a b) (st : St c B S' X' s') (q : Q b X')
theorem Post.up {α β : Type} {c : Cx} {B : Bg} {S T : Sto} {R : Sto → α → β → Prop} {Q : β → AX → Prop} {a : α} {s' : Shared} (k : S.Le T) (p : Post c B T R Q a s') : Post c B S R Q a s' :=
  let ⟨S', b, X', h1, h2, h3, h4⟩ := p; ⟨S', b, X', k.trans h1, h2, h3, h4⟩
theorem Post.imp {α β : Type} {c : Cx} {B : Bg} {S : Sto} {R : Sto → α → β → Prop} {Q Q' : β → AX → Prop} {a : α} {s' : Shared} (k : ∀ b X, Q b X → Q' b X) (p : Post c B S R Q a s') : Post c B S R Q' a s' :=
  let ⟨S', b, X', h1, h2, h3, h4⟩ := p; ⟨S', b, X', h1, h2, h3, k _ _ h4⟩
def WT {α β : Type} (c : Cx) (R : Sto → α → β → Prop) (t : Sem α) (Q : β → AX → Prop) (X : AX) : Prop :=
  ∀ B S s, c.Ok → St c B S X s → wpAny (model c.P c.w) c.A t (Post c B S R Q) c.E s
def W1 {α β : Type} (c : Cx) (R : Sto → α → β → Prop) (V : AV) (f : Value → Sem α) (Q : β → AX → Prop) (X : AX) : Prop :=
  ∀ B S s v, c.Ok → Rep S v V → St c B S X s → wpAny (model c.P c.w) c.A (f v) (Post c B S R Q) c.E s
def W2 {α β : Type} (c : Cx) (R : Sto → α → β → Prop) (V U : AV) (f : Value → Value → Sem α) (Q : β → AX → Prop) (X : AX) : Prop :=
  ∀ B S s v u, c.Ok → Rep S v V → Rep S u U → St c B S X s → wpAny (model c.P c.w) c.A (f v u) (Post c B S R Q) c.E s
def WN {α β : Type} (c : Cx) (R : Sto → α → β → Prop) (Vs : List AV) (f : List Value → Sem α) (Q : β → AX → Prop) (X : AX) : Prop :=
  ∀ B S s vs, c.Ok → Reps S vs Vs → St c B S X s → wpAny (model c.P c.w) c.A (f vs) (Post c B S R Q) c.E s
abbrev Same {α : Type} : Sto → α → α → Prop := fun _ a b => a = b
abbrev WE (c : Cx) (e : Expr) (Q : AV → AX → Prop) (X : AX) : Prop := WT c Rep (eval e c.env) Q X
inductive AF where
  | next | brk | cont | ret (V : AV)
inductive RepF (S : Sto) : Flow → AF → Prop
  | next : RepF S .next .next
  | brk : RepF S .brk .brk
  | cont : RepF S .cont .cont
  | ret {v V} : Rep S v V → RepF S (.ret v) (.ret V)
abbrev WS (c : Cx) (st : Stmt) (Q : AF → AX → Prop) (X : AX) : Prop := WT c RepF (exec st c.env) Q X
abbrev WSs (c : Cx) (st : List Stmt) (Q : AF → AX → Prop) (X : AX) : Prop := WT c RepF (execs st c.env) Q X
abbrev WB (c : Cx) (e : Expr) (Q : Bool → AX → Prop) (X : AX) : Prop := WT c (Same (α := Bool)) (isTrue e c.env (eval e c.env)) Q X
def Back (c : Cx) (B : Bg) (S : Sto) (Q : AV → AX → Prop) (r : Result) (s' : Shared) : Prop := match r with
  | .ok (.ret v) => Post c B S Rep Q v s'
  | .ok _ => False
  | .error e => c.E e s'
def Cx.Stays (c : Cx) (s s' : Shared) : Prop := ∀ a ∈ c.own, ∀ o, s.heap.get? a = some o → s'.heap.get? a = some o
def RepK (S : Sto) (kw : List (Str × Value)) (kws : List (Str × AV)) : Prop := kw.map (·.1) = kws.map (·.1) ∧ Reps S (kw.map (·.2)) (kws.map (·.2))
def WF (c : Cx) (f : Value) (Vs : List AV) (kws : List (Str × AV)) (Q : AV → AX → Prop) (X : AX) : Prop :=
  ∀ B S s vs kw, c.Ok → Reps S vs Vs → RepK S kw kws → St c B S X s → codeAny (model c.P c.w) c.A (.call f ⟨vs, kw⟩) (fun r s' => Back c B S Q r s' ∧ c.Stays s s') s
theorem WT.imp {α β : Type} {c : Cx} {R : Sto → α → β → Prop} {t : Sem α} {Q Q' : β → AX → Prop} {X : AX} (h : WT c R t Q X) (k : ∀ b X, Q b X → Q' b X) : WT c R t Q' X :=
  fun B S s ok st => wpAny_mono (h B S s ok st) (fun _ _ p => p.imp k) fun _ _ e => e
theorem WF.imp {c : Cx} {f : Value} {Vs : List AV} {kws : List (Str × AV)} {Q Q' : AV → AX → Prop} {X : AX} (h : WF c f Vs kws Q X) (k : ∀ b X, Q b X → Q' b X) : WF c f Vs kws Q' X := by
  intro B S s vs kw ok r rk st
  refine codeAny_mono (h B S s vs kw ok r rk st) fun r s' p => ?_
  refine ⟨?_, p.2⟩
  cases r with
  | error e => exact p.1
  | ok f => cases f <;> first | exact Post.imp k p.1 | exact p.1
theorem get?_lt_none {h : Heap} {a : Addr} (q : h.objs.size ≤ a) : h.get? a = none := by
  cases e : h.get? a with
  | none => rfl
  | some o => exact absurd (Heap.lt_size e) (Nat.not_lt.mpr q)
def Keeps (h h' : Heap) : Prop := ∀ b o, h.get? b = some o → h'.get? b = some o
theorem Keeps.rfl {h : Heap} : Keeps h h := fun _ _ e => e
theorem Keeps.trans {h h' h'' : Heap} (a : Keeps h h') (b : Keeps h' h'') : Keeps h h'' := fun x o e => b x o (a x o e)
theorem Keeps.push (h : Heap) (o : Obj) : Keeps h (h.push o) := fun _ _ e => Heap.get?_push_of_some _ e
def KeepsBut (l : List Addr) (h h' : Heap) : Prop := ∀ b o, b ∉ l → h.get? b = some o → h'.get? b = some o
theorem Keeps.but {h h' : Heap} (k : Keeps h h') (l : List Addr) : KeepsBut l h h' := fun b o _ e => k b o e
theorem KeepsBut.of_same {a : Addr} {h h' : Heap} (k : Heap.SameBut a h h') : KeepsBut [a] h h' := fun b _ q e => (k.2 b (fun z => q (List.mem_singleton.mpr z))).trans e
theorem AX.mem_adr {σ : List (Addr × MO)} {p : Addr × MO} {b : Addr} (hp : p ∈ σ) (hb : b ∈ p.2.addrs p.1) : b ∈ AX.adr σ := List.mem_flatMap.mpr ⟨p, hp, hb⟩
theorem AX.adr_cons (p : Addr × MO) (σ : List (Addr × MO)) : AX.adr (p :: σ) = p.2.addrs p.1 ++ AX.adr σ := rfl
theorem AX.adr_append (σ τ : List (Addr × MO)) : AX.adr (σ ++ τ) = AX.adr σ ++ AX.adr τ := List.flatMap_append
theorem AX.adr_sub {σ τ : List (Addr × MO)} (h : σ.Sublist τ) : (AX.adr σ).Sublist (AX.adr τ) := by
  induction h with
  | slnil => exact List.Sublist.refl _
  | cons p _ ih => rw [AX.adr_cons]; exact ih.trans (List.sublist_append_right _ _)
  | cons_cons p _ ih => rw [AX.adr_cons, AX.adr_cons]; exact (List.Sublist.refl _).append ih
inductive SUpd (a : Addr) (mo mo' : MO) : List (Addr × MO) → List (Addr × MO) → Prop
  | head {r} : SUpd a mo mo' ((a, mo) :: r) ((a, mo') :: r)
  | tail {p r r'} : SUpd a mo mo' r r' → SUpd a mo mo' (p :: r) (p :: r')
theorem SUpd.split {a : Addr} {mo mo' : MO} {l l' : List (Addr × MO)} (h : SUpd a mo mo' l l') : ∃ pre post, l = pre ++ (a, mo) :: post ∧ l' = pre ++ (a, mo') :: post := by
  induction h with
  | head => exact ⟨[], _, rfl, rfl⟩
  | tail _ ih => obtain ⟨pre, post, rfl, rfl⟩ := ih; exact ⟨_ :: pre, post, rfl, rfl⟩
theorem SUpd.mem {a : Addr} {mo mo' : MO} {l l' : List (Addr × MO)} (h : SUpd a mo mo' l l') : (a, mo) ∈ l := by
  obtain ⟨pre, post, rfl, _⟩ := h.split; simp
section
variable {c : Cx} {B : Bg} {S : Sto} {X : AX} {s : Shared}
theorem Var.keeps {h h' : Heap} {mc : Str → Option Value} {x : Str} {v : Value} {l : List Addr} (k : KeepsBut l h h') (hl : ∀ a ∈ l, (∀ o, ¬ B.base a o) ∧ a ∉ c.own) (y : Var c B h mc x v) : Var c B h' mc x v := by
  rcases y with y | ⟨a, q, o, e1, e2, e3, e4, e5⟩
  · exact .inl y
  · exact .inr ⟨a, q, o, e1, k _ _ (fun z => e4.elim (hl q z).2 ((hl q z).1 o)) e2, e3, e4, e5⟩
theorem CelOk.keeps {h h' : Heap} {l : List Addr} (k : KeepsBut l h h') (hl : ∀ a ∈ l, (∀ o, ¬ B.base a o) ∧ a ∉ c.own) (y : CelOk c B h) : CelOk c B h' := fun x a e => by
  obtain ⟨h1, h2, o, v, h3, h4⟩ := y x a e
  exact ⟨h1, h2, o, v, k _ _ (fun z => h2.elim (hl a z).2 fun ⟨p, q⟩ => (hl a z).1 p q) h3, h4⟩
theorem CelOk.store {h h' : Heap} (k : KeepsBut [c.env.locals] h h') (y : CelOk c B h) : CelOk c B h' := fun x a e => by
  obtain ⟨h1, h2, o, v, h3, h4⟩ := y x a e
  exact ⟨h1, h2, o, v, k _ _ (fun z => h1 (List.mem_singleton.mp z)) h3, h4⟩
theorem Var.store {h h' : Heap} {mc mc' : Str → Option Value} {x : Str} {v : Value} (k : KeepsBut [c.env.locals] h h') (hm : mc' x = mc x) (y : Var c B h mc x v) : Var c B h' mc' x v := by
  rcases y with y | ⟨a, q, o, e1, e2, e3, e4, e5⟩
  · exact .inl ⟨y.1, hm.trans y.2⟩
  · exact .inr ⟨a, q, o, e1, k _ _ (fun z => e5 (List.mem_singleton.mp z)) e2, e3, e4, e5⟩
theorem Heap.Ns.keepsBut {h h' : Heap} {L : Addr} {mc : Str → Option Value} {l : List Addr} (k : KeepsBut l h h') (hl : L ∉ l) (n : h.Ns L mc) : h'.Ns L mc :=
  let ⟨o, es, ep, e, r⟩ := n; ⟨o, es, ep, k _ _ hl e, r⟩
theorem St.locN (st : St c B S X s) : c.env.locals ∉ AX.adr X.σ := st.loc.elim (st.dis _) fun ⟨_, o, e⟩ q => (st.sep _ (.inr q)).2.1 o e
theorem St.locB (st : St c B S X s) {a : Addr} (h1 : a ∉ c.own) (h2 : ∀ o, ¬ B.base a o) : a ≠ c.env.locals := fun q => st.loc.elim (fun z => h1 (q ▸ z)) fun ⟨_, o, e⟩ => h2 o (q ▸ e)
theorem St.keep {s' : Shared} {l : List Addr} (st : St c B S X s) (k : KeepsBut l s.heap s'.heap) (hl : ∀ a ∈ l, c.g.get? a = none ∧ (∀ o, ¬ B.base a o) ∧ (∀ o, ¬ S a o) ∧ a ∉ c.own ∧ a ∉ AX.adr X.σ) (e1 : s'.os = s.os) (e2 : s'.gens = s.gens) (e3 : s'.drawn = s.drawn) : St c B S X s' where
  loc := st.loc
  gr b o e := k b o (fun q => by rw [(hl b q).1] at e; cases e) (st.gr b o e)
  base b o e := k b o (fun q => (hl b q).2.1 o e) (st.base b o e)
  sto b o e := k b o (fun q => (hl b q).2.2.1 o e) (st.sto b o e)
  cel := st.cel.keeps k fun a ha => ⟨(hl a ha).2.1, (hl a ha).2.2.2.1⟩
  fr := by
    obtain ⟨mc, n, f⟩ := st.fr
    refine ⟨mc, Heap.Ns.keepsBut k (fun q => st.locB (hl _ q).2.2.2.1 (hl _ q).2.1 rfl) n, fun x V e => ?_⟩
    obtain ⟨v, r, y⟩ := f x V e
    exact ⟨v, r, y.keeps k fun a ha => ⟨(hl a ha).2.1, (hl a ha).2.2.2.1⟩⟩
  mu p hp := (st.mu p hp).mono .rfl fun b hb o e => k b o (fun q => (hl b q).2.2.2.2 (AX.mem_adr hp hb)) e
  nd := st.nd
  sep := st.sep
  dis := st.dis
  dom a ha := let ⟨o, e⟩ := st.dom a ha; ⟨o, k a o (fun q => (hl a q).2.2.2.1 ha) e⟩
  prot := st.prot
  pin := st.pin
  os := e1.trans st.os
  gens := .to e2 st.gens
  drawn := e3.trans st.drawn
theorem St.grow {s' : Shared} (st : St c B S X s) (k : Keeps s.heap s'.heap) (e1 : s'.os = s.os) (e2 : s'.gens = s.gens) (e3 : s'.drawn = s.drawn) : St c B S X s' :=
  st.keep (k.but []) (fun _ h => nomatch h) e1 e2 e3
theorem St.toks (st : St c B S X s) (t : Nat) : St c B S X { s with toks := t } := st.grow .rfl rfl rfl rfl
structure Bare (c : Cx) (B : Bg) (S : Sto) (X : AX) (a : Addr) : Prop where
  g : c.g.get? a = none
  base : ∀ o, ¬ B.base a o
  sto : ∀ o, ¬ S a o
  own : a ∉ c.own
  adr : a ∉ AX.adr X.σ
  prot : ¬ B.prot a
theorem St.bare (st : St c B S X s) {a : Addr} (h : s.heap.get? a = none) : Bare c B S X a where
  g := by
    cases e : c.g.get? a with
    | none => rfl
    | some o => rw [st.gr _ _ e] at h; cases h
  base o e := by rw [st.base _ _ e] at h; cases h
  sto o e := by rw [st.sto _ _ e] at h; cases h
  own q := by obtain ⟨o, e⟩ := st.dom a q; rw [e] at h; cases h
  adr q := by
    obtain ⟨p, hp, hb⟩ := List.mem_flatMap.mp q
    obtain ⟨o, e⟩ := (st.mu p hp).dom a hb
    rw [e] at h; cases h
  prot q := by obtain ⟨o, e⟩ := st.pin a q; rw [st.base _ _ e] at h; cases h
theorem St.addS {S' : Sto} (st : St c B S X s) (k : S.Le S') (h : ∀ a o, S' a o → S a o ∨ (s.heap.get? a = some o ∧ a ∉ c.own ∧ a ∉ AX.adr X.σ ∧ ¬ B.prot a)) : St c B S' X s where
  loc := st.loc
  gr := st.gr
  base := st.base
  sto b o e := (h b o e).elim (st.sto b o) (·.1)
  cel := st.cel
  fr := by
    obtain ⟨mc, n, f⟩ := st.fr
    exact ⟨mc, n, fun x V e => let ⟨v, r, y⟩ := f x V e; ⟨v, r.mono k, y⟩⟩
  mu p hp := (st.mu p hp).mono k fun _ _ _ e => e
  nd := st.nd
  sep a ha := ⟨(st.sep a ha).1, (st.sep a ha).2.1, fun o e => (h a o e).elim ((st.sep a ha).2.2 o) fun q => ha.elim q.2.1 q.2.2.1⟩
  dis := st.dis
  dom := st.dom
  prot a o e := (h a o e).elim (st.prot a o) (·.2.2.2)
  pin := st.pin
  os := st.os
  gens := st.gens
  drawn := st.drawn
def Sto.put (S : Sto) (a : Addr) (o : Obj) : Sto := fun b p => S b p ∨ (b = a ∧ p = o)
theorem Sto.put_le (S : Sto) (a : Addr) (o : Obj) : S.Le (S.put a o) := fun _ _ h => .inl h
theorem Sto.put_self (S : Sto) (a : Addr) (o : Obj) : S.put a o a o := .inr ⟨rfl, rfl⟩
theorem St.push (st : St c B S X s) (o : Obj) (hf : o.isFreed = false) : St c B (S.put s.heap.objs.size o) X { s with heap := s.heap.push o } := by
  have b := st.bare (get?_lt_none (Nat.le_refl s.heap.objs.size))
  refine (st.grow (s' := { s with heap := s.heap.push o }) (Keeps.push _ _) rfl rfl rfl).addS (Sto.put_le _ _ _) fun a p h => ?_
  rcases h with h | ⟨rfl, rfl⟩
  · exact .inl h
  · exact .inr ⟨Heap.get?_push_size _ hf, b.own, b.adr, b.prot⟩
theorem St.addM {a : Addr} {mo : MO} (st : St c B S X s) (h : MRep S s.heap a mo) (hn : (mo.addrs a).Nodup) (hb : ∀ b ∈ mo.addrs a, Bare c B S X b) : St c B S ⟨(a, mo) :: X.σ, X.m⟩ s where
  loc := st.loc
  gr := st.gr
  base := st.base
  sto := st.sto
  cel := st.cel
  fr := st.fr
  mu p hp := by
    rcases List.mem_cons.mp hp with rfl | hp
    · exact h
    · exact st.mu p hp
  nd := by
    rw [AX.adr_cons]
    refine List.nodup_append.mpr ⟨hn, st.nd, fun x hx y hy e => ?_⟩
    subst e; exact (hb x hx).adr hy
  sep x hx := by
    rw [AX.adr_cons] at hx
    rcases hx with hx | hx
    · exact st.sep x (.inl hx)
    · rcases List.mem_append.mp hx with hx | hx
      · exact ⟨(hb x hx).g, (hb x hx).base, (hb x hx).sto⟩
      · exact st.sep x (.inr hx)
  dis x hx q := by
    rw [AX.adr_cons] at q
    rcases List.mem_append.mp q with q | q
    · exact (hb x q).own hx
    · exact st.dis x hx q
  dom := st.dom
  prot := st.prot
  pin := st.pin
  os := st.os
  gens := st.gens
  drawn := st.drawn
theorem St.upd {a : Addr} {mo mo' : MO} {σ' : List (Addr × MO)} {s' : Shared} (st : St c B S X s) (U : SUpd a mo mo' X.σ σ') (ha : mo'.addrs a = mo.addrs a) (k : KeepsBut (mo.addrs a) s.heap s'.heap) (h : MRep S s'.heap a mo') (e1 : s'.os = s.os) (e2 : s'.gens = s.gens) (e3 : s'.drawn = s.drawn) : St c B S ⟨σ', X.m⟩ s' := by
  obtain ⟨pre, post, hσ, rfl⟩ := U.split
  have hadr : AX.adr (pre ++ (a, mo') :: post) = AX.adr X.σ := by rw [hσ, AX.adr_append, AX.adr_append, AX.adr_cons, AX.adr_cons]; dsimp only; rw [ha]
  have hin : ∀ b ∈ mo.addrs a, b ∈ AX.adr X.σ := fun b hb => by rw [hσ]; exact AX.mem_adr (p := (a, mo)) (by simp) hb
  have nd := st.nd
  rw [hσ, AX.adr_append, AX.adr_cons] at nd
  dsimp only at nd
  have nd1 := List.nodup_append.mp nd
  have nd2 := List.nodup_append.mp nd1.2.1
  refine ⟨st.loc, fun b o e => k b o (fun q => ?_) (st.gr b o e), fun b o e => k b o (fun q => ?_) (st.base b o e), fun b o e => k b o (fun q => ?_) (st.sto b o e), st.cel.keeps k fun b hb => ⟨(st.sep b (.inr (hin b hb))).2.1, fun q => st.dis b q (hin b hb)⟩, ?_, fun p hp => ?_, by rw [hadr]; exact st.nd, fun x hx => st.sep x (by rw [hadr] at hx; exact hx), fun x hx => by rw [hadr]; exact st.dis x hx, fun x hx => ?_, st.prot, st.pin, e1.trans st.os, (.to e2 st.gens), e3.trans st.drawn⟩
  · have := (st.sep b (.inr (hin b q))).1; rw [this] at e; cases e
  · exact (st.sep b (.inr (hin b q))).2.1 o e
  · exact (st.sep b (.inr (hin b q))).2.2 o e
  · obtain ⟨mc, n, f⟩ := st.fr
    refine ⟨mc, Heap.Ns.keepsBut k (fun q => st.locN (hin _ q)) n, fun x V e => ?_⟩
    obtain ⟨v, r, y⟩ := f x V e
    exact ⟨v, r, y.keeps k fun b hb => ⟨(st.sep b (.inr (hin b hb))).2.1, fun q => st.dis b q (hin b hb)⟩⟩
  · rcases List.mem_append.mp hp with hp | hp
    · refine (st.mu p (by rw [hσ]; exact List.mem_append_left _ hp)).mono .rfl fun b hb o e => k b o (fun q => ?_) e
      exact nd1.2.2 b (AX.mem_adr hp hb) b (List.mem_append_left _ q) rfl
    · rcases List.mem_cons.mp hp with rfl | hp
      · exact h
      · refine (st.mu p (by rw [hσ]; exact List.mem_append_right _ (.tail _ hp))).mono .rfl fun b hb o e => k b o (fun q => ?_) e
        exact nd2.2.2 b q b (AX.mem_adr hp hb) rfl
  · obtain ⟨o, e⟩ := st.dom x hx
    exact ⟨o, k x o (fun q => st.dis x hx (hin x q)) e⟩
theorem St.get {a : Addr} {mo : MO} (st : St c B S X s) (h : (a, mo) ∈ X.σ) : MRep S s.heap a mo := st.mu _ h
theorem St.weak {X' : AX} (st : St c B S X s) (hσ : X'.σ.Sublist X.σ) (hm : ∀ x V, X'.m.lookup x = some V → X.m.lookup x = some V) : St c B S X' s := by
  have sub := AX.adr_sub hσ
  refine ⟨st.loc, st.gr, st.base, st.sto, st.cel, ?_, fun p hp => st.mu p (hσ.subset hp), st.nd.sublist sub, fun a ha => st.sep a (ha.imp id fun q => sub.subset q), fun a ha q => st.dis a ha (sub.subset q), st.dom, st.prot, st.pin, st.os, st.gens, st.drawn⟩
  obtain ⟨mc, n, f⟩ := st.fr
  exact ⟨mc, n, fun x V e => f x V (hm x V e)⟩
theorem St.local {x : Str} {v : Value} {V : AV} {s' : Shared} {mc : Str → Option Value} (st : St c B S X s) (hw : c.env.locals ∈ c.own) (hn : s.heap.Ns c.env.locals mc) (r : Rep S v V) (hk : c.env.kindOf x = some .local) (n : s'.heap.Ns c.env.locals (fun y => if y = x then some v else mc y)) (k : Heap.SameBut c.env.locals s.heap s'.heap) (e1 : s'.os = s.os) (e2 : s'.gens = s.gens) (e3 : s'.drawn = s.drawn) : St c B S ⟨X.σ, (x, V) :: X.m⟩ s' := by
  have kb := KeepsBut.of_same k
  have sp := st.sep _ (.inl hw)
  have ne : ∀ b, b ∈ [c.env.locals] → b = c.env.locals := fun b q => List.mem_singleton.mp q
  refine ⟨st.loc, fun b o e => kb b o (fun q => ?_) (st.gr b o e), fun b o e => kb b o (fun q => ?_) (st.base b o e), fun b o e => kb b o (fun q => ?_) (st.sto b o e), st.cel.store kb, ⟨_, n, fun y U e => ?_⟩, fun p hp => (st.mu p hp).mono .rfl fun b hb o e => kb b o (fun q => ?_) e, st.nd, st.sep, st.dis, fun a ha => ?_, st.prot, st.pin, e1.trans st.os, (.to e2 st.gens), e3.trans st.drawn⟩
  · rw [ne b q, sp.1] at e; cases e
  · rw [ne b q] at e; exact sp.2.1 o e
  · rw [ne b q] at e; exact sp.2.2 o e
  · rw [List.lookup_cons] at e
    by_cases hy : y = x
    · subst hy
      rw [beq_self_eq_true] at e
      cases e
      exact ⟨v, r, .inl ⟨hk, if_pos rfl⟩⟩
    · rw [beq_eq_false_iff_ne.mpr hy] at e
      obtain ⟨mc', n', f⟩ := st.fr
      obtain ⟨u, ru, yu⟩ := f y U e
      have em : mc' y = mc y := by
        obtain ⟨o1, es1, ep1, a1, a2, a3, a4⟩ := n'
        obtain ⟨o2, es2, ep2, b1, b2, b3, b4⟩ := hn
        rw [a1] at b1; cases b1
        rw [a2] at b2; cases b2
        rw [← a4, b4]
      exact ⟨u, ru, yu.store kb ((if_neg hy).trans em.symm)⟩
  · rw [ne b q] at hb; exact st.dis _ hw (AX.mem_adr hp hb)
  · by_cases q : a = c.env.locals
    · subst q
      obtain ⟨o, es, ep, h1, _⟩ := n
      exact ⟨o, h1⟩
    · obtain ⟨o, e⟩ := st.dom a ha
      exact ⟨o, kb a o (fun z => q (ne a z)) e⟩
end
def Bg.pin (B : Bg) (a : Addr) (o : Obj) : Bg := { B with base := fun b p => B.base b p ∨ (b = a ∧ p = o), prot := fun b => B.prot b ∨ b = a }
section
variable {c : Cx} {B : Bg} {S : Sto} {X : AX} {s : Shared}
theorem Var.bg {B' : Bg} {h : Heap} {mc : Str → Option Value} {x : Str} {v : Value} (k : ∀ a o, B.base a o → B'.base a o) (y : Var c B h mc x v) : Var c B' h mc x v := by
  rcases y with y | ⟨a, q, o, e1, e2, e3, e4, e5⟩
  · exact .inl y
  · exact .inr ⟨a, q, o, e1, e2, e3, e4.imp id (k _ _), e5⟩
theorem St.pin_ {a : Addr} {o : Obj} (st : St c B S X s) (b : Bare c B S X a) (h : s.heap.get? a = some o) : St c (B.pin a o) S X s where
  loc := st.loc.imp id fun ⟨a, o, e⟩ => ⟨a, o, .inl e⟩
  gr := st.gr
  base x p e := e.elim (st.base x p) fun q => by rw [q.1, q.2]; exact h
  sto := st.sto
  cel := fun x a e => let ⟨h1, h2, h3⟩ := st.cel x a e; ⟨h1, h2.imp id fun ⟨p, q⟩ => ⟨p, .inl q⟩, h3⟩
  fr := by
    obtain ⟨mc, n, f⟩ := st.fr
    exact ⟨mc, n, fun x V e => let ⟨v, r, y⟩ := f x V e; ⟨v, r, y.bg fun _ _ => .inl⟩⟩
  mu := st.mu
  nd := st.nd
  sep x hx := by
    obtain ⟨h1, h2, h3⟩ := st.sep x hx
    refine ⟨h1, fun p e => e.elim (h2 p) fun q => ?_, h3⟩
    rw [q.1] at hx
    exact hx.elim b.own b.adr
  dis := st.dis
  dom := st.dom
  prot x p e q := q.elim (st.prot x p e) fun z => b.sto p (z ▸ e)
  pin x q := q.elim (fun z => let ⟨p, e⟩ := st.pin x z; ⟨p, .inl e⟩) fun z => ⟨o, .inr ⟨z, rfl⟩⟩
  os := st.os
  gens := st.gens
  drawn := st.drawn
end
def AF.val : AF → AV
  | .ret V => V
  | _ => .none
def Cx.callee (c : Cx) (env : Env) (own : List Addr) : Cx := { c with A := c.A.deeper env, env := env, own := own, E := fun _ _ => False }
theorem Gd.deeper {A : Around} {d : Nat} (env : Env) (x : Gd A (d + 1)) : Gd (A.deeper env) d := ⟨x.hd, by have := x.dp; show A.depth + 1 + d < _; lia, by have := x.un; show A.units + 3 + 8 * d + 8 < _; lia⟩
theorem Gd.room {A : Around} {d : Nat} (x : Gd A d) : A.depth < recursionLimit := by have := x.dp; lia
theorem Gd.units {A : Around} {d : Nat} (x : Gd A d) : A.units < cLine := by have := x.un; lia
theorem Gd.le {A : Around} {d e : Nat} (x : Gd A d) (h : Nat.ble e d = true) : Gd A e := by
  have h := Nat.le_of_ble_eq_true h
  exact ⟨x.hd, by have := x.dp; lia, by have := x.un; lia⟩
section
variable {c : Cx} {B : Bg} {S : Sto} {X : AX} {s : Shared}
def Bg.call (c : Cx) (B : Bg) (X : AX) (s : Shared) (ex : List Addr) : Bg := { base := fun b o => s.heap.get? b = some o ∧ b ∉ AX.adr X.σ ∧ b ∉ ex, prot := fun a => B.prot a ∨ a ∈ c.own, os := s.os, gens := s.gens, drawn := s.drawn }
theorem St.noadr (st : St c B S X s) {b : Addr} {o : Obj} (e : B.base b o) : b ∉ AX.adr X.σ := fun q => (st.sep b (.inr q)).2.1 o e
theorem St.callIn (st : St c B S X s) {ex : List Addr} (hex : ∀ a ∈ ex, Bare c B S X a) {env : Env} {L : Addr} {own : List Addr} {m : List (Str × AV)} {s' : Shared} (k : Keeps s.heap s'.heap) (hL : env.locals = L) (hown : L ∈ own) (fresh : ∀ a ∈ own, s.heap.get? a = none) (hdom : ∀ a ∈ own, ∃ o, s'.heap.get? a = some o)
    (hcel : CelOk (c.callee env own) (Bg.call c B X s ex) s'.heap) (hfr : ∃ mc, s'.heap.Ns L mc ∧ ∀ x V, m.lookup x = some V → ∃ v, Rep S v V ∧ Var (c.callee env own) (Bg.call c B X s ex) s'.heap mc x v) (e1 : s'.os = s.os) (e2 : s'.gens = s.gens) (e3 : s'.drawn = s.drawn) : St (c.callee env own) (Bg.call c B X s ex) S ⟨X.σ, m⟩ s' where
  loc := .inl (by show env.locals ∈ own; rw [hL]; exact hown)
  gr b o e := k b o (st.gr b o e)
  base b o e := k b o e.1
  sto b o e := k b o (st.sto b o e)
  cel := hcel
  fr := by rw [← hL] at hfr; exact hfr
  mu p hp := (st.mu p hp).mono .rfl fun b _ o e => k b o e
  nd := st.nd
  sep a ha := by
    rcases ha with ha | ha
    · have b := st.bare (fresh a ha)
      refine ⟨b.g, fun o (e : s.heap.get? a = some o ∧ _ ∧ _) => ?_, b.sto⟩
      rw [fresh a ha] at e; cases e.1
    · exact ⟨(st.sep a (.inr ha)).1, fun o e => e.2.1 ha, (st.sep a (.inr ha)).2.2⟩
  dis a ha := (st.bare (fresh a ha)).adr
  dom := hdom
  prot a o e q := q.elim (st.prot a o e) fun z => (st.sep a (.inl z)).2.2 o e
  pin a q := q.elim (fun z => let ⟨o, e⟩ := st.pin a z; ⟨o, st.base a o e, st.noadr e, fun w => (hex a w).base o e⟩) fun z => let ⟨o, e⟩ := st.dom a z; ⟨o, e, st.dis a z, fun w => (hex a w).own z⟩
  os := e1
  gens := .to e2 (.refl _)
  drawn := e3
theorem St.callOut (st : St c B S X s) {ex : List Addr} (hex : ∀ a ∈ ex, Bare c B S X a) {env : Env} {own : List Addr} {S' : Sto} {X' : AX} {s' : Shared} (le : S.Le S') (st' : St (c.callee env own) (Bg.call c B X s ex) S' X' s') : St c B S' ⟨X'.σ, X.m⟩ s' where
  loc := st.loc
  gr := st'.gr
  base b o e := st'.base b o ⟨st.base b o e, st.noadr e, fun w => (hex b w).base o e⟩
  sto := st'.sto
  cel := fun x a e => by
    obtain ⟨h1, h2, o, v, h3, h4⟩ := st.cel x a e
    exact ⟨h1, h2, o, v, st'.base _ _ ⟨h3, h2.elim (st.dis _) fun ⟨p, q⟩ => st.noadr q, fun w => h2.elim (hex a w).own fun ⟨p, q⟩ => (hex a w).base p q⟩, h4⟩
  fr := by
    obtain ⟨mc, ⟨o, es, ep, h1, h2⟩, f⟩ := st.fr
    refine ⟨mc, ⟨o, es, ep, st'.base _ _ ⟨h1, st.locN, fun w => st.locB (hex _ w).own (hex _ w).base rfl⟩, h2⟩, fun x V e => ?_⟩
    obtain ⟨v, r, y⟩ := f x V e
    refine ⟨v, r.mono le, ?_⟩
    rcases y with y | ⟨a, q, p, e1, e2, e3, e4, e5⟩
    · exact .inl y
    · exact .inr ⟨a, q, p, e1, st'.base _ _ ⟨e2, e4.elim (st.dis _) st.noadr, fun w => e4.elim (hex q w).own ((hex q w).base p)⟩, e3, e4, e5⟩
  mu := st'.mu
  nd := st'.nd
  sep a ha := by
    rcases ha with ha | ha
    · exact ⟨(st.sep a (.inl ha)).1, (st.sep a (.inl ha)).2.1, fun o e => st'.prot a o e (.inr ha)⟩
    · obtain ⟨h1, h2, h3⟩ := st'.sep a (.inr ha)
      exact ⟨h1, fun o e => h2 o ⟨st.base a o e, st.noadr e, fun w => (hex a w).base o e⟩, h3⟩
  dis a ha q := by
    obtain ⟨o, e⟩ := st.dom a ha
    exact (st'.sep a (.inr q)).2.1 o ⟨e, st.dis a ha, fun w => (hex a w).own ha⟩
  dom a ha := let ⟨o, e⟩ := st.dom a ha; ⟨o, st'.base a o ⟨e, st.dis a ha, fun w => (hex a w).own ha⟩⟩
  prot a o e q := st'.prot a o e (.inl q)
  pin := st.pin
  os := st'.os.trans st.os
  gens := st.gens.trans st'.gens
  drawn := st'.drawn.trans st.drawn
end
theorem RepK.lookup {S : Sto} {kw : List (Str × Value)} {kws : List (Str × AV)} (r : RepK S kw kws) {x : Str} {V : AV} (e : kws.lookup x = some V) : ∃ v, kw.lookup x = some v ∧ Rep S v V := by
  induction kws generalizing kw with
  | nil => cases e
  | cons p r' ih =>
    obtain ⟨y, U⟩ := p
    cases kw with
    | nil => have := r.1; simp at this
    | cons q t =>
      obtain ⟨z, u⟩ := q
      have h1 := r.1
      simp only [List.map_cons, List.cons.injEq] at h1
      obtain ⟨rfl, h1⟩ := h1
      have h2 := r.2.uncons
      rw [List.lookup_cons] at e ⊢
      cases hb : x == z with
      | true => rw [hb] at e; cases e; exact ⟨u, rfl, h2.1⟩
      | false => rw [hb] at e; exact ih ⟨h1, h2.2⟩ e
theorem Reps.reverse {S : Sto} {vs : List Value} {Vs : List AV} (h : Reps S vs Vs) : Reps S vs.reverse Vs.reverse := by
  induction vs generalizing Vs with
  | nil => have : Vs = [] := List.eq_nil_of_length_eq_zero (by have := h.1; simpa using this.symm); subst this; exact .nil
  | cons v r ih =>
    cases Vs with
    | nil => have := h.1; simp at this
    | cons V R =>
      have h2 := Reps.uncons h
      rw [List.reverse_cons, List.reverse_cons]
      exact (ih h2.2).append (.cons h2.1 .nil)
theorem RepK.reverse {S : Sto} {kw : List (Str × Value)} {kws : List (Str × AV)} (r : RepK S kw kws) : RepK S kw.reverse kws.reverse := by
  refine ⟨by rw [List.map_reverse, List.map_reverse, r.1], ?_⟩
  rw [List.map_reverse, List.map_reverse]; exact r.2.reverse
theorem lookup_mem {α : Type} {x : Str} {v : α} : ∀ {l : List (Str × α)}, l.lookup x = some v → ∃ y, (y, v) ∈ l ∧ y = x
  | [], e => by cases e
  | (y, u) :: r, e => by
    rw [List.lookup_cons] at e
    cases hb : x == y with
    | true => rw [hb] at e; cases e; exact ⟨y, .head _, (beq_iff_eq.mp hb).symm⟩
    | false => rw [hb] at e; obtain ⟨z, h1, h2⟩ := lookup_mem e; exact ⟨z, .tail _ h1, h2⟩
structure Kin (c c' : Cx) : Prop where
  fix : c'.fix = c.fix
  P : c'.P = c.P
  w : c'.w = c.w
  K : c'.K = c.K
  g : c'.g = c.g
section
variable {c : Cx} {X : AX} {Q : AV → AX → Prop}
theorem E_name {x : Str} {pos : Pos} {V : AV} (hv : X.m.lookup x = some V) (h : Q V X) (hd : (x == ("__debug__" : Str)) = false := by decide) (hn : (x == ("__classdict__" : Str)) = false := by decide) : WE c (.Name x pos) Q X := by
  intro B S s ok st
  obtain ⟨mc, n, f⟩ := st.fr
  obtain ⟨v, r, y⟩ := f x V hv
  have fin : Post c B S Rep Q v s := ⟨S, V, X, .rfl, r, st, h⟩
  rcases y with ⟨k, e⟩ | ⟨k | k, q, o, e1, e2, e3, _⟩
  · exact wpAny_Name (wpAny_loadName_local ok.fk k n e fin) hd
  · exact wpAny_Name (wpAny_loadName_cell ok.fk k e1 ⟨o, e2, e3⟩ fin) hd
  · exact wpAny_Name (wpAny_loadName_free ok.fk k e1 ⟨o, e2, e3⟩ fin hn) hd
theorem E_global {x : Str} {pos : Pos} {v : Value} (hk : c.env.kindOf x = some .globalImplicit) (e : nsIn c.K mainGlobals x = some (some v)) (h : Q (.raw v) X) (hd : (x == ("__debug__" : Str)) = false := by decide) : WE c (.Name x pos) Q X := by
  intro B S s ok st
  obtain ⟨p, loose, mean, mg, mb, T⟩ := ok.T
  have T' := (topRead_of T).keeps st.gr
  exact Name_function_global ok.fk hk (loadGlobal_global (by rw [ok.gl]; exact T'.g) (mg_of (ok.X.keeps st.gr) T'.g e) ⟨S, _, X, .rfl, .raw v, st, h⟩) hd
theorem E_builtin {x : Str} {pos : Pos} {v : Value} (hk : c.env.kindOf x = some .globalImplicit) (e : nsIn c.K mainGlobals x = some none) (hv : bootBuiltins x = some v) (hn : x ≠ "__name__") (h : Q (.raw v) X) (hd : (x == ("__debug__" : Str)) = false := by decide) : WE c (.Name x pos) Q X := by
  intro B S s ok st
  obtain ⟨p, loose, mean, mg, mb, T⟩ := ok.T
  have T' := (topRead_of T).keeps st.gr
  exact Name_function_global ok.fk hk (loadGlobal_builtin (by rw [ok.gl]; exact T'.g) (mg_none_of (ok.X.keeps st.gr) T'.g e) (by rw [ok.bi]; exact T'.b) ((T'.builtins x hn).trans hv) ⟨S, _, X, .rfl, .raw v, st, h⟩) hd
theorem E_int {i k pos} (h : Q (.int i) X) : WE c (.Constant (.int i) k pos) Q X := fun B S s ok st => wpAny_Constant_int ⟨S, _, X, .rfl, .int _ _, st.toks _, h⟩
theorem E_none {k pos} (h : Q .none X) : WE c (.Constant .none k pos) Q X := fun B S s ok st => wpAny_Constant_none ⟨S, _, X, .rfl, .none, st, h⟩
theorem E_bool {b k pos} (h : Q (.bool b) X) : WE c (.Constant (.bool b) k pos) Q X := fun B S s ok st => wpAny_Constant_bool ⟨S, _, X, .rfl, .bool b, st, h⟩
theorem E_bin {l op r pos} (h : WE c l (fun V X₁ => WE c r (fun U X₂ => W2 c Rep V U (binaryOp op) Q X₂) X₁) X) : WE c (.BinOp l op r pos) Q X :=
  fun B S s ok st => wpAny_BinOp (wpAny_mono (h B S s ok st) (fun a s₁ ⟨S₁, V, X₁, u₁, ra, st₁, h₁⟩ => wpAny_mono (h₁ B S₁ s₁ ok st₁) (fun b s₂ ⟨S₂, W, X₂, u₂, rb, st₂, h₂⟩ => wpAny_mono (h₂ B S₂ s₂ a b ok (ra.mono u₂) rb st₂) (fun _ _ p => p.up (u₁.trans u₂)) fun _ _ e => e) fun _ _ e => e) fun _ _ e => e)
theorem E_un {op x pos} (h : WE c x (fun V X₁ => W1 c Rep V (unaryOp op) Q X₁) X) : WE c (.UnaryOp op x pos) Q X :=
  fun B S s ok st => wpAny_UnaryOp (wpAny_mono (h B S s ok st) (fun a s₁ ⟨S₁, V, X₁, u₁, ra, st₁, h₁⟩ => wpAny_mono (h₁ B S₁ s₁ a ok ra st₁) (fun _ _ p => p.up u₁) fun _ _ e => e) fun _ _ e => e)
theorem E_cmp {l op r pos} (h : WE c l (fun V X₁ => WE c r (fun U X₂ => W2 c Rep V U (compareOp op) Q X₂) X₁) X) (hm : behindInMarks op r = false := by with_unfolding_all rfl) : WE c (.Compare l [op] [r] pos) Q X :=
  fun B S s ok st => wpAny_Compare1 (wpAny_mono (h B S s ok st) (fun a s₁ ⟨S₁, V, X₁, u₁, ra, st₁, h₁⟩ => wpAny_mono (h₁ B S₁ s₁ ok st₁) (fun b s₂ ⟨S₂, W, X₂, u₂, rb, st₂, h₂⟩ => wpAny_mono (h₂ B S₂ s₂ a b ok (ra.mono u₂) rb st₂) (fun _ _ p => p.up (u₁.trans u₂)) fun _ _ e => e) fun _ _ e => e) fun _ _ e => e) hm
theorem E_ifexp {test body orelse pos} (h : WB c test (fun b X₁ => if b = true then WE c body Q X₁ else WE c orelse Q X₁) X) : WE c (.IfExp test body orelse pos) Q X :=
  fun B S s ok st => wpAny_IfExp (wpAny_mono (h B S s ok st) (fun a s₁ ⟨S₁, b, X₁, u₁, ra, st₁, h₁⟩ => by
    cases ra
    cases a with
    | true => rw [if_pos rfl] at h₁ ⊢; exact wpAny_mono (h₁ B S₁ s₁ ok st₁) (fun _ _ p => p.up u₁) fun _ _ e => e
    | false => rw [if_neg (by decide)] at h₁ ⊢; exact wpAny_mono (h₁ B S₁ s₁ ok st₁) (fun _ _ p => p.up u₁) fun _ _ e => e) fun _ _ e => e)
abbrev WTr (c : Cx) (V : AV) (Q : Bool → AX → Prop) (X : AX) : Prop := W1 c (Same (α := Bool)) V truthy Q X
theorem E_and {x y pos} (h : WE c x (fun V X₁ => WTr c V (fun b X₂ => if b = true then WE c y Q X₂ else Q V X₂) X₁) X) : WE c (.BoolOp .And [x, y] pos) Q X :=
  fun B S s ok st => wpAny_And2 (wpAny_mono (h B S s ok st) (fun a s₁ ⟨S₁, V, X₁, u₁, ra, st₁, h₁⟩ => wpAny_mono (h₁ B S₁ s₁ a ok ra st₁) (fun t s₂ ⟨S₂, b, X₂, u₂, rb, st₂, h₂⟩ => by
    cases rb
    cases t with
    | true => rw [if_pos rfl] at h₂ ⊢; exact wpAny_mono (h₂ B S₂ s₂ ok st₂) (fun _ _ p => p.up (u₁.trans u₂)) fun _ _ e => e
    | false => rw [if_neg (by decide)] at h₂ ⊢; exact ⟨S₂, V, X₂, u₁.trans u₂, ra.mono u₂, st₂, h₂⟩) fun _ _ e => e) fun _ _ e => e)
theorem E_or {x y pos} (h : WE c x (fun V X₁ => WTr c V (fun b X₂ => if b = true then Q V X₂ else WE c y Q X₂) X₁) X) : WE c (.BoolOp .Or [x, y] pos) Q X :=
  fun B S s ok st => wpAny_Or2 (wpAny_mono (h B S s ok st) (fun a s₁ ⟨S₁, V, X₁, u₁, ra, st₁, h₁⟩ => wpAny_mono (h₁ B S₁ s₁ a ok ra st₁) (fun t s₂ ⟨S₂, b, X₂, u₂, rb, st₂, h₂⟩ => by
    cases rb
    cases t with
    | false => rw [if_neg (by decide)] at h₂ ⊢; exact wpAny_mono (h₂ B S₂ s₂ ok st₂) (fun _ _ p => p.up (u₁.trans u₂)) fun _ _ e => e
    | true => rw [if_pos rfl] at h₂ ⊢; exact ⟨S₂, V, X₂, u₁.trans u₂, ra.mono u₂, st₂, h₂⟩) fun _ _ e => e) fun _ _ e => e)
end
section
variable {c : Cx} {X : AX} {Q : Bool → AX → Prop}
theorem T_not {x pos} (h : WB c x (fun b X₁ => Q (!b) X₁) X) : WB c (.UnaryOp .Not x pos) Q X :=
  fun B S s ok st => wpAny_isTrue_Not (wpAny_mono (h B S s ok st) (fun a s₁ ⟨S₁, b, X₁, u₁, ra, st₁, h₁⟩ => by cases ra; exact ⟨S₁, _, X₁, u₁, rfl, st₁, h₁⟩) fun _ _ e => e)
theorem T_cmp {l op r pos} (h : WE c l (fun V X₁ => WE c r (fun U X₂ => W2 c Rep V U (compareOp op) (fun W X₃ => WTr c W Q X₃) X₂) X₁) X) (hm : behindInMarks op r = false := by with_unfolding_all rfl) : WB c (.Compare l [op] [r] pos) Q X :=
  fun B S s ok st => wpAny_isTrue_Compare1 (wpAny_mono (h B S s ok st) (fun a s₁ ⟨S₁, V, X₁, u₁, ra, st₁, h₁⟩ => wpAny_mono (h₁ B S₁ s₁ ok st₁) (fun b s₂ ⟨S₂, W, X₂, u₂, rb, st₂, h₂⟩ => wpAny_mono (h₂ B S₂ s₂ a b ok (ra.mono u₂) rb st₂) (fun d s₃ ⟨S₃, W', X₃, u₃, rc, st₃, h₃⟩ =>
    wpAny_mono (h₃ B S₃ s₃ d ok rc st₃) (fun _ _ p => p.up (u₁.trans (u₂.trans u₃))) fun _ _ e => e) fun _ _ e => e) fun _ _ e => e) fun _ _ e => e) hm
theorem T_and {x rest pos} (h : WB c x (fun b X₁ => if b = true then WB c (.BoolOp .And rest pos) Q X₁ else Q false X₁) X) : WB c (.BoolOp .And (x :: rest) pos) Q X :=
  fun B S s ok st => isTrue_and (wpAny_mono (h B S s ok st) (fun a s₁ ⟨S₁, b, X₁, u₁, ra, st₁, h₁⟩ => by
    cases ra
    cases a with
    | true => rw [if_pos rfl] at h₁ ⊢; exact wpAny_mono (h₁ B S₁ s₁ ok st₁) (fun _ _ p => p.up u₁) fun _ _ e => e
    | false => rw [if_neg (by decide)] at h₁ ⊢; exact ⟨S₁, _, X₁, u₁, rfl, st₁, h₁⟩) fun _ _ e => e)
theorem T_or {x rest pos} (h : WB c x (fun b X₁ => if b = true then Q true X₁ else WB c (.BoolOp .Or rest pos) Q X₁) X) : WB c (.BoolOp .Or (x :: rest) pos) Q X :=
  fun B S s ok st => isTrue_or (wpAny_mono (h B S s ok st) (fun a s₁ ⟨S₁, b, X₁, u₁, ra, st₁, h₁⟩ => by
    cases ra
    cases a with
    | false => rw [if_neg (by decide)] at h₁ ⊢; exact wpAny_mono (h₁ B S₁ s₁ ok st₁) (fun _ _ p => p.up u₁) fun _ _ e => e
    | true => rw [if_pos rfl] at h₁ ⊢; exact ⟨S₁, _, X₁, u₁, rfl, st₁, h₁⟩) fun _ _ e => e)
theorem T_val {e : Expr} (h : WE c e (fun V X₁ => WTr c V Q X₁) X) (he : ∀ whole, isTrue e c.env whole = (do let v ← whole; standAt e.pos; holding [v] (truthy v)) := by intro _; rfl) : WB c e Q X :=
  fun B S s ok st => isTrue_plain (wpAny_mono (h B S s ok st) (fun a s₁ ⟨S₁, V, X₁, u₁, ra, st₁, h₁⟩ => wpAny_mono (h₁ B S₁ s₁ a ok ra st₁) (fun _ _ p => p.up u₁) fun _ _ e => e) fun _ _ e => e) (he _)
theorem T_and_nil {pos} (h : Q true X) : WB c (.BoolOp .And [] pos) Q X := fun B S s ok st => isTrue_and_nil ⟨S, _, X, .rfl, rfl, st, h⟩
theorem T_or_nil {pos} (h : Q false X) : WB c (.BoolOp .Or [] pos) Q X := fun B S s ok st => isTrue_or_nil ⟨S, _, X, .rfl, rfl, st, h⟩
end
section
variable {c : Cx} {B : Bg} {S : Sto} {X : AX} {s : Shared}
theorem St.cell {x : Str} {v : Value} {V : AV} {s' : Shared} {k : Addr} (st : St c B S X s) (cnd : ∀ x y k, c.env.cells.lookup x = some k → c.env.cells.lookup y = some k → x = y) (r : Rep S v V) (hk : c.env.kindOf x = some .cell) (hc : c.env.cells.lookup x = some k) (hkL : k ≠ c.env.locals) (hown : k ∈ c.own) (n : ∃ o, s'.heap.get? k = some o ∧ o.data = .cell (some v)) (kk : Heap.SameBut k s.heap s'.heap) (e1 : s'.os = s.os) (e2 : s'.gens = s.gens) (e3 : s'.drawn = s.drawn) : St c B S ⟨X.σ, (x, V) :: X.m⟩ s' := by
  have kb := KeepsBut.of_same kk
  have sp := st.sep _ (.inl hown)
  have ne : ∀ b, b ∈ [k] → b = k := fun b q => List.mem_singleton.mp q
  obtain ⟨ok, hok1, hok2⟩ := n
  refine ⟨st.loc, fun b o e => kb b o (fun q => ?_) (st.gr b o e), fun b o e => kb b o (fun q => ?_) (st.base b o e), fun b o e => kb b o (fun q => ?_) (st.sto b o e), fun y a e => ?_, ?_, fun p hp => (st.mu p hp).mono .rfl fun b hb o e => kb b o (fun q => ?_) e, st.nd, st.sep, st.dis, fun a ha => ?_, st.prot, st.pin, e1.trans st.os, (.to e2 st.gens), e3.trans st.drawn⟩
  · rw [ne b q, sp.1] at e; cases e
  · rw [ne b q] at e; exact sp.2.1 o e
  · rw [ne b q] at e; exact sp.2.2 o e
  · obtain ⟨h1, h2, o, v', h3, h4⟩ := st.cel y a e
    by_cases q : a = k
    · subst q; exact ⟨h1, h2, ok, _, hok1, hok2⟩
    · exact ⟨h1, h2, o, v', kb a o (fun z => q (ne a z)) h3, h4⟩
  · obtain ⟨mc, nn, f⟩ := st.fr
    refine ⟨mc, Heap.Ns.keepsBut kb (fun q => hkL (ne _ q).symm) nn, fun y U e => ?_⟩
    rw [List.lookup_cons] at e
    by_cases hy : y = x
    · subst hy
      rw [beq_self_eq_true] at e
      cases e
      exact ⟨v, r, .inr ⟨.inl hk, k, ok, hc, hok1, hok2, .inl hown, hkL⟩⟩
    · rw [beq_eq_false_iff_ne.mpr hy] at e
      obtain ⟨u, ru, yu⟩ := f y U e
      refine ⟨u, ru, ?_⟩
      rcases yu with yu | ⟨w, a, o, f1, f2, f3, f4, f5⟩
      · exact .inl yu
      · exact .inr ⟨w, a, o, f1, kb _ _ (fun z => hy (cnd _ _ _ f1 (ne a z ▸ hc))) f2, f3, f4, f5⟩
  · rw [ne b q] at hb; exact st.dis _ hown (AX.mem_adr hp hb)
  · by_cases q : a = k
    · subst q; exact ⟨ok, hok1⟩
    · obtain ⟨o, e⟩ := st.dom a ha
      exact ⟨o, kb a o (fun z => q (ne a z)) e⟩
def Own (c : Cx) (x : Str) : Prop := (c.env.kindOf x = some .local ∧ c.env.locals ∈ c.own) ∨ (c.env.kindOf x = some .cell ∧ ∃ k, c.env.cells.lookup x = some k ∧ k ∈ c.own)
theorem store_ {x : Str} {V : AV} {Q : Unit → AX → Prop} (hx : Own c x) (h : Q () ⟨X.σ, (x, V) :: X.m⟩) : W1 c (fun _ (a b : Unit) => a = b) V (storeName c.env x) Q X := by
  intro B S s v ok r st
  rcases hx with ⟨hl, hw⟩ | ⟨hl, k, hc, hown⟩
  · obtain ⟨mc, n, f⟩ := st.fr
    refine wpAny_storeName_local hl n (fun h' hn hs => ⟨S, (), _, .rfl, rfl, st.local hw n r hl hn hs rfl rfl rfl, h⟩) ?_
    rw [ok.fk]; rfl
  · obtain ⟨h1, h2, o, v', h3, h4⟩ := st.cel x k hc
    exact wpAny_storeName_cell ok.fk hl hc ⟨o, h3, h4⟩ fun h' hv hs => ⟨S, (), _, .rfl, rfl, st.cell ok.cnd r hl hc h1 hown hv hs rfl rfl rfl, h⟩
end
section
variable {c : Cx} {X : AX} {Q : AF → AX → Prop} {rest : List Stmt}
def Then (c : Cx) (rest : List Stmt) (Q : AF → AX → Prop) : AF → AX → Prop
  | .next, X => WSs c rest Q X
  | F, X => Q F X
theorem Then_next (h : WSs c rest Q X) : Then c rest Q .next X := h
theorem Then_brk (h : Q .brk X) : Then c rest Q .brk X := h
theorem Then_cont (h : Q .cont X) : Then c rest Q .cont X := h
theorem Then_ret {V} (h : Q (.ret V) X) : Then c rest Q (.ret V) X := h
theorem S_nil (h : Q .next X) : WSs c [] Q X := fun B S s ok st => wpAny_execs_nil ⟨S, .next, X, .rfl, .next, st, h⟩
theorem S_cons {st : Stmt} (h : WS c st (Then c rest Q) X) : WSs c (st :: rest) Q X := fun B S s ok st => wpAny_execs_cons (wpAny_mono (h B S s ok st) (fun f s₁ ⟨S₁, F, X₁, u₁, rf, st₁, h₁⟩ => by
  cases rf with
  | next => exact wpAny_mono (h₁ B S₁ s₁ ok st₁) (fun _ _ p => p.up u₁) fun _ _ e => e
  | brk => exact ⟨S₁, _, X₁, u₁, .brk, st₁, h₁⟩
  | cont => exact ⟨S₁, _, X₁, u₁, .cont, st₁, h₁⟩
  | ret r => exact ⟨S₁, _, X₁, u₁, .ret r, st₁, h₁⟩) fun _ _ e => e)
theorem S_last {st : Stmt} (h : WS c st Q X) : WSs c [st] Q X := S_cons (h.imp fun F X' q => by cases F <;> first | exact S_nil q | exact q)
theorem S_break {pos} (h : Q .brk X) : WS c (.Break pos) Q X := fun B S s ok st => wpAny_Break ⟨S, .brk, X, .rfl, .brk, st, h⟩
theorem S_continue {pos} (h : Q .cont X) : WS c (.Continue pos) Q X := fun B S s ok st => wpAny_Continue ⟨S, .cont, X, .rfl, .cont, st, h⟩
theorem S_return {e pos} (h : WE c e (fun V X₁ => Q (.ret V) X₁) X) : WS c (.Return (some e) pos) Q X :=
  fun B S s ok st => wpAny_Return_some (wpAny_mono (h B S s ok st) (fun v s₁ ⟨S₁, V, X₁, u₁, r, st₁, h₁⟩ => ⟨S₁, .ret V, X₁, u₁, .ret r, st₁, h₁⟩) fun _ _ e => e)
theorem S_assign {x px e pos} (hx : Own c x) (h : WE c e (fun V X₁ => Q .next ⟨X₁.σ, (x, V) :: X₁.m⟩) X) (hs : swapsWith e (some (.Name x px)) pos.line c.env = pure false := by rfl) : WS c (.Assign [.Name x px] e pos) Q X :=
  fun B S s ok st => wpAny_Assign_Name (wpAny_mono (h B S s ok st) (fun v s₁ ⟨S₁, V, X₁, u₁, r, st₁, h₁⟩ => wpAny_mono (store_ hx (Q := fun _ => Q .next) h₁ B S₁ s₁ v ok r st₁) (fun _ _ ⟨S₂, _, X₂, u₂, _, st₂, h₂⟩ => ⟨S₂, .next, X₂, u₁.trans u₂, .next, st₂, h₂⟩) fun _ _ e => e) fun _ _ e => e) hs
theorem S_aug {x px op e pos V} (hx : Own c x) (hv : X.m.lookup x = some V) (h : WE c e (fun U X₁ => W2 c Rep V U (inplaceOp op) (fun W X₂ => Q .next ⟨X₂.σ, (x, W) :: X₂.m⟩) X₁) X) : WS c (.AugAssign (.Name x px) op e pos) Q X := by
  intro B S s ok st
  refine wpAny_AugAssign_Name ?_
  obtain ⟨mc, n, f⟩ := st.fr
  obtain ⟨v, r, y⟩ := f x V hv
  have go : wpAny (model c.P c.w) c.A (eval e c.env) (fun u s₂ => wpAny (model c.P c.w) c.A (inplaceOp op v u) (fun w s₃ => wpAny (model c.P c.w) c.A (storeName c.env x w) (fun _ => Post c B S RepF Q .next) c.E s₃) c.E s₂) c.E s :=
    wpAny_mono (h B S s ok st) (fun u s₁ ⟨S₁, U, X₁, u₁, ru, st₁, h₁⟩ => wpAny_mono (h₁ B S₁ s₁ v u ok (r.mono u₁) ru st₁) (fun w s₂ ⟨S₂, W, X₂, u₂, rw', st₂, h₂⟩ =>
      wpAny_mono (store_ hx (Q := fun _ => Q .next) h₂ B S₂ s₂ w ok rw' st₂) (fun _ _ ⟨S₃, _, X₃, u₃, _, st₃, h₃⟩ => ⟨S₃, .next, X₃, u₁.trans (u₂.trans u₃), .next, st₃, h₃⟩) fun _ _ e => e) fun _ _ e => e) fun _ _ e => e
  rcases y with ⟨k, e⟩ | ⟨k | k, q, o, e1, e2, e3, _⟩
  · exact wpAny_loadName_local ok.fk k n e go
  · exact wpAny_loadName_cell ok.fk k e1 ⟨o, e2, e3⟩ go
  · rcases hx with ⟨hx, _⟩ | ⟨hx, _⟩ <;> rw [k] at hx <;> cases hx
theorem S_if {test body orelse pos} (h : WB c test (fun b X₁ => if b = true then WSs c body Q X₁ else WSs c orelse Q X₁) X) : WS c (.If test body orelse pos) Q X :=
  fun B S s ok st => wpAny_If (wpAny_mono (h B S s ok st) (fun a s₁ ⟨S₁, b, X₁, u₁, ra, st₁, h₁⟩ => by
    cases ra
    cases a with
    | true => rw [if_pos rfl] at h₁ ⊢; exact wpAny_mono (h₁ B S₁ s₁ ok st₁) (fun _ _ p => p.up u₁) fun _ _ e => e
    | false => rw [if_neg (by decide)] at h₁ ⊢; exact wpAny_mono (h₁ B S₁ s₁ ok st₁) (fun _ _ p => p.up u₁) fun _ _ e => e) fun _ _ e => e)
theorem S_assert {test msg pos} (h : WB c test (fun b X₁ => b = true ∧ Q .next X₁) X) : WS c (.Assert test msg pos) Q X :=
  fun B S s ok st => wpAny_Assert_holds (wpAny_mono (h B S s ok st) (fun a s₁ ⟨S₁, b, X₁, u₁, ra, st₁, h₁⟩ => by
    cases ra; exact ⟨h₁.1, S₁, .next, X₁, u₁, .next, st₁, h₁.2⟩) fun _ _ e => e)
theorem S_expr {e pos} (h : WE c e (fun _ X₁ => Q .next X₁) X) (hi : interactive c.env = false := by rfl) (hs : swapsWith e none pos.line c.env = pure false := by rfl) : WS c (.Expr e pos) Q X :=
  fun B S s ok st => wpAny_Expr_any (wpAny_mono (h B S s ok st) (fun v s₁ ⟨S₁, V, X₁, u₁, r, st₁, h₁⟩ => ⟨S₁, .next, X₁, u₁, .next, st₁, h₁⟩) fun _ _ e => e) hi hs
end
section
variable {c : Cx} {X : AX} {Q : AV → AX → Prop} {a b : Int}
theorem opI {f : Value → Value → Sem Value} {V : AV} (h : ∀ (S : Sto) (s : Shared) t u (R : Value → Shared → Prop), (∀ v s', Rep S v V → s'.heap = s.heap → s'.os = s.os → s'.gens = s.gens → s'.drawn = s.drawn → R v s') → wpAny (model c.P c.w) c.A (f (.int a t) (.int b u)) R c.E s) (hq : Q V X) : W2 c Rep (.int a) (.int b) f Q X := by
  intro B S s v u ok r₁ r₂ st
  obtain ⟨t, rfl⟩ := r₁.int_inv
  obtain ⟨u, rfl⟩ := r₂.int_inv
  exact h S s t u _ fun v s' r e1 e2 e3 e4 => ⟨S, V, X, .rfl, r, st.grow (by rw [e1]; exact .rfl) e2 e3 e4, hq⟩
theorem O_add (h : Q (.int (a + b)) X) : W2 c Rep (.int a) (.int b) (binaryOp .Add) Q X := opI (fun S s t u R k => PySem.P.add_int (k _ _ (.int _ _) rfl rfl rfl rfl)) h
theorem O_sub (h : Q (.int (a - b)) X) : W2 c Rep (.int a) (.int b) (binaryOp .Sub) Q X := opI (fun S s t u R k => PySem.P.sub_int (k _ _ (.int _ _) rfl rfl rfl rfl)) h
theorem O_mul (hm : (-(2 ^ 64) < a ∧ a < 2 ^ 64) ∨ (-(2 ^ 64) < b ∧ b < 2 ^ 64)) (h : Q (.int (a * b)) X) : W2 c Rep (.int a) (.int b) (binaryOp .Mult) Q X :=
  opI (fun S s t u R k => PySem.P.mul_int (k _ _ (.int _ _) rfl rfl rfl rfl) (hm.elim (fun q => IntMulOk.of_left (intBits_le_64 q.1 q.2)) fun q => IntMulOk.of_right (intBits_le_64 q.1 q.2))) h
theorem O_div (hb : b ≠ 0) (hs : b.natAbs < 2 ^ 200) (h : Q (.int (a.fdiv b)) X) : W2 c Rep (.int a) (.int b) (binaryOp .FloorDiv) Q X :=
  opI (fun S s t u R k => PyProof.Rows.floordiv_int hb (k _ _ (.int _ _) rfl rfl rfl rfl) (.inl (PyProof.noPylong_of_log2 (by
    rcases Nat.eq_zero_or_pos b.natAbs with h0 | h0
    · rw [h0]; decide
    · exact (Nat.log2_lt (Nat.ne_of_gt h0)).mpr (Nat.lt_of_lt_of_le hs (Nat.pow_le_pow_right (by decide) (by decide))))))) h
theorem O_mod (hb : b ≠ 0) (h : Q (.int (a.fmod b)) X) : W2 c Rep (.int a) (.int b) (binaryOp .Mod) Q X := opI (fun S s t u R k => PyProof.Rows.mod_int' hb (k _ _ (.int _ _) rfl rfl rfl rfl)) h
theorem O_pow (h0 : 0 ≤ b) (h1 : b ≤ 1000000) (ha : a.natAbs < 2 ^ 64) (h : Q (.int (a ^ b.toNat)) X) : W2 c Rep (.int a) (.int b) (binaryOp .Pow) Q X := opI (fun S s t u R k => PyProof.Rows.pow_int_small h0 h1 ha (k _ _ (.int _ _) rfl rfl rfl rfl)) h
theorem O_shl (h0 : 0 ≤ b) (h1 : b ≤ 1000000) (ha : a.natAbs < 2 ^ 64) (h : Q (.int (a * 2 ^ b.toNat)) X) : W2 c Rep (.int a) (.int b) (binaryOp .LShift) Q X := opI (fun S s t u R k => PyProof.Rows.lshift_int_small h0 h1 ha (k _ _ (.int _ _) rfl rfl rfl rfl)) h
theorem O_shr (h0 : 0 ≤ b) (h : Q (.int (a.fdiv (2 ^ b.toNat))) X) : W2 c Rep (.int a) (.int b) (binaryOp .RShift) Q X := opI (fun S s t u R k => PyProof.Rows.rshift_int h0 (k _ _ (.int _ _) rfl rfl rfl rfl)) h
theorem O_band (h : Q (.int (Builtin.bitAnd a b)) X) : W2 c Rep (.int a) (.int b) (binaryOp .BitAnd) Q X := opI (fun S s t u R k => PyProof.Rows.and_int (k _ _ (.int _ _) rfl rfl rfl rfl)) h
theorem O_bor (h : Q (.int (Builtin.bitOr a b)) X) : W2 c Rep (.int a) (.int b) (binaryOp .BitOr) Q X := opI (fun S s t u R k => PyProof.Rows.or_int (k _ _ (.int _ _) rfl rfl rfl rfl)) h
theorem O_bxor (h : Q (.int (Builtin.bitXor a b)) X) : W2 c Rep (.int a) (.int b) (binaryOp .BitXor) Q X := opI (fun S s t u R k => PyProof.Rows.xor_int (k _ _ (.int _ _) rfl rfl rfl rfl)) h
theorem O_iadd (h : Q (.int (a + b)) X) : W2 c Rep (.int a) (.int b) (inplaceOp .Add) Q X := opI (fun S s t u R k => AutoIntOps.iadd_0 (k _ _ (.int _ _) rfl rfl rfl rfl)) h
theorem O_lt (h : Q (.bool (decide (a < b))) X) : W2 c Rep (.int a) (.int b) (compareOp .Lt) Q X := opI (fun S s t u R k => PySem.P.lt_int (k _ _ (.bool _) rfl rfl rfl rfl)) h
theorem O_le (h : Q (.bool (decide (a ≤ b))) X) : W2 c Rep (.int a) (.int b) (compareOp .LtE) Q X := opI (fun S s t u R k => PySem.P.le_int (k _ _ (.bool _) rfl rfl rfl rfl)) h
theorem O_gt (h : Q (.bool (decide (b < a))) X) : W2 c Rep (.int a) (.int b) (compareOp .Gt) Q X := opI (fun S s t u R k => PySem.P.gt_int (k _ _ (.bool _) rfl rfl rfl rfl)) h
theorem O_ge (h : Q (.bool (decide (b ≤ a))) X) : W2 c Rep (.int a) (.int b) (compareOp .GtE) Q X := opI (fun S s t u R k => PySem.P.ge_int (k _ _ (.bool _) rfl rfl rfl rfl)) h
theorem O_eq (h : Q (.bool (decide (a = b))) X) : W2 c Rep (.int a) (.int b) (compareOp .Eq) Q X := opI (fun S s t u R k => PySem.P.eq_int (by rw [show (a == b) = decide (a = b) from rfl]; exact k _ _ (.bool _) rfl rfl rfl rfl)) h
theorem O_ne (h : Q (.bool (!decide (a = b))) X) : W2 c Rep (.int a) (.int b) (compareOp .NotEq) Q X := opI (fun S s t u R k => PySem.P.ne_int (by rw [show (a != b) = !decide (a = b) from rfl]; exact k _ _ (.bool _) rfl rfl rfl rfl)) h
theorem op1I {f : Value → Sem Value} {V : AV} (h : ∀ (S : Sto) (s : Shared) t (R : Value → Shared → Prop), (∀ v s', Rep S v V → s'.heap = s.heap → s'.os = s.os → s'.gens = s.gens → s'.drawn = s.drawn → R v s') → wpAny (model c.P c.w) c.A (f (.int a t)) R c.E s) (hq : Q V X) : W1 c Rep (.int a) f Q X := by
  intro B S s v ok r₁ st
  obtain ⟨t, rfl⟩ := r₁.int_inv
  exact h S s t _ fun v s' r e1 e2 e3 e4 => ⟨S, V, X, .rfl, r, st.grow (by rw [e1]; exact .rfl) e2 e3 e4, hq⟩
theorem O_neg (h : Q (.int (-a)) X) : W1 c Rep (.int a) (unaryOp .USub) Q X := op1I (fun S s t R k => PySem.P.neg_int (k _ _ (.int _ _) rfl rfl rfl rfl)) h
theorem O_inv (h : Q (.int (Builtin.bitNot a)) X) : W1 c Rep (.int a) (unaryOp .Invert) Q X := op1I (fun S s t R k => PyProof.Rows.invert_int (k _ _ (.int _ _) rfl rfl rfl rfl)) h
theorem O_not {V : AV} (h : WTr c V (fun b X₁ => Q (.bool (!b)) X₁) X) : W1 c Rep V (unaryOp .Not) Q X :=
  fun B S s v ok r st => not_of (wpAny_mono (h B S s v ok r st) (fun b s₁ ⟨S₁, b', X₁, u₁, e, st₁, h₁⟩ => by cases e; exact ⟨S₁, _, X₁, u₁, .bool _, st₁, h₁⟩) fun _ _ e => e)
end
section
variable {c : Cx} {X : AX} {Q : Bool → AX → Prop}
theorem Tr_bool {b : Bool} (h : Q b X) : WTr c (.bool b) Q X := fun B S s v ok r st => by rw [r.bool_inv]; exact wpAny_truthy_bool ⟨S, b, X, .rfl, rfl, st, h⟩
theorem Tr_int {n : Int} (h : Q (!decide (n = 0)) X) : WTr c (.int n) Q X := fun B S s v ok r st => by
  obtain ⟨t, rfl⟩ := r.int_inv
  refine PySem.P.truthy_int ?_
  rw [show (n != 0) = !decide (n = 0) from rfl]
  exact ⟨S, _, X, .rfl, rfl, st, h⟩
theorem Reps.isEmpty {S : Sto} {vs : List Value} {xs : List AV} (r : Reps S vs xs) : vs.toArray.isEmpty = xs.isEmpty := by
  cases xs with
  | nil => rw [r.nil_inv]; rfl
  | cons V Vs => obtain ⟨v, t, rfl, _⟩ := r.cons_inv; rfl
theorem Tr_lst {xs : List AV} (hz : (xs.length : Int) < 2 ^ 63) (h : Q (!xs.isEmpty) X) : WTr c (.lst xs) Q X := fun B S s v ok r st => by
  obtain ⟨a, vs, n, rfl, h1, h2⟩ := r.lst_inv
  refine wpAny_truthy_list (items := vs.toArray) ⟨_, st.sto _ _ h1, rfl, n, rfl⟩ (by rw [List.size_toArray, h2.1]; exact hz) ?_
  rw [h2.isEmpty]
  exact ⟨S, _, X, .rfl, rfl, st.toks _, h⟩
theorem Tr_mlst {xs : List AV} {a : Addr} (hm : (a, MO.lst xs) ∈ X.σ) (hz : (xs.length : Int) < 2 ^ 63) (h : Q (!xs.isEmpty) X) : WTr c (.raw (.ref a)) Q X := fun B S s v ok r st => by
  rw [r.raw_inv]
  obtain ⟨vs, n, h1, h2⟩ := st.get hm
  refine wpAny_truthy_list (items := vs.toArray) ⟨_, h1, rfl, n, rfl⟩ (by rw [List.size_toArray, h2.1]; exact hz) ?_
  rw [h2.isEmpty]
  exact ⟨S, _, X, .rfl, rfl, st.toks _, h⟩
end
section
variable {c : Cx} {X : AX} {Q : AV → AX → Prop}
abbrev WAs (c : Cx) (pos : Pos) (es : List Expr) (Q : List AV → AX → Prop) (X : AX) : Prop := WT c Reps (spliced (backTo pos (starEach es c.env))) Q X
theorem A_nil {pos} {Q : List AV → AX → Prop} (h : Q [] X) : WAs c pos [] Q X := fun B S s ok st => spliced_none ⟨S, [], X, .rfl, .nil, st, h⟩
theorem A_cons {pos e es} {Q : List AV → AX → Prop} (h : WE c e (fun V X₁ => WAs c pos es (fun Vs X₂ => Q (V :: Vs) X₂) X₁) X) (he : starEach (e :: es) c.env = (false, eval e c.env) :: starEach es c.env := by rfl) : WAs c pos (e :: es) Q X :=
  fun B S s ok st => spliced_more (wpAny_mono (h B S s ok st) (fun v s₁ ⟨S₁, V, X₁, u₁, r, st₁, h₁⟩ => wpAny_mono (h₁ B S₁ s₁ ok st₁) (fun vs s₂ ⟨S₂, Vs, X₂, u₂, rs, st₂, h₂⟩ => ⟨S₂, V :: Vs, X₂, u₁.trans u₂, .cons (r.mono u₂) rs, st₂, h₂⟩) fun _ _ e => e) fun _ _ e => e) he
theorem St.newM {B : Bg} {S : Sto} {s : Shared} (st : St c B S X s) {o : Obj} {mo : MO} (hf : o.isFreed = false) (hm : ∀ h : Heap, h.get? s.heap.objs.size = some o → MRep S h s.heap.objs.size mo) (ha : mo.addrs s.heap.objs.size = [s.heap.objs.size]) : St c B S ⟨(s.heap.objs.size, mo) :: X.σ, X.m⟩ { s with heap := s.heap.push o } := by
  have b := st.bare (get?_lt_none (Nat.le_refl s.heap.objs.size))
  refine (st.grow (s' := { s with heap := s.heap.push o }) (Keeps.push _ _) rfl rfl rfl).addM (hm _ (Heap.get?_push_size _ hf)) (by rw [ha]; simp) fun x hx => ?_
  rw [ha] at hx
  rw [List.mem_singleton.mp hx]; exact b
theorem E_tup {es k pos} (h : WAs c pos es (fun Vs X₁ => Vs.length ≤ 1000 ∧ Q (.tup Vs) X₁) X) : WE c (.Tuple es k pos) Q X :=
  fun B S s ok st => Tuple_ (wpAny_mono (h B S s ok st) (fun vs s₁ ⟨S₁, Vs, X₁, u₁, r, st₁, hz, h₁⟩ => wpAny_newTuple ⟨_, .tup Vs, X₁, u₁.trans (Sto.put_le _ _ _), .tup' (n := 0) (Sto.put_self _ _ _) (r.mono (Sto.put_le _ _ _)), st₁.push _ rfl, h₁⟩ (by rw [sizeLine_eq, r.1]; lia)) fun _ _ e => e)
theorem E_listM {es pos} (h : WAs c pos es (fun Vs X₁ => Vs.length ≤ 1000 ∧ ∀ a, Q (.raw (.ref a)) ⟨(a, .lst Vs) :: X₁.σ, X₁.m⟩) X) : WE c (.List es pos) Q X :=
  fun B S s ok st => List_ (wpAny_mono (h B S s ok st) (fun vs s₁ ⟨S₁, Vs, X₁, u₁, r, st₁, hz, h₁⟩ => wpAny_newList ⟨S₁, _, _, u₁, .raw _, st₁.newM (mo := .lst Vs) rfl (fun h e => ⟨vs, 0, e, r⟩) rfl, h₁ _⟩ (by rw [sizeLine_eq, r.1]; lia)) fun _ _ e => e)
theorem E_sub {value slice pos} (h : WE c value (fun V X₁ => WE c slice (fun U X₂ => W2 c Rep V U (subscriptTail value slice) Q X₂) X₁) X) : WE c (.Subscript value slice pos) Q X :=
  fun B S s ok st => Subscript_ (wpAny_mono (h B S s ok st) (fun a s₁ ⟨S₁, V, X₁, u₁, ra, st₁, h₁⟩ => wpAny_mono (h₁ B S₁ s₁ ok st₁) (fun b s₂ ⟨S₂, W, X₂, u₂, rb, st₂, h₂⟩ => wpAny_mono (h₂ B S₂ s₂ a b ok (ra.mono u₂) rb st₂) (fun _ _ p => p.up (u₁.trans u₂)) fun _ _ e => e) fun _ _ e => e) fun _ _ e => e)
theorem Reps.at {S : Sto} {vs : List Value} {xs : List AV} (r : Reps S vs xs) {i : Nat} {V : AV} (h : xs[i]? = some V) : ∃ v, vs[i]? = some v ∧ Rep S v V := by
  have hl : i < vs.length := by rw [r.1]; exact (List.getElem?_eq_some_iff.mp h).1
  exact ⟨vs[i], List.getElem?_eq_getElem hl, r.2 i _ _ (List.getElem?_eq_getElem hl) h⟩
def atI (xs : List AV) (i : Int) : Option AV := if 0 ≤ i then xs[i.toNat]? else if -(xs.length : Int) ≤ i then xs[(i + xs.length).toNat]? else Option.none
theorem sub_any {A : Around} {E : Value → Shared → Prop} {S : Sto} {s : Shared} {a : Addr} {i : Int} {t : Tok} {vs : List Value} {n : Nat} {xs : List AV} {V : AV} {R : Value → Shared → Prop} {P : Program} {w : World} (hl : s.heap.get? a = some (seqObj "list" vs.toArray n)) (r : Reps S vs xs) (hz : xs.length < 2 ^ 62) (hx : atI xs i = some V) (h : ∀ v, Rep S v V → R v s) : wpAny (model P w) A (getItem (.ref a) (.int i t)) R E s := by
  have il : s.heap.IsList a vs.toArray := ⟨_, hl, rfl, n, rfl⟩
  unfold atI at hx
  split at hx
  · rename_i h0
    obtain ⟨v, hv, rv⟩ := r.at hx
    have := (List.getElem?_eq_some_iff.mp hx).1
    exact wpAny_getItem_list il h0 (by lia) (by simpa using hv) (h v rv)
  · split at hx
    · rename_i h0 h1
      obtain ⟨v, hv, rv⟩ := r.at hx
      exact wpAny_getItem_list_neg il (by lia) (by rw [List.size_toArray, r.1]; lia) (by lia) (by rw [List.size_toArray, r.1]; simpa using hv) (h v rv)
    · cases hx
theorem Su_lst {value slice : Expr} {xs : List AV} {i : Int} {V : AV} (hx : atI xs i = some V) (hz : xs.length < 2 ^ 62) (h : Q V X) (hs : ∀ o i, subscripted slice false o i = operate [o, i] (getItem o i) := by intro _ _; rfl) : W2 c Rep (.lst xs) (.int i) (subscriptTail value slice) Q X := by
  intro B S s v u ok r₁ r₂ st
  obtain ⟨a, vs, n, rfl, h1, h2⟩ := r₁.lst_inv
  obtain ⟨t, rfl⟩ := r₂.int_inv
  have il : s.heap.IsList a vs.toArray := ⟨_, st.sto _ _ h1, rfl, n, rfl⟩
  unfold subscriptTail getitemInPython
  refine wpAny_bind (wpAny_bind (wpAny_specialOf il.typeIs slot_list_getitem.lookup ?_))
  refine wpAny_pure ?_
  rw [hs]
  refine wpAny_bind (wpAny_operateT (sub_any (st.sto _ _ h1) h2 hz hx fun w rw' => wpAny_bind (wpAny_letTemporaryGo (wpAny_pure ⟨S, V, X, .rfl, rw', st, h⟩))))
theorem Su_mlst {value slice : Expr} {xs : List AV} {a : Addr} {i : Int} {V : AV} (hm : (a, MO.lst xs) ∈ X.σ) (hx : atI xs i = some V) (hz : xs.length < 2 ^ 62) (h : Q V X) (hs : ∀ o i, subscripted slice false o i = operate [o, i] (getItem o i) := by intro _ _; rfl) : W2 c Rep (.raw (.ref a)) (.int i) (subscriptTail value slice) Q X := by
  intro B S s v u ok r₁ r₂ st
  rw [r₁.raw_inv]
  obtain ⟨t, rfl⟩ := r₂.int_inv
  obtain ⟨vs, n, h1, h2⟩ := st.get hm
  have il : s.heap.IsList a vs.toArray := ⟨_, h1, rfl, n, rfl⟩
  unfold subscriptTail getitemInPython
  refine wpAny_bind (wpAny_bind (wpAny_specialOf il.typeIs slot_list_getitem.lookup ?_))
  refine wpAny_pure ?_
  rw [hs]
  refine wpAny_bind (wpAny_operateT (sub_any h1 h2 hz hx fun w rw' => wpAny_bind (wpAny_letTemporaryGo (wpAny_pure ⟨S, V, X, .rfl, rw', st, h⟩))))
end
theorem callWith_any {M : Model} {A : Around} {E : Value → Shared → Prop} {s : Shared} {pos : Pos} {f : Value} {first : List Value} {Q : Value → Shared → Prop} {P : Shared → Prop} {args : List (Bool × Sem Value)} {keywords : List (Option Str × Sem Value)}
    (hk : ∀ s', P s' → ∃ k, Looks M s'.heap (keeperOf f) k) (h : wpAny M A (evalArgs f true args keywords) (fun a s₁ => P s₁ ∧ wpAny M A (call f (first ++ a.pos) a.kw) Q E s₁) E s) : wpAny M A (callWith pos f first args keywords) Q E s := by
  unfold callWith
  refine wpAny_bind (wpAny_holding (wpAny_mono h (fun a s₁ h₁ => wpAny_bind (wpAny_standAt ?_)) fun _ _ x => x))
  obtain ⟨k, L⟩ := hk _ h₁.1
  refine wpAny_bind (L.here ?_)
  have tail : ∀ {t : Sem Value}, wpAny M A t Q E s₁ → wpAny M A (t >>= fun r => holding [r] point >>= fun _ => pure r) Q E s₁ :=
    fun ht => wpAny_bind (wpAny_mono ht (fun r s₂ hr => wpAny_bind (wpAny_holding (wpAny_point (wpAny_pure hr)))) fun _ _ x => x)
  have marked (mk : Value) : wpAny M A (callMarked mk f (first ++ a.pos) a.kw) Q E s₁ := by unfold callMarked; exact Calls.wpAny_keep h₁.2
  have oper (vs : List Value) : wpAny M A (operate vs (call f (first ++ a.pos) a.kw)) Q E s₁ := wpAny_operateT h₁.2
  dsimp only
  generalize ((args.any fun x => x.fst) || keywords.any fun x => x.fst.isNone) = st
  cases k <;> cases st <;> dsimp only <;> first | exact tail h₁.2 | exact tail (marked _) | exact tail (oper _) | (split <;> first | exact tail h₁.2 | exact tail (marked _))
theorem evalArgs_nilB {M : Model} {A : Around} {E : Value → Shared → Prop} {s : Shared} {f : Value} {keywords : List (Option Str × Sem Value)} {Q : Args → Shared → Prop} (hall : keywords.all (·.1.isSome) = true)
    (h : wpAny M A (spliced []) (fun vs s₁ => wpAny M A (evalAll (keywords.map (·.2))) (fun ks s₂ => Q ⟨vs, (keywords.filterMap (·.1)).zip ks⟩ s₂) E s₁) E s) : wpAny M A (evalArgs f true [] keywords) Q E s := by
  unfold evalArgs
  show wpAny M A (spliced [] >>= _) Q E s
  refine wpAny_bind (wpAny_mono h (fun vs s₁ h₁ => ?_) fun _ _ x => x)
  refine wpAny_bind (wpAny_pure ?_)
  refine wpAny_holding ?_
  simp only [hall, if_true]
  refine wpAny_bind (wpAny_mono h₁ (fun ks s₂ h₂ => ?_) fun _ _ x => x)
  exact wpAny_bind (wpAny_pure (wpAny_pure h₂))
section
variable {c : Cx} {X : AX} {Q : AV → AX → Prop}
abbrev WKs (c : Cx) (pos : Pos) (kws : List Keyword) (Q : List AV → AX → Prop) (X : AX) : Prop := WT c Reps (evalAll ((backToKw pos (keywordEach kws c.env)).map (·.2))) Q X
theorem K_nil {pos} {Q : List AV → AX → Prop} (h : Q [] X) : WKs c pos [] Q X := fun B S s ok st => kwAll_nil ⟨S, [], X, .rfl, .nil, st, h⟩
theorem K_cons {pos name value kp rest} {Q : List AV → AX → Prop} (h : WE c value (fun V X₁ => WKs c pos rest (fun Vs X₂ => Q (V :: Vs) X₂) X₁) X) : WKs c pos (⟨some name, value, kp⟩ :: rest) Q X :=
  fun B S s ok st => PyProof.Rows.kws_cons (wpAny_mono (h B S s ok st) (fun v s₁ ⟨S₁, V, X₁, u₁, r, st₁, h₁⟩ => wpAny_mono (h₁ B S₁ s₁ ok st₁) (fun vs s₂ ⟨S₂, Vs, X₂, u₂, rs, st₂, h₂⟩ => ⟨S₂, V :: Vs, X₂, u₁.trans u₂, .cons (r.mono u₂) rs, st₂, h₂⟩) fun _ _ e => e) fun _ _ e => e)
def WC (c : Cx) (f : Value) (Vs : List AV) (kws : List (Str × AV)) (Q : AV → AX → Prop) (X : AX) : Prop :=
  ∀ B S s vs kw, c.Ok → Reps S vs Vs → RepK S kw kws → St c B S X s → wpAny (model c.P c.w) c.A (call f vs kw) (Post c B S Rep Q) c.E s
theorem WC.of {f : Value} {Vs : List AV} {kws : List (Str × AV)} (h : WF c f Vs kws Q X) : WC c f Vs kws Q X := fun B S s vs kw ok r rk st => wpAny_call (codeAny_mono (h B S s vs kw ok r rk st) fun r s' z => by
  replace z := z.1
  rcases r with e | (v | _ | _ | _) <;> first | exact z | exact z.elim)
theorem RepK.zip {S : Sto} : ∀ {names : List Str} {vs : List Value} {Vs : List AV}, Reps S vs Vs → RepK S (names.zip vs) (names.zip Vs)
  | [], _, _, _ => ⟨rfl, .nil⟩
  | x :: r, [], Vs, h => by
    have : Vs = [] := List.eq_nil_of_length_eq_zero (by have := h.1; simpa using this.symm)
    subst this; exact ⟨rfl, .nil⟩
  | x :: r, v :: vs, [], h => by have := h.1; simp at this
  | x :: r, v :: vs, V :: Vs, h => by
    have h2 := Reps.uncons h
    have ih := RepK.zip (names := r) h2.2
    exact ⟨by simp only [List.zip_cons_cons, List.map_cons]; rw [ih.1], .cons h2.1 ih.2⟩
theorem RepK.nil {S : Sto} : RepK S [] [] := ⟨rfl, .nil⟩
theorem run_call_ {B : Bg} {S : Sto} {s : Shared} {pos : Pos} {f : Value} {first : List Value} {args : List Expr} {kws : List Keyword} (Fin : List AV → List (Str × AV) → AX → Prop) (ok : c.Ok) (st : St c B S X s)
    (hk : ∀ h, c.K.In h → (∀ b o, S b o → h.get? b = some o) → ∃ k, Looks (model c.P c.w) h (keeperOf f) k)
    (hfin : ∀ S₂ s₂ X₂ vs Us kw Ks, S.Le S₂ → Reps S₂ vs Us → RepK S₂ kw Ks → St c B S₂ X₂ s₂ → Fin Us Ks X₂ → wpAny (model c.P c.w) c.A (call f (first ++ vs) kw) (Post c B S₂ Rep Q) c.E s₂)
    (h : WAs c pos args (fun Us X₁ => WKs c pos kws (fun Ks X₂ => Fin Us (((backToKw pos (keywordEach kws c.env)).filterMap (·.1)).zip Ks) X₂) X₁) X)
    (he : ∀ e r, args = e :: r → starEach args c.env = (false, eval e c.env) :: starEach r c.env) (hall : (backToKw pos (keywordEach kws c.env)).all (·.1.isSome) = true) :
    wpAny (model c.P c.w) c.A (callWith pos f first (backTo pos (starEach args c.env)) (backToKw pos (keywordEach kws c.env))) (Post c B S Rep Q) c.E s := by
  refine callWith_any (P := fun s' => c.K.In s'.heap ∧ ∀ b o, S b o → s'.heap.get? b = some o) (fun s' z => hk _ z.1 z.2) ?_
  have fin : ∀ vs s₁, Post c B S Reps (fun Us X₁ => WKs c pos kws (fun Ks X₂ => Fin Us (((backToKw pos (keywordEach kws c.env)).filterMap (·.1)).zip Ks) X₂) X₁) vs s₁ → wpAny (model c.P c.w) c.A (evalAll ((backToKw pos (keywordEach kws c.env)).map (·.2))) (fun ks s₂ => (c.K.In s₂.heap ∧ ∀ b o, S b o → s₂.heap.get? b = some o) ∧ wpAny (model c.P c.w) c.A (call f (first ++ vs) (((backToKw pos (keywordEach kws c.env)).filterMap (·.1)).zip ks)) (Post c B S Rep Q) c.E s₂) c.E s₁ := by
    rintro vs s₁ ⟨S₁, Us, X₁, u₁, r₁, st₁, h₁⟩
    refine wpAny_mono (h₁ B S₁ s₁ ok st₁) (fun ks s₂ ⟨S₂, Ks, X₂, u₂, r₂, st₂, h₂⟩ => ⟨⟨ok.X.keeps st₂.gr, fun b o e => st₂.sto b o (u₂ _ _ (u₁ _ _ e))⟩, ?_⟩) fun _ _ e => e
    exact wpAny_mono (hfin S₂ s₂ X₂ _ _ _ _ (u₁.trans u₂) (r₁.mono u₂) (.zip r₂) st₂ h₂) (fun _ _ p => p.up (u₁.trans u₂)) fun _ _ e => e
  cases args with
  | nil => exact evalArgs_nilB hall (wpAny_mono (h B S s ok st) (fun vs s₁ p => fin vs s₁ p) fun _ _ e => e)
  | cons e r => exact evalArgs_kw2 hall (wpAny_mono (h B S s ok st) (fun vs s₁ p => fin vs s₁ p) fun _ _ e => e) (he e r rfl)
theorem run_call {B : Bg} {S : Sto} {s : Shared} {pos : Pos} {f : Value} {first : List Value} {Fs : List AV} {args : List Expr} {kws : List Keyword} (ok : c.Ok) (st : St c B S X s) (rf : Reps S first Fs)
    (hk : ∀ h, c.K.In h → (∀ b o, S b o → h.get? b = some o) → ∃ k, Looks (model c.P c.w) h (keeperOf f) k)
    (h : WAs c pos args (fun Us X₁ => WKs c pos kws (fun Ks X₂ => WC c f (Fs ++ Us) (((backToKw pos (keywordEach kws c.env)).filterMap (·.1)).zip Ks) Q X₂) X₁) X)
    (he : ∀ e r, args = e :: r → starEach args c.env = (false, eval e c.env) :: starEach r c.env) (hall : (backToKw pos (keywordEach kws c.env)).all (·.1.isSome) = true) :
    wpAny (model c.P c.w) c.A (callWith pos f first (backTo pos (starEach args c.env)) (backToKw pos (keywordEach kws c.env))) (Post c B S Rep Q) c.E s :=
  run_call_ (fun Us Ks X₂ => WC c f (Fs ++ Us) Ks Q X₂) ok st hk (fun S₂ s₂ X₂ vs Us kw Ks u r rk st₂ z => z B S₂ s₂ _ _ ok ((rf.mono u).append r) rk st₂) h he hall
end
def kv (ks : List Str) (vs : List AV) (x : Str) : Option AV := (ks.zip vs).lookup x
theorem Ents.cons_inv {S : Sto} {es : List DictEntry} {k : Str} {ks : List Str} {V : AV} {vs : List AV} (h : Ents S es (k :: ks) (V :: vs)) : ∃ e r t, es = e :: r ∧ e.key = .str k t ∧ Rep S e.val V ∧ Ents S r ks vs := by
  obtain ⟨a, b, c, d⟩ := h
  cases es with
  | nil => simp at a
  | cons e r =>
    obtain ⟨t, ht⟩ := c 0 e k rfl rfl
    exact ⟨e, r, t, rfl, ht, d 0 e V rfl rfl, by simpa using a, by simpa using b, fun i e' k' p q => c (i + 1) e' k' (by simpa using p) (by simpa using q), fun i e' k' p q => d (i + 1) e' k' (by simpa using p) (by simpa using q)⟩
theorem Ents.nil_inv {S : Sto} {es : List DictEntry} {vs : List AV} (h : Ents S es [] vs) : es = [] ∧ vs = [] := by
  have := h.lk; have h2 := h.lv
  cases es with
  | nil => exact ⟨rfl, List.eq_nil_of_length_eq_zero (by simpa using h2.symm)⟩
  | cons _ _ => simp at this
theorem getL_cons (x : Str) (e : DictEntry) (r : List DictEntry) (k : Str) (t : Tok) (hk : e.key = .str k t) : getL x (e :: r) = if k = x then some (some e.val) else getL x r := by
  unfold getL
  rw [List.find?_cons, List.any_cons]
  have h1 : e.key.isStr x = (k == x) := by rw [hk]; rfl
  have h2 : e.refKey = false := by simp [DictEntry.refKey, hk]
  rw [h1, h2]
  by_cases q : k = x
  · subst q; simp
  · rw [beq_eq_false_iff_ne.mpr q]; simp [q]
theorem Ents.get {S : Sto} {x : Str} {V : AV} : ∀ {ks : List Str} {vs : List AV} {es : List DictEntry}, Ents S es ks vs → kv ks vs x = some V → ∃ v, getL x es = some (some v) ∧ Rep S v V
  | [], _, _, h, e => by cases e
  | k :: ks, [], _, h, e => by cases e
  | k :: ks, U :: vs, _, h, e => by
    obtain ⟨en, r, t, rfl, h1, h2, h3⟩ := h.cons_inv
    rw [getL_cons x en r k t h1]
    unfold kv at e
    rw [List.zip_cons_cons, List.lookup_cons] at e
    by_cases q : x = k
    · subst q
      rw [beq_self_eq_true] at e; cases e
      rw [if_pos rfl]; exact ⟨_, rfl, h2⟩
    · rw [beq_eq_false_iff_ne.mpr q] at e
      rw [if_neg (Ne.symm q)]
      exact Ents.get h3 e
theorem Ents.miss {S : Sto} {x : Str} : ∀ {ks : List Str} {vs : List AV} {es : List DictEntry}, Ents S es ks vs → x ∉ ks → getL x es = some none
  | [], _, es, h, _ => by obtain ⟨rfl, _⟩ := h.nil_inv; rfl
  | k :: ks, [], es, h, _ => by have a := h.lk; have b := h.lv; rw [a] at b; simp at b
  | k :: ks, U :: vs, _, h, e => by
    obtain ⟨en, r, t, rfl, h1, h2, h3⟩ := h.cons_inv
    rw [getL_cons x en r k t h1, if_neg (fun q => e (by rw [q]; exact .head _))]
    exact Ents.miss h3 fun q => e (.tail _ q)
def IsInst (X : AX) (V : AV) (C : Addr) (ks : List Str) (vs : List AV) : Prop := V = .inst C ks vs ∨ ∃ a d, V = .raw (.ref a) ∧ (a, MO.inst C d ks vs) ∈ X.σ
inductive IsAt (S : Sto) (v : Value) (C : Addr) (ks : List Str) (vs : List AV) (s : Shared) : Prop
  | mk (a d : Addr) (es : List DictEntry) (ep : Nat) (e : v = .ref a) (h : W.InstAt s.heap a (instObj C d) C (some (dictOf es ep))) (en : Ents S es ks vs)
section
variable {c : Cx} {X : AX} {Q : AV → AX → Prop} {B : Bg} {S : Sto} {s : Shared} {V : AV} {v : Value} {C : Addr} {ks : List Str} {vs : List AV}
theorem IsInst.at (h : IsInst X V C ks vs) (st : St c B S X s) (r : Rep S v V) : IsAt S v C ks vs s := by
  rcases h with rfl | ⟨a, d, rfl, hm⟩
  · obtain ⟨a, d, es, ep, rfl, h1, h2, h3⟩ := r.inst_inv
    exact ⟨a, d, es, ep, rfl, ⟨st.sto _ _ h1, rfl, rfl, st.sto _ _ h2⟩, h3⟩
  · rw [r.raw_inv]
    obtain ⟨h1, es, ep, h2, h3⟩ := st.get hm
    exact ⟨a, d, es, ep, rfl, ⟨h1, rfl, rfl, h2⟩, h3⟩
def AV.handed : AV → Bool
  | .raw v => handedIn v
  | .ext _ => false
  | _ => true
theorem Rep.handed (r : Rep S v V) (h : V.handed = true) : handedIn v = true := by cases r <;> first | rfl | exact h | (cases h)
theorem E_attr {value attr pos} (h : WE c value (fun V X₁ => W1 c Rep V (fun o => getAttr o attr true) Q X₁) X)
    (he : eval (.Attribute value attr pos) c.env = (do let o ← eval value c.env; standAt pos.atName; let r ← holding [o] (getAttr o attr true); letTemporaryGo value o r; pure r) := by with_unfolding_all rfl) : WE c (.Attribute value attr pos) Q X :=
  fun B S s ok st => Attribute_any_ (wpAny_mono (h B S s ok st) (fun a s₁ ⟨S₁, V, X₁, u₁, ra, st₁, h₁⟩ => wpAny_mono (h₁ B S₁ s₁ a ok ra st₁) (fun _ _ p => p.up u₁) fun _ _ e => e) fun _ _ e => e) he
theorem G_own {attr : Str} {U : AV} {ca : Option Value} (hi : IsInst X V C ks vs) (hg : plainGet c.K C attr = true) (hh : hasDictIn c.K C = true) (ha : findIn c.K (.ref C) attr = some ca) (hn : noGet c.K ca = true) (hv : kv ks vs attr = some U) (hu : U.handed = true) (h : Q U X) : W1 c Rep V (fun o => getAttr o attr true) Q X := by
  intro B S s v ok r st
  obtain ⟨a, d, es, ep, rfl, I, en⟩ := hi.at st r
  obtain ⟨u, hu1, hu2⟩ := en.get hv
  exact get_value (ok.X.keeps st.gr) I (plainGet_of hg).1 (findObj_own hh ha hn hu1) (hu2.handed hu) ⟨S, U, X, .rfl, hu2, st.toks _, h⟩
theorem G_class (hi : IsInst X V C ks vs) (hg : plainGet c.K C "__class__" = true) (hh : hasDictIn c.K C = true)
    (ha : findIn c.K (.ref C) "__class__" = some (some (.builtin "object.__class__"))) (hn : specialIn c.K (.builtin "object.__class__") "__get__" = some (some (.builtin "getset_descriptor.__get__"))) (ht : takesIn c.K (.builtin "object.__class__") = some true)
    (hm : mroIn c.K C (.type "object") = some true) (h : Q (.raw (.ref C)) X) : W1 c Rep V (fun o => getAttr o "__class__" true) Q X := by
  intro B S s v ok r st
  obtain ⟨a, d, es, ep, rfl, I, en⟩ := hi.at st r
  have X0 := ok.X.keeps st.gr
  refine get_bind X0 I (plainGet_of hg).1 (findObj_data (by obtain ⟨cd, hc, _⟩ := any_some hh; rw [hc]; rfl) ha hn ht) (plainGet_of hg).2 (wpAny_call (class_get (s := { s with toks := s.toks + 1 }) X0 I hm ?_))
  exact handed_on rfl ⟨S, _, X, .rfl, .raw _, st.toks _, h⟩
theorem G_clsval {attr : Str} {mc a : Value} {U : AV} (hr : readsIn c.K C mc = true) (e : findCls c.K (.ref C) mc attr = some (.val a)) (hh : handedIn a = true) (hU : ∀ S, Rep S a U) (h : Q U X) : W1 c Rep (.raw (.ref C)) (fun o => getAttr o attr true) Q X := by
  intro B S s v ok r st
  rw [r.raw_inv]
  exact cls_value (ok.X.keeps st.gr) hr e hh ⟨S, U, X, .rfl, hU S, st.toks _, h⟩
abbrev WM (c : Cx) (name : Str) (pl : Sem Bool) (pos : Pos) (args : List Expr) (kws : List Keyword) (V : AV) (Q : AV → AX → Prop) (X : AX) : Prop := W1 c Rep V (fun ov => getMethod ov name pl >>= fun fx => callWith pos fx.1 fx.2 (backTo pos (starEach args c.env)) (backToKw pos (keywordEach kws c.env))) Q X
theorem E_meth {o : Expr} {name : Str} {apos pos : Pos} {args : List Expr} {kws : List Keyword} {pl : Sem Bool} (h : WE c o (fun V X₁ => WM c name pl pos args kws V Q X₁) X)
    (he : eval (.Call (.Attribute o name apos) args kws pos) c.env = (do
      let ov ← eval o c.env
      standAt apos.atName
      let (f, first) ← holding [ov] (getMethod ov name pl)
      callWith pos f first (backTo pos (starEach args c.env)) (backToKw pos (keywordEach kws c.env))) := by rfl) : WE c (.Call (.Attribute o name apos) args kws pos) Q X := by
  intro B S s ok st
  rw [he]
  refine wpAny_bind (wpAny_mono (h B S s ok st) (fun a s₁ ⟨S₁, V, X₁, u₁, ra, st₁, h₁⟩ => wpAny_bind (wpAny_standAt ?_)) fun _ _ e => e)
  have := h₁ B S₁ s₁ a ok ra st₁
  refine (fun Γ p hΓ => ?_ : wpAny (model c.P c.w) c.A _ _ c.E s₁)
  have z := this Γ p hΓ
  rw [Sem.wp_bind'] at z ⊢
  rw [Sem.wp_holding]
  exact Sem.wp_mono _ Γ _ (fun fx p' s' q => Sem.wp_mono _ Γ _ (fun _ _ _ p => p.up u₁) (fun _ _ _ e => e) _ _ q) (fun _ _ _ e => e) _ _ z
def WArgs (c : Cx) (pos : Pos) (args : List Expr) (kws : List Keyword) (Q : List AV → List (Str × AV) → AX → Prop) (X : AX) : Prop :=
  WAs c pos args (fun Us X₁ => WKs c pos kws (fun Ks X₂ => Q Us (((backToKw pos (keywordEach kws c.env)).filterMap (·.1)).zip Ks) X₂) X₁) X
theorem Args_plain {pos args} {Q : List AV → List (Str × AV) → AX → Prop} (h : WAs c pos args (fun Us X₁ => Q Us [] X₁) X) : WArgs c pos args [] Q X := WT.imp h fun Us X₁ q => K_nil q
theorem keeper_fn {f : Addr} (hf : fnIn c.K f = true) : ∀ h, c.K.In h → ∃ k, Looks (model c.P c.w) h (keeperOf (.ref f)) k := fun h X0 => by
  unfold fnIn at hf
  split at hf
  · rename_i q; exact ⟨.frame, (Looks.ld (part := none) (X0 _ _ q)).andThen .now⟩
  · cases hf
theorem keeper_keep {f : Value} (hf : keepIn c.K f = true) : ∀ h, c.K.In h → ∃ k, Looks (model c.P c.w) h (keeperOf f) k := fun h X0 => let ⟨k, _, L⟩ := keeps_K hf h X0; ⟨k, L⟩
theorem keeper_builtin {id : String} : ∀ h, c.K.In h → ∃ k, Looks (model c.P c.w) h (keeperOf (.builtin id)) k := fun h X0 => ⟨.machine, .now⟩
theorem keeper_type {T : String} : ∀ h, c.K.In h → ∃ k, Looks (model c.P c.w) h (keeperOf (.type T)) k := fun h X0 => ⟨.machine, .now⟩
theorem M_fn {name : Str} {pl pos args kws} {f : Addr} (hi : IsInst X V C ks vs) (hg : plainGet c.K C name = true) (hf : findIn c.K (.ref C) name = some (some (.ref f))) (ht : isFn c.K (.ref f) = true) (hfn : fnIn c.K f = true) (hk : name ∉ ks)
    (h : WArgs c pos args kws (fun Us Ks X₁ => WC c (.ref f) (V :: Us) Ks Q X₁) X) (he : ∀ e r, args = e :: r → starEach args c.env = (false, eval e c.env) :: starEach r c.env := by intro _ _ h; first | (cases h; rfl) | cases h) (hall : (backToKw pos (keywordEach kws c.env)).all (·.1.isSome) = true := by rfl) : WM c name pl pos args kws V Q X := by
  intro B S s v ok r st
  obtain ⟨a, d, es, ep, rfl, I, en⟩ := hi.at st r
  refine wpAny_bind (method_fn (ok.X.keeps st.gr) I (plainGet_of hg).1 (plainGet_of hg).2 hf (beq_iff_eq.mp ht) (by show (lookIn name (dictOf es ep)).map _ = _; rw [lookIn_dict, en.miss hk]; rfl) ?_)
  exact run_call (Fs := [V]) ok st (.cons r .nil) (fun h X0 _ => keeper_fn hfn h X0) h he hall
theorem M_cm {name : Str} {pl pos args kws} {mc : Value} {p f : Addr} {rest : List Value} (hs : specialIn c.K (.ref C) "__getattribute__" = some (some (.builtin "type.__getattribute__"))) (hr : readsIn c.K C mc = true) (e : findCls c.K (.ref C) mc name = some (.get (.builtin "classmethod.__get__") (.ref p) .none (.ref C)))
    (hp : recIn c.K p "classmethod" = some (.ref f :: rest)) (hfn : fnIn c.K f = true) (h : WArgs c pos args kws (fun Us Ks X₁ => WF c (.ref f) (.raw (.ref C) :: Us) Ks Q X₁) X) (he : ∀ e r, args = e :: r → starEach args c.env = (false, eval e c.env) :: starEach r c.env := by intro _ _ h; first | (cases h; rfl) | cases h) (hall : (backToKw pos (keywordEach kws c.env)).all (·.1.isSome) = true := by rfl) : WM c name pl pos args kws (.raw (.ref C)) Q X := by
  intro B S s v ok r st
  rw [r.raw_inv]
  have X0 := ok.X.keeps st.gr
  refine wpAny_bind (method_cls X0 hs (cls_bind X0 hr e (wpAny_call (cm_get (s := { s with toks := s.toks + 1 }) X0 hp (handed_on rfl ?_)))))
  have st1 := (st.toks (s.toks + 1)).push (methodObj (.ref f) (.ref C)) rfl
  refine wpAny_mono (run_call_ (S := S.put s.heap.objs.size (methodObj (.ref f) (.ref C))) (fun Us Ks X₁ => WF c (.ref f) (.raw (.ref C) :: Us) Ks Q X₁) ok st1 (fun h X0 k => ?_) (fun S₂ s₂ X₂ vs Us kw Ks u r rk st₂ z => ?_) (Q := Q) h he hall) (fun _ _ p => p.up (Sto.put_le _ _ _)) fun _ _ e => e
  · have := k _ _ (Sto.put_self S s.heap.objs.size (methodObj (.ref f) (.ref C)))
    unfold fnIn at hfn
    split at hfn
    · rename_i q
      exact ⟨_, (Looks.ld (part := none) this).andThen ((Looks.ld (part := none) (X0 _ _ q)).andThen .now)⟩
    · cases hfn
  · refine wpAny_call (method_call (st₂.sto _ _ (u _ _ (Sto.put_self S s.heap.objs.size (methodObj (.ref f) (.ref C))))) (codeAny_mono (z B S₂ s₂ _ _ ok (.cons (.raw _) r) rk st₂) fun r s' z => ?_))
    replace z := z.1
    rcases r with e | (v | _ | _ | _) <;> first | exact z | exact z.elim
theorem E_call {func : Expr} {args : List Expr} {kws : List Keyword} {pos : Pos} (h : WE c func (fun F X₁ => W1 c Rep F (fun f => callWith pos f [] (backTo pos (starEach args c.env)) (backToKw pos (keywordEach kws c.env))) Q X₁) X)
    (he : eval (.Call func args kws pos) c.env = (do callWith pos (← eval func c.env) [] (backTo pos (starEach args c.env)) (backToKw pos (keywordEach kws c.env))) := by rfl) : WE c (.Call func args kws pos) Q X := by
  intro B S s ok st
  rw [he]
  exact wpAny_bind (wpAny_mono (h B S s ok st) (fun a s₁ ⟨S₁, V, X₁, u₁, ra, st₁, h₁⟩ => wpAny_mono (h₁ B S₁ s₁ a ok ra st₁) (fun _ _ p => p.up u₁) fun _ _ e => e) fun _ _ e => e)
theorem C_raw {f : Value} {args : List Expr} {kws : List Keyword} {pos : Pos} (hk : ∀ h, c.K.In h → ∃ k, Looks (model c.P c.w) h (keeperOf f) k) (h : WArgs c pos args kws (fun Us Ks X₁ => WC c f Us Ks Q X₁) X) (he : ∀ e r, args = e :: r → starEach args c.env = (false, eval e c.env) :: starEach r c.env := by intro _ _ h; first | (cases h; rfl) | cases h) (hall : (backToKw pos (keywordEach kws c.env)).all (·.1.isSome) = true := by rfl) :
    W1 c Rep (.raw f) (fun f => callWith pos f [] (backTo pos (starEach args c.env)) (backToKw pos (keywordEach kws c.env))) Q X := by
  intro B S s v ok r st
  rw [r.raw_inv]
  exact run_call (Fs := []) ok st .nil (fun h X0 _ => hk h X0) h he hall
end
def Bg.pins (B : Bg) (l : List (Addr × Obj)) : Bg := { B with base := fun b p => B.base b p ∨ (b, p) ∈ l, prot := fun b => B.prot b ∨ b ∈ l.map (·.1) }
section
variable {c : Cx} {B : Bg} {S : Sto} {X : AX} {s : Shared}
theorem St.pins (st : St c B S X s) {l : List (Addr × Obj)} (h : ∀ p ∈ l, s.heap.get? p.1 = some p.2 ∧ Bare c B S X p.1) : St c (B.pins l) S X s where
  loc := st.loc.imp id fun ⟨a, o, e⟩ => ⟨a, o, .inl e⟩
  gr := st.gr
  base x p e := e.elim (st.base x p) fun q => (h _ q).1
  sto := st.sto
  cel := fun x a e => let ⟨h1, h2, h3⟩ := st.cel x a e; ⟨h1, h2.imp id fun ⟨p, q⟩ => ⟨p, .inl q⟩, h3⟩
  fr := by
    obtain ⟨mc, n, f⟩ := st.fr
    exact ⟨mc, n, fun x V e => let ⟨v, r, y⟩ := f x V e; ⟨v, r, y.bg fun _ _ => .inl⟩⟩
  mu := st.mu
  nd := st.nd
  sep x hx := by
    obtain ⟨h1, h2, h3⟩ := st.sep x hx
    refine ⟨h1, fun p e => e.elim (h2 p) fun q => ?_, h3⟩
    exact hx.elim (h _ q).2.own (h _ q).2.adr
  dis := st.dis
  dom := st.dom
  prot x p e q := q.elim (st.prot x p e) fun z => by
    obtain ⟨y, hy, rfl⟩ := List.mem_map.mp z
    exact (h _ hy).2.sto p e
  pin x q := q.elim (fun z => let ⟨p, e⟩ := st.pin x z; ⟨p, .inl e⟩) fun z => by
    obtain ⟨y, hy, rfl⟩ := List.mem_map.mp z
    exact ⟨y.2, .inr hy⟩
  os := st.os
  gens := st.gens
  drawn := st.drawn
theorem St.unpins {l : List (Addr × Obj)} {S' : Sto} {X' : AX} {s' : Shared} (st : St c B S X s) (h : ∀ p ∈ l, Bare c B S X p.1) (st' : St c (B.pins l) S' X' s') :
    St c B S' X' s' ∧ ∀ p ∈ l, s'.heap.get? p.1 = some p.2 ∧ Bare c B S' X' p.1 := by
  have hk : ∀ x k, c.env.cells.lookup x = some k → ∀ p ∈ l, k ≠ p.1 := fun x k e p hp q => by
    obtain ⟨_, h2, _⟩ := st.cel x k e
    rcases h2 with h2 | ⟨o, h2⟩
    · exact (h p hp).own (q ▸ h2)
    · exact (h p hp).base o (q ▸ h2)
  refine ⟨⟨st.loc, st'.gr, fun x p e => st'.base x p (.inl e), st'.sto, fun x k e => ?_, ?_, st'.mu, st'.nd, fun x hx => ?_, st'.dis, st'.dom, fun x p e q => st'.prot x p e (.inl q), st.pin, st'.os, st'.gens, st'.drawn⟩, fun p hp => ⟨st'.base _ _ (.inr hp), (h p hp).g, (h p hp).base, fun o e => st'.prot _ o e (.inr (List.mem_map_of_mem hp)), fun q => ?_, fun q => ?_, (h p hp).prot⟩⟩
  · obtain ⟨h1, h2, h3⟩ := st'.cel x k e
    refine ⟨h1, h2.imp id fun ⟨o, q⟩ => q.elim (fun z => ⟨o, z⟩) fun z => absurd rfl (hk x k e _ z), h3⟩
  · obtain ⟨mc, n, f⟩ := st'.fr
    refine ⟨mc, n, fun x V e => let ⟨v, r, y⟩ := f x V e; ⟨v, r, ?_⟩⟩
    rcases y with y | ⟨z, q, p, e1, e2, e3, e4, e5⟩
    · exact .inl y
    · exact .inr ⟨z, q, p, e1, e2, e3, e4.imp id fun w => w.elim id fun w => absurd rfl (hk x q e1 _ w), e5⟩
  · obtain ⟨h1, h2, h3⟩ := st'.sep x hx
    exact ⟨h1, fun p e => h2 p (.inl e), h3⟩
  · exact (st'.sep p.1 (.inl q)).2.1 p.2 (.inr hp)
  · exact (st'.sep p.1 (.inr q)).2.1 p.2 (.inr hp)
end
structure Itr (c : Cx) (target : Expr) (it : Value) (fp : List Addr) (J : List AV → Sto → Heap → Prop) (E : Sto → Heap → Prop) : Prop where
  dom : ∀ xs S h, J xs S h → ∀ a ∈ fp, ∃ o, h.get? a = some o
  keep : ∀ xs S S' h h', J xs S h → S.Le S' → (∀ a ∈ fp, ∀ o, h.get? a = some o → h'.get? a = some o) → J xs S' h'
  done : ∀ xs S h, J xs S h → E S h
  self : ∀ B S X s xs (R : Value → Shared → Prop) (F : Value → Shared → Prop), St c B S X s → J xs S s.heap → R it s → wpAny (model c.P c.w) c.A (pyIter it) R F s
  next : ∀ B S X s x xs, c.Ok → St c B S X s → (∀ a ∈ fp, Bare c B S X a) → J (x :: xs) S s.heap → wpAny (model c.P c.w) c.A (pyNext it) (fun r s' => ∃ v, r = some v ∧
    wpAny (model c.P c.w) c.A (letOwnedTupleGo target it v) (fun _ s' => ∃ S', S.Le S' ∧ Rep S' v x ∧ St c B S' X s' ∧ (∀ a ∈ fp, Bare c B S' X a) ∧ J xs S' s'.heap) (fun _ _ => False) s') (fun _ _ => False) s
  stop : ∀ B S X s, c.Ok → St c B S X s → (∀ a ∈ fp, Bare c B S X a) → J [] S s.heap → wpAny (model c.P c.w) c.A (pyNext it) (fun r s' => r = none ∧ St c B S X s' ∧ E S s'.heap) (fun _ _ => False) s
inductive WIp (c : Cx) (target : Expr) (B : Bg) (S : Sto) (Q : List AV → (AX → AX) → AX → Prop) (it : Value) (s' : Shared) : Prop
  | mk (S' : Sto) (X' : AX) (fp : List Addr) (J : List AV → Sto → Heap → Prop) (E : Sto → Heap → Prop) (xs : List AV) (bk : AX → AX) (le : S.Le S') (st : St c B S' X' s') (itr : ∀ c' : Cx, c'.P = c.P → c'.w = c.w → Itr c' target it fp J E) (bare : ∀ a ∈ fp, Bare c B S' X' a) (hJ : J xs S' s'.heap)
      (back : ∀ (c' : Cx) B S X s, St c' B S X s → (∀ a ∈ fp, Bare c' B S X a) → E S s.heap → St c' B S (bk X) s) (q : Q xs bk X')
def WI (c : Cx) (target : Expr) (V : AV) (Q : List AV → (AX → AX) → AX → Prop) (X : AX) : Prop :=
  ∀ B S s v, c.Ok → Rep S v V → St c B S X s → wpAny (model c.P c.w) c.A (pyIter v) (fun it s' => WIp c target B S Q it s') (fun _ _ => False) s
abbrev WA (c : Cx) (t : Expr) (V : AV) (Q : AX → Prop) (X : AX) : Prop := W1 c (Same (α := Unit)) V (assign t c.env) (fun _ => Q) X
def Conv (c : Cx) (X Y : AX) : Prop := ∀ B S s, St c B S X s → ∃ S', S.Le S' ∧ (∀ a o, S' a o → S a o ∨ (s.heap.get? a = some o ∧ a ∈ AX.adr X.σ)) ∧ St c B S' Y s
theorem Conv.rfl {c : Cx} {X : AX} : Conv c X X := fun B S s st => ⟨S, .rfl, fun _ _ => .inl, st⟩
theorem Conv.weak {c : Cx} {X Y : AX} (hσ : Y.σ.Sublist X.σ) (hm : ∀ x V, Y.m.lookup x = some V → X.m.lookup x = some V) : Conv c X Y := fun B S s st => ⟨S, .rfl, fun _ _ => .inl, st.weak hσ hm⟩
theorem Conv.bare {c : Cx} {B : Bg} {S S' : Sto} {X Y : AX} {s : Shared} {a : Addr} (hb : Bare c B S X a) (st : St c B S' Y s) (h : ∀ a o, S' a o → S a o ∨ (s.heap.get? a = some o ∧ a ∈ AX.adr X.σ)) (hY : a ∉ AX.adr Y.σ) : Bare c B S' Y a :=
  ⟨hb.g, hb.base, fun o e => (h a o e).elim (hb.sto o) fun z => hb.adr z.2, hb.own, hY, hb.prot⟩
section
variable {c : Cx} {X : AX}
theorem A_name {x px V} {Q : AX → Prop} (hx : Own c x) (h : Q ⟨X.σ, (x, V) :: X.m⟩) : WA c (.Name x px) V Q X := fun B S s v ok r st => wpAny_assign_Name (store_ hx (Q := fun _ => Q) h B S s v ok r st)
def WAl (c : Cx) (ts : List Expr) (Vs : List AV) (Q : AX → Prop) (X : AX) : Prop := WN c (Same (α := Unit)) Vs (assignInOrder ((assignEach ts c.env).map (·.2))) (fun _ => Q) X
theorem Al_nil {Vs} {Q : AX → Prop} (h : Q X) : WAl c [] Vs Q X := fun B S s vs ok r st => wpAny_pure ⟨S, (), X, .rfl, rfl, st, h⟩
theorem Al_cons {t ts V Vs} {Q : AX → Prop} (h : WA c t V (fun X₁ => WAl c ts Vs Q X₁) X) (he : assignEach (t :: ts) c.env = (false, assign t c.env) :: assignEach ts c.env := by rfl) : WAl c (t :: ts) (V :: Vs) Q X := by
  intro B S s vs ok r st
  obtain ⟨v, vs, rfl, r1, r2⟩ := r.cons_inv
  rw [he]
  show wpAny _ _ (holding vs (assign t c.env v) >>= fun _ => assignInOrder ((assignEach ts c.env).map (·.2)) vs) _ _ _
  refine wpAny_bind (wpAny_holding (wpAny_mono (h B S s v ok r1 st) (fun _ s₁ hz₉ => ?_) fun _ _ e => e))
  obtain ⟨S₁, _, X₁, u₁, _, st₁, h₁⟩ := hz₉
  exact wpAny_mono (h₁ B S₁ s₁ vs ok (r2.mono u₁) st₁) (fun _ _ p => p.up u₁) fun _ _ e => e
theorem A_tup {ts k pos Vs} {Q : AX → Prop} (hl : ts.length = Vs.length) (h : WAl c ts Vs Q X) (hn : (assignEach ts c.env).length = ts.length := by rfl) (hs : (assignEach ts c.env).findIdx? (·.1) = none := by rfl) : WA c (.Tuple ts k pos) (.tup Vs) Q X := by
  intro B S s v ok r st
  obtain ⟨a, vs, n, rfl, h1, h2⟩ := r.tup_inv
  refine wpAny_assign_Tuple (items := vs.toArray) ok.G.hd ⟨_, st.sto _ _ h1, rfl, n, rfl⟩ (by rw [hn, hl, List.size_toArray, h2.1]) hs fun h' hx => ?_
  have b := st.bare (get?_lt_none (Nat.le_refl s.heap.objs.size))
  refine h B S _ vs ok h2 (st.keep (l := [s.heap.objs.size]) (fun b o q e => hx b o (fun z => q (List.mem_singleton.mpr z)) e) (fun a ha => ?_) rfl rfl rfl)
  rw [List.mem_singleton.mp ha]; exact ⟨b.g, b.base, b.sto, b.own, b.adr⟩
end
section
variable {c : Cx} {B : Bg} {S : Sto} {X : AX} {s : Shared}
theorem St.same (st : St c B S X s) {a : Addr} {h' : Heap} (hs : Heap.SameBut a s.heap h') (b : Bare c B S X a) : St c B S X { s with heap := h' } :=
  st.keep (l := [a]) (KeepsBut.of_same hs) (fun x hx => by rw [List.mem_singleton.mp hx]; exact ⟨b.g, b.base, b.sto, b.own, b.adr⟩) rfl rfl rfl
theorem St.extBut (st : St c B S X s) {a : Addr} {h' : Heap} (hs : Heap.ExtBut a s.heap h') (b : Bare c B S X a) : St c B S X { s with heap := h' } :=
  st.keep (l := [a]) (fun x o q e => hs x o (fun z => q (List.mem_singleton.mpr z)) e) (fun x hx => by rw [List.mem_singleton.mp hx]; exact ⟨b.g, b.base, b.sto, b.own, b.adr⟩) rfl rfl rfl
theorem Reps.drop {vs : List Value} {xs : List AV} (r : Reps S vs xs) {i : Nat} {x : AV} {ys : List AV} (e : xs.drop i = x :: ys) : ∃ v, vs[i]? = some v ∧ Rep S v x ∧ xs.drop (i + 1) = ys := by
  have h1 : xs[i]? = some x := by rw [← List.head?_drop, e]; rfl
  obtain ⟨v, hv, rv⟩ := r.at h1
  exact ⟨v, hv, rv, by rw [← List.tail_drop, e]; rfl⟩
theorem drop_nil {vs : List Value} {xs : List AV} (r : Reps S vs xs) {i : Nat} (e : xs.drop i = []) : vs[i]? = none := by
  rw [List.getElem?_eq_none_iff, r.1]
  exact List.drop_eq_nil_iff.mp e
inductive JL (I l : Addr) (xs : List AV) (P : Sto → Heap → List Value → Nat → Prop) (ys : List AV) (S : Sto) (h : Heap) : Prop
  | mk (o : Obj) (i : Nat) (vs : List Value) (n : Nat) (h1 : h.get? I = some o) (h2 : o.cls = .type "list_iterator") (h3 : o.data = .fields #[.ref l, .int (i : Nat) 0]) (h4 : P S h vs n) (h5 : Reps S vs xs) (h6 : xs.drop i = ys)
theorem letgo_list {P : Program} {w : World} {A : Around} {E : Value → Shared → Prop} {I l : Addr} {i : Nat} {target : Expr} {v : Value} {Q : Unit → Shared → Prop} (hit : s.heap.IsListIter I l i) (h : Q () s) : wpAny (model P w) A (letOwnedTupleGo target (.ref I) v) Q E s := by
  obtain ⟨o, ho, hc, hd⟩ := hit
  unfold letOwnedTupleGo
  split
  · split
    · rename_i r a e1
      cases e1
      refine wpAny_bind (wpAny_load ho ?_)
      rw [hc, hd]
      exact wpAny_ite (by
        rw [show (["enumerate", "zip", "dict_itemiterator", "dict_reverseitemiterator", "odict_iterator", "itertools.zip_longest", "itertools.pairwise"].contains "list_iterator") = false from by decide, Bool.false_and, if_neg (by decide)]
        exact wpAny_pure h)
    · exact wpAny_pure h
  · split
    · rename_i r a e1
      cases e1
      refine wpAny_bind (wpAny_load ho ?_)
      rw [hc, hd]
      exact wpAny_ite (by
        rw [show (["enumerate", "zip", "dict_itemiterator", "dict_reverseitemiterator", "odict_iterator", "itertools.zip_longest", "itertools.pairwise"].contains "list_iterator") = false from by decide, Bool.false_and, if_neg (by decide)]
        exact wpAny_pure h)
    · exact wpAny_pure h
  · exact wpAny_pure h
theorem itr_list {target : Expr} {I l : Addr} {xs : List AV} {fp : List Addr} {P : Sto → Heap → List Value → Nat → Prop} {E : Sto → Heap → Prop} (hne : I ≠ l) (hfp : ∀ a, a ∈ fp → a = I ∨ a = l) (hI : I ∈ fp)
    (hdom : ∀ S h vs n, P S h vs n → ∀ a ∈ fp, a ≠ I → ∃ o, h.get? a = some o)
    (hk : ∀ S S' h h' vs n, P S h vs n → S.Le S' → (∀ a ∈ fp, a ≠ I → ∀ o, h.get? a = some o → h'.get? a = some o) → P S' h' vs n)
    (hP : ∀ B S X s vs n, St c B S X s → P S s.heap vs n → s.heap.get? l = some (seqObj "list" vs.toArray n))
    (hE : ∀ S h vs n, P S h vs n → Reps S vs xs → E S h) : Itr c target (.ref I) fp (JL I l xs P) E where
  dom := by
    rintro ys S h ⟨o, i, vs, n, h1, h2, h3, h4, h5, h6⟩ a ha
    by_cases q : a = I
    · subst q; exact ⟨o, h1⟩
    · exact hdom _ _ _ _ h4 a ha q
  keep := by
    rintro ys S S' h h' ⟨o, i, vs, n, h1, h2, h3, h4, h5, h6⟩ le k
    exact ⟨o, i, vs, n, k I hI _ h1, h2, h3, hk _ _ _ _ _ _ h4 le (fun a ha _ o e => k a ha o e), h5.mono le, h6⟩
  done := by
    rintro ys S h ⟨o, i, vs, n, h1, h2, h3, h4, h5, h6⟩
    exact hE _ _ _ _ h4 h5
  self := by
    rintro B S X s ys R F st ⟨o, i, vs, n, h1, h2, h3, h4, h5, h6⟩ h
    exact wpAny_pyIter_listiter ⟨o, h1, h2, h3⟩ h
  next := by
    rintro B S X s x ys ok st hb ⟨o, i, vs, n, h1, h2, h3, h4, h5, h6⟩
    have hl := hP _ _ _ _ _ _ st h4
    obtain ⟨v, hv, rv, hd⟩ := h5.drop h6
    refine wpAny_pyNext_list_item ⟨o, h1, h2, h3⟩ (l := l) (items := vs.toArray) ⟨_, hl, rfl, n, rfl⟩ (x := v) (by simpa using hv) fun h' hit hs => ?_
    refine ⟨v, rfl, letgo_list (s := { s with heap := h' }) hit ?_⟩
    obtain ⟨o', e1, e2, e3⟩ := hit
    exact ⟨S, .rfl, rv, st.same hs (hb I hI), hb, o', i + 1, vs, n, e1, e2, e3, hk _ _ _ _ _ _ h4 .rfl (fun a ha q o e => (hs.2 a q).trans e), h5, hd⟩
  stop := by
    rintro B S X s ok st hb ⟨o, i, vs, n, h1, h2, h3, h4, h5, h6⟩
    have hl := hP _ _ _ _ _ _ st h4
    refine wpAny_pyNext_list_end ok.G.hd ⟨o, h1, h2, h3⟩ (l := l) (items := vs.toArray) ⟨_, hl, rfl, n, rfl⟩ (by simpa using drop_nil h5 h6) fun h' hx => ?_
    exact ⟨rfl, st.extBut hx (hb I hI), hE _ _ _ _ (hk _ _ _ _ _ _ h4 .rfl fun a ha q o e => hx a o q e) h5⟩
theorem I_lst {target : Expr} {xs : List AV} {Q : List AV → (AX → AX) → AX → Prop} (h : Q xs id X) : WI c target (.lst xs) Q X := by
  intro B S s v ok r st
  obtain ⟨l, vs, n, rfl, h1, h2⟩ := r.lst_inv
  have hl := st.sto _ _ h1
  have b := st.bare (get?_lt_none (Nat.le_refl s.heap.objs.size))
  have hne : s.heap.objs.size ≠ l := fun q => by rw [← q] at hl; rw [get?_lt_none (Nat.le_refl _)] at hl; cases hl
  refine wpAny_pyIter_list (items := vs.toArray) ⟨_, hl, rfl, n, rfl⟩ ⟨S, X, [s.heap.objs.size], JL s.heap.objs.size l xs (fun S h vs n => S l (seqObj "list" vs.toArray n)), fun _ _ => True, xs, id, .rfl,
    st.grow (Keeps.push _ _) rfl rfl rfl, fun _ _ _ => itr_list hne (fun a ha => .inl (List.mem_singleton.mp ha)) (.head _) (fun _ _ _ _ _ a ha q => absurd (List.mem_singleton.mp ha) q) (fun _ _ _ _ _ _ e le _ => le _ _ e) (fun _ _ _ _ _ _ st e => st.sto _ _ e) (fun _ _ _ _ _ _ => trivial),
    fun a ha => by rw [List.mem_singleton.mp ha]; exact b, ⟨_, 0, vs, n, Heap.get?_push_size _ rfl, rfl, rfl, h1, h2, rfl⟩, fun _ _ _ _ _ st _ _ => st, h⟩
inductive SDel (a : Addr) (mo : MO) : List (Addr × MO) → List (Addr × MO) → Prop
  | head {r} : SDel a mo ((a, mo) :: r) r
  | tail {p r r'} : SDel a mo r r' → SDel a mo (p :: r) (p :: r')
theorem SDel.mem {a : Addr} {mo : MO} {l l' : List (Addr × MO)} (h : SDel a mo l l') : (a, mo) ∈ l := by
  induction h with
  | head => exact .head _
  | tail _ ih => exact .tail _ ih
theorem SDel.sub {a : Addr} {mo : MO} {l l' : List (Addr × MO)} (h : SDel a mo l l') : l'.Sublist l := by
  induction h with
  | head => exact List.sublist_cons_self _ _
  | tail _ ih => exact ih.cons_cons _
theorem SDel.apart {a : Addr} {mo : MO} {l l' : List (Addr × MO)} (h : SDel a mo l l') (nd : (AX.adr l).Nodup) : ∀ b ∈ mo.addrs a, b ∉ AX.adr l' := by
  induction h with
  | head =>
    intro b hb q
    rw [AX.adr_cons] at nd
    exact (List.nodup_append.mp nd).2.2 b hb b q rfl
  | tail hd ih =>
    rename_i p r r'
    intro b hb q
    rw [AX.adr_cons] at nd q
    have z := List.nodup_append.mp nd
    rcases List.mem_append.mp q with q | q
    · exact z.2.2 b q b (AX.mem_adr hd.mem hb) rfl
    · exact ih z.2.1 b hb q
theorem St.bareM (st : St c B S X s) {a : Addr} {mo : MO} {σ' : List (Addr × MO)} (h : SDel a mo X.σ σ') : ∀ b ∈ mo.addrs a, Bare c B S ⟨σ', X.m⟩ b := fun b hb => by
  have hin := AX.mem_adr h.mem hb
  have sp := st.sep b (.inr hin)
  exact ⟨sp.1, sp.2.1, sp.2.2, fun q => st.dis b q hin, h.apart st.nd b hb, fun q => let ⟨o, e⟩ := st.pin b q; sp.2.1 o e⟩
theorem I_mlst {target : Expr} {xs : List AV} {l : Addr} {σ' : List (Addr × MO)} {Q : List AV → (AX → AX) → AX → Prop} (hd : SDel l (.lst xs) X.σ σ') (h : Q xs (fun Y => ⟨(l, .lst xs) :: Y.σ, Y.m⟩) ⟨σ', X.m⟩) : WI c target (.raw (.ref l)) Q X := by
  intro B S s v ok r st
  rw [r.raw_inv]
  obtain ⟨vs, n, hl, h2⟩ := st.get hd.mem
  have hbl := st.bareM hd l (.head _)
  have st' : St c B S ⟨σ', X.m⟩ s := st.weak (X' := ⟨σ', X.m⟩) hd.sub fun _ _ e => e
  have b := st'.bare (get?_lt_none (Nat.le_refl s.heap.objs.size))
  have hne : s.heap.objs.size ≠ l := fun q => by rw [← q] at hl; rw [get?_lt_none (Nat.le_refl _)] at hl; cases hl
  refine wpAny_pyIter_list (items := vs.toArray) ⟨_, hl, rfl, n, rfl⟩ ⟨S, ⟨σ', X.m⟩, [s.heap.objs.size, l], JL s.heap.objs.size l xs (fun S h vs n => h.get? l = some (seqObj "list" vs.toArray n)), fun S h => ∃ vs n, h.get? l = some (seqObj "list" vs.toArray n) ∧ Reps S vs xs, xs, _, .rfl,
    st'.grow (Keeps.push _ _) rfl rfl rfl, fun _ _ _ => itr_list hne (fun a ha => by simpa using ha) (.head _) (fun _ _ _ _ e a ha q => ?_) (fun _ _ _ _ _ _ e le k => k l (.tail _ (.head _)) (Ne.symm hne) _ e) (fun _ _ _ _ _ _ st e => e) (fun _ _ _ _ e r => ⟨_, _, e, r⟩),
    fun a ha => ?_, ⟨_, 0, vs, n, Heap.get?_push_size _ rfl, rfl, rfl, Heap.get?_push_of_some _ hl, h2, rfl⟩, fun c' B S Y s st hb ⟨vs, n, e, r⟩ => ?_, h⟩
  · have : a = l := by simpa [q] using ha
    subst this; exact ⟨_, e⟩
  · simp only [List.mem_cons, List.not_mem_nil, or_false] at ha
    rcases ha with rfl | rfl
    · exact b
    · exact hbl
  · exact st.addM (mo := .lst xs) ⟨vs, n, e, r⟩ (by simp [MO.addrs]) fun x hx => by rw [List.mem_singleton.mp hx]; exact hb l (.tail _ (.head _))
theorem forLoop_ {P : Program} {w : World} {A : Around} {s : Shared} {R : Result → Shared → Prop} {target it body orelse env} (I : Nat → Shared → Prop)
    (turn : ∀ n s, I n s → wpAny (model P w) A (pyNext it) (fun r s₁ => match r with
      | none => wpAny (model P w) A (execs orelse env) (fun f s₃ => R (.ok f) s₃) (fun _ _ => False) s₁
      | some v => wpAny (model P w) A (letOwnedTupleGo target it v) (fun _ s₁ => wpAny (model P w) A (assign target env v) (fun _ s₂ => wpAny (model P w) A (execs body env) (fun f s₃ => match f with
          | .next | .cont => ∃ m, m < n ∧ I m s₃
          | .brk => R (.ok .next) s₃
          | .ret v => R (.ok (.ret v)) s₃) (fun _ _ => False) s₂) (fun _ _ => False) s₁) (fun _ _ => False) s₁) (fun _ _ => False) s)
    (n : Nat) (h : I n s) : codeAny (model P w) A (.forLoop target it body orelse env) R s := by
  refine codeAny_loop' rfl I (fun n s hI => ?_) n h
  show wpAny _ _ ((forTurn target it body orelse env).onRaise (fun x => do noteFrame x env; theTreesLotGoes x)) _ _ s
  refine wpAny_noted ?_
  simp only [forTurn]
  refine wpAny_bind (wpAny_standAt (wpAny_bind (wpAny_onRaise (wpAny_mono (turn n s hI) (fun r s₁ h₁ => ?_) fun _ _ h' => h'.elim))))
  cases r with
  | none => exact wpAny_pure (.inr ⟨rfl, codeAny_block (wpAny_mono h₁ (fun _ _ z => z) fun _ _ z => z.elim)⟩)
  | some v =>
    refine wpAny_bind (wpAny_mono h₁ (fun _ s₂ h₂ => wpAny_bind (wpAny_mono h₂ (fun _ s₃ h₃ => wpAny_bind (wpAny_mono h₃ (fun f s₃ h₃ => ?_) fun _ _ h' => h'.elim)) fun _ _ h' => h'.elim)) fun _ _ h' => h'.elim)
    cases f with
    | next => exact wpAny_pure (.inl ⟨rfl, h₃⟩)
    | cont => exact wpAny_pure (.inl ⟨rfl, h₃⟩)
    | brk => exact wpAny_pure h₃
    | ret v => exact wpAny_pure h₃
end
theorem objList {h : Heap} : ∀ {fp : List Addr}, (∀ a ∈ fp, ∃ o, h.get? a = some o) → ∃ l : List (Addr × Obj), l.map (·.1) = fp ∧ ∀ p ∈ l, h.get? p.1 = some p.2
  | [], _ => ⟨[], rfl, fun _ h => nomatch h⟩
  | a :: r, hobj => by
    obtain ⟨l, e1, e2⟩ := objList fun b hb => hobj b (.tail _ hb)
    obtain ⟨o, ho⟩ := hobj a (.head _)
    exact ⟨(a, o) :: l, by simp [e1], fun p hp => by
      rcases List.mem_cons.mp hp with rfl | hp
      · exact ho
      · exact e2 p hp⟩
section
variable {c : Cx} {X : AX} {Q : AF → AX → Prop}
def Turn (c : Cx) (bk : AX → AX) (I : AX → Prop) (Q : AF → AX → Prop) : AF → AX → Prop
  | .next, Y => ∃ Z, Conv c Y Z ∧ I Z
  | .cont, Y => ∃ Z, Conv c Y Z ∧ I Z
  | .brk, Y => Q .next (bk Y)
  | .ret V, Y => Q (.ret V) (bk Y)
theorem run_exec {B : Bg} {S : Sto} {s : Shared} {t : Sem Flow} {Q : AF → AX → Prop} (ok : c.Ok) (h : WT c RepF t Q X) (st : St c B S X s) : wpAny (model c.P c.w) c.A t (Post c B S RepF Q) (fun _ _ => False) s :=
  wpAny_mono (h B S s ok st) (fun _ _ p => p) fun e s' z => ok.noE e s' z
theorem S_for {target iter body pos} (h : WE c iter (fun V X₁ => WI c target V (fun xs bk X₂ => ∃ I : Nat → AX → Prop, (∃ Z, Conv c X₂ Z ∧ I 0 Z) ∧
      (∀ i x Y, xs[i]? = some x → I i Y → WA c target x (fun Y' => WSs c body (Turn c bk (I (i + 1)) Q) Y') Y) ∧ (∀ Y, I xs.length Y → Q .next (bk Y))) X₁) X)
    (hs : ∀ x, foldedSetIterable iter c.env x = pure x := by intro _; rfl) : WS c (.For target iter body [] pos) Q X := by
  intro B S s ok st
  refine wpAny_For (wpAny_mono (h B S s ok st) (fun v s₁ ⟨S₁, V, X₁, u₁, r, st₁, h₁⟩ => wpAny_mono (h₁ B S₁ s₁ v ok r st₁) (fun it s₂ hi => ?_) fun _ _ z => z.elim) fun _ _ e => e) hs
  obtain ⟨S₂, X₂, fp, J, E, xs, bk, u₂, st₂, itr', hb, hJ, hbk', I, ⟨Z, hZ, hI0⟩, turn, fin⟩ := hi
  have itr := itr' c rfl rfl
  have hbk := hbk' c
  -- the loop's state
  let K : Nat → Shared → Prop := fun k s => ∃ i S' Y, k = xs.length - i ∧ i ≤ xs.length ∧ S.Le S' ∧ St c B S' Y s ∧ (∀ a ∈ fp, Bare c B S' Y a) ∧ J (xs.drop i) S' s.heap ∧ I i Y
  -- the start
  have start : K xs.length s₂ := by
    -- pin, turn the view, unpin
    have hobj : ∀ a ∈ fp, ∃ o, s₂.heap.get? a = some o := fun a ha => itr.dom _ _ _ hJ a ha
    obtain ⟨l, hl1, hl2⟩ := objList hobj
    have hbl : ∀ p ∈ l, Bare c B S₂ X₂ p.1 := fun p hp => hb _ (by rw [← hl1]; exact List.mem_map_of_mem hp)
    obtain ⟨S', le, new, st'⟩ := hZ _ _ _ (st₂.pins fun p hp => ⟨hl2 p hp, hbl p hp⟩)
    obtain ⟨st'', hp⟩ := st₂.unpins hbl st'
    refine ⟨0, S', Z, by simp, Nat.zero_le _, u₁.trans (u₂.trans le), st'', fun a ha => ?_, itr.keep _ _ _ _ _ hJ le fun a ha o e => e, hI0⟩
    rw [← hl1] at ha
    obtain ⟨p, hp', rfl⟩ := List.mem_map.mp ha
    exact (hp p hp').2
  refine codeAny_mono (forLoop_ (R := fun r s' => match r with | .ok f => Post c B S RepF Q f s' | .error e => False) K (fun k s hK => ?_) xs.length start) fun r s' z => by
    cases r with
    | ok f => exact z
    | error e => exact z.elim
  obtain ⟨i, S', Y, rfl, hi, le, st', hb', hJ', hI⟩ := hK
  rcases Nat.lt_or_ge i xs.length with hlt | hge
  · have hx : xs[i]? = some xs[i] := List.getElem?_eq_getElem hlt
    rw [List.drop_eq_getElem_cons hlt] at hJ'
    refine wpAny_mono (itr.next B S' Y s xs[i] _ ok st' hb' hJ') (fun r s₁ hz₉ => ?_) fun _ _ z => z
    obtain ⟨v, er, hlg⟩ := hz₉
    subst er
    refine wpAny_mono hlg (fun _ s₂ hz₉ => ?_) fun _ _ z => z
    obtain ⟨S₁, le₁, rv, st₂, hb₁, hJ₂⟩ := hz₉
    -- pin the iterator's own
    have hobj : ∀ a ∈ fp, ∃ o, s₂.heap.get? a = some o := fun a ha => itr.dom _ _ _ hJ₂ a ha
    obtain ⟨l, hl1, hl2⟩ := objList hobj
    have hbl : ∀ p ∈ l, Bare c B S₁ Y p.1 := fun p hp => hb₁ _ (by rw [← hl1]; exact List.mem_map_of_mem hp)
    have stp := st₂.pins (l := l) fun p hp => ⟨hl2 p hp, hbl p hp⟩
    refine wpAny_mono (turn i xs[i] Y hx hI _ S₁ s₂ v ok rv stp) (fun _ s₃ hz₉ => ?_) fun e s' z => ok.noE e s' z
    obtain ⟨S₃, _, Y₃, le₃, _, st₃, h₃⟩ := hz₉
    refine wpAny_mono (run_exec ok h₃ st₃) (fun f s₄ hz₉ => ?_) fun _ _ z => z
    obtain ⟨S₄, F, Y₄, le₄, rf, st₄, h₄⟩ := hz₉
    have jkeep : ∀ {S₅ : Sto}, S₁.Le S₅ → J (List.drop (i + 1) xs) S₅ s₄.heap := fun le => itr.keep _ _ _ _ _ hJ₂ le fun a ha o e => by
      have ha' := ha
      rw [← hl1] at ha'
      obtain ⟨p, hp, rfl⟩ := List.mem_map.mp ha'
      have := hl2 p hp
      rw [e] at this; cases this
      exact st₄.base _ _ (.inr hp)
    have again : (∃ Z, Conv c Y₄ Z ∧ I (i + 1) Z) → ∃ m, m < xs.length - i ∧ K m s₄ := by
      rintro ⟨Z, hZ, hIZ⟩
      obtain ⟨S₅, le₅, new₅, st₅⟩ := hZ _ _ _ st₄
      obtain ⟨st₆, hp⟩ := st₂.unpins hbl st₅
      refine ⟨xs.length - (i + 1), Nat.sub_succ_lt_self _ _ hlt, i + 1, S₅, Z, rfl, hlt, le.trans (le₁.trans (le₃.trans (le₄.trans le₅))), st₆, fun a ha => ?_, jkeep (le₃.trans (le₄.trans le₅)), hIZ⟩
      rw [← hl1] at ha
      obtain ⟨p, hp', rfl⟩ := List.mem_map.mp ha
      exact (hp p hp').2
    have out : St c B S₄ (bk Y₄) s₄ := by
      obtain ⟨st₆, hp⟩ := st₂.unpins hbl st₄
      refine hbk _ _ _ _ st₆ (fun a ha => ?_) (itr.done _ _ _ (jkeep (le₃.trans le₄)))
      rw [← hl1] at ha
      obtain ⟨p, hp', rfl⟩ := List.mem_map.mp ha
      exact (hp p hp').2
    cases rf with
    | next => exact again h₄
    | cont => exact again h₄
    | brk => exact ⟨S₄, .next, bk Y₄, le.trans (le₁.trans (le₃.trans le₄)), .next, out, h₄⟩
    | ret r => exact ⟨S₄, _, bk Y₄, le.trans (le₁.trans (le₃.trans le₄)), .ret r, out, h₄⟩
  · have : i = xs.length := Nat.le_antisymm hi hge
    subst this
    rw [List.drop_length] at hJ'
    refine wpAny_mono (itr.stop B S' Y s ok st' hb' hJ') (fun r s₁ hz₉ => ?_) fun _ _ z => z
    obtain ⟨er, st₁, hE⟩ := hz₉
    subst er
    exact wpAny_execs_nil ⟨S', .next, bk Y, le, .next, hbk _ _ _ _ st₁ hb' hE, fin Y hI⟩
theorem S_while {test body pos} (I : Nat → AX → Prop) (n₀ : Nat) (h0 : ∃ Z, Conv c X Z ∧ I n₀ Z)
    (turn : ∀ n Y, I n Y → WB c test (fun b Y' => if b = true then WSs c body (Turn c id (fun Z => ∃ m, m < n ∧ I m Z) Q) Y' else Q .next Y') Y) : WS c (.While test body [] pos) Q X := by
  intro B S s ok st
  obtain ⟨Z, hZ, hI0⟩ := h0
  obtain ⟨S₀, le₀, _, st₀⟩ := hZ _ _ _ st
  let K : Nat → Shared → Prop := fun k s => ∃ S' Y, S.Le S' ∧ St c B S' Y s ∧ I k Y
  refine wpAny_While (codeAny_whileLoop K (fun k s hK => ?_) n₀ ⟨S₀, Z, le₀, st₀, hI0⟩)
  obtain ⟨S', Y, le, st', hI⟩ := hK
  refine wpAny_mono (turn k Y hI B S' s ok st') (fun b s₂ hz₉ => ?_) fun e s' z => (ok.noE e s' z).elim
  obtain ⟨S₂, b', Y₂, le₂, e, st₂, h₂⟩ := hz₉
  cases e
  cases b with
  | true =>
    rw [if_pos rfl] at h₂ ⊢
    refine wpAny_mono (run_exec ok h₂ st₂) (fun f s₃ hz₉ => ?_) fun _ _ z => z.elim
    obtain ⟨S₃, F, Y₃, le₃, rf, st₃, h₃⟩ := hz₉
    have again : (∃ Z, Conv c Y₃ Z ∧ ∃ m, m < k ∧ I m Z) → ∃ m, m < k ∧ K m s₃ := by
      rintro ⟨Z, hZ, m, hm, hIZ⟩
      obtain ⟨S₅, le₅, _, st₅⟩ := hZ _ _ _ st₃
      exact ⟨m, hm, S₅, Z, le.trans (le₂.trans (le₃.trans le₅)), st₅, hIZ⟩
    cases rf with
    | next => exact again h₃
    | cont => exact again h₃
    | brk => exact ⟨S₃, .next, Y₃, le.trans (le₂.trans le₃), .next, st₃, h₃⟩
    | ret r => exact ⟨S₃, _, Y₃, le.trans (le₂.trans le₃), .ret r, st₃, h₃⟩
  | false =>
    rw [if_neg (by decide)] at h₂ ⊢
    exact wpAny_execs_nil ⟨S₂, .next, Y₂, le.trans le₂, .next, st₂, h₂⟩
end
def ifsRun (ifs : List Expr) (env : Env) : Sem Bool := forIn ifs true fun c r => if r = true then do let ok ← isTrue c env (eval c env); pure (ForInStep.yield ok) else pure (ForInStep.yield r)
theorem compTurn_last (elt : Expr) (gens : List Comprehension) (scope : Scope) (pos : Pos) (depth : Nat) (it acc : Value) (env : Env) (g : Comprehension) (hg : gens[depth]? = some g) (ha : g.is_async = 0) (hn : gens[depth + 1]? = none) :
   compTurn (.ListComp elt gens scope pos) depth it acc env = (standAt g.iter.pos >>= fun _ => pyNext it >>= fun r => match r with
     | none => pure (.done .next)
     | some v => letOwnedTupleGo g.target it v >>= fun _ => assign g.target env v >>= fun _ => ifsRun g.ifs env >>= fun ok =>
       (if ok = true then (eval elt env >>= fun x => call (.builtin "list.append") [acc, x] >>= fun _ => pure ()) >>= fun _ => again (.compLoop (.ListComp elt gens scope pos) depth it acc env)
        else again (.compLoop (.ListComp elt gens scope pos) depth it acc env))) := by
  unfold compTurn
  simp only [hg, ha, hn]
  rfl
theorem compTurn_more (elt : Expr) (gens : List Comprehension) (scope : Scope) (pos : Pos) (depth : Nat) (it acc : Value) (env : Env) (g g' : Comprehension) (hg : gens[depth]? = some g) (ha : g.is_async = 0) (hn : gens[depth + 1]? = some g') (ha' : g'.is_async = 0) :
   compTurn (.ListComp elt gens scope pos) depth it acc env = (standAt g.iter.pos >>= fun _ => pyNext it >>= fun r => match r with
     | none => pure (.done .next)
     | some v => letOwnedTupleGo g.target it v >>= fun _ => assign g.target env v >>= fun _ => ifsRun g.ifs env >>= fun ok =>
       (if ok = true then (eval g'.iter env >>= fun x => standAt g'.iter.pos >>= fun _ => foldedSetIterable g'.iter env x >>= fun x => holding [x] (pyIter x) >>= fun it' => runOwn (.compStart (.ListComp elt gens scope pos) (depth + 1) it' acc env) env >>= fun _ => again (.compLoop (.ListComp elt gens scope pos) depth it acc env))
        else again (.compLoop (.ListComp elt gens scope pos) depth it acc env))) := by
  unfold compTurn
  simp only [hg, ha, hn, ha']
  rfl
theorem compStart_ {P : Program} {w : World} {A : Around} {s : Shared} {R : Result → Shared → Prop} {elt : Expr} {gens : List Comprehension} {scope : Scope} {pos : Pos} {depth : Nat} {it acc : Value} {env : Env} {g : Comprehension} (hg : gens[depth]? = some g) (ha : g.is_async = 0)
    (h0 : codeAny (model P w) A (.compLoop (.ListComp elt gens scope pos) depth it acc env) R s)
    (h : ∀ (Q : Value → Shared → Prop) (F : Value → Shared → Prop), Q it s → wpAny (model P w) A (pyIter it) Q F s) : codeAny (model P w) A (.compStart (.ListComp elt gens scope pos) depth it acc env) R s := by
  refine codeAny_of_tree ?_
  show wpAny _ _ ((compStart (.ListComp elt gens scope pos) depth it acc env).onRaise (fun x => do noteFrame x env; standAt theWindowsPlace)) _ _ s
  refine wpAny_notedAt ?_
  unfold compStart
  have hc : (clausesOf (.ListComp elt gens scope pos))[depth]? = some g := hg
  simp only [hc, Option.elim, ha, bne_self_eq_false, Bool.false_eq_true, if_false]
  refine wpAny_bind (wpAny_askSetting (wpAny_ite ?_))
  split
  · exact wpAny_bind (wpAny_pure (wpAny_pure (And.intro rfl h0)))
  · exact wpAny_bind (wpAny_rule (wpAny_bind (wpAny_standAt (wpAny_bind (h _ _ (wpAny_pure (And.intro rfl h0)))))))
section
variable {c : Cx} {X : AX}
abbrev WIfs (c : Cx) (ifs : List Expr) (Q : Bool → AX → Prop) (X : AX) : Prop := WT c (Same (α := Bool)) (ifsRun ifs c.env) Q X
theorem If_nil {Q : Bool → AX → Prop} (h : Q true X) : WIfs c [] Q X := fun B S s ok st => wpAny_pure ⟨S, true, X, .rfl, rfl, st, h⟩
def WGen (c : Cx) (g : Comprehension) (inner : (AX → Prop) → AX → Prop) (xs : List AV) (bk : AX → AX) (Q : AX → Prop) (Y₂ : AX) : Prop :=
  ∃ I : Nat → AX → Prop, (∃ Z, Conv c Y₂ Z ∧ I 0 Z) ∧ (∀ i x Y, xs[i]? = some x → I i Y → WA c g.target x (fun Y' => WIfs c g.ifs (fun b Y'' => if b = true then inner (fun Z => ∃ Z', Conv c Z Z' ∧ I (i + 1) Z') Y'' else ∃ Z', Conv c Y'' Z' ∧ I (i + 1) Z') Y') Y) ∧ (∀ Y, I xs.length Y → Q (bk Y))
def WTurn (c : Cx) (D : Addr) (elt : Expr) : List Comprehension → (AX → Prop) → AX → Prop
  | [], Q, X => WE c elt (fun V Y => ∃ ys σ', SUpd D (.lst ys) (.lst (ys ++ [V])) Y.σ σ' ∧ ys.length ≤ 1000000 ∧ Q ⟨σ', Y.m⟩) X
  | g :: gs, Q, X => WE c g.iter (fun V Y => WI c g.target V (fun xs bk Y₂ => WGen c g (WTurn c D elt gs) xs bk Q Y₂) Y) X
theorem append_M {xs : List AV} {V : AV} {D : Addr} {σ' : List (Addr × MO)} {B : Bg} {S : Sto} {s : Shared} {v : Value} {R F : Value → Shared → Prop} (st : St c B S X s) (r : Rep S v V) (U : SUpd D (.lst xs) (.lst (xs ++ [V])) X.σ σ') (hz : xs.length ≤ 1000000) (h : ∀ s', St c B S ⟨σ', X.m⟩ s' → R .none s') : wpAny (model c.P c.w) c.A (call (.builtin "list.append") [.ref D, v]) R F s := by
  obtain ⟨vs, n, h1, h2⟩ := st.get U.mem
  refine append_at h1 (fun h' hs ho => h _ (st.upd U rfl (KeepsBut.of_same hs) ⟨vs ++ [v], n + 1, ?_, h2.append (.cons r .nil)⟩ rfl rfl rfl)) (by rw [sizeLine_eq, List.size_toArray, h2.1]; lia)
  rw [ho]; simp
theorem comp_core {B : Bg} {S : Sto} {s : Shared} {it acc : Value} {e : Expr} {depth : Nat} {p₀ : Pos} {g : Comprehension} {treeK : Sem Fin} {inner : (AX → Prop) → AX → Prop} {fp : List Addr} {J : List AV → Sto → Heap → Prop} {E : Sto → Heap → Prop} {xs : List AV} {bk : AX → AX} {Q : AX → Prop}
    (hturn : compTurn e depth it acc c.env = (standAt p₀ >>= fun _ => pyNext it >>= fun r => match r with
     | none => pure (.done .next)
     | some v => letOwnedTupleGo g.target it v >>= fun _ => assign g.target c.env v >>= fun _ => ifsRun g.ifs c.env >>= fun ok => (if ok = true then treeK else again (.compLoop e depth it acc c.env))))
    (hframe : (Code.compLoop e depth it acc c.env).isFrame = false) (hw : (Code.compLoop e depth it acc c.env).weight = 0) (hu : (Code.compLoop e depth it acc c.env).cUnits = 0) (hq : (Code.compLoop e depth it acc c.env).quiet = true)
    (hinner : ∀ (B : Bg) (S : Sto) (X : AX) (s : Shared) (Q : AX → Prop), St c B S X s → inner Q X → ∀ (R : Fin → Shared → Prop), (∀ S' Y s', S.Le S' → St c B S' Y s' → Q Y → R (.again (.compLoop e depth it acc c.env)) s') → wpAny (model c.P c.w) c.A treeK R (fun _ _ => False) s)
    (ok : c.Ok) (st₂ : St c B S X s) (itr : Itr c g.target it fp J E) (hb : ∀ a ∈ fp, Bare c B S X a) (hJ : J xs S s.heap)
    (hbk : ∀ B S X s, St c B S X s → (∀ a ∈ fp, Bare c B S X a) → E S s.heap → St c B S (bk X) s) (hG : WGen c g inner xs bk Q X) :
    codeAny (model c.P c.w) c.A (.compLoop e depth it acc c.env) (fun r s' => match r with | .ok _ => ∃ S' Y, S.Le S' ∧ St c B S' Y s' ∧ Q Y | .error _ => False) s := by
  obtain ⟨I, ⟨Z, hZ, hI0⟩, turn, fin⟩ := hG
  let K : Nat → Shared → Prop := fun k s => ∃ i S' Y, k = xs.length - i ∧ i ≤ xs.length ∧ S.Le S' ∧ St c B S' Y s ∧ (∀ a ∈ fp, Bare c B S' Y a) ∧ J (xs.drop i) S' s.heap ∧ I i Y
  have start : K xs.length s := by
    obtain ⟨l, hl1, hl2⟩ := objList fun a ha => itr.dom _ _ _ hJ a ha
    have hbl : ∀ p ∈ l, Bare c B S X p.1 := fun p hp => hb _ (by rw [← hl1]; exact List.mem_map_of_mem hp)
    obtain ⟨S', le, new, st'⟩ := hZ _ _ _ (st₂.pins fun p hp => ⟨hl2 p hp, hbl p hp⟩)
    obtain ⟨st'', hp⟩ := st₂.unpins hbl st'
    refine ⟨0, S', Z, by simp, Nat.zero_le _, le, st'', fun a ha => ?_, itr.keep _ _ _ _ _ hJ le fun a ha o e => e, hI0⟩
    rw [← hl1] at ha
    obtain ⟨p, hp', rfl⟩ := List.mem_map.mp ha
    exact (hp p hp').2
  refine codeAny_loop hq K (fun k s₀ hK => ?_) xs.length start
  rw [Around.under_of_weight hw hu]
  show wpAny _ _ (denote table (.compLoop e depth it acc c.env)) _ _ s₀
  have hden : denote table (.compLoop e depth it acc c.env) = (compTurn e depth it acc c.env).onRaise (fun x => do noteFrame x c.env; theTreesLotGoes x) := by
    unfold denote
    simp only [hframe, Bool.false_eq_true, if_false]
  rw [hden]
  refine wpAny_noted ?_
  rw [hturn]
  obtain ⟨i, S', Y, rfl, hi, le, st', hb', hJ', hI⟩ := hK
  refine wpAny_bind (wpAny_standAt (wpAny_bind ?_))
  rcases Nat.lt_or_ge i xs.length with hlt | hge
  · have hx : xs[i]? = some xs[i] := List.getElem?_eq_getElem hlt
    rw [List.drop_eq_getElem_cons hlt] at hJ'
    refine wpAny_mono (itr.next B S' Y s₀ xs[i] _ ok st' hb' hJ') (fun r s₁ hz₉ => ?_) fun _ _ z => z.elim
    obtain ⟨v, er, hlg⟩ := hz₉
    subst er
    refine wpAny_bind (wpAny_mono hlg (fun _ s₂ hz₉ => ?_) fun _ _ z => z.elim)
    obtain ⟨S₁, le₁, rv, st₂, hb₁, hJ₂⟩ := hz₉
    obtain ⟨l, hl1, hl2⟩ := objList fun a ha => itr.dom _ _ _ hJ₂ a ha
    have hbl : ∀ p ∈ l, Bare c B S₁ Y p.1 := fun p hp => hb₁ _ (by rw [← hl1]; exact List.mem_map_of_mem hp)
    have stp := st₂.pins (l := l) fun p hp => ⟨hl2 p hp, hbl p hp⟩
    refine wpAny_bind (wpAny_mono (turn i xs[i] Y hx hI _ S₁ s₂ v ok rv stp) (fun _ s₃ hz₉ => ?_) fun e s' z => (ok.noE e s' z).elim)
    obtain ⟨S₃, _, Y₃, le₃, _, st₃, h₃⟩ := hz₉
    have finish : ∀ S₄ Y₄ s₄, S₁.Le S₄ → St c (B.pins l) S₄ Y₄ s₄ → (∃ Z', Conv c Y₄ Z' ∧ I (i + 1) Z') → ∃ m, m < xs.length - i ∧ K m s₄ := by
      rintro S₄ Y₄ s₄ le₄ st₄ ⟨Z, hZ, hIZ⟩
      obtain ⟨S₅, le₅, new₅, st₅⟩ := hZ _ _ _ st₄
      obtain ⟨st₆, hp⟩ := st₂.unpins hbl st₅
      refine ⟨xs.length - (i + 1), by lia, i + 1, S₅, Z, rfl, hlt, le.trans (le₁.trans (le₄.trans le₅)), st₆, fun a ha => ?_, itr.keep _ _ _ _ _ hJ₂ (le₄.trans le₅) fun a ha o e => ?_, hIZ⟩
      · rw [← hl1] at ha
        obtain ⟨p, hp', rfl⟩ := List.mem_map.mp ha
        exact (hp p hp').2
      · rw [← hl1] at ha
        obtain ⟨p, hp', rfl⟩ := List.mem_map.mp ha
        have := hl2 p hp'
        rw [e] at this; cases this
        exact (hp p hp').1
    refine wpAny_bind (wpAny_mono (h₃ _ S₃ s₃ ok st₃) (fun b s₄ hz₉ => ?_) fun e s' z => (ok.noE e s' z).elim)
    obtain ⟨S₄, b', Y₄, le₄, eb, st₄, h₄⟩ := hz₉
    cases eb
    cases b with
    | true =>
      rw [if_pos rfl] at h₄ ⊢
      exact wpAny_mono (hinner _ _ _ _ _ st₄ h₄ _ fun S' Y s' u st q => ⟨rfl, finish _ _ _ (le₃.trans (le₄.trans u)) st q⟩) (fun _ _ z => z) fun _ _ z => z.elim
    | false =>
      rw [if_neg (by decide)] at h₄ ⊢
      exact wpAny_pure ⟨rfl, finish _ _ _ (le₃.trans le₄) st₄ h₄⟩
  · have : i = xs.length := by lia
    subst this
    rw [List.drop_length] at hJ'
    refine wpAny_mono (itr.stop B S' Y s₀ ok st' hb' hJ') (fun r s₁ hz₉ => ?_) fun _ _ z => z.elim
    obtain ⟨er, st₁, hE⟩ := hz₉
    subst er
    exact wpAny_pure ⟨S', bk Y, le, hbk _ _ _ _ st₁ hb' hE, fin Y hI⟩
theorem getElem?_of_drop {α : Type} {l : List α} {n : Nat} {a : α} {r : List α} (h : l.drop n = a :: r) : l[n]? = some a ∧ l.drop (n + 1) = r := by
  refine ⟨by rw [← List.head?_drop, h]; rfl, by rw [← List.tail_drop, h]; rfl⟩
theorem comp_gen {D : Addr} {elt : Expr} {gens : List Comprehension} {scope : Scope} {pos : Pos} : ∀ (gs : List Comprehension) (depth : Nat) (g : Comprehension), gens.drop depth = g :: gs → (∀ q ∈ g :: gs, q.is_async = 0) → (∀ q ∈ gs, ∀ x, foldedSetIterable q.iter c.env x = pure x) →
    ∀ (B : Bg) (S : Sto) (X : AX) (s : Shared) (it : Value) (fp : List Addr) (J : List AV → Sto → Heap → Prop) (E : Sto → Heap → Prop) (xs : List AV) (bk : AX → AX) (Q : AX → Prop), c.Ok → St c B S X s → Itr c g.target it fp J E → (∀ a ∈ fp, Bare c B S X a) → J xs S s.heap →
      (∀ B S X s, St c B S X s → (∀ a ∈ fp, Bare c B S X a) → E S s.heap → St c B S (bk X) s) → WGen c g (WTurn c D elt gs) xs bk Q X →
      codeAny (model c.P c.w) c.A (.compLoop (.ListComp elt gens scope pos) depth it (.ref D) c.env) (fun r s' => match r with | .ok _ => ∃ S' Y, S.Le S' ∧ St c B S' Y s' ∧ Q Y | .error _ => False) s := by
  intro gs
  induction gs with
  | nil =>
    intro depth g hd ha hf B S X₂ s₂ it fp J E xs bk Q ok st₂ itr hb hJ hbk hG
    obtain ⟨h1, h2⟩ := getElem?_of_drop hd
    have h3 : gens[depth + 1]? = none := by rw [← List.head?_drop, h2]; rfl
    refine comp_core (inner := WTurn c D elt []) (compTurn_last elt gens scope pos depth it (.ref D) c.env g h1 (ha g (.head _)) h3) rfl rfl rfl rfl ?_ ok st₂ itr hb hJ hbk hG
    intro B S X s Q st hT R hR
    refine wpAny_bind (wpAny_bind (wpAny_mono (hT B S s ok st) (fun v s₁ ⟨S₁, V, Y, u₁, r, st₁, ys, σ', U, hz, q⟩ => wpAny_bind (append_M st₁ r U hz fun s' st' => wpAny_pure (wpAny_pure (hR S₁ _ s' u₁ st' q)))) fun e s' z => ok.noE e s' z))
  | cons g' gs ih =>
    intro depth g hd ha hf B S X₂ s₂ it fp J E xs bk Q ok st₂ itr hb hJ hbk hG
    obtain ⟨h1, h2⟩ := getElem?_of_drop hd
    obtain ⟨h3, _⟩ := getElem?_of_drop h2
    refine comp_core (inner := WTurn c D elt (g' :: gs)) (compTurn_more elt gens scope pos depth it (.ref D) c.env g g' h1 (ha g (.head _)) h3 (ha g' (.tail _ (.head _)))) rfl rfl rfl rfl ?_ ok st₂ itr hb hJ hbk hG
    intro B S X s Q st hT R hR
    refine wpAny_bind (wpAny_mono (hT B S s ok st) (fun v s₁ ⟨S₁, V, Y, u₁, r, st₁, h₁⟩ => wpAny_bind (wpAny_standAt (wpAny_bind (wpAny_of_eq (hf g' (.head _) v) (wpAny_bind (wpAny_holding (wpAny_mono (h₁ B S₁ s₁ v ok r st₁) (fun it' s₂ hi => ?_) fun _ _ z => z))))))) fun e s' z => ok.noE e s' z)
    obtain ⟨S₂, Y₂, fp', J', E', xs', bk', u₂, st₂', itr', hb', hJ', hbk', hG'⟩ := hi
    refine wpAny_bind (wpAny_runOwn (compStart_ h3 (ha g' (.tail _ (.head _))) ?_ fun Q F h => (itr' c rfl rfl).self _ _ _ _ _ _ _ st₂' hJ' h))
    refine codeAny_mono (ih (depth + 1) g' h2 (fun g hg => ha g (.tail _ hg)) (fun g hg => hf g (.tail _ hg)) B S₂ Y₂ s₂ it' fp' J' E' xs' bk' Q ok st₂' (itr' c rfl rfl) hb' hJ' (hbk' c) hG') fun r s' z => ?_
    cases r with
    | ok f => obtain ⟨S₃, Y₃, u₃, st₃, q⟩ := z; exact wpAny_pure (hR S₃ Y₃ s' (u₁.trans (u₂.trans u₃)) st₃ q)
    | error e => exact z.elim
end
def clOf (cells : List (Str × Addr)) : List (Str × NameKind) → List (Str × Addr) → List (Str × Addr)
  | [], cs => cs
  | (n, k) :: r, cs => if k == .free then clOf cells r ((n, (cells.lookup n).getD 0) :: cs) else clOf cells r cs
theorem closure_of {env : Env} {scope : Scope} (h : ∀ p ∈ scope.names, p.2 = .free → (env.cells.lookup p.1).isSome = true) : closureFor scope env = pure (clOf env.cells scope.names []) := by
  unfold closureFor
  suffices H : ∀ (names : List (Str × NameKind)) cs, (∀ p ∈ names, p.2 = .free → (env.cells.lookup p.1).isSome = true) → (forIn names cs fun (x : Str × NameKind) (r : List (Str × Addr)) => if (x.2 == NameKind.free) = true then (do let __do_lift ← cellOf env x.1; pure (ForInStep.yield ((x.1, __do_lift) :: r))) else pure (ForInStep.yield r) : Sem (List (Str × Addr))) = pure (clOf env.cells names cs) by
    have := H scope.names [] h
    simp only [bind_pure]
    exact this
  intro names
  induction names with
  | nil => intro cs _; rfl
  | cons p r ih =>
    intro cs hp
    obtain ⟨n, k⟩ := p
    rw [List.forIn_cons]
    have hr := fun p hm => hp p (List.Mem.tail _ hm)
    by_cases q : k = .free
    · subst q
      obtain ⟨a, ha⟩ := Option.isSome_iff_exists.mp (hp (n, .free) (.head _) rfl)
      have hc : cellOf env n = pure a := by unfold cellOf; rw [ha]
      simp only [beq_self_eq_true, if_true, hc, pure_bind]
      rw [ih _ hr]
      simp [clOf, ha]
    · have : (k == NameKind.free) = false := beq_eq_false_iff_ne.mpr q
      simp only [this, Bool.false_eq_true, if_false, pure_bind]
      rw [ih _ hr]
      simp [clOf, this]
theorem St.cx {c c' : Cx} {B : Bg} {S : Sto} {X : AX} {s : Shared} (hg : c'.g = c.g) (he : c'.env = c.env) (ho : c'.own = c.own) (st : St c B S X s) (hx : c'.fix = c.fix := by rfl) : St c' B S X s := by
  obtain ⟨P, w, K, g, A, env, own, E, fx⟩ := c
  obtain ⟨P', w', K', g', A', env', own', E', fx'⟩ := c'
  dsimp only at hg he ho hx
  subst hg he ho hx
  exact ⟨st.loc, st.gr, st.base, st.sto, st.cel, st.fr, st.mu, st.nd, st.sep, st.dis, st.dom, st.prot, st.pin, st.os, st.gens, st.drawn⟩
def Cx.block (c : Cx) (scope : Scope) (C : Addr) : Cx := { c with env := compEnvC scope (clOf c.env.cells scope.names []) C c.env, own := [C] }
theorem clOf_lookup {cells : List (Str × Addr)} {x : Str} {k : Addr} : ∀ {names : List (Str × NameKind)} {cs : List (Str × Addr)}, (∀ p ∈ names, p.2 = .free → (cells.lookup p.1).isSome = true) → (∀ k, cs.lookup x = some k → cells.lookup x = some k) → (clOf cells names cs).lookup x = some k → cells.lookup x = some k
  | [], cs, _, hc, h => hc _ h
  | (n, kd) :: r, cs, hf, hc, h => by
    unfold clOf at h
    split at h
    · rename_i q
      refine clOf_lookup (fun p hp => hf p (.tail _ hp)) (fun k hk => ?_) h
      rw [List.lookup_cons] at hk
      by_cases e : x = n
      · subst e
        rw [beq_self_eq_true] at hk
        cases hk
        obtain ⟨a, ha⟩ := Option.isSome_iff_exists.mp (hf (x, kd) (.head _) (beq_iff_eq.mp q))
        rw [ha]; rfl
      · rw [beq_eq_false_iff_ne.mpr e] at hk; exact hc k hk
    · exact clOf_lookup (fun p hp => hf p (.tail _ hp)) hc h
def Capt (c : Cx) (scope : Scope) (x : Str) : Prop := (c.env.kindOf x = some .cell ∨ c.env.kindOf x = some .free) ∧ ((relabel scope c.env).names.lookup x = some .cell ∨ (relabel scope c.env).names.lookup x = some .free) ∧ (clOf c.env.cells scope.names []).lookup x = c.env.cells.lookup x
section
variable {c : Cx} {X : AX} {Q : AV → AX → Prop}
theorem E_compM {elt : Expr} {g : Comprehension} {gs : List Comprehension} {scope : Scope} {pos : Pos} (m₂ : List (Str × AV))
    (h : WE c g.iter (fun V X₁ => WI c g.target V (fun xs bk X₂ => (∀ p ∈ m₂, X₂.m.lookup p.1 = some p.2 ∧ Capt c scope p.1) ∧ ∀ C D, (c.block scope C).Ok →
      WGen (c.block scope C) g (WTurn (c.block scope C) D elt gs) xs bk (fun Y => Q (.raw (.ref D)) ⟨Y.σ, X₂.m⟩) ⟨(D, .lst []) :: X₂.σ, m₂⟩) X₁) X)
    (hfree : ∀ p ∈ scope.names, p.2 = .free → (c.env.cells.lookup p.1).isSome = true) (hcell : ∀ p ∈ scope.names, p.2 ≠ .cell) (hkind : scope.kind = .function) (hnames : ∀ x ∈ scope.names, x.2 = .local → scope.names.lookup x.1 = some .local)
    (ha : ∀ q ∈ g :: gs, q.is_async = 0) (hf : ∀ q ∈ g :: gs, ∀ x, foldedSetIterable q.iter c.env x = pure x) (hf2 : ∀ C, ∀ q ∈ gs, ∀ x, foldedSetIterable q.iter (c.block scope C).env x = pure x) :
    WE c (.ListComp elt (g :: gs) scope pos) Q X := by
  intro B S s ok st
  have hasync : firstAsync (g :: gs) = false := by
    obtain ⟨t, i, ifs, a⟩ := g
    have := ha _ (.head _); subst this; rfl
  have hit : firstIter (g :: gs) c.env = eval g.iter c.env := by obtain ⟨t, i, ifs, a⟩ := g; rfl
  rw [eval_ListComp, hasync, hit]
  refine wpAny_comprehension_free (use := none) rfl (hf g (.head _)) (closure_of hfree) hkind hnames ?_
  refine wpAny_mono (h B S s ok st) (fun v s₁ ⟨S₁, V, X₁, u₁, r, st₁, h₁⟩ => wpAny_mono (h₁ B S₁ s₁ v ok r st₁) (fun it s₂ hi => ?_) fun _ _ z => z.elim) fun _ _ e => e
  obtain ⟨S₂, X₂, fp, J, E, xs, bk, u₂, st₂, itr', hb, hJ, hbk, hm₂, hG⟩ := hi
  refine wpAny_newList ?_ (Nat.zero_le _)
  -- the list
  generalize hD : s₂.heap.objs.size = D
  have st₃ : St c B S₂ ⟨(D, .lst []) :: X₂.σ, X₂.m⟩ { s₂ with heap := s₂.heap.push { cls := .type "list", data := .seq ([] : List Value).toArray } } := by
    rw [← hD]; exact st₂.newM (mo := .lst []) rfl (fun h e => ⟨[], 0, e, .nil⟩) rfl
  have itr := itr' c rfl rfl
  have hDfp : ∀ a ∈ fp, a ≠ D := fun a hab q => by
    obtain ⟨o, ho⟩ := itr.dom _ _ _ hJ a hab
    rw [q, ← hD, get?_lt_none (Nat.le_refl _)] at ho; cases ho
  have hb₃ : ∀ a ∈ fp, Bare c B S₂ ⟨(D, .lst []) :: X₂.σ, X₂.m⟩ a := fun a hab => by
    have b := hb a hab
    refine ⟨b.g, b.base, b.sto, b.own, fun q => ?_, b.prot⟩
    rw [AX.adr_cons] at q
    rcases List.mem_append.mp q with q | q
    · exact hDfp a hab (List.mem_singleton.mp q)
    · exact b.adr q
  have hJ₃ : J xs S₂ ({ s₂ with heap := s₂.heap.push { cls := .type "list", data := .seq ([] : List Value).toArray } } : Shared).heap := itr.keep _ _ S₂ _ (s₂.heap.push { cls := .type "list", data := .seq ([] : List Value).toArray }) hJ .rfl fun a _ o e => Heap.get?_push_of_some _ e
  have hP₃ : ∀ (R : Value → Shared → Prop) (F : Value → Shared → Prop), R it { s₂ with heap := s₂.heap.push { cls := .type "list", data := .seq ([] : List Value).toArray } } → wpAny (model c.P c.w) c.A (pyIter it) R F { s₂ with heap := s₂.heap.push { cls := .type "list", data := .seq ([] : List Value).toArray } } := fun R F h => itr.self _ _ _ _ _ _ _ st₃ hJ₃ h
  generalize ({ s₂ with heap := s₂.heap.push { cls := .type "list", data := .seq ([] : List Value).toArray } } : Shared) = s₃ at st₃ hJ₃ hP₃ ⊢
  generalize hX₃ : (⟨(D, .lst []) :: X₂.σ, X₂.m⟩ : AX) = X₃ at st₃ hb₃
  refine wpAny_newFunctionEnv hcell (by intro y hy; simp at hy) (fun h₁ hns hsb => ?_) hkind
  skip
  have hC := get?_lt_none (Nat.le_refl s₃.heap.objs.size)
  have bC := st₃.bare hC
  have hk₁ : Keeps s₃.heap h₁ := fun b o e => hsb.extBut b o (Nat.ne_of_lt (Heap.lt_size e)) (Heap.get?_push_of_some _ e)
  have klC : ∀ a o, c.K.lookup a = some o → a < s₃.heap.objs.size := fun a o e => Heap.lt_size ((ok.X.keeps st₃.gr) a o e)
  generalize s₃.heap.objs.size = C at hns hsb hC bC klC ⊢
  have ok₂ : (c.block scope C).Ok := ⟨ok.X, ok.T, ok.G, ok.gl, ok.bi, hkind, ok.noE, klC, fun x y k e1 e2 => ok.cnd x y k (clOf_lookup hfree (fun _ e => by cases e) e1) (clOf_lookup hfree (fun _ e => by cases e) e2)⟩
  have inB : ∀ k o, (k ∈ c.own ∨ ∃ o, B.base k o) → s₃.heap.get? k = some o → (Bg.call c B X₃ s₃ fp).base k o := fun k o hk e =>
    ⟨e, fun q => hk.elim (fun z => st₃.dis k z q) fun ⟨p, z⟩ => st₃.noadr z q, fun q => hk.elim (hb₃ k q).own fun ⟨p, z⟩ => (hb₃ k q).base p z⟩
  have st₄ : St (c.block scope C) (Bg.call c B X₃ s₃ fp) S₂ ⟨X₃.σ, m₂⟩ { s₃ with heap := h₁, toks := s₃.toks + ([] : List (Str × Value)).length } := by
    refine St.cx (c := c.callee (c.block scope C).env [C]) rfl rfl rfl (st₃.callIn hb₃ hk₁ rfl (.head _) (fun a ha => by rw [List.mem_singleton.mp ha]; exact hC) (fun a ha => ?_) (fun x k e => ?_) ⟨_, hns, fun x V e => ?_⟩ rfl rfl rfl)
    · rw [List.mem_singleton.mp ha]
      obtain ⟨o, _, _, e, _⟩ := hns
      exact ⟨o, e⟩
    · obtain ⟨h1, h2, o, v, h3, h4⟩ := st₃.cel x k (clOf_lookup hfree (fun _ e => by cases e) e)
      refine ⟨fun q => ?_, .inr ⟨o, inB k o h2 h3⟩, o, v, hk₁ _ _ h3, h4⟩
      have q : k = C := q
      rw [q, hC] at h3; cases h3
    · obtain ⟨y, hy, rfl⟩ := lookup_mem e
      obtain ⟨hl, hc1, hc2, hc3⟩ := hm₂ _ hy
      obtain ⟨mc, n, f⟩ := st₃.fr
      obtain ⟨u, ru, yu⟩ := f y V (by rw [← hX₃]; exact hl)
      refine ⟨u, ru, ?_⟩
      rcases yu with ⟨k, _⟩ | ⟨w, k, o, e1, e2, e3, e4, e5⟩
      · rcases hc1 with q | q <;> rw [k] at q <;> cases q
      · refine .inr ⟨hc2, k, o, hc3.trans e1, hk₁ _ _ e2, e3, .inr (inB k o (e4.imp id fun z => ⟨o, z⟩) e2), fun q => ?_⟩
        have q : k = C := q
        rw [q, hC] at e2; cases e2
  have itr₂ := itr' (c.block scope C) rfl rfl
  have hb₄ : ∀ a ∈ fp, Bare (c.block scope C) (Bg.call c B X₃ s₃ fp) S₂ ⟨X₃.σ, m₂⟩ a := fun a hab => by
    have b := hb₃ a hab
    refine ⟨b.g, fun o e => e.2.2 hab, b.sto, fun q => ?_, b.adr, fun q => q.elim b.prot b.own⟩
    have q : a = C := List.mem_singleton.mp q
    obtain ⟨o, ho⟩ := itr.dom _ _ _ hJ₃ a hab
    rw [q, hC] at ho; cases ho
  have hJ₄ : J xs S₂ h₁ := itr.keep _ _ _ _ _ hJ₃ .rfl fun a _ o e => hk₁ _ _ e
  refine codeAny_mono (compStart_ (g := g) rfl (ha g (.head _)) (comp_gen (c := c.block scope C) gs 0 g rfl ha (hf2 C) _ S₂ _ _ it fp J E xs bk _ ok₂ st₄ itr₂ hb₄ hJ₄ (hbk (c.block scope C)) (by rw [← hX₃]; exact hG C D ok₂)) fun R F h => itr₂.self _ _ _ _ _ _ _ st₄ hJ₄ h) fun r s' z => ?_
  cases r with
  | error e => exact z.elim
  | ok f =>
    obtain ⟨S', Y, le, st', q⟩ := z
    have stc := st₃.callOut hb₃ (env := (c.block scope C).env) (own := [C]) le (St.cx (c := c.block scope C) rfl rfl rfl st')
    have hCown := st'.sep C (.inl (.head _))
    have bC' : Bare c B S' ⟨Y.σ, X₃.m⟩ C := ⟨bC.g, bC.base, hCown.2.2, bC.own, st'.dis C (.head _), bC.prot⟩
    obtain ⟨mc, n, _⟩ := st'.fr
    refine ⟨mc, n, fun h' hs' => ⟨S', .raw (.ref D), ⟨Y.σ, X₃.m⟩, u₁.trans (u₂.trans le), .raw _, stc.same hs' bC', by rw [← hX₃]; exact q⟩⟩
end
inductive Fz (D : Addr) (W : AV) : AV → AV → Prop
  | same (V : AV) : Fz D W V V
  | here : Fz D W (.raw (.ref D)) W
  | lst {xs ys : List AV} : xs.length = ys.length → (∀ (i : Nat) x y, xs[i]? = some x → ys[i]? = some y → Fz D W x y) → Fz D W (.lst xs) (.lst ys)
  | tup {xs ys : List AV} : xs.length = ys.length → (∀ (i : Nat) x y, xs[i]? = some x → ys[i]? = some y → Fz D W x y) → Fz D W (.tup xs) (.tup ys)
  | inst {C : Addr} {ks : List Str} {xs ys : List AV} : xs.length = ys.length → (∀ (i : Nat) x y, xs[i]? = some x → ys[i]? = some y → Fz D W x y) → Fz D W (.inst C ks xs) (.inst C ks ys)
theorem Fz.rep {D : Addr} {W V V' : AV} {S S' : Sto} (z : Fz D W V V') (le : S.Le S') (hW : Rep S' (.ref D) W) {v : Value} (r : Rep S v V) : Rep S' v V' := by
  induction z generalizing v with
  | same V => exact r.mono le
  | here => rw [r.raw_inv]; exact hW
  | lst hl _ ih =>
    obtain ⟨a, vs, n, rfl, h1, h2⟩ := r.lst_inv
    refine .lst (le _ _ h1) (h2.1.trans hl) fun i v y hv hy => ?_
    obtain ⟨x, hx⟩ : ∃ x, _ = some x := ⟨_, List.getElem?_eq_getElem (by rw [hl]; exact (List.getElem?_eq_some_iff.mp hy).1)⟩
    exact ih i x y hx hy (h2.2 i v x hv hx)
  | tup hl _ ih =>
    obtain ⟨a, vs, n, rfl, h1, h2⟩ := r.tup_inv
    refine .tup (le _ _ h1) (h2.1.trans hl) fun i v y hv hy => ?_
    obtain ⟨x, hx⟩ : ∃ x, _ = some x := ⟨_, List.getElem?_eq_getElem (by rw [hl]; exact (List.getElem?_eq_some_iff.mp hy).1)⟩
    exact ih i x y hx hy (h2.2 i v x hv hx)
  | inst hl _ ih =>
    obtain ⟨a, d, es, ep, rfl, h1, h2, h3⟩ := r.inst_inv
    refine .inst (le _ _ h1) (le _ _ h2) h3.lk (h3.lv.trans hl) h3.key fun i e y he hy => ?_
    obtain ⟨x, hx⟩ : ∃ x, _ = some x := ⟨_, List.getElem?_eq_getElem (by rw [hl]; exact (List.getElem?_eq_some_iff.mp hy).1)⟩
    exact ih i x y hx hy (h3.val i e x he hx)
def MO.still : MO → Option AV
  | .lst xs => some (.lst xs)
  | .inst C _ ks vs => some (.inst C ks vs)
  | _ => Option.none
section
variable {c : Cx} {B : Bg} {S : Sto} {X : AX} {s : Shared}
theorem St.freeze {D : Addr} {mo : MO} {W : AV} {σ' : List (Addr × MO)} (st : St c B S X s) (h : SDel D mo X.σ σ') (hW : mo.still = some W) : ∃ S', S.Le S' ∧ (∀ a o, S' a o → S a o ∨ (s.heap.get? a = some o ∧ a ∈ AX.adr X.σ)) ∧ Rep S' (.ref D) W ∧ St c B S' ⟨σ', X.m⟩ s := by
  have hb := st.bareM h
  have st' : St c B S ⟨σ', X.m⟩ s := st.weak (X' := ⟨σ', X.m⟩) h.sub fun _ _ e => e
  have hin : ∀ b ∈ mo.addrs D, b ∈ AX.adr X.σ := fun b hb => AX.mem_adr h.mem hb
  cases mo with
  | lst xs =>
    cases hW
    obtain ⟨vs, n, h1, h2⟩ := st.get h.mem
    refine ⟨S.put D (seqObj "list" vs.toArray n), Sto.put_le _ _ _, fun a o e => e.imp id fun q => ?_, .lst' (Sto.put_self _ _ _) (h2.mono (Sto.put_le _ _ _)), st'.addS (Sto.put_le _ _ _) fun a o e => e.imp id fun q => ?_⟩
    · rw [q.1, q.2]; exact ⟨h1, hin _ (.head _)⟩
    · rw [q.1, q.2]; exact ⟨h1, (hb D (.head _)).own, (hb D (.head _)).adr, (hb D (.head _)).prot⟩
  | inst C d ks vs =>
    cases hW
    obtain ⟨h1, es, ep, h2, h3⟩ := st.get h.mem
    refine ⟨(S.put D (instObj C d)).put d (dictOf es ep), (Sto.put_le _ _ _).trans (Sto.put_le _ _ _), fun a o e => ?_, .inst' (Sto.put_le _ _ _ _ _ (Sto.put_self _ _ _)) (Sto.put_self _ _ _) (h3.mono ((Sto.put_le _ _ _).trans (Sto.put_le _ _ _))), st'.addS ((Sto.put_le _ _ _).trans (Sto.put_le _ _ _)) fun a o e => ?_⟩
    · rcases e with (e | q) | q
      · exact .inl e
      · rw [q.1, q.2]; exact .inr ⟨h1, hin _ (.head _)⟩
      · rw [q.1, q.2]; exact .inr ⟨h2, hin _ (.tail _ (.head _))⟩
    · rcases e with (e | q) | q
      · exact .inl e
      · have := hb D (.head _); rw [q.1, q.2]; exact .inr ⟨h1, this.own, this.adr, this.prot⟩
      · have := hb d (.tail _ (.head _)); rw [q.1, q.2]; exact .inr ⟨h2, this.own, this.adr, this.prot⟩
  | obj o => cases hW
  | ext as R => cases hW
end
section
variable {c : Cx} {X : AX}
theorem Conv.freeze {D : Addr} {mo : MO} {W : AV} {σ' : List (Addr × MO)} {m' : List (Str × AV)} (h : SDel D mo X.σ σ') (hW : mo.still = some W) (hm : ∀ x V', m'.lookup x = some V' → ∃ V, X.m.lookup x = some V ∧ Fz D W V V') : Conv c X ⟨σ', m'⟩ := by
  intro B S s st
  obtain ⟨S', le, new, r, st'⟩ := st.freeze h hW
  refine ⟨S', le, new, st'.loc, st'.gr, st'.base, st'.sto, st'.cel, ?_, st'.mu, st'.nd, st'.sep, st'.dis, st'.dom, st'.prot, st'.pin, st'.os, st'.gens, st'.drawn⟩
  obtain ⟨mc, n, f⟩ := st.fr
  refine ⟨mc, n, fun x V' e => ?_⟩
  obtain ⟨V, hV, z⟩ := hm x V' e
  obtain ⟨v, rv, y⟩ := f x V hV
  exact ⟨v, z.rep le r rv, y⟩
theorem Conv.trans {X Y Z : AX} (h : Conv c X Y) (k : Conv c Y Z) (hsub : ∀ a, a ∈ AX.adr Y.σ → a ∈ AX.adr X.σ) : Conv c X Z := fun B S s st => by
  obtain ⟨S₁, l1, n1, st1⟩ := h B S s st
  obtain ⟨S₂, l2, n2, st2⟩ := k B S₁ s st1
  exact ⟨S₂, l1.trans l2, fun a o e => (n2 a o e).elim (n1 a o) fun q => .inr ⟨q.1, hsub a q.2⟩, st2⟩
theorem WT.pre {α β : Type} {R : Sto → α → β → Prop} {t : Sem α} {Q : β → AX → Prop} {Y : AX} (h : Conv c X Y) (k : WT c R t Q Y) : WT c R t Q X := fun B S s ok st => by
  obtain ⟨S', le, _, st'⟩ := h B S s st
  exact wpAny_mono (k B S' s ok st') (fun _ _ p => p.up le) fun _ _ e => e
def ConvV (c : Cx) (V : AV) (X : AX) (V' : AV) (X' : AX) : Prop := ∀ B S s v, Rep S v V → St c B S X s → ∃ S', S.Le S' ∧ Rep S' v V' ∧ St c B S' X' s
theorem ConvV.rfl {V : AV} : ConvV c V X V X := fun B S s v r st => ⟨S, .rfl, r, st⟩
theorem ConvV.weak {V : AV} {Y : AX} (hσ : Y.σ.Sublist X.σ) (hm : ∀ x V, Y.m.lookup x = some V → X.m.lookup x = some V) : ConvV c V X V Y := fun B S s v r st => ⟨S, .rfl, r, st.weak hσ hm⟩
theorem ConvV.freeze {V V' : AV} {D : Addr} {mo : MO} {W : AV} {σ' : List (Addr × MO)} {m' : List (Str × AV)} (h : SDel D mo X.σ σ') (hW : mo.still = some W) (hV : Fz D W V V') (hm : ∀ x V', m'.lookup x = some V' → ∃ V, X.m.lookup x = some V ∧ Fz D W V V') : ConvV c V X V' ⟨σ', m'⟩ := by
  intro B S s v rv st
  obtain ⟨S', le, new, r, st'⟩ := st.freeze h hW
  refine ⟨S', le, hV.rep le r rv, st'.loc, st'.gr, st'.base, st'.sto, st'.cel, ?_, st'.mu, st'.nd, st'.sep, st'.dis, st'.dom, st'.prot, st'.pin, st'.os, st'.gens, st'.drawn⟩
  obtain ⟨mc, n, f⟩ := st.fr
  refine ⟨mc, n, fun x V' e => ?_⟩
  obtain ⟨V, hV, z⟩ := hm x V' e
  obtain ⟨v, rv, y⟩ := f x V hV
  exact ⟨v, z.rep le r rv, y⟩
theorem ConvV.trans {V V' V'' : AV} {X X' X'' : AX} (h : ConvV c V X V' X') (k : ConvV c V' X' V'' X'') : ConvV c V X V'' X'' := fun B S s v r st => by
  obtain ⟨S₁, l1, r1, st1⟩ := h B S s v r st
  obtain ⟨S₂, l2, r2, st2⟩ := k B S₁ s v r1 st1
  exact ⟨S₂, l1.trans l2, r2, st2⟩
theorem WE.conv {t : Sem Value} {Q : AV → AX → Prop} (h : WT c Rep t (fun V Y => ∃ V' Y', ConvV c V Y V' Y' ∧ Q V' Y') X) : WT c Rep t Q X := fun B S s ok st =>
  wpAny_mono (h B S s ok st) (fun v s' ⟨S', V, Y, le, r, st', V', Y', k, q⟩ => let ⟨S₂, l2, r2, st2⟩ := k B S' s' v r st'; ⟨S₂, V', Y', le.trans l2, r2, st2, q⟩) fun _ _ e => e
theorem WF.conv {f : Value} {Vs : List AV} {kws : List (Str × AV)} {Q : AV → AX → Prop} (h : WF c f Vs kws (fun V Y => ∃ V' Y', ConvV c V Y V' Y' ∧ Q V' Y') X) : WF c f Vs kws Q X := by
  intro B S s vs kw ok r rk st
  refine codeAny_mono (h B S s vs kw ok r rk st) fun r s' p => ?_
  refine ⟨?_, p.2⟩
  replace p := p.1
  rcases r with e | (v | _ | _ | _) <;> first | exact p | skip
  obtain ⟨S', V, Y, le, r, st', V', Y', k, q⟩ := p
  obtain ⟨S₂, l2, r2, st2⟩ := k B S' s' _ r st'
  exact ⟨S₂, V', Y', le.trans l2, r2, st2, q⟩
theorem WC.conv {f : Value} {Vs : List AV} {kws : List (Str × AV)} {Q : AV → AX → Prop} (h : WC c f Vs kws (fun V Y => ∃ V' Y', ConvV c V Y V' Y' ∧ Q V' Y') X) : WC c f Vs kws Q X := fun B S s vs kw ok r rk st =>
  wpAny_mono (h B S s vs kw ok r rk st) (fun v s' ⟨S', V, Y, le, r, st', V', Y', k, q⟩ => let ⟨S₂, l2, r2, st2⟩ := k B S' s' v r st'; ⟨S₂, V', Y', le.trans l2, r2, st2, q⟩) fun _ _ e => e
end
section
variable {c : Cx} {X : AX} {Q : AV → AX → Prop}
theorem M_list {name : Str} {id : String} {pl pos args kws} {a : Addr} {xs : List AV} (hm : (a, MO.lst xs) ∈ X.σ) (slot : Slot "list" name id) (hty : typeOf (.builtin id) = pure (.type "method_descriptor"))
    (h : WArgs c pos args kws (fun Us Ks X₁ => WC c (.builtin id) (.raw (.ref a) :: Us) Ks Q X₁) X) (he : ∀ e r, args = e :: r → starEach args c.env = (false, eval e c.env) :: starEach r c.env := by intro _ _ h; first | (cases h; rfl) | cases h) (hall : (backToKw pos (keywordEach kws c.env)).all (·.1.isSome) = true := by rfl) : WM c name pl pos args kws (.raw (.ref a)) Q X := by
  intro B S s v ok r st
  rw [r.raw_inv]
  obtain ⟨vs, n, h1, h2⟩ := st.get hm
  refine wpAny_bind (getMethod_builtin ⟨_, h1, rfl⟩ PySem.F.plainAttrs_list slot hty (fun b e => by cases e; exact ⟨_, h1, rfl⟩) ?_)
  exact run_call (Fs := [.raw (.ref a)]) ok st (.cons (.raw _) .nil) (fun h X0 _ => keeper_builtin h X0) h he hall
theorem B_append {a : Addr} {V : AV} {xs : List AV} {σ' : List (Addr × MO)} (U : SUpd a (.lst xs) (.lst (xs ++ [V])) X.σ σ') (hz : xs.length ≤ 1000000) (h : Q .none ⟨σ', X.m⟩) : WC c (.builtin "list.append") [.raw (.ref a), V] [] Q X := by
  intro B S s vs kw ok r rk st
  obtain ⟨v, t, rfl, r1, r2⟩ := r.cons_inv
  obtain ⟨u, t, rfl, r3, r4⟩ := r2.cons_inv
  cases r4.nil_inv
  rw [r1.raw_inv]
  have : kw = [] := by have := rk.1; simpa using this
  subst this
  exact append_M st r3 U hz fun s' st' => ⟨S, .none, _, .rfl, .none, st', h⟩
theorem B_pop {a : Addr} {V : AV} {xs : List AV} {σ' : List (Addr × MO)} (U : SUpd a (.lst (xs ++ [V])) (.lst xs) X.σ σ') (hz : xs.length ≤ 1000000) (h : Q V ⟨σ', X.m⟩) : WC c (.builtin "list.pop") [.raw (.ref a)] [] Q X := by
  intro B S s vs kw ok r rk st
  obtain ⟨v, t, rfl, r1, r2⟩ := r.cons_inv
  cases r2.nil_inv
  rw [r1.raw_inv]
  have : kw = [] := by have := rk.1; simpa using this
  subst this
  obtain ⟨vs, n, h1, h2⟩ := st.get U.mem
  obtain ⟨us, u, rfl⟩ : ∃ us u, vs = us ++ [u] := by
    rcases List.eq_nil_or_concat vs with rfl | ⟨us, u, e⟩
    · have := h2.1; simp at this
    · exact ⟨us, u, by simpa using e⟩
  have hlen : us.length = xs.length := by have := h2.1; simpa using this
  have ru : Rep S u V := h2.2 us.length u V (by simp) (by rw [hlen]; simp)
  have rus : Reps S us xs := ⟨hlen, fun i v V hv hV => by
    have hi : i < us.length := (List.getElem?_eq_some_iff.mp hv).1
    exact h2.2 i v V (by rw [List.getElem?_append_left hi]; exact hv) (by rw [List.getElem?_append_left (by rw [← hlen]; exact hi)]; exact hV)⟩
  have hz' : (us ++ [u]).toArray.size ≤ sizeLine := by rw [sizeLine_eq, List.size_toArray]; simp; lia
  have hk : (us ++ [u]).toArray.size - 1 = us.length := by rw [List.size_toArray, List.length_append]; rfl
  have hy : (us ++ [u]).toArray[(us ++ [u]).toArray.size - 1]? = some u := by rw [hk]; simp
  refine call_meets PySem.F.slot_list_pop ⟨_, h1, rfl⟩ PySem.F.entry_list_pop (PySem.F.args_list_pop_1 _) (PySem.MeetsSeq.list_pop_last a _ n u hy hz') ⟨h1, S, V, _, .rfl, ru, st.upd U rfl (KeepsBut.of_same (Heap.SameBut.update ..)) ⟨us, n + 1, ?_, rus⟩ rfl rfl rfl, h⟩
  have q := PySem.IsL.update h1 (fun xs => xs.eraseIdxIfInBounds ((us ++ [u]).toArray.size - 1))
  rw [hk, kl_erase, List.append_nil, if_neg (by simp)] at q
  rw [hk]
  exact q
theorem B_len_lst {xs : List AV} (hz : xs.length < 2 ^ 62) (h : Q (.int xs.length) X) : WC c (.builtin "len") [.lst xs] [] Q X := by
  intro B S s vs kw ok r rk st
  obtain ⟨v, t, rfl, r1, r2⟩ := r.cons_inv
  cases r2.nil_inv
  have : kw = [] := by have := rk.1; simpa using this
  subst this
  obtain ⟨a, vs, n, rfl, h1, h2⟩ := r1.lst_inv
  refine PyProof.Rows.len_list (items := vs.toArray) ⟨_, st.sto _ _ h1, rfl, n, rfl⟩ (by rw [List.size_toArray, h2.1]; lia) ?_
  rw [List.size_toArray, h2.1]
  exact ⟨S, _, X, .rfl, .int _ _, st.toks _, h⟩
theorem B_len_mlst {xs : List AV} {a : Addr} (hm : (a, MO.lst xs) ∈ X.σ) (hz : xs.length < 2 ^ 62) (h : Q (.int xs.length) X) : WC c (.builtin "len") [.raw (.ref a)] [] Q X := by
  intro B S s vs kw ok r rk st
  obtain ⟨v, t, rfl, r1, r2⟩ := r.cons_inv
  cases r2.nil_inv
  have : kw = [] := by have := rk.1; simpa using this
  subst this
  rw [r1.raw_inv]
  obtain ⟨vs, n, h1, h2⟩ := st.get hm
  refine PyProof.Rows.len_list (items := vs.toArray) ⟨_, h1, rfl, n, rfl⟩ (by rw [List.size_toArray, h2.1]; lia) ?_
  rw [List.size_toArray, h2.1]
  exact ⟨S, _, X, .rfl, .int _ _, st.toks _, h⟩
theorem B_len_tup {xs : List AV} (hz : xs.length < 2 ^ 62) (h : Q (.int xs.length) X) : WC c (.builtin "len") [.tup xs] [] Q X := by
  intro B S s vs kw ok r rk st
  obtain ⟨v, t, rfl, r1, r2⟩ := r.cons_inv
  cases r2.nil_inv
  have : kw = [] := by have := rk.1; simpa using this
  subst this
  obtain ⟨a, vs, n, rfl, h1, h2⟩ := r1.tup_inv
  refine PyProof.Rows.len_tuple (items := vs.toArray) ⟨_, st.sto _ _ h1, rfl, n, rfl⟩ (by rw [List.size_toArray, h2.1]; lia) ?_
  rw [List.size_toArray, h2.1]
  exact ⟨S, _, X, .rfl, .int _ _, st.toks _, h⟩
end
theorem Gd.make {A : Around} {d : Nat} (C : Addr) (vals : List Value) (kw : List (Str × Value)) (x : Gd A (d + 1)) : Gd (A.under (.builtin "type.__call__" ⟨.ref C :: vals, kw⟩)) d := ⟨x.hd, by have := x.dp; show A.depth + 1 + d < _; lia, by have := x.un; show A.units + 1 + 8 * d + 8 < _; lia⟩
section
variable {c : Cx} {X : AX} {Q : AV → AX → Prop}
theorem WF.new {C fI : Addr} {Vs : List AV} {kws : List (Str × AV)} {d : Nat} (hm : makesIn c.K C = true) (hi : findIn c.K (.ref C) "__init__" = some (some (.ref fI))) (hf : typeIn c.K (.ref fI) = some (.type "function")) (G : Gd c.A (d + 1))
    (h : ∀ a dd c', Kin c c' → c'.env = c.env → c'.own = c.own → c'.Ok → Gd c'.A d → WF c' (.ref fI) (.raw (.ref a) :: Vs) kws (fun V X' => V = .none ∧ Q (.raw (.ref a)) X') ⟨(a, .inst C dd [] []) :: X.σ, X.m⟩) : WF c (.ref C) Vs kws Q X := by
  intro B S s vs kw ok r rk st
  have X0 := ok.X.keeps st.gr
  obtain ⟨hp, gs, dr, tk, os⟩ := s
  refine make_core (makes_of X0 hm) (looks_findIn X0 hi) (fun self => bind_fn X0 self hf) (.inl rfl) ?_
  have e1 : (hp.push emptyDict).objs.size = hp.objs.size + 1 := Heap.size_push _ _
  have ba := st.bare (a := hp.objs.size + 1) (get?_lt_none (Nat.le_succ _))
  have bd := st.bare (a := hp.objs.size) (get?_lt_none (Nat.le_refl _))
  have ha : ((hp.push emptyDict).push (instObj C hp.objs.size)).get? (hp.objs.size + 1) = some (instObj C hp.objs.size) := by rw [← e1]; exact Heap.get?_push_size _ rfl
  have hd : ((hp.push emptyDict).push (instObj C hp.objs.size)).get? hp.objs.size = some (dictOf [] 0) := Heap.get?_push_of_some _ (Heap.get?_push_size _ rfl)
  have kp : Keeps hp ((hp.push emptyDict).push (instObj C hp.objs.size)) := (Keeps.push _ _).trans (Keeps.push _ _)
  have st1 : St c B S ⟨(hp.objs.size + 1, .inst C hp.objs.size [] []) :: X.σ, X.m⟩ ⟨(hp.push emptyDict).push (instObj C hp.objs.size), gs, dr, tk, os⟩ := by
    refine (st.grow (s' := ⟨(hp.push emptyDict).push (instObj C hp.objs.size), gs, dr, tk, os⟩) kp rfl rfl rfl).addM (mo := .inst C hp.objs.size [] []) ⟨ha, [], 0, hd, rfl, rfl, fun i e k h => by simp at h, fun i e V h => by simp at h⟩ (by simp [MO.addrs]) fun b hb => ?_
    simp only [MO.addrs, List.mem_cons, List.not_mem_nil, or_false] at hb
    rcases hb with rfl | rfl
    · exact ba
    · exact bd
  let c' : Cx := { c with A := c.A.under (.builtin "type.__call__" ⟨.ref C :: vs, kw⟩) }
  have ok' : c'.Ok := ⟨ok.X, ok.T, (G.make C vs kw).le rfl, ok.gl, ok.bi, ok.fk, ok.noE, ok.kl, ok.cnd⟩
  have := h (hp.objs.size + 1) hp.objs.size c' ⟨rfl, rfl, rfl, rfl, rfl⟩ rfl rfl ok' (G.make C vs kw) B S _ (.ref (hp.objs.size + 1) :: vs) kw ok' (.cons (.raw _) r) rk (St.cx (c := c) rfl rfl rfl st1)
  refine codeAny_mono this fun r s' hz₉ => ?_
  obtain ⟨z, zs⟩ := hz₉
  have kso : c.Stays ⟨hp, gs, dr, tk, os⟩ s' := fun a ha o e => zs a ha o (kp _ _ e)
  rcases r with e | (v | _ | _ | _) <;> first | exact z | exact ⟨z, kso⟩ | exact z.elim | exact z.1.elim | skip
  obtain ⟨S', V, Y, le, rv, st', rfl, q⟩ := z
  refine ⟨rv.none_inv, ?_, kso⟩
  exact ⟨S', _, Y, le, .raw _, St.cx (c := c') rfl rfl rfl st', q⟩
def setKV (x : Str) (V : AV) : List Str → List AV → List Str × List AV
  | k :: ks, U :: vs => if k = x then (k :: ks, V :: vs) else (k :: (setKV x V ks vs).1, U :: (setKV x V ks vs).2)
  | _, _ => ([x], [V])
theorem Ents.cons {S : Sto} {e : DictEntry} {es : List DictEntry} {k : Str} {ks : List Str} {V : AV} {vs : List AV} {t : Tok} (hk : e.key = .str k t) (hv : Rep S e.val V) (h : Ents S es ks vs) : Ents S (e :: es) (k :: ks) (V :: vs) := by
  refine ⟨by simp [h.lk], by simp [h.lv], fun i e' k' a b => ?_, fun i e' V' a b => ?_⟩
  · cases i with
    | zero => simp at a b; subst a b; exact ⟨t, hk⟩
    | succ i => simp at a b; exact h.key i e' k' a b
  · cases i with
    | zero => simp at a b; subst a b; exact hv
    | succ i => simp at a b; exact h.val i e' V' a b
theorem Ents.put {S : Sto} {x : Str} {hsh : Int} {tk : Tok} {v : Value} {V : AV} (r : Rep S v V) : ∀ {ks : List Str} {vs : List AV} {es : List DictEntry}, Ents S es ks vs → Ents S (putL x hsh (.str x tk) v es) (setKV x V ks vs).1 (setKV x V ks vs).2
  | [], vs, es, h => by
    obtain ⟨rfl, rfl⟩ := h.nil_inv
    exact .cons (e := ⟨hsh, .str x tk, v⟩) rfl r h
  | k :: ks, [], es, h => by have a := h.lk; have b := h.lv; rw [a] at b; simp at b
  | k :: ks, U :: vs, es, h => by
    obtain ⟨e, t, tk', rfl, h1, h2, h3⟩ := h.cons_inv
    unfold putL setKV
    have hs : e.key.isStr x = (k == x) := by rw [h1]; rfl
    rw [hs]
    by_cases q : k = x
    · subst q; rw [if_pos (by simp), if_pos rfl]; exact .cons (e := ⟨e.hash, e.key, v⟩) h1 r h3
    · rw [if_neg (by simpa using q), if_neg q]; exact .cons h1 h2 (Ents.put r h3)
theorem Ents.look {S : Sto} {x : Str} {ks : List Str} {vs : List AV} {es : List DictEntry} (h : Ents S es ks vs) : (getL x es).isSome = true := by
  by_cases q : x ∈ ks
  · induction ks generalizing vs es with
    | nil => cases q
    | cons k ks ih =>
      cases vs with
      | nil => have a := h.lk; have b := h.lv; rw [a] at b; simp at b
      | cons U vs =>
        obtain ⟨e, t, tk', rfl, h1, h2, h3⟩ := h.cons_inv
        rw [getL_cons x e t k tk' h1]
        split
        · rfl
        · rename_i z
          rcases List.mem_cons.mp q with rfl | q
          · exact absurd rfl z
          · exact ih h3 q
  · rw [h.miss q]; rfl
theorem setAttr_raw {P : Program} {w : World} {A : Around} {E : Value → Shared → Prop} {s : Shared} {K : Frag} {x C dx : Addr} {es : List DictEntry} {n : Nat} {name : Str} {v : Value} {R : Unit → Shared → Prop} (X : K.In s.heap) (I : W.InstAt s.heap x (instObj C dx) C (some (dictOf es n)))
    (hs : findIn K (.ref C) "__setattr__" = some (some (.builtin "object.__setattr__"))) (hp : plainOver K C = true) (ht : takerIn K C name = some none) (hh : hasDictIn K C = true) (hl : (getL name es).isSome = true) (hz : es.length ≤ 100)
    (h : ∀ h' hsh tk n' t', Heap.SameBut dx s.heap h' → h'.get? dx = some (dictOf (putL name hsh (.str name tk) v es) n') → R () { s with heap := h', toks := t' }) : wpAny (model P w) A (setAttr (.ref x) name v) R E s := by
  refine set_plain X I hs (osa_open (s := { s with toks := s.toks + 1 }) X I hp ht fun b => ?_)
  obtain ⟨cd, hc, hd'⟩ := any_some hh
  have D : s.heap.get? dx = some (dictOf es n) := I.dict
  have lenP : ∀ l : List DictEntry, (putL name (PyData.keyHash w.params name) (.str name (s.toks + 1)) v l).length ≤ l.length + 1 := by
    intro l
    induction l with
    | nil => simp [putL]
    | cons e r ih => unfold putL; split <;> simp <;> lia
  have D' : (s.heap.update dx (Obj.putName name (PyData.keyHash w.params name) (.str name (s.toks + 1)) v)).get? dx = some (dictOf (putL name (PyData.keyHash w.params name) (.str name (s.toks + 1)) v es) (putN name es n)) := by
    rw [Heap.get?_update_self _ D (by rw [putName_dict]; rfl), putName_dict]
  refine wpAny_bind (wpAny_pure (wpAny_bind (wpAny_bind (wpAny_loadPart I.at_ (wpAny_bind (Looks.here (s := { s with toks := s.toks + 1 }) (looks_clsIn X hc) ?_))))))
  rw [hd']
  refine wpAny_pure (a := some dx) (wpAny_bind (wpAny_pure (wpAny_bind ?_)))
  unfold nsSet
  refine wpAny_bind (wpAny_bind (wpAny_askSetting (wpAny_pure (wpAny_bind (wpAny_mkText (wpAny_bind (wpAny_loadPart D ?_)))))))
  dsimp only
  have c0 : (!(es.toArray.any (·.key.isStr name)) && es.toArray.any (·.refKey)) = false := by
    unfold getL at hl
    rw [← Array.any_toList, ← Array.any_toList]
    split at hl
    · rename_i en he
      rw [List.any_eq_true.mpr ⟨en, List.mem_of_find?_eq_some he, List.find?_some he⟩]; rfl
    · split at hl
      · cases hl
      · rename_i z; rw [Bool.not_eq_true] at z; rw [z, Bool.and_false]
  rw [aRefKeyMayBeTheName_at, c0]
  refine wpAny_updatePart D ?_
  refine wpAny_bind (wpAny_lookBehind D' (pastItsLine_dict (by rw [List.size_toArray, sizeLine_eq]; have := lenP es; lia)) ?_)
  exact wpAny_pure (h _ _ _ _ _ (Heap.SameBut.update ..) D')
end
section
variable {c : Cx} {X : AX}
theorem A_attr {o : Expr} {attr : Str} {pos : Pos} {V : AV} {Q : AX → Prop}
    (h : WE c o (fun U X₁ => ∃ a C d ks vs σ', U = .raw (.ref a) ∧ SUpd a (.inst C d ks vs) (.inst C d (setKV attr V ks vs).1 (setKV attr V ks vs).2) X₁.σ σ' ∧ vs.length ≤ 100 ∧
      findIn c.K (.ref C) "__setattr__" = some (some (.builtin "object.__setattr__")) ∧ plainOver c.K C = true ∧ takerIn c.K C attr = some none ∧ hasDictIn c.K C = true ∧ Q ⟨σ', X₁.m⟩) X) : WA c (.Attribute o attr pos) V Q X := by
  intro B S s v ok r st
  show wpAny _ _ (do let ov ← holding [v] (eval o c.env); standAt pos.atName; holding [v, ov] (setAttr ov attr v); release [v, ov] []) _ _ _
  refine wpAny_bind (wpAny_holding (wpAny_mono (h B S s ok st) (fun ov s₁ hz₉ => ?_) fun _ _ e => e))
  obtain ⟨S₁, U, X₁, u₁, ru, st₁, a, C, d, ks, vs, σ', eU, hU, hz, h1, h2, h3, h4, q⟩ := hz₉
  subst eU
  rw [ru.raw_inv]
  obtain ⟨g1, es, ep, g2, g3⟩ := st₁.get hU.mem
  refine wpAny_bind (wpAny_standAt (wpAny_bind (wpAny_holding (setAttr_raw (ok.X.keeps st₁.gr) ⟨g1, rfl, rfl, g2⟩ h1 h2 h3 h4 g3.look (by rw [g3.lv]; exact hz) fun h' hsh tk n' t' hs e => ?_))))
  have st₂ : St c B S₁ ⟨σ', X₁.m⟩ { s₁ with heap := h', toks := t' } := by
    refine st₁.upd hU rfl (fun b o hb e => ?_) ⟨?_, _, n', e, g3.put (r.mono u₁)⟩ rfl rfl rfl
    · simp only [MO.addrs, List.mem_cons, List.not_mem_nil, or_false, not_or] at hb
      exact (hs.2 b hb.2).trans e
    · have had : a ≠ d := by
        have nd := st₁.nd
        obtain ⟨pre, post, e1, _⟩ := hU.split
        rw [e1, AX.adr_append, AX.adr_cons] at nd
        have := (List.nodup_append.mp (List.nodup_append.mp nd).2.1).1
        simpa [MO.addrs] using this
      exact (hs.2 a had).trans g1
  refine (fun Γ p hΓ => ?_ : wpAny _ _ _ _ _ _)
  rw [Sem.wp_release]
  exact ⟨S₁, (), _, u₁, rfl, st₂, q⟩
theorem S_assignT {t value pos} {Q : AF → AX → Prop} (h : WE c value (fun V X₁ => WA c t V (fun X₂ => Q .next X₂) X₁) X) (hs : swapsWithSole [t] value pos.line c.env = pure false := by rfl) (hw : swappedStores [t] value c.env = pure none := by rfl) (he : (assignEach [t] c.env).map (·.2) = [assign t c.env] := by rfl) : WS c (.Assign [t] value pos) Q X :=
  fun B S s ok st => wpAny_Assign_stores (wpAny_mono (h B S s ok st) (fun v s₁ ⟨S₁, V, X₁, u₁, r, st₁, h₁⟩ => by
    rw [he]
    show wpAny _ _ (assign t c.env v) _ _ _
    exact wpAny_mono (h₁ B S₁ s₁ v ok r st₁) (fun _ s₂ ⟨S₂, _, X₂, u₂, _, st₂, h₂⟩ => ⟨S₂, .next, X₂, u₁.trans u₂, .next, st₂, h₂⟩) fun _ _ e => e) fun _ _ e => e) hs hw
end
section
open PySem.Spec PySem.SeqAt
def cutAt (h : Heap) (L : Addr) : Heap := ⟨h.objs.extract 0 L, h.life⟩
theorem cutAt_get {h : Heap} {L a : Addr} {o : Obj} (e : (cutAt h L).get? a = some o) : h.get? a = some o := by
  unfold cutAt Heap.get? at e
  unfold Heap.get?
  dsimp only at e
  rw [Array.getElem?_extract] at e
  by_cases q : a < min L h.objs.size - 0
  · rw [if_pos q, Nat.zero_add] at e; exact e
  · rw [if_neg q] at e; cases e
theorem cutAt_lt {h : Heap} {L a : Addr} {o : Obj} (e : h.get? a = some o) (q : a < L) : (cutAt h L).get? a = some o := by
  have hl := Heap.lt_size e
  unfold Heap.get? at e
  unfold cutAt Heap.get?
  dsimp only
  rw [Array.getElem?_extract, if_pos (by rw [Nat.sub_zero]; exact Nat.lt_min.mpr ⟨q, hl⟩), Nat.zero_add]; exact e
section
variable {c : Cx} {X : AX} {Q : AV → AX → Prop} {B : Bg} {S : Sto} {s : Shared}
theorem St.toFr (ok : c.Ok) (st : St c B S X s) : ∃ h₀ mc, Fr h₀ c.env.locals s.heap mc ∧ c.K.In h₀ := by
  obtain ⟨mc, n, _⟩ := st.fr
  refine ⟨cutAt s.heap c.env.locals, mc, ⟨n, fun b o e => cutAt_get e, ?_⟩, fun a o e => cutAt_lt ((ok.X.keeps st.gr) a o e) (ok.kl a o e)⟩
  unfold cutAt
  rw [Array.size_extract]; lia
theorem IsInst.type {V : AV} {v : Value} {C : Addr} {ks : List Str} {vs : List AV} (h : IsInst X V C ks vs) (st : St c B S X s) (r : Rep S v V) : ∀ M, Looks M s.heap (typeOf v) (.ref C) := fun M => by
  obtain ⟨a, d, es, ep, rfl, I, _⟩ := h.at st r
  exact InstAt.type I
theorem O_cmp {op : CmpOp} {V U : AV} {C C' f : Addr} {ks ks' : List Str} {vs vs' : List AV} (hi : IsInst X V C ks vs) (hi' : IsInst X U C' ks' vs') (hn : notFirst c.K C (.ref C') = true) (hs : findIn c.K (.ref C) (cmpInfo op).2.1 = some (some (.ref f))) (hf : isFn c.K (.ref f) = true)
    (hop : ∀ a b, compareOp op a b = richCompare op a b) (h : WF c (.ref f) [V, U] [] (fun W X' => ∃ b, W = .bool b ∧ Q (.bool b) X') X) : W2 c Rep V U (compareOp op) Q X := by
  intro B S s v u ok r₁ r₂ st
  have ht := hi'.type st r₂
  obtain ⟨a, d, es, ep, rfl, I, _⟩ := hi.at st r₁
  obtain ⟨h₀, mc, F, X₀⟩ := st.toFr ok
  rw [hop]
  refine cmp_K ok.G.units F X₀ I (ht _) hn hs hf (wpAny_call (codeAny_mono (h B S s [_, u] [] ok (.cons r₁ (.cons r₂ .nil)) .nil st) fun r s' z => ?_))
  replace z := z.1
  rcases r with e | (v | _ | _ | _) <;> first | exact z | exact z.elim | skip
  obtain ⟨S', W, X', le, rw', st', b, rfl, q⟩ := z
  rw [rw'.bool_inv]
  exact ⟨S', .bool b, X', le, .bool b, st', q⟩
abbrev AV.ints (ns : List Int) : AV := .lst (ns.map .int)
abbrev AV.pr (p : Int × Int) : AV := .tup [.int p.1, .int p.2]
abbrev AV.prs (ps : List (Int × Int)) : AV := .lst (ps.map .pr)
theorem Reps.ints {vs : List Value} : ∀ {ns : List Int}, Reps S vs (ns.map .int) → IntsAre vs ns := by
  intro ns
  induction ns generalizing vs with
  | nil => intro h; rw [h.nil_inv]; exact .nil
  | cons n r ih =>
    intro h
    obtain ⟨v, t, rfl, r1, r2⟩ := h.cons_inv
    obtain ⟨tk, rfl⟩ := r1.int_inv
    exact .cons n tk (ih r2)
theorem O_eqInts {ns ms : List Int} (G : Gd c.A 8) (h : Q (.bool (decide (ns = ms))) X) : W2 c Rep (.ints ns) (.ints ms) (compareOp .Eq) Q X := by
  intro B S s v u ok r₁ r₂ st
  obtain ⟨a, vs, n, rfl, h1, h2⟩ := r₁.lst_inv
  obtain ⟨b, us, k, rfl, g1, g2⟩ := r₂.lst_inv
  exact eq_intsK ⟨_, st.sto _ _ h1, rfl, n, rfl⟩ h2.ints ⟨_, st.sto _ _ g1, rfl, k, rfl⟩ g2.ints (by have := G.un; lia) ⟨S, _, X, .rfl, .bool _, st, h⟩
theorem O_neInts {ns ms : List Int} (G : Gd c.A 8) (h : Q (.bool (!decide (ns = ms))) X) : W2 c Rep (.ints ns) (.ints ms) (compareOp .NotEq) Q X := by
  intro B S s v u ok r₁ r₂ st
  obtain ⟨a, vs, n, rfl, h1, h2⟩ := r₁.lst_inv
  obtain ⟨b, us, k, rfl, g1, g2⟩ := r₂.lst_inv
  exact ne_intsK ⟨_, st.sto _ _ h1, rfl, n, rfl⟩ h2.ints ⟨_, st.sto _ _ g1, rfl, k, rfl⟩ g2.ints (by have := G.un; lia) ⟨S, _, X, .rfl, .bool _, st, h⟩
end
end
def aboveOf (h : Heap) (L : Addr) : List (Addr × Obj) := (List.range h.objs.size).filterMap fun b => if L < b then (h.get? b).map fun o => (b, o) else none
theorem mem_above {h : Heap} {L b : Addr} {o : Obj} : (b, o) ∈ aboveOf h L ↔ L < b ∧ h.get? b = some o := by
  unfold aboveOf
  rw [List.mem_filterMap]
  constructor
  · rintro ⟨x, hx, e⟩
    split at e
    · rename_i q
      obtain ⟨p, hp, e⟩ := Option.map_eq_some_iff.mp e
      cases e; exact ⟨q, hp⟩
    · cases e
  · rintro ⟨q, e⟩
    exact ⟨b, List.mem_range.mpr (Heap.lt_size e), by rw [if_pos q, e]; rfl⟩
section
variable {c : Cx} {X : AX} {B : Bg} {S : Sto} {s : Shared}
structure Opened (c : Cx) (B : Bg) (S : Sto) (X : AX) (s : Shared) (h₀ : Heap) (mc : Str → Option Value) (full : List (Addr × Obj)) : Prop where
  F : Fr h₀ c.env.locals s.heap mc
  K : c.K.In h₀
  N : News h₀ c.env.locals s.heap full
  all : ∀ b o, s.heap.get? b = some o → b ≠ c.env.locals → h₀.get? b = some o ∨ (b, o) ∈ full
  fit : ∀ p ∈ full, s.heap.get? p.1 = some p.2
  low : ∀ b o, h₀.get? b = some o → s.heap.get? b = some o
end
theorem one_arg {S : Sto} {vs : List Value} {V : AV} (r : Reps S vs [V]) : ∃ v, vs = [v] ∧ Rep S v V := by
  obtain ⟨v, t, rfl, r1, r2⟩ := r.cons_inv
  cases r2.nil_inv; exact ⟨v, rfl, r1⟩
theorem two_args {S : Sto} {vs : List Value} {V U : AV} (r : Reps S vs [V, U]) : ∃ v u, vs = [v, u] ∧ Rep S v V ∧ Rep S u U := by
  obtain ⟨v, t, rfl, r1, r2⟩ := r.cons_inv
  obtain ⟨u, rfl, r3⟩ := one_arg r2
  exact ⟨v, u, rfl, r1, r3⟩
theorem no_kw {S : Sto} {kw : List (Str × Value)} (rk : RepK S kw []) : kw = [] := by have := rk.1; simpa using this
section
variable {c : Cx} {X : AX} {Q : AV → AX → Prop}
theorem B_max {a b : Int} (h : Q (.int (max a b)) X) : WC c (.builtin "max") [.int a, .int b] [] Q X := by
  intro B S s vs kw ok r rk st
  obtain ⟨v, u, rfl, r1, r2⟩ := two_args r
  cases no_kw rk
  obtain ⟨t1, rfl⟩ := r1.int_inv
  obtain ⟨t2, rfl⟩ := r2.int_inv
  refine max_two_ints ok.G.hd fun h' tk hk => ⟨S, .int (max a b), X, .rfl, ?_, st.grow (s' := { s with heap := h', toks := tk }) hk rfl rfl rfl, h⟩
  split
  · rw [show max a b = b by lia]; exact .int _ _
  · rw [show max a b = a by lia]; exact .int _ _
theorem B_min {a b : Int} (h : Q (.int (min a b)) X) : WC c (.builtin "min") [.int a, .int b] [] Q X := by
  intro B S s vs kw ok r rk st
  obtain ⟨v, u, rfl, r1, r2⟩ := two_args r
  cases no_kw rk
  obtain ⟨t1, rfl⟩ := r1.int_inv
  obtain ⟨t2, rfl⟩ := r2.int_inv
  refine min_two_ints ok.G.hd fun h' tk hk => ⟨S, .int (min a b), X, .rfl, ?_, st.grow (s' := { s with heap := h', toks := tk }) hk rfl rfl rfl, h⟩
  split
  · rw [show min a b = b by lia]; exact .int _ _
  · rw [show min a b = a by lia]; exact .int _ _
theorem B_isi {V : AV} {C C' : Addr} {ks : List Str} {vs : List AV} (hi : IsInst X V C ks vs) (e : isIn c.K (.ref C) C' = true) (h : Q (.bool true) X) : WC c (.builtin "isinstance") [V, .raw (.ref C')] [] Q X := by
  intro B S s us kw ok r rk st
  obtain ⟨v, u, rfl, r1, r2⟩ := two_args r
  cases no_kw rk
  rw [r2.raw_inv]
  have ht := hi.type st r1
  obtain ⟨a, d, es, ep, rfl, I, _⟩ := hi.at st r1
  exact isi_call (ok.X.keeps st.gr) ht e (by intro e; cases e) ⟨S, _, X, .rfl, .bool _, st, h⟩
end
section
variable {c : Cx} {X : AX} {Q : AV → AX → Prop} {B : Bg} {S : Sto} {s : Shared}
theorem seqIndex_at {xs : List AV} {i : Int} {V : AV} (hz : xs.length < 2 ^ 62) (h : atI xs i = some V) : ∃ k, seqIndex? i xs.length = some k ∧ xs[k]? = some V ∧ -2 ^ 63 ≤ i ∧ i < 2 ^ 63 := by
  unfold atI at h
  unfold seqIndex?
  split at h
  · rename_i h0
    have hl := (List.getElem?_eq_some_iff.mp h).1
    refine ⟨i.toNat, ?_, h, by lia, by lia⟩
    have e : ¬ i < 0 := by lia
    simp only [e, if_false]
    rw [if_pos (by simp only [Bool.and_eq_true, decide_eq_true_eq]; lia)]
  · split at h
    · rename_i h0 h1
      have hl := (List.getElem?_eq_some_iff.mp h).1
      refine ⟨(i + xs.length).toNat, ?_, h, by lia, by lia⟩
      have e : i < 0 := by lia
      simp only [e, if_true]
      rw [if_pos (by simp only [Bool.and_eq_true, decide_eq_true_eq]; lia)]
    · cases h
theorem Su_tup {value slice : Expr} {xs : List AV} {i : Int} {V : AV} (hx : atI xs i = some V) (hz : xs.length < 2 ^ 62) (h : Q V X) (hs : ∀ o i, subscripted slice false o i = operate [o, i] (getItem o i) := by intro _ _; rfl) : W2 c Rep (.tup xs) (.int i) (subscriptTail value slice) Q X := by
  intro B S s v u ok r₁ r₂ st
  obtain ⟨a, vs, n, rfl, h1, h2⟩ := r₁.tup_inv
  obtain ⟨t, rfl⟩ := r₂.int_inv
  obtain ⟨k, e1, e2, e3, e4⟩ := seqIndex_at hz hx
  obtain ⟨w, hw, rw'⟩ := h2.at e2
  unfold subscriptTail getitemInPython
  refine wpAny_bind (wpAny_bind (wpAny_specialOf (T := "tuple") ⟨_, st.sto _ _ h1, rfl⟩ slot_tuple_getitem.lookup ?_))
  refine wpAny_pure ?_
  rw [hs]
  exact wpAny_bind (wpAny_operateT (PySem.P.getItem_tuple (items := vs.toArray) (st.sto _ _ h1) e3 e4 (by rw [List.size_toArray, h2.1]; exact e1) (by simpa using hw) (wpAny_bind (wpAny_letTemporaryGo (wpAny_pure ⟨S, V, X, .rfl, rw', st, h⟩)))))
end
section
variable {c : Cx} {X : AX} {B : Bg} {S : Sto} {s : Shared}
theorem letgo_plain {P : Program} {w : World} {A : Around} {E : Value → Shared → Prop} {I : Addr} {o : Obj} {T : String} {vs : Array Value} {target : Expr} {v : Value} {Q : Unit → Shared → Prop} (ho : s.heap.get? I = some o) (hc : o.cls = .type T) (hd : o.data = .fields vs)
    (hT : (["enumerate", "zip", "dict_itemiterator", "dict_reverseitemiterator", "odict_iterator", "itertools.zip_longest", "itertools.pairwise"].contains T) = false) (h : Q () s) : wpAny (model P w) A (letOwnedTupleGo target (.ref I) v) Q E s := by
  unfold letOwnedTupleGo
  split
  · split
    · rename_i r a e1
      cases e1
      refine wpAny_bind (wpAny_load ho ?_)
      rw [hc, hd]
      exact wpAny_ite (by rw [hT, Bool.false_and, if_neg (by decide)]; exact wpAny_pure h)
    · exact wpAny_pure h
  · split
    · rename_i r a e1
      cases e1
      refine wpAny_bind (wpAny_load ho ?_)
      rw [hc, hd]
      exact wpAny_ite (by rw [hT, Bool.false_and, if_neg (by decide)]; exact wpAny_pure h)
    · exact wpAny_pure h
  · exact wpAny_pure h
inductive JT (I t : Addr) (xs : List AV) (ys : List AV) (S : Sto) (h : Heap) : Prop
  | mk (o : Obj) (i : Nat) (vs : List Value) (n : Nat) (h1 : h.get? I = some o) (h2 : o.cls = .type "tuple_iterator") (h3 : o.data = .fields #[.ref t, .int (i : Nat) 0]) (h4 : S t (seqObj "tuple" vs.toArray n)) (h5 : Reps S vs xs) (h6 : xs.drop i = ys)
theorem itr_tup {target : Expr} {I t : Addr} {xs : List AV} : Itr c target (.ref I) [I] (JT I t xs) (fun _ _ => True) where
  dom := by
    rintro ys S h ⟨o, i, vs, n, h1, _⟩ a ha
    rw [List.mem_singleton.mp ha]; exact ⟨o, h1⟩
  keep := by
    rintro ys S S' h h' ⟨o, i, vs, n, h1, h2, h3, h4, h5, h6⟩ le k
    exact ⟨o, i, vs, n, k I (.head _) _ h1, h2, h3, le _ _ h4, h5.mono le, h6⟩
  done := fun _ _ _ _ => trivial
  self := by
    rintro B S X s ys R F st ⟨o, i, vs, n, h1, h2, h3, h4, h5, h6⟩ h
    exact wpAny_pyIter_tupleiter ⟨o, h1, h2, h3⟩ h
  next := by
    rintro B S X s x ys ok st hb ⟨o, i, vs, n, h1, h2, h3, h4, h5, h6⟩
    obtain ⟨v, hv, rv, hd⟩ := h5.drop h6
    refine wpAny_pyNext_tuple_item ⟨o, h1, h2, h3⟩ (items := vs.toArray) ⟨_, st.sto _ _ h4, rfl, n, rfl⟩ (x := v) (by simpa using hv) fun h' hit hs => ?_
    obtain ⟨o', e1, e2, e3⟩ := hit
    exact ⟨v, rfl, letgo_plain (s := { s with heap := h' }) e1 e2 e3 (by decide) ⟨S, .rfl, rv, st.same hs (hb I (.head _)), hb, o', i + 1, vs, n, e1, e2, e3, h4, h5, hd⟩⟩
  stop := by
    rintro B S X s ok st hb ⟨o, i, vs, n, h1, h2, h3, h4, h5, h6⟩
    refine wpAny_pyNext_tuple_end ok.G.hd ⟨o, h1, h2, h3⟩ (items := vs.toArray) ⟨_, st.sto _ _ h4, rfl, n, rfl⟩ (by simpa using drop_nil h5 h6) fun h' hx => ?_
    exact ⟨rfl, st.extBut hx (hb I (.head _)), trivial⟩
theorem I_tup {target : Expr} {xs : List AV} {Q : List AV → (AX → AX) → AX → Prop} (h : Q xs id X) : WI c target (.tup xs) Q X := by
  intro B S s v ok r st
  obtain ⟨l, vs, n, rfl, h1, h2⟩ := r.tup_inv
  have b := st.bare (get?_lt_none (Nat.le_refl s.heap.objs.size))
  exact wpAny_pyIter_tuple (items := vs.toArray) ⟨_, st.sto _ _ h1, rfl, n, rfl⟩ ⟨S, X, [s.heap.objs.size], JT s.heap.objs.size l xs, fun _ _ => True, xs, id, .rfl,
    st.grow (Keeps.push _ _) rfl rfl rfl, fun _ _ _ => itr_tup, fun a ha => by rw [List.mem_singleton.mp ha]; exact b, ⟨_, 0, vs, n, Heap.get?_push_size _ rfl, rfl, rfl, h1, h2, rfl⟩, fun _ _ _ _ _ st _ _ => st, h⟩
def upto (n : Nat) : List AV := (List.range n).map fun (i : Nat) => .int (i : Int)
def JR (I : Addr) (n : Nat) (ys : List AV) (S : Sto) (h : Heap) : Prop := ∃ i : Nat, i ≤ n ∧ IsRangeIter h I i ((n : Int) - i) 1 ∧ (upto n).drop i = ys
theorem upto_drop {n i : Nat} {x : AV} {ys : List AV} (h : (upto n).drop i = x :: ys) : i < n ∧ x = .int i ∧ (upto n).drop (i + 1) = ys := by
  have h1 : (upto n)[i]? = some x := by rw [← List.head?_drop, h]; rfl
  have hl := (List.getElem?_eq_some_iff.mp h1).1
  have hl : i < n := by simpa [upto] using hl
  refine ⟨hl, ?_, by rw [← List.tail_drop, h]; rfl⟩
  simp [upto, hl] at h1
  exact h1.symm
theorem itr_rng {target : Expr} {I : Addr} {n : Nat} : Itr c target (.ref I) [I] (JR I n) (fun _ _ => True) where
  dom := by
    rintro ys S h ⟨i, _, h1, _⟩ a ha
    rw [List.mem_singleton.mp ha]; exact ⟨_, h1⟩
  keep := by
    rintro ys S S' h h' ⟨i, h0, h1, h2⟩ le k
    exact ⟨i, h0, k I (.head _) _ h1, h2⟩
  done := fun _ _ _ _ => trivial
  self := by
    rintro B S X s ys R F st ⟨i, h0, h1, h2⟩ h
    exact wpAny_pyIter_slot (T := "range_iterator") ⟨_, h1, rfl⟩ PySem.F.slot_range_iterator_iter (wpAny_call_entry PySem.F.slot_range_iterator_iter ⟨_, h1, rfl⟩ PySem.F.entry_range_iterator_iter (wpAny_pure ⟨_, rfl, "range_iterator", _, ⟨_, h1, rfl⟩, PySem.F.slot_range_iterator_next.lookup, h⟩) (PySem.F.args_range_iterator_iter_1 _))
  next := by
    rintro B S X s x ys ok st hb ⟨i, h0, h1, h2⟩
    obtain ⟨hl, rfl, hd⟩ := upto_drop h2
    refine wpAny_pyNext_range_item h1 (by lia) fun h' hit hs => ?_
    have hit : IsRangeIter h' I ((i + 1 : Nat) : Int) ((n : Int) - ((i + 1 : Nat) : Int)) 1 := by
      have e : (n : Int) - ((i + 1 : Nat) : Int) = (n : Int) - (i : Int) - 1 := by lia
      rw [e]; exact hit
    have st' : St c B S X { s with heap := h', toks := s.toks + 1 } := (st.same hs (hb I (.head _))).toks _
    exact ⟨_, rfl, letgo_plain (s := { s with heap := h', toks := s.toks + 1 }) hit rfl rfl (by decide) ⟨S, .rfl, .int _ _, st', hb, i + 1, by lia, hit, hd⟩⟩
  stop := by
    rintro B S X s ok st hb ⟨i, h0, h1, h2⟩
    have hl := List.drop_eq_nil_iff.mp h2
    have hl : n ≤ i := by simpa [upto] using hl
    refine wpAny_pyNext_range_end ok.G.hd h1 (by lia) fun h' hx => ?_
    exact ⟨rfl, st.extBut hx (hb I (.head _)), trivial⟩
theorem I_rng {target : Expr} {n : Int} {Q : List AV → (AX → AX) → AX → Prop} (hn : 0 ≤ n) (hz : n < 2 ^ 62) (h : Q (upto n.toNat) id X) : WI c target (.rng n) Q X := by
  intro B S s v ok r st
  cases r with
  | rng hr =>
  rename_i a t u w
  have b := st.bare (get?_lt_none (Nat.le_refl s.heap.objs.size))
  have hsz : Builtin.Range.rangeSize 0 n 1 = n := by
    unfold Builtin.Range.rangeSize
    simp only [show (1 : Int) > 0 by decide, if_true]
    split
    · rw [Int.ediv_one]; lia
    · lia
  refine wpAny_pyIter_range (st.sto _ _ hr) ?_ ?_
  · unfold Builtin.Range.small
    rw [hsz]
    simp only [Builtin.Range.rangeFitsLong, Bool.and_eq_true, decide_eq_true_eq, Bool.or_eq_true, beq_iff_eq, show (1 : Int) > 0 by decide, if_true]
    lia
  · rw [hsz]
    refine ⟨S, X, [s.heap.objs.size], JR s.heap.objs.size n.toNat, fun _ _ => True, _, id, .rfl, st.grow (Keeps.push _ _) rfl rfl rfl, fun _ _ _ => itr_rng, fun a ha => by rw [List.mem_singleton.mp ha]; exact b, ⟨0, Nat.zero_le _, ?_, rfl⟩, fun _ _ _ _ _ st _ _ => st, h⟩
    have e : ((n.toNat : Nat) : Int) - ((0 : Nat) : Int) = n := by lia
    unfold IsRangeIter
    rw [e]
    exact Heap.get?_push_size _ rfl
theorem B_range {n : Int} {Q : AV → AX → Prop} (h : Q (.rng n) X) : WC c (.type "range") [.int n] [] Q X := by
  intro B S s us kw ok r rk st
  obtain ⟨v, rfl, r1⟩ := one_arg r
  cases no_kw rk
  obtain ⟨t, rfl⟩ := r1.int_inv
  refine call_range_1 ⟨S.put s.heap.objs.size _, .rng n, X, Sto.put_le _ _ _, .rng (Sto.put_self _ _ _), (st.push _ rfl).toks _, h⟩
end
section
variable {c : Cx} {X : AX} {B : Bg} {S : Sto} {s : Shared}
def numbered (xs : List AV) : List AV := xs.zipIdx.map fun p => .tup [.int (p.2 : Int), p.1]
inductive JE (e it l : Addr) (xs : List AV) (ys : List AV) (S : Sto) (h : Heap) : Prop
  | mk (i : Nat) (old : Value) (vs : List Value) (n : Nat) (h1 : IsEnum h e it (i : Int) old) (h2 : h.IsListIter it l i) (h4 : S l (seqObj "list" vs.toArray n)) (h5 : Reps S vs xs) (h6 : (numbered xs).drop i = ys)
end
def Binds (c : Cx) (fd : FuncData) (Vs : List AV) (kws M : List (Str × AV)) : Prop :=
  ∀ (S : Sto) (s : Shared) (vs : List Value) (kw : List (Str × Value)) (A : Around) (E : Value → Shared → Prop) (Q : List (Str × Value) → Shared → Prop), c.K.In s.heap → Reps S vs Vs → RepK S kw kws →
    (∀ binds s' S', S.Le S' → RepK S' binds M → Keeps s.heap s'.heap → s'.os = s.os → s'.gens = s.gens → s'.drawn = s.drawn → (∀ c' B X, St c' B S X s → St c' B S' X s') → Q binds s') →
    wpAny (model c.P c.w) A (bindArgs fd ⟨vs, kw⟩) Q E s
theorem Binds.plain {c : Cx} {fd : FuncData} {Vs : List AV} {kws M : List (Str × AV)} (h : ∀ S s vs kw, c.K.In s.heap → Reps S vs Vs → RepK S kw kws → ∃ binds, BindsTo s fd ⟨vs, kw⟩ binds ∧ RepK S binds M) : Binds c fd Vs kws M := by
  intro S s vs kw A E Q X r rk q
  obtain ⟨binds, b, k⟩ := h S s vs kw X r rk
  exact b _ _ _ _ (q binds s S .rfl k .rfl rfl rfl rfl fun _ _ _ st => st)
theorem peek1_at {α : Type} {K : Frag} {M : Model} {A : Around} {E : Value → Shared → Prop} {Q : α → Shared → Prop} {s : Shared} {o : Obj} {r : Addr → α} (X : K.In s.heap)
    (q : Q (r s.heap.objs.size) { s with heap := s.heap.push o }) :
    ∀ (t : Sem α) (g : Addr → Option α), peek1 K ⟨M.prog, M.w.params⟩ t = some (o, g) → (∀ D, g D = some (r D)) → wpAny M A t Q E s := by
  intro t
  induction t with
  | rule _ k ih => intro g e hg Γ p hΓ; exact ih () g e hg Γ p hΓ
  | point _ k ih => intro g e hg Γ p hΓ; exact ih () g e hg Γ p hΓ
  | ask k ih => intro g e hg Γ p hΓ; exact ih _ g e hg Γ p hΓ
  | load a _ k ih =>
    intro g e hg Γ p hΓ
    simp only [peek1] at e
    split at e
    · rename_i ob ho; exact ⟨ob, X _ _ ho, ih ob g e hg Γ p hΓ⟩
    · cases e
  | alloc ob k _ =>
    intro g e hg
    have e : some (ob, fun D => peek K ⟨M.prog, M.w.params⟩ (k D)) = some (o, g) := e
    obtain ⟨e1, e2⟩ := Prod.mk.inj (Option.some.inj e)
    subst e1
    subst e2
    show wpAny M A (alloc ob >>= k) Q E s
    refine wpAny_bind (wpAny_alloc ?_)
    exact (Looks.of_peek (M := M) (h := s.heap.push ob) (X.keeps (Keeps.push _ _)) (hg s.heap.objs.size)).here (s := { s with heap := s.heap.push ob }) q
  | _ => intro g e; cases e
theorem Binds.star {c : Cx} {fd : FuncData} {Vs : List AV} {kws M : List (Str × AV)} (rest : List Value → List Value) (binds : List Value → List (Str × Value) → Addr → List (Str × Value))
    (h : ∀ S vs kw, Reps S vs Vs → RepK S kw kws → (∃ g₁, peek1 c.K ⟨c.P, c.w.params⟩ (bindArgs fd ⟨vs, kw⟩) = some (({ cls := .type "tuple", data := .seq (rest vs).toArray } : Obj), g₁) ∧ ∀ D, g₁ D = some (binds vs kw D)) ∧
      ∀ D S', S.Le S' → S' D (seqObj "tuple" (rest vs).toArray 0) → RepK S' (binds vs kw D) M) : Binds c fd Vs kws M := by
  intro S s vs kw A E Q X r rk q
  obtain ⟨⟨g₁, h1, h2⟩, h3⟩ := h S vs kw r rk
  obtain ⟨hp, gs, dr, tk, os⟩ := s
  exact peek1_at (r := binds vs kw) (s := ⟨hp, gs, dr, tk, os⟩) X (q _ _ _ (Sto.put_le _ _ _) (h3 _ _ (Sto.put_le _ _ _) (Sto.put_self _ _ _)) (Keeps.push _ _) rfl rfl rfl fun c' B Y st => st.push _ rfl) _ g₁ h1 h2
section
variable {c : Cx} {fd : FuncData} {x y z u : Str} {V U W T : AV} {M : List (Str × AV)}
theorem bind1 (e : ∀ s v, c.K.In s.heap → BindsTo s fd ⟨[v], []⟩ [(x, v)]) : Binds c fd [V] [] [(x, V)] := .plain fun S s vs kw X r rk => by
  obtain ⟨v, rfl, h⟩ := one_arg r
  rw [no_kw rk]
  exact ⟨_, e s v X, rfl, .cons h .nil⟩
theorem bind2 (e : ∀ s v u, c.K.In s.heap → BindsTo s fd ⟨[v, u], []⟩ [(x, v), (y, u)]) : Binds c fd [V, U] [] [(x, V), (y, U)] := .plain fun S s vs kw X r rk => by
  obtain ⟨v, u, rfl, h, k⟩ := two_args r
  rw [no_kw rk]
  exact ⟨_, e s v u X, rfl, .cons h (.cons k .nil)⟩
theorem three_args {S : Sto} {vs : List Value} {V U W : AV} (r : Reps S vs [V, U, W]) : ∃ v u w, vs = [v, u, w] ∧ Rep S v V ∧ Rep S u U ∧ Rep S w W := by
  obtain ⟨v, r', rfl, h, k⟩ := r.cons_inv
  obtain ⟨u, w, rfl, h2, h3⟩ := two_args k
  exact ⟨v, u, w, rfl, h, h2, h3⟩
theorem bind3 (e : ∀ s v u w, c.K.In s.heap → BindsTo s fd ⟨[v, u, w], []⟩ [(x, v), (y, u), (z, w)]) : Binds c fd [V, U, W] [] [(x, V), (y, U), (z, W)] := .plain fun S s vs kw X r rk => by
  obtain ⟨v, u, w, rfl, h, k, l⟩ := three_args r
  rw [no_kw rk]
  exact ⟨_, e s v u w X, rfl, .cons h (.cons k (.cons l .nil))⟩
theorem bind2d {d : Value} (e : ∀ s v u, c.K.In s.heap → BindsTo s fd ⟨[v, u], []⟩ [(x, v), (y, u), (z, d)]) (hd : ∀ S, Rep S d W) : Binds c fd [V, U] [] [(x, V), (y, U), (z, W)] := .plain fun S s vs kw X r rk => by
  obtain ⟨v, u, rfl, h, k⟩ := two_args r
  rw [no_kw rk]
  exact ⟨_, e s v u X, rfl, .cons h (.cons k (.cons (hd _) .nil))⟩
theorem bindS0 (e : ∀ v, ∃ g₁, peek1 c.K ⟨c.P, c.w.params⟩ (bindArgs fd ⟨[v], []⟩) = some (({ cls := .type "tuple", data := .seq [].toArray } : Obj), g₁) ∧ ∀ D, g₁ D = some [(x, v), (y, .ref D)]) : Binds c fd [V] [] [(x, V), (y, .tup [])] :=
  .star (fun _ => []) (fun vs _ D => match vs with | [v] => [(x, v), (y, .ref D)] | _ => []) fun S vs kw r rk => by
    obtain ⟨v, rfl, h⟩ := one_arg r
    rw [no_kw rk]
    exact ⟨e v, fun D S' le hD => ⟨rfl, .cons (h.mono le) (.cons (.tup' hD .nil) .nil)⟩⟩
theorem bindS1 (e : ∀ v u, ∃ g₁, peek1 c.K ⟨c.P, c.w.params⟩ (bindArgs fd ⟨[v, u], []⟩) = some (({ cls := .type "tuple", data := .seq [u].toArray } : Obj), g₁) ∧ ∀ D, g₁ D = some [(x, v), (y, .ref D)]) : Binds c fd [V, U] [] [(x, V), (y, .tup [U])] :=
  .star (fun vs => vs.drop 1) (fun vs _ D => match vs with | v :: _ => [(x, v), (y, .ref D)] | _ => []) fun S vs kw r rk => by
    obtain ⟨v, u, rfl, h, k⟩ := two_args r
    rw [no_kw rk]
    exact ⟨e v u, fun D S' le hD => ⟨rfl, .cons (h.mono le) (.cons (.tup' hD (.cons (k.mono le) .nil)) .nil)⟩⟩
end
theorem bindL_get {kindOf : Str → Option NameKind} {x : Str} (hk : kindOf x = some .local) : ∀ (binds : List (Str × Value)) (m : Str → Option Value), bindL kindOf binds m x = (binds.reverse.lookup x).or (m x)
  | [], m => rfl
  | (n, v) :: r, m => by
    unfold bindL
    rw [bindL_get hk r, List.reverse_cons, List.lookup_append]
    rw [Option.or_assoc]
    congr 1
    rw [List.lookup_cons]
    by_cases hx : x = n
    · subst hx
      rw [if_pos hk, beq_self_eq_true]
      simp
    · rw [beq_eq_false_iff_ne.mpr hx]
      simp only [List.lookup_nil, Option.none_or]
      split
      · exact if_neg hx
      · rfl
theorem bindC_get {kindOf : Str → Option NameKind} {x : Str} (hk : kindOf x ≠ some .local) : ∀ (binds : List (Str × Value)) (m : Str → Option Value), bindC kindOf binds m x = (binds.reverse.lookup x).or (m x)
  | [], m => rfl
  | (n, v) :: r, m => by
    unfold bindC
    rw [bindC_get hk r, List.reverse_cons, List.lookup_append]
    rw [Option.or_assoc]
    congr 1
    rw [List.lookup_cons]
    by_cases hx : x = n
    · subst hx
      rw [if_neg hk, beq_self_eq_true]
      simp
    · rw [beq_eq_false_iff_ne.mpr hx]
      simp only [List.lookup_nil, Option.none_or]
      split
      · rfl
      · exact if_neg hx
abbrev ownOf (scope : Scope) (L : Addr) : List Addr := L :: (cellsFrom (L + 1) scope.names []).map (·.2)
theorem WF.go {c : Cx} {f : Addr} {Vs : List AV} {kws : List (Str × AV)} {Q : AV → AX → Prop} {X : AX} {name qual : Str} {params : Arguments} {body : List Stmt} {scope : Scope} {dV kV doc pm cdv ct oc : Value} {an od : Option Addr} {osl : Array (Option Value)} {d : Nat} (M : List (Str × AV))
    (G : Gd c.A (d + 1)) (ho : c.K.lookup f = some ⟨oc, od, .func (fnOf name qual params body scope dV kV doc pm an cdv ct), osl⟩) (hcd : codeIn c.K cdv qual = true)
    (hb : Binds c (fnOf name qual params body scope dV kV doc pm an cdv ct) Vs kws M)
    (hkind : (M.all fun y => scope.names.lookup y.1 == some .local || scope.names.lookup y.1 == some .cell) = true)
    (hnd : ((cellsFrom 0 scope.names []).map (·.1)).Nodup)
    (hco : scope.isCoroutine = false) (hgen : scope.isGenerator = false) (hk : scope.kind = .function)
    (h : ∀ L c', Kin c c' → c'.env = envOfC qual scope L f cdv → c'.own = ownOf scope L → c'.Ok → Gd c'.A d → WSs c' body (fun F X' => Q F.val ⟨X'.σ, X.m⟩) ⟨X.σ, M.reverse⟩) : WF c (.ref f) Vs kws Q X := by
  intro B S s vs kw ok r rk st
  have X0 := ok.X.keeps st.gr
  obtain ⟨p, loose, mean, mg, mb, T⟩ := ok.T
  have T' := (topRead_of T).keeps st.gr
  refine codeAny_call_function (fd := fnOf name qual params body scope dV kV doc pm an cdv ct) (body := body) G.room (X0 _ _ ho) rfl hco hgen rfl (codeRec_of X0 hcd) ?_
  refine hb S s vs kw _ _ _ X0 r rk fun binds s₁ S₁ le hbr ks e1 e2 e3 stUp => ?_
  have st1 := stUp c B X st
  have hkind' : (binds.all fun y => scope.names.lookup y.1 == some .local || scope.names.lookup y.1 == some .cell) = true := by
    rw [List.all_eq_true] at hkind ⊢
    intro y hy
    have : y.1 ∈ binds.map (·.1) := List.mem_map_of_mem hy
    rw [hbr.1] at this
    obtain ⟨z, hz, e⟩ := List.mem_map.mp this
    rw [← e]; exact hkind z hz
  refine wpAny_newFunctionEnv_cells hk (kindsX hkind' _) fun env' he s' x => ?_
  subst he
  refine ⟨(T'.nolimit.keeps ks).keeps x.toInCall.keep, codeAny_func ?_⟩
  obtain ⟨h₁, tk, rfl, _⟩ := x.done
  have hk₁ : Keeps s₁.heap h₁ := x.toInCall.keep
  have xc := x.cell
  have xa := x.apart
  have xb := x.above
  have xn := x.toInCall.ns
  have hlk : ∀ n k, (n, k) ∈ cellsFrom (s₁.heap.objs.size + 1) scope.names [] → (cellsFrom (s₁.heap.objs.size + 1) scope.names []).lookup n = some k := fun n k hm => lookup_of_mem_nodup (cellsFrom_names scope.names 0 (s₁.heap.objs.size + 1) [] [] rfl ▸ hnd) hm
  have okX : (c.callee (envOfC qual scope s₁.heap.objs.size f cdv) (ownOf scope s₁.heap.objs.size)).Ok := ⟨ok.X, ok.T, (G.deeper _).le rfl, rfl, rfl, hk, fun _ _ e => e, fun a o e => Heap.lt_size (ks _ _ (X0 a o e)), fun a b k ha hb => name_of_addr xa (mem_of_lookup ha) (mem_of_lookup hb)⟩
  have stX : St (c.callee (envOfC qual scope s₁.heap.objs.size f cdv) (ownOf scope s₁.heap.objs.size)) (Bg.call c B X s₁ []) S₁ ⟨X.σ, M.reverse⟩ { s₁ with heap := h₁, toks := tk } := by
    refine st1.callIn (ex := []) (fun _ h => nomatch h) hk₁ rfl (.head _) (fun a ha => ?_) (fun a ha => ?_) (fun y k e => ?_) ⟨_, xn, fun y V e => ?_⟩ rfl rfl rfl
    · rcases List.mem_cons.mp ha with rfl | ha
      · exact get?_lt_none (Nat.le_refl _)
      · obtain ⟨q, hq, rfl⟩ := List.mem_map.mp ha
        exact get?_lt_none (Nat.le_of_lt (xb q.1 q.2 hq))
    · rcases List.mem_cons.mp ha with rfl | ha
      · obtain ⟨o, _, _, e, _⟩ := xn
        exact ⟨o, e⟩
      · obtain ⟨q, hq, rfl⟩ := List.mem_map.mp ha
        obtain ⟨o, e, _⟩ := xc q.1 q.2 (hlk _ _ hq)
        exact ⟨o, e⟩
    · obtain ⟨o, e1, e2⟩ := xc y k e
      exact ⟨Nat.ne_of_gt (xb y k (mem_of_lookup e)), .inl (.tail _ (List.mem_map_of_mem (f := (·.2)) (mem_of_lookup e))), o, _, e1, e2⟩
    · obtain ⟨v, h1, h2⟩ := hbr.reverse.lookup e
      refine ⟨v, h2, ?_⟩
      obtain ⟨q, hq, rfl⟩ := lookup_mem e
      have hq' := List.all_eq_true.mp hkind (q, V) (List.mem_reverse.mp hq)
      rcases Bool.or_eq_true_iff.mp hq' with k1 | k1
      · have k2 : scope.names.lookup q = some .local := by simpa using k1
        refine .inl ⟨k2, ?_⟩
        rw [bindL_get k2, h1]; rfl
      · have k2 : scope.names.lookup q = some .cell := by simpa using k1
        obtain ⟨k, hk3⟩ := Option.isSome_iff_exists.mp (cellsFrom_some scope.names (s₁.heap.objs.size + 1) [] (.inl k2))
        obtain ⟨o, e1, e2⟩ := xc q k hk3
        refine .inr ⟨.inl k2, k, o, hk3, e1, ?_, .inl (.tail _ (List.mem_map_of_mem (f := (·.2)) (mem_of_lookup hk3))), Nat.ne_of_gt (xb q k (mem_of_lookup hk3))⟩
        rw [e2, bindC_get (by show ¬ scope.names.lookup q = some .local; rw [k2]; decide), h1]; rfl
  refine wpAny_mono (h _ (c.callee (envOfC qual scope s₁.heap.objs.size f cdv) (ownOf scope s₁.heap.objs.size)) ⟨rfl, rfl, rfl, rfl, rfl⟩ rfl rfl okX (G.deeper _) _ _ _ okX stX) (fun fl s' hp => ?_) fun _ _ z => z.elim
  obtain ⟨S', F, X', le', rf, st', q⟩ := hp
  refine ⟨?_, fun a ha o e => st'.base a o ⟨ks _ _ e, st1.dis a ha, fun h => nomatch h⟩⟩
  refine ⟨S', F.val, ⟨X'.σ, X.m⟩, le.trans le', ?_, st1.callOut (ex := []) (fun _ h => nomatch h) le' st', q⟩
  cases rf with
  | ret r => exact r
  | _ => exact .none
section
variable {prog : Program} {w : World} {A : Around} {E : Value → Shared → Prop} {s : Shared} {a : Addr} {x : Value} {items : Array Value}
end
section
variable {c : Cx} {X : AX} {Q : AV → AX → Prop} {B : Bg} {S : Sto} {s : Shared}
theorem Gd.in1 {A : Around} {d : Nat} (x : Gd A (d + 1)) : Gd A.in1 d := ⟨x.hd, by have := x.dp; show A.depth + d < _; lia, by have := x.un; show A.units + 1 + 8 * d + 8 < _; lia⟩
abbrev Cx.at1 (c : Cx) : Cx := { c with A := c.A.in1 }
end
theorem triples_snoc (l : List Value) (i j : Int) (c : Value) (h : TriplesOk l) : TriplesOk (l ++ [rawInt i, rawInt j, c]) := TriplesOk_snoc i j c l h
def TabR (P : Addr) (pos : Pos) (qual : Str) (S : Sto) (h : Heap) : Prop :=
  ∃ ps : Array Value, h.get? P = some (tabObj ps) ∧ TriplesOk ps.toList ∧ (codeAmong pos ps.toList = none ∨ ∃ c' oc vs t, codeAmong pos ps.toList = some (.ref c') ∧ S c' oc ∧ oc.data = .fields vs ∧ vs[1]? = some (.str qual t))
theorem TabR.ext {P : Addr} {pos : Pos} {qual : Str} {S : Sto} {h : Heap} (x : TabR P pos qual S h) : MRep S h P (.ext [] (TabR P pos qual)) := by
  obtain ⟨ps, hP, ht, hc⟩ := x
  refine ⟨fun b hb => by have := List.mem_singleton.mp hb; subst this; exact ⟨_, hP⟩, ⟨ps, hP, ht, hc⟩, fun T h' le k => ⟨ps, k P (.head _) _ hP, ht, hc.imp id fun ⟨c', oc, vs, t, e, hs, r⟩ => ⟨c', oc, vs, t, e, le _ _ hs, r⟩⟩⟩
def LamR (qual : Str) (params : Arguments) (body : Expr) (scope : Scope) (S : Sto) (v : Value) : Prop :=
  ∃ f pm c' ctv oc vs t, v = .ref f ∧ S f (kla_obj (Str.ofString "<lambda>") qual params body scope [] pm c' ctv) ∧ S c' oc ∧ oc.data = .fields vs ∧ vs[1]? = some (.str qual t)
theorem LamR.rep {qual : Str} {params : Arguments} {body : Expr} {scope : Scope} {S : Sto} {v : Value} (x : LamR qual params body scope S v) : Rep S v (.ext (LamR qual params body scope)) := by
  obtain ⟨f, pm, c', ctv, oc, vs, t, e, h1, h2, r⟩ := x
  exact .ext ⟨f, pm, c', ctv, oc, vs, t, e, h1, h2, r⟩ fun T le => ⟨f, pm, c', ctv, oc, vs, t, e, le _ _ h1, le _ _ h2, r⟩
theorem Rep.ext_inv {S : Sto} {v : Value} {R : Sto → Value → Prop} (h : Rep S v (.ext R)) : R S v := by cases h with | ext a b => exact a
def WFv (c : Cx) (F : AV) (Vs : List AV) (kws : List (Str × AV)) (Q : AV → AX → Prop) (X : AX) : Prop :=
  ∀ B S s f vs kw, c.Ok → Rep S f F → Reps S vs Vs → RepK S kw kws → St c B S X s → codeAny (model c.P c.w) c.A (.call f ⟨vs, kw⟩) (fun r s' => Back c B S Q r s' ∧ c.Stays s s') s
section
variable {c : Cx} {X : AX} {Q : AV → AX → Prop}
theorem E_lam {params : Arguments} {body : Expr} {scope : Scope} {pos : Pos} {P cd : Addr} {qual : Str} {σ' : List (Addr × MO)} (hdef : defaultsOf params c.env = ([], [])) (hcl : closureFor scope c.env = pure []) (hq : c.env.qual ++ "<lambda>" = qual) (hcode : c.env.code = .ref cd) (C : CodeHd c.g cd P)
    (hd : SDel P (.ext [] (TabR P pos qual)) X.σ σ') (h : Q (.ext (LamR qual params body scope)) ⟨(P, .ext [] (TabR P pos qual)) :: σ', X.m⟩) : WE c (.Lambda params body scope pos) Q X := by
  intro B S s ok st
  refine kla_eval hdef ?_
  rw [hq]
  obtain ⟨_, ⟨ps, hP, ht, hc⟩, _⟩ := st.get hd.mem
  have hbr := st.bareM hd P (.head _)
  have st0 : St c B S ⟨σ', X.m⟩ s := st.weak (X' := ⟨σ', X.m⟩) hd.sub fun _ _ e => e
  obtain ⟨p, loose, mean, mg, mb, T⟩ := ok.T
  have hgs := T.g.keeps st.gr
  obtain ⟨bm, ob, b1, b2, b3, b4, b5, b6⟩ := T.bmain
  have hgP : mainGlobals ≠ P := fun q => by
    obtain ⟨o, es, ep, e, hd, _⟩ := hgs
    rw [q, hP] at e; cases e; cases hd
  have hbP : bm ≠ P := fun q => by
    have e := st.gr _ _ b3
    rw [q, hP] at e; cases e; cases b4
  have hbG : bm ≠ mainGlobals := fun q => by
    obtain ⟨o, es, ep, e, hd, _⟩ := T.g
    rw [q, e] at b3; cases b3; rw [hd] at b6; cases b6
  rcases hc with hnf | ⟨c', oc, vs, t, hf, hS, hoc, hv⟩
  · refine kla_makeFunction (mg := mg) hcl ok.gl hgs hcode (C.keeps st.gr) hP ht hnf hgP ⟨bm, ob, b1, b2, hbG, hbP, st.gr _ _ b3, b4, b5, b6⟩ fun c' ctv h' tk hx hge hlt hrec htb => ?_
    obtain ⟨c₂, oc, vs, t, e2, hoc, hdt, hv⟩ := hrec
    cases e2
    have kb : KeepsBut [P] s.heap h' := fun b o q e => hx b o (fun z => q (List.mem_singleton.mpr z)) e
    have st1 : St c B S ⟨σ', X.m⟩ { s with heap := h', toks := tk } := st0.keep (s' := { s with heap := h', toks := tk }) kb (fun a ha => by rw [List.mem_singleton.mp ha]; exact ⟨hbr.g, hbr.base, hbr.sto, hbr.own, hbr.adr⟩) rfl rfl rfl
    have bc := st0.bare (a := c') (get?_lt_none hge)
    have st2 : St c B (S.put c' oc) ⟨σ', X.m⟩ { s with heap := h', toks := tk } := st1.addS (Sto.put_le _ _ _) fun a o e => e.imp id fun q => by
      rw [q.1, q.2]; exact ⟨hoc, bc.own, bc.adr, bc.prot⟩
    have nc : P ≠ c' := fun q => by have := Heap.lt_size hP; rw [q] at this; exact absurd this (Nat.not_lt.mpr hge)
    have st3 := st2.addM (a := P) (mo := .ext [] (TabR P pos qual)) (TabR.ext ⟨_, htb, by rw [Array.toList_append]; exact triples_snoc _ _ _ _ ht, .inr ⟨c', oc, vs, t, by rw [Array.toList_append]; exact codeAmong_snoc _ ht hnf, Sto.put_self _ _ _, hdt, hv⟩⟩) (by simp [MO.addrs]) (fun b hb => by
      rw [List.mem_singleton.mp hb]
      exact ⟨hbr.g, hbr.base, fun o e => e.elim (hbr.sto o) fun q => nc q.1, hbr.own, hbr.adr, hbr.prot⟩)
    exact ⟨_, _, _, (Sto.put_le _ _ _).trans (Sto.put_le _ _ _), LamR.rep ⟨_, _, _, ctv, oc, vs, t, rfl, Sto.put_self _ _ _, Sto.put_le _ _ _ _ _ (Sto.put_self _ _ _), hdt, hv⟩, st3.push _ rfl, h⟩
  · refine kla_makeFunctionHit (mg := mg) hcl ok.gl hgs hcode (C.keeps st.gr) hP ht hf ⟨bm, ob, b1, b2, hbG, hbP, st.gr _ _ b3, b4, b5, b6⟩ fun ctv h' tk hk hsz => ?_
    have st1 : St c B S ⟨σ', X.m⟩ { s with heap := h', toks := tk } := st0.grow (s' := { s with heap := h', toks := tk }) hk rfl rfl rfl
    have st3 := st1.addM (a := P) (mo := .ext [] (TabR P pos qual)) (TabR.ext ⟨_, hk _ _ hP, ht, .inr ⟨c', oc, vs, t, hf, hS, hoc, hv⟩⟩) (by simp [MO.addrs]) (fun b hb => by
      rw [List.mem_singleton.mp hb]; exact hbr)
    exact ⟨_, _, _, (Sto.put_le _ _ _), LamR.rep ⟨_, _, _, ctv, oc, vs, t, rfl, Sto.put_self _ _ _, Sto.put_le _ _ _ _ _ hS, hoc, hv⟩, st3.push _ rfl, h⟩
theorem WFv.lam {x : Str} {V : AV} {qual : Str} {params : Arguments} {body : Expr} {scope : Scope} {d : Nat} (G : Gd c.A (d + 1)) (hb : ∀ v pm c' ctv, bindArgs (kla_fn (Str.ofString "<lambda>") qual params body scope [] pm (.ref c') ctv) ⟨[v], []⟩ = pure [(x, v)])
    (hloc : scope.names.lookup x = some .local) (hco : scope.isCoroutine = false) (hgen : scope.isGenerator = false) (hk : scope.kind = .function) (hcell : ∀ x ∈ scope.names, x.2 ≠ .cell)
    (h : ∀ L f cd c', Kin c c' → c'.env = envX qual scope L f (.ref cd) [] → c'.own = [L] → c'.Ok → Gd c'.A d → WE c' body (fun U X' => Q U ⟨X'.σ, X.m⟩) ⟨X.σ, [(x, V)]⟩) : WFv c (.ext (LamR qual params body scope)) [V] [] Q X := by
  intro B S s f vs kw ok rf r rk st
  obtain ⟨v, rfl, rv⟩ := one_arg r
  cases no_kw rk
  obtain ⟨f, pm, c', ctv, oc, vs, t, rfl, h1, h2, h3, h4⟩ := rf.ext_inv
  obtain ⟨p, loose, mean, mg, mb, T⟩ := ok.T
  have T' := (topRead_of T).keeps st.gr
  refine kla_callFunE G.room (st.sto _ _ h1) rfl hco hgen rfl ⟨c', oc, vs, t, rfl, st.sto _ _ h2, h3, h4⟩ ?_
  rw [hb]
  refine wpAny_pure (wpAny_newFunctionEnv hcell (fun y hy => by rw [List.mem_singleton.mp hy]; exact hloc) (fun h₁ hns hsb => ⟨T'.nolimit.fresh _ hsb, ?_⟩) hk)
  have hk₁ : Keeps s.heap h₁ := fun b o e => hsb.extBut b o (Nat.ne_of_lt (Heap.lt_size e)) (Heap.get?_push_of_some _ e)
  show codeAny _ _ (.expr body (envX qual scope s.heap.objs.size f (.ref c') [])) _ _
  have ok' : (c.callee (envX qual scope s.heap.objs.size f (.ref c') []) [s.heap.objs.size]).Ok := ⟨ok.X, ok.T, (G.deeper _).le rfl, rfl, rfl, hk, fun _ _ e => e, fun a o e => Heap.lt_size ((ok.X.keeps st.gr) a o e), fun _ _ _ e => by cases e⟩
  have st₁ : St (c.callee (envX qual scope s.heap.objs.size f (.ref c') []) [s.heap.objs.size]) (Bg.call c B X s []) S ⟨X.σ, [(x, V)]⟩ { s with heap := h₁, toks := s.toks + 1 } :=
    st.callIn (ex := []) (fun _ h => nomatch h) hk₁ rfl (.head _) (fun a ha => by rw [List.mem_singleton.mp ha]; exact get?_lt_none (Nat.le_refl _)) (fun a ha => by
      rw [List.mem_singleton.mp ha]
      obtain ⟨o, _, _, e, _⟩ := hns
      exact ⟨o, e⟩) (fun _ _ e => by cases e) ⟨_, hns, fun y U e => by
        rw [List.lookup_cons] at e
        cases hb : y == x with
        | true =>
          rw [hb] at e; cases e
          have := beq_iff_eq.mp hb
          subst this
          exact ⟨v, rv, .inl ⟨hloc, by simp⟩⟩
        | false => rw [hb] at e; cases e⟩ rfl rfl rfl
  refine kla_codeExpr (wpAny_mono (h _ f c' (c.callee (envX qual scope s.heap.objs.size f (.ref c') []) [s.heap.objs.size]) ⟨rfl, rfl, rfl, rfl, rfl⟩ rfl rfl ok' (G.deeper _) _ _ _ ok' st₁) (fun fl s' hp => ?_) fun _ _ z => z.elim)
  obtain ⟨S', U, X', le, rf, st', q⟩ := hp
  exact ⟨⟨S', U, ⟨X'.σ, X.m⟩, le, rf, st.callOut (ex := []) (fun _ h => nomatch h) le st', q⟩, fun a ha o e => st'.base a o ⟨e, st.dis a ha, fun h => nomatch h⟩⟩
end
theorem Heap.Ns.same {h : Heap} {L : Addr} {m m' : Str → Option Value} (a : h.Ns L m) (b : h.Ns L m') : m' = m := by
  obtain ⟨o1, es1, ep1, a1, a2, a3, a4⟩ := a
  obtain ⟨o2, es2, ep2, b1, b2, b3, b4⟩ := b
  rw [a1] at b1; cases b1
  rw [a2] at b2; cases b2
  funext y
  rw [← a4, b4]
theorem perm_map_inv {α β : Type} {f : α → β} {l' m : List β} (h : l'.Perm m) : ∀ l : List α, m = l.map f → ∃ l₂ : List α, l₂.Perm l ∧ l' = l₂.map f := by
  induction h with
  | nil =>
    intro l e
    cases l with
    | nil => exact ⟨[], .nil, rfl⟩
    | cons _ _ => cases e
  | cons x _ ih =>
    intro l e
    cases l with
    | nil => cases e
    | cons a r =>
      rw [List.map_cons] at e
      obtain ⟨e1, e2⟩ := List.cons.inj e
      obtain ⟨l₂, p, q⟩ := ih r e2
      exact ⟨a :: l₂, p.cons a, by rw [List.map_cons, e1, q]⟩
  | swap x y l₀ =>
    intro l e
    match l, e with
    | a :: b :: r, e =>
      simp only [List.map_cons, List.cons.injEq] at e
      obtain ⟨e1, e2, e3⟩ := e
      exact ⟨b :: a :: r, .swap a b r, by simp [e1, e2, e3]⟩
  | trans _ _ ih1 ih2 =>
    intro l e
    obtain ⟨l₂, p, q⟩ := ih2 l e
    obtain ⟨l₃, p', q'⟩ := ih1 l₂ q
    exact ⟨l₃, p'.trans p, q'⟩
section
variable {c : Cx} {B : Bg} {S : Sto} {X : AX} {s : Shared}
theorem St.turned (st : St c B S X s) (hw : c.env.locals ∈ c.own) {mc : Str → Option Value} (hn : s.heap.Ns c.env.locals mc) {h' : Heap} {tk : Nat} {l : List Addr} (k : KeepsBut (c.env.locals :: l) s.heap h') (n' : h'.Ns c.env.locals mc) (hl : ∀ a ∈ l, Bare c B S X a) : St c B S X { s with heap := h', toks := tk } := by
  have sp := st.sep _ (.inl hw)
  have hg : ∀ b ∈ c.env.locals :: l, c.g.get? b = none ∧ (∀ o, ¬ B.base b o) ∧ (∀ o, ¬ S b o) ∧ b ∉ AX.adr X.σ := fun b hb => by
    rcases List.mem_cons.mp hb with rfl | hb
    · exact ⟨sp.1, sp.2.1, sp.2.2, st.dis _ hw⟩
    · exact ⟨(hl b hb).g, (hl b hb).base, (hl b hb).sto, (hl b hb).adr⟩
  have kc : ∀ b o, b ≠ c.env.locals → (b ∈ c.own ∨ ∃ p, B.base b p) → s.heap.get? b = some o → h'.get? b = some o := fun b o ne q e => k b o (fun z => by
    rcases List.mem_cons.mp z with z | z
    · exact ne z
    · exact q.elim (hl b z).own fun ⟨p, w⟩ => (hl b z).base p w) e
  refine ⟨st.loc, fun b o e => k b o (fun q => ?_) (st.gr b o e), fun b o e => k b o (fun q => (hg b q).2.1 o e) (st.base b o e), fun b o e => k b o (fun q => (hg b q).2.2.1 o e) (st.sto b o e), fun x a e => ?_, ⟨mc, n', fun x V e => ?_⟩, fun p hp => (st.mu p hp).mono .rfl fun b hb o e => k b o (fun q => (hg b q).2.2.2 (AX.mem_adr hp hb)) e, st.nd, st.sep, st.dis, fun a ha => ?_, st.prot, st.pin, st.os, st.gens, st.drawn⟩
  · rw [(hg b q).1] at e; cases e
  · obtain ⟨h1, h2, o, v, h3, h4⟩ := st.cel x a e
    exact ⟨h1, h2, o, v, kc _ _ h1 h2 h3, h4⟩
  · obtain ⟨mc', n, f⟩ := st.fr
    cases Heap.Ns.same n hn
    obtain ⟨v, r, y⟩ := f x V e
    refine ⟨v, r, ?_⟩
    rcases y with y | ⟨a, q, o, e1, e2, e3, e4, e5⟩
    · exact .inl y
    · exact .inr ⟨a, q, o, e1, kc _ _ e5 (e4.imp id fun w => ⟨o, w⟩) e2, e3, e4, e5⟩
  · by_cases q : a = c.env.locals
    · subst q
      obtain ⟨o, es, ep, h1, _⟩ := n'
      exact ⟨o, h1⟩
    · obtain ⟨o, e⟩ := st.dom a ha
      exact ⟨o, kc a o q (.inl ha) e⟩
def Bg.all (c : Cx) (B : Bg) (s : Shared) : Bg := { base := fun b o => s.heap.get? b = some o ∧ b ∉ c.own, prot := B.prot, os := s.os, gens := s.gens, drawn := s.drawn }
theorem St.allB (st : St c B S X s) : St { c with fix := true } (Bg.all c B s) S ⟨[], X.m⟩ s where
  loc := st.loc.imp id fun ⟨a, o, e⟩ => ⟨a, o, st.base _ _ e, by rw [a]; exact List.not_mem_nil⟩
  gr := st.gr
  base b o e := e.1
  sto := st.sto
  cel x a e := by
    obtain ⟨h1, h2, o, v, h3, h4⟩ := st.cel x a e
    refine ⟨h1, ?_, o, v, h3, h4⟩
    by_cases q : a ∈ c.own
    · exact .inl q
    · exact .inr ⟨o, h3, q⟩
  fr := by
    obtain ⟨mc, n, f⟩ := st.fr
    refine ⟨mc, n, fun x V e => let ⟨v, r, y⟩ := f x V e; ⟨v, r, ?_⟩⟩
    rcases y with y | ⟨a, q, o, e1, e2, e3, e4, e5⟩
    · exact .inl y
    · refine .inr ⟨a, q, o, e1, e2, e3, ?_, e5⟩
      by_cases w : q ∈ c.own
      · exact .inl w
      · exact .inr ⟨e2, w⟩
  mu _ hp := nomatch hp
  nd := .nil
  sep a ha := ha.elim (fun q => ⟨(st.sep a (.inl q)).1, fun o e => e.2 q, (st.sep a (.inl q)).2.2⟩) fun q => nomatch q
  dis _ _ q := nomatch q
  dom := st.dom
  prot := st.prot
  pin a q := let ⟨o, e⟩ := st.pin a q; ⟨o, st.base a o e, fun z => (st.sep a (.inl z)).2.1 o e⟩
  os := rfl
  gens := .refl _
  drawn := rfl
theorem pureCall {V : AV} {Vs : List AV} {f : Value} {vs : List Value} {Q : AV → Prop} (h : WFv { c with fix := true } V Vs [] (fun R _ => Q R) ⟨[], X.m⟩) (ok : c.Ok) (st : St c B S X s) (rf : Rep S f V) (r : Reps S vs Vs) :
    codeAny (model c.P c.w) c.A (.call f ⟨vs, []⟩) (fun r s' => ∃ S' v R h' tk, r = .ok (.ret v) ∧ S.Le S' ∧ Rep S' v R ∧ Q R ∧ s' = { s with heap := h', toks := tk } ∧ Keeps s.heap h') s := by
  have ok1 : ({ c with fix := true } : Cx).Ok := ⟨ok.X, ok.T, ok.G, ok.gl, ok.bi, ok.fk, ok.noE, ok.kl, ok.cnd⟩
  refine codeAny_mono (h (Bg.all c B s) S s f vs [] ok1 rf r .nil st.allB) fun r s' hz₉ => ?_
  obtain ⟨z, ks⟩ := hz₉
  rcases r with e | (v | _ | _ | _)
  · exact (ok1.noE _ _ z).elim
  · exact z.elim
  · exact z.elim
  · exact z.elim
  · obtain ⟨S', R, Y, le, rv, st', q⟩ := z
    refine ⟨S', _, R, s'.heap, s'.toks, rfl, le, rv, q, ?_, fun b o e => ?_⟩
    · have e1 := st'.os
      have e2 := st'.gens.2 rfl
      have e3 := st'.drawn
      obtain ⟨_, _, _, _, _⟩ := s'
      dsimp only [Bg.all] at e1 e2 e3 ⊢
      subst e1 e2 e3; rfl
    · by_cases w : b ∈ c.own
      · exact ks b w o e
      · exact st'.base b o ⟨e, w⟩
end
section
variable {c : Cx} {X : AX} {Q : AV → AX → Prop}
theorem B_sort {la : Addr} {LV : AV} {xs : List AV} {kz : List Int} {σ' : List (Addr × MO)} {d : Nat} (G : Gd c.A (d + 1)) (hd : SDel la (.lst xs) X.σ σ') (hlen : kz.length = xs.length) (h64 : xs.length < 64)
    (turn : ∀ (i : Nat) V k, xs[i]? = some V → kz[i]? = some k → WFv { c.at1 with fix := true } LV [V] [] (fun R _ => R = .int k) ⟨[], X.m⟩) (hf : ∀ S v, Rep S v LV → ∃ f, v = .ref f)
    (h : ∀ ps : List (Int × AV), ps.Perm (kz.zip xs) → ps.Pairwise (fun p q => p.1 ≤ q.1) → Q .none ⟨(la, .lst (ps.map (·.2))) :: σ', X.m⟩) (hw : c.env.locals ∈ c.own := by first | assumption | exact List.mem_cons_self) : WC c (.builtin "list.sort") [.raw (.ref la)] [(Str.ofString "key", LV)] Q X := by
  intro B S s vs kw ok r rk st
  obtain ⟨v, rfl, r1⟩ := one_arg r
  rw [r1.raw_inv]
  obtain ⟨u, rfl, ru⟩ : ∃ u, kw = [(Str.ofString "key", u)] ∧ Rep S u LV := by
    have e1 := rk.1
    cases kw with
    | nil => simp at e1
    | cons p t =>
      obtain ⟨y, u⟩ := p
      simp only [List.map_cons, List.map_nil, List.cons.injEq, List.map_eq_nil_iff] at e1
      obtain ⟨rfl, rfl⟩ := e1
      exact ⟨u, rfl, (rk.2.uncons).1⟩
  obtain ⟨f, rfl⟩ := hf _ _ ru
  obtain ⟨ws, n, hl, rs⟩ := st.get hd.mem
  have hbl := st.bareM hd la (.head _)
  have st0 : St c B S ⟨σ', X.m⟩ s := st.weak (X' := ⟨σ', X.m⟩) hd.sub fun _ _ e => e
  obtain ⟨mc, hns, hfr⟩ := st0.fr
  have hne : la ≠ c.env.locals := st.locB hbl.own hbl.base
  have sz : (cutAt s.heap c.env.locals).objs.size ≤ c.env.locals := by unfold cutAt; rw [Array.size_extract]; lia
  have low : ∀ b o, (hideAll (cutAt s.heap c.env.locals) [la]).get? b = some o → s.heap.get? b = some o := fun b o e => cutAt_get (of_hideAll _ e)
  have F : Fr (hideAll (cutAt s.heap c.env.locals) [la]) c.env.locals s.heap mc := ⟨hns, low, by rw [hideAll_size]; exact sz⟩
  have ha0 : (hideAll (cutAt s.heap c.env.locals) [la]).get? la = none := hideAll_none _ (.head _)
  have memN : ∀ {p : Addr × Obj}, p ∈ (aboveOf s.heap c.env.locals).filter (fun p => decide (p.1 ≠ la)) ↔ (c.env.locals < p.1 ∧ s.heap.get? p.1 = some p.2) ∧ p.1 ≠ la := fun {p} => by
    rw [List.mem_filter, decide_eq_true_iff, show p = (p.1, p.2) from rfl, mem_above]
  have N : News (hideAll (cutAt s.heap c.env.locals) [la]) c.env.locals s.heap ((aboveOf s.heap c.env.locals).filter (fun p => decide (p.1 ≠ la))) := fun p hp => by
    obtain ⟨⟨q, e⟩, _⟩ := memN.mp hp
    exact ⟨e, Nat.ne_of_gt q, get?_lt_none (Nat.le_trans (by rw [hideAll_size]; exact sz) (Nat.le_of_lt q))⟩
  have key : ∀ {h' : Heap}, Fr (hideAll (cutAt s.heap c.env.locals) [la]) c.env.locals h' mc → (∀ p ∈ (aboveOf s.heap c.env.locals).filter (fun p => decide (p.1 ≠ la)), h'.get? p.1 = some p.2) → KeepsBut [c.env.locals, la] s.heap h' := fun {h'} F' N' b o q e => by
    have h1 : b ≠ c.env.locals := fun z => q (z ▸ .head _)
    have h2 : b ≠ la := fun z => q (z ▸ .tail _ (.head _))
    rcases Nat.lt_or_ge b c.env.locals with w | w
    · exact F'.keep b o (hideAll_get _ (cutAt_lt e w) fun z => h2 (List.mem_singleton.mp z))
    · exact N' (b, o) (memN.mpr ⟨⟨Nat.lt_of_le_of_ne w (Ne.symm h1), e⟩, h2⟩)
  have hbs : ∀ a ∈ [la], Bare c B S ⟨σ', X.m⟩ a := fun a ha => by rw [List.mem_singleton.mp ha]; exact hbl
  refine wpAny_call_entry_kw (Q := Post c B S Rep Q) PyProof.Rows.slot_list_sort ⟨_, hl, rfl⟩ PyProof.Rows.entry_list_sort ?_ (ksk_l1 _ _)
  rw [ksk_t1]
  refine ksk_sort (kz := kz) F N hl hne ha0 (fun p hp => (memN.mp hp).2) (by rw [rs.1]; exact hlen) (by rw [rs.1]; exact h64) (fun i v k hv hk h1 tk1 own F1 N1 => ?_) (fun h1 tk1 out e F1 N1 ho => ⟨.none, rfl, ?_⟩)
  · obtain ⟨V, hV⟩ : ∃ V, xs[i]? = some V := ⟨_, List.getElem?_eq_getElem (by rw [← rs.1]; exact (List.getElem?_eq_some_iff.mp hv).1)⟩
    have st1 : St c.at1 B S ⟨σ', X.m⟩ { s with heap := h1, toks := tk1 } := St.cx (c := c) rfl rfl rfl (st0.turned hw hns (key F1 fun p hp => (N1 p (List.mem_append_left _ hp)).1) F1.ns hbs)
    have ok1 : c.at1.Ok := ⟨ok.X, ok.T, G.in1.le rfl, ok.gl, ok.bi, ok.fk, ok.noE, ok.kl, ok.cnd⟩
    refine wpAny_call (codeAny_mono (pureCall (c := c.at1) (X := ⟨σ', X.m⟩) (turn i V k hV hk) ok1 st1 ru (.cons (rs.2 i v V hv hV) .nil)) fun r s' z => ?_)
    obtain ⟨S', v', R, h', tk', rfl, le, rv, rfl, rfl, kp⟩ := z
    obtain ⟨t', rfl⟩ := rv.int_inv
    exact ⟨h', tk', t', rfl, rfl, ⟨F1.ns.keeps kp, fun b o e => kp b o (F1.keep b o e), F1.above⟩, fun p hp => ⟨kp _ _ (N1 p hp).1, (N1 p hp).2⟩⟩
  · have st1 := st0.turned (tk := tk1) hw hns (key F1 fun p hp => (N1 p (.tail _ hp)).1) F1.ns hbs
    have hla := (N1 (la, seqObj "list" out e) (.head _)).1
    obtain ⟨ps, hp, hout, hs⟩ := ho
    have ez : kz.zip ws = (kz.zip (ws.zip xs)).map (fun q => (q.1, q.2.1)) := by
      rw [show (fun q : Int × (Value × AV) => (q.1, q.2.1)) = Prod.map id Prod.fst from rfl, ← List.zip_map_right, List.map_fst_zip (by rw [rs.1]; exact Nat.le_refl _)]
    obtain ⟨qs, hq, rfl⟩ := perm_map_inv hp _ ez
    have ez2 : kz.zip xs = (kz.zip (ws.zip xs)).map (fun q => (q.1, q.2.2)) := by
      rw [show (fun q : Int × (Value × AV) => (q.1, q.2.2)) = Prod.map id Prod.snd from rfl, ← List.zip_map_right, List.map_snd_zip (by rw [rs.1]; exact Nat.le_refl _)]
    have hrep : ∀ q ∈ qs, Rep S q.2.1 q.2.2 := fun q hm => by
      have hm' := hq.mem_iff.mp hm
      obtain ⟨j, hj⟩ := List.getElem?_of_mem hm'
      rw [List.getElem?_zip_eq_some] at hj
      have hj2 := hj.2
      rw [List.getElem?_zip_eq_some] at hj2
      exact rs.2 j _ _ hj2.1 hj2.2
    have hreps : Reps S (qs.map (fun q => q.2.1)) (qs.map (fun q => q.2.2)) := by
      refine ⟨by simp, fun i v V hv hV => ?_⟩
      rw [List.getElem?_map] at hv hV
      cases hqi : qs[i]? with
      | none => rw [hqi] at hv; cases hv
      | some q =>
        rw [hqi] at hv hV
        cases hv; cases hV
        exact hrep q (List.mem_of_getElem? hqi)
    have st2 := st1.addM (a := la) (mo := .lst (qs.map (fun q => q.2.2))) ⟨_, e, by rw [hla, ← Array.toArray_toList (xs := out), hout, List.map_map]; rfl, hreps⟩ (by simp [MO.addrs]) (fun b hb => hbs b hb)
    have := h (qs.map fun q => (q.1, q.2.2)) (by rw [ez2]; exact hq.map _) (by
      rw [List.pairwise_map] at hs ⊢
      exact hs.imp fun {a b} h => by simpa using h)
    rw [List.map_map] at this
    exact ⟨S, _, _, .rfl, .none, st2, this⟩
end
section
variable {cmp : Nat → Nat → (Bool → Shared → Prop) → Shared → Prop} {r : Nat → Int} {N : Nat} {Inv : Shared → Prop}
def Sp (cmp : Nat → Nat → (Bool → Shared → Prop) → Shared → Prop) (Inv : Shared → Prop) {α : Type} (t : KasT α) (P : α → Prop) : Prop :=
  ∀ (Q : α → Shared → Prop) s, Inv s → (∀ a s', Inv s' → P a → Q a s') → t.kasWp cmp Q s
theorem Sp.imp {α : Type} {t : KasT α} {P P' : α → Prop} (h : Sp cmp Inv t P) (k : ∀ a, P a → P' a) : Sp cmp Inv t P' := fun Q s i q => h Q s i fun a s' i' p => q a s' i' (k a p)
abbrev PB (N : Nat) (p : Array Nat) : Prop := p.Perm (List.toArray (List.range N))
theorem PB.size {p : Array Nat} (h : PB N p) : p.size = N := by rw [h.size_eq]; simp
end
section
variable {c : Cx} {X : AX} {Q : AV → AX → Prop}
theorem Reps.prs {S : Sto} {vs : List Value} {ps : List (Int × Int)} (r : Reps S vs (ps.map .pr)) {i : Nat} (hi : i < ps.length) : ∃ a n t u, vs.getD i Value.none = .ref a ∧ S a (seqObj "tuple" #[.int (ps.getD i (0, 0)).1 t, .int (ps.getD i (0, 0)).2 u] n) := by
  have hv : i < vs.length := by rw [r.1]; simpa using hi
  have h := r.2 i vs[i] (.pr ps[i]) (List.getElem?_eq_getElem hv) (by rw [List.getElem?_map, List.getElem?_eq_getElem hi]; rfl)
  obtain ⟨a, us, n, e, h1, h2⟩ := h.tup_inv
  obtain ⟨x, y, rfl, hx, hy⟩ := two_args h2
  obtain ⟨t, rfl⟩ := hx.int_inv
  obtain ⟨u, rfl⟩ := hy.int_inv
  refine ⟨a, n, t, u, by rw [← e]; simp [hv], ?_⟩
  have : ps.getD i (0, 0) = ps[i] := by simp [hi]
  rw [this]; exact h1
end
section
variable {c : Cx} {X : AX} {Q : AV → AX → Prop} {B : Bg}
theorem Cx.Ok.at1 {d : Nat} (ok : c.Ok) (G : Gd c.A (d + 1)) : c.at1.Ok := ⟨ok.X, ok.T, G.in1.le rfl, ok.gl, ok.bi, ok.fk, ok.noE, ok.kl, ok.cnd⟩
theorem St.at1 {S : Sto} {s : Shared} (st : St c B S X s) : St c.at1 B S X s := St.cx (c := c) rfl rfl rfl st
theorem St.of1 {S : Sto} {s : Shared} (st : St c.at1 B S X s) : St c B S X s := St.cx (c := c.at1) rfl rfl rfl st
theorem eqBool_inst {V U : AV} {C f : Addr} {ks : List Str} {us ws : List AV} {b : Bool} {S : Sto} {s : Shared} {v u : Value} (hi : IsInst X V C ks us) (hi' : IsInst X U C ks ws) (hn : notFirst c.K C (.ref C) = true) (hs : findIn c.K (.ref C) (cmpInfo .Eq).2.1 = some (some (.ref f))) (hf : isFn c.K (.ref f) = true)
    (h : WF c (.ref f) [V, U] [] (fun R Y => R = .bool b ∧ Y = X) X) (hb : v = u → b = true) (ok : c.Ok) (st : St c B S X s) (r1 : Rep S v V) (r2 : Rep S u U) {R : Bool → Shared → Prop} (hR : ∀ S' s', S.Le S' → St c B S' X s' → R b s') : wpAny (model c.P c.w) c.A (eqBool v u) R c.E s := by
  obtain ⟨a, d, es, ep, rfl, I, _⟩ := hi.at st r1
  obtain ⟨a', d', es', ep', rfl, I', _⟩ := hi'.at st r2
  unfold eqBool
  refine wpAny_holding ?_
  refine wpAny_ite_split (fun hab => ?_) (fun _ => ?_)
  · have := eq_of_beq hab
    rw [hb this] at hR
    exact wpAny_bind (wpAny_rule (wpAny_pure (hR S s .rfl st)))
  · refine wpAny_bind (wpAny_mono (O_cmp (op := .Eq) (Q := fun W Y => W = .bool b ∧ Y = X) hi hi' hn hs hf (fun _ _ => rfl) (h.imp fun W Y z => ⟨b, z.1, rfl, z.2⟩) B S s _ _ ok r1 r2 st) (fun w s' z => ?_) fun _ _ e => e)
    obtain ⟨S', W, Y, le, rw', st', hW, hY⟩ := z
    subst hW
    rw [rw'.bool_inv]
    exact wpAny_truthy_bool (hR S' s' le (hY ▸ st'))
theorem eq_loopI {xs ys : List AV} {C f : Addr} {ks : List Str} {e : Nat → Bool} {d : Nat} (G : Gd c.A (d + 1)) (hsz : xs.length = ys.length) (hI : ∀ (i : Nat) U, xs[i]? = some U → ∃ us, IsInst X U C ks us) (hI' : ∀ (i : Nat) U, ys[i]? = some U → ∃ us, IsInst X U C ks us)
    (hn : notFirst c.K C (.ref C) = true) (hs : findIn c.K (.ref C) (cmpInfo .Eq).2.1 = some (some (.ref f))) (hf : isFn c.K (.ref f) = true)
    (h : ∀ (i : Nat) U W, xs[i]? = some U → ys[i]? = some W → WF c.at1 (.ref f) [U, W] [] (fun R Y => R = .bool (e i) ∧ Y = X) X) (hb : ∀ (S : Sto) (hp : Heap) (i : Nat) U W v, (∀ b o, S b o → hp.get? b = some o) → xs[i]? = some U → ys[i]? = some W → Rep S v U → Rep S v W → e i = true)
    {l b : Addr} {us ws : List Value} {n n2 : Nat} (ok : c.Ok) {R : Result → Shared → Prop} : ∀ (k i : Nat) (S : Sto) (s : Shared), us.length - i = k → S l (seqObj "list" us.toArray n) → S b (seqObj "list" ws.toArray n2) → Reps S us xs → Reps S ws ys → St c B S X s →
      (∀ S' s', S.Le S' → St c B S' X s' → R (.ok (.ret (.bool (((List.range xs.length).drop i).all e)))) s') →
      wpAny (model c.P c.w) c.A.in1 (Builtin.«list.__eq__.loop» ⟨[.ref l, .ref b, rawInt i, rawInt 2], []⟩) (fun fin s' => match fin with | .done f => R (.ok f) s' | .again c' => c'.quiet = true ∧ codeAny (model c.P c.w) c.A c' R s') (fun e s' => R (.error e) s') s := by
  intro k
  induction k with
  | zero =>
    intro i S s hk h1 h2 r1 r2 st hR
    have g1 := st.sto _ _ h1
    have g2 := st.sto _ _ h2
    have hR := hR S s .rfl st
    clear st
    obtain ⟨hp, g, dr, tk, os⟩ := s
    have hl1 := r1.1
    have hl2 := r2.1
    wp_walk using AutoSeq1.wpAny_loadPart' g1, AutoSeq1.wpAny_loadPart' g2
    have hi1 : us.toArray[((i : Nat) : Int).toNat]? = none := by simp; omega
    have hi2 : ws.toArray[((i : Nat) : Int).toNat]? = none := by simp; omega
    have hd : (List.range xs.length).drop i = [] := by simp; omega
    rw [hd] at hR
    rw [hi1, hi2]
    wp_walk using AutoSeq1.wpAny_loadPart' g1, AutoSeq1.wpAny_loadPart' g2
    show R (.ok (.ret (.bool (us.toArray.size == ws.toArray.size)))) _
    rw [List.size_toArray, List.size_toArray, hl1, hl2, hsz]
    simpa using hR
  | succ k ih =>
    intro i S s hk h1 h2 r1 r2 st hR
    have g1 := st.sto _ _ h1
    have g2 := st.sto _ _ h2
    have hl1 := r1.1
    have hl2 := r2.1
    have hlt : i < us.length := by omega
    have hlt2 : i < ws.length := by omega
    have hi1 : us.toArray[((i : Nat) : Int).toNat]? = some us[i] := by simp [hlt]
    have hi2 : ws.toArray[((i : Nat) : Int).toNat]? = some ws[i] := by simp [hlt2]
    have hd : (List.range xs.length).drop i = i :: (List.range xs.length).drop (i + 1) := by
      rw [List.drop_eq_getElem_cons (by simp; omega)]; simp
    have hc : ((i : Int) + 1) = ((i + 1 : Nat) : Int) := by push_cast; rfl
    rw [hd, List.all_cons] at hR
    have hx : xs[i]? = some xs[i] := List.getElem?_eq_getElem (by omega)
    have hy : ys[i]? = some ys[i] := List.getElem?_eq_getElem (by omega)
    have rx := r1.2 i _ _ (List.getElem?_eq_getElem hlt) hx
    have ry := r2.2 i _ _ (List.getElem?_eq_getElem hlt2) hy
    obtain ⟨cu, iu⟩ := hI i _ hx
    obtain ⟨cw, iw⟩ := hI' i _ hy
    have key := @eqBool_inst c.at1 X B xs[i] ys[i] C f ks cu cw (e i) S s us[i] ws[i] iu iw hn hs hf (h i _ _ hx hy) (fun z => hb S s.heap i _ _ us[i] st.sto hx hy rx (z ▸ ry)) (ok.at1 G) st.at1 rx ry
    obtain ⟨hp, g, dr, tk, os⟩ := s
    wp_walk using AutoSeq1.wpAny_loadPart' g1, AutoSeq1.wpAny_loadPart' g2
    rw [hi1, hi2]
    refine wpAny_bind (wpAny_mono (key (R := fun bb s' => bb = e i ∧ ∃ S', S.Le S' ∧ St c B S' X s') fun S' s' le st' => ⟨rfl, S', le, st'.of1⟩) (fun bb s' z => ?_) (fun e s' z => ((ok.at1 G).noE _ _ z).elim))
    obtain ⟨rfl, S', le, st'⟩ := z
    have k1 := st'.sto _ _ (le _ _ h1)
    have k2 := st'.sto _ _ (le _ _ h2)
    cases hb' : e i with
    | true =>
      rw [hb'] at hR
      obtain ⟨hp', g', dr', tk', os'⟩ := s'
      wp_walk
      rw [hc]
      exact ⟨plainId_quiet MeetsSeq3.plain_eq_loop _, codeAny_builtin MeetsSeq3.entry_eq_loop (by
        rw [Around.under_plainId MeetsSeq3.plain_eq_loop _]
        exact ih (i + 1) S' _ (by omega) (le _ _ h1) (le _ _ h2) (r1.mono le) (r2.mono le) st' fun S₂ s₂ l₂ st₂ => by simpa using hR S₂ s₂ (le.trans l₂) st₂)⟩
    | false =>
      rw [hb'] at hR
      have hR := hR S' s' le st'
      clear st'
      obtain ⟨hp', g', dr', tk', os'⟩ := s'
      wp_walk using AutoSeq1.wpAny_loadPart' k1, AutoSeq1.wpAny_loadPart' k2
      rw [hi1, hi2]
      wp_walk
      simpa using hR
theorem O_eqInst {xs ys : List AV} {C f : Addr} {ks : List Str} {e : Nat → Bool} {d : Nat} (G : Gd c.A (d + 1)) (hI : ∀ (i : Nat) U, xs[i]? = some U → ∃ us, IsInst X U C ks us) (hI' : ∀ (i : Nat) U, ys[i]? = some U → ∃ us, IsInst X U C ks us)
    (hn : notFirst c.K C (.ref C) = true) (hs : findIn c.K (.ref C) (cmpInfo .Eq).2.1 = some (some (.ref f))) (hf : isFn c.K (.ref f) = true)
    (h : ∀ (i : Nat) U W, xs[i]? = some U → ys[i]? = some W → WF c.at1 (.ref f) [U, W] [] (fun R Y => R = .bool (e i) ∧ Y = X) X) (hb : ∀ (S : Sto) (hp : Heap) (i : Nat) U W v, (∀ b o, S b o → hp.get? b = some o) → xs[i]? = some U → ys[i]? = some W → Rep S v U → Rep S v W → e i = true)
    (hq : Q (.bool (xs.length == ys.length && (List.range xs.length).all e)) X) : W2 c Rep (.lst xs) (.lst ys) (compareOp .Eq) Q X := by
  intro B S s v u ok r₁ r₂ st
  obtain ⟨l, us, n, rfl, h1, h2⟩ := r₁.lst_inv
  obtain ⟨b, ws, n2, rfl, g1, g2⟩ := r₂.lst_inv
  have a1 := st.sto _ _ h1
  have a2 := st.sto _ _ g1
  refine cmp_ofEq (wpAny_richCompare_same_room (T := "list") ⟨_, a1, rfl⟩ ⟨_, a2, rfl⟩ F.slot_list_eq ?_ (G.le (Nat.ble_eq.mpr (Nat.le_refl _))).units)
  refine wpAny_call (codeAny_call_builtin F.slot_list_eq.plain F.entry_list_eq (F.slot_list_eq.check _ _ _ _ _ _ _ _ ⟨_, a1, rfl⟩ (F.args_list_eq_2 _ _) ?_))
  have f3 := AutoSeq1.sub_list_list
  by_cases hl : xs.length = ys.length
  · have hne : ¬ (us.toArray.size != ws.toArray.size) = true := by simp [h2.1, g2.1, hl]
    have main := eq_loopI (B := B) G hl hI hI' hn hs hf h hb ok (l := l) (b := b) (R := fun r s' => match r with | .ok (.ret v) => v ≠ .notImplemented ∧ Post c B S Rep Q v s' | .ok _ => False | .error e => c.E e s') _ 0 S s rfl h1 g1 h2 g2 st fun S' s' le st' => ⟨(fun x => nomatch x), S', _, X, le, .bool _, st', by
      rw [show (xs.length == ys.length && (List.range xs.length).all e) = (((List.range xs.length).drop 0).all e) by simp [hl]] at hq; exact hq⟩
    obtain ⟨hp, g, dr, tk, os⟩ := s
    wp_walk using AutoSeq1.wpAny_loadPart' a1, AutoSeq1.wpAny_loadPart' a2
    rw [if_neg hne]
    refine wpAny_pure (a := Fin.again (.builtin "list.__eq__.loop" ⟨[.ref l, .ref b, rawInt ((0 : Nat) : Int), rawInt 2], []⟩)) ⟨plainId_quiet MeetsSeq3.plain_eq_loop _, codeAny_builtin MeetsSeq3.entry_eq_loop ?_⟩
    rw [Around.under_plainId MeetsSeq3.plain_eq_loop _]
    exact main
  · have hne : (us.toArray.size != ws.toArray.size) = true := by simp [h2.1, g2.1, hl]
    have fin : Post c B S Rep Q (.bool false) s := ⟨S, _, X, .rfl, .bool _, st, by
      rw [show (xs.length == ys.length && (List.range xs.length).all e) = false by simp [hl]] at hq; exact hq⟩
    clear st
    obtain ⟨hp, g, dr, tk, os⟩ := s
    wp_walk using AutoSeq1.wpAny_loadPart' a1, AutoSeq1.wpAny_loadPart' a2
    rw [if_pos hne]
    exact wpAny_bind (wpAny_rule (wpAny_pure ⟨(fun x => nomatch x), fin⟩))
end
section
variable {c : Cx} {X : AX} {Q : AV → AX → Prop} {C : Addr}
theorem G_cv {attr : Str} {mc a : Value} {U : AV} (hm : typeIn c.K (.ref C) = some mc) (hr : readsIn c.K C mc = true) (e : findCls c.K (.ref C) mc attr = some (.val a)) (hh : handedIn a = true) (hU : ∀ S, Rep S a U) (h : Q U X) : W1 c Rep (.raw (.ref C)) (fun o => getAttr o attr true) Q X := G_clsval hr e hh hU h
theorem M_cmm {name : Str} {pl pos args kws} {mc : Value} {p f : Addr} {rest : List Value} (hs : specialIn c.K (.ref C) "__getattribute__" = some (some (.builtin "type.__getattribute__"))) (hm : typeIn c.K (.ref C) = some mc) (hr : readsIn c.K C mc = true) (e : findCls c.K (.ref C) mc name = some (.get (.builtin "classmethod.__get__") (.ref p) .none (.ref C)))
    (hp : recIn c.K p "classmethod" = some (.ref f :: rest)) (hfn : fnIn c.K f = true) (h : WArgs c pos args kws (fun Us Ks X₁ => WF c (.ref f) (.raw (.ref C) :: Us) Ks Q X₁) X) (he : ∀ e r, args = e :: r → starEach args c.env = (false, eval e c.env) :: starEach r c.env := by intro _ _ h; first | (cases h; rfl) | cases h) (hall : (backToKw pos (keywordEach kws c.env)).all (·.1.isSome) = true := by rfl) : WM c name pl pos args kws (.raw (.ref C)) Q X := M_cm hs hr e hp hfn h he hall
variable {V : AV} {ks : List Str} {vs : List AV}
theorem M_class {pl pos args kws} (hi : IsInst X V C ks vs) (hg : plainGet c.K C "__class__" = true) (hh : hasDictIn c.K C = true)
    (ha : findIn c.K (.ref C) "__class__" = some (some (.builtin "object.__class__"))) (ht' : typeIn c.K (.builtin "object.__class__") = some (.type "getset_descriptor")) (hn : specialIn c.K (.builtin "object.__class__") "__get__" = some (some (.builtin "getset_descriptor.__get__"))) (ht : takesIn c.K (.builtin "object.__class__") = some true)
    (hm : mroIn c.K C (.type "object") = some true) (hk : keepIn c.K (.ref C) = true) (h : WArgs c pos args kws (fun Us Ks X₁ => WC c (.ref C) Us Ks Q X₁) X)
    (he : ∀ e r, args = e :: r → starEach args c.env = (false, eval e c.env) :: starEach r c.env := by intro _ _ h; first | (cases h; rfl) | cases h) (hall : (backToKw pos (keywordEach kws c.env)).all (·.1.isSome) = true := by rfl) : WM c (Str.ofString "__class__") pl pos args kws V Q X := by
  intro B S s v ok r st
  have X0 := ok.X.keeps st.gr
  have go := G_class (Q := fun U Y => U = .raw (.ref C) ∧ Y = X) hi hg hh ha hn ht hm ⟨rfl, rfl⟩ B S s v ok r st
  obtain ⟨a, d, es, ep, rfl, I, en⟩ := hi.at st r
  refine wpAny_bind (method_usual (r := some (.builtin "object.__class__")) X0 I (plainGet_of hg).1 (plainGet_of hg).2 ha (by simp only [Option.all_some, ht', Option.any_some]; decide +kernel) ?_)
  have go' : wpAny (model c.P c.w) c.A (getAttr (.ref a) (Str.ofString "__class__")) (Post c B S Rep fun U Y => U = .raw (.ref C) ∧ Y = X) c.E s := by
    refine get_bind X0 I (plainGet_of hg).1 (findObj_data (by obtain ⟨cd, hc, _⟩ := any_some hh; rw [hc]; rfl) ha hn ht) (plainGet_of hg).2 (wpAny_call (class_get (s := { s with toks := s.toks + 1 }) X0 I hm ?_))
    exact handed_on rfl ⟨S, .raw (.ref C), X, .rfl, .raw _, st.toks _, rfl, rfl⟩
  refine wpAny_mono go' (fun u s' z => ?_) fun _ _ e => e
  obtain ⟨S', U, Y, le, ru, st', hU, hY⟩ := z
  subst hU
  rw [hY] at st'
  rw [ru.raw_inv]
  exact wpAny_mono (run_call (Fs := []) ok st' .nil (fun h X0 _ => keeper_keep hk h X0) h he hall) (fun _ _ p => p.up le) fun _ _ e => e
theorem M_cmi {name : Str} {pl pos args kws} {p f : Addr} {rest : List Value} (hi : IsInst X V C ks vs) (hg : plainGet c.K C name = true) (hh : hasDictIn c.K C = true) (ha : findIn c.K (.ref C) name = some (some (.ref p))) (ht : typeIn c.K (.ref p) = some (.type "classmethod"))
    (hgf : specialIn c.K (.ref p) "__get__" = some (some (.builtin "classmethod.__get__"))) (hts : takesIn c.K (.ref p) = some false) (hc : copiedNames.contains name = false) (hk : name ∉ ks) (hp : recIn c.K p "classmethod" = some (.ref f :: rest)) (hfn : fnIn c.K f = true)
    (h : WArgs c pos args kws (fun Us Ks X₁ => WF c (.ref f) (.raw (.ref C) :: Us) Ks Q X₁) X) (he : ∀ e r, args = e :: r → starEach args c.env = (false, eval e c.env) :: starEach r c.env := by intro _ _ h; first | (cases h; rfl) | cases h) (hall : (backToKw pos (keywordEach kws c.env)).all (·.1.isSome) = true := by rfl) : WM c name pl pos args kws V Q X := by
  intro B S s v ok r st
  have X0 := ok.X.keeps st.gr
  obtain ⟨a, d, es, ep, rfl, I, en⟩ := hi.at st r
  refine wpAny_bind (method_usual (r := some (.ref p)) X0 I (plainGet_of hg).1 (plainGet_of hg).2 ha (by simp only [Option.all_some, ht, Option.any_some]; decide +kernel)
    (get_bind X0 I (plainGet_of hg).1 (findObj_fn hh ha hgf hts hc (by show lookIn name (dictOf es ep) = _; rw [lookIn_dict, en.miss hk])) (plainGet_of hg).2
      (wpAny_call (cm_get (s := { s with toks := s.toks + 1 }) X0 hp (handed_on rfl ?_)))))
  have st1 := (st.toks (s.toks + 1)).push (methodObj (.ref f) (.ref C)) rfl
  refine wpAny_mono (run_call_ (S := S.put s.heap.objs.size (methodObj (.ref f) (.ref C))) (fun Us Ks X₁ => WF c (.ref f) (.raw (.ref C) :: Us) Ks Q X₁) ok st1 (fun h X0 k => ?_) (fun S₂ s₂ X₂ vs Us kw Ks u r rk st₂ z => ?_) (Q := Q) h he hall) (fun _ _ p => p.up (Sto.put_le _ _ _)) fun _ _ e => e
  · have := k _ _ (Sto.put_self S s.heap.objs.size (methodObj (.ref f) (.ref C)))
    unfold fnIn at hfn
    split at hfn
    · rename_i q
      exact ⟨_, (Looks.ld (part := none) this).andThen ((Looks.ld (part := none) (X0 _ _ q)).andThen .now)⟩
    · cases hfn
  · refine wpAny_call (method_call (st₂.sto _ _ (u _ _ (Sto.put_self S s.heap.objs.size (methodObj (.ref f) (.ref C))))) (codeAny_mono (z B S₂ s₂ _ _ ok (.cons (.raw _) r) rk st₂) fun r s' z => ?_))
    replace z := z.1
    rcases r with e | (v | _ | _ | _) <;> first | exact z | exact z.elim
end
section
variable {c : Cx} {B : Bg} {S : Sto} {X : AX} {s : Shared}
theorem St.perm {τ : List (Addr × MO)} (p : X.σ.Perm τ) (st : St c B S X s) : St c B S ⟨τ, X.m⟩ s := by
  have pa : (AX.adr X.σ).Perm (AX.adr τ) := p.flatMap_right _
  exact ⟨st.loc, st.gr, st.base, st.sto, st.cel, st.fr, fun q hq => st.mu q (p.mem_iff.mpr hq), pa.nodup_iff.mp st.nd, fun a ha => st.sep a (ha.imp id pa.mem_iff.mpr), fun a ha q => st.dis a ha (pa.mem_iff.mpr q), st.dom, st.prot, st.pin, st.os, st.gens, st.drawn⟩
theorem Conv.perm {τ : List (Addr × MO)} (p : X.σ.Perm τ) : Conv c X ⟨τ, X.m⟩ := fun B S s st => ⟨S, .rfl, fun _ _ => .inl, st.perm p⟩
theorem ConvV.perm {V : AV} {τ : List (Addr × MO)} (p : X.σ.Perm τ) : ConvV c V X V ⟨τ, X.m⟩ := fun B S s v r st => ⟨S, .rfl, r, st.perm p⟩
theorem WF.pre {f : Value} {Vs : List AV} {kws : List (Str × AV)} {Q : AV → AX → Prop} {Y : AX} (h : Conv c X Y) (k : WF c f Vs kws Q Y) : WF c f Vs kws Q X := by
  intro B S s vs kw ok r rk st
  obtain ⟨S', le, _, st'⟩ := h B S s st
  refine codeAny_mono (k B S' s vs kw ok (r.mono le) ⟨rk.1, rk.2.mono le⟩ st') fun r s' p => ⟨?_, p.2⟩
  replace p := p.1
  rcases r with e | (v | _ | _ | _) <;> first | exact p | exact Post.up le p
theorem WC.pre {f : Value} {Vs : List AV} {kws : List (Str × AV)} {Q : AV → AX → Prop} {Y : AX} (h : Conv c X Y) (k : WC c f Vs kws Q Y) : WC c f Vs kws Q X := by
  intro B S s vs kw ok r rk st
  obtain ⟨S', le, _, st'⟩ := h B S s st
  exact wpAny_mono (k B S' s vs kw ok (r.mono le) ⟨rk.1, rk.2.mono le⟩ st') (fun _ _ p => p.up le) fun _ _ e => e
theorem atI_last {xs : List AV} {k : Nat} {V : AV} (h : xs.reverse[k]? = some V) : atI xs (-((k : Int) + 1)) = some V := by
  have hk : k < xs.length := by
    have := (List.getElem?_eq_some_iff.mp h).1
    simpa using this
  unfold atI
  rw [if_neg (by lia), if_pos (by lia)]
  rw [List.getElem?_reverse hk] at h
  rw [show (-((k : Int) + 1) + (xs.length : Int)).toNat = xs.length - 1 - k by lia]
  exact h
theorem IsInst.turn {a C d : Addr} {ks : List Str} {vs : List AV} (h : (a, MO.inst C d ks vs) ∈ X.σ) : IsInst X (.raw (.ref a)) C ks vs := .inr ⟨a, d, rfl, h⟩
end
section
variable {c : Cx} {X : AX} {Q : AV → AX → Prop}
theorem E_map {elt : Expr} {g : Comprehension} {scope : Scope} {pos : Pos} {xs ys : List AV} {X₁ : AX} (m₂ : List (Str × AV))
    (hiter : WE c g.iter (fun V X₂ => WI c g.target V (fun xs' bk X₃ => xs' = xs ∧ bk = id ∧ X₃ = X₁) X₂) X) (hlen : ys.length = xs.length) (hz : xs.length ≤ 1000000)
    (hm : ∀ p ∈ m₂, X₁.m.lookup p.1 = some p.2 ∧ Capt c scope p.1) (hifs : g.ifs = [])
    (item : ∀ C D (i : Nat) x y, (c.block scope C).Ok → xs[i]? = some x → ys[i]? = some y → WA (c.block scope C) g.target x (fun Y' => WE (c.block scope C) elt (fun V Y => V = y ∧ Y.σ = (D, .lst (ys.take i)) :: X₁.σ ∧ ∀ p ∈ m₂, Y.m.lookup p.1 = some p.2) Y') ⟨(D, .lst (ys.take i)) :: X₁.σ, m₂⟩)
    (hq : ∀ D, Q (.raw (.ref D)) ⟨(D, .lst ys) :: X₁.σ, X₁.m⟩)
    (hnd : (m₂.map (·.1)).Nodup) (hfree : ∀ p ∈ scope.names, p.2 = .free → (c.env.cells.lookup p.1).isSome = true) (hcell : ∀ p ∈ scope.names, p.2 ≠ .cell) (hkind : scope.kind = .function) (hnames : ∀ x ∈ scope.names, x.2 = .local → scope.names.lookup x.1 = some .local)
    (ha : g.is_async = 0) (hf : ∀ x, foldedSetIterable g.iter c.env x = pure x) :
    WE c (.ListComp elt [g] scope pos) Q X := by
  refine E_compM m₂ (hiter.imp fun V X₂ h => ?_) hfree hcell hkind hnames (fun q hq => by rw [List.mem_singleton.mp hq]; exact ha) (fun q hq => by rw [List.mem_singleton.mp hq]; exact hf) (fun _ q hq => nomatch hq)
  intro B S s v ok r st
  refine wpAny_mono (h B S s v ok r st) (fun it s' z => ?_) fun _ _ z => z
  obtain ⟨S', X', fp, J, E, xs', bk, h1, h2, h3, h4, h5, h6, rfl, rfl, rfl⟩ := z
  refine ⟨S', X', fp, J, E, xs', id, h1, h2, h3, h4, h5, h6, hm, fun C D okC => ⟨fun i Y => Y = ⟨(D, .lst (ys.take i)) :: X'.σ, m₂⟩, ⟨_, Conv.rfl, rfl⟩, fun i x Y hx hY => ?_, fun Y hY => ?_⟩⟩
  · subst hY
    have hi : i < ys.length := by rw [hlen]; exact (List.getElem?_eq_some_iff.mp hx).1
    have hy : ys[i]? = some ys[i] := List.getElem?_eq_getElem hi
    refine WT_A (item C D i x _ okC hx hy) fun Y' hE => ?_
    rw [hifs]
    refine If_nil ?_
    rw [if_pos rfl]
    refine hE.imp fun V Y hz₉ => ?_
    obtain ⟨hV, hσ, hl⟩ := hz₉
    subst hV
    refine ⟨ys.take i, (D, .lst (ys.take i ++ [ys[i]])) :: X'.σ, by rw [hσ]; exact .head, by rw [List.length_take]; lia, ⟨(D, .lst (ys.take (i + 1))) :: X'.σ, m₂⟩, ?_, rfl⟩
    rw [List.take_succ, hy]
    refine Conv.weak (List.Sublist.refl _) fun x V e => ?_
    obtain ⟨p, hp, rfl⟩ := lookup_mem e
    have := hl _ hp
    exact this
  · subst hY
    rw [← hlen, List.take_length]
    exact hq D
where
  WT_A {c : Cx} {t : Expr} {V : AV} {Q Q' : AX → Prop} {X : AX} (h : WA c t V Q X) (k : ∀ Y, Q Y → Q' Y) : WA c t V Q' X := fun B S s v ok r st => wpAny_mono (h B S s v ok r st) (fun _ _ p => p.imp fun _ _ q => k _ q) fun _ _ e => e
theorem E_mapF {elt : Expr} {g : Comprehension} {scope : Scope} {pos : Pos} {xs ys : List AV} {X₁ : AX} (m₂ : List (Str × AV))
    (hiter : WE c g.iter (fun V X₂ => WI c g.target V (fun xs' bk X₃ => xs' = xs ∧ bk = id ∧ X₃ = X₁) X₂) X) (hlen : ys.length = xs.length) (hz : xs.length ≤ 1000000)
    (hm : ∀ p ∈ m₂, X₁.m.lookup p.1 = some p.2 ∧ Capt c scope p.1) (hifs : g.ifs = [])
    (item : ∀ C D (i : Nat) x y, (c.block scope C).Ok → xs[i]? = some x → ys[i]? = some y → WA (c.block scope C) g.target x (fun Y' => WE (c.block scope C) elt (fun V Y => V = y ∧ Y.σ = (D, .lst (ys.take i)) :: X₁.σ ∧ ∀ p ∈ m₂, Y.m.lookup p.1 = some p.2) Y') ⟨(D, .lst (ys.take i)) :: X₁.σ, m₂⟩)
    (hq : Q (.lst ys) X₁)
    (hnd : (m₂.map (·.1)).Nodup) (hfree : ∀ p ∈ scope.names, p.2 = .free → (c.env.cells.lookup p.1).isSome = true) (hcell : ∀ p ∈ scope.names, p.2 ≠ .cell) (hkind : scope.kind = .function) (hnames : ∀ x ∈ scope.names, x.2 = .local → scope.names.lookup x.1 = some .local)
    (ha : g.is_async = 0) (hf : ∀ x, foldedSetIterable g.iter c.env x = pure x) :
    WE c (.ListComp elt [g] scope pos) Q X :=
  WE.conv (E_map m₂ hiter hlen hz hm hifs item (fun D => ⟨_, _, ConvV.freeze (m' := X₁.m) .head rfl .here (fun x V e => ⟨V, e, .same V⟩), hq⟩) hnd hfree hcell hkind hnames ha hf)
theorem O_isNo {V : AV} (hV : ∀ S v, Rep S v V → v ≠ .none) (h : Q (.bool false) X) : W2 c Rep V .none (compareOp .Is) Q X := by
  intro B S s v u ok r₁ r₂ st
  rw [r₂.none_inv]
  exact is_none_ne (hV S v r₁) ⟨S, _, X, .rfl, .bool _, st, h⟩
theorem lst_some {xs : List AV} : ∀ S v, Rep S v (.lst xs) → v ≠ .none := fun S v r => by
  obtain ⟨a, _, _, rfl, _⟩ := r.lst_inv
  intro e; cases e
end
inductive FzL (D : Addr) (W : AV) : List AV → List AV → Prop
  | nil : FzL D W [] []
  | cons {x y : AV} {xs ys : List AV} : Fz D W x y → FzL D W xs ys → FzL D W (x :: xs) (y :: ys)
theorem FzL.same {D : Addr} {W : AV} : ∀ xs : List AV, FzL D W xs xs
  | [] => .nil
  | x :: r => .cons (.same x) (FzL.same r)
theorem FzL.len {D : Addr} {W : AV} {xs ys : List AV} (h : FzL D W xs ys) : xs.length = ys.length := by
  induction h with
  | nil => rfl
  | cons _ _ ih => simp [ih]
theorem FzL.at {D : Addr} {W : AV} {xs ys : List AV} (h : FzL D W xs ys) : ∀ (i : Nat) x y, xs[i]? = some x → ys[i]? = some y → Fz D W x y := by
  induction h with
  | nil => intro i x y e; simp at e
  | cons h _ ih =>
    intro i x y e1 e2
    cases i with
    | zero => simp at e1 e2; subst e1 e2; exact h
    | succ i => simp at e1 e2; exact ih i x y e1 e2
inductive FzM (D : Addr) (W : AV) : MO → MO → Prop
  | lst {xs ys : List AV} : FzL D W xs ys → FzM D W (.lst xs) (.lst ys)
  | inst {C d : Addr} {ks : List Str} {xs ys : List AV} : FzL D W xs ys → FzM D W (.inst C d ks xs) (.inst C d ks ys)
section
variable {c : Cx} {B : Bg} {S : Sto} {X : AX} {s : Shared}
theorem FzM.rep {D : Addr} {W : AV} {mo mo' : MO} (z : FzM D W mo mo') {h : Heap} {a : Addr} (hW : Rep S (.ref D) W) (x : MRep S h a mo) : MRep S h a mo' := by
  cases z with
  | lst z =>
    obtain ⟨vs, n, h1, h2⟩ := x
    refine ⟨vs, n, h1, h2.1.trans z.len, fun i v y hv hy => ?_⟩
    obtain ⟨x, hx⟩ : ∃ x, _ = some x := ⟨_, List.getElem?_eq_getElem (by rw [z.len]; exact (List.getElem?_eq_some_iff.mp hy).1)⟩
    exact (z.at i x y hx hy).rep .rfl hW (h2.2 i v x hv hx)
  | inst z =>
    obtain ⟨h1, es, ep, h2, h3⟩ := x
    refine ⟨h1, es, ep, h2, h3.lk, h3.lv.trans z.len, h3.key, fun i e y he hy => ?_⟩
    obtain ⟨x, hx⟩ : ∃ x, _ = some x := ⟨_, List.getElem?_eq_getElem (by rw [z.len]; exact (List.getElem?_eq_some_iff.mp hy).1)⟩
    exact (z.at i x y hx hy).rep .rfl hW (h3.val i e x he hx)
theorem FzM.addrs {D : Addr} {W : AV} {mo mo' : MO} (z : FzM D W mo mo') (a : Addr) : mo'.addrs a = mo.addrs a := by cases z <;> rfl
theorem Conv.freezeIn {D a : Addr} {mo m m' : MO} {W : AV} {σ₁ σ₂ : List (Addr × MO)} {m₂ : List (Str × AV)} (h : SDel D mo X.σ σ₁) (hW : mo.still = some W) (U : SUpd a m m' σ₁ σ₂) (z : FzM D W m m') (hm : ∀ x V', m₂.lookup x = some V' → ∃ V, X.m.lookup x = some V ∧ Fz D W V V') : Conv c X ⟨σ₂, m₂⟩ := by
  intro B S s st
  obtain ⟨S', le, new, r, st'⟩ := st.freeze h hW
  have st2 := st'.upd U (z.addrs a) (fun _ _ _ e => e) (z.rep r (st'.get U.mem)) (Eq.refl _) (Eq.refl _) (Eq.refl _)
  refine ⟨S', le, new, st2.loc, st2.gr, st2.base, st2.sto, st2.cel, ?_, st2.mu, st2.nd, st2.sep, st2.dis, st2.dom, st2.prot, st2.pin, st2.os, st2.gens, st2.drawn⟩
  obtain ⟨mc, n, f⟩ := st.fr
  refine ⟨mc, n, fun x V' e => ?_⟩
  obtain ⟨V, hV, z⟩ := hm x V' e
  obtain ⟨v, rv, y⟩ := f x V hV
  exact ⟨v, z.rep le r rv, y⟩
theorem ConvV.freezeIn {D a : Addr} {mo m m' : MO} {V V' W : AV} {σ₁ σ₂ : List (Addr × MO)} {m₂ : List (Str × AV)} (h : SDel D mo X.σ σ₁) (hW : mo.still = some W) (U : SUpd a m m' σ₁ σ₂) (z : FzM D W m m') (hV : Fz D W V V') (hm : ∀ x V', m₂.lookup x = some V' → ∃ V, X.m.lookup x = some V ∧ Fz D W V V') : ConvV c V X V' ⟨σ₂, m₂⟩ := by
  intro B S s v rv st
  obtain ⟨S', le, new, r, st'⟩ := st.freeze h hW
  have st2 := st'.upd U (z.addrs a) (fun _ _ _ e => e) (z.rep r (st'.get U.mem)) (Eq.refl _) (Eq.refl _) (Eq.refl _)
  refine ⟨S', le, hV.rep le r rv, st2.loc, st2.gr, st2.base, st2.sto, st2.cel, ?_, st2.mu, st2.nd, st2.sep, st2.dis, st2.dom, st2.prot, st2.pin, st2.os, st2.gens, st2.drawn⟩
  obtain ⟨mc, n, f⟩ := st.fr
  refine ⟨mc, n, fun x V' e => ?_⟩
  obtain ⟨V, hV, z⟩ := hm x V' e
  obtain ⟨v, rv, y⟩ := f x V hV
  exact ⟨v, z.rep le r rv, y⟩
end
theorem freeOk {names : List (Str × NameKind)} {cells : List (Str × Addr)} (h : (names.all fun p => p.2 != .free || (cells.lookup p.1).isSome) = true) : ∀ p ∈ names, p.2 = .free → (cells.lookup p.1).isSome = true := fun p hp hf => by
  have := List.all_eq_true.mp h p hp
  rw [hf] at this
  simpa using this
section
variable {c : Cx} {X : AX}
def WNl (c : Cx) (names : List Str) (Vs : List AV) (Q : AX → Prop) (X : AX) : Prop := WN c (Same (α := Unit)) Vs (assignInOrder (names.map fun n => bindName c.env n)) (fun _ => Q) X
theorem Nl_nil {Vs} {Q : AX → Prop} (h : Q X) : WNl c [] Vs Q X := fun B S s vs ok r st => wpAny_pure ⟨S, (), X, .rfl, rfl, st, h⟩
theorem Nl_cons {x xs V Vs} {Q : AX → Prop} (hx : Own c x) (h : WNl c xs Vs Q ⟨X.σ, (x, V) :: X.m⟩) : WNl c (x :: xs) (V :: Vs) Q X := by
  intro B S s vs ok r st
  obtain ⟨v, vs, rfl, r1, r2⟩ := r.cons_inv
  show wpAny _ _ (holding vs (bindName c.env x v) >>= fun _ => assignInOrder (xs.map fun n => bindName c.env n) vs) _ _ _
  refine wpAny_bind (wpAny_holding (wpAny_mono (wpAny_bindName (store_ hx (Q := fun _ Y => Y = ⟨X.σ, (x, V) :: X.m⟩) rfl B S s v ok r1 st)) (fun _ s₁ hz₉ => ?_) fun _ _ e => e))
  obtain ⟨S₁, _, X₁, u₁, _, st₁, h₁⟩ := hz₉
  subst h₁
  exact wpAny_mono (h B S₁ s₁ vs ok (r2.mono u₁) st₁) (fun _ _ p => p.up u₁) fun _ _ e => e
theorem S_swap {ts k tpos value pos} {names : List Str} {Q : AF → AX → Prop} (hw : swappedStores [.Tuple ts k tpos] value c.env = pure (some names))
    (h : WE c value (fun V X₁ => ∃ Vs, V = .tup Vs ∧ Vs.length = names.length ∧ WNl c names.reverse Vs.reverse (Q .next) X₁) X)
    (hs : swapsWithSole [.Tuple ts k tpos] value pos.line c.env = pure false := by rfl) : WS c (.Assign [.Tuple ts k tpos] value pos) Q X := by
  intro B S s ok st
  refine Assign_Tuple_swapped (wpAny_mono (h B S s ok st) (fun v s₁ hz₉ => ?_) fun _ _ e => e) hs hw
  obtain ⟨S₁, V, X₁, u₁, r, st₁, Vs, e, hl, h₁⟩ := hz₉
  subst e
  obtain ⟨a, vs, n, rfl, h1, h2⟩ := r.tup_inv
  rw [show names.length = vs.toArray.size by rw [List.size_toArray, h2.1, hl]]
  refine unpackItems_tuple (items := vs.toArray) ok.G.hd ⟨_, st₁.sto _ _ h1, rfl, n, rfl⟩ fun h' hx => ?_
  have b := st₁.bare (get?_lt_none (Nat.le_refl s₁.heap.objs.size))
  have st₂ : St c B S₁ X₁ { s₁ with heap := h' } := st₁.keep (l := [s₁.heap.objs.size]) (fun b o q e => hx b o (fun z => q (List.mem_singleton.mpr z)) e) (fun a ha => by rw [List.mem_singleton.mp ha]; exact ⟨b.g, b.base, b.sto, b.own, b.adr⟩) rfl rfl rfl
  exact wpAny_mono (h₁ B S₁ _ _ ok h2.reverse st₂) (fun _ s₂ ⟨S₂, _, X₂, u₂, _, st₂, h₂⟩ => ⟨S₂, .next, X₂, u₁.trans u₂, .next, st₂, h₂⟩) fun _ _ e => e
theorem S_swap2 {ts k tpos value pos} {x y : Str} {Q : AF → AX → Prop} (hw : swappedStores [.Tuple ts k tpos] value c.env = pure (some [x, y])) (hx : Own c x) (hy : Own c y)
    (h : WE c value (fun W X₁ => ∃ V U, W = .tup [V, U] ∧ Q .next ⟨X₁.σ, (x, V) :: (y, U) :: X₁.m⟩) X)
    (hs : swapsWithSole [.Tuple ts k tpos] value pos.line c.env = pure false := by rfl) : WS c (.Assign [.Tuple ts k tpos] value pos) Q X :=
  S_swap hw (h.imp fun W X₁ ⟨V, U, e, q⟩ => ⟨[V, U], e, rfl, Nl_cons hy (Nl_cons hx (Nl_nil q))⟩) hs
end
structure TopEnd (s : Shared) (σ : List (Addr × MO)) (fx : Bool) (Q : AV → AX → Prop) (u : Value) (s' : Shared) (S' : Sto) (U : AV) (Y : AX) : Prop where
  q : Q U Y
  r : Rep S' u U
  sto : ∀ b o, S' b o → s'.heap.get? b = some o
  old : ∀ b o, s.heap.get? b = some o → b ∉ AX.adr σ → s'.heap.get? b = some o
  mu : ∀ p ∈ Y.σ, MRep S' s'.heap p.1 p.2
  os : s'.os = s.os
  gens : GLx fx s.gens s'.gens
  drawn : s'.drawn = s.drawn
theorem reps_ints {S : Sto} : ∀ {vs : List Value} {ns : List Int}, IntsAre vs ns → Reps S vs (ns.map .int)
  | _, _, .nil => .nil
  | _, _, .cons n t h => .cons (.int n t) (reps_ints h)
theorem top_good {c : ClaimW} {cl : Str → Option Addr} {mean : ExcName → Option Value} {args : List WData} {s₁ s' : Shared} {u : Value} {S' : Sto} {U : AV} {Y : AX} {Q : AV → AX → Prop} {fx : Bool} {cd P : Addr} {pos : Pos} {qual : Str}
    (hT : TabsAt [(cd, P)] s₁.heap) (e : TopEnd s₁ [(P, .ext [] (TabR P pos qual))] fx Q u s' S' U Y) (hU : U = .bool true) (hm : (P, MO.ext [] (TabR P pos qual)) ∈ Y.σ) (hr : ∀ cls, c.raises args cls = false) (hp : c.post args (.bool true) args = true) (hg : s₁.gens = #[]) :
    GoodWG c cl mean args s₁ (.ok (.ret u)) s' := by
  subst hU
  have hu := e.r.bool_inv
  subst hu
  have hq := hT (cd, P) (.head _)
  have hP : ∃ ps, s'.heap.get? P = some (tabObj ps) := by
    obtain ⟨_, ⟨ps, h, _⟩, _⟩ := e.mu _ hm
    exact ⟨ps, h⟩
  have old : ∀ b o, b ≠ P → s₁.heap.get? b = some o → s'.heap.get? b = some o := fun b o hb h => e.old b o h fun q => by
    rw [show AX.adr [(P, MO.ext [] (TabR P pos qual))] = [P] from rfl] at q
    exact hb (List.mem_singleton.mp q)
  refine ⟨.inl ⟨_, .bool true, [], rfl, hr, .bool true, hp, fun _ => ⟨.nil, fun _ h => nomatch h⟩⟩, ⟨fun b o h => ?_, fun b o h => ?_⟩, e.os, e.gens.1.2 (.of_eq hg)⟩
  · by_cases hb : b = P
    · subst hb
      have h2 := hq.2
      rw [h] at h2
      obtain ⟨ps, hps⟩ := hP
      have h3 := Option.some.inj h2
      subst h3
      exact .inr (.inl ⟨(hq.1.tab hq.2).isCodeTable, rfl, #[], ps, rfl, by rw [Array.empty_append]; exact hps⟩)
    · exact .inl (old b o hb h)
  · by_cases hb : b = P
    · subst hb; obtain ⟨ps, hps⟩ := hP; exact ⟨_, hps⟩
    · exact ⟨o, old b o hb h⟩
def TabG (P : Addr) (S : Sto) (h : Heap) : Prop := ∃ ps : Array Value, h.get? P = some (tabObj ps) ∧ TriplesOk ps.toList
abbrev MO.tabG (P : Addr) : MO := .ext [] (TabG P)
theorem TabG.ext {P : Addr} {S : Sto} {h : Heap} (x : TabG P S h) : MRep S h P (MO.tabG P) := by
  obtain ⟨ps, hP, ht⟩ := x
  exact ⟨fun b hb => by have := List.mem_singleton.mp hb; subst this; exact ⟨_, hP⟩, ⟨ps, hP, ht⟩, fun T h' le k => ⟨ps, k P (.head _) _ hP, ht⟩⟩
theorem SUpd.same {a : Addr} {mo : MO} : ∀ {σ : List (Addr × MO)}, (a, mo) ∈ σ → SUpd a mo mo σ σ
  | _ :: _, .head _ => .head
  | _ :: _, .tail _ h => .tail (SUpd.same h)
theorem St.regen {c : Cx} {B : Bg} {S : Sto} {X : AX} {s : Shared} (st : St c B S X s) (hf : c.fix = false) {gs : Array GenState} (h : GLe s.gens gs) : St c B S X { s with gens := gs } :=
  ⟨st.loc, st.gr, st.base, st.sto, st.cel, st.fr, st.mu, st.nd, st.sep, st.dis, st.dom, st.prot, st.pin, st.os, ⟨st.gens.1.trans h, fun e => by rw [hf] at e; cases e⟩, st.drawn⟩
def Cx.gen (c : Cx) (scope : Scope) (C : Addr) (code : Value) (A' : Around) : Cx :=
  { c with A := A', env := genEnv scope (clOf c.env.cells scope.names []) C code builtinsNs c.env, own := [], E := fun _ _ => False, fix := true }
theorem AllBare.ext {a b : Array GenState} {x : GenState} (hx : x.bare = true) (q : GenOnlyQ a.size (a.push x) b) : GLe a b := by
  refine ⟨fun i y e => ?_, fun ha => ?_⟩
  · have hi : i < a.size := by
      rcases Nat.lt_or_ge i a.size with h | h
      · exact h
      · rw [Array.getElem?_eq_none h] at e; cases e
    have e1 : (a.push x)[i]? = some y := by rw [Array.getElem?_push]; rw [if_neg (by lia)]; exact e
    rcases q with q | ⟨⟨_, q⟩, _⟩
    · rw [q]; exact e1
    · rw [q i (by lia)]; exact e1
  · exact q.bare (fun y hy => (Array.mem_push.mp hy).elim (ha y) fun z => z ▸ hx)
section
variable {c : Cx} {X : AX} {Q : AV → AX → Prop}
end
inductive Thin : AV → Prop
  | int (n : Int) : Thin (.int n)
  | raw (v : Value) : Thin (.raw v)
  | nil : Thin (.tup [])
  | one (n : Int) : Thin (.tup [.int n])
  | inst (C : Addr) (k : Str) (n : Int) : Thin (.inst C [k] [.int n])
theorem Thin.inter {h : Heap} {P : Sto → Prop} {v : Value} {V : AV} (hP : ∀ S, P S → ∀ b o, S b o → h.get? b = some o) (ex : ∃ S, P S) (t : Thin V) (r : ∀ S, P S → Rep S v V) : Rep (fun b o => ∀ S, P S → S b o) v V := by
  obtain ⟨S₀, p₀⟩ := ex
  have r₀ := r S₀ p₀
  cases t with
  | int n => obtain ⟨t, rfl⟩ := r₀.int_inv; exact .int _ _
  | raw v => rw [r₀.raw_inv]; exact .raw _
  | nil =>
    obtain ⟨a, vs, n, rfl, h1, h2⟩ := r₀.tup_inv
    cases h2.nil_inv
    refine .tup' (vs := []) (n := n) (fun S p => ?_) .nil
    obtain ⟨a', vs', n', e, h1', h2'⟩ := (r S p).tup_inv
    cases e
    have := (hP _ p₀ _ _ h1).symm.trans (hP _ p _ _ h1')
    rw [Option.some.inj this]; exact h1'
  | one m =>
    obtain ⟨a, vs, n, rfl, h1, h2⟩ := r₀.tup_inv
    obtain ⟨u, t, rfl, h3, h4⟩ := h2.cons_inv
    cases h4.nil_inv
    obtain ⟨tk, rfl⟩ := h3.int_inv
    refine .tup' (vs := [.int m tk]) (n := n) (fun S p => ?_) (.cons (.int _ _) .nil)
    obtain ⟨a', vs', n', e, h1', h2'⟩ := (r S p).tup_inv
    cases e
    have := (hP _ p₀ _ _ h1).symm.trans (hP _ p _ _ h1')
    rw [Option.some.inj this]; exact h1'
  | inst C k m =>
    obtain ⟨a, d, es, ep, rfl, h1, h2, h3⟩ := r₀.inst_inv
    have same : ∀ S, P S → S a (instObj C d) ∧ S d (dictOf es ep) := fun S p => by
      obtain ⟨a', d', es', ep', e, h1', h2', h3'⟩ := (r S p).inst_inv
      cases e
      have e1 := (hP _ p₀ _ _ h1).symm.trans (hP _ p _ _ h1')
      have e1 := Option.some.inj e1
      have hd : d = d' := by injection e1 with _ q; exact Option.some.inj q
      subst hd
      have e2 := (hP _ p₀ _ _ h2).symm.trans (hP _ p _ _ h2')
      rw [Option.some.inj e2]
      exact ⟨h1', h2'⟩
    refine .inst' (d := d) (es := es) (ep := ep) (fun S p => (same S p).1) (fun S p => (same S p).2) ⟨h3.lk, h3.lv, h3.key, fun i e V he hV => ?_⟩
    have hr := h3.val i e V he hV
    match i, hV with
    | 0, hV => cases hV; obtain ⟨t, q⟩ := hr.int_inv; rw [q]; exact .int _ _
    | i + 1, hV => simp at hV
structure Good (c : Cx) (env : Env) (m : List (Str × AV)) (S : Sto) (s : Shared) : Prop where
  gr : c.g.StaysIn s.heap
  sto : ∀ b o, S b o → s.heap.get? b = some o
  loc : ∀ o, ¬ S env.locals o
  ns : ∃ mc, s.heap.Ns env.locals mc
  names : ∀ x V, m.lookup x = some V → ∃ v, Rep S v V ∧ env.kindOf x = some .local ∧ s.heap.nsMap env.locals x = some v
def leastG (c : Cx) (env : Env) (m : List (Str × AV)) (s : Shared) : Sto := fun b o => ∀ S, Good c env m S s → S b o
theorem Good.least {c : Cx} {env : Env} {m : List (Str × AV)} {S : Sto} {s : Shared} (h : Good c env m S s) (ht : ∀ x V, m.lookup x = some V → Thin V) : Good c env m (leastG c env m s) s where
  gr := h.gr
  sto b o e := h.sto b o (e S h)
  loc o e := h.loc o (e S h)
  ns := h.ns
  names x V e := by
    obtain ⟨v, r, k, hv⟩ := h.names x V e
    refine ⟨v, Thin.inter (fun S p => p.sto) ⟨S, h⟩ (ht x V e) fun S' p => ?_, k, hv⟩
    obtain ⟨v', r', _, hv'⟩ := p.names x V e
    rw [hv] at hv'; cases hv'
    exact r'
theorem leastG_le {c : Cx} {env : Env} {m : List (Str × AV)} {S : Sto} {s : Shared} (h : Good c env m S s) : (leastG c env m s).Le S := fun _ _ e => e S h
def Bg.gen (s : Shared) (L : Addr) (S : Sto) : Bg := { base := fun b o => s.heap.get? b = some o ∧ b ≠ L, prot := fun b => (∃ o, s.heap.get? b = some o) ∧ b ≠ L ∧ ∀ o, ¬ S b o, os := s.os, gens := s.gens, drawn := s.drawn }
def Cx.gx (c : Cx) (env : Env) (A : Around) : Cx := { c with A := A, env := env, own := [env.locals], E := fun _ _ => False, fix := true }
theorem Good.st {c : Cx} {env : Env} {m : List (Str × AV)} {S : Sto} {s : Shared} (h : Good c env m S s) (hL : c.g.get? env.locals = none) (hc : env.cells = []) (A : Around) : St (c.gx env A) (Bg.gen s env.locals S) S ⟨[], m⟩ s where
  loc := .inl (.head _)
  gr := h.gr
  base b o e := e.1
  sto := h.sto
  cel x k e := by have e : env.cells.lookup x = some k := e; rw [hc] at e; cases e
  fr := by
    obtain ⟨mc, n⟩ := h.ns
    refine ⟨mc, n, fun x V e => ?_⟩
    obtain ⟨v, r, k, hv⟩ := h.names x V e
    exact ⟨v, r, .inl ⟨k, by rw [n.eq_nsMap]; exact hv⟩⟩
  mu p hp := (List.not_mem_nil hp).elim
  nd := List.nodup_nil
  sep a ha := by
    rcases ha with ha | ha
    · rw [List.mem_singleton.mp ha]
      exact ⟨hL, fun o e => e.2 rfl, h.loc⟩
    · exact (List.not_mem_nil ha).elim
  dis a _ ha := (List.not_mem_nil ha).elim
  dom a ha := by rw [List.mem_singleton.mp ha]; obtain ⟨mc, o, es, ep, e, _⟩ := h.ns; exact ⟨o, e⟩
  prot a o e q := q.2.2 o e
  pin a q := let ⟨⟨o, e⟩, h1, _⟩ := q; ⟨o, e, h1⟩
  os := rfl
  gens := .refl _
  drawn := rfl
structure Since (c : Cx) (env : Env) (S : Sto) (s₀ s : Shared) (T : Sto) : Prop where
  keep : ∀ b o, b ≠ env.locals → s₀.heap.get? b = some o → s.heap.get? b = some o
  gens : s.gens = s₀.gens
  os : s.os = s₀.os
  drawn : s.drawn = s₀.drawn
  le : S.Le T
  new : ∀ b o, T b o → S b o ∨ s₀.heap.get? b = none
theorem Good.out {c : Cx} {env : Env} {m m' : List (Str × AV)} {S T : Sto} {s₀ s : Shared} {A : Around} {X : AX} (h : Good c env m S s₀) (le : S.Le T) (st : St (c.gx env A) (Bg.gen s₀ env.locals S) T X s) (hm : ∀ x V, m'.lookup x = some V → X.m.lookup x = some V) (hc : env.cells = []) :
    Since c env S s₀ s T ∧ Good c env m' T s := by
  refine ⟨⟨fun b o q e => st.base b o ⟨e, q⟩, st.gens.2 rfl, st.os, st.drawn, le, fun b o e => ?_⟩, st.gr, st.sto, (st.sep _ (.inl (.head _))).2.2, ?_, fun x V e => ?_⟩
  · cases q : s₀.heap.get? b with
    | none => exact .inr rfl
    | some o' =>
      have hb : b ≠ env.locals := fun z => (st.sep env.locals (.inl (.head _))).2.2 o (z ▸ e)
      have hn := st.prot b o e
      have : ∃ o'', S b o'' := Classical.byContradiction fun z => hn ⟨⟨o', q⟩, hb, fun o'' w => z ⟨o'', w⟩⟩
      obtain ⟨o'', w⟩ := this
      have := (st.sto _ _ (le _ _ w)).symm.trans (st.sto _ _ e)
      rw [← Option.some.inj this]; exact .inl w
  · obtain ⟨mc, n, _⟩ := st.fr
    exact ⟨mc, n⟩
  · obtain ⟨mc, n, f⟩ := st.fr
    obtain ⟨v, r, y⟩ := f x V (hm x V e)
    rcases y with ⟨k, q⟩ | ⟨_, k, o, e1, _⟩
    · have n' : s.heap.Ns env.locals mc := n
      exact ⟨v, r, k, by rw [← n'.eq_nsMap]; exact q⟩
    · have e1 : env.cells.lookup x = some k := e1
      rw [hc] at e1; cases e1
theorem Since.refl {c : Cx} {env : Env} {S : Sto} {s : Shared} : Since c env S s s S := ⟨fun _ _ _ e => e, rfl, rfl, rfl, .rfl, fun _ _ => .inl⟩
theorem Since.trans {c : Cx} {env : Env} {S T U : Sto} {s₀ s₁ s₂ : Shared} (h : Since c env S s₀ s₁ T) (k : Since c env T s₁ s₂ U) (hU : ∀ o, ¬ U env.locals o) : Since c env S s₀ s₂ U where
  keep b o q e := k.keep b o q (h.keep b o q e)
  gens := k.gens.trans h.gens
  os := k.os.trans h.os
  drawn := k.drawn.trans h.drawn
  le := h.le.trans k.le
  new b o e := by
    rcases k.new b o e with q | q
    · exact h.new b o q
    · cases z : s₀.heap.get? b with
      | none => exact .inr rfl
      | some o' =>
        by_cases hb : b = env.locals
        · exact (hU o (hb ▸ e)).elim
        · rw [h.keep b o' hb z] at q; cases q
structure GenSpec (c : Cx) (env : Env) (d : Nat) (s1 s2 s3 : Stmt) (test e : Expr) (xs : List AV) (mi : List (Str × AV)) (m : Nat → List (Str × AV)) : Prop where
  thin : ∀ j x V, (m j).lookup x = some V → Thin V
  thin0 : ∀ x V, mi.lookup x = some V → Thin V
  pre : ∀ A, Gd A d → (c.gx env A).Ok → WS (c.gx env A) s1 (fun F Y => F = .next ∧ WS (c.gx env A) s2 (fun F' Y' => F' = .next ∧ ∀ x V, (m 0).lookup x = some V → Y'.m.lookup x = some V) Y) ⟨[], mi⟩
  test : ∀ j A, j ≤ xs.length → Gd A d → (c.gx env A).Ok → WB (c.gx env A) test (fun b Y => b = decide (j < xs.length) ∧ Y = ⟨[], m j⟩) ⟨[], m j⟩
  item : ∀ j A, j < xs.length → Gd A d → (c.gx env A).Ok → WE (c.gx env A) e (fun V Y => xs[j]? = some V ∧ Y = ⟨[], m j⟩) ⟨[], m j⟩
  step : ∀ j A, j < xs.length → Gd A d → (c.gx env A).Ok → WS (c.gx env A) s3 (fun F Y => F = .next ∧ ∀ x V, (m (j + 1)).lookup x = some V → Y.m.lookup x = some V) ⟨[], m j⟩
def mmOf (mi : List (Str × AV)) (m : Nat → List (Str × AV)) : Nat → List (Str × AV)
  | 0 => mi
  | j + 1 => m j
def GY (c : Cx) (env : Env) (xs : List AV) (mi : List (Str × AV)) (m : Nat → List (Str × AV)) : Protocol := fun n s₀ v s kap =>
  n < xs.length ∧ ∃ S T V, Since c env S s₀ s T ∧ (∀ S', Good c env (mmOf mi m (xs.length - 1 - n)) S' s₀ → S.Le S') ∧ Good c env (m (xs.length - 1 - n)) T s ∧ xs[xs.length - 1 - n]? = some V ∧ Rep T v V ∧
    ∀ s'' T'', Good c env (m (xs.length - 1 - n)) T'' s'' → kap (.send .none) s''
def GP (c : Cx) (env : Env) : Nat → Shared → Shared → Prop := fun n s₀ s => n = 0 ∧ ∃ S T, Since c env S s₀ s T
abbrev GEnd (c : Cx) (env : Env) : GenEnd := fun n s₀ r s₁ => r = .ok (.ret .none) ∧ GP c env n s₀ s₁
theorem ar1 {n i k : Nat} (h : n - i = k + 1) : i < n := by omega
theorem ar2 {n i k : Nat} (h : n - i = k + 1) : n - 1 - k = i := by omega
theorem ar3 {n i k : Nat} (h : n - i = k + 1) : n - (i + 1) = k := by omega
theorem ar4 {n i k : Nat} (h : n - i = k + 1) : k < n := by omega
theorem ar5 {n i : Nat} (h : n - i = 0) : ¬ i < n := by omega
section
variable {c : Cx} {env : Env} {d : Nat} {s1 s2 s3 : Stmt} {test e : Expr} {xs : List AV} {mi : List (Str × AV)} {m : Nat → List (Str × AV)} {A : Around} {yp ep wp : Pos}
abbrev gBody (s3 : Stmt) (e : Expr) (yp ep : Pos) : List Stmt := [.Expr (.Yield (some e) yp) ep, s3]
theorem Gd.over {A : Around} {d : Nat} {c₁ c₂ : Code} {p : Pos} {k : Result → Sem Fin} {l kp : List Value} (x : Gd A (d + 1)) (h1 : c₁.weight = 0) (h2 : c₁.cUnits = 0) (h3 : c₂.weight = 1) (h4 : c₂.cUnits = 3) : Gd (A.over c₁ [.ret k none false l c₂ p kp]) d := by
  refine ⟨x.hd, ?_, ?_⟩
  · have := x.dp
    show A.depth + (c₂.weight + 0) + c₁.weight + d < _
    rw [h1, h3]; omega
  · have := x.un
    show A.units + (c₂.cUnits + 0) + c₁.cUnits + 8 * d + 8 < _
    rw [h2, h4]; omega
theorem Gd.over0 {A : Around} {d : Nat} {c₂ : Code} (x : Gd A (d + 1)) (h3 : c₂.weight = 1) (h4 : c₂.cUnits = 3) : Gd (A.over c₂ []) d := by
  refine ⟨x.hd, ?_, ?_⟩
  · have := x.dp
    show A.depth + 0 + c₂.weight + d < _
    rw [h3]; omega
  · have := x.un
    show A.units + 0 + c₂.cUnits + 8 * d + 8 < _
    rw [h4]; omega
theorem gen_loop (hS : GenSpec c env d s1 s2 s3 test e xs mi m) (hL : c.g.get? env.locals = none) (hc : env.cells = []) (hOk : ∀ A, Gd A 0 → (c.gx env A).Ok) (G : Gd A (d + 1))
    (hco : env.scope.isCoroutine = false) (hin : interactive env = false) {body : List Stmt} {K : Flow → Sem Fin} {H : Value → Sem Fin} {p : Pos} {l : List Value}
    (hK : K .next = .pure (.done (.ret .none))) {kk : Result → Sem Fin} (hkk : kk (.ok .next) = K .next) :
    ∀ k j s₀ s S T, xs.length - j = k → j ≤ xs.length → Since c env S s₀ s T → Good c env (m j) T s → (∀ S', Good c env (mmOf mi m j) S' s₀ → S.Le S') →
      Seg (model c.P c.w) A (GEnd c env) (GY c env xs mi m) k s₀ (.whileLoop test (gBody s3 e yp ep) [] env) ((model c.P c.w).den (.whileLoop test (gBody s3 e yp ep) [] env)) [.ret kk none false l (.func body env) p []] s := by
  have Gw : Gd (A.over (.whileLoop test (gBody s3 e yp ep) [] env) [.ret kk none false l (.func body env) p []]) d := G.over rfl rfl rfl rfl
  have ok := hOk _ (Gw.le (Nat.ble_eq.mpr (Nat.zero_le _)))
  intro k
  induction k with
  | zero =>
    intro j s₀ s S T hk hj hs hg hl
    refine seg_whileLoop (wpAny_mono (hS.test j _ hj Gw ok _ _ _ ok (hg.st hL hc _)) (fun b s' hz => ?_) fun _ _ z => z.elim)
    obtain ⟨T', b', X', le, eb, st', rfl, rfl⟩ := hz
    have eb : b = _ := eb
    subst eb
    rw [decide_eq_false (ar5 hk), if_neg (by decide)]
    obtain ⟨hs', hg'⟩ := hg.out le st' (fun _ _ e => e) hc
    refine seg_execs_nil ?_
    refine seg_leaf (.ok .next) ?_
    rw [hkk, hK]
    exact seg_end (.ok (.ret .none)) ⟨rfl, rfl, S, T', hs.trans hs' hg'.loc⟩
  | succ k ih =>
    intro j s₀ s S T hk hj hs hg hl
    have hlt : j < xs.length := ar1 hk
    have hn : xs.length - 1 - k = j := ar2 hk
    refine seg_whileLoop (wpAny_mono (hS.test j _ hj Gw ok _ _ _ ok (hg.st hL hc _)) (fun b s₁ hz => ?_) fun _ _ z => z.elim)
    obtain ⟨T₁, b', X', le, eb, st₁, rfl, rfl⟩ := hz
    have eb : b = _ := eb
    subst eb
    rw [decide_eq_true hlt, if_pos rfl]
    obtain ⟨hs₁, hg₁⟩ := hg.out le st₁ (fun _ _ e => e) hc
    refine seg_execs_cons (seg_Expr_Yield rfl rfl rfl (wpAny_mono (hS.item j _ hlt Gw ok _ _ _ ok (hg₁.st hL hc _)) (fun v s₂ hz => ?_) fun _ _ z => z.elim) hco hin)
    obtain ⟨T₂, V, X₂, le₂, rv, st₂, hV, rfl⟩ := hz
    obtain ⟨hs₂, hg₂⟩ := hg₁.out le₂ st₂ (fun _ _ e => e) hc
    intro kap hkap
    refine ⟨ar4 hk, S, T₂, V, (hs.trans hs₁ hg₁.loc).trans hs₂ hg₂.loc, by rw [hn]; exact hl, by rw [hn]; exact hg₂, by rw [hn]; exact hV, rv, fun s'' T'' hg'' => hkap _ _ ?_⟩
    rw [hn] at hg''
    have hl₀ := hg''.least (hS.thin j)
    show Seg _ A _ _ k s'' _ ((execs [s3] env).wrap _ _ _ _) _ s''
    refine seg_execs_cons (seg_wrap (wpAny_mono (hS.step j _ hlt Gw ok _ _ _ ok (hl₀.st hL hc _)) (fun f s₃ hz => ?_) fun _ _ z => z.elim))
    obtain ⟨T₃, F, X₃, le₃, rf, st₃, rfl, hm⟩ := hz
    cases rf
    obtain ⟨hs₃, hg₃⟩ := hl₀.out le₃ st₃ hm hc
    refine seg_execs_nil ?_
    refine seg_again rfl (ih (j + 1) s'' s₃ _ _ (ar3 hk) hlt hs₃ hg₃ fun S' h => leastG_le h)
theorem gen_start (hS : GenSpec c env d s1 s2 s3 test e xs mi m) (hL : c.g.get? env.locals = none) (hc : env.cells = []) (hOk : ∀ A, Gd A 0 → (c.gx env A).Ok) (G : Gd A (d + 1))
    (hco : env.scope.isCoroutine = false) (hin : interactive env = false) {s : Shared} {S : Sto} (hg : Good c env mi S s) :
    (GenState.fresh (.func [s1, s2, .While test (gBody s3 e yp ep) [] wp] env)).Goes (model c.P c.w) A (GEnd c env) (GY c env xs mi m) xs.length (.send .none) s := by
  have Gf : Gd (A.over (.func [s1, s2, .While test (gBody s3 e yp ep) [] wp] env) []) d := G.over0 rfl rfl
  have ok := hOk _ (Gf.le (Nat.ble_eq.mpr (Nat.zero_le _)))
  have hl := hg.least hS.thin0
  refine ⟨rfl, seg_func (seg_execs_cons (seg_wrap (wpAny_mono (hS.pre _ Gf ok _ _ _ ok (hl.st hL hc _)) (fun f s₁ hz => ?_) fun _ _ z => z.elim)))⟩
  obtain ⟨T₁, F, X₁, le₁, rf, st₁, rfl, h2⟩ := hz
  cases rf
  refine seg_execs_cons (seg_wrap (wpAny_mono (h2 _ _ _ ok st₁) (fun f s₂ hz => ?_) fun _ _ z => z.elim))
  obtain ⟨T₂, F, X₂, le₂, rf, st₂, rfl, hm⟩ := hz
  cases rf
  obtain ⟨hs₂, hg₂⟩ := hl.out (le₁.trans le₂) st₂ hm hc
  refine seg_execs_cons (seg_While fun p => ?_)
  exact gen_loop hS hL hc hOk G hco hin (K := fun f => .pure (.done (.ret (match f with | .ret v => v | _ => .none)))) (H := fun e => .raise e) rfl rfl _ 0 s s₂ _ _ (Nat.sub_zero _) (Nat.zero_le _) hs₂ hg₂ fun S' h => leastG_le h
end
structure GReady (c : Cx) (B : Bg) (X : AX) (S : Sto) (a : Addr) (g : Nat) (env : Env) (m : List (Str × AV)) (s : Shared) : Prop where
  st : St c B S X s
  bL : Bare c B S X env.locals
  bA : Bare c B S X a
  ne : a ≠ env.locals
  isg : s.heap.IsGen a g
  lo : B.gens.size ≤ g
  good : Good c env m S s
theorem GLe.push {a : Array GenState} {x : GenState} (h : x.bare = true) : GLe a (a.push x) :=
  ⟨fun i y e => by
    have hi : i < a.size := by
      rcases Nat.lt_or_ge i a.size with h | h
      · exact h
      · rw [Array.getElem?_eq_none h] at e; cases e
    rw [Array.getElem?_push, if_neg (by lia)]; exact e, fun ha y hy => (Array.mem_push.mp hy).elim (ha y) fun z => z ▸ h⟩
theorem GLe.size {a b : Array GenState} (h : GLe a b) : a.size ≤ b.size := by
  rcases Nat.lt_or_ge b.size a.size with q | q
  · have := h.1 b.size a[b.size] (Array.getElem?_eq_getElem q)
    rw [Array.getElem?_eq_none (Nat.le_refl _)] at this
    cases this
  · exact q
theorem gen_call {c : Cx} {B : Bg} {S : Sto} {X : AX} {s : Shared} {vs : List Value} {kw : List (Str × Value)} {f : Addr} {Vs : List AV} {kws : List (Str × AV)} {name qual : Str} {params : Arguments} {body : List Stmt} {scope : Scope} {dV kV doc pm cdv ct oc : Value} {an od : Option Addr} {osl : Array (Option Value)} {d : Nat} (M : List (Str × AV))
    (G : Gd c.A (d + 1)) (ho : c.K.lookup f = some ⟨oc, od, .func (fnOf name qual params body scope dV kV doc pm an cdv ct), osl⟩) (hcd : codeIn c.K cdv qual = true)
    (hb : Binds c (fnOf name qual params body scope dV kV doc pm an cdv ct) Vs kws M)
    (hkind : (M.all fun y => scope.names.lookup y.1 == some .local) = true)
    (hcl : ∀ L, cellsFrom L scope.names [] = [])
    (hco : scope.isCoroutine = false) (hgen : scope.isGenerator = true) (hk : scope.kind = .function) (hfix : c.fix = false)
    (ok : c.Ok) (r : Reps S vs Vs) (rk : RepK S kw kws) (st : St c B S X s) :
    codeAny (model c.P c.w) c.A (.call (.ref f) ⟨vs, kw⟩) (fun r s' => ∃ S' L a g, r = .ok (.ret (.ref a)) ∧ S.Le S' ∧ GReady c B X S' a g (envOfC qual scope L f cdv) M.reverse s' ∧
      s'.gens[g]? = some (.fresh (.func body (envOfC qual scope L f cdv))) ∧ ∀ A, Gd A 0 → (c.gx (envOfC qual scope L f cdv) A).Ok) s := by
  have X0 := ok.X.keeps st.gr
  obtain ⟨p, loose, mean, mg, mb, T⟩ := ok.T
  have T' := (topRead_of T).keeps st.gr
  refine codeAny_call_generator (fd := fnOf name qual params body scope dV kV doc pm an cdv ct) (body := body) G.room (X0 _ _ ho) rfl hco hgen rfl (codeRec_of X0 hcd) ?_
  refine hb S s vs kw _ _ _ X0 r rk fun binds s₁ S₁ le hbr ks e1 e2 e3 stUp => ?_
  have st1 := stUp c B X st
  have hkind' : (binds.all fun y => scope.names.lookup y.1 == some .local || scope.names.lookup y.1 == some .cell) = true := by
    rw [List.all_eq_true] at hkind ⊢
    intro y hy
    have : y.1 ∈ binds.map (·.1) := List.mem_map_of_mem hy
    rw [hbr.1] at this
    obtain ⟨z, hz, e⟩ := List.mem_map.mp this
    rw [← e, hkind z hz, Bool.true_or]
  refine wpAny_newFunctionEnv_cells hk (kindsX hkind' _) fun env' he s' x => ?_
  subst he
  refine ⟨(T'.nolimit.keeps ks).keeps x.toInCall.keep, ?_⟩
  obtain ⟨h₁, tk, rfl, _⟩ := x.done
  have hk₁ : Keeps s₁.heap h₁ := x.toInCall.keep
  have xn := x.toInCall.ns
  have bL := st1.bare (a := s₁.heap.objs.size) (get?_lt_none (Nat.le_refl _))
  have hLlt : s₁.heap.objs.size < h₁.objs.size := by obtain ⟨o, es, ep, e, _⟩ := xn; exact Heap.lt_size e
  have bA := st1.bare (a := h₁.objs.size) (get?_lt_none (by lia))
  have hxn : ∀ o : Obj, Keeps h₁ (h₁.push o) := fun o => Keeps.push _ _
  have hcells : (envOfC qual scope s₁.heap.objs.size f cdv).cells = [] := hcl _
  refine ⟨S₁, s₁.heap.objs.size, h₁.objs.size, s₁.gens.size, rfl, le, ⟨?_, bL, bA, Nat.ne_of_gt hLlt, ?_, ?_, ?_⟩, ?_, fun A GA => ?_⟩
  · have st2 : St c B S₁ X { s₁ with heap := h₁.push { cls := .type "generator", data := .fields #[.int s₁.gens.size 0, .str name tk, .str qual (tk + 1)] }, toks := tk + 1 + 1 } := st1.grow (fun b o e => hxn _ b o (hk₁ b o e)) rfl rfl rfl
    exact st2.regen hfix (GLe.push rfl)
  · exact ⟨_, _, _, Heap.get?_push_size _ rfl, rfl, rfl, rfl⟩
  · have := st1.gens.1.size; exact this
  · have n' := xn.keeps (hxn { cls := .type "generator", data := .fields #[.int s₁.gens.size 0, .str name tk, .str qual (tk + 1)] })
    refine ⟨fun b o e => hxn _ b o (hk₁ b o (st1.gr b o e)), fun b o e => hxn _ b o (hk₁ b o (st1.sto b o e)), bL.sto, ⟨_, n'⟩, fun y V e => ?_⟩
    obtain ⟨v, h1, h2⟩ := hbr.reverse.lookup e
    obtain ⟨q, hq, rfl⟩ := lookup_mem e
    have hq' := List.all_eq_true.mp hkind (q, V) (List.mem_reverse.mp hq)
    have k2 : scope.names.lookup q = some .local := by simpa using hq'
    refine ⟨v, h2, k2, ?_⟩
    refine (congrFun n'.eq_nsMap q).symm.trans ?_
    rw [bindL_get k2, h1]; rfl
  · show (s₁.gens.push _)[s₁.gens.size]? = _
    rw [Array.getElem?_push, if_pos rfl]; rfl
  · exact ⟨ok.X, ok.T, GA, rfl, rfl, hk, fun _ _ e => e, fun a o e => Heap.lt_size (ks _ _ (X0 a o e)), fun a b k ha hb => by
      have ha : (envOfC qual scope s₁.heap.objs.size f cdv).cells.lookup a = some k := ha
      rw [hcells] at ha; cases ha⟩
theorem St.since {c : Cx} {B : Bg} {S S₀ T : Sto} {X : AX} {s z₀ s₁ : Shared} {env : Env} {m : List (Str × AV)} (st : St c B S X s) (b : Bare c B S X env.locals) (hs : Since c env S₀ z₀ s₁ T) (eh : z₀.heap = s.heap) (eo : z₀.os = s.os) (ed : z₀.drawn = s.drawn) (le : S₀.Le S) (hg : Good c env m T s₁) {gs : Array GenState} (hgs : GLx c.fix B.gens gs) :
    St c B (fun b o => S b o ∨ T b o) X { s₁ with gens := gs } := by
  have keep : ∀ a, a ≠ env.locals → ∀ o, s.heap.get? a = some o → s₁.heap.get? a = some o := fun a q o e => hs.keep a o q (by rw [eh]; exact e)
  have nL : ∀ x k, c.env.cells.lookup x = some k → k ≠ env.locals := fun x k e q => by
    obtain ⟨_, h2, _⟩ := st.cel x k e
    rcases h2 with h2 | ⟨o, h2⟩
    · exact b.own (q ▸ h2)
    · exact b.base o (q ▸ h2)
  have nl : c.env.locals ≠ env.locals := fun q => by
    rcases st.loc with h | ⟨_, o, h⟩
    · exact b.own (q ▸ h)
    · exact b.base o (q ▸ h)
  have old : ∀ a o, T a o → (∃ o', s.heap.get? a = some o') → S a o := fun a o e ⟨o', q⟩ => by
    rcases hs.new a o e with z | z
    · exact le _ _ z
    · rw [eh, q] at z; cases z
  refine ⟨st.loc, fun a o e => keep a (fun q => by rw [q, b.g] at e; cases e) o (st.gr a o e), fun a o e => keep a (fun q => b.base o (q ▸ e)) o (st.base a o e), fun a o e => e.elim (fun e => keep a (fun q => b.sto o (q ▸ e)) o (st.sto a o e)) (hg.sto a o), fun x k e => ?_, ?_, fun p hp => ?_, st.nd, fun a ha => ?_, st.dis, fun a ha => ?_, fun a o e q => ?_, st.pin, hs.os.trans (eo.trans st.os), hgs, hs.drawn.trans (ed.trans st.drawn)⟩
  · obtain ⟨h1, h2, o, v, h3, h4⟩ := st.cel x k e
    exact ⟨h1, h2, o, v, keep k (nL x k e) o h3, h4⟩
  · obtain ⟨mc, ⟨o, es, ep, e, r⟩, f⟩ := st.fr
    refine ⟨mc, ⟨o, es, ep, keep _ nl o e, r⟩, fun x V e => ?_⟩
    obtain ⟨v, r, y⟩ := f x V e
    refine ⟨v, r.mono fun _ _ => .inl, ?_⟩
    rcases y with y | ⟨z, k, o, e1, e2, e3, e4, e5⟩
    · exact .inl y
    · exact .inr ⟨z, k, o, e1, keep k (nL x k e1) o e2, e3, e4, e5⟩
  · refine (st.mu p hp).mono (fun _ _ => .inl) fun a ha o e => keep a (fun q => b.adr (q ▸ AX.mem_adr hp ha)) o e
  · obtain ⟨h1, h2, h3⟩ := st.sep a ha
    refine ⟨h1, h2, fun o e => e.elim (h3 o) fun e => h3 o (old a o e ?_)⟩
    rcases ha with ha | ha
    · exact st.dom a ha
    · obtain ⟨p, hp, hq⟩ := List.mem_flatMap.mp ha
      exact (st.mu p hp).dom a hq
  · obtain ⟨o, e⟩ := st.dom a ha
    exact ⟨o, keep a (fun q => b.own (q ▸ ha)) o e⟩
  · rcases e with e | e
    · exact st.prot a o e q
    · obtain ⟨o', w⟩ := st.pin a q
      exact st.prot a o (old a o e ⟨o', st.base a o' w⟩) q
theorem next_gen {P : Program} {w : World} {A : Around} {E : Value → Shared → Prop} {s : Shared} {a : Addr} {g n : Nat} {gs : GenState} {F : Nat → Shared → Shared → Prop} {Y : Protocol} {Q : Option Value → Shared → Prop}
    (hh : A.handled = none) (hl : s.heap.NoLimit) (hroom : A.depth < recursionLimit) (hg : s.heap.IsGen a g) (hgs : s.gens[g]? = some gs)
    (hgo : gs.Goes (model P w) A.in1 (fun n s₀ r s₁ => r = .ok (.ret .none) ∧ F n s₀ s₁) Y n (.send .none) (s.setGen g .running))
    (hY : ∀ v s₁ gs', gs'.bare = true → Y (n - 1) (s.setGen g .running) v s₁ (fun r' s'' => match n with
        | 0 => False
        | m + 1 => gs'.Goes (model P w) A.in1 (fun n s₀ r s₁ => r = .ok (.ret .none) ∧ F n s₀ s₁) Y m r' s'') → Q (some v) (s₁.setGen g gs'))
    (hF : ∀ s₁, F n (s.setGen g .running) s₁ → ∀ h', Keeps s₁.heap h' → Q none { s₁.setGen g .finished with heap := h' }) :
    wpAny (model P w) A (pyNext (.ref a)) Q E s := by
  have live : gs ≠ .running ∧ gs ≠ .finished := ⟨fun q => by rw [q] at hgo; exact hgo, fun q => by rw [q] at hgo; exact hgo⟩
  unfold pyNext
  refine wpAny_bind (wpAny_attempt (wpAny_callSpecial?_slot (name := Str.ofString "__next__") hg.typeIs slot_gen_next (wpAny_call_entry slot_gen_next hg.typeIs entry_gen_next ?_ (args_gen_next _))))
  show wpAny _ A.in1 (Builtin.Generator.genWake (.ref a) (.send .none)) _ _ s
  unfold Builtin.Generator.genWake
  refine wpAny_bind (wpAny_holding (wpAny_genNumber hg (wpAny_bind (wpAny_genState hgs ?_))))
  cases gs with
  | running => exact (live.1 rfl).elim
  | finished => exact (live.2 rfl).elim
  | _ =>
    refine wpAny_bind (wpAny_roomToWake hl hroom ?_)
    show wpAny _ A.in1 (.resume g (.send .none) [] _) _ _ s
    refine wpAny_resumeQ hgs hgo (fun r s₁ hr => ?_) (fun v s₁ gs' hb hv => wpAny_pure ⟨v, rfl, wpAny_pure (hY v s₁ gs' hb hv)⟩)
    obtain ⟨er, hr⟩ := hr
    rw [er]
    show wpAny _ A.in1 (newExc (.type "StopIteration") [] >>= _) _ _ _
    refine wpAny_bind ?_
    simp only [newExc, newTuple]
    refine wpAny_bind (wpAny_newObj_type ?_ (by size_fits))
    refine wpAny_bind (m := firstArgMember _ _) (wpAny_of_eq (a := Value.none) (by first | rfl | (simp only [firstArgMember]; rfl)) ?_)
    refine wpAny_newObj_type ?_ (by size_fits)
    simp only [raiseNew]
    refine wpAny_bind (wpAny_bind (wpAny_handled ?_))
    rw [show A.in1.handled = none from hh]
    refine wpAny_throw (wpAny_bind (wpAny_isInstance (T := "StopIteration") (b := true) ⟨_, Heap.get?_push_size _ rfl, rfl⟩ isSubtype_stop ?_))
    exact wpAny_pure (hF s₁ hr _ fun b o e => Heap.get?_push_of_some _ (Heap.get?_push_of_some _ e))
theorem Good.keep {c : Cx} {env : Env} {m : List (Str × AV)} {S S' : Sto} {s s' : Shared} (h : Good c env m S s) (le : S.Le S') (k : ∀ o, s.heap.get? env.locals = some o → s'.heap.get? env.locals = some o) (gr : c.g.StaysIn s'.heap) (sto : ∀ b o, S' b o → s'.heap.get? b = some o) (loc : ∀ o, ¬ S' env.locals o) : Good c env m S' s' := by
  obtain ⟨mc, n⟩ := h.ns
  have n' : s'.heap.Ns env.locals mc := n.at' k
  refine ⟨gr, sto, loc, ⟨mc, n'⟩, fun x V e => ?_⟩
  obtain ⟨v, r, q, hv⟩ := h.names x V e
  exact ⟨v, r.mono le, q, (congrFun (n'.eq_nsMap.symm.trans n.eq_nsMap) x).trans hv⟩
theorem St.nowGens {c : Cx} {B : Bg} {S : Sto} {X : AX} {s : Shared} (st : St c B S X s) : St c { B with gens := s.gens } S X s :=
  ⟨st.loc, st.gr, st.base, st.sto, st.cel, st.fr, st.mu, st.nd, st.sep, st.dis, st.dom, st.prot, st.pin, st.os, .refl _, st.drawn⟩
theorem St.backGens {c : Cx} {B : Bg} {S : Sto} {X : AX} {s : Shared} {gs : Array GenState} (st : St c { B with gens := gs } S X s) (h : GLx c.fix B.gens gs) : St c B S X s :=
  ⟨st.loc, st.gr, st.base, st.sto, st.cel, st.fr, st.mu, st.nd, st.sep, st.dis, st.dom, st.prot, st.pin, st.os, h.trans st.gens, st.drawn⟩
theorem St.setGens {c : Cx} {B : Bg} {S : Sto} {X : AX} {s : Shared} {gs : Array GenState} (st : St c B S X s) (h : GLx c.fix B.gens gs) : St c B S X { s with gens := gs } :=
  ⟨st.loc, st.gr, st.base, st.sto, st.cel, st.fr, st.mu, st.nd, st.sep, st.dis, st.dom, st.prot, st.pin, st.os, h, st.drawn⟩
theorem GLe.set {b a : Array GenState} {g : Nat} {x : GenState} (h : GLe b a) (hg : b.size ≤ g) (hx : x.bare = true) : GLe b (a.setIfInBounds g x) := by
  refine ⟨fun i y e => ?_, fun hb y hy => ?_⟩
  · have hi : i < b.size := by
      rcases Nat.lt_or_ge i b.size with q | q
      · exact q
      · rw [Array.getElem?_eq_none q] at e; cases e
    rw [Array.getElem?_setIfInBounds_ne (by omega)]
    exact h.1 i y e
  · rcases Array.mem_or_eq_of_mem_setIfInBounds hy with q | q
    · exact h.2 hb y q
    · rw [q]; exact hx
inductive Hands (c : Cx) (d : Nat) (y : Str) (yp' : Pos) (body : List Stmt) (Q : AF → AX → Prop) (B : Bg) (S : Sto) (v : Value) (s' : Shared) : Prop
  | mk (S' : Sto) (X' : AX) (a : Addr) (g : Nat) (env : Env) (s1 s2 s3 : Stmt) (test e : Expr) (yp ep wp : Pos) (xs : List AV) (mi : List (Str × AV)) (m : Nat → List (Str × AV)) (hv : v = .ref a) (le : S.Le S') (R : GReady c B X' S' a g env mi s')
      (hgs : s'.gens[g]? = some (.fresh (.func [s1, s2, .While test (gBody s3 e yp ep) [] wp] env))) (hOk : ∀ A, Gd A 0 → (c.gx env A).Ok) (hc : env.cells = []) (hco : env.scope.isCoroutine = false) (hin : interactive env = false) (hS : GenSpec c env d s1 s2 s3 test e xs mi m)
      (I : Nat → AX → Prop) (hI0 : I 0 X') (turn : ∀ i x Y, xs[i]? = some x → I i Y → WA c (.Name y yp') x (fun Y' => WSs c body (Turn c id (I (i + 1)) Q) Y') Y) (fin : ∀ Y, I xs.length Y → Q .next Y)
section
variable {c : Cx} {X : AX} {Q : AF → AX → Prop}
theorem S_forGen {y : Str} {yp' : Pos} {iter : Expr} {body : List Stmt} {pos : Pos} {d : Nat} (G : Gd c.A (d + 2)) (hfix : c.fix = false)
    (h : ∀ B S s, c.Ok → St c B S X s → wpAny (model c.P c.w) c.A (eval iter c.env) (fun v s' => Hands c d y yp' body Q B S v s') c.E s)
    (hs : ∀ x, foldedSetIterable iter c.env x = pure x := by intro _; rfl) : WS c (.For (.Name y yp') iter body [] pos) Q X := by
  intro B S s ok st
  refine wpAny_For (wpAny_mono (h B S s ok st) (fun v s₁ hz => ?_) fun _ _ e => e) hs
  obtain ⟨S₁, X₁, a, g, env, s1, s2, s3, test, e, yp, ep, wp, xs, mi, m, rfl, le₁, R₁, hgs, hOk, hc, hco, hin, hS, I, hI0, turn, fin⟩ := hz
  refine wpAny_pyIter_gen R₁.isg ?_
  have hL : c.g.get? env.locals = none := R₁.bL.g
  have G1 : Gd c.A.in1 (d + 1) := Gd.in1 (d := d + 1) G
  obtain ⟨p, loose, mean, mg, mb, Tp⟩ := ok.T
  let K : Nat → Shared → Prop := fun k s => ∃ i S' Y gs, k = xs.length - i ∧ i ≤ xs.length ∧ S.Le S' ∧ GReady c B Y S' a g env (mmOf mi m i) s ∧ s.gens[g]? = some gs ∧
    (∀ s'' T'', Good c env (mmOf mi m i) T'' s'' → gs.Goes (model c.P c.w) c.A.in1 (GEnd c env) (GY c env xs mi m) (xs.length - i) (.send .none) s'') ∧ I i Y
  have start : K xs.length s₁ := ⟨0, S₁, X₁, _, by simp, Nat.zero_le _, le₁, R₁, hgs, fun s'' T'' hg => gen_start hS hL hc hOk G1 hco hin hg, hI0⟩
  refine codeAny_mono (forLoop_ (R := fun r s' => match r with | .ok f => Post c B S RepF Q f s' | .error e => False) K (fun k s hK => ?_) xs.length start) fun r s' z => by
    cases r with
    | ok f => exact z
    | error e => exact z.elim
  obtain ⟨i, S', Y, gs, rfl, hi, le, R, hgs, hgo, hI⟩ := hK
  have hgood : Good c env (mmOf mi m i) S' (s.setGen g .running) := ⟨R.good.gr, R.good.sto, R.good.loc, R.good.ns, R.good.names⟩
  have hlim := (Tp.keeps R.st.gr).nolimit
  have stay : ∀ b ∈ [env.locals, a], Bare c B S' Y b := fun b hb => by
    rcases List.mem_cons.mp hb with q | q
    · rw [q]; exact R.bL
    · rw [List.mem_singleton.mp q]; exact R.bA
  have glx : ∀ (s₂ : Shared) (x : GenState), s₂.gens = (s.setGen g .running).gens → x.bare = true → GLx c.fix B.gens (s₂.setGen g x).gens := fun s₂ x e hx => by
    refine ⟨?_, fun q => by rw [hfix] at q; cases q⟩
    show GLe B.gens (s₂.gens.setIfInBounds g x)
    rw [e]
    exact (R.st.gens.1.set R.lo rfl).set R.lo hx
  cases hn0 : xs.length - i with
  | zero =>
    rw [hn0] at hgo
    have hie : i = xs.length := Nat.le_antisymm hi (Nat.not_lt.mp (ar5 hn0))
    refine next_gen (F := GP c env) ok.G.hd hlim G.room R.isg hgs (hgo _ _ hgood) (fun v s₂ gs' hb hv => ?_) (fun s₂ hf h' hk => ?_)
    · obtain ⟨hn, S₀, T, V, hsin, hleast, hg₂, hV, rV, kap⟩ := hv
      exact (kap s₂ T hg₂).elim
    · obtain ⟨_, S₀, T, hsin⟩ := hf
      have st₂ : St c B S' Y { s₂.setGen g .finished with heap := h', gens := s.gens } :=
        R.st.keep (l := [env.locals]) (fun b o q e => hk b o (hsin.keep b o (fun z => q (List.mem_singleton.mpr z)) e)) (fun b hb => by rw [List.mem_singleton.mp hb]; exact ⟨R.bL.g, R.bL.base, R.bL.sto, R.bL.own, R.bL.adr⟩) hsin.os rfl hsin.drawn
      have st₃ := st₂.setGens (glx s₂ .finished hsin.gens rfl)
      exact wpAny_execs_nil ⟨S', .next, Y, le, .next, st₃, fin Y (by rw [← hie]; exact hI)⟩
  | succ k =>
    rw [hn0] at hgo
    have hlt : i < xs.length := ar1 hn0
    refine next_gen (F := GP c env) ok.G.hd hlim G.room R.isg hgs (hgo _ _ hgood) (fun v s₂ gs' hb hv => ?_) (fun s₂ hf h' hk => absurd hf.1 (Nat.succ_ne_zero k))
    obtain ⟨hn, S₀, T, V, hsin, hleast, hg₂, hV, rV, kap⟩ := hv
    have hid : xs.length - 1 - (k + 1 - 1) = i := ar2 hn0
    rw [hid] at hleast hg₂ hV kap
    have st₂ : St c B (fun b o => S' b o ∨ T b o) Y (s₂.setGen g gs') := R.st.since R.bL hsin rfl rfl rfl (hleast S' hgood) hg₂ (glx s₂ gs' hsin.gens hb)
    have le₂ : S'.Le (fun b o => S' b o ∨ T b o) := fun _ _ => .inl
    have rV₂ : Rep (fun b o => S' b o ∨ T b o) v V := rV.mono fun _ _ => .inr
    have bare₂ : ∀ b ∈ [env.locals, a], Bare c B (fun b o => S' b o ∨ T b o) Y b := fun b hb => by
      have q := stay b hb
      refine ⟨q.g, q.base, fun o z => z.elim (q.sto o) fun z => ?_, q.own, q.adr, q.prot⟩
      rcases hsin.new b o z with w | w
      · exact q.sto o (hleast S' hgood _ _ w)
      · have w : s.heap.get? b = none := w
        rcases List.mem_cons.mp hb with e | e
        · obtain ⟨mc, o', es, ep, e', _⟩ := R.good.ns
          rw [e, e'] at w; cases w
        · obtain ⟨o', nm, qn, e', _⟩ := R.isg
          rw [List.mem_singleton.mp e, e'] at w; cases w
    refine wpAny_of_eq (rfl : letOwnedTupleGo (.Name y yp') (.ref a) v = pure ()) ?_
    -- pin the frame and the generator
    obtain ⟨mc, oL, esL, epL, eL, _⟩ := hg₂.ns
    obtain ⟨oA, nmA, qnA, eA, restA⟩ := R.isg
    have eA₂ : (s₂.setGen g gs').heap.get? a = some oA := hsin.keep a oA R.ne eA
    have pin : ∀ p ∈ [(env.locals, oL), (a, oA)], (s₂.setGen g gs').heap.get? p.1 = some p.2 ∧ Bare c B (fun b o => S' b o ∨ T b o) Y p.1 := fun p hp => by
      rcases List.mem_cons.mp hp with e | e
      · rw [e]; exact ⟨eL, bare₂ _ (.head _)⟩
      · rw [List.mem_singleton.mp e]; exact ⟨eA₂, bare₂ _ (.tail _ (.head _))⟩
    have stp := (st₂.pins pin).nowGens
    refine wpAny_mono (turn i V Y hV hI _ _ _ v ok rV₂ stp) (fun _ s₃ hz => ?_) fun e s' z => ok.noE e s' z
    obtain ⟨S₃, _, Y₃, le₃, _, st₃, h₃⟩ := hz
    refine wpAny_mono (run_exec ok h₃ st₃) (fun f s₄ hz => ?_) fun _ _ z => z
    obtain ⟨S₄, F, Y₄, le₄, rf, st₄, h₄⟩ := hz
    have hg4 : s₄.gens[g]? = some gs' := st₄.gens.1.1 g gs' (setGen_self (gs := .running) (by rw [hsin.gens]; exact setGen_self hgs))
    have back : ∀ {S₅ : Sto} {Z : AX}, St c { B.pins [(env.locals, oL), (a, oA)] with gens := (s₂.setGen g gs').gens } S₅ Z s₄ → St c B S₅ Z s₄ ∧ ∀ p ∈ [(env.locals, oL), (a, oA)], s₄.heap.get? p.1 = some p.2 ∧ Bare c B S₅ Z p.1 := fun st₅ =>
      st₂.unpins (fun p hp => (pin p hp).2) (st₅.backGens (B := B.pins [(env.locals, oL), (a, oA)]) (glx s₂ gs' hsin.gens hb))
    have again : (∃ Z, Conv c Y₄ Z ∧ I (i + 1) Z) → ∃ m, m < k + 1 ∧ K m s₄ := by
      rintro ⟨Z, hZ, hIZ⟩
      obtain ⟨S₅, le₅, new₅, st₅⟩ := hZ _ _ _ st₄
      obtain ⟨st₆, hp⟩ := back st₅
      have l5 : Sto.Le (fun b o => S' b o ∨ T b o) S₅ := le₃.trans (le₄.trans le₅)
      refine ⟨k, Nat.lt_succ_self k, i + 1, S₅, Z, gs', (ar3 hn0).symm, hlt, le.trans (le₂.trans l5), ⟨st₆, (hp _ (.head _)).2, (hp _ (.tail _ (.head _))).2, R.ne, ⟨oA, nmA, qnA, (hp _ (.tail _ (.head _))).1, restA⟩, R.lo, ?_⟩, hg4, fun s'' T'' hg'' => ?_, hIZ⟩
      · refine hg₂.keep (fun _ _ z => l5 _ _ (.inr z)) (fun o e => ?_) st₆.gr st₆.sto (hp _ (.head _)).2.sto
        rw [eL] at e; cases e; exact (hp _ (.head _)).1
      · have := kap s'' T'' hg''
        rw [ar3 hn0]
        exact this
    obtain ⟨st₆, -⟩ := back st₄
    have l4 : S.Le S₄ := le.trans (le₂.trans (le₃.trans le₄))
    cases rf with
    | next => exact again h₄
    | cont => exact again h₄
    | brk => exact ⟨S₄, .next, Y₄, l4, .next, st₆, h₄⟩
    | ret r => exact ⟨S₄, _, Y₄, l4, .ret r, st₆, h₄⟩
end
section
variable {c : Cx} {X : AX}
theorem run_raw {B : Bg} {S : Sto} {s : Shared} {pos : Pos} {f : Value} {first : List Value} {args : List Expr} {Us : List AV} {X₁ : AX} {R : Value → Shared → Prop} (ok : c.Ok) (st : St c B S X s)
    (hk : ∀ h, c.K.In h → ∃ k, Looks (model c.P c.w) h (keeperOf f) k) (h : WAs c pos args (fun Vs Y => Vs = Us ∧ Y = X₁) X)
    (fin : ∀ S₂ s₂ vs, S.Le S₂ → Reps S₂ vs Us → St c B S₂ X₁ s₂ → wpAny (model c.P c.w) c.A (call f (first ++ vs) []) R c.E s₂)
    (he : ∀ e r, args = e :: r → starEach args c.env = (false, eval e c.env) :: starEach r c.env) :
    wpAny (model c.P c.w) c.A (callWith pos f first (backTo pos (starEach args c.env)) (backToKw pos (keywordEach [] c.env))) R c.E s := by
  refine callWith_any (P := fun s' => c.K.In s'.heap) (fun s' z => hk _ z) ?_
  have last : ∀ vs s₁, Post c B S Reps (fun Vs Y => Vs = Us ∧ Y = X₁) vs s₁ → wpAny (model c.P c.w) c.A (evalAll ((backToKw pos (keywordEach [] c.env)).map (·.2))) (fun ks s₂ => c.K.In s₂.heap ∧ wpAny (model c.P c.w) c.A (call f (first ++ vs) (((backToKw pos (keywordEach [] c.env)).filterMap (·.1)).zip ks)) R c.E s₂) c.E s₁ := by
    rintro vs s₁ ⟨S₁, Vs, Y, u₁, r₁, st₁, rfl, rfl⟩
    exact kwAll_nil ⟨ok.X.keeps st₁.gr, fin S₁ s₁ vs u₁ r₁ st₁⟩
  cases args with
  | nil => exact evalArgs_nilB rfl (wpAny_mono (h B S s ok st) (fun vs s₁ p => last vs s₁ p) fun _ _ e => e)
  | cons e r => exact evalArgs_kw2 rfl (wpAny_mono (h B S s ok st) (fun vs s₁ p => last vs s₁ p) fun _ _ e => e) (he e r rfl)
theorem meth_raw {o : Expr} {name : Str} {apos pos : Pos} {args : List Expr} {V : AV} {C f : Addr} {ks : List Str} {ws : List AV} {Us : List AV} {X₁ : AX} {R : Value → Shared → Prop} {pl : Sem Bool} {B : Bg} {S : Sto} {s : Shared} (ok : c.Ok) (st : St c B S X s)
    (ho : WE c o (fun U Y => U = V ∧ Y = X) X) (hi : IsInst X V C ks ws) (hg : plainGet c.K C name = true) (hf : findIn c.K (.ref C) name = some (some (.ref f))) (ht : isFn c.K (.ref f) = true) (hfn : fnIn c.K f = true) (hk : name ∉ ks)
    (h : WAs c pos args (fun Vs Y => Vs = Us ∧ Y = X₁) X)
    (fin : ∀ S₂ s₂ vs, S.Le S₂ → Reps S₂ vs (V :: Us) → St c B S₂ X₁ s₂ → codeAny (model c.P c.w) c.A (.call (.ref f) ⟨vs, []⟩) (fun r s' => match r with | .ok (.ret v) => R v s' | _ => False) s₂)
    (hst : ∀ e r, args = e :: r → starEach args c.env = (false, eval e c.env) :: starEach r c.env := by intro _ _ h; first | (cases h; rfl) | cases h)
    (he : eval (.Call (.Attribute o name apos) args [] pos) c.env = (do
      let ov ← eval o c.env
      standAt apos.atName
      let (f, first) ← holding [ov] (getMethod ov name pl)
      callWith pos f first (backTo pos (starEach args c.env)) (backToKw pos (keywordEach [] c.env))) := by rfl) :
    wpAny (model c.P c.w) c.A (eval (.Call (.Attribute o name apos) args [] pos) c.env) R c.E s := by
  rw [he]
  refine wpAny_bind (wpAny_mono (ho B S s ok st) (fun ov s₁ hz => wpAny_bind (wpAny_standAt ?_)) fun _ _ e => e)
  obtain ⟨S₁, U, Y, u₁, r, st₁, rfl, rfl⟩ := hz
  obtain ⟨a, d, es, ep, rfl, I, en⟩ := hi.at st₁ r
  have z : wpAny (model c.P c.w) c.A (getMethod (.ref a) name pl >>= fun fx => callWith pos fx.1 fx.2 (backTo pos (starEach args c.env)) (backToKw pos (keywordEach [] c.env))) R c.E s₁ := by
    refine wpAny_bind (method_fn (ok.X.keeps st₁.gr) I (plainGet_of hg).1 (plainGet_of hg).2 hf (beq_iff_eq.mp ht) (by show (lookIn name (dictOf es ep)).map _ = _; rw [lookIn_dict, en.miss hk]; rfl) ?_)
    refine run_raw ok st₁ (fun h X0 => keeper_fn hfn h X0) h (fun S₂ s₂ vs u r₂ st₂ => ?_) hst
    refine wpAny_call (codeAny_mono (fin S₂ s₂ (.ref a :: vs) (u₁.trans u) (.cons (r.mono u) r₂) st₂) fun q s' w => ?_)
    rcases q with e | (v | _ | _ | _) <;> first | exact w | exact w.elim
  refine (fun Γ p hΓ => ?_ : wpAny (model c.P c.w) c.A _ _ c.E s₁)
  have z := z Γ p hΓ
  rw [Sem.wp_bind'] at z ⊢
  rw [Sem.wp_holding]
  exact z
end
section
variable {c : Cx} {X : AX} {Q : AV → AX → Prop}
theorem E_methS {o e : Expr} {name : Str} {apos pos p : Pos} {V : AV} {C f : Addr} {ks : List Str} {ws Us : List AV}
    (ho : WE c o (fun U Y => U = V ∧ Y = X) X) (hi : IsInst X V C ks ws) (hg : plainGet c.K C name = true) (hh : hasDictIn c.K C = true) (ha : findIn c.K (.ref C) name = some (some (.ref f))) (hf : isFn c.K (.ref f) = true)
    (hgf : specialIn c.K (.ref f) "__get__" = some (some (.builtin "function.__get__"))) (hts : takesIn c.K (.ref f) = some false) (hc : copiedNames.contains name = false) (hk : name ∉ ks) (hfn : fnIn c.K f = true)
    (ht : WE c e (fun U Y => U = .tup Us ∧ Y = X) X) (hz : Us.length ≤ 1000) (h : WF c (.ref f) (V :: Us) [] Q X)
    (he : eval (.Call (.Attribute o name apos) [.Starred e p] [] pos) c.env = (do
      let ov ← eval o c.env
      standAt apos.atName
      let fx ← holding [ov] (do pure (← getAttr ov name true, ([] : List Value)))
      callWith pos fx.1 fx.2 (backTo pos (starEach [.Starred e p] c.env)) []) := by rfl)
    (hse : starEach [.Starred e p] c.env = [(true, eval e c.env)] := by rfl) :
    WE c (.Call (.Attribute o name apos) [.Starred e p] [] pos) Q X := by
  intro B S s ok st
  rw [he]
  refine wpAny_bind (wpAny_mono (ho B S s ok st) (fun ov s₁ hz₉ => wpAny_bind (wpAny_standAt ?_)) fun _ _ e => e)
  obtain ⟨S₁, U, Y, u₁, r, st₁, rfl, rfl⟩ := hz₉
  have X0 := ok.X.keeps st₁.gr
  obtain ⟨a, d, es, ep, rfl, I, en⟩ := hi.at st₁ r
  have st2 := (st₁.toks (s₁.toks + 1)).push (methodObj (.ref f) (.ref a)) rfl
  refine wpAny_bind (wpAny_holding (wpAny_bind (get_bind X0 I (plainGet_of hg).1 (findObj_fn hh ha hgf hts hc (by show lookIn name (dictOf es ep) = _; rw [lookIn_dict, en.miss hk])) (plainGet_of hg).2
      (wpAny_call (fn_get (s := { s₁ with toks := s₁.toks + 1 }) X0 (beq_iff_eq.mp hf) (handed_on rfl (wpAny_pure ?_)))))))
  show wpAny _ _ (callWith pos (.ref s₁.heap.objs.size) [] (backTo pos (starEach [.Starred e p] c.env)) []) _ _ _
  rw [hse]
  refine ks_call (P := MethP c.K s₁.heap.objs.size f (.ref a)) rfl (keeps_M hfn) (ks_lone ?_)
  refine wpAny_mono (ht B _ _ ok st2) (fun tv s₃ hz₉ => ?_) fun _ _ e => e
  obtain ⟨S₃, U, Y', u₃, r₃, st₃, rfl, rfl⟩ := hz₉
  obtain ⟨b, vs, n, rfl, hb, rv⟩ := r₃.tup_inv
  have hb' := st₃.sto _ _ hb
  have hT : s₃.TypeIs (.ref b) "tuple" := ⟨_, hb', rfl⟩
  have hq : S₃ s₁.heap.objs.size (methodObj (.ref f) (.ref a)) := u₃ _ _ (Sto.put_self S₁ s₁.heap.objs.size (methodObj (.ref f) (.ref a)))
  unfold StarOf notIterableAtAll
  refine wpAny_bind (wpAny_specialOf hT PySem.F.slot_tuple_iter.lookup (wpAny_pure ⟨rfl, ?_⟩))
  refine wpAny_collect_seq b (.inr rfl) hb' rfl rfl (fun h' hk' => ?_) (by rw [sizeLine_eq, List.size_toArray, rv.1]; lia)
  have st4 : St c B S₃ Y' { s₃ with heap := h' } := st₃.grow hk' rfl rfl rfl
  have X4 := ok.X.keeps st4.gr
  refine ⟨⟨st4.sto _ _ hq, X4⟩, wpAny_call (method_call (st4.sto _ _ hq) ?_)⟩
  rw [show ([] ++ vs.toArray.toList : List Value) = vs by simp]
  refine codeAny_mono (h B S₃ _ (.ref a :: vs) [] ok (.cons (r.mono ((Sto.put_le _ _ _).trans u₃)) rv) ⟨rfl, .nil⟩ st4) fun q s' z => ?_
  replace z := z.1
  rcases q with e | (v | _ | _ | _) <;> first | exact Post.up (u₁.trans ((Sto.put_le _ _ _).trans u₃)) z | exact z | exact z.elim
end
section
variable {c : Cx} {X X₁ : AX} {Q : AF → AX → Prop}
theorem S_forMeth {y : Str} {yp' : Pos} {o : Expr} {name : Str} {apos cpos pos : Pos} {args : List Expr} {body : List Stmt} {V : AV} {C f : Addr} {ks : List Str} {ws Us : List AV} {pl : Sem Bool}
    {fname qual : Str} {params : Arguments} {scope : Scope} {dV kV doc pm cdv ct oc : Value} {an od : Option Addr} {osl : Array (Option Value)} {s1 s2 s3 : Stmt} {test e : Expr} {yp ep wp : Pos} {d : Nat} {xs : List AV} {m : Nat → List (Str × AV)} (M : List (Str × AV))
    (G : Gd c.A (d + 2)) (hfix : c.fix = false)
    (ho : WE c o (fun U Y => U = V ∧ Y = X) X) (hi : IsInst X V C ks ws) (hg : plainGet c.K C name = true) (hf : findIn c.K (.ref C) name = some (some (.ref f))) (ht : isFn c.K (.ref f) = true) (hfn : fnIn c.K f = true) (hk : name ∉ ks)
    (h : WAs c cpos args (fun Vs Y => Vs = Us ∧ Y = X₁) X)
    (hl : c.K.lookup f = some ⟨oc, od, .func (fnOf fname qual params [s1, s2, .While test (gBody s3 e yp ep) [] wp] scope dV kV doc pm an cdv ct), osl⟩) (hcd : codeIn c.K cdv qual = true)
    (hb : Binds c (fnOf fname qual params [s1, s2, .While test (gBody s3 e yp ep) [] wp] scope dV kV doc pm an cdv ct) (V :: Us) [] M)
    (hkind : (M.all fun y => scope.names.lookup y.1 == some .local) = true) (hcl : ∀ L, cellsFrom L scope.names [] = [])
    (hco : scope.isCoroutine = false) (hgen : scope.isGenerator = true) (hk' : scope.kind = .function) (hin : ∀ L, interactive (envOfC qual scope L f cdv) = false)
    (spec : ∀ L, GenSpec c (envOfC qual scope L f cdv) d s1 s2 s3 test e xs M.reverse m)
    (hI : ∃ I : Nat → AX → Prop, I 0 X₁ ∧ (∀ i x Y, xs[i]? = some x → I i Y → WA c (.Name y yp') x (fun Y' => WSs c body (Turn c id (I (i + 1)) Q) Y') Y) ∧ ∀ Y, I xs.length Y → Q .next Y)
    (hst : ∀ e r, args = e :: r → starEach args c.env = (false, eval e c.env) :: starEach r c.env := by intro _ _ h; first | (cases h; rfl) | cases h)
    (he : eval (.Call (.Attribute o name apos) args [] cpos) c.env = (do
      let ov ← eval o c.env
      standAt apos.atName
      let (f, first) ← holding [ov] (getMethod ov name pl)
      callWith cpos f first (backTo cpos (starEach args c.env)) (backToKw cpos (keywordEach [] c.env))) := by rfl)
    (hs : ∀ x, foldedSetIterable (.Call (.Attribute o name apos) args [] cpos) c.env x = pure x := by intro _; rfl) :
    WS c (.For (.Name y yp') (.Call (.Attribute o name apos) args [] cpos) body [] pos) Q X := by
  refine S_forGen G hfix (fun B S s ok st => meth_raw ok st ho hi hg hf ht hfn hk h (fun S₂ s₂ vs le r st₂ => ?_) hst he) hs
  refine codeAny_mono (gen_call (d := d + 1) M G hl hcd hb hkind hcl hco hgen hk' hfix ok r ⟨rfl, .nil⟩ st₂) fun r s' hz => ?_
  obtain ⟨S', L, a, g, rfl, le', R, hgs, hOk⟩ := hz
  obtain ⟨I, hI0, turn, fin⟩ := hI
  exact ⟨S', X₁, a, g, _, s1, s2, s3, test, e, yp, ep, wp, xs, M.reverse, m, rfl, le.trans le', R, hgs, hOk, hcl _, hco, hin L, spec L, I, hI0, turn, fin⟩
end
section
variable {c : Cx} {X : AX} {Q : AV → AX → Prop}
theorem E_slice2 {value low up : Expr} {p pos : Pos} (h : WE c value (fun V X₁ => WE c low (fun W X₂ => WE c up (fun U X₃ => ∃ xs j k, V = .lst xs ∧ W = .int j ∧ U = .int k ∧ 0 ≤ j ∧ j ≤ k ∧ xs.length ≤ 1000000 ∧ Q (.lst ((xs.drop (min j.toNat xs.length)).take (min k.toNat xs.length - min j.toNat xs.length))) X₃) X₂) X₁) X) (ht : ∀ o r, letTemporaryGo value o r = pure () := by intro _ _; rfl) : WE c (.Subscript value (.Slice (some low) (some up) none p) pos) Q X := by
  intro B S s ok st
  refine wpAny_Subscript_list_slice (wpAny_mono (h B S s ok st) (fun v s₁ hz₉ => ?_) fun _ _ e => e) ht
  obtain ⟨S₁, V, X₁, u₁, rv, st₁, h₁⟩ := hz₉
  rw [evalPart_some, evalPart_some]
  refine wpAny_mono (h₁ B S₁ s₁ ok st₁) (fun y s₂ hz₉ => ?_) fun _ _ e => e
  obtain ⟨S₂, W, X₂, u₂, rw', st₂, h₂⟩ := hz₉
  refine wpAny_mono (h₂ B S₂ s₂ ok st₂) (fun u s₃ hz₉ => ?_) fun _ _ e => e
  obtain ⟨S₃, U, X₃, u₃, ru, st₃, xs, j, k, eV, eW, eU, hj, hk, hz, q⟩ := hz₉
  subst eV eW eU
  obtain ⟨l, vs, n, rfl, g1, g2⟩ := (rv.mono (u₂.trans u₃)).lst_inv
  obtain ⟨t, rfl⟩ := ru.int_inv
  obtain ⟨t', rfl⟩ := rw'.int_inv
  have e : slicePick vs.toArray (some j) (some k) none = ((vs.drop (min j.toNat vs.length)).take (min k.toNat vs.length - min j.toNat vs.length)).toArray := by
    obtain ⟨a, rfl⟩ := Int.eq_ofNat_of_zero_le hj
    obtain ⟨b, rfl⟩ := Int.eq_ofNat_of_zero_le (show 0 ≤ k by lia)
    have e : sliceBounds (some (a : Int)) (some (b : Int)) none vs.toArray.size = (((min a vs.length : Nat) : Int), ((min b vs.length : Nat) : Int), 1) := by
      simp only [sliceBounds, Option.getD_none, List.size_toArray]
      have h1 : ¬ ((a : Int) < 0) := by lia
      have h2 : ¬ ((b : Int) < 0) := by lia
      simp only [h1, h2, if_false, show (1 : Int) > 0 by decide, if_true]
      congr 1
      · lia
      · congr 1; lia
    unfold slicePick
    rw [e]
    simp only [sliceRange_one, pick_run, Int.toNat_natCast]
  refine ⟨l, vs.toArray, some j, some k, rfl, ⟨_, st₃.sto _ _ g1, rfl, n, rfl⟩, by rw [sizeLine_eq, List.size_toArray, g2.1]; lia, .int j t', .int k t, ?_⟩
  rw [e]
  have st₄ := (st₃.grow (s' := { s₃ with heap := s₃.heap.push { cls := .type "slice", data := .fields #[.int j t', .int k t, .none] } }) (Keeps.push _ _) rfl rfl rfl).push (seqObj "list" ((vs.drop (min j.toNat vs.length)).take (min k.toNat vs.length - min j.toNat vs.length)).toArray 0) rfl
  have hsz : (s₃.heap.push { cls := .type "slice", data := .fields #[.int j t', .int k t, .none] }).objs.size = s₃.heap.objs.size + 1 := Heap.size_push _ _
  dsimp only at st₄
  rw [hsz] at st₄
  have hl := g2.1
  refine ⟨_, _, X₃, (u₁.trans (u₂.trans u₃)).trans (Sto.put_le _ _ _), .lst' (Sto.put_self _ _ _) ⟨by simp [hl], fun i v V a b => ?_⟩, st₄, q⟩
  rw [← hl] at b
  rw [List.getElem?_take, List.getElem?_drop] at a b
  split at a
  · rename_i hi; rw [if_pos hi] at b; exact (g2.2 _ v V a b).mono (Sto.put_le _ _ _)
  · cases a
end
structure Off (c : Cx) (B : Bg) (S : Sto) (X : AX) (a : Addr) : Prop where
  g : c.g.get? a = none
  base : ∀ o, ¬ B.base a o
  sto : ∀ o, ¬ S a o
  adr : a ∉ AX.adr X.σ
  own : a ∉ c.own
theorem St.off1 {c : Cx} {B : Bg} {S S' : Sto} {X X' : AX} {s s' : Shared} (st : St c B S X s) {env : Env} {own : List Addr} (st' : St (c.callee env own) (Bg.call c B X s []) S' X' s') (e : X'.σ = X.σ) {a : Addr} (ha : a ∈ own) : Off c B S' X a where
  g := (st'.sep a (.inl ha)).1
  base o h := (st'.sep a (.inl ha)).2.1 o ⟨st.base a o h, st.noadr h, fun h => nomatch h⟩
  sto := (st'.sep a (.inl ha)).2.2
  adr := e ▸ st'.dis a ha
  own h := let ⟨o, ho⟩ := st.dom a h; (st'.sep a (.inl ha)).2.1 o ⟨ho, st.dis a h, fun h => nomatch h⟩
theorem St.off2 {c : Cx} {B : Bg} {S S' : Sto} {X X' : AX} {s : Shared} (st : St c B S X s) {env : Env} {own : List Addr} {a : Addr} (h : Off (c.callee env own) (Bg.call c B X s []) S' X' a) (e : X'.σ = X.σ) : Off c B S' X a where
  g := h.g
  base o k := h.base o ⟨st.base a o k, st.noadr k, fun h => nomatch h⟩
  sto := h.sto
  adr := e ▸ h.adr
  own k := let ⟨o, ho⟩ := st.dom a k; h.base o ⟨ho, st.dis a k, fun h => nomatch h⟩
theorem St.noise {c : Cx} {B : Bg} {S : Sto} {X : AX} {s s' : Shared} (st : St c B S X s) (hl : c.env.locals ∈ c.own) (H : List Addr) (hH : ∀ a ∈ H, a = c.env.locals ∨ Off c B S X a)
    (keep : ∀ b o, b ∉ H → s.heap.get? b = some o → s'.heap.get? b = some o) (up : s.heap.UpToSlots s'.heap) (e1 : s'.os = s.os) (e2 : s'.gens = s.gens) (e3 : s'.drawn = s.drawn) : St c B S X s' := by
  have sl := st.sep _ (.inl hl)
  have K : ∀ b o, (b = c.env.locals → False) → (Off c B S X b → False) → s.heap.get? b = some o → s'.heap.get? b = some o := fun b o h1 h2 e => keep b o (fun q => (hH b q).elim h1 h2) e
  refine ⟨st.loc, fun b o e => ?_, fun b o e => ?_, fun b o e => ?_, fun x k e => ?_, ?_, fun p hp => ?_, st.nd, st.sep, st.dis, fun a ha => ?_, st.prot, st.pin, e1.trans st.os, .to (e2) st.gens, e3.trans st.drawn⟩
  · exact K b o (fun q => by subst q; rw [sl.1] at e; cases e) (fun q => by rw [q.g] at e; cases e) (st.gr b o e)
  · exact K b o (fun q => by subst q; exact sl.2.1 o e) (fun q => q.base o e) (st.base b o e)
  · exact K b o (fun q => by subst q; exact sl.2.2 o e) (fun q => q.sto o e) (st.sto b o e)
  · obtain ⟨h1, h2, o, v, h3, h4⟩ := st.cel x k e
    exact ⟨h1, h2, o, v, K k o h1 (fun q => h2.elim q.own fun ⟨p, z⟩ => q.base p z) h3, h4⟩
  · obtain ⟨mc, n, f⟩ := st.fr
    refine ⟨mc, up.ns n, fun x V e => ?_⟩
    obtain ⟨v, r, y⟩ := f x V e
    refine ⟨v, r, ?_⟩
    rcases y with y | ⟨a, k, o, h1, h2, h3, h4, h5⟩
    · exact .inl y
    · exact .inr ⟨a, k, o, h1, K k o h5 (fun q => h4.elim q.own (q.base o)) h2, h3, h4, h5⟩
  · refine (st.mu p hp).mono .rfl fun b hb o e => K b o (fun q => ?_) (fun q => q.adr (List.mem_flatMap.mpr ⟨p, hp, hb⟩)) e
    subst q
    exact st.dis _ hl (List.mem_flatMap.mpr ⟨p, hp, hb⟩)
  · obtain ⟨o, e⟩ := st.dom a ha
    by_cases q : a = c.env.locals
    · subst q
      obtain ⟨mc, n, _⟩ := st.fr
      obtain ⟨o', es, ep, h, _⟩ := up.ns n
      exact ⟨o', h⟩
    · exact ⟨o, K a o q (fun z => z.own ha) e⟩
theorem fn_raw {c : Cx} {B : Bg} {S : Sto} {X : AX} {s : Shared} {vs : List Value} {kw : List (Str × Value)} {f : Addr} {Vs : List AV} {kws : List (Str × AV)} {name qual : Str} {params : Arguments} {body : List Stmt} {scope : Scope} {dV kV doc pm cdv ct oc : Value} {an od : Option Addr} {osl : Array (Option Value)} {d : Nat} {R : Result → Shared → Prop} (M : List (Str × AV))
    (G : Gd c.A (d + 1)) (ho : c.K.lookup f = some ⟨oc, od, .func (fnOf name qual params body scope dV kV doc pm an cdv ct), osl⟩) (hcd : codeIn c.K cdv qual = true)
    (hb : Binds c (fnOf name qual params body scope dV kV doc pm an cdv ct) Vs kws M)
    (hkind : (M.all fun y => scope.names.lookup y.1 == some .local || scope.names.lookup y.1 == some .cell) = true)
    (hnd : ((cellsFrom 0 scope.names []).map (·.1)).Nodup)
    (hco : scope.isCoroutine = false) (hgen : scope.isGenerator = false) (hk : scope.kind = .function)
    (ok : c.Ok) (r : Reps S vs Vs) (rk : RepK S kw kws) (st : St c B S X s)
    (h : ∀ L S₁ s₀ s₁, (c.callee (envOfC qual scope L f cdv) (ownOf scope L)).Ok → Gd (c.A.deeper (envOfC qual scope L f cdv)) d → S.Le S₁ → Keeps s.heap s₀.heap → St c B S₁ X s₀ → St (c.callee (envOfC qual scope L f cdv) (ownOf scope L)) (Bg.call c B X s₀ []) S₁ ⟨X.σ, M.reverse⟩ s₁ →
      wpAny (model c.P c.w) (c.A.deeper (envOfC qual scope L f cdv)) (execs body (envOfC qual scope L f cdv)) (fun F s' => R (.ok (.ret (match F with | .ret v => v | _ => .none))) s')
        (fun e s' => wpAny (model c.P c.w) (c.A.deeper (envOfC qual scope L f cdv)) (leaving (envOfC qual scope L f cdv) e) (fun _ s'' => R (.error e) s'') (fun e' s'' => R (.error e') s'') s') s₁) :
    codeAny (model c.P c.w) c.A (.call (.ref f) ⟨vs, kw⟩) R s := by
  have X0 := ok.X.keeps st.gr
  obtain ⟨p, loose, mean, mg, mb, T⟩ := ok.T
  have T' := (topRead_of T).keeps st.gr
  refine codeAny_call_function (fd := fnOf name qual params body scope dV kV doc pm an cdv ct) (body := body) G.room (X0 _ _ ho) rfl hco hgen rfl (codeRec_of X0 hcd) ?_
  refine hb S s vs kw _ _ _ X0 r rk fun binds s₁ S₁ le hbr ks e1 e2 e3 stUp => ?_
  have st1 := stUp c B X st
  have hkind' : (binds.all fun y => scope.names.lookup y.1 == some .local || scope.names.lookup y.1 == some .cell) = true := by
    rw [List.all_eq_true] at hkind ⊢
    intro y hy
    have : y.1 ∈ binds.map (·.1) := List.mem_map_of_mem hy
    rw [hbr.1] at this
    obtain ⟨z, hz, e⟩ := List.mem_map.mp this
    rw [← e]; exact hkind z hz
  refine wpAny_newFunctionEnv_cells hk (kindsX hkind' _) fun env' he s' x => ?_
  subst he
  refine ⟨(T'.nolimit.keeps ks).keeps x.toInCall.keep, codeAny_func ?_⟩
  obtain ⟨h₁, tk, rfl, _⟩ := x.done
  have hk₁ : Keeps s₁.heap h₁ := x.toInCall.keep
  have xc := x.cell
  have xa := x.apart
  have xb := x.above
  have xn := x.toInCall.ns
  have hlk : ∀ n k, (n, k) ∈ cellsFrom (s₁.heap.objs.size + 1) scope.names [] → (cellsFrom (s₁.heap.objs.size + 1) scope.names []).lookup n = some k := fun n k hm => lookup_of_mem_nodup (cellsFrom_names scope.names 0 (s₁.heap.objs.size + 1) [] [] rfl ▸ hnd) hm
  have okX : (c.callee (envOfC qual scope s₁.heap.objs.size f cdv) (ownOf scope s₁.heap.objs.size)).Ok := ⟨ok.X, ok.T, (G.deeper _).le rfl, rfl, rfl, hk, fun _ _ e => e, fun a o e => Heap.lt_size (ks _ _ (X0 a o e)), fun a b k ha hb => name_of_addr xa (mem_of_lookup ha) (mem_of_lookup hb)⟩
  have stX : St (c.callee (envOfC qual scope s₁.heap.objs.size f cdv) (ownOf scope s₁.heap.objs.size)) (Bg.call c B X s₁ []) S₁ ⟨X.σ, M.reverse⟩ { s₁ with heap := h₁, toks := tk } := by
    refine st1.callIn (ex := []) (fun _ h => nomatch h) hk₁ rfl (.head _) (fun a ha => ?_) (fun a ha => ?_) (fun y k e => ?_) ⟨_, xn, fun y V e => ?_⟩ rfl rfl rfl
    · rcases List.mem_cons.mp ha with rfl | ha
      · exact get?_lt_none (Nat.le_refl _)
      · obtain ⟨q, hq, rfl⟩ := List.mem_map.mp ha
        exact get?_lt_none (Nat.le_of_lt (xb q.1 q.2 hq))
    · rcases List.mem_cons.mp ha with rfl | ha
      · obtain ⟨o, _, _, e, _⟩ := xn
        exact ⟨o, e⟩
      · obtain ⟨q, hq, rfl⟩ := List.mem_map.mp ha
        obtain ⟨o, e, _⟩ := xc q.1 q.2 (hlk _ _ hq)
        exact ⟨o, e⟩
    · obtain ⟨o, e1, e2⟩ := xc y k e
      exact ⟨Nat.ne_of_gt (xb y k (mem_of_lookup e)), .inl (.tail _ (List.mem_map_of_mem (f := (·.2)) (mem_of_lookup e))), o, _, e1, e2⟩
    · obtain ⟨v, h1, h2⟩ := hbr.reverse.lookup e
      refine ⟨v, h2, ?_⟩
      obtain ⟨q, hq, rfl⟩ := lookup_mem e
      have hq' := List.all_eq_true.mp hkind (q, V) (List.mem_reverse.mp hq)
      rcases Bool.or_eq_true_iff.mp hq' with k1 | k1
      · have k2 : scope.names.lookup q = some .local := by simpa using k1
        refine .inl ⟨k2, ?_⟩
        rw [bindL_get k2, h1]; rfl
      · have k2 : scope.names.lookup q = some .cell := by simpa using k1
        obtain ⟨k, hk3⟩ := Option.isSome_iff_exists.mp (cellsFrom_some scope.names (s₁.heap.objs.size + 1) [] (.inl k2))
        obtain ⟨o, e1, e2⟩ := xc q k hk3
        refine .inr ⟨.inl k2, k, o, hk3, e1, ?_, .inl (.tail _ (List.mem_map_of_mem (f := (·.2)) (mem_of_lookup hk3))), Nat.ne_of_gt (xb q k (mem_of_lookup hk3))⟩
        rw [e2, bindC_get (by show ¬ scope.names.lookup q = some .local; rw [k2]; decide), h1]; rfl
  exact h _ _ _ _ okX (G.deeper _) le ks st1 stX
def Raises (c : Cx) (body : List Stmt) (X : AX) : Prop := ∀ B S s (Q : Flow → Shared → Prop) (E : Value → Shared → Prop), c.Ok → St c B S X s →
  (∀ h' e S' s₂, S.Le S' → St c B S' X s₂ → Heap.MadeExc s₂.heap h' e "AssertionError" [] → E (.ref e) { s₂ with heap := h' }) → wpAny (model c.P c.w) c.A (execs body c.env) Q E s
theorem Raises.next {c : Cx} {X : AX} {st : Stmt} {rest : List Stmt} (h : WS c st (fun F Y => F = .next ∧ Y = X) X) (k : Raises c rest X) : Raises c (st :: rest) X := by
  intro B S s Q E ok st' f
  refine wpAny_execs_cons (wpAny_mono (h B S s ok st') (fun fl s₁ hp => ?_) fun e s' z => (ok.noE e s' z).elim)
  obtain ⟨S₁, F, Y, le, rf, st₁, rfl, rfl⟩ := hp
  cases rf
  exact k B S₁ s₁ Q E ok st₁ fun h' e S' s₂ le' => f h' e S' s₂ (le.trans le')
theorem Raises.fail {c : Cx} {X : AX} {test : Expr} {pos : Pos} {rest : List Stmt} (h : WB c test (fun b Y => b = false ∧ Y = X) X) : Raises c (.Assert test none pos :: rest) X := by
  intro B S s Q E ok st' f
  refine wpAny_execs_cons (wpAny_Assert ok.G.hd (wpAny_mono (h B S s ok st') (fun b s₁ hp => ?_) fun e s' z => (ok.noE e s' z).elim))
  obtain ⟨S₁, F, Y, le, rf, st₁, rfl, rfl⟩ := hp
  cases rf
  simp only [Bool.false_eq_true, if_false]
  intro h' e hm
  exact f h' e S₁ s₁ le st₁ hm
section
variable {c : Cx} {X : AX}
theorem run_rawE {B : Bg} {S : Sto} {s : Shared} {pos : Pos} {f : Value} {first : List Value} {args : List Expr} {Us : List AV} {X₁ : AX} {R : Value → Shared → Prop} {E : Value → Shared → Prop} (ok : c.Ok) (st : St c B S X s)
    (hk : ∀ h, c.K.In h → ∃ k, Looks (model c.P c.w) h (keeperOf f) k) (h : WAs c pos args (fun Vs Y => Vs = Us ∧ Y = X₁) X)
    (fin : ∀ S₂ s₂ vs, S.Le S₂ → Reps S₂ vs Us → St c B S₂ X₁ s₂ → wpAny (model c.P c.w) c.A (call f (first ++ vs) []) R E s₂)
    (he : ∀ e r, args = e :: r → starEach args c.env = (false, eval e c.env) :: starEach r c.env) :
    wpAny (model c.P c.w) c.A (callWith pos f first (backTo pos (starEach args c.env)) (backToKw pos (keywordEach [] c.env))) R E s := by
  refine callWith_any (P := fun s' => c.K.In s'.heap) (fun s' z => hk _ z) ?_
  have last : ∀ vs s₁, Post c B S Reps (fun Vs Y => Vs = Us ∧ Y = X₁) vs s₁ → wpAny (model c.P c.w) c.A (evalAll ((backToKw pos (keywordEach [] c.env)).map (·.2))) (fun ks s₂ => c.K.In s₂.heap ∧ wpAny (model c.P c.w) c.A (call f (first ++ vs) (((backToKw pos (keywordEach [] c.env)).filterMap (·.1)).zip ks)) R E s₂) E s₁ := by
    rintro vs s₁ ⟨S₁, Vs, Y, u₁, r₁, st₁, rfl, rfl⟩
    exact kwAll_nil ⟨ok.X.keeps st₁.gr, fin S₁ s₁ vs u₁ r₁ st₁⟩
  cases args with
  | nil => exact evalArgs_nilB rfl (wpAny_mono (h B S s ok st) (fun vs s₁ p => last vs s₁ p) fun e s' z => (ok.noE e s' z).elim)
  | cons e r => exact evalArgs_kw2 rfl (wpAny_mono (h B S s ok st) (fun vs s₁ p => last vs s₁ p) fun e s' z => (ok.noE e s' z).elim) (he e r rfl)
theorem meth_rawE {o : Expr} {name : Str} {apos pos : Pos} {args : List Expr} {V : AV} {C f : Addr} {ks : List Str} {ws : List AV} {Us : List AV} {X₁ X₂ : AX} {R : Value → Shared → Prop} {E : Value → Shared → Prop} {pl : Sem Bool} {B : Bg} {S : Sto} {s : Shared} (ok : c.Ok) (st : St c B S X s)
    (ho : WE c o (fun U Y => U = V ∧ Y = X₂) X) (hi : IsInst X₂ V C ks ws) (hg : plainGet c.K C name = true) (hf : findIn c.K (.ref C) name = some (some (.ref f))) (ht : isFn c.K (.ref f) = true) (hfn : fnIn c.K f = true) (hk : name ∉ ks)
    (h : WAs c pos args (fun Vs Y => Vs = Us ∧ Y = X₁) X₂)
    (fin : ∀ S₂ s₂ vs, S.Le S₂ → Reps S₂ vs (V :: Us) → St c B S₂ X₁ s₂ → codeAny (model c.P c.w) c.A (.call (.ref f) ⟨vs, []⟩) (fun r s' => match r with | .ok (.ret v) => R v s' | .ok _ => False | .error e => E e s') s₂)
    (hst : ∀ e r, args = e :: r → starEach args c.env = (false, eval e c.env) :: starEach r c.env := by intro _ _ h; first | (cases h; rfl) | cases h)
    (he : eval (.Call (.Attribute o name apos) args [] pos) c.env = (do
      let ov ← eval o c.env
      standAt apos.atName
      let (f, first) ← holding [ov] (getMethod ov name pl)
      callWith pos f first (backTo pos (starEach args c.env)) (backToKw pos (keywordEach [] c.env))) := by rfl) :
    wpAny (model c.P c.w) c.A (eval (.Call (.Attribute o name apos) args [] pos) c.env) R E s := by
  rw [he]
  refine wpAny_bind (wpAny_mono (ho B S s ok st) (fun ov s₁ hz => wpAny_bind (wpAny_standAt ?_)) fun e s' z => (ok.noE e s' z).elim)
  obtain ⟨S₁, U, Y, u₁, r, st₁, rfl, rfl⟩ := hz
  obtain ⟨a, d, es, ep, rfl, I, en⟩ := hi.at st₁ r
  have z : wpAny (model c.P c.w) c.A (getMethod (.ref a) name pl >>= fun fx => callWith pos fx.1 fx.2 (backTo pos (starEach args c.env)) (backToKw pos (keywordEach [] c.env))) R E s₁ := by
    refine wpAny_bind (method_fn (ok.X.keeps st₁.gr) I (plainGet_of hg).1 (plainGet_of hg).2 hf (beq_iff_eq.mp ht) (by show (lookIn name (dictOf es ep)).map _ = _; rw [lookIn_dict, en.miss hk]; rfl) ?_)
    refine run_rawE ok st₁ (fun h X0 => keeper_fn hfn h X0) h (fun S₂ s₂ vs u r₂ st₂ => ?_) hst
    exact wpAny_call (fin S₂ s₂ (.ref a :: vs) (u₁.trans u) (.cons (r.mono u) r₂) st₂)
  refine (fun Γ p hΓ => ?_ : wpAny (model c.P c.w) c.A _ _ E s₁)
  have z := z Γ p hΓ
  rw [Sem.wp_bind'] at z ⊢
  rw [Sem.wp_holding]
  exact z
end
theorem top_goA {P : Program} {w : World} {K : Frag} {g : Heap} {s : Shared} {A : Around} {f : Addr} {v : Value} {V : AV} {S : Sto} {σ : List (Addr × MO)} {x : Str} {Q : AV → AX → Prop} {fx : Bool}
    {p : Program} {loose : List Str} {mean : ExcName → Option Value} {mg mb : Str → Option Value}
    {name qual : Str} {params : Arguments} {body : List Stmt} {scope : Scope} {dV kV doc pm cdv ct oc : Value} {an od : Option Addr} {osl : Array (Option Value)} {d : Nat}
    (X : K.In g) (T : Top p loose mean mg mb g) (G : Gd A (d + 1)) (gr : g.StaysIn s.heap) (sto : ∀ b o, S b o → s.heap.get? b = some o) (r : Rep S v V)
    (mu : ∀ p ∈ σ, MRep S s.heap p.1 p.2) (nd : (AX.adr σ).Nodup) (sep : ∀ a ∈ AX.adr σ, g.get? a = none ∧ ∀ o, ¬ S a o)
    (ho : K.lookup f = some ⟨oc, od, .func (fnOf name qual params body scope dV kV doc pm an cdv ct), osl⟩) (hcd : codeIn K cdv qual = true)
    (hb : ∀ v, BindsTo s (fnOf name qual params body scope dV kV doc pm an cdv ct) ⟨[v], []⟩ [(x, v)])
    (hkind : scope.names.lookup x = some .local) (hnd : ((cellsFrom 0 scope.names []).map (·.1)).Nodup)
    (hco : scope.isCoroutine = false) (hgen : scope.isGenerator = false) (hk : scope.kind = .function)
    (h : ∀ L (c' : Cx), c'.P = P → c'.w = w → c'.K = K → c'.g = g → c'.fix = fx → c'.env = envOfC qual scope L f cdv → c'.own = ownOf scope L → c'.A = A.deeper c'.env → c'.Ok → Gd c'.A d → WSs c' body (fun F X' => Q F.val X') ⟨σ, [(x, V)]⟩) :
    codeAny (model P w) A (.call (.ref f) ⟨[v], []⟩) (fun r s' => ∃ u S' U Y, r = .ok (.ret u) ∧ TopEnd s σ fx Q u s' S' U Y) s := by
  have X0 := X.keeps gr
  have T' := (topRead_of T).keeps gr
  refine codeAny_call_function (fd := fnOf name qual params body scope dV kV doc pm an cdv ct) (body := body) G.room (X0 _ _ ho) rfl hco hgen rfl (codeRec_of X0 hcd) ?_
  refine hb v _ _ _ _ ?_
  have hkind' : ([(x, v)].all fun y => scope.names.lookup y.1 == some .local || scope.names.lookup y.1 == some .cell) = true := by simp [hkind]
  refine wpAny_newFunctionEnv_cells hk (kindsX hkind' _) fun env' he s' e => ?_
  subst he
  refine ⟨T'.nolimit.keeps e.toInCall.keep, codeAny_func ?_⟩
  obtain ⟨h₁, tk, rfl, _⟩ := e.done
  have hk₁ : Keeps s.heap h₁ := e.toInCall.keep
  have xc := e.cell
  have xa := e.apart
  have xb := e.above
  have xn := e.toInCall.ns
  have hlk : ∀ n k, (n, k) ∈ cellsFrom (s.heap.objs.size + 1) scope.names [] → (cellsFrom (s.heap.objs.size + 1) scope.names []).lookup n = some k := fun n k hm => lookup_of_mem_nodup (cellsFrom_names scope.names 0 (s.heap.objs.size + 1) [] [] rfl ▸ hnd) hm
  let c' : Cx := ⟨P, w, K, g, A.deeper (envOfC qual scope s.heap.objs.size f cdv), envOfC qual scope s.heap.objs.size f cdv, ownOf scope s.heap.objs.size, fun _ _ => False, fx⟩
  have okX : c'.Ok := ⟨X, ⟨_, _, _, _, _, T⟩, (G.deeper _).le rfl, rfl, rfl, hk, fun _ _ e => e, fun a o e => Heap.lt_size (X0 a o e), fun a b k ha hb => name_of_addr xa (mem_of_lookup ha) (mem_of_lookup hb)⟩
  have dom : ∀ a ∈ AX.adr σ, ∃ o, s.heap.get? a = some o := fun a ha => by
    obtain ⟨q, hq, hb⟩ := List.mem_flatMap.mp ha
    exact (mu q hq).dom a hb
  have fresh : ∀ a ∈ ownOf scope s.heap.objs.size, s.heap.get? a = none := fun a ha => by
    rcases List.mem_cons.mp ha with rfl | ha
    · exact get?_lt_none (Nat.le_refl _)
    · obtain ⟨q, hq, rfl⟩ := List.mem_map.mp ha
      exact get?_lt_none (Nat.le_of_lt (xb q.1 q.2 hq))
  let B' : Bg := { base := fun b o => s.heap.get? b = some o ∧ b ∉ AX.adr σ, prot := fun _ => False, os := s.os, gens := s.gens, drawn := s.drawn }
  have stX : St c' B' S ⟨σ, [(x, V)]⟩ { s with heap := h₁, toks := tk } := by
    refine ⟨.inl (.head _), fun b o e => hk₁ b o (gr b o e), fun b o e => hk₁ b o e.1, fun b o e => hk₁ b o (sto b o e), fun y k e => ?_, ⟨_, xn, fun y U e => ?_⟩, fun q hq => (mu q hq).mono .rfl fun b _ o e => hk₁ b o e, nd, fun a ha => ?_, fun a ha q => ?_, fun a ha => ?_, fun _ _ _ q => q, fun _ q => q.elim, rfl, .refl _, rfl⟩
    · obtain ⟨o, e1, e2⟩ := xc y k e
      exact ⟨Nat.ne_of_gt (xb y k (mem_of_lookup e)), .inl (.tail _ (List.mem_map_of_mem (f := (·.2)) (mem_of_lookup e))), o, _, e1, e2⟩
    · rw [List.lookup_cons] at e
      cases hb : y == x with
      | true =>
        rw [hb] at e; cases e
        have hyx : y = x := beq_iff_eq.mp hb
        subst hyx
        refine ⟨v, r, .inl ⟨hkind, ?_⟩⟩
        rw [bindL_get hkind]
        simp [List.lookup_cons]
      | false => rw [hb] at e; cases e
    · rcases ha with ha | ha
      · have fr := fresh a ha
        refine ⟨?_, fun o e => ?_, fun o e => ?_⟩
        · cases q : g.get? a with
          | none => rfl
          | some o => have := gr _ _ q; rw [fr] at this; cases this
        · have := e.1; rw [fr] at this; cases this
        · have := sto _ _ e; rw [fr] at this; cases this
      · exact ⟨(sep a ha).1, fun o e => e.2 ha, (sep a ha).2⟩
    · obtain ⟨o, e⟩ := dom a q
      rw [fresh a ha] at e; cases e
    · rcases List.mem_cons.mp ha with rfl | ha
      · obtain ⟨o, _, _, e, _⟩ := xn
        exact ⟨o, e⟩
      · obtain ⟨q, hq, rfl⟩ := List.mem_map.mp ha
        obtain ⟨o, e, _⟩ := xc q.1 q.2 (hlk _ _ hq)
        exact ⟨o, e⟩
  refine wpAny_mono (h _ c' rfl rfl rfl rfl rfl rfl rfl rfl okX (G.deeper _) B' S _ okX stX) (fun fl s' hp => ?_) fun _ _ z => z.elim
  obtain ⟨S', F, X', le', rf, st', q⟩ := hp
  refine ⟨_, S', F.val, X', rfl, q, ?_, st'.sto, fun b o e n => st'.base b o ⟨e, n⟩, st'.mu, st'.os, st'.gens, st'.drawn⟩
  cases rf with
  | ret r => exact r
  | _ => exact .none
theorem refuse_go {c : Cx} {B : Bg} {S : Sto} {X X₁ : AX} {s : Shared} {vs : List Value} {f f2 : Addr} {Vs : List AV} {name qual name2 qual2 : Str} {params params2 : Arguments} {body2 : List Stmt} {scope scope2 : Scope}
    {dV kV doc pm cdv ct oc dV2 kV2 doc2 pm2 cdv2 ct2 oc2 : Value} {an od an2 od2 : Option Addr} {osl osl2 : Array (Option Value)} {d : Nat} {o : Expr} {nm en : Str} {apos cpos xpos ep hpos rp tpos kp : Pos} {kk : Nat} {args : List Expr} {last : List Stmt}
    {V : AV} {C : Addr} {ks : List Str} {ws Us : List AV} {pl : Addr → Sem Bool} (M M2 : List (Str × AV))
    (hA : c.A.frames = some [c.env]) (hf0 : c.env.frame = some c.env.locals) (hl0 : c.env.locals ∈ c.own)
    (G : Gd c.A (d + 2)) (ho : c.K.lookup f = some ⟨oc, od, .func (fnOf name qual params (.Try [.Expr (.Call (.Attribute o nm apos) args [] cpos) xpos] [.ExceptHandler (some (.Name en ep)) none [.Return (some (.Constant (.bool true) kk kp)) rp] hpos] [] [] tpos :: last) scope dV kV doc pm an cdv ct), osl⟩) (hcd : codeIn c.K cdv qual = true)
    (hb : Binds c (fnOf name qual params (.Try [.Expr (.Call (.Attribute o nm apos) args [] cpos) xpos] [.ExceptHandler (some (.Name en ep)) none [.Return (some (.Constant (.bool true) kk kp)) rp] hpos] [] [] tpos :: last) scope dV kV doc pm an cdv ct) Vs [] M)
    (hkind : (M.all fun y => scope.names.lookup y.1 == some .local || scope.names.lookup y.1 == some .cell) = true)
    (hnd : ((cellsFrom 0 scope.names []).map (·.1)).Nodup)
    (hco : scope.isCoroutine = false) (hgen : scope.isGenerator = false) (hk : scope.kind = .function)
    (hint : ∀ L, interactive (envOfC qual scope L f cdv) = false)
    (hsw : ∀ L, swapsWith (.Call (.Attribute o nm apos) args [] cpos) none xpos.line (envOfC qual scope L f cdv) = pure false)
    (hen : ∀ L, (envOfC qual scope L f cdv).kindOf en = some .globalImplicit) (hen2 : nsIn c.K mainGlobals en = some none) (hen3 : bootBuiltins en = some (.type "AssertionError")) (hen4 : en ≠ "__name__") (hen5 : (en == ("__debug__" : Str)) = false)
    (h1 : ∀ L c', Kin c c' → c'.env = envOfC qual scope L f cdv → c'.own = ownOf scope L → c'.Ok → Gd c'.A (d + 1) → WE c' o (fun U Y => U = V ∧ Y = X₁) ⟨X.σ, M.reverse⟩ ∧ WAs c' cpos args (fun Vs Y => Vs = Us ∧ Y = X₁) X₁)
    (hσ : X₁.σ = X.σ) (hi : IsInst X₁ V C ks ws) (hg : plainGet c.K C nm = true) (hf : findIn c.K (.ref C) nm = some (some (.ref f2))) (ht : isFn c.K (.ref f2) = true) (hfn : fnIn c.K f2 = true) (hks : nm ∉ ks)
    (hst : ∀ L e r, args = e :: r → starEach args (envOfC qual scope L f cdv) = (false, eval e (envOfC qual scope L f cdv)) :: starEach r (envOfC qual scope L f cdv))
    (he : ∀ L, eval (.Call (.Attribute o nm apos) args [] cpos) (envOfC qual scope L f cdv) = (do
      let ov ← eval o (envOfC qual scope L f cdv)
      standAt apos.atName
      let (fx, first) ← holding [ov] (getMethod ov nm (pl L))
      callWith cpos fx first (backTo cpos (starEach args (envOfC qual scope L f cdv))) (backToKw cpos (keywordEach [] (envOfC qual scope L f cdv)))))
    (ho2 : c.K.lookup f2 = some ⟨oc2, od2, .func (fnOf name2 qual2 params2 body2 scope2 dV2 kV2 doc2 pm2 an2 cdv2 ct2), osl2⟩) (hcd2 : codeIn c.K cdv2 qual2 = true)
    (hb2 : ∀ c', Kin c c' → Binds c' (fnOf name2 qual2 params2 body2 scope2 dV2 kV2 doc2 pm2 an2 cdv2 ct2) (V :: Us) [] M2)
    (hkind2 : (M2.all fun y => scope2.names.lookup y.1 == some .local || scope2.names.lookup y.1 == some .cell) = true)
    (hnd2 : ((cellsFrom 0 scope2.names []).map (·.1)).Nodup)
    (hco2 : scope2.isCoroutine = false) (hgen2 : scope2.isGenerator = false) (hk2 : scope2.kind = .function)
    (hR : ∀ L c', Kin c c' → c'.env = envOfC qual2 scope2 L f2 cdv2 → c'.own = ownOf scope2 L → c'.Ok → Gd c'.A d → Raises c' body2 ⟨X.σ, M2.reverse⟩)
    (ok : c.Ok) (r : Reps S vs Vs) (st : St c B S X s) :
    codeAny (model c.P c.w) c.A (.call (.ref f) ⟨vs, []⟩) (fun r s' => ∃ S', S.Le S' ∧ r = .ok (.ret (.bool true)) ∧ St c B S' X s') s := by
  refine fn_raw (d := d + 1) M G ho hcd hb hkind hnd hco hgen hk ok r ⟨rfl, .nil⟩ st fun L₁ S₁ s₀ s₁ ok1 G1 le1 ks1 st0 st1 => ?_
  obtain ⟨w1, w2⟩ := h1 L₁ (c.callee (envOfC qual scope L₁ f cdv) (ownOf scope L₁)) ⟨rfl, rfl, rfl, rfl, rfl⟩ rfl rfl ok1 G1
  refine wpAny_execs_cons (wpAny_Try_except (wpAny_execs_cons (wpAny_Expr_any (meth_rawE (c := c.callee (envOfC qual scope L₁ f cdv) (ownOf scope L₁)) (Us := Us) ok1 st1 w1 hi hg hf ht hfn hks w2 (fun S₂ s₂ us le2 r2 st2 => ?_) (hst L₁) (he L₁)) (hint L₁) (hsw L₁))))
  refine fn_raw (c := c.callee (envOfC qual scope L₁ f cdv) (ownOf scope L₁)) (d := d) M2 G1 ho2 hcd2 (hb2 _ ⟨rfl, rfl, rfl, rfl, rfl⟩) hkind2 hnd2 hco2 hgen2 hk2 ok1 r2 ⟨rfl, .nil⟩ st2 fun L₂ S₃ s₃ s₄ ok2 G2 le3 ks3 st3 st4 => ?_
  rw [hσ] at st4
  refine hR L₂ ((c.callee (envOfC qual scope L₁ f cdv) (ownOf scope L₁)).callee (envOfC qual2 scope2 L₂ f2 cdv2) (ownOf scope2 L₂)) ⟨rfl, rfl, rfl, rfl, rfl⟩ rfl rfl ok2 G2 _ S₃ s₄ _ _ ok2 st4 fun h' e S' s₅ le5 st5 hm => ?_
  have st1' := st3.callOut (ex := []) (fun _ h => nomatch h) le5 st5
  have st0' := st0.callOut (ex := []) (fun _ h => nomatch h) ((le2.trans le3).trans le5) st1'
  have offB := st3.off1 st5 hσ.symm (a := L₂) (.head _)
  have off2 : Off c B S' X L₂ := st0.off2 offB hσ
  have off1 : Off c B S' X L₁ := st0.off1 st1' rfl (.head _)
  have st0' : St c B S' X s₅ := st0'
  have mem : ∀ a ∈ [L₂, L₁, c.env.locals], a = c.env.locals ∨ Off c B S' X a := fun a ha => by
    simp only [List.mem_cons, List.not_mem_nil, or_false] at ha
    rcases ha with rfl | rfl | rfl
    · exact .inr off2
    · exact .inr off1
    · exact .inl rfl
  have hfr2 : ((c.A.deeper (envOfC qual scope L₁ f cdv)).deeper (envOfC qual2 scope2 L₂ f2 cdv2)).frames = some [envOfC qual2 scope2 L₂ f2 cdv2, envOfC qual scope L₁ f cdv, c.env] := Around.frames_deeper (Around.frames_deeper hA)
  have nofn : ∀ k : ScopeKind, k = .function → k ≠ .module := fun k h => by rw [h]; decide
  have FF : s₅.heap.FunFrames (hideAll s₅.heap [L₂, L₁, c.env.locals]) [envOfC qual2 scope2 L₂ f2 cdv2, envOfC qual scope L₁ f cdv, c.env] := by
    obtain ⟨m2, n2, _⟩ := st5.fr
    obtain ⟨m1, n1, _⟩ := st1'.fr
    obtain ⟨m0, n0, _⟩ := st0'.fr
    refine .cons (nofn _ hk2) rfl n2 (hideAll_none _ (.head _)) (.cons (nofn _ hk) rfl n1 (hideAll_none _ (.tail _ (.head _))) (.cons (nofn _ ok.fk) hf0 n0 (hideAll_none _ (.tail _ (.tail _ (.head _)))) trivial))
  have hz : Heap.UpToSlots s₅.heap h' := .of_keeps hm.keeps
  refine wpAny_leaves_madeW hfr2 rfl (fun b o e => of_hideAll _ e) FF hm.of fun h₆ t fl6 _ _ up6 => ?_
  refine wpAny_looks_onW (Around.frames_deeper hA) rfl fl6 fun h₇ held up7 => ?_
  refine wpAny_landsW held fun h₈ fl8 up8 => ?_
  have X8 : c.g.StaysIn h₈ := fun b o e => fl8.1 b o (hideAll_get _ (st0'.gr b o e) fun q => by
    rcases mem b q with rfl | q
    · rw [(st0'.sep _ (.inl hl0)).1] at e; cases e
    · rw [q.g] at e; cases e)
  refine wpAny_handleBy_builtin (X := "AssertionError") (T := "AssertionError") (b := true) PySem.F.isExc_AssertionError PySem.F.notTuple_AssertionError PySem.F.self_AssertionError ?_
  obtain ⟨p, loose, mean, mg, mb, T⟩ := ok.T
  have T' := (topRead_of T).keeps X8
  have XK := ok.X.keeps X8
  refine Name_function_global hk (hen L₁) (loadGlobal_builtin T'.g (mg_none_of XK T'.g hen2) T'.b ((T'.builtins en hen4).trans hen3) ⟨rfl, ?_, ?_⟩) hen5
  · obtain ⟨ob, h1, h2⟩ := fl8.there
    exact ⟨ob, h1, h2⟩
  rw [if_pos rfl]
  refine lands_againW fl8 fun h₉ fl9 up9 => ?_
  refine wpAny_execs_cons (wpAny_Return_some (wpAny_Constant_bool ?_))
  refine ⟨S', ((le1.trans le2).trans le3).trans le5, rfl, ?_⟩
  exact st0'.noise hl0 [L₂, L₁, c.env.locals] mem (fun b o nb e => fl9.1 b o (hideAll_get _ e nb)) (((((hz.trans up6).trans up7).trans up8)).trans up9) rfl rfl rfl
section
variable {c : Cx} {X : AX} {Q : AV → AX → Prop}
theorem O_addT {xs ys : List AV} (hz : xs.length + ys.length ≤ 1000000) (h : Q (.tup (xs ++ ys)) X) : W2 c Rep (.tup xs) (.tup ys) (binaryOp .Add) Q X := by
  intro B S s v u ok r₁ r₂ st
  obtain ⟨a, vs, n, rfl, h1, h2⟩ := r₁.tup_inv
  obtain ⟨b, us, k, rfl, g1, g2⟩ := r₂.tup_inv
  have ha := st.sto _ _ h1
  have hb := st.sto _ _ g1
  cases vs with
  | nil =>
    have e : xs = [] := List.eq_nil_of_length_eq_zero (by have := h2.1; simpa using this.symm)
    subst e
    exact concat_meets ⟨_, ha, rfl⟩ ⟨_, hb, rfl⟩ noFill_tuple_add seq_tuple_add PySem.F.slot_tuple_add PySem.F.entry_tuple_add (PySem.F.args_tuple_add_2 _ _) (tuple_addW0 a b [].toArray us.toArray n k none none #[] #[] rfl) ⟨ha, hb, ⟨S, .tup ([] ++ ys), X, .rfl, .tup' g1 g2, st, h⟩⟩
  | cons v0 vr =>
    cases us with
    | nil =>
      have e : ys = [] := List.eq_nil_of_length_eq_zero (by have := g2.1; simpa using this.symm)
      subst e
      rw [List.append_nil] at h
      exact concat_meets ⟨_, ha, rfl⟩ ⟨_, hb, rfl⟩ noFill_tuple_add seq_tuple_add PySem.F.slot_tuple_add PySem.F.entry_tuple_add (PySem.F.args_tuple_add_2 _ _) (tuple_addW1 a b (v0 :: vr).toArray [].toArray n k none none #[] #[] (by simp) rfl) ⟨ha, hb, ⟨S, .tup xs, X, .rfl, .tup' h1 h2, st, h⟩⟩
    | cons u0 ur =>
      have e : (v0 :: vr).toArray ++ (u0 :: ur).toArray = ((v0 :: vr) ++ (u0 :: ur)).toArray := by simp
      refine concat_meets ⟨_, ha, rfl⟩ ⟨_, hb, rfl⟩ noFill_tuple_add seq_tuple_add PySem.F.slot_tuple_add PySem.F.entry_tuple_add (PySem.F.args_tuple_add_2 _ _) (tuple_addW2 a b (v0 :: vr).toArray (u0 :: ur).toArray n k none none #[] #[] (by simp) (by simp) (by rw [sizeLine_eq, List.size_toArray, List.size_toArray, h2.1, g2.1]; omega)) ⟨ha, hb, ?_⟩
      rw [e]
      exact ⟨_, .tup (xs ++ ys), X, Sto.put_le _ _ _, .tup' (Sto.put_self _ _ _) ((h2.append g2).mono (Sto.put_le _ _ _)), st.push (seqObj "tuple" ((v0 :: vr) ++ (u0 :: ur)).toArray 0) rfl, h⟩
theorem B_tupleL {xs : List AV} (hz : xs.length ≤ 1000000) (h : Q (.tup xs) X) : WC c (.type "tuple") [.lst xs] [] Q X := by
  intro B S s vs kw ok r rk st
  obtain ⟨v, rfl, r1⟩ := one_arg r
  cases no_kw rk
  obtain ⟨a, us, n, rfl, h1, h2⟩ := r1.lst_inv
  refine call_tuple_list ⟨_, st.sto _ _ h1, rfl, n, rfl⟩ (fun h' hk => ?_) (by rw [sizeLine_eq, List.size_toArray, h2.1]; omega)
  exact ⟨_, .tup xs, X, Sto.put_le _ _ _, .tup' (Sto.put_self _ _ _) (h2.mono (Sto.put_le _ _ _)), (st.grow (s' := { s with heap := h' }) hk rfl rfl rfl).push (seqObj "tuple" us.toArray 0) rfl, h⟩
theorem E_sliceFrom {value low : Expr} {p pos : Pos} (h : WE c value (fun V X₁ => WE c low (fun U X₂ => ∃ xs k, V = .lst xs ∧ U = .int k ∧ 0 ≤ k ∧ xs.length ≤ 1000000 ∧ Q (.lst (xs.drop k.toNat)) X₂) X₁) X) (ht : ∀ o r, letTemporaryGo value o r = pure () := by intro _ _; rfl) : WE c (.Subscript value (.Slice (some low) none none p) pos) Q X := by
  intro B S s ok st
  refine wpAny_Subscript_list_slice (wpAny_mono (h B S s ok st) (fun v s₁ hz₉ => ?_) fun _ _ e => e) ht
  obtain ⟨S₁, V, X₁, u₁, rv, st₁, h₁⟩ := hz₉
  rw [evalPart_some, evalPart_none]
  refine wpAny_mono (h₁ B S₁ s₁ ok st₁) (fun u s₂ hz₉ => wpAny_pure ?_) fun _ _ e => e
  obtain ⟨S₂, U, X₂, u₂, ru, st₂, xs, k, eV, eU, h0, hz, q⟩ := hz₉
  subst eV eU
  obtain ⟨l, vs, n, rfl, g1, g2⟩ := (rv.mono u₂).lst_inv
  obtain ⟨t, rfl⟩ := ru.int_inv
  have e : slicePick vs.toArray (some k) none none = (vs.drop k.toNat).toArray := by
    obtain ⟨j, rfl⟩ := Int.eq_ofNat_of_zero_le h0
    exact slicePick_from' _ _
  refine ⟨l, vs.toArray, some k, none, rfl, ⟨_, st₂.sto _ _ g1, rfl, n, rfl⟩, by rw [sizeLine_eq, List.size_toArray, g2.1]; omega, .int k t, .none, ?_⟩
  rw [e]
  have st₃ := (st₂.grow (s' := { s₂ with heap := s₂.heap.push { cls := .type "slice", data := .fields #[.int k t, .none, .none] } }) (Keeps.push _ _) rfl rfl rfl).push (seqObj "list" (vs.drop k.toNat).toArray 0) rfl
  have hsz : (s₂.heap.push { cls := .type "slice", data := .fields #[.int k t, .none, .none] }).objs.size = s₂.heap.objs.size + 1 := Heap.size_push _ _
  dsimp only at st₃
  rw [hsz] at st₃
  refine ⟨_, .lst (xs.drop k.toNat), X₂, (u₁.trans u₂).trans (Sto.put_le _ _ _), .lst' (Sto.put_self _ _ _) ⟨by simp [g2.1], fun i v V a b => ?_⟩, st₃, q⟩
  rw [List.getElem?_drop] at a b
  exact (g2.2 _ v V a b).mono (Sto.put_le _ _ _)
theorem ints_pairs {S : Sto} : ∀ {vs : List Value} {ns : List Int}, Reps S vs (ns.map .int) → ∃ ps : List (Int × Tok), vs = ps.map (fun p => Value.int p.1 p.2) ∧ ps.map (·.1) = ns
  | [], [], _ => ⟨[], rfl, rfl⟩
  | v :: r, [], h => by have := h.1; simp at this
  | [], n :: r, h => by have := h.1; simp at this
  | v :: r, n :: t, h => by
    obtain ⟨h1, h2⟩ := Reps.uncons h
    obtain ⟨tk, rfl⟩ := h1.int_inv
    obtain ⟨ps, rfl, e⟩ := ints_pairs h2
    exact ⟨(n, tk) :: ps, rfl, by rw [List.map_cons, e]⟩
theorem B_maxL {ns : List Int} (hne : ns ≠ []) (h : ∀ m, m ∈ ns → (∀ n ∈ ns, n ≤ m) → Q (.int m) X) : WC c (.builtin "max") [.lst (ns.map .int)] [] Q X := by
  intro B S s vs kw ok r rk st
  obtain ⟨v, rfl, r1⟩ := one_arg r
  cases no_kw rk
  obtain ⟨a, us, n, rfl, h1, h2⟩ := r1.lst_inv
  obtain ⟨ps, rfl, rfl⟩ := ints_pairs h2
  have hit : intItems ps.toArray = (ps.map fun p => Value.int p.1 p.2).toArray := by unfold intItems; simp
  have hpos : 0 < ps.length := by
    cases ps with
    | nil => exact absurd rfl hne
    | cons p t => exact Nat.succ_pos _
  refine max_intList (xs := ps.toArray) ok.G.hd ⟨_, st.sto _ _ h1, rfl, n, by rw [hit]⟩ (by simpa using hpos) fun v h' tk hv hk => ?_
  obtain ⟨tk', e⟩ := intItems_at hv
  subst e
  have hb := argBest_gt (numAt ps.toArray) (ps.toArray.size - 1)
  rw [List.size_toArray] at hb
  have num : ∀ j, (hj : j < ps.length) → numAt ps.toArray j = (ps[j]).1 := fun j hj => by
    unfold numAt
    rw [List.getElem?_toArray, List.getElem?_eq_getElem hj]; rfl
  refine ⟨S, .int _, X, .rfl, .int _ _, st.grow (s' := { s with heap := h', toks := tk }) hk rfl rfl rfl, h _ ?_ fun x hx => ?_⟩
  · rw [List.size_toArray, num _ (by omega)]
    exact List.mem_map.mpr ⟨_, List.getElem_mem _, rfl⟩
  · obtain ⟨p, hp, rfl⟩ := List.mem_map.mp hx
    obtain ⟨j, hj, e⟩ := List.getElem_of_mem hp
    have := hb.2 j (by omega)
    rw [num j hj, e] at this
    rw [List.size_toArray]
    exact this
end
section
variable {prog : Program} {w : World} {A : Around} {E : Value → Shared → Prop} {s : Shared}
theorem adjust_to (k n : Nat) : Builtin.Slice.sliceAdjust none (some (k : Int)) 1 (n : Int) = (0, ((min k n : Nat) : Int)) := by
  unfold Builtin.Slice.sliceAdjust
  have h1 : ¬ ((1 : Int) < 0) := by omega
  have h2 : ¬ ((k : Int) < 0) := by omega
  simp only [h1, h2, if_false]
  congr 1
  omega
theorem places_to (m : Nat) : Builtin.Slice.slicePlaces 0 (m : Int) 1 = m := by
  unfold Builtin.Slice.slicePlaces
  have h1 : (1 : Int) > 0 := by omega
  simp only [h1, if_true, Int.ediv_one]
  split <;> omega
theorem sliceApplied_to {sl : Addr} {k n : Nat} {u : Tok} {Q : Int × Int × Nat → Shared → Prop} (hs : s.heap.IsSliceOf sl .none (.int k u) .none) (h : Q (0, 1, min k n) s) :
    wpAny (model prog w) A (Builtin.Slice.sliceApplied (.ref sl) (pure (n : Int))) Q E s := by
  obtain ⟨os, hos, hcs, hds⟩ := id hs
  unfold Builtin.Slice.sliceApplied Builtin.Slice.sliceFields
  refine wpAny_bind (wpAny_bind (wpAny_field hos hds (x := .none) rfl (wpAny_bind (wpAny_field hos hds (x := .int k u) rfl (wpAny_bind (wpAny_field hos hds (x := .none) rfl (wpAny_pure ?_)))))))
  refine wpAny_bind (slicePart_none ?_)
  show wpAny _ _ (if ((1 : Int) == 0) = true then _ else _) _ _ s
  rw [if_neg (by decide)]
  refine wpAny_bind (slicePart_none (wpAny_bind (slicePart_int (wpAny_bind (wpAny_pure ?_)))))
  show wpAny _ _ (match Builtin.Slice.sliceAdjust none (some (k : Int)) 1 (n : Int) with | (lo, hi) => pure (lo, (1 : Int), Builtin.Slice.slicePlaces lo hi 1)) _ _ s
  rw [adjust_to k n]
  show wpAny _ _ (pure ((0 : Int), (1 : Int), Builtin.Slice.slicePlaces 0 ((min k n : Nat) : Int) 1)) _ _ s
  rw [places_to]
  exact wpAny_pure h
theorem pick_to (xs : Array Value) (m : Nat) : ((List.range m).filterMap fun (k : Nat) => xs[((0 : Int) + (k : Int) * 1).toNat]?).toArray = (xs.toList.take m).toArray := by
  have e : (fun (k : Nat) => xs[((0 : Int) + (k : Int) * 1).toNat]?) = fun k => xs[0 + k]? := by
    funext k
    have : ((0 : Int) + (k : Int) * 1).toNat = 0 + k := by omega
    rw [this]
  rw [e]
  have := pick_run xs 0 m
  rw [List.filterMap_map] at this
  have e2 : ((fun x => xs[x]?) ∘ fun x => 0 + x) = fun k => xs[0 + k]? := rfl
  rw [e2] at this
  rw [this, List.drop_zero]
theorem getItem_tuple_to {t sl : Addr} {items : Array Value} {k : Nat} {u : Tok} {Q : Value → Shared → Prop} (ht : IsTup s.heap t items) (hs : s.heap.IsSliceOf sl .none (.int k u) .none)
    (h1 : items.size ≤ k → Q (.ref t) s)
    (h : k < items.size → Q (.ref s.heap.objs.size) { s with heap := s.heap.push { cls := .type "tuple", data := .seq (items.toList.take k).toArray } })
    (hsz : items.size ≤ sizeLine) : wpAny (model prog w) A (getItem (.ref t) (.ref sl)) Q E s := by
  have hdrop : ∀ m, sizeOk (.seq (items.toList.take m).toArray) := fun m => by
    show (items.toList.take m).toArray.size ≤ sizeLine
    rw [List.size_toArray, List.length_take, Array.length_toList]
    omega
  obtain ⟨os, hos, hcs, hds⟩ := id hs
  have hTs : s.TypeIs (.ref sl) "slice" := ⟨os, hos, hcs⟩
  unfold getItem
  try with_reducible refine wpAny_holding ?_
  first | refine wpAny_bind (wpAny_pure ?_) | skip
  refine wpAny_bind (wpAny_sequenceKey ht.typeIs (by decide) ?_)
  refine wpAny_bind (wpAny_callSpecial?_slot (name := Str.ofString "__getitem__") ht.typeIs slot_tuple_getitem
    (wpAny_call_entry slot_tuple_getitem ht.typeIs entry_tuple_getitem ?_ (args_tuple_getitem _ _)))
  show wpAny _ _ (Builtin.Tuple.tupleItemsOf (.ref t) >>= _) _ _ s
  refine wpAny_bind (tupleItemsOf_ ht ?_)
  refine wpAny_bind (wpAny_typeOf hTs ?_)
  rw [if_pos (by decide)]
  refine wpAny_bind (sliceApplied_to (n := items.size) hs ?_)
  show wpAny _ _ (if ((0 : Int) == 0 && (1 : Int) == 1 && (min k items.size) == items.size) = true then _ else _) _ _ s
  rcases Nat.lt_or_ge k items.size with q | q
  · have hno : ¬ (((0 : Int) == 0 && (1 : Int) == 1 && (min k items.size) == items.size) = true) := by
      have : ((min k items.size) == items.size) = false := by rw [beq_eq_false_iff_ne]; omega
      rw [this]; simp
    have hm : min k items.size = k := by omega
    rw [if_neg hno, hm, pick_to items k]
    first
      | exact wpAny_bind (m := Builtin.Tuple.tupleExact _) (wpAny_newObj_type (wpAny_pure ⟨_, rfl, wpAny_pure (h q)⟩) (hdrop _))
      | exact wpAny_bind (m := Builtin.Tuple.tupleExact _) (wpAny_newObj_type (wpAny_bind (wpAny_pure (wpAny_pure ⟨_, rfl, wpAny_pure (h q)⟩))) (hdrop _))
      | exact wpAny_bind (wpAny_bind (m := Builtin.Tuple.tupleExact _) (wpAny_newObj_type (wpAny_pure (wpAny_pure ⟨_, rfl, wpAny_pure (h q)⟩)) (hdrop _)))
      | exact wpAny_bind (wpAny_bind (m := Builtin.Tuple.tupleExact _) (wpAny_newObj_type (wpAny_pure ⟨_, rfl, wpAny_pure (h q)⟩) (hdrop _)))
  · have hm : min k items.size = items.size := by omega
    rw [hm, if_pos (by simp)]
    refine wpAny_bind (m := Builtin.Tuple.tupleIsExact _) ?_
    unfold Builtin.Tuple.tupleIsExact
    refine wpAny_bind (wpAny_typeOf ht.typeIs (wpAny_pure ?_))
    rw [if_pos (by decide)]
    first
      | exact wpAny_bind (wpAny_rule (wpAny_pure ⟨_, rfl, wpAny_pure (h1 q)⟩))
      | exact wpAny_bind (wpAny_rule (wpAny_bind (wpAny_pure (wpAny_pure ⟨_, rfl, wpAny_pure (h1 q)⟩))))
      | (refine wpAny_bind (wpAny_rule ?_); done)
end
section
variable {c : Cx} {X : AX} {Q : AV → AX → Prop}
theorem E_sliceToT {value up : Expr} {p pos : Pos} (h : WE c value (fun V X₁ => WE c up (fun U X₂ => ∃ xs k, V = .tup xs ∧ U = .int k ∧ 0 ≤ k ∧ xs.length ≤ 1000000 ∧ Q (.tup (xs.take k.toNat)) X₂) X₁) X) (ht : ∀ o r, letTemporaryGo value o r = pure () := by intro _ _; rfl) : WE c (.Subscript value (.Slice none (some up) none p) pos) Q X := by
  intro B S s ok st
  refine wpAny_Subscript_Slice (T := "tuple") slot_tuple_getitem.lookup (wpAny_mono (h B S s ok st) (fun v s₁ hz₉ => wpAny_Slice ?_) fun _ _ e => e) ht
  obtain ⟨S₁, V, X₁, u₁, rv, st₁, h₁⟩ := hz₉
  rw [evalPart_none, evalPart_some]
  refine wpAny_pure (wpAny_mono (h₁ B S₁ s₁ ok st₁) (fun u s₂ hz₉ => ?_) fun _ _ e => e)
  obtain ⟨S₂, U, X₂, u₂, ru, st₂, xs, k, eV, eU, h0, hz, q⟩ := hz₉
  subst eV eU
  obtain ⟨l, vs, n, rfl, g1, g2⟩ := (rv.mono u₂).tup_inv
  obtain ⟨t, rfl⟩ := ru.int_inv
  obtain ⟨j, rfl⟩ := Int.eq_ofNat_of_zero_le h0
  have st₃ := st₂.grow (s' := { s₂ with heap := s₂.heap.push { cls := .type "slice", data := .fields #[.none, .int j t, .none] } }) (Keeps.push _ _) rfl rfl rfl
  have ht' : IsTup (s₂.heap.push { cls := .type "slice", data := .fields #[.none, .int j t, .none] }) l vs.toArray := ⟨_, st₃.sto _ _ g1, rfl, n, rfl⟩
  refine wpAny_pure ⟨ht'.typeIs, getItem_tuple_to ht' (Heap.IsSliceOf.new ..) (fun hk => ?_) (fun hk => ?_) (by rw [sizeLine_eq, List.size_toArray, g2.1]; omega)⟩
  · rw [List.size_toArray, g2.1] at hk
    rw [show (j : Int).toNat = j from rfl, List.take_of_length_le hk] at q
    exact ⟨S₂, .tup xs, X₂, u₁.trans u₂, .tup' g1 g2, st₃, q⟩
  · refine ⟨_, .tup (xs.take j), X₂, (u₁.trans u₂).trans (Sto.put_le _ _ _), .tup' (Sto.put_self _ _ _) ⟨by simp [g2.1], fun i v V a b => ?_⟩, st₃.push (seqObj "tuple" (vs.take j).toArray 0) rfl, q⟩
    rw [List.getElem?_take] at a b
    split at a
    · rename_i hi; rw [if_pos hi] at b; exact (g2.2 i v V a b).mono (Sto.put_le _ _ _)
    · cases a
end
abbrev prog : Program := PySem.Challenge.rw_lp0003_08.row.prog
structure Lw (c : Cx) : Prop where
  P : c.P = prog
  K : c.K = hd8.heap_1 c.w.params
  C : CodeHd c.g 565 561
  N : c.g.get? 561 = none
theorem Lw.kin {c c' : Cx} (L : Lw c) (k : Kin c c') : Lw c' := ⟨k.P.trans L.P, by rw [k.K, k.w]; exact L.K, by rw [k.g]; exact L.C, by rw [k.g]; exact L.N⟩
abbrev AV.cell (n : Int) : AV := .inst 453 [Str.ofString "_CellId__id"] [.int n]
theorem id_c {c : Cx} {Q : AV → AX → Prop} {X : AX} {n : Int} (L : Lw c) (G : Gd c.A 1)  (h : Q (.int n) X) : WF c (.ref 222) [.cell n] [] Q X := by
  (have _ : PySem.Challenge.rw_lp0003_08 = PySem.Challenge.rw_lp0003_08 → ∀ w : World, (hd8.heap_1 w.params).In default → True := by (k_fill; intros; trivial))
  have L₀ := L
  obtain ⟨P, w, K, g, A, env, own, E, fx⟩ := c
  obtain ⟨hP, hK, hC, hN⟩ := L
  dsimp only at hP hK hC hN G
  subst hP hK
  refine' WF.go (M := [((Str.ofString "self"), .cell n)]) G ?k1 ?k2 ?k3 ?k4 ?k5 ?k6 ?k7 ?k8 ?_
  case k1 => ((try dsimp only); k_is)
  case k2 => ((try dsimp only); k_is)
  case k3 => exact bind1 fun s v X => .of_eq rfl
  case k4 => rfl
  case k5 => decide
  case k6 => rfl
  case k7 => rfl
  case k8 => rfl
  intro F c' kn he ho ok G'
  have L' := L₀.kin kn
  obtain ⟨P', w', K', g', A', env', own', E', fx'⟩ := c'
  obtain ⟨f1, f2, f3, f4, f5⟩ := kn
  dsimp only at f1 f2 f3 f4 f5 he ho G'
  subst f1 f2 f3 f4 f5 he ho
  clear L₀
  simp only [List.reverse_cons, List.reverse_nil, List.nil_append, List.cons_append]
  (refine S_last ?_; refine S_return ?_; refine E_attr ?_; (refine' E_name ?hv1 ?_; (case hv1 => exact rfl)); refine' G_own (ca := none) ?hi2 ?a2 ?b2 ?c2 ?d2 ?e2 ?f2 ?_; (case hi2 => exact .inl rfl); (case a2 => (try dsimp only); k_is); (case b2 => (try dsimp only); k_is); (case c2 => (try dsimp only); k_is); (case d2 => (try dsimp only); k_is); (case e2 => exact rfl); (case f2 => exact rfl); dsimp only)
  exact h
theorem lsb_c {c : Cx} {Q : AV → AX → Prop} {X : AX} {c₀ : Cel} (L : Lw c) (G : Gd c.A 2)  (h : Q (.int ((4 ^ c₀.u : Nat) : Int)) X) : WF c (.ref 236) [.cell c₀.id] [] Q X := by
  (have _ : PySem.Challenge.rw_lp0003_08 = PySem.Challenge.rw_lp0003_08 → ∀ w : World, (hd8.heap_1 w.params).In default → True := by (k_fill; intros; trivial))
  have L₀ := L
  obtain ⟨P, w, K, g, A, env, own, E, fx⟩ := c
  obtain ⟨hP, hK, hC, hN⟩ := L
  dsimp only at hP hK hC hN G
  subst hP hK
  refine' WF.go (M := [((Str.ofString "self"), .cell c₀.id)]) G ?k1 ?k2 ?k3 ?k4 ?k5 ?k6 ?k7 ?k8 ?_
  case k1 => ((try dsimp only); k_is)
  case k2 => ((try dsimp only); k_is)
  case k3 => exact bind1 fun s v X => .of_eq rfl
  case k4 => rfl
  case k5 => decide
  case k6 => rfl
  case k7 => rfl
  case k8 => rfl
  intro F c' kn he ho ok G'
  have L' := L₀.kin kn
  obtain ⟨P', w', K', g', A', env', own', E', fx'⟩ := c'
  obtain ⟨f1, f2, f3, f4, f5⟩ := kn
  dsimp only at f1 f2 f3 f4 f5 he ho G'
  subst f1 f2 f3 f4 f5 he ho
  clear L₀
  simp only [List.reverse_cons, List.reverse_nil, List.nil_append, List.cons_append]
  (refine S_last ?_; refine S_return ?_; refine E_bin ?_; refine E_meth ?_; dsimp only; (refine' E_name ?hv3 ?_; (case hv3 => exact rfl)); refine' M_fn ?hi4 ?a4 ?b4 ?c4 ?d4 ?e4 ?_; (case hi4 => exact .inl rfl); (case a4 => (try dsimp only); k_is); (case b4 => (try dsimp only); k_is); (case c4 => (try dsimp only); k_is); (case d4 => (try dsimp only); k_is); (case e4 => decide); refine Args_plain ?_; refine A_nil ?_; refine WC.of (id_c (by with_reducible assumption) (by exact Gd.le (by with_reducible assumption) rfl)  ?_); refine E_un ?_; refine E_meth ?_; dsimp only; (refine' E_name ?hv5 ?_; (case hv5 => exact rfl)); refine' M_fn ?hi6 ?a6 ?b6 ?c6 ?d6 ?e6 ?_; (case hi6 => exact .inl rfl); (case a6 => (try dsimp only); k_is); (case b6 => (try dsimp only); k_is); (case c6 => (try dsimp only); k_is); (case d6 => (try dsimp only); k_is); (case e6 => decide); refine Args_plain ?_; refine A_nil ?_; refine WC.of (id_c (by with_reducible assumption) (by exact Gd.le (by with_reducible assumption) rfl)  ?_); refine O_neg ?_; refine O_band ?_; dsimp only)
  rw [c₀.lsb]; exact h
theorem retB {Q : AV → AX → Prop} {X : AX} {b b' : Bool} (h : Q (.bool b) X) (e : b' = b) : Q (.bool b') X := e ▸ h
theorem retI {Q : AV → AX → Prop} {X : AX} {b b' : Int} (h : Q (.int b) X) (e : b' = b) : Q (.int b') X := e ▸ h
theorem face_c {c : Cx} {Q : AV → AX → Prop} {X : AX} {c₀ : Cel} (L : Lw c) (G : Gd c.A 2)  (h : Q (.int (c₀.id.fdiv (2 ^ 61))) X) : WF c (.ref 243) [.cell c₀.id] [] Q X := by
  (have _ : PySem.Challenge.rw_lp0003_08 = PySem.Challenge.rw_lp0003_08 → ∀ w : World, (hd8.heap_1 w.params).In default → True := by (k_fill; intros; trivial))
  have L₀ := L
  obtain ⟨P, w, K, g, A, env, own, E, fx⟩ := c
  obtain ⟨hP, hK, hC, hN⟩ := L
  dsimp only at hP hK hC hN G
  subst hP hK
  refine' WF.go (M := [((Str.ofString "self"), .cell c₀.id)]) G ?k1 ?k2 ?k3 ?k4 ?k5 ?k6 ?k7 ?k8 ?_
  case k1 => ((try dsimp only); k_is)
  case k2 => ((try dsimp only); k_is)
  case k3 => exact bind1 fun s v X => .of_eq rfl
  case k4 => rfl
  case k5 => decide
  case k6 => rfl
  case k7 => rfl
  case k8 => rfl
  intro F c' kn he ho ok G'
  have L' := L₀.kin kn
  obtain ⟨P', w', K', g', A', env', own', E', fx'⟩ := c'
  obtain ⟨f1, f2, f3, f4, f5⟩ := kn
  dsimp only at f1 f2 f3 f4 f5 he ho G'
  subst f1 f2 f3 f4 f5 he ho
  clear L₀
  simp only [List.reverse_cons, List.reverse_nil, List.nil_append, List.cons_append]
  (refine S_last ?_; refine S_return ?_; refine E_bin ?_; refine E_meth ?_; dsimp only; (refine' E_name ?hv7 ?_; (case hv7 => exact rfl)); refine' M_fn ?hi8 ?a8 ?b8 ?c8 ?d8 ?e8 ?_; (case hi8 => exact .inl rfl); (case a8 => (try dsimp only); k_is); (case b8 => (try dsimp only); k_is); (case c8 => (try dsimp only); k_is); (case d8 => (try dsimp only); k_is); (case e8 => decide); refine Args_plain ?_; refine A_nil ?_; refine WC.of (id_c (by with_reducible assumption) (by exact Gd.le (by with_reducible assumption) rfl)  ?_); refine E_attr ?_; refine E_attr ?_; (refine' E_name ?hv9 ?_; (case hv9 => exact rfl)); refine' G_class ?hi10 ?a10 ?b10 ?c10 ?d10 ?e10 ?f10 ?_; (case hi10 => exact .inl rfl); (case a10 => (try dsimp only); k_is); (case b10 => (try dsimp only); k_is); (case c10 => (try dsimp only); k_is); (case d10 => (try dsimp only); k_is); (case e10 => (try dsimp only); k_is); (case f10 => (try dsimp only); k_is); skip; refine' G_cv ?hm11 ?a11 ?b11 ?c11 ?d11 ?_; (case hm11 => (try dsimp only); k_is); (case a11 => (try dsimp only); k_is); (case b11 => (try dsimp only); k_is); (case c11 => rfl); (case d11 => intro _; exact .int _ _); refine O_shr (by decide) ?_; dsimp only)
  exact h
theorem is_leaf_c {c : Cx} {Q : AV → AX → Prop} {X : AX} {c₀ : Cel} (L : Lw c) (G : Gd c.A 2)  (h : Q (.bool (decide (c₀.u = 0))) X) : WF c (.ref 257) [.cell c₀.id] [] Q X := by
  (have _ : PySem.Challenge.rw_lp0003_08 = PySem.Challenge.rw_lp0003_08 → ∀ w : World, (hd8.heap_1 w.params).In default → True := by (k_fill; intros; trivial))
  have L₀ := L
  obtain ⟨P, w, K, g, A, env, own, E, fx⟩ := c
  obtain ⟨hP, hK, hC, hN⟩ := L
  dsimp only at hP hK hC hN G
  subst hP hK
  refine' WF.go (M := [((Str.ofString "self"), .cell c₀.id)]) G ?k1 ?k2 ?k3 ?k4 ?k5 ?k6 ?k7 ?k8 ?_
  case k1 => ((try dsimp only); k_is)
  case k2 => ((try dsimp only); k_is)
  case k3 => exact bind1 fun s v X => .of_eq rfl
  case k4 => rfl
  case k5 => decide
  case k6 => rfl
  case k7 => rfl
  case k8 => rfl
  intro F c' kn he ho ok G'
  have L' := L₀.kin kn
  obtain ⟨P', w', K', g', A', env', own', E', fx'⟩ := c'
  obtain ⟨f1, f2, f3, f4, f5⟩ := kn
  dsimp only at f1 f2 f3 f4 f5 he ho G'
  subst f1 f2 f3 f4 f5 he ho
  clear L₀
  simp only [List.reverse_cons, List.reverse_nil, List.nil_append, List.cons_append]
  (refine S_last ?_; refine S_return ?_; refine E_cmp ?_; refine E_bin ?_; refine E_meth ?_; dsimp only; (refine' E_name ?hv12 ?_; (case hv12 => exact rfl)); refine' M_fn ?hi13 ?a13 ?b13 ?c13 ?d13 ?e13 ?_; (case hi13 => exact .inl rfl); (case a13 => (try dsimp only); k_is); (case b13 => (try dsimp only); k_is); (case c13 => (try dsimp only); k_is); (case d13 => (try dsimp only); k_is); (case e13 => decide); refine Args_plain ?_; refine A_nil ?_; refine WC.of (id_c (by with_reducible assumption) (by exact Gd.le (by with_reducible assumption) rfl)  ?_); refine E_int ?_; refine O_band ?_; refine E_int ?_; refine O_ne ?_; dsimp only)
  exact retB h (by rw [← c₀.leaf_bit]; rfl)
theorem is_valid_c {c : Cx} {Q : AV → AX → Prop} {X : AX} {c₀ : Cel} (L : Lw c) (G : Gd c.A 3) (hv : c₀.ok) (h : Q (.bool true) X) : WF c (.ref 229) [.cell c₀.id] [] Q X := by
  (have _ : PySem.Challenge.rw_lp0003_08 = PySem.Challenge.rw_lp0003_08 → ∀ w : World, (hd8.heap_1 w.params).In default → True := by (k_fill; intros; trivial))
  have L₀ := L
  obtain ⟨P, w, K, g, A, env, own, E, fx⟩ := c
  obtain ⟨hP, hK, hC, hN⟩ := L
  dsimp only at hP hK hC hN G
  subst hP hK
  refine' WF.go (M := [((Str.ofString "self"), .cell c₀.id)]) G ?k1 ?k2 ?k3 ?k4 ?k5 ?k6 ?k7 ?k8 ?_
  case k1 => ((try dsimp only); k_is)
  case k2 => ((try dsimp only); k_is)
  case k3 => exact bind1 fun s v X => .of_eq rfl
  case k4 => rfl
  case k5 => decide
  case k6 => rfl
  case k7 => rfl
  case k8 => rfl
  intro F c' kn he ho ok G'
  have L' := L₀.kin kn
  obtain ⟨P', w', K', g', A', env', own', E', fx'⟩ := c'
  obtain ⟨f1, f2, f3, f4, f5⟩ := kn
  dsimp only at f1 f2 f3 f4 f5 he ho G'
  subst f1 f2 f3 f4 f5 he ho
  clear L₀
  simp only [List.reverse_cons, List.reverse_nil, List.nil_append, List.cons_append]
  (refine S_last ?_; refine S_return ?_; refine E_and ?_; refine E_cmp ?_; refine E_meth ?_; dsimp only; (refine' E_name ?hv14 ?_; (case hv14 => exact rfl)); refine' M_fn ?hi15 ?a15 ?b15 ?c15 ?d15 ?e15 ?_; (case hi15 => exact .inl rfl); (case a15 => (try dsimp only); k_is); (case b15 => (try dsimp only); k_is); (case c15 => (try dsimp only); k_is); (case d15 => (try dsimp only); k_is); (case e15 => decide); refine Args_plain ?_; refine A_nil ?_; refine WC.of (face_c (by with_reducible assumption) (by exact Gd.le (by with_reducible assumption) rfl)  ?_); refine E_attr ?_; refine E_attr ?_; (refine' E_name ?hv16 ?_; (case hv16 => exact rfl)); refine' G_class ?hi17 ?a17 ?b17 ?c17 ?d17 ?e17 ?f17 ?_; (case hi17 => exact .inl rfl); (case a17 => (try dsimp only); k_is); (case b17 => (try dsimp only); k_is); (case c17 => (try dsimp only); k_is); (case d17 => (try dsimp only); k_is); (case e17 => (try dsimp only); k_is); (case f17 => (try dsimp only); k_is); skip; refine' G_cv ?hm18 ?a18 ?b18 ?c18 ?d18 ?_; (case hm18 => (try dsimp only); k_is); (case a18 => (try dsimp only); k_is); (case b18 => (try dsimp only); k_is); (case c18 => rfl); (case d18 => intro _; exact .int _ _); refine O_lt ?_; refine Tr_bool ?_; dsimp only)
  rw [if_pos (decide_eq_true (Cel.face_lt hv))]
  (refine E_cmp ?_; refine E_bin ?_; refine E_meth ?_; dsimp only; (refine' E_name ?hv19 ?_; (case hv19 => exact rfl)); refine' M_fn ?hi20 ?a20 ?b20 ?c20 ?d20 ?e20 ?_; (case hi20 => exact .inl rfl); (case a20 => (try dsimp only); k_is); (case b20 => (try dsimp only); k_is); (case c20 => (try dsimp only); k_is); (case d20 => (try dsimp only); k_is); (case e20 => decide); refine Args_plain ?_; refine A_nil ?_; refine WC.of (lsb_c (by with_reducible assumption) (by exact Gd.le (by with_reducible assumption) rfl)  ?_); refine E_int ?_; refine O_band ?_; refine E_int ?_; refine O_ne ?_; dsimp only)
  exact retB h (by rw [decide_eq_false (valid_bits _ (Nat.lt_succ_of_le hv.1))]; rfl)
theorem lsbfl_c {c : Cx} {Q : AV → AX → Prop} {X : AX} {lv : Int} (L : Lw c) (G : Gd c.A 1) (h0 : 0 ≤ lv) (h1 : lv ≤ 30) (h : Q (.int ((4 ^ (30 - lv.toNat) : Nat) : Int)) X) : WF c (.ref 177) [.raw (.ref 453), .int lv] [] Q X := by
  (have _ : PySem.Challenge.rw_lp0003_08 = PySem.Challenge.rw_lp0003_08 → ∀ w : World, (hd8.heap_1 w.params).In default → True := by (k_fill; intros; trivial))
  have L₀ := L
  obtain ⟨P, w, K, g, A, env, own, E, fx⟩ := c
  obtain ⟨hP, hK, hC, hN⟩ := L
  dsimp only at hP hK hC hN G
  subst hP hK
  refine' WF.go (M := [((Str.ofString "cls"), .raw (.ref 453)), ((Str.ofString "level"), .int lv)]) G ?k1 ?k2 ?k3 ?k4 ?k5 ?k6 ?k7 ?k8 ?_
  case k1 => ((try dsimp only); k_is)
  case k2 => ((try dsimp only); k_is)
  case k3 => exact bind2 fun s v u X => .of_eq rfl
  case k4 => rfl
  case k5 => decide
  case k6 => rfl
  case k7 => rfl
  case k8 => rfl
  intro F c' kn he ho ok G'
  have L' := L₀.kin kn
  obtain ⟨P', w', K', g', A', env', own', E', fx'⟩ := c'
  obtain ⟨f1, f2, f3, f4, f5⟩ := kn
  dsimp only at f1 f2 f3 f4 f5 he ho G'
  subst f1 f2 f3 f4 f5 he ho
  clear L₀
  simp only [List.reverse_cons, List.reverse_nil, List.nil_append, List.cons_append]
  (refine S_last ?_; refine S_return ?_; refine E_bin ?_; refine E_int ?_; refine E_bin ?_; refine E_int ?_; refine E_bin ?_; refine E_attr ?_; (refine' E_name ?hv21 ?_; (case hv21 => exact rfl)); refine' G_cv ?hm22 ?a22 ?b22 ?c22 ?d22 ?_; (case hm22 => (try dsimp only); k_is); (case a22 => (try dsimp only); k_is); (case b22 => (try dsimp only); k_is); (case c22 => rfl); (case d22 => intro _; exact .int _ _); (refine' E_name ?hv23 ?_; (case hv23 => exact rfl)); refine O_sub ?_; refine O_mul (by lia) ?_; refine O_shl (by lia) (by lia) (by decide) ?_; dsimp only)
  exact retI h (by
    have e : (2 * (30 - lv)).toNat = 2 * (30 - lv.toNat) := by lia
    rw [e, Int.one_mul, four_pow]; simp)
theorem is_face_c {c : Cx} {Q : AV → AX → Prop} {X : AX} {c₀ : Cel} (L : Lw c) (G : Gd c.A 3) (hv : c₀.ok) (h : Q (.bool (decide (c₀.u = 30))) X) : WF c (.ref 215) [.cell c₀.id] [] Q X := by
  (have _ : PySem.Challenge.rw_lp0003_08 = PySem.Challenge.rw_lp0003_08 → ∀ w : World, (hd8.heap_1 w.params).In default → True := by (k_fill; intros; trivial))
  have L₀ := L
  obtain ⟨P, w, K, g, A, env, own, E, fx⟩ := c
  obtain ⟨hP, hK, hC, hN⟩ := L
  dsimp only at hP hK hC hN G
  subst hP hK
  refine' WF.go (M := [((Str.ofString "self"), .cell c₀.id)]) G ?k1 ?k2 ?k3 ?k4 ?k5 ?k6 ?k7 ?k8 ?_
  case k1 => ((try dsimp only); k_is)
  case k2 => ((try dsimp only); k_is)
  case k3 => exact bind1 fun s v X => .of_eq rfl
  case k4 => rfl
  case k5 => decide
  case k6 => rfl
  case k7 => rfl
  case k8 => rfl
  intro F c' kn he ho ok G'
  have L' := L₀.kin kn
  obtain ⟨P', w', K', g', A', env', own', E', fx'⟩ := c'
  obtain ⟨f1, f2, f3, f4, f5⟩ := kn
  dsimp only at f1 f2 f3 f4 f5 he ho G'
  subst f1 f2 f3 f4 f5 he ho
  clear L₀
  simp only [List.reverse_cons, List.reverse_nil, List.nil_append, List.cons_append]
  (refine S_last ?_; refine S_return ?_; refine E_cmp ?_; refine E_bin ?_; refine E_meth ?_; dsimp only; (refine' E_name ?hv24 ?_; (case hv24 => exact rfl)); refine' M_fn ?hi25 ?a25 ?b25 ?c25 ?d25 ?e25 ?_; (case hi25 => exact .inl rfl); (case a25 => (try dsimp only); k_is); (case b25 => (try dsimp only); k_is); (case c25 => (try dsimp only); k_is); (case d25 => (try dsimp only); k_is); (case e25 => decide); refine Args_plain ?_; refine A_nil ?_; refine WC.of (id_c (by with_reducible assumption) (by exact Gd.le (by with_reducible assumption) rfl)  ?_); refine E_bin ?_; refine E_meth ?_; dsimp only; (refine' E_name ?hv26 ?_; (case hv26 => exact rfl)); refine' M_cmi ?hi27 ?a27 ?b27 ?c27 ?d27 ?e27 ?f27 ?g27 ?i27 ?j27 ?k27 ?_; (case hi27 => exact .inl rfl); (case a27 => (try dsimp only); k_is); (case b27 => (try dsimp only); k_is); (case c27 => (try dsimp only); k_is); (case d27 => (try dsimp only); k_is); (case e27 => (try dsimp only); k_is); (case f27 => (try dsimp only); k_is); (case g27 => decide +kernel); (case i27 => decide); (case j27 => (try dsimp only); k_is); (case k27 => (try dsimp only); k_is); refine Args_plain ?_; refine A_cons ?_; refine E_int ?_; refine A_nil ?_; refine lsbfl_c (by with_reducible assumption) (by exact Gd.le (by with_reducible assumption) rfl) (by lia) (by lia) ?_; refine E_int ?_; refine O_sub ?_; refine O_band ?_; refine E_int ?_; refine O_eq ?_; dsimp only)
  exact retB h (by rw [← Cel.face_bit hv]; rfl)
theorem bool_eq {p q : Prop} [Decidable p] [Decidable q] (h : p ↔ q) : decide p = decide q := decide_eq_decide.mpr h
theorem lt_c {c : Cx} {Q : AV → AX → Prop} {X : AX} {c₀ e₀ : Cel} (L : Lw c) (G : Gd c.A 2)  (h : Q (.bool (decide (c₀.id < e₀.id))) X) : WF c (.ref 99) [.cell c₀.id, .cell e₀.id] [] Q X := by
  (have _ : PySem.Challenge.rw_lp0003_08 = PySem.Challenge.rw_lp0003_08 → ∀ w : World, (hd8.heap_1 w.params).In default → True := by (k_fill; intros; trivial))
  have L₀ := L
  obtain ⟨P, w, K, g, A, env, own, E, fx⟩ := c
  obtain ⟨hP, hK, hC, hN⟩ := L
  dsimp only at hP hK hC hN G
  subst hP hK
  refine' WF.go (M := [((Str.ofString "self"), .cell c₀.id), ((Str.ofString "other"), .cell e₀.id)]) G ?k1 ?k2 ?k3 ?k4 ?k5 ?k6 ?k7 ?k8 ?_
  case k1 => ((try dsimp only); k_is)
  case k2 => ((try dsimp only); k_is)
  case k3 => exact bind2 fun s v u X => .of_eq rfl
  case k4 => rfl
  case k5 => decide
  case k6 => rfl
  case k7 => rfl
  case k8 => rfl
  intro F c' kn he ho ok G'
  have L' := L₀.kin kn
  obtain ⟨P', w', K', g', A', env', own', E', fx'⟩ := c'
  obtain ⟨f1, f2, f3, f4, f5⟩ := kn
  dsimp only at f1 f2 f3 f4 f5 he ho G'
  subst f1 f2 f3 f4 f5 he ho
  clear L₀
  simp only [List.reverse_cons, List.reverse_nil, List.nil_append, List.cons_append]
  (refine S_last ?_; refine S_return ?_; refine E_cmp ?_; refine E_meth ?_; dsimp only; (refine' E_name ?hv28 ?_; (case hv28 => exact rfl)); refine' M_fn ?hi29 ?a29 ?b29 ?c29 ?d29 ?e29 ?_; (case hi29 => exact .inl rfl); (case a29 => (try dsimp only); k_is); (case b29 => (try dsimp only); k_is); (case c29 => (try dsimp only); k_is); (case d29 => (try dsimp only); k_is); (case e29 => decide); refine Args_plain ?_; refine A_nil ?_; refine WC.of (id_c (by with_reducible assumption) (by exact Gd.le (by with_reducible assumption) rfl)  ?_); refine E_meth ?_; dsimp only; (refine' E_name ?hv30 ?_; (case hv30 => exact rfl)); refine' M_fn ?hi31 ?a31 ?b31 ?c31 ?d31 ?e31 ?_; (case hi31 => exact .inl rfl); (case a31 => (try dsimp only); k_is); (case b31 => (try dsimp only); k_is); (case c31 => (try dsimp only); k_is); (case d31 => (try dsimp only); k_is); (case e31 => decide); refine Args_plain ?_; refine A_nil ?_; refine WC.of (id_c (by with_reducible assumption) (by exact Gd.le (by with_reducible assumption) rfl)  ?_); refine O_lt ?_; dsimp only)
  exact h
theorem eq_c {c : Cx} {Q : AV → AX → Prop} {X : AX} {c₀ e₀ : Cel} (L : Lw c) (G : Gd c.A 2)  (h : Q (.bool (decide (c₀.id = e₀.id))) X) : WF c (.ref 85) [.cell c₀.id, .cell e₀.id] [] Q X := by
  (have _ : PySem.Challenge.rw_lp0003_08 = PySem.Challenge.rw_lp0003_08 → ∀ w : World, (hd8.heap_1 w.params).In default → True := by (k_fill; intros; trivial))
  have L₀ := L
  obtain ⟨P, w, K, g, A, env, own, E, fx⟩ := c
  obtain ⟨hP, hK, hC, hN⟩ := L
  dsimp only at hP hK hC hN G
  subst hP hK
  refine' WF.go (M := [((Str.ofString "self"), .cell c₀.id), ((Str.ofString "other"), .cell e₀.id)]) G ?k1 ?k2 ?k3 ?k4 ?k5 ?k6 ?k7 ?k8 ?_
  case k1 => ((try dsimp only); k_is)
  case k2 => ((try dsimp only); k_is)
  case k3 => exact bind2 fun s v u X => .of_eq rfl
  case k4 => rfl
  case k5 => decide
  case k6 => rfl
  case k7 => rfl
  case k8 => rfl
  intro F c' kn he ho ok G'
  have L' := L₀.kin kn
  obtain ⟨P', w', K', g', A', env', own', E', fx'⟩ := c'
  obtain ⟨f1, f2, f3, f4, f5⟩ := kn
  dsimp only at f1 f2 f3 f4 f5 he ho G'
  subst f1 f2 f3 f4 f5 he ho
  clear L₀
  simp only [List.reverse_cons, List.reverse_nil, List.nil_append, List.cons_append]
  (refine S_last ?_; refine S_return ?_; refine E_and ?_; refine E_call ?_; dsimp only; (refine' E_builtin (v := .builtin ?id32) ?hk32 ?e32 ?hv32 ?hn32 ?_; (case hk32 => exact rfl); (case e32 => (try dsimp only); k_is); (case hv32 => exact rfl); (case hn32 => decide)); dsimp only; refine C_raw keeper_builtin ?_; refine Args_plain ?_; refine A_cons ?_; (refine' E_name ?hv33 ?_; (case hv33 => exact rfl)); refine A_cons ?_; refine E_attr ?_; (refine' E_name ?hv34 ?_; (case hv34 => exact rfl)); refine' G_class ?hi35 ?a35 ?b35 ?c35 ?d35 ?e35 ?f35 ?_; (case hi35 => exact .inl rfl); (case a35 => (try dsimp only); k_is); (case b35 => (try dsimp only); k_is); (case c35 => (try dsimp only); k_is); (case d35 => (try dsimp only); k_is); (case e35 => (try dsimp only); k_is); (case f35 => (try dsimp only); k_is); skip; refine A_nil ?_; refine' B_isi ?hi36 ?a36 ?_; (case hi36 => exact .inl rfl); (case a36 => (try dsimp only); k_is); refine Tr_bool ?_; dsimp only; rw [if_pos rfl]; refine E_cmp ?_; refine E_meth ?_; dsimp only; (refine' E_name ?hv37 ?_; (case hv37 => exact rfl)); refine' M_fn ?hi38 ?a38 ?b38 ?c38 ?d38 ?e38 ?_; (case hi38 => exact .inl rfl); (case a38 => (try dsimp only); k_is); (case b38 => (try dsimp only); k_is); (case c38 => (try dsimp only); k_is); (case d38 => (try dsimp only); k_is); (case e38 => decide); refine Args_plain ?_; refine A_nil ?_; refine WC.of (id_c (by with_reducible assumption) (by exact Gd.le (by with_reducible assumption) rfl)  ?_); refine E_meth ?_; dsimp only; (refine' E_name ?hv39 ?_; (case hv39 => exact rfl)); refine' M_fn ?hi40 ?a40 ?b40 ?c40 ?d40 ?e40 ?_; (case hi40 => exact .inl rfl); (case a40 => (try dsimp only); k_is); (case b40 => (try dsimp only); k_is); (case c40 => (try dsimp only); k_is); (case d40 => (try dsimp only); k_is); (case e40 => decide); refine Args_plain ?_; refine A_nil ?_; refine WC.of (id_c (by with_reducible assumption) (by exact Gd.le (by with_reducible assumption) rfl)  ?_); refine O_eq ?_; dsimp only)
  exact h
theorem ne_c {c : Cx} {Q : AV → AX → Prop} {X : AX} {c₀ e₀ : Cel} (L : Lw c) (G : Gd c.A 3)  (h : Q (.bool (!decide (c₀.id = e₀.id))) X) : WF c (.ref 92) [.cell c₀.id, .cell e₀.id] [] Q X := by
  (have _ : PySem.Challenge.rw_lp0003_08 = PySem.Challenge.rw_lp0003_08 → ∀ w : World, (hd8.heap_1 w.params).In default → True := by (k_fill; intros; trivial))
  have L₀ := L
  obtain ⟨P, w, K, g, A, env, own, E, fx⟩ := c
  obtain ⟨hP, hK, hC, hN⟩ := L
  dsimp only at hP hK hC hN G
  subst hP hK
  refine' WF.go (M := [((Str.ofString "self"), .cell c₀.id), ((Str.ofString "other"), .cell e₀.id)]) G ?k1 ?k2 ?k3 ?k4 ?k5 ?k6 ?k7 ?k8 ?_
  case k1 => ((try dsimp only); k_is)
  case k2 => ((try dsimp only); k_is)
  case k3 => exact bind2 fun s v u X => .of_eq rfl
  case k4 => rfl
  case k5 => decide
  case k6 => rfl
  case k7 => rfl
  case k8 => rfl
  intro F c' kn he ho ok G'
  have L' := L₀.kin kn
  obtain ⟨P', w', K', g', A', env', own', E', fx'⟩ := c'
  obtain ⟨f1, f2, f3, f4, f5⟩ := kn
  dsimp only at f1 f2 f3 f4 f5 he ho G'
  subst f1 f2 f3 f4 f5 he ho
  clear L₀
  simp only [List.reverse_cons, List.reverse_nil, List.nil_append, List.cons_append]
  (refine S_last ?_; refine S_return ?_; refine E_un ?_; refine E_meth ?_; dsimp only; (refine' E_name ?hv41 ?_; (case hv41 => exact rfl)); refine' M_fn ?hi42 ?a42 ?b42 ?c42 ?d42 ?e42 ?_; (case hi42 => exact .inl rfl); (case a42 => (try dsimp only); k_is); (case b42 => (try dsimp only); k_is); (case c42 => (try dsimp only); k_is); (case d42 => (try dsimp only); k_is); (case e42 => decide); refine Args_plain ?_; refine A_cons ?_; (refine' E_name ?hv43 ?_; (case hv43 => exact rfl)); refine A_nil ?_; refine WC.of (eq_c (by with_reducible assumption) (by exact Gd.le (by with_reducible assumption) rfl)  ?_); refine O_not ?_; refine Tr_bool ?_; dsimp only)
  exact h
theorem le_c {c : Cx} {Q : AV → AX → Prop} {X : AX} {c₀ e₀ : Cel} (L : Lw c) (G : Gd c.A 3)  (h : Q (.bool (decide (c₀.id ≤ e₀.id))) X) : WF c (.ref 106) [.cell c₀.id, .cell e₀.id] [] Q X := by
  (have _ : PySem.Challenge.rw_lp0003_08 = PySem.Challenge.rw_lp0003_08 → ∀ w : World, (hd8.heap_1 w.params).In default → True := by (k_fill; intros; trivial))
  have L₀ := L
  obtain ⟨P, w, K, g, A, env, own, E, fx⟩ := c
  obtain ⟨hP, hK, hC, hN⟩ := L
  dsimp only at hP hK hC hN G
  subst hP hK
  refine' WF.go (M := [((Str.ofString "self"), .cell c₀.id), ((Str.ofString "other"), .cell e₀.id)]) G ?k1 ?k2 ?k3 ?k4 ?k5 ?k6 ?k7 ?k8 ?_
  case k1 => ((try dsimp only); k_is)
  case k2 => ((try dsimp only); k_is)
  case k3 => exact bind2 fun s v u X => .of_eq rfl
  case k4 => rfl
  case k5 => decide
  case k6 => rfl
  case k7 => rfl
  case k8 => rfl
  intro F c' kn he ho ok G'
  have L' := L₀.kin kn
  obtain ⟨P', w', K', g', A', env', own', E', fx'⟩ := c'
  obtain ⟨f1, f2, f3, f4, f5⟩ := kn
  dsimp only at f1 f2 f3 f4 f5 he ho G'
  subst f1 f2 f3 f4 f5 he ho
  clear L₀
  simp only [List.reverse_cons, List.reverse_nil, List.nil_append, List.cons_append]
  (refine S_last ?_; refine S_return ?_; refine E_or ?_; refine E_cmp ?_; (refine' E_name ?hv44 ?_; (case hv44 => exact rfl)); (refine' E_name ?hv45 ?_; (case hv45 => exact rfl)); refine' O_cmp ?hi46 ?hj46 ?a46 ?b46 ?d46 (fun _ _ => rfl) ?_; (case hi46 => exact .inl rfl); (case hj46 => exact .inl rfl); (case a46 => (try dsimp only); k_is); (case b46 => (try dsimp only); k_is); (case d46 => (try dsimp only); k_is); refine lt_c (by with_reducible assumption) (by exact Gd.le (by with_reducible assumption) rfl) ⟨_, rfl, ?_⟩; refine Tr_bool ?_; dsimp only)
  ((split <;> rename_i hq); all_goals (try simp only [decide_eq_true_eq, Bool.not_eq_true', decide_eq_false_iff_not, Bool.not_eq_true, Bool.not_eq_false', Bool.not_eq_false] at hq))
  · exact retB h (bool_eq (by lia))
  · (refine E_cmp ?_; (refine' E_name ?hv47 ?_; (case hv47 => exact rfl)); (refine' E_name ?hv48 ?_; (case hv48 => exact rfl)); refine' O_cmp ?hi49 ?hj49 ?a49 ?b49 ?d49 (fun _ _ => rfl) ?_; (case hi49 => exact .inl rfl); (case hj49 => exact .inl rfl); (case a49 => (try dsimp only); k_is); (case b49 => (try dsimp only); k_is); (case d49 => (try dsimp only); k_is); refine eq_c (by with_reducible assumption) (by exact Gd.le (by with_reducible assumption) rfl) ⟨_, rfl, ?_⟩; dsimp only)
    exact retB h (bool_eq (by lia))
theorem ge_c {c : Cx} {Q : AV → AX → Prop} {X : AX} {c₀ e₀ : Cel} (L : Lw c) (G : Gd c.A 3)  (h : Q (.bool (decide (e₀.id ≤ c₀.id))) X) : WF c (.ref 120) [.cell c₀.id, .cell e₀.id] [] Q X := by
  (have _ : PySem.Challenge.rw_lp0003_08 = PySem.Challenge.rw_lp0003_08 → ∀ w : World, (hd8.heap_1 w.params).In default → True := by (k_fill; intros; trivial))
  have L₀ := L
  obtain ⟨P, w, K, g, A, env, own, E, fx⟩ := c
  obtain ⟨hP, hK, hC, hN⟩ := L
  dsimp only at hP hK hC hN G
  subst hP hK
  refine' WF.go (M := [((Str.ofString "self"), .cell c₀.id), ((Str.ofString "other"), .cell e₀.id)]) G ?k1 ?k2 ?k3 ?k4 ?k5 ?k6 ?k7 ?k8 ?_
  case k1 => ((try dsimp only); k_is)
  case k2 => ((try dsimp only); k_is)
  case k3 => exact bind2 fun s v u X => .of_eq rfl
  case k4 => rfl
  case k5 => decide
  case k6 => rfl
  case k7 => rfl
  case k8 => rfl
  intro F c' kn he ho ok G'
  have L' := L₀.kin kn
  obtain ⟨P', w', K', g', A', env', own', E', fx'⟩ := c'
  obtain ⟨f1, f2, f3, f4, f5⟩ := kn
  dsimp only at f1 f2 f3 f4 f5 he ho G'
  subst f1 f2 f3 f4 f5 he ho
  clear L₀
  simp only [List.reverse_cons, List.reverse_nil, List.nil_append, List.cons_append]
  (refine S_last ?_; refine S_return ?_; refine E_un ?_; refine E_cmp ?_; (refine' E_name ?hv50 ?_; (case hv50 => exact rfl)); (refine' E_name ?hv51 ?_; (case hv51 => exact rfl)); refine' O_cmp ?hi52 ?hj52 ?a52 ?b52 ?d52 (fun _ _ => rfl) ?_; (case hi52 => exact .inl rfl); (case hj52 => exact .inl rfl); (case a52 => (try dsimp only); k_is); (case b52 => (try dsimp only); k_is); (case d52 => (try dsimp only); k_is); refine lt_c (by with_reducible assumption) (by exact Gd.le (by with_reducible assumption) rfl) ⟨_, rfl, ?_⟩; refine O_not ?_; refine Tr_bool ?_; dsimp only)
  exact retB h (by rw [Bool.eq_iff_iff]; simp only [decide_eq_true_eq, Bool.not_eq_true', decide_eq_false_iff_not]; lia)
theorem init_c {c : Cx} {Q : AV → AX → Prop} {X : AX} {n : Int} {a dd : Addr} {σ' : List (Addr × MO)} (L : Lw c) (G : Gd c.A 1) (U : SUpd a (.inst 453 dd [] []) (.inst 453 dd [Str.ofString "_CellId__id"] [.int (n.fmod 18446744073709551615)]) X.σ σ') (h : Q .none ⟨σ', X.m⟩) : WF c (.ref 64) [.raw (.ref a), .int n] [] Q X := by
  (have _ : PySem.Challenge.rw_lp0003_08 = PySem.Challenge.rw_lp0003_08 → ∀ w : World, (hd8.heap_1 w.params).In default → True := by (k_fill; intros; trivial))
  have L₀ := L
  obtain ⟨P, w, K, g, A, env, own, E, fx⟩ := c
  obtain ⟨hP, hK, hC, hN⟩ := L
  dsimp only at hP hK hC hN G
  subst hP hK
  refine' WF.go (M := [((Str.ofString "self"), .raw (.ref a)), ((Str.ofString "id_"), .int n)]) G ?k1 ?k2 ?k3 ?k4 ?k5 ?k6 ?k7 ?k8 ?_
  case k1 => ((try dsimp only); k_is)
  case k2 => ((try dsimp only); k_is)
  case k3 => exact bind2 fun s v u X => binds_K X rfl (by ((try dsimp only); k_is)) rfl rfl rfl
  case k4 => rfl
  case k5 => decide
  case k6 => rfl
  case k7 => rfl
  case k8 => rfl
  intro F c' kn he ho ok G'
  have L' := L₀.kin kn
  obtain ⟨P', w', K', g', A', env', own', E', fx'⟩ := c'
  obtain ⟨f1, f2, f3, f4, f5⟩ := kn
  dsimp only at f1 f2 f3 f4 f5 he ho G'
  subst f1 f2 f3 f4 f5 he ho
  clear L₀
  simp only [List.reverse_cons, List.reverse_nil, List.nil_append, List.cons_append]
  (refine S_last ?_; refine S_assignT ?_; refine E_bin ?_; (refine' E_name ?hv59 ?_; (case hv59 => exact rfl)); refine E_int ?_; refine O_mod (by decide) ?_; refine A_attr ?_; dsimp only; (refine' E_name ?hv60 ?_; (case hv60 => exact rfl)); dsimp only)
  exact ⟨a, 453, dd, [], [], σ', rfl, U, by decide, by ((try dsimp only); k_is), by ((try dsimp only); k_is), by ((try dsimp only); k_is), by ((try dsimp only); k_is), h⟩
theorem new_c {c : Cx} {Q : AV → AX → Prop} {X : AX} {n : Int} (L : Lw c) (G : Gd c.A 2) (h : Q (.cell (n.fmod 18446744073709551615)) X) : WF c (.ref 453) [.int n] [] Q X := by
  (have _ : PySem.Challenge.rw_lp0003_08 = PySem.Challenge.rw_lp0003_08 → ∀ w : World, (hd8.heap_1 w.params).In default → True := by (k_fill; intros; trivial))
  have L₀ := L
  obtain ⟨P, w, K, g, A, env, own, E, fx⟩ := c
  obtain ⟨hP, hK, hC, hN⟩ := L
  dsimp only at hP hK hC hN G
  subst hP hK
  refine' WF.conv (WF.new ?k1 ?k2 ?k3 G ?_)
  case k1 => ((try dsimp only); k_is)
  case k2 => ((try dsimp only); k_is)
  case k3 => ((try dsimp only); k_is)
  intro a dd c' kn he ho ok G'
  exact init_c (L₀.kin kn) (G'.le rfl) .head ⟨rfl, _, _, ConvV.freeze (m' := X.m) .head rfl .here (fun x V e => ⟨V, e, .same V⟩), h⟩
theorem newK {c : Cx} {Q : AV → AX → Prop} {X : AX} {n : Int} (e₀ : Cel) (L : Lw c) (G : Gd c.A 2) (ho : e₀.ok) (e : n = e₀.id) (h : Q (.cell e₀.id) X) : WF c (.ref 453) [.int n] [] Q X :=
  new_c L G (by rw [e, Cel.fmod ho]; exact h)
theorem rmin_c {c : Cx} {Q : AV → AX → Prop} {X : AX} {c₀ : Cel} (L : Lw c) (G : Gd c.A 3) (hv : c₀.ok) (h : Q (.cell c₀.first.id) X) : WF c (.ref 306) [.cell c₀.id] [] Q X := by
  (have _ : PySem.Challenge.rw_lp0003_08 = PySem.Challenge.rw_lp0003_08 → ∀ w : World, (hd8.heap_1 w.params).In default → True := by (k_fill; intros; trivial))
  have L₀ := L
  obtain ⟨P, w, K, g, A, env, own, E, fx⟩ := c
  obtain ⟨hP, hK, hC, hN⟩ := L
  dsimp only at hP hK hC hN G
  subst hP hK
  refine' WF.go (M := [((Str.ofString "self"), .cell c₀.id)]) G ?k1 ?k2 ?k3 ?k4 ?k5 ?k6 ?k7 ?k8 ?_
  case k1 => ((try dsimp only); k_is)
  case k2 => ((try dsimp only); k_is)
  case k3 => exact bind1 fun s v X => .of_eq rfl
  case k4 => rfl
  case k5 => decide
  case k6 => rfl
  case k7 => rfl
  case k8 => rfl
  intro F c' kn he ho ok G'
  have L' := L₀.kin kn
  obtain ⟨P', w', K', g', A', env', own', E', fx'⟩ := c'
  obtain ⟨f1, f2, f3, f4, f5⟩ := kn
  dsimp only at f1 f2 f3 f4 f5 he ho G'
  subst f1 f2 f3 f4 f5 he ho
  clear L₀
  simp only [List.reverse_cons, List.reverse_nil, List.nil_append, List.cons_append]
  (refine S_last ?_; refine S_return ?_; refine E_meth ?_; dsimp only; (refine' E_name ?hv61 ?_; (case hv61 => exact rfl)); refine' M_class ?hi62 ?a62 ?b62 ?c62 ?d62 ?e62 ?f62 ?g62 ?i62 ?_; (case hi62 => exact .inl rfl); (case a62 => (try dsimp only); k_is); (case b62 => (try dsimp only); k_is); (case c62 => (try dsimp only); k_is); (case d62 => (try dsimp only); k_is); (case e62 => (try dsimp only); k_is); (case f62 => (try dsimp only); k_is); (case g62 => (try dsimp only); k_is); (case i62 => (try dsimp only); k_is); skip; refine Args_plain ?_; refine A_cons ?_; refine E_bin ?_; refine E_meth ?_; dsimp only; (refine' E_name ?hv63 ?_; (case hv63 => exact rfl)); refine' M_fn ?hi64 ?a64 ?b64 ?c64 ?d64 ?e64 ?_; (case hi64 => exact .inl rfl); (case a64 => (try dsimp only); k_is); (case b64 => (try dsimp only); k_is); (case c64 => (try dsimp only); k_is); (case d64 => (try dsimp only); k_is); (case e64 => decide); refine Args_plain ?_; refine A_nil ?_; refine WC.of (id_c (by with_reducible assumption) (by exact Gd.le (by with_reducible assumption) rfl)  ?_); refine E_bin ?_; refine E_meth ?_; dsimp only; (refine' E_name ?hv65 ?_; (case hv65 => exact rfl)); refine' M_fn ?hi66 ?a66 ?b66 ?c66 ?d66 ?e66 ?_; (case hi66 => exact .inl rfl); (case a66 => (try dsimp only); k_is); (case b66 => (try dsimp only); k_is); (case c66 => (try dsimp only); k_is); (case d66 => (try dsimp only); k_is); (case e66 => decide); refine Args_plain ?_; refine A_nil ?_; refine WC.of (lsb_c (by with_reducible assumption) (by exact Gd.le (by with_reducible assumption) rfl)  ?_); refine E_int ?_; refine O_sub ?_; refine O_sub ?_; refine A_nil ?_)
  exact WC.of (newK c₀.first (by (with_reducible assumption)) (by (exact Gd.le (by with_reducible assumption) rfl)) (Cel.first_ok hv) c₀.first_id h)
theorem rmax_c {c : Cx} {Q : AV → AX → Prop} {X : AX} {c₀ : Cel} (L : Lw c) (G : Gd c.A 3) (hv : c₀.ok) (h : Q (.cell c₀.last.id) X) : WF c (.ref 313) [.cell c₀.id] [] Q X := by
  (have _ : PySem.Challenge.rw_lp0003_08 = PySem.Challenge.rw_lp0003_08 → ∀ w : World, (hd8.heap_1 w.params).In default → True := by (k_fill; intros; trivial))
  have L₀ := L
  obtain ⟨P, w, K, g, A, env, own, E, fx⟩ := c
  obtain ⟨hP, hK, hC, hN⟩ := L
  dsimp only at hP hK hC hN G
  subst hP hK
  refine' WF.go (M := [((Str.ofString "self"), .cell c₀.id)]) G ?k1 ?k2 ?k3 ?k4 ?k5 ?k6 ?k7 ?k8 ?_
  case k1 => ((try dsimp only); k_is)
  case k2 => ((try dsimp only); k_is)
  case k3 => exact bind1 fun s v X => .of_eq rfl
  case k4 => rfl
  case k5 => decide
  case k6 => rfl
  case k7 => rfl
  case k8 => rfl
  intro F c' kn he ho ok G'
  have L' := L₀.kin kn
  obtain ⟨P', w', K', g', A', env', own', E', fx'⟩ := c'
  obtain ⟨f1, f2, f3, f4, f5⟩ := kn
  dsimp only at f1 f2 f3 f4 f5 he ho G'
  subst f1 f2 f3 f4 f5 he ho
  clear L₀
  simp only [List.reverse_cons, List.reverse_nil, List.nil_append, List.cons_append]
  (refine S_last ?_; refine S_return ?_; refine E_meth ?_; dsimp only; (refine' E_name ?hv67 ?_; (case hv67 => exact rfl)); refine' M_class ?hi68 ?a68 ?b68 ?c68 ?d68 ?e68 ?f68 ?g68 ?i68 ?_; (case hi68 => exact .inl rfl); (case a68 => (try dsimp only); k_is); (case b68 => (try dsimp only); k_is); (case c68 => (try dsimp only); k_is); (case d68 => (try dsimp only); k_is); (case e68 => (try dsimp only); k_is); (case f68 => (try dsimp only); k_is); (case g68 => (try dsimp only); k_is); (case i68 => (try dsimp only); k_is); skip; refine Args_plain ?_; refine A_cons ?_; refine E_bin ?_; refine E_meth ?_; dsimp only; (refine' E_name ?hv69 ?_; (case hv69 => exact rfl)); refine' M_fn ?hi70 ?a70 ?b70 ?c70 ?d70 ?e70 ?_; (case hi70 => exact .inl rfl); (case a70 => (try dsimp only); k_is); (case b70 => (try dsimp only); k_is); (case c70 => (try dsimp only); k_is); (case d70 => (try dsimp only); k_is); (case e70 => decide); refine Args_plain ?_; refine A_nil ?_; refine WC.of (id_c (by with_reducible assumption) (by exact Gd.le (by with_reducible assumption) rfl)  ?_); refine E_bin ?_; refine E_meth ?_; dsimp only; (refine' E_name ?hv71 ?_; (case hv71 => exact rfl)); refine' M_fn ?hi72 ?a72 ?b72 ?c72 ?d72 ?e72 ?_; (case hi72 => exact .inl rfl); (case a72 => (try dsimp only); k_is); (case b72 => (try dsimp only); k_is); (case c72 => (try dsimp only); k_is); (case d72 => (try dsimp only); k_is); (case e72 => decide); refine Args_plain ?_; refine A_nil ?_; refine WC.of (lsb_c (by with_reducible assumption) (by exact Gd.le (by with_reducible assumption) rfl)  ?_); refine E_int ?_; refine O_sub ?_; refine O_add ?_; refine A_nil ?_)
  exact WC.of (newK c₀.last (by (with_reducible assumption)) (by (exact Gd.le (by with_reducible assumption) rfl)) (Cel.last_ok hv) c₀.last_id h)
theorem contains_c {c : Cx} {Q : AV → AX → Prop} {X : AX} {c₀ e₀ : Cel} (L : Lw c) (G : Gd c.A 5) (hv : c₀.ok) (hw : e₀.ok) (h : Q (.bool (decide (c₀.first.id ≤ e₀.id ∧ e₀.id ≤ c₀.last.id))) X) : WF c (.ref 201) [.cell c₀.id, .cell e₀.id] [] Q X := by
  (have _ : PySem.Challenge.rw_lp0003_08 = PySem.Challenge.rw_lp0003_08 → ∀ w : World, (hd8.heap_1 w.params).In default → True := by (k_fill; intros; trivial))
  have L₀ := L
  obtain ⟨P, w, K, g, A, env, own, E, fx⟩ := c
  obtain ⟨hP, hK, hC, hN⟩ := L
  dsimp only at hP hK hC hN G
  subst hP hK
  refine' WF.go (M := [((Str.ofString "self"), .cell c₀.id), ((Str.ofString "other"), .cell e₀.id)]) G ?k1 ?k2 ?k3 ?k4 ?k5 ?k6 ?k7 ?k8 ?_
  case k1 => ((try dsimp only); k_is)
  case k2 => ((try dsimp only); k_is)
  case k3 => exact bind2 fun s v u X => .of_eq rfl
  case k4 => rfl
  case k5 => decide
  case k6 => rfl
  case k7 => rfl
  case k8 => rfl
  intro F c' kn he ho ok G'
  have L' := L₀.kin kn
  obtain ⟨P', w', K', g', A', env', own', E', fx'⟩ := c'
  obtain ⟨f1, f2, f3, f4, f5⟩ := kn
  dsimp only at f1 f2 f3 f4 f5 he ho G'
  subst f1 f2 f3 f4 f5 he ho
  clear L₀
  simp only [List.reverse_cons, List.reverse_nil, List.nil_append, List.cons_append]
  (refine S_cons ?_; refine S_assert ?_; refine T_val ?_; refine E_meth ?_; dsimp only; (refine' E_name ?hv73 ?_; (case hv73 => exact rfl)); refine' M_fn ?hi74 ?a74 ?b74 ?c74 ?d74 ?e74 ?_; (case hi74 => exact .inl rfl); (case a74 => (try dsimp only); k_is); (case b74 => (try dsimp only); k_is); (case c74 => (try dsimp only); k_is); (case d74 => (try dsimp only); k_is); (case e74 => decide); refine Args_plain ?_; refine A_nil ?_; refine WC.of (is_valid_c (by with_reducible assumption) (by exact Gd.le (by with_reducible assumption) rfl) (by with_reducible assumption) ?_); refine Tr_bool ?_; refine And.intro rfl ?_; refine Then_next ?_; refine S_cons ?_; refine S_assert ?_; refine T_val ?_; refine E_meth ?_; dsimp only; (refine' E_name ?hv75 ?_; (case hv75 => exact rfl)); refine' M_fn ?hi76 ?a76 ?b76 ?c76 ?d76 ?e76 ?_; (case hi76 => exact .inl rfl); (case a76 => (try dsimp only); k_is); (case b76 => (try dsimp only); k_is); (case c76 => (try dsimp only); k_is); (case d76 => (try dsimp only); k_is); (case e76 => decide); refine Args_plain ?_; refine A_nil ?_; refine WC.of (is_valid_c (by with_reducible assumption) (by exact Gd.le (by with_reducible assumption) rfl) (by with_reducible assumption) ?_); refine Tr_bool ?_; refine And.intro rfl ?_; refine Then_next ?_; refine S_last ?_; refine S_return ?_; refine E_and ?_; refine E_cmp ?_; (refine' E_name ?hv77 ?_; (case hv77 => exact rfl)); refine E_meth ?_; dsimp only; (refine' E_name ?hv78 ?_; (case hv78 => exact rfl)); refine' M_fn ?hi79 ?a79 ?b79 ?c79 ?d79 ?e79 ?_; (case hi79 => exact .inl rfl); (case a79 => (try dsimp only); k_is); (case b79 => (try dsimp only); k_is); (case c79 => (try dsimp only); k_is); (case d79 => (try dsimp only); k_is); (case e79 => decide); refine Args_plain ?_; refine A_nil ?_; refine WC.of (rmin_c (by with_reducible assumption) (by exact Gd.le (by with_reducible assumption) rfl) (by with_reducible assumption) ?_); refine' O_cmp ?hi80 ?hj80 ?a80 ?b80 ?d80 (fun _ _ => rfl) ?_; (case hi80 => exact .inl rfl); (case hj80 => exact .inl rfl); (case a80 => (try dsimp only); k_is); (case b80 => (try dsimp only); k_is); (case d80 => (try dsimp only); k_is); refine ge_c (by with_reducible assumption) (by exact Gd.le (by with_reducible assumption) rfl) ⟨_, rfl, ?_⟩; refine Tr_bool ?_; dsimp only)
  ((split <;> rename_i hq); all_goals (try simp only [decide_eq_true_eq, Bool.not_eq_true', decide_eq_false_iff_not, Bool.not_eq_true, Bool.not_eq_false', Bool.not_eq_false] at hq))
  · (refine E_cmp ?_; (refine' E_name ?hv81 ?_; (case hv81 => exact rfl)); refine E_meth ?_; dsimp only; (refine' E_name ?hv82 ?_; (case hv82 => exact rfl)); refine' M_fn ?hi83 ?a83 ?b83 ?c83 ?d83 ?e83 ?_; (case hi83 => exact .inl rfl); (case a83 => (try dsimp only); k_is); (case b83 => (try dsimp only); k_is); (case c83 => (try dsimp only); k_is); (case d83 => (try dsimp only); k_is); (case e83 => decide); refine Args_plain ?_; refine A_nil ?_; refine WC.of (rmax_c (by with_reducible assumption) (by exact Gd.le (by with_reducible assumption) rfl) (by with_reducible assumption) ?_); refine' O_cmp ?hi84 ?hj84 ?a84 ?b84 ?d84 (fun _ _ => rfl) ?_; (case hi84 => exact .inl rfl); (case hj84 => exact .inl rfl); (case a84 => (try dsimp only); k_is); (case b84 => (try dsimp only); k_is); (case d84 => (try dsimp only); k_is); refine le_c (by with_reducible assumption) (by exact Gd.le (by with_reducible assumption) rfl) ⟨_, rfl, ?_⟩; dsimp only)
    exact retB h (bool_eq (by lia))
  · exact retB h (bool_eq (by lia))
theorem pow_fit {u : Nat} (h : u ≤ 30) : (((4 ^ u : Nat) : Int)).natAbs < 2 ^ 64 := by
  rw [Int.natAbs_natCast]
  exact Nat.lt_of_le_of_lt (Nat.pow_le_pow_right (by decide) h) (by decide)
theorem parent_c {c : Cx} {Q : AV → AX → Prop} {X : AX} {c₀ : Cel} (L : Lw c) (G : Gd c.A 4) (hv : c₀.ok) (hu : c₀.u ≠ 30) (h : Q (.cell c₀.par.id) X) : WF c (.ref 187) [.cell c₀.id] [] Q X := by
  (have _ : PySem.Challenge.rw_lp0003_08 = PySem.Challenge.rw_lp0003_08 → ∀ w : World, (hd8.heap_1 w.params).In default → True := by (k_fill; intros; trivial))
  have L₀ := L
  obtain ⟨P, w, K, g, A, env, own, E, fx⟩ := c
  obtain ⟨hP, hK, hC, hN⟩ := L
  dsimp only at hP hK hC hN G
  subst hP hK
  refine' WF.go (M := [((Str.ofString "self"), .cell c₀.id), ((Str.ofString "args"), .tup [])]) G ?k1 ?k2 ?k3 ?k4 ?k5 ?k6 ?k7 ?k8 ?_
  case k1 => ((try dsimp only); k_is)
  case k2 => ((try dsimp only); k_is)
  case k3 => exact bindS0 fun v => ⟨_, rfl, fun _ => rfl⟩
  case k4 => rfl
  case k5 => decide
  case k6 => rfl
  case k7 => rfl
  case k8 => rfl
  intro F c' kn he ho ok G'
  have L' := L₀.kin kn
  obtain ⟨P', w', K', g', A', env', own', E', fx'⟩ := c'
  obtain ⟨f1, f2, f3, f4, f5⟩ := kn
  dsimp only at f1 f2 f3 f4 f5 he ho G'
  subst f1 f2 f3 f4 f5 he ho
  clear L₀
  simp only [List.reverse_cons, List.reverse_nil, List.nil_append, List.cons_append]
  have hf := pow_fit hv.1
  (refine S_cons ?_; refine S_assert ?_; refine T_val ?_; refine E_meth ?_; dsimp only; (refine' E_name ?hv85 ?_; (case hv85 => exact rfl)); refine' M_fn ?hi86 ?a86 ?b86 ?c86 ?d86 ?e86 ?_; (case hi86 => exact .inl rfl); (case a86 => (try dsimp only); k_is); (case b86 => (try dsimp only); k_is); (case c86 => (try dsimp only); k_is); (case d86 => (try dsimp only); k_is); (case e86 => decide); refine Args_plain ?_; refine A_nil ?_; refine WC.of (is_valid_c (by with_reducible assumption) (by exact Gd.le (by with_reducible assumption) rfl) (by with_reducible assumption) ?_); refine Tr_bool ?_; refine And.intro rfl ?_; refine Then_next ?_; refine S_last ?_; refine S_if ?_; refine T_cmp ?_; refine E_call ?_; dsimp only; (refine' E_builtin (v := .builtin ?id87) ?hk87 ?e87 ?hv87 ?hn87 ?_; (case hk87 => exact rfl); (case e87 => (try dsimp only); k_is); (case hv87 => exact rfl); (case hn87 => decide)); dsimp only; refine C_raw keeper_builtin ?_; refine Args_plain ?_; refine A_cons ?_; (refine' E_name ?hv88 ?_; (case hv88 => exact rfl)); refine A_nil ?_; refine B_len_tup (by decide) ?_; refine E_int ?_; refine O_eq ?_; refine Tr_bool ?_; rw [if_pos (by decide)]; refine S_cons ?_; refine S_assert ?_; refine T_not ?_; refine T_val ?_; refine E_meth ?_; dsimp only; (refine' E_name ?hv89 ?_; (case hv89 => exact rfl)); refine' M_fn ?hi90 ?a90 ?b90 ?c90 ?d90 ?e90 ?_; (case hi90 => exact .inl rfl); (case a90 => (try dsimp only); k_is); (case b90 => (try dsimp only); k_is); (case c90 => (try dsimp only); k_is); (case d90 => (try dsimp only); k_is); (case e90 => decide); refine Args_plain ?_; refine A_nil ?_; refine WC.of (is_face_c (by with_reducible assumption) (by exact Gd.le (by with_reducible assumption) rfl) (by with_reducible assumption) ?_); refine Tr_bool ?_)
  refine ⟨by simp [hu], ?_⟩
  (refine Then_next ?_; refine S_cons ?_; refine S_assign (by exact .inl ⟨rfl, .head _⟩) ?_; refine E_bin ?_; refine E_meth ?_; dsimp only; (refine' E_name ?hv91 ?_; (case hv91 => exact rfl)); refine' M_fn ?hi92 ?a92 ?b92 ?c92 ?d92 ?e92 ?_; (case hi92 => exact .inl rfl); (case a92 => (try dsimp only); k_is); (case b92 => (try dsimp only); k_is); (case c92 => (try dsimp only); k_is); (case d92 => (try dsimp only); k_is); (case e92 => decide); refine Args_plain ?_; refine A_nil ?_; refine WC.of (lsb_c (by with_reducible assumption) (by exact Gd.le (by with_reducible assumption) rfl)  ?_); refine E_int ?_; refine O_shl (by decide) (by decide) (by with_reducible assumption) ?_; dsimp only; refine Then_next ?_; refine S_last ?_; refine S_return ?_; refine E_meth ?_; dsimp only; (refine' E_name ?hv93 ?_; (case hv93 => exact rfl)); refine' M_class ?hi94 ?a94 ?b94 ?c94 ?d94 ?e94 ?f94 ?g94 ?i94 ?_; (case hi94 => exact .inl rfl); (case a94 => (try dsimp only); k_is); (case b94 => (try dsimp only); k_is); (case c94 => (try dsimp only); k_is); (case d94 => (try dsimp only); k_is); (case e94 => (try dsimp only); k_is); (case f94 => (try dsimp only); k_is); (case g94 => (try dsimp only); k_is); (case i94 => (try dsimp only); k_is); skip; refine Args_plain ?_; refine A_cons ?_; refine E_bin ?_; refine E_bin ?_; refine E_meth ?_; dsimp only; (refine' E_name ?hv95 ?_; (case hv95 => exact rfl)); refine' M_fn ?hi96 ?a96 ?b96 ?c96 ?d96 ?e96 ?_; (case hi96 => exact .inl rfl); (case a96 => (try dsimp only); k_is); (case b96 => (try dsimp only); k_is); (case c96 => (try dsimp only); k_is); (case d96 => (try dsimp only); k_is); (case e96 => decide); refine Args_plain ?_; refine A_nil ?_; refine WC.of (id_c (by with_reducible assumption) (by exact Gd.le (by with_reducible assumption) rfl)  ?_); refine E_un ?_; (refine' E_name ?hv97 ?_; (case hv97 => exact rfl)); refine O_neg ?_; refine O_band ?_; (refine' E_name ?hv98 ?_; (case hv98 => exact rfl)); refine O_bor ?_; refine A_nil ?_)
  exact WC.of (newK c₀.par (by (with_reducible assumption)) (by (exact Gd.le (by with_reducible assumption) rfl)) (Cel.par_ok hv hu) c₀.par_bits h)
abbrev cidS : Str := Str.ofString "_CellUnion__cell_ids"
abbrev cellsV (cs : List Cel) : List AV := cs.map fun c => .cell c.id
abbrev uniM (d la : Addr) : MO := .inst 590 d [cidS] [.raw (.ref la)]
abbrev AV.uni (cs : List Cel) : AV := .inst 590 [cidS] [.lst (cellsV cs)]
theorem numM_c {c : Cx} {Q : AV → AX → Prop} {X : AX} {u d la : Addr} {xs : List AV} (L : Lw c) (G : Gd c.A 1) (hu : (u, uniM d la) ∈ X.σ) (hl : (la, MO.lst xs) ∈ X.σ) (hz : xs.length < 2 ^ 62) (h : Q (.int xs.length) X) : WF c (.ref 545) [.raw (.ref u)] [] Q X := by
  (have _ : PySem.Challenge.rw_lp0003_08 = PySem.Challenge.rw_lp0003_08 → ∀ w : World, (hd8.heap_1 w.params).In default → True := by (k_fill; intros; trivial))
  have L₀ := L
  obtain ⟨P, w, K, g, A, env, own, E, fx⟩ := c
  obtain ⟨hP, hK, hC, hN⟩ := L
  dsimp only at hP hK hC hN G
  subst hP hK
  refine' WF.go (M := [((Str.ofString "self"), .raw (.ref u))]) G ?k1 ?k2 ?k3 ?k4 ?k5 ?k6 ?k7 ?k8 ?_
  case k1 => ((try dsimp only); k_is)
  case k2 => ((try dsimp only); k_is)
  case k3 => exact bind1 fun s v X => .of_eq rfl
  case k4 => rfl
  case k5 => decide
  case k6 => rfl
  case k7 => rfl
  case k8 => rfl
  intro F c' kn he ho ok G'
  have L' := L₀.kin kn
  obtain ⟨P', w', K', g', A', env', own', E', fx'⟩ := c'
  obtain ⟨f1, f2, f3, f4, f5⟩ := kn
  dsimp only at f1 f2 f3 f4 f5 he ho G'
  subst f1 f2 f3 f4 f5 he ho
  clear L₀
  simp only [List.reverse_cons, List.reverse_nil, List.nil_append, List.cons_append]
  (refine S_last ?_; refine S_return ?_; refine E_call ?_; dsimp only; (refine' E_builtin (v := .builtin ?id1) ?hk1 ?e1 ?hv1 ?hn1 ?_; (case hk1 => exact rfl); (case e1 => (try dsimp only); k_is); (case hv1 => exact rfl); (case hn1 => decide)); dsimp only; refine C_raw keeper_builtin ?_; refine Args_plain ?_; refine A_cons ?_; refine E_attr ?_; (refine' E_name ?hv2 ?_; (case hv2 => exact rfl)); refine' G_own (ca := none) ?hi4 ?a4 ?b4 ?c4 ?d4 ?e4 ?f4 ?_; (case hi4 => refine' IsInst.turn ?hm3; (case hm3 => with_reducible assumption)); (case a4 => (try dsimp only); k_is); (case b4 => (try dsimp only); k_is); (case c4 => (try dsimp only); k_is); (case d4 => (try dsimp only); k_is); (case e4 => exact rfl); (case f4 => exact rfl); refine A_nil ?_; refine B_len_mlst (by with_reducible assumption) (by with_reducible assumption) ?_; dsimp only)
  exact h
def nfold (cs : List Cel) : List Cel := (cs.foldl nstep []).reverse
abbrev lamQ : Str := Str.ofString "CellUnion.normalize.<locals>.<lambda>"
abbrev lamP : Pos := ⟨296, 33, 296, 61⟩
abbrev tabM : MO := .ext [] (TabR 561 lamP lamQ)
theorem cellsV_get {cs : List Cel} {i : Nat} {V : AV} (h : (cellsV cs)[i]? = some V) : ∃ e, cs[i]? = some e ∧ V = .cell e.id := by
  rw [List.getElem?_map] at h
  obtain ⟨e, h1, h2⟩ := Option.map_eq_some_iff.mp h
  exact ⟨e, h1, h2.symm⟩
theorem sortCells {cs : List Cel} {ps : List (Int × AV)} (hp : ps.Perm ((cs.map Cel.id).zip (cellsV cs))) (hs : ps.Pairwise fun p q => p.1 ≤ q.1) : ∃ cs' : List Cel, cs'.Perm cs ∧ cs'.Pairwise (fun a b => a.id ≤ b.id) ∧ ps.map (·.2) = cellsV cs' := by
  have e : (cs.map Cel.id).zip (cellsV cs) = cs.map fun c => (c.id, AV.cell c.id) := by
    unfold cellsV
    rw [List.zip_map']
  obtain ⟨cs', h1, rfl⟩ := perm_map_inv hp _ e
  refine ⟨cs', h1, ?_, by rw [List.map_map]; rfl⟩
  rw [List.pairwise_map] at hs
  exact hs
abbrev oS (o u d la : Addr) (σ₀ : List (Addr × MO)) (st : List Cel) : List (Addr × MO) := (o, .lst (cellsV st.reverse)) :: (561, tabM) :: (u, uniM d la) :: σ₀
abbrev oM (o u : Addr) : List (Str × AV) := [(Str.ofString "output", .raw (.ref o)), (Str.ofString "self", .raw (.ref u))]
abbrev eM (e : Cel) (o u : Addr) : List (Str × AV) := (Str.ofString "cell_id", .cell e.id) :: oM o u
structure HasE (Y : AX) (σ : List (Addr × MO)) (e : Cel) (o u : Addr) : Prop where
  s : Y.σ = σ
  c : Y.m.lookup (Str.ofString "cell_id") = some (.cell e.id)
  o : Y.m.lookup (Str.ofString "output") = some (.raw (.ref o))
  u : Y.m.lookup (Str.ofString "self") = some (.raw (.ref u))
theorem look_of {m : List (Str × AV)} : ∀ {l : List (Str × AV)}, (∀ p ∈ l, m.lookup p.1 = some p.2) → ∀ x V, l.lookup x = some V → m.lookup x = some V
  | [], _, x, V, e => by cases e
  | (y, U) :: r, h, x, V, e => by
    rw [List.lookup_cons] at e
    cases hb : x == y with
    | true => rw [hb] at e; cases e; rw [beq_iff_eq.mp hb]; exact h _ (.head _)
    | false => rw [hb] at e; exact look_of (fun p hp => h p (.tail _ hp)) x V e
theorem HasE.conv {c : Cx} {Y : AX} {σ : List (Addr × MO)} {e : Cel} {o u : Addr} (h : HasE Y σ e o u) : Conv c Y ⟨σ, eM e o u⟩ := by
  refine Conv.weak (by rw [h.s]; exact List.Sublist.refl _) (look_of fun p hp => ?_)
  rcases List.mem_cons.mp hp with rfl | hp
  · exact h.c
  · rcases List.mem_cons.mp hp with rfl | hp
    · exact h.o
    · rw [List.mem_singleton.mp hp]; exact h.u
theorem HasE.conv2 {c : Cx} {Y : AX} {σ : List (Addr × MO)} {e : Cel} {o u : Addr} (h : HasE Y σ e o u) : Conv c Y ⟨σ, oM o u⟩ := by
  refine Conv.weak (by rw [h.s]; exact List.Sublist.refl _) (look_of fun p hp => ?_)
  rcases List.mem_cons.mp hp with rfl | hp
  · exact h.o
  · rw [List.mem_singleton.mp hp]; exact h.u
theorem cellsV_empty (st : List Cel) : (cellsV st.reverse).isEmpty = st.isEmpty := by cases st <;> simp
theorem cellsV_cons (t : Cel) (r : List Cel) : cellsV (t :: r).reverse = cellsV r.reverse ++ [.cell t.id] := by simp
theorem has_eq (t e : Cel) : decide (t.first.id ≤ e.id ∧ e.id ≤ t.last.id) = t.has e := by unfold Cel.has; rw [Bool.decide_and]
theorem popIn_sub (e : Cel) : ∀ st : List Cel, (∀ x ∈ popIn e st, x ∈ st) ∧ (popIn e st).length ≤ st.length
  | [] => ⟨fun _ h => h, Nat.le_refl _⟩
  | t :: r => by
    unfold popIn
    split
    · exact ⟨fun x hx => .tail _ ((popIn_sub e r).1 x hx), Nat.le_succ_of_le (popIn_sub e r).2⟩
    · exact ⟨fun _ h => h, Nat.le_refl _⟩
theorem merge_ok : ∀ (st : List Cel) (c : Cel), c.ok → (∀ x ∈ st, x.ok) → (merge c st).1.ok ∧ (∀ x ∈ (merge c st).2, x.ok) ∧ (merge c st).2.length ≤ st.length
  | [], c, hc, h => ⟨hc, h, Nat.le_refl _⟩
  | [_], c, hc, h => ⟨hc, h, Nat.le_refl _⟩
  | [_, _], c, hc, h => ⟨hc, h, Nat.le_refl _⟩
  | x1 :: x2 :: x3 :: r, c, hc, h => by
    rw [merge]
    split
    · rename_i q
      have hu : c.u ≠ 30 := by
        unfold quad at q
        simp only [Bool.and_eq_true, Bool.not_eq_true', decide_eq_false_iff_not] at q
        exact q.2.2.2.2
      have := merge_ok r c.par (Cel.par_ok hc hu) fun x hx => h x (.tail _ (.tail _ (.tail _ hx)))
      refine ⟨this.1, this.2.1, ?_⟩
      have := this.2.2
      simp only [List.length_cons]; lia
    · exact ⟨hc, h, Nat.le_refl _⟩
theorem push_ok {st : List Cel} {e : Cel} (he : e.ok) (h : ∀ x ∈ st, x.ok) : (∀ x ∈ push st e, x.ok) ∧ (push st e).length ≤ st.length + 1 := by
  have a := popIn_sub e st
  have b := merge_ok (popIn e st) e he fun x hx => h x (a.1 x hx)
  unfold push
  refine ⟨fun x hx => ?_, ?_⟩
  · rcases List.mem_cons.mp hx with rfl | hx
    · exact b.1
    · exact b.2.1 x hx
  · have := b.2.2; have := a.2; simp only [List.length_cons]; lia
theorem nstep_ok {st : List Cel} {e : Cel} (he : e.ok) (h : ∀ x ∈ st, x.ok) : (∀ x ∈ nstep st e, x.ok) ∧ (nstep st e).length ≤ st.length + 1 := by
  unfold nstep
  split
  · exact push_ok he h
  · split
    · exact ⟨h, Nat.le_succ _⟩
    · exact push_ok he h
theorem nstep_oks : ∀ (es st : List Cel), (∀ x ∈ es, x.ok) → (∀ x ∈ st, x.ok) → ∀ x ∈ es.foldl nstep st, x.ok
  | [], st, _, h => h
  | e :: r, st, he, h => nstep_oks r _ (fun x hx => he x (.tail _ hx)) (nstep_ok (he e (.head _)) h).1
theorem nstep_len' {st : List Cel} {e : Cel} : (nstep st e).length ≤ st.length + 1 := by
  have pl : (push st e).length ≤ st.length + 1 := by
    have a := (popIn_sub e st).2
    have : ∀ (n : Nat) (st : List Cel) (c : Cel), st.length = n → (merge c st).2.length ≤ st.length := by
      intro n
      induction n using Nat.strongRecOn with
      | ind n ih =>
        intro st c hn
        match st, hn with
        | [], _ => exact Nat.le_refl _
        | [_], _ => exact Nat.le_refl _
        | [_, _], _ => exact Nat.le_refl _
        | x1 :: x2 :: x3 :: r, hn =>
          rw [merge]
          split
          · have := ih r.length (by simp at hn; lia) r c.par rfl
            simp only [List.length_cons]; lia
          · exact Nat.le_refl _
    have b := this _ (popIn e st) e rfl
    unfold push
    simp only [List.length_cons]; lia
  unfold nstep
  split
  · exact pl
  · split
    · exact Nat.le_succ _
    · exact pl
theorem nstep_len : ∀ (es st : List Cel), (es.foldl nstep st).length ≤ es.length + st.length
  | [], st => by simp
  | e :: r, st => by
    have := nstep_len r (nstep st e)
    have := @nstep_len' st e
    simp only [List.foldl_cons, List.length_cons]; lia
theorem quad_f0 {x3 x2 x1 c : Cel} (h : Builtin.bitXor (Builtin.bitXor x3.id x2.id) x1.id ≠ c.id) : quad x3 x2 x1 c = false := by simp [quad, h]
theorem quad_f1 {x3 x2 x1 c : Cel} (h : Builtin.bitAnd x3.id c.mask ≠ Builtin.bitAnd c.id c.mask) : quad x3 x2 x1 c = false := by simp [quad, h]
theorem quad_f2 {x3 x2 x1 c : Cel} (h : Builtin.bitAnd x2.id c.mask ≠ Builtin.bitAnd c.id c.mask) : quad x3 x2 x1 c = false := by simp [quad, h]
theorem quad_f3 {x3 x2 x1 c : Cel} (h : Builtin.bitAnd x1.id c.mask ≠ Builtin.bitAnd c.id c.mask) : quad x3 x2 x1 c = false := by simp [quad, h]
theorem quad_f4 {x3 x2 x1 c : Cel} (h : decide (c.u = 30) = true) : quad x3 x2 x1 c = false := by simp [quad, of_decide_eq_true h]
theorem quad_t {x3 x2 x1 c : Cel} (h0 : Builtin.bitXor (Builtin.bitXor x3.id x2.id) x1.id = c.id) (h1 : Builtin.bitAnd x3.id c.mask = Builtin.bitAnd c.id c.mask) (h2 : Builtin.bitAnd x2.id c.mask = Builtin.bitAnd c.id c.mask) (h3 : Builtin.bitAnd x1.id c.mask = Builtin.bitAnd c.id c.mask) (h4 : c.u ≠ 30) : quad x3 x2 x1 c = true := by simp [quad, h0, h1, h2, h3, h4]
theorem nstep_has {t e : Cel} {r : List Cel} (h : t.has e = true) : nstep (t :: r) e = t :: r := if_pos h
theorem nstep_not {t e : Cel} {r : List Cel} (h : t.has e = false) : nstep (t :: r) e = push (t :: r) e := if_neg (by rw [h]; decide)
theorem popU {o u d la : Addr} {σ₀ : List (Addr × MO)} {t : Cel} {r : List Cel} : SUpd o (.lst (cellsV r.reverse ++ [.cell t.id])) (.lst (cellsV r.reverse)) (oS o u d la σ₀ (t :: r)) (oS o u d la σ₀ r) := by rw [← cellsV_cons]; exact .head
theorem shl_fit {u : Nat} (h : u ≤ 30) : (((4 ^ u : Nat) : Int) * 2 ^ Int.toNat 1).natAbs < 2 ^ 64 := by
  rw [Int.natAbs_mul, Int.natAbs_natCast]
  have : 4 ^ u ≤ 4 ^ 30 := Nat.pow_le_pow_right (by decide) h
  have e : ((2 : Int) ^ Int.toNat 1).natAbs = 2 := by decide
  rw [e]; lia
theorem at1 (t : Cel) (r : List Cel) : atI (cellsV (t :: r).reverse) (-1) = some (.cell t.id) := atI_last (k := 0) (by simp)
theorem at2 (t t2 : Cel) (r : List Cel) : atI (cellsV (t :: t2 :: r).reverse) (-2) = some (.cell t2.id) := atI_last (k := 1) (by simp)
theorem at3 (t t2 t3 : Cel) (r : List Cel) : atI (cellsV (t :: t2 :: t3 :: r).reverse) (-3) = some (.cell t3.id) := atI_last (k := 2) (by simp)
theorem normalize_a {c : Cx} {Q : AV → AX → Prop} {σ₀ : List (Addr × MO)} {m₀ : List (Str × AV)} {u d la : Addr} {cs : List Cel} (L : Lw c) (G : Gd c.A 8) (hok : ∀ e ∈ cs, e.ok) (h64 : cs.length < 64)
    (hT : ∀ o cs', cs'.Perm cs → cs'.Pairwise (fun a b => a.id ≤ b.id) → (nfold cs').length < cs.length → Q (.bool true) ⟨(la, .lst (cellsV cs')) :: (o, .lst (cellsV (nfold cs'))) :: (561, tabM) :: (u, uniM d o) :: σ₀, m₀⟩)
    (hF : ∀ o cs', cs'.Perm cs → cs'.Pairwise (fun a b => a.id ≤ b.id) → ¬ (nfold cs').length < cs.length → Q (.bool false) ⟨(la, .lst (cellsV cs')) :: (o, .lst (cellsV (nfold cs'))) :: (561, tabM) :: (u, uniM d la) :: σ₀, m₀⟩) :
    WF c (.ref 566) [.raw (.ref u)] [] Q ⟨(la, .lst (cellsV cs)) :: (u, uniM d la) :: (561, tabM) :: σ₀, m₀⟩ := by
  (have _ : PySem.Challenge.rw_lp0003_08 = PySem.Challenge.rw_lp0003_08 → ∀ w : World, (hd8.heap_1 w.params).In default → True := by (k_fill; intros; trivial))
  have L₀ := L
  obtain ⟨P, w, K, g, A, env, own, E, fx⟩ := c
  obtain ⟨hP, hK, hC, hN⟩ := L
  dsimp only at hP hK hC hN G
  subst hP hK
  refine' WF.go (M := [((Str.ofString "self"), .raw (.ref u))]) G ?k1 ?k2 ?k3 ?k4 ?k5 ?k6 ?k7 ?k8 ?_
  case k1 => ((try dsimp only); k_is)
  case k2 => ((try dsimp only); k_is)
  case k3 => exact bind1 fun s v X => .of_eq rfl
  case k4 => rfl
  case k5 => decide
  case k6 => rfl
  case k7 => rfl
  case k8 => rfl
  intro F c' kn he ho ok G'
  have L' := L₀.kin kn
  obtain ⟨P', w', K', g', A', env', own', E', fx'⟩ := c'
  obtain ⟨f1, f2, f3, f4, f5⟩ := kn
  dsimp only at f1 f2 f3 f4 f5 he ho G'
  subst f1 f2 f3 f4 f5 he ho
  clear L₀
  simp only [List.reverse_cons, List.reverse_nil, List.nil_append, List.cons_append]
  (refine S_cons ?_; refine S_expr ?_; refine E_meth ?_; dsimp only; refine E_attr ?_; (refine' E_name ?hv1 ?_; (case hv1 => exact rfl)); refine' G_own (ca := none) ?hi3 ?a3 ?b3 ?c3 ?d3 ?e3 ?f3 ?_; (case hi3 => refine' IsInst.turn ?hm2; (case hm2 => refine' List.Mem.tail _ ?_; exact List.Mem.head _)); (case a3 => (try dsimp only); k_is); (case b3 => (try dsimp only); k_is); (case c3 => (try dsimp only); k_is); (case d3 => (try dsimp only); k_is); (case e3 => exact rfl); (case f3 => exact rfl))
  refine M_list (by (exact List.Mem.head _)) PyProof.Rows.slot_list_sort PySem.F.type_list_sort (A_nil (K_cons ?_))
  refine' E_lam (P := 561) (cd := 565) (qual := lamQ) ?h1 ?h2 ?h3 ?h4 ?h5 ?h6 ?_
  case h1 => rfl
  case h2 => rfl
  case h3 => rfl
  case h4 => rfl
  case h5 => exact hC
  case h6 => (refine' SDel.tail ?hq5; (case hq5 => refine' SDel.tail ?hq4; (case hq4 => exact SDel.head)))
  refine K_nil ?_
  dsimp only
  refine' B_sort (la := la) (xs := cellsV cs) (kz := cs.map Cel.id) (d := 6) ?g1 ?g2 ?g3 ?g4 ?g5 ?g6 ?_
  case g1 => exact G'.le rfl
  case g2 => (refine' SDel.tail ?hq6; (case hq6 => exact SDel.head))
  case g3 => rw [List.length_map, List.length_map]
  case g4 => rw [List.length_map]; exact h64
  case g5 =>
    intro i V k hV hk
    obtain ⟨e, he, rfl⟩ := cellsV_get hV
    have ek : k = e.id := by
      rw [List.getElem?_map, he] at hk; cases hk; rfl
    subst ek
    refine WFv.lam (x := Str.ofString "cell_id") (d := 2) (Gd.le (Gd.in1 (d := 6) (G'.le rfl)) rfl) (fun _ _ _ _ => rfl) rfl rfl rfl rfl (by decide) ?_
    intro F' f' cd' c'' kn' he' ho' ok' G''
    have L'' : Lw c'' := Lw.kin (c := { P := prog, w := w', K := hd8.heap_1 w'.params, g := g', A := A'.in1, env := env, own := own, E := E', fix := true }) ⟨rfl, rfl, hC, hN⟩ ⟨kn'.fix, kn'.P, kn'.w, kn'.K, kn'.g⟩
    obtain ⟨P'', w'', K'', g'', A'', env'', own'', E'', fx''⟩ := c''
    obtain ⟨q1, q2, q3, q4, q5⟩ := kn'
    dsimp only at q1 q2 q3 q4 q5 he' ho' G''
    subst q1 q2 q3 q4 q5 he' ho'
    (refine E_meth ?_; dsimp only; (refine' E_name ?hv7 ?_; (case hv7 => exact rfl)); refine' M_fn ?hi8 ?a8 ?b8 ?c8 ?d8 ?e8 ?_; (case hi8 => exact .inl rfl); (case a8 => (try dsimp only); k_is); (case b8 => (try dsimp only); k_is); (case c8 => (try dsimp only); k_is); (case d8 => (try dsimp only); k_is); (case e8 => decide); refine Args_plain ?_; refine A_nil ?_; refine WC.of (id_c (by with_reducible assumption) (by exact Gd.le (by with_reducible assumption) rfl)  ?_); dsimp only)
  case g6 => intro S v r; obtain ⟨f, _, _, _, _, _, _, e, _⟩ := r.ext_inv; exact ⟨f, e⟩
  intro ps hp hs
  obtain ⟨cs', hp', hs', e⟩ := sortCells hp hs
  rw [e]
  (refine Then_next ?_; dsimp only; refine S_cons ?_; refine S_assign (by exact .inl ⟨rfl, .head _⟩) ?_)
  refine E_listM (A_nil ⟨by decide, fun o => ?_⟩)
  (refine Then_next ?_; dsimp only; refine S_cons ?_)
  refine S_for ?_
  (refine E_attr ?_; (refine' E_name ?hv9 ?_; (case hv9 => exact rfl)); refine' G_own (ca := none) ?hi11 ?a11 ?b11 ?c11 ?d11 ?e11 ?f11 ?_; (case hi11 => refine' IsInst.turn ?hm10; (case hm10 => refine' List.Mem.tail _ ?_; refine' List.Mem.tail _ ?_; refine' List.Mem.tail _ ?_; exact List.Mem.head _)); (case a11 => (try dsimp only); k_is); (case b11 => (try dsimp only); k_is); (case c11 => (try dsimp only); k_is); (case d11 => (try dsimp only); k_is); (case e11 => exact rfl); (case f11 => exact rfl))
  refine I_mlst (l := la) (by (refine' SDel.tail ?hq12; (case hq12 => exact SDel.head))) ?_
  refine ⟨fun i Y => Y = ⟨oS o u d la σ₀ ((cs'.take i).foldl nstep []), oM o u⟩, ⟨_, Conv.rfl, rfl⟩, ?turn, ?fin⟩
  case turn =>
    intro i x Y hx hY
    subst hY
    obtain ⟨e, he, rfl⟩ := cellsV_get hx
    have hst : ∀ x ∈ (cs'.take i).foldl nstep [], x.ok := nstep_oks _ _ (fun x hx => hok x (hp'.mem_iff.mp (List.mem_of_mem_take hx))) fun x hx => nomatch hx
    have hln : ((cs'.take i).foldl nstep []).length ≤ i := Nat.le_trans (nstep_len _ _) (by simp; lia)
    have hi64 : i < 64 := by have := (List.getElem?_eq_some_iff.mp he).1; rw [hp'.length_eq] at this; lia
    have hfold : (cs'.take (i + 1)).foldl nstep [] = nstep ((cs'.take i).foldl nstep []) e := by rw [List.take_succ, he]; simp
    dsimp only
    rw [hfold]
    have heok : e.ok := hok e (hp'.mem_iff.mp (List.mem_of_getElem? he))
    revert hst hln
    generalize (cs'.take i).foldl nstep [] = st
    intro hst hln
    clear hfold he hx
    refine A_name (by exact .inl ⟨rfl, .head _⟩) (S_cons ?_)
    refine WT.imp (Q := fun F Y => Y = ⟨oS o u d la σ₀ st, eM e o u⟩ ∧ ((F = AF.cont ∧ nstep st e = st) ∨ (F = AF.next ∧ nstep st e = push st e))) ?if1 ?rest
    case if1 =>
      refine S_if ?_
      cases st with
      | nil =>
        (refine T_and ?_; dsimp only; refine T_val ?_; (refine' E_name ?hv13 ?_; (case hv13 => exact rfl)); refine Tr_mlst (by exact List.Mem.head _) (by simp only [cellsV, List.length_map, List.length_reverse, List.length_cons, List.length_append, List.length_nil]; lia) ?_; rw [if_neg (by decide)]; rw [if_neg (by decide)]; refine S_nil ?_)
        exact ⟨rfl, .inr ⟨rfl, rfl⟩⟩
      | cons t r =>
        have ht := hst t (.head _)
        have hl2 : r.length < 63 := by simp only [List.length_cons] at hln; lia
        (refine T_and ?_; dsimp only; refine T_val ?_; (refine' E_name ?hv14 ?_; (case hv14 => exact rfl)); refine Tr_mlst (by exact List.Mem.head _) (by simp only [cellsV, List.length_map, List.length_reverse, List.length_cons, List.length_append, List.length_nil]; lia) ?_)
        rw [if_pos (by rw [cellsV_empty]; rfl)]
        (refine T_and ?_; refine T_val ?_; refine E_meth ?_; dsimp only; refine E_sub ?_; (refine' E_name ?hv15 ?_; (case hv15 => exact rfl)); refine E_un ?_; refine E_int ?_; refine O_neg ?_; refine Su_mlst (by exact List.Mem.head _) (at1 _ _) (by simp only [cellsV, List.length_map, List.length_reverse, List.length_cons, List.length_append, List.length_nil]; lia) ?_; refine' M_fn ?hi16 ?a16 ?b16 ?c16 ?d16 ?e16 ?_; (case hi16 => exact .inl rfl); (case a16 => (try dsimp only); k_is); (case b16 => (try dsimp only); k_is); (case c16 => (try dsimp only); k_is); (case d16 => (try dsimp only); k_is); (case e16 => decide); refine Args_plain ?_; refine A_cons ?_; (refine' E_name ?hv17 ?_; (case hv17 => exact rfl)); refine A_nil ?_; refine WC.of (contains_c (by with_reducible assumption) (by exact Gd.le (by with_reducible assumption) rfl) (by with_reducible assumption) (by with_reducible assumption) ?_); refine Tr_bool ?_)
        rw [has_eq]
        cases hb : t.has e
        · (rw [if_neg (by decide)]; rw [if_neg (by decide)]; refine S_nil ?_)
          exact ⟨rfl, .inr ⟨rfl, nstep_not hb⟩⟩
        · (rw [if_pos rfl]; refine T_and_nil ?_; rw [if_pos rfl]; refine S_last ?_; refine S_continue ?_)
          exact ⟨rfl, .inl ⟨rfl, nstep_has hb⟩⟩
    case rest =>
      rintro F Y ⟨rfl, ⟨rfl, e1⟩ | ⟨rfl, e1⟩⟩
      · rw [e1]
        exact Then_cont ⟨_, HasE.conv2 ⟨rfl, rfl, rfl, rfl⟩, rfl⟩
      · rw [e1]
        clear e1
        (refine Then_next ?_; refine S_cons ?_)
        refine WT.imp (Q := fun F Y => F = AF.next ∧ Y = ⟨oS o u d la σ₀ (popIn e st), eM e o u⟩) ?w1 ?rest2
        case w1 =>
          refine S_while (fun n Y => ∃ st₁, n = st₁.length ∧ Y = ⟨oS o u d la σ₀ st₁, eM e o u⟩ ∧ popIn e st₁ = popIn e st ∧ (∀ x ∈ st₁, x.ok) ∧ st₁.length ≤ i) st.length ⟨_, Conv.rfl, st, rfl, rfl, rfl, hst, hln⟩ ?_
          rintro n Y ⟨st₁, rfl, rfl, hp1, hok1, hl1⟩
          cases st₁ with
          | nil =>
            (refine T_and ?_; refine T_val ?_; (refine' E_name ?hv18 ?_; (case hv18 => exact rfl)); refine Tr_mlst (by exact List.Mem.head _) (by simp only [cellsV, List.length_map, List.length_reverse, List.length_cons, List.length_append, List.length_nil]; lia) ?_; rw [if_neg (by decide)]; rw [if_neg (by decide)])
            exact ⟨rfl, by rw [← hp1]; rfl⟩
          | cons t r =>
            have ht := hok1 t (.head _)
            have hl2 : r.length < 63 := by simp only [List.length_cons] at hl1; lia
            (refine T_and ?_; refine T_val ?_; (refine' E_name ?hv19 ?_; (case hv19 => exact rfl)); refine Tr_mlst (by exact List.Mem.head _) (by simp only [cellsV, List.length_map, List.length_reverse, List.length_cons, List.length_append, List.length_nil]; lia) ?_)
            rw [if_pos (by rw [cellsV_empty]; rfl)]
            (refine T_and ?_; refine T_val ?_; refine E_meth ?_; dsimp only; (refine' E_name ?hv20 ?_; (case hv20 => exact rfl)); refine' M_fn ?hi21 ?a21 ?b21 ?c21 ?d21 ?e21 ?_; (case hi21 => exact .inl rfl); (case a21 => (try dsimp only); k_is); (case b21 => (try dsimp only); k_is); (case c21 => (try dsimp only); k_is); (case d21 => (try dsimp only); k_is); (case e21 => decide); refine Args_plain ?_; refine A_cons ?_; refine E_sub ?_; (refine' E_name ?hv22 ?_; (case hv22 => exact rfl)); refine E_un ?_; refine E_int ?_; refine O_neg ?_; refine Su_mlst (by exact List.Mem.head _) (at1 _ _) (by simp only [cellsV, List.length_map, List.length_reverse, List.length_cons, List.length_append, List.length_nil]; lia) ?_; refine A_nil ?_; refine WC.of (contains_c (by with_reducible assumption) (by exact Gd.le (by with_reducible assumption) rfl) (by with_reducible assumption) (by with_reducible assumption) ?_); refine Tr_bool ?_)
            rw [has_eq]
            cases hb : e.has t
            · (rw [if_neg (by decide)]; rw [if_neg (by decide)])
              exact ⟨rfl, by rw [← hp1, popIn, if_neg (by rw [hb]; decide)]⟩
            · (rw [if_pos rfl]; refine T_and_nil ?_; rw [if_pos rfl]; refine S_last ?_; refine S_expr ?_; refine E_meth ?_; dsimp only; (refine' E_name ?hv23 ?_; (case hv23 => exact rfl)); refine M_list (by exact List.Mem.head _) PySem.F.slot_list_pop PySem.F.type_list_pop ?_; refine Args_plain ?_; refine A_nil ?_; refine B_pop popU (by simp only [cellsV, List.length_map, List.length_reverse, List.length_cons, List.length_append, List.length_nil]; lia) ?_; dsimp only)
              exact ⟨_, Conv.rfl, _, Nat.lt_succ_self _, r, rfl, rfl, by rw [← hp1, popIn, if_pos hb], fun x hx => hok1 x (.tail _ hx), by simp only [List.length_cons] at hl1; lia⟩
        case rest2 =>
          rintro F Y ⟨rfl, rfl⟩
          have hst2 : ∀ x ∈ popIn e st, x.ok := fun x hx => hst x ((popIn_sub e st).1 x hx)
          have hln2 : (popIn e st).length ≤ i := Nat.le_trans (popIn_sub e st).2 hln
          unfold push
          revert hst2 hln2
          generalize popIn e st = st2
          intro hst2 hln2
          clear hst hln
          (refine Then_next ?_; refine S_cons ?_)
          refine WT.imp (Q := fun F Y => F = AF.next ∧ HasE Y (oS o u d la σ₀ (merge e st2).2) (merge e st2).1 o u) ?w2 ?rest3
          case w2 =>
            refine S_while (fun n Y => ∃ e₁ st₁, n = st₁.length ∧ Y = ⟨oS o u d la σ₀ st₁, eM e₁ o u⟩ ∧ merge e₁ st₁ = merge e st2 ∧ e₁.ok ∧ (∀ x ∈ st₁, x.ok) ∧ st₁.length ≤ i) st2.length ⟨_, Conv.rfl, e, st2, rfl, rfl, rfl, heok, hst2, hln2⟩ ?_
            rintro n Y ⟨e₁, st₁, rfl, rfl, hm, he1, hok1, hl1⟩
            have hf := pow_fit he1.1
            have hf2 := shl_fit he1.1
            have few : st₁.length < 3 → HasE ⟨oS o u d la σ₀ st₁, eM e₁ o u⟩ (oS o u d la σ₀ (merge e st2).2) (merge e st2).1 o u := fun q => by
              rw [← hm, merge_few q]; exact ⟨rfl, rfl, rfl, rfl⟩
            have hl3 : st₁.length < 64 := by lia
            (refine T_cmp ?_; refine E_call ?_; dsimp only; (refine' E_builtin (v := .builtin ?id24) ?hk24 ?e24 ?hv24 ?hn24 ?_; (case hk24 => exact rfl); (case e24 => (try dsimp only); k_is); (case hv24 => exact rfl); (case hn24 => decide)); dsimp only; refine C_raw keeper_builtin ?_; refine Args_plain ?_; refine A_cons ?_; (refine' E_name ?hv25 ?_; (case hv25 => exact rfl)); refine A_nil ?_; refine B_len_mlst (by exact List.Mem.head _) (by simp only [cellsV, List.length_map, List.length_reverse, List.length_cons, List.length_append, List.length_nil]; lia) ?_; refine E_int ?_; refine O_ge ?_; refine Tr_bool ?_)
            by_cases q3 : st₁.length < 3
            · rw [if_neg (by simp only [cellsV, List.length_map, List.length_reverse, decide_eq_true_eq]; lia)]
              exact ⟨rfl, few q3⟩
            · clear few
              obtain ⟨x1, x2, x3, r, rfl⟩ : ∃ x1 x2 x3 r, st₁ = x1 :: x2 :: x3 :: r := by
                match st₁, q3 with
                | x1 :: x2 :: x3 :: r, _ => exact ⟨x1, x2, x3, r, rfl⟩
                | [], q => exact absurd (by decide) q
                | [_], q => exact absurd (by simp) q
                | [_, _], q => exact absurd (by simp) q
              have hl4 : r.length < 61 := by simp only [List.length_cons] at hl3; lia
              have no : quad x3 x2 x1 e₁ = false → ∀ {m : List (Str × AV)}, m.lookup (Str.ofString "cell_id") = some (.cell e₁.id) → m.lookup (Str.ofString "output") = some (.raw (.ref o)) → m.lookup (Str.ofString "self") = some (.raw (.ref u)) →
                  HasE ⟨oS o u d la σ₀ (x1 :: x2 :: x3 :: r), m⟩ (oS o u d la σ₀ (merge e st2).2) (merge e st2).1 o u := fun q m h1 h2 h3 => by
                rw [← hm, merge_no q]; exact ⟨rfl, h1, h2, h3⟩
              rw [if_pos (by simp only [cellsV, List.length_map, List.length_reverse, decide_eq_true_eq]; lia)]
              (refine S_cons ?_; refine S_if ?_; refine T_cmp ?_; refine E_bin ?_; refine E_bin ?_; refine E_meth ?_; dsimp only; refine E_sub ?_; (refine' E_name ?hv26 ?_; (case hv26 => exact rfl)); refine E_un ?_; refine E_int ?_; refine O_neg ?_; refine Su_mlst (by exact List.Mem.head _) (at3 _ _ _ _) (by simp only [cellsV, List.length_map, List.length_reverse, List.length_cons, List.length_append, List.length_nil]; lia) ?_; refine' M_fn ?hi27 ?a27 ?b27 ?c27 ?d27 ?e27 ?_; (case hi27 => exact .inl rfl); (case a27 => (try dsimp only); k_is); (case b27 => (try dsimp only); k_is); (case c27 => (try dsimp only); k_is); (case d27 => (try dsimp only); k_is); (case e27 => decide); refine Args_plain ?_; refine A_nil ?_; refine WC.of (id_c (by with_reducible assumption) (by exact Gd.le (by with_reducible assumption) rfl)  ?_); refine E_meth ?_; dsimp only; refine E_sub ?_; (refine' E_name ?hv28 ?_; (case hv28 => exact rfl)); refine E_un ?_; refine E_int ?_; refine O_neg ?_; refine Su_mlst (by exact List.Mem.head _) (at2 _ _ _) (by simp only [cellsV, List.length_map, List.length_reverse, List.length_cons, List.length_append, List.length_nil]; lia) ?_; refine' M_fn ?hi29 ?a29 ?b29 ?c29 ?d29 ?e29 ?_; (case hi29 => exact .inl rfl); (case a29 => (try dsimp only); k_is); (case b29 => (try dsimp only); k_is); (case c29 => (try dsimp only); k_is); (case d29 => (try dsimp only); k_is); (case e29 => decide); refine Args_plain ?_; refine A_nil ?_; refine WC.of (id_c (by with_reducible assumption) (by exact Gd.le (by with_reducible assumption) rfl)  ?_); refine O_bxor ?_; refine E_meth ?_; dsimp only; refine E_sub ?_; (refine' E_name ?hv30 ?_; (case hv30 => exact rfl)); refine E_un ?_; refine E_int ?_; refine O_neg ?_; refine Su_mlst (by exact List.Mem.head _) (at1 _ _) (by simp only [cellsV, List.length_map, List.length_reverse, List.length_cons, List.length_append, List.length_nil]; lia) ?_; refine' M_fn ?hi31 ?a31 ?b31 ?c31 ?d31 ?e31 ?_; (case hi31 => exact .inl rfl); (case a31 => (try dsimp only); k_is); (case b31 => (try dsimp only); k_is); (case c31 => (try dsimp only); k_is); (case d31 => (try dsimp only); k_is); (case e31 => decide); refine Args_plain ?_; refine A_nil ?_; refine WC.of (id_c (by with_reducible assumption) (by exact Gd.le (by with_reducible assumption) rfl)  ?_); refine O_bxor ?_; refine E_meth ?_; dsimp only; (refine' E_name ?hv32 ?_; (case hv32 => exact rfl)); refine' M_fn ?hi33 ?a33 ?b33 ?c33 ?d33 ?e33 ?_; (case hi33 => exact .inl rfl); (case a33 => (try dsimp only); k_is); (case b33 => (try dsimp only); k_is); (case c33 => (try dsimp only); k_is); (case d33 => (try dsimp only); k_is); (case e33 => decide); refine Args_plain ?_; refine A_nil ?_; refine WC.of (id_c (by with_reducible assumption) (by exact Gd.le (by with_reducible assumption) rfl)  ?_); refine O_ne ?_; refine Tr_bool ?_)
              by_cases c0 : Builtin.bitXor (Builtin.bitXor x3.id x2.id) x1.id = e₁.id
              case neg =>
                rw [if_pos (by rw [decide_eq_false c0]; rfl)]
                (refine S_last ?_; refine S_break ?_; refine Then_brk ?_)
                exact ⟨rfl, no (quad_f0 c0) rfl rfl rfl⟩
              rw [if_neg (by rw [decide_eq_true c0]; decide)]
              (refine S_nil ?_; refine Then_next ?_; refine S_cons ?_; refine S_assign (by exact .inl ⟨rfl, .head _⟩) ?_; refine E_bin ?_; refine E_meth ?_; dsimp only; (refine' E_name ?hv34 ?_; (case hv34 => exact rfl)); refine' M_fn ?hi35 ?a35 ?b35 ?c35 ?d35 ?e35 ?_; (case hi35 => exact .inl rfl); (case a35 => (try dsimp only); k_is); (case b35 => (try dsimp only); k_is); (case c35 => (try dsimp only); k_is); (case d35 => (try dsimp only); k_is); (case e35 => decide); refine Args_plain ?_; refine A_nil ?_; refine WC.of (lsb_c (by with_reducible assumption) (by exact Gd.le (by with_reducible assumption) rfl)  ?_); refine E_int ?_; refine O_shl (by decide) (by decide) (by with_reducible assumption) ?_; dsimp only; refine Then_next ?_; refine S_cons ?_; refine S_assign (by exact .inl ⟨rfl, .head _⟩) ?_; refine E_un ?_; refine E_bin ?_; (refine' E_name ?hv36 ?_; (case hv36 => exact rfl)); refine E_bin ?_; (refine' E_name ?hv37 ?_; (case hv37 => exact rfl)); refine E_int ?_; refine O_shl (by decide) (by decide) (by with_reducible assumption) ?_; refine O_add ?_; refine O_inv ?_; dsimp only; refine Then_next ?_; refine S_cons ?_; refine S_assign (by exact .inl ⟨rfl, .head _⟩) ?_; refine E_bin ?_; refine E_meth ?_; dsimp only; (refine' E_name ?hv38 ?_; (case hv38 => exact rfl)); refine' M_fn ?hi39 ?a39 ?b39 ?c39 ?d39 ?e39 ?_; (case hi39 => exact .inl rfl); (case a39 => (try dsimp only); k_is); (case b39 => (try dsimp only); k_is); (case c39 => (try dsimp only); k_is); (case d39 => (try dsimp only); k_is); (case e39 => decide); refine Args_plain ?_; refine A_nil ?_; refine WC.of (id_c (by with_reducible assumption) (by exact Gd.le (by with_reducible assumption) rfl)  ?_); (refine' E_name ?hv40 ?_; (case hv40 => exact rfl)); refine O_band ?_; dsimp only; refine Then_next ?_; refine S_cons ?_; refine S_if ?_; refine T_or ?_; refine T_cmp ?_; refine E_bin ?_; refine E_meth ?_; dsimp only; refine E_sub ?_; (refine' E_name ?hv41 ?_; (case hv41 => exact rfl)); refine E_un ?_; refine E_int ?_; refine O_neg ?_; refine Su_mlst (by exact List.Mem.head _) (at3 _ _ _ _) (by simp only [cellsV, List.length_map, List.length_reverse, List.length_cons, List.length_append, List.length_nil]; lia) ?_; refine' M_fn ?hi42 ?a42 ?b42 ?c42 ?d42 ?e42 ?_; (case hi42 => exact .inl rfl); (case a42 => (try dsimp only); k_is); (case b42 => (try dsimp only); k_is); (case c42 => (try dsimp only); k_is); (case d42 => (try dsimp only); k_is); (case e42 => decide); refine Args_plain ?_; refine A_nil ?_; refine WC.of (id_c (by with_reducible assumption) (by exact Gd.le (by with_reducible assumption) rfl)  ?_); (refine' E_name ?hv43 ?_; (case hv43 => exact rfl)); refine O_band ?_; (refine' E_name ?hv44 ?_; (case hv44 => exact rfl)); refine O_ne ?_; refine Tr_bool ?_; rw [if_pos rfl])
              by_cases c1 : Builtin.bitAnd x3.id e₁.mask = Builtin.bitAnd e₁.id e₁.mask
              case neg =>
                rw [if_pos (by show (!decide (Builtin.bitAnd x3.id e₁.mask = Builtin.bitAnd e₁.id e₁.mask)) = true; rw [decide_eq_false c1]; rfl)]
                (refine S_last ?_; refine S_break ?_; refine Then_brk ?_)
                exact ⟨rfl, no (quad_f1 c1) rfl rfl rfl⟩
              rw [if_neg (by show ¬ (!decide (Builtin.bitAnd x3.id e₁.mask = Builtin.bitAnd e₁.id e₁.mask)) = true; rw [decide_eq_true c1]; decide)]
              (refine T_or ?_; refine T_cmp ?_; refine E_bin ?_; refine E_meth ?_; dsimp only; refine E_sub ?_; (refine' E_name ?hv45 ?_; (case hv45 => exact rfl)); refine E_un ?_; refine E_int ?_; refine O_neg ?_; refine Su_mlst (by exact List.Mem.head _) (at2 _ _ _) (by simp only [cellsV, List.length_map, List.length_reverse, List.length_cons, List.length_append, List.length_nil]; lia) ?_; refine' M_fn ?hi46 ?a46 ?b46 ?c46 ?d46 ?e46 ?_; (case hi46 => exact .inl rfl); (case a46 => (try dsimp only); k_is); (case b46 => (try dsimp only); k_is); (case c46 => (try dsimp only); k_is); (case d46 => (try dsimp only); k_is); (case e46 => decide); refine Args_plain ?_; refine A_nil ?_; refine WC.of (id_c (by with_reducible assumption) (by exact Gd.le (by with_reducible assumption) rfl)  ?_); (refine' E_name ?hv47 ?_; (case hv47 => exact rfl)); refine O_band ?_; (refine' E_name ?hv48 ?_; (case hv48 => exact rfl)); refine O_ne ?_; refine Tr_bool ?_; rw [if_pos rfl])
              by_cases c2 : Builtin.bitAnd x2.id e₁.mask = Builtin.bitAnd e₁.id e₁.mask
              case neg =>
                rw [if_pos (by show (!decide (Builtin.bitAnd x2.id e₁.mask = Builtin.bitAnd e₁.id e₁.mask)) = true; rw [decide_eq_false c2]; rfl)]
                (refine S_last ?_; refine S_break ?_; refine Then_brk ?_)
                exact ⟨rfl, no (quad_f2 c2) rfl rfl rfl⟩
              rw [if_neg (by show ¬ (!decide (Builtin.bitAnd x2.id e₁.mask = Builtin.bitAnd e₁.id e₁.mask)) = true; rw [decide_eq_true c2]; decide)]
              (refine T_or ?_; refine T_cmp ?_; refine E_bin ?_; refine E_meth ?_; dsimp only; refine E_sub ?_; (refine' E_name ?hv49 ?_; (case hv49 => exact rfl)); refine E_un ?_; refine E_int ?_; refine O_neg ?_; refine Su_mlst (by exact List.Mem.head _) (at1 _ _) (by simp only [cellsV, List.length_map, List.length_reverse, List.length_cons, List.length_append, List.length_nil]; lia) ?_; refine' M_fn ?hi50 ?a50 ?b50 ?c50 ?d50 ?e50 ?_; (case hi50 => exact .inl rfl); (case a50 => (try dsimp only); k_is); (case b50 => (try dsimp only); k_is); (case c50 => (try dsimp only); k_is); (case d50 => (try dsimp only); k_is); (case e50 => decide); refine Args_plain ?_; refine A_nil ?_; refine WC.of (id_c (by with_reducible assumption) (by exact Gd.le (by with_reducible assumption) rfl)  ?_); (refine' E_name ?hv51 ?_; (case hv51 => exact rfl)); refine O_band ?_; (refine' E_name ?hv52 ?_; (case hv52 => exact rfl)); refine O_ne ?_; refine Tr_bool ?_; rw [if_pos rfl])
              by_cases c3 : Builtin.bitAnd x1.id e₁.mask = Builtin.bitAnd e₁.id e₁.mask
              case neg =>
                rw [if_pos (by show (!decide (Builtin.bitAnd x1.id e₁.mask = Builtin.bitAnd e₁.id e₁.mask)) = true; rw [decide_eq_false c3]; rfl)]
                (refine S_last ?_; refine S_break ?_; refine Then_brk ?_)
                exact ⟨rfl, no (quad_f3 c3) rfl rfl rfl⟩
              rw [if_neg (by show ¬ (!decide (Builtin.bitAnd x1.id e₁.mask = Builtin.bitAnd e₁.id e₁.mask)) = true; rw [decide_eq_true c3]; decide)]
              (refine T_or ?_; refine T_val ?_; refine E_meth ?_; dsimp only; (refine' E_name ?hv53 ?_; (case hv53 => exact rfl)); refine' M_fn ?hi54 ?a54 ?b54 ?c54 ?d54 ?e54 ?_; (case hi54 => exact .inl rfl); (case a54 => (try dsimp only); k_is); (case b54 => (try dsimp only); k_is); (case c54 => (try dsimp only); k_is); (case d54 => (try dsimp only); k_is); (case e54 => decide); refine Args_plain ?_; refine A_nil ?_; refine WC.of (is_face_c (by with_reducible assumption) (by exact Gd.le (by with_reducible assumption) rfl) (by with_reducible assumption) ?_); refine Tr_bool ?_; rw [if_pos rfl])
              by_cases c4 : e₁.u = 30
              case pos =>
                rw [if_pos (decide_eq_true c4)]
                (refine S_last ?_; refine S_break ?_; refine Then_brk ?_)
                exact ⟨rfl, no (quad_f4 (decide_eq_true c4)) rfl rfl rfl⟩
              have hu : e₁.u ≠ 30 := c4
              rw [if_neg (by rw [decide_eq_false c4]; decide)]
              (refine T_or_nil ?_; rw [if_neg (by decide)]; refine S_nil ?_; refine Then_next ?_; refine S_cons ?_; refine S_expr ?_; refine E_meth ?_; dsimp only; (refine' E_name ?hv55 ?_; (case hv55 => exact rfl)); refine M_list (by exact List.Mem.head _) PySem.F.slot_list_pop PySem.F.type_list_pop ?_; refine Args_plain ?_; refine A_nil ?_; refine B_pop popU (by simp only [cellsV, List.length_map, List.length_reverse, List.length_cons, List.length_append, List.length_nil]; lia) ?_; dsimp only; refine Then_next ?_; refine S_cons ?_; refine S_expr ?_; refine E_meth ?_; dsimp only; (refine' E_name ?hv56 ?_; (case hv56 => exact rfl)); refine M_list (by exact List.Mem.head _) PySem.F.slot_list_pop PySem.F.type_list_pop ?_; refine Args_plain ?_; refine A_nil ?_; refine B_pop popU (by simp only [cellsV, List.length_map, List.length_reverse, List.length_cons, List.length_append, List.length_nil]; lia) ?_; dsimp only; refine Then_next ?_; refine S_cons ?_; refine S_expr ?_; refine E_meth ?_; dsimp only; (refine' E_name ?hv57 ?_; (case hv57 => exact rfl)); refine M_list (by exact List.Mem.head _) PySem.F.slot_list_pop PySem.F.type_list_pop ?_; refine Args_plain ?_; refine A_nil ?_; refine B_pop popU (by simp only [cellsV, List.length_map, List.length_reverse, List.length_cons, List.length_append, List.length_nil]; lia) ?_; dsimp only; refine Then_next ?_; refine S_last ?_; refine S_assign (by exact .inl ⟨rfl, .head _⟩) ?_; refine E_meth ?_; dsimp only; (refine' E_name ?hv58 ?_; (case hv58 => exact rfl)); refine' M_fn ?hi59 ?a59 ?b59 ?c59 ?d59 ?e59 ?_; (case hi59 => exact .inl rfl); (case a59 => (try dsimp only); k_is); (case b59 => (try dsimp only); k_is); (case c59 => (try dsimp only); k_is); (case d59 => (try dsimp only); k_is); (case e59 => decide); refine Args_plain ?_; refine A_nil ?_; refine WC.of (parent_c (by with_reducible assumption) (by exact Gd.le (by with_reducible assumption) rfl) (by with_reducible assumption) (by with_reducible assumption) ?_); dsimp only)
              refine ⟨_, HasE.conv (e := e₁.par) ⟨rfl, rfl, rfl, rfl⟩, r.length, by simp only [List.length_cons]; lia, e₁.par, r, rfl, rfl, by rw [← hm, merge_yes (quad_t c0 c1 c2 c3 hu)], Cel.par_ok he1 hu, fun x hx => hok1 x (.tail _ (.tail _ (.tail _ hx))), by simp only [List.length_cons] at hl1; lia⟩
          case rest3 =>
            rintro F Y ⟨rfl, hE⟩
            have hl5 := (merge_ok st2 e heok hst2).2.2
            revert hE hl5
            generalize (merge e st2).1 = e3
            generalize (merge e st2).2 = st3
            intro hE hl5
            have hl6 : st3.length < 64 := by lia
            refine Then_next (WT.pre hE.conv ?_)
            (refine S_last ?_; refine S_expr ?_; refine E_meth ?_; dsimp only; (refine' E_name ?hv60 ?_; (case hv60 => exact rfl)); refine M_list (by exact List.Mem.head _) PySem.F.slot_list_append PySem.F.type_list_append ?_; refine Args_plain ?_; refine A_cons ?_; (refine' E_name ?hv61 ?_; (case hv61 => exact rfl)); refine A_nil ?_; refine B_append (by exact SUpd.head) (by simp only [cellsV, List.length_map, List.length_reverse, List.length_cons, List.length_append, List.length_nil]; lia) ?_; dsimp only)
            exact ⟨_, HasE.conv2 ⟨by rw [oS, cellsV_cons], rfl, rfl, rfl⟩, rfl⟩
  case fin =>
    intro Y hY
    subst hY
    have et : (cs'.take (cellsV cs').length).foldl nstep [] = (nfold cs').reverse := by
      rw [List.length_map, List.take_length]; unfold nfold; rw [List.reverse_reverse]
    rw [et]
    have hlen : cs'.length = cs.length := hp'.length_eq
    have hln : (nfold cs').length ≤ cs'.length := by
      unfold nfold
      have := nstep_len cs' []
      simpa using this
    have hl64 : (nfold cs').length < 64 := by lia
    have hl65 : cs'.length < 64 := by lia
    (refine Then_next ?_; dsimp only; refine S_cons ?_; refine S_if ?_; refine T_cmp ?_; refine E_call ?_; dsimp only; (refine' E_builtin (v := .builtin ?id62) ?hk62 ?e62 ?hv62 ?hn62 ?_; (case hk62 => exact rfl); (case e62 => (try dsimp only); k_is); (case hv62 => exact rfl); (case hn62 => decide)); dsimp only; refine C_raw keeper_builtin ?_; refine Args_plain ?_; refine A_cons ?_; (refine' E_name ?hv63 ?_; (case hv63 => exact rfl)); refine A_nil ?_; refine B_len_mlst (by refine' List.Mem.tail _ ?_; exact List.Mem.head _) (by simp only [cellsV, List.length_map, List.length_reverse, List.length_cons, List.length_append, List.length_nil]; lia) ?_; refine E_meth ?_; dsimp only; (refine' E_name ?hv64 ?_; (case hv64 => exact rfl)); refine' M_fn ?hi66 ?a66 ?b66 ?c66 ?d66 ?e66 ?_; (case hi66 => refine' IsInst.turn ?hm65; (case hm65 => refine' List.Mem.tail _ ?_; refine' List.Mem.tail _ ?_; refine' List.Mem.tail _ ?_; exact List.Mem.head _)); (case a66 => (try dsimp only); k_is); (case b66 => (try dsimp only); k_is); (case c66 => (try dsimp only); k_is); (case d66 => (try dsimp only); k_is); (case e66 => decide); refine Args_plain ?_; refine A_nil ?_; refine WC.of (numM_c (by with_reducible assumption) (by exact Gd.le (by with_reducible assumption) rfl) (by refine' List.Mem.tail _ ?_; refine' List.Mem.tail _ ?_; refine' List.Mem.tail _ ?_; exact List.Mem.head _) (by exact List.Mem.head _) (by simp only [cellsV, List.length_map, List.length_reverse, List.length_cons, List.length_append, List.length_nil]; lia) ?_); refine O_lt ?_; refine Tr_bool ?_)
    by_cases hq : (nfold cs').length < cs.length
    · rw [if_pos (by simp only [cellsV, List.length_map, List.length_reverse, decide_eq_true_eq]; lia)]
      (refine S_cons ?_; refine S_assignT ?_; (refine' E_name ?hv67 ?_; (case hv67 => exact rfl)); refine A_attr ?_; dsimp only; (refine' E_name ?hv68 ?_; (case hv68 => exact rfl)); dsimp only)
      refine ⟨u, 590, d, [cidS], [.raw (.ref la)], (la, .lst (cellsV cs')) :: (o, .lst (cellsV (nfold cs').reverse.reverse)) :: (561, tabM) :: (u, uniM d o) :: σ₀, rfl, .tail (.tail (.tail .head)), (by show 1 ≤ 100; decide), by ((try dsimp only); k_is), by ((try dsimp only); k_is), by ((try dsimp only); k_is), by ((try dsimp only); k_is), ?_⟩
      (refine Then_next ?_; refine S_last ?_; refine S_return ?_; refine E_bool ?_; refine Then_ret ?_; dsimp only)
      rw [List.reverse_reverse]
      exact hT o cs' hp' hs' hq
    · rw [if_neg (by simp only [cellsV, List.length_map, List.length_reverse, decide_eq_true_eq]; lia)]
      (refine S_nil ?_; refine Then_next ?_; refine S_last ?_; refine S_return ?_; refine E_bool ?_; dsimp only)
      show Q (.bool false) ⟨(la, .lst (cellsV cs')) :: (o, .lst (cellsV (nfold cs').reverse.reverse)) :: (561, tabM) :: (u, uniM d la) :: σ₀, m₀⟩
      rw [List.reverse_reverse]
      exact hF o cs' hp' hs' hq
theorem normalize_c {c : Cx} {Q : AV → AX → Prop} {σ₀ : List (Addr × MO)} {m₀ : List (Str × AV)} {u d la : Addr} {cs : List Cel} (L : Lw c) (G : Gd c.A 8) (hok : ∀ e ∈ cs, e.ok) (h64 : cs.length < 64)
    (h : ∀ lb cs', cs'.Perm cs → cs'.Pairwise (fun a b => a.id ≤ b.id) → Q (.bool (decide ((nfold cs').length < cs.length))) ⟨(lb, .lst (cellsV (if (nfold cs').length < cs.length then nfold cs' else cs'))) :: (u, uniM d lb) :: (561, tabM) :: σ₀, m₀⟩) :
    WF c (.ref 566) [.raw (.ref u)] [] Q ⟨(la, .lst (cellsV cs)) :: (u, uniM d la) :: (561, tabM) :: σ₀, m₀⟩ := by
  refine WF.conv (normalize_a L G hok h64 (fun o cs' hp hs hq => ?_) fun o cs' hp hs hq => ?_)
  · have := h o cs' hp hs
    rw [if_pos hq, decide_eq_true hq] at this
    refine ⟨_, _, (ConvV.weak (X := ⟨(la, .lst (cellsV cs')) :: (o, .lst (cellsV (nfold cs'))) :: (561, tabM) :: (u, uniM d o) :: σ₀, m₀⟩) (Y := ⟨(o, .lst (cellsV (nfold cs'))) :: (561, tabM) :: (u, uniM d o) :: σ₀, m₀⟩) (List.sublist_cons_self _ _) fun _ _ e => e).trans (ConvV.perm (τ := (o, .lst (cellsV (nfold cs'))) :: (u, uniM d o) :: (561, tabM) :: σ₀) ?_), this⟩
    exact (List.Perm.swap _ _ _).cons _
  · have := h la cs' hp hs
    rw [if_neg hq, decide_eq_false hq] at this
    refine ⟨_, _, (ConvV.weak (X := ⟨(la, .lst (cellsV cs')) :: (o, .lst (cellsV (nfold cs'))) :: (561, tabM) :: (u, uniM d la) :: σ₀, m₀⟩) (Y := ⟨(la, .lst (cellsV cs')) :: (561, tabM) :: (u, uniM d la) :: σ₀, m₀⟩) ((List.sublist_cons_self _ _).cons_cons _) fun _ _ e => e).trans (ConvV.perm (τ := (la, .lst (cellsV cs')) :: (u, uniM d la) :: (561, tabM) :: σ₀) ?_), this⟩
    exact (List.Perm.swap _ _ _).cons _
theorem initU_c {c : Cx} {Q : AV → AX → Prop} {σ₀ : List (Addr × MO)} {m₀ : List (Str × AV)} {u d : Addr} {cs : List Cel} (L : Lw c) (G : Gd c.A 10) (hok : ∀ e ∈ cs, e.ok) (h64 : cs.length < 64)
    (h : ∀ lb cs', cs'.Perm cs → cs'.Pairwise (fun a b => a.id ≤ b.id) → Q .none ⟨(lb, .lst (cellsV (if (nfold cs').length < cs.length then nfold cs' else cs'))) :: (u, uniM d lb) :: (561, tabM) :: σ₀, m₀⟩) :
    WF c (.ref 470) [.raw (.ref u), .lst (cellsV cs)] [] Q ⟨(u, .inst 590 d [] []) :: (561, tabM) :: σ₀, m₀⟩ := by
  (have _ : PySem.Challenge.rw_lp0003_08 = PySem.Challenge.rw_lp0003_08 → ∀ w : World, (hd8.heap_1 w.params).In default → True := by (k_fill; intros; trivial))
  have L₀ := L
  obtain ⟨P, w, K, g, A, env, own, E, fx⟩ := c
  obtain ⟨hP, hK, hC, hN⟩ := L
  dsimp only at hP hK hC hN G
  subst hP hK
  refine' WF.go (M := [((Str.ofString "self"), .raw (.ref u)), ((Str.ofString "cell_ids"), .lst (cellsV cs)), ((Str.ofString "raw"), .bool true)]) G ?k1 ?k2 ?k3 ?k4 ?k5 ?k6 ?k7 ?k8 ?_
  case k1 => ((try dsimp only); k_is)
  case k2 => ((try dsimp only); k_is)
  case k3 => exact bind2d (d := .bool true) (fun s v u X => binds_K X rfl (by ((try dsimp only); k_is)) rfl rfl rfl) fun _ => .bool _
  case k4 => rfl
  case k5 => decide
  case k6 => rfl
  case k7 => rfl
  case k8 => rfl
  intro F c' kn he ho ok G'
  have L' := L₀.kin kn
  obtain ⟨P', w', K', g', A', env', own', E', fx'⟩ := c'
  obtain ⟨f1, f2, f3, f4, f5⟩ := kn
  dsimp only at f1 f2 f3 f4 f5 he ho G'
  subst f1 f2 f3 f4 f5 he ho
  clear L₀
  simp only [List.reverse_cons, List.reverse_nil, List.nil_append, List.cons_append]
  (refine S_last ?_; refine S_if ?_; refine T_cmp ?_; (refine' E_name ?hv1 ?_; (case hv1 => exact rfl)); refine E_none ?_; refine O_isNo lst_some ?_; refine Tr_bool ?_; rw [if_neg (by decide)]; refine S_cons ?_; refine S_assignT ?_)
  refine' E_map (X₁ := ⟨(u, .inst 590 d [] []) :: (561, tabM) :: σ₀, [(Str.ofString "raw", .bool true), (Str.ofString "cell_ids", .lst (cellsV cs)), (Str.ofString "self", .raw (.ref u))]⟩) (xs := cellsV cs) (ys := cellsV cs) [] ?i rfl ?z (fun p h => nomatch h) ?ifs ?item ?q ?nd ?free ?cell ?kind ?names ?as ?f
  ((case nd => decide); (case free => exact freeOk rfl); (case cell => decide); (case kind => rfl); (case names => decide); (case as => rfl); (case f => intro x; rfl); (case ifs => rfl))
  case i =>
    ((refine' E_name ?hv2 ?_; (case hv2 => exact rfl)); dsimp only)
    exact I_lst ⟨rfl, rfl, rfl⟩
  case z => rw [List.length_map]; lia
  case item =>
    intro C D i x y okC hx hy
    rw [hx] at hy; cases hy
    obtain ⟨e, he, rfl⟩ := cellsV_get hx
    dsimp only [Cx.block]
    (refine A_name (by exact .inl ⟨rfl, .head _⟩) ?_; dsimp only; refine E_ifexp ?_; refine T_val ?_; refine E_call ?_; dsimp only; (refine' E_builtin (v := .builtin ?id3) ?hk3 ?e3 ?hv3 ?hn3 ?_; (case hk3 => exact rfl); (case e3 => (try dsimp only); k_is); (case hv3 => exact rfl); (case hn3 => decide)); dsimp only; refine C_raw keeper_builtin ?_; refine Args_plain ?_; refine A_cons ?_; (refine' E_name ?hv4 ?_; (case hv4 => exact rfl)); refine A_cons ?_; (refine' E_global ?hk5 ?e5 ?_; (case hk5 => exact rfl); (case e5 => (try dsimp only); k_is)); refine A_nil ?_; refine' B_isi ?hi6 ?a6 ?_; (case hi6 => exact .inl rfl); (case a6 => (try dsimp only); k_is); refine Tr_bool ?_; rw [if_pos rfl]; (refine' E_name ?hv7 ?_; (case hv7 => exact rfl)); dsimp only)
    exact ⟨rfl, rfl, fun p h => nomatch h⟩
  case q =>
    intro la
    (refine A_attr ?_; dsimp only; (refine' E_name ?hv8 ?_; (case hv8 => exact rfl)); dsimp only)
    refine ⟨u, 590, d, [], [], (la, .lst (cellsV cs)) :: (u, uniM d la) :: (561, tabM) :: σ₀, rfl, .tail .head, by decide, by ((try dsimp only); k_is), by ((try dsimp only); k_is), by ((try dsimp only); k_is), by ((try dsimp only); k_is), ?_⟩
    (refine Then_next ?_; refine S_last ?_; refine S_if ?_; refine T_val ?_; (refine' E_name ?hv9 ?_; (case hv9 => exact rfl)); refine Tr_bool ?_; rw [if_pos rfl]; refine S_last ?_; refine S_expr ?_; refine E_meth ?_; dsimp only; (refine' E_name ?hv10 ?_; (case hv10 => exact rfl)); refine' M_fn ?hi12 ?a12 ?b12 ?c12 ?d12 ?e12 ?_; (case hi12 => refine' IsInst.turn ?hm11; (case hm11 => refine' List.Mem.tail _ ?_; exact List.Mem.head _)); (case a12 => (try dsimp only); k_is); (case b12 => (try dsimp only); k_is); (case c12 => (try dsimp only); k_is); (case d12 => (try dsimp only); k_is); (case e12 => decide); refine Args_plain ?_; refine A_nil ?_)
    refine WC.of (normalize_c (by (with_reducible assumption)) (by (exact Gd.le (by with_reducible assumption) rfl)) hok h64 fun lb cs' hp hs => ?_)
    skip
    exact h lb cs' hp hs
theorem newU_c {c : Cx} {Q : AV → AX → Prop} {σ₀ : List (Addr × MO)} {m₀ : List (Str × AV)} {cs : List Cel} (L : Lw c) (G : Gd c.A 11) (hok : ∀ e ∈ cs, e.ok) (h64 : cs.length < 64)
    (h : ∀ cs', cs'.Perm cs → cs'.Pairwise (fun a b => a.id ≤ b.id) → Q (.uni (if (nfold cs').length < cs.length then nfold cs' else cs')) ⟨(561, tabM) :: σ₀, m₀⟩) :
    WF c (.ref 590) [.lst (cellsV cs)] [] Q ⟨(561, tabM) :: σ₀, m₀⟩ := by
  (have _ : PySem.Challenge.rw_lp0003_08 = PySem.Challenge.rw_lp0003_08 → ∀ w : World, (hd8.heap_1 w.params).In default → True := by (k_fill; intros; trivial))
  have L₀ := L
  obtain ⟨P, w, K, g, A, env, own, E, fx⟩ := c
  obtain ⟨hP, hK, hC, hN⟩ := L
  dsimp only at hP hK hC hN G
  subst hP hK
  refine' WF.conv (WF.new ?k1 ?k2 ?k3 G ?_)
  case k1 => ((try dsimp only); k_is)
  case k2 => ((try dsimp only); k_is)
  case k3 => ((try dsimp only); k_is)
  intro a dd c' kn he ho ok G'
  refine initU_c (L₀.kin kn) G' hok h64 fun lb cs' hp hs => ⟨rfl, _, _, ?_, h cs' hp hs⟩
  refine ConvV.trans (V' := .raw (.ref a)) (X' := ⟨(a, .inst 590 dd [cidS] [.lst (cellsV (if (nfold cs').length < cs.length then nfold cs' else cs'))]) :: (561, tabM) :: σ₀, m₀⟩) ?_ (ConvV.freeze (m' := m₀) .head rfl .here fun x V e => ⟨V, e, .same V⟩)
  exact ConvV.freezeIn (X := ⟨(lb, .lst (cellsV (if (nfold cs').length < cs.length then nfold cs' else cs'))) :: (a, uniM dd lb) :: (561, tabM) :: σ₀, m₀⟩) .head rfl .head (.inst (.cons .here .nil)) (.same _) fun x V e => ⟨V, e, .same V⟩
theorem cellids_c {c : Cx} {Q : AV → AX → Prop} {X : AX} {cs : List Cel} (L : Lw c) (G : Gd c.A 1)  (h : Q (.lst (cellsV cs)) X) : WF c (.ref 559) [.uni cs] [] Q X := by
  (have _ : PySem.Challenge.rw_lp0003_08 = PySem.Challenge.rw_lp0003_08 → ∀ w : World, (hd8.heap_1 w.params).In default → True := by (k_fill; intros; trivial))
  have L₀ := L
  obtain ⟨P, w, K, g, A, env, own, E, fx⟩ := c
  obtain ⟨hP, hK, hC, hN⟩ := L
  dsimp only at hP hK hC hN G
  subst hP hK
  refine' WF.go (M := [((Str.ofString "self"), .uni cs)]) G ?k1 ?k2 ?k3 ?k4 ?k5 ?k6 ?k7 ?k8 ?_
  case k1 => ((try dsimp only); k_is)
  case k2 => ((try dsimp only); k_is)
  case k3 => exact bind1 fun s v X => .of_eq rfl
  case k4 => rfl
  case k5 => decide
  case k6 => rfl
  case k7 => rfl
  case k8 => rfl
  intro F c' kn he ho ok G'
  have L' := L₀.kin kn
  obtain ⟨P', w', K', g', A', env', own', E', fx'⟩ := c'
  obtain ⟨f1, f2, f3, f4, f5⟩ := kn
  dsimp only at f1 f2 f3 f4 f5 he ho G'
  subst f1 f2 f3 f4 f5 he ho
  clear L₀
  simp only [List.reverse_cons, List.reverse_nil, List.nil_append, List.cons_append]
  (refine S_last ?_; refine S_return ?_; refine E_attr ?_; (refine' E_name ?hv4 ?_; (case hv4 => exact rfl)); refine' G_own (ca := none) ?hi5 ?a5 ?b5 ?c5 ?d5 ?e5 ?f5 ?_; (case hi5 => exact .inl rfl); (case a5 => (try dsimp only); k_is); (case b5 => (try dsimp only); k_is); (case c5 => (try dsimp only); k_is); (case d5 => (try dsimp only); k_is); (case e5 => exact rfl); (case f5 => exact rfl); dsimp only)
  exact h
theorem ids_eq (cs ds : List Cel) : ((cellsV cs).length == (cellsV ds).length && (List.range (cellsV cs).length).all fun i => decide ((cs.map Cel.id)[i]? = (ds.map Cel.id)[i]?)) = decide (cs.map Cel.id = ds.map Cel.id) := by
  rw [Bool.eq_iff_iff]
  simp only [Bool.and_eq_true, beq_iff_eq, List.all_eq_true, decide_eq_true_eq, List.length_map, List.mem_range]
  constructor
  · rintro ⟨h1, h2⟩
    refine List.ext_getElem? fun i => ?_
    by_cases hi : i < cs.length
    · exact h2 i hi
    · rw [List.getElem?_eq_none (by simp; lia), List.getElem?_eq_none (by simp; lia)]
  · intro h
    refine ⟨by have := congrArg List.length h; simpa using this, fun i _ => by rw [h]⟩
theorem cell_same {S : Sto} {hp : Heap} (hS : ∀ b o, S b o → hp.get? b = some o) {v : Value} {n k : Int} (h : Rep S v (.cell n)) (h' : Rep S v (.cell k)) : n = k := by
  obtain ⟨a, d, es, ep, rfl, h1, h2, h3⟩ := h.inst_inv
  obtain ⟨a', d', es', ep', e, g1, g2, g3⟩ := h'.inst_inv
  cases e
  have e1 := hS _ _ h1
  rw [hS _ _ g1] at e1
  cases e1
  have e2 := hS _ _ h2
  rw [hS _ _ g2] at e2
  cases e2
  obtain ⟨e, r, t, rfl, _, r1, _⟩ := h3.cons_inv
  obtain ⟨e', r', t', q, _, r2, _⟩ := g3.cons_inv
  cases q
  obtain ⟨t1, e1⟩ := r1.int_inv
  obtain ⟨t2, e2⟩ := r2.int_inv
  rw [e1] at e2
  cases e2; rfl
theorem ueq_c {c : Cx} {Q : AV → AX → Prop} {X : AX} {cs ds : List Cel} (L : Lw c) (G : Gd c.A 4)  (h : Q (.bool (decide (cs.map Cel.id = ds.map Cel.id))) X) : WF c (.ref 477) [.uni cs, .uni ds] [] Q X := by
  (have _ : PySem.Challenge.rw_lp0003_08 = PySem.Challenge.rw_lp0003_08 → ∀ w : World, (hd8.heap_1 w.params).In default → True := by (k_fill; intros; trivial))
  have L₀ := L
  obtain ⟨P, w, K, g, A, env, own, E, fx⟩ := c
  obtain ⟨hP, hK, hC, hN⟩ := L
  dsimp only at hP hK hC hN G
  subst hP hK
  refine' WF.go (M := [((Str.ofString "self"), .uni cs), ((Str.ofString "other"), .uni ds)]) G ?k1 ?k2 ?k3 ?k4 ?k5 ?k6 ?k7 ?k8 ?_
  case k1 => ((try dsimp only); k_is)
  case k2 => ((try dsimp only); k_is)
  case k3 => exact bind2 fun s v u X => .of_eq rfl
  case k4 => rfl
  case k5 => decide
  case k6 => rfl
  case k7 => rfl
  case k8 => rfl
  intro F c' kn he ho ok G'
  have L' := L₀.kin kn
  obtain ⟨P', w', K', g', A', env', own', E', fx'⟩ := c'
  obtain ⟨f1, f2, f3, f4, f5⟩ := kn
  dsimp only at f1 f2 f3 f4 f5 he ho G'
  subst f1 f2 f3 f4 f5 he ho
  clear L₀
  simp only [List.reverse_cons, List.reverse_nil, List.nil_append, List.cons_append]
  (refine S_last ?_; refine S_return ?_; refine E_and ?_; refine E_call ?_; dsimp only; (refine' E_builtin (v := .builtin ?id6) ?hk6 ?e6 ?hv6 ?hn6 ?_; (case hk6 => exact rfl); (case e6 => (try dsimp only); k_is); (case hv6 => exact rfl); (case hn6 => decide)); dsimp only; refine C_raw keeper_builtin ?_; refine Args_plain ?_; refine A_cons ?_; (refine' E_name ?hv7 ?_; (case hv7 => exact rfl)); refine A_cons ?_; refine E_attr ?_; (refine' E_name ?hv8 ?_; (case hv8 => exact rfl)); refine' G_class ?hi9 ?a9 ?b9 ?c9 ?d9 ?e9 ?f9 ?_; (case hi9 => exact .inl rfl); (case a9 => (try dsimp only); k_is); (case b9 => (try dsimp only); k_is); (case c9 => (try dsimp only); k_is); (case d9 => (try dsimp only); k_is); (case e9 => (try dsimp only); k_is); (case f9 => (try dsimp only); k_is); skip; refine A_nil ?_; refine' B_isi ?hi10 ?a10 ?_; (case hi10 => exact .inl rfl); (case a10 => (try dsimp only); k_is); refine Tr_bool ?_; dsimp only; rw [if_pos rfl]; refine E_cmp ?_; refine E_attr ?_; (refine' E_name ?hv11 ?_; (case hv11 => exact rfl)); refine' G_own (ca := none) ?hi12 ?a12 ?b12 ?c12 ?d12 ?e12 ?f12 ?_; (case hi12 => exact .inl rfl); (case a12 => (try dsimp only); k_is); (case b12 => (try dsimp only); k_is); (case c12 => (try dsimp only); k_is); (case d12 => (try dsimp only); k_is); (case e12 => exact rfl); (case f12 => exact rfl); refine E_attr ?_; (refine' E_name ?hv13 ?_; (case hv13 => exact rfl)); refine' G_own (ca := none) ?hi14 ?a14 ?b14 ?c14 ?d14 ?e14 ?f14 ?_; (case hi14 => exact .inl rfl); (case a14 => (try dsimp only); k_is); (case b14 => (try dsimp only); k_is); (case c14 => (try dsimp only); k_is); (case d14 => (try dsimp only); k_is); (case e14 => exact rfl); (case f14 => exact rfl))
  rw [← ids_eq] at h
  refine' O_eqInst (C := 453) (f := 85) (ks := [Str.ofString "_CellId__id"]) (d := 2) ?a1 ?a2 ?a3 ?a4 ?a5 ?a6 ?a7 ?a8 h
  case a1 => exact G'.le rfl
  case a2 => intro i U hU; obtain ⟨e, _, rfl⟩ := cellsV_get hU; exact ⟨_, .inl rfl⟩
  case a3 => intro i U hU; obtain ⟨e, _, rfl⟩ := cellsV_get hU; exact ⟨_, .inl rfl⟩
  case a4 => ((try dsimp only); k_is)
  case a5 => ((try dsimp only); k_is)
  case a6 => ((try dsimp only); k_is)
  case a7 =>
    intro i U W hU hW
    obtain ⟨e, he, rfl⟩ := cellsV_get hU
    obtain ⟨k, hk, rfl⟩ := cellsV_get hW
    refine eq_c (by (exact ⟨rfl, rfl, by assumption, by assumption⟩)) (Gd.in1 (d := 2) (G'.le rfl)) ⟨?_, rfl⟩
    rw [List.getElem?_map, List.getElem?_map, he, hk]
    simp
  case a8 =>
    intro S hp i U W v hS hU hW rU rW
    obtain ⟨e, he, rfl⟩ := cellsV_get hU
    obtain ⟨k, hk, rfl⟩ := cellsV_get hW
    have : e.id = k.id := cell_same hS rU rW
    rw [List.getElem?_map, List.getElem?_map, he, hk]
    simp [this]
abbrev Sd (cs : List Cel) : Prop := cs.Pairwise fun a b => a.id ≤ b.id
theorem atI_nat {xs : List AV} {i : Nat} {V : AV} (h : xs[i]? = some V) : atI xs i = some V := by
  unfold atI
  rw [if_pos (by lia)]
  exact h
theorem Conv.names {c : Cx} {X : AX} (l : List (Str × AV)) (h : ∀ p ∈ l, X.m.lookup p.1 = some p.2) : Conv c X ⟨X.σ, l⟩ := Conv.weak (List.Sublist.refl _) (look_of h)
theorem upto_at {n i : Nat} {x : AV} (h : (upto n)[i]? = some x) : i < n ∧ x = .int i := by
  have hl := (List.getElem?_eq_some_iff.mp h).1
  have hl : i < n := by simpa [upto] using hl
  simp [upto, hl] at h
  exact ⟨hl, h.symm⟩
def nrm (cs : List Cel) : List Cel := if (nfold cs).length < cs.length then nfold cs else cs
theorem tw {p : Cel → Bool} : ∀ (D : List Cel) (m : Nat), (∀ c ∈ D.take m, p c = true) → (∀ c, D[m]? = some c → p c = false) → D.takeWhile p = D.take m
  | [], m, _, _ => by simp
  | a :: r, 0, _, h2 => by rw [List.takeWhile_cons, h2 a rfl]; rfl
  | a :: r, m + 1, h1, h2 => by
    rw [List.takeWhile_cons, h1 a (by simp), if_pos rfl, List.take_succ_cons, tw r m (fun c hc => h1 c (by rw [List.take_succ_cons]; exact .tail _ hc)) fun c hc => h2 c (by simpa using hc)]
theorem WC.convArg {c : Cx} {X X' : AX} {Q : AV → AX → Prop} {f : Value} {V V' : AV} (h : ConvV c V X V' X') (k : WC c f [V'] [] Q X') : WC c f [V] [] Q X := by
  intro B S s vs kw ok r rk st
  obtain ⟨v, e1, rv⟩ := one_arg r
  subst e1
  obtain ⟨S', le, rv', st'⟩ := h B S s v rv st
  exact wpAny_mono (k B S' s [v] kw ok (.cons rv' .nil) ⟨rk.1, rk.2.mono le⟩ st') (fun _ _ p => p.up le) fun _ _ e => e
theorem newU_n {c : Cx} {Q : AV → AX → Prop} {σ₀ : List (Addr × MO)} {m₀ : List (Str × AV)} {cs : List Cel} (L : Lw c) (G : Gd c.A 11) (hok : ∀ e ∈ cs, e.ok) (h64 : cs.length < 64)
    (h : ∀ cs', cs'.Perm cs → Sd cs' → Q (.uni (nrm cs')) ⟨(561, tabM) :: σ₀, m₀⟩) : WF c (.ref 590) [.lst (cellsV cs)] [] Q ⟨(561, tabM) :: σ₀, m₀⟩ :=
  newU_c L G hok h64 fun cs' hp hs => by
    have := h cs' hp hs
    unfold nrm at this
    rw [hp.length_eq] at this
    exact this
def row1 (p : Int × Int) (qs : List (Int × Int)) : List (Int × Int) := (qs.filter fun q => decide (max p.1 q.1 < min p.2 q.2)).map fun q => (max p.1 q.1, min p.2 q.2)
def both (ps qs : List (Int × Int)) : List (Int × Int) := ps.flatMap fun p => row1 p qs
theorem pow4_pos (u : Nat) : (0 : Int) < 4 ^ u := Int.pow_pos (by decide)
theorem pow4_cast (u : Nat) : (4 : Int) ^ u = ((4 ^ u : Nat) : Int) := by simp
structure CutI (low high : Int) (cs : List Cel) : Prop where
  ok : ∀ c ∈ cs, c.ok
  rng : ∀ c ∈ cs, low ≤ c.lo ∧ (c.hi : Int) ≤ high
  asc : Asc cs
  lf : ∀ x : Nat, Lf cs x ↔ low ≤ x ∧ (x : Int) < high
  mx : ∀ c ∈ cs, ∀ q : Cel, q.u ≤ 30 → low ≤ q.lo → (q.hi : Int) ≤ high → c.sub q → c = q
/-! spans apart from one another -/
def Sp1 (p : Int × Int) : Prop := 0 ≤ p.1 ∧ p.1 < p.2 ∧ p.2 ≤ 6 * 4 ^ 30
structure Sep (ps : List (Int × Int)) : Prop where
  pw : ps.Pairwise fun a b => a.2 < b.1
  ok : ∀ p ∈ ps, Sp1 p
def Ls (ps : List (Int × Int)) (x : Nat) : Prop := ∃ p ∈ ps, p.1 ≤ x ∧ (x : Int) < p.2
theorem Ls_cons {p : Int × Int} {ps : List (Int × Int)} {x : Nat} : Ls (p :: ps) x ↔ (p.1 ≤ x ∧ (x : Int) < p.2) ∨ Ls ps x := by
  unfold Ls; simp only [List.mem_cons, exists_eq_or_imp]
theorem Ls_nil {x : Nat} : ¬ Ls [] x := fun ⟨_, h, _⟩ => nomatch h
theorem Sep.uniq : ∀ {ps qs : List (Int × Int)}, Sep ps → Sep qs → (∀ x, Ls ps x ↔ Ls qs x) → ps = qs
  | [], [], _, _, _ => rfl
  | [], q :: _, _, h, e => by
    have := h.ok q (.head _)
    unfold Sp1 at this
    exact absurd ((e q.1.toNat).mpr ⟨q, .head _, by lia, by lia⟩) Ls_nil
  | p :: _, [], h, _, e => by
    have := h.ok p (.head _)
    unfold Sp1 at this
    exact absurd ((e p.1.toNat).mp ⟨p, .head _, by lia, by lia⟩) Ls_nil
  | p :: r, q :: t, h, k, e => by
    have wp := List.pairwise_cons.mp h.pw
    have wq := List.pairwise_cons.mp k.pw
    have hp := h.ok p (.head _)
    have hq := k.ok q (.head _)
    unfold Sp1 at hp hq
    have lowp : ∀ x, Ls (p :: r) x → p.1 ≤ x := fun x ⟨a, ha, a1, a2⟩ => by
      rcases List.mem_cons.mp ha with rfl | ha
      · exact a1
      · have := wp.1 a ha; lia
    have lowq : ∀ x, Ls (q :: t) x → q.1 ≤ x := fun x ⟨a, ha, a1, a2⟩ => by
      rcases List.mem_cons.mp ha with rfl | ha
      · exact a1
      · have := wq.1 a ha; lia
    have e1 : p.1 = q.1 := by
      have a := lowq p.1.toNat ((e _).mp ⟨p, .head _, by lia, by lia⟩)
      have b := lowp q.1.toNat ((e _).mpr ⟨q, .head _, by lia, by lia⟩)
      lia
    have e2 : p.2 = q.2 := by
      rcases Int.lt_trichotomy p.2 q.2 with z | z | z
      · obtain ⟨a, ha, a1, a2⟩ := (e p.2.toNat).mpr ⟨q, .head _, by lia, by lia⟩
        rcases List.mem_cons.mp ha with rfl | ha
        · lia
        · have := wp.1 a ha; lia
      · exact z
      · obtain ⟨a, ha, a1, a2⟩ := (e q.2.toNat).mp ⟨p, .head _, by lia, by lia⟩
        rcases List.mem_cons.mp ha with rfl | ha
        · lia
        · have := wq.1 a ha; lia
    have epq : p = q := Prod.ext e1 e2
    subst epq
    rw [Sep.uniq (ps := r) (qs := t) ⟨wp.2, fun a ha => h.ok a (.tail _ ha)⟩ ⟨wq.2, fun a ha => k.ok a (.tail _ ha)⟩ fun x => ?_]
    constructor
    · rintro ⟨a, ha, a1, a2⟩
      have := wp.1 a ha
      rcases Ls_cons.mp ((e x).mp (Ls_cons.mpr (.inr ⟨a, ha, a1, a2⟩))) with z | z
      · lia
      · exact z
    · rintro ⟨a, ha, a1, a2⟩
      have := wq.1 a ha
      rcases Ls_cons.mp ((e x).mpr (Ls_cons.mpr (.inr ⟨a, ha, a1, a2⟩))) with z | z
      · lia
      · exact z
structure JI (S : Nat → Prop) (st : List (Int × Int)) : Prop where
  pw : st.Pairwise fun a b => b.2 < a.1
  ok : ∀ p ∈ st, Sp1 p
  lf : ∀ x, Ls st x ↔ S x
/-! the leaves of both -/
/-! a union and a cell -/
theorem nrm_eq {cs : List Cel} (ho : ∀ e ∈ cs, e.ok) (hs : Sd cs) : Least (Lf cs) (nrm cs) := nrm_least ho hs
section
variable {C D : List Cel} {F G : List (Int × Int)} {l : Int × Int} {b : Bool}
end
theorem low_odd {p u : Nat} (hu : u < 16) : ∃ q, ((2 * p + 1) * 4 ^ u) % 2 ^ 32 = (2 * q + 1) * 4 ^ u := by
  refine ⟨p % 2 ^ (31 - 2 * u), ?_⟩
  have e : (2 : Nat) ^ 32 = (2 * 2 ^ (31 - 2 * u)) * 4 ^ u := by
    rw [four_pow, ← Nat.pow_succ', ← Nat.pow_add]; congr 1; lia
  rw [e, Nat.mul_mod_mul_right]
  congr 1
  have hK : 0 < 2 ^ (31 - 2 * u) := Nat.two_pow_pos _
  generalize 2 ^ (31 - 2 * u) = K at hK
  have h1 := Nat.div_add_mod p K
  have h2 := Nat.mod_lt p hK
  generalize p / K = t at h1
  generalize p % K = r at h1 h2
  have h3 : 2 * p + 1 = 2 * K * t + (2 * r + 1) := by rw [← h1, Nat.mul_assoc]; lia
  rw [h3, Nat.mul_add_mod]
  exact Nat.mod_eq_of_lt (by lia)
theorem high_pow {u : Nat} (hu : 16 ≤ u) : (4 : Nat) ^ u = 4 ^ (u - 16) * 2 ^ 32 := by
  rw [four_pow, four_pow, ← Nat.pow_add]; congr 1; lia
theorem bitAnd_32 (x : Nat) : Builtin.bitAnd (x : Int) 4294967295 = ((x % 2 ^ 32 : Nat) : Int) := by
  have : (4294967295 : Int) = ((2 ^ 32 - 1 : Nat) : Int) := by decide
  rw [this, bitAnd_nn, Nat.and_two_pow_sub_one_eq_mod]
theorem lowW (c : Cel) (hu : c.u < 16) : ∃ q : Nat, Builtin.bitAnd c.id 4294967295 = (((2 * q + 1) * 4 ^ c.u : Nat) : Int) := by
  obtain ⟨q, h⟩ := low_odd (p := c.p) hu
  exact ⟨q, by show Builtin.bitAnd (((2 * c.p + 1) * 4 ^ c.u : Nat) : Int) _ = _; rw [bitAnd_32, h]⟩
theorem lowZ (c : Cel) (hu : 16 ≤ c.u) : Builtin.bitAnd c.id 4294967295 = 0 := by
  show Builtin.bitAnd (((2 * c.p + 1) * 4 ^ c.u : Nat) : Int) _ = _
  rw [bitAnd_32, high_pow hu, ← Nat.mul_assoc, Nat.mul_mod_left]; rfl
theorem highW {c : Cel} (h : c.ok) (hu : 16 ≤ c.u) : ∃ q : Nat, Builtin.bitAnd (c.id.fdiv (2 ^ Int.toNat 32)) 4294967295 = (((2 * q + 1) * 4 ^ (c.u - 16) : Nat) : Int) := by
  have e : c.id.fdiv (2 ^ Int.toNat 32) = (((2 * c.p + 1) * 4 ^ (c.u - 16) : Nat) : Int) := by
    show (((2 * c.p + 1) * 4 ^ c.u : Nat) : Int).fdiv _ = _
    rw [high_pow hu, ← Nat.mul_assoc, Int.fdiv_eq_ediv_of_nonneg _ (by decide)]
    show ((((2 * c.p + 1) * 4 ^ (c.u - 16)) * 2 ^ 32 : Nat) : Int) / ((2 ^ 32 : Nat) : Int) = _
    rw [← Int.natCast_ediv, Nat.mul_div_cancel _ (Nat.two_pow_pos 32)]
  obtain ⟨q, hq⟩ := low_odd (p := c.p) (u := c.u - 16) (by have := h.1; lia)
  exact ⟨q, by rw [e, bitAnd_32, hq]⟩
theorem markW (q v : Nat) : Builtin.bitAnd (((2 * q + 1) * 4 ^ v : Nat) : Int) (-(((2 * q + 1) * 4 ^ v : Nat) : Int)) = ((4 ^ v : Nat) : Int) := (⟨q, v⟩ : Cel).lsb
theorem markW_ne (q v : Nat) : (((2 * q + 1) * 4 ^ v : Nat) : Int) ≠ 0 := by
  have : 0 < (2 * q + 1) * 4 ^ v := Nat.mul_pos (by lia) (Nat.pow_pos (by decide))
  lia
def lvB (x n C k : Int) : Int := if Builtin.bitAnd x C = 0 then n else n + k
theorem lv_lo : ∀ v : Nat, v < 16 → lvB ((4 ^ v : Nat) : Int) (lvB ((4 ^ v : Nat) : Int) (lvB ((4 ^ v : Nat) : Int) (lvB ((4 ^ v : Nat) : Int) (-1) 21845 8) 5570645 4) 84215045 2) 286331153 1 = 14 - (v : Int) := by decide +kernel
theorem lv_hi : ∀ v : Nat, v < 16 → lvB ((4 ^ v : Nat) : Int) (lvB ((4 ^ v : Nat) : Int) (lvB ((4 ^ v : Nat) : Int) (lvB ((4 ^ v : Nat) : Int) (-1 + 16) 21845 8) 5570645 4) 84215045 2) 286331153 1 = 30 - (v : Int) := by decide +kernel
section
variable {c : Cx} {X : AX} {a b : Int}
theorem O_iand {Q : AV → AX → Prop} (h : Q (.int (Builtin.bitAnd a b)) X) : W2 c Rep (.int a) (.int b) (inplaceOp .BitAnd) Q X := opI (fun S s t u R k => PyProof.Rows.iand_int (k _ _ (.int _ _) rfl rfl rfl rfl)) h
end
def Cel.des (c : Cel) (m : Nat) (k : Nat) : Cel := ⟨c.p * 4 ^ m + k, c.u - m⟩
theorem pw_split {u m : Nat} (h : m ≤ u) : 4 ^ u = 4 ^ m * 4 ^ (u - m) := by rw [← Nat.pow_add]; congr 1; lia
theorem Cel.des_fit {c : Cel} (h : c.ok) {m k : Nat} (hm : m ≤ c.u) (hk : k ≤ 4 ^ m) : (c.des m k).nid < 18446744073709551615 := by
  have h1 := Cel.end_le h
  have h2 := pw_split hm
  have h3 : 4 ^ (c.u - m) ≤ 4 ^ 30 := Nat.pow_le_pow_right (by decide) (by have := h.1; lia)
  have h4 : (2 * (c.p * 4 ^ m + k) + 1) * 4 ^ (c.u - m) ≤ (2 * ((c.p + 1) * 4 ^ m) + 1) * 4 ^ (c.u - m) := Nat.mul_le_mul_right _ (by rw [Nat.add_mul]; lia)
  have h5 : (2 * ((c.p + 1) * 4 ^ m) + 1) * 4 ^ (c.u - m) = 2 * ((c.p + 1) * 4 ^ c.u) + 4 ^ (c.u - m) := by
    rw [h2, Nat.add_mul, Nat.one_mul, Nat.mul_assoc, Nat.mul_assoc]
  show (2 * (c.p * 4 ^ m + k) + 1) * 4 ^ (c.u - m) < _
  have h6 : (4 : Nat) ^ 30 = 1152921504606846976 := rfl
  lia
theorem Cel.des_ok {c : Cel} (h : c.ok) {m k : Nat} (hm : m ≤ c.u) (hk : k < 4 ^ m) : (c.des m k).ok := by
  refine ⟨by have := h.1; show c.u - m ≤ 30; lia, ?_⟩
  have h1 : 30 - (c.u - m) = (30 - c.u) + m := by have := h.1; lia
  show c.p * 4 ^ m + k < 6 * 4 ^ (30 - (c.u - m))
  rw [h1, Nat.pow_add, ← Nat.mul_assoc]
  have h2 : (c.p + 1) * 4 ^ m ≤ 6 * 4 ^ (30 - c.u) * 4 ^ m := Nat.mul_le_mul_right _ h.2
  rw [Nat.add_mul] at h2; lia
theorem Cel.des_id {c : Cel} {m : Nat} (hm : m ≤ c.u) (k : Nat) : (c.des m k).id = c.id - ((4 ^ c.u : Nat) : Int) + ((4 ^ (c.u - m) : Nat) : Int) + 2 * k * ((4 ^ (c.u - m) : Nat) : Int) := by
  have h2 := pw_split hm
  show (((2 * (c.p * 4 ^ m + k) + 1) * 4 ^ (c.u - m) : Nat) : Int) = (((2 * c.p + 1) * 4 ^ c.u : Nat) : Int) - ((4 ^ c.u : Nat) : Int) + ((4 ^ (c.u - m) : Nat) : Int) + 2 * k * ((4 ^ (c.u - m) : Nat) : Int)
  rw [h2]
  push_cast
  grind
theorem Cel.des_end {c : Cel} {m : Nat} (hm : m ≤ c.u) : (c.des m (4 ^ m)).id = c.id + ((4 ^ c.u : Nat) : Int) + ((4 ^ (c.u - m) : Nat) : Int) := by
  rw [Cel.des_id hm, pw_split hm]
  push_cast
  grind
theorem des_at {c : Cel} {m i : Nat} {x : AV} (h : ((List.range (4 ^ m)).map fun k => AV.cell (c.des m k).id)[i]? = some x) : i < 4 ^ m ∧ x = .cell (c.des m i).id := by
  rw [List.getElem?_map] at h
  obtain ⟨k, hk, rfl⟩ := Option.map_eq_some_iff.mp h
  obtain ⟨hi, rfl⟩ := List.getElem?_eq_some_iff.mp hk
  rw [List.length_range] at hi
  rw [List.getElem_range]
  exact ⟨hi, rfl⟩
theorem at_des {c : Cel} {m i : Nat} (h : i < 4 ^ m) : ((List.range (4 ^ m)).map fun k => AV.cell (c.des m k).id)[i]? = some (.cell (c.des m i).id) := by
  rw [List.getElem?_map, List.getElem?_range h]; rfl
theorem des_ne {c : Cel} {m j : Nat} (hj : j ≤ 4 ^ m) : (!decide ((c.des m j).id = (c.des m (4 ^ m)).id)) = decide (j < 4 ^ m) := by
  rcases Nat.lt_or_ge j (4 ^ m) with q | q
  · rw [decide_eq_true q, Bool.not_eq_true', decide_eq_false_iff_not]
    intro e
    have e : ((2 * (c.p * 4 ^ m + j) + 1) * 4 ^ (c.u - m) : Nat) = (2 * (c.p * 4 ^ m + 4 ^ m) + 1) * 4 ^ (c.u - m) := Int.ofNat.inj e
    have := Nat.eq_of_mul_eq_mul_right (Nat.pow_pos (by decide)) e
    omega
  · rw [show j = 4 ^ m by omega, decide_eq_true rfl]; simp
def nlF (least step lv : Int) : Int := if 1 < step then min 30 (max least lv + (30 - (max least lv - least)).fmod step) else max least lv
def mF (least step : Int) (c : Cel) : Nat := (nlF least step (30 - (c.u : Int)) - (30 - (c.u : Int))).toNat
def desL (c : Cel) (m : Nat) : List Cel := (List.range (4 ^ m)).map (c.des m)
def dnl (least step : Int) (cs : List Cel) : List Cel := cs.flatMap fun c => desL c (mF least step c)
theorem desL_zero (c : Cel) : desL c 0 = [c] := by
  show [Cel.mk (c.p * 4 ^ 0 + 0) (c.u - 0)] = [c]
  simp
theorem desL_len (c : Cel) (m : Nat) : (desL c m).length = 4 ^ m := by unfold desL; rw [List.length_map, List.length_range]
theorem desL_succ (c : Cel) (m i : Nat) : ((List.range (i + 1)).map (c.des m)) = ((List.range i).map (c.des m)) ++ [c.des m i] := by rw [List.range_succ, List.map_append]; rfl
theorem dnl_take (least step : Int) (cs : List Cel) (i : Nat) : (dnl least step (cs.take i)).length ≤ (dnl least step cs).length := by
  have e : dnl least step cs = dnl least step (cs.take i) ++ dnl least step (cs.drop i) := by
    unfold dnl; rw [← List.flatMap_append, List.take_append_drop]
  rw [e, List.length_append]; omega
theorem nl_rng {least step lv : Int} (h0 : 0 ≤ least) (h1 : least ≤ 30) (h2 : 1 ≤ step) (h3 : step ≤ 3) (hv0 : 0 ≤ lv) (hv : lv ≤ 30) : lv ≤ nlF least step lv ∧ nlF least step lv ≤ 30 := by
  unfold nlF
  split
  · have := Int.fmod_nonneg_of_pos (30 - (max least lv - least)) (show 0 < step by omega)
    omega
  · omega
theorem mF_fine {least step : Int} {c : Cel} (h0 : 0 ≤ least) (h1 : least ≤ 30) (h2 : 1 ≤ step) (h3 : step ≤ 3) (hv : c.u ≤ 30) : nlF least step (30 - (c.u : Int)) = 30 - (c.u : Int) + mF least step c := by
  have := nl_rng h0 h1 h2 h3 (lv := 30 - (c.u : Int)) (by omega) (by omega)
  unfold mF; omega
theorem mF_le {least step : Int} {c : Cel} (h0 : 0 ≤ least) (h1 : least ≤ 30) (h2 : 1 ≤ step) (h3 : step ≤ 3) (hv : c.u ≤ 30) : mF least step c ≤ c.u := by
  have := nl_rng h0 h1 h2 h3 (lv := 30 - (c.u : Int)) (by omega) (by omega)
  unfold mF; omega
theorem cel_at {cs : List Cel} {i : Nat} {x : AV} (h : (cellsV cs)[i]? = some x) : ∃ c, cs[i]? = some c ∧ x = .cell c.id := by
  unfold cellsV at h
  rw [List.getElem?_map] at h
  obtain ⟨c, hc, rfl⟩ := Option.map_eq_some_iff.mp h
  exact ⟨c, hc, rfl⟩
theorem newN {c : Cx} {Q : AV → AX → Prop} {X : AX} {n : Int} (e₀ : Cel) (L : Lw c) (G : Gd c.A 2) (ho : e₀.nid < 18446744073709551615) (e : n = e₀.id) (h : Q (.cell e₀.id) X) : WF c (.ref 453) [.int n] [] Q X := by
  subst e
  refine new_c L G ?_
  rw [Int.fmod_eq_emod_of_nonneg _ (by decide), Int.emod_eq_of_lt (show 0 ≤ e₀.id by show 0 ≤ ((e₀.nid : Nat) : Int); lia) (show e₀.id < _ by show ((e₀.nid : Nat) : Int) < _; lia)]
  exact h
theorem if_imp {c : Cx} {t e : List Stmt} {Q Q' : AF → AX → Prop} {X : AX} {b : Bool} (h : if b = true then WSs c t Q' X else WSs c e Q' X) (k : ∀ F Y, Q' F Y → Q F Y) : if b = true then WSs c t Q X else WSs c e Q X := by
  cases b with
  | true => rw [if_pos rfl] at h ⊢; exact h.imp k
  | false => rw [if_neg (by decide)] at h ⊢; exact h.imp k
abbrev mLv (l x : Int) (V : AV) : List (Str × AV) := [((Str.ofString "level"), .int l), ((Str.ofString "x"), .int x), ((Str.ofString "self"), V)]
theorem S_bit {c : Cx} {Q : AF → AX → Prop} {σ : List (Addr × MO)} {n a C k : Int} {V : AV} {rest : List Stmt} {q1 q2 q3 q4 q5 q6 q7 : Pos} {k1 k2 : Nat} (hx : Own c (Str.ofString "level")) (h : WSs c rest Q ⟨σ, mLv (lvB a n C k) a V⟩) :
    WSs c (.If (.BinOp (.Name (Str.ofString "x") q1) .BitAnd (.Constant (.int C) k1 q2) q3) [.AugAssign (.Name (Str.ofString "level") q4) .Add (.Constant (.int k) k2 q5) q6] [] q7 :: rest) Q ⟨σ, mLv n a V⟩ := by
  (refine S_cons ?_; refine S_if ?_; refine T_val ?_; refine E_bin ?_; (refine' E_name ?hv1 ?_; (case hv1 => exact rfl)); refine E_int ?_; refine O_band ?_; refine Tr_int ?_)
  unfold lvB at h
  by_cases z : Builtin.bitAnd a C = 0
  · rw [if_pos z] at h
    rw [if_neg (by rw [decide_eq_true z]; decide)]
    (refine S_nil ?_; refine Then_next ?_)
    exact h
  · rw [if_neg z] at h
    rw [if_pos (by rw [decide_eq_false z]; rfl)]
    refine S_last ?_
    refine S_aug hx rfl ?_
    (refine E_int ?_; refine O_iadd ?_; dsimp only; refine Then_next ?_)
    refine Then_next ?_
    exact WT.pre (Conv.names _ (by intro p hp; simp only [List.mem_cons, List.not_mem_nil, or_false] at hp; rcases hp with rfl | rfl | rfl <;> rfl)) h
theorem level_c {c : Cx} {Q : AV → AX → Prop} {X : AX} {c₀ : Cel} (L : Lw c) (G : Gd c.A 4) (hv : c₀.ok) (h : Q (.int (30 - (c₀.u : Int))) X) : WF c (.ref 264) [.cell c₀.id] [] Q X := by
  (have _ : PySem.Challenge.rw_lp0003_08 = PySem.Challenge.rw_lp0003_08 → ∀ w : World, (hd8.heap_1 w.params).In default → True := by (k_fill; intros; trivial))
  have L₀ := L
  obtain ⟨P, w, K, g, A, env, own, E, fx⟩ := c
  obtain ⟨hP, hK, hC, hN⟩ := L
  dsimp only at hP hK hC hN G
  subst hP hK
  refine' WF.go (M := [((Str.ofString "self"), .cell c₀.id)]) G ?k1 ?k2 ?k3 ?k4 ?k5 ?k6 ?k7 ?k8 ?_
  case k1 => ((try dsimp only); k_is)
  case k2 => ((try dsimp only); k_is)
  case k3 => exact bind1 fun s v X => .of_eq rfl
  case k4 => rfl
  case k5 => decide
  case k6 => rfl
  case k7 => rfl
  case k8 => rfl
  intro F c' kn he ho ok G'
  have L' := L₀.kin kn
  obtain ⟨P', w', K', g', A', env', own', E', fx'⟩ := c'
  obtain ⟨f1, f2, f3, f4, f5⟩ := kn
  dsimp only at f1 f2 f3 f4 f5 he ho G'
  subst f1 f2 f3 f4 f5 he ho
  clear L₀
  simp only [List.reverse_cons, List.reverse_nil, List.nil_append, List.cons_append]
  have hv1 := hv.1
  (refine S_cons ?_; refine S_if ?_; refine T_val ?_; refine E_meth ?_; dsimp only; (refine' E_name ?hv2 ?_; (case hv2 => exact rfl)); refine' M_fn ?hi3 ?a3 ?b3 ?c3 ?d3 ?e3 ?_; (case hi3 => exact .inl rfl); (case a3 => (try dsimp only); k_is); (case b3 => (try dsimp only); k_is); (case c3 => (try dsimp only); k_is); (case d3 => (try dsimp only); k_is); (case e3 => decide); refine Args_plain ?_; refine A_nil ?_; refine WC.of (is_leaf_c (by with_reducible assumption) (by exact Gd.le (by with_reducible assumption) rfl)  ?_); refine Tr_bool ?_)
  by_cases h0 : c₀.u = 0
  · rw [if_pos (decide_eq_true h0)]
    (refine S_last ?_; refine S_return ?_; refine E_attr ?_; refine E_attr ?_; (refine' E_name ?hv4 ?_; (case hv4 => exact rfl)); refine' G_class ?hi5 ?a5 ?b5 ?c5 ?d5 ?e5 ?f5 ?_; (case hi5 => exact .inl rfl); (case a5 => (try dsimp only); k_is); (case b5 => (try dsimp only); k_is); (case c5 => (try dsimp only); k_is); (case d5 => (try dsimp only); k_is); (case e5 => (try dsimp only); k_is); (case f5 => (try dsimp only); k_is); skip; refine' G_cv ?hm6 ?a6 ?b6 ?c6 ?d6 ?_; (case hm6 => (try dsimp only); k_is); (case a6 => (try dsimp only); k_is); (case b6 => (try dsimp only); k_is); (case c6 => rfl); (case d6 => intro _; exact .int _ _); refine Then_ret ?_; dsimp only)
    exact retI h (by rw [h0]; rfl)
  rw [if_neg (by rw [decide_eq_false h0]; decide)]
  (refine S_nil ?_; refine Then_next ?_; refine S_cons ?_; refine S_assign (by exact .inl ⟨rfl, .head _⟩) ?_; refine E_bin ?_; refine E_meth ?_; dsimp only; (refine' E_name ?hv7 ?_; (case hv7 => exact rfl)); refine' M_fn ?hi8 ?a8 ?b8 ?c8 ?d8 ?e8 ?_; (case hi8 => exact .inl rfl); (case a8 => (try dsimp only); k_is); (case b8 => (try dsimp only); k_is); (case c8 => (try dsimp only); k_is); (case d8 => (try dsimp only); k_is); (case e8 => decide); refine Args_plain ?_; refine A_nil ?_; refine WC.of (id_c (by with_reducible assumption) (by exact Gd.le (by with_reducible assumption) rfl)  ?_); refine E_int ?_; refine O_band ?_; dsimp only; refine Then_next ?_; refine S_cons ?_; refine S_assign (by exact .inl ⟨rfl, .head _⟩) ?_; refine E_un ?_; refine E_int ?_; refine O_neg ?_; dsimp only; refine Then_next ?_; refine S_cons ?_; refine S_if ?_; refine T_cmp ?_; (refine' E_name ?hv9 ?_; (case hv9 => exact rfl)); refine E_int ?_; refine O_ne ?_; refine Tr_bool ?_)
  refine if_imp (Q' := fun F Y => F = AF.next ∧ ∃ v q : Nat, v < 16 ∧ ((c₀.u < 16 ∧ v = c₀.u) ∨ (16 ≤ c₀.u ∧ v = c₀.u - 16)) ∧ ∃ m, Y = ⟨X.σ, m⟩ ∧ m.lookup (Str.ofString "level") = some (.int (if c₀.u < 16 then -1 + 16 else -1)) ∧ m.lookup (Str.ofString "x") = some (.int (((2 * q + 1) * 4 ^ v : Nat) : Int)) ∧ m.lookup (Str.ofString "self") = some (.cell c₀.id)) ?w ?rest
  case w =>
    rcases Nat.lt_or_ge c₀.u 16 with hu | hu
    · obtain ⟨q, hq⟩ := lowW c₀ hu
      rw [hq, if_pos hu]
      rw [if_pos (by rw [decide_eq_false (markW_ne _ _)]; rfl)]
      (refine S_last ?_; refine S_aug (by exact .inl ⟨rfl, .head _⟩) rfl ?_; refine E_int ?_; refine O_iadd ?_; dsimp only)
      exact ⟨rfl, c₀.u, q, hu, .inl ⟨hu, rfl⟩, _, rfl, rfl, rfl, rfl⟩
    · obtain ⟨q, hq⟩ := highW hv hu
      rw [lowZ c₀ hu, if_neg (Nat.not_lt.mpr hu)]
      rw [if_neg (by decide)]
      (refine S_last ?_; refine S_assign (by exact .inl ⟨rfl, .head _⟩) ?_; refine E_bin ?_; refine E_bin ?_; refine E_meth ?_; dsimp only; (refine' E_name ?hv10 ?_; (case hv10 => exact rfl)); refine' M_fn ?hi11 ?a11 ?b11 ?c11 ?d11 ?e11 ?_; (case hi11 => exact .inl rfl); (case a11 => (try dsimp only); k_is); (case b11 => (try dsimp only); k_is); (case c11 => (try dsimp only); k_is); (case d11 => (try dsimp only); k_is); (case e11 => decide); refine Args_plain ?_; refine A_nil ?_; refine WC.of (id_c (by with_reducible assumption) (by exact Gd.le (by with_reducible assumption) rfl)  ?_); refine E_int ?_; refine O_shr (by decide) ?_; refine E_int ?_; refine O_band ?_; dsimp only)
      exact ⟨rfl, c₀.u - 16, q, by lia, .inr ⟨hu, rfl⟩, _, rfl, rfl, by rw [hq]; rfl, rfl⟩
  rintro F Y ⟨rfl, v, q, hv16, hvu, m, rfl, hl, hx, hs⟩
  refine Then_next ?_
  refine WT.pre (Conv.names [((Str.ofString "level"), .int (if c₀.u < 16 then -1 + 16 else -1)), ((Str.ofString "x"), .int (((2 * q + 1) * 4 ^ v : Nat) : Int)), ((Str.ofString "self"), .cell c₀.id)] ?names) ?_
  case names =>
    intro p hp
    simp only [List.mem_cons, List.not_mem_nil, or_false] at hp
    rcases hp with rfl | rfl | rfl
    · exact hl
    · exact hx
    · exact hs
  clear hl hx hs
  dsimp only
  refine S_cons ?_
  refine WT.imp (Q := fun F Y => F = AF.next ∧ Y = ⟨X.σ, (Str.ofString "x", .int ((4 ^ v : Nat) : Int)) :: mLv (if c₀.u < 16 then -1 + 16 else -1) (((2 * q + 1) * 4 ^ v : Nat) : Int) (.cell c₀.id)⟩) ?xa ?xb
  case xa =>
    (refine S_aug (by exact .inl ⟨rfl, .head _⟩) rfl ?_; refine E_un ?_; (refine' E_name ?hv12 ?_; (case hv12 => exact rfl)); refine O_neg ?_; refine O_iand ?_; dsimp only)
    exact ⟨rfl, by rw [markW]⟩
  rintro F Y ⟨rfl, rfl⟩
  refine Then_next ?_
  refine WT.pre (Conv.names (mLv (if c₀.u < 16 then -1 + 16 else -1) ((4 ^ v : Nat) : Int) (.cell c₀.id)) (by intro p hp; simp only [List.mem_cons, List.not_mem_nil, or_false] at hp; rcases hp with rfl | rfl | rfl <;> rfl)) ?_
  iterate 4 refine S_bit (by exact .inl ⟨rfl, .head _⟩) ?_
  have hlv : lvB ((4 ^ v : Nat) : Int) (lvB ((4 ^ v : Nat) : Int) (lvB ((4 ^ v : Nat) : Int) (lvB ((4 ^ v : Nat) : Int) (if c₀.u < 16 then -1 + 16 else -1) 21845 8) 5570645 4) 84215045 2) 286331153 1 = 30 - (c₀.u : Int) := by
    rcases hvu with ⟨a, b⟩ | ⟨a, b⟩
    · rw [if_pos a, lv_hi v hv16, b]
    · rw [if_neg (Nat.not_lt.mpr a), lv_lo v hv16]; lia
  rw [hlv]
  (refine S_cons ?_; dsimp only; refine S_assert ?_; refine T_cmp ?_; (refine' E_name ?hv13 ?_; (case hv13 => exact rfl)); refine E_int ?_; refine O_ge ?_; refine Tr_bool ?_)
  refine ⟨decide_eq_true (by lia), ?_⟩
  (refine Then_next ?_; refine S_cons ?_; refine S_assert ?_; refine T_cmp ?_; (refine' E_name ?hv14 ?_; (case hv14 => exact rfl)); refine E_attr ?_; refine E_attr ?_; (refine' E_name ?hv15 ?_; (case hv15 => exact rfl)); refine' G_class ?hi16 ?a16 ?b16 ?c16 ?d16 ?e16 ?f16 ?_; (case hi16 => exact .inl rfl); (case a16 => (try dsimp only); k_is); (case b16 => (try dsimp only); k_is); (case c16 => (try dsimp only); k_is); (case d16 => (try dsimp only); k_is); (case e16 => (try dsimp only); k_is); (case f16 => (try dsimp only); k_is); skip; refine' G_cv ?hm17 ?a17 ?b17 ?c17 ?d17 ?_; (case hm17 => (try dsimp only); k_is); (case a17 => (try dsimp only); k_is); (case b17 => (try dsimp only); k_is); (case c17 => rfl); (case d17 => intro _; exact .int _ _); refine O_le ?_; refine Tr_bool ?_)
  refine ⟨decide_eq_true (by lia), ?_⟩
  (refine Then_next ?_; refine S_last ?_; refine S_return ?_; (refine' E_name ?hv18 ?_; (case hv18 => exact rfl)); dsimp only)
  exact h
theorem cbegL_c {c : Cx} {Q : AV → AX → Prop} {X : AX} {c₀ : Cel} {lv : Int} {m : Nat} (L : Lw c) (G : Gd c.A 7) (hv : c₀.ok) (hm : m ≤ c₀.u) (hl : lv = 30 - (c₀.u : Int) + m) (h : Q (.cell (c₀.des m 0).id) X) : WF c (.ref 271) [.cell c₀.id, .int lv] [] Q X := by
  (have _ : PySem.Challenge.rw_lp0003_08 = PySem.Challenge.rw_lp0003_08 → ∀ w : World, (hd8.heap_1 w.params).In default → True := by (k_fill; intros; trivial))
  have L₀ := L
  obtain ⟨P, w, K, g, A, env, own, E, fx⟩ := c
  obtain ⟨hP, hK, hC, hN⟩ := L
  dsimp only at hP hK hC hN G
  subst hP hK
  refine' WF.go (M := [((Str.ofString "self"), .cell c₀.id), ((Str.ofString "args"), .tup [.int lv])]) G ?k1 ?k2 ?k3 ?k4 ?k5 ?k6 ?k7 ?k8 ?_
  case k1 => ((try dsimp only); k_is)
  case k2 => ((try dsimp only); k_is)
  case k3 => exact bindS1 fun v u => ⟨_, rfl, fun _ => rfl⟩
  case k4 => rfl
  case k5 => decide
  case k6 => rfl
  case k7 => rfl
  case k8 => rfl
  intro F c' kn he ho ok G'
  have L' := L₀.kin kn
  obtain ⟨P', w', K', g', A', env', own', E', fx'⟩ := c'
  obtain ⟨f1, f2, f3, f4, f5⟩ := kn
  dsimp only at f1 f2 f3 f4 f5 he ho G'
  subst f1 f2 f3 f4 f5 he ho
  clear L₀
  simp only [List.reverse_cons, List.reverse_nil, List.nil_append, List.cons_append]
  have hv1 := hv.1
  (refine S_cons ?_; refine S_assert ?_; refine T_val ?_; refine E_meth ?_; dsimp only; (refine' E_name ?hv19 ?_; (case hv19 => exact rfl)); refine' M_fn ?hi20 ?a20 ?b20 ?c20 ?d20 ?e20 ?_; (case hi20 => exact .inl rfl); (case a20 => (try dsimp only); k_is); (case b20 => (try dsimp only); k_is); (case c20 => (try dsimp only); k_is); (case d20 => (try dsimp only); k_is); (case e20 => decide); refine Args_plain ?_; refine A_nil ?_; refine WC.of (is_valid_c (by with_reducible assumption) (by exact Gd.le (by with_reducible assumption) rfl) (by with_reducible assumption) ?_); refine Tr_bool ?_; refine And.intro rfl ?_; refine Then_next ?_; refine S_last ?_; refine S_if ?_; refine T_cmp ?_; refine E_call ?_; dsimp only; (refine' E_builtin (v := .builtin ?id21) ?hk21 ?e21 ?hv21 ?hn21 ?_; (case hk21 => exact rfl); (case e21 => (try dsimp only); k_is); (case hv21 => exact rfl); (case hn21 => decide)); dsimp only; refine C_raw keeper_builtin ?_; refine Args_plain ?_; refine A_cons ?_; (refine' E_name ?hv22 ?_; (case hv22 => exact rfl)); refine A_nil ?_; refine B_len_tup (by simp only [cellsV, List.length_map, List.length_reverse, List.length_cons, List.length_append, List.length_nil]; lia) ?_; refine E_int ?_; refine O_eq ?_; refine Tr_bool ?_; rw [if_neg (by intro h; exact Bool.noConfusion (show false = true from h))]; refine S_last ?_; refine S_if ?_; refine T_cmp ?_; refine E_call ?_; dsimp only; (refine' E_builtin (v := .builtin ?id23) ?hk23 ?e23 ?hv23 ?hn23 ?_; (case hk23 => exact rfl); (case e23 => (try dsimp only); k_is); (case hv23 => exact rfl); (case hn23 => decide)); dsimp only; refine C_raw keeper_builtin ?_; refine Args_plain ?_; refine A_cons ?_; (refine' E_name ?hv24 ?_; (case hv24 => exact rfl)); refine A_nil ?_; refine B_len_tup (by simp only [cellsV, List.length_map, List.length_reverse, List.length_cons, List.length_append, List.length_nil]; lia) ?_; refine E_int ?_; refine O_eq ?_; refine Tr_bool ?_; rw [if_pos (by rfl)]; refine S_cons ?_; refine S_assign (by exact .inl ⟨rfl, .head _⟩) ?_; refine E_sub ?_; (refine' E_name ?hv25 ?_; (case hv25 => exact rfl)); refine E_int ?_; refine Su_tup (i := 0) rfl (by simp only [cellsV, List.length_map, List.length_reverse, List.length_cons, List.length_append, List.length_nil]; lia) ?_; dsimp only; refine Then_next ?_; refine S_cons ?_; refine S_assert ?_; refine T_cmp ?_; (refine' E_name ?hv26 ?_; (case hv26 => exact rfl)); refine E_meth ?_; dsimp only; (refine' E_name ?hv27 ?_; (case hv27 => exact rfl)); refine' M_fn ?hi28 ?a28 ?b28 ?c28 ?d28 ?e28 ?_; (case hi28 => exact .inl rfl); (case a28 => (try dsimp only); k_is); (case b28 => (try dsimp only); k_is); (case c28 => (try dsimp only); k_is); (case d28 => (try dsimp only); k_is); (case e28 => decide); refine Args_plain ?_; refine A_nil ?_; refine WC.of (level_c (by with_reducible assumption) (by exact Gd.le (by with_reducible assumption) rfl) (by with_reducible assumption) ?_); refine O_ge ?_; refine Tr_bool ?_)
  refine ⟨decide_eq_true (by lia), ?_⟩
  (refine Then_next ?_; refine S_cons ?_; refine S_assert ?_; refine T_cmp ?_; (refine' E_name ?hv29 ?_; (case hv29 => exact rfl)); refine E_attr ?_; refine E_attr ?_; (refine' E_name ?hv30 ?_; (case hv30 => exact rfl)); refine' G_class ?hi31 ?a31 ?b31 ?c31 ?d31 ?e31 ?f31 ?_; (case hi31 => exact .inl rfl); (case a31 => (try dsimp only); k_is); (case b31 => (try dsimp only); k_is); (case c31 => (try dsimp only); k_is); (case d31 => (try dsimp only); k_is); (case e31 => (try dsimp only); k_is); (case f31 => (try dsimp only); k_is); skip; refine' G_cv ?hm32 ?a32 ?b32 ?c32 ?d32 ?_; (case hm32 => (try dsimp only); k_is); (case a32 => (try dsimp only); k_is); (case b32 => (try dsimp only); k_is); (case c32 => rfl); (case d32 => intro _; exact .int _ _); refine O_le ?_; refine Tr_bool ?_)
  refine ⟨decide_eq_true (by lia), ?_⟩
  (refine Then_next ?_; refine S_last ?_; refine S_return ?_; refine E_meth ?_; dsimp only; (refine' E_name ?hv33 ?_; (case hv33 => exact rfl)); refine' M_class ?hi34 ?a34 ?b34 ?c34 ?d34 ?e34 ?f34 ?g34 ?i34 ?_; (case hi34 => exact .inl rfl); (case a34 => (try dsimp only); k_is); (case b34 => (try dsimp only); k_is); (case c34 => (try dsimp only); k_is); (case d34 => (try dsimp only); k_is); (case e34 => (try dsimp only); k_is); (case f34 => (try dsimp only); k_is); (case g34 => (try dsimp only); k_is); (case i34 => (try dsimp only); k_is); skip; refine Args_plain ?_; refine A_cons ?_; refine E_bin ?_; refine E_bin ?_; refine E_meth ?_; dsimp only; (refine' E_name ?hv35 ?_; (case hv35 => exact rfl)); refine' M_fn ?hi36 ?a36 ?b36 ?c36 ?d36 ?e36 ?_; (case hi36 => exact .inl rfl); (case a36 => (try dsimp only); k_is); (case b36 => (try dsimp only); k_is); (case c36 => (try dsimp only); k_is); (case d36 => (try dsimp only); k_is); (case e36 => decide); refine Args_plain ?_; refine A_nil ?_; refine WC.of (id_c (by with_reducible assumption) (by exact Gd.le (by with_reducible assumption) rfl)  ?_); refine E_meth ?_; dsimp only; (refine' E_name ?hv37 ?_; (case hv37 => exact rfl)); refine' M_fn ?hi38 ?a38 ?b38 ?c38 ?d38 ?e38 ?_; (case hi38 => exact .inl rfl); (case a38 => (try dsimp only); k_is); (case b38 => (try dsimp only); k_is); (case c38 => (try dsimp only); k_is); (case d38 => (try dsimp only); k_is); (case e38 => decide); refine Args_plain ?_; refine A_nil ?_; refine WC.of (lsb_c (by with_reducible assumption) (by exact Gd.le (by with_reducible assumption) rfl)  ?_); refine O_sub ?_; refine E_meth ?_; dsimp only; refine E_attr ?_; (refine' E_name ?hv39 ?_; (case hv39 => exact rfl)); refine' G_class ?hi40 ?a40 ?b40 ?c40 ?d40 ?e40 ?f40 ?_; (case hi40 => exact .inl rfl); (case a40 => (try dsimp only); k_is); (case b40 => (try dsimp only); k_is); (case c40 => (try dsimp only); k_is); (case d40 => (try dsimp only); k_is); (case e40 => (try dsimp only); k_is); (case f40 => (try dsimp only); k_is); skip; refine' M_cmm ?hs41 ?hm41 ?a41 ?b41 ?d41 ?f41 ?_; (case hs41 => (try dsimp only); k_is); (case hm41 => (try dsimp only); k_is); (case a41 => (try dsimp only); k_is); (case b41 => (try dsimp only); k_is); (case d41 => (try dsimp only); k_is); (case f41 => (try dsimp only); k_is); skip; refine Args_plain ?_; refine A_cons ?_; (refine' E_name ?hv42 ?_; (case hv42 => exact rfl)); refine A_nil ?_; refine lsbfl_c (by with_reducible assumption) (by exact Gd.le (by with_reducible assumption) rfl) (by lia) (by lia) ?_; refine O_add ?_; refine A_nil ?_)
  have e30 : 30 - Int.toNat lv = c₀.u - m := by lia
  rw [e30]
  refine WC.of (newN (c₀.des m 0) (by (with_reducible assumption)) (by (exact Gd.le (by with_reducible assumption) rfl)) (Cel.des_fit hv hm (Nat.zero_le _)) ?_ ?_)
  · rw [Cel.des_id hm]; lia
  skip
  exact h
theorem cendL_c {c : Cx} {Q : AV → AX → Prop} {X : AX} {c₀ : Cel} {lv : Int} {m : Nat} (L : Lw c) (G : Gd c.A 7) (hv : c₀.ok) (hm : m ≤ c₀.u) (hl : lv = 30 - (c₀.u : Int) + m) (h : Q (.cell (c₀.des m (4 ^ m)).id) X) : WF c (.ref 278) [.cell c₀.id, .int lv] [] Q X := by
  (have _ : PySem.Challenge.rw_lp0003_08 = PySem.Challenge.rw_lp0003_08 → ∀ w : World, (hd8.heap_1 w.params).In default → True := by (k_fill; intros; trivial))
  have L₀ := L
  obtain ⟨P, w, K, g, A, env, own, E, fx⟩ := c
  obtain ⟨hP, hK, hC, hN⟩ := L
  dsimp only at hP hK hC hN G
  subst hP hK
  refine' WF.go (M := [((Str.ofString "self"), .cell c₀.id), ((Str.ofString "args"), .tup [.int lv])]) G ?k1 ?k2 ?k3 ?k4 ?k5 ?k6 ?k7 ?k8 ?_
  case k1 => ((try dsimp only); k_is)
  case k2 => ((try dsimp only); k_is)
  case k3 => exact bindS1 fun v u => ⟨_, rfl, fun _ => rfl⟩
  case k4 => rfl
  case k5 => decide
  case k6 => rfl
  case k7 => rfl
  case k8 => rfl
  intro F c' kn he ho ok G'
  have L' := L₀.kin kn
  obtain ⟨P', w', K', g', A', env', own', E', fx'⟩ := c'
  obtain ⟨f1, f2, f3, f4, f5⟩ := kn
  dsimp only at f1 f2 f3 f4 f5 he ho G'
  subst f1 f2 f3 f4 f5 he ho
  clear L₀
  simp only [List.reverse_cons, List.reverse_nil, List.nil_append, List.cons_append]
  have hv1 := hv.1
  (refine S_cons ?_; refine S_assert ?_; refine T_val ?_; refine E_meth ?_; dsimp only; (refine' E_name ?hv43 ?_; (case hv43 => exact rfl)); refine' M_fn ?hi44 ?a44 ?b44 ?c44 ?d44 ?e44 ?_; (case hi44 => exact .inl rfl); (case a44 => (try dsimp only); k_is); (case b44 => (try dsimp only); k_is); (case c44 => (try dsimp only); k_is); (case d44 => (try dsimp only); k_is); (case e44 => decide); refine Args_plain ?_; refine A_nil ?_; refine WC.of (is_valid_c (by with_reducible assumption) (by exact Gd.le (by with_reducible assumption) rfl) (by with_reducible assumption) ?_); refine Tr_bool ?_; refine And.intro rfl ?_; refine Then_next ?_; refine S_last ?_; refine S_if ?_; refine T_cmp ?_; refine E_call ?_; dsimp only; (refine' E_builtin (v := .builtin ?id45) ?hk45 ?e45 ?hv45 ?hn45 ?_; (case hk45 => exact rfl); (case e45 => (try dsimp only); k_is); (case hv45 => exact rfl); (case hn45 => decide)); dsimp only; refine C_raw keeper_builtin ?_; refine Args_plain ?_; refine A_cons ?_; (refine' E_name ?hv46 ?_; (case hv46 => exact rfl)); refine A_nil ?_; refine B_len_tup (by simp only [cellsV, List.length_map, List.length_reverse, List.length_cons, List.length_append, List.length_nil]; lia) ?_; refine E_int ?_; refine O_eq ?_; refine Tr_bool ?_; rw [if_neg (by intro h; exact Bool.noConfusion (show false = true from h))]; refine S_last ?_; refine S_if ?_; refine T_cmp ?_; refine E_call ?_; dsimp only; (refine' E_builtin (v := .builtin ?id47) ?hk47 ?e47 ?hv47 ?hn47 ?_; (case hk47 => exact rfl); (case e47 => (try dsimp only); k_is); (case hv47 => exact rfl); (case hn47 => decide)); dsimp only; refine C_raw keeper_builtin ?_; refine Args_plain ?_; refine A_cons ?_; (refine' E_name ?hv48 ?_; (case hv48 => exact rfl)); refine A_nil ?_; refine B_len_tup (by simp only [cellsV, List.length_map, List.length_reverse, List.length_cons, List.length_append, List.length_nil]; lia) ?_; refine E_int ?_; refine O_eq ?_; refine Tr_bool ?_; rw [if_pos (by rfl)]; refine S_cons ?_; refine S_assign (by exact .inl ⟨rfl, .head _⟩) ?_; refine E_sub ?_; (refine' E_name ?hv49 ?_; (case hv49 => exact rfl)); refine E_int ?_; refine Su_tup (i := 0) rfl (by simp only [cellsV, List.length_map, List.length_reverse, List.length_cons, List.length_append, List.length_nil]; lia) ?_; dsimp only; refine Then_next ?_; refine S_cons ?_; refine S_assert ?_; refine T_cmp ?_; (refine' E_name ?hv50 ?_; (case hv50 => exact rfl)); refine E_meth ?_; dsimp only; (refine' E_name ?hv51 ?_; (case hv51 => exact rfl)); refine' M_fn ?hi52 ?a52 ?b52 ?c52 ?d52 ?e52 ?_; (case hi52 => exact .inl rfl); (case a52 => (try dsimp only); k_is); (case b52 => (try dsimp only); k_is); (case c52 => (try dsimp only); k_is); (case d52 => (try dsimp only); k_is); (case e52 => decide); refine Args_plain ?_; refine A_nil ?_; refine WC.of (level_c (by with_reducible assumption) (by exact Gd.le (by with_reducible assumption) rfl) (by with_reducible assumption) ?_); refine O_ge ?_; refine Tr_bool ?_)
  refine ⟨decide_eq_true (by lia), ?_⟩
  (refine Then_next ?_; refine S_cons ?_; refine S_assert ?_; refine T_cmp ?_; (refine' E_name ?hv53 ?_; (case hv53 => exact rfl)); refine E_attr ?_; refine E_attr ?_; (refine' E_name ?hv54 ?_; (case hv54 => exact rfl)); refine' G_class ?hi55 ?a55 ?b55 ?c55 ?d55 ?e55 ?f55 ?_; (case hi55 => exact .inl rfl); (case a55 => (try dsimp only); k_is); (case b55 => (try dsimp only); k_is); (case c55 => (try dsimp only); k_is); (case d55 => (try dsimp only); k_is); (case e55 => (try dsimp only); k_is); (case f55 => (try dsimp only); k_is); skip; refine' G_cv ?hm56 ?a56 ?b56 ?c56 ?d56 ?_; (case hm56 => (try dsimp only); k_is); (case a56 => (try dsimp only); k_is); (case b56 => (try dsimp only); k_is); (case c56 => rfl); (case d56 => intro _; exact .int _ _); refine O_le ?_; refine Tr_bool ?_)
  refine ⟨decide_eq_true (by lia), ?_⟩
  (refine Then_next ?_; refine S_last ?_; refine S_return ?_; refine E_meth ?_; dsimp only; (refine' E_name ?hv57 ?_; (case hv57 => exact rfl)); refine' M_class ?hi58 ?a58 ?b58 ?c58 ?d58 ?e58 ?f58 ?g58 ?i58 ?_; (case hi58 => exact .inl rfl); (case a58 => (try dsimp only); k_is); (case b58 => (try dsimp only); k_is); (case c58 => (try dsimp only); k_is); (case d58 => (try dsimp only); k_is); (case e58 => (try dsimp only); k_is); (case f58 => (try dsimp only); k_is); (case g58 => (try dsimp only); k_is); (case i58 => (try dsimp only); k_is); skip; refine Args_plain ?_; refine A_cons ?_; refine E_bin ?_; refine E_bin ?_; refine E_meth ?_; dsimp only; (refine' E_name ?hv59 ?_; (case hv59 => exact rfl)); refine' M_fn ?hi60 ?a60 ?b60 ?c60 ?d60 ?e60 ?_; (case hi60 => exact .inl rfl); (case a60 => (try dsimp only); k_is); (case b60 => (try dsimp only); k_is); (case c60 => (try dsimp only); k_is); (case d60 => (try dsimp only); k_is); (case e60 => decide); refine Args_plain ?_; refine A_nil ?_; refine WC.of (id_c (by with_reducible assumption) (by exact Gd.le (by with_reducible assumption) rfl)  ?_); refine E_meth ?_; dsimp only; (refine' E_name ?hv61 ?_; (case hv61 => exact rfl)); refine' M_fn ?hi62 ?a62 ?b62 ?c62 ?d62 ?e62 ?_; (case hi62 => exact .inl rfl); (case a62 => (try dsimp only); k_is); (case b62 => (try dsimp only); k_is); (case c62 => (try dsimp only); k_is); (case d62 => (try dsimp only); k_is); (case e62 => decide); refine Args_plain ?_; refine A_nil ?_; refine WC.of (lsb_c (by with_reducible assumption) (by exact Gd.le (by with_reducible assumption) rfl)  ?_); refine O_add ?_; refine E_meth ?_; dsimp only; refine E_attr ?_; (refine' E_name ?hv63 ?_; (case hv63 => exact rfl)); refine' G_class ?hi64 ?a64 ?b64 ?c64 ?d64 ?e64 ?f64 ?_; (case hi64 => exact .inl rfl); (case a64 => (try dsimp only); k_is); (case b64 => (try dsimp only); k_is); (case c64 => (try dsimp only); k_is); (case d64 => (try dsimp only); k_is); (case e64 => (try dsimp only); k_is); (case f64 => (try dsimp only); k_is); skip; refine' M_cmm ?hs65 ?hm65 ?a65 ?b65 ?d65 ?f65 ?_; (case hs65 => (try dsimp only); k_is); (case hm65 => (try dsimp only); k_is); (case a65 => (try dsimp only); k_is); (case b65 => (try dsimp only); k_is); (case d65 => (try dsimp only); k_is); (case f65 => (try dsimp only); k_is); skip; refine Args_plain ?_; refine A_cons ?_; (refine' E_name ?hv66 ?_; (case hv66 => exact rfl)); refine A_nil ?_; refine lsbfl_c (by with_reducible assumption) (by exact Gd.le (by with_reducible assumption) rfl) (by lia) (by lia) ?_; refine O_add ?_; refine A_nil ?_)
  have e30 : 30 - Int.toNat lv = c₀.u - m := by lia
  rw [e30]
  refine WC.of (newN (c₀.des m (4 ^ m)) (by (with_reducible assumption)) (by (exact Gd.le (by with_reducible assumption) rfl)) (Cel.des_fit hv hm (Nat.le_refl _)) ?_ ?_)
  · rw [Cel.des_end hm]
  skip
  exact h
theorem next_c {c : Cx} {Q : AV → AX → Prop} {X : AX} {c₀ : Cel} (L : Lw c) (G : Gd c.A 4) (hv : c₀.u ≤ 30) (hb : (⟨c₀.p + 1, c₀.u⟩ : Cel).nid < 18446744073709551615) (h : Q (.cell (⟨c₀.p + 1, c₀.u⟩ : Cel).id) X) : WF c (.ref 292) [.cell c₀.id] [] Q X := by
  (have _ : PySem.Challenge.rw_lp0003_08 = PySem.Challenge.rw_lp0003_08 → ∀ w : World, (hd8.heap_1 w.params).In default → True := by (k_fill; intros; trivial))
  have L₀ := L
  obtain ⟨P, w, K, g, A, env, own, E, fx⟩ := c
  obtain ⟨hP, hK, hC, hN⟩ := L
  dsimp only at hP hK hC hN G
  subst hP hK
  refine' WF.go (M := [((Str.ofString "self"), .cell c₀.id)]) G ?k1 ?k2 ?k3 ?k4 ?k5 ?k6 ?k7 ?k8 ?_
  case k1 => ((try dsimp only); k_is)
  case k2 => ((try dsimp only); k_is)
  case k3 => exact bind1 fun s v X => .of_eq rfl
  case k4 => rfl
  case k5 => decide
  case k6 => rfl
  case k7 => rfl
  case k8 => rfl
  intro F c' kn he ho ok G'
  have L' := L₀.kin kn
  obtain ⟨P', w', K', g', A', env', own', E', fx'⟩ := c'
  obtain ⟨f1, f2, f3, f4, f5⟩ := kn
  dsimp only at f1 f2 f3 f4 f5 he ho G'
  subst f1 f2 f3 f4 f5 he ho
  clear L₀
  simp only [List.reverse_cons, List.reverse_nil, List.nil_append, List.cons_append]
  have hpf := pow_fit hv
  (refine S_last ?_; refine S_return ?_; refine E_meth ?_; dsimp only; (refine' E_name ?hv67 ?_; (case hv67 => exact rfl)); refine' M_class ?hi68 ?a68 ?b68 ?c68 ?d68 ?e68 ?f68 ?g68 ?i68 ?_; (case hi68 => exact .inl rfl); (case a68 => (try dsimp only); k_is); (case b68 => (try dsimp only); k_is); (case c68 => (try dsimp only); k_is); (case d68 => (try dsimp only); k_is); (case e68 => (try dsimp only); k_is); (case f68 => (try dsimp only); k_is); (case g68 => (try dsimp only); k_is); (case i68 => (try dsimp only); k_is); skip; refine Args_plain ?_; refine A_cons ?_; refine E_bin ?_; refine E_meth ?_; dsimp only; (refine' E_name ?hv69 ?_; (case hv69 => exact rfl)); refine' M_fn ?hi70 ?a70 ?b70 ?c70 ?d70 ?e70 ?_; (case hi70 => exact .inl rfl); (case a70 => (try dsimp only); k_is); (case b70 => (try dsimp only); k_is); (case c70 => (try dsimp only); k_is); (case d70 => (try dsimp only); k_is); (case e70 => decide); refine Args_plain ?_; refine A_nil ?_; refine WC.of (id_c (by with_reducible assumption) (by exact Gd.le (by with_reducible assumption) rfl)  ?_); refine E_bin ?_; refine E_meth ?_; dsimp only; (refine' E_name ?hv71 ?_; (case hv71 => exact rfl)); refine' M_fn ?hi72 ?a72 ?b72 ?c72 ?d72 ?e72 ?_; (case hi72 => exact .inl rfl); (case a72 => (try dsimp only); k_is); (case b72 => (try dsimp only); k_is); (case c72 => (try dsimp only); k_is); (case d72 => (try dsimp only); k_is); (case e72 => decide); refine Args_plain ?_; refine A_nil ?_; refine WC.of (lsb_c (by with_reducible assumption) (by exact Gd.le (by with_reducible assumption) rfl)  ?_); refine E_int ?_; refine O_shl (by decide) (by decide) (by with_reducible assumption) ?_; refine O_add ?_; refine A_nil ?_)
  refine WC.of (newN ⟨c₀.p + 1, c₀.u⟩ (by (with_reducible assumption)) (by (exact Gd.le (by with_reducible assumption) rfl)) hb ?_ ?_)
  · show (((2 * c₀.p + 1) * 4 ^ c₀.u : Nat) : Int) + ((4 ^ c₀.u : Nat) : Int) * 2 ^ Int.toNat 1 = (((2 * (c₀.p + 1) + 1) * 4 ^ c₀.u : Nat) : Int)
    rw [show (2 : Int) ^ Int.toNat 1 = 2 by decide]
    push_cast
    grind
  skip
  exact h
abbrev mD (c₀ : Cel) (m j : Nat) : List (Str × AV) := [(Str.ofString "end", .cell (c₀.des m (4 ^ m)).id), (Str.ofString "cell_id", .cell (c₀.des m j).id)]
theorem look2 {a b x : Str} {U W V : AV} (h : [(a, U), (b, W)].lookup x = some V) : V = U ∨ V = W := by
  rw [List.lookup_cons] at h
  split at h
  · cases h; exact .inl rfl
  · rw [List.lookup_cons] at h
    split at h
    · cases h; exact .inr rfl
    · cases h
theorem look_pre {x : Str} {V : AV} {l : List (Str × AV)} (r : List (Str × AV)) (h : l.lookup x = some V) : (l ++ r).lookup x = some V := by rw [List.lookup_append, h]; rfl
theorem look_swap {a b x : Str} {U W W' V : AV} (hab : a ≠ b) (h : [(a, U), (b, W)].lookup x = some V) : [(b, W), (a, U), (b, W')].lookup x = some V := by
  rw [List.lookup_cons] at h ⊢
  by_cases q : x = a
  · subst q
    rw [beq_self_eq_true] at h
    rw [beq_eq_false_iff_ne.mpr hab, List.lookup_cons, beq_self_eq_true]
    exact h
  · rw [beq_eq_false_iff_ne.mpr q, List.lookup_cons] at h
    by_cases r : x = b
    · subst r; rw [beq_self_eq_true] at h ⊢; exact h
    · rw [beq_eq_false_iff_ne.mpr r] at h; cases h
theorem S_childrenL {c : Cx} {X : AX} {Q : AF → AX → Prop} {y : Str} {yp' : Pos} {o e : Expr} {apos cpos pos : Pos} {body : List Stmt} {c₀ : Cel} {lv : Int} {m : Nat} {pl : Sem Bool} (L : Lw c) (G : Gd c.A 12) (hfix : c.fix = false) (hv : c₀.ok) (hm : m ≤ c₀.u) (hl : lv = 30 - (c₀.u : Int) + m)
    (ho : WE c o (fun U Y => U = .cell c₀.id ∧ Y = X) X) (hA : WAs c cpos [e] (fun Vs Y => Vs = [.int lv] ∧ Y = X) X)
    (hI : ∃ I : Nat → AX → Prop, I 0 X ∧ (∀ i Y, i < 4 ^ m → I i Y → WA c (.Name y yp') (.cell (c₀.des m i).id) (fun Y' => WSs c body (Turn c id (I (i + 1)) Q) Y') Y) ∧ ∀ Y, I (4 ^ m) Y → Q .next Y)
    (hst : starEach [e] c.env = [(false, eval e c.env)] := by rfl)
    (he : eval (.Call (.Attribute o "children" apos) [e] [] cpos) c.env = (do
      let ov ← eval o c.env
      standAt apos.atName
      let (f, first) ← holding [ov] (getMethod ov "children" pl)
      callWith cpos f first (backTo cpos (starEach [e] c.env)) (backToKw cpos (keywordEach [] c.env))) := by rfl)
    (hs : ∀ x, foldedSetIterable (.Call (.Attribute o "children" apos) [e] [] cpos) c.env x = pure x := by intro _; rfl) :
    WS c (.For (.Name y yp') (.Call (.Attribute o "children" apos) [e] [] cpos) body [] pos) Q X := by
  (have _ : PySem.Challenge.rw_lp0003_08 = PySem.Challenge.rw_lp0003_08 → ∀ w : World, (hd8.heap_1 w.params).In default → True := by (k_fill; intros; trivial))
  have L₀ := L
  obtain ⟨P, w, K, g, A, env, own, E, fx⟩ := c
  obtain ⟨hP, hK, hC, hN⟩ := L
  dsimp only at hP hK hC hN G
  subst hP hK
  refine' S_forMeth (C := 453) (f := 299) (ks := [Str.ofString "_CellId__id"]) (ws := [.int c₀.id]) (Us := [.int lv]) (xs := (List.range (4 ^ m)).map fun k => .cell (c₀.des m k).id) (m := mD c₀ m) (d := 8) (pl := pl) [(Str.ofString "self", .cell c₀.id), (Str.ofString "args", .tup [.int lv])] ?G hfix ho ?hi ?hg ?hf ?ht ?hfn ?hk hA ?hl ?hcd ?hb ?hkind ?hcl ?hco ?hgen ?hk' ?hin ?spec ?hI ?hst he hs
  case hl => ((try dsimp only); k_is)
  case G => (exact Gd.le (by with_reducible assumption) rfl)
  case hi => exact .inl rfl
  case hg => ((try dsimp only); k_is)
  case hf => ((try dsimp only); k_is)
  case ht => ((try dsimp only); k_is)
  case hfn => ((try dsimp only); k_is)
  case hk => decide
  case hcd => ((try dsimp only); k_is)
  case hb => exact bindS1 fun v u => ⟨_, rfl, fun _ => rfl⟩
  case hkind => rfl
  case hcl => intro L; rfl
  case hco => rfl
  case hgen => rfl
  case hk' => rfl
  case hin => intro L; rfl
  case hst => intro a r q; cases q; exact hst
  case hI =>
    obtain ⟨I, h1, h2, h3⟩ := hI
    refine ⟨I, h1, fun i x Y hx hY => ?_, fun Y hY => h3 Y (by rw [List.length_map, List.length_range] at hY; exact hY)⟩
    obtain ⟨hi, rfl⟩ := des_at hx
    exact h2 i Y hi hY
  case spec =>
    intro Lc
    have hkn : ∀ j, j ≤ 4 ^ m → (c₀.des m j).nid < 18446744073709551615 := fun j h => Cel.des_fit hv hm h
    have hku : ∀ j, (c₀.des m j).u ≤ 30 := fun j => by have := hv.1; show c₀.u - m ≤ 30; lia
    have hxl : ((List.range (4 ^ m)).map fun k => AV.cell (c₀.des m k).id).length = 4 ^ m := by rw [List.length_map, List.length_range]
    refine' ⟨?thin, ?thin0, ?pre, ?test, ?item, ?step⟩
    case thin => intro j x V h; rcases look2 h with rfl | rfl <;> exact .inst _ _ _
    case thin0 => intro x V h; rcases look2 h with rfl | rfl; exact .one _; exact .inst _ _ _
    case pre =>
      intro A GA okA
      clear okA
      dsimp only [Cx.gx]
      simp only [List.reverse_cons, List.reverse_nil, List.nil_append, List.cons_append]
      (refine S_assign (by exact .inl ⟨rfl, .head _⟩) ?_)
      refine' E_methS (V := .cell c₀.id) (C := 453) (f := 271) (ks := [Str.ofString "_CellId__id"]) (ws := [.int c₀.id]) (Us := [.int lv]) ?o1 ?hi1 ?hg1 ?hh1 ?ha1 ?hf1 ?hgf1 ?hts1 ?hc1 ?hk1 ?hfn1 ?ht1 (by show 1 ≤ 1000; decide) ?h1
      case o1 => ((refine' E_name ?hv1 ?_; (case hv1 => exact rfl))); exact ⟨rfl, rfl⟩
      case hi1 => exact .inl rfl
      case hg1 => ((try dsimp only); k_is)
      case hh1 => ((try dsimp only); k_is)
      case ha1 => ((try dsimp only); k_is)
      case hf1 => ((try dsimp only); k_is)
      case hgf1 => ((try dsimp only); k_is)
      case hts1 => ((try dsimp only); k_is)
      case hc1 => decide +kernel
      case hk1 => decide
      case hfn1 => ((try dsimp only); k_is)
      case ht1 => ((refine' E_name ?hv2 ?_; (case hv2 => exact rfl))); exact ⟨rfl, rfl⟩
      refine cbegL_c (by (exact ⟨rfl, rfl, by assumption, by assumption⟩)) (by (exact Gd.le (by with_reducible assumption) rfl)) hv hm hl ⟨rfl, ?_⟩
      dsimp only
      (refine S_assign (by exact .inl ⟨rfl, .head _⟩) ?_; dsimp only)
      refine' E_methS (V := .cell c₀.id) (C := 453) (f := 278) (ks := [Str.ofString "_CellId__id"]) (ws := [.int c₀.id]) (Us := [.int lv]) ?o2 ?hi2 ?hg2 ?hh2 ?ha2 ?hf2 ?hgf2 ?hts2 ?hc2 ?hk2 ?hfn2 ?ht2 (by show 1 ≤ 1000; decide) ?h2
      case o2 => ((refine' E_name ?hv3 ?_; (case hv3 => exact rfl))); exact ⟨rfl, rfl⟩
      case hi2 => exact .inl rfl
      case hg2 => ((try dsimp only); k_is)
      case hh2 => ((try dsimp only); k_is)
      case ha2 => ((try dsimp only); k_is)
      case hf2 => ((try dsimp only); k_is)
      case hgf2 => ((try dsimp only); k_is)
      case hts2 => ((try dsimp only); k_is)
      case hc2 => decide +kernel
      case hk2 => decide
      case hfn2 => ((try dsimp only); k_is)
      case ht2 => ((refine' E_name ?hv4 ?_; (case hv4 => exact rfl))); exact ⟨rfl, rfl⟩
      refine cendL_c (by (exact ⟨rfl, rfl, by assumption, by assumption⟩)) (by (exact Gd.le (by with_reducible assumption) rfl)) hv hm hl ⟨rfl, fun x V h => look_pre [(Str.ofString "args", .tup [.int lv]), (Str.ofString "self", .cell c₀.id)] h⟩
    case test =>
      intro j A hj GA okA
      rw [hxl] at hj ⊢
      clear okA
      dsimp only [Cx.gx]
      (refine T_cmp ?_; (refine' E_name ?hv5 ?_; (case hv5 => exact rfl)); (refine' E_name ?hv6 ?_; (case hv6 => exact rfl)); refine' O_cmp ?hi7 ?hj7 ?a7 ?b7 ?d7 (fun _ _ => rfl) ?_; (case hi7 => exact .inl rfl); (case hj7 => exact .inl rfl); (case a7 => (try dsimp only); k_is); (case b7 => (try dsimp only); k_is); (case d7 => (try dsimp only); k_is); refine ne_c (by exact ⟨rfl, rfl, by assumption, by assumption⟩) (by exact Gd.le (by with_reducible assumption) rfl) ⟨_, rfl, ?_⟩; refine Tr_bool ?_)
      exact ⟨des_ne hj, rfl⟩
    case item =>
      intro j A hj GA okA
      rw [hxl] at hj
      clear okA
      dsimp only [Cx.gx]
      ((refine' E_name ?hv8 ?_; (case hv8 => exact rfl)))
      exact ⟨at_des hj, rfl⟩
    case step =>
      intro j A hj GA okA
      rw [hxl] at hj
      clear okA
      dsimp only [Cx.gx]
      (refine S_assign (by exact .inl ⟨rfl, .head _⟩) ?_; dsimp only; refine E_meth ?_; dsimp only; (refine' E_name ?hv9 ?_; (case hv9 => exact rfl)); refine' M_fn ?hi10 ?a10 ?b10 ?c10 ?d10 ?e10 ?_; (case hi10 => exact .inl rfl); (case a10 => (try dsimp only); k_is); (case b10 => (try dsimp only); k_is); (case c10 => (try dsimp only); k_is); (case d10 => (try dsimp only); k_is); (case e10 => decide); refine Args_plain ?_; refine A_nil ?_)
      refine WC.of (next_c (by (exact ⟨rfl, rfl, by assumption, by assumption⟩)) (by (exact Gd.le (by with_reducible assumption) rfl)) (hku j) (hkn (j + 1) hj) ⟨rfl, fun x V h => look_swap (by decide) h⟩)
theorem denorm_c {c : Cx} {Q : AV → AX → Prop} {X : AX} {cs : List Cel} {least step : Int} (L : Lw c) (G : Gd c.A 15) (hfx : c.fix = false) (hok : ∀ e ∈ cs, e.ok) (h0 : 0 ≤ least) (h1 : least ≤ 30) (h2 : 1 ≤ step) (h3 : step ≤ 3) (hz : (dnl least step cs).length ≤ 1000) (h : Q (.lst (cellsV (dnl least step cs))) X) : WF c (.ref 573) [.uni cs, .int least, .int step] [] Q X := by
  (have _ : PySem.Challenge.rw_lp0003_08 = PySem.Challenge.rw_lp0003_08 → ∀ w : World, (hd8.heap_1 w.params).In default → True := by (k_fill; intros; trivial))
  have L₀ := L
  obtain ⟨P, w, K, g, A, env, own, E, fx⟩ := c
  obtain ⟨hP, hK, hC, hN⟩ := L
  dsimp only at hP hK hC hN G
  subst hP hK
  refine WF.conv ?_
  refine' WF.go (M := [((Str.ofString "self"), .uni cs), ((Str.ofString "min_level"), .int least), ((Str.ofString "level_mod"), .int step)]) G ?k1 ?k2 ?k3 ?k4 ?k5 ?k6 ?k7 ?k8 ?_
  case k1 => ((try dsimp only); k_is)
  case k2 => ((try dsimp only); k_is)
  case k3 => exact bind3 fun s v u w X => .of_eq rfl
  case k4 => rfl
  case k5 => decide
  case k6 => rfl
  case k7 => rfl
  case k8 => rfl
  intro F c' kn he ho ok G'
  have L' := L₀.kin kn
  obtain ⟨P', w', K', g', A', env', own', E', fx'⟩ := c'
  obtain ⟨f1, f2, f3, f4, f5⟩ := kn
  dsimp only at f1 f2 f3 f4 f5 he ho G'
  subst f1 f2 f3 f4 f5 he ho
  clear L₀
  simp only [List.reverse_cons, List.reverse_nil, List.nil_append, List.cons_append]
  (refine S_cons ?_; refine S_assert ?_; refine T_cmp ?_; (refine' E_name ?hv11 ?_; (case hv11 => exact rfl)); refine E_int ?_; refine O_ge ?_; refine Tr_bool ?_)
  refine ⟨decide_eq_true h0, ?_⟩
  (refine Then_next ?_; refine S_cons ?_; refine S_assert ?_; refine T_cmp ?_; (refine' E_name ?hv12 ?_; (case hv12 => exact rfl)); refine E_attr ?_; (refine' E_global ?hk13 ?e13 ?_; (case hk13 => exact rfl); (case e13 => (try dsimp only); k_is)); refine' G_cv ?hm14 ?a14 ?b14 ?c14 ?d14 ?_; (case hm14 => (try dsimp only); k_is); (case a14 => (try dsimp only); k_is); (case b14 => (try dsimp only); k_is); (case c14 => rfl); (case d14 => intro _; exact .int _ _); refine O_le ?_; refine Tr_bool ?_)
  refine ⟨decide_eq_true h1, ?_⟩
  (refine Then_next ?_; refine S_cons ?_; refine S_assert ?_; refine T_cmp ?_; (refine' E_name ?hv15 ?_; (case hv15 => exact rfl)); refine E_int ?_; refine O_ge ?_; refine Tr_bool ?_)
  refine ⟨decide_eq_true h2, ?_⟩
  (refine Then_next ?_; refine S_cons ?_; refine S_assert ?_; refine T_cmp ?_; (refine' E_name ?hv16 ?_; (case hv16 => exact rfl)); refine E_int ?_; refine O_le ?_; refine Tr_bool ?_)
  refine ⟨decide_eq_true h3, ?_⟩
  (refine Then_next ?_; refine S_cons ?_; refine S_assign (by exact .inl ⟨rfl, .head _⟩) ?_)
  refine E_listM (A_nil ⟨by decide, fun o => ?_⟩)
  (refine Then_next ?_; dsimp only; refine S_cons ?_)
  refine S_for ?_
  (refine E_attr ?_; (refine' E_name ?hv17 ?_; (case hv17 => exact rfl)); refine' G_own (ca := none) ?hi18 ?a18 ?b18 ?c18 ?d18 ?e18 ?f18 ?_; (case hi18 => exact .inl rfl); (case a18 => (try dsimp only); k_is); (case b18 => (try dsimp only); k_is); (case c18 => (try dsimp only); k_is); (case d18 => (try dsimp only); k_is); (case e18 => exact rfl); (case f18 => exact rfl))
  refine I_lst ?_
  refine ⟨fun i Y => Y = ⟨(o, .lst (cellsV (dnl least step (cs.take i)))) :: X.σ, [((Str.ofString "cell_ids"), .raw (.ref o)), ((Str.ofString "level_mod"), .int step), ((Str.ofString "min_level"), .int least), ((Str.ofString "self"), .uni cs)]⟩, ⟨_, Conv.rfl, rfl⟩, ?turn, ?fin⟩
  case fin =>
    intro Y hY
    subst hY
    (refine Then_next ?_; refine S_last ?_; refine S_return ?_; (refine' E_name ?hv19 ?_; (case hv19 => exact rfl)))
    rw [List.length_map, List.take_length]
    exact ⟨_, _, ConvV.freeze (m' := X.m) .head rfl .here (fun x V e => ⟨V, e, .same V⟩), h⟩
  case turn =>
    intro i x Y hx hY
    subst hY
    obtain ⟨e, hq, rfl⟩ := cel_at hx
    have he := hok e (List.mem_of_getElem? hq)
    have hl : dnl least step (cs.take (i + 1)) = dnl least step (cs.take i) ++ desL e (mF least step e) := by
      unfold dnl; rw [List.take_succ, hq, List.flatMap_append]; simp
    have hpre : (dnl least step (cs.take i)).length + (desL e (mF least step e)).length ≤ 1000 := by
      have := dnl_take least step cs (i + 1)
      rw [hl, List.length_append] at this; lia
    have hm := mF_le h0 h1 h2 h3 he.1
    have hf := mF_fine h0 h1 h2 h3 he.1
    dsimp only
    rw [hl]
    generalize dnl least step (cs.take i) = pre at hpre
    clear hl hx
    refine A_name (by (exact .inl ⟨rfl, .head _⟩)) ?_
    refine S_cons ?_
    refine WT.imp (Q := fun F Y => F = AF.next ∧ Y = ⟨(o, .lst (cellsV pre)) :: X.σ, [((Str.ofString "level"), .int (30 - (e.u : Int))), ((Str.ofString "cell_id"), .cell e.id), ((Str.ofString "cell_ids"), .raw (.ref o)), ((Str.ofString "level_mod"), .int step), ((Str.ofString "min_level"), .int least), ((Str.ofString "self"), .uni cs)]⟩) ?la ?lb
    case la => (refine S_assign (by exact .inl ⟨rfl, .head _⟩) ?_; dsimp only; refine E_meth ?_; dsimp only; (refine' E_name ?hv20 ?_; (case hv20 => exact rfl)); refine' M_fn ?hi21 ?a21 ?b21 ?c21 ?d21 ?e21 ?_; (case hi21 => exact .inl rfl); (case a21 => (try dsimp only); k_is); (case b21 => (try dsimp only); k_is); (case c21 => (try dsimp only); k_is); (case d21 => (try dsimp only); k_is); (case e21 => decide); refine Args_plain ?_; refine A_nil ?_; refine WC.of (level_c (by with_reducible assumption) (by exact Gd.le (by with_reducible assumption) rfl) (by with_reducible assumption) ?_); dsimp only); exact ⟨rfl, rfl⟩
    rintro F Y ⟨rfl, rfl⟩
    refine Then_next ?_
    refine S_cons ?_
    refine WT.imp (Q := fun F Y => F = AF.next ∧ Y = ⟨(o, .lst (cellsV pre)) :: X.σ, [((Str.ofString "new_level"), .int (max least (30 - (e.u : Int)))), ((Str.ofString "level"), .int (30 - (e.u : Int))), ((Str.ofString "cell_id"), .cell e.id), ((Str.ofString "cell_ids"), .raw (.ref o)), ((Str.ofString "level_mod"), .int step), ((Str.ofString "min_level"), .int least), ((Str.ofString "self"), .uni cs)]⟩) ?na ?nb
    case na => (refine S_assign (by exact .inl ⟨rfl, .head _⟩) ?_; refine E_call ?_; dsimp only; (refine' E_builtin (v := .builtin ?id22) ?hk22 ?e22 ?hv22 ?hn22 ?_; (case hk22 => exact rfl); (case e22 => (try dsimp only); k_is); (case hv22 => exact rfl); (case hn22 => decide)); dsimp only; refine C_raw keeper_builtin ?_; refine Args_plain ?_; refine A_cons ?_; (refine' E_name ?hv23 ?_; (case hv23 => exact rfl)); refine A_cons ?_; (refine' E_name ?hv24 ?_; (case hv24 => exact rfl)); refine A_nil ?_; refine B_max ?_; dsimp only); exact ⟨rfl, rfl⟩
    rintro F Y ⟨rfl, rfl⟩
    refine Then_next ?_
    refine S_cons ?_
    refine WT.imp (Q := fun F Y => F = AF.next ∧ ∃ mm, Y = ⟨(o, .lst (cellsV pre)) :: X.σ, mm⟩ ∧ mm.lookup (Str.ofString "new_level") = some (.int (30 - (e.u : Int) + mF least step e)) ∧ mm.lookup (Str.ofString "level") = some (.int (30 - (e.u : Int))) ∧ mm.lookup (Str.ofString "cell_id") = some (.cell e.id) ∧ mm.lookup (Str.ofString "cell_ids") = some (.raw (.ref o)) ∧ mm.lookup (Str.ofString "level_mod") = some (.int step) ∧ mm.lookup (Str.ofString "min_level") = some (.int least) ∧ mm.lookup (Str.ofString "self") = some (.uni cs)) ?fa ?fb
    case fa =>
      unfold nlF at hf
      (refine S_if ?_; refine T_cmp ?_; (refine' E_name ?hv25 ?_; (case hv25 => exact rfl)); refine E_int ?_; refine O_gt ?_; refine Tr_bool ?_)
      by_cases q : 1 < step
      · rw [if_pos (decide_eq_true q)]
        rw [if_pos q] at hf
        (refine S_cons ?_; refine S_aug (by exact .inl ⟨rfl, .head _⟩) rfl ?_; refine E_bin ?_; refine E_bin ?_; refine E_attr ?_; (refine' E_global ?hk26 ?e26 ?_; (case hk26 => exact rfl); (case e26 => (try dsimp only); k_is)); refine' G_cv ?hm27 ?a27 ?b27 ?c27 ?d27 ?_; (case hm27 => (try dsimp only); k_is); (case a27 => (try dsimp only); k_is); (case b27 => (try dsimp only); k_is); (case c27 => rfl); (case d27 => intro _; exact .int _ _); refine E_bin ?_; (refine' E_name ?hv28 ?_; (case hv28 => exact rfl)); (refine' E_name ?hv29 ?_; (case hv29 => exact rfl)); refine O_sub ?_; refine O_sub ?_; (refine' E_name ?hv30 ?_; (case hv30 => exact rfl)); refine O_mod (by lia) ?_; refine O_iadd ?_; dsimp only; refine Then_next ?_; refine S_last ?_; refine S_assign (by exact .inl ⟨rfl, .head _⟩) ?_; refine E_call ?_; dsimp only; (refine' E_builtin (v := .builtin ?id31) ?hk31 ?e31 ?hv31 ?hn31 ?_; (case hk31 => exact rfl); (case e31 => (try dsimp only); k_is); (case hv31 => exact rfl); (case hn31 => decide)); dsimp only; refine C_raw keeper_builtin ?_; refine Args_plain ?_; refine A_cons ?_; refine E_attr ?_; (refine' E_global ?hk32 ?e32 ?_; (case hk32 => exact rfl); (case e32 => (try dsimp only); k_is)); refine' G_cv ?hm33 ?a33 ?b33 ?c33 ?d33 ?_; (case hm33 => (try dsimp only); k_is); (case a33 => (try dsimp only); k_is); (case b33 => (try dsimp only); k_is); (case c33 => rfl); (case d33 => intro _; exact .int _ _); refine A_cons ?_; (refine' E_name ?hv34 ?_; (case hv34 => exact rfl)); refine A_nil ?_; refine B_min ?_; dsimp only)
        exact ⟨rfl, _, rfl, by rw [← hf]; rfl, rfl, rfl, rfl, rfl, rfl, rfl⟩
      · rw [if_neg (by rw [decide_eq_false q]; decide)]
        rw [if_neg q] at hf
        (refine S_nil ?_)
        exact ⟨rfl, _, rfl, by rw [← hf]; rfl, rfl, rfl, rfl, rfl, rfl, rfl⟩
    rintro F Y ⟨rfl, mm, rfl, e1, e2, e3, e4, e5, e6, e7⟩
    refine Then_next ?_
    refine WT.pre (Conv.names [((Str.ofString "new_level"), .int (30 - (e.u : Int) + mF least step e)), ((Str.ofString "level"), .int (30 - (e.u : Int))), ((Str.ofString "cell_id"), .cell e.id), ((Str.ofString "cell_ids"), .raw (.ref o)), ((Str.ofString "level_mod"), .int step), ((Str.ofString "min_level"), .int least), ((Str.ofString "self"), .uni cs)] (by
      intro p hp
      simp only [List.mem_cons, List.not_mem_nil, or_false] at hp
      rcases hp with rfl | rfl | rfl | rfl | rfl | rfl | rfl <;> assumption)) ?_
    clear e1 e2 e3 e4 e5 e6 e7
    dsimp only
    generalize mF least step e = m at *
    (refine S_last ?_; refine S_if ?_; refine T_cmp ?_; (refine' E_name ?hv35 ?_; (case hv35 => exact rfl)); (refine' E_name ?hv36 ?_; (case hv36 => exact rfl)); refine O_eq ?_; refine Tr_bool ?_)
    by_cases q : m = 0
    · subst q
      rw [if_pos (decide_eq_true (by lia))]
      rw [desL_zero] at hpre ⊢
      (refine S_last ?_; refine S_expr ?_; refine E_meth ?_; dsimp only; (refine' E_name ?hv37 ?_; (case hv37 => exact rfl)); refine M_list (by exact List.Mem.head _) PySem.F.slot_list_append PySem.F.type_list_append ?_; refine Args_plain ?_; refine A_cons ?_; (refine' E_name ?hv38 ?_; (case hv38 => exact rfl)); refine A_nil ?_; refine B_append (by exact SUpd.head) (by simp only [cellsV, List.length_map, List.length_reverse, List.length_cons, List.length_append, List.length_nil]; lia) ?_; dsimp only)
      refine ⟨_, Conv.names [((Str.ofString "cell_ids"), .raw (.ref o)), ((Str.ofString "level_mod"), .int step), ((Str.ofString "min_level"), .int least), ((Str.ofString "self"), .uni cs)] (by intro p hp; simp only [List.mem_cons, List.not_mem_nil, or_false] at hp; rcases hp with rfl | rfl | rfl | rfl <;> rfl), ?_⟩
      rw [show cellsV (pre ++ [e]) = cellsV pre ++ [AV.cell e.id] from List.map_append]
    · rw [if_neg (by rw [decide_eq_false (by lia)]; decide)]
      refine S_last ?_
      refine' S_childrenL (c₀ := e) (m := m) (lv := 30 - (e.u : Int) + m) ?hL ?hG hfx he hm rfl ?ho ?hA ⟨fun i Y => Y = ⟨(o, .lst (cellsV (pre ++ (List.range i).map (e.des m)))) :: X.σ, [((Str.ofString "new_level"), .int (30 - (e.u : Int) + m)), ((Str.ofString "level"), .int (30 - (e.u : Int))), ((Str.ofString "cell_id"), .cell e.id), ((Str.ofString "cell_ids"), .raw (.ref o)), ((Str.ofString "level_mod"), .int step), ((Str.ofString "min_level"), .int least), ((Str.ofString "self"), .uni cs)]⟩, ?i0, ?turn2, ?fin2⟩ ?hst ?he ?hs
      case hL => (with_reducible assumption)
      case hG => (exact Gd.le (by with_reducible assumption) rfl)
      case hst => rfl
      case he => rfl
      case hs => intro _; rfl
      case ho => ((refine' E_name ?hv39 ?_; (case hv39 => exact rfl))); exact ⟨rfl, rfl⟩
      case hA => (refine A_cons ?_; (refine' E_name ?hv40 ?_; (case hv40 => exact rfl)); refine A_nil ?_); exact ⟨rfl, rfl⟩
      case i0 => show (⟨_, _⟩ : AX) = _; rw [List.range_zero, List.map_nil, List.append_nil]
      case fin2 =>
        intro Y hY
        subst hY
        exact ⟨_, Conv.names [((Str.ofString "cell_ids"), .raw (.ref o)), ((Str.ofString "level_mod"), .int step), ((Str.ofString "min_level"), .int least), ((Str.ofString "self"), .uni cs)] (by intro p hp; simp only [List.mem_cons, List.not_mem_nil, or_false] at hp; rcases hp with rfl | rfl | rfl | rfl <;> rfl), rfl⟩
      case turn2 =>
        intro i Y hi hY
        subst hY
        rw [desL_len] at hpre
        have hlen : (cellsV (pre ++ (List.range i).map (e.des m))).length ≤ 1000000 := by rw [List.length_map, List.length_append, List.length_map, List.length_range]; lia
        (refine A_name (by exact .inl ⟨rfl, .head _⟩) ?_; dsimp only; refine S_last ?_; refine S_expr ?_; refine E_meth ?_; dsimp only; (refine' E_name ?hv41 ?_; (case hv41 => exact rfl)); refine M_list (by exact List.Mem.head _) PySem.F.slot_list_append PySem.F.type_list_append ?_; refine Args_plain ?_; refine A_cons ?_; (refine' E_name ?hv42 ?_; (case hv42 => exact rfl)); refine A_nil ?_; refine B_append (by exact SUpd.head) (by with_reducible assumption) ?_; dsimp only)
        refine ⟨_, Conv.names [((Str.ofString "new_level"), .int (30 - (e.u : Int) + m)), ((Str.ofString "level"), .int (30 - (e.u : Int))), ((Str.ofString "cell_id"), .cell e.id), ((Str.ofString "cell_ids"), .raw (.ref o)), ((Str.ofString "level_mod"), .int step), ((Str.ofString "min_level"), .int least), ((Str.ofString "self"), .uni cs)] (by intro p hp; simp only [List.mem_cons, List.not_mem_nil, or_false] at hp; rcases hp with rfl | rfl | rfl | rfl | rfl | rfl | rfl <;> rfl), ?_⟩
        rw [desL_succ, ← List.append_assoc, show cellsV ((pre ++ (List.range i).map (e.des m)) ++ [e.des m i]) = cellsV (pre ++ (List.range i).map (e.des m)) ++ [AV.cell (e.des m i).id] from List.map_append]
theorem few {w a : Nat} (hw : 0 < w) : ∀ {cs : List Cel} {is : List Nat}, (∀ c ∈ cs, c.hi ≤ c.lo + w) → is.Nodup → (∀ i ∈ is, Lf cs (a + i * w)) → is.length ≤ cs.length
  | [], is, _, _, h => by
    cases is with
    | nil => exact Nat.le_refl _
    | cons i r => exact (Lf_nil (h i (.head _))).elim
  | c :: r, is, hc, hn, h => by
    by_cases q : ∃ i ∈ is, c.lo ≤ a + i * w ∧ a + i * w < c.hi
    · obtain ⟨i, hi, q1, q2⟩ := q
      have := few hw (cs := r) (is := is.erase i) (fun x hx => hc x (.tail _ hx)) (hn.erase i) fun j hj => by
        have hj' := List.mem_of_mem_erase hj
        have hne : j ≠ i := fun z => (List.Nodup.not_mem_erase hn) (z ▸ hj)
        rcases Lf_cons.mp (h j hj') with z | z
        · have hcw := hc c (.head _)
          rcases Nat.lt_or_gt_of_ne hne with k | k
          · have : (j + 1) * w ≤ i * w := Nat.mul_le_mul_right _ k
            rw [Nat.add_mul] at this; omega
          · have : (i + 1) * w ≤ j * w := Nat.mul_le_mul_right _ k
            rw [Nat.add_mul] at this; omega
        · exact z
      rw [List.length_erase_of_mem hi] at this
      rw [List.length_cons]; omega
    · have := few hw (cs := r) (is := is) (fun x hx => hc x (.tail _ hx)) hn fun i hi => (Lf_cons.mp (h i hi)).resolve_left fun z => q ⟨i, hi, z⟩
      rw [List.length_cons]; omega
theorem fm_small {a step : Int} (h2 : 1 ≤ step) (h3 : step ≤ 3) : a.fmod step = if step = 1 then 0 else if step = 2 then a % 2 else a % 3 := by
  rw [Int.fmod_eq_emod_of_nonneg _ (by omega)]
  have : step = 1 ∨ step = 2 ∨ step = 3 := by omega
  rcases this with rfl | rfl | rfl
  · rw [if_pos rfl]; omega
  · rfl
  · rfl
theorem mF_two {least step base : Int} {c : Cel} (h0 : 0 ≤ least) (h1 : least ≤ 30) (h2 : 1 ≤ step) (h3 : step ≤ 3) (hb : least ≤ base + 1) (hv : c.u ≤ 30) (hc : base - 1 ≤ 30 - (c.u : Int)) : mF least step c ≤ 2 := by
  unfold mF nlF
  rw [fm_small h2 h3]
  have : step = 1 ∨ step = 2 ∨ step = 3 := by omega
  rcases this with rfl | rfl | rfl
  · simp; omega
  · simp; omega
  · simp; omega
theorem dnl_len {least step : Int} : ∀ {cs : List Cel}, (∀ c ∈ cs, mF least step c ≤ 2) → (dnl least step cs).length ≤ 16 * cs.length
  | [], _ => Nat.le_refl _
  | c :: r, h => by
    have h1 := dnl_len (least := least) (step := step) (cs := r) fun x hx => h x (.tail _ hx)
    have h2 : 4 ^ mF least step c ≤ 4 ^ 2 := Nat.pow_le_pow_right (by decide) (h c (.head _))
    show (desL c (mF least step c) ++ dnl least step r).length ≤ 16 * (r.length + 1)
    rw [List.length_append, desL_len]
    omega
theorem dnl_ok {least step : Int} (h0 : 0 ≤ least) (h1 : least ≤ 30) (h2 : 1 ≤ step) (h3 : step ≤ 3) {cs : List Cel} (h : ∀ c ∈ cs, c.ok) : ∀ e ∈ dnl least step cs, e.ok := by
  intro e he
  obtain ⟨c, hc, he⟩ := List.mem_flatMap.mp he
  obtain ⟨k, hk, rfl⟩ := List.mem_map.mp he
  exact Cel.des_ok (h c hc) (mF_le h0 h1 h2 h3 (h c hc).1) (List.mem_range.mp hk)
theorem few_low {cs : List Cel} {U : Nat} (hU : ∀ c ∈ cs, c.u ≤ U) (hl : cs.length < 4) {q : Cel} (hq : ∀ x, q.lo ≤ x → x < q.hi → Lf cs x) : q.u ≤ U := by
  rcases Nat.lt_or_ge U q.u with h | h
  · have hp : 0 < 4 ^ U := Nat.pow_pos (by decide)
    have hw : 4 * 4 ^ U ≤ 4 ^ q.u := by
      have : 4 ^ (U + 1) ≤ 4 ^ q.u := Nat.pow_le_pow_right (by decide) h
      rw [Nat.pow_add] at this; omega
    have := few (a := q.lo) hp (cs := cs) (is := List.range 4) (fun c hc => by
      have h1 := c.hi_eq
      have : 4 ^ c.u ≤ 4 ^ U := Nat.pow_le_pow_right (by decide) (hU c hc)
      omega) List.nodup_range fun i hi => hq _ (by omega) (by
        have hi : i < 4 := List.mem_range.mp hi
        have h1 := q.hi_eq
        have : (i + 1) * 4 ^ U ≤ 4 * 4 ^ U := Nat.mul_le_mul_right _ hi
        rw [Nat.add_mul] at this
        omega)
    rw [List.length_range] at this
    omega
  · exact h
structure KI (b c : Cel) : Prop where
  ok : c.ok
  sub : c.sub b
  u2 : b.u ≤ c.u + 2
  top : c.u = b.u → c = b
theorem spread {b : Cel} {cs C : List Cel} (hk : ∀ c ∈ cs, KI b c) (hl : cs.length < 4) (hC : Least (Lf cs) C) : ∀ e ∈ C, ∀ e' ∈ C, e.u ≤ e'.u + 1 := by
  have low : ∀ e ∈ C, ∃ c ∈ cs, c.u ≤ e.u ∧ c.lo ≤ e.lo ∧ e.lo < c.hi := fun e he => by
    obtain ⟨c, hc, a1, a2⟩ := hC.cell he (Nat.le_refl _) e.lo_lt
    rcases Nat.lt_or_ge e.u c.u with q | q
    · have hs := Cel.meet_sub (Nat.le_of_lt q) (Nat.le_refl _) e.lo_lt a1 a2
      have := hC.mx e he c (hk c hc).ok.1 (fun x x1 x2 => ⟨c, hc, x1, x2⟩) hs
      rw [this] at q; omega
    · exact ⟨c, hc, q, a1, a2⟩
  have up : ∀ U, (∀ c ∈ cs, c.u ≤ U) → ∀ e ∈ C, e.u ≤ U := fun U hU e he => few_low hU hl fun x x1 x2 => hC.cell he x1 x2
  intro e he e' he'
  have h1 := up b.u (fun c hc => (hk c hc).sub.u_le) e he
  by_cases q : b ∈ cs
  · obtain ⟨c, hc, a0, a1, a2⟩ := low e' he'
    have hs := (hk c hc).sub
    rcases Nat.lt_or_ge e'.u b.u with k | k
    · have hs2 := Cel.meet_sub (Nat.le_of_lt k) (Nat.le_refl _) e'.lo_lt (Nat.le_trans hs.1 a1) (Nat.lt_of_lt_of_le a2 hs.2)
      have := hC.mx e' he' b (hk b q).ok.1 (fun x x1 x2 => ⟨b, q, x1, x2⟩) hs2
      rw [this] at k; omega
    · omega
  · have h2 := up (b.u - 1) (fun c hc => by
      have := (hk c hc).sub.u_le
      rcases Nat.lt_or_ge c.u b.u with k | k
      · omega
      · exact absurd ((hk c hc).top (by omega) ▸ hc) q) e he
    obtain ⟨c, hc, a0, _⟩ := low e' he'
    have := (hk c hc).u2
    rcases Nat.lt_or_ge c.u b.u with k | k
    · omega
    · exact absurd ((hk c hc).top (by have := (hk c hc).sub.u_le; omega) ▸ hc) q
theorem fine_test2 {least step lv fine : Int} (h0 : 0 ≤ least) (h1 : least ≤ 30) (h2 : 1 ≤ step) (h3 : step ≤ 3) (hv0 : 0 ≤ lv) (hv : lv ≤ 30) (a : lv ≤ fine) (b : fine ≤ nlF least step lv) :
    (fine < 30 ∧ (fine < least ∨ (fine - least).fmod step ≠ 0)) ↔ fine < nlF least step lv := by
  unfold nlF at b ⊢
  rw [fm_small h2 h3] at b ⊢
  rw [fm_small h2 h3]
  have : step = 1 ∨ step = 2 ∨ step = 3 := by omega
  rcases this with rfl | rfl | rfl
  · simp at b ⊢; omega
  · simp at b ⊢; omega
  · simp at b ⊢; omega
theorem tell_id {c : Cel} {m : Nat} (hm : m ≤ c.u) (k : Nat) : 2 * ((c.lo : Int) + (k : Int) * ((4 ^ (c.u - m) : Nat) : Int)) + ((4 ^ (c.u - m) : Nat) : Int) = (c.des m k).id := by
  show _ = (((2 * (c.p * 4 ^ m + k) + 1) * 4 ^ (c.u - m) : Nat) : Int)
  unfold Cel.lo
  rw [pw_split hm]
  push_cast
  grind
theorem lo_id (c : Cel) : 2 * (c.lo : Int) + ((4 ^ c.u : Nat) : Int) = c.id := by
  show _ = (((2 * c.p + 1) * 4 ^ c.u : Nat) : Int)
  unfold Cel.lo
  push_cast
  grind
theorem id_lo (c : Cel) : (c.id - ((4 ^ c.u : Nat) : Int)).fdiv 2 = (c.lo : Int) := by
  rw [← lo_id, Int.fdiv_eq_ediv_of_nonneg _ (by decide)]; omega
theorem desL_lf {c : Cel} {m : Nat} (hm : m ≤ c.u) (x : Nat) : Lf (desL c m) x ↔ c.lo ≤ x ∧ x < c.hi := by
  have hP : 0 < 4 ^ (c.u - m) := Nat.pow_pos (by decide)
  have e1 : ∀ k, (c.des m k).lo = c.lo + k * 4 ^ (c.u - m) := fun k => by
    unfold Cel.lo Cel.des; dsimp only
    rw [pw_split hm, Nat.add_mul, Nat.mul_assoc]
  have e2 : ∀ k, (c.des m k).hi = c.lo + k * 4 ^ (c.u - m) + 4 ^ (c.u - m) := fun k => by rw [Cel.hi_eq, e1]; rfl
  have e3 : c.hi = c.lo + 4 ^ m * 4 ^ (c.u - m) := by rw [Cel.hi_eq, pw_split hm]
  constructor
  · rintro ⟨d, hd, a1, a2⟩
    obtain ⟨k, hk, rfl⟩ := List.mem_map.mp hd
    have hk := List.mem_range.mp hk
    rw [e1] at a1
    rw [e2] at a2
    have : (k + 1) * 4 ^ (c.u - m) ≤ 4 ^ m * 4 ^ (c.u - m) := Nat.mul_le_mul_right _ hk
    rw [Nat.add_mul] at this
    omega
  · rintro ⟨a1, a2⟩
    have hk : (x - c.lo) / 4 ^ (c.u - m) < 4 ^ m := Nat.div_lt_of_lt_mul (by rw [Nat.mul_comm]; omega)
    refine ⟨c.des m ((x - c.lo) / 4 ^ (c.u - m)), List.mem_map.mpr ⟨_, List.mem_range.mpr hk, rfl⟩, ?_, ?_⟩
    · rw [e1]; have := Nat.div_mul_le_self (x - c.lo) (4 ^ (c.u - m)); omega
    · rw [e2]
      have := Nat.lt_div_mul_add hP (a := x - c.lo)
      omega
theorem dnl_lf {least step : Int} : ∀ {cs : List Cel}, (∀ c ∈ cs, mF least step c ≤ c.u) → ∀ x, Lf (dnl least step cs) x ↔ Lf cs x
  | [], _, x => Iff.rfl
  | c :: r, h, x => by
    show Lf (desL c (mF least step c) ++ dnl least step r) x ↔ _
    rw [Lf_append, Lf_cons, desL_lf (h c (.head _)), dnl_lf fun d hd => h d (.tail _ hd)]
theorem told_again {least step : Int} {S : Nat → Prop} {C es : List Cel} (h0 : 0 ≤ least) (h1 : least ≤ 30) (h2 : 1 ≤ step) (h3 : step ≤ 3) (hC : Least S C) (hp : es.Perm (dnl least step C)) (hs : Sd es) : nrm es = C := by
  have ho := dnl_ok h0 h1 h2 h3 hC.ok
  refine Least.uniq ((nrm_eq (fun e he => ho e (hp.subset he)) hs).congr fun x => ?_) hC
  rw [Lf_perm hp, dnl_lf fun c hc => mF_le h0 h1 h2 h3 (hC.ok c hc).1, hC.lf]
def Dig (q : List Int) : Prop := ∀ d ∈ q, 0 ≤ d ∧ d < 4
def valA (a : Int) (q : List Int) : Int := q.foldl (fun a d => a * 4 + d) a
theorem valA_app (a : Int) (q r : List Int) : valA a (q ++ r) = valA (valA a q) r := by unfold valA; rw [List.foldl_append]
theorem valA_rng {n : Nat} : ∀ {q : List Int} {a : Int}, Dig q → q.length = n → a * 4 ^ n ≤ valA a q ∧ valA a q < (a + 1) * 4 ^ n := by
  induction n with
  | zero =>
    intro q a h e
    have : q = [] := List.eq_nil_of_length_eq_zero e
    subst this
    show a * 4 ^ 0 ≤ a ∧ a < (a + 1) * 4 ^ 0
    lia
  | succ n ih =>
    intro q a h e
    cases q with
    | nil => cases e
    | cons d r =>
      have hd := h d (.head _)
      obtain ⟨h1, h2⟩ := ih (q := r) (a := a * 4 + d) (fun x hx => h x (.tail _ hx)) (by simpa using e)
      show a * 4 ^ (n + 1) ≤ valA (a * 4 + d) r ∧ valA (a * 4 + d) r < (a + 1) * 4 ^ (n + 1)
      have hp := pow4_pos n
      generalize valA (a * 4 + d) r = v at *
      rw [Int.pow_succ]
      generalize (4 : Int) ^ n = w at *
      have e1 : (a * 4 + d) * w = a * (w * 4) + d * w := by grind
      have e2 : (a * 4 + d + 1) * w = a * (w * 4) + (d + 1) * w := by grind
      have e3 : (a + 1) * (w * 4) = a * (w * 4) + 4 * w := by grind
      have m1 : 0 ≤ d * w := Int.mul_nonneg hd.1 (Int.le_of_lt hp)
      have m2 : (d + 1) * w ≤ 4 * w := Int.mul_le_mul_of_nonneg_right (by lia) (Int.le_of_lt hp)
      lia
structure Pth (ds : List Int) : Prop where
  ex : ∃ f r, ds = f :: r ∧ 0 ≤ f ∧ f < 6 ∧ Dig r ∧ r.length ≤ 30
theorem Pth.len {ds : List Int} (h : Pth ds) : 1 ≤ ds.length ∧ ds.length ≤ 31 := by
  obtain ⟨f, r, rfl, _, _, _, h⟩ := h.ex
  rw [List.length_cons]; lia
def cp (ds : List Int) : Cel := ⟨(valA 0 ds).toNat, 31 - ds.length⟩
theorem Pth.val {ds : List Int} (h : Pth ds) : 0 ≤ valA 0 ds ∧ valA 0 ds < 6 * 4 ^ (ds.length - 1) := by
  obtain ⟨f, r, rfl, h0, h6, hd, hl⟩ := h.ex
  obtain ⟨h1, h2⟩ := valA_rng (a := f) hd rfl
  have e : valA 0 (f :: r) = valA f r := by show valA (0 * 4 + f) r = _; rw [Int.zero_mul, Int.zero_add]
  rw [e, List.length_cons, Nat.add_sub_cancel]
  have hp := pow4_pos r.length
  have m1 := Int.mul_nonneg h0 (Int.le_of_lt hp)
  have m2 : (f + 1) * 4 ^ r.length ≤ 6 * 4 ^ r.length := Int.mul_le_mul_of_nonneg_right (by lia) (Int.le_of_lt hp)
  lia
theorem Pth.ok {ds : List Int} (h : Pth ds) : (cp ds).ok := by
  have hl := h.len
  obtain ⟨h1, h2⟩ := h.val
  refine ⟨by show 31 - ds.length ≤ 30; lia, ?_⟩
  show (valA 0 ds).toNat < 6 * 4 ^ (30 - (31 - ds.length))
  rw [show 30 - (31 - ds.length) = ds.length - 1 by lia]
  rw [pow4_cast] at h2
  lia
theorem Pth.lo {ds : List Int} (h : Pth ds) : valA 0 ds * 4 ^ (31 - ds.length) = ((cp ds).lo : Int) := by
  unfold Cel.lo cp
  dsimp only
  rw [Int.natCast_mul, Int.toNat_of_nonneg h.val.1, ← pow4_cast]
theorem Pth.below {b q : List Int} (h : Pth b) (hq : Dig q) (h2 : q.length ≤ 2) : Pth ((b ++ q).take 31) ∧ KI (cp b) (cp ((b ++ q).take 31)) := by
  have hl := h.len
  have e : (b ++ q).take 31 = b ++ q.take (31 - b.length) := by rw [List.take_append, List.take_of_length_le (by lia)]
  rw [e]
  have hq' : Dig (q.take (31 - b.length)) := fun d hd => hq d (List.mem_of_mem_take hd)
  have hl' : (q.take (31 - b.length)).length ≤ 2 ∧ b.length + (q.take (31 - b.length)).length ≤ 31 := by rw [List.length_take]; lia
  generalize q.take (31 - b.length) = r at hq' hl'
  clear hq h2 e
  have hP : Pth (b ++ r) := by
    obtain ⟨f, t, rfl, h0, h6, hd, hl⟩ := h.ex
    refine ⟨f, t ++ r, rfl, h0, h6, fun d hd' => (List.mem_append.mp hd').elim (hd d) (hq' d), ?_⟩
    have := hl'.2
    rw [List.length_cons] at this
    rw [List.length_append]; lia
  refine ⟨hP, hP.ok, ?_, ?_, ?_⟩
  · obtain ⟨v1, v2⟩ := valA_rng (a := valA 0 b) hq' rfl
    have hv := h.val
    have hv2 := hP.val
    have e1 : (cp (b ++ r)).u = (cp b).u - r.length := by show 31 - (b ++ r).length = 31 - b.length - r.length; rw [List.length_append]; lia
    have e2 : ((cp (b ++ r)).p : Int) = valA (valA 0 b) r := by
      show (((valA 0 (b ++ r)).toNat : Nat) : Int) = _
      rw [Int.toNat_of_nonneg hv2.1, valA_app]
    have e3 : ((cp b).p : Int) = valA 0 b := Int.toNat_of_nonneg hv.1
    have hru : r.length ≤ (cp b).u := by show r.length ≤ 31 - b.length; lia
    rw [← e2, ← e3, pow4_cast] at v1
    rw [← e2, ← e3, pow4_cast] at v2
    have v1 : (cp b).p * 4 ^ r.length ≤ (cp (b ++ r)).p := by exact_mod_cast v1
    have v2 : (cp (b ++ r)).p + 1 ≤ ((cp b).p + 1) * 4 ^ r.length := by exact_mod_cast v2
    have hw : (4 : Nat) ^ (cp b).u = 4 ^ r.length * 4 ^ ((cp b).u - r.length) := pw_split hru
    unfold Cel.sub Cel.lo Cel.hi
    rw [e1, hw, ← Nat.mul_assoc, ← Nat.mul_assoc]
    exact ⟨Nat.mul_le_mul_right _ v1, Nat.mul_le_mul_right _ v2⟩
  · show 31 - b.length ≤ 31 - (b ++ r).length + 2
    rw [List.length_append]; lia
  · intro q
    have q : 31 - (b ++ r).length = 31 - b.length := q
    rw [List.length_append] at q
    have : r = [] := List.eq_nil_of_length_eq_zero (by lia)
    rw [this, List.append_nil]
theorem Pth.self {b : List Int} (h : Pth b) : KI (cp b) (cp b) := ⟨h.ok, Cel.sub_rfl _, by lia, fun _ => rfl⟩
def nq (n : Int) : Nat → Int
  | 0 => n
  | i + 1 => (nq n i).fdiv 4
def qs (n : Int) (k : Nat) : List Int := (List.range k).map fun i => (nq n i).fmod 4
theorem qs_succ (n : Int) (k : Nat) : qs n (k + 1) = qs n k ++ [(nq n k).fmod 4] := by unfold qs; rw [List.range_succ, List.map_append]; rfl
theorem qs_len (n : Int) (k : Nat) : (qs n k).length = k := by unfold qs; rw [List.length_map, List.length_range]
theorem qs_dig (n : Int) (k : Nat) : Dig (qs n k) := fun d hd => by
  obtain ⟨i, _, rfl⟩ := List.mem_map.mp hd
  rw [Int.fmod_eq_emod_of_nonneg _ (by decide)]
  exact ⟨Int.emod_nonneg _ (by decide), Int.emod_lt_of_pos _ (by decide)⟩
theorem ints_at {ns : List Int} {i : Nat} {x : AV} (h : (ns.map AV.int)[i]? = some x) : ∃ n, ns[i]? = some n ∧ x = .int n := by
  rw [List.getElem?_map] at h
  obtain ⟨p, h1, h2⟩ := Option.map_eq_some_iff.mp h
  exact ⟨p, h1, h2.symm⟩
theorem ints_snoc (ns : List Int) (n : Int) : ns.map AV.int ++ [.int n] = (ns ++ [n]).map AV.int := by simp
theorem upto_len (n : Nat) : (upto n).length = n := by unfold upto; rw [List.length_map, List.length_range]
abbrev AV.way (ds : List Int) : AV := .tup (ds.map .int)
theorem quart_c {c : Cx} {Q : AV → AX → Prop} {X : AX} {n many : Int} (L : Lw c) (G : Gd c.A 2) (h0 : 0 ≤ many) (h1 : many ≤ 100) (h : Q (.way (qs n many.toNat)) X) : WF c (.ref 601) [.int n, .int many] [] Q X := by
  (have _ : PySem.Challenge.rw_lp0003_08 = PySem.Challenge.rw_lp0003_08 → ∀ w : World, (hd8.heap_1 w.params).In default → True := by (k_fill; intros; trivial))
  have L₀ := L
  obtain ⟨P, w, K, g, A, env, own, E, fx⟩ := c
  obtain ⟨hP, hK, hC, hN⟩ := L
  dsimp only at hP hK hC hN G
  subst hP hK
  refine WF.conv ?_
  refine' WF.go (M := [((Str.ofString "number"), .int n), ((Str.ofString "many"), .int many)]) G ?k1 ?k2 ?k3 ?k4 ?k5 ?k6 ?k7 ?k8 ?_
  case k1 => ((try dsimp only); k_is)
  case k2 => ((try dsimp only); k_is)
  case k3 => exact bind2 fun s v u X => .of_eq rfl
  case k4 => rfl
  case k5 => decide
  case k6 => rfl
  case k7 => rfl
  case k8 => rfl
  intro F c' kn he ho ok G'
  have L' := L₀.kin kn
  obtain ⟨P', w', K', g', A', env', own', E', fx'⟩ := c'
  obtain ⟨f1, f2, f3, f4, f5⟩ := kn
  dsimp only at f1 f2 f3 f4 f5 he ho G'
  subst f1 f2 f3 f4 f5 he ho
  clear L₀
  simp only [List.reverse_cons, List.reverse_nil, List.nil_append, List.cons_append]
  (refine S_cons ?_; refine S_assign (by exact .inl ⟨rfl, .head _⟩) ?_)
  refine E_listM (A_nil ⟨by decide, fun o => ?_⟩)
  (refine Then_next ?_; dsimp only; refine S_cons ?_)
  refine S_for ?_
  (refine E_call ?_; dsimp only; (refine' E_builtin (v := .type ?id1) ?hk1 ?e1 ?hv1 ?hn1 ?_; (case hk1 => exact rfl); (case e1 => (try dsimp only); k_is); (case hv1 => exact rfl); (case hn1 => decide)); refine C_raw keeper_type ?_; refine Args_plain ?_; refine A_cons ?_; (refine' E_name ?hv2 ?_; (case hv2 => exact rfl)); refine A_nil ?_; refine B_range ?_)
  refine I_rng h0 (by omega) ?_
  refine ⟨fun i Y => Y = ⟨(o, .lst ((qs n i).map .int)) :: X.σ, [((Str.ofString "found"), .raw (.ref o)), ((Str.ofString "number"), .int (nq n i)), ((Str.ofString "many"), .int many)]⟩, ⟨⟨(o, .lst ((qs n 0).map .int)) :: X.σ, [((Str.ofString "found"), .raw (.ref o)), ((Str.ofString "number"), .int (nq n 0)), ((Str.ofString "many"), .int many)]⟩, Conv.names [((Str.ofString "found"), .raw (.ref o)), ((Str.ofString "number"), .int (nq n 0)), ((Str.ofString "many"), .int many)] (by intro p hp; simp only [List.mem_cons, List.not_mem_nil, or_false] at hp; rcases hp with rfl | rfl | rfl <;> rfl), rfl⟩, ?turn, ?fin⟩
  case fin =>
    intro Y hY
    subst hY
    rw [upto_len]
    (refine Then_next ?_; refine S_last ?_; refine S_return ?_; refine E_call ?_; dsimp only; (refine' E_builtin (v := .type ?id3) ?hk3 ?e3 ?hv3 ?hn3 ?_; (case hk3 => exact rfl); (case e3 => (try dsimp only); k_is); (case hv3 => exact rfl); (case hn3 => decide)); refine C_raw keeper_type ?_; refine Args_plain ?_; refine A_cons ?_; (refine' E_name ?hv4 ?_; (case hv4 => exact rfl)); refine A_nil ?_)
    refine WC.convArg (ConvV.freeze (m' := []) .head rfl .here fun x V e => by cases e) ?_
    refine B_tupleL (by rw [List.length_map, qs_len]; omega) ?_
    exact ⟨_, _, ConvV.rfl, h⟩
  case turn =>
    intro i x Y hx hY
    subst hY
    obtain ⟨hi, rfl⟩ := upto_at hx
    have hlen : ((qs n i).map AV.int).length ≤ 1000000 := by rw [List.length_map, qs_len]; omega
    (refine A_name (by exact .inl ⟨rfl, .head _⟩) ?_; dsimp only; refine S_cons ?_; refine S_expr ?_; refine E_meth ?_; dsimp only; (refine' E_name ?hv5 ?_; (case hv5 => exact rfl)); refine M_list (by exact List.Mem.head _) PySem.F.slot_list_append PySem.F.type_list_append ?_; refine Args_plain ?_; refine A_cons ?_; refine E_bin ?_; (refine' E_name ?hv6 ?_; (case hv6 => exact rfl)); refine E_int ?_; refine O_mod (by decide) ?_; refine A_nil ?_; refine B_append (by exact SUpd.head) (by with_reducible assumption) ?_; dsimp only; refine Then_next ?_; refine S_last ?_; refine S_assign (by exact .inl ⟨rfl, .head _⟩) ?_; refine E_bin ?_; (refine' E_name ?hv7 ?_; (case hv7 => exact rfl)); refine E_int ?_; refine O_div (by decide) (by decide) ?_; dsimp only)
    refine ⟨⟨(o, .lst ((qs n (i + 1)).map .int)) :: X.σ, [((Str.ofString "found"), .raw (.ref o)), ((Str.ofString "number"), .int (nq n (i + 1))), ((Str.ofString "many"), .int many)]⟩, ?_, rfl⟩
    rw [qs_succ, ← ints_snoc]
    exact Conv.names [((Str.ofString "found"), .raw (.ref o)), ((Str.ofString "number"), .int (nq n (i + 1))), ((Str.ofString "many"), .int many)] (by intro p hp; simp only [List.mem_cons, List.not_mem_nil, or_false] at hp; rcases hp with rfl | rfl | rfl <;> rfl)
theorem stretch_c {c : Cx} {Q : AV → AX → Prop} {X : AX} {ds : List Int} (L : Lw c) (G : Gd c.A 2) (hd : Pth ds) (h : Q (.pr (((cp ds).lo : Int), ((4 ^ (cp ds).u : Nat) : Int))) X) : WF c (.ref 608) [.way ds] [] Q X := by
  (have _ : PySem.Challenge.rw_lp0003_08 = PySem.Challenge.rw_lp0003_08 → ∀ w : World, (hd8.heap_1 w.params).In default → True := by (k_fill; intros; trivial))
  have L₀ := L
  obtain ⟨P, w, K, g, A, env, own, E, fx⟩ := c
  obtain ⟨hP, hK, hC, hN⟩ := L
  dsimp only at hP hK hC hN G
  subst hP hK
  refine' WF.go (M := [((Str.ofString "cell"), .way ds)]) G ?k1 ?k2 ?k3 ?k4 ?k5 ?k6 ?k7 ?k8 ?_
  case k1 => ((try dsimp only); k_is)
  case k2 => ((try dsimp only); k_is)
  case k3 => exact bind1 fun s v X => .of_eq rfl
  case k4 => rfl
  case k5 => decide
  case k6 => rfl
  case k7 => rfl
  case k8 => rfl
  intro F c' kn he ho ok G'
  have L' := L₀.kin kn
  obtain ⟨P', w', K', g', A', env', own', E', fx'⟩ := c'
  obtain ⟨f1, f2, f3, f4, f5⟩ := kn
  dsimp only at f1 f2 f3 f4 f5 he ho G'
  subst f1 f2 f3 f4 f5 he ho
  clear L₀
  simp only [List.reverse_cons, List.reverse_nil, List.nil_append, List.cons_append]
  have hl := hd.len
  (refine S_cons ?_; refine S_assign (by exact .inl ⟨rfl, .head _⟩) ?_; refine E_int ?_; dsimp only; refine Then_next ?_; refine S_cons ?_)
  refine S_for ?_
  ((refine' E_name ?hv8 ?_; (case hv8 => exact rfl)))
  refine I_tup ?_
  refine ⟨fun i Y => Y = ⟨X.σ, [((Str.ofString "low"), .int (valA 0 (ds.take i))), ((Str.ofString "cell"), .way ds)]⟩, ⟨_, Conv.rfl, rfl⟩, ?turn, ?fin⟩
  case fin =>
    intro Y hY
    subst hY
    rw [List.length_map, List.take_length]
    have hz : ((ds.map AV.int).length : Int) < 2 ^ 62 := by rw [List.length_map]; omega
    (refine Then_next ?_; refine S_cons ?_; refine S_assign (by exact .inl ⟨rfl, .head _⟩) ?_; refine E_bin ?_; refine E_int ?_; refine E_bin ?_; refine E_int ?_; refine E_call ?_; dsimp only; (refine' E_builtin (v := .builtin ?id9) ?hk9 ?e9 ?hv9 ?hn9 ?_; (case hk9 => exact rfl); (case e9 => (try dsimp only); k_is); (case hv9 => exact rfl); (case hn9 => decide)); dsimp only; refine C_raw keeper_builtin ?_; refine Args_plain ?_; refine A_cons ?_; (refine' E_name ?hv10 ?_; (case hv10 => exact rfl)); refine A_nil ?_; refine B_len_tup (by simp only [cellsV, List.length_map, List.length_reverse, List.length_cons, List.length_append, List.length_nil]; omega) ?_; refine O_sub ?_; refine O_pow (by simp only [cellsV, List.length_map, List.length_reverse, List.length_cons, List.length_append, List.length_nil]; omega) (by simp only [cellsV, List.length_map, List.length_reverse, List.length_cons, List.length_append, List.length_nil]; omega) (by decide) ?_; refine Then_next ?_; refine S_last ?_; refine S_return ?_; refine E_tup ?_; refine A_cons ?_; refine E_bin ?_; (refine' E_name ?hv11 ?_; (case hv11 => exact rfl)); (refine' E_name ?hv12 ?_; (case hv12 => exact rfl)))
    have e31 : (31 - ((ds.map AV.int).length : Int)).toNat = 31 - ds.length := by rw [List.length_map]; omega
    have hp : ((4 ^ (31 - ds.length) : Nat) : Int) ≤ ((4 ^ 30 : Nat) : Int) := Int.ofNat_le.mpr (Nat.pow_le_pow_right (by decide) (by omega))
    have hp0 : (0 : Int) ≤ ((4 ^ (31 - ds.length) : Nat) : Int) := Int.natCast_nonneg _
    rw [e31, pow4_cast]
    generalize hP : ((4 ^ (31 - ds.length) : Nat) : Int) = P at hp hp0 ⊢
    refine O_mul (.inr ⟨by omega, by omega⟩) ?_
    (refine A_cons ?_; (refine' E_name ?hv13 ?_; (case hv13 => exact rfl)); refine A_nil ?_; dsimp only; refine And.intro (Nat.le_of_ble_eq_true rfl) ?_)
    rw [← hP, ← pow4_cast, hd.lo, pow4_cast]
    exact h
  case turn =>
    intro i x Y hx hY
    subst hY
    obtain ⟨d, hq, rfl⟩ := ints_at hx
    have e : valA 0 (ds.take (i + 1)) = valA 0 (ds.take i) * 4 + d := by
      rw [List.take_succ, hq, valA_app]; rfl
    (refine A_name (by exact .inl ⟨rfl, .head _⟩) ?_; dsimp only; refine S_last ?_; refine S_assign (by exact .inl ⟨rfl, .head _⟩) ?_; refine E_bin ?_; refine E_bin ?_; (refine' E_name ?hv14 ?_; (case hv14 => exact rfl)); refine E_int ?_; refine O_mul (by omega) ?_; (refine' E_name ?hv15 ?_; (case hv15 => exact rfl)); refine O_add ?_; dsimp only)
    exact ⟨⟨X.σ, [((Str.ofString "low"), .int (valA 0 (ds.take i) * 4 + d)), ((Str.ofString "cell"), .way ds)]⟩, Conv.names [((Str.ofString "low"), .int (valA 0 (ds.take i) * 4 + d)), ((Str.ofString "cell"), .way ds)] (by intro p hp; simp only [List.mem_cons, List.not_mem_nil, or_false] at hp; rcases hp with rfl | rfl <;> rfl), by rw [e]⟩
def lsz (c : Cel) : Int × Int := ((c.lo : Int), ((4 ^ c.u : Nat) : Int))
abbrev idA (c : Cel) : AV := .int c.id
abbrev lvA (c : Cel) : AV := .int (30 - (c.u : Int))
theorem lsz_at {C : List Cel} {i : Nat} {x : AV} (h : ((C.map lsz).map AV.pr)[i]? = some x) : ∃ c, C[i]? = some c ∧ x = .tup [.int (c.lo : Int), .int ((4 ^ c.u : Nat) : Int)] := by
  rw [List.getElem?_map, List.getElem?_map] at h
  obtain ⟨p, h1, h2⟩ := Option.map_eq_some_iff.mp h
  obtain ⟨c, h3, h4⟩ := Option.map_eq_some_iff.mp h1
  subst h4
  exact ⟨c, h3, h2.symm⟩
theorem dnl_succ {least step : Int} {C : List Cel} {i : Nat} {e : Cel} (h : C[i]? = some e) : dnl least step (C.take (i + 1)) = dnl least step (C.take i) ++ desL e (mF least step e) := by
  unfold dnl; rw [List.take_succ, h, List.flatMap_append]; simp
theorem pw_inj {u l : Nat} (hu : u ≤ 30) (hl : l ≤ 30) : (4 : Int) ^ Int.toNat (30 - (l : Int)) = ((4 ^ u : Nat) : Int) ↔ l = 30 - u := by
  rw [pow4_cast, show Int.toNat (30 - (l : Int)) = 30 - l by omega]
  constructor
  · intro h; have := pow4_inj (Int.ofNat.inj h); omega
  · intro h; rw [h, show 30 - (30 - u) = u by omega]
theorem idA_map (cs : List Cel) : cs.map idA = (cs.map Cel.id).map AV.int := by rw [List.map_map]; rfl
theorem lvA_map (cs : List Cel) : cs.map lvA = (cs.map fun c => 30 - (c.u : Int)).map AV.int := by rw [List.map_map]; rfl
theorem des_snoc {pre : List Cel} {e : Cel} {m k : Nat} (f : Cel → AV) : (pre ++ (List.range (k + 1)).map (e.des m)).map f = (pre ++ (List.range k).map (e.des m)).map f ++ [f (e.des m k)] := by
  rw [desL_succ, ← List.append_assoc, List.map_append (l₁ := pre ++ _), List.map_singleton]
theorem fz2 {D : Addr} {W a b a' b' : AV} (h : Fz D W a a') (k : Fz D W b b') : Fz D W (.tup [a, b]) (.tup [a', b']) := .tup rfl (FzL.at (.cons h (.cons k .nil)))
theorem told_c {c : Cx} {Q : AV → AX → Prop} {X : AX} {C : List Cel} {least step : Int} (L : Lw c) (G : Gd c.A 3) (hok : ∀ c ∈ C, c.ok) (hm2 : ∀ c ∈ C, mF least step c ≤ 2) (h0 : 0 ≤ least) (h1 : least ≤ 30) (h2 : 1 ≤ step) (h3 : step ≤ 3) (hz : (dnl least step C).length ≤ 1000) (h : Q (.tup [.ints ((dnl least step C).map Cel.id), .ints ((dnl least step C).map fun c => 30 - (c.u : Int))]) X) : WF c (.ref 615) [.prs (C.map lsz), .int least, .int step] [] Q X := by
  (have _ : PySem.Challenge.rw_lp0003_08 = PySem.Challenge.rw_lp0003_08 → ∀ w : World, (hd8.heap_1 w.params).In default → True := by (k_fill; intros; trivial))
  have L₀ := L
  obtain ⟨P, w, K, g, A, env, own, E, fx⟩ := c
  obtain ⟨hP, hK, hC, hN⟩ := L
  dsimp only at hP hK hC hN G
  subst hP hK
  refine WF.conv ?_
  refine' WF.go (M := [((Str.ofString "cells"), .prs (C.map lsz)), ((Str.ofString "least"), .int least), ((Str.ofString "step"), .int step)]) G ?k1 ?k2 ?k3 ?k4 ?k5 ?k6 ?k7 ?k8 ?_
  case k1 => ((try dsimp only); k_is)
  case k2 => ((try dsimp only); k_is)
  case k3 => exact bind3 fun s v u w X => .of_eq rfl
  case k4 => rfl
  case k5 => decide
  case k6 => rfl
  case k7 => rfl
  case k8 => rfl
  intro F c' kn he ho ok G'
  have L' := L₀.kin kn
  obtain ⟨P', w', K', g', A', env', own', E', fx'⟩ := c'
  obtain ⟨f1, f2, f3, f4, f5⟩ := kn
  dsimp only at f1 f2 f3 f4 f5 he ho G'
  subst f1 f2 f3 f4 f5 he ho
  clear L₀
  simp only [List.reverse_cons, List.reverse_nil, List.nil_append, List.cons_append]
  (refine S_cons ?_; refine' S_swap2 ?hw16 ?hx16 ?hy16 ?_; (case hw16 => rfl); (case hx16 => exact .inl ⟨rfl, .head _⟩); (case hy16 => exact .inl ⟨rfl, .head _⟩); refine E_tup ?_; refine A_cons ?_)
  refine E_listM (A_nil ⟨by decide, fun on => ?_⟩)
  (refine A_cons ?_; dsimp only)
  refine E_listM (A_nil ⟨by decide, fun ol => ?_⟩)
  (refine A_nil ?_; dsimp only; refine And.intro (Nat.le_of_ble_eq_true rfl) ?_; refine ⟨_, _, rfl, ?_⟩; refine Then_next ?_; refine S_cons ?_)
  refine S_for ?_
  ((refine' E_name ?hv17 ?_; (case hv17 => exact rfl)))
  refine I_lst ?_
  refine ⟨fun i Y => Y = ⟨(ol, .lst ((dnl least step (C.take i)).map lvA)) :: (on, .lst ((dnl least step (C.take i)).map idA)) :: X.σ, [((Str.ofString "numbers"), .raw (.ref on)), ((Str.ofString "levels"), .raw (.ref ol)), ((Str.ofString "step"), .int step), ((Str.ofString "least"), .int least), ((Str.ofString "cells"), .prs (C.map lsz))]⟩, ⟨_, Conv.rfl, rfl⟩, ?turn, ?fin⟩
  case fin =>
    intro Y hY
    subst hY
    rw [List.length_map, List.length_map, List.take_length]
    (refine Then_next ?_; refine S_last ?_; refine S_return ?_; refine E_tup ?_; refine A_cons ?_; (refine' E_name ?hv18 ?_; (case hv18 => exact rfl)); refine A_cons ?_; (refine' E_name ?hv19 ?_; (case hv19 => exact rfl)); refine A_nil ?_; refine And.intro (Nat.le_of_ble_eq_true rfl) ?_)
    refine ⟨_, _, ConvV.trans (V' := .tup [.raw (.ref on), .ints ((dnl least step C).map fun c => 30 - (c.u : Int))]) (X' := ⟨(on, .lst ((dnl least step C).map idA)) :: X.σ, X.m⟩) ?_ (ConvV.freeze (m' := X.m) .head rfl (by rw [idA_map]; exact fz2 .here (.same _)) fun x V e => ⟨V, e, .same V⟩), h⟩
    rw [lvA_map]
    exact ConvV.freeze (m' := X.m) .head rfl (fz2 (.same _) .here) fun x V e => ⟨V, e, .same V⟩
  case turn =>
    intro i x Y hx hY
    subst hY
    obtain ⟨e, hq, rfl⟩ := lsz_at hx
    have hmem := List.mem_of_getElem? hq
    have he := hok e hmem
    have heu := he.1
    have hl := dnl_succ (least := least) (step := step) hq
    have hpre : (dnl least step (C.take i)).length + (desL e (mF least step e)).length ≤ 1000 := by
      have := dnl_take least step C (i + 1)
      rw [hl, List.length_append] at this; omega
    have hm := mF_le (c := e) h0 h1 h2 h3 heu
    have hmm := hm2 e hmem
    have hf := mF_fine (c := e) h0 h1 h2 h3 heu
    have hft := fun fine => fine_test2 (fine := fine) (lv := 30 - (e.u : Int)) h0 h1 h2 h3 (by omega) (by omega)
    have hrg := nl_rng (lv := 30 - (e.u : Int)) h0 h1 h2 h3 (by omega) (by omega)
    dsimp only
    rw [hl]
    clear hl hx hq hmem
    generalize dnl least step (C.take i) = pre at hpre
    generalize mF least step e = m at *
    rw [hf] at hrg
    simp only [hf] at hft
    clear hf
    have hm16 : 4 ^ m ≤ 16 := Nat.le_trans (Nat.pow_le_pow_right (by decide) hmm) (by decide)
    have hmp : 0 < 4 ^ m := Nat.pow_pos (by decide)
    rw [desL_len] at hpre
    (refine A_tup rfl ?_; refine Al_cons ?_; refine A_name (by exact .inl ⟨rfl, .head _⟩) ?_; dsimp only; refine Al_cons ?_; refine A_name (by exact .inl ⟨rfl, .head _⟩) ?_; dsimp only; refine Al_nil ?_; refine S_cons ?_; refine S_assign (by exact .inl ⟨rfl, .head _⟩) ?_; refine E_int ?_; dsimp only; refine Then_next ?_; refine S_cons ?_)
    refine WT.imp (Q := fun F Y => F = AF.next ∧ Y = ⟨(ol, .lst ((pre).map lvA)) :: (on, .lst ((pre).map idA)) :: X.σ, [((Str.ofString "level"), .int (30 - (e.u : Int))), ((Str.ofString "low"), .int (e.lo : Int)), ((Str.ofString "size"), .int ((4 ^ e.u : Nat) : Int)), ((Str.ofString "numbers"), .raw (.ref on)), ((Str.ofString "levels"), .raw (.ref ol)), ((Str.ofString "step"), .int step), ((Str.ofString "least"), .int least), ((Str.ofString "cells"), .prs (C.map lsz))]⟩) ?w1 ?w2
    case w1 =>
      refine S_while (fun n Y => ∃ l : Nat, n = 30 - l ∧ Y = ⟨(ol, .lst ((pre).map lvA)) :: (on, .lst ((pre).map idA)) :: X.σ, [((Str.ofString "level"), .int (l : Int)), ((Str.ofString "low"), .int (e.lo : Int)), ((Str.ofString "size"), .int ((4 ^ e.u : Nat) : Int)), ((Str.ofString "numbers"), .raw (.ref on)), ((Str.ofString "levels"), .raw (.ref ol)), ((Str.ofString "step"), .int step), ((Str.ofString "least"), .int least), ((Str.ofString "cells"), .prs (C.map lsz))]⟩ ∧ l ≤ 30 - e.u) 30 ⟨⟨(ol, .lst ((pre).map lvA)) :: (on, .lst ((pre).map idA)) :: X.σ, [((Str.ofString "level"), .int ((0 : Nat) : Int)), ((Str.ofString "low"), .int (e.lo : Int)), ((Str.ofString "size"), .int ((4 ^ e.u : Nat) : Int)), ((Str.ofString "numbers"), .raw (.ref on)), ((Str.ofString "levels"), .raw (.ref ol)), ((Str.ofString "step"), .int step), ((Str.ofString "least"), .int least), ((Str.ofString "cells"), .prs (C.map lsz))]⟩, Conv.names [((Str.ofString "level"), .int ((0 : Nat) : Int)), ((Str.ofString "low"), .int (e.lo : Int)), ((Str.ofString "size"), .int ((4 ^ e.u : Nat) : Int)), ((Str.ofString "numbers"), .raw (.ref on)), ((Str.ofString "levels"), .raw (.ref ol)), ((Str.ofString "step"), .int step), ((Str.ofString "least"), .int least), ((Str.ofString "cells"), .prs (C.map lsz))] (by intro p hp; simp only [List.mem_cons, List.not_mem_nil, or_false] at hp; rcases hp with rfl | rfl | rfl | rfl | rfl | rfl | rfl | rfl <;> rfl), 0, rfl, rfl, by omega⟩ ?_
      rintro n Y ⟨l, rfl, rfl, hl⟩
      have key := pw_inj heu (l := l) (by omega)
      (refine T_and ?_; refine T_cmp ?_; (refine' E_name ?hv20 ?_; (case hv20 => exact rfl)); refine E_int ?_; refine O_lt ?_; refine Tr_bool ?_)
      by_cases c1 : (l : Int) < 30
      · rw [if_pos (decide_eq_true c1)]
        (refine T_and ?_; refine T_cmp ?_; refine E_bin ?_; refine E_int ?_; refine E_bin ?_; refine E_int ?_; (refine' E_name ?hv21 ?_; (case hv21 => exact rfl)); refine O_sub ?_; refine O_pow (by omega) (by omega) (by decide) ?_; (refine' E_name ?hv22 ?_; (case hv22 => exact rfl)); refine O_ne ?_; refine Tr_bool ?_)
        by_cases c2 : (4 : Int) ^ Int.toNat (30 - (l : Int)) = ((4 ^ e.u : Nat) : Int)
        · rw [if_neg (by rw [decide_eq_true c2]; decide)]
          (rw [if_neg (by decide)])
          have := key.mp c2
          exact ⟨rfl, by rw [show (30 : Int) - (e.u : Int) = (l : Int) by omega]⟩
        · rw [if_pos (by rw [decide_eq_false c2]; rfl)]
          (refine T_and_nil ?_; rw [if_pos rfl]; refine S_last ?_; refine S_assign (by exact .inl ⟨rfl, .head _⟩) ?_; refine E_bin ?_; (refine' E_name ?hv23 ?_; (case hv23 => exact rfl)); refine E_int ?_; refine O_add ?_; dsimp only)
          have : l ≠ 30 - e.u := fun z => c2 (key.mpr z)
          refine ⟨⟨(ol, .lst ((pre).map lvA)) :: (on, .lst ((pre).map idA)) :: X.σ, [((Str.ofString "level"), .int ((l : Int) + 1)), ((Str.ofString "low"), .int (e.lo : Int)), ((Str.ofString "size"), .int ((4 ^ e.u : Nat) : Int)), ((Str.ofString "numbers"), .raw (.ref on)), ((Str.ofString "levels"), .raw (.ref ol)), ((Str.ofString "step"), .int step), ((Str.ofString "least"), .int least), ((Str.ofString "cells"), .prs (C.map lsz))]⟩, ?_, 30 - (l + 1), by omega, l + 1, rfl, rfl, by omega⟩
          exact Conv.names [((Str.ofString "level"), .int ((l : Int) + 1)), ((Str.ofString "low"), .int (e.lo : Int)), ((Str.ofString "size"), .int ((4 ^ e.u : Nat) : Int)), ((Str.ofString "numbers"), .raw (.ref on)), ((Str.ofString "levels"), .raw (.ref ol)), ((Str.ofString "step"), .int step), ((Str.ofString "least"), .int least), ((Str.ofString "cells"), .prs (C.map lsz))] (by intro p hp; simp only [List.mem_cons, List.not_mem_nil, or_false] at hp; rcases hp with rfl | rfl | rfl | rfl | rfl | rfl | rfl | rfl <;> rfl)
      · rw [if_neg (by rw [decide_eq_false c1]; decide)]
        (rw [if_neg (by decide)])
        exact ⟨rfl, by rw [show (30 : Int) - (e.u : Int) = (l : Int) by omega]⟩
    rintro F Y ⟨rfl, rfl⟩
    refine Then_next ?_
    refine S_cons ?_
    refine WT.imp (Q := fun F Y => F = AF.next ∧ Y = ⟨(ol, .lst ((pre).map lvA)) :: (on, .lst ((pre).map idA)) :: X.σ, [((Str.ofString "level"), .int (30 - (e.u : Int) + m)), ((Str.ofString "low"), .int (e.lo : Int)), ((Str.ofString "size"), .int ((4 ^ e.u : Nat) : Int)), ((Str.ofString "numbers"), .raw (.ref on)), ((Str.ofString "levels"), .raw (.ref ol)), ((Str.ofString "step"), .int step), ((Str.ofString "least"), .int least), ((Str.ofString "cells"), .prs (C.map lsz))]⟩) ?w3 ?w4
    case w3 =>
      refine S_while (fun n Y => ∃ fine : Int, n = (30 - fine).toNat ∧ Y = ⟨(ol, .lst ((pre).map lvA)) :: (on, .lst ((pre).map idA)) :: X.σ, [((Str.ofString "level"), .int fine), ((Str.ofString "low"), .int (e.lo : Int)), ((Str.ofString "size"), .int ((4 ^ e.u : Nat) : Int)), ((Str.ofString "numbers"), .raw (.ref on)), ((Str.ofString "levels"), .raw (.ref ol)), ((Str.ofString "step"), .int step), ((Str.ofString "least"), .int least), ((Str.ofString "cells"), .prs (C.map lsz))]⟩ ∧ 30 - (e.u : Int) ≤ fine ∧ fine ≤ 30 - (e.u : Int) + m) (30 - (30 - (e.u : Int))).toNat ⟨_, Conv.rfl, _, rfl, rfl, by omega, by omega⟩ ?_
      rintro n Y ⟨fine, rfl, rfl, g1, g2⟩
      have key := hft fine g1 g2
      have stop : ¬ (fine < 30 ∧ (fine < least ∨ (fine - least).fmod step ≠ 0)) → fine = 30 - (e.u : Int) + m := fun z => by have := fun q => z (key.mpr q); omega
      have go : fine < 30 → (fine < least ∨ (fine - least).fmod step ≠ 0) → fine < 30 - (e.u : Int) + m := fun a b => key.mp ⟨a, b⟩
      clear key hft
      (refine T_and ?_; refine T_cmp ?_; (refine' E_name ?hv24 ?_; (case hv24 => exact rfl)); refine E_int ?_; refine O_lt ?_; refine Tr_bool ?_)
      by_cases c1 : fine < 30
      · rw [if_pos (decide_eq_true c1)]
        (refine T_and ?_; refine T_or ?_; refine T_cmp ?_; (refine' E_name ?hv25 ?_; (case hv25 => exact rfl)); (refine' E_name ?hv26 ?_; (case hv26 => exact rfl)); refine O_lt ?_; refine Tr_bool ?_; rw [if_pos rfl])
        by_cases c2 : fine < least
        · rw [if_pos (decide_eq_true c2)]
          (refine T_and_nil ?_; rw [if_pos rfl]; refine S_last ?_; refine S_assign (by exact .inl ⟨rfl, .head _⟩) ?_; refine E_bin ?_; (refine' E_name ?hv27 ?_; (case hv27 => exact rfl)); refine E_int ?_; refine O_add ?_; dsimp only)
          have := go c1 (.inl c2)
          exact ⟨⟨(ol, .lst ((pre).map lvA)) :: (on, .lst ((pre).map idA)) :: X.σ, [((Str.ofString "level"), .int (fine + 1)), ((Str.ofString "low"), .int (e.lo : Int)), ((Str.ofString "size"), .int ((4 ^ e.u : Nat) : Int)), ((Str.ofString "numbers"), .raw (.ref on)), ((Str.ofString "levels"), .raw (.ref ol)), ((Str.ofString "step"), .int step), ((Str.ofString "least"), .int least), ((Str.ofString "cells"), .prs (C.map lsz))]⟩, Conv.names [((Str.ofString "level"), .int (fine + 1)), ((Str.ofString "low"), .int (e.lo : Int)), ((Str.ofString "size"), .int ((4 ^ e.u : Nat) : Int)), ((Str.ofString "numbers"), .raw (.ref on)), ((Str.ofString "levels"), .raw (.ref ol)), ((Str.ofString "step"), .int step), ((Str.ofString "least"), .int least), ((Str.ofString "cells"), .prs (C.map lsz))] (by intro p hp; simp only [List.mem_cons, List.not_mem_nil, or_false] at hp; rcases hp with rfl | rfl | rfl | rfl | rfl | rfl | rfl | rfl <;> rfl), (30 - (fine + 1)).toNat, by omega, fine + 1, rfl, rfl, by omega, by omega⟩
        · rw [if_neg (by rw [decide_eq_false c2]; decide)]
          (refine T_or ?_; refine T_cmp ?_; refine E_bin ?_; refine E_bin ?_; (refine' E_name ?hv28 ?_; (case hv28 => exact rfl)); (refine' E_name ?hv29 ?_; (case hv29 => exact rfl)); refine O_sub ?_; (refine' E_name ?hv30 ?_; (case hv30 => exact rfl)); refine O_mod (by omega) ?_; refine E_int ?_; refine O_ne ?_; refine Tr_bool ?_; rw [if_pos rfl])
          by_cases c3 : (fine - least).fmod step = 0
          · rw [if_neg (by rw [decide_eq_true c3]; decide)]
            (refine T_or_nil ?_; rw [if_neg (by decide)]; rw [if_neg (by decide)])
            have := stop (fun z => z.2.elim c2 fun q => q c3)
            exact ⟨rfl, by rw [← this]⟩
          · rw [if_pos (by rw [decide_eq_false c3]; rfl)]
            (refine T_and_nil ?_; rw [if_pos rfl]; refine S_last ?_; refine S_assign (by exact .inl ⟨rfl, .head _⟩) ?_; refine E_bin ?_; (refine' E_name ?hv31 ?_; (case hv31 => exact rfl)); refine E_int ?_; refine O_add ?_; dsimp only)
            have := go c1 (.inr c3)
            exact ⟨⟨(ol, .lst ((pre).map lvA)) :: (on, .lst ((pre).map idA)) :: X.σ, [((Str.ofString "level"), .int (fine + 1)), ((Str.ofString "low"), .int (e.lo : Int)), ((Str.ofString "size"), .int ((4 ^ e.u : Nat) : Int)), ((Str.ofString "numbers"), .raw (.ref on)), ((Str.ofString "levels"), .raw (.ref ol)), ((Str.ofString "step"), .int step), ((Str.ofString "least"), .int least), ((Str.ofString "cells"), .prs (C.map lsz))]⟩, Conv.names [((Str.ofString "level"), .int (fine + 1)), ((Str.ofString "low"), .int (e.lo : Int)), ((Str.ofString "size"), .int ((4 ^ e.u : Nat) : Int)), ((Str.ofString "numbers"), .raw (.ref on)), ((Str.ofString "levels"), .raw (.ref ol)), ((Str.ofString "step"), .int step), ((Str.ofString "least"), .int least), ((Str.ofString "cells"), .prs (C.map lsz))] (by intro p hp; simp only [List.mem_cons, List.not_mem_nil, or_false] at hp; rcases hp with rfl | rfl | rfl | rfl | rfl | rfl | rfl | rfl <;> rfl), (30 - (fine + 1)).toNat, by omega, fine + 1, rfl, rfl, by omega, by omega⟩
      · rw [if_neg (by rw [decide_eq_false c1]; decide)]
        (rw [if_neg (by decide)])
        have := stop (fun z => c1 z.1)
        exact ⟨rfl, by rw [← this]⟩
    rintro F Y ⟨rfl, rfl⟩
    refine Then_next ?_
    clear hft
    refine S_cons ?_
    refine WT.imp (Q := fun F Y => F = AF.next ∧ Y = ⟨(ol, .lst ((pre).map lvA)) :: (on, .lst ((pre).map idA)) :: X.σ, [((Str.ofString "part"), .int ((4 ^ (e.u - m) : Nat) : Int)), ((Str.ofString "level"), .int (30 - (e.u : Int) + m)), ((Str.ofString "low"), .int (e.lo : Int)), ((Str.ofString "size"), .int ((4 ^ e.u : Nat) : Int)), ((Str.ofString "numbers"), .raw (.ref on)), ((Str.ofString "levels"), .raw (.ref ol)), ((Str.ofString "step"), .int step), ((Str.ofString "least"), .int least), ((Str.ofString "cells"), .prs (C.map lsz))]⟩) ?v1 ?v2
    case v1 =>
      (refine S_assign (by exact .inl ⟨rfl, .head _⟩) ?_; refine E_bin ?_; refine E_int ?_; refine E_bin ?_; refine E_int ?_; (refine' E_name ?hv32 ?_; (case hv32 => exact rfl)); refine O_sub ?_; refine O_pow (by omega) (by omega) (by decide) ?_; dsimp only)
      refine ⟨rfl, ?_⟩
      rw [show Int.toNat (30 - (30 - (e.u : Int) + m)) = e.u - m by omega, pow4_cast]
    rintro F Y ⟨rfl, rfl⟩
    refine Then_next ?_
    have hPp : (0 : Int) < ((4 ^ (e.u - m) : Nat) : Int) := Int.natCast_pos.mpr (Nat.pow_pos (by decide))
    have hPl : ((4 ^ (e.u - m) : Nat) : Int) ≤ ((4 ^ 30 : Nat) : Int) := Int.ofNat_le.mpr (Nat.pow_le_pow_right (by decide) (by omega))
    have hdv : (((4 ^ e.u : Nat) : Int)).fdiv ((4 ^ (e.u - m) : Nat) : Int) = ((4 ^ m : Nat) : Int) := by
      rw [Int.fdiv_eq_ediv_of_nonneg _ (Int.le_of_lt hPp), ← Int.natCast_ediv, pw_split hm, Nat.mul_div_cancel _ (Nat.pow_pos (by decide))]
    have hne : ((4 ^ (e.u - m) : Nat) : Int) ≠ 0 := Int.ne_of_gt hPp
    have hna : (((4 ^ (e.u - m) : Nat) : Int)).natAbs < 2 ^ 200 := by omega
    have htell := tell_id hm
    refine S_last ?_
    refine S_for ?_
    (refine E_call ?_; dsimp only; (refine' E_builtin (v := .type ?id33) ?hk33 ?e33 ?hv33 ?hn33 ?_; (case hk33 => exact rfl); (case e33 => (try dsimp only); k_is); (case hv33 => exact rfl); (case hn33 => decide)); refine C_raw keeper_type ?_; refine Args_plain ?_; refine A_cons ?_; refine E_bin ?_; (refine' E_name ?hv34 ?_; (case hv34 => exact rfl)); (refine' E_name ?hv35 ?_; (case hv35 => exact rfl)); refine O_div (by with_reducible assumption) (by with_reducible assumption) ?_; refine A_nil ?_; refine B_range ?_)
    rw [hdv]
    skip
    refine I_rng (by omega) (by omega) ?_
    rw [Int.toNat_natCast]
    refine ⟨fun k Y => Y = ⟨(ol, .lst ((pre ++ (List.range k).map (e.des m)).map lvA)) :: (on, .lst ((pre ++ (List.range k).map (e.des m)).map idA)) :: X.σ, [((Str.ofString "part"), .int ((4 ^ (e.u - m) : Nat) : Int)), ((Str.ofString "level"), .int (30 - (e.u : Int) + m)), ((Str.ofString "low"), .int (e.lo : Int)), ((Str.ofString "size"), .int ((4 ^ e.u : Nat) : Int)), ((Str.ofString "numbers"), .raw (.ref on)), ((Str.ofString "levels"), .raw (.ref ol)), ((Str.ofString "step"), .int step), ((Str.ofString "least"), .int least), ((Str.ofString "cells"), .prs (C.map lsz))]⟩, ⟨_, Conv.rfl, by show (⟨_, _⟩ : AX) = _; rw [List.range_zero, List.map_nil, List.append_nil]⟩, ?turn4, ?fin4⟩
    case fin4 =>
      intro Y hY
      subst hY
      rw [upto_len]
      exact ⟨_, Conv.names [((Str.ofString "numbers"), .raw (.ref on)), ((Str.ofString "levels"), .raw (.ref ol)), ((Str.ofString "step"), .int step), ((Str.ofString "least"), .int least), ((Str.ofString "cells"), .prs (C.map lsz))] (by intro p hp; simp only [List.mem_cons, List.not_mem_nil, or_false] at hp; rcases hp with rfl | rfl | rfl | rfl | rfl <;> rfl), rfl⟩
    case turn4 =>
      intro k x Y hx hY
      subst hY
      obtain ⟨hk, rfl⟩ := upto_at hx
      have hlen1 : ((pre ++ (List.range k).map (e.des m)).map idA).length ≤ 1000000 := by rw [List.length_map, List.length_append, List.length_map, List.length_range]; omega
      have hlen2 : ((pre ++ (List.range k).map (e.des m)).map lvA).length ≤ 1000000 := by rw [List.length_map, List.length_append, List.length_map, List.length_range]; omega
      have hmul2 : (-(2 ^ 64) < (k : Int) ∧ (k : Int) < 2 ^ 64) ∨ (-(2 ^ 64) < ((4 ^ (e.u - m) : Nat) : Int) ∧ ((4 ^ (e.u - m) : Nat) : Int) < 2 ^ 64) := .inl ⟨by omega, by omega⟩
      (refine A_name (by exact .inl ⟨rfl, .head _⟩) ?_; dsimp only; refine S_cons ?_; refine S_expr ?_; refine E_meth ?_; dsimp only; (refine' E_name ?hv36 ?_; (case hv36 => exact rfl)); refine M_list (by refine' List.Mem.tail _ ?_; exact List.Mem.head _) PySem.F.slot_list_append PySem.F.type_list_append ?_; refine Args_plain ?_; refine A_cons ?_; refine E_bin ?_; refine E_bin ?_; refine E_int ?_; refine E_bin ?_; (refine' E_name ?hv37 ?_; (case hv37 => exact rfl)); refine E_bin ?_; (refine' E_name ?hv38 ?_; (case hv38 => exact rfl)); (refine' E_name ?hv39 ?_; (case hv39 => exact rfl)); refine O_mul (by with_reducible assumption) ?_; refine O_add ?_; refine O_mul (by omega) ?_; (refine' E_name ?hv40 ?_; (case hv40 => exact rfl)); refine O_add ?_; refine A_nil ?_; refine B_append (by refine' SUpd.tail ?hq41; (case hq41 => exact SUpd.head)) (by with_reducible assumption) ?_; dsimp only; refine Then_next ?_; refine S_last ?_; refine S_expr ?_; refine E_meth ?_; dsimp only; (refine' E_name ?hv42 ?_; (case hv42 => exact rfl)); refine M_list (by exact List.Mem.head _) PySem.F.slot_list_append PySem.F.type_list_append ?_; refine Args_plain ?_; refine A_cons ?_; (refine' E_name ?hv43 ?_; (case hv43 => exact rfl)); refine A_nil ?_; refine B_append (by exact SUpd.head) (by with_reducible assumption) ?_; dsimp only)
      refine ⟨⟨(ol, .lst ((pre ++ (List.range (k + 1)).map (e.des m)).map lvA)) :: (on, .lst ((pre ++ (List.range (k + 1)).map (e.des m)).map idA)) :: X.σ, [((Str.ofString "part"), .int ((4 ^ (e.u - m) : Nat) : Int)), ((Str.ofString "level"), .int (30 - (e.u : Int) + m)), ((Str.ofString "low"), .int (e.lo : Int)), ((Str.ofString "size"), .int ((4 ^ e.u : Nat) : Int)), ((Str.ofString "numbers"), .raw (.ref on)), ((Str.ofString "levels"), .raw (.ref ol)), ((Str.ofString "step"), .int step), ((Str.ofString "least"), .int least), ((Str.ofString "cells"), .prs (C.map lsz))]⟩, ?_, rfl⟩
      rw [des_snoc, des_snoc, htell k, show lvA (e.des m k) = AV.int (30 - (e.u : Int) + m) by show AV.int (30 - ((e.u - m : Nat) : Int)) = _; congr 1; omega]
      exact Conv.names [((Str.ofString "part"), .int ((4 ^ (e.u - m) : Nat) : Int)), ((Str.ofString "level"), .int (30 - (e.u : Int) + m)), ((Str.ofString "low"), .int (e.lo : Int)), ((Str.ofString "size"), .int ((4 ^ e.u : Nat) : Int)), ((Str.ofString "numbers"), .raw (.ref on)), ((Str.ofString "levels"), .raw (.ref ol)), ((Str.ofString "step"), .int step), ((Str.ofString "least"), .int least), ((Str.ofString "cells"), .prs (C.map lsz))] (by intro p hp; simp only [List.mem_cons, List.not_mem_nil, or_false] at hp; rcases hp with rfl | rfl | rfl | rfl | rfl | rfl | rfl | rfl | rfl <;> rfl)
theorem WC.raw {c : Cx} {Q : AV → AX → Prop} {X : AX} {f : Value} {Vs : List AV} (h : ∀ B S s vs, c.Ok → Reps S vs Vs → St c B S X s → codeAny (model c.P c.w) c.A (.call f ⟨vs, []⟩) (fun r s' => ∃ S', S.Le S' ∧ r = .ok (.ret (.bool true)) ∧ St c B S' X s') s) (q : Q (.bool true) X) : WC c f Vs [] Q X := by
  intro B S s vs kw ok r rk st
  rw [no_kw rk]
  refine wpAny_call (codeAny_mono (h B S s vs ok r st) fun r s' hz => ?_)
  obtain ⟨S', le, rfl, st'⟩ := hz
  exact ⟨S', .bool true, X, le, .bool _, st', q⟩
theorem refused_c {c : Cx} {Q : AV → AX → Prop} {X : AX} {C : List Cel} {least step : Int} (L : Lw c) (G : Gd c.A 20) (hA : c.A.frames = some [c.env]) (hf0 : c.env.frame = some c.env.locals) (hl0 : c.env.locals ∈ c.own) (hb : least < 0 ∨ 30 < least ∨ step < 1 ∨ 3 < step) (h : Q (.bool true) X) : WC c (.ref 622) [.uni C, .int least, .int step] [] Q X := by
  (have _ : PySem.Challenge.rw_lp0003_08 = PySem.Challenge.rw_lp0003_08 → ∀ w : World, (hd8.heap_1 w.params).In default → True := by (k_fill; intros; trivial))
  have L₀ := L
  obtain ⟨P, w, K, g, A, env, own, E, fx⟩ := c
  obtain ⟨hP, hK, hC, hN⟩ := L
  dsimp only at hP hK hC hN G
  subst hP hK
  refine WC.raw (fun B S s vs ok r st => ?_) h
  refine' refuse_go (V := .uni C) (X₁ := ⟨X.σ, [(Str.ofString "step", .int step), (Str.ofString "least", .int least), (Str.ofString "union", .uni C)]⟩) (Us := [.int least, .int step]) (C := 590) (f2 := 573) (ks := [cidS]) (ws := [.lst (cellsV C)]) (d := 18) (pl := ?pl) [(Str.ofString "union", .uni C), (Str.ofString "least", .int least), (Str.ofString "step", .int step)] [(Str.ofString "self", .uni C), (Str.ofString "min_level", .int least), (Str.ofString "level_mod", .int step)] hA hf0 hl0 G ?ho ?hcd ?hb ?hkind ?hnd ?hco ?hgen ?hk ?hint ?hsw ?hen ?hen2 ?hen3 ?hen4 ?hen5 ?h1 rfl ?hi ?hg ?hf ?ht ?hfn ?hks ?hst ?he ?ho2 ?hcd2 ?hb2 ?hkind2 ?hnd2 ?hco2 ?hgen2 ?hk2 ?hR ok r st
  case ho => ((try dsimp only); k_is)
  case hcd => ((try dsimp only); k_is)
  case hb => exact bind3 fun s v u w X => .of_eq rfl
  case hkind => rfl
  case hnd => decide
  case hco => rfl
  case hgen => rfl
  case hk => rfl
  case hint => intro _; rfl
  case hsw => intro _; rfl
  case hen => intro _; rfl
  case hen2 => ((try dsimp only); k_is)
  case hen3 => rfl
  case hen4 => decide
  case hen5 => decide
  case hi => exact .inl rfl
  case hg => ((try dsimp only); k_is)
  case hf => ((try dsimp only); k_is)
  case ht => ((try dsimp only); k_is)
  case hfn => ((try dsimp only); k_is)
  case hks => decide
  case hst => intro _ e r q; cases q; rfl
  case he => intro _; rfl
  case ho2 => ((try dsimp only); k_is)
  case hcd2 => ((try dsimp only); k_is)
  case hb2 =>
    intro c' kn
    exact bind3 fun s v u w X => .of_eq rfl
  case hkind2 => rfl
  case hnd2 => decide
  case hco2 => rfl
  case hgen2 => rfl
  case hk2 => rfl
  case h1 =>
    intro F c' kn he ho ok G'
    have L' := L₀.kin kn
    obtain ⟨P', w', K', g', A', env', own', E', fx'⟩ := c'
    obtain ⟨f1, f2, f3, f4, f5⟩ := kn
    dsimp only at f1 f2 f3 f4 f5 he ho G'
    subst f1 f2 f3 f4 f5 he ho
    clear L₀
    simp only [List.reverse_cons, List.reverse_nil, List.nil_append, List.cons_append]
    refine ⟨?_, ?_⟩
    · ((refine' E_name ?hv44 ?_; (case hv44 => exact rfl)))
      exact ⟨rfl, rfl⟩
    · (refine A_cons ?_; (refine' E_name ?hv45 ?_; (case hv45 => exact rfl)); refine A_cons ?_; (refine' E_name ?hv46 ?_; (case hv46 => exact rfl)); refine A_nil ?_)
      exact ⟨rfl, rfl⟩
  case hR =>
    intro F c' kn he ho ok G'
    have L' := L₀.kin kn
    obtain ⟨P', w', K', g', A', env', own', E', fx'⟩ := c'
    obtain ⟨f1, f2, f3, f4, f5⟩ := kn
    dsimp only at f1 f2 f3 f4 f5 he ho G'
    subst f1 f2 f3 f4 f5 he ho
    clear L₀
    simp only [List.reverse_cons, List.reverse_nil, List.nil_append, List.cons_append]
    by_cases a0 : 0 ≤ least
    · refine Raises.next ?_ ?_
      · (refine S_assert ?_; refine T_cmp ?_; (refine' E_name ?hv47 ?_; (case hv47 => exact rfl)); refine E_int ?_; refine O_ge ?_; refine Tr_bool ?_)
        exact ⟨decide_eq_true a0, rfl, rfl⟩
      by_cases a1 : least ≤ 30
      · refine Raises.next ?_ ?_
        · (refine S_assert ?_; refine T_cmp ?_; (refine' E_name ?hv48 ?_; (case hv48 => exact rfl)); refine E_attr ?_; (refine' E_global ?hk49 ?e49 ?_; (case hk49 => exact rfl); (case e49 => (try dsimp only); k_is)); refine' G_cv ?hm50 ?a50 ?b50 ?c50 ?d50 ?_; (case hm50 => (try dsimp only); k_is); (case a50 => (try dsimp only); k_is); (case b50 => (try dsimp only); k_is); (case c50 => rfl); (case d50 => intro _; exact .int _ _); refine O_le ?_; refine Tr_bool ?_)
          exact ⟨decide_eq_true a1, rfl, rfl⟩
        by_cases a2 : 1 ≤ step
        · refine Raises.next ?_ ?_
          · (refine S_assert ?_; refine T_cmp ?_; (refine' E_name ?hv51 ?_; (case hv51 => exact rfl)); refine E_int ?_; refine O_ge ?_; refine Tr_bool ?_)
            exact ⟨decide_eq_true a2, rfl, rfl⟩
          refine Raises.fail ?_
          (refine T_cmp ?_; (refine' E_name ?hv52 ?_; (case hv52 => exact rfl)); refine E_int ?_; refine O_le ?_; refine Tr_bool ?_)
          exact ⟨decide_eq_false (by omega), rfl⟩
        · refine Raises.fail ?_
          (refine T_cmp ?_; (refine' E_name ?hv53 ?_; (case hv53 => exact rfl)); refine E_int ?_; refine O_ge ?_; refine Tr_bool ?_)
          exact ⟨decide_eq_false a2, rfl⟩
      · refine Raises.fail ?_
        (refine T_cmp ?_; (refine' E_name ?hv54 ?_; (case hv54 => exact rfl)); refine E_attr ?_; (refine' E_global ?hk55 ?e55 ?_; (case hk55 => exact rfl); (case e55 => (try dsimp only); k_is)); refine' G_cv ?hm56 ?a56 ?b56 ?c56 ?d56 ?_; (case hm56 => (try dsimp only); k_is); (case a56 => (try dsimp only); k_is); (case b56 => (try dsimp only); k_is); (case c56 => rfl); (case d56 => intro _; exact .int _ _); refine O_le ?_; refine Tr_bool ?_)
        exact ⟨decide_eq_false a1, rfl⟩
    · refine Raises.fail ?_
      (refine T_cmp ?_; (refine' E_name ?hv57 ?_; (case hv57 => exact rfl)); refine E_int ?_; refine O_ge ?_; refine Tr_bool ?_)
      exact ⟨decide_eq_false a0, rfl⟩
theorem fm_rng (n : Int) {k : Int} (h : 0 < k) : 0 ≤ n.fmod k ∧ n.fmod k < k := by
  rw [Int.fmod_eq_emod_of_nonneg _ (Int.le_of_lt h)]
  exact ⟨Int.emod_nonneg _ (Int.ne_of_gt h), Int.emod_lt_of_pos _ h⟩
theorem fzN_nil {D : Addr} {W : AV} : ∀ x V', ([] : List (Str × AV)).lookup x = some V' → ∃ V, ([] : List (Str × AV)).lookup x = some V ∧ Fz D W V V' := fun x V e => by cases e
theorem fzN_cons {D : Addr} {W V V' : AV} {a : Str} {m m' : List (Str × AV)} (z : Fz D W V V') (h : ∀ x V', m'.lookup x = some V' → ∃ V, m.lookup x = some V ∧ Fz D W V V') : ∀ x V₂, ((a, V') :: m').lookup x = some V₂ → ∃ V₁, ((a, V) :: m).lookup x = some V₁ ∧ Fz D W V₁ V₂ := fun x V₂ e => by
  rw [List.lookup_cons] at e ⊢
  split at e
  · cases e; exact ⟨V, rfl, z⟩
  · exact h x V₂ e
theorem B_abs {c : Cx} {X : AX} {Q : AV → AX → Prop} {a : Int} (h : Q (.int (if a < 0 then -a else a)) X) : WC c (.builtin "abs") [.int a] [] Q X := by
  intro B S s vs kw ok r rk st
  obtain ⟨v, rfl, r1⟩ := one_arg r
  cases no_kw rk
  obtain ⟨t1, rfl⟩ := r1.int_inv
  exact call_abs_int fun u tk => ⟨S, .int _, X, .rfl, .int _ _, st.toks _, h⟩
theorem nrm_len (cs : List Cel) : (nrm cs).length ≤ cs.length := by
  unfold nrm; split <;> omega
theorem abs_nn (a : Int) : 0 ≤ (if a < 0 then -a else a) := by split <;> omega
theorem ways_at {ms : List (List Int)} {i : Nat} {x : AV} (h : (ms.map AV.way)[i]? = some x) : ∃ d, ms[i]? = some d ∧ x = .way d := by
  rw [List.getElem?_map] at h
  obtain ⟨p, h1, h2⟩ := Option.map_eq_some_iff.mp h
  exact ⟨p, h1, h2.symm⟩
theorem way_cut (b q : List Int) : (List.map AV.int b ++ List.map AV.int q).take 31 = ((b ++ q).take 31).map AV.int := by rw [← List.map_append, ← List.map_take]
theorem lsz_map (C : List Cel) : C.map (fun c => AV.pr (lsz c)) = (C.map lsz).map AV.pr := by rw [List.map_map]; rfl
theorem law_t {w : World} {s : Shared} {g : Heap} {A : Around} {v : Value} {S : Sto} {xs : List Int} {p : Program} {loose : List Str} {mean : ExcName → Option Value} {mg mb : Str → Option Value}
    (X : (hd8.heap_1 w.params).In g) (T : Top p loose mean mg mb g) (C : CodeHd g 565 561) (N : g.get? 561 = none) (G : Gd A 80) (hAf : A.frames = some []) (gr : g.StaysIn s.heap) (sto : ∀ b o, S b o → s.heap.get? b = some o) (r : Rep S v (.ints xs)) (ht : MRep S s.heap 561 tabM) (hS : ∀ o, ¬ S 561 o) (hz : xs.length < 64) :
    codeAny (model prog w) A (.call (.ref 627) ⟨[v], []⟩) (fun r s' => ∃ u S' U Y, r = .ok (.ret u) ∧ TopEnd s [(561, tabM)] false (fun V Y => V = .bool true ∧ (561, tabM) ∈ Y.σ) u s' S' U Y) s := by
  (have _ : PySem.Challenge.rw_lp0003_08 = PySem.Challenge.rw_lp0003_08 → ∀ w : World, (hd8.heap_1 w.params).In default → True := by (k_fill; intros; trivial))
  refine' top_goA (x := (Str.ofString "script")) (V := .ints xs) (σ := [(561, tabM)]) (d := 79) X T G gr sto r ?m1 ?m2 ?m3 ?k1 ?k2 ?k3 ?k4 ?k5 ?k6 ?k7 ?k8 ?_
  case m1 => intro p hp; rw [List.mem_singleton.mp hp]; exact ht
  case m2 => show ([561] : List Addr).Nodup; decide
  case m3 => intro a ha; rw [List.mem_singleton.mp ha]; exact ⟨N, hS⟩
  case k1 => ((try dsimp only); k_is)
  case k2 => ((try dsimp only); k_is)
  case k3 => intro v; exact .of_eq rfl
  case k4 => rfl
  case k5 => decide
  case k6 => rfl
  case k7 => rfl
  case k8 => rfl
  intro F c' e1 e2 e3 e4 e5 he ho e6 ok G'
  have L' : Lw c' := ⟨e1, by rw [e3, e2], by rw [e4]; exact C, by rw [e4]; exact N⟩
  have hA2 : c'.A.frames = some [c'.env] := by rw [e6]; exact Around.frames_deeper hAf
  have hE2 : c'.env.frame = some c'.env.locals := by rw [he]; rfl
  have hE3 : c'.env.locals ∈ c'.own := by rw [he, ho]; exact .head _
  obtain ⟨P', w', K', g', A', env', own', E', fx'⟩ := c'
  dsimp only at e1 e2 e3 e4 e5 he ho G'
  clear e6
  subst e1 e2 e3 e4 e5 he ho
  dsimp only at hA2 hE2 hE3
  refine S_cons ?_
  refine WT.imp (Q := fun F Y => F = AF.next ∧ ∃ first : Int, 0 ≤ first ∧ Y = ⟨(561, tabM) :: [], [((Str.ofString "first"), .int first), ((Str.ofString "script"), .ints xs)]⟩) ?b0 ?b1
  case b0 =>
    have hK : (31 : Int) * 6 * 4 ^ Int.toNat 30 ≠ 0 := by decide
    have hK2 : (0 : Int) < 31 * 6 * 4 ^ Int.toNat 30 := by decide
    (refine S_assign (by exact .inl ⟨rfl, .head _⟩) ?_; refine E_ifexp ?_; refine T_val ?_; (refine' E_name ?hv1 ?_; (case hv1 => exact rfl)))
    refine Tr_lst (by rw [List.length_map]; omega) ?_
    cases xs with
    | nil =>
      rw [if_neg (by decide)]
      (refine E_int ?_; dsimp only)
      exact ⟨rfl, 0, by decide, rfl⟩
    | cons x0 xr =>
      rw [if_pos (show (!(List.map AV.int (x0 :: xr)).isEmpty) = true from rfl)]
      (refine E_bin ?_; refine E_call ?_; dsimp only; (refine' E_builtin (v := .builtin ?id2) ?hk2 ?e2 ?hv2 ?hn2 ?_; (case hk2 => exact rfl); (case e2 => (try dsimp only); k_is); (case hv2 => exact rfl); (case hn2 => decide)); dsimp only; refine C_raw keeper_builtin ?_; refine Args_plain ?_; refine A_cons ?_; refine E_sub ?_; (refine' E_name ?hv3 ?_; (case hv3 => exact rfl)); refine E_int ?_)
      refine Su_lst (i := 0) (V := .int x0) rfl (by rw [List.length_map]; omega) ?_
      (refine A_nil ?_; refine B_abs ?_; refine E_bin ?_; refine E_bin ?_; refine E_int ?_; refine E_int ?_; refine O_mul (by decide) ?_; refine E_bin ?_; refine E_int ?_; refine E_int ?_; refine O_pow (by decide) (by decide) (by decide) ?_; refine O_mul (by decide) ?_; refine O_mod (by decide) ?_; dsimp only)
      exact ⟨rfl, _, (fm_rng _ hK2).1, rfl⟩
  rintro F' Y ⟨rfl, first, hf0, rfl⟩
  refine Then_next ?_
  refine S_cons ?_
  refine WT.imp (Q := fun F Y => F = AF.next ∧ ∃ b : List Int, Pth b ∧ Y = ⟨(561, tabM) :: [], [((Str.ofString "base"), .way b), ((Str.ofString "first"), .int first), ((Str.ofString "script"), .ints xs)]⟩) ?c0 ?c1
  case c0 =>
    have h31 := fm_rng first (k := 31) (by decide)
    have h6 := fm_rng (first.fdiv 31) (k := 6) (by decide)
    (refine S_assign (by exact .inl ⟨rfl, .head _⟩) ?_; refine E_bin ?_; refine E_tup ?_; refine A_cons ?_; refine E_bin ?_; refine E_bin ?_; (refine' E_name ?hv4 ?_; (case hv4 => exact rfl)); refine E_int ?_; refine O_div (by decide) (by decide) ?_; refine E_int ?_; refine O_mod (by decide) ?_; refine A_nil ?_; refine And.intro (Nat.le_of_ble_eq_true rfl) ?_; refine E_call ?_; dsimp only; (refine' E_global ?hk5 ?e5 ?_; (case hk5 => exact rfl); (case e5 => (try dsimp only); k_is)); (refine' C_raw (keeper_fn ?a6) ?_; (case a6 => (try dsimp only); k_is)); refine Args_plain ?_; refine A_cons ?_; refine E_bin ?_; (refine' E_name ?hv7 ?_; (case hv7 => exact rfl)); refine E_int ?_; refine O_div (by decide) (by decide) ?_; refine A_cons ?_; refine E_bin ?_; (refine' E_name ?hv8 ?_; (case hv8 => exact rfl)); refine E_int ?_; refine O_mod (by decide) ?_; refine A_nil ?_)
    refine WC.of (quart_c (by (with_reducible assumption)) (by (exact Gd.le (by with_reducible assumption) rfl)) h31.1 (by omega) ?_)
    skip
    refine O_addT (by rw [List.length_map, qs_len, List.length_singleton]; omega) ?_
    skip
    exact ⟨rfl, (first.fdiv 31).fmod 6 :: qs (first.fdiv 186) (first.fmod 31).toNat, ⟨_, _, rfl, h6.1, h6.2, qs_dig _ _, by rw [qs_len]; omega⟩, rfl⟩
  rintro F' Y ⟨rfl, b, hb, rfl⟩
  refine Then_next ?_
  have hbl := hb.len
  (refine S_cons ?_; refine S_assign (by exact .inl ⟨rfl, .head _⟩) ?_)
  refine E_listM ?_
  (refine A_cons ?_; dsimp only; (refine' E_name ?hv9 ?_; (case hv9 => exact rfl)); refine A_nil ?_; dsimp only; refine And.intro (Nat.le_of_ble_eq_true rfl) ?_)
  intro M
  (refine Then_next ?_; refine S_cons ?_)
  refine S_for ?_
  (refine E_slice2 ?_; (refine' E_name ?hv10 ?_; (case hv10 => exact rfl)); refine E_int ?_; refine E_int ?_)
  refine ⟨_, _, _, rfl, rfl, rfl, by decide, by decide, by rw [List.length_map]; omega, ?_⟩
  refine I_lst ?_
  rw [← List.map_drop, ← List.map_take]
  generalize hys : (xs.drop _).take _ = ys
  have hyl : ys.length ≤ 2 := by
    rw [← hys, List.length_take]
    refine Nat.le_trans (Nat.min_le_left _ _) ?_
    rw [List.length_map]
    show min 3 xs.length - min 1 xs.length ≤ 2
    omega
  clear hys
  refine ⟨fun i Y => ∃ ms, Y = ⟨(M, .lst ((b :: ms).map .way)) :: (561, tabM) :: [], [((Str.ofString "made"), .raw (.ref M)), ((Str.ofString "base"), .way b), ((Str.ofString "first"), .int first), ((Str.ofString "script"), .ints xs)]⟩ ∧ (∀ d ∈ ms, Pth d ∧ KI (cp b) (cp d)) ∧ ms.length = i, ⟨_, Conv.rfl, [], rfl, (fun _ h => nomatch h), rfl⟩, ?turn, ?fin⟩
  case turn =>
    rintro i x Y hx ⟨ms, rfl, hms, hml⟩
    obtain ⟨n, hn, rfl⟩ := ints_at hx
    have hi : i < 2 := by have := (List.getElem?_eq_some_iff.mp hn).1; omega
    clear hx hn
    have ha := abs_nn n
    have h3 := fm_rng (if n < 0 then -n else n) (k := 3) (by decide)
    have hlen : ((b :: ms).map AV.way).length ≤ 1000000 := by rw [List.length_map, List.length_cons]; omega
    (refine A_name (by exact .inl ⟨rfl, .head _⟩) ?_; dsimp only; refine S_cons ?_; refine S_assign (by exact .inl ⟨rfl, .head _⟩) ?_; refine E_bin ?_; (refine' E_name ?hv11 ?_; (case hv11 => exact rfl)); refine E_call ?_; dsimp only; (refine' E_global ?hk12 ?e12 ?_; (case hk12 => exact rfl); (case e12 => (try dsimp only); k_is)); (refine' C_raw (keeper_fn ?a13) ?_; (case a13 => (try dsimp only); k_is)); refine Args_plain ?_; refine A_cons ?_; refine E_bin ?_; refine E_bin ?_; refine E_call ?_; dsimp only; (refine' E_builtin (v := .builtin ?id14) ?hk14 ?e14 ?hv14 ?hn14 ?_; (case hk14 => exact rfl); (case e14 => (try dsimp only); k_is); (case hv14 => exact rfl); (case hn14 => decide)); dsimp only; refine C_raw keeper_builtin ?_; refine Args_plain ?_; refine A_cons ?_; (refine' E_name ?hv15 ?_; (case hv15 => exact rfl)); refine A_nil ?_; refine B_abs ?_; refine E_int ?_; refine O_div (by decide) (by decide) ?_; refine E_int ?_; refine O_mod (by decide) ?_; refine A_cons ?_; refine E_bin ?_; refine E_call ?_; dsimp only; (refine' E_builtin (v := .builtin ?id16) ?hk16 ?e16 ?hv16 ?hn16 ?_; (case hk16 => exact rfl); (case e16 => (try dsimp only); k_is); (case hv16 => exact rfl); (case hn16 => decide)); dsimp only; refine C_raw keeper_builtin ?_; refine Args_plain ?_; refine A_cons ?_; (refine' E_name ?hv17 ?_; (case hv17 => exact rfl)); refine A_nil ?_; refine B_abs ?_; refine E_int ?_; refine O_mod (by decide) ?_; refine A_nil ?_)
    refine WC.of (quart_c (by (with_reducible assumption)) (by (exact Gd.le (by with_reducible assumption) rfl)) h3.1 (by omega) ?_)
    skip
    refine O_addT (by rw [List.length_map, List.length_map, qs_len]; omega) ?_
    (refine Then_next ?_; dsimp only; refine S_last ?_; refine S_expr ?_; refine E_meth ?_; dsimp only; (refine' E_name ?hv18 ?_; (case hv18 => exact rfl)); refine M_list (by exact List.Mem.head _) PySem.F.slot_list_append PySem.F.type_list_append ?_; refine Args_plain ?_; refine A_cons ?_; refine E_sliceToT ?_; (refine' E_name ?hv19 ?_; (case hv19 => exact rfl)); refine E_int ?_)
    refine ⟨_, _, rfl, rfl, by decide, by rw [List.length_append, List.length_map, List.length_map, qs_len]; omega, ?_⟩
    rw [show Int.toNat 31 = 31 from rfl, way_cut]
    have hB := hb.below (qs_dig ((if n < 0 then -n else n).fdiv 3 |>.fmod 64) ((if n < 0 then -n else n).fmod 3).toNat) (by rw [qs_len]; omega)
    generalize (b ++ qs ((if n < 0 then -n else n).fdiv 3 |>.fmod 64) ((if n < 0 then -n else n).fmod 3).toNat).take 31 = bl at *
    (refine A_nil ?_; refine B_append (by exact SUpd.head) (by simp only [cellsV, List.length_map, List.length_reverse, List.length_cons, List.length_append, List.length_nil]; omega) ?_; dsimp only)
    refine ⟨⟨(M, .lst ((b :: (ms ++ [bl])).map .way)) :: (561, tabM) :: [], [((Str.ofString "made"), .raw (.ref M)), ((Str.ofString "base"), .way b), ((Str.ofString "first"), .int first), ((Str.ofString "script"), .ints xs)]⟩, ?_, ms ++ [bl], rfl, fun d hd => (List.mem_append.mp hd).elim (hms d) fun q => by rw [List.mem_singleton.mp q]; exact hB, by rw [List.length_append, List.length_singleton, hml]⟩
    rw [show (b :: (ms ++ [bl])).map AV.way = (b :: ms).map AV.way ++ [.way bl] by rw [← List.cons_append, List.map_append]; rfl]
    exact Conv.names [((Str.ofString "made"), .raw (.ref M)), ((Str.ofString "base"), .way b), ((Str.ofString "first"), .int first), ((Str.ofString "script"), .ints xs)] (by intro p hp; simp only [List.mem_cons, List.not_mem_nil, or_false] at hp; rcases hp with rfl | rfl | rfl | rfl <;> rfl)
  case fin =>
    rintro Y ⟨ms, rfl, hms, hml⟩
    rw [List.length_map] at hml
    refine WT.pre (Conv.freeze (D := M) (W := .lst ((b :: ms).map .way)) (m' := [((Str.ofString "made"), .lst ((b :: ms).map .way)), ((Str.ofString "base"), .way b), ((Str.ofString "first"), .int first), ((Str.ofString "script"), .ints xs)]) .head rfl (fzN_cons .here (fzN_cons (.same _) (fzN_cons (.same _) (fzN_cons (.same _) fzN_nil))))) ?_
    dsimp only [id]
    refine Then_next ?_
    refine S_cons ?_
    refine WT.imp (Q := fun F Y => F = AF.next ∧ ∃ md : List (List Int), md ≠ [] ∧ md.length ≤ 2 ∧ (∀ d ∈ md, Pth d ∧ KI (cp b) (cp d)) ∧ ∃ mm, Y = ⟨(561, tabM) :: [], mm⟩ ∧ mm.lookup (Str.ofString "made") = some (.lst (md.map .way)) ∧ mm.lookup (Str.ofString "base") = some (.way b) ∧ mm.lookup (Str.ofString "first") = some (.int first) ∧ mm.lookup (Str.ofString "script") = some (.ints xs)) ?ia ?ib
    case ia =>
      have hlz : ((b :: ms).map AV.way).length ≤ 3 := by rw [List.length_map, List.length_cons]; omega
      (refine S_if ?_; refine T_cmp ?_; refine E_call ?_; dsimp only; (refine' E_builtin (v := .builtin ?id20) ?hk20 ?e20 ?hv20 ?hn20 ?_; (case hk20 => exact rfl); (case e20 => (try dsimp only); k_is); (case hv20 => exact rfl); (case hn20 => decide)); dsimp only; refine C_raw keeper_builtin ?_; refine Args_plain ?_; refine A_cons ?_; (refine' E_name ?hv21 ?_; (case hv21 => exact rfl)); refine A_nil ?_; refine B_len_lst (by simp only [cellsV, List.length_map, List.length_reverse, List.length_cons, List.length_append, List.length_nil]; omega) ?_; refine E_int ?_; refine O_gt ?_; refine Tr_bool ?_)
      rw [List.length_map, List.length_cons]
      by_cases q : (1 : Int) < ((ms.length + 1 : Nat) : Int)
      · rw [if_pos (decide_eq_true q)]
        (refine S_last ?_; refine S_assign (by exact .inl ⟨rfl, .head _⟩) ?_; refine E_sliceFrom ?_; (refine' E_name ?hv22 ?_; (case hv22 => exact rfl)); refine E_int ?_; dsimp only)
        refine ⟨_, _, rfl, rfl, by decide, by omega, ?_⟩
        skip
        exact ⟨rfl, ms, (fun z => by rw [z] at q; exact absurd q (by decide)), by omega, hms, _, rfl, rfl, rfl, rfl, rfl⟩
      · rw [if_neg (by rw [decide_eq_false q]; decide)]
        (refine S_nil ?_)
        have : ms = [] := List.eq_nil_of_length_eq_zero (by omega)
        subst this
        exact ⟨rfl, [b], (fun z => by cases z), Nat.le_succ 1, (fun d hd => by rw [List.mem_singleton.mp hd]; exact ⟨hb, hb.self⟩), _, rfl, rfl, rfl, rfl, rfl⟩
    rintro F Y ⟨rfl, md, hmd0, hmd2, hmd, mm, rfl, e1, e2, e3, e4⟩
    refine Then_next ?_
    refine WT.pre (Conv.names [((Str.ofString "made"), .lst (md.map .way)), ((Str.ofString "base"), .way b), ((Str.ofString "first"), .int first), ((Str.ofString "script"), .ints xs)] (by
      intro p hp
      simp only [List.mem_cons, List.not_mem_nil, or_false] at hp
      rcases hp with rfl | rfl | rfl | rfl <;> assumption)) ?_
    clear e1 e2 e3 e4 hms hml
    dsimp only
    (refine S_cons ?_; refine S_assign (by exact .inl ⟨rfl, .head _⟩) ?_; refine E_call ?_; dsimp only; (refine' E_global ?hk23 ?e23 ?_; (case hk23 => exact rfl); (case e23 => (try dsimp only); k_is)); (refine' C_raw (keeper_keep ?a24) ?_; (case a24 => (try dsimp only); k_is)); refine Args_plain ?_; refine A_cons ?_)
    refine' E_mapF (X₁ := ⟨(561, tabM) :: [], [((Str.ofString "made"), .lst (md.map .way)), ((Str.ofString "base"), .way b), ((Str.ofString "first"), .int first), ((Str.ofString "script"), .ints xs)]⟩) (xs := (md.map fun d => lsz (cp d)).map .pr) (ys := cellsV (md.map cp)) [] ?i1 ?len1 ?z1 (fun p h => nomatch h) ?ifs1 ?item1 ?q1 ?nd1 ?free1 ?cell1 ?kind1 ?names1 ?as1 ?f1
    case nd1 => decide
    case free1 => exact freeOk rfl
    case cell1 => decide
    case kind1 => rfl
    case names1 => decide
    case as1 => rfl
    case f1 => intro x; rfl
    case ifs1 => rfl
    case i1 =>
      skip
      refine' E_mapF (X₁ := ⟨(561, tabM) :: [], [((Str.ofString "made"), .lst (md.map .way)), ((Str.ofString "base"), .way b), ((Str.ofString "first"), .int first), ((Str.ofString "script"), .ints xs)]⟩) (xs := md.map .way) (ys := (md.map fun d => lsz (cp d)).map .pr) [] ?i2 ?len2 ?z2 (fun p h => nomatch h) ?ifs2 ?item2 ?q2 ?nd2 ?free2 ?cell2 ?kind2 ?names2 ?as2 ?f2
      case nd2 => decide
      case free2 => exact freeOk rfl
      case cell2 => decide
      case kind2 => rfl
      case names2 => decide
      case as2 => rfl
      case f2 => intro x; rfl
      case ifs2 => rfl
      case i2 =>
        ((refine' E_name ?hv25 ?_; (case hv25 => exact rfl)); dsimp only)
        exact I_lst ⟨rfl, rfl, rfl⟩
      case len2 => simp
      case z2 => rw [List.length_map]; omega
      case item2 =>
        intro C D i x y okC hx hy
        obtain ⟨d, hd, rfl⟩ := ways_at hx
        rw [List.getElem?_map, List.getElem?_map, hd] at hy
        cases hy
        have hP := (hmd d (List.mem_of_getElem? hd)).1
        dsimp only [Cx.block]
        (refine A_name (by exact .inl ⟨rfl, .head _⟩) ?_; dsimp only; refine E_call ?_; dsimp only; (refine' E_global ?hk26 ?e26 ?_; (case hk26 => exact rfl); (case e26 => (try dsimp only); k_is)); (refine' C_raw (keeper_fn ?a27) ?_; (case a27 => (try dsimp only); k_is)); refine Args_plain ?_; refine A_cons ?_; (refine' E_name ?hv28 ?_; (case hv28 => exact rfl)); refine A_nil ?_)
        refine WC.of (stretch_c (by (exact ⟨rfl, rfl, by assumption, by assumption⟩)) (by (exact Gd.le (by with_reducible assumption) rfl)) hP ?_)
        exact ⟨rfl, rfl, fun p h => nomatch h⟩
      case q2 => exact I_lst ⟨rfl, rfl, rfl⟩
    case len1 => simp
    case z1 => rw [List.length_map, List.length_map]; omega
    case item1 =>
      intro C D i x y okC hx hy
      rw [List.getElem?_map, List.getElem?_map] at hx
      obtain ⟨p1, hp1, rfl⟩ := Option.map_eq_some_iff.mp hx
      obtain ⟨d, hd, rfl⟩ := Option.map_eq_some_iff.mp hp1
      rw [List.getElem?_map, List.getElem?_map, hd] at hy
      cases hy
      have hP := (hmd d (List.mem_of_getElem? hd)).1
      dsimp only [Cx.block]
      (refine A_tup rfl ?_; refine Al_cons ?_; refine A_name (by exact .inl ⟨rfl, .head _⟩) ?_; dsimp only; refine Al_cons ?_; refine A_name (by exact .inl ⟨rfl, .head _⟩) ?_; dsimp only; refine Al_nil ?_; refine E_call ?_; dsimp only; (refine' E_global ?hk29 ?e29 ?_; (case hk29 => exact rfl); (case e29 => (try dsimp only); k_is)); (refine' C_raw (keeper_keep ?a30) ?_; (case a30 => (try dsimp only); k_is)); refine Args_plain ?_; refine A_cons ?_; refine E_bin ?_; refine E_bin ?_; refine E_int ?_; (refine' E_name ?hv31 ?_; (case hv31 => exact rfl)); refine O_mul (by omega) ?_; (refine' E_name ?hv32 ?_; (case hv32 => exact rfl)); refine O_add ?_; refine A_nil ?_)
      refine WC.of (newK (cp d) (by (exact ⟨rfl, rfl, by assumption, by assumption⟩)) (by (exact Gd.le (by with_reducible assumption) rfl)) hP.ok (lo_id (cp d)) ?_)
      exact ⟨rfl, rfl, fun p h => nomatch h⟩
    (refine A_nil ?_)
    refine WC.of (newU_n (by (with_reducible assumption)) (by (exact Gd.le (by with_reducible assumption) rfl)) (fun e he => ?okU) (by rw [List.length_map]; omega) fun cs hp hs => ?_)
    case okU => obtain ⟨d, hd, rfl⟩ := List.mem_map.mp he; exact (hmd d hd).1.ok
    have hC : Least (Lf (md.map cp)) (nrm cs) := (nrm_eq (fun e he => by obtain ⟨d, hd, rfl⟩ := List.mem_map.mp (hp.subset he); exact (hmd d hd).1.ok) hs).congr (Lf_perm hp)
    have lC : (nrm cs).length ≤ 2 := by have := nrm_len cs; rw [hp.length_eq, List.length_map] at this; omega
    have hsp := spread (b := cp b) (cs := md.map cp) (fun c hc => by obtain ⟨d, hd, rfl⟩ := List.mem_map.mp hc; exact (hmd d hd).2) (by rw [List.length_map]; omega) hC
    have hne : nrm cs ≠ [] := by
      intro z
      rw [z] at hC
      cases md with
      | nil => exact hmd0 rfl
      | cons d r => exact Lf_nil ((hC.lf (cp d).lo).mpr ⟨cp d, .head _, Nat.le_refl _, (cp d).lo_lt⟩)
    generalize nrm cs = C₁ at *
    clear hp hs
    have hok1 := hC.ok
    (refine Then_next ?_; dsimp only; refine S_cons ?_; refine S_assign (by exact .inl ⟨rfl, .head _⟩) ?_)
    refine E_listM (A_nil ⟨by decide, fun D => ?_⟩)
    (refine Then_next ?_; dsimp only; refine S_cons ?_)
    refine S_for ?_
    (refine E_meth ?_; dsimp only; (refine' E_name ?hv33 ?_; (case hv33 => exact rfl)); refine' M_fn ?hi34 ?a34 ?b34 ?c34 ?d34 ?e34 ?_; (case hi34 => exact .inl rfl); (case a34 => (try dsimp only); k_is); (case b34 => (try dsimp only); k_is); (case c34 => (try dsimp only); k_is); (case d34 => (try dsimp only); k_is); (case e34 => decide); refine Args_plain ?_; refine A_nil ?_)
    refine WC.of (cellids_c (by (with_reducible assumption)) (by (exact Gd.le (by with_reducible assumption) rfl)) ?_)
    refine I_lst ?_
    refine ⟨fun i Y => Y = ⟨(D, .lst ((C₁.take i).map fun c => AV.pr (lsz c))) :: (561, tabM) :: [], [((Str.ofString "cells"), .raw (.ref D)), ((Str.ofString "union"), .uni C₁), ((Str.ofString "made"), .lst (md.map .way)), ((Str.ofString "base"), .way b), ((Str.ofString "first"), .int first), ((Str.ofString "script"), .ints xs)]⟩, ⟨_, Conv.rfl, rfl⟩, ?turn3, ?fin3⟩
    case turn3 =>
      intro i x Y hx hY
      subst hY
      obtain ⟨e, hq, rfl⟩ := cel_at hx
      have hi := (List.getElem?_eq_some_iff.mp hq).1
      have hlen : ((C₁.take i).map fun c => AV.pr (lsz c)).length ≤ 1000000 := by rw [List.length_map, List.length_take]; omega
      have hid := id_lo e
      clear hx
      (refine A_name (by exact .inl ⟨rfl, .head _⟩) ?_; dsimp only; refine S_cons ?_; refine S_assign (by exact .inl ⟨rfl, .head _⟩) ?_; refine E_meth ?_; dsimp only; (refine' E_name ?hv35 ?_; (case hv35 => exact rfl)); refine' M_fn ?hi36 ?a36 ?b36 ?c36 ?d36 ?e36 ?_; (case hi36 => exact .inl rfl); (case a36 => (try dsimp only); k_is); (case b36 => (try dsimp only); k_is); (case c36 => (try dsimp only); k_is); (case d36 => (try dsimp only); k_is); (case e36 => decide); refine Args_plain ?_; refine A_nil ?_; refine WC.of (lsb_c (by with_reducible assumption) (by exact Gd.le (by with_reducible assumption) rfl)  ?_); dsimp only; refine Then_next ?_; refine S_last ?_; refine S_expr ?_; refine E_meth ?_; dsimp only; (refine' E_name ?hv37 ?_; (case hv37 => exact rfl)); refine M_list (by exact List.Mem.head _) PySem.F.slot_list_append PySem.F.type_list_append ?_; refine Args_plain ?_; refine A_cons ?_; refine E_tup ?_; refine A_cons ?_; refine E_bin ?_; refine E_bin ?_; refine E_meth ?_; dsimp only; (refine' E_name ?hv38 ?_; (case hv38 => exact rfl)); refine' M_fn ?hi39 ?a39 ?b39 ?c39 ?d39 ?e39 ?_; (case hi39 => exact .inl rfl); (case a39 => (try dsimp only); k_is); (case b39 => (try dsimp only); k_is); (case c39 => (try dsimp only); k_is); (case d39 => (try dsimp only); k_is); (case e39 => decide); refine Args_plain ?_; refine A_nil ?_; refine WC.of (id_c (by with_reducible assumption) (by exact Gd.le (by with_reducible assumption) rfl)  ?_); (refine' E_name ?hv40 ?_; (case hv40 => exact rfl)); refine O_sub ?_; refine E_int ?_; refine O_div (by decide) (by decide) ?_; refine A_cons ?_; (refine' E_name ?hv41 ?_; (case hv41 => exact rfl)); refine A_nil ?_; refine And.intro (Nat.le_of_ble_eq_true rfl) ?_; refine A_nil ?_; refine B_append (by exact SUpd.head) (by with_reducible assumption) ?_; dsimp only)
      refine ⟨⟨(D, .lst ((C₁.take (i + 1)).map fun c => AV.pr (lsz c))) :: (561, tabM) :: [], [((Str.ofString "cells"), .raw (.ref D)), ((Str.ofString "union"), .uni C₁), ((Str.ofString "made"), .lst (md.map .way)), ((Str.ofString "base"), .way b), ((Str.ofString "first"), .int first), ((Str.ofString "script"), .ints xs)]⟩, ?_, rfl⟩
      rw [List.take_succ, hq, List.map_append, hid]
      exact Conv.names [((Str.ofString "cells"), .raw (.ref D)), ((Str.ofString "union"), .uni C₁), ((Str.ofString "made"), .lst (md.map .way)), ((Str.ofString "base"), .way b), ((Str.ofString "first"), .int first), ((Str.ofString "script"), .ints xs)] (by intro p hp; simp only [List.mem_cons, List.not_mem_nil, or_false] at hp; rcases hp with rfl | rfl | rfl | rfl | rfl | rfl <;> rfl)
    case fin3 =>
      intro Y hY
      subst hY
      rw [List.length_map, List.take_length, lsz_map]
      refine WT.pre (Conv.freeze (D := D) (W := .prs (C₁.map lsz)) (m' := [((Str.ofString "cells"), .prs (C₁.map lsz)), ((Str.ofString "union"), .uni C₁), ((Str.ofString "made"), .lst (md.map .way)), ((Str.ofString "base"), .way b), ((Str.ofString "first"), .int first), ((Str.ofString "script"), .ints xs)]) .head rfl (fzN_cons .here (fzN_cons (.same _) (fzN_cons (.same _) (fzN_cons (.same _) (fzN_cons (.same _) (fzN_cons (.same _) fzN_nil))))))) ?_
      dsimp only [id]
      refine Then_next ?_
      refine S_cons ?_
      refine WT.imp (Q := fun F Y => F = AF.next ∧ ∃ e0 ∈ C₁, (∀ c ∈ C₁, 30 - (c.u : Int) ≤ 30 - (e0.u : Int)) ∧ Y = ⟨(561, tabM) :: [], [((Str.ofString "deepest"), .int (30 - (e0.u : Int))), ((Str.ofString "cells"), .prs (C₁.map lsz)), ((Str.ofString "union"), .uni C₁), ((Str.ofString "made"), .lst (md.map .way)), ((Str.ofString "base"), .way b), ((Str.ofString "first"), .int first), ((Str.ofString "script"), .ints xs)]⟩) ?m0 ?m1
      case m0 =>
        (refine S_assign (by exact .inl ⟨rfl, .head _⟩) ?_; refine E_call ?_; dsimp only; (refine' E_builtin (v := .builtin ?id42) ?hk42 ?e42 ?hv42 ?hn42 ?_; (case hk42 => exact rfl); (case e42 => (try dsimp only); k_is); (case hv42 => exact rfl); (case hn42 => decide)); dsimp only; refine C_raw keeper_builtin ?_; refine Args_plain ?_; refine A_cons ?_)
        refine' E_mapF (X₁ := ⟨(561, tabM) :: [], [((Str.ofString "cells"), .prs (C₁.map lsz)), ((Str.ofString "union"), .uni C₁), ((Str.ofString "made"), .lst (md.map .way)), ((Str.ofString "base"), .way b), ((Str.ofString "first"), .int first), ((Str.ofString "script"), .ints xs)]⟩) (xs := cellsV C₁) (ys := (C₁.map fun c => 30 - (c.u : Int)).map .int) [] ?i3 ?len3 ?z3 (fun p h => nomatch h) ?ifs3 ?item3 ?q3 ?nd3 ?free3 ?cell3 ?kind3 ?names3 ?as3 ?f3
        case nd3 => decide
        case free3 => exact freeOk rfl
        case cell3 => decide
        case kind3 => rfl
        case names3 => decide
        case as3 => rfl
        case f3 => intro x; rfl
        case ifs3 => rfl
        case i3 =>
          (refine E_meth ?_; dsimp only; (refine' E_name ?hv43 ?_; (case hv43 => exact rfl)); refine' M_fn ?hi44 ?a44 ?b44 ?c44 ?d44 ?e44 ?_; (case hi44 => exact .inl rfl); (case a44 => (try dsimp only); k_is); (case b44 => (try dsimp only); k_is); (case c44 => (try dsimp only); k_is); (case d44 => (try dsimp only); k_is); (case e44 => decide); refine Args_plain ?_; refine A_nil ?_)
          refine WC.of (cellids_c (by (with_reducible assumption)) (by (exact Gd.le (by with_reducible assumption) rfl)) ?_)
          exact I_lst ⟨rfl, rfl, rfl⟩
        case len3 => simp
        case z3 => rw [List.length_map]; omega
        case item3 =>
          intro C D i x y okC hx hy
          obtain ⟨e, he, rfl⟩ := cel_at hx
          rw [List.getElem?_map, List.getElem?_map, he] at hy
          cases hy
          have hoke := hok1 e (List.mem_of_getElem? he)
          dsimp only [Cx.block]
          (refine A_name (by exact .inl ⟨rfl, .head _⟩) ?_; dsimp only; refine E_meth ?_; dsimp only; (refine' E_name ?hv45 ?_; (case hv45 => exact rfl)); refine' M_fn ?hi46 ?a46 ?b46 ?c46 ?d46 ?e46 ?_; (case hi46 => exact .inl rfl); (case a46 => (try dsimp only); k_is); (case b46 => (try dsimp only); k_is); (case c46 => (try dsimp only); k_is); (case d46 => (try dsimp only); k_is); (case e46 => decide); refine Args_plain ?_; refine A_nil ?_; refine WC.of (level_c (by exact ⟨rfl, rfl, by assumption, by assumption⟩) (by exact Gd.le (by with_reducible assumption) rfl) (by with_reducible assumption) ?_); dsimp only)
          exact ⟨rfl, rfl, fun p h => nomatch h⟩
        (refine A_nil ?_)
        refine B_maxL (fun z => hne (List.map_eq_nil_iff.mp z)) fun mx hmem hmax => ?_
        obtain ⟨e0, he0, rfl⟩ := List.mem_map.mp hmem
        skip
        exact ⟨rfl, e0, he0, fun c hc => hmax _ (List.mem_map.mpr ⟨c, hc, rfl⟩), rfl⟩
      rintro F Y ⟨rfl, e0, he0, hmax, rfl⟩
      have he0u := (hok1 e0 he0).1
      refine Then_next ?_
      refine S_cons ?_
      refine WT.imp (Q := fun F Y => F = AF.next ∧ ∃ num : Int, 0 ≤ num ∧ Y = ⟨(561, tabM) :: [], [((Str.ofString "number"), .int num), ((Str.ofString "deepest"), .int (30 - (e0.u : Int))), ((Str.ofString "cells"), .prs (C₁.map lsz)), ((Str.ofString "union"), .uni C₁), ((Str.ofString "made"), .lst (md.map .way)), ((Str.ofString "base"), .way b), ((Str.ofString "first"), .int first), ((Str.ofString "script"), .ints xs)]⟩) ?n0 ?n1
      case n0 =>
        (refine S_assign (by exact .inl ⟨rfl, .head _⟩) ?_; refine E_ifexp ?_; refine T_cmp ?_; refine E_call ?_; dsimp only; (refine' E_builtin (v := .builtin ?id47) ?hk47 ?e47 ?hv47 ?hn47 ?_; (case hk47 => exact rfl); (case e47 => (try dsimp only); k_is); (case hv47 => exact rfl); (case hn47 => decide)); dsimp only; refine C_raw keeper_builtin ?_; refine Args_plain ?_; refine A_cons ?_; (refine' E_name ?hv48 ?_; (case hv48 => exact rfl)); refine A_nil ?_; refine B_len_lst (by simp only [cellsV, List.length_map, List.length_reverse, List.length_cons, List.length_append, List.length_nil]; omega) ?_; refine E_int ?_; refine O_gt ?_; refine Tr_bool ?_)
        by_cases c : 3 < xs.length
        · rw [if_pos (by rw [List.length_map]; exact decide_eq_true (by omega))]
          (refine E_call ?_; dsimp only; (refine' E_builtin (v := .builtin ?id49) ?hk49 ?e49 ?hv49 ?hn49 ?_; (case hk49 => exact rfl); (case e49 => (try dsimp only); k_is); (case hv49 => exact rfl); (case hn49 => decide)); dsimp only; refine C_raw keeper_builtin ?_; refine Args_plain ?_; refine A_cons ?_; refine E_sub ?_; (refine' E_name ?hv50 ?_; (case hv50 => exact rfl)); refine E_int ?_)
          refine Su_lst (i := ((3 : Nat) : Int)) (V := .int xs[3]) (atI_nat (by rw [List.getElem?_map, List.getElem?_eq_getElem c]; rfl)) (by rw [List.length_map]; omega) ?_
          (refine A_nil ?_; refine B_abs ?_; dsimp only)
          exact ⟨rfl, _, abs_nn _, rfl⟩
        · rw [if_neg (by rw [List.length_map, decide_eq_false (by omega)]; decide)]
          (refine E_ifexp ?_; refine T_cmp ?_; refine E_call ?_; dsimp only; (refine' E_builtin (v := .builtin ?id51) ?hk51 ?e51 ?hv51 ?hn51 ?_; (case hk51 => exact rfl); (case e51 => (try dsimp only); k_is); (case hv51 => exact rfl); (case hn51 => decide)); dsimp only; refine C_raw keeper_builtin ?_; refine Args_plain ?_; refine A_cons ?_; (refine' E_name ?hv52 ?_; (case hv52 => exact rfl)); refine A_nil ?_; refine B_len_lst (by simp only [cellsV, List.length_map, List.length_reverse, List.length_cons, List.length_append, List.length_nil]; omega) ?_; refine E_int ?_; refine O_gt ?_; refine Tr_bool ?_)
          by_cases c : 2 < xs.length
          · rw [if_pos (by rw [List.length_map]; exact decide_eq_true (by omega))]
            (refine E_bin ?_; refine E_call ?_; dsimp only; (refine' E_builtin (v := .builtin ?id53) ?hk53 ?e53 ?hv53 ?hn53 ?_; (case hk53 => exact rfl); (case e53 => (try dsimp only); k_is); (case hv53 => exact rfl); (case hn53 => decide)); dsimp only; refine C_raw keeper_builtin ?_; refine Args_plain ?_; refine A_cons ?_; refine E_sub ?_; (refine' E_name ?hv54 ?_; (case hv54 => exact rfl)); refine E_int ?_)
            refine Su_lst (i := ((2 : Nat) : Int)) (V := .int xs[2]) (atI_nat (by rw [List.getElem?_map, List.getElem?_eq_getElem c]; rfl)) (by rw [List.length_map]; omega) ?_
            (refine A_nil ?_; refine B_abs ?_; refine E_int ?_; refine O_div (by decide) (by decide) ?_; dsimp only)
            exact ⟨rfl, _, Int.fdiv_nonneg (abs_nn _) (by decide), rfl⟩
          · rw [if_neg (by rw [List.length_map, decide_eq_false (by omega)]; decide)]
            (refine E_int ?_; dsimp only)
            exact ⟨rfl, 0, by decide, rfl⟩
      rintro F Y ⟨rfl, num, hn0, rfl⟩
      refine Then_next ?_
      refine S_cons ?_
      refine WT.imp (Q := fun F Y => F = AF.next ∧ ∃ least : Int, 0 ≤ least ∧ least ≤ 30 ∧ least ≤ 30 - (e0.u : Int) + 1 ∧ Y = ⟨(561, tabM) :: [], [((Str.ofString "least"), .int least), ((Str.ofString "number"), .int num), ((Str.ofString "deepest"), .int (30 - (e0.u : Int))), ((Str.ofString "cells"), .prs (C₁.map lsz)), ((Str.ofString "union"), .uni C₁), ((Str.ofString "made"), .lst (md.map .way)), ((Str.ofString "base"), .way b), ((Str.ofString "first"), .int first), ((Str.ofString "script"), .ints xs)]⟩) ?l0 ?l1
      case l0 =>
        have h5 := fm_rng num (k := 5) (by decide)
        (refine S_assign (by exact .inl ⟨rfl, .head _⟩) ?_; refine E_call ?_; dsimp only; (refine' E_builtin (v := .builtin ?id55) ?hk55 ?e55 ?hv55 ?hn55 ?_; (case hk55 => exact rfl); (case e55 => (try dsimp only); k_is); (case hv55 => exact rfl); (case hn55 => decide)); dsimp only; refine C_raw keeper_builtin ?_; refine Args_plain ?_; refine A_cons ?_; refine E_int ?_; refine A_cons ?_; refine E_call ?_; dsimp only; (refine' E_builtin (v := .builtin ?id56) ?hk56 ?e56 ?hv56 ?hn56 ?_; (case hk56 => exact rfl); (case e56 => (try dsimp only); k_is); (case hv56 => exact rfl); (case hn56 => decide)); dsimp only; refine C_raw keeper_builtin ?_; refine Args_plain ?_; refine A_cons ?_; refine E_int ?_; refine A_cons ?_; refine E_bin ?_; refine E_bin ?_; (refine' E_name ?hv57 ?_; (case hv57 => exact rfl)); refine E_int ?_; refine O_sub ?_; refine E_bin ?_; (refine' E_name ?hv58 ?_; (case hv58 => exact rfl)); refine E_int ?_; refine O_mod (by decide) ?_; refine O_add ?_; refine A_nil ?_; refine B_min ?_; refine A_nil ?_; refine B_max ?_; dsimp only)
        exact ⟨rfl, _, by omega, by omega, by omega, rfl⟩
      rintro F Y ⟨rfl, least, hl0, hl30, hl1, rfl⟩
      refine Then_next ?_
      refine S_cons ?_
      refine WT.imp (Q := fun F Y => F = AF.next ∧ ∃ step : Int, 1 ≤ step ∧ step ≤ 3 ∧ Y = ⟨(561, tabM) :: [], [((Str.ofString "step"), .int step), ((Str.ofString "least"), .int least), ((Str.ofString "number"), .int num), ((Str.ofString "deepest"), .int (30 - (e0.u : Int))), ((Str.ofString "cells"), .prs (C₁.map lsz)), ((Str.ofString "union"), .uni C₁), ((Str.ofString "made"), .lst (md.map .way)), ((Str.ofString "base"), .way b), ((Str.ofString "first"), .int first), ((Str.ofString "script"), .ints xs)]⟩) ?p0 ?p1
      case p0 =>
        have h3 := fm_rng (num.fdiv 5) (k := 3) (by decide)
        (refine S_assign (by exact .inl ⟨rfl, .head _⟩) ?_; refine E_bin ?_; refine E_int ?_; refine E_bin ?_; refine E_bin ?_; (refine' E_name ?hv59 ?_; (case hv59 => exact rfl)); refine E_int ?_; refine O_div (by decide) (by decide) ?_; refine E_int ?_; refine O_mod (by decide) ?_; refine O_add ?_; dsimp only)
        exact ⟨rfl, _, by omega, by omega, rfl⟩
      rintro F Y ⟨rfl, step, hs0, hs1, rfl⟩
      refine Then_next ?_
      have hm2 : ∀ e ∈ C₁, mF least step e ≤ 2 := fun e he => mF_two (base := 30 - (e0.u : Int)) hl0 hl30 hs0 hs1 hl1 (hok1 e he).1 (by have := hsp e he e0 he0; omega)
      have hdl := dnl_len (cs := C₁) hm2
      have hdok := dnl_ok hl0 hl30 hs0 hs1 hok1
      have h7 := (fm_rng num (k := 7) (by decide)).1
      (refine S_cons ?_; refine S_assignT ?_; refine E_call ?_; dsimp only; (refine' E_global ?hk60 ?e60 ?_; (case hk60 => exact rfl); (case e60 => (try dsimp only); k_is)); (refine' C_raw (keeper_fn ?a61) ?_; (case a61 => (try dsimp only); k_is)); refine Args_plain ?_; refine A_cons ?_; (refine' E_name ?hv62 ?_; (case hv62 => exact rfl)); refine A_cons ?_; (refine' E_name ?hv63 ?_; (case hv63 => exact rfl)); refine A_cons ?_; (refine' E_name ?hv64 ?_; (case hv64 => exact rfl)); refine A_nil ?_)
      refine WC.of (told_c (by (with_reducible assumption)) (by (exact Gd.le (by with_reducible assumption) rfl)) hok1 hm2 hl0 hl30 hs0 hs1 (by omega) ?_)
      (refine A_tup rfl ?_; refine Al_cons ?_; refine A_name (by exact .inl ⟨rfl, .head _⟩) ?_; dsimp only; refine Al_cons ?_; refine A_name (by exact .inl ⟨rfl, .head _⟩) ?_; dsimp only; refine Al_nil ?_; refine Then_next ?_; refine S_cons ?_; refine S_assign (by exact .inl ⟨rfl, .head _⟩) ?_; refine E_bin ?_; refine E_int ?_; refine E_bin ?_; (refine' E_name ?hv65 ?_; (case hv65 => exact rfl)); refine E_int ?_; refine O_mod (by decide) ?_; refine O_add ?_; dsimp only; refine Then_next ?_; refine S_cons ?_; refine S_if ?_; refine T_or ?_; refine T_not ?_; refine T_val ?_; refine E_call ?_; dsimp only; (refine' E_global ?hk66 ?e66 ?_; (case hk66 => exact rfl); (case e66 => (try dsimp only); k_is)); (refine' C_raw (keeper_fn ?a67) ?_; (case a67 => (try dsimp only); k_is)); refine Args_plain ?_; refine A_cons ?_; (refine' E_name ?hv68 ?_; (case hv68 => exact rfl)); refine A_cons ?_; refine E_bin ?_; refine E_int ?_; (refine' E_name ?hv69 ?_; (case hv69 => exact rfl)); refine O_add ?_; refine A_cons ?_; (refine' E_name ?hv70 ?_; (case hv70 => exact rfl)); refine A_nil ?_)
      refine refused_c (by (with_reducible assumption)) (by (exact Gd.le (by with_reducible assumption) rfl)) hA2 hE2 hE3 (by omega) ?_
      (refine Tr_bool ?_; rw [if_pos rfl]; rw [if_neg (by decide)]; refine T_or ?_; refine T_not ?_; refine T_val ?_; refine E_call ?_; dsimp only; (refine' E_global ?hk71 ?e71 ?_; (case hk71 => exact rfl); (case e71 => (try dsimp only); k_is)); (refine' C_raw (keeper_fn ?a72) ?_; (case a72 => (try dsimp only); k_is)); refine Args_plain ?_; refine A_cons ?_; (refine' E_name ?hv73 ?_; (case hv73 => exact rfl)); refine A_cons ?_; refine E_bin ?_; refine E_int ?_; (refine' E_name ?hv74 ?_; (case hv74 => exact rfl)); refine O_sub ?_; refine A_cons ?_; (refine' E_name ?hv75 ?_; (case hv75 => exact rfl)); refine A_nil ?_)
      refine refused_c (by (with_reducible assumption)) (by (exact Gd.le (by with_reducible assumption) rfl)) hA2 hE2 hE3 (by omega) ?_
      (refine Tr_bool ?_; rw [if_pos rfl]; rw [if_neg (by decide)]; refine T_or_nil ?_; rw [if_neg (by decide)]; refine S_nil ?_; refine Then_next ?_; refine S_cons ?_; refine S_if ?_; refine T_or ?_; refine T_not ?_; refine T_val ?_; refine E_call ?_; dsimp only; (refine' E_global ?hk76 ?e76 ?_; (case hk76 => exact rfl); (case e76 => (try dsimp only); k_is)); (refine' C_raw (keeper_fn ?a77) ?_; (case a77 => (try dsimp only); k_is)); refine Args_plain ?_; refine A_cons ?_; (refine' E_name ?hv78 ?_; (case hv78 => exact rfl)); refine A_cons ?_; (refine' E_name ?hv79 ?_; (case hv79 => exact rfl)); refine A_cons ?_; refine E_bin ?_; refine E_int ?_; (refine' E_name ?hv80 ?_; (case hv80 => exact rfl)); refine O_add ?_; refine A_nil ?_)
      refine refused_c (by (with_reducible assumption)) (by (exact Gd.le (by with_reducible assumption) rfl)) hA2 hE2 hE3 (by omega) ?_
      (refine Tr_bool ?_; rw [if_pos rfl]; rw [if_neg (by decide)]; refine T_or ?_; refine T_not ?_; refine T_val ?_; refine E_call ?_; dsimp only; (refine' E_global ?hk81 ?e81 ?_; (case hk81 => exact rfl); (case e81 => (try dsimp only); k_is)); (refine' C_raw (keeper_fn ?a82) ?_; (case a82 => (try dsimp only); k_is)); refine Args_plain ?_; refine A_cons ?_; (refine' E_name ?hv83 ?_; (case hv83 => exact rfl)); refine A_cons ?_; (refine' E_name ?hv84 ?_; (case hv84 => exact rfl)); refine A_cons ?_; refine E_bin ?_; refine E_int ?_; (refine' E_name ?hv85 ?_; (case hv85 => exact rfl)); refine O_sub ?_; refine A_nil ?_)
      refine refused_c (by (with_reducible assumption)) (by (exact Gd.le (by with_reducible assumption) rfl)) hA2 hE2 hE3 (by omega) ?_
      (refine Tr_bool ?_; rw [if_pos rfl]; rw [if_neg (by decide)]; refine T_or_nil ?_; rw [if_neg (by decide)]; refine S_nil ?_; refine Then_next ?_; refine S_cons ?_; refine S_assign (by exact .inl ⟨rfl, .head _⟩) ?_; refine E_meth ?_; dsimp only; (refine' E_name ?hv86 ?_; (case hv86 => exact rfl)); refine' M_fn ?hi87 ?a87 ?b87 ?c87 ?d87 ?e87 ?_; (case hi87 => exact .inl rfl); (case a87 => (try dsimp only); k_is); (case b87 => (try dsimp only); k_is); (case c87 => (try dsimp only); k_is); (case d87 => (try dsimp only); k_is); (case e87 => decide); refine Args_plain ?_; refine A_cons ?_; (refine' E_name ?hv88 ?_; (case hv88 => exact rfl)); refine A_cons ?_; (refine' E_name ?hv89 ?_; (case hv89 => exact rfl)); refine A_nil ?_)
      refine WC.of (denorm_c (by (with_reducible assumption)) (by (exact Gd.le (by with_reducible assumption) rfl)) rfl hok1 hl0 hl30 hs0 hs1 (by omega) ?_)
      (refine Then_next ?_; dsimp only; refine S_cons ?_; refine S_if ?_; refine T_or ?_; refine T_cmp ?_)
      refine' E_mapF (X₁ := ⟨(561, tabM) :: [], [((Str.ofString "told"), .lst (cellsV (dnl least step C₁))), ((Str.ofString "far"), .int (1 + num.fmod 7)), ((Str.ofString "levels"), .ints ((dnl least step C₁).map fun c => 30 - (c.u : Int))), ((Str.ofString "numbers"), .ints ((dnl least step C₁).map Cel.id)), ((Str.ofString "step"), .int step), ((Str.ofString "least"), .int least), ((Str.ofString "number"), .int num), ((Str.ofString "deepest"), .int (30 - (e0.u : Int))), ((Str.ofString "cells"), .prs (C₁.map lsz)), ((Str.ofString "union"), .uni C₁), ((Str.ofString "made"), .lst (md.map .way)), ((Str.ofString "base"), .way b), ((Str.ofString "first"), .int first), ((Str.ofString "script"), .ints xs)]⟩) (xs := cellsV (dnl least step C₁)) (ys := ((dnl least step C₁).map Cel.id).map .int) [] ?i4 ?len4 ?z4 (fun p h => nomatch h) ?ifs4 ?item4 ?q4 ?nd4 ?free4 ?cell4 ?kind4 ?names4 ?as4 ?f4
      case nd4 => decide
      case free4 => exact freeOk rfl
      case cell4 => decide
      case kind4 => rfl
      case names4 => decide
      case as4 => rfl
      case f4 => intro x; rfl
      case ifs4 => rfl
      case i4 =>
        ((refine' E_name ?hv90 ?_; (case hv90 => exact rfl)); dsimp only)
        exact I_lst ⟨rfl, rfl, rfl⟩
      case len4 => simp
      case z4 => rw [List.length_map]; omega
      case item4 =>
        intro C D i x y okC hx hy
        obtain ⟨e, he, rfl⟩ := cel_at hx
        rw [List.getElem?_map, List.getElem?_map, he] at hy
        cases hy
        have hoke := hdok e (List.mem_of_getElem? he)
        dsimp only [Cx.block]
        (refine A_name (by exact .inl ⟨rfl, .head _⟩) ?_; dsimp only; refine E_meth ?_; dsimp only; (refine' E_name ?hv91 ?_; (case hv91 => exact rfl)); refine' M_fn ?hi92 ?a92 ?b92 ?c92 ?d92 ?e92 ?_; (case hi92 => exact .inl rfl); (case a92 => (try dsimp only); k_is); (case b92 => (try dsimp only); k_is); (case c92 => (try dsimp only); k_is); (case d92 => (try dsimp only); k_is); (case e92 => decide); refine Args_plain ?_; refine A_nil ?_; refine WC.of (id_c (by exact ⟨rfl, rfl, by assumption, by assumption⟩) (by exact Gd.le (by with_reducible assumption) rfl)  ?_); dsimp only)
        exact ⟨rfl, rfl, fun p h => nomatch h⟩
      ((refine' E_name ?hv93 ?_; (case hv93 => exact rfl)))
      refine O_neInts (by (exact Gd.le (by with_reducible assumption) rfl)) ?_
      rw [decide_eq_true rfl]
      (refine Tr_bool ?_; rw [if_pos rfl]; rw [if_neg (by decide)]; refine T_or ?_; refine T_cmp ?_)
      refine' E_mapF (X₁ := ⟨(561, tabM) :: [], [((Str.ofString "told"), .lst (cellsV (dnl least step C₁))), ((Str.ofString "far"), .int (1 + num.fmod 7)), ((Str.ofString "levels"), .ints ((dnl least step C₁).map fun c => 30 - (c.u : Int))), ((Str.ofString "numbers"), .ints ((dnl least step C₁).map Cel.id)), ((Str.ofString "step"), .int step), ((Str.ofString "least"), .int least), ((Str.ofString "number"), .int num), ((Str.ofString "deepest"), .int (30 - (e0.u : Int))), ((Str.ofString "cells"), .prs (C₁.map lsz)), ((Str.ofString "union"), .uni C₁), ((Str.ofString "made"), .lst (md.map .way)), ((Str.ofString "base"), .way b), ((Str.ofString "first"), .int first), ((Str.ofString "script"), .ints xs)]⟩) (xs := cellsV (dnl least step C₁)) (ys := ((dnl least step C₁).map fun c => 30 - (c.u : Int)).map .int) [] ?i5 ?len5 ?z5 (fun p h => nomatch h) ?ifs5 ?item5 ?q5 ?nd5 ?free5 ?cell5 ?kind5 ?names5 ?as5 ?f5
      case nd5 => decide
      case free5 => exact freeOk rfl
      case cell5 => decide
      case kind5 => rfl
      case names5 => decide
      case as5 => rfl
      case f5 => intro x; rfl
      case ifs5 => rfl
      case i5 =>
        ((refine' E_name ?hv94 ?_; (case hv94 => exact rfl)); dsimp only)
        exact I_lst ⟨rfl, rfl, rfl⟩
      case len5 => simp
      case z5 => rw [List.length_map]; omega
      case item5 =>
        intro C D i x y okC hx hy
        obtain ⟨e, he, rfl⟩ := cel_at hx
        rw [List.getElem?_map, List.getElem?_map, he] at hy
        cases hy
        have hoke := hdok e (List.mem_of_getElem? he)
        dsimp only [Cx.block]
        (refine A_name (by exact .inl ⟨rfl, .head _⟩) ?_; dsimp only; refine E_meth ?_; dsimp only; (refine' E_name ?hv95 ?_; (case hv95 => exact rfl)); refine' M_fn ?hi96 ?a96 ?b96 ?c96 ?d96 ?e96 ?_; (case hi96 => exact .inl rfl); (case a96 => (try dsimp only); k_is); (case b96 => (try dsimp only); k_is); (case c96 => (try dsimp only); k_is); (case d96 => (try dsimp only); k_is); (case e96 => decide); refine Args_plain ?_; refine A_nil ?_; refine WC.of (level_c (by exact ⟨rfl, rfl, by assumption, by assumption⟩) (by exact Gd.le (by with_reducible assumption) rfl) (by with_reducible assumption) ?_); dsimp only)
        exact ⟨rfl, rfl, fun p h => nomatch h⟩
      ((refine' E_name ?hv97 ?_; (case hv97 => exact rfl)))
      refine O_neInts (by (exact Gd.le (by with_reducible assumption) rfl)) ?_
      rw [decide_eq_true rfl]
      (refine Tr_bool ?_; rw [if_pos rfl]; rw [if_neg (by decide)]; refine T_or_nil ?_; rw [if_neg (by decide)]; refine S_nil ?_; refine Then_next ?_; refine S_cons ?_; refine S_if ?_; refine T_cmp ?_)
      refine' E_mapF (X₁ := ⟨(561, tabM) :: [], [((Str.ofString "told"), .lst (cellsV (dnl least step C₁))), ((Str.ofString "far"), .int (1 + num.fmod 7)), ((Str.ofString "levels"), .ints ((dnl least step C₁).map fun c => 30 - (c.u : Int))), ((Str.ofString "numbers"), .ints ((dnl least step C₁).map Cel.id)), ((Str.ofString "step"), .int step), ((Str.ofString "least"), .int least), ((Str.ofString "number"), .int num), ((Str.ofString "deepest"), .int (30 - (e0.u : Int))), ((Str.ofString "cells"), .prs (C₁.map lsz)), ((Str.ofString "union"), .uni C₁), ((Str.ofString "made"), .lst (md.map .way)), ((Str.ofString "base"), .way b), ((Str.ofString "first"), .int first), ((Str.ofString "script"), .ints xs)]⟩) (xs := cellsV C₁) (ys := (C₁.map Cel.id).map .int) [] ?i6 ?len6 ?z6 (fun p h => nomatch h) ?ifs6 ?item6 ?q6 ?nd6 ?free6 ?cell6 ?kind6 ?names6 ?as6 ?f6
      case nd6 => decide
      case free6 => exact freeOk rfl
      case cell6 => decide
      case kind6 => rfl
      case names6 => decide
      case as6 => rfl
      case f6 => intro x; rfl
      case ifs6 => rfl
      case i6 =>
        (refine E_meth ?_; dsimp only; (refine' E_name ?hv98 ?_; (case hv98 => exact rfl)); refine' M_fn ?hi99 ?a99 ?b99 ?c99 ?d99 ?e99 ?_; (case hi99 => exact .inl rfl); (case a99 => (try dsimp only); k_is); (case b99 => (try dsimp only); k_is); (case c99 => (try dsimp only); k_is); (case d99 => (try dsimp only); k_is); (case e99 => decide); refine Args_plain ?_; refine A_nil ?_)
        refine WC.of (cellids_c (by (with_reducible assumption)) (by (exact Gd.le (by with_reducible assumption) rfl)) ?_)
        exact I_lst ⟨rfl, rfl, rfl⟩
      case len6 => simp
      case z6 => rw [List.length_map]; omega
      case item6 =>
        intro C D i x y okC hx hy
        obtain ⟨e, he, rfl⟩ := cel_at hx
        rw [List.getElem?_map, List.getElem?_map, he] at hy
        cases hy
        have hoke := hok1 e (List.mem_of_getElem? he)
        dsimp only [Cx.block]
        (refine A_name (by exact .inl ⟨rfl, .head _⟩) ?_; dsimp only; refine E_meth ?_; dsimp only; (refine' E_name ?hv100 ?_; (case hv100 => exact rfl)); refine' M_fn ?hi101 ?a101 ?b101 ?c101 ?d101 ?e101 ?_; (case hi101 => exact .inl rfl); (case a101 => (try dsimp only); k_is); (case b101 => (try dsimp only); k_is); (case c101 => (try dsimp only); k_is); (case d101 => (try dsimp only); k_is); (case e101 => decide); refine Args_plain ?_; refine A_nil ?_; refine WC.of (id_c (by exact ⟨rfl, rfl, by assumption, by assumption⟩) (by exact Gd.le (by with_reducible assumption) rfl)  ?_); dsimp only)
        exact ⟨rfl, rfl, fun p h => nomatch h⟩
      skip
      refine' E_mapF (X₁ := ⟨(561, tabM) :: [], [((Str.ofString "told"), .lst (cellsV (dnl least step C₁))), ((Str.ofString "far"), .int (1 + num.fmod 7)), ((Str.ofString "levels"), .ints ((dnl least step C₁).map fun c => 30 - (c.u : Int))), ((Str.ofString "numbers"), .ints ((dnl least step C₁).map Cel.id)), ((Str.ofString "step"), .int step), ((Str.ofString "least"), .int least), ((Str.ofString "number"), .int num), ((Str.ofString "deepest"), .int (30 - (e0.u : Int))), ((Str.ofString "cells"), .prs (C₁.map lsz)), ((Str.ofString "union"), .uni C₁), ((Str.ofString "made"), .lst (md.map .way)), ((Str.ofString "base"), .way b), ((Str.ofString "first"), .int first), ((Str.ofString "script"), .ints xs)]⟩) (xs := (C₁.map lsz).map .pr) (ys := (C₁.map Cel.id).map .int) [] ?i7 ?len7 ?z7 (fun p h => nomatch h) ?ifs7 ?item7 ?q7 ?nd7 ?free7 ?cell7 ?kind7 ?names7 ?as7 ?f7
      case nd7 => decide
      case free7 => exact freeOk rfl
      case cell7 => decide
      case kind7 => rfl
      case names7 => decide
      case as7 => rfl
      case f7 => intro x; rfl
      case ifs7 => rfl
      case i7 =>
        ((refine' E_name ?hv102 ?_; (case hv102 => exact rfl)); dsimp only)
        exact I_lst ⟨rfl, rfl, rfl⟩
      case len7 => simp
      case z7 => rw [List.length_map, List.length_map]; omega
      case item7 =>
        intro C D i x y okC hx hy
        obtain ⟨e, he, rfl⟩ := lsz_at hx
        rw [List.getElem?_map, List.getElem?_map, he] at hy
        cases hy
        dsimp only [Cx.block]
        (refine A_tup rfl ?_; refine Al_cons ?_; refine A_name (by exact .inl ⟨rfl, .head _⟩) ?_; dsimp only; refine Al_cons ?_; refine A_name (by exact .inl ⟨rfl, .head _⟩) ?_; dsimp only; refine Al_nil ?_; refine E_bin ?_; refine E_bin ?_; refine E_int ?_; (refine' E_name ?hv103 ?_; (case hv103 => exact rfl)); refine O_mul (by omega) ?_; (refine' E_name ?hv104 ?_; (case hv104 => exact rfl)); refine O_add ?_; dsimp only)
        exact ⟨congrArg AV.int (lo_id e), rfl, fun p h => nomatch h⟩
      skip
      refine O_neInts (by (exact Gd.le (by with_reducible assumption) rfl)) ?_
      rw [decide_eq_true rfl]
      (refine Tr_bool ?_; rw [if_neg (by decide)]; refine S_nil ?_; refine Then_next ?_; refine S_last ?_; refine S_return ?_; refine E_cmp ?_; refine E_call ?_; dsimp only; (refine' E_global ?hk105 ?e105 ?_; (case hk105 => exact rfl); (case e105 => (try dsimp only); k_is)); (refine' C_raw (keeper_keep ?a106) ?_; (case a106 => (try dsimp only); k_is)); refine Args_plain ?_; refine A_cons ?_; (refine' E_name ?hv107 ?_; (case hv107 => exact rfl)); refine A_nil ?_)
      refine WC.of (newU_n (by (with_reducible assumption)) (by (exact Gd.le (by with_reducible assumption) rfl)) hdok (by omega) fun es hp hs => ?_)
      rw [told_again hl0 hl30 hs0 hs1 hC hp hs]
      ((refine' E_name ?hv108 ?_; (case hv108 => exact rfl)))
      refine' O_cmp ?ghi ?ghj ?gha ?ghb ?ghd (fun _ _ => rfl) ?_
      case ghi => exact .inl rfl
      case ghj => exact .inl rfl
      case gha => ((try dsimp only); k_is)
      case ghb => ((try dsimp only); k_is)
      case ghd => ((try dsimp only); k_is)
      refine ueq_c (by (with_reducible assumption)) (by (exact Gd.le (by with_reducible assumption) rfl)) ⟨_, rfl, ?_⟩
      exact ⟨congrArg AV.bool (decide_eq_true rfl), .head _⟩
end Mine
open PySem PySem.W PyProof.Rows PySem.Calls
namespace Mine
theorem callerG : Gd callerA 80 := ⟨rfl, by decide, by decide⟩
end Mine
open Mine in
set_option maxHeartbeats 8000000 in
theorem PySem.Challenge.cw_lp0003_08_holds : PySem.Challenge.rw_lp0003_08.Holds := by
  refine hd8 ?_
  k_fill
  intro w s₀ s₁ mg mb G Y fa o pm cd doc dV kV ho hd hcd hD hmg hg args vals as hpre hlay hrd hwl hlo
  have KX := km_in_of Y
  km_tabs Y
  have V := (Ground.X G).2
  have T := Ground.T G
  km_lay T hmg ho hd cd
  have hfa := mg_of (n := (Str.ofString "law")) (v := .ref 627) KX T.g (by kernel_rfl)
  have hfa2 : fa = 627 := by have := hmg.symm.trans hfa; injection this with this; injection this
  subst hfa2
  clear ho hd hcd hD hmg hfa
  wrow_args hpre hlay hrd hwl hlo
  rename_i xs _ _ _ _ _ _ _ la vs _ hL ra hw1 r0 hI _ hc1 hc2
  have hlen : xs.length < 64 := by omega
  have hla : s₁.heap.get? la = some (seqObj "list" vs.toArray 0) := by
    cases hw1 with
    | list h1 h2 =>
      obtain ⟨o, h3, h4, n, h5⟩ := hL
      rw [h1] at h3
      cases h3
      injection h5 with h5 h6
      rw [h1, ← h5]
  have hne : (561 : Addr) ≠ la := fun q => by
    have := hT8 561 (.head _)
    rw [q, hla] at this
    injection this with this
    injection this with a b c d
    cases a
  refine enter_call (codeAny_mono (law_t (g := ghostOf s₁.heap [(565, 561)]) (S := fun b o => b = la ∧ o = seqObj "list" vs.toArray 0) (xs := xs) (ghost_K hT9 KX (by kernel_rfl)) (ghost_top hT9 T) (ghost_code hT9).1 (hideAll_none _ (.head _)) callerG rfl (fun b o e => of_hideAll _ e) (fun b o e => by rw [e.1, e.2]; exact hla) (.lst' ⟨rfl, rfl⟩ (reps_ints hI)) (TabR.ext ⟨#[], hT8 561 (.head _), trivial, .inl rfl⟩) (fun o e => hne e.1) hlen) fun r s' z => ?_)
  obtain ⟨u, S', U, Y', rfl, e⟩ := z
  exact top_good hT9 e e.q.1 e.q.2 (fun cls => rfl) (by wrow_post) hg
