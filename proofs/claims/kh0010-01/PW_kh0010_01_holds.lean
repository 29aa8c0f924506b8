import PyProof.Rows.All
import Wide.All
import OpenK.AllK
import Wide.FinOn
import PySem.Challenge.RW_kh0010_01
open PySem PySem.W PyProof.Rows
set_option Elab.async false
set_option maxRecDepth 100000
namespace Mine
set_option maxHeartbeats 8000000 in
#guard_msgs (drop all) in
open_top hd for ({ PySem.Challenge.rw_kh0010_01.row with same := some 5 } : OpenRow)
section P_tree
/-! the top's run over a tree of objects: the same run, cheaper for the kernel -/
section
variable {tb : String → Option Builtin} {p : Program} {w : World} {n₀ : Nat} {ann : Option Value}
def topT (tb : String → Option Builtin) (p : Program) (w : World) (n₀ : Nat) (ann : Option Value) : Nat → SharedT → Thread → Option SharedT
  | 0, _, _ => none
  | n + 1, s, t => match through t with
    | true => some s
    | false => match stepOk n₀ ann t with
      | false => none
      | true => match stepT (denote tb) p w s t with
        | some (s', t') => topT tb p w n₀ ann n s' t'
        | none => none
theorem topT_of : ∀ {n : Nat} {s s' : SharedT} {t : Thread}, topT tb p w n₀ ann n s t = some s' → topRun tb p w n₀ ann n s.abs t = some s'.abs
  | 0, _, _, _, h => by cases h
  | n + 1, s, s', t, h => by
    unfold topT at h
    unfold topRun
    cases he : through t with
    | true => rw [he] at h; cases h; rfl
    | false =>
      rw [he] at h
      cases hk : stepOk n₀ ann t with
      | false => rw [hk] at h; cases h
      | true =>
        rw [hk] at h
        cases hs : stepT (denote tb) p w s t with
        | none => rw [hs] at h; cases h
        | some r => obtain ⟨s₂, t₂⟩ := r; rw [hs] at h; dsimp only; rw [stepT_spec hs]; exact topT_of h
end
def grow : List Obj → BT → Nat → Option BT
  | [], t, _ => some t
  | o :: r, t, n => match ((t.ins n o).get n).isSome with
    | true => grow r (t.ins n o) (n + 1)
    | false => none
theorem grow_ok {life : Life} : ∀ {l : List Obj} {t t' : BT} {n : Nat}, grow l t n = some t' → absHeap t' (n + l.length) life = ⟨(absHeap t n life).objs ++ l.toArray, life⟩
  | [], t, t', n, h => by
    cases h
    show absHeap t n life = _
    simp [absHeap]
  | o :: r, t, t', n, h => by
    unfold grow at h
    cases hs : ((t.ins n o).get n).isSome with
    | false => rw [hs] at h; cases h
    | true =>
      rw [hs] at h
      have e := grow_ok (life := life) h
      rw [absHeap_ins hs] at e
      rw [show n + (o :: r).length = n + 1 + r.length by simp only [List.length_cons]; omega, e]
      show Heap.mk _ _ = Heap.mk _ _
      congr 1
      show ((absHeap t n life).objs.push o) ++ r.toArray = _
      simp
theorem grow_all {hp : Heap} {t : BT} (h : grow hp.objs.toList .nil 0 = some t) : absHeap t hp.objs.size hp.life = hp := by
  have e := grow_ok (life := hp.life) h
  rw [Nat.zero_add, Array.length_toList] at e
  rw [e]
  obtain ⟨o, l⟩ := hp
  show Heap.mk _ _ = Heap.mk _ _
  congr 1
  simp [absHeap, BT.list]
theorem left_of {p q : Program} {loose : List Str} {Xt : Shared → Bool} {α : Type} {Yf : Shared → α} {Ya : World → α} {N : Nat}
    (h : ∀ w : World, (fencedOpening treeTable p w N).map (fun s₀ => (s₀.heap.isNs mainGlobals && s₀.gens.size == 0, (grow s₀.heap.objs.toList .nil 0).map fun T =>
      (topT treeTable p w s₀.heap.objs.size (s₀.heap.nsMap mainGlobals "__annotations__") N ⟨T, s₀.heap.objs.size, s₀.heap.life, s₀.gens, s₀.drawn, s₀.toks, s₀.os⟩ (topStub p)).map fun r =>
        (staticsOk (importedModules p.main.body) s₀.heap r.abs.heap && namesBound p r.abs.heap && gensDone r.abs && laidKept s₀.heap r.abs.heap, openSeen q loose (importedModules p.main.body) Xt true r.abs, Yf r.abs))) =
      some (true, some (some (true, openGood q loose, Ya w)))) : LeftO p q loose Xt Yf Ya N := fun w => by
  obtain ⟨s₀, e, e'⟩ := Option.map_eq_some_iff.mp (h w)
  obtain ⟨z1, z2⟩ := Prod.mk.inj e'
  obtain ⟨T, hT, z3⟩ := Option.map_eq_some_iff.mp z2
  obtain ⟨r, hr, z4⟩ := Option.map_eq_some_iff.mp z3
  obtain ⟨l1, l2⟩ := Prod.mk.inj z4
  obtain ⟨l3, l4⟩ := Prod.mk.inj l2
  have run := topT_of hr
  have ab : SharedT.abs ⟨T, s₀.heap.objs.size, s₀.heap.life, s₀.gens, s₀.drawn, s₀.toks, s₀.os⟩ = s₀ := by
    show Shared.mk (absHeap T s₀.heap.objs.size s₀.heap.life) _ _ _ _ = s₀
    rw [grow_all hT]
  rw [ab] at run
  have t : topFrom treeTable p w N s₀ = some r.abs := by
    unfold topFrom
    rw [z1, run]
    show (match staticsOk (importedModules p.main.body) s₀.heap r.abs.heap && namesBound p r.abs.heap && gensDone r.abs && laidKept s₀.heap r.abs.heap with | true => _ | false => _) = _
    rw [l1]
  unfold openEnds
  rw [e]
  show (topFrom treeTable p w N s₀).map _ = _
  rw [t]
  exact congrArg some (Prod.ext l3 l4)
end P_tree
theorem as_ok (P : Params) : [2, 3, 15, 17, 18, 20, 21, 22, 24, 25, 27, 28, 36, 38, 39, 41, 42, 43, 45, 46, 48, 49, 50, 52, 53, 55, 56, 57, 59, 60, 62, 63, 64, 66, 67, 69, 70, 71, 73, 74, 76, 77, 78, 80, 81, 83, 84, 85, 87, 88, 90, 91, 92, 94, 95, 97, 98, 99, 101, 102, 104, 105, 106, 108, 109, 111, 112, 113, 115, 116, 118, 119, 120, 122, 123, 125, 126, 127, 129, 130, 132, 133, 134, 136, 137, 139, 140, 141, 143, 144, 146, 147, 148, 150, 151, 153, 154, 155, 157, 158, 160, 161, 162, 163, 165, 166, 168, 169, 170, 172, 173, 175, 176, 177, 179, 180, 182, 183, 184, 185, 186, 187, 188, 198, 200, 201, 203, 204, 205, 207, 208, 210, 211, 212, 214, 215, 217, 218, 219, 221, 222, 224, 225, 226, 228, 229, 231, 232, 233, 235, 236, 238, 239, 240, 242, 243, 245, 246, 247, 249, 250, 252, 253, 254, 256, 257, 259, 260, 261, 263, 264, 266, 267, 268, 270, 271, 273, 274, 275, 277, 278, 280, 281, 282, 284, 285, 287, 288, 289, 291, 292, 294, 295, 296, 298, 299, 301, 302, 303, 305, 306, 308, 309, 310, 312, 313, 315, 316, 317, 319, 320, 322, 323, 324, 326, 327, 329, 330, 331, 332, 333, 334, 335, 338, 340, 341, 343, 344, 345, 347, 348, 350, 351, 352, 354, 355, 357, 358, 359, 361, 362, 364, 365, 366, 368, 369, 371, 372, 373, 376, 377] = (Mine.hd.heap_1 P).map (·.1) := by kernel_rfl
noncomputable abbrev hk : Hook := kHook Mine.hd.heap_1 [2, 3, 15, 17, 18, 20, 21, 22, 24, 25, 27, 28, 36, 38, 39, 41, 42, 43, 45, 46, 48, 49, 50, 52, 53, 55, 56, 57, 59, 60, 62, 63, 64, 66, 67, 69, 70, 71, 73, 74, 76, 77, 78, 80, 81, 83, 84, 85, 87, 88, 90, 91, 92, 94, 95, 97, 98, 99, 101, 102, 104, 105, 106, 108, 109, 111, 112, 113, 115, 116, 118, 119, 120, 122, 123, 125, 126, 127, 129, 130, 132, 133, 134, 136, 137, 139, 140, 141, 143, 144, 146, 147, 148, 150, 151, 153, 154, 155, 157, 158, 160, 161, 162, 163, 165, 166, 168, 169, 170, 172, 173, 175, 176, 177, 179, 180, 182, 183, 184, 185, 186, 187, 188, 198, 200, 201, 203, 204, 205, 207, 208, 210, 211, 212, 214, 215, 217, 218, 219, 221, 222, 224, 225, 226, 228, 229, 231, 232, 233, 235, 236, 238, 239, 240, 242, 243, 245, 246, 247, 249, 250, 252, 253, 254, 256, 257, 259, 260, 261, 263, 264, 266, 267, 268, 270, 271, 273, 274, 275, 277, 278, 280, 281, 282, 284, 285, 287, 288, 289, 291, 292, 294, 295, 296, 298, 299, 301, 302, 303, 305, 306, 308, 309, 310, 312, 313, 315, 316, 317, 319, 320, 322, 323, 324, 326, 327, 329, 330, 331, 332, 333, 334, 335, 338, 340, 341, 343, 344, 345, 347, 348, 350, 351, 352, 354, 355, 357, 358, 359, 361, 362, 364, 365, 366, 368, 369, 371, 372, 373, 376, 377] as_ok
set_option maxHeartbeats 8000000 in
theorem top_run : LeftO PySem.Challenge.rw_kh0010_01.row.prog Mine.hd.view_1 [Str.ofString "FQ", Str.ofString "FQ_optimized_field_elements", Str.ofString "FQ_field_elements"] (fun s => xlAt Mine.hd.view_1 [] s && recOk (RowW.records PySem.Challenge.rw_kh0010_01.row.toRowW) s) hk.obs hk.val 4206 := by
  refine left_of fun w => ?_
  kernel_rfl
section P_M0
/-! the plain law: no program in sight -/
theorem fd_em {a b : Int} (h : 0 < b) : a - b * a.fdiv b = a % b := by
  rw [Int.fdiv_eq_ediv_of_nonneg a (by omega), Int.emod_def]

def InvI (a n lm hm low high : Int) : Prop :=
  0 ≤ low ∧ low < high ∧ 2 ≤ high ∧ high ≤ n ∧ n ∣ (lm * a - low) ∧ n ∣ (hm * a - high) ∧ Int.gcd low high = Int.gcd a n ∧
  ((0 ≤ lm ∧ hm ≤ 0 ∧ lm * high - hm * low = n) ∨ (lm ≤ 0 ∧ 0 ≤ hm ∧ hm * low - lm * high = n))
theorem inv_init {a n : Int} (h0 : 0 ≤ a) (h1 : a < n) (h2 : 2 ≤ n) : InvI a n 1 0 a n :=
  ⟨h0, h1, h2, Int.le_refl n, ⟨0, by omega⟩, ⟨-1, by omega⟩, rfl, .inl ⟨by omega, by omega, by omega⟩⟩
theorem inv_step {a n lm hm low high : Int} (h : InvI a n lm hm low high) (hl : 1 < low) : InvI a n (hm - lm * high.fdiv low) lm (high - low * high.fdiv low) low := by
  obtain ⟨h1, h2, h3, h4, ⟨p, h5⟩, ⟨q, h6⟩, h7, h8⟩ := h
  have hr0 : 0 ≤ high.fdiv low := by
    rw [Int.fdiv_eq_ediv_of_nonneg high (by omega)]
    exact Int.ediv_nonneg (by omega) (by omega)
  have e : high - low * high.fdiv low = high % low := fd_em (by omega)
  have e0 : 0 ≤ high % low := Int.emod_nonneg _ (by omega)
  have e1 : high % low < low := Int.emod_lt_of_pos _ (by omega)
  have e2 : Int.gcd (high % low) low = Int.gcd low high := by
    rw [Int.gcd_comm low high]
    rw [← e]
    have := Int.gcd_sub_mul_right_left low high (high.fdiv low)
    first | exact this | (rw [Int.mul_comm] ; exact this) | simpa [Int.mul_comm] using this
  generalize high.fdiv low = r at *
  refine ⟨by omega, by omega, by omega, by omega, ⟨q - r * p, ?_⟩, ⟨p, h5⟩, by rw [e, e2, h7], ?_⟩
  · have : (hm - lm * r) * a - (high - low * r) = (hm * a - high) - r * (lm * a - low) := by grind
    rw [this, h5, h6]; grind
  · rcases h8 with ⟨a1, a2, a3⟩ | ⟨a1, a2, a3⟩
    · refine .inr ⟨?_, a1, by grind⟩
      have := Int.mul_nonneg a1 hr0
      omega
    · refine .inl ⟨?_, a1, by grind⟩
      have := Int.mul_nonneg (by omega : 0 ≤ -lm) hr0
      rw [Int.neg_mul] at this
      omega
theorem inv_less {low high : Int} (hl : 1 < low) : (high - low * high.fdiv low).toNat < low.toNat := by
  rw [fd_em (by omega)]
  have := Int.emod_lt_of_pos high (by omega : 0 < low)
  have := Int.emod_nonneg high (by omega : low ≠ 0)
  omega
theorem inv_lm {a n lm hm low high : Int} (h : InvI a n lm hm low high) : lm.natAbs ≤ n.natAbs := by
  obtain ⟨h1, h2, h3, h4, _, _, _, h8⟩ := h
  rcases h8 with ⟨a1, a2, a3⟩ | ⟨a1, a2, a3⟩
  · have x1 : 0 ≤ lm * (high - 1) := Int.mul_nonneg a1 (by omega)
    have x2 : 0 ≤ (-hm) * low := Int.mul_nonneg (by omega) h1
    have : lm ≤ n := by rw [Int.mul_sub] at x1; rw [Int.neg_mul] at x2; omega
    omega
  · have x1 : 0 ≤ (-lm) * (high - 1) := Int.mul_nonneg (by omega) (by omega)
    have x2 : 0 ≤ hm * low := Int.mul_nonneg (by omega) h1
    have : -lm ≤ n := by rw [Int.mul_sub, Int.neg_mul] at x1; omega
    omega
theorem inv_fd {low high n : Int} (h : 1 < low) (h2 : low < high) (h3 : high ≤ n) : (high.fdiv low).natAbs ≤ n.natAbs := by
  rw [Int.fdiv_eq_ediv_of_nonneg high (by omega)]
  have := Int.ediv_nonneg (by omega : 0 ≤ high) (by omega : 0 ≤ low)
  have := Int.ediv_le_self low (by omega : 0 ≤ high)
  omega
/-- what prime_field_inv hands back -/
def InvOf (a n v : Int) : Prop := 0 ≤ v ∧ v < n ∧ (a % n = 0 → v = 0) ∧ (Int.gcd (a % n) n = 1 → (v * a) % n = 1)
theorem inv_zero {a n : Int} (h2 : 2 ≤ n) (h : a.fmod n = 0) : InvOf a n 0 := by
  rw [Int.fmod_eq_emod_of_nonneg a (by omega)] at h
  refine ⟨by omega, by omega, fun _ => rfl, fun hg => ?_⟩
  rw [h, Int.gcd_zero_left] at hg
  omega
theorem inv_done {a n lm hm low high : Int} (h2 : 2 ≤ n) (h : InvI (a.fmod n) n lm hm low high) (hl : low ≤ 1) (hz : a.fmod n ≠ 0) : InvOf a n (lm.fmod n) := by
  rw [Int.fmod_eq_emod_of_nonneg a (by omega)] at h hz
  rw [Int.fmod_eq_emod_of_nonneg lm (by omega)]
  obtain ⟨h1, h3, h4, h5, h6, h7, h8, h9⟩ := h
  refine ⟨Int.emod_nonneg _ (by omega), Int.emod_lt_of_pos _ (by omega), fun e => absurd e hz, fun hg => ?_⟩
  rw [hg] at h8
  have hlow : low = 1 := by
    rcases (by omega : low = 0 ∨ low = 1) with e | e
    · rw [e, Int.gcd_zero_left] at h8; omega
    · exact e
  rw [hlow] at h6
  have e1 : (lm * (a % n)) % n = 1 % n := Int.emod_eq_emod_iff_emod_sub_eq_zero.mpr (Int.emod_eq_zero_of_dvd h6)
  have e2 : (lm % n * a) % n = (lm * (a % n)) % n := by rw [Int.mul_emod, Int.emod_emod, ← Int.mul_emod, Int.mul_emod lm (a % n), Int.emod_emod, ← Int.mul_emod]
  rw [e2, e1]
  exact Int.emod_eq_of_lt (by omega) (by omega)

/-- what _law_divided asks -/
def DivOk (found upper lower md : Int) : Prop := (lower % md = 0 → found = 0) ∧ (Int.gcd (lower % md) md = 1 → 0 ≤ found ∧ found < md ∧ (found * lower - upper) % md = 0)
theorem div_ok {n k md v : Int} (h2 : 2 ≤ md) (h : InvOf k md v) : DivOk ((n * v).fmod md) n k md := by
  obtain ⟨h0, h1, hz, hg⟩ := h
  rw [Int.fmod_eq_emod_of_nonneg _ (by omega)]
  refine ⟨fun e => ?_, fun e => ⟨Int.emod_nonneg _ (by omega), Int.emod_lt_of_pos _ (by omega), ?_⟩⟩
  · rw [hz e, Int.mul_zero]; exact Int.zero_emod _
  · have e1 := hg e
    have e3 : (n * v) % md * k % md = n % md := by
      rw [Int.mul_emod, Int.emod_emod, ← Int.mul_emod, Int.mul_assoc, Int.mul_emod, e1, Int.mul_one, Int.emod_emod]
    exact Int.emod_eq_emod_iff_emod_sub_eq_zero.mp e3
theorem rdiv_ok {n k md v : Int} (h2 : 2 ≤ md) (h : InvOf n md v) : DivOk ((v * k).fmod md) k n md := by
  rw [Int.mul_comm]; exact div_ok h2 h

theorem pow_em (a md : Int) : ∀ k : Nat, ((a % md) ^ k) % md = (a ^ k) % md
  | 0 => by rw [Int.pow_zero, Int.pow_zero]
  | k + 1 => by
    rw [Int.pow_succ, Int.pow_succ, Int.mul_emod, pow_em a md k, Int.emod_emod, ← Int.mul_emod]
theorem pw_sq {n md : Int} (h2 : 2 ≤ md) (k : Nat) : ((n * n).fmod md ^ k).fmod md = (n ^ (2 * k)).fmod md := by
  rw [Int.fmod_eq_emod_of_nonneg _ (by omega), Int.fmod_eq_emod_of_nonneg _ (by omega), Int.fmod_eq_emod_of_nonneg _ (by omega), pow_em, Int.pow_mul, Int.pow_succ, Int.pow_succ, Int.pow_zero, Int.one_mul]
theorem pw_even {n md e : Int} (h2 : 2 ≤ md) (h0 : 0 ≤ e) (he : e.fmod 2 = 0) : ((n * n).fmod md ^ (e.fdiv 2).toNat).fmod md = (n ^ e.toNat).fmod md := by
  rw [Int.fmod_eq_emod_of_nonneg _ (by omega)] at he
  rw [Int.fdiv_eq_ediv_of_nonneg _ (by omega), pw_sq h2, show 2 * (e / 2).toNat = e.toNat by omega]
theorem pw_odd {n md e : Int} (h2 : 2 ≤ md) (h0 : 0 ≤ e) (he : e.fmod 2 ≠ 0) : (((n * n).fmod md ^ (e.fdiv 2).toNat).fmod md * n).fmod md = (n ^ e.toNat).fmod md := by
  rw [Int.fmod_eq_emod_of_nonneg e (by omega)] at he
  rw [Int.fdiv_eq_ediv_of_nonneg e (by omega), pw_sq h2, show e.toNat = 2 * (e / 2).toNat + 1 by omega, Int.pow_succ]
  rw [Int.fmod_eq_emod_of_nonneg _ (by omega), Int.fmod_eq_emod_of_nonneg _ (by omega), Int.fmod_eq_emod_of_nonneg _ (by omega)]
  rw [Int.mul_emod, Int.emod_emod, ← Int.mul_emod]
theorem fdiv_two {e : Int} (h : 2 ≤ e) (hk : e < 4096) : 0 ≤ e.fdiv 2 ∧ e.fdiv 2 < e := by
  rw [Int.fdiv_eq_ediv_of_nonneg _ (by omega)]; omega

theorem shr_bit (e k : Nat) : e >>> k = 2 * (e >>> (k + 1)) + (if e.testBit k then 1 else 0) := by
  have h1 : e >>> (k + 1) = (e >>> k) / 2 := Nat.shiftRight_succ e k
  have h2 : e.testBit k = ((e >>> k) % 2 == 1) := by
    rw [Nat.testBit_eq_decide_div_mod_eq, Nat.shiftRight_eq_div_pow]
    rcases Nat.mod_two_eq_zero_or_one (e / 2 ^ k) with h | h <;> rw [h] <;> rfl
  rw [h1, h2]
  rcases Nat.mod_two_eq_zero_or_one (e >>> k) with h | h <;> rw [h] <;> simp <;> omega
theorem powMod_go (b e m : Nat) : ∀ k : Nat, (List.range k).reverse.foldl (fun p i => if e.testBit i then p * p % m * b % m else p * p % m) (b ^ (e >>> k) % m) = b ^ e % m
  | 0 => rfl
  | k + 1 => by
    rw [List.range_succ, List.reverse_append, List.reverse_singleton, List.singleton_append, List.foldl_cons]
    have h := shr_bit e k
    have e1 : (if e.testBit k = true then b ^ (e >>> (k + 1)) % m * (b ^ (e >>> (k + 1)) % m) % m * b % m else b ^ (e >>> (k + 1)) % m * (b ^ (e >>> (k + 1)) % m) % m) = b ^ (e >>> k) % m := by
      rw [h]
      cases e.testBit k with
      | true => simp only [if_true]; rw [← Nat.mul_mod, Nat.mod_mul_mod, Nat.pow_add, Nat.pow_one, Nat.two_mul, Nat.pow_add]
      | false => simp only [Bool.false_eq_true, if_false]; rw [← Nat.mul_mod, Nat.pow_add, Nat.pow_zero, Nat.mul_one, Nat.two_mul, Nat.pow_add]
    rw [e1]
    exact powMod_go b e m k
theorem pw_half {e : Int} {k : Nat} (h0 : ¬ e = 0) (h1 : ¬ e = 1) (he : 0 ≤ e) (hk : e < 2 ^ (k + 1)) : 0 ≤ e.fdiv 2 ∧ e.fdiv 2 < 2 ^ k := by
  rw [Int.fdiv_eq_ediv_of_nonneg _ (by omega)]
  have : (2 : Int) ^ (k + 1) = 2 * 2 ^ k := by rw [Int.pow_succ, Int.mul_comm]
  omega
def GI (a b h t : Int) : Prop := 0 ≤ h ∧ 0 ≤ t ∧ Int.gcd h t = Int.gcd a b
theorem gi_step {a b h t : Int} (g : GI a b h t) (ht : t ≠ 0) : GI a b t (h.fmod t) := by
  obtain ⟨h0, t0, e⟩ := g
  have tp : 0 < t := by omega
  rw [Int.fmod_eq_emod_of_nonneg h t0]
  refine ⟨t0, Int.emod_nonneg _ ht, ?_⟩
  rw [← e, Int.gcd_comm h t]
  have := Int.gcd_sub_mul_right_right t h (h / t)
  rw [Int.mul_comm] at this
  rw [Int.emod_def]
  exact this
theorem gi_less {h t : Int} (t0 : 0 ≤ t) (ht : t ≠ 0) : (h.fmod t).toNat < t.toNat := by
  rw [Int.fmod_eq_emod_of_nonneg h t0]
  have := Int.emod_lt_of_pos h (by omega : 0 < t)
  have := Int.emod_nonneg h ht
  omega
theorem gi_done {a b h t : Int} (g : GI a b h t) (ht : t = 0) : h = (Int.gcd a b : Int) := by
  obtain ⟨h0, t0, e⟩ := g
  rw [ht, Int.gcd_zero_right] at e
  omega
theorem kdummy : (Mine.hd.heap_1 = Mine.hd.heap_1) ∧ PySem.Challenge.rw_kh0010_01 = PySem.Challenge.rw_kh0010_01 := by
  k_fill
  exact ⟨rfl, rfl⟩

abbrev FQD (P : Params) (t1 t2 t3 t4 : Tok) (md n : Int) : Obj :=
  dictOf [⟨PyData.keyHash P "field_modulus", .str "field_modulus" t1, .int md t2⟩, ⟨PyData.keyHash P "n", .str "n" t3, .int n t4⟩] 2

/-- an int of at most 2 ^ 21 bits -/
def Sm (i : Int) : Prop := Builtin.Int.intBits i ≤ 2097152
theorem mulOk_of {a b : Int} (ha : Sm a) (hb : Sm b) : IntMulOk a b := by
  have h : Builtin.Int.intTooBig (Builtin.Int.intBits a + Builtin.Int.intBits b) = false := by
    unfold Builtin.Int.intTooBig bitsLine
    unfold Sm at ha hb
    exact decide_eq_false (by omega)
  unfold IntMulOk
  rw [h]
  simp
theorem intBits_le {a : Int} {k : Nat} (h : a.natAbs < 2 ^ k) : Builtin.Int.intBits a ≤ k := by
  unfold Builtin.Int.intBits
  split
  · exact Nat.zero_le _
  · rename_i h0
    have h0' : a.natAbs ≠ 0 := by simpa using h0
    have := (Nat.log2_lt h0').mpr h
    omega
theorem natAbs_lt_bits (a : Int) : a.natAbs < 2 ^ Builtin.Int.intBits a := by
  unfold Builtin.Int.intBits
  split
  · rename_i h
    have : a = 0 := by simpa using h
    subst this; decide
  · rename_i h0
    have h0' : a.natAbs ≠ 0 := by simpa using h0
    exact (Nat.log2_lt h0').mp (Nat.lt_succ_self _)
theorem Sm.of_le {a b : Int} (h : a.natAbs ≤ b.natAbs) (hb : Sm b) : Sm a :=
  Nat.le_trans (intBits_le (Nat.lt_of_le_of_lt h (natAbs_lt_bits b))) hb
theorem Sm.of_res {n md : Int} (h : Sm md) (h0 : 0 ≤ n) (h1 : n < md) : Sm n := Sm.of_le (by omega) h
theorem fm_lo {md : Int} (h : 2 ≤ md) (a : Int) : 0 ≤ a.fmod md := Int.fmod_nonneg_of_pos a (by omega)
theorem fm_hi {md : Int} (h : 2 ≤ md) (a : Int) : a.fmod md < md := Int.fmod_lt_of_pos a (by omega)
theorem fm_eq {md : Int} (h : 2 ≤ md) (a : Int) : a.fmod md = a % md := Int.fmod_eq_emod_of_nonneg a (by omega)
theorem fm_fm {md : Int} (h : 2 ≤ md) (a : Int) : (a.fmod md).fmod md = a.fmod md := by
  rw [fm_eq h, fm_eq h, Int.emod_emod]
theorem fm_id {md n : Int} (h0 : 0 ≤ n) (h1 : n < md) : n.fmod md = n := Int.fmod_eq_of_lt h0 h1
theorem fresh_of {news news' : List (Addr × Obj)} {d : Addr} (h : ∀ p ∈ news, p.1 < d) (hs : ∀ p ∈ news', p ∈ news) : ∀ p ∈ news', p.1 < d := fun p hp => h p (hs p hp)
theorem allLt_to {d : Addr} : ∀ {l : List (Addr × Obj)}, AllLt d l → ∀ p ∈ l, p.1 < d
  | [], _, _, hp => nomatch hp
  | _ :: _, h, p, hp => by
    rcases List.mem_cons.mp hp with rfl | hp
    · exact h.1
    · exact allLt_to h.2 p hp
theorem news_show {h₀ h : Heap} {L : Addr} {news : List (Addr × Obj)} {q : Addr × Obj} (N : News h₀ L h news) (hm : q ∈ news) : News h₀ L h (q :: news) := fun p hp => by
  rcases List.mem_cons.mp hp with rfl | hp
  · exact N _ hm
  · exact N p hp
theorem news_sub {h₀ h : Heap} {L : Addr} {news news' : List (Addr × Obj)} (N : News h₀ L h news) (hs : ∀ p ∈ news', p ∈ news) : News h₀ L h news' := fun p hp => N p (hs p hp)
theorem sub2 {a b : Addr × Obj} {l l' : List (Addr × Obj)} (h : ∀ p ∈ l, p ∈ l') (ha : a ∈ l') (hb : b ∈ l') : ∀ p ∈ a :: b :: l, p ∈ l' := fun p hp => by
  rcases List.mem_cons.mp hp with rfl | hp
  · exact ha
  · rcases List.mem_cons.mp hp with rfl | hp
    · exact hb
    · exact h p hp
theorem sub_tail {a : Addr × Obj} {l l' : List (Addr × Obj)} (h : ∀ p ∈ l, p ∈ l') : ∀ p ∈ l, p ∈ a :: l' := fun p hp => .tail _ (h p hp)
theorem sub_refl {l : List (Addr × Obj)} : ∀ p ∈ l, p ∈ l := fun _ hp => hp
theorem news_show2 {h₀ h : Heap} {L : Addr} {l news : List (Addr × Obj)} {q r : Addr × Obj} (N : News h₀ L h news) (hs : ∀ p ∈ l, p ∈ news) (h1 : q ∈ l) (h2 : r ∈ l) : News h₀ L h (q :: r :: news) := news_show (news_show N (hs _ h2)) (.tail _ (hs _ h1))
theorem powMod_is (b e m : Nat) : Builtin.powMod b e m = b ^ e % m := by
  unfold Builtin.powMod
  have h0 : e >>> Builtin.Int.intBits e = 0 := by
    rw [Nat.shiftRight_eq_div_pow]
    have := natAbs_lt_bits (e : Int)
    exact Nat.div_eq_of_lt this
  have := powMod_go b e m (Builtin.Int.intBits e)
  rw [h0, Nat.pow_zero] at this
  exact this
/-- an int of at most 1000 bits -/
def Sk (i : Int) : Prop := Builtin.Int.intBits i ≤ 1000
theorem Sk.sm {i : Int} (h : Sk i) : Sm i := Nat.le_trans h (by decide)
theorem inv_mul1 {a n lm hm low high : Int} (h : InvI a n lm hm low high) (hl : 1 < low) (hS : Sk n) : IntMulOk lm (high.fdiv low) :=
  mulOk_of (Sm.of_le (inv_lm h) hS.sm) (Sm.of_le (inv_fd hl h.2.1 h.2.2.2.1) hS.sm)
theorem inv_mul2 {a n lm hm low high : Int} (h : InvI a n lm hm low high) (hl : 1 < low) (hS : Sk n) : IntMulOk low (high.fdiv low) :=
  mulOk_of (Sm.of_le (by have := h.2.1; have := h.2.2.2.1; omega) hS.sm) (Sm.of_le (inv_fd hl h.2.1 h.2.2.2.1) hS.sm)
theorem inv_py {a n lm hm low high : Int} (h : InvI a n lm hm low high) (hl : 1 < low) (hS : Sk n) : Builtin.divisionGoesByPylong high low = false := by
  refine PyProof.noPylong_of_log2 ?_
  have h1 : low.natAbs < 2 ^ 1000 := Nat.lt_of_le_of_lt (by have := h.2.1; have := h.2.2.2.1; omega : low.natAbs ≤ n.natAbs) (Nat.lt_of_lt_of_le (natAbs_lt_bits n) (Nat.pow_le_pow_right (by decide) hS))
  have h2 := (Nat.log2_lt (by omega : low.natAbs ≠ 0)).mpr h1
  omega
theorem inv_sm {a n v : Int} (h : InvOf a n v) (hS : Sk n) : Sm v := hS.sm.of_res h.1 h.2.1
local macro_rules | `(tactic| k_room) => `(tactic| ((try simp only [depth_under_make, depth_under_kw, depth_in1, depth_deeper, depth_caller, recursionLimit]); omega))
local macro_rules | `(tactic| k_all) => `(tactic| (intro p hp; exact Nat.ne_of_lt ((by assumption : ∀ p ∈ _, p.1 < _) p hp)))
local macro_rules | `(tactic| k_units) => `(tactic| ((try simp only [units_in1, units_deeper, Around.mark_units, units_caller, cLine]); omega))
local macro_rules | `(tactic| mul_fits) => `(tactic| exact mulOk_of (by first | assumption | exact Sm.of_res (by assumption) (by assumption) (by assumption)) (by first | assumption | exact Sm.of_res (by assumption) (by assumption) (by assumption)))
variable {prog : Program} {w : World} {A₀ : Around} {s : Shared} {d u : Nat} {gs : Option (List Code)} {env : Env} {outer : List Env} {base h₀ : Heap} {L : Addr} {m mg mb : Str → Option Value} {p : Program} {loose : List Str} {mean : ExcName → Option Value} {news : List (Addr × Obj)} {R : Result → Shared → Prop} {Q : Value → Shared → Prop} {E : Value → Shared → Prop}
local macro_rules | `(tactic| k_steps) => `(tactic| repeat' (first | (k_unfold; (try dsimp only)) | (dsimp only; k_unfold; (try dsimp only)) | walk1 | (dsimp only; walk1) | (leave1; walk_say "STEP leave1"; try dsimp only) | fail "no step"))
end P_M0
section P_R6
local macro_rules | `(tactic| k_room) => `(tactic| ((try simp only [depth_under_make, depth_under_kw, depth_in1, depth_deeper, depth_caller, recursionLimit]); omega))
local macro_rules | `(tactic| k_all) => `(tactic| (intro p hp; exact Nat.ne_of_lt ((by assumption : ∀ p ∈ _, p.1 < _) p hp)))
local macro_rules | `(tactic| k_units) => `(tactic| ((try simp only [units_in1, units_deeper, Around.mark_units, units_caller, cLine]); omega))
local macro_rules | `(tactic| mul_fits) => `(tactic| exact mulOk_of (by first | assumption | exact Sm.of_res (by assumption) (by assumption) (by assumption)) (by first | assumption | exact Sm.of_res (by assumption) (by assumption) (by assumption)))
variable {prog : Program} {w : World} {A₀ : Around} {s : Shared} {d u : Nat} {gs : Option (List Code)} {env : Env} {outer : List Env} {base h₀ : Heap} {L : Addr} {m mg mb : Str → Option Value} {p : Program} {loose : List Str} {mean : ExcName → Option Value} {news : List (Addr × Obj)} {R : Result → Shared → Prop} {Q : Value → Shared → Prop} {E : Value → Shared → Prop}
local macro_rules | `(tactic| k_steps) => `(tactic| repeat' (first | (k_unfold; (try dsimp only)) | (dsimp only; k_unfold; (try dsimp only)) | walk1 | (dsimp only; walk1) | (leave1; walk_say "STEP leave1"; try dsimp only) | fail "no step"))
section
open PySem.Calls
theorem with_lookup {K : Frag} {a : Addr} {o o' : Obj} {P : Prop} (h : K.lookup a = some o) (h' : K.lookup a = some o') (k : o' = o → P) : P := k (Option.some.inj (h'.symm.trans h))
theorem execs_app {env : Env} : ∀ (l r : List Stmt), execs (l ++ r) env = (execs l env >>= fun f => match f with | .next => execs r env | f => pure f)
  | [], r => rfl
  | a :: l, r => by
    rw [List.cons_append, execs_cons, execs_cons, bind_assoc]
    congr 1
    funext f
    cases f <;> first | exact execs_app l r | rfl
theorem execs_cut {M : Model} {A : Around} {E : Value → Shared → Prop} {env : Env} {s : Shared} {Q : Flow → Shared → Prop} (k : Nat) {b : List Stmt} (h : wpAny M A (execs (b.take k) env) (fun fl s' => match fl with | .next => wpAny M A (execs (b.drop k) env) Q E s' | f => Q f s') E s) : wpAny M A (execs b env) Q E s := by
  rw [← List.take_append_drop k b, execs_app]
  refine wpAny_bind (wpAny_mono h (fun fl s' z => ?_) fun _ _ z => z)
  cases fl <;> first | exact z | exact wpAny_pure z
end
end P_R6
section P_M20
local macro_rules | `(tactic| k_room) => `(tactic| ((try simp only [depth_under_make, depth_under_kw, depth_in1, depth_deeper, depth_caller, recursionLimit]); omega))
local macro_rules | `(tactic| k_all) => `(tactic| (intro p hp; exact Nat.ne_of_lt ((by assumption : ∀ p ∈ _, p.1 < _) p hp)))
local macro_rules | `(tactic| k_units) => `(tactic| ((try simp only [units_in1, units_deeper, Around.mark_units, units_caller, cLine]); omega))
local macro_rules | `(tactic| mul_fits) => `(tactic| exact mulOk_of (by first | assumption | exact Sm.of_res (by assumption) (by assumption) (by assumption)) (by first | assumption | exact Sm.of_res (by assumption) (by assumption) (by assumption)))
variable {prog : Program} {w : World} {A₀ : Around} {s : Shared} {d u : Nat} {gs : Option (List Code)} {env : Env} {outer : List Env} {base h₀ : Heap} {L : Addr} {m mg mb : Str → Option Value} {p : Program} {loose : List Str} {mean : ExcName → Option Value} {news : List (Addr × Obj)} {R : Result → Shared → Prop} {Q : Value → Shared → Prop} {E : Value → Shared → Prop}
local macro_rules | `(tactic| k_steps) => `(tactic| repeat' (first | (k_unfold; (try dsimp only)) | (dsimp only; k_unfold; (try dsimp only)) | walk1 | (dsimp only; walk1) | (leave1; walk_say "STEP leave1"; try dsimp only) | fail "no step"))
theorem dv1 {f u l md : Int} (h2 : 2 ≤ md) (hD : DivOk f u l md) (hz : l.fmod md = 0) : (f == 0) = true := by
  rw [Int.fmod_eq_emod_of_nonneg _ (by omega)] at hz
  simp [hD.1 hz]
theorem dv2 {f u l md : Int} (h2 : 2 ≤ md) (hD : DivOk f u l md) (hg : ((Int.gcd (l.fmod md) md : Nat) : Int) = 1) : 0 ≤ f ∧ f < md ∧ ((f * l - u).fmod md == 0) = true := by
  rw [Int.fmod_eq_emod_of_nonneg _ (by omega)] at hg ⊢
  obtain ⟨a, b, c⟩ := hD.2 (by omega)
  exact ⟨a, b, by simp [c]⟩
theorem fm_lin {n i md : Int} (h2 : 2 ≤ md) : ((n * i).fmod md + i).fmod md = (i * n + i).fmod md := by
  rw [Int.fmod_eq_emod_of_nonneg _ (by omega), Int.fmod_eq_emod_of_nonneg _ (by omega), Int.fmod_eq_emod_of_nonneg _ (by omega), Int.mul_comm, Int.emod_add_emod]
theorem fm_lt {a : Int} {c : Nat} (h : 0 < c) : 0 ≤ a.fmod (c : Int) ∧ a.fmod (c : Int) < (c : Int) := by
  rw [Int.fmod_eq_emod_of_nonneg _ (by omega)]
  exact ⟨Int.emod_nonneg _ (by omega), Int.emod_lt_of_pos _ (by omega)⟩
theorem fm_4096 (a : Int) : 0 ≤ a.fmod 4096 ∧ a.fmod 4096 < 4096 := by
  rw [Int.fmod_eq_emod_of_nonneg _ (by omega)]
  omega
theorem times_abs {a : Int} (h : 0 ≤ a) : (a.fdiv 64 - 40).natAbs ≤ (a + 40).natAbs := by
  rw [Int.fdiv_eq_ediv_of_nonneg _ (by omega)]
  omega
theorem sm_add {a : Int} (h0 : 0 ≤ a) (h : Builtin.Int.intBits a ≤ 1048576) : Sm (a + 40) := by
  refine Nat.le_trans (intBits_le (k := Builtin.Int.intBits a + 7) ?_) (by omega)
  have h1 := natAbs_lt_bits a
  rw [Nat.pow_add]
  have h3 : 1 ≤ 2 ^ Builtin.Int.intBits a := Nat.one_le_two_pow
  generalize 2 ^ Builtin.Int.intBits a = z at *
  omega
theorem sm_times {a : Int} (h0 : 0 ≤ a) (h : Builtin.Int.intBits a ≤ 1048576) : Sm (a.fdiv 64 - 40) := Sm.of_le (times_abs h0) (sm_add h0 h)
abbrev tupO (vs : List Value) : Obj := { cls := .type "tuple", data := .seq vs.toArray }
/-- a row of the law: a tuple of the residue, a plain element, an optimized element -/
def RowIn (P : Params) (md : Int) (news : List (Addr × Obj)) (v : Value) : Prop :=
  ∃ a p dp q dq due td p1 p2 p3 p4 q1 q2 q3 q4, v = .ref a ∧ 0 ≤ due ∧ due < md ∧ (a, tupO [.int due td, .ref p, .ref q]) ∈ news ∧
    (p, instObj 333 dp) ∈ news ∧ (dp, FQD P p1 p2 p3 p4 md due) ∈ news ∧ (q, instObj 186 dq) ∈ news ∧ (dq, FQD P q1 q2 q3 q4 md due) ∈ news
theorem RowIn.mono {P : Params} {md : Int} {news news' : List (Addr × Obj)} {v : Value} (h : RowIn P md news v) (hs : ∀ p ∈ news, p ∈ news') : RowIn P md news' v := by
  obtain ⟨a, p, dp, q, dq, due, td, p1, p2, p3, p4, q1, q2, q3, q4, e, h0, h1, m1, m2, m3, m4, m5⟩ := h
  exact ⟨a, p, dp, q, dq, due, td, p1, p2, p3, p4, q1, q2, q3, q4, e, h0, h1, hs _ m1, hs _ m2, hs _ m3, hs _ m4, hs _ m5⟩
theorem rows_item {prog : Program} {w : World} {A : Around} {E : Value → Shared → Prop} {s : Shared} {h₀ : Heap} {L l : Addr} {news : List (Addr × Obj)} {value slice : PySem.Expr} {vs : Array Value} {n c : Nat} {k md : Int} {u : Tok} {Q : Value → Shared → Prop}
    (N : News h₀ L s.heap news) (hm : (l, listOf vs n) ∈ news) {l0 : List (Addr × Obj)} (hr : ∀ v ∈ vs.toList, RowIn w.params md l0 v) (hsub : ∀ p ∈ l0, p ∈ news) (hc : vs.size = c) (hb : c ≤ 1000) (h0 : 0 ≤ k) (h1 : k < (c : Int))
    (h : ∀ a p dp q dq due td p1 p2 p3 p4 q1 q2 q3 q4, 0 ≤ due → due < md → News h₀ L s.heap ((a, tupO [.int due td, .ref p, .ref q]) :: (p, instObj 333 dp) :: (dp, FQD w.params p1 p2 p3 p4 md due) :: (q, instObj 186 dq) :: (dq, FQD w.params q1 q2 q3 q4 md due) :: news) → Q (.ref a) s)
    (hs : subscripted slice false (.ref l) (.int k u) = operate [.ref l, .int k u] (getItem (.ref l) (.int k u)) := by with_unfolding_all rfl) :
    wpAny (model prog w) A (subscriptTail value slice (.ref l) (.int k u)) Q E s := by
  have hlt : k.toNat < vs.size := by omega
  have hl : s.heap.IsList l vs := News.isList N hm
  obtain ⟨a, p, dp, q, dq, due, td, p1, p2, p3, p4, q1, q2, q3, q4, e, r0, r1, m1, m2, m3, m4, m5⟩ := (hr _ (Array.getElem_mem_toList hlt)).mono hsub
  refine tail_any hl.typeIs slot_list_getitem.lookup (wpAny_getItem_list hl h0 (by omega) (x := .ref a) (by rw [← e]; simp [hlt]) ?_) hs
  exact h a p dp q dq due td p1 p2 p3 p4 q1 q2 q3 q4 r0 r1 (news_show (news_show (news_show (news_show (news_show N m5) (.tail _ m4)) (.tail _ (.tail _ m3))) (.tail _ (.tail _ (.tail _ m2)))) (.tail _ (.tail _ (.tail _ (.tail _ m1)))))
theorem sub1 {a : Addr × Obj} {l l' : List (Addr × Obj)} (h : ∀ p ∈ l, p ∈ l') (ha : a ∈ l') : ∀ p ∈ a :: l, p ∈ l' := fun p hp => by
  rcases List.mem_cons.mp hp with rfl | hp
  · exact ha
  · exact h p hp
theorem sub5 {a b c d e : Addr × Obj} {l l' : List (Addr × Obj)} (h : ∀ p ∈ l, p ∈ l') (ha : a ∈ l') (hb : b ∈ l') (hc : c ∈ l') (hd : d ∈ l') (he : e ∈ l') : ∀ p ∈ a :: b :: c :: d :: e :: l, p ∈ l' :=
  sub1 (sub1 (sub1 (sub1 (sub1 h he) hd) hc) hb) ha
theorem fresh_trans {l : List (Addr × Obj)} {d a : Addr} (h : ∀ x ∈ l, x.1 < d) (hd : @LT.lt Nat _ d a) : ∀ x ∈ l, x.1 < a := fun x hx => Nat.lt_trans (h x hx) hd
end P_M20
section P_S0
local macro_rules | `(tactic| k_room) => `(tactic| ((try simp only [depth_under_make, depth_under_kw, depth_in1, depth_deeper, depth_caller, recursionLimit]); omega))
local macro_rules | `(tactic| k_all) => `(tactic| (intro p hp; exact Nat.ne_of_lt ((by assumption : ∀ p ∈ _, p.1 < _) p hp)))
local macro_rules | `(tactic| k_units) => `(tactic| ((try simp only [units_in1, units_deeper, Around.mark_units, units_caller, cLine]); omega))
local macro_rules | `(tactic| mul_fits) => `(tactic| exact mulOk_of (by first | assumption | exact Sm.of_res (by assumption) (by assumption) (by assumption)) (by first | assumption | exact Sm.of_res (by assumption) (by assumption) (by assumption)))
variable {prog : Program} {w : World} {A₀ : Around} {s : Shared} {d u : Nat} {gs : Option (List Code)} {env : Env} {outer : List Env} {base h₀ : Heap} {L : Addr} {m mg mb : Str → Option Value} {p : Program} {loose : List Str} {mean : ExcName → Option Value} {news : List (Addr × Obj)} {R : Result → Shared → Prop} {Q : Value → Shared → Prop} {E : Value → Shared → Prop}
local macro_rules | `(tactic| k_steps) => `(tactic| repeat' (first | (k_unfold; (try dsimp only)) | (dsimp only; k_unfold; (try dsimp only)) | walk1 | (dsimp only; walk1) | (leave1; walk_say "STEP leave1"; try dsimp only) | fail "no step"))
theorem given_bits {ns : List Int} (hlay : (PyData.list (ns.map PyData.int)).layable0 = true) : ∀ i ∈ List.map (fun k' : Int => if k' < (ns.length : Int) then ns.getD k'.toNat 0 else 29 * k' + 4) (rangeKs 0 (9 - 0 : Int).toNat), Builtin.Int.intBits i ≤ 1048576 := by
  intro i hi
  obtain ⟨k, hk, rfl⟩ := List.mem_map.mp hi
  have e : rangeKs 0 (9 - 0 : Int).toNat = [0, 1, 2, 3, 4, 5, 6, 7, 8] := by decide
  rw [e] at hk
  have hb : 0 ≤ k ∧ k < 9 := by
    simp only [List.mem_cons, List.not_mem_nil, or_false] at hk
    omega
  split
  · rename_i h
    have hlt : k.toNat < ns.length := by omega
    rw [List.getD_eq_getElem?_getD, List.getElem?_eq_getElem hlt]
    exact PyData.bits_item_of_ints hlay (List.getElem_mem hlt)
  · exact Nat.le_trans (intBits_le (k := 20) (by omega)) (by omega)
theorem ints_one {vs : List Value} {a : Int} {gs : List Int} (h : IntsAre vs (a :: gs)) : ∃ t vs', vs = .int a t :: vs' ∧ IntsAre vs' gs := by
  cases h with
  | cons _ _ h' => exact ⟨_, _, rfl, h'⟩
theorem ints9 {vs : List Value} {gs : List Int} (h : IntsAre vs gs) (hl : gs.length = 9) (hb : ∀ i ∈ gs, Builtin.Int.intBits i ≤ 1048576) : ∃ g0 g1 g2 g3 g4 g5 g6 g7 g8 t0 t1 t2 t3 t4 t5 t6 t7 t8,
    vs = [.int g0 t0, .int g1 t1, .int g2 t2, .int g3 t3, .int g4 t4, .int g5 t5, .int g6 t6, .int g7 t7, .int g8 t8] ∧ (∀ i ∈ [g0, g1, g2, g3, g4, g5, g6, g7, g8], Builtin.Int.intBits i ≤ 1048576) := by
  match gs, hl with
  | [g0, g1, g2, g3, g4, g5, g6, g7, g8], _ =>
    obtain ⟨t0, v0, e0, h1⟩ := ints_one h
    obtain ⟨t1, v1, e1, h2⟩ := ints_one h1
    obtain ⟨t2, v2, e2, h3⟩ := ints_one h2
    obtain ⟨t3, v3, e3, h4⟩ := ints_one h3
    obtain ⟨t4, v4, e4, h5⟩ := ints_one h4
    obtain ⟨t5, v5, e5, h6⟩ := ints_one h5
    obtain ⟨t6, v6, e6, h7⟩ := ints_one h6
    obtain ⟨t7, v7, e7, h8⟩ := ints_one h7
    obtain ⟨t8, v8, e8, h9⟩ := ints_one h8
    cases h9
    subst e8 e7 e6 e5 e4 e3 e2 e1 e0
    exact ⟨g0, g1, g2, g3, g4, g5, g6, g7, g8, t0, t1, t2, t3, t4, t5, t6, t7, t8, rfl, hb⟩
theorem pow_30 {prog : Program} {w : World} {A : Around} {E : Value → Shared → Prop} {s : Shared} {t u : Tok} {Q : Value → Shared → Prop} (h : ∀ z : Int, z = 1000000000000000000000000000000 → Q (.int z s.toks) { s with toks := s.toks + 1 }) : wpAny (model prog w) A (binaryOp .Pow (.int 10 t) (.int 30 u)) Q E s :=
  pow_int_small (by decide) (by decide) (by decide) (h _ (by decide))
theorem pow_31 {prog : Program} {w : World} {A : Around} {E : Value → Shared → Prop} {s : Shared} {t u : Tok} {Q : Value → Shared → Prop} (h : ∀ z : Int, z = 10000000000000000000000000000000 → Q (.int z s.toks) { s with toks := s.toks + 1 }) : wpAny (model prog w) A (binaryOp .Pow (.int 10 t) (.int 31 u)) Q E s :=
  pow_int_small (by decide) (by decide) (by decide) (h _ (by decide))
theorem fm_three (x : Int) : 0 ≤ x.fmod 3 ∧ x.fmod 3 < 3 := by
  rw [Int.fmod_eq_emod_of_nonneg _ (by omega)]
  omega
theorem great_ok {x : Int} (h : x.fmod 3 ≠ 2) : 2 ≤ [4002409555221667393417789825735904156556882819939007885332058136124031650490837864442687629129015664037894272559787, 21888242871839275222246405745257275088696311157297823662689037894645226208583].getD (x.fmod 3).toNat (0 : Int) ∧
    Sk ([4002409555221667393417789825735904156556882819939007885332058136124031650490837864442687629129015664037894272559787, 21888242871839275222246405745257275088696311157297823662689037894645226208583].getD (x.fmod 3).toNat (0 : Int)) := by
  obtain ⟨h0, h1⟩ := fm_three x
  rcases (by omega : x.fmod 3 = 0 ∨ x.fmod 3 = 1) with e | e <;> rw [e] <;> exact ⟨by decide +kernel, by unfold Sk; decide +kernel⟩
theorem own_ok {y z : Int} (hz : z = 1000000000000000000000000000000) : 2 ≤ 2 + y.fmod z ∧ Sk (2 + y.fmod z) := by
  have h0 : 0 ≤ y.fmod z := Int.fmod_nonneg_of_pos y (by omega)
  have h1 : y.fmod z < z := Int.fmod_lt_of_pos y (by omega)
  refine ⟨by omega, Nat.le_trans (intBits_le (k := 101) ?_) (by decide)⟩
  have : (2 : Nat) ^ 101 = 2535301200456458802993406410752 := by decide
  omega
theorem news_front {h₀ h : Heap} {L : Addr} (A : List (Addr × Obj)) {B : List (Addr × Obj)} {x : Addr × Obj} (N : News h₀ L h (A ++ x :: B)) : News h₀ L h (x :: (A ++ B)) := fun p hp => N p (by
  rcases List.mem_cons.mp hp with rfl | hp
  · exact List.mem_append_right _ (.head _)
  · rcases List.mem_append.mp hp with hp | hp
    · exact List.mem_append_left _ hp
    · exact List.mem_append_right _ (.tail _ hp))
theorem rows_nil {P : Value → Prop} : ∀ v ∈ (#[] : Array Value).toList, P v := fun v hv => by simp at hv
theorem rows_push {P : Value → Prop} {vs : Array Value} {x : Value} (h : ∀ v ∈ vs.toList, P v) (hx : P x) : ∀ v ∈ (vs.push x).toList, P v := fun v hv => by
  rw [Array.toList_push] at hv
  rcases List.mem_append.mp hv with hv | hv
  · exact h v hv
  · have : v = x := by simpa using hv
    exact this ▸ hx
theorem rows_mono {P : Params} {md : Int} {news news' : List (Addr × Obj)} {vs : Array Value} (h : ∀ v ∈ vs.toList, RowIn P md news v) (hs : ∀ p ∈ news, p ∈ news') : ∀ v ∈ vs.toList, RowIn P md news' v := fun v hv => (h v hv).mono hs
theorem row_in {P : Params} {md due : Int} {news : List (Addr × Obj)} {a p dp q dq : Addr} {td p1 p2 p3 p4 q1 q2 q3 q4 : Tok} (m1 : (a, tupO [.int due td, .ref p, .ref q]) ∈ news) (m2 : (p, instObj 333 dp) ∈ news) (m3 : (dp, FQD P p1 p2 p3 p4 md due) ∈ news)
    (m4 : (q, instObj 186 dq) ∈ news) (m5 : (dq, FQD P q1 q2 q3 q4 md due) ∈ news) (h0 : 0 ≤ due) (h1 : due < md) : RowIn P md news (.ref a) :=
  ⟨a, p, dp, q, dq, due, td, p1, p2, p3, p4, q1, q2, q3, q4, rfl, h0, h1, m1, m2, m3, m4, m5⟩
theorem sub_appR {l l₁ l₂ : List (Addr × Obj)} (h : ∀ p ∈ l, p ∈ l₂) : ∀ p ∈ l, p ∈ l₁ ++ l₂ := fun p hp => List.mem_append_right _ (h p hp)
theorem abs_bits {x : Int} {b : Nat} (h : Builtin.Int.intBits x ≤ b) : Builtin.Int.intBits (if x < 0 then -x else x) ≤ b := by
  split
  · exact Nat.le_trans (intBits_le (k := Builtin.Int.intBits x) (by rw [Int.natAbs_neg]; exact natAbs_lt_bits x)) h
  · exact h
theorem abs_pos' {x : Int} : 0 ≤ (if x < 0 then -x else x) := by split <;> omega
theorem news_perm7 {h₀ h : Heap} {L : Addr} {a b c d e i x : Addr × Obj} {r : List (Addr × Obj)} (N : News h₀ L h (a :: b :: c :: d :: e :: i :: x :: r)) : News h₀ L h (i :: x :: a :: b :: c :: d :: e :: r) :=
  news_sub N (sub1 (sub1 (sub1 (sub1 (sub1 (sub1 (sub1 (sub_tail (sub_tail (sub_tail (sub_tail (sub_tail (sub_tail (sub_tail sub_refl))))))) (by k_mem)) (by k_mem)) (by k_mem)) (by k_mem)) (by k_mem)) (by k_mem)) (by k_mem))
/-- what stands between the turns of the loop that fills the rows -/
def Inv3 (P : Params) (md : Int) (tm : Tok) (g l ls : Addr) (go so : Obj) : List Value → (Str → Option Value) → List (Addr × Obj) → Prop := fun r m news =>
  ∃ vs n rest, news = (l, listOf vs n) :: rest ∧ vs.size + r.length = 7 ∧ 2 ≤ vs.size ∧ (∀ v ∈ vs.toList, RowIn P md rest v) ∧ (∀ p ∈ rest, p.1 ≠ l) ∧ (g, go) ∈ rest ∧ (ls, so) ∈ rest ∧
    m (Str.ofString "rows") = some (.ref l) ∧ m (Str.ofString "given") = some (.ref g) ∧ m (Str.ofString "modulus") = some (.int md tm) ∧ ∀ v ∈ r, ∃ i t, v = .int i t ∧ Builtin.Int.intBits i ≤ 1048576
/-- what stands between the turns of the loop that looks at the rows -/
def Inv4 (P : Params) (md : Int) (tm : Tok) (g l : Addr) (lo : Obj) (rest : List (Addr × Obj)) : List Value → (Str → Option Value) → List (Addr × Obj) → Prop := fun r m news =>
  news = (l, lo) :: rest ∧ m (Str.ofString "rows") = some (.ref l) ∧ m (Str.ofString "given") = some (.ref g) ∧ m (Str.ofString "modulus") = some (.int md tm) ∧ ∀ v ∈ r, RowIn P md rest v
theorem arr7 {vs : Array Value} (h : vs.size = 7) : ∃ v0 v1 v2 v3 v4 v5 v6, vs = #[v0, v1, v2, v3, v4, v5, v6] := by
  obtain ⟨l⟩ := vs
  match l, h with
  | [a, b, c, d, e, f, g], _ => exact ⟨a, b, c, d, e, f, g, rfl⟩
theorem bne_x {b : Bool} (h : (b != b) = true) : False := by cases b <;> exact absurd h (by decide)
theorem noteq_x {b : Bool} (h : ((!b) == b) = true) : False := by cases b <;> exact absurd h (by decide)

set_option maxHeartbeats 8000000 in
theorem stage0 {nm q : Str} {params : Arguments} {body : List Stmt} {scope : Scope} {dV kV doc pm cdv ct oc : Value} {an od : Option Addr} {osl : Array (Option Value)} {fa : Addr} {cd : Value} {wo : Obj} {l : Addr} {vs : List Value} {ns : List Int} {QF : Flow → Shared → Prop} (hlk : (Mine.hd.heap_1 w.params).lookup 377 = some ⟨oc, od, .func (fnOf nm q params body scope dV kV doc pm an cdv ct), osl⟩) (B : Below A₀ h₀ [] h₀) (F : Fr h₀ L s.heap m) (X : (Mine.hd.heap_1 w.params).In h₀) (N : News h₀ L s.heap [(L + 1, wo)]) (T : Top p loose mean mg mb h₀) (hdp : d ≤ 700) (hun : u ≤ 200) (hwo : wo.data = .cell (some (.ref l))) (hl : h₀.IsList l vs.toArray) (hI : IntsAre vs ns) (hlay : (PyData.list (ns.map PyData.int)).layable0 = true)
    (h : ∀ g gv gn gs' h' tk, Fr h₀ L h' (fun y => if y = Str.ofString "given" then some (.ref g) else m y) → News h₀ L h' [(g, listOf gv gn), (L + 1, wo)] → IntsAre gv.toList gs' → gs'.length = 9 → (∀ i ∈ gs', Builtin.Int.intBits i ≤ 1048576) → QF .next { s with heap := h', toks := tk }) :
    wpAny (model prog w) ⟨none, d, some [(envOfC q scope L fa cd)], gs, u⟩ (execs ((body.drop 0).take 1) (envOfC q scope L fa cd)) QF E s := by
  refine' with_lookup hlk ?k ?_
  (case k => k_is)
  intro eqo
  cases eqo
  clear hlk
  simp only [List.drop_succ_cons, List.drop_zero, List.take_succ_cons, List.take_zero]

  k_steps
  rename IntsAre _ _ => q
  rename News _ _ _ _ => qn
  refine h _ _ _ _ _ _ (by k_asm) qn ?_ ?_ (given_bits hlay)
  · exact q
  · rfl
end P_S0
section P_S1
local macro_rules | `(tactic| k_room) => `(tactic| ((try simp only [depth_under_make, depth_under_kw, depth_in1, depth_deeper, depth_caller, recursionLimit]); omega))
local macro_rules | `(tactic| k_all) => `(tactic| (intro p hp; exact Nat.ne_of_lt ((by assumption : ∀ p ∈ _, p.1 < _) p hp)))
local macro_rules | `(tactic| k_units) => `(tactic| ((try simp only [units_in1, units_deeper, Around.mark_units, units_caller, cLine]); omega))
local macro_rules | `(tactic| mul_fits) => `(tactic| exact mulOk_of (by first | assumption | exact Sm.of_res (by assumption) (by assumption) (by assumption)) (by first | assumption | exact Sm.of_res (by assumption) (by assumption) (by assumption)))
variable {prog : Program} {w : World} {A₀ : Around} {s : Shared} {d u : Nat} {gs : Option (List Code)} {env : Env} {outer : List Env} {base h₀ : Heap} {L : Addr} {m mg mb : Str → Option Value} {p : Program} {loose : List Str} {mean : ExcName → Option Value} {news : List (Addr × Obj)} {R : Result → Shared → Prop} {Q : Value → Shared → Prop} {E : Value → Shared → Prop}
local macro_rules | `(tactic| k_steps) => `(tactic| repeat' (first | (k_unfold; (try dsimp only)) | (dsimp only; k_unfold; (try dsimp only)) | walk1 | (dsimp only; walk1) | (leave1; walk_say "STEP leave1"; try dsimp only) | fail "no step"))
local macro_rules | `(tactic| walk_at "eval Name") => `(tactic| (k_here; k_dflt (refine' nameX_L ?F ?v ?_ ?a ?b; (case F => k_asm); (case a => rfl); (case b => rfl); (case v => assumption); k_whole)))
local macro_rules | `(tactic| walk_at "binaryOp Pow int int") => `(tactic| (k_here; first | refine pow_30 ?_ | refine pow_31 ?_); (intro z' hz'))
local macro_rules | `(tactic| walk_at "binaryOp Mod int int") => `(tactic| (k_here; (refine mod_int' (by first | assumption | omega) ?_)))
local macro_rules | `(tactic| k_steps) => `(tactic| repeat' (first | (k_unfold; (try dsimp only)) | (dsimp only; k_unfold; (try dsimp only)) | (walk1; (try dsimp only)) | (dsimp only; walk1) | (leave1; walk_say "STEP leave1"; try dsimp only) | fail "no step"))

set_option maxHeartbeats 800000 in
theorem stage1 {nm q : Str} {params : Arguments} {body : List Stmt} {scope : Scope} {dV kV doc pm cdv ct oc : Value} {an od : Option Addr} {osl : Array (Option Value)} {fa : Addr} {cd : Value} {wo : Obj} {g : Addr} {gn : Nat} {g0 g1 g2 g3 g4 g5 g6 g7 g8 : Int} {t0 t1 t2 t3 t4 t5 t6 t7 t8 : Tok} {QF : Flow → Shared → Prop} (hlk : (Mine.hd.heap_1 w.params).lookup 377 = some ⟨oc, od, .func (fnOf nm q params body scope dV kV doc pm an cdv ct), osl⟩) (B : Below A₀ h₀ [] h₀) (F : Fr h₀ L s.heap m) (X : (Mine.hd.heap_1 w.params).In h₀) (N : News h₀ L s.heap [(g, listOf #[.int g0 t0, .int g1 t1, .int g2 t2, .int g3 t3, .int g4 t4, .int g5 t5, .int g6 t6, .int g7 t7, .int g8 t8] gn), (L + 1, wo)]) (T : Top p loose mean mg mb h₀) (hdp : d ≤ 700) (hun : u ≤ 200) (hg : m (Str.ofString "given") = some (.ref g))
    (h : ∀ md tm h' tk, 2 ≤ md → Sk md → Fr h₀ L h' (fun y => if y = Str.ofString "modulus" then some (.int md tm) else m y) → News h₀ L h' [(g, listOf #[.int g0 t0, .int g1 t1, .int g2 t2, .int g3 t3, .int g4 t4, .int g5 t5, .int g6 t6, .int g7 t7, .int g8 t8] gn), (L + 1, wo)] → QF .next { s with heap := h', toks := tk }) :
    wpAny (model prog w) ⟨none, d, some [(envOfC q scope L fa cd)], gs, u⟩ (execs ((body.drop 1).take 1) (envOfC q scope L fa cd)) QF E s := by
  refine' with_lookup hlk ?k ?_
  (case k => k_is)
  intro eqo
  cases eqo
  clear hlk
  simp only [List.drop_succ_cons, List.drop_zero, List.take_succ_cons, List.take_zero]
  k_steps
  · rename Fr _ _ _ _ => qf
    rename News _ _ _ _ => qn
    refine h _ _ _ _ ?_ ?_ qf (news_sub qn (sub_tail sub_refl))
    · exact (great_ok (by assumption)).1
    · exact (great_ok (by assumption)).2
  · rename Fr _ _ _ _ => qf
    rename News _ _ _ _ => qn
    refine h _ _ _ _ ?_ ?_ qf qn
    · exact (own_ok (by assumption)).1
    · exact (own_ok (by assumption)).2
end P_S1
section P_M1
local macro_rules | `(tactic| k_room) => `(tactic| ((try simp only [depth_under_make, depth_under_kw, depth_in1, depth_deeper, depth_caller, recursionLimit]); omega))
local macro_rules | `(tactic| k_all) => `(tactic| (intro p hp; exact Nat.ne_of_lt ((by assumption : ∀ p ∈ _, p.1 < _) p hp)))
local macro_rules | `(tactic| k_units) => `(tactic| ((try simp only [units_in1, units_deeper, Around.mark_units, units_caller, cLine]); omega))
local macro_rules | `(tactic| mul_fits) => `(tactic| exact mulOk_of (by first | assumption | exact Sm.of_res (by assumption) (by assumption) (by assumption)) (by first | assumption | exact Sm.of_res (by assumption) (by assumption) (by assumption)))
variable {prog : Program} {w : World} {A₀ : Around} {s : Shared} {d u : Nat} {gs : Option (List Code)} {env : Env} {outer : List Env} {base h₀ : Heap} {L : Addr} {m mg mb : Str → Option Value} {p : Program} {loose : List Str} {mean : ExcName → Option Value} {news : List (Addr × Obj)} {R : Result → Shared → Prop} {Q : Value → Shared → Prop} {E : Value → Shared → Prop}
local macro_rules | `(tactic| k_steps) => `(tactic| repeat' (first | (k_unfold; (try dsimp only)) | (dsimp only; k_unfold; (try dsimp only)) | walk1 | (dsimp only; walk1) | (leave1; walk_say "STEP leave1"; try dsimp only) | fail "no step"))

set_option maxHeartbeats 4000000 in
theorem mk_P {v md : Int} {t t' : Tok} (B : Below A₀ base outer h₀) (F : Fr h₀ L s.heap m) (X : (Mine.hd.heap_1 w.params).In h₀) (N : News h₀ L s.heap news) (T : Top p loose mean mg mb h₀) (hf : env.frame = some L) (hke : env.scope.kind = .function) (hdp : d ≤ 990) (hmd : 2 ≤ md)
    (h : ∀ x dx h' t1 t2 t3 t4 tk, Fr h₀ L h' m → News h₀ L h' ((x, instObj 333 dx) :: (dx, FQD w.params t1 t2 t3 t4 md (v.fmod md)) :: news) → (∀ p ∈ news, p.1 < dx) → dx < x → Q (.ref x) { s with heap := h', toks := tk }) :
    wpAny (model prog w) ⟨none, d, some (env :: outer), gs, u⟩ (call (.ref 333) [.int v t, .int md t']) Q E s := by
  k_dflt (refine' call_cls ?k1 ?k2 ?k3 ?k4 ?k5 ?k6 ?_; (case k1 => k_asm); (case k2 => k_asm); (case k3 => k_asm); (case k4 => k_is); (case k5 => k_is); (case k6 => k_is); k_whole)
  intro x' d' h' F' N' l1 l2
  k_lt2 l2
  clear F N
  (refine' code_def (binds := [("self", .ref x'), ("val", .int v t), ("field_modulus", .int md t')]) ?k1 ?k2 ?k3 ?k4 ?k5 ?kA ?kF ?kK ?k6 ?k7 ?k8 ?k9 ?kB ?_ ?c2 ?c3 ?c4 ?c5; (case kA => exact rfl); (case kF => exact hf); (case kK => exact hke); (case k1 => k_asm); (case k2 => k_asm); (case k3 => k_asm); (case k4 => k_asm); (case k5 => k_asm); (case k6 => k_is); (case k7 => k_is); (case k8 => k_room); (case k9 => exact BindsTo.of_eq rfl); (case c5 => decide); (case kB => exact locs rfl); (case c2 => exact rfl); (case c3 => exact rfl); (case c4 => exact rfl); k_whole; intro g' L' h' FG' F' N' B' X' T')
  clear B X T
  k_fold
  k_steps
  refine leaveK_ (by k_asm) (by k_asm) fun kF kN => ?_
  dsimp only [InitBack]
  refine ⟨rfl, ?_⟩
  exact h _ _ _ _ _ _ _ _ kF kN l1 l2

set_option maxHeartbeats 4000000 in
theorem mk_O {v md : Int} {t t' : Tok} (B : Below A₀ base outer h₀) (F : Fr h₀ L s.heap m) (X : (Mine.hd.heap_1 w.params).In h₀) (N : News h₀ L s.heap news) (T : Top p loose mean mg mb h₀) (hf : env.frame = some L) (hke : env.scope.kind = .function) (hdp : d ≤ 990) (hmd : 2 ≤ md)
    (h : ∀ x dx h' t1 t2 t3 t4 tk, Fr h₀ L h' m → News h₀ L h' ((x, instObj 186 dx) :: (dx, FQD w.params t1 t2 t3 t4 md (v.fmod md)) :: news) → (∀ p ∈ news, p.1 < dx) → dx < x → Q (.ref x) { s with heap := h', toks := tk }) :
    wpAny (model prog w) ⟨none, d, some (env :: outer), gs, u⟩ (call (.ref 186) [.int v t, .int md t']) Q E s := by
  k_dflt (refine' call_cls ?k1 ?k2 ?k3 ?k4 ?k5 ?k6 ?_; (case k1 => k_asm); (case k2 => k_asm); (case k3 => k_asm); (case k4 => k_is); (case k5 => k_is); (case k6 => k_is); k_whole)
  intro x' d' h' F' N' l1 l2
  k_lt2 l2
  clear F N
  (refine' code_def (binds := [("self", .ref x'), ("val", .int v t), ("field_modulus", .int md t')]) ?k1 ?k2 ?k3 ?k4 ?k5 ?kA ?kF ?kK ?k6 ?k7 ?k8 ?k9 ?kB ?_ ?c2 ?c3 ?c4 ?c5; (case kA => exact rfl); (case kF => exact hf); (case kK => exact hke); (case k1 => k_asm); (case k2 => k_asm); (case k3 => k_asm); (case k4 => k_asm); (case k5 => k_asm); (case k6 => k_is); (case k7 => k_is); (case k8 => k_room); (case k9 => exact BindsTo.of_eq rfl); (case c5 => decide); (case kB => exact locs rfl); (case c2 => exact rfl); (case c3 => exact rfl); (case c4 => exact rfl); k_whole; intro g' L' h' FG' F' N' B' X' T')
  clear B X T
  k_fold
  k_steps
  refine leaveK_ (by k_asm) (by k_asm) fun kF kN => ?_
  dsimp only [InitBack]
  refine ⟨rfl, ?_⟩
  exact h _ _ _ _ _ _ _ _ kF kN l1 l2
end P_M1
section P_S2
local macro_rules | `(tactic| k_room) => `(tactic| ((try simp only [depth_under_make, depth_under_kw, depth_in1, depth_deeper, depth_caller, recursionLimit]); omega))
local macro_rules | `(tactic| k_all) => `(tactic| (intro p hp; exact Nat.ne_of_lt ((by assumption : ∀ p ∈ _, p.1 < _) p hp)))
local macro_rules | `(tactic| k_units) => `(tactic| ((try simp only [units_in1, units_deeper, Around.mark_units, units_caller, cLine]); omega))
local macro_rules | `(tactic| mul_fits) => `(tactic| exact mulOk_of (by first | assumption | exact Sm.of_res (by assumption) (by assumption) (by assumption)) (by first | assumption | exact Sm.of_res (by assumption) (by assumption) (by assumption)))
variable {prog : Program} {w : World} {A₀ : Around} {s : Shared} {d u : Nat} {gs : Option (List Code)} {env : Env} {outer : List Env} {base h₀ : Heap} {L : Addr} {m mg mb : Str → Option Value} {p : Program} {loose : List Str} {mean : ExcName → Option Value} {news : List (Addr × Obj)} {R : Result → Shared → Prop} {Q : Value → Shared → Prop} {E : Value → Shared → Prop}
local macro_rules | `(tactic| k_steps) => `(tactic| repeat' (first | (k_unfold; (try dsimp only)) | (dsimp only; k_unfold; (try dsimp only)) | walk1 | (dsimp only; walk1) | (leave1; walk_say "STEP leave1"; try dsimp only) | fail "no step"))
local macro_rules | `(tactic| walk_at "eval Name") => `(tactic| (k_here; k_dflt (refine' nameX_L ?F ?v ?_ ?a ?b; (case F => k_asm); (case a => rfl); (case b => rfl); (case v => assumption); k_whole)))
local macro_rules | `(tactic| k_steps) => `(tactic| repeat' (first | (k_unfold; (try dsimp only)) | (dsimp only; k_unfold; (try dsimp only)) | (walk1; (try dsimp only)) | (dsimp only; walk1) | (leave1; walk_say "STEP leave1"; try dsimp only) | fail "no step"))
local macro_rules | `(tactic| walk_at "subscriptTail") => `(tactic| (k_here; (with_reducible show wpAny _ _ (subscriptTail _ _ (Value.ref _) (Value.int _ _)) _ _ _); k_dflt (refine' item_litK ?k1 ?k2 ?k3 ?k4 ?_ ?k6; (case k1 => exact News.isList (by k_asm) (by k_mem)); (case k2 => decide); (case k3 => decide); (case k4 => rfl); (case k6 => with_unfolding_all rfl); k_whole)))
local macro_rules | `(tactic| walk_at "call ref") => `(tactic| (k_here; (with_reducible show wpAny _ _ (call (Value.ref 333) [Value.int _ _, Value.int _ _]) _ _ _); k_dflt (refine' mk_P ?B ?F ?X ?N ?T ?hf ?hk ?hd ?hm ?_; (case B => k_asm); (case F => k_asm); (case X => k_asm); (case N => k_asm); (case T => k_asm); (case hf => first | exact rfl | assumption); (case hk => first | exact rfl | assumption); (case hd => k_room); (case hm => k_asm); k_whole); intro x' d' h' t1' t2' t3' t4' tk' F' N' l1 l2; (try k_lt l1); (try k_lt2 l2); (try k_sweep)))
local macro_rules | `(tactic| walk_at "call ref") => `(tactic| (k_here; (with_reducible show wpAny _ _ (call (Value.ref 186) [Value.int _ _, Value.int _ _]) _ _ _); k_dflt (refine' mk_O ?B ?F ?X ?N ?T ?hf ?hk ?hd ?hm ?_; (case B => k_asm); (case F => k_asm); (case X => k_asm); (case N => k_asm); (case T => k_asm); (case hf => first | exact rfl | assumption); (case hk => first | exact rfl | assumption); (case hd => k_room); (case hm => k_asm); k_whole); intro x' d' h' t1' t2' t3' t4' tk' F' N' l1 l2; (try k_lt l1); (try k_lt2 l2); (try k_sweep)))

set_option maxHeartbeats 1000000 in
theorem stage2 {nm q : Str} {params : Arguments} {body : List Stmt} {scope : Scope} {dV kV doc pm cdv ct oc : Value} {an od : Option Addr} {osl : Array (Option Value)} {fa : Addr} {cd : Value} {wo : Obj} {g : Addr} {gn : Nat} {g0 g1 g2 g3 g4 g5 g6 g7 g8 : Int} {t0 t1 t2 t3 t4 t5 t6 t7 t8 : Tok} {md : Int} {tm : Tok} {QF : Flow → Shared → Prop} (hlk : (Mine.hd.heap_1 w.params).lookup 377 = some ⟨oc, od, .func (fnOf nm q params body scope dV kV doc pm an cdv ct), osl⟩) (B : Below A₀ h₀ [] h₀) (F : Fr h₀ L s.heap m) (X : (Mine.hd.heap_1 w.params).In h₀) (N : News h₀ L s.heap [(g, listOf #[.int g0 t0, .int g1 t1, .int g2 t2, .int g3 t3, .int g4 t4, .int g5 t5, .int g6 t6, .int g7 t7, .int g8 t8] gn), (L + 1, wo)]) (T : Top p loose mean mg mb h₀) (hdp : d ≤ 700) (hun : u ≤ 200) (hE : PassesOwn (model prog w) ⟨none, d, some [(envOfC q scope L fa cd)], gs, u⟩ (envOfC q scope L fa cd) E) (hg : m (Str.ofString "given") = some (.ref g)) (hmo : m (Str.ofString "modulus") = some (.int md tm)) (hmd : 2 ≤ md) (hS : Sk md)
    (h : ∀ m' l vs n rest h' tk, Fr h₀ L h' m' → m' (Str.ofString "rows") = some (.ref l) → m' (Str.ofString "given") = some (.ref g) → m' (Str.ofString "modulus") = some (.int md tm) → News h₀ L h' ((l, listOf vs n) :: rest) →
      vs.size = 2 → (∀ v ∈ vs.toList, RowIn w.params md rest v) → (∀ p ∈ rest, p.1 ≠ l) → (g, listOf #[.int g0 t0, .int g1 t1, .int g2 t2, .int g3 t3, .int g4 t4, .int g5 t5, .int g6 t6, .int g7 t7, .int g8 t8] gn) ∈ rest → QF .next { s with heap := h', toks := tk }) :
    wpAny (model prog w) ⟨none, d, some [(envOfC q scope L fa cd)], gs, u⟩ (execs ((body.drop 2).take 2) (envOfC q scope L fa cd)) QF E s := by
  refine' with_lookup hlk ?k ?_
  (case k => k_is)
  intro eqo
  cases eqo
  clear hlk
  simp only [List.drop_succ_cons, List.drop_zero, List.take_succ_cons, List.take_zero]
  k_steps
  rename Fr _ _ _ _ => qf
  rename News _ _ _ _ => qn
  have qn' := news_front [_, _, _, _, _, _, _, _, _, _, _] qn
  simp only [List.cons_append, List.nil_append] at qn'
  refine h _ _ _ _ _ _ _ qf rfl hg hmo qn' rfl ?_ ?_ ?_
  · exact rows_push (rows_push rows_nil (row_in (by k_mem) (by k_mem) (by k_mem) (by k_mem) (by k_mem) (fm_lo hmd _) (fm_hi hmd _))) (row_in (by k_mem) (by k_mem) (by k_mem) (by k_mem) (by k_mem) (fm_lo hmd _) (fm_hi hmd _))
  · repeat (refine List.forall_mem_cons.mpr ⟨by k_ne, ?_⟩)
    exact List.forall_mem_nil _
  · k_mem
end P_S2
section P_M2
local macro_rules | `(tactic| k_room) => `(tactic| ((try simp only [depth_under_make, depth_under_kw, depth_in1, depth_deeper, depth_caller, recursionLimit]); omega))
local macro_rules | `(tactic| k_all) => `(tactic| (intro p hp; exact Nat.ne_of_lt ((by assumption : ∀ p ∈ _, p.1 < _) p hp)))
local macro_rules | `(tactic| k_units) => `(tactic| ((try simp only [units_in1, units_deeper, Around.mark_units, units_caller, cLine]); omega))
local macro_rules | `(tactic| mul_fits) => `(tactic| exact mulOk_of (by first | assumption | exact Sm.of_res (by assumption) (by assumption) (by assumption)) (by first | assumption | exact Sm.of_res (by assumption) (by assumption) (by assumption)))
variable {prog : Program} {w : World} {A₀ : Around} {s : Shared} {d u : Nat} {gs : Option (List Code)} {env : Env} {outer : List Env} {base h₀ : Heap} {L : Addr} {m mg mb : Str → Option Value} {p : Program} {loose : List Str} {mean : ExcName → Option Value} {news : List (Addr × Obj)} {R : Result → Shared → Prop} {Q : Value → Shared → Prop} {E : Value → Shared → Prop}
local macro_rules | `(tactic| k_steps) => `(tactic| repeat' (first | (k_unfold; (try dsimp only)) | (dsimp only; k_unfold; (try dsimp only)) | walk1 | (dsimp only; walk1) | (leave1; walk_say "STEP leave1"; try dsimp only) | fail "no step"))
local macro_rules | `(tactic| walk_at "call ref") => `(tactic| (k_here; (with_reducible show wpAny _ _ (call (Value.ref 333) [Value.int _ _, Value.int _ _]) _ _ _); k_dflt (refine' mk_P ?B ?F ?X ?N ?T ?hf ?hk ?hd ?hm ?_; (case B => k_asm); (case F => k_asm); (case X => k_asm); (case N => k_asm); (case T => k_asm); (case hf => first | exact rfl | assumption); (case hk => first | exact rfl | assumption); (case hd => k_room); (case hm => k_asm); k_whole); intro x' d' h' t1' t2' t3' t4' tk' F' N' l1 l2; (try k_sweep)))
local macro_rules | `(tactic| walk_at "call ref") => `(tactic| (k_here; (with_reducible show wpAny _ _ (call (Value.ref 186) [Value.int _ _, Value.int _ _]) _ _ _); k_dflt (refine' mk_O ?B ?F ?X ?N ?T ?hf ?hk ?hd ?hm ?_; (case B => k_asm); (case F => k_asm); (case X => k_asm); (case N => k_asm); (case T => k_asm); (case hf => first | exact rfl | assumption); (case hk => first | exact rfl | assumption); (case hd => k_room); (case hm => k_asm); k_whole); intro x' d' h' t1' t2' t3' t4' tk' F' N' l1 l2; (try k_sweep)))

set_option maxHeartbeats 4000000 in
theorem made_P {md n : Int} {y dy : Addr} {a1 a2 a3 a4 : Tok} {v : Int} {t : Tok} (B : Below A₀ base outer h₀) (F : Fr h₀ L s.heap m) (X : (Mine.hd.heap_1 w.params).In h₀) (N : News h₀ L s.heap news) (T : Top p loose mean mg mb h₀) (hf : env.frame = some L) (hke : env.scope.kind = .function) (hdp : d ≤ 980) (hmd : 2 ≤ md) (hx : (y, instObj 333 dy) ∈ news) (hdx : (dy, FQD w.params a1 a2 a3 a4 md n) ∈ news)
    (h : ∀ x dx h' t1 t2 t3 t4 tk, Fr h₀ L h' m → News h₀ L h' ((x, instObj 333 dx) :: (dx, FQD w.params t1 t2 t3 t4 md (v.fmod md)) :: news) → (∀ p ∈ news, p.1 < dx) → dx < x → R (.ok (.ret (.ref x))) { s with heap := h', toks := tk }) :
    codeAny (model prog w) ⟨none, d, some (env :: outer), gs, u⟩ (.call (.ref 316) ⟨[.ref y, .int v t], []⟩) R s := by
  replace N := news_show2 N (by repeat (first | exact sub_refl | apply sub_tail)) hx hdx
  (refine' code_def (binds := [("self", .ref y), ("val", .int v t)]) ?k1 ?k2 ?k3 ?k4 ?k5 ?kA ?kF ?kK ?k6 ?k7 ?k8 ?k9 ?kB ?_ ?c2 ?c3 ?c4 ?c5; (case kA => exact rfl); (case kF => exact hf); (case kK => exact hke); (case k1 => k_asm); (case k2 => k_asm); (case k3 => k_asm); (case k4 => k_asm); (case k5 => k_asm); (case k6 => k_is); (case k7 => k_is); (case k8 => k_room); (case k9 => exact BindsTo.of_eq rfl); (case c5 => decide); (case kB => exact locs rfl); (case c2 => exact rfl); (case c3 => exact rfl); (case c4 => exact rfl); k_whole; intro g' L' h' FG' F' N' B' X' T')
  clear B X T
  k_fold
  k_steps
  refine leaveK_ (by k_asm) (by k_asm) fun kF kN => ?_
  exact h _ _ _ _ _ _ _ _ kF (news_sub kN (sub2 (by repeat (first | exact sub_refl | apply sub_tail)) (by k_mem) (by k_mem))) (fresh_of (by assumption) (by repeat (first | exact sub_refl | apply sub_tail))) (by assumption)

set_option maxHeartbeats 4000000 in
theorem made_O {md n : Int} {y dy : Addr} {a1 a2 a3 a4 : Tok} {v : Int} {t : Tok} (B : Below A₀ base outer h₀) (F : Fr h₀ L s.heap m) (X : (Mine.hd.heap_1 w.params).In h₀) (N : News h₀ L s.heap news) (T : Top p loose mean mg mb h₀) (hf : env.frame = some L) (hke : env.scope.kind = .function) (hdp : d ≤ 980) (hmd : 2 ≤ md) (hx : (y, instObj 186 dy) ∈ news) (hdx : (dy, FQD w.params a1 a2 a3 a4 md n) ∈ news)
    (h : ∀ x dx h' t1 t2 t3 t4 tk, Fr h₀ L h' m → News h₀ L h' ((x, instObj 186 dx) :: (dx, FQD w.params t1 t2 t3 t4 md (v.fmod md)) :: news) → (∀ p ∈ news, p.1 < dx) → dx < x → R (.ok (.ret (.ref x))) { s with heap := h', toks := tk }) :
    codeAny (model prog w) ⟨none, d, some (env :: outer), gs, u⟩ (.call (.ref 169) ⟨[.ref y, .int v t], []⟩) R s := by
  replace N := news_show2 N (by repeat (first | exact sub_refl | apply sub_tail)) hx hdx
  (refine' code_def (binds := [("self", .ref y), ("val", .int v t)]) ?k1 ?k2 ?k3 ?k4 ?k5 ?kA ?kF ?kK ?k6 ?k7 ?k8 ?k9 ?kB ?_ ?c2 ?c3 ?c4 ?c5; (case kA => exact rfl); (case kF => exact hf); (case kK => exact hke); (case k1 => k_asm); (case k2 => k_asm); (case k3 => k_asm); (case k4 => k_asm); (case k5 => k_asm); (case k6 => k_is); (case k7 => k_is); (case k8 => k_room); (case k9 => exact BindsTo.of_eq rfl); (case c5 => decide); (case kB => exact locs rfl); (case c2 => exact rfl); (case c3 => exact rfl); (case c4 => exact rfl); k_whole; intro g' L' h' FG' F' N' B' X' T')
  clear B X T
  k_fold
  k_steps
  refine leaveK_ (by k_asm) (by k_asm) fun kF kN => ?_
  exact h _ _ _ _ _ _ _ _ kF (news_sub kN (sub2 (by repeat (first | exact sub_refl | apply sub_tail)) (by k_mem) (by k_mem))) (fresh_of (by assumption) (by repeat (first | exact sub_refl | apply sub_tail))) (by assumption)
end P_M2
section P_M3
local macro_rules | `(tactic| k_room) => `(tactic| ((try simp only [depth_under_make, depth_under_kw, depth_in1, depth_deeper, depth_caller, recursionLimit]); omega))
local macro_rules | `(tactic| k_all) => `(tactic| (intro p hp; exact Nat.ne_of_lt ((by assumption : ∀ p ∈ _, p.1 < _) p hp)))
local macro_rules | `(tactic| k_units) => `(tactic| ((try simp only [units_in1, units_deeper, Around.mark_units, units_caller, cLine]); omega))
local macro_rules | `(tactic| mul_fits) => `(tactic| exact mulOk_of (by first | assumption | exact Sm.of_res (by assumption) (by assumption) (by assumption)) (by first | assumption | exact Sm.of_res (by assumption) (by assumption) (by assumption)))
variable {prog : Program} {w : World} {A₀ : Around} {s : Shared} {d u : Nat} {gs : Option (List Code)} {env : Env} {outer : List Env} {base h₀ : Heap} {L : Addr} {m mg mb : Str → Option Value} {p : Program} {loose : List Str} {mean : ExcName → Option Value} {news : List (Addr × Obj)} {R : Result → Shared → Prop} {Q : Value → Shared → Prop} {E : Value → Shared → Prop}
local macro_rules | `(tactic| k_steps) => `(tactic| repeat' (first | (k_unfold; (try dsimp only)) | (dsimp only; k_unfold; (try dsimp only)) | walk1 | (dsimp only; walk1) | (leave1; walk_say "STEP leave1"; try dsimp only) | fail "no step"))
local macro_rules | `(tactic| walk_at "call ref") => `(tactic| (k_here; (with_reducible show wpAny _ _ (call (Value.ref 333) [Value.int _ _, Value.int _ _]) _ _ _); k_dflt (refine' mk_P ?B ?F ?X ?N ?T ?hf ?hk ?hd ?hm ?_; (case B => k_asm); (case F => k_asm); (case X => k_asm); (case N => k_asm); (case T => k_asm); (case hf => first | exact rfl | assumption); (case hk => first | exact rfl | assumption); (case hd => k_room); (case hm => k_asm); k_whole); intro x' d' h' t1' t2' t3' t4' tk' F' N' l1 l2; (try k_sweep)))
local macro_rules | `(tactic| walk_at "call ref") => `(tactic| (k_here; (with_reducible show wpAny _ _ (call (Value.ref 186) [Value.int _ _, Value.int _ _]) _ _ _); k_dflt (refine' mk_O ?B ?F ?X ?N ?T ?hf ?hk ?hd ?hm ?_; (case B => k_asm); (case F => k_asm); (case X => k_asm); (case N => k_asm); (case T => k_asm); (case hf => first | exact rfl | assumption); (case hk => first | exact rfl | assumption); (case hd => k_room); (case hm => k_asm); k_whole); intro x' d' h' t1' t2' t3' t4' tk' F' N' l1 l2; (try k_sweep)))
local macro_rules | `(tactic| k_enter) => `(tactic| ((with_reducible show codeAny _ _ (Code.call (Value.ref 316) _) _ _); k_dflt (refine' made_P ?B ?F ?X ?N ?T ?hf ?hk ?hd ?hm ?hx ?hdx ?_; (case B => k_asm); (case F => k_asm); (case X => k_asm); (case N => k_asm); (case T => k_asm); (case hf => first | exact rfl | assumption); (case hk => first | exact rfl | assumption); (case hd => k_room); (case hm => k_asm); (case hx => first | k_mem | k_asm | exact Sm.of_res (by assumption) (fm_lo (by assumption) _) (fm_hi (by assumption) _) | exact Sm.of_res (by assumption) (by assumption) (by assumption)); (case hdx => first | k_mem | k_asm | exact Sm.of_res (by assumption) (fm_lo (by assumption) _) (fm_hi (by assumption) _) | exact Sm.of_res (by assumption) (by assumption) (by assumption)); k_whole); intro x' d' h' t1' t2' t3' t4' tk' F' N' l1 l2; (try k_sweep); (try dsimp only [PySem.W.CmpBack, PySem.W.InitBack, PySem.W.LenBack, PySem.W.StrBack, PySem.W.BoolBack])))
local macro_rules | `(tactic| k_enter) => `(tactic| ((with_reducible show codeAny _ _ (Code.call (Value.ref 169) _) _ _); k_dflt (refine' made_O ?B ?F ?X ?N ?T ?hf ?hk ?hd ?hm ?hx ?hdx ?_; (case B => k_asm); (case F => k_asm); (case X => k_asm); (case N => k_asm); (case T => k_asm); (case hf => first | exact rfl | assumption); (case hk => first | exact rfl | assumption); (case hd => k_room); (case hm => k_asm); (case hx => first | k_mem | k_asm | exact Sm.of_res (by assumption) (fm_lo (by assumption) _) (fm_hi (by assumption) _) | exact Sm.of_res (by assumption) (by assumption) (by assumption)); (case hdx => first | k_mem | k_asm | exact Sm.of_res (by assumption) (fm_lo (by assumption) _) (fm_hi (by assumption) _) | exact Sm.of_res (by assumption) (by assumption) (by assumption)); k_whole); intro x' d' h' t1' t2' t3' t4' tk' F' N' l1 l2; (try k_sweep); (try dsimp only [PySem.W.CmpBack, PySem.W.InitBack, PySem.W.LenBack, PySem.W.StrBack, PySem.W.BoolBack])))

set_option maxHeartbeats 4000000 in
theorem add_i_P {md n : Int} {y dy : Addr} {a1 a2 a3 a4 : Tok} {i : Int} {t : Tok} (B : Below A₀ base outer h₀) (F : Fr h₀ L s.heap m) (X : (Mine.hd.heap_1 w.params).In h₀) (N : News h₀ L s.heap news) (T : Top p loose mean mg mb h₀) (hf : env.frame = some L) (hke : env.scope.kind = .function) (hdp : d ≤ 970) (hmd : 2 ≤ md) (hx : (y, instObj 333 dy) ∈ news) (hdx : (dy, FQD w.params a1 a2 a3 a4 md n) ∈ news)
    (h : ∀ x dx h' t1 t2 t3 t4 tk, Fr h₀ L h' m → News h₀ L h' ((x, instObj 333 dx) :: (dx, FQD w.params t1 t2 t3 t4 md ((n + i).fmod md)) :: news) → (∀ p ∈ news, p.1 < dx) → dx < x → R (.ok (.ret (.ref x))) { s with heap := h', toks := tk }) :
    codeAny (model prog w) ⟨none, d, some (env :: outer), gs, u⟩ (.call (.ref 211) ⟨[.ref y, .int i t], []⟩) R s := by
  replace N := news_show2 N (by repeat (first | exact sub_refl | apply sub_tail)) hx hdx
  (refine' code_def (binds := [("self", .ref y), ("other", .int i t)]) ?k1 ?k2 ?k3 ?k4 ?k5 ?kA ?kF ?kK ?k6 ?k7 ?k8 ?k9 ?kB ?_ ?c2 ?c3 ?c4 ?c5; (case kA => exact rfl); (case kF => exact hf); (case kK => exact hke); (case k1 => k_asm); (case k2 => k_asm); (case k3 => k_asm); (case k4 => k_asm); (case k5 => k_asm); (case k6 => k_is); (case k7 => k_is); (case k8 => k_room); (case k9 => exact BindsTo.of_eq rfl); (case c5 => decide); (case kB => exact locs rfl); (case c2 => exact rfl); (case c3 => exact rfl); (case c4 => exact rfl); k_whole; intro g' L' h' FG' F' N' B' X' T')
  clear B X T
  k_fold
  k_steps
  refine leaveK_ (by k_asm) (by k_asm) fun kF kN => ?_
  rw [fm_fm hmd] at kN
  exact h _ _ _ _ _ _ _ _ kF (news_sub kN (sub2 (by repeat (first | exact sub_refl | apply sub_tail)) (by k_mem) (by k_mem))) (fresh_of (by assumption) (by repeat (first | exact sub_refl | apply sub_tail))) (by assumption)

set_option maxHeartbeats 4000000 in
theorem add_r_P {md n : Int} {y dy : Addr} {a1 a2 a3 a4 : Tok}{z dz : Addr} {a12 a22 a32 a42 : Tok} {k : Int} (B : Below A₀ base outer h₀) (F : Fr h₀ L s.heap m) (X : (Mine.hd.heap_1 w.params).In h₀) (N : News h₀ L s.heap news) (T : Top p loose mean mg mb h₀) (hf : env.frame = some L) (hke : env.scope.kind = .function) (hdp : d ≤ 970) (hmd : 2 ≤ md) (hx : (y, instObj 333 dy) ∈ news) (hdx : (dy, FQD w.params a1 a2 a3 a4 md n) ∈ news)(hx2 : (z, instObj 333 dz) ∈ news) (hdx2 : (dz, FQD w.params a12 a22 a32 a42 md k) ∈ news)
    (h : ∀ x dx h' t1 t2 t3 t4 tk, Fr h₀ L h' m → News h₀ L h' ((x, instObj 333 dx) :: (dx, FQD w.params t1 t2 t3 t4 md ((n + k).fmod md)) :: news) → (∀ p ∈ news, p.1 < dx) → dx < x → R (.ok (.ret (.ref x))) { s with heap := h', toks := tk }) :
    codeAny (model prog w) ⟨none, d, some (env :: outer), gs, u⟩ (.call (.ref 211) ⟨[.ref y, .ref z], []⟩) R s := by
  replace N := news_show2 N (by repeat (first | exact sub_refl | apply sub_tail)) hx hdx
  replace N := news_show2 N (by repeat (first | exact sub_refl | apply sub_tail)) hx2 hdx2
  (refine' code_def (binds := [("self", .ref y), ("other", .ref z)]) ?k1 ?k2 ?k3 ?k4 ?k5 ?kA ?kF ?kK ?k6 ?k7 ?k8 ?k9 ?kB ?_ ?c2 ?c3 ?c4 ?c5; (case kA => exact rfl); (case kF => exact hf); (case kK => exact hke); (case k1 => k_asm); (case k2 => k_asm); (case k3 => k_asm); (case k4 => k_asm); (case k5 => k_asm); (case k6 => k_is); (case k7 => k_is); (case k8 => k_room); (case k9 => exact BindsTo.of_eq rfl); (case c5 => decide); (case kB => exact locs rfl); (case c2 => exact rfl); (case c3 => exact rfl); (case c4 => exact rfl); k_whole; intro g' L' h' FG' F' N' B' X' T')
  clear B X T
  k_fold
  k_steps
  refine leaveK_ (by k_asm) (by k_asm) fun kF kN => ?_
  rw [fm_fm hmd] at kN
  exact h _ _ _ _ _ _ _ _ kF (news_sub kN (sub2 (by repeat (first | exact sub_refl | apply sub_tail)) (by k_mem) (by k_mem))) (fresh_of (by assumption) (by repeat (first | exact sub_refl | apply sub_tail))) (by assumption)

set_option maxHeartbeats 4000000 in
theorem sub_i_P {md n : Int} {y dy : Addr} {a1 a2 a3 a4 : Tok} {i : Int} {t : Tok} (B : Below A₀ base outer h₀) (F : Fr h₀ L s.heap m) (X : (Mine.hd.heap_1 w.params).In h₀) (N : News h₀ L s.heap news) (T : Top p loose mean mg mb h₀) (hf : env.frame = some L) (hke : env.scope.kind = .function) (hdp : d ≤ 970) (hmd : 2 ≤ md) (hx : (y, instObj 333 dy) ∈ news) (hdx : (dy, FQD w.params a1 a2 a3 a4 md n) ∈ news)
    (h : ∀ x dx h' t1 t2 t3 t4 tk, Fr h₀ L h' m → News h₀ L h' ((x, instObj 333 dx) :: (dx, FQD w.params t1 t2 t3 t4 md ((n - i).fmod md)) :: news) → (∀ p ∈ news, p.1 < dx) → dx < x → R (.ok (.ret (.ref x))) { s with heap := h', toks := tk }) :
    codeAny (model prog w) ⟨none, d, some (env :: outer), gs, u⟩ (.call (.ref 246) ⟨[.ref y, .int i t], []⟩) R s := by
  replace N := news_show2 N (by repeat (first | exact sub_refl | apply sub_tail)) hx hdx
  (refine' code_def (binds := [("self", .ref y), ("other", .int i t)]) ?k1 ?k2 ?k3 ?k4 ?k5 ?kA ?kF ?kK ?k6 ?k7 ?k8 ?k9 ?kB ?_ ?c2 ?c3 ?c4 ?c5; (case kA => exact rfl); (case kF => exact hf); (case kK => exact hke); (case k1 => k_asm); (case k2 => k_asm); (case k3 => k_asm); (case k4 => k_asm); (case k5 => k_asm); (case k6 => k_is); (case k7 => k_is); (case k8 => k_room); (case k9 => exact BindsTo.of_eq rfl); (case c5 => decide); (case kB => exact locs rfl); (case c2 => exact rfl); (case c3 => exact rfl); (case c4 => exact rfl); k_whole; intro g' L' h' FG' F' N' B' X' T')
  clear B X T
  k_fold
  k_steps
  refine leaveK_ (by k_asm) (by k_asm) fun kF kN => ?_
  rw [fm_fm hmd] at kN
  exact h _ _ _ _ _ _ _ _ kF (news_sub kN (sub2 (by repeat (first | exact sub_refl | apply sub_tail)) (by k_mem) (by k_mem))) (fresh_of (by assumption) (by repeat (first | exact sub_refl | apply sub_tail))) (by assumption)

set_option maxHeartbeats 4000000 in
theorem sub_r_P {md n : Int} {y dy : Addr} {a1 a2 a3 a4 : Tok}{z dz : Addr} {a12 a22 a32 a42 : Tok} {k : Int} (B : Below A₀ base outer h₀) (F : Fr h₀ L s.heap m) (X : (Mine.hd.heap_1 w.params).In h₀) (N : News h₀ L s.heap news) (T : Top p loose mean mg mb h₀) (hf : env.frame = some L) (hke : env.scope.kind = .function) (hdp : d ≤ 970) (hmd : 2 ≤ md) (hx : (y, instObj 333 dy) ∈ news) (hdx : (dy, FQD w.params a1 a2 a3 a4 md n) ∈ news)(hx2 : (z, instObj 333 dz) ∈ news) (hdx2 : (dz, FQD w.params a12 a22 a32 a42 md k) ∈ news)
    (h : ∀ x dx h' t1 t2 t3 t4 tk, Fr h₀ L h' m → News h₀ L h' ((x, instObj 333 dx) :: (dx, FQD w.params t1 t2 t3 t4 md ((n - k).fmod md)) :: news) → (∀ p ∈ news, p.1 < dx) → dx < x → R (.ok (.ret (.ref x))) { s with heap := h', toks := tk }) :
    codeAny (model prog w) ⟨none, d, some (env :: outer), gs, u⟩ (.call (.ref 246) ⟨[.ref y, .ref z], []⟩) R s := by
  replace N := news_show2 N (by repeat (first | exact sub_refl | apply sub_tail)) hx hdx
  replace N := news_show2 N (by repeat (first | exact sub_refl | apply sub_tail)) hx2 hdx2
  (refine' code_def (binds := [("self", .ref y), ("other", .ref z)]) ?k1 ?k2 ?k3 ?k4 ?k5 ?kA ?kF ?kK ?k6 ?k7 ?k8 ?k9 ?kB ?_ ?c2 ?c3 ?c4 ?c5; (case kA => exact rfl); (case kF => exact hf); (case kK => exact hke); (case k1 => k_asm); (case k2 => k_asm); (case k3 => k_asm); (case k4 => k_asm); (case k5 => k_asm); (case k6 => k_is); (case k7 => k_is); (case k8 => k_room); (case k9 => exact BindsTo.of_eq rfl); (case c5 => decide); (case kB => exact locs rfl); (case c2 => exact rfl); (case c3 => exact rfl); (case c4 => exact rfl); k_whole; intro g' L' h' FG' F' N' B' X' T')
  clear B X T
  k_fold
  k_steps
  refine leaveK_ (by k_asm) (by k_asm) fun kF kN => ?_
  rw [fm_fm hmd] at kN
  exact h _ _ _ _ _ _ _ _ kF (news_sub kN (sub2 (by repeat (first | exact sub_refl | apply sub_tail)) (by k_mem) (by k_mem))) (fresh_of (by assumption) (by repeat (first | exact sub_refl | apply sub_tail))) (by assumption)

set_option maxHeartbeats 4000000 in
theorem mul_i_P {md n : Int} {y dy : Addr} {a1 a2 a3 a4 : Tok} {i : Int} {t : Tok} (B : Below A₀ base outer h₀) (F : Fr h₀ L s.heap m) (X : (Mine.hd.heap_1 w.params).In h₀) (N : News h₀ L s.heap news) (T : Top p loose mean mg mb h₀) (hf : env.frame = some L) (hke : env.scope.kind = .function) (hdp : d ≤ 970) (hmd : 2 ≤ md) (hx : (y, instObj 333 dy) ∈ news) (hdx : (dy, FQD w.params a1 a2 a3 a4 md n) ∈ news) (sn : Sm n) (si : Sm i)
    (h : ∀ x dx h' t1 t2 t3 t4 tk, Fr h₀ L h' m → News h₀ L h' ((x, instObj 333 dx) :: (dx, FQD w.params t1 t2 t3 t4 md ((n * i).fmod md)) :: news) → (∀ p ∈ news, p.1 < dx) → dx < x → R (.ok (.ret (.ref x))) { s with heap := h', toks := tk }) :
    codeAny (model prog w) ⟨none, d, some (env :: outer), gs, u⟩ (.call (.ref 218) ⟨[.ref y, .int i t], []⟩) R s := by
  replace N := news_show2 N (by repeat (first | exact sub_refl | apply sub_tail)) hx hdx
  (refine' code_def (binds := [("self", .ref y), ("other", .int i t)]) ?k1 ?k2 ?k3 ?k4 ?k5 ?kA ?kF ?kK ?k6 ?k7 ?k8 ?k9 ?kB ?_ ?c2 ?c3 ?c4 ?c5; (case kA => exact rfl); (case kF => exact hf); (case kK => exact hke); (case k1 => k_asm); (case k2 => k_asm); (case k3 => k_asm); (case k4 => k_asm); (case k5 => k_asm); (case k6 => k_is); (case k7 => k_is); (case k8 => k_room); (case k9 => exact BindsTo.of_eq rfl); (case c5 => decide); (case kB => exact locs rfl); (case c2 => exact rfl); (case c3 => exact rfl); (case c4 => exact rfl); k_whole; intro g' L' h' FG' F' N' B' X' T')
  clear B X T
  k_fold
  k_steps
  refine leaveK_ (by k_asm) (by k_asm) fun kF kN => ?_
  rw [fm_fm hmd] at kN
  exact h _ _ _ _ _ _ _ _ kF (news_sub kN (sub2 (by repeat (first | exact sub_refl | apply sub_tail)) (by k_mem) (by k_mem))) (fresh_of (by assumption) (by repeat (first | exact sub_refl | apply sub_tail))) (by assumption)

set_option maxHeartbeats 4000000 in
theorem mul_r_P {md n : Int} {y dy : Addr} {a1 a2 a3 a4 : Tok}{z dz : Addr} {a12 a22 a32 a42 : Tok} {k : Int} (B : Below A₀ base outer h₀) (F : Fr h₀ L s.heap m) (X : (Mine.hd.heap_1 w.params).In h₀) (N : News h₀ L s.heap news) (T : Top p loose mean mg mb h₀) (hf : env.frame = some L) (hke : env.scope.kind = .function) (hdp : d ≤ 970) (hmd : 2 ≤ md) (hx : (y, instObj 333 dy) ∈ news) (hdx : (dy, FQD w.params a1 a2 a3 a4 md n) ∈ news)(hx2 : (z, instObj 333 dz) ∈ news) (hdx2 : (dz, FQD w.params a12 a22 a32 a42 md k) ∈ news) (sn : Sm n) (si : Sm k)
    (h : ∀ x dx h' t1 t2 t3 t4 tk, Fr h₀ L h' m → News h₀ L h' ((x, instObj 333 dx) :: (dx, FQD w.params t1 t2 t3 t4 md ((n * k).fmod md)) :: news) → (∀ p ∈ news, p.1 < dx) → dx < x → R (.ok (.ret (.ref x))) { s with heap := h', toks := tk }) :
    codeAny (model prog w) ⟨none, d, some (env :: outer), gs, u⟩ (.call (.ref 218) ⟨[.ref y, .ref z], []⟩) R s := by
  replace N := news_show2 N (by repeat (first | exact sub_refl | apply sub_tail)) hx hdx
  replace N := news_show2 N (by repeat (first | exact sub_refl | apply sub_tail)) hx2 hdx2
  (refine' code_def (binds := [("self", .ref y), ("other", .ref z)]) ?k1 ?k2 ?k3 ?k4 ?k5 ?kA ?kF ?kK ?k6 ?k7 ?k8 ?k9 ?kB ?_ ?c2 ?c3 ?c4 ?c5; (case kA => exact rfl); (case kF => exact hf); (case kK => exact hke); (case k1 => k_asm); (case k2 => k_asm); (case k3 => k_asm); (case k4 => k_asm); (case k5 => k_asm); (case k6 => k_is); (case k7 => k_is); (case k8 => k_room); (case k9 => exact BindsTo.of_eq rfl); (case c5 => decide); (case kB => exact locs rfl); (case c2 => exact rfl); (case c3 => exact rfl); (case c4 => exact rfl); k_whole; intro g' L' h' FG' F' N' B' X' T')
  clear B X T
  k_fold
  k_steps
  refine leaveK_ (by k_asm) (by k_asm) fun kF kN => ?_
  rw [fm_fm hmd] at kN
  exact h _ _ _ _ _ _ _ _ kF (news_sub kN (sub2 (by repeat (first | exact sub_refl | apply sub_tail)) (by k_mem) (by k_mem))) (fresh_of (by assumption) (by repeat (first | exact sub_refl | apply sub_tail))) (by assumption)

set_option maxHeartbeats 4000000 in
theorem rsub_i_P {md n : Int} {y dy : Addr} {a1 a2 a3 a4 : Tok} {i : Int} {t : Tok} (B : Below A₀ base outer h₀) (F : Fr h₀ L s.heap m) (X : (Mine.hd.heap_1 w.params).In h₀) (N : News h₀ L s.heap news) (T : Top p loose mean mg mb h₀) (hf : env.frame = some L) (hke : env.scope.kind = .function) (hdp : d ≤ 970) (hmd : 2 ≤ md) (hx : (y, instObj 333 dy) ∈ news) (hdx : (dy, FQD w.params a1 a2 a3 a4 md n) ∈ news)
    (h : ∀ x dx h' t1 t2 t3 t4 tk, Fr h₀ L h' m → News h₀ L h' ((x, instObj 333 dx) :: (dx, FQD w.params t1 t2 t3 t4 md ((i - n).fmod md)) :: news) → (∀ p ∈ news, p.1 < dx) → dx < x → R (.ok (.ret (.ref x))) { s with heap := h', toks := tk }) :
    codeAny (model prog w) ⟨none, d, some (env :: outer), gs, u⟩ (.call (.ref 239) ⟨[.ref y, .int i t], []⟩) R s := by
  replace N := news_show2 N (by repeat (first | exact sub_refl | apply sub_tail)) hx hdx
  (refine' code_def (binds := [("self", .ref y), ("other", .int i t)]) ?k1 ?k2 ?k3 ?k4 ?k5 ?kA ?kF ?kK ?k6 ?k7 ?k8 ?k9 ?kB ?_ ?c2 ?c3 ?c4 ?c5; (case kA => exact rfl); (case kF => exact hf); (case kK => exact hke); (case k1 => k_asm); (case k2 => k_asm); (case k3 => k_asm); (case k4 => k_asm); (case k5 => k_asm); (case k6 => k_is); (case k7 => k_is); (case k8 => k_room); (case k9 => exact BindsTo.of_eq rfl); (case c5 => decide); (case kB => exact locs rfl); (case c2 => exact rfl); (case c3 => exact rfl); (case c4 => exact rfl); k_whole; intro g' L' h' FG' F' N' B' X' T')
  clear B X T
  k_fold
  k_steps
  refine leaveK_ (by k_asm) (by k_asm) fun kF kN => ?_
  rw [fm_fm hmd] at kN
  exact h _ _ _ _ _ _ _ _ kF (news_sub kN (sub2 (by repeat (first | exact sub_refl | apply sub_tail)) (by k_mem) (by k_mem))) (fresh_of (by assumption) (by repeat (first | exact sub_refl | apply sub_tail))) (by assumption)

set_option maxHeartbeats 4000000 in
theorem neg_P {md n : Int} {y dy : Addr} {a1 a2 a3 a4 : Tok} (B : Below A₀ base outer h₀) (F : Fr h₀ L s.heap m) (X : (Mine.hd.heap_1 w.params).In h₀) (N : News h₀ L s.heap news) (T : Top p loose mean mg mb h₀) (hf : env.frame = some L) (hke : env.scope.kind = .function) (hdp : d ≤ 970) (hmd : 2 ≤ md) (hx : (y, instObj 333 dy) ∈ news) (hdx : (dy, FQD w.params a1 a2 a3 a4 md n) ∈ news)
    (h : ∀ x dx h' t1 t2 t3 t4 tk, Fr h₀ L h' m → News h₀ L h' ((x, instObj 333 dx) :: (dx, FQD w.params t1 t2 t3 t4 md ((-n).fmod md)) :: news) → (∀ p ∈ news, p.1 < dx) → dx < x → R (.ok (.ret (.ref x))) { s with heap := h', toks := tk }) :
    codeAny (model prog w) ⟨none, d, some (env :: outer), gs, u⟩ (.call (.ref 288) ⟨[.ref y], []⟩) R s := by
  replace N := news_show2 N (by repeat (first | exact sub_refl | apply sub_tail)) hx hdx
  (refine' code_def (binds := [("self", .ref y)]) ?k1 ?k2 ?k3 ?k4 ?k5 ?kA ?kF ?kK ?k6 ?k7 ?k8 ?k9 ?kB ?_ ?c2 ?c3 ?c4 ?c5; (case kA => exact rfl); (case kF => exact hf); (case kK => exact hke); (case k1 => k_asm); (case k2 => k_asm); (case k3 => k_asm); (case k4 => k_asm); (case k5 => k_asm); (case k6 => k_is); (case k7 => k_is); (case k8 => k_room); (case k9 => exact BindsTo.of_eq rfl); (case c5 => decide); (case kB => exact locs rfl); (case c2 => exact rfl); (case c3 => exact rfl); (case c4 => exact rfl); k_whole; intro g' L' h' FG' F' N' B' X' T')
  clear B X T
  k_fold
  k_steps
  refine leaveK_ (by k_asm) (by k_asm) fun kF kN => ?_
  exact h _ _ _ _ _ _ _ _ kF (news_sub kN (sub2 (by repeat (first | exact sub_refl | apply sub_tail)) (by k_mem) (by k_mem))) (fresh_of (by assumption) (by repeat (first | exact sub_refl | apply sub_tail))) (by assumption)
end P_M3
section P_M4
local macro_rules | `(tactic| k_room) => `(tactic| ((try simp only [depth_under_make, depth_under_kw, depth_in1, depth_deeper, depth_caller, recursionLimit]); omega))
local macro_rules | `(tactic| k_all) => `(tactic| (intro p hp; exact Nat.ne_of_lt ((by assumption : ∀ p ∈ _, p.1 < _) p hp)))
local macro_rules | `(tactic| k_units) => `(tactic| ((try simp only [units_in1, units_deeper, Around.mark_units, units_caller, cLine]); omega))
local macro_rules | `(tactic| mul_fits) => `(tactic| exact mulOk_of (by first | assumption | exact Sm.of_res (by assumption) (by assumption) (by assumption)) (by first | assumption | exact Sm.of_res (by assumption) (by assumption) (by assumption)))
variable {prog : Program} {w : World} {A₀ : Around} {s : Shared} {d u : Nat} {gs : Option (List Code)} {env : Env} {outer : List Env} {base h₀ : Heap} {L : Addr} {m mg mb : Str → Option Value} {p : Program} {loose : List Str} {mean : ExcName → Option Value} {news : List (Addr × Obj)} {R : Result → Shared → Prop} {Q : Value → Shared → Prop} {E : Value → Shared → Prop}
local macro_rules | `(tactic| k_steps) => `(tactic| repeat' (first | (k_unfold; (try dsimp only)) | (dsimp only; k_unfold; (try dsimp only)) | walk1 | (dsimp only; walk1) | (leave1; walk_say "STEP leave1"; try dsimp only) | fail "no step"))
local macro_rules | `(tactic| walk_at "call ref") => `(tactic| (k_here; (with_reducible show wpAny _ _ (call (Value.ref 333) [Value.int _ _, Value.int _ _]) _ _ _); k_dflt (refine' mk_P ?B ?F ?X ?N ?T ?hf ?hk ?hd ?hm ?_; (case B => k_asm); (case F => k_asm); (case X => k_asm); (case N => k_asm); (case T => k_asm); (case hf => first | exact rfl | assumption); (case hk => first | exact rfl | assumption); (case hd => k_room); (case hm => k_asm); k_whole); intro x' d' h' t1' t2' t3' t4' tk' F' N' l1 l2; (try k_sweep)))
local macro_rules | `(tactic| walk_at "call ref") => `(tactic| (k_here; (with_reducible show wpAny _ _ (call (Value.ref 186) [Value.int _ _, Value.int _ _]) _ _ _); k_dflt (refine' mk_O ?B ?F ?X ?N ?T ?hf ?hk ?hd ?hm ?_; (case B => k_asm); (case F => k_asm); (case X => k_asm); (case N => k_asm); (case T => k_asm); (case hf => first | exact rfl | assumption); (case hk => first | exact rfl | assumption); (case hd => k_room); (case hm => k_asm); k_whole); intro x' d' h' t1' t2' t3' t4' tk' F' N' l1 l2; (try k_sweep)))
local macro_rules | `(tactic| k_enter) => `(tactic| ((with_reducible show codeAny _ _ (Code.call (Value.ref 316) _) _ _); k_dflt (refine' made_P ?B ?F ?X ?N ?T ?hf ?hk ?hd ?hm ?hx ?hdx ?_; (case B => k_asm); (case F => k_asm); (case X => k_asm); (case N => k_asm); (case T => k_asm); (case hf => first | exact rfl | assumption); (case hk => first | exact rfl | assumption); (case hd => k_room); (case hm => k_asm); (case hx => first | k_mem | k_asm | exact Sm.of_res (by assumption) (fm_lo (by assumption) _) (fm_hi (by assumption) _) | exact Sm.of_res (by assumption) (by assumption) (by assumption)); (case hdx => first | k_mem | k_asm | exact Sm.of_res (by assumption) (fm_lo (by assumption) _) (fm_hi (by assumption) _) | exact Sm.of_res (by assumption) (by assumption) (by assumption)); k_whole); intro x' d' h' t1' t2' t3' t4' tk' F' N' l1 l2; (try k_sweep); (try dsimp only [PySem.W.CmpBack, PySem.W.InitBack, PySem.W.LenBack, PySem.W.StrBack, PySem.W.BoolBack])))
local macro_rules | `(tactic| k_enter) => `(tactic| ((with_reducible show codeAny _ _ (Code.call (Value.ref 169) _) _ _); k_dflt (refine' made_O ?B ?F ?X ?N ?T ?hf ?hk ?hd ?hm ?hx ?hdx ?_; (case B => k_asm); (case F => k_asm); (case X => k_asm); (case N => k_asm); (case T => k_asm); (case hf => first | exact rfl | assumption); (case hk => first | exact rfl | assumption); (case hd => k_room); (case hm => k_asm); (case hx => first | k_mem | k_asm | exact Sm.of_res (by assumption) (fm_lo (by assumption) _) (fm_hi (by assumption) _) | exact Sm.of_res (by assumption) (by assumption) (by assumption)); (case hdx => first | k_mem | k_asm | exact Sm.of_res (by assumption) (fm_lo (by assumption) _) (fm_hi (by assumption) _) | exact Sm.of_res (by assumption) (by assumption) (by assumption)); k_whole); intro x' d' h' t1' t2' t3' t4' tk' F' N' l1 l2; (try k_sweep); (try dsimp only [PySem.W.CmpBack, PySem.W.InitBack, PySem.W.LenBack, PySem.W.StrBack, PySem.W.BoolBack])))

set_option maxHeartbeats 4000000 in
theorem add_i_O {md n : Int} {y dy : Addr} {a1 a2 a3 a4 : Tok} {i : Int} {t : Tok} (B : Below A₀ base outer h₀) (F : Fr h₀ L s.heap m) (X : (Mine.hd.heap_1 w.params).In h₀) (N : News h₀ L s.heap news) (T : Top p loose mean mg mb h₀) (hf : env.frame = some L) (hke : env.scope.kind = .function) (hdp : d ≤ 970) (hmd : 2 ≤ md) (hx : (y, instObj 186 dy) ∈ news) (hdx : (dy, FQD w.params a1 a2 a3 a4 md n) ∈ news)
    (h : ∀ x dx h' t1 t2 t3 t4 tk, Fr h₀ L h' m → News h₀ L h' ((x, instObj 186 dx) :: (dx, FQD w.params t1 t2 t3 t4 md ((n + i).fmod md)) :: news) → (∀ p ∈ news, p.1 < dx) → dx < x → R (.ok (.ret (.ref x))) { s with heap := h', toks := tk }) :
    codeAny (model prog w) ⟨none, d, some (env :: outer), gs, u⟩ (.call (.ref 49) ⟨[.ref y, .int i t], []⟩) R s := by
  replace N := news_show2 N (by repeat (first | exact sub_refl | apply sub_tail)) hx hdx
  (refine' code_def (binds := [("self", .ref y), ("other", .int i t)]) ?k1 ?k2 ?k3 ?k4 ?k5 ?kA ?kF ?kK ?k6 ?k7 ?k8 ?k9 ?kB ?_ ?c2 ?c3 ?c4 ?c5; (case kA => exact rfl); (case kF => exact hf); (case kK => exact hke); (case k1 => k_asm); (case k2 => k_asm); (case k3 => k_asm); (case k4 => k_asm); (case k5 => k_asm); (case k6 => k_is); (case k7 => k_is); (case k8 => k_room); (case k9 => exact BindsTo.of_eq rfl); (case c5 => decide); (case kB => exact locs rfl); (case c2 => exact rfl); (case c3 => exact rfl); (case c4 => exact rfl); k_whole; intro g' L' h' FG' F' N' B' X' T')
  clear B X T
  k_fold
  k_steps
  refine leaveK_ (by k_asm) (by k_asm) fun kF kN => ?_
  rw [fm_fm hmd] at kN
  exact h _ _ _ _ _ _ _ _ kF (news_sub kN (sub2 (by repeat (first | exact sub_refl | apply sub_tail)) (by k_mem) (by k_mem))) (fresh_of (by assumption) (by repeat (first | exact sub_refl | apply sub_tail))) (by assumption)

set_option maxHeartbeats 4000000 in
theorem add_r_O {md n : Int} {y dy : Addr} {a1 a2 a3 a4 : Tok}{z dz : Addr} {a12 a22 a32 a42 : Tok} {k : Int} (B : Below A₀ base outer h₀) (F : Fr h₀ L s.heap m) (X : (Mine.hd.heap_1 w.params).In h₀) (N : News h₀ L s.heap news) (T : Top p loose mean mg mb h₀) (hf : env.frame = some L) (hke : env.scope.kind = .function) (hdp : d ≤ 970) (hmd : 2 ≤ md) (hx : (y, instObj 186 dy) ∈ news) (hdx : (dy, FQD w.params a1 a2 a3 a4 md n) ∈ news)(hx2 : (z, instObj 186 dz) ∈ news) (hdx2 : (dz, FQD w.params a12 a22 a32 a42 md k) ∈ news)
    (h : ∀ x dx h' t1 t2 t3 t4 tk, Fr h₀ L h' m → News h₀ L h' ((x, instObj 186 dx) :: (dx, FQD w.params t1 t2 t3 t4 md ((n + k).fmod md)) :: news) → (∀ p ∈ news, p.1 < dx) → dx < x → R (.ok (.ret (.ref x))) { s with heap := h', toks := tk }) :
    codeAny (model prog w) ⟨none, d, some (env :: outer), gs, u⟩ (.call (.ref 49) ⟨[.ref y, .ref z], []⟩) R s := by
  replace N := news_show2 N (by repeat (first | exact sub_refl | apply sub_tail)) hx hdx
  replace N := news_show2 N (by repeat (first | exact sub_refl | apply sub_tail)) hx2 hdx2
  (refine' code_def (binds := [("self", .ref y), ("other", .ref z)]) ?k1 ?k2 ?k3 ?k4 ?k5 ?kA ?kF ?kK ?k6 ?k7 ?k8 ?k9 ?kB ?_ ?c2 ?c3 ?c4 ?c5; (case kA => exact rfl); (case kF => exact hf); (case kK => exact hke); (case k1 => k_asm); (case k2 => k_asm); (case k3 => k_asm); (case k4 => k_asm); (case k5 => k_asm); (case k6 => k_is); (case k7 => k_is); (case k8 => k_room); (case k9 => exact BindsTo.of_eq rfl); (case c5 => decide); (case kB => exact locs rfl); (case c2 => exact rfl); (case c3 => exact rfl); (case c4 => exact rfl); k_whole; intro g' L' h' FG' F' N' B' X' T')
  clear B X T
  k_fold
  k_steps
  refine leaveK_ (by k_asm) (by k_asm) fun kF kN => ?_
  rw [fm_fm hmd] at kN
  exact h _ _ _ _ _ _ _ _ kF (news_sub kN (sub2 (by repeat (first | exact sub_refl | apply sub_tail)) (by k_mem) (by k_mem))) (fresh_of (by assumption) (by repeat (first | exact sub_refl | apply sub_tail))) (by assumption)

set_option maxHeartbeats 4000000 in
theorem sub_i_O {md n : Int} {y dy : Addr} {a1 a2 a3 a4 : Tok} {i : Int} {t : Tok} (B : Below A₀ base outer h₀) (F : Fr h₀ L s.heap m) (X : (Mine.hd.heap_1 w.params).In h₀) (N : News h₀ L s.heap news) (T : Top p loose mean mg mb h₀) (hf : env.frame = some L) (hke : env.scope.kind = .function) (hdp : d ≤ 970) (hmd : 2 ≤ md) (hx : (y, instObj 186 dy) ∈ news) (hdx : (dy, FQD w.params a1 a2 a3 a4 md n) ∈ news)
    (h : ∀ x dx h' t1 t2 t3 t4 tk, Fr h₀ L h' m → News h₀ L h' ((x, instObj 186 dx) :: (dx, FQD w.params t1 t2 t3 t4 md ((n - i).fmod md)) :: news) → (∀ p ∈ news, p.1 < dx) → dx < x → R (.ok (.ret (.ref x))) { s with heap := h', toks := tk }) :
    codeAny (model prog w) ⟨none, d, some (env :: outer), gs, u⟩ (.call (.ref 84) ⟨[.ref y, .int i t], []⟩) R s := by
  replace N := news_show2 N (by repeat (first | exact sub_refl | apply sub_tail)) hx hdx
  (refine' code_def (binds := [("self", .ref y), ("other", .int i t)]) ?k1 ?k2 ?k3 ?k4 ?k5 ?kA ?kF ?kK ?k6 ?k7 ?k8 ?k9 ?kB ?_ ?c2 ?c3 ?c4 ?c5; (case kA => exact rfl); (case kF => exact hf); (case kK => exact hke); (case k1 => k_asm); (case k2 => k_asm); (case k3 => k_asm); (case k4 => k_asm); (case k5 => k_asm); (case k6 => k_is); (case k7 => k_is); (case k8 => k_room); (case k9 => exact BindsTo.of_eq rfl); (case c5 => decide); (case kB => exact locs rfl); (case c2 => exact rfl); (case c3 => exact rfl); (case c4 => exact rfl); k_whole; intro g' L' h' FG' F' N' B' X' T')
  clear B X T
  k_fold
  k_steps
  refine leaveK_ (by k_asm) (by k_asm) fun kF kN => ?_
  rw [fm_fm hmd] at kN
  exact h _ _ _ _ _ _ _ _ kF (news_sub kN (sub2 (by repeat (first | exact sub_refl | apply sub_tail)) (by k_mem) (by k_mem))) (fresh_of (by assumption) (by repeat (first | exact sub_refl | apply sub_tail))) (by assumption)

set_option maxHeartbeats 4000000 in
theorem sub_r_O {md n : Int} {y dy : Addr} {a1 a2 a3 a4 : Tok}{z dz : Addr} {a12 a22 a32 a42 : Tok} {k : Int} (B : Below A₀ base outer h₀) (F : Fr h₀ L s.heap m) (X : (Mine.hd.heap_1 w.params).In h₀) (N : News h₀ L s.heap news) (T : Top p loose mean mg mb h₀) (hf : env.frame = some L) (hke : env.scope.kind = .function) (hdp : d ≤ 970) (hmd : 2 ≤ md) (hx : (y, instObj 186 dy) ∈ news) (hdx : (dy, FQD w.params a1 a2 a3 a4 md n) ∈ news)(hx2 : (z, instObj 186 dz) ∈ news) (hdx2 : (dz, FQD w.params a12 a22 a32 a42 md k) ∈ news)
    (h : ∀ x dx h' t1 t2 t3 t4 tk, Fr h₀ L h' m → News h₀ L h' ((x, instObj 186 dx) :: (dx, FQD w.params t1 t2 t3 t4 md ((n - k).fmod md)) :: news) → (∀ p ∈ news, p.1 < dx) → dx < x → R (.ok (.ret (.ref x))) { s with heap := h', toks := tk }) :
    codeAny (model prog w) ⟨none, d, some (env :: outer), gs, u⟩ (.call (.ref 84) ⟨[.ref y, .ref z], []⟩) R s := by
  replace N := news_show2 N (by repeat (first | exact sub_refl | apply sub_tail)) hx hdx
  replace N := news_show2 N (by repeat (first | exact sub_refl | apply sub_tail)) hx2 hdx2
  (refine' code_def (binds := [("self", .ref y), ("other", .ref z)]) ?k1 ?k2 ?k3 ?k4 ?k5 ?kA ?kF ?kK ?k6 ?k7 ?k8 ?k9 ?kB ?_ ?c2 ?c3 ?c4 ?c5; (case kA => exact rfl); (case kF => exact hf); (case kK => exact hke); (case k1 => k_asm); (case k2 => k_asm); (case k3 => k_asm); (case k4 => k_asm); (case k5 => k_asm); (case k6 => k_is); (case k7 => k_is); (case k8 => k_room); (case k9 => exact BindsTo.of_eq rfl); (case c5 => decide); (case kB => exact locs rfl); (case c2 => exact rfl); (case c3 => exact rfl); (case c4 => exact rfl); k_whole; intro g' L' h' FG' F' N' B' X' T')
  clear B X T
  k_fold
  k_steps
  refine leaveK_ (by k_asm) (by k_asm) fun kF kN => ?_
  rw [fm_fm hmd] at kN
  exact h _ _ _ _ _ _ _ _ kF (news_sub kN (sub2 (by repeat (first | exact sub_refl | apply sub_tail)) (by k_mem) (by k_mem))) (fresh_of (by assumption) (by repeat (first | exact sub_refl | apply sub_tail))) (by assumption)

set_option maxHeartbeats 4000000 in
theorem mul_i_O {md n : Int} {y dy : Addr} {a1 a2 a3 a4 : Tok} {i : Int} {t : Tok} (B : Below A₀ base outer h₀) (F : Fr h₀ L s.heap m) (X : (Mine.hd.heap_1 w.params).In h₀) (N : News h₀ L s.heap news) (T : Top p loose mean mg mb h₀) (hf : env.frame = some L) (hke : env.scope.kind = .function) (hdp : d ≤ 970) (hmd : 2 ≤ md) (hx : (y, instObj 186 dy) ∈ news) (hdx : (dy, FQD w.params a1 a2 a3 a4 md n) ∈ news) (sn : Sm n) (si : Sm i)
    (h : ∀ x dx h' t1 t2 t3 t4 tk, Fr h₀ L h' m → News h₀ L h' ((x, instObj 186 dx) :: (dx, FQD w.params t1 t2 t3 t4 md ((n * i).fmod md)) :: news) → (∀ p ∈ news, p.1 < dx) → dx < x → R (.ok (.ret (.ref x))) { s with heap := h', toks := tk }) :
    codeAny (model prog w) ⟨none, d, some (env :: outer), gs, u⟩ (.call (.ref 56) ⟨[.ref y, .int i t], []⟩) R s := by
  replace N := news_show2 N (by repeat (first | exact sub_refl | apply sub_tail)) hx hdx
  (refine' code_def (binds := [("self", .ref y), ("other", .int i t)]) ?k1 ?k2 ?k3 ?k4 ?k5 ?kA ?kF ?kK ?k6 ?k7 ?k8 ?k9 ?kB ?_ ?c2 ?c3 ?c4 ?c5; (case kA => exact rfl); (case kF => exact hf); (case kK => exact hke); (case k1 => k_asm); (case k2 => k_asm); (case k3 => k_asm); (case k4 => k_asm); (case k5 => k_asm); (case k6 => k_is); (case k7 => k_is); (case k8 => k_room); (case k9 => exact BindsTo.of_eq rfl); (case c5 => decide); (case kB => exact locs rfl); (case c2 => exact rfl); (case c3 => exact rfl); (case c4 => exact rfl); k_whole; intro g' L' h' FG' F' N' B' X' T')
  clear B X T
  k_fold
  k_steps
  refine leaveK_ (by k_asm) (by k_asm) fun kF kN => ?_
  rw [fm_fm hmd] at kN
  exact h _ _ _ _ _ _ _ _ kF (news_sub kN (sub2 (by repeat (first | exact sub_refl | apply sub_tail)) (by k_mem) (by k_mem))) (fresh_of (by assumption) (by repeat (first | exact sub_refl | apply sub_tail))) (by assumption)

set_option maxHeartbeats 4000000 in
theorem mul_r_O {md n : Int} {y dy : Addr} {a1 a2 a3 a4 : Tok}{z dz : Addr} {a12 a22 a32 a42 : Tok} {k : Int} (B : Below A₀ base outer h₀) (F : Fr h₀ L s.heap m) (X : (Mine.hd.heap_1 w.params).In h₀) (N : News h₀ L s.heap news) (T : Top p loose mean mg mb h₀) (hf : env.frame = some L) (hke : env.scope.kind = .function) (hdp : d ≤ 970) (hmd : 2 ≤ md) (hx : (y, instObj 186 dy) ∈ news) (hdx : (dy, FQD w.params a1 a2 a3 a4 md n) ∈ news)(hx2 : (z, instObj 186 dz) ∈ news) (hdx2 : (dz, FQD w.params a12 a22 a32 a42 md k) ∈ news) (sn : Sm n) (si : Sm k)
    (h : ∀ x dx h' t1 t2 t3 t4 tk, Fr h₀ L h' m → News h₀ L h' ((x, instObj 186 dx) :: (dx, FQD w.params t1 t2 t3 t4 md ((n * k).fmod md)) :: news) → (∀ p ∈ news, p.1 < dx) → dx < x → R (.ok (.ret (.ref x))) { s with heap := h', toks := tk }) :
    codeAny (model prog w) ⟨none, d, some (env :: outer), gs, u⟩ (.call (.ref 56) ⟨[.ref y, .ref z], []⟩) R s := by
  replace N := news_show2 N (by repeat (first | exact sub_refl | apply sub_tail)) hx hdx
  replace N := news_show2 N (by repeat (first | exact sub_refl | apply sub_tail)) hx2 hdx2
  (refine' code_def (binds := [("self", .ref y), ("other", .ref z)]) ?k1 ?k2 ?k3 ?k4 ?k5 ?kA ?kF ?kK ?k6 ?k7 ?k8 ?k9 ?kB ?_ ?c2 ?c3 ?c4 ?c5; (case kA => exact rfl); (case kF => exact hf); (case kK => exact hke); (case k1 => k_asm); (case k2 => k_asm); (case k3 => k_asm); (case k4 => k_asm); (case k5 => k_asm); (case k6 => k_is); (case k7 => k_is); (case k8 => k_room); (case k9 => exact BindsTo.of_eq rfl); (case c5 => decide); (case kB => exact locs rfl); (case c2 => exact rfl); (case c3 => exact rfl); (case c4 => exact rfl); k_whole; intro g' L' h' FG' F' N' B' X' T')
  clear B X T
  k_fold
  k_steps
  refine leaveK_ (by k_asm) (by k_asm) fun kF kN => ?_
  rw [fm_fm hmd] at kN
  exact h _ _ _ _ _ _ _ _ kF (news_sub kN (sub2 (by repeat (first | exact sub_refl | apply sub_tail)) (by k_mem) (by k_mem))) (fresh_of (by assumption) (by repeat (first | exact sub_refl | apply sub_tail))) (by assumption)

set_option maxHeartbeats 4000000 in
theorem rsub_i_O {md n : Int} {y dy : Addr} {a1 a2 a3 a4 : Tok} {i : Int} {t : Tok} (B : Below A₀ base outer h₀) (F : Fr h₀ L s.heap m) (X : (Mine.hd.heap_1 w.params).In h₀) (N : News h₀ L s.heap news) (T : Top p loose mean mg mb h₀) (hf : env.frame = some L) (hke : env.scope.kind = .function) (hdp : d ≤ 970) (hmd : 2 ≤ md) (hx : (y, instObj 186 dy) ∈ news) (hdx : (dy, FQD w.params a1 a2 a3 a4 md n) ∈ news)
    (h : ∀ x dx h' t1 t2 t3 t4 tk, Fr h₀ L h' m → News h₀ L h' ((x, instObj 186 dx) :: (dx, FQD w.params t1 t2 t3 t4 md ((i - n).fmod md)) :: news) → (∀ p ∈ news, p.1 < dx) → dx < x → R (.ok (.ret (.ref x))) { s with heap := h', toks := tk }) :
    codeAny (model prog w) ⟨none, d, some (env :: outer), gs, u⟩ (.call (.ref 77) ⟨[.ref y, .int i t], []⟩) R s := by
  replace N := news_show2 N (by repeat (first | exact sub_refl | apply sub_tail)) hx hdx
  (refine' code_def (binds := [("self", .ref y), ("other", .int i t)]) ?k1 ?k2 ?k3 ?k4 ?k5 ?kA ?kF ?kK ?k6 ?k7 ?k8 ?k9 ?kB ?_ ?c2 ?c3 ?c4 ?c5; (case kA => exact rfl); (case kF => exact hf); (case kK => exact hke); (case k1 => k_asm); (case k2 => k_asm); (case k3 => k_asm); (case k4 => k_asm); (case k5 => k_asm); (case k6 => k_is); (case k7 => k_is); (case k8 => k_room); (case k9 => exact BindsTo.of_eq rfl); (case c5 => decide); (case kB => exact locs rfl); (case c2 => exact rfl); (case c3 => exact rfl); (case c4 => exact rfl); k_whole; intro g' L' h' FG' F' N' B' X' T')
  clear B X T
  k_fold
  k_steps
  refine leaveK_ (by k_asm) (by k_asm) fun kF kN => ?_
  rw [fm_fm hmd] at kN
  exact h _ _ _ _ _ _ _ _ kF (news_sub kN (sub2 (by repeat (first | exact sub_refl | apply sub_tail)) (by k_mem) (by k_mem))) (fresh_of (by assumption) (by repeat (first | exact sub_refl | apply sub_tail))) (by assumption)

set_option maxHeartbeats 4000000 in
theorem neg_O {md n : Int} {y dy : Addr} {a1 a2 a3 a4 : Tok} (B : Below A₀ base outer h₀) (F : Fr h₀ L s.heap m) (X : (Mine.hd.heap_1 w.params).In h₀) (N : News h₀ L s.heap news) (T : Top p loose mean mg mb h₀) (hf : env.frame = some L) (hke : env.scope.kind = .function) (hdp : d ≤ 970) (hmd : 2 ≤ md) (hx : (y, instObj 186 dy) ∈ news) (hdx : (dy, FQD w.params a1 a2 a3 a4 md n) ∈ news)
    (h : ∀ x dx h' t1 t2 t3 t4 tk, Fr h₀ L h' m → News h₀ L h' ((x, instObj 186 dx) :: (dx, FQD w.params t1 t2 t3 t4 md ((-n).fmod md)) :: news) → (∀ p ∈ news, p.1 < dx) → dx < x → R (.ok (.ret (.ref x))) { s with heap := h', toks := tk }) :
    codeAny (model prog w) ⟨none, d, some (env :: outer), gs, u⟩ (.call (.ref 133) ⟨[.ref y], []⟩) R s := by
  replace N := news_show2 N (by repeat (first | exact sub_refl | apply sub_tail)) hx hdx
  (refine' code_def (binds := [("self", .ref y)]) ?k1 ?k2 ?k3 ?k4 ?k5 ?kA ?kF ?kK ?k6 ?k7 ?k8 ?k9 ?kB ?_ ?c2 ?c3 ?c4 ?c5; (case kA => exact rfl); (case kF => exact hf); (case kK => exact hke); (case k1 => k_asm); (case k2 => k_asm); (case k3 => k_asm); (case k4 => k_asm); (case k5 => k_asm); (case k6 => k_is); (case k7 => k_is); (case k8 => k_room); (case k9 => exact BindsTo.of_eq rfl); (case c5 => decide); (case kB => exact locs rfl); (case c2 => exact rfl); (case c3 => exact rfl); (case c4 => exact rfl); k_whole; intro g' L' h' FG' F' N' B' X' T')
  clear B X T
  k_fold
  k_steps
  refine leaveK_ (by k_asm) (by k_asm) fun kF kN => ?_
  exact h _ _ _ _ _ _ _ _ kF (news_sub kN (sub2 (by repeat (first | exact sub_refl | apply sub_tail)) (by k_mem) (by k_mem))) (fresh_of (by assumption) (by repeat (first | exact sub_refl | apply sub_tail))) (by assumption)
end P_M4
section P_M10
local macro_rules | `(tactic| k_room) => `(tactic| ((try simp only [depth_under_make, depth_under_kw, depth_in1, depth_deeper, depth_caller, recursionLimit]); omega))
local macro_rules | `(tactic| k_all) => `(tactic| (intro p hp; exact Nat.ne_of_lt ((by assumption : ∀ p ∈ _, p.1 < _) p hp)))
local macro_rules | `(tactic| k_units) => `(tactic| ((try simp only [units_in1, units_deeper, Around.mark_units, units_caller, cLine]); omega))
local macro_rules | `(tactic| mul_fits) => `(tactic| exact mulOk_of (by first | assumption | exact Sm.of_res (by assumption) (by assumption) (by assumption)) (by first | assumption | exact Sm.of_res (by assumption) (by assumption) (by assumption)))
variable {prog : Program} {w : World} {A₀ : Around} {s : Shared} {d u : Nat} {gs : Option (List Code)} {env : Env} {outer : List Env} {base h₀ : Heap} {L : Addr} {m mg mb : Str → Option Value} {p : Program} {loose : List Str} {mean : ExcName → Option Value} {news : List (Addr × Obj)} {R : Result → Shared → Prop} {Q : Value → Shared → Prop} {E : Value → Shared → Prop}
local macro_rules | `(tactic| k_steps) => `(tactic| repeat' (first | (k_unfold; (try dsimp only)) | (dsimp only; k_unfold; (try dsimp only)) | walk1 | (dsimp only; walk1) | (leave1; walk_say "STEP leave1"; try dsimp only) | fail "no step"))
local macro_rules | `(tactic| walk_at "call ref") => `(tactic| (k_here; (with_reducible show wpAny _ _ (call (Value.ref 333) [Value.int _ _, Value.int _ _]) _ _ _); k_dflt (refine' mk_P ?B ?F ?X ?N ?T ?hf ?hk ?hd ?hm ?_; (case B => k_asm); (case F => k_asm); (case X => k_asm); (case N => k_asm); (case T => k_asm); (case hf => first | exact rfl | assumption); (case hk => first | exact rfl | assumption); (case hd => k_room); (case hm => k_asm); k_whole); intro x' d' h' t1' t2' t3' t4' tk' F' N' l1 l2; (try k_sweep)))
local macro_rules | `(tactic| walk_at "call ref") => `(tactic| (k_here; (with_reducible show wpAny _ _ (call (Value.ref 186) [Value.int _ _, Value.int _ _]) _ _ _); k_dflt (refine' mk_O ?B ?F ?X ?N ?T ?hf ?hk ?hd ?hm ?_; (case B => k_asm); (case F => k_asm); (case X => k_asm); (case N => k_asm); (case T => k_asm); (case hf => first | exact rfl | assumption); (case hk => first | exact rfl | assumption); (case hd => k_room); (case hm => k_asm); k_whole); intro x' d' h' t1' t2' t3' t4' tk' F' N' l1 l2; (try k_sweep)))
local macro_rules | `(tactic| k_enter) => `(tactic| ((with_reducible show codeAny _ _ (Code.call (Value.ref 316) _) _ _); k_dflt (refine' made_P ?B ?F ?X ?N ?T ?hf ?hk ?hd ?hm ?hx ?hdx ?_; (case B => k_asm); (case F => k_asm); (case X => k_asm); (case N => k_asm); (case T => k_asm); (case hf => first | exact rfl | assumption); (case hk => first | exact rfl | assumption); (case hd => k_room); (case hm => k_asm); (case hx => first | k_mem | k_asm | exact Sm.of_res (by assumption) (fm_lo (by assumption) _) (fm_hi (by assumption) _) | exact Sm.of_res (by assumption) (by assumption) (by assumption)); (case hdx => first | k_mem | k_asm | exact Sm.of_res (by assumption) (fm_lo (by assumption) _) (fm_hi (by assumption) _) | exact Sm.of_res (by assumption) (by assumption) (by assumption)); k_whole); intro x' d' h' t1' t2' t3' t4' tk' F' N' l1 l2; (try k_sweep); (try dsimp only [PySem.W.CmpBack, PySem.W.InitBack, PySem.W.LenBack, PySem.W.StrBack, PySem.W.BoolBack])))
local macro_rules | `(tactic| k_enter) => `(tactic| ((with_reducible show codeAny _ _ (Code.call (Value.ref 169) _) _ _); k_dflt (refine' made_O ?B ?F ?X ?N ?T ?hf ?hk ?hd ?hm ?hx ?hdx ?_; (case B => k_asm); (case F => k_asm); (case X => k_asm); (case N => k_asm); (case T => k_asm); (case hf => first | exact rfl | assumption); (case hk => first | exact rfl | assumption); (case hd => k_room); (case hm => k_asm); (case hx => first | k_mem | k_asm | exact Sm.of_res (by assumption) (fm_lo (by assumption) _) (fm_hi (by assumption) _) | exact Sm.of_res (by assumption) (by assumption) (by assumption)); (case hdx => first | k_mem | k_asm | exact Sm.of_res (by assumption) (fm_lo (by assumption) _) (fm_hi (by assumption) _) | exact Sm.of_res (by assumption) (by assumption) (by assumption)); k_whole); intro x' d' h' t1' t2' t3' t4' tk' F' N' l1 l2; (try k_sweep); (try dsimp only [PySem.W.CmpBack, PySem.W.InitBack, PySem.W.LenBack, PySem.W.StrBack, PySem.W.BoolBack])))
local macro_rules | `(tactic| k_enter) => `(tactic| ((with_reducible show codeAny _ _ (Code.call (Value.ref 211) _) _ _); k_dflt (refine' add_i_P ?B ?F ?X ?N ?T ?hf ?hk ?hd ?hm ?hx ?hdx ?_; (case B => k_asm); (case F => k_asm); (case X => k_asm); (case N => k_asm); (case T => k_asm); (case hf => first | exact rfl | assumption); (case hk => first | exact rfl | assumption); (case hd => k_room); (case hm => k_asm); (case hx => first | k_mem | k_asm | exact Sm.of_res (by assumption) (fm_lo (by assumption) _) (fm_hi (by assumption) _) | exact Sm.of_res (by assumption) (by assumption) (by assumption)); (case hdx => first | k_mem | k_asm | exact Sm.of_res (by assumption) (fm_lo (by assumption) _) (fm_hi (by assumption) _) | exact Sm.of_res (by assumption) (by assumption) (by assumption)); k_whole); intro x' d' h' t1' t2' t3' t4' tk' F' N' l1 l2; (try k_sweep); (try dsimp only [PySem.W.CmpBack, PySem.W.InitBack, PySem.W.LenBack, PySem.W.StrBack, PySem.W.BoolBack])))
local macro_rules | `(tactic| k_enter) => `(tactic| ((with_reducible show codeAny _ _ (Code.call (Value.ref 211) _) _ _); k_dflt (refine' add_r_P ?B ?F ?X ?N ?T ?hf ?hk ?hd ?hm ?hx ?hdx ?hx2 ?hdx2 ?_; (case B => k_asm); (case F => k_asm); (case X => k_asm); (case N => k_asm); (case T => k_asm); (case hf => first | exact rfl | assumption); (case hk => first | exact rfl | assumption); (case hd => k_room); (case hm => k_asm); (case hx => first | k_mem | k_asm | exact Sm.of_res (by assumption) (fm_lo (by assumption) _) (fm_hi (by assumption) _) | exact Sm.of_res (by assumption) (by assumption) (by assumption)); (case hdx => first | k_mem | k_asm | exact Sm.of_res (by assumption) (fm_lo (by assumption) _) (fm_hi (by assumption) _) | exact Sm.of_res (by assumption) (by assumption) (by assumption)); (case hx2 => first | k_mem | k_asm | exact Sm.of_res (by assumption) (fm_lo (by assumption) _) (fm_hi (by assumption) _) | exact Sm.of_res (by assumption) (by assumption) (by assumption)); (case hdx2 => first | k_mem | k_asm | exact Sm.of_res (by assumption) (fm_lo (by assumption) _) (fm_hi (by assumption) _) | exact Sm.of_res (by assumption) (by assumption) (by assumption)); k_whole); intro x' d' h' t1' t2' t3' t4' tk' F' N' l1 l2; (try k_sweep); (try dsimp only [PySem.W.CmpBack, PySem.W.InitBack, PySem.W.LenBack, PySem.W.StrBack, PySem.W.BoolBack])))
local macro_rules | `(tactic| k_enter) => `(tactic| ((with_reducible show codeAny _ _ (Code.call (Value.ref 246) _) _ _); k_dflt (refine' sub_i_P ?B ?F ?X ?N ?T ?hf ?hk ?hd ?hm ?hx ?hdx ?_; (case B => k_asm); (case F => k_asm); (case X => k_asm); (case N => k_asm); (case T => k_asm); (case hf => first | exact rfl | assumption); (case hk => first | exact rfl | assumption); (case hd => k_room); (case hm => k_asm); (case hx => first | k_mem | k_asm | exact Sm.of_res (by assumption) (fm_lo (by assumption) _) (fm_hi (by assumption) _) | exact Sm.of_res (by assumption) (by assumption) (by assumption)); (case hdx => first | k_mem | k_asm | exact Sm.of_res (by assumption) (fm_lo (by assumption) _) (fm_hi (by assumption) _) | exact Sm.of_res (by assumption) (by assumption) (by assumption)); k_whole); intro x' d' h' t1' t2' t3' t4' tk' F' N' l1 l2; (try k_sweep); (try dsimp only [PySem.W.CmpBack, PySem.W.InitBack, PySem.W.LenBack, PySem.W.StrBack, PySem.W.BoolBack])))
local macro_rules | `(tactic| k_enter) => `(tactic| ((with_reducible show codeAny _ _ (Code.call (Value.ref 246) _) _ _); k_dflt (refine' sub_r_P ?B ?F ?X ?N ?T ?hf ?hk ?hd ?hm ?hx ?hdx ?hx2 ?hdx2 ?_; (case B => k_asm); (case F => k_asm); (case X => k_asm); (case N => k_asm); (case T => k_asm); (case hf => first | exact rfl | assumption); (case hk => first | exact rfl | assumption); (case hd => k_room); (case hm => k_asm); (case hx => first | k_mem | k_asm | exact Sm.of_res (by assumption) (fm_lo (by assumption) _) (fm_hi (by assumption) _) | exact Sm.of_res (by assumption) (by assumption) (by assumption)); (case hdx => first | k_mem | k_asm | exact Sm.of_res (by assumption) (fm_lo (by assumption) _) (fm_hi (by assumption) _) | exact Sm.of_res (by assumption) (by assumption) (by assumption)); (case hx2 => first | k_mem | k_asm | exact Sm.of_res (by assumption) (fm_lo (by assumption) _) (fm_hi (by assumption) _) | exact Sm.of_res (by assumption) (by assumption) (by assumption)); (case hdx2 => first | k_mem | k_asm | exact Sm.of_res (by assumption) (fm_lo (by assumption) _) (fm_hi (by assumption) _) | exact Sm.of_res (by assumption) (by assumption) (by assumption)); k_whole); intro x' d' h' t1' t2' t3' t4' tk' F' N' l1 l2; (try k_sweep); (try dsimp only [PySem.W.CmpBack, PySem.W.InitBack, PySem.W.LenBack, PySem.W.StrBack, PySem.W.BoolBack])))
local macro_rules | `(tactic| k_enter) => `(tactic| ((with_reducible show codeAny _ _ (Code.call (Value.ref 218) _) _ _); k_dflt (refine' mul_i_P ?B ?F ?X ?N ?T ?hf ?hk ?hd ?hm ?hx ?hdx ?sn ?si ?_; (case B => k_asm); (case F => k_asm); (case X => k_asm); (case N => k_asm); (case T => k_asm); (case hf => first | exact rfl | assumption); (case hk => first | exact rfl | assumption); (case hd => k_room); (case hm => k_asm); (case hx => first | k_mem | k_asm | exact Sm.of_res (by assumption) (fm_lo (by assumption) _) (fm_hi (by assumption) _) | exact Sm.of_res (by assumption) (by assumption) (by assumption)); (case hdx => first | k_mem | k_asm | exact Sm.of_res (by assumption) (fm_lo (by assumption) _) (fm_hi (by assumption) _) | exact Sm.of_res (by assumption) (by assumption) (by assumption)); (case sn => first | k_mem | k_asm | exact Sm.of_res (by assumption) (fm_lo (by assumption) _) (fm_hi (by assumption) _) | exact Sm.of_res (by assumption) (by assumption) (by assumption)); (case si => first | k_mem | k_asm | exact Sm.of_res (by assumption) (fm_lo (by assumption) _) (fm_hi (by assumption) _) | exact Sm.of_res (by assumption) (by assumption) (by assumption)); k_whole); intro x' d' h' t1' t2' t3' t4' tk' F' N' l1 l2; (try k_sweep); (try dsimp only [PySem.W.CmpBack, PySem.W.InitBack, PySem.W.LenBack, PySem.W.StrBack, PySem.W.BoolBack])))
local macro_rules | `(tactic| k_enter) => `(tactic| ((with_reducible show codeAny _ _ (Code.call (Value.ref 218) _) _ _); k_dflt (refine' mul_r_P ?B ?F ?X ?N ?T ?hf ?hk ?hd ?hm ?hx ?hdx ?hx2 ?hdx2 ?sn ?si ?_; (case B => k_asm); (case F => k_asm); (case X => k_asm); (case N => k_asm); (case T => k_asm); (case hf => first | exact rfl | assumption); (case hk => first | exact rfl | assumption); (case hd => k_room); (case hm => k_asm); (case hx => first | k_mem | k_asm | exact Sm.of_res (by assumption) (fm_lo (by assumption) _) (fm_hi (by assumption) _) | exact Sm.of_res (by assumption) (by assumption) (by assumption)); (case hdx => first | k_mem | k_asm | exact Sm.of_res (by assumption) (fm_lo (by assumption) _) (fm_hi (by assumption) _) | exact Sm.of_res (by assumption) (by assumption) (by assumption)); (case hx2 => first | k_mem | k_asm | exact Sm.of_res (by assumption) (fm_lo (by assumption) _) (fm_hi (by assumption) _) | exact Sm.of_res (by assumption) (by assumption) (by assumption)); (case hdx2 => first | k_mem | k_asm | exact Sm.of_res (by assumption) (fm_lo (by assumption) _) (fm_hi (by assumption) _) | exact Sm.of_res (by assumption) (by assumption) (by assumption)); (case sn => first | k_mem | k_asm | exact Sm.of_res (by assumption) (fm_lo (by assumption) _) (fm_hi (by assumption) _) | exact Sm.of_res (by assumption) (by assumption) (by assumption)); (case si => first | k_mem | k_asm | exact Sm.of_res (by assumption) (fm_lo (by assumption) _) (fm_hi (by assumption) _) | exact Sm.of_res (by assumption) (by assumption) (by assumption)); k_whole); intro x' d' h' t1' t2' t3' t4' tk' F' N' l1 l2; (try k_sweep); (try dsimp only [PySem.W.CmpBack, PySem.W.InitBack, PySem.W.LenBack, PySem.W.StrBack, PySem.W.BoolBack])))
local macro_rules | `(tactic| k_enter) => `(tactic| ((with_reducible show codeAny _ _ (Code.call (Value.ref 239) _) _ _); k_dflt (refine' rsub_i_P ?B ?F ?X ?N ?T ?hf ?hk ?hd ?hm ?hx ?hdx ?_; (case B => k_asm); (case F => k_asm); (case X => k_asm); (case N => k_asm); (case T => k_asm); (case hf => first | exact rfl | assumption); (case hk => first | exact rfl | assumption); (case hd => k_room); (case hm => k_asm); (case hx => first | k_mem | k_asm | exact Sm.of_res (by assumption) (fm_lo (by assumption) _) (fm_hi (by assumption) _) | exact Sm.of_res (by assumption) (by assumption) (by assumption)); (case hdx => first | k_mem | k_asm | exact Sm.of_res (by assumption) (fm_lo (by assumption) _) (fm_hi (by assumption) _) | exact Sm.of_res (by assumption) (by assumption) (by assumption)); k_whole); intro x' d' h' t1' t2' t3' t4' tk' F' N' l1 l2; (try k_sweep); (try dsimp only [PySem.W.CmpBack, PySem.W.InitBack, PySem.W.LenBack, PySem.W.StrBack, PySem.W.BoolBack])))
local macro_rules | `(tactic| k_enter) => `(tactic| ((with_reducible show codeAny _ _ (Code.call (Value.ref 288) _) _ _); k_dflt (refine' neg_P ?B ?F ?X ?N ?T ?hf ?hk ?hd ?hm ?hx ?hdx ?_; (case B => k_asm); (case F => k_asm); (case X => k_asm); (case N => k_asm); (case T => k_asm); (case hf => first | exact rfl | assumption); (case hk => first | exact rfl | assumption); (case hd => k_room); (case hm => k_asm); (case hx => first | k_mem | k_asm | exact Sm.of_res (by assumption) (fm_lo (by assumption) _) (fm_hi (by assumption) _) | exact Sm.of_res (by assumption) (by assumption) (by assumption)); (case hdx => first | k_mem | k_asm | exact Sm.of_res (by assumption) (fm_lo (by assumption) _) (fm_hi (by assumption) _) | exact Sm.of_res (by assumption) (by assumption) (by assumption)); k_whole); intro x' d' h' t1' t2' t3' t4' tk' F' N' l1 l2; (try k_sweep); (try dsimp only [PySem.W.CmpBack, PySem.W.InitBack, PySem.W.LenBack, PySem.W.StrBack, PySem.W.BoolBack])))
local macro_rules | `(tactic| k_enter) => `(tactic| ((with_reducible show codeAny _ _ (Code.call (Value.ref 49) _) _ _); k_dflt (refine' add_i_O ?B ?F ?X ?N ?T ?hf ?hk ?hd ?hm ?hx ?hdx ?_; (case B => k_asm); (case F => k_asm); (case X => k_asm); (case N => k_asm); (case T => k_asm); (case hf => first | exact rfl | assumption); (case hk => first | exact rfl | assumption); (case hd => k_room); (case hm => k_asm); (case hx => first | k_mem | k_asm | exact Sm.of_res (by assumption) (fm_lo (by assumption) _) (fm_hi (by assumption) _) | exact Sm.of_res (by assumption) (by assumption) (by assumption)); (case hdx => first | k_mem | k_asm | exact Sm.of_res (by assumption) (fm_lo (by assumption) _) (fm_hi (by assumption) _) | exact Sm.of_res (by assumption) (by assumption) (by assumption)); k_whole); intro x' d' h' t1' t2' t3' t4' tk' F' N' l1 l2; (try k_sweep); (try dsimp only [PySem.W.CmpBack, PySem.W.InitBack, PySem.W.LenBack, PySem.W.StrBack, PySem.W.BoolBack])))
local macro_rules | `(tactic| k_enter) => `(tactic| ((with_reducible show codeAny _ _ (Code.call (Value.ref 49) _) _ _); k_dflt (refine' add_r_O ?B ?F ?X ?N ?T ?hf ?hk ?hd ?hm ?hx ?hdx ?hx2 ?hdx2 ?_; (case B => k_asm); (case F => k_asm); (case X => k_asm); (case N => k_asm); (case T => k_asm); (case hf => first | exact rfl | assumption); (case hk => first | exact rfl | assumption); (case hd => k_room); (case hm => k_asm); (case hx => first | k_mem | k_asm | exact Sm.of_res (by assumption) (fm_lo (by assumption) _) (fm_hi (by assumption) _) | exact Sm.of_res (by assumption) (by assumption) (by assumption)); (case hdx => first | k_mem | k_asm | exact Sm.of_res (by assumption) (fm_lo (by assumption) _) (fm_hi (by assumption) _) | exact Sm.of_res (by assumption) (by assumption) (by assumption)); (case hx2 => first | k_mem | k_asm | exact Sm.of_res (by assumption) (fm_lo (by assumption) _) (fm_hi (by assumption) _) | exact Sm.of_res (by assumption) (by assumption) (by assumption)); (case hdx2 => first | k_mem | k_asm | exact Sm.of_res (by assumption) (fm_lo (by assumption) _) (fm_hi (by assumption) _) | exact Sm.of_res (by assumption) (by assumption) (by assumption)); k_whole); intro x' d' h' t1' t2' t3' t4' tk' F' N' l1 l2; (try k_sweep); (try dsimp only [PySem.W.CmpBack, PySem.W.InitBack, PySem.W.LenBack, PySem.W.StrBack, PySem.W.BoolBack])))
local macro_rules | `(tactic| k_enter) => `(tactic| ((with_reducible show codeAny _ _ (Code.call (Value.ref 84) _) _ _); k_dflt (refine' sub_i_O ?B ?F ?X ?N ?T ?hf ?hk ?hd ?hm ?hx ?hdx ?_; (case B => k_asm); (case F => k_asm); (case X => k_asm); (case N => k_asm); (case T => k_asm); (case hf => first | exact rfl | assumption); (case hk => first | exact rfl | assumption); (case hd => k_room); (case hm => k_asm); (case hx => first | k_mem | k_asm | exact Sm.of_res (by assumption) (fm_lo (by assumption) _) (fm_hi (by assumption) _) | exact Sm.of_res (by assumption) (by assumption) (by assumption)); (case hdx => first | k_mem | k_asm | exact Sm.of_res (by assumption) (fm_lo (by assumption) _) (fm_hi (by assumption) _) | exact Sm.of_res (by assumption) (by assumption) (by assumption)); k_whole); intro x' d' h' t1' t2' t3' t4' tk' F' N' l1 l2; (try k_sweep); (try dsimp only [PySem.W.CmpBack, PySem.W.InitBack, PySem.W.LenBack, PySem.W.StrBack, PySem.W.BoolBack])))
local macro_rules | `(tactic| k_enter) => `(tactic| ((with_reducible show codeAny _ _ (Code.call (Value.ref 84) _) _ _); k_dflt (refine' sub_r_O ?B ?F ?X ?N ?T ?hf ?hk ?hd ?hm ?hx ?hdx ?hx2 ?hdx2 ?_; (case B => k_asm); (case F => k_asm); (case X => k_asm); (case N => k_asm); (case T => k_asm); (case hf => first | exact rfl | assumption); (case hk => first | exact rfl | assumption); (case hd => k_room); (case hm => k_asm); (case hx => first | k_mem | k_asm | exact Sm.of_res (by assumption) (fm_lo (by assumption) _) (fm_hi (by assumption) _) | exact Sm.of_res (by assumption) (by assumption) (by assumption)); (case hdx => first | k_mem | k_asm | exact Sm.of_res (by assumption) (fm_lo (by assumption) _) (fm_hi (by assumption) _) | exact Sm.of_res (by assumption) (by assumption) (by assumption)); (case hx2 => first | k_mem | k_asm | exact Sm.of_res (by assumption) (fm_lo (by assumption) _) (fm_hi (by assumption) _) | exact Sm.of_res (by assumption) (by assumption) (by assumption)); (case hdx2 => first | k_mem | k_asm | exact Sm.of_res (by assumption) (fm_lo (by assumption) _) (fm_hi (by assumption) _) | exact Sm.of_res (by assumption) (by assumption) (by assumption)); k_whole); intro x' d' h' t1' t2' t3' t4' tk' F' N' l1 l2; (try k_sweep); (try dsimp only [PySem.W.CmpBack, PySem.W.InitBack, PySem.W.LenBack, PySem.W.StrBack, PySem.W.BoolBack])))
local macro_rules | `(tactic| k_enter) => `(tactic| ((with_reducible show codeAny _ _ (Code.call (Value.ref 56) _) _ _); k_dflt (refine' mul_i_O ?B ?F ?X ?N ?T ?hf ?hk ?hd ?hm ?hx ?hdx ?sn ?si ?_; (case B => k_asm); (case F => k_asm); (case X => k_asm); (case N => k_asm); (case T => k_asm); (case hf => first | exact rfl | assumption); (case hk => first | exact rfl | assumption); (case hd => k_room); (case hm => k_asm); (case hx => first | k_mem | k_asm | exact Sm.of_res (by assumption) (fm_lo (by assumption) _) (fm_hi (by assumption) _) | exact Sm.of_res (by assumption) (by assumption) (by assumption)); (case hdx => first | k_mem | k_asm | exact Sm.of_res (by assumption) (fm_lo (by assumption) _) (fm_hi (by assumption) _) | exact Sm.of_res (by assumption) (by assumption) (by assumption)); (case sn => first | k_mem | k_asm | exact Sm.of_res (by assumption) (fm_lo (by assumption) _) (fm_hi (by assumption) _) | exact Sm.of_res (by assumption) (by assumption) (by assumption)); (case si => first | k_mem | k_asm | exact Sm.of_res (by assumption) (fm_lo (by assumption) _) (fm_hi (by assumption) _) | exact Sm.of_res (by assumption) (by assumption) (by assumption)); k_whole); intro x' d' h' t1' t2' t3' t4' tk' F' N' l1 l2; (try k_sweep); (try dsimp only [PySem.W.CmpBack, PySem.W.InitBack, PySem.W.LenBack, PySem.W.StrBack, PySem.W.BoolBack])))
local macro_rules | `(tactic| k_enter) => `(tactic| ((with_reducible show codeAny _ _ (Code.call (Value.ref 56) _) _ _); k_dflt (refine' mul_r_O ?B ?F ?X ?N ?T ?hf ?hk ?hd ?hm ?hx ?hdx ?hx2 ?hdx2 ?sn ?si ?_; (case B => k_asm); (case F => k_asm); (case X => k_asm); (case N => k_asm); (case T => k_asm); (case hf => first | exact rfl | assumption); (case hk => first | exact rfl | assumption); (case hd => k_room); (case hm => k_asm); (case hx => first | k_mem | k_asm | exact Sm.of_res (by assumption) (fm_lo (by assumption) _) (fm_hi (by assumption) _) | exact Sm.of_res (by assumption) (by assumption) (by assumption)); (case hdx => first | k_mem | k_asm | exact Sm.of_res (by assumption) (fm_lo (by assumption) _) (fm_hi (by assumption) _) | exact Sm.of_res (by assumption) (by assumption) (by assumption)); (case hx2 => first | k_mem | k_asm | exact Sm.of_res (by assumption) (fm_lo (by assumption) _) (fm_hi (by assumption) _) | exact Sm.of_res (by assumption) (by assumption) (by assumption)); (case hdx2 => first | k_mem | k_asm | exact Sm.of_res (by assumption) (fm_lo (by assumption) _) (fm_hi (by assumption) _) | exact Sm.of_res (by assumption) (by assumption) (by assumption)); (case sn => first | k_mem | k_asm | exact Sm.of_res (by assumption) (fm_lo (by assumption) _) (fm_hi (by assumption) _) | exact Sm.of_res (by assumption) (by assumption) (by assumption)); (case si => first | k_mem | k_asm | exact Sm.of_res (by assumption) (fm_lo (by assumption) _) (fm_hi (by assumption) _) | exact Sm.of_res (by assumption) (by assumption) (by assumption)); k_whole); intro x' d' h' t1' t2' t3' t4' tk' F' N' l1 l2; (try k_sweep); (try dsimp only [PySem.W.CmpBack, PySem.W.InitBack, PySem.W.LenBack, PySem.W.StrBack, PySem.W.BoolBack])))
local macro_rules | `(tactic| k_enter) => `(tactic| ((with_reducible show codeAny _ _ (Code.call (Value.ref 77) _) _ _); k_dflt (refine' rsub_i_O ?B ?F ?X ?N ?T ?hf ?hk ?hd ?hm ?hx ?hdx ?_; (case B => k_asm); (case F => k_asm); (case X => k_asm); (case N => k_asm); (case T => k_asm); (case hf => first | exact rfl | assumption); (case hk => first | exact rfl | assumption); (case hd => k_room); (case hm => k_asm); (case hx => first | k_mem | k_asm | exact Sm.of_res (by assumption) (fm_lo (by assumption) _) (fm_hi (by assumption) _) | exact Sm.of_res (by assumption) (by assumption) (by assumption)); (case hdx => first | k_mem | k_asm | exact Sm.of_res (by assumption) (fm_lo (by assumption) _) (fm_hi (by assumption) _) | exact Sm.of_res (by assumption) (by assumption) (by assumption)); k_whole); intro x' d' h' t1' t2' t3' t4' tk' F' N' l1 l2; (try k_sweep); (try dsimp only [PySem.W.CmpBack, PySem.W.InitBack, PySem.W.LenBack, PySem.W.StrBack, PySem.W.BoolBack])))
local macro_rules | `(tactic| k_enter) => `(tactic| ((with_reducible show codeAny _ _ (Code.call (Value.ref 133) _) _ _); k_dflt (refine' neg_O ?B ?F ?X ?N ?T ?hf ?hk ?hd ?hm ?hx ?hdx ?_; (case B => k_asm); (case F => k_asm); (case X => k_asm); (case N => k_asm); (case T => k_asm); (case hf => first | exact rfl | assumption); (case hk => first | exact rfl | assumption); (case hd => k_room); (case hm => k_asm); (case hx => first | k_mem | k_asm | exact Sm.of_res (by assumption) (fm_lo (by assumption) _) (fm_hi (by assumption) _) | exact Sm.of_res (by assumption) (by assumption) (by assumption)); (case hdx => first | k_mem | k_asm | exact Sm.of_res (by assumption) (fm_lo (by assumption) _) (fm_hi (by assumption) _) | exact Sm.of_res (by assumption) (by assumption) (by assumption)); k_whole); intro x' d' h' t1' t2' t3' t4' tk' F' N' l1 l2; (try k_sweep); (try dsimp only [PySem.W.CmpBack, PySem.W.InitBack, PySem.W.LenBack, PySem.W.StrBack, PySem.W.BoolBack])))
local macro_rules | `(tactic| k_enter) => `(tactic| ((with_reducible show codeAny _ _ (Code.call (Value.ref 267) _) _ _); k_extra "enter"))
local macro_rules | `(tactic| k_enter) => `(tactic| ((with_reducible show codeAny _ _ (Code.call (Value.ref 112) _) _ _); k_extra "enter"))

set_option maxHeartbeats 4000000 in
theorem pow_go_P (k : Nat) : ∀ {A₀ : Around} {s : Shared} {d u : Nat} {gs : Option (List Code)} {env : Env} {outer : List Env} {base h₀ : Heap} {L : Addr} {m mg mb : Str → Option Value} {p : Program} {loose : List Str} {mean : ExcName → Option Value} {news : List (Addr × Obj)} {R : Result → Shared → Prop}
    {y dy : Addr} {a1 a2 a3 a4 : Tok} {md n e : Int} {t : Tok} (B : Below A₀ base outer h₀) (F : Fr h₀ L s.heap m) (X : (Mine.hd.heap_1 w.params).In h₀) (N : News h₀ L s.heap news) (T : Top p loose mean mg mb h₀) (hf : env.frame = some L) (hke : env.scope.kind = .function) (hdp : d + 10 * k ≤ 950) (hmd : 2 ≤ md) (hS : Sm md) (hx : (y, instObj 333 dy) ∈ news) (hdx : (dy, FQD w.params a1 a2 a3 a4 md n) ∈ news) (sn : Sm n) (he0 : 0 ≤ e) (hek : e < 2 ^ k)
    (h : ∀ x dx h' t1 t2 t3 t4 tk, Fr h₀ L h' m → News h₀ L h' ((x, instObj 333 dx) :: (dx, FQD w.params t1 t2 t3 t4 md ((n ^ e.toNat).fmod md)) :: news) → (∀ p ∈ news, p.1 < dx) → dx < x → R (.ok (.ret (.ref x))) { s with heap := h', toks := tk }),
    codeAny (model prog w) ⟨none, d, some (env :: outer), gs, u⟩ (.call (.ref 267) ⟨[.ref y, .int e t], []⟩) R s := by
  induction k with
  | zero =>
    intro A₀ s d u gs env outer base h₀ L m mg mb p loose mean news R y dy a1 a2 a3 a4 md n e t B F X N T hf hke hdp hmd hS hx hdx sn he0 hek h
    have he : e = 0 := by omega
    subst he
    replace N := news_show2 N (by repeat (first | exact sub_refl | apply sub_tail)) hx hdx
    (refine' code_def (binds := [("self", .ref y), ("other", .int 0 t)]) ?k1 ?k2 ?k3 ?k4 ?k5 ?kA ?kF ?kK ?k6 ?k7 ?k8 ?k9 ?kB ?_ ?c2 ?c3 ?c4 ?c5; (case kA => exact rfl); (case kF => exact hf); (case kK => exact hke); (case k1 => k_asm); (case k2 => k_asm); (case k3 => k_asm); (case k4 => k_asm); (case k5 => k_asm); (case k6 => k_is); (case k7 => k_is); (case k8 => k_room); (case k9 => exact BindsTo.of_eq rfl); (case c5 => decide); (case kB => exact locs rfl); (case c2 => exact rfl); (case c3 => exact rfl); (case c4 => exact rfl); k_whole; intro g' L' h' FG' F' N' B' X' T')
    clear B X T
    k_fold
    k_steps
    refine leaveK_ (by k_asm) (by k_asm) fun kF kN => ?_
    rw [show Int.toNat 0 = 0 from rfl, Int.pow_zero] at h
    exact h _ _ _ _ _ _ _ _ kF (news_sub kN (sub2 (by repeat (first | exact sub_refl | apply sub_tail)) (by k_mem) (by k_mem))) (fresh_of (by assumption) (by repeat (first | exact sub_refl | apply sub_tail))) (by assumption)
  | succ k ih =>
    intro A₀ s d u gs env outer base h₀ L m mg mb p loose mean news R y dy a1 a2 a3 a4 md n e t B F X N T hf hke hdp hmd hS hx hdx sn he0 hek h
    k_with_none
    k_with "enter" => k_dflt (refine' ih ?B ?F ?X ?N ?T ?hf ?hk ?hd ?hm ?hS ?hx ?hdx ?sn ?h0 ?h1 ?_; (case B => k_asm); (case F => k_asm); (case X => k_asm); (case N => k_asm); (case T => k_asm); (case hf => first | exact rfl | assumption); (case hk => first | exact rfl | assumption); (case hd => k_room); (case hm => k_asm); (case hS => k_asm); (case hx => k_mem); (case hdx => k_mem); (case sn => exact Sm.of_res hS (fm_lo hmd _) (fm_hi hmd _)); (case h0 => exact (pw_half (by assumption) (by assumption) he0 hek).1); (case h1 => exact (pw_half (by assumption) (by assumption) he0 hek).2); k_whole); intro x' d' h' t1' t2' t3' t4' tk' F' N' l1 l2; (try k_sweep); (try dsimp only [PySem.W.CmpBack, PySem.W.InitBack])
    replace N := news_show2 N (by repeat (first | exact sub_refl | apply sub_tail)) hx hdx
    (refine' code_def (binds := [("self", .ref y), ("other", .int e t)]) ?k1 ?k2 ?k3 ?k4 ?k5 ?kA ?kF ?kK ?k6 ?k7 ?k8 ?k9 ?kB ?_ ?c2 ?c3 ?c4 ?c5; (case kA => exact rfl); (case kF => exact hf); (case kK => exact hke); (case k1 => k_asm); (case k2 => k_asm); (case k3 => k_asm); (case k4 => k_asm); (case k5 => k_asm); (case k6 => k_is); (case k7 => k_is); (case k8 => k_room); (case k9 => exact BindsTo.of_eq rfl); (case c5 => decide); (case kB => exact locs rfl); (case c2 => exact rfl); (case c3 => exact rfl); (case c4 => exact rfl); k_whole; intro g' L' h' FG' F' N' B' X' T')
    clear B X T
    k_fold
    k_steps
    · refine leaveK_ (by k_asm) (by k_asm) fun kF kN => ?_
      rw [show e.toNat = 0 by omega, Int.pow_zero] at h
      exact h _ _ _ _ _ _ _ _ kF (news_sub kN (sub2 (by repeat (first | exact sub_refl | apply sub_tail)) (by k_mem) (by k_mem))) (fresh_of (by assumption) (by repeat (first | exact sub_refl | apply sub_tail))) (by assumption)
    · refine leaveK_ (by k_asm) (by k_asm) fun kF kN => ?_
      rw [show e.toNat = 0 + 1 by omega, Int.pow_succ, Int.pow_zero, Int.one_mul] at h
      exact h _ _ _ _ _ _ _ _ kF (news_sub kN (sub2 (by repeat (first | exact sub_refl | apply sub_tail)) (by k_mem) (by k_mem))) (fresh_of (by assumption) (by repeat (first | exact sub_refl | apply sub_tail))) (by assumption)
    · refine leaveK_ (by k_asm) (by k_asm) fun kF kN => ?_
      rw [pw_even hmd he0 (by assumption)] at kN
      exact h _ _ _ _ _ _ _ _ kF (news_sub kN (sub2 (by repeat (first | exact sub_refl | apply sub_tail)) (by k_mem) (by k_mem))) (fresh_of (by assumption) (by repeat (first | exact sub_refl | apply sub_tail))) (by assumption)
    · refine leaveK_ (by k_asm) (by k_asm) fun kF kN => ?_
      rw [pw_odd hmd he0 (by assumption)] at kN
      exact h _ _ _ _ _ _ _ _ kF (news_sub kN (sub2 (by repeat (first | exact sub_refl | apply sub_tail)) (by k_mem) (by k_mem))) (fresh_of (by assumption) (by repeat (first | exact sub_refl | apply sub_tail))) (by assumption)
    k_with_none

set_option maxHeartbeats 4000000 in
theorem pow_go_O (k : Nat) : ∀ {A₀ : Around} {s : Shared} {d u : Nat} {gs : Option (List Code)} {env : Env} {outer : List Env} {base h₀ : Heap} {L : Addr} {m mg mb : Str → Option Value} {p : Program} {loose : List Str} {mean : ExcName → Option Value} {news : List (Addr × Obj)} {R : Result → Shared → Prop}
    {y dy : Addr} {a1 a2 a3 a4 : Tok} {md n e : Int} {t : Tok} (B : Below A₀ base outer h₀) (F : Fr h₀ L s.heap m) (X : (Mine.hd.heap_1 w.params).In h₀) (N : News h₀ L s.heap news) (T : Top p loose mean mg mb h₀) (hf : env.frame = some L) (hke : env.scope.kind = .function) (hdp : d + 10 * k ≤ 950) (hmd : 2 ≤ md) (hS : Sm md) (hx : (y, instObj 186 dy) ∈ news) (hdx : (dy, FQD w.params a1 a2 a3 a4 md n) ∈ news) (sn : Sm n) (he0 : 0 ≤ e) (hek : e < 2 ^ k)
    (h : ∀ x dx h' t1 t2 t3 t4 tk, Fr h₀ L h' m → News h₀ L h' ((x, instObj 186 dx) :: (dx, FQD w.params t1 t2 t3 t4 md ((n ^ e.toNat).fmod md)) :: news) → (∀ p ∈ news, p.1 < dx) → dx < x → R (.ok (.ret (.ref x))) { s with heap := h', toks := tk }),
    codeAny (model prog w) ⟨none, d, some (env :: outer), gs, u⟩ (.call (.ref 112) ⟨[.ref y, .int e t], []⟩) R s := by
  induction k with
  | zero =>
    intro A₀ s d u gs env outer base h₀ L m mg mb p loose mean news R y dy a1 a2 a3 a4 md n e t B F X N T hf hke hdp hmd hS hx hdx sn he0 hek h
    have he : e = 0 := by omega
    subst he
    replace N := news_show2 N (by repeat (first | exact sub_refl | apply sub_tail)) hx hdx
    (refine' code_def (binds := [("self", .ref y), ("other", .int 0 t)]) ?k1 ?k2 ?k3 ?k4 ?k5 ?kA ?kF ?kK ?k6 ?k7 ?k8 ?k9 ?kB ?_ ?c2 ?c3 ?c4 ?c5; (case kA => exact rfl); (case kF => exact hf); (case kK => exact hke); (case k1 => k_asm); (case k2 => k_asm); (case k3 => k_asm); (case k4 => k_asm); (case k5 => k_asm); (case k6 => k_is); (case k7 => k_is); (case k8 => k_room); (case k9 => exact BindsTo.of_eq rfl); (case c5 => decide); (case kB => exact locs rfl); (case c2 => exact rfl); (case c3 => exact rfl); (case c4 => exact rfl); k_whole; intro g' L' h' FG' F' N' B' X' T')
    clear B X T
    k_fold
    k_steps
    refine leaveK_ (by k_asm) (by k_asm) fun kF kN => ?_
    rw [show Int.toNat 0 = 0 from rfl, Int.pow_zero] at h
    exact h _ _ _ _ _ _ _ _ kF (news_sub kN (sub2 (by repeat (first | exact sub_refl | apply sub_tail)) (by k_mem) (by k_mem))) (fresh_of (by assumption) (by repeat (first | exact sub_refl | apply sub_tail))) (by assumption)
  | succ k ih =>
    intro A₀ s d u gs env outer base h₀ L m mg mb p loose mean news R y dy a1 a2 a3 a4 md n e t B F X N T hf hke hdp hmd hS hx hdx sn he0 hek h
    k_with_none
    k_with "enter" => k_dflt (refine' ih ?B ?F ?X ?N ?T ?hf ?hk ?hd ?hm ?hS ?hx ?hdx ?sn ?h0 ?h1 ?_; (case B => k_asm); (case F => k_asm); (case X => k_asm); (case N => k_asm); (case T => k_asm); (case hf => first | exact rfl | assumption); (case hk => first | exact rfl | assumption); (case hd => k_room); (case hm => k_asm); (case hS => k_asm); (case hx => k_mem); (case hdx => k_mem); (case sn => exact Sm.of_res hS (fm_lo hmd _) (fm_hi hmd _)); (case h0 => exact (pw_half (by assumption) (by assumption) he0 hek).1); (case h1 => exact (pw_half (by assumption) (by assumption) he0 hek).2); k_whole); intro x' d' h' t1' t2' t3' t4' tk' F' N' l1 l2; (try k_sweep); (try dsimp only [PySem.W.CmpBack, PySem.W.InitBack])
    replace N := news_show2 N (by repeat (first | exact sub_refl | apply sub_tail)) hx hdx
    (refine' code_def (binds := [("self", .ref y), ("other", .int e t)]) ?k1 ?k2 ?k3 ?k4 ?k5 ?kA ?kF ?kK ?k6 ?k7 ?k8 ?k9 ?kB ?_ ?c2 ?c3 ?c4 ?c5; (case kA => exact rfl); (case kF => exact hf); (case kK => exact hke); (case k1 => k_asm); (case k2 => k_asm); (case k3 => k_asm); (case k4 => k_asm); (case k5 => k_asm); (case k6 => k_is); (case k7 => k_is); (case k8 => k_room); (case k9 => exact BindsTo.of_eq rfl); (case c5 => decide); (case kB => exact locs rfl); (case c2 => exact rfl); (case c3 => exact rfl); (case c4 => exact rfl); k_whole; intro g' L' h' FG' F' N' B' X' T')
    clear B X T
    k_fold
    k_steps
    · refine leaveK_ (by k_asm) (by k_asm) fun kF kN => ?_
      rw [show e.toNat = 0 by omega, Int.pow_zero] at h
      exact h _ _ _ _ _ _ _ _ kF (news_sub kN (sub2 (by repeat (first | exact sub_refl | apply sub_tail)) (by k_mem) (by k_mem))) (fresh_of (by assumption) (by repeat (first | exact sub_refl | apply sub_tail))) (by assumption)
    · refine leaveK_ (by k_asm) (by k_asm) fun kF kN => ?_
      rw [show e.toNat = 0 + 1 by omega, Int.pow_succ, Int.pow_zero, Int.one_mul] at h
      exact h _ _ _ _ _ _ _ _ kF (news_sub kN (sub2 (by repeat (first | exact sub_refl | apply sub_tail)) (by k_mem) (by k_mem))) (fresh_of (by assumption) (by repeat (first | exact sub_refl | apply sub_tail))) (by assumption)
    · refine leaveK_ (by k_asm) (by k_asm) fun kF kN => ?_
      rw [pw_even hmd he0 (by assumption)] at kN
      exact h _ _ _ _ _ _ _ _ kF (news_sub kN (sub2 (by repeat (first | exact sub_refl | apply sub_tail)) (by k_mem) (by k_mem))) (fresh_of (by assumption) (by repeat (first | exact sub_refl | apply sub_tail))) (by assumption)
    · refine leaveK_ (by k_asm) (by k_asm) fun kF kN => ?_
      rw [pw_odd hmd he0 (by assumption)] at kN
      exact h _ _ _ _ _ _ _ _ kF (news_sub kN (sub2 (by repeat (first | exact sub_refl | apply sub_tail)) (by k_mem) (by k_mem))) (fresh_of (by assumption) (by repeat (first | exact sub_refl | apply sub_tail))) (by assumption)
    k_with_none
end P_M10
section P_M15
local macro_rules | `(tactic| k_room) => `(tactic| ((try simp only [depth_under_make, depth_under_kw, depth_in1, depth_deeper, depth_caller, recursionLimit]); omega))
local macro_rules | `(tactic| k_all) => `(tactic| (intro p hp; exact Nat.ne_of_lt ((by assumption : ∀ p ∈ _, p.1 < _) p hp)))
local macro_rules | `(tactic| k_units) => `(tactic| ((try simp only [units_in1, units_deeper, Around.mark_units, units_caller, cLine]); omega))
local macro_rules | `(tactic| mul_fits) => `(tactic| exact mulOk_of (by first | assumption | exact Sm.of_res (by assumption) (by assumption) (by assumption)) (by first | assumption | exact Sm.of_res (by assumption) (by assumption) (by assumption)))
variable {prog : Program} {w : World} {A₀ : Around} {s : Shared} {d u : Nat} {gs : Option (List Code)} {env : Env} {outer : List Env} {base h₀ : Heap} {L : Addr} {m mg mb : Str → Option Value} {p : Program} {loose : List Str} {mean : ExcName → Option Value} {news : List (Addr × Obj)} {R : Result → Shared → Prop} {Q : Value → Shared → Prop} {E : Value → Shared → Prop}
local macro_rules | `(tactic| k_steps) => `(tactic| repeat' (first | (k_unfold; (try dsimp only)) | (dsimp only; k_unfold; (try dsimp only)) | walk1 | (dsimp only; walk1) | (leave1; walk_say "STEP leave1"; try dsimp only) | fail "no step"))

theorem pow_i_P {md n e : Int} {y dy : Addr} {a1 a2 a3 a4 : Tok} {t : Tok} (B : Below A₀ base outer h₀) (F : Fr h₀ L s.heap m) (X : (Mine.hd.heap_1 w.params).In h₀) (N : News h₀ L s.heap news) (T : Top p loose mean mg mb h₀) (hf : env.frame = some L) (hke : env.scope.kind = .function) (hdp : d ≤ 820) (hmd : 2 ≤ md) (hS : Sm md) (hx : (y, instObj 333 dy) ∈ news) (hdx : (dy, FQD w.params a1 a2 a3 a4 md n) ∈ news) (sn : Sm n) (he0 : 0 ≤ e) (he1 : e < 4096)
    (h : ∀ x dx h' t1 t2 t3 t4 tk, Fr h₀ L h' m → News h₀ L h' ((x, instObj 333 dx) :: (dx, FQD w.params t1 t2 t3 t4 md ((n ^ e.toNat).fmod md)) :: news) → (∀ p ∈ news, p.1 < dx) → dx < x → R (.ok (.ret (.ref x))) { s with heap := h', toks := tk }) :
    codeAny (model prog w) ⟨none, d, some (env :: outer), gs, u⟩ (.call (.ref 267) ⟨[.ref y, .int e t], []⟩) R s :=
  pow_go_P 12 B F X N T hf hke (by omega) hmd hS hx hdx sn he0 (Int.lt_of_lt_of_le he1 (by decide)) h

theorem pow_i_O {md n e : Int} {y dy : Addr} {a1 a2 a3 a4 : Tok} {t : Tok} (B : Below A₀ base outer h₀) (F : Fr h₀ L s.heap m) (X : (Mine.hd.heap_1 w.params).In h₀) (N : News h₀ L s.heap news) (T : Top p loose mean mg mb h₀) (hf : env.frame = some L) (hke : env.scope.kind = .function) (hdp : d ≤ 820) (hmd : 2 ≤ md) (hS : Sm md) (hx : (y, instObj 186 dy) ∈ news) (hdx : (dy, FQD w.params a1 a2 a3 a4 md n) ∈ news) (sn : Sm n) (he0 : 0 ≤ e) (he1 : e < 4096)
    (h : ∀ x dx h' t1 t2 t3 t4 tk, Fr h₀ L h' m → News h₀ L h' ((x, instObj 186 dx) :: (dx, FQD w.params t1 t2 t3 t4 md ((n ^ e.toNat).fmod md)) :: news) → (∀ p ∈ news, p.1 < dx) → dx < x → R (.ok (.ret (.ref x))) { s with heap := h', toks := tk }) :
    codeAny (model prog w) ⟨none, d, some (env :: outer), gs, u⟩ (.call (.ref 112) ⟨[.ref y, .int e t], []⟩) R s :=
  pow_go_O 12 B F X N T hf hke (by omega) hmd hS hx hdx sn he0 (Int.lt_of_lt_of_le he1 (by decide)) h
end P_M15
section P_M5
local macro_rules | `(tactic| k_room) => `(tactic| ((try simp only [depth_under_make, depth_under_kw, depth_in1, depth_deeper, depth_caller, recursionLimit]); omega))
local macro_rules | `(tactic| k_all) => `(tactic| (intro p hp; exact Nat.ne_of_lt ((by assumption : ∀ p ∈ _, p.1 < _) p hp)))
local macro_rules | `(tactic| k_units) => `(tactic| ((try simp only [units_in1, units_deeper, Around.mark_units, units_caller, cLine]); omega))
local macro_rules | `(tactic| mul_fits) => `(tactic| exact mulOk_of (by first | assumption | exact Sm.of_res (by assumption) (by assumption) (by assumption)) (by first | assumption | exact Sm.of_res (by assumption) (by assumption) (by assumption)))
variable {prog : Program} {w : World} {A₀ : Around} {s : Shared} {d u : Nat} {gs : Option (List Code)} {env : Env} {outer : List Env} {base h₀ : Heap} {L : Addr} {m mg mb : Str → Option Value} {p : Program} {loose : List Str} {mean : ExcName → Option Value} {news : List (Addr × Obj)} {R : Result → Shared → Prop} {Q : Value → Shared → Prop} {E : Value → Shared → Prop}
local macro_rules | `(tactic| k_steps) => `(tactic| repeat' (first | (k_unfold; (try dsimp only)) | (dsimp only; k_unfold; (try dsimp only)) | walk1 | (dsimp only; walk1) | (leave1; walk_say "STEP leave1"; try dsimp only) | fail "no step"))
local macro_rules | `(tactic| walk_at "call ref") => `(tactic| (k_here; (with_reducible show wpAny _ _ (call (Value.ref 333) [Value.int _ _, Value.int _ _]) _ _ _); k_dflt (refine' mk_P ?B ?F ?X ?N ?T ?hf ?hk ?hd ?hm ?_; (case B => k_asm); (case F => k_asm); (case X => k_asm); (case N => k_asm); (case T => k_asm); (case hf => first | exact rfl | assumption); (case hk => first | exact rfl | assumption); (case hd => k_room); (case hm => k_asm); k_whole); intro x' d' h' t1' t2' t3' t4' tk' F' N' l1 l2; (try k_sweep)))
local macro_rules | `(tactic| walk_at "call ref") => `(tactic| (k_here; (with_reducible show wpAny _ _ (call (Value.ref 186) [Value.int _ _, Value.int _ _]) _ _ _); k_dflt (refine' mk_O ?B ?F ?X ?N ?T ?hf ?hk ?hd ?hm ?_; (case B => k_asm); (case F => k_asm); (case X => k_asm); (case N => k_asm); (case T => k_asm); (case hf => first | exact rfl | assumption); (case hk => first | exact rfl | assumption); (case hd => k_room); (case hm => k_asm); k_whole); intro x' d' h' t1' t2' t3' t4' tk' F' N' l1 l2; (try k_sweep)))
local macro_rules | `(tactic| k_enter) => `(tactic| ((with_reducible show codeAny _ _ (Code.call (Value.ref 316) _) _ _); k_dflt (refine' made_P ?B ?F ?X ?N ?T ?hf ?hk ?hd ?hm ?hx ?hdx ?_; (case B => k_asm); (case F => k_asm); (case X => k_asm); (case N => k_asm); (case T => k_asm); (case hf => first | exact rfl | assumption); (case hk => first | exact rfl | assumption); (case hd => k_room); (case hm => k_asm); (case hx => first | k_mem | k_asm | exact Sm.of_res (by assumption) (fm_lo (by assumption) _) (fm_hi (by assumption) _) | exact Sm.of_res (by assumption) (by assumption) (by assumption)); (case hdx => first | k_mem | k_asm | exact Sm.of_res (by assumption) (fm_lo (by assumption) _) (fm_hi (by assumption) _) | exact Sm.of_res (by assumption) (by assumption) (by assumption)); k_whole); intro x' d' h' t1' t2' t3' t4' tk' F' N' l1 l2; (try k_sweep); (try dsimp only [PySem.W.CmpBack, PySem.W.InitBack, PySem.W.LenBack, PySem.W.StrBack, PySem.W.BoolBack])))
local macro_rules | `(tactic| k_enter) => `(tactic| ((with_reducible show codeAny _ _ (Code.call (Value.ref 169) _) _ _); k_dflt (refine' made_O ?B ?F ?X ?N ?T ?hf ?hk ?hd ?hm ?hx ?hdx ?_; (case B => k_asm); (case F => k_asm); (case X => k_asm); (case N => k_asm); (case T => k_asm); (case hf => first | exact rfl | assumption); (case hk => first | exact rfl | assumption); (case hd => k_room); (case hm => k_asm); (case hx => first | k_mem | k_asm | exact Sm.of_res (by assumption) (fm_lo (by assumption) _) (fm_hi (by assumption) _) | exact Sm.of_res (by assumption) (by assumption) (by assumption)); (case hdx => first | k_mem | k_asm | exact Sm.of_res (by assumption) (fm_lo (by assumption) _) (fm_hi (by assumption) _) | exact Sm.of_res (by assumption) (by assumption) (by assumption)); k_whole); intro x' d' h' t1' t2' t3' t4' tk' F' N' l1 l2; (try k_sweep); (try dsimp only [PySem.W.CmpBack, PySem.W.InitBack, PySem.W.LenBack, PySem.W.StrBack, PySem.W.BoolBack])))
local macro_rules | `(tactic| k_enter) => `(tactic| ((with_reducible show codeAny _ _ (Code.call (Value.ref 211) _) _ _); k_dflt (refine' add_i_P ?B ?F ?X ?N ?T ?hf ?hk ?hd ?hm ?hx ?hdx ?_; (case B => k_asm); (case F => k_asm); (case X => k_asm); (case N => k_asm); (case T => k_asm); (case hf => first | exact rfl | assumption); (case hk => first | exact rfl | assumption); (case hd => k_room); (case hm => k_asm); (case hx => first | k_mem | k_asm | exact Sm.of_res (by assumption) (fm_lo (by assumption) _) (fm_hi (by assumption) _) | exact Sm.of_res (by assumption) (by assumption) (by assumption)); (case hdx => first | k_mem | k_asm | exact Sm.of_res (by assumption) (fm_lo (by assumption) _) (fm_hi (by assumption) _) | exact Sm.of_res (by assumption) (by assumption) (by assumption)); k_whole); intro x' d' h' t1' t2' t3' t4' tk' F' N' l1 l2; (try k_sweep); (try dsimp only [PySem.W.CmpBack, PySem.W.InitBack, PySem.W.LenBack, PySem.W.StrBack, PySem.W.BoolBack])))
local macro_rules | `(tactic| k_enter) => `(tactic| ((with_reducible show codeAny _ _ (Code.call (Value.ref 211) _) _ _); k_dflt (refine' add_r_P ?B ?F ?X ?N ?T ?hf ?hk ?hd ?hm ?hx ?hdx ?hx2 ?hdx2 ?_; (case B => k_asm); (case F => k_asm); (case X => k_asm); (case N => k_asm); (case T => k_asm); (case hf => first | exact rfl | assumption); (case hk => first | exact rfl | assumption); (case hd => k_room); (case hm => k_asm); (case hx => first | k_mem | k_asm | exact Sm.of_res (by assumption) (fm_lo (by assumption) _) (fm_hi (by assumption) _) | exact Sm.of_res (by assumption) (by assumption) (by assumption)); (case hdx => first | k_mem | k_asm | exact Sm.of_res (by assumption) (fm_lo (by assumption) _) (fm_hi (by assumption) _) | exact Sm.of_res (by assumption) (by assumption) (by assumption)); (case hx2 => first | k_mem | k_asm | exact Sm.of_res (by assumption) (fm_lo (by assumption) _) (fm_hi (by assumption) _) | exact Sm.of_res (by assumption) (by assumption) (by assumption)); (case hdx2 => first | k_mem | k_asm | exact Sm.of_res (by assumption) (fm_lo (by assumption) _) (fm_hi (by assumption) _) | exact Sm.of_res (by assumption) (by assumption) (by assumption)); k_whole); intro x' d' h' t1' t2' t3' t4' tk' F' N' l1 l2; (try k_sweep); (try dsimp only [PySem.W.CmpBack, PySem.W.InitBack, PySem.W.LenBack, PySem.W.StrBack, PySem.W.BoolBack])))
local macro_rules | `(tactic| k_enter) => `(tactic| ((with_reducible show codeAny _ _ (Code.call (Value.ref 246) _) _ _); k_dflt (refine' sub_i_P ?B ?F ?X ?N ?T ?hf ?hk ?hd ?hm ?hx ?hdx ?_; (case B => k_asm); (case F => k_asm); (case X => k_asm); (case N => k_asm); (case T => k_asm); (case hf => first | exact rfl | assumption); (case hk => first | exact rfl | assumption); (case hd => k_room); (case hm => k_asm); (case hx => first | k_mem | k_asm | exact Sm.of_res (by assumption) (fm_lo (by assumption) _) (fm_hi (by assumption) _) | exact Sm.of_res (by assumption) (by assumption) (by assumption)); (case hdx => first | k_mem | k_asm | exact Sm.of_res (by assumption) (fm_lo (by assumption) _) (fm_hi (by assumption) _) | exact Sm.of_res (by assumption) (by assumption) (by assumption)); k_whole); intro x' d' h' t1' t2' t3' t4' tk' F' N' l1 l2; (try k_sweep); (try dsimp only [PySem.W.CmpBack, PySem.W.InitBack, PySem.W.LenBack, PySem.W.StrBack, PySem.W.BoolBack])))
local macro_rules | `(tactic| k_enter) => `(tactic| ((with_reducible show codeAny _ _ (Code.call (Value.ref 246) _) _ _); k_dflt (refine' sub_r_P ?B ?F ?X ?N ?T ?hf ?hk ?hd ?hm ?hx ?hdx ?hx2 ?hdx2 ?_; (case B => k_asm); (case F => k_asm); (case X => k_asm); (case N => k_asm); (case T => k_asm); (case hf => first | exact rfl | assumption); (case hk => first | exact rfl | assumption); (case hd => k_room); (case hm => k_asm); (case hx => first | k_mem | k_asm | exact Sm.of_res (by assumption) (fm_lo (by assumption) _) (fm_hi (by assumption) _) | exact Sm.of_res (by assumption) (by assumption) (by assumption)); (case hdx => first | k_mem | k_asm | exact Sm.of_res (by assumption) (fm_lo (by assumption) _) (fm_hi (by assumption) _) | exact Sm.of_res (by assumption) (by assumption) (by assumption)); (case hx2 => first | k_mem | k_asm | exact Sm.of_res (by assumption) (fm_lo (by assumption) _) (fm_hi (by assumption) _) | exact Sm.of_res (by assumption) (by assumption) (by assumption)); (case hdx2 => first | k_mem | k_asm | exact Sm.of_res (by assumption) (fm_lo (by assumption) _) (fm_hi (by assumption) _) | exact Sm.of_res (by assumption) (by assumption) (by assumption)); k_whole); intro x' d' h' t1' t2' t3' t4' tk' F' N' l1 l2; (try k_sweep); (try dsimp only [PySem.W.CmpBack, PySem.W.InitBack, PySem.W.LenBack, PySem.W.StrBack, PySem.W.BoolBack])))
local macro_rules | `(tactic| k_enter) => `(tactic| ((with_reducible show codeAny _ _ (Code.call (Value.ref 218) _) _ _); k_dflt (refine' mul_i_P ?B ?F ?X ?N ?T ?hf ?hk ?hd ?hm ?hx ?hdx ?sn ?si ?_; (case B => k_asm); (case F => k_asm); (case X => k_asm); (case N => k_asm); (case T => k_asm); (case hf => first | exact rfl | assumption); (case hk => first | exact rfl | assumption); (case hd => k_room); (case hm => k_asm); (case hx => first | k_mem | k_asm | exact Sm.of_res (by assumption) (fm_lo (by assumption) _) (fm_hi (by assumption) _) | exact Sm.of_res (by assumption) (by assumption) (by assumption)); (case hdx => first | k_mem | k_asm | exact Sm.of_res (by assumption) (fm_lo (by assumption) _) (fm_hi (by assumption) _) | exact Sm.of_res (by assumption) (by assumption) (by assumption)); (case sn => first | k_mem | k_asm | exact Sm.of_res (by assumption) (fm_lo (by assumption) _) (fm_hi (by assumption) _) | exact Sm.of_res (by assumption) (by assumption) (by assumption)); (case si => first | k_mem | k_asm | exact Sm.of_res (by assumption) (fm_lo (by assumption) _) (fm_hi (by assumption) _) | exact Sm.of_res (by assumption) (by assumption) (by assumption)); k_whole); intro x' d' h' t1' t2' t3' t4' tk' F' N' l1 l2; (try k_sweep); (try dsimp only [PySem.W.CmpBack, PySem.W.InitBack, PySem.W.LenBack, PySem.W.StrBack, PySem.W.BoolBack])))
local macro_rules | `(tactic| k_enter) => `(tactic| ((with_reducible show codeAny _ _ (Code.call (Value.ref 218) _) _ _); k_dflt (refine' mul_r_P ?B ?F ?X ?N ?T ?hf ?hk ?hd ?hm ?hx ?hdx ?hx2 ?hdx2 ?sn ?si ?_; (case B => k_asm); (case F => k_asm); (case X => k_asm); (case N => k_asm); (case T => k_asm); (case hf => first | exact rfl | assumption); (case hk => first | exact rfl | assumption); (case hd => k_room); (case hm => k_asm); (case hx => first | k_mem | k_asm | exact Sm.of_res (by assumption) (fm_lo (by assumption) _) (fm_hi (by assumption) _) | exact Sm.of_res (by assumption) (by assumption) (by assumption)); (case hdx => first | k_mem | k_asm | exact Sm.of_res (by assumption) (fm_lo (by assumption) _) (fm_hi (by assumption) _) | exact Sm.of_res (by assumption) (by assumption) (by assumption)); (case hx2 => first | k_mem | k_asm | exact Sm.of_res (by assumption) (fm_lo (by assumption) _) (fm_hi (by assumption) _) | exact Sm.of_res (by assumption) (by assumption) (by assumption)); (case hdx2 => first | k_mem | k_asm | exact Sm.of_res (by assumption) (fm_lo (by assumption) _) (fm_hi (by assumption) _) | exact Sm.of_res (by assumption) (by assumption) (by assumption)); (case sn => first | k_mem | k_asm | exact Sm.of_res (by assumption) (fm_lo (by assumption) _) (fm_hi (by assumption) _) | exact Sm.of_res (by assumption) (by assumption) (by assumption)); (case si => first | k_mem | k_asm | exact Sm.of_res (by assumption) (fm_lo (by assumption) _) (fm_hi (by assumption) _) | exact Sm.of_res (by assumption) (by assumption) (by assumption)); k_whole); intro x' d' h' t1' t2' t3' t4' tk' F' N' l1 l2; (try k_sweep); (try dsimp only [PySem.W.CmpBack, PySem.W.InitBack, PySem.W.LenBack, PySem.W.StrBack, PySem.W.BoolBack])))
local macro_rules | `(tactic| k_enter) => `(tactic| ((with_reducible show codeAny _ _ (Code.call (Value.ref 239) _) _ _); k_dflt (refine' rsub_i_P ?B ?F ?X ?N ?T ?hf ?hk ?hd ?hm ?hx ?hdx ?_; (case B => k_asm); (case F => k_asm); (case X => k_asm); (case N => k_asm); (case T => k_asm); (case hf => first | exact rfl | assumption); (case hk => first | exact rfl | assumption); (case hd => k_room); (case hm => k_asm); (case hx => first | k_mem | k_asm | exact Sm.of_res (by assumption) (fm_lo (by assumption) _) (fm_hi (by assumption) _) | exact Sm.of_res (by assumption) (by assumption) (by assumption)); (case hdx => first | k_mem | k_asm | exact Sm.of_res (by assumption) (fm_lo (by assumption) _) (fm_hi (by assumption) _) | exact Sm.of_res (by assumption) (by assumption) (by assumption)); k_whole); intro x' d' h' t1' t2' t3' t4' tk' F' N' l1 l2; (try k_sweep); (try dsimp only [PySem.W.CmpBack, PySem.W.InitBack, PySem.W.LenBack, PySem.W.StrBack, PySem.W.BoolBack])))
local macro_rules | `(tactic| k_enter) => `(tactic| ((with_reducible show codeAny _ _ (Code.call (Value.ref 288) _) _ _); k_dflt (refine' neg_P ?B ?F ?X ?N ?T ?hf ?hk ?hd ?hm ?hx ?hdx ?_; (case B => k_asm); (case F => k_asm); (case X => k_asm); (case N => k_asm); (case T => k_asm); (case hf => first | exact rfl | assumption); (case hk => first | exact rfl | assumption); (case hd => k_room); (case hm => k_asm); (case hx => first | k_mem | k_asm | exact Sm.of_res (by assumption) (fm_lo (by assumption) _) (fm_hi (by assumption) _) | exact Sm.of_res (by assumption) (by assumption) (by assumption)); (case hdx => first | k_mem | k_asm | exact Sm.of_res (by assumption) (fm_lo (by assumption) _) (fm_hi (by assumption) _) | exact Sm.of_res (by assumption) (by assumption) (by assumption)); k_whole); intro x' d' h' t1' t2' t3' t4' tk' F' N' l1 l2; (try k_sweep); (try dsimp only [PySem.W.CmpBack, PySem.W.InitBack, PySem.W.LenBack, PySem.W.StrBack, PySem.W.BoolBack])))
local macro_rules | `(tactic| k_enter) => `(tactic| ((with_reducible show codeAny _ _ (Code.call (Value.ref 49) _) _ _); k_dflt (refine' add_i_O ?B ?F ?X ?N ?T ?hf ?hk ?hd ?hm ?hx ?hdx ?_; (case B => k_asm); (case F => k_asm); (case X => k_asm); (case N => k_asm); (case T => k_asm); (case hf => first | exact rfl | assumption); (case hk => first | exact rfl | assumption); (case hd => k_room); (case hm => k_asm); (case hx => first | k_mem | k_asm | exact Sm.of_res (by assumption) (fm_lo (by assumption) _) (fm_hi (by assumption) _) | exact Sm.of_res (by assumption) (by assumption) (by assumption)); (case hdx => first | k_mem | k_asm | exact Sm.of_res (by assumption) (fm_lo (by assumption) _) (fm_hi (by assumption) _) | exact Sm.of_res (by assumption) (by assumption) (by assumption)); k_whole); intro x' d' h' t1' t2' t3' t4' tk' F' N' l1 l2; (try k_sweep); (try dsimp only [PySem.W.CmpBack, PySem.W.InitBack, PySem.W.LenBack, PySem.W.StrBack, PySem.W.BoolBack])))
local macro_rules | `(tactic| k_enter) => `(tactic| ((with_reducible show codeAny _ _ (Code.call (Value.ref 49) _) _ _); k_dflt (refine' add_r_O ?B ?F ?X ?N ?T ?hf ?hk ?hd ?hm ?hx ?hdx ?hx2 ?hdx2 ?_; (case B => k_asm); (case F => k_asm); (case X => k_asm); (case N => k_asm); (case T => k_asm); (case hf => first | exact rfl | assumption); (case hk => first | exact rfl | assumption); (case hd => k_room); (case hm => k_asm); (case hx => first | k_mem | k_asm | exact Sm.of_res (by assumption) (fm_lo (by assumption) _) (fm_hi (by assumption) _) | exact Sm.of_res (by assumption) (by assumption) (by assumption)); (case hdx => first | k_mem | k_asm | exact Sm.of_res (by assumption) (fm_lo (by assumption) _) (fm_hi (by assumption) _) | exact Sm.of_res (by assumption) (by assumption) (by assumption)); (case hx2 => first | k_mem | k_asm | exact Sm.of_res (by assumption) (fm_lo (by assumption) _) (fm_hi (by assumption) _) | exact Sm.of_res (by assumption) (by assumption) (by assumption)); (case hdx2 => first | k_mem | k_asm | exact Sm.of_res (by assumption) (fm_lo (by assumption) _) (fm_hi (by assumption) _) | exact Sm.of_res (by assumption) (by assumption) (by assumption)); k_whole); intro x' d' h' t1' t2' t3' t4' tk' F' N' l1 l2; (try k_sweep); (try dsimp only [PySem.W.CmpBack, PySem.W.InitBack, PySem.W.LenBack, PySem.W.StrBack, PySem.W.BoolBack])))
local macro_rules | `(tactic| k_enter) => `(tactic| ((with_reducible show codeAny _ _ (Code.call (Value.ref 84) _) _ _); k_dflt (refine' sub_i_O ?B ?F ?X ?N ?T ?hf ?hk ?hd ?hm ?hx ?hdx ?_; (case B => k_asm); (case F => k_asm); (case X => k_asm); (case N => k_asm); (case T => k_asm); (case hf => first | exact rfl | assumption); (case hk => first | exact rfl | assumption); (case hd => k_room); (case hm => k_asm); (case hx => first | k_mem | k_asm | exact Sm.of_res (by assumption) (fm_lo (by assumption) _) (fm_hi (by assumption) _) | exact Sm.of_res (by assumption) (by assumption) (by assumption)); (case hdx => first | k_mem | k_asm | exact Sm.of_res (by assumption) (fm_lo (by assumption) _) (fm_hi (by assumption) _) | exact Sm.of_res (by assumption) (by assumption) (by assumption)); k_whole); intro x' d' h' t1' t2' t3' t4' tk' F' N' l1 l2; (try k_sweep); (try dsimp only [PySem.W.CmpBack, PySem.W.InitBack, PySem.W.LenBack, PySem.W.StrBack, PySem.W.BoolBack])))
local macro_rules | `(tactic| k_enter) => `(tactic| ((with_reducible show codeAny _ _ (Code.call (Value.ref 84) _) _ _); k_dflt (refine' sub_r_O ?B ?F ?X ?N ?T ?hf ?hk ?hd ?hm ?hx ?hdx ?hx2 ?hdx2 ?_; (case B => k_asm); (case F => k_asm); (case X => k_asm); (case N => k_asm); (case T => k_asm); (case hf => first | exact rfl | assumption); (case hk => first | exact rfl | assumption); (case hd => k_room); (case hm => k_asm); (case hx => first | k_mem | k_asm | exact Sm.of_res (by assumption) (fm_lo (by assumption) _) (fm_hi (by assumption) _) | exact Sm.of_res (by assumption) (by assumption) (by assumption)); (case hdx => first | k_mem | k_asm | exact Sm.of_res (by assumption) (fm_lo (by assumption) _) (fm_hi (by assumption) _) | exact Sm.of_res (by assumption) (by assumption) (by assumption)); (case hx2 => first | k_mem | k_asm | exact Sm.of_res (by assumption) (fm_lo (by assumption) _) (fm_hi (by assumption) _) | exact Sm.of_res (by assumption) (by assumption) (by assumption)); (case hdx2 => first | k_mem | k_asm | exact Sm.of_res (by assumption) (fm_lo (by assumption) _) (fm_hi (by assumption) _) | exact Sm.of_res (by assumption) (by assumption) (by assumption)); k_whole); intro x' d' h' t1' t2' t3' t4' tk' F' N' l1 l2; (try k_sweep); (try dsimp only [PySem.W.CmpBack, PySem.W.InitBack, PySem.W.LenBack, PySem.W.StrBack, PySem.W.BoolBack])))
local macro_rules | `(tactic| k_enter) => `(tactic| ((with_reducible show codeAny _ _ (Code.call (Value.ref 56) _) _ _); k_dflt (refine' mul_i_O ?B ?F ?X ?N ?T ?hf ?hk ?hd ?hm ?hx ?hdx ?sn ?si ?_; (case B => k_asm); (case F => k_asm); (case X => k_asm); (case N => k_asm); (case T => k_asm); (case hf => first | exact rfl | assumption); (case hk => first | exact rfl | assumption); (case hd => k_room); (case hm => k_asm); (case hx => first | k_mem | k_asm | exact Sm.of_res (by assumption) (fm_lo (by assumption) _) (fm_hi (by assumption) _) | exact Sm.of_res (by assumption) (by assumption) (by assumption)); (case hdx => first | k_mem | k_asm | exact Sm.of_res (by assumption) (fm_lo (by assumption) _) (fm_hi (by assumption) _) | exact Sm.of_res (by assumption) (by assumption) (by assumption)); (case sn => first | k_mem | k_asm | exact Sm.of_res (by assumption) (fm_lo (by assumption) _) (fm_hi (by assumption) _) | exact Sm.of_res (by assumption) (by assumption) (by assumption)); (case si => first | k_mem | k_asm | exact Sm.of_res (by assumption) (fm_lo (by assumption) _) (fm_hi (by assumption) _) | exact Sm.of_res (by assumption) (by assumption) (by assumption)); k_whole); intro x' d' h' t1' t2' t3' t4' tk' F' N' l1 l2; (try k_sweep); (try dsimp only [PySem.W.CmpBack, PySem.W.InitBack, PySem.W.LenBack, PySem.W.StrBack, PySem.W.BoolBack])))
local macro_rules | `(tactic| k_enter) => `(tactic| ((with_reducible show codeAny _ _ (Code.call (Value.ref 56) _) _ _); k_dflt (refine' mul_r_O ?B ?F ?X ?N ?T ?hf ?hk ?hd ?hm ?hx ?hdx ?hx2 ?hdx2 ?sn ?si ?_; (case B => k_asm); (case F => k_asm); (case X => k_asm); (case N => k_asm); (case T => k_asm); (case hf => first | exact rfl | assumption); (case hk => first | exact rfl | assumption); (case hd => k_room); (case hm => k_asm); (case hx => first | k_mem | k_asm | exact Sm.of_res (by assumption) (fm_lo (by assumption) _) (fm_hi (by assumption) _) | exact Sm.of_res (by assumption) (by assumption) (by assumption)); (case hdx => first | k_mem | k_asm | exact Sm.of_res (by assumption) (fm_lo (by assumption) _) (fm_hi (by assumption) _) | exact Sm.of_res (by assumption) (by assumption) (by assumption)); (case hx2 => first | k_mem | k_asm | exact Sm.of_res (by assumption) (fm_lo (by assumption) _) (fm_hi (by assumption) _) | exact Sm.of_res (by assumption) (by assumption) (by assumption)); (case hdx2 => first | k_mem | k_asm | exact Sm.of_res (by assumption) (fm_lo (by assumption) _) (fm_hi (by assumption) _) | exact Sm.of_res (by assumption) (by assumption) (by assumption)); (case sn => first | k_mem | k_asm | exact Sm.of_res (by assumption) (fm_lo (by assumption) _) (fm_hi (by assumption) _) | exact Sm.of_res (by assumption) (by assumption) (by assumption)); (case si => first | k_mem | k_asm | exact Sm.of_res (by assumption) (fm_lo (by assumption) _) (fm_hi (by assumption) _) | exact Sm.of_res (by assumption) (by assumption) (by assumption)); k_whole); intro x' d' h' t1' t2' t3' t4' tk' F' N' l1 l2; (try k_sweep); (try dsimp only [PySem.W.CmpBack, PySem.W.InitBack, PySem.W.LenBack, PySem.W.StrBack, PySem.W.BoolBack])))
local macro_rules | `(tactic| k_enter) => `(tactic| ((with_reducible show codeAny _ _ (Code.call (Value.ref 77) _) _ _); k_dflt (refine' rsub_i_O ?B ?F ?X ?N ?T ?hf ?hk ?hd ?hm ?hx ?hdx ?_; (case B => k_asm); (case F => k_asm); (case X => k_asm); (case N => k_asm); (case T => k_asm); (case hf => first | exact rfl | assumption); (case hk => first | exact rfl | assumption); (case hd => k_room); (case hm => k_asm); (case hx => first | k_mem | k_asm | exact Sm.of_res (by assumption) (fm_lo (by assumption) _) (fm_hi (by assumption) _) | exact Sm.of_res (by assumption) (by assumption) (by assumption)); (case hdx => first | k_mem | k_asm | exact Sm.of_res (by assumption) (fm_lo (by assumption) _) (fm_hi (by assumption) _) | exact Sm.of_res (by assumption) (by assumption) (by assumption)); k_whole); intro x' d' h' t1' t2' t3' t4' tk' F' N' l1 l2; (try k_sweep); (try dsimp only [PySem.W.CmpBack, PySem.W.InitBack, PySem.W.LenBack, PySem.W.StrBack, PySem.W.BoolBack])))
local macro_rules | `(tactic| k_enter) => `(tactic| ((with_reducible show codeAny _ _ (Code.call (Value.ref 133) _) _ _); k_dflt (refine' neg_O ?B ?F ?X ?N ?T ?hf ?hk ?hd ?hm ?hx ?hdx ?_; (case B => k_asm); (case F => k_asm); (case X => k_asm); (case N => k_asm); (case T => k_asm); (case hf => first | exact rfl | assumption); (case hk => first | exact rfl | assumption); (case hd => k_room); (case hm => k_asm); (case hx => first | k_mem | k_asm | exact Sm.of_res (by assumption) (fm_lo (by assumption) _) (fm_hi (by assumption) _) | exact Sm.of_res (by assumption) (by assumption) (by assumption)); (case hdx => first | k_mem | k_asm | exact Sm.of_res (by assumption) (fm_lo (by assumption) _) (fm_hi (by assumption) _) | exact Sm.of_res (by assumption) (by assumption) (by assumption)); k_whole); intro x' d' h' t1' t2' t3' t4' tk' F' N' l1 l2; (try k_sweep); (try dsimp only [PySem.W.CmpBack, PySem.W.InitBack, PySem.W.LenBack, PySem.W.StrBack, PySem.W.BoolBack])))

set_option maxHeartbeats 4000000 in
theorem rmul_i_P {md n : Int} {y dy : Addr} {a1 a2 a3 a4 : Tok} {i : Int} {t : Tok} (B : Below A₀ base outer h₀) (F : Fr h₀ L s.heap m) (X : (Mine.hd.heap_1 w.params).In h₀) (N : News h₀ L s.heap news) (T : Top p loose mean mg mb h₀) (hf : env.frame = some L) (hke : env.scope.kind = .function) (hdp : d ≤ 960) (hmd : 2 ≤ md) (hx : (y, instObj 333 dy) ∈ news) (hdx : (dy, FQD w.params a1 a2 a3 a4 md n) ∈ news) (sn : Sm n) (si : Sm i)
    (h : ∀ x dx h' t1 t2 t3 t4 tk, Fr h₀ L h' m → News h₀ L h' ((x, instObj 333 dx) :: (dx, FQD w.params t1 t2 t3 t4 md ((n * i).fmod md)) :: news) → (∀ p ∈ news, p.1 < dx) → dx < x → R (.ok (.ret (.ref x))) { s with heap := h', toks := tk }) :
    codeAny (model prog w) ⟨none, d, some (env :: outer), gs, u⟩ (.call (.ref 225) ⟨[.ref y, .int i t], []⟩) R s := by
  replace N := news_show2 N (by repeat (first | exact sub_refl | apply sub_tail)) hx hdx
  (refine' code_def (binds := [("self", .ref y), ("other", .int i t)]) ?k1 ?k2 ?k3 ?k4 ?k5 ?kA ?kF ?kK ?k6 ?k7 ?k8 ?k9 ?kB ?_ ?c2 ?c3 ?c4 ?c5; (case kA => exact rfl); (case kF => exact hf); (case kK => exact hke); (case k1 => k_asm); (case k2 => k_asm); (case k3 => k_asm); (case k4 => k_asm); (case k5 => k_asm); (case k6 => k_is); (case k7 => k_is); (case k8 => k_room); (case k9 => exact BindsTo.of_eq rfl); (case c5 => decide); (case kB => exact locs rfl); (case c2 => exact rfl); (case c3 => exact rfl); (case c4 => exact rfl); k_whole; intro g' L' h' FG' F' N' B' X' T')
  clear B X T
  k_fold
  k_steps
  refine leaveK_ (by k_asm) (by k_asm) fun kF kN => ?_
  exact h _ _ _ _ _ _ _ _ kF (news_sub kN (sub2 (by repeat (first | exact sub_refl | apply sub_tail)) (by k_mem) (by k_mem))) (fresh_of (by assumption) (by repeat (first | exact sub_refl | apply sub_tail))) (by assumption)

set_option maxHeartbeats 4000000 in
theorem radd_i_P {md n : Int} {y dy : Addr} {a1 a2 a3 a4 : Tok} {i : Int} {t : Tok} (B : Below A₀ base outer h₀) (F : Fr h₀ L s.heap m) (X : (Mine.hd.heap_1 w.params).In h₀) (N : News h₀ L s.heap news) (T : Top p loose mean mg mb h₀) (hf : env.frame = some L) (hke : env.scope.kind = .function) (hdp : d ≤ 960) (hmd : 2 ≤ md) (hx : (y, instObj 333 dy) ∈ news) (hdx : (dy, FQD w.params a1 a2 a3 a4 md n) ∈ news)
    (h : ∀ x dx h' t1 t2 t3 t4 tk, Fr h₀ L h' m → News h₀ L h' ((x, instObj 333 dx) :: (dx, FQD w.params t1 t2 t3 t4 md ((n + i).fmod md)) :: news) → (∀ p ∈ news, p.1 < dx) → dx < x → R (.ok (.ret (.ref x))) { s with heap := h', toks := tk }) :
    codeAny (model prog w) ⟨none, d, some (env :: outer), gs, u⟩ (.call (.ref 232) ⟨[.ref y, .int i t], []⟩) R s := by
  replace N := news_show2 N (by repeat (first | exact sub_refl | apply sub_tail)) hx hdx
  (refine' code_def (binds := [("self", .ref y), ("other", .int i t)]) ?k1 ?k2 ?k3 ?k4 ?k5 ?kA ?kF ?kK ?k6 ?k7 ?k8 ?k9 ?kB ?_ ?c2 ?c3 ?c4 ?c5; (case kA => exact rfl); (case kF => exact hf); (case kK => exact hke); (case k1 => k_asm); (case k2 => k_asm); (case k3 => k_asm); (case k4 => k_asm); (case k5 => k_asm); (case k6 => k_is); (case k7 => k_is); (case k8 => k_room); (case k9 => exact BindsTo.of_eq rfl); (case c5 => decide); (case kB => exact locs rfl); (case c2 => exact rfl); (case c3 => exact rfl); (case c4 => exact rfl); k_whole; intro g' L' h' FG' F' N' B' X' T')
  clear B X T
  k_fold
  k_steps
  refine leaveK_ (by k_asm) (by k_asm) fun kF kN => ?_
  exact h _ _ _ _ _ _ _ _ kF (news_sub kN (sub2 (by repeat (first | exact sub_refl | apply sub_tail)) (by k_mem) (by k_mem))) (fresh_of (by assumption) (by repeat (first | exact sub_refl | apply sub_tail))) (by assumption)

set_option maxHeartbeats 4000000 in
theorem rmul_i_O {md n : Int} {y dy : Addr} {a1 a2 a3 a4 : Tok} {i : Int} {t : Tok} (B : Below A₀ base outer h₀) (F : Fr h₀ L s.heap m) (X : (Mine.hd.heap_1 w.params).In h₀) (N : News h₀ L s.heap news) (T : Top p loose mean mg mb h₀) (hf : env.frame = some L) (hke : env.scope.kind = .function) (hdp : d ≤ 960) (hmd : 2 ≤ md) (hx : (y, instObj 186 dy) ∈ news) (hdx : (dy, FQD w.params a1 a2 a3 a4 md n) ∈ news) (sn : Sm n) (si : Sm i)
    (h : ∀ x dx h' t1 t2 t3 t4 tk, Fr h₀ L h' m → News h₀ L h' ((x, instObj 186 dx) :: (dx, FQD w.params t1 t2 t3 t4 md ((n * i).fmod md)) :: news) → (∀ p ∈ news, p.1 < dx) → dx < x → R (.ok (.ret (.ref x))) { s with heap := h', toks := tk }) :
    codeAny (model prog w) ⟨none, d, some (env :: outer), gs, u⟩ (.call (.ref 63) ⟨[.ref y, .int i t], []⟩) R s := by
  replace N := news_show2 N (by repeat (first | exact sub_refl | apply sub_tail)) hx hdx
  (refine' code_def (binds := [("self", .ref y), ("other", .int i t)]) ?k1 ?k2 ?k3 ?k4 ?k5 ?kA ?kF ?kK ?k6 ?k7 ?k8 ?k9 ?kB ?_ ?c2 ?c3 ?c4 ?c5; (case kA => exact rfl); (case kF => exact hf); (case kK => exact hke); (case k1 => k_asm); (case k2 => k_asm); (case k3 => k_asm); (case k4 => k_asm); (case k5 => k_asm); (case k6 => k_is); (case k7 => k_is); (case k8 => k_room); (case k9 => exact BindsTo.of_eq rfl); (case c5 => decide); (case kB => exact locs rfl); (case c2 => exact rfl); (case c3 => exact rfl); (case c4 => exact rfl); k_whole; intro g' L' h' FG' F' N' B' X' T')
  clear B X T
  k_fold
  k_steps
  refine leaveK_ (by k_asm) (by k_asm) fun kF kN => ?_
  exact h _ _ _ _ _ _ _ _ kF (news_sub kN (sub2 (by repeat (first | exact sub_refl | apply sub_tail)) (by k_mem) (by k_mem))) (fresh_of (by assumption) (by repeat (first | exact sub_refl | apply sub_tail))) (by assumption)

set_option maxHeartbeats 4000000 in
theorem radd_i_O {md n : Int} {y dy : Addr} {a1 a2 a3 a4 : Tok} {i : Int} {t : Tok} (B : Below A₀ base outer h₀) (F : Fr h₀ L s.heap m) (X : (Mine.hd.heap_1 w.params).In h₀) (N : News h₀ L s.heap news) (T : Top p loose mean mg mb h₀) (hf : env.frame = some L) (hke : env.scope.kind = .function) (hdp : d ≤ 960) (hmd : 2 ≤ md) (hx : (y, instObj 186 dy) ∈ news) (hdx : (dy, FQD w.params a1 a2 a3 a4 md n) ∈ news)
    (h : ∀ x dx h' t1 t2 t3 t4 tk, Fr h₀ L h' m → News h₀ L h' ((x, instObj 186 dx) :: (dx, FQD w.params t1 t2 t3 t4 md ((n + i).fmod md)) :: news) → (∀ p ∈ news, p.1 < dx) → dx < x → R (.ok (.ret (.ref x))) { s with heap := h', toks := tk }) :
    codeAny (model prog w) ⟨none, d, some (env :: outer), gs, u⟩ (.call (.ref 70) ⟨[.ref y, .int i t], []⟩) R s := by
  replace N := news_show2 N (by repeat (first | exact sub_refl | apply sub_tail)) hx hdx
  (refine' code_def (binds := [("self", .ref y), ("other", .int i t)]) ?k1 ?k2 ?k3 ?k4 ?k5 ?kA ?kF ?kK ?k6 ?k7 ?k8 ?k9 ?kB ?_ ?c2 ?c3 ?c4 ?c5; (case kA => exact rfl); (case kF => exact hf); (case kK => exact hke); (case k1 => k_asm); (case k2 => k_asm); (case k3 => k_asm); (case k4 => k_asm); (case k5 => k_asm); (case k6 => k_is); (case k7 => k_is); (case k8 => k_room); (case k9 => exact BindsTo.of_eq rfl); (case c5 => decide); (case kB => exact locs rfl); (case c2 => exact rfl); (case c3 => exact rfl); (case c4 => exact rfl); k_whole; intro g' L' h' FG' F' N' B' X' T')
  clear B X T
  k_fold
  k_steps
  refine leaveK_ (by k_asm) (by k_asm) fun kF kN => ?_
  exact h _ _ _ _ _ _ _ _ kF (news_sub kN (sub2 (by repeat (first | exact sub_refl | apply sub_tail)) (by k_mem) (by k_mem))) (fresh_of (by assumption) (by repeat (first | exact sub_refl | apply sub_tail))) (by assumption)
end P_M5
section P_R1
local macro_rules | `(tactic| k_room) => `(tactic| ((try simp only [depth_under_make, depth_under_kw, depth_in1, depth_deeper, depth_caller, recursionLimit]); omega))
local macro_rules | `(tactic| k_all) => `(tactic| (intro p hp; exact Nat.ne_of_lt ((by assumption : ∀ p ∈ _, p.1 < _) p hp)))
local macro_rules | `(tactic| k_units) => `(tactic| ((try simp only [units_in1, units_deeper, Around.mark_units, units_caller, cLine]); omega))
local macro_rules | `(tactic| mul_fits) => `(tactic| exact mulOk_of (by first | assumption | exact Sm.of_res (by assumption) (by assumption) (by assumption)) (by first | assumption | exact Sm.of_res (by assumption) (by assumption) (by assumption)))
variable {prog : Program} {w : World} {A₀ : Around} {s : Shared} {d u : Nat} {gs : Option (List Code)} {env : Env} {outer : List Env} {base h₀ : Heap} {L : Addr} {m mg mb : Str → Option Value} {p : Program} {loose : List Str} {mean : ExcName → Option Value} {news : List (Addr × Obj)} {R : Result → Shared → Prop} {Q : Value → Shared → Prop} {E : Value → Shared → Prop}
local macro_rules | `(tactic| k_steps) => `(tactic| repeat' (first | (k_unfold; (try dsimp only)) | (dsimp only; k_unfold; (try dsimp only)) | walk1 | (dsimp only; walk1) | (leave1; walk_say "STEP leave1"; try dsimp only) | fail "no step"))
/-! rules that the library lacks -/
section
open PySem.Calls Builtin
theorem int_add_inst (a : Int) (t : Tok) (x C dx : Addr) :
    Meets (Builtin.«int.__add__» ⟨[.int a t, .ref x], []⟩) (fun _ R s => s.heap.get? x = some (instObj C dx) ∧ R (.ok (.ret Value.notImplemented)) s) :=
  .of_wp fun prog w A R s h => by obtain ⟨hp, g, d, tk, os⟩ := s; obtain ⟨hl, h⟩ := h; wp_walk; exact ⟨_, rfl, h⟩
theorem int_sub_inst (a : Int) (t : Tok) (x C dx : Addr) :
    Meets (Builtin.«int.__sub__» ⟨[.int a t, .ref x], []⟩) (fun _ R s => s.heap.get? x = some (instObj C dx) ∧ R (.ok (.ret Value.notImplemented)) s) :=
  .of_wp fun prog w A R s h => by obtain ⟨hp, g, d, tk, os⟩ := s; obtain ⟨hl, h⟩ := h; wp_walk; exact ⟨_, rfl, h⟩
theorem int_mul_inst (a : Int) (t : Tok) (x C dx : Addr) :
    Meets (Builtin.«int.__mul__» ⟨[.int a t, .ref x], []⟩) (fun _ R s => s.heap.get? x = some (instObj C dx) ∧ R (.ok (.ret Value.notImplemented)) s) :=
  .of_wp fun prog w A R s h => by obtain ⟨hp, g, d, tk, os⟩ := s; obtain ⟨hl, h⟩ := h; wp_walk; exact ⟨_, rfl, h⟩
theorem int_div_inst (a : Int) (t : Tok) (x C dx : Addr) :
    Meets (Builtin.«int.__truediv__» ⟨[.int a t, .ref x], []⟩) (fun _ R s => s.heap.get? x = some (instObj C dx) ∧ R (.ok (.ret Value.notImplemented)) s) :=
  .of_wp fun prog w A R s h => by obtain ⟨hp, g, d, tk, os⟩ := s; obtain ⟨hl, h⟩ := h; wp_walk; exact ⟨_, rfl, h⟩
theorem int_binR {prog : Program} {w : World} {A : Around} {E : Value → Shared → Prop} {s : Shared} {K : Frag} {x C L f g dx : Addr} {h₀ : Heap} {m : Str → Option Value} {od : Option Obj} {op : Operator} {i : Int} {t : Tok} {id : String} {Bi : Builtin} {Q : Value → Shared → Prop}
    (F : Fr h₀ L s.heap m) (X₀ : K.In h₀) (I : InstAt s.heap x (instObj C dx) C od) (hc : selfFirst K C = true)
    (hs : findIn K (.ref C) (PySem.dunder op.info.2) = some (some (.ref g))) (hr : findIn K (.ref C) (dunderR op.info.2) = some (some (.ref f))) (hf : isFn K (.ref f) = true) (hsub : subIn K (.ref C) (.type "int") = some false)
    (fills : fillsNumberSlot (.type "int") op.info.2 = pure true) (slot : Slot "int" (PySem.dunder op.info.2) id) (entry : entryFor table id = some Bi) (ok : argsOk id ⟨[.int i t, .ref x], []⟩)
    (ge : Meets (Bi ⟨[.int i t, .ref x], []⟩) (fun _ R s => s.heap.get? x = some (instObj C dx) ∧ R (.ok (.ret Value.notImplemented)) s))
    (h : wpAny (model prog w) A (call (.ref f) [.ref x, .int i t]) (PySem.W.CmpBack Q) E s) : wpAny (model prog w) A (binaryOp op (.int i t) (.ref x)) Q E s := by
  have X := X₀.keeps F.keep
  obtain ⟨cd, rest, hcd, hm⟩ := ksp_first hc
  rcases hi : op.info with ⟨sym, nm'⟩
  rw [hi] at hs hr fills slot
  dsimp only at hs hr fills slot
  have one := ksp_try X I hr hf h
  have hx : s.heap.get? x = some (instObj C dx) := I.1
  have dec : wpAny (model prog w) A (call (.builtin id) [.int i t, .ref x]) (fun v s' => v = .notImplemented ∧ s' = s) E s :=
    call_meets slot (typeIs_int s i t) entry ok ge ⟨hx, rfl, rfl⟩
  obtain ⟨hh, gg, d, tt, os⟩ := s
  have L1 : Looks (model prog w) hh (typeOf (.ref x)) (.ref C) := I.type
  have L3 : Looks (model prog w) hh (fillsNumberSlot (.ref C) nm') true := fills_K X hcd hm hs
  have L4 : Looks (model prog w) hh (fillsNumberSlot (.type "int") nm') true := Looks.of_pure fills
  have L5 : Looks (model prog w) hh (isSubtype (.ref C) (.type "int")) false := looks_subIn X hsub
  have L7 : Looks (model prog w) hh (numberSlotInPython (.type "int") nm') false := Looks.of_pure rfl
  have hne : (Value.type "int" == Value.ref C) = false := Bool.eq_false_iff.mpr fun q => by cases beq_iff_eq.mp q
  simp only [binaryOp, hi]
  refine wpAny_holding (wpAny_bind ?_)
  unfold binaryOp1
  refine wpAny_bind ((Looks.of_pure (M := model prog w) (h := hh) (t := typeOf (.int i t)) rfl).at (wpAny_bind (L1.at (wpAny_bind (L4.at ?_)))))
  simp only [hne, Bool.false_eq_true, if_false]
  refine wpAny_bind (L3.at ?_)
  simp only [Bool.and_self, if_true]
  refine wpAny_bind (L5.at ?_)
  have hpy : numberSlotInPython (.type "int") nm' = pure false := rfl
  simp only [Bool.false_eq_true, if_false, Bool.not_false, if_true, pure_bind, Bool.and_true, hpy]
  refine wpAny_bind (wpAny_tryMethod_declines (typeIs_int _ i t) slot (wpAny_mono dec (fun v s' hv => ?_) fun _ _ z => z))
  obtain ⟨rfl, rfl⟩ := hv
  refine ⟨rfl, ?_⟩
  dsimp only
  refine wpAny_bind (wpAny_mono one (fun r s' z => ?_) fun _ _ z => z)
  obtain ⟨v, rfl, hq⟩ := z
  exact wpAny_bind (wpAny_rule (wpAny_pure (wpAny_pure hq)))
end
end P_R1
section P_R2
local macro_rules | `(tactic| k_room) => `(tactic| ((try simp only [depth_under_make, depth_under_kw, depth_in1, depth_deeper, depth_caller, recursionLimit]); omega))
local macro_rules | `(tactic| k_all) => `(tactic| (intro p hp; exact Nat.ne_of_lt ((by assumption : ∀ p ∈ _, p.1 < _) p hp)))
local macro_rules | `(tactic| k_units) => `(tactic| ((try simp only [units_in1, units_deeper, Around.mark_units, units_caller, cLine]); omega))
local macro_rules | `(tactic| mul_fits) => `(tactic| exact mulOk_of (by first | assumption | exact Sm.of_res (by assumption) (by assumption) (by assumption)) (by first | assumption | exact Sm.of_res (by assumption) (by assumption) (by assumption)))
variable {prog : Program} {w : World} {A₀ : Around} {s : Shared} {d u : Nat} {gs : Option (List Code)} {env : Env} {outer : List Env} {base h₀ : Heap} {L : Addr} {m mg mb : Str → Option Value} {p : Program} {loose : List Str} {mean : ExcName → Option Value} {news : List (Addr × Obj)} {R : Result → Shared → Prop} {Q : Value → Shared → Prop} {E : Value → Shared → Prop}
local macro_rules | `(tactic| k_steps) => `(tactic| repeat' (first | (k_unfold; (try dsimp only)) | (dsimp only; k_unfold; (try dsimp only)) | walk1 | (dsimp only; walk1) | (leave1; walk_say "STEP leave1"; try dsimp only) | fail "no step"))
section
open PySem.Calls Builtin
theorem int_pow3 (a : Int) (t : Tok) (e : Int) (u : Tok) (c : Int) (v : Tok) (hc : 2 ≤ c) (he : 0 ≤ e) :
    Gives (Builtin.«int.__pow__» ⟨[.int a t, .int e u, .int c v], []⟩) (.int ((Builtin.powMod (a % c).toNat e.natAbs c.natAbs : Nat) : Int)) := by
  have h1 : (c == 0) = false := by simp; omega
  have h2 : (c.natAbs == 1) = false := by simp; omega
  have h3 : ¬ e < 0 := by omega
  have h4 : ¬ c < 0 := by omega
  have h5 : (c.natAbs : Int) = c := by omega
  exact .of_wp fun M A E s Q h => by
    obtain ⟨hp, g, d, tk, os⟩ := s
    wp_walk
    refine ⟨_, rfl, ?_⟩
    rw [if_neg (by simp [h4]), h5]
    exact h
theorem kind_pow : builtinKind "pow" = none := by decide +kernel
theorem plain_pow : plainId "pow" = true := by decide +kernel
theorem entry_pow : entryFor table "pow" = some Builtin.«pow» := entryFor_of_tree (by kernel_rfl)
theorem args_pow3 (a b c : Value) : argsOk "pow" ⟨[a, b, c], []⟩ := by unfold argsOk; kernel_rfl
theorem args_int_pow3 (a b c : Value) : argsOk "int.__pow__" ⟨[a, b, c], []⟩ := by unfold argsOk; kernel_rfl
theorem bind_pow3 (a b c : Value) : Builtins.bindParams "pow" ["base", "exp", "mod"] 2 ⟨[a, b, c], []⟩ = pure [some a, some b, some c] := by kernel_rfl
theorem pow3 {prog : Program} {w : World} {A : Around} {E : Value → Shared → Prop} {s : Shared} {a e c : Int} {t u v : Tok} {Q : Value → Shared → Prop} (hc : 2 ≤ c) (he : 0 ≤ e)
    (h : Q (.int ((a ^ e.toNat).fmod c) s.toks) { s with toks := s.toks + 1 }) : wpAny (model prog w) A (call (.builtin "pow") [.int a t, .int e u, .int c v]) Q E s := by
  refine Calls.call_function_entry kind_pow plain_pow entry_pow (args_pow3 _ _ _) ?_
  unfold Builtin.«pow»
  rw [bind_pow3]
  refine wpAny_bind (wpAny_pure ?_)
  dsimp only [Option.getD]
  refine wpAny_bind (wpAny_rule ?_)
  refine wpAny_bind (wpAny_typeOf (typeIs_int _ a t) ?_)
  dsimp only
  refine wpAny_bind (wpAny_of_eq PySem.F.slot_int_pow.lookup ?_)
  dsimp only
  refine wpAny_bind (wpAny_callSpecial?_slot (name := Str.ofString "__pow__") (typeIs_int _ a t) PySem.F.slot_int_pow (call_gives PySem.F.slot_int_pow (typeIs_int _ a t) PySem.F.entry_int_pow (args_int_pow3 _ _ _) (int_pow3 a t e u c v hc he) ?_))
  have hv : ((powMod (a % c).toNat e.natAbs c.natAbs : Nat) : Int) = (a ^ e.toNat).fmod c := by
    rw [powMod_is, Int.fmod_eq_emod_of_nonneg _ (by omega)]
    have h1 : ((a % c).toNat : Int) = a % c := Int.toNat_of_nonneg (Int.emod_nonneg _ (by omega))
    have h2 : (c.natAbs : Int) = c := by omega
    have h3 : e.natAbs = e.toNat := by omega
    rw [Int.natCast_emod, Int.natCast_pow, h1, h2, h3, pow_em]
  rw [hv]
  show wpAny _ _ _ _ _ _
  dsimp only
  rw [if_pos (by rfl)]
  exact wpAny_pure ⟨_, rfl, h⟩
end
end P_R2
section P_M16
local macro_rules | `(tactic| k_room) => `(tactic| ((try simp only [depth_under_make, depth_under_kw, depth_in1, depth_deeper, depth_caller, recursionLimit]); omega))
local macro_rules | `(tactic| k_all) => `(tactic| (intro p hp; exact Nat.ne_of_lt ((by assumption : ∀ p ∈ _, p.1 < _) p hp)))
local macro_rules | `(tactic| k_units) => `(tactic| ((try simp only [units_in1, units_deeper, Around.mark_units, units_caller, cLine]); omega))
local macro_rules | `(tactic| mul_fits) => `(tactic| exact mulOk_of (by first | assumption | exact Sm.of_res (by assumption) (by assumption) (by assumption)) (by first | assumption | exact Sm.of_res (by assumption) (by assumption) (by assumption)))
variable {prog : Program} {w : World} {A₀ : Around} {s : Shared} {d u : Nat} {gs : Option (List Code)} {env : Env} {outer : List Env} {base h₀ : Heap} {L : Addr} {m mg mb : Str → Option Value} {p : Program} {loose : List Str} {mean : ExcName → Option Value} {news : List (Addr × Obj)} {R : Result → Shared → Prop} {Q : Value → Shared → Prop} {E : Value → Shared → Prop}
local macro_rules | `(tactic| k_steps) => `(tactic| repeat' (first | (k_unfold; (try dsimp only)) | (dsimp only; k_unfold; (try dsimp only)) | walk1 | (dsimp only; walk1) | (leave1; walk_say "STEP leave1"; try dsimp only) | fail "no step"))
local macro_rules | `(tactic| walk_at "call ref") => `(tactic| (k_here; (with_reducible show wpAny _ _ (call (Value.ref 333) [Value.int _ _, Value.int _ _]) _ _ _); k_dflt (refine' mk_P ?B ?F ?X ?N ?T ?hf ?hk ?hd ?hm ?_; (case B => k_asm); (case F => k_asm); (case X => k_asm); (case N => k_asm); (case T => k_asm); (case hf => first | exact rfl | assumption); (case hk => first | exact rfl | assumption); (case hd => k_room); (case hm => k_asm); k_whole); intro x' d' h' t1' t2' t3' t4' tk' F' N' l1 l2; (try k_sweep)))
local macro_rules | `(tactic| walk_at "call ref") => `(tactic| (k_here; (with_reducible show wpAny _ _ (call (Value.ref 186) [Value.int _ _, Value.int _ _]) _ _ _); k_dflt (refine' mk_O ?B ?F ?X ?N ?T ?hf ?hk ?hd ?hm ?_; (case B => k_asm); (case F => k_asm); (case X => k_asm); (case N => k_asm); (case T => k_asm); (case hf => first | exact rfl | assumption); (case hk => first | exact rfl | assumption); (case hd => k_room); (case hm => k_asm); k_whole); intro x' d' h' t1' t2' t3' t4' tk' F' N' l1 l2; (try k_sweep)))
local macro_rules | `(tactic| k_enter) => `(tactic| ((with_reducible show codeAny _ _ (Code.call (Value.ref 316) _) _ _); k_dflt (refine' made_P ?B ?F ?X ?N ?T ?hf ?hk ?hd ?hm ?hx ?hdx ?_; (case B => k_asm); (case F => k_asm); (case X => k_asm); (case N => k_asm); (case T => k_asm); (case hf => first | exact rfl | assumption); (case hk => first | exact rfl | assumption); (case hd => k_room); (case hm => k_asm); (case hx => first | k_mem | k_asm | exact Sm.of_res (by assumption) (fm_lo (by assumption) _) (fm_hi (by assumption) _) | exact Sm.of_res (by assumption) (by assumption) (by assumption)); (case hdx => first | k_mem | k_asm | exact Sm.of_res (by assumption) (fm_lo (by assumption) _) (fm_hi (by assumption) _) | exact Sm.of_res (by assumption) (by assumption) (by assumption)); k_whole); intro x' d' h' t1' t2' t3' t4' tk' F' N' l1 l2; (try k_sweep); (try dsimp only [PySem.W.CmpBack, PySem.W.InitBack, PySem.W.LenBack, PySem.W.StrBack, PySem.W.BoolBack])))
local macro_rules | `(tactic| k_enter) => `(tactic| ((with_reducible show codeAny _ _ (Code.call (Value.ref 169) _) _ _); k_dflt (refine' made_O ?B ?F ?X ?N ?T ?hf ?hk ?hd ?hm ?hx ?hdx ?_; (case B => k_asm); (case F => k_asm); (case X => k_asm); (case N => k_asm); (case T => k_asm); (case hf => first | exact rfl | assumption); (case hk => first | exact rfl | assumption); (case hd => k_room); (case hm => k_asm); (case hx => first | k_mem | k_asm | exact Sm.of_res (by assumption) (fm_lo (by assumption) _) (fm_hi (by assumption) _) | exact Sm.of_res (by assumption) (by assumption) (by assumption)); (case hdx => first | k_mem | k_asm | exact Sm.of_res (by assumption) (fm_lo (by assumption) _) (fm_hi (by assumption) _) | exact Sm.of_res (by assumption) (by assumption) (by assumption)); k_whole); intro x' d' h' t1' t2' t3' t4' tk' F' N' l1 l2; (try k_sweep); (try dsimp only [PySem.W.CmpBack, PySem.W.InitBack, PySem.W.LenBack, PySem.W.StrBack, PySem.W.BoolBack])))
local macro_rules | `(tactic| k_enter) => `(tactic| ((with_reducible show codeAny _ _ (Code.call (Value.ref 211) _) _ _); k_dflt (refine' add_i_P ?B ?F ?X ?N ?T ?hf ?hk ?hd ?hm ?hx ?hdx ?_; (case B => k_asm); (case F => k_asm); (case X => k_asm); (case N => k_asm); (case T => k_asm); (case hf => first | exact rfl | assumption); (case hk => first | exact rfl | assumption); (case hd => k_room); (case hm => k_asm); (case hx => first | k_mem | k_asm | exact Sm.of_res (by assumption) (fm_lo (by assumption) _) (fm_hi (by assumption) _) | exact Sm.of_res (by assumption) (by assumption) (by assumption)); (case hdx => first | k_mem | k_asm | exact Sm.of_res (by assumption) (fm_lo (by assumption) _) (fm_hi (by assumption) _) | exact Sm.of_res (by assumption) (by assumption) (by assumption)); k_whole); intro x' d' h' t1' t2' t3' t4' tk' F' N' l1 l2; (try k_sweep); (try dsimp only [PySem.W.CmpBack, PySem.W.InitBack, PySem.W.LenBack, PySem.W.StrBack, PySem.W.BoolBack])))
local macro_rules | `(tactic| k_enter) => `(tactic| ((with_reducible show codeAny _ _ (Code.call (Value.ref 211) _) _ _); k_dflt (refine' add_r_P ?B ?F ?X ?N ?T ?hf ?hk ?hd ?hm ?hx ?hdx ?hx2 ?hdx2 ?_; (case B => k_asm); (case F => k_asm); (case X => k_asm); (case N => k_asm); (case T => k_asm); (case hf => first | exact rfl | assumption); (case hk => first | exact rfl | assumption); (case hd => k_room); (case hm => k_asm); (case hx => first | k_mem | k_asm | exact Sm.of_res (by assumption) (fm_lo (by assumption) _) (fm_hi (by assumption) _) | exact Sm.of_res (by assumption) (by assumption) (by assumption)); (case hdx => first | k_mem | k_asm | exact Sm.of_res (by assumption) (fm_lo (by assumption) _) (fm_hi (by assumption) _) | exact Sm.of_res (by assumption) (by assumption) (by assumption)); (case hx2 => first | k_mem | k_asm | exact Sm.of_res (by assumption) (fm_lo (by assumption) _) (fm_hi (by assumption) _) | exact Sm.of_res (by assumption) (by assumption) (by assumption)); (case hdx2 => first | k_mem | k_asm | exact Sm.of_res (by assumption) (fm_lo (by assumption) _) (fm_hi (by assumption) _) | exact Sm.of_res (by assumption) (by assumption) (by assumption)); k_whole); intro x' d' h' t1' t2' t3' t4' tk' F' N' l1 l2; (try k_sweep); (try dsimp only [PySem.W.CmpBack, PySem.W.InitBack, PySem.W.LenBack, PySem.W.StrBack, PySem.W.BoolBack])))
local macro_rules | `(tactic| k_enter) => `(tactic| ((with_reducible show codeAny _ _ (Code.call (Value.ref 246) _) _ _); k_dflt (refine' sub_i_P ?B ?F ?X ?N ?T ?hf ?hk ?hd ?hm ?hx ?hdx ?_; (case B => k_asm); (case F => k_asm); (case X => k_asm); (case N => k_asm); (case T => k_asm); (case hf => first | exact rfl | assumption); (case hk => first | exact rfl | assumption); (case hd => k_room); (case hm => k_asm); (case hx => first | k_mem | k_asm | exact Sm.of_res (by assumption) (fm_lo (by assumption) _) (fm_hi (by assumption) _) | exact Sm.of_res (by assumption) (by assumption) (by assumption)); (case hdx => first | k_mem | k_asm | exact Sm.of_res (by assumption) (fm_lo (by assumption) _) (fm_hi (by assumption) _) | exact Sm.of_res (by assumption) (by assumption) (by assumption)); k_whole); intro x' d' h' t1' t2' t3' t4' tk' F' N' l1 l2; (try k_sweep); (try dsimp only [PySem.W.CmpBack, PySem.W.InitBack, PySem.W.LenBack, PySem.W.StrBack, PySem.W.BoolBack])))
local macro_rules | `(tactic| k_enter) => `(tactic| ((with_reducible show codeAny _ _ (Code.call (Value.ref 246) _) _ _); k_dflt (refine' sub_r_P ?B ?F ?X ?N ?T ?hf ?hk ?hd ?hm ?hx ?hdx ?hx2 ?hdx2 ?_; (case B => k_asm); (case F => k_asm); (case X => k_asm); (case N => k_asm); (case T => k_asm); (case hf => first | exact rfl | assumption); (case hk => first | exact rfl | assumption); (case hd => k_room); (case hm => k_asm); (case hx => first | k_mem | k_asm | exact Sm.of_res (by assumption) (fm_lo (by assumption) _) (fm_hi (by assumption) _) | exact Sm.of_res (by assumption) (by assumption) (by assumption)); (case hdx => first | k_mem | k_asm | exact Sm.of_res (by assumption) (fm_lo (by assumption) _) (fm_hi (by assumption) _) | exact Sm.of_res (by assumption) (by assumption) (by assumption)); (case hx2 => first | k_mem | k_asm | exact Sm.of_res (by assumption) (fm_lo (by assumption) _) (fm_hi (by assumption) _) | exact Sm.of_res (by assumption) (by assumption) (by assumption)); (case hdx2 => first | k_mem | k_asm | exact Sm.of_res (by assumption) (fm_lo (by assumption) _) (fm_hi (by assumption) _) | exact Sm.of_res (by assumption) (by assumption) (by assumption)); k_whole); intro x' d' h' t1' t2' t3' t4' tk' F' N' l1 l2; (try k_sweep); (try dsimp only [PySem.W.CmpBack, PySem.W.InitBack, PySem.W.LenBack, PySem.W.StrBack, PySem.W.BoolBack])))
local macro_rules | `(tactic| k_enter) => `(tactic| ((with_reducible show codeAny _ _ (Code.call (Value.ref 218) _) _ _); k_dflt (refine' mul_i_P ?B ?F ?X ?N ?T ?hf ?hk ?hd ?hm ?hx ?hdx ?sn ?si ?_; (case B => k_asm); (case F => k_asm); (case X => k_asm); (case N => k_asm); (case T => k_asm); (case hf => first | exact rfl | assumption); (case hk => first | exact rfl | assumption); (case hd => k_room); (case hm => k_asm); (case hx => first | k_mem | k_asm | exact Sm.of_res (by assumption) (fm_lo (by assumption) _) (fm_hi (by assumption) _) | exact Sm.of_res (by assumption) (by assumption) (by assumption)); (case hdx => first | k_mem | k_asm | exact Sm.of_res (by assumption) (fm_lo (by assumption) _) (fm_hi (by assumption) _) | exact Sm.of_res (by assumption) (by assumption) (by assumption)); (case sn => first | k_mem | k_asm | exact Sm.of_res (by assumption) (fm_lo (by assumption) _) (fm_hi (by assumption) _) | exact Sm.of_res (by assumption) (by assumption) (by assumption)); (case si => first | k_mem | k_asm | exact Sm.of_res (by assumption) (fm_lo (by assumption) _) (fm_hi (by assumption) _) | exact Sm.of_res (by assumption) (by assumption) (by assumption)); k_whole); intro x' d' h' t1' t2' t3' t4' tk' F' N' l1 l2; (try k_sweep); (try dsimp only [PySem.W.CmpBack, PySem.W.InitBack, PySem.W.LenBack, PySem.W.StrBack, PySem.W.BoolBack])))
local macro_rules | `(tactic| k_enter) => `(tactic| ((with_reducible show codeAny _ _ (Code.call (Value.ref 218) _) _ _); k_dflt (refine' mul_r_P ?B ?F ?X ?N ?T ?hf ?hk ?hd ?hm ?hx ?hdx ?hx2 ?hdx2 ?sn ?si ?_; (case B => k_asm); (case F => k_asm); (case X => k_asm); (case N => k_asm); (case T => k_asm); (case hf => first | exact rfl | assumption); (case hk => first | exact rfl | assumption); (case hd => k_room); (case hm => k_asm); (case hx => first | k_mem | k_asm | exact Sm.of_res (by assumption) (fm_lo (by assumption) _) (fm_hi (by assumption) _) | exact Sm.of_res (by assumption) (by assumption) (by assumption)); (case hdx => first | k_mem | k_asm | exact Sm.of_res (by assumption) (fm_lo (by assumption) _) (fm_hi (by assumption) _) | exact Sm.of_res (by assumption) (by assumption) (by assumption)); (case hx2 => first | k_mem | k_asm | exact Sm.of_res (by assumption) (fm_lo (by assumption) _) (fm_hi (by assumption) _) | exact Sm.of_res (by assumption) (by assumption) (by assumption)); (case hdx2 => first | k_mem | k_asm | exact Sm.of_res (by assumption) (fm_lo (by assumption) _) (fm_hi (by assumption) _) | exact Sm.of_res (by assumption) (by assumption) (by assumption)); (case sn => first | k_mem | k_asm | exact Sm.of_res (by assumption) (fm_lo (by assumption) _) (fm_hi (by assumption) _) | exact Sm.of_res (by assumption) (by assumption) (by assumption)); (case si => first | k_mem | k_asm | exact Sm.of_res (by assumption) (fm_lo (by assumption) _) (fm_hi (by assumption) _) | exact Sm.of_res (by assumption) (by assumption) (by assumption)); k_whole); intro x' d' h' t1' t2' t3' t4' tk' F' N' l1 l2; (try k_sweep); (try dsimp only [PySem.W.CmpBack, PySem.W.InitBack, PySem.W.LenBack, PySem.W.StrBack, PySem.W.BoolBack])))
local macro_rules | `(tactic| k_enter) => `(tactic| ((with_reducible show codeAny _ _ (Code.call (Value.ref 239) _) _ _); k_dflt (refine' rsub_i_P ?B ?F ?X ?N ?T ?hf ?hk ?hd ?hm ?hx ?hdx ?_; (case B => k_asm); (case F => k_asm); (case X => k_asm); (case N => k_asm); (case T => k_asm); (case hf => first | exact rfl | assumption); (case hk => first | exact rfl | assumption); (case hd => k_room); (case hm => k_asm); (case hx => first | k_mem | k_asm | exact Sm.of_res (by assumption) (fm_lo (by assumption) _) (fm_hi (by assumption) _) | exact Sm.of_res (by assumption) (by assumption) (by assumption)); (case hdx => first | k_mem | k_asm | exact Sm.of_res (by assumption) (fm_lo (by assumption) _) (fm_hi (by assumption) _) | exact Sm.of_res (by assumption) (by assumption) (by assumption)); k_whole); intro x' d' h' t1' t2' t3' t4' tk' F' N' l1 l2; (try k_sweep); (try dsimp only [PySem.W.CmpBack, PySem.W.InitBack, PySem.W.LenBack, PySem.W.StrBack, PySem.W.BoolBack])))
local macro_rules | `(tactic| k_enter) => `(tactic| ((with_reducible show codeAny _ _ (Code.call (Value.ref 288) _) _ _); k_dflt (refine' neg_P ?B ?F ?X ?N ?T ?hf ?hk ?hd ?hm ?hx ?hdx ?_; (case B => k_asm); (case F => k_asm); (case X => k_asm); (case N => k_asm); (case T => k_asm); (case hf => first | exact rfl | assumption); (case hk => first | exact rfl | assumption); (case hd => k_room); (case hm => k_asm); (case hx => first | k_mem | k_asm | exact Sm.of_res (by assumption) (fm_lo (by assumption) _) (fm_hi (by assumption) _) | exact Sm.of_res (by assumption) (by assumption) (by assumption)); (case hdx => first | k_mem | k_asm | exact Sm.of_res (by assumption) (fm_lo (by assumption) _) (fm_hi (by assumption) _) | exact Sm.of_res (by assumption) (by assumption) (by assumption)); k_whole); intro x' d' h' t1' t2' t3' t4' tk' F' N' l1 l2; (try k_sweep); (try dsimp only [PySem.W.CmpBack, PySem.W.InitBack, PySem.W.LenBack, PySem.W.StrBack, PySem.W.BoolBack])))
local macro_rules | `(tactic| k_enter) => `(tactic| ((with_reducible show codeAny _ _ (Code.call (Value.ref 49) _) _ _); k_dflt (refine' add_i_O ?B ?F ?X ?N ?T ?hf ?hk ?hd ?hm ?hx ?hdx ?_; (case B => k_asm); (case F => k_asm); (case X => k_asm); (case N => k_asm); (case T => k_asm); (case hf => first | exact rfl | assumption); (case hk => first | exact rfl | assumption); (case hd => k_room); (case hm => k_asm); (case hx => first | k_mem | k_asm | exact Sm.of_res (by assumption) (fm_lo (by assumption) _) (fm_hi (by assumption) _) | exact Sm.of_res (by assumption) (by assumption) (by assumption)); (case hdx => first | k_mem | k_asm | exact Sm.of_res (by assumption) (fm_lo (by assumption) _) (fm_hi (by assumption) _) | exact Sm.of_res (by assumption) (by assumption) (by assumption)); k_whole); intro x' d' h' t1' t2' t3' t4' tk' F' N' l1 l2; (try k_sweep); (try dsimp only [PySem.W.CmpBack, PySem.W.InitBack, PySem.W.LenBack, PySem.W.StrBack, PySem.W.BoolBack])))
local macro_rules | `(tactic| k_enter) => `(tactic| ((with_reducible show codeAny _ _ (Code.call (Value.ref 49) _) _ _); k_dflt (refine' add_r_O ?B ?F ?X ?N ?T ?hf ?hk ?hd ?hm ?hx ?hdx ?hx2 ?hdx2 ?_; (case B => k_asm); (case F => k_asm); (case X => k_asm); (case N => k_asm); (case T => k_asm); (case hf => first | exact rfl | assumption); (case hk => first | exact rfl | assumption); (case hd => k_room); (case hm => k_asm); (case hx => first | k_mem | k_asm | exact Sm.of_res (by assumption) (fm_lo (by assumption) _) (fm_hi (by assumption) _) | exact Sm.of_res (by assumption) (by assumption) (by assumption)); (case hdx => first | k_mem | k_asm | exact Sm.of_res (by assumption) (fm_lo (by assumption) _) (fm_hi (by assumption) _) | exact Sm.of_res (by assumption) (by assumption) (by assumption)); (case hx2 => first | k_mem | k_asm | exact Sm.of_res (by assumption) (fm_lo (by assumption) _) (fm_hi (by assumption) _) | exact Sm.of_res (by assumption) (by assumption) (by assumption)); (case hdx2 => first | k_mem | k_asm | exact Sm.of_res (by assumption) (fm_lo (by assumption) _) (fm_hi (by assumption) _) | exact Sm.of_res (by assumption) (by assumption) (by assumption)); k_whole); intro x' d' h' t1' t2' t3' t4' tk' F' N' l1 l2; (try k_sweep); (try dsimp only [PySem.W.CmpBack, PySem.W.InitBack, PySem.W.LenBack, PySem.W.StrBack, PySem.W.BoolBack])))
local macro_rules | `(tactic| k_enter) => `(tactic| ((with_reducible show codeAny _ _ (Code.call (Value.ref 84) _) _ _); k_dflt (refine' sub_i_O ?B ?F ?X ?N ?T ?hf ?hk ?hd ?hm ?hx ?hdx ?_; (case B => k_asm); (case F => k_asm); (case X => k_asm); (case N => k_asm); (case T => k_asm); (case hf => first | exact rfl | assumption); (case hk => first | exact rfl | assumption); (case hd => k_room); (case hm => k_asm); (case hx => first | k_mem | k_asm | exact Sm.of_res (by assumption) (fm_lo (by assumption) _) (fm_hi (by assumption) _) | exact Sm.of_res (by assumption) (by assumption) (by assumption)); (case hdx => first | k_mem | k_asm | exact Sm.of_res (by assumption) (fm_lo (by assumption) _) (fm_hi (by assumption) _) | exact Sm.of_res (by assumption) (by assumption) (by assumption)); k_whole); intro x' d' h' t1' t2' t3' t4' tk' F' N' l1 l2; (try k_sweep); (try dsimp only [PySem.W.CmpBack, PySem.W.InitBack, PySem.W.LenBack, PySem.W.StrBack, PySem.W.BoolBack])))
local macro_rules | `(tactic| k_enter) => `(tactic| ((with_reducible show codeAny _ _ (Code.call (Value.ref 84) _) _ _); k_dflt (refine' sub_r_O ?B ?F ?X ?N ?T ?hf ?hk ?hd ?hm ?hx ?hdx ?hx2 ?hdx2 ?_; (case B => k_asm); (case F => k_asm); (case X => k_asm); (case N => k_asm); (case T => k_asm); (case hf => first | exact rfl | assumption); (case hk => first | exact rfl | assumption); (case hd => k_room); (case hm => k_asm); (case hx => first | k_mem | k_asm | exact Sm.of_res (by assumption) (fm_lo (by assumption) _) (fm_hi (by assumption) _) | exact Sm.of_res (by assumption) (by assumption) (by assumption)); (case hdx => first | k_mem | k_asm | exact Sm.of_res (by assumption) (fm_lo (by assumption) _) (fm_hi (by assumption) _) | exact Sm.of_res (by assumption) (by assumption) (by assumption)); (case hx2 => first | k_mem | k_asm | exact Sm.of_res (by assumption) (fm_lo (by assumption) _) (fm_hi (by assumption) _) | exact Sm.of_res (by assumption) (by assumption) (by assumption)); (case hdx2 => first | k_mem | k_asm | exact Sm.of_res (by assumption) (fm_lo (by assumption) _) (fm_hi (by assumption) _) | exact Sm.of_res (by assumption) (by assumption) (by assumption)); k_whole); intro x' d' h' t1' t2' t3' t4' tk' F' N' l1 l2; (try k_sweep); (try dsimp only [PySem.W.CmpBack, PySem.W.InitBack, PySem.W.LenBack, PySem.W.StrBack, PySem.W.BoolBack])))
local macro_rules | `(tactic| k_enter) => `(tactic| ((with_reducible show codeAny _ _ (Code.call (Value.ref 56) _) _ _); k_dflt (refine' mul_i_O ?B ?F ?X ?N ?T ?hf ?hk ?hd ?hm ?hx ?hdx ?sn ?si ?_; (case B => k_asm); (case F => k_asm); (case X => k_asm); (case N => k_asm); (case T => k_asm); (case hf => first | exact rfl | assumption); (case hk => first | exact rfl | assumption); (case hd => k_room); (case hm => k_asm); (case hx => first | k_mem | k_asm | exact Sm.of_res (by assumption) (fm_lo (by assumption) _) (fm_hi (by assumption) _) | exact Sm.of_res (by assumption) (by assumption) (by assumption)); (case hdx => first | k_mem | k_asm | exact Sm.of_res (by assumption) (fm_lo (by assumption) _) (fm_hi (by assumption) _) | exact Sm.of_res (by assumption) (by assumption) (by assumption)); (case sn => first | k_mem | k_asm | exact Sm.of_res (by assumption) (fm_lo (by assumption) _) (fm_hi (by assumption) _) | exact Sm.of_res (by assumption) (by assumption) (by assumption)); (case si => first | k_mem | k_asm | exact Sm.of_res (by assumption) (fm_lo (by assumption) _) (fm_hi (by assumption) _) | exact Sm.of_res (by assumption) (by assumption) (by assumption)); k_whole); intro x' d' h' t1' t2' t3' t4' tk' F' N' l1 l2; (try k_sweep); (try dsimp only [PySem.W.CmpBack, PySem.W.InitBack, PySem.W.LenBack, PySem.W.StrBack, PySem.W.BoolBack])))
local macro_rules | `(tactic| k_enter) => `(tactic| ((with_reducible show codeAny _ _ (Code.call (Value.ref 56) _) _ _); k_dflt (refine' mul_r_O ?B ?F ?X ?N ?T ?hf ?hk ?hd ?hm ?hx ?hdx ?hx2 ?hdx2 ?sn ?si ?_; (case B => k_asm); (case F => k_asm); (case X => k_asm); (case N => k_asm); (case T => k_asm); (case hf => first | exact rfl | assumption); (case hk => first | exact rfl | assumption); (case hd => k_room); (case hm => k_asm); (case hx => first | k_mem | k_asm | exact Sm.of_res (by assumption) (fm_lo (by assumption) _) (fm_hi (by assumption) _) | exact Sm.of_res (by assumption) (by assumption) (by assumption)); (case hdx => first | k_mem | k_asm | exact Sm.of_res (by assumption) (fm_lo (by assumption) _) (fm_hi (by assumption) _) | exact Sm.of_res (by assumption) (by assumption) (by assumption)); (case hx2 => first | k_mem | k_asm | exact Sm.of_res (by assumption) (fm_lo (by assumption) _) (fm_hi (by assumption) _) | exact Sm.of_res (by assumption) (by assumption) (by assumption)); (case hdx2 => first | k_mem | k_asm | exact Sm.of_res (by assumption) (fm_lo (by assumption) _) (fm_hi (by assumption) _) | exact Sm.of_res (by assumption) (by assumption) (by assumption)); (case sn => first | k_mem | k_asm | exact Sm.of_res (by assumption) (fm_lo (by assumption) _) (fm_hi (by assumption) _) | exact Sm.of_res (by assumption) (by assumption) (by assumption)); (case si => first | k_mem | k_asm | exact Sm.of_res (by assumption) (fm_lo (by assumption) _) (fm_hi (by assumption) _) | exact Sm.of_res (by assumption) (by assumption) (by assumption)); k_whole); intro x' d' h' t1' t2' t3' t4' tk' F' N' l1 l2; (try k_sweep); (try dsimp only [PySem.W.CmpBack, PySem.W.InitBack, PySem.W.LenBack, PySem.W.StrBack, PySem.W.BoolBack])))
local macro_rules | `(tactic| k_enter) => `(tactic| ((with_reducible show codeAny _ _ (Code.call (Value.ref 77) _) _ _); k_dflt (refine' rsub_i_O ?B ?F ?X ?N ?T ?hf ?hk ?hd ?hm ?hx ?hdx ?_; (case B => k_asm); (case F => k_asm); (case X => k_asm); (case N => k_asm); (case T => k_asm); (case hf => first | exact rfl | assumption); (case hk => first | exact rfl | assumption); (case hd => k_room); (case hm => k_asm); (case hx => first | k_mem | k_asm | exact Sm.of_res (by assumption) (fm_lo (by assumption) _) (fm_hi (by assumption) _) | exact Sm.of_res (by assumption) (by assumption) (by assumption)); (case hdx => first | k_mem | k_asm | exact Sm.of_res (by assumption) (fm_lo (by assumption) _) (fm_hi (by assumption) _) | exact Sm.of_res (by assumption) (by assumption) (by assumption)); k_whole); intro x' d' h' t1' t2' t3' t4' tk' F' N' l1 l2; (try k_sweep); (try dsimp only [PySem.W.CmpBack, PySem.W.InitBack, PySem.W.LenBack, PySem.W.StrBack, PySem.W.BoolBack])))
local macro_rules | `(tactic| k_enter) => `(tactic| ((with_reducible show codeAny _ _ (Code.call (Value.ref 133) _) _ _); k_dflt (refine' neg_O ?B ?F ?X ?N ?T ?hf ?hk ?hd ?hm ?hx ?hdx ?_; (case B => k_asm); (case F => k_asm); (case X => k_asm); (case N => k_asm); (case T => k_asm); (case hf => first | exact rfl | assumption); (case hk => first | exact rfl | assumption); (case hd => k_room); (case hm => k_asm); (case hx => first | k_mem | k_asm | exact Sm.of_res (by assumption) (fm_lo (by assumption) _) (fm_hi (by assumption) _) | exact Sm.of_res (by assumption) (by assumption) (by assumption)); (case hdx => first | k_mem | k_asm | exact Sm.of_res (by assumption) (fm_lo (by assumption) _) (fm_hi (by assumption) _) | exact Sm.of_res (by assumption) (by assumption) (by assumption)); k_whole); intro x' d' h' t1' t2' t3' t4' tk' F' N' l1 l2; (try k_sweep); (try dsimp only [PySem.W.CmpBack, PySem.W.InitBack, PySem.W.LenBack, PySem.W.StrBack, PySem.W.BoolBack])))
local macro_rules | `(tactic| k_enter) => `(tactic| ((with_reducible show codeAny _ _ (Code.call (Value.ref 225) _) _ _); k_dflt (refine' rmul_i_P ?B ?F ?X ?N ?T ?hf ?hk ?hd ?hm ?hx ?hdx ?sn ?si ?_; (case B => k_asm); (case F => k_asm); (case X => k_asm); (case N => k_asm); (case T => k_asm); (case hf => first | exact rfl | assumption); (case hk => first | exact rfl | assumption); (case hd => k_room); (case hm => k_asm); (case hx => first | k_mem | k_asm | exact Sm.of_res (by assumption) (fm_lo (by assumption) _) (fm_hi (by assumption) _) | exact Sm.of_res (by assumption) (by assumption) (by assumption)); (case hdx => first | k_mem | k_asm | exact Sm.of_res (by assumption) (fm_lo (by assumption) _) (fm_hi (by assumption) _) | exact Sm.of_res (by assumption) (by assumption) (by assumption)); (case sn => first | k_mem | k_asm | exact Sm.of_res (by assumption) (fm_lo (by assumption) _) (fm_hi (by assumption) _) | exact Sm.of_res (by assumption) (by assumption) (by assumption)); (case si => first | k_mem | k_asm | exact Sm.of_res (by assumption) (fm_lo (by assumption) _) (fm_hi (by assumption) _) | exact Sm.of_res (by assumption) (by assumption) (by assumption)); k_whole); intro x' d' h' t1' t2' t3' t4' tk' F' N' l1 l2; (try k_sweep); (try dsimp only [PySem.W.CmpBack, PySem.W.InitBack, PySem.W.LenBack, PySem.W.StrBack, PySem.W.BoolBack])))
local macro_rules | `(tactic| k_enter) => `(tactic| ((with_reducible show codeAny _ _ (Code.call (Value.ref 232) _) _ _); k_dflt (refine' radd_i_P ?B ?F ?X ?N ?T ?hf ?hk ?hd ?hm ?hx ?hdx ?_; (case B => k_asm); (case F => k_asm); (case X => k_asm); (case N => k_asm); (case T => k_asm); (case hf => first | exact rfl | assumption); (case hk => first | exact rfl | assumption); (case hd => k_room); (case hm => k_asm); (case hx => first | k_mem | k_asm | exact Sm.of_res (by assumption) (fm_lo (by assumption) _) (fm_hi (by assumption) _) | exact Sm.of_res (by assumption) (by assumption) (by assumption)); (case hdx => first | k_mem | k_asm | exact Sm.of_res (by assumption) (fm_lo (by assumption) _) (fm_hi (by assumption) _) | exact Sm.of_res (by assumption) (by assumption) (by assumption)); k_whole); intro x' d' h' t1' t2' t3' t4' tk' F' N' l1 l2; (try k_sweep); (try dsimp only [PySem.W.CmpBack, PySem.W.InitBack, PySem.W.LenBack, PySem.W.StrBack, PySem.W.BoolBack])))
local macro_rules | `(tactic| k_enter) => `(tactic| ((with_reducible show codeAny _ _ (Code.call (Value.ref 63) _) _ _); k_dflt (refine' rmul_i_O ?B ?F ?X ?N ?T ?hf ?hk ?hd ?hm ?hx ?hdx ?sn ?si ?_; (case B => k_asm); (case F => k_asm); (case X => k_asm); (case N => k_asm); (case T => k_asm); (case hf => first | exact rfl | assumption); (case hk => first | exact rfl | assumption); (case hd => k_room); (case hm => k_asm); (case hx => first | k_mem | k_asm | exact Sm.of_res (by assumption) (fm_lo (by assumption) _) (fm_hi (by assumption) _) | exact Sm.of_res (by assumption) (by assumption) (by assumption)); (case hdx => first | k_mem | k_asm | exact Sm.of_res (by assumption) (fm_lo (by assumption) _) (fm_hi (by assumption) _) | exact Sm.of_res (by assumption) (by assumption) (by assumption)); (case sn => first | k_mem | k_asm | exact Sm.of_res (by assumption) (fm_lo (by assumption) _) (fm_hi (by assumption) _) | exact Sm.of_res (by assumption) (by assumption) (by assumption)); (case si => first | k_mem | k_asm | exact Sm.of_res (by assumption) (fm_lo (by assumption) _) (fm_hi (by assumption) _) | exact Sm.of_res (by assumption) (by assumption) (by assumption)); k_whole); intro x' d' h' t1' t2' t3' t4' tk' F' N' l1 l2; (try k_sweep); (try dsimp only [PySem.W.CmpBack, PySem.W.InitBack, PySem.W.LenBack, PySem.W.StrBack, PySem.W.BoolBack])))
local macro_rules | `(tactic| k_enter) => `(tactic| ((with_reducible show codeAny _ _ (Code.call (Value.ref 70) _) _ _); k_dflt (refine' radd_i_O ?B ?F ?X ?N ?T ?hf ?hk ?hd ?hm ?hx ?hdx ?_; (case B => k_asm); (case F => k_asm); (case X => k_asm); (case N => k_asm); (case T => k_asm); (case hf => first | exact rfl | assumption); (case hk => first | exact rfl | assumption); (case hd => k_room); (case hm => k_asm); (case hx => first | k_mem | k_asm | exact Sm.of_res (by assumption) (fm_lo (by assumption) _) (fm_hi (by assumption) _) | exact Sm.of_res (by assumption) (by assumption) (by assumption)); (case hdx => first | k_mem | k_asm | exact Sm.of_res (by assumption) (fm_lo (by assumption) _) (fm_hi (by assumption) _) | exact Sm.of_res (by assumption) (by assumption) (by assumption)); k_whole); intro x' d' h' t1' t2' t3' t4' tk' F' N' l1 l2; (try k_sweep); (try dsimp only [PySem.W.CmpBack, PySem.W.InitBack, PySem.W.LenBack, PySem.W.StrBack, PySem.W.BoolBack])))
local macro_rules | `(tactic| k_enter) => `(tactic| ((with_reducible show codeAny _ _ (Code.call (Value.ref 267) _) _ _); k_dflt (refine' pow_i_P ?B ?F ?X ?N ?T ?hf ?hk ?hd ?hm ?hS ?hx ?hdx ?sn ?h0 ?h1 ?_; (case B => k_asm); (case F => k_asm); (case X => k_asm); (case N => k_asm); (case T => k_asm); (case hf => first | exact rfl | assumption); (case hk => first | exact rfl | assumption); (case hd => k_room); (case hm => k_asm); (case hS => k_asm); (case hx => k_mem); (case hdx => k_mem); (case sn => exact Sm.of_res (by assumption) (by assumption) (by assumption)); (case h0 => exact (fm_4096 _).1); (case h1 => exact (fm_4096 _).2); k_whole); intro x' d' h' t1' t2' t3' t4' tk' F' N' l1 l2; (try k_sweep); (try dsimp only [PySem.W.CmpBack, PySem.W.InitBack, PySem.W.LenBack, PySem.W.StrBack, PySem.W.BoolBack])))
local macro_rules | `(tactic| k_enter) => `(tactic| ((with_reducible show codeAny _ _ (Code.call (Value.ref 112) _) _ _); k_dflt (refine' pow_i_O ?B ?F ?X ?N ?T ?hf ?hk ?hd ?hm ?hS ?hx ?hdx ?sn ?h0 ?h1 ?_; (case B => k_asm); (case F => k_asm); (case X => k_asm); (case N => k_asm); (case T => k_asm); (case hf => first | exact rfl | assumption); (case hk => first | exact rfl | assumption); (case hd => k_room); (case hm => k_asm); (case hS => k_asm); (case hx => k_mem); (case hdx => k_mem); (case sn => exact Sm.of_res (by assumption) (by assumption) (by assumption)); (case h0 => exact (fm_4096 _).1); (case h1 => exact (fm_4096 _).2); k_whole); intro x' d' h' t1' t2' t3' t4' tk' F' N' l1 l2; (try k_sweep); (try dsimp only [PySem.W.CmpBack, PySem.W.InitBack, PySem.W.LenBack, PySem.W.StrBack, PySem.W.BoolBack])))
local macro_rules | `(tactic| walk_at "binaryOp Add int ref") => `(tactic| (k_here; (with_reducible show wpAny _ _ (binaryOp Operator.Add (Value.int _ _) (Value.ref _)) _ _ _); k_dflt (refine' int_binR ?F ?X ?I ?hc ?hs ?hr ?hf ?hu PySem.F.fills_int_add PySem.F.slot_int_add PySem.F.entry_int_add (PySem.F.args_int_add_2 _ _) (int_add_inst _ _ _ _ _) ?_; (case F => k_asm); (case X => k_asm); (case I => k_inst); (case hc => k_is); (case hs => k_is); (case hr => k_is); (case hf => k_is); (case hu => k_is); k_whole)))
local macro_rules | `(tactic| walk_at "binaryOp Sub int ref") => `(tactic| (k_here; (with_reducible show wpAny _ _ (binaryOp Operator.Sub (Value.int _ _) (Value.ref _)) _ _ _); k_dflt (refine' int_binR ?F ?X ?I ?hc ?hs ?hr ?hf ?hu PySem.F.fills_int_sub PySem.F.slot_int_sub PySem.F.entry_int_sub (PySem.F.args_int_sub_2 _ _) (int_sub_inst _ _ _ _ _) ?_; (case F => k_asm); (case X => k_asm); (case I => k_inst); (case hc => k_is); (case hs => k_is); (case hr => k_is); (case hf => k_is); (case hu => k_is); k_whole)))
local macro_rules | `(tactic| walk_at "binaryOp Mult int ref") => `(tactic| (k_here; (with_reducible show wpAny _ _ (binaryOp Operator.Mult (Value.int _ _) (Value.ref _)) _ _ _); k_dflt (refine' int_binR ?F ?X ?I ?hc ?hs ?hr ?hf ?hu PySem.F.fills_int_mul PySem.F.slot_int_mul PySem.F.entry_int_mul (PySem.F.args_int_mul_2 _ _) (int_mul_inst _ _ _ _ _) ?_; (case F => k_asm); (case X => k_asm); (case I => k_inst); (case hc => k_is); (case hs => k_is); (case hr => k_is); (case hf => k_is); (case hu => k_is); k_whole)))
local macro_rules | `(tactic| walk_at "binaryOp Div int ref") => `(tactic| (k_here; (with_reducible show wpAny _ _ (binaryOp Operator.Div (Value.int _ _) (Value.ref _)) _ _ _); k_dflt (refine' int_binR ?F ?X ?I ?hc ?hs ?hr ?hf ?hu PySem.F.fills_int_truediv PySem.F.slot_int_truediv PySem.F.entry_int_truediv (PySem.F.args_int_truediv_2 _ _) (int_div_inst _ _ _ _ _) ?_; (case F => k_asm); (case X => k_asm); (case I => k_inst); (case hc => k_is); (case hs => k_is); (case hr => k_is); (case hf => k_is); (case hu => k_is); k_whole)))
local macro_rules | `(tactic| walk_at "call builtin:pow") => `(tactic| (k_here; (with_reducible show wpAny _ _ (call (Value.builtin "pow") [Value.int _ _, Value.int _ _, Value.int _ _]) _ _ _); refine pow3 (by first | assumption | omega) (by first | assumption | exact (fm_4096 _).1 | omega) ?_))
local macro_rules | `(tactic| walk_at "subscriptTail") => `(tactic| (k_here; (with_reducible show wpAny _ _ (subscriptTail _ _ (Value.ref _) (Value.int (Int.fmod _ _) _)) _ _ _); k_dflt (refine' rows_item ?N ?hl ?hr ?hsub ?hc ?hb ?h0 ?h1 ?_ ?hs; (case N => k_asm); (case hl => k_mem); (case hr => assumption); (case hsub => repeat (first | exact sub_refl | apply sub_tail)); (case hc => assumption); (case hb => assumption); (case h0 => exact (fm_lt (by assumption)).1); (case h1 => exact (fm_lt (by assumption)).2); (case hs => with_unfolding_all rfl); k_whole); intro a' p' dp' q' dq' due' td' p1' p2' p3' p4' q1' q2' q3' q4' r0' r1' N'))

set_option maxHeartbeats 8000000 in
theorem deed_ok {l : Addr} {vs : Array Value} {nn c : Nat} {number md : Int} {tn tm : Tok} (B : Below A₀ base outer h₀) (F : Fr h₀ L s.heap m) (X : (Mine.hd.heap_1 w.params).In h₀) (N : News h₀ L s.heap news) (T : Top p loose mean mg mb h₀) (hf : env.frame = some L) (hke : env.scope.kind = .function) (hdp : d ≤ 800) (hl : (l, listOf vs nn) ∈ news) (hr : ∀ v ∈ vs.toList, RowIn w.params md news v) (hc : vs.size = c) (hc0 : 0 < c) (hb : c ≤ 1000) (hmd : 2 ≤ md) (hS : Sk md) (hn0 : 0 ≤ number) (hnb : Builtin.Int.intBits number ≤ 1048576)
    (h : ∀ a p dp q dq due td p1 p2 p3 p4 q1 q2 q3 q4 h' tk, 0 ≤ due → due < md → Fr h₀ L h' m → News h₀ L h' ((a, tupO [.int due td, .ref p, .ref q]) :: (p, instObj 333 dp) :: (dp, FQD w.params p1 p2 p3 p4 md due) :: (q, instObj 186 dq) :: (dq, FQD w.params q1 q2 q3 q4 md due) :: news) →
      (∀ x ∈ news, x.1 < dp) → dp < p → (∀ x ∈ news, x.1 < dq) → dq < q → (∀ x ∈ news, x.1 < a) → R (.ok (.ret (.ref a))) { s with heap := h', toks := tk }) :
    codeAny (model prog w) ⟨none, d, some (env :: outer), gs, u⟩ (.call (.ref 358) ⟨[.ref l, .int number tn, .int md tm], []⟩) R s := by
  have hSt : Sm (number.fdiv 64 - 40) := sm_times hn0 hnb
  have hSm : Sm md := hS.sm
  replace N := news_show N hl
  (refine' code_def (binds := [("rows", .ref l), ("number", .int number tn), ("modulus", .int md tm)]) ?k1 ?k2 ?k3 ?k4 ?k5 ?kA ?kF ?kK ?k6 ?k7 ?k8 ?k9 ?kB ?_ ?c2 ?c3 ?c4 ?c5; (case kA => exact rfl); (case kF => exact hf); (case kK => exact hke); (case k1 => k_asm); (case k2 => k_asm); (case k3 => k_asm); (case k4 => k_asm); (case k5 => k_asm); (case k6 => k_is); (case k7 => k_is); (case k8 => k_room); (case k9 => exact BindsTo.of_eq rfl); (case c5 => decide); (case kB => exact locs rfl); (case c2 => exact rfl); (case c3 => exact rfl); (case c4 => exact rfl); k_whole; intro g' L' h' FG' F' N' B' X' T')
  clear B X T
  k_fold
  k_steps
  all_goals refine leaveK_ (by k_asm) (by k_asm) fun kF kN => ?_
  all_goals (try rw [fm_lin hmd] at kN)
  all_goals exact h _ _ _ _ _ _ _ _ _ _ _ _ _ _ _ _ _ (fm_lo hmd _) (fm_hi hmd _) kF (news_sub kN (sub5 (by repeat (first | exact sub_refl | apply sub_tail)) (by k_mem) (by k_mem) (by k_mem) (by k_mem) (by k_mem))) (fresh_of (by assumption) (by repeat (first | exact sub_refl | apply sub_tail))) (by assumption) (fresh_of (by assumption) (by repeat (first | exact sub_refl | apply sub_tail))) (by assumption) (fresh_trans (fresh_of (by assumption) (by repeat (first | exact sub_refl | apply sub_tail))) (by omega))
end P_M16
section P_R7
local macro_rules | `(tactic| k_room) => `(tactic| ((try simp only [depth_under_make, depth_under_kw, depth_in1, depth_deeper, depth_caller, recursionLimit]); omega))
local macro_rules | `(tactic| k_all) => `(tactic| (intro p hp; exact Nat.ne_of_lt ((by assumption : ∀ p ∈ _, p.1 < _) p hp)))
local macro_rules | `(tactic| k_units) => `(tactic| ((try simp only [units_in1, units_deeper, Around.mark_units, units_caller, cLine]); omega))
local macro_rules | `(tactic| mul_fits) => `(tactic| exact mulOk_of (by first | assumption | exact Sm.of_res (by assumption) (by assumption) (by assumption)) (by first | assumption | exact Sm.of_res (by assumption) (by assumption) (by assumption)))
variable {prog : Program} {w : World} {A₀ : Around} {s : Shared} {d u : Nat} {gs : Option (List Code)} {env : Env} {outer : List Env} {base h₀ : Heap} {L : Addr} {m mg mb : Str → Option Value} {p : Program} {loose : List Str} {mean : ExcName → Option Value} {news : List (Addr × Obj)} {R : Result → Shared → Prop} {Q : Value → Shared → Prop} {E : Value → Shared → Prop}
local macro_rules | `(tactic| k_steps) => `(tactic| repeat' (first | (k_unfold; (try dsimp only)) | (dsimp only; k_unfold; (try dsimp only)) | walk1 | (dsimp only; walk1) | (leave1; walk_say "STEP leave1"; try dsimp only) | fail "no step"))
section
open PySem.Calls
/-- the end of a turn: the state again, with the invariant for what is left -/
def TurnE (h₀ : Heap) (L : Addr) (s : Shared) (I : Addr) (o : Obj) (Nx : (Str → Option Value) → List (Addr × Obj) → Prop) (Q : Flow → Shared → Prop) (f : Flow) (s₃ : Shared) : Prop :=
  match f with
  | .ret v => Q (.ret v) s₃
  | .brk => Q .next s₃
  | _ => ∃ h' tk' m' news', s₃ = { s with heap := h', toks := tk' } ∧ Fr h₀ L h' m' ∧ News h₀ L h' ((I, o) :: news') ∧ (∀ p ∈ news', p.1 ≠ I) ∧ Nx m' news'
theorem turn_end {h₀ : Heap} {L I : Addr} {s : Shared} {o : Obj} {Nx : (Str → Option Value) → List (Addr × Obj) → Prop} {h' : Heap} {tk' : Nat} {m' : Str → Option Value} {news' : List (Addr × Obj)}
    (F : Fr h₀ L h' m') (N : News h₀ L h' ((I, o) :: news')) (hI : ∀ p ∈ news', p.1 ≠ I) (hN : Nx m' news') {Q : Flow → Shared → Prop} : TurnE h₀ L s I o Nx Q .next { s with heap := h', toks := tk' } :=
  ⟨h', tk', m', news', rfl, F, N, hI, hN⟩
theorem items_inv {prog : Program} {w : World} {A : Around} {E : Value → Shared → Prop} {h₀ : Heap} {env : Env} {target : Expr} {body : List Stmt} {Q : Flow → Shared → Prop} {s : Shared} {keep : List (Addr × Obj)} {cn : String} (I : Addr)
    (Inv : List Value → (Str → Option Value) → List (Addr × Obj) → Prop)
    (hkeep : ∀ r m n, Inv r m n → SubL keep n)
    (hstep : ∀ v r m news h tk o, Inv (v :: r) m news → o.cls = .type cn → Fr h₀ env.locals h m → News h₀ env.locals h ((I, o) :: news) → (∀ p ∈ news, p.1 ≠ I) →
      wpAny (model prog w) A (assign target env v) (fun _ s₂ => wpAny (model prog w) A (execs body env) (TurnE h₀ env.locals s I o (Inv r) Q) E s₂) E { s with heap := h, toks := tk })
    (hend : ∀ m news h tk, Inv [] m news → Fr h₀ env.locals h m → News h₀ env.locals h news → Q .next { s with heap := h, toks := tk }) :
    ∀ (vs : List Value) (m : Str → Option Value) (news : List (Addr × Obj)), Inv vs m news → (∀ p ∈ news, p.1 ≠ I) → ItemsRest prog w A E h₀ env target body Q s [(I, cn)] keep (vs.map .val) m news
  | [], m, news, hi, _ => ItemsRest.zero fun h tk F N => hend m news h tk hi F N
  | v :: r, m, news, hi, hI => by
    refine ItemsRest.val fun h tk F => AllObj.cons fun o hc => AllObj.nil fun N => ?_
    refine wpAny_mono (hstep v r m news h tk o hi hc F N hI) (fun _ s₂ z => wpAny_mono z (fun f s₃ y => ?_) fun _ _ e => e) fun _ _ e => e
    cases f with
    | ret v => exact y
    | brk => exact y
    | next =>
      obtain ⟨h', tk', m', news', e, F', N', hI', hN⟩ := y
      exact ⟨h', tk', m', news', by rw [e], F', N', fun p hp q hq => by rw [List.mem_singleton.mp hq]; exact hI' p hp, hkeep _ _ _ hN, items_inv I Inv hkeep hstep hend r m' news' hN hI'⟩
    | cont =>
      obtain ⟨h', tk', m', news', e, F', N', hI', hN⟩ := y
      exact ⟨h', tk', m', news', by rw [e], F', N', fun p hp q hq => by rw [List.mem_singleton.mp hq]; exact hI' p hp, hkeep _ _ _ hN, items_inv I Inv hkeep hstep hend r m' news' hN hI'⟩
end
end P_R7
section P_S3
local macro_rules | `(tactic| k_room) => `(tactic| ((try simp only [depth_under_make, depth_under_kw, depth_in1, depth_deeper, depth_caller, recursionLimit]); omega))
local macro_rules | `(tactic| k_all) => `(tactic| (intro p hp; exact Nat.ne_of_lt ((by assumption : ∀ p ∈ _, p.1 < _) p hp)))
local macro_rules | `(tactic| k_units) => `(tactic| ((try simp only [units_in1, units_deeper, Around.mark_units, units_caller, cLine]); omega))
local macro_rules | `(tactic| mul_fits) => `(tactic| exact mulOk_of (by first | assumption | exact Sm.of_res (by assumption) (by assumption) (by assumption)) (by first | assumption | exact Sm.of_res (by assumption) (by assumption) (by assumption)))
variable {prog : Program} {w : World} {A₀ : Around} {s : Shared} {d u : Nat} {gs : Option (List Code)} {env : Env} {outer : List Env} {base h₀ : Heap} {L : Addr} {m mg mb : Str → Option Value} {p : Program} {loose : List Str} {mean : ExcName → Option Value} {news : List (Addr × Obj)} {R : Result → Shared → Prop} {Q : Value → Shared → Prop} {E : Value → Shared → Prop}
local macro_rules | `(tactic| k_steps) => `(tactic| repeat' (first | (k_unfold; (try dsimp only)) | (dsimp only; k_unfold; (try dsimp only)) | walk1 | (dsimp only; walk1) | (leave1; walk_say "STEP leave1"; try dsimp only) | fail "no step"))
local macro_rules | `(tactic| walk_at "eval Name") => `(tactic| (k_here; k_dflt (refine' nameX_L ?F ?v ?_ ?a ?b; (case F => k_asm); (case a => rfl); (case b => rfl); (case v => assumption); k_whole)))
local macro_rules | `(tactic| k_steps) => `(tactic| repeat' (first | (k_unfold; (try dsimp only)) | (dsimp only; k_unfold; (try dsimp only)) | (walk1; (try dsimp only)) | (dsimp only; walk1) | (leave1; walk_say "STEP leave1"; try dsimp only) | fail "no step"))
local macro_rules | `(tactic| walk_at "subscriptTail") => `(tactic| (k_here; (with_reducible show wpAny _ _ (subscriptTail _ _ (Value.ref _) (Value.int _ _)) _ _ _); k_dflt (refine' item_litK ?k1 ?k2 ?k3 ?k4 ?_ ?k6; (case k1 => exact News.isList (by k_asm) (by k_mem)); (case k2 => decide); (case k3 => decide); (case k4 => rfl); (case k6 => with_unfolding_all rfl); k_whole)))
local macro_rules | `(tactic| walk_at "subscriptTail Name Slice ref ref") => `(tactic| (k_here; (with_reducible show wpAny _ _ (subscriptTail _ (PySem.Expr.Slice _ _ none _) (Value.ref _) (Value.ref _)) _ _ _); k_dflt (refine' kms_slice_lit (s := Shared.mk _ _ _ (_ + 1) _) ?F ?N ?l ?p ?q ?e ?_ ?s ?t ?z; (case F => k_asm); (case N => k_asm); (case l => exact News.isList (by k_asm) (by k_mem)); (case p => kmk_part); (case q => kmk_part); (case e => kl_lit); (case s => with_unfolding_all rfl); (case t => kmk_pure); (case z => kmk_size)); intro D' h' F' N' l1; (try k_lt l1); (try k_sweep)))
local macro_rules | `(tactic| walk_at "exec For Name Subscript cons nil") => `(tactic| (k_here; (rename Fr _ _ _ _ => lF'); (with_unfolding_all refine' For_turns lF' ?_; k_whole)))
local macro_rules | `(tactic| walk_at "call builtin:list.append") => `(tactic| (k_here; (with_reducible show wpAny _ _ (call (Value.builtin _) [Value.ref _, _]) _ _ _); k_dflt (refine' append_K ?k1 ?k2 ?k3 ?_ ?z; (case k1 => k_asm); (case k2 => k_asm); (case k3 => k_upd); (case z => (simp only [Array.size_push, PySem.sizeLine_eq]; omega)); k_whole); intro h' F' N'; (try k_sweep)))
local macro_rules | `(tactic| k_all) => `(tactic| assumption)
local macro_rules | `(tactic| k_enter) => `(tactic| ((with_reducible show codeAny _ _ (Code.call (Value.ref 358) _) _ _); k_dflt (refine' deed_ok ?B ?F ?X ?N ?T ?hf ?hk ?hd ?hl ?hr ?hc ?hc0 ?hb ?hm ?hS ?hn0 ?hnb ?_; (case B => k_asm); (case F => k_asm); (case X => k_asm); (case N => k_asm); (case T => k_asm); (case hf => first | exact rfl | assumption); (case hk => first | exact rfl | assumption); (case hd => k_room); (case hl => k_mem); (case hr => repeat' (first | exact rows_mono (by assumption) (by repeat (first | exact sub_refl | apply sub_tail | apply sub_appR)) | refine rows_push ?_ ?_ | exact row_in (by k_mem) (by k_mem) (by k_mem) (by k_mem) (by k_mem) (by assumption) (by assumption))); (case hc => exact rfl); (case hc0 => ((try simp only [Array.size_push]); omega)); (case hb => ((try simp only [Array.size_push]); omega)); (case hm => k_asm); (case hS => k_asm); (case hn0 => exact abs_pos'); (case hnb => exact abs_bits (by assumption)); k_whole); intro a' p' dp' q' dq' due' td' p1' p2' p3' p4' q1' q2' q3' q4' h' tk' r0' r1' F' N' l1 l2 l3 l4 l5; (try k_lt l1); (try k_lt2 l2); (try k_lt l3); (try k_lt2 l4); (try k_lt l5); (try k_sweep); (try dsimp only [PySem.W.CmpBack, PySem.W.InitBack])))

set_option maxHeartbeats 2000000 in
theorem stage3 {nm q : Str} {params : Arguments} {body : List Stmt} {scope : Scope} {dV kV doc pm cdv ct oc : Value} {an od : Option Addr} {osl : Array (Option Value)} {fa : Addr} {cd : Value} {g : Addr} {gn : Nat} {g0 g1 g2 g3 g4 g5 g6 g7 g8 : Int} {t0 t1 t2 t3 t4 t5 t6 t7 t8 : Tok} {l : Addr} {vs : Array Value} {n : Nat} {rest : List (Addr × Obj)} {md : Int} {tm : Tok} {QF : Flow → Shared → Prop} (hlk : (Mine.hd.heap_1 w.params).lookup 377 = some ⟨oc, od, .func (fnOf nm q params body scope dV kV doc pm an cdv ct), osl⟩) (B : Below A₀ h₀ [] h₀) (F : Fr h₀ L s.heap m) (X : (Mine.hd.heap_1 w.params).In h₀) (N : News h₀ L s.heap ((l, listOf vs n) :: rest)) (T : Top p loose mean mg mb h₀) (hdp : d ≤ 700) (hun : u ≤ 200) (hE : PassesOwn (model prog w) ⟨none, d, some [(envOfC q scope L fa cd)], gs, u⟩ (envOfC q scope L fa cd) E) (hb : ∀ i ∈ [g0, g1, g2, g3, g4, g5, g6, g7, g8], Builtin.Int.intBits i ≤ 1048576) (hg : m (Str.ofString "given") = some (.ref g)) (hmo : m (Str.ofString "modulus") = some (.int md tm)) (hmd : 2 ≤ md) (hS : Sk md) (hrw : m (Str.ofString "rows") = some (.ref l)) (hsz : vs.size = 2) (hr : ∀ v ∈ vs.toList, RowIn w.params md rest v) (hne : ∀ p ∈ rest, p.1 ≠ l) (hgm : (g, listOf #[.int g0 t0, .int g1 t1, .int g2 t2, .int g3 t3, .int g4 t4, .int g5 t5, .int g6 t6, .int g7 t7, .int g8 t8] gn) ∈ rest)
    (h : ∀ m' vs n rest h' tk, Fr h₀ L h' m' → m' (Str.ofString "rows") = some (.ref l) → m' (Str.ofString "given") = some (.ref g) → m' (Str.ofString "modulus") = some (.int md tm) → News h₀ L h' ((l, listOf vs n) :: rest) →
      vs.size = 7 → (∀ v ∈ vs.toList, RowIn w.params md rest v) → (∀ p ∈ rest, p.1 ≠ l) → (g, listOf #[.int g0 t0, .int g1 t1, .int g2 t2, .int g3 t3, .int g4 t4, .int g5 t5, .int g6 t6, .int g7 t7, .int g8 t8] gn) ∈ rest → QF .next { s with heap := h', toks := tk }) :
    wpAny (model prog w) ⟨none, d, some [(envOfC q scope L fa cd)], gs, u⟩ (execs ((body.drop 4).take 1) (envOfC q scope L fa cd)) QF E s := by
  have hgl : @Ne Nat g l := hne _ hgm
  replace N := news_sub N (sub1 (sub1 (sub_tail sub_refl) (.tail _ hgm)) (.head _) : ∀ p ∈ (l, listOf vs n) :: (g, listOf #[.int g0 t0, .int g1 t1, .int g2 t2, .int g3 t3, .int g4 t4, .int g5 t5, .int g6 t6, .int g7 t7, .int g8 t8] gn) :: rest, p ∈ (l, listOf vs n) :: rest)
  refine' with_lookup hlk ?k ?_
  (case k => k_is)
  intro eqo
  cases eqo
  clear hlk
  simp only [List.drop_succ_cons, List.drop_zero, List.take_succ_cons, List.take_zero]
  k_steps
  rename Fr _ _ _ _ => qf
  rename News _ _ _ _ => qn
  rename _ ∧ _ ∧ AllLt _ _ => ql
  rename Addr => ls
  have qn' := news_sub qn (sub1 (sub1 (sub1 (sub_tail (sub_tail (sub_tail sub_refl))) (by k_mem)) (by k_mem)) (by k_mem) : ∀ p ∈ (l, listOf vs n) :: (ls, listOf #[.int g3 t3, .int g4 t4, .int g5 t5, .int g6 t6, .int g7 t7] 0) :: (g, listOf #[.int g0 t0, .int g1 t1, .int g2 t2, .int g3 t3, .int g4 t4, .int g5 t5, .int g6 t6, .int g7 t7, .int g8 t8] gn) :: rest, p ∈ (ls, listOf #[.int g3 t3, .int g4 t4, .int g5 t5, .int g6 t6, .int g7 t7] 0) :: (l, listOf vs n) :: (g, listOf #[.int g0 t0, .int g1 t1, .int g2 t2, .int g3 t3, .int g4 t4, .int g5 t5, .int g6 t6, .int g7 t7, .int g8 t8] gn) :: rest)
  have hlsl : @Ne Nat ls l := by omega
  refine iter_listTurns rfl qf qn' (.tail _ (.head _)) rfl rfl fun I hI => items_inv I (Inv3 w.params md tm g l ls (listOf #[.int g0 t0, .int g1 t1, .int g2 t2, .int g3 t3, .int g4 t4, .int g5 t5, .int g6 t6, .int g7 t7, .int g8 t8] gn) (listOf #[.int g3 t3, .int g4 t4, .int g5 t5, .int g6 t6, .int g7 t7] 0)) ?_ ?_ ?_ _ _ _ ?_ ?_
  · rintro r m n ⟨vs, k, rest, rfl, _, _, _, _, _, hs, _⟩
    exact ⟨.tail _ hs, trivial⟩
  · rintro v r m news h1 tk1 o ⟨vs, k, rest, rfl, hsz, h2, hrr, hnn, hg1, hs1, e1, e2, e3, hvs⟩ ho F N hI1
    obtain ⟨i, t, rfl, hib⟩ := hvs _ (.head _)
    have hIl : @Ne Nat l I := hI1 _ (.head _)
    clear hr hne hgm hrw hg hmo qf qn hI h
    simp only [List.length_cons] at hsz
    k_steps
    rename Fr _ _ _ _ => qf
    rename News _ _ _ _ => qn
    refine turn_end qf (news_perm7 qn) ?_ ⟨_, _, _, rfl, ?_, ?_, ?_, ?_, ?_, ?_, ?_, ?_, ?_, ?_⟩
    · repeat (refine List.forall_mem_cons.mpr ⟨by k_ne, ?_⟩)
      exact fun p hp => hI1 p (.tail _ hp)
    · simp only [Array.size_push]; omega
    · simp only [Array.size_push]; omega
    · exact rows_push (rows_mono hrr (by repeat (first | exact sub_refl | apply sub_tail | apply sub_appR))) (row_in (by k_mem) (by k_mem) (by k_mem) (by k_mem) (by k_mem) (by assumption) (by assumption))
    · repeat (refine List.forall_mem_cons.mpr ⟨by k_ne, ?_⟩)
      exact hnn
    · repeat (first | assumption | apply List.Mem.tail)
    · repeat (first | assumption | apply List.Mem.tail)
    · exact e1
    · exact e2
    · exact e3
    · exact fun v hv => hvs v (.tail _ hv)
  · rintro m news h1 tk1 ⟨vs, k, rest, rfl, hsz, h2, hrr, hnn, hg1, hs1, e1, e2, e3, hvs⟩ F N
    refine wpAny_execs_nil ?_
    exact h _ _ _ _ _ _ F e1 e2 e3 N (by simpa using hsz) hrr hnn hg1
  · refine ⟨vs, n, _, rfl, by rw [hsz]; rfl, by omega, rows_mono hr (sub_tail (sub_tail sub_refl)), ?_, by k_mem, by k_mem, hrw, hg, hmo, ?_⟩
    · exact List.forall_mem_cons.mpr ⟨hlsl, List.forall_mem_cons.mpr ⟨hgl, hne⟩⟩
    · intro v hv
      simp only [List.mem_cons, List.not_mem_nil, or_false] at hv
      rcases hv with rfl | rfl | rfl | rfl | rfl
      · exact ⟨_, _, rfl, hb _ (by k_mem)⟩
      · exact ⟨_, _, rfl, hb _ (by k_mem)⟩
      · exact ⟨_, _, rfl, hb _ (by k_mem)⟩
      · exact ⟨_, _, rfl, hb _ (by k_mem)⟩
      · exact ⟨_, _, rfl, hb _ (by k_mem)⟩
  · exact fun p hp => Nat.ne_of_lt (hI p hp)
end P_S3
section P_M6
local macro_rules | `(tactic| k_room) => `(tactic| ((try simp only [depth_under_make, depth_under_kw, depth_in1, depth_deeper, depth_caller, recursionLimit]); omega))
local macro_rules | `(tactic| k_all) => `(tactic| (intro p hp; exact Nat.ne_of_lt ((by assumption : ∀ p ∈ _, p.1 < _) p hp)))
local macro_rules | `(tactic| k_units) => `(tactic| ((try simp only [units_in1, units_deeper, Around.mark_units, units_caller, cLine]); omega))
local macro_rules | `(tactic| mul_fits) => `(tactic| exact mulOk_of (by first | assumption | exact Sm.of_res (by assumption) (by assumption) (by assumption)) (by first | assumption | exact Sm.of_res (by assumption) (by assumption) (by assumption)))
variable {prog : Program} {w : World} {A₀ : Around} {s : Shared} {d u : Nat} {gs : Option (List Code)} {env : Env} {outer : List Env} {base h₀ : Heap} {L : Addr} {m mg mb : Str → Option Value} {p : Program} {loose : List Str} {mean : ExcName → Option Value} {news : List (Addr × Obj)} {R : Result → Shared → Prop} {Q : Value → Shared → Prop} {E : Value → Shared → Prop}
local macro_rules | `(tactic| k_steps) => `(tactic| repeat' (first | (k_unfold; (try dsimp only)) | (dsimp only; k_unfold; (try dsimp only)) | walk1 | (dsimp only; walk1) | (leave1; walk_say "STEP leave1"; try dsimp only) | fail "no step"))
local macro_rules | `(tactic| walk_at "call ref") => `(tactic| (k_here; (with_reducible show wpAny _ _ (call (Value.ref 333) [Value.int _ _, Value.int _ _]) _ _ _); k_dflt (refine' mk_P ?B ?F ?X ?N ?T ?hf ?hk ?hd ?hm ?_; (case B => k_asm); (case F => k_asm); (case X => k_asm); (case N => k_asm); (case T => k_asm); (case hf => first | exact rfl | assumption); (case hk => first | exact rfl | assumption); (case hd => k_room); (case hm => k_asm); k_whole); intro x' d' h' t1' t2' t3' t4' tk' F' N' l1 l2; (try k_sweep)))
local macro_rules | `(tactic| walk_at "call ref") => `(tactic| (k_here; (with_reducible show wpAny _ _ (call (Value.ref 186) [Value.int _ _, Value.int _ _]) _ _ _); k_dflt (refine' mk_O ?B ?F ?X ?N ?T ?hf ?hk ?hd ?hm ?_; (case B => k_asm); (case F => k_asm); (case X => k_asm); (case N => k_asm); (case T => k_asm); (case hf => first | exact rfl | assumption); (case hk => first | exact rfl | assumption); (case hd => k_room); (case hm => k_asm); k_whole); intro x' d' h' t1' t2' t3' t4' tk' F' N' l1 l2; (try k_sweep)))

set_option maxHeartbeats 4000000 in
theorem eq_r_P {md n : Int} {y dy : Addr} {a1 a2 a3 a4 : Tok}{z dz : Addr} {a12 a22 a32 a42 : Tok} {k : Int} (B : Below A₀ base outer h₀) (F : Fr h₀ L s.heap m) (X : (Mine.hd.heap_1 w.params).In h₀) (N : News h₀ L s.heap news) (T : Top p loose mean mg mb h₀) (hf : env.frame = some L) (hke : env.scope.kind = .function) (hdp : d ≤ 970)  (hx : (y, instObj 333 dy) ∈ news) (hdx : (dy, FQD w.params a1 a2 a3 a4 md n) ∈ news)(hx2 : (z, instObj 333 dz) ∈ news) (hdx2 : (dz, FQD w.params a12 a22 a32 a42 md k) ∈ news)
    (h : ∀ h' tk, Fr h₀ L h' m → News h₀ L h' news → R (.ok (.ret (.bool (n == k)))) { s with heap := h', toks := tk }) :
    codeAny (model prog w) ⟨none, d, some (env :: outer), gs, u⟩ (.call (.ref 274) ⟨[.ref y, .ref z], []⟩) R s := by
  replace N := news_show2 N (by repeat (first | exact sub_refl | apply sub_tail)) hx hdx
  replace N := news_show2 N (by repeat (first | exact sub_refl | apply sub_tail)) hx2 hdx2
  (refine' code_def (binds := [("self", .ref y), ("other", .ref z)]) ?k1 ?k2 ?k3 ?k4 ?k5 ?kA ?kF ?kK ?k6 ?k7 ?k8 ?k9 ?kB ?_ ?c2 ?c3 ?c4 ?c5; (case kA => exact rfl); (case kF => exact hf); (case kK => exact hke); (case k1 => k_asm); (case k2 => k_asm); (case k3 => k_asm); (case k4 => k_asm); (case k5 => k_asm); (case k6 => k_is); (case k7 => k_is); (case k8 => k_room); (case k9 => exact BindsTo.of_eq rfl); (case c5 => decide); (case kB => exact locs rfl); (case c2 => exact rfl); (case c3 => exact rfl); (case c4 => exact rfl); k_whole; intro g' L' h' FG' F' N' B' X' T')
  clear B X T
  k_fold
  k_steps
  refine leaveK_ (by k_asm) (by k_asm) fun kF kN => ?_
  exact h _ _ kF (news_sub kN (by repeat (first | exact sub_refl | apply sub_tail)))

set_option maxHeartbeats 4000000 in
theorem eq_i_P {md n : Int} {y dy : Addr} {a1 a2 a3 a4 : Tok} {i : Int} {t : Tok} (B : Below A₀ base outer h₀) (F : Fr h₀ L s.heap m) (X : (Mine.hd.heap_1 w.params).In h₀) (N : News h₀ L s.heap news) (T : Top p loose mean mg mb h₀) (hf : env.frame = some L) (hke : env.scope.kind = .function) (hdp : d ≤ 970)  (hx : (y, instObj 333 dy) ∈ news) (hdx : (dy, FQD w.params a1 a2 a3 a4 md n) ∈ news)
    (h : ∀ h' tk, Fr h₀ L h' m → News h₀ L h' news → R (.ok (.ret (.bool (n == i)))) { s with heap := h', toks := tk }) :
    codeAny (model prog w) ⟨none, d, some (env :: outer), gs, u⟩ (.call (.ref 274) ⟨[.ref y, .int i t], []⟩) R s := by
  replace N := news_show2 N (by repeat (first | exact sub_refl | apply sub_tail)) hx hdx
  (refine' code_def (binds := [("self", .ref y), ("other", .int i t)]) ?k1 ?k2 ?k3 ?k4 ?k5 ?kA ?kF ?kK ?k6 ?k7 ?k8 ?k9 ?kB ?_ ?c2 ?c3 ?c4 ?c5; (case kA => exact rfl); (case kF => exact hf); (case kK => exact hke); (case k1 => k_asm); (case k2 => k_asm); (case k3 => k_asm); (case k4 => k_asm); (case k5 => k_asm); (case k6 => k_is); (case k7 => k_is); (case k8 => k_room); (case k9 => exact BindsTo.of_eq rfl); (case c5 => decide); (case kB => exact locs rfl); (case c2 => exact rfl); (case c3 => exact rfl); (case c4 => exact rfl); k_whole; intro g' L' h' FG' F' N' B' X' T')
  clear B X T
  k_fold
  k_steps
  refine leaveK_ (by k_asm) (by k_asm) fun kF kN => ?_
  exact h _ _ kF (news_sub kN (by repeat (first | exact sub_refl | apply sub_tail)))

set_option maxHeartbeats 4000000 in
theorem lt_r_P {md n : Int} {y dy : Addr} {a1 a2 a3 a4 : Tok}{z dz : Addr} {a12 a22 a32 a42 : Tok} {k : Int} (B : Below A₀ base outer h₀) (F : Fr h₀ L s.heap m) (X : (Mine.hd.heap_1 w.params).In h₀) (N : News h₀ L s.heap news) (T : Top p loose mean mg mb h₀) (hf : env.frame = some L) (hke : env.scope.kind = .function) (hdp : d ≤ 970)  (hx : (y, instObj 333 dy) ∈ news) (hdx : (dy, FQD w.params a1 a2 a3 a4 md n) ∈ news)(hx2 : (z, instObj 333 dz) ∈ news) (hdx2 : (dz, FQD w.params a12 a22 a32 a42 md k) ∈ news)
    (h : ∀ h' tk, Fr h₀ L h' m → News h₀ L h' news → R (.ok (.ret (.bool (decide (n < k))))) { s with heap := h', toks := tk }) :
    codeAny (model prog w) ⟨none, d, some (env :: outer), gs, u⟩ (.call (.ref 309) ⟨[.ref y, .ref z], []⟩) R s := by
  replace N := news_show2 N (by repeat (first | exact sub_refl | apply sub_tail)) hx hdx
  replace N := news_show2 N (by repeat (first | exact sub_refl | apply sub_tail)) hx2 hdx2
  (refine' code_def (binds := [("self", .ref y), ("other", .ref z)]) ?k1 ?k2 ?k3 ?k4 ?k5 ?kA ?kF ?kK ?k6 ?k7 ?k8 ?k9 ?kB ?_ ?c2 ?c3 ?c4 ?c5; (case kA => exact rfl); (case kF => exact hf); (case kK => exact hke); (case k1 => k_asm); (case k2 => k_asm); (case k3 => k_asm); (case k4 => k_asm); (case k5 => k_asm); (case k6 => k_is); (case k7 => k_is); (case k8 => k_room); (case k9 => exact BindsTo.of_eq rfl); (case c5 => decide); (case kB => exact locs rfl); (case c2 => exact rfl); (case c3 => exact rfl); (case c4 => exact rfl); k_whole; intro g' L' h' FG' F' N' B' X' T')
  clear B X T
  k_fold
  k_steps
  refine leaveK_ (by k_asm) (by k_asm) fun kF kN => ?_
  exact h _ _ kF (news_sub kN (by repeat (first | exact sub_refl | apply sub_tail)))

set_option maxHeartbeats 4000000 in
theorem int_P {md n : Int} {y dy : Addr} {a1 a2 a3 a4 : Tok} (B : Below A₀ base outer h₀) (F : Fr h₀ L s.heap m) (X : (Mine.hd.heap_1 w.params).In h₀) (N : News h₀ L s.heap news) (T : Top p loose mean mg mb h₀) (hf : env.frame = some L) (hke : env.scope.kind = .function) (hdp : d ≤ 970)  (hx : (y, instObj 333 dy) ∈ news) (hdx : (dy, FQD w.params a1 a2 a3 a4 md n) ∈ news)
    (h : ∀ h' tk, Fr h₀ L h' m → News h₀ L h' news → R (.ok (.ret (.int n a4))) { s with heap := h', toks := tk }) :
    codeAny (model prog w) ⟨none, d, some (env :: outer), gs, u⟩ (.call (.ref 302) ⟨[.ref y], []⟩) R s := by
  replace N := news_show2 N (by repeat (first | exact sub_refl | apply sub_tail)) hx hdx
  (refine' code_def (binds := [("self", .ref y)]) ?k1 ?k2 ?k3 ?k4 ?k5 ?kA ?kF ?kK ?k6 ?k7 ?k8 ?k9 ?kB ?_ ?c2 ?c3 ?c4 ?c5; (case kA => exact rfl); (case kF => exact hf); (case kK => exact hke); (case k1 => k_asm); (case k2 => k_asm); (case k3 => k_asm); (case k4 => k_asm); (case k5 => k_asm); (case k6 => k_is); (case k7 => k_is); (case k8 => k_room); (case k9 => exact BindsTo.of_eq rfl); (case c5 => decide); (case kB => exact locs rfl); (case c2 => exact rfl); (case c3 => exact rfl); (case c4 => exact rfl); k_whole; intro g' L' h' FG' F' N' B' X' T')
  clear B X T
  k_fold
  k_steps
  refine leaveK_ (by k_asm) (by k_asm) fun kF kN => ?_
  exact h _ _ kF (news_sub kN (by repeat (first | exact sub_refl | apply sub_tail)))

set_option maxHeartbeats 4000000 in
theorem eq_r_O {md n : Int} {y dy : Addr} {a1 a2 a3 a4 : Tok}{z dz : Addr} {a12 a22 a32 a42 : Tok} {k : Int} (B : Below A₀ base outer h₀) (F : Fr h₀ L s.heap m) (X : (Mine.hd.heap_1 w.params).In h₀) (N : News h₀ L s.heap news) (T : Top p loose mean mg mb h₀) (hf : env.frame = some L) (hke : env.scope.kind = .function) (hdp : d ≤ 970)  (hx : (y, instObj 186 dy) ∈ news) (hdx : (dy, FQD w.params a1 a2 a3 a4 md n) ∈ news)(hx2 : (z, instObj 186 dz) ∈ news) (hdx2 : (dz, FQD w.params a12 a22 a32 a42 md k) ∈ news)
    (h : ∀ h' tk, Fr h₀ L h' m → News h₀ L h' news → R (.ok (.ret (.bool (n == k)))) { s with heap := h', toks := tk }) :
    codeAny (model prog w) ⟨none, d, some (env :: outer), gs, u⟩ (.call (.ref 119) ⟨[.ref y, .ref z], []⟩) R s := by
  replace N := news_show2 N (by repeat (first | exact sub_refl | apply sub_tail)) hx hdx
  replace N := news_show2 N (by repeat (first | exact sub_refl | apply sub_tail)) hx2 hdx2
  (refine' code_def (binds := [("self", .ref y), ("other", .ref z)]) ?k1 ?k2 ?k3 ?k4 ?k5 ?kA ?kF ?kK ?k6 ?k7 ?k8 ?k9 ?kB ?_ ?c2 ?c3 ?c4 ?c5; (case kA => exact rfl); (case kF => exact hf); (case kK => exact hke); (case k1 => k_asm); (case k2 => k_asm); (case k3 => k_asm); (case k4 => k_asm); (case k5 => k_asm); (case k6 => k_is); (case k7 => k_is); (case k8 => k_room); (case k9 => exact BindsTo.of_eq rfl); (case c5 => decide); (case kB => exact locs rfl); (case c2 => exact rfl); (case c3 => exact rfl); (case c4 => exact rfl); k_whole; intro g' L' h' FG' F' N' B' X' T')
  clear B X T
  k_fold
  k_steps
  refine leaveK_ (by k_asm) (by k_asm) fun kF kN => ?_
  exact h _ _ kF (news_sub kN (by repeat (first | exact sub_refl | apply sub_tail)))

set_option maxHeartbeats 4000000 in
theorem eq_i_O {md n : Int} {y dy : Addr} {a1 a2 a3 a4 : Tok} {i : Int} {t : Tok} (B : Below A₀ base outer h₀) (F : Fr h₀ L s.heap m) (X : (Mine.hd.heap_1 w.params).In h₀) (N : News h₀ L s.heap news) (T : Top p loose mean mg mb h₀) (hf : env.frame = some L) (hke : env.scope.kind = .function) (hdp : d ≤ 970)  (hx : (y, instObj 186 dy) ∈ news) (hdx : (dy, FQD w.params a1 a2 a3 a4 md n) ∈ news)
    (h : ∀ h' tk, Fr h₀ L h' m → News h₀ L h' news → R (.ok (.ret (.bool (n == i)))) { s with heap := h', toks := tk }) :
    codeAny (model prog w) ⟨none, d, some (env :: outer), gs, u⟩ (.call (.ref 119) ⟨[.ref y, .int i t], []⟩) R s := by
  replace N := news_show2 N (by repeat (first | exact sub_refl | apply sub_tail)) hx hdx
  (refine' code_def (binds := [("self", .ref y), ("other", .int i t)]) ?k1 ?k2 ?k3 ?k4 ?k5 ?kA ?kF ?kK ?k6 ?k7 ?k8 ?k9 ?kB ?_ ?c2 ?c3 ?c4 ?c5; (case kA => exact rfl); (case kF => exact hf); (case kK => exact hke); (case k1 => k_asm); (case k2 => k_asm); (case k3 => k_asm); (case k4 => k_asm); (case k5 => k_asm); (case k6 => k_is); (case k7 => k_is); (case k8 => k_room); (case k9 => exact BindsTo.of_eq rfl); (case c5 => decide); (case kB => exact locs rfl); (case c2 => exact rfl); (case c3 => exact rfl); (case c4 => exact rfl); k_whole; intro g' L' h' FG' F' N' B' X' T')
  clear B X T
  k_fold
  k_steps
  refine leaveK_ (by k_asm) (by k_asm) fun kF kN => ?_
  exact h _ _ kF (news_sub kN (by repeat (first | exact sub_refl | apply sub_tail)))

set_option maxHeartbeats 4000000 in
theorem lt_r_O {md n : Int} {y dy : Addr} {a1 a2 a3 a4 : Tok}{z dz : Addr} {a12 a22 a32 a42 : Tok} {k : Int} (B : Below A₀ base outer h₀) (F : Fr h₀ L s.heap m) (X : (Mine.hd.heap_1 w.params).In h₀) (N : News h₀ L s.heap news) (T : Top p loose mean mg mb h₀) (hf : env.frame = some L) (hke : env.scope.kind = .function) (hdp : d ≤ 970)  (hx : (y, instObj 186 dy) ∈ news) (hdx : (dy, FQD w.params a1 a2 a3 a4 md n) ∈ news)(hx2 : (z, instObj 186 dz) ∈ news) (hdx2 : (dz, FQD w.params a12 a22 a32 a42 md k) ∈ news)
    (h : ∀ h' tk, Fr h₀ L h' m → News h₀ L h' news → R (.ok (.ret (.bool (decide (n < k))))) { s with heap := h', toks := tk }) :
    codeAny (model prog w) ⟨none, d, some (env :: outer), gs, u⟩ (.call (.ref 154) ⟨[.ref y, .ref z], []⟩) R s := by
  replace N := news_show2 N (by repeat (first | exact sub_refl | apply sub_tail)) hx hdx
  replace N := news_show2 N (by repeat (first | exact sub_refl | apply sub_tail)) hx2 hdx2
  (refine' code_def (binds := [("self", .ref y), ("other", .ref z)]) ?k1 ?k2 ?k3 ?k4 ?k5 ?kA ?kF ?kK ?k6 ?k7 ?k8 ?k9 ?kB ?_ ?c2 ?c3 ?c4 ?c5; (case kA => exact rfl); (case kF => exact hf); (case kK => exact hke); (case k1 => k_asm); (case k2 => k_asm); (case k3 => k_asm); (case k4 => k_asm); (case k5 => k_asm); (case k6 => k_is); (case k7 => k_is); (case k8 => k_room); (case k9 => exact BindsTo.of_eq rfl); (case c5 => decide); (case kB => exact locs rfl); (case c2 => exact rfl); (case c3 => exact rfl); (case c4 => exact rfl); k_whole; intro g' L' h' FG' F' N' B' X' T')
  clear B X T
  k_fold
  k_steps
  refine leaveK_ (by k_asm) (by k_asm) fun kF kN => ?_
  exact h _ _ kF (news_sub kN (by repeat (first | exact sub_refl | apply sub_tail)))

set_option maxHeartbeats 4000000 in
theorem int_O {md n : Int} {y dy : Addr} {a1 a2 a3 a4 : Tok} (B : Below A₀ base outer h₀) (F : Fr h₀ L s.heap m) (X : (Mine.hd.heap_1 w.params).In h₀) (N : News h₀ L s.heap news) (T : Top p loose mean mg mb h₀) (hf : env.frame = some L) (hke : env.scope.kind = .function) (hdp : d ≤ 970)  (hx : (y, instObj 186 dy) ∈ news) (hdx : (dy, FQD w.params a1 a2 a3 a4 md n) ∈ news)
    (h : ∀ h' tk, Fr h₀ L h' m → News h₀ L h' news → R (.ok (.ret (.int n a4))) { s with heap := h', toks := tk }) :
    codeAny (model prog w) ⟨none, d, some (env :: outer), gs, u⟩ (.call (.ref 147) ⟨[.ref y], []⟩) R s := by
  replace N := news_show2 N (by repeat (first | exact sub_refl | apply sub_tail)) hx hdx
  (refine' code_def (binds := [("self", .ref y)]) ?k1 ?k2 ?k3 ?k4 ?k5 ?kA ?kF ?kK ?k6 ?k7 ?k8 ?k9 ?kB ?_ ?c2 ?c3 ?c4 ?c5; (case kA => exact rfl); (case kF => exact hf); (case kK => exact hke); (case k1 => k_asm); (case k2 => k_asm); (case k3 => k_asm); (case k4 => k_asm); (case k5 => k_asm); (case k6 => k_is); (case k7 => k_is); (case k8 => k_room); (case k9 => exact BindsTo.of_eq rfl); (case c5 => decide); (case kB => exact locs rfl); (case c2 => exact rfl); (case c3 => exact rfl); (case c4 => exact rfl); k_whole; intro g' L' h' FG' F' N' B' X' T')
  clear B X T
  k_fold
  k_steps
  refine leaveK_ (by k_asm) (by k_asm) fun kF kN => ?_
  exact h _ _ kF (news_sub kN (by repeat (first | exact sub_refl | apply sub_tail)))
end P_M6
section P_R3
local macro_rules | `(tactic| k_room) => `(tactic| ((try simp only [depth_under_make, depth_under_kw, depth_in1, depth_deeper, depth_caller, recursionLimit]); omega))
local macro_rules | `(tactic| k_all) => `(tactic| (intro p hp; exact Nat.ne_of_lt ((by assumption : ∀ p ∈ _, p.1 < _) p hp)))
local macro_rules | `(tactic| k_units) => `(tactic| ((try simp only [units_in1, units_deeper, Around.mark_units, units_caller, cLine]); omega))
local macro_rules | `(tactic| mul_fits) => `(tactic| exact mulOk_of (by first | assumption | exact Sm.of_res (by assumption) (by assumption) (by assumption)) (by first | assumption | exact Sm.of_res (by assumption) (by assumption) (by assumption)))
variable {prog : Program} {w : World} {A₀ : Around} {s : Shared} {d u : Nat} {gs : Option (List Code)} {env : Env} {outer : List Env} {base h₀ : Heap} {L : Addr} {m mg mb : Str → Option Value} {p : Program} {loose : List Str} {mean : ExcName → Option Value} {news : List (Addr × Obj)} {R : Result → Shared → Prop} {Q : Value → Shared → Prop} {E : Value → Shared → Prop}
local macro_rules | `(tactic| k_steps) => `(tactic| repeat' (first | (k_unfold; (try dsimp only)) | (dsimp only; k_unfold; (try dsimp only)) | walk1 | (dsimp only; walk1) | (leave1; walk_say "STEP leave1"; try dsimp only) | fail "no step"))
section
open PySem.Calls Builtin
theorem new_int_inst {prog : Program} {w : World} {A : Around} {E : Value → Shared → Prop} {s : Shared} {K : Frag} {x C f : Addr} {ox : Obj} {od : Option Obj} {Q : Value → Shared → Prop} (X : K.In s.heap) (I : InstAt s.heap x ox C od)
    (hs : findIn K (.ref C) "__int__" = some (some (.ref f))) (hf : isFn K (.ref f) = true)
    (h : wpAny (model prog w) A (call (.ref f) [.ref x]) (fun v s' => ∃ i t, v = .int i t ∧ Q (.int i t) s') E s) :
    wpAny (model prog w) A (Builtin.«int.__new__» ⟨[.type "int", .ref x], []⟩) (fun fin s' => ∃ i t, fin = .done (.ret (.int i t)) ∧ Q (.int i t) s') E s := by
  have f1 := PySem.F.conv_sub_int
  have f2 := PySem.F.madeHere_int
  have sp : wpAny (model prog w) A (callSpecial? (.ref x) (Str.ofString "__int__") []) (fun r s' => ∃ i t, r = some (.int i t) ∧ Q (.int i t) s') E s :=
    special_fn X I hs (beq_iff_eq.mp hf) (wpAny_mono h (fun v s' hv => by obtain ⟨i, t, rfl, hq⟩ := hv; exact ⟨i, t, rfl, hq⟩) fun _ _ z => z)
  obtain ⟨hp, g, d, tk, os⟩ := s
  repeat (any_goals (first | assumption | ((with_reducible show wpAny _ _ (callSpecial? _ _ _ _) _ _ _); refine wpAny_mono sp ?_ (fun _ _ z => z)) | wp_step))
  rintro r ⟨hp', g', d', tk', os'⟩ ⟨i, t', rfl, hq⟩
  dsimp only
  repeat (any_goals (first | assumption | wp_step))
  exact ⟨_, _, rfl, hq⟩
set_option maxHeartbeats 4000000 in
theorem call_int_inst {prog : Program} {w : World} {A : Around} {E : Value → Shared → Prop} {s : Shared} {K : Frag} {x C L f : Addr} {h₀ : Heap} {m : Str → Option Value} {ox : Obj} {od : Option Obj} {Q : Value → Shared → Prop}
    (F : Fr h₀ L s.heap m) (X₀ : K.In h₀) (I : InstAt s.heap x ox C od)
    (hs : findIn K (.ref C) "__int__" = some (some (.ref f))) (hf : isFn K (.ref f) = true)
    (h : wpAny (model prog w) A.in1.in1 (call (.ref f) [.ref x]) (fun v s' => ∃ i t, v = .int i t ∧ Q (.int i t) s') E s) :
    wpAny (model prog w) A (call (.type "int") [.ref x]) Q E s := by
  have ft := PySem.F.called_int
  obtain ⟨c, tl, hmro⟩ := ft.mro
  have hmade := ft.made
  have hsub := ft.sub
  refine wpAny_call (codeAny_of_tree ?_)
  show wpAny _ _ (callAny (.type "int") _) _ _ _
  refine wpAny_pure ⟨Code.quiet_builtin _ (by decide +kernel), codeAny_builtin PySem.F.entry_type_call ?_⟩
  rw [Around.under_plain (weight_type_call_type "int" [.ref x] []) (units_type_call_type "int" [.ref x] [])]
  have h1 := ft.notType
  have h2 := ft.canCreate
  have hct := PySem.F.typeCall_int_1 (.ref x)
  repeat (any_goals (first | assumption | wp_step))
  refine codeAny_mono (codeAny_call_builtin (R := fun r s' => match r with | .ok (.ret v) => ∃ i t, v = .int i t ∧ Q (.int i t) s' | .ok _ => False | .error e => E e s') ft.plain PySem.F.entry_int_new (wpAny_of_eq (PySem.F.newCall_int_1 (.ref x)) (wpAny_mono (new_int_inst (X₀.keeps F.keep) I hs hf h) (fun fin s' z => ?_) fun _ _ z => z))) fun r s₁ hr => ?_
  · obtain ⟨i, t, rfl, hq⟩ := z
    exact ⟨i, t, rfl, hq⟩
  cases r with
  | error e => exact hr
  | ok fl =>
    cases fl with
    | ret obj =>
      obtain ⟨i, t, rfl, hq⟩ := hr
      have hT : s₁.TypeIs (.int i t) "int" := typeIs_int s₁ i t
      have hli := ft.init.lookup
      have hbi := ft.init.bind (.int i t)
      repeat (any_goals (first | assumption | wp_step))
      refine codeAny_mono (codeAny_call_builtin (R := fun r s' => r = .ok (.ret .none) ∧ Q (.int i t) s') ft.init.plain PySem.F.entry_object_init (ft.init.check _ _ _ _ _ _ _ _ hT (PySem.F.args_object_init_2 _ _) ((object_init_meets (rest := [.ref x]) ft.init.lookup ft.made PySem.F.newNe_int) prog w A.in1 (fun r s' => r = .ok (.ret .none) ∧ Q (.int i t) s') s₁ ⟨hT, rfl, hq⟩))) fun r₂ s₂ hr₂ => ?_
      obtain ⟨rfl, hq⟩ := hr₂
      repeat (any_goals (first | assumption | wp_step))
    | _ => exact hr.elim
end
end P_R3
section P_S4
local macro_rules | `(tactic| k_room) => `(tactic| ((try simp only [depth_under_make, depth_under_kw, depth_in1, depth_deeper, depth_caller, recursionLimit]); omega))
local macro_rules | `(tactic| k_all) => `(tactic| (intro p hp; exact Nat.ne_of_lt ((by assumption : ∀ p ∈ _, p.1 < _) p hp)))
local macro_rules | `(tactic| k_units) => `(tactic| ((try simp only [units_in1, units_deeper, Around.mark_units, units_caller, cLine]); omega))
local macro_rules | `(tactic| mul_fits) => `(tactic| exact mulOk_of (by first | assumption | exact Sm.of_res (by assumption) (by assumption) (by assumption)) (by first | assumption | exact Sm.of_res (by assumption) (by assumption) (by assumption)))
variable {prog : Program} {w : World} {A₀ : Around} {s : Shared} {d u : Nat} {gs : Option (List Code)} {env : Env} {outer : List Env} {base h₀ : Heap} {L : Addr} {m mg mb : Str → Option Value} {p : Program} {loose : List Str} {mean : ExcName → Option Value} {news : List (Addr × Obj)} {R : Result → Shared → Prop} {Q : Value → Shared → Prop} {E : Value → Shared → Prop}
local macro_rules | `(tactic| k_steps) => `(tactic| repeat' (first | (k_unfold; (try dsimp only)) | (dsimp only; k_unfold; (try dsimp only)) | walk1 | (dsimp only; walk1) | (leave1; walk_say "STEP leave1"; try dsimp only) | fail "no step"))
local macro_rules | `(tactic| walk_at "eval Name") => `(tactic| (k_here; k_dflt (refine' nameX_L ?F ?v ?_ ?a ?b; (case F => k_asm); (case a => rfl); (case b => rfl); (case v => assumption); k_whole)))
local macro_rules | `(tactic| k_steps) => `(tactic| repeat' (first | (k_unfold; (try dsimp only)) | (dsimp only; k_unfold; (try dsimp only)) | (walk1; (try dsimp only)) | (dsimp only; walk1) | (leave1; walk_say "STEP leave1"; try dsimp only) | fail "no step"))
local macro_rules | `(tactic| walk_at "exec For Tuple Name cons nil") => `(tactic| (k_here; (rename Fr _ _ _ _ => lF'); (with_unfolding_all refine' For_turns lF' ?_; k_whole)))
local macro_rules | `(tactic| walk_at "binaryOp Add int ref") => `(tactic| (k_here; (with_reducible show wpAny _ _ (binaryOp Operator.Add (Value.int _ _) (Value.ref _)) _ _ _); k_dflt (refine' int_binR ?F ?X ?I ?hc ?hs ?hr ?hf ?hu PySem.F.fills_int_add PySem.F.slot_int_add PySem.F.entry_int_add (PySem.F.args_int_add_2 _ _) (int_add_inst _ _ _ _ _) ?_; (case F => k_asm); (case X => k_asm); (case I => k_inst); (case hc => k_is); (case hs => k_is); (case hr => k_is); (case hf => k_is); (case hu => k_is); k_whole)))
local macro_rules | `(tactic| walk_at "binaryOp Sub int ref") => `(tactic| (k_here; (with_reducible show wpAny _ _ (binaryOp Operator.Sub (Value.int _ _) (Value.ref _)) _ _ _); k_dflt (refine' int_binR ?F ?X ?I ?hc ?hs ?hr ?hf ?hu PySem.F.fills_int_sub PySem.F.slot_int_sub PySem.F.entry_int_sub (PySem.F.args_int_sub_2 _ _) (int_sub_inst _ _ _ _ _) ?_; (case F => k_asm); (case X => k_asm); (case I => k_inst); (case hc => k_is); (case hs => k_is); (case hr => k_is); (case hf => k_is); (case hu => k_is); k_whole)))
local macro_rules | `(tactic| walk_at "binaryOp Mult int ref") => `(tactic| (k_here; (with_reducible show wpAny _ _ (binaryOp Operator.Mult (Value.int _ _) (Value.ref _)) _ _ _); k_dflt (refine' int_binR ?F ?X ?I ?hc ?hs ?hr ?hf ?hu PySem.F.fills_int_mul PySem.F.slot_int_mul PySem.F.entry_int_mul (PySem.F.args_int_mul_2 _ _) (int_mul_inst _ _ _ _ _) ?_; (case F => k_asm); (case X => k_asm); (case I => k_inst); (case hc => k_is); (case hs => k_is); (case hr => k_is); (case hf => k_is); (case hu => k_is); k_whole)))
local macro_rules | `(tactic| walk_at "binaryOp Div int ref") => `(tactic| (k_here; (with_reducible show wpAny _ _ (binaryOp Operator.Div (Value.int _ _) (Value.ref _)) _ _ _); k_dflt (refine' int_binR ?F ?X ?I ?hc ?hs ?hr ?hf ?hu PySem.F.fills_int_truediv PySem.F.slot_int_truediv PySem.F.entry_int_truediv (PySem.F.args_int_truediv_2 _ _) (int_div_inst _ _ _ _ _) ?_; (case F => k_asm); (case X => k_asm); (case I => k_inst); (case hc => k_is); (case hs => k_is); (case hr => k_is); (case hf => k_is); (case hu => k_is); k_whole)))
local macro_rules | `(tactic| walk_at "call builtin:pow") => `(tactic| (k_here; (with_reducible show wpAny _ _ (call (Value.builtin "pow") [Value.int _ _, Value.int _ _, Value.int _ _]) _ _ _); refine pow3 (by first | assumption | omega) (by first | assumption | exact (fm_4096 _).1 | omega) ?_))
local macro_rules | `(tactic| walk_at "call type:int") => `(tactic| (k_here; (with_reducible show wpAny _ _ (call (Value.type "int") [Value.ref _]) _ _ _); k_dflt (refine' call_int_inst ?F ?X ?I ?hs ?hf ?_; (case F => k_asm); (case X => k_asm); (case I => k_inst); (case hs => k_is); (case hf => k_is); k_whole)))
local macro_rules | `(tactic| walk_at "formatField type:str") => `(tactic| (k_here; (refine field_str (by simp only [units_in1, units_deeper, Around.mark_units, units_caller, cLine]; omega) ?_); intro tk'))
local macro_rules | `(tactic| walk_at "formatField ref") => `(tactic| (k_here; k_dflt (refine' field_cls ?hu ?F ?X ?ho ?hc ?hd ?hn ?hb ?hz ?_; (case hu => (simp only [units_in1, units_deeper, Around.mark_units, units_caller, cLine]; omega)); (case F => k_asm); (case X => k_asm); (case ho => k_is); (case hc => exact rfl); (case hd => exact rfl); (case hn => k_is); (case hb => decide +kernel); (case hz => decide +kernel); k_whole); intro tk'))
local macro_rules | `(tactic| walk_at "binaryOp Add ref ref") => `(tactic| (k_here; (with_reducible show wpAny _ _ (binaryOp Operator.Add (Value.ref _) (Value.ref _)) _ _ _); k_dflt (refine' binop2_K ?F ?X ?I ?hb ?hne ?hc ?hc2 ?hs ?hf ?hr ?hp ?hs2 ?hr2 ?hp2 ?hu ?_; (case F => k_asm); (case X => k_asm); (case I => k_inst); (case hb => k_typeOf); (case hne => decide); (case hc => k_is); (case hc2 => k_is); (case hs => k_is); (case hf => k_is); (case hr => k_is); (case hp => first | exact .inl rfl | exact .inr ⟨_, rfl⟩); (case hs2 => k_is); (case hr2 => k_is); (case hp2 => first | exact .inl rfl | exact .inr ⟨_, rfl⟩); (case hu => k_is); k_whole)))
local macro_rules | `(tactic| k_enter) => `(tactic| ((with_reducible show codeAny _ _ (Code.call (Value.ref 302) _) _ _); k_dflt (refine' int_P ?B ?F ?X ?N ?T ?hf ?hk ?hd ?hx ?hdx ?_; (case B => k_asm); (case F => k_asm); (case X => k_asm); (case N => k_asm); (case T => k_asm); (case hf => first | exact rfl | assumption); (case hk => first | exact rfl | assumption); (case hd => k_room); (case hx => first | k_mem | k_asm | exact Sm.of_res (by assumption) (fm_lo (by assumption) _) (fm_hi (by assumption) _) | exact Sm.of_res (by assumption) (by assumption) (by assumption)); (case hdx => first | k_mem | k_asm | exact Sm.of_res (by assumption) (fm_lo (by assumption) _) (fm_hi (by assumption) _) | exact Sm.of_res (by assumption) (by assumption) (by assumption)); k_whole); intro h' tk' F' N'; (try k_sweep); (try dsimp only [PySem.W.CmpBack, PySem.W.InitBack, PySem.W.LenBack, PySem.W.StrBack, PySem.W.BoolBack])))
local macro_rules | `(tactic| k_enter) => `(tactic| ((with_reducible show codeAny _ _ (Code.call (Value.ref 147) _) _ _); k_dflt (refine' int_O ?B ?F ?X ?N ?T ?hf ?hk ?hd ?hx ?hdx ?_; (case B => k_asm); (case F => k_asm); (case X => k_asm); (case N => k_asm); (case T => k_asm); (case hf => first | exact rfl | assumption); (case hk => first | exact rfl | assumption); (case hd => k_room); (case hx => first | k_mem | k_asm | exact Sm.of_res (by assumption) (fm_lo (by assumption) _) (fm_hi (by assumption) _) | exact Sm.of_res (by assumption) (by assumption) (by assumption)); (case hdx => first | k_mem | k_asm | exact Sm.of_res (by assumption) (fm_lo (by assumption) _) (fm_hi (by assumption) _) | exact Sm.of_res (by assumption) (by assumption) (by assumption)); k_whole); intro h' tk' F' N'; (try k_sweep); (try dsimp only [PySem.W.CmpBack, PySem.W.InitBack, PySem.W.LenBack, PySem.W.StrBack, PySem.W.BoolBack])))

set_option maxHeartbeats 2000000 in
theorem stage4 {nm q : Str} {params : Arguments} {body : List Stmt} {scope : Scope} {dV kV doc pm cdv ct oc : Value} {an od : Option Addr} {osl : Array (Option Value)} {fa : Addr} {cd : Value} {g : Addr} {gn : Nat} {g0 g1 g2 g3 g4 g5 g6 g7 g8 : Int} {t0 t1 t2 t3 t4 t5 t6 t7 t8 : Tok} {l : Addr} {vs : Array Value} {n : Nat} {rest : List (Addr × Obj)} {md : Int} {tm : Tok} {QF : Flow → Shared → Prop} (hlk : (Mine.hd.heap_1 w.params).lookup 377 = some ⟨oc, od, .func (fnOf nm q params body scope dV kV doc pm an cdv ct), osl⟩) (B : Below A₀ h₀ [] h₀) (F : Fr h₀ L s.heap m) (X : (Mine.hd.heap_1 w.params).In h₀) (N : News h₀ L s.heap ((l, listOf vs n) :: rest)) (T : Top p loose mean mg mb h₀) (hdp : d ≤ 700) (hun : u ≤ 200) (hE : PassesOwn (model prog w) ⟨none, d, some [(envOfC q scope L fa cd)], gs, u⟩ (envOfC q scope L fa cd) E) (hg : m (Str.ofString "given") = some (.ref g)) (hmo : m (Str.ofString "modulus") = some (.int md tm)) (hmd : 2 ≤ md) (hS : Sk md) (hrw : m (Str.ofString "rows") = some (.ref l)) (hsz : vs.size = 7) (hr : ∀ v ∈ vs.toList, RowIn w.params md rest v) (hne : ∀ p ∈ rest, p.1 ≠ l) (hgm : (g, listOf #[.int g0 t0, .int g1 t1, .int g2 t2, .int g3 t3, .int g4 t4, .int g5 t5, .int g6 t6, .int g7 t7, .int g8 t8] gn) ∈ rest)
    (h : ∀ m' vs n rest h' tk, Fr h₀ L h' m' → m' (Str.ofString "rows") = some (.ref l) → m' (Str.ofString "given") = some (.ref g) → m' (Str.ofString "modulus") = some (.int md tm) → News h₀ L h' ((l, listOf vs n) :: rest) →
      vs.size = 7 → (∀ v ∈ vs.toList, RowIn w.params md rest v) → (∀ p ∈ rest, p.1 ≠ l) → (g, listOf #[.int g0 t0, .int g1 t1, .int g2 t2, .int g3 t3, .int g4 t4, .int g5 t5, .int g6 t6, .int g7 t7, .int g8 t8] gn) ∈ rest → QF .next { s with heap := h', toks := tk }) :
    wpAny (model prog w) ⟨none, d, some [(envOfC q scope L fa cd)], gs, u⟩ (execs ((body.drop 5).take 1) (envOfC q scope L fa cd)) QF E s := by
  refine' with_lookup hlk ?k ?_
  (case k => k_is)
  intro eqo
  cases eqo
  clear hlk
  simp only [List.drop_succ_cons, List.drop_zero, List.take_succ_cons, List.take_zero]
  k_steps
  rename Fr _ _ _ _ => qf
  rename News _ _ _ _ => qn
  refine iter_listTurns rfl qf qn (.head _) rfl rfl fun I hI => items_inv I (Inv4 w.params md tm g l (listOf vs n) rest) ?_ ?_ ?_ _ _ _ ?_ ?_
  · rintro r m n ⟨rfl, _⟩
    exact ⟨.head _, trivial⟩
  · rintro v r m news h1 tk1 o ⟨rfl, e1, e2, e3, hvs⟩ ho F N hI1
    obtain ⟨a, p, dp, q, dq, due, td, p1, p2, p3, p4, q1, q2, q3, q4, rfl, h0, h1, m1, m2, m3, m4, m5⟩ := hvs _ (.head _)
    clear hr hne hgm hrw hg hmo qf qn hI h
    replace N := news_sub N (sub1 (sub1 (sub1 (sub1 (sub1 sub_refl (.tail _ (.tail _ m5))) (.tail _ (.tail _ m4))) (.tail _ (.tail _ m3))) (.tail _ (.tail _ m2))) (.tail _ (.tail _ m1)))
    k_steps
    all_goals first | contradiction | skip
    rename Fr _ _ _ _ => qf
    rename News _ _ _ _ => qn
    refine turn_end qf (news_sub qn (sub_tail (sub_tail (sub_tail (sub_tail (sub_tail sub_refl)))))) hI1 ⟨rfl, e1, e2, e3, fun v hv => hvs v (.tail _ hv)⟩
  · rintro m news h1 tk1 ⟨rfl, e1, e2, e3, hvs⟩ F N
    refine wpAny_execs_nil ?_
    exact h _ _ _ _ _ _ F e1 e2 e3 N hsz hr hne hgm
  · exact ⟨rfl, hrw, hg, hmo, hr⟩
  · exact fun p hp => Nat.ne_of_lt (hI p hp)
end P_S4
section P_S5
local macro_rules | `(tactic| k_room) => `(tactic| ((try simp only [depth_under_make, depth_under_kw, depth_in1, depth_deeper, depth_caller, recursionLimit]); omega))
local macro_rules | `(tactic| k_all) => `(tactic| (intro p hp; exact Nat.ne_of_lt ((by assumption : ∀ p ∈ _, p.1 < _) p hp)))
local macro_rules | `(tactic| k_units) => `(tactic| ((try simp only [units_in1, units_deeper, Around.mark_units, units_caller, cLine]); omega))
local macro_rules | `(tactic| mul_fits) => `(tactic| exact mulOk_of (by first | assumption | exact Sm.of_res (by assumption) (by assumption) (by assumption)) (by first | assumption | exact Sm.of_res (by assumption) (by assumption) (by assumption)))
variable {prog : Program} {w : World} {A₀ : Around} {s : Shared} {d u : Nat} {gs : Option (List Code)} {env : Env} {outer : List Env} {base h₀ : Heap} {L : Addr} {m mg mb : Str → Option Value} {p : Program} {loose : List Str} {mean : ExcName → Option Value} {news : List (Addr × Obj)} {R : Result → Shared → Prop} {Q : Value → Shared → Prop} {E : Value → Shared → Prop}
local macro_rules | `(tactic| k_steps) => `(tactic| repeat' (first | (k_unfold; (try dsimp only)) | (dsimp only; k_unfold; (try dsimp only)) | walk1 | (dsimp only; walk1) | (leave1; walk_say "STEP leave1"; try dsimp only) | fail "no step"))
local macro_rules | `(tactic| walk_at "eval Name") => `(tactic| (k_here; k_dflt (refine' nameX_L ?F ?v ?_ ?a ?b; (case F => k_asm); (case a => rfl); (case b => rfl); (case v => assumption); k_whole)))
local macro_rules | `(tactic| k_steps) => `(tactic| repeat' (first | (k_unfold; (try dsimp only)) | (dsimp only; k_unfold; (try dsimp only)) | (walk1; (try dsimp only)) | (dsimp only; walk1) | (leave1; walk_say "STEP leave1"; try dsimp only) | fail "no step"))
local macro_rules | `(tactic| walk_at "subscriptTail") => `(tactic| (k_here; (with_reducible show wpAny _ _ (subscriptTail _ _ (Value.ref _) (Value.int _ _)) _ _ _); k_dflt (refine' item_litK ?k1 ?k2 ?k3 ?k4 ?_ ?k6; (case k1 => exact News.isList (by k_asm) (by k_mem)); (case k2 => decide); (case k3 => decide); (case k4 => rfl); (case k6 => with_unfolding_all rfl); k_whole)))
local macro_rules | `(tactic| walk_at "subscriptTail") => `(tactic| (k_here; (with_reducible show wpAny _ _ (subscriptTail _ _ (Value.ref _) (Value.int (-1) _)) _ _ _); k_dflt (refine' item_last ?k1 ?_ ; (case k1 => exact News.isList (by k_asm) (by k_mem)); k_whole)))

set_option maxHeartbeats 2000000 in
theorem stage5 {nm q : Str} {params : Arguments} {body : List Stmt} {scope : Scope} {dV kV doc pm cdv ct oc : Value} {an od : Option Addr} {osl : Array (Option Value)} {fa : Addr} {cd : Value} {g : Addr} {gn : Nat} {g0 g1 g2 g3 g4 g5 g6 g7 g8 : Int} {t0 t1 t2 t3 t4 t5 t6 t7 t8 : Tok} {l : Addr} {vs : Array Value} {n : Nat} {rest : List (Addr × Obj)} {md : Int} {tm : Tok} {QF : Flow → Shared → Prop} (hlk : (Mine.hd.heap_1 w.params).lookup 377 = some ⟨oc, od, .func (fnOf nm q params body scope dV kV doc pm an cdv ct), osl⟩) (B : Below A₀ h₀ [] h₀) (F : Fr h₀ L s.heap m) (X : (Mine.hd.heap_1 w.params).In h₀) (N : News h₀ L s.heap ((l, listOf vs n) :: rest)) (T : Top p loose mean mg mb h₀) (hdp : d ≤ 700) (hun : u ≤ 200) (hE : PassesOwn (model prog w) ⟨none, d, some [(envOfC q scope L fa cd)], gs, u⟩ (envOfC q scope L fa cd) E) (hg : m (Str.ofString "given") = some (.ref g)) (hmo : m (Str.ofString "modulus") = some (.int md tm)) (hmd : 2 ≤ md) (hS : Sk md) (hrw : m (Str.ofString "rows") = some (.ref l)) (hsz : vs.size = 7) (hr : ∀ v ∈ vs.toList, RowIn w.params md rest v) (hne : ∀ p ∈ rest, p.1 ≠ l) (hgm : (g, listOf #[.int g0 t0, .int g1 t1, .int g2 t2, .int g3 t3, .int g4 t4, .int g5 t5, .int g6 t6, .int g7 t7, .int g8 t8] gn) ∈ rest)
    (h : ∀ m' aA pA dpA qA dqA dueA tdA rA1 rA2 rA3 rA4 sA1 sA2 sA3 sA4 aB pB dpB qB dqB dueB tdB rB1 rB2 rB3 rB4 sB1 sB2 sB3 sB4 h' tk, Fr h₀ L h' m' → m' (Str.ofString "first") = some (.ref aA) → m' (Str.ofString "last") = some (.ref aB) → m' (Str.ofString "given") = some (.ref g) → m' (Str.ofString "modulus") = some (.int md tm) → News h₀ L h' [(aA, tupO [.int dueA tdA, .ref pA, .ref qA]), (pA, instObj 333 dpA), (dpA, FQD w.params rA1 rA2 rA3 rA4 md dueA), (qA, instObj 186 dqA), (dqA, FQD w.params sA1 sA2 sA3 sA4 md dueA), (aB, tupO [.int dueB tdB, .ref pB, .ref qB]), (pB, instObj 333 dpB), (dpB, FQD w.params rB1 rB2 rB3 rB4 md dueB), (qB, instObj 186 dqB), (dqB, FQD w.params sB1 sB2 sB3 sB4 md dueB), (g, listOf #[.int g0 t0, .int g1 t1, .int g2 t2, .int g3 t3, .int g4 t4, .int g5 t5, .int g6 t6, .int g7 t7, .int g8 t8] gn)] → 0 ≤ dueA → dueA < md → 0 ≤ dueB → dueB < md → QF .next { s with heap := h', toks := tk }) :
    wpAny (model prog w) ⟨none, d, some [(envOfC q scope L fa cd)], gs, u⟩ (execs ((body.drop 6).take 1) (envOfC q scope L fa cd)) QF E s := by
  obtain ⟨v0, v1, v2, v3, v4, v5, v6, rfl⟩ := arr7 hsz
  obtain ⟨aA, pA, dpA, qA, dqA, dueA, tdA, rA1, rA2, rA3, rA4, sA1, sA2, sA3, sA4, rfl, hA0, hA1, mA1, mA2, mA3, mA4, mA5⟩ := hr v0 (by simp)
  obtain ⟨aB, pB, dpB, qB, dqB, dueB, tdB, rB1, rB2, rB3, rB4, sB1, sB2, sB3, sB4, rfl, hB0, hB1, mB1, mB2, mB3, mB4, mB5⟩ := hr v6 (by simp)
  refine' with_lookup hlk ?k ?_
  (case k => k_is)
  intro eqo
  cases eqo
  clear hlk
  simp only [List.drop_succ_cons, List.drop_zero, List.take_succ_cons, List.take_zero]
  k_steps
  rename Fr _ _ _ _ => qf
  rename News _ _ _ _ => qn
  exact h _ _ _ _ _ _ _ _ _ _ _ _ _ _ _ _ _ _ _ _ _ _ _ _ _ _ _ _ _ _ _ _ _ qf rfl rfl hg hmo (news_sub qn (sub1 (sub1 (sub1 (sub1 (sub1 (sub1 (sub1 (sub1 (sub1 (sub1 (sub1 (fun _ hx => nomatch hx) (.tail _ (.tail _ hgm))) (.tail _ (.tail _ mB5))) (.tail _ (.tail _ mB4))) (.tail _ (.tail _ mB3))) (.tail _ (.tail _ mB2))) (.tail _ (.tail _ mB1))) (.tail _ (.tail _ mA5))) (.tail _ (.tail _ mA4))) (.tail _ (.tail _ mA3))) (.tail _ (.tail _ mA2))) (.tail _ (.tail _ mA1)))) hA0 hA1 hB0 hB1
end P_S5
section P_M7
local macro_rules | `(tactic| k_room) => `(tactic| ((try simp only [depth_under_make, depth_under_kw, depth_in1, depth_deeper, depth_caller, recursionLimit]); omega))
local macro_rules | `(tactic| k_all) => `(tactic| (intro p hp; exact Nat.ne_of_lt ((by assumption : ∀ p ∈ _, p.1 < _) p hp)))
local macro_rules | `(tactic| k_units) => `(tactic| ((try simp only [units_in1, units_deeper, Around.mark_units, units_caller, cLine]); omega))
local macro_rules | `(tactic| mul_fits) => `(tactic| exact mulOk_of (by first | assumption | exact Sm.of_res (by assumption) (by assumption) (by assumption)) (by first | assumption | exact Sm.of_res (by assumption) (by assumption) (by assumption)))
variable {prog : Program} {w : World} {A₀ : Around} {s : Shared} {d u : Nat} {gs : Option (List Code)} {env : Env} {outer : List Env} {base h₀ : Heap} {L : Addr} {m mg mb : Str → Option Value} {p : Program} {loose : List Str} {mean : ExcName → Option Value} {news : List (Addr × Obj)} {R : Result → Shared → Prop} {Q : Value → Shared → Prop} {E : Value → Shared → Prop}
local macro_rules | `(tactic| k_steps) => `(tactic| repeat' (first | (k_unfold; (try dsimp only)) | (dsimp only; k_unfold; (try dsimp only)) | walk1 | (dsimp only; walk1) | (leave1; walk_say "STEP leave1"; try dsimp only) | fail "no step"))
local macro_rules | `(tactic| walk_at "call ref") => `(tactic| (k_here; (with_reducible show wpAny _ _ (call (Value.ref 333) [Value.int _ _, Value.int _ _]) _ _ _); k_dflt (refine' mk_P ?B ?F ?X ?N ?T ?hf ?hk ?hd ?hm ?_; (case B => k_asm); (case F => k_asm); (case X => k_asm); (case N => k_asm); (case T => k_asm); (case hf => first | exact rfl | assumption); (case hk => first | exact rfl | assumption); (case hd => k_room); (case hm => k_asm); k_whole); intro x' d' h' t1' t2' t3' t4' tk' F' N' l1 l2; (try k_sweep)))
local macro_rules | `(tactic| walk_at "call ref") => `(tactic| (k_here; (with_reducible show wpAny _ _ (call (Value.ref 186) [Value.int _ _, Value.int _ _]) _ _ _); k_dflt (refine' mk_O ?B ?F ?X ?N ?T ?hf ?hk ?hd ?hm ?_; (case B => k_asm); (case F => k_asm); (case X => k_asm); (case N => k_asm); (case T => k_asm); (case hf => first | exact rfl | assumption); (case hk => first | exact rfl | assumption); (case hd => k_room); (case hm => k_asm); k_whole); intro x' d' h' t1' t2' t3' t4' tk' F' N' l1 l2; (try k_sweep)))
local macro_rules | `(tactic| k_enter) => `(tactic| ((with_reducible show codeAny _ _ (Code.call (Value.ref 274) _) _ _); k_dflt (refine' eq_r_P ?B ?F ?X ?N ?T ?hf ?hk ?hd ?hx ?hdx ?hx2 ?hdx2 ?_; (case B => k_asm); (case F => k_asm); (case X => k_asm); (case N => k_asm); (case T => k_asm); (case hf => first | exact rfl | assumption); (case hk => first | exact rfl | assumption); (case hd => k_room); (case hx => first | k_mem | k_asm | exact Sm.of_res (by assumption) (fm_lo (by assumption) _) (fm_hi (by assumption) _) | exact Sm.of_res (by assumption) (by assumption) (by assumption)); (case hdx => first | k_mem | k_asm | exact Sm.of_res (by assumption) (fm_lo (by assumption) _) (fm_hi (by assumption) _) | exact Sm.of_res (by assumption) (by assumption) (by assumption)); (case hx2 => first | k_mem | k_asm | exact Sm.of_res (by assumption) (fm_lo (by assumption) _) (fm_hi (by assumption) _) | exact Sm.of_res (by assumption) (by assumption) (by assumption)); (case hdx2 => first | k_mem | k_asm | exact Sm.of_res (by assumption) (fm_lo (by assumption) _) (fm_hi (by assumption) _) | exact Sm.of_res (by assumption) (by assumption) (by assumption)); k_whole); intro h' tk' F' N'; (try k_sweep); (try dsimp only [PySem.W.CmpBack, PySem.W.InitBack, PySem.W.LenBack, PySem.W.StrBack, PySem.W.BoolBack])))
local macro_rules | `(tactic| k_enter) => `(tactic| ((with_reducible show codeAny _ _ (Code.call (Value.ref 274) _) _ _); k_dflt (refine' eq_i_P ?B ?F ?X ?N ?T ?hf ?hk ?hd ?hx ?hdx ?_; (case B => k_asm); (case F => k_asm); (case X => k_asm); (case N => k_asm); (case T => k_asm); (case hf => first | exact rfl | assumption); (case hk => first | exact rfl | assumption); (case hd => k_room); (case hx => first | k_mem | k_asm | exact Sm.of_res (by assumption) (fm_lo (by assumption) _) (fm_hi (by assumption) _) | exact Sm.of_res (by assumption) (by assumption) (by assumption)); (case hdx => first | k_mem | k_asm | exact Sm.of_res (by assumption) (fm_lo (by assumption) _) (fm_hi (by assumption) _) | exact Sm.of_res (by assumption) (by assumption) (by assumption)); k_whole); intro h' tk' F' N'; (try k_sweep); (try dsimp only [PySem.W.CmpBack, PySem.W.InitBack, PySem.W.LenBack, PySem.W.StrBack, PySem.W.BoolBack])))
local macro_rules | `(tactic| k_enter) => `(tactic| ((with_reducible show codeAny _ _ (Code.call (Value.ref 309) _) _ _); k_dflt (refine' lt_r_P ?B ?F ?X ?N ?T ?hf ?hk ?hd ?hx ?hdx ?hx2 ?hdx2 ?_; (case B => k_asm); (case F => k_asm); (case X => k_asm); (case N => k_asm); (case T => k_asm); (case hf => first | exact rfl | assumption); (case hk => first | exact rfl | assumption); (case hd => k_room); (case hx => first | k_mem | k_asm | exact Sm.of_res (by assumption) (fm_lo (by assumption) _) (fm_hi (by assumption) _) | exact Sm.of_res (by assumption) (by assumption) (by assumption)); (case hdx => first | k_mem | k_asm | exact Sm.of_res (by assumption) (fm_lo (by assumption) _) (fm_hi (by assumption) _) | exact Sm.of_res (by assumption) (by assumption) (by assumption)); (case hx2 => first | k_mem | k_asm | exact Sm.of_res (by assumption) (fm_lo (by assumption) _) (fm_hi (by assumption) _) | exact Sm.of_res (by assumption) (by assumption) (by assumption)); (case hdx2 => first | k_mem | k_asm | exact Sm.of_res (by assumption) (fm_lo (by assumption) _) (fm_hi (by assumption) _) | exact Sm.of_res (by assumption) (by assumption) (by assumption)); k_whole); intro h' tk' F' N'; (try k_sweep); (try dsimp only [PySem.W.CmpBack, PySem.W.InitBack, PySem.W.LenBack, PySem.W.StrBack, PySem.W.BoolBack])))
local macro_rules | `(tactic| k_enter) => `(tactic| ((with_reducible show codeAny _ _ (Code.call (Value.ref 302) _) _ _); k_dflt (refine' int_P ?B ?F ?X ?N ?T ?hf ?hk ?hd ?hx ?hdx ?_; (case B => k_asm); (case F => k_asm); (case X => k_asm); (case N => k_asm); (case T => k_asm); (case hf => first | exact rfl | assumption); (case hk => first | exact rfl | assumption); (case hd => k_room); (case hx => first | k_mem | k_asm | exact Sm.of_res (by assumption) (fm_lo (by assumption) _) (fm_hi (by assumption) _) | exact Sm.of_res (by assumption) (by assumption) (by assumption)); (case hdx => first | k_mem | k_asm | exact Sm.of_res (by assumption) (fm_lo (by assumption) _) (fm_hi (by assumption) _) | exact Sm.of_res (by assumption) (by assumption) (by assumption)); k_whole); intro h' tk' F' N'; (try k_sweep); (try dsimp only [PySem.W.CmpBack, PySem.W.InitBack, PySem.W.LenBack, PySem.W.StrBack, PySem.W.BoolBack])))
local macro_rules | `(tactic| k_enter) => `(tactic| ((with_reducible show codeAny _ _ (Code.call (Value.ref 119) _) _ _); k_dflt (refine' eq_r_O ?B ?F ?X ?N ?T ?hf ?hk ?hd ?hx ?hdx ?hx2 ?hdx2 ?_; (case B => k_asm); (case F => k_asm); (case X => k_asm); (case N => k_asm); (case T => k_asm); (case hf => first | exact rfl | assumption); (case hk => first | exact rfl | assumption); (case hd => k_room); (case hx => first | k_mem | k_asm | exact Sm.of_res (by assumption) (fm_lo (by assumption) _) (fm_hi (by assumption) _) | exact Sm.of_res (by assumption) (by assumption) (by assumption)); (case hdx => first | k_mem | k_asm | exact Sm.of_res (by assumption) (fm_lo (by assumption) _) (fm_hi (by assumption) _) | exact Sm.of_res (by assumption) (by assumption) (by assumption)); (case hx2 => first | k_mem | k_asm | exact Sm.of_res (by assumption) (fm_lo (by assumption) _) (fm_hi (by assumption) _) | exact Sm.of_res (by assumption) (by assumption) (by assumption)); (case hdx2 => first | k_mem | k_asm | exact Sm.of_res (by assumption) (fm_lo (by assumption) _) (fm_hi (by assumption) _) | exact Sm.of_res (by assumption) (by assumption) (by assumption)); k_whole); intro h' tk' F' N'; (try k_sweep); (try dsimp only [PySem.W.CmpBack, PySem.W.InitBack, PySem.W.LenBack, PySem.W.StrBack, PySem.W.BoolBack])))
local macro_rules | `(tactic| k_enter) => `(tactic| ((with_reducible show codeAny _ _ (Code.call (Value.ref 119) _) _ _); k_dflt (refine' eq_i_O ?B ?F ?X ?N ?T ?hf ?hk ?hd ?hx ?hdx ?_; (case B => k_asm); (case F => k_asm); (case X => k_asm); (case N => k_asm); (case T => k_asm); (case hf => first | exact rfl | assumption); (case hk => first | exact rfl | assumption); (case hd => k_room); (case hx => first | k_mem | k_asm | exact Sm.of_res (by assumption) (fm_lo (by assumption) _) (fm_hi (by assumption) _) | exact Sm.of_res (by assumption) (by assumption) (by assumption)); (case hdx => first | k_mem | k_asm | exact Sm.of_res (by assumption) (fm_lo (by assumption) _) (fm_hi (by assumption) _) | exact Sm.of_res (by assumption) (by assumption) (by assumption)); k_whole); intro h' tk' F' N'; (try k_sweep); (try dsimp only [PySem.W.CmpBack, PySem.W.InitBack, PySem.W.LenBack, PySem.W.StrBack, PySem.W.BoolBack])))
local macro_rules | `(tactic| k_enter) => `(tactic| ((with_reducible show codeAny _ _ (Code.call (Value.ref 154) _) _ _); k_dflt (refine' lt_r_O ?B ?F ?X ?N ?T ?hf ?hk ?hd ?hx ?hdx ?hx2 ?hdx2 ?_; (case B => k_asm); (case F => k_asm); (case X => k_asm); (case N => k_asm); (case T => k_asm); (case hf => first | exact rfl | assumption); (case hk => first | exact rfl | assumption); (case hd => k_room); (case hx => first | k_mem | k_asm | exact Sm.of_res (by assumption) (fm_lo (by assumption) _) (fm_hi (by assumption) _) | exact Sm.of_res (by assumption) (by assumption) (by assumption)); (case hdx => first | k_mem | k_asm | exact Sm.of_res (by assumption) (fm_lo (by assumption) _) (fm_hi (by assumption) _) | exact Sm.of_res (by assumption) (by assumption) (by assumption)); (case hx2 => first | k_mem | k_asm | exact Sm.of_res (by assumption) (fm_lo (by assumption) _) (fm_hi (by assumption) _) | exact Sm.of_res (by assumption) (by assumption) (by assumption)); (case hdx2 => first | k_mem | k_asm | exact Sm.of_res (by assumption) (fm_lo (by assumption) _) (fm_hi (by assumption) _) | exact Sm.of_res (by assumption) (by assumption) (by assumption)); k_whole); intro h' tk' F' N'; (try k_sweep); (try dsimp only [PySem.W.CmpBack, PySem.W.InitBack, PySem.W.LenBack, PySem.W.StrBack, PySem.W.BoolBack])))
local macro_rules | `(tactic| k_enter) => `(tactic| ((with_reducible show codeAny _ _ (Code.call (Value.ref 147) _) _ _); k_dflt (refine' int_O ?B ?F ?X ?N ?T ?hf ?hk ?hd ?hx ?hdx ?_; (case B => k_asm); (case F => k_asm); (case X => k_asm); (case N => k_asm); (case T => k_asm); (case hf => first | exact rfl | assumption); (case hk => first | exact rfl | assumption); (case hd => k_room); (case hx => first | k_mem | k_asm | exact Sm.of_res (by assumption) (fm_lo (by assumption) _) (fm_hi (by assumption) _) | exact Sm.of_res (by assumption) (by assumption) (by assumption)); (case hdx => first | k_mem | k_asm | exact Sm.of_res (by assumption) (fm_lo (by assumption) _) (fm_hi (by assumption) _) | exact Sm.of_res (by assumption) (by assumption) (by assumption)); k_whole); intro h' tk' F' N'; (try k_sweep); (try dsimp only [PySem.W.CmpBack, PySem.W.InitBack, PySem.W.LenBack, PySem.W.StrBack, PySem.W.BoolBack])))

set_option maxHeartbeats 4000000 in
theorem ne_r_P {md n : Int} {y dy : Addr} {a1 a2 a3 a4 : Tok}{z dz : Addr} {a12 a22 a32 a42 : Tok} {k : Int} (B : Below A₀ base outer h₀) (F : Fr h₀ L s.heap m) (X : (Mine.hd.heap_1 w.params).In h₀) (N : News h₀ L s.heap news) (T : Top p loose mean mg mb h₀) (hf : env.frame = some L) (hke : env.scope.kind = .function) (hdp : d ≤ 960) (hun : u ≤ 9000) (hx : (y, instObj 333 dy) ∈ news) (hdx : (dy, FQD w.params a1 a2 a3 a4 md n) ∈ news)(hx2 : (z, instObj 333 dz) ∈ news) (hdx2 : (dz, FQD w.params a12 a22 a32 a42 md k) ∈ news)
    (h : ∀ h' tk, Fr h₀ L h' m → News h₀ L h' news → R (.ok (.ret (.bool (!(n == k))))) { s with heap := h', toks := tk }) :
    codeAny (model prog w) ⟨none, d, some (env :: outer), gs, u⟩ (.call (.ref 281) ⟨[.ref y, .ref z], []⟩) R s := by
  replace N := news_show2 N (by repeat (first | exact sub_refl | apply sub_tail)) hx hdx
  replace N := news_show2 N (by repeat (first | exact sub_refl | apply sub_tail)) hx2 hdx2
  (refine' code_def (binds := [("self", .ref y), ("other", .ref z)]) ?k1 ?k2 ?k3 ?k4 ?k5 ?kA ?kF ?kK ?k6 ?k7 ?k8 ?k9 ?kB ?_ ?c2 ?c3 ?c4 ?c5; (case kA => exact rfl); (case kF => exact hf); (case kK => exact hke); (case k1 => k_asm); (case k2 => k_asm); (case k3 => k_asm); (case k4 => k_asm); (case k5 => k_asm); (case k6 => k_is); (case k7 => k_is); (case k8 => k_room); (case k9 => exact BindsTo.of_eq rfl); (case c5 => decide); (case kB => exact locs rfl); (case c2 => exact rfl); (case c3 => exact rfl); (case c4 => exact rfl); k_whole; intro g' L' h' FG' F' N' B' X' T')
  clear B X T
  k_fold
  k_steps
  refine leaveK_ (by k_asm) (by k_asm) fun kF kN => ?_
  exact h _ _ kF (news_sub kN (by repeat (first | exact sub_refl | apply sub_tail)))

set_option maxHeartbeats 4000000 in
theorem ne_r_O {md n : Int} {y dy : Addr} {a1 a2 a3 a4 : Tok}{z dz : Addr} {a12 a22 a32 a42 : Tok} {k : Int} (B : Below A₀ base outer h₀) (F : Fr h₀ L s.heap m) (X : (Mine.hd.heap_1 w.params).In h₀) (N : News h₀ L s.heap news) (T : Top p loose mean mg mb h₀) (hf : env.frame = some L) (hke : env.scope.kind = .function) (hdp : d ≤ 960) (hun : u ≤ 9000) (hx : (y, instObj 186 dy) ∈ news) (hdx : (dy, FQD w.params a1 a2 a3 a4 md n) ∈ news)(hx2 : (z, instObj 186 dz) ∈ news) (hdx2 : (dz, FQD w.params a12 a22 a32 a42 md k) ∈ news)
    (h : ∀ h' tk, Fr h₀ L h' m → News h₀ L h' news → R (.ok (.ret (.bool (!(n == k))))) { s with heap := h', toks := tk }) :
    codeAny (model prog w) ⟨none, d, some (env :: outer), gs, u⟩ (.call (.ref 126) ⟨[.ref y, .ref z], []⟩) R s := by
  replace N := news_show2 N (by repeat (first | exact sub_refl | apply sub_tail)) hx hdx
  replace N := news_show2 N (by repeat (first | exact sub_refl | apply sub_tail)) hx2 hdx2
  (refine' code_def (binds := [("self", .ref y), ("other", .ref z)]) ?k1 ?k2 ?k3 ?k4 ?k5 ?kA ?kF ?kK ?k6 ?k7 ?k8 ?k9 ?kB ?_ ?c2 ?c3 ?c4 ?c5; (case kA => exact rfl); (case kF => exact hf); (case kK => exact hke); (case k1 => k_asm); (case k2 => k_asm); (case k3 => k_asm); (case k4 => k_asm); (case k5 => k_asm); (case k6 => k_is); (case k7 => k_is); (case k8 => k_room); (case k9 => exact BindsTo.of_eq rfl); (case c5 => decide); (case kB => exact locs rfl); (case c2 => exact rfl); (case c3 => exact rfl); (case c4 => exact rfl); k_whole; intro g' L' h' FG' F' N' B' X' T')
  clear B X T
  k_fold
  k_steps
  refine leaveK_ (by k_asm) (by k_asm) fun kF kN => ?_
  exact h _ _ kF (news_sub kN (by repeat (first | exact sub_refl | apply sub_tail)))
end P_M7
section P_R4
local macro_rules | `(tactic| k_room) => `(tactic| ((try simp only [depth_under_make, depth_under_kw, depth_in1, depth_deeper, depth_caller, recursionLimit]); omega))
local macro_rules | `(tactic| k_all) => `(tactic| (intro p hp; exact Nat.ne_of_lt ((by assumption : ∀ p ∈ _, p.1 < _) p hp)))
local macro_rules | `(tactic| k_units) => `(tactic| ((try simp only [units_in1, units_deeper, Around.mark_units, units_caller, cLine]); omega))
local macro_rules | `(tactic| mul_fits) => `(tactic| exact mulOk_of (by first | assumption | exact Sm.of_res (by assumption) (by assumption) (by assumption)) (by first | assumption | exact Sm.of_res (by assumption) (by assumption) (by assumption)))
variable {prog : Program} {w : World} {A₀ : Around} {s : Shared} {d u : Nat} {gs : Option (List Code)} {env : Env} {outer : List Env} {base h₀ : Heap} {L : Addr} {m mg mb : Str → Option Value} {p : Program} {loose : List Str} {mean : ExcName → Option Value} {news : List (Addr × Obj)} {R : Result → Shared → Prop} {Q : Value → Shared → Prop} {E : Value → Shared → Prop}
local macro_rules | `(tactic| k_steps) => `(tactic| repeat' (first | (k_unfold; (try dsimp only)) | (dsimp only; k_unfold; (try dsimp only)) | walk1 | (dsimp only; walk1) | (leave1; walk_say "STEP leave1"; try dsimp only) | fail "no step"))
section
open PySem.Calls Builtin
theorem slot_type_format : Slot "type" "__format__" "object.__format__" :=
  .of (owner := "object") (n := "__format__") (by rw [typeLookup_type, builtinLookup_eq_fast]; kernel_rfl) (by decide +kernel) (by decide +kernel) (by decide +kernel)
    (by first | exact .inl (by decide +kernel) | exact .inr (by decide +kernel)) (by rw [isSubtype_type]; kernel_rfl)
theorem slot_type_str : Slot "type" "__str__" "object.__str__" :=
  .of (owner := "object") (n := "__str__") (by rw [typeLookup_type, builtinLookup_eq_fast]; kernel_rfl) (by decide +kernel) (by decide +kernel) (by decide +kernel)
    (by first | exact .inl (by decide +kernel) | exact .inr (by decide +kernel)) (by rw [isSubtype_type]; kernel_rfl)
theorem slot_type_repr : Slot "type" "__repr__" "type.__repr__" :=
  .of (owner := "type") (n := "__repr__") (by rw [typeLookup_type, builtinLookup_eq_fast]; kernel_rfl) (by decide +kernel) (by decide +kernel) (by decide +kernel)
    (by first | exact .inl (by decide +kernel) | exact .inr (by decide +kernel)) (by rw [isSubtype_type]; kernel_rfl)
theorem entry_type_repr : entryFor table "type.__repr__" = some Builtin.«type.__repr__» := entryFor_of_tree (by kernel_rfl)
theorem args_type_repr (a : Value) : argsOk "type.__repr__" ⟨[a], []⟩ := by unfold argsOk; kernel_rfl
theorem field_type {prog : Program} {w : World} {A : Around} {E : Value → Shared → Prop} {s : Shared} {v : Value} {x : Str} {Q : Value → Shared → Prop} (hu : A.units + 4 < cLine) (hT : ∀ tk, ({ s with toks := tk } : Shared).TypeIs v "type") (hs : ∀ y t, v ≠ .str y t)
    (hr : ∀ (A' : Around) (tk : Nat) (Q' : Fin → Shared → Prop) (E' : Value → Shared → Prop), Q' (.done (.ret (.str x tk))) { s with toks := tk + 1 } → wpAny (model prog w) A' (Builtin.«type.__repr__» ⟨[v], []⟩) Q' E' { s with toks := tk })
    (h : Q (.str x (s.toks + 1)) { s with toks := s.toks + 2 }) :
    wpAny (model prog w) A (formatField v Str.empty) Q E s := by
  have go : formatField v Str.empty = holding [v] (pyFormat v Str.empty) := by
    cases v <;> first | rfl | exact absurd rfl (hs _ _)
  have go2 : pyStrObj v = (do cRoomFor "str" [v]; match ← callSpecial? v "__str__" with
    | some r => if ← isInstance r (.type "str") then pure r else
        raiseError "TypeError" s!"__str__ returned non-string (type {← PySem.typeNameOf r})"
    | none => unsupported "internal:no-__str__") := by
    cases v <;> first | rfl | exact absurd rfl (hs _ _)
  rw [go]
  refine wpAny_holding ?_
  unfold pyFormat
  refine wpAny_bind (wpAny_mkStr ?_ (by decide))
  refine wpAny_bind (m := callSpecial? v (Str.ofString "__format__") [.str Str.empty s.toks]) (wpAny_callSpecial?_slot (name := Str.ofString "__format__") (hT _) slot_type_format ?_)
  refine wpAny_call (codeAny_call_builtin slot_type_format.plain PySem.F.entry_object_format (slot_type_format.check _ _ _ _ _ _ _ _ (hT _) (PySem.F.args_object_format_2 _ _) ?_))
  show wpAny _ _ (do let _shown ← PySem.typeNameOf (Value.str Str.empty s.toks); (do ret (← pyStrObj v))) _ _ _
  refine wpAny_bind (PySem.wpAny_typeNameOf (T := "str") (typeIs_str _ _ _) (by decide) fun _ => ?_)
  rw [go2]
  refine wpAny_bind (wpAny_bind (wpAny_cRoomFor (by simp only [Around.in1_units]; omega) ?_))
  refine wpAny_bind (m := callSpecial? v (Str.ofString "__str__")) (wpAny_callSpecial?_slot (name := Str.ofString "__str__") (hT _) slot_type_str ?_)
  refine wpAny_call (codeAny_call_builtin slot_type_str.plain PySem.F.entry_object_str (slot_type_str.check _ _ _ _ _ _ _ _ (hT _) (PySem.F.args_object_str_1 _) ?_))
  unfold Builtin.«object.__str__»
  refine wpAny_bind (m := slotArgs "__str__" 0 _) (wpAny_pure ?_)
  refine wpAny_bind (m := cRoomFor _ _) (wpAny_cRoomFor (by simp only [Around.in1_units]; omega) ?_)
  refine wpAny_bind (m := callSpecialIfBound? v (Str.ofString "__repr__") _) (wpAny_callSpecialIfBound?_slot (name := Str.ofString "__repr__") (hT _) slot_type_repr ?_)
  refine wpAny_call (codeAny_call_builtin slot_type_repr.plain entry_type_repr (slot_type_repr.check _ _ _ _ _ _ _ _ (hT _) (args_type_repr _) ?_))
  refine hr _ _ _ _ ?_
  refine wpAny_pure ?_
  refine wpAny_bind (wpAny_isInstance (T := "str") (b := true) (typeIs_str _ _ _) isSubtype_str_str ?_)
  simp only [if_true]
  refine wpAny_pure (wpAny_pure ?_)
  exact wpAny_bind (wpAny_isInstance (T := "str") (b := true) (typeIs_str _ _ _) isSubtype_str_str (by simp only [if_true]; exact wpAny_pure h))
theorem field_str {prog : Program} {w : World} {A : Around} {E : Value → Shared → Prop} {s : Shared} {Q : Value → Shared → Prop} (hu : A.units + 4 < cLine)
    (h : ∀ tk, Q (.str (Str.ofString "<class 'str'>") tk) { s with toks := s.toks + 2 }) : wpAny (model prog w) A (formatField (.type "str") Str.empty) Q E s := by
  refine field_type hu (x := Str.ofString "<class 'str'>") (fun tk => ?_) (fun _ _ => by simp) (fun A' tk Q' E' q => ?_) (h _)
  · show typeOf (.type "str") = pure (.type "type")
    rfl
  · show wpAny _ _ (retStr _) _ _ _
    exact wpAny_bind (wpAny_mkStr (wpAny_pure q) (by decide +kernel))
theorem field_cls {prog : Program} {w : World} {A : Around} {E : Value → Shared → Prop} {s : Shared} {Q : Value → Shared → Prop} {K : Frag} {h₀ : Heap} {L C : Addr} {m : Str → Option Value} {o : Obj} {cd : ClassData} {md : Str} {tm : Tok} (hu : A.units + 4 < cLine)
    (F : Fr h₀ L s.heap m) (X₀ : K.In h₀) (ho : K.lookup C = some o) (hc : o.cls = .type "type") (hd : o.data = .cls cd) (hn : nsIn K cd.ns "__module__" = some (some (.str md tm))) (hb : (md == ("builtins" : Str)) = false)
    (hz : ((("<class '" : Str) ++ md ++ "." ++ cd.qualname ++ "'>") : Str).length ≤ sizeLine)
    (h : ∀ tk, Q (.str (("<class '" : Str) ++ md ++ "." ++ cd.qualname ++ "'>") tk) { s with toks := s.toks + 2 }) : wpAny (model prog w) A (formatField (.ref C) Str.empty) Q E s := by
  have X := X₀.keeps F.keep
  refine field_type hu (x := ("<class '" : Str) ++ md ++ "." ++ cd.qualname ++ "'>") (fun tk => ?_) (fun _ _ => by simp) (fun A' tk Q' E' q => ?_) (h _)
  · exact ⟨o, X _ _ ho, hc⟩
  · unfold Builtin.«type.__repr__»
    dsimp only
    unfold classData
    refine wpAny_bind (wpAny_bind (wpAny_load (X _ _ ho) ?_))
    rw [hd]
    dsimp only
    refine wpAny_pure ?_
    refine wpAny_bind (looks_nsIn X hn _ _ _ _ (fun _ _ e => e) ?_)
    dsimp only
    rw [hb]
    simp only [Bool.false_eq_true, if_false]
    exact wpAny_bind (wpAny_mkStr (wpAny_pure q) hz)
theorem binop2_K {prog : Program} {w : World} {A : Around} {E : Value → Shared → Prop} {s : Shared} {K : Frag} {x C L f C2 f2 : Addr} {h₀ : Heap} {m : Str → Option Value} {ox : Obj} {od : Option Obj} {op : Operator} {b : Value} {rc rc2 : Option Value} {Q : Value → Shared → Prop}
    (F : Fr h₀ L s.heap m) (X₀ : K.In h₀) (I : InstAt s.heap x ox C od) (hb : Looks (model prog w) s.heap (typeOf b) (.ref C2)) (hne : (Value.ref C == Value.ref C2) = false) (hc : selfFirst K C = true) (hc2 : selfFirst K C2 = true)
    (hs : findIn K (.ref C) (PySem.dunder op.info.2) = some (some (.ref f))) (hf : isFn K (.ref f) = true) (hr : findIn K (.ref C) (dunderR op.info.2) = some rc) (hp : rc = none ∨ ∃ g : Addr, rc = some (.ref g))
    (hs2 : findIn K (.ref C2) (PySem.dunder op.info.2) = some (some (.ref f2))) (hr2 : findIn K (.ref C2) (dunderR op.info.2) = some rc2) (hp2 : rc2 = none ∨ ∃ g : Addr, rc2 = some (.ref g))
    (hsub : subIn K (.ref C2) (.ref C) = some false)
    (h : wpAny (model prog w) A (call (.ref f) [.ref x, b]) (fun _ _ => False) E s) : wpAny (model prog w) A (binaryOp op (.ref x) b) Q E s := by
  have X := X₀.keeps F.keep
  obtain ⟨cd, rest, hcd, hm⟩ := ksp_first hc
  obtain ⟨cd2, rest2, hcd2, hm2⟩ := ksp_first hc2
  rcases hi : op.info with ⟨sym, nm'⟩
  rw [hi] at hs hr hs2 hr2
  dsimp only at hs hr hs2 hr2
  have one : wpAny (model prog w) A (tryMethod (.ref x) (PySem.dunder nm') b) (fun _ _ => False) E s := by
    unfold tryMethod
    exact wpAny_bind (special_fn X I hs (beq_iff_eq.mp hf) (wpAny_mono h (fun v s' hv => hv.elim) fun _ _ e => e))
  obtain ⟨hh, g, d, tt, os⟩ := s
  have L1 : Looks (model prog w) hh (typeOf (.ref x)) (.ref C) := I.type
  have L3 : Looks (model prog w) hh (fillsNumberSlot (.ref C) nm') true := fills_K X hcd hm hs
  have L4 : Looks (model prog w) hh (fillsNumberSlot (.ref C2) nm') true := fills_K X hcd2 hm2 hs2
  have L5 : Looks (model prog w) hh (isSubtype (.ref C2) (.ref C)) false := looks_subIn X hsub
  have L6 : Looks (model prog w) hh (numberSlotInPython (.ref C) nm') true := ksp_inPy X hs hr hp
  have L7 : Looks (model prog w) hh (numberSlotInPython (.ref C2) nm') true := ksp_inPy X hs2 hr2 hp2
  simp only [binaryOp, hi]
  refine wpAny_holding (wpAny_bind ?_)
  unfold binaryOp1
  refine wpAny_bind (L1.at (wpAny_bind (hb.at (wpAny_bind (L3.at ?_)))))
  simp only [hne, Bool.false_eq_true, if_false]
  refine wpAny_bind (L4.at ?_)
  simp only [Bool.and_self, if_true]
  refine wpAny_bind (L5.at ?_)
  simp only [Bool.false_eq_true, if_false, Bool.not_false, Bool.and_self, if_true, pure_bind]
  refine wpAny_bind (L6.at ?_)
  simp only [if_true]
  refine wpAny_bind (L7.at ?_)
  simp only [Bool.not_true, Bool.false_eq_true, if_false]
  exact wpAny_bind (wpAny_mono one (fun r s' z => z.elim) fun _ _ z => z)
end
end P_R4
section P_R5
local macro_rules | `(tactic| k_room) => `(tactic| ((try simp only [depth_under_make, depth_under_kw, depth_in1, depth_deeper, depth_caller, recursionLimit]); omega))
local macro_rules | `(tactic| k_all) => `(tactic| (intro p hp; exact Nat.ne_of_lt ((by assumption : ∀ p ∈ _, p.1 < _) p hp)))
local macro_rules | `(tactic| k_units) => `(tactic| ((try simp only [units_in1, units_deeper, Around.mark_units, units_caller, cLine]); omega))
local macro_rules | `(tactic| mul_fits) => `(tactic| exact mulOk_of (by first | assumption | exact Sm.of_res (by assumption) (by assumption) (by assumption)) (by first | assumption | exact Sm.of_res (by assumption) (by assumption) (by assumption)))
variable {prog : Program} {w : World} {A₀ : Around} {s : Shared} {d u : Nat} {gs : Option (List Code)} {env : Env} {outer : List Env} {base h₀ : Heap} {L : Addr} {m mg mb : Str → Option Value} {p : Program} {loose : List Str} {mean : ExcName → Option Value} {news : List (Addr × Obj)} {R : Result → Shared → Prop} {Q : Value → Shared → Prop} {E : Value → Shared → Prop}
local macro_rules | `(tactic| k_steps) => `(tactic| repeat' (first | (k_unfold; (try dsimp only)) | (dsimp only; k_unfold; (try dsimp only)) | walk1 | (dsimp only; walk1) | (leave1; walk_say "STEP leave1"; try dsimp only) | fail "no step"))
section
open PySem.Calls
def LeaveR (fs : List Addr) (h₀ : Heap) (L : Addr) (m : Str → Option Value) (g : Heap) (R : Result → Shared → Prop) (v : Value) (s' : Shared) : Prop :=
  ∃ g' L' m' news', KtsTurn fs g g' ∧ Fr g' L' s'.heap m' ∧ News g' L' s'.heap news' ∧ (Fr h₀ L s'.heap m → News h₀ L s'.heap news' → R (.ok (.ret v)) s')
theorem code_defR {prog : Program} {w : World} {A₀ A : Around} {s : Shared} {base h₀ : Heap} {L : Addr} {m : Str → Option Value} {env : Env} {news : List (Addr × Obj)} {K : Frag} {p : Program} {loose : List Str} {mean : ExcName → Option Value} {mg mb : Str → Option Value}
    {R : Result → Shared → Prop} {name qual : Str} {params : Arguments} {body : List Stmt} {scope : Scope} {dV kV doc pm cdv ct oc : Value} {an od : Option Addr} {osl : Array (Option Value)} {f : Addr} {args : Args} {binds : List (Str × Value)}
    (B : Below A₀ base [] h₀) (F : Fr h₀ L s.heap m) (X₀ : K.In h₀) (N : News h₀ L s.heap news) (T : Top p loose mean mg mb h₀) (hA : A.frames = some [env]) (hf : env.frame = some L) (hke : env.scope.kind = .function)
    (ho : K.lookup f = some ⟨oc, od, .func (fnOf name qual params body scope dV kV doc pm an cdv ct), osl⟩) (hcd : codeIn K cdv qual = true) (hroom : A.depth < recursionLimit)
    (hbind : BindsTo s (fnOf name qual params body scope dV kV doc pm an cdv ct) args binds) (hloc : ∀ y ∈ binds, scope.names.lookup y.1 = some .local)
    (h : ∀ g L' h₁, Fr h₀ L g m → Fr g L' h₁ (fun y => binds.reverse.lookup y) → News g L' h₁ news → Below A base [env] g → K.In g → Top p loose mean mg mb g → KtsDicts ([env].filterMap (·.frame)) g →
      wpAny (model prog w) (A.deeper (envOf qual scope L' f cdv)) (execs body (envOf qual scope L' f cdv))
        (fun fl s' => LeaveR ([env].filterMap (·.frame)) h₀ L m g R (match fl with | .ret v => v | _ => .none) s')
        (fun e s' => wpAny (model prog w) (A.deeper (envOf qual scope L' f cdv)) (leaving (envOf qual scope L' f cdv) e) (fun _ s'' => R (.error e) s'') (fun e' s'' => R (.error e') s'') s')
        { s with heap := h₁, toks := s.toks + binds.length })
    (hco : scope.isCoroutine = false) (hgen : scope.isGenerator = false) (hk : scope.kind = .function)
    (hcell : ∀ x ∈ scope.names, x.2 ≠ .cell) : codeAny (model prog w) A (.call (.ref f) args) R s := by
  obtain ⟨FG, BG, st, _⟩ := groundX (R := R) B F N hA hf hke
  have efs : [env].filterMap (·.frame) = [L] := by simp [hf]
  refine codeAny_call_def (fd := fnOf name qual params body scope dV kV doc pm an cdv ct) (body := body) (binds := binds) hroom ((X₀.keeps F.keep) _ _ ho) rfl (T.nolimit.keeps F.keep) (codeRec_of (X₀.keeps F.keep) hcd) rfl hbind hcell hloc (fun h₁ hns hk₁ => ?_) hco hgen hk
  refine wpAny_mono (h _ s.heap.objs.size h₁ FG ⟨hns, fun b o e => hk₁ b o (of_hideAll _ e), Nat.le_of_eq (hideAll_size _ _)⟩
    (fun p hp => ⟨hk₁ _ _ (N p hp).1, Nat.ne_of_lt (Heap.lt_size (N p hp).1), hideAll_none _ (List.mem_map_of_mem hp)⟩) BG (X₀.keeps st) (T.keeps st) ?_) (fun fl s' hl => ?_) fun _ _ y => y
  · rw [efs]
    intro b hb
    obtain rfl : b = L := by simpa using hb
    obtain ⟨o, es, n, ho', hd', _⟩ := FG.ns
    exact ⟨o, es, n, ho', hd'⟩
  · obtain ⟨g', L', m', news', TT, F', N', k⟩ := hl
    rw [efs] at TT
    have nL : h₀.get? L = none := kts_self F
    obtain ⟨oL, es, ep, hL, hLd, hLk, hLf⟩ := FG.ns
    obtain ⟨sl, hs⟩ := TT.up hL
    have keepAt : ∀ b o, h₀.get? b = some o → g'.get? b = some o := fun b o e => TT.other b o (st b o e) (fun q => by
      have e2 : b = L := by simpa using q
      rw [e2, nL] at e; cases e)
    refine k ⟨⟨_, es, ep, F'.keep _ _ hs, hLd, hLk, hLf⟩, fun b o e => F'.keep b o (keepAt b o e), F.above⟩ fun p hp => ⟨(N' p hp).1, fun q => ?_, ?_⟩
    · have := (N' p hp).2.2; rw [q, hs] at this; cases this
    · cases q : h₀.get? p.1 with
      | none => rfl
      | some o => have := (N' p hp).2.2; rw [keepAt _ _ q] at this; cases this
end
end P_R5
section P_M11
local macro_rules | `(tactic| k_room) => `(tactic| ((try simp only [depth_under_make, depth_under_kw, depth_in1, depth_deeper, depth_caller, recursionLimit]); omega))
local macro_rules | `(tactic| k_all) => `(tactic| (intro p hp; exact Nat.ne_of_lt ((by assumption : ∀ p ∈ _, p.1 < _) p hp)))
local macro_rules | `(tactic| k_units) => `(tactic| ((try simp only [units_in1, units_deeper, Around.mark_units, units_caller, cLine]); omega))
local macro_rules | `(tactic| mul_fits) => `(tactic| exact mulOk_of (by first | assumption | exact Sm.of_res (by assumption) (by assumption) (by assumption)) (by first | assumption | exact Sm.of_res (by assumption) (by assumption) (by assumption)))
variable {prog : Program} {w : World} {A₀ : Around} {s : Shared} {d u : Nat} {gs : Option (List Code)} {env : Env} {outer : List Env} {base h₀ : Heap} {L : Addr} {m mg mb : Str → Option Value} {p : Program} {loose : List Str} {mean : ExcName → Option Value} {news : List (Addr × Obj)} {R : Result → Shared → Prop} {Q : Value → Shared → Prop} {E : Value → Shared → Prop}
local macro_rules | `(tactic| k_steps) => `(tactic| repeat' (first | (k_unfold; (try dsimp only)) | (dsimp only; k_unfold; (try dsimp only)) | walk1 | (dsimp only; walk1) | (leave1; walk_say "STEP leave1"; try dsimp only) | fail "no step"))
local macro_rules | `(tactic| walk_at "binaryOp Add int ref") => `(tactic| (k_here; (with_reducible show wpAny _ _ (binaryOp Operator.Add (Value.int _ _) (Value.ref _)) _ _ _); k_dflt (refine' int_binR ?F ?X ?I ?hc ?hs ?hr ?hf ?hu PySem.F.fills_int_add PySem.F.slot_int_add PySem.F.entry_int_add (PySem.F.args_int_add_2 _ _) (int_add_inst _ _ _ _ _) ?_; (case F => k_asm); (case X => k_asm); (case I => k_inst); (case hc => k_is); (case hs => k_is); (case hr => k_is); (case hf => k_is); (case hu => k_is); k_whole)))
local macro_rules | `(tactic| walk_at "binaryOp Sub int ref") => `(tactic| (k_here; (with_reducible show wpAny _ _ (binaryOp Operator.Sub (Value.int _ _) (Value.ref _)) _ _ _); k_dflt (refine' int_binR ?F ?X ?I ?hc ?hs ?hr ?hf ?hu PySem.F.fills_int_sub PySem.F.slot_int_sub PySem.F.entry_int_sub (PySem.F.args_int_sub_2 _ _) (int_sub_inst _ _ _ _ _) ?_; (case F => k_asm); (case X => k_asm); (case I => k_inst); (case hc => k_is); (case hs => k_is); (case hr => k_is); (case hf => k_is); (case hu => k_is); k_whole)))
local macro_rules | `(tactic| walk_at "binaryOp Mult int ref") => `(tactic| (k_here; (with_reducible show wpAny _ _ (binaryOp Operator.Mult (Value.int _ _) (Value.ref _)) _ _ _); k_dflt (refine' int_binR ?F ?X ?I ?hc ?hs ?hr ?hf ?hu PySem.F.fills_int_mul PySem.F.slot_int_mul PySem.F.entry_int_mul (PySem.F.args_int_mul_2 _ _) (int_mul_inst _ _ _ _ _) ?_; (case F => k_asm); (case X => k_asm); (case I => k_inst); (case hc => k_is); (case hs => k_is); (case hr => k_is); (case hf => k_is); (case hu => k_is); k_whole)))
local macro_rules | `(tactic| walk_at "binaryOp Div int ref") => `(tactic| (k_here; (with_reducible show wpAny _ _ (binaryOp Operator.Div (Value.int _ _) (Value.ref _)) _ _ _); k_dflt (refine' int_binR ?F ?X ?I ?hc ?hs ?hr ?hf ?hu PySem.F.fills_int_truediv PySem.F.slot_int_truediv PySem.F.entry_int_truediv (PySem.F.args_int_truediv_2 _ _) (int_div_inst _ _ _ _ _) ?_; (case F => k_asm); (case X => k_asm); (case I => k_inst); (case hc => k_is); (case hs => k_is); (case hr => k_is); (case hf => k_is); (case hu => k_is); k_whole)))
local macro_rules | `(tactic| walk_at "call builtin:pow") => `(tactic| (k_here; (with_reducible show wpAny _ _ (call (Value.builtin "pow") [Value.int _ _, Value.int _ _, Value.int _ _]) _ _ _); refine pow3 (by first | assumption | omega) (by first | assumption | exact (fm_4096 _).1 | omega) ?_))
local macro_rules | `(tactic| walk_at "call type:int") => `(tactic| (k_here; (with_reducible show wpAny _ _ (call (Value.type "int") [Value.ref _]) _ _ _); k_dflt (refine' call_int_inst ?F ?X ?I ?hs ?hf ?_; (case F => k_asm); (case X => k_asm); (case I => k_inst); (case hs => k_is); (case hf => k_is); k_whole)))
local macro_rules | `(tactic| walk_at "formatField type:str") => `(tactic| (k_here; (refine field_str (by simp only [units_in1, units_deeper, Around.mark_units, units_caller, cLine]; omega) ?_); intro tk'))
local macro_rules | `(tactic| walk_at "formatField ref") => `(tactic| (k_here; k_dflt (refine' field_cls ?hu ?F ?X ?ho ?hc ?hd ?hn ?hb ?hz ?_; (case hu => (simp only [units_in1, units_deeper, Around.mark_units, units_caller, cLine]; omega)); (case F => k_asm); (case X => k_asm); (case ho => k_is); (case hc => exact rfl); (case hd => exact rfl); (case hn => k_is); (case hb => decide +kernel); (case hz => decide +kernel); k_whole); intro tk'))
local macro_rules | `(tactic| walk_at "binaryOp Add ref ref") => `(tactic| (k_here; (with_reducible show wpAny _ _ (binaryOp Operator.Add (Value.ref _) (Value.ref _)) _ _ _); k_dflt (refine' binop2_K ?F ?X ?I ?hb ?hne ?hc ?hc2 ?hs ?hf ?hr ?hp ?hs2 ?hr2 ?hp2 ?hu ?_; (case F => k_asm); (case X => k_asm); (case I => k_inst); (case hb => k_typeOf); (case hne => decide); (case hc => k_is); (case hc2 => k_is); (case hs => k_is); (case hf => k_is); (case hr => k_is); (case hp => first | exact .inl rfl | exact .inr ⟨_, rfl⟩); (case hs2 => k_is); (case hr2 => k_is); (case hp2 => first | exact .inl rfl | exact .inr ⟨_, rfl⟩); (case hu => k_is); k_whole)))

set_option maxHeartbeats 4000000 in
theorem refused_PS {md n : Int} {y dy : Addr} {a1 a2 a3 a4 : Tok} {t : Tok} (B : Below A₀ base [] h₀) (F : Fr h₀ L s.heap m) (X : (Mine.hd.heap_1 w.params).In h₀) (N : News h₀ L s.heap news) (T : Top p loose mean mg mb h₀) (XB : (Mine.hd.heap_1 w.params).In base) (TB : Top p loose mean mg mb base) (hf : env.frame = some L) (hke : env.scope.kind = .function) (hdp : d ≤ 900) (hun : u ≤ 9000) (hx : (y, instObj 333 dy) ∈ news) (hdx : (dy, FQD w.params a1 a2 a3 a4 md n) ∈ news)
    (h : ∀ h' tk, Fr h₀ L h' m → News h₀ L h' news → R (.ok (.ret (.bool true))) { s with heap := h', toks := tk }) :
    codeAny (model prog w) ⟨none, d, some [env], gs, u⟩ (.call (.ref 365) ⟨[.ref y, .str (Str.ofString "1") t], []⟩) R s := by
  replace N := news_show2 N (by repeat (first | exact sub_refl | apply sub_tail)) hx hdx
  (refine' code_defR (binds := [("here", .ref y), ("there", .str (Str.ofString "1") t)]) ?k1 ?k2 ?k3 ?k4 ?k5 ?kA ?kF ?kK ?k6 ?k7 ?k8 ?k9 ?kB ?_ ?c2 ?c3 ?c4 ?c5; (case kA => exact rfl); (case kF => exact hf); (case kK => exact hke); (case k1 => k_asm); (case k2 => k_asm); (case k3 => exact X); (case k4 => k_asm); (case k5 => exact T); (case k6 => k_is); (case k7 => k_is); (case k8 => k_room); (case k9 => exact BindsTo.of_eq rfl); (case c5 => decide); (case kB => exact locs rfl); (case c2 => exact rfl); (case c3 => exact rfl); (case c4 => exact rfl); k_whole; intro g' L' h' FG' F' N' B' X' T' D')
  clear B X T
  k_fold
  k_steps
  exact ⟨_, _, _, _, (by assumption), (by k_asm), (by k_asm), fun kF kN => h _ _ kF (news_sub kN (by repeat (first | exact sub_refl | apply sub_tail)))⟩

set_option maxHeartbeats 4000000 in
theorem refused_OS {md n : Int} {y dy : Addr} {a1 a2 a3 a4 : Tok} {t : Tok} (B : Below A₀ base [] h₀) (F : Fr h₀ L s.heap m) (X : (Mine.hd.heap_1 w.params).In h₀) (N : News h₀ L s.heap news) (T : Top p loose mean mg mb h₀) (XB : (Mine.hd.heap_1 w.params).In base) (TB : Top p loose mean mg mb base) (hf : env.frame = some L) (hke : env.scope.kind = .function) (hdp : d ≤ 900) (hun : u ≤ 9000) (hx : (y, instObj 186 dy) ∈ news) (hdx : (dy, FQD w.params a1 a2 a3 a4 md n) ∈ news)
    (h : ∀ h' tk, Fr h₀ L h' m → News h₀ L h' news → R (.ok (.ret (.bool true))) { s with heap := h', toks := tk }) :
    codeAny (model prog w) ⟨none, d, some [env], gs, u⟩ (.call (.ref 365) ⟨[.ref y, .str (Str.ofString "1") t], []⟩) R s := by
  replace N := news_show2 N (by repeat (first | exact sub_refl | apply sub_tail)) hx hdx
  (refine' code_defR (binds := [("here", .ref y), ("there", .str (Str.ofString "1") t)]) ?k1 ?k2 ?k3 ?k4 ?k5 ?kA ?kF ?kK ?k6 ?k7 ?k8 ?k9 ?kB ?_ ?c2 ?c3 ?c4 ?c5; (case kA => exact rfl); (case kF => exact hf); (case kK => exact hke); (case k1 => k_asm); (case k2 => k_asm); (case k3 => exact X); (case k4 => k_asm); (case k5 => exact T); (case k6 => k_is); (case k7 => k_is); (case k8 => k_room); (case k9 => exact BindsTo.of_eq rfl); (case c5 => decide); (case kB => exact locs rfl); (case c2 => exact rfl); (case c3 => exact rfl); (case c4 => exact rfl); k_whole; intro g' L' h' FG' F' N' B' X' T' D')
  clear B X T
  k_fold
  k_steps
  exact ⟨_, _, _, _, (by assumption), (by k_asm), (by k_asm), fun kF kN => h _ _ kF (news_sub kN (by repeat (first | exact sub_refl | apply sub_tail)))⟩
end P_M11
section P_M12
local macro_rules | `(tactic| k_room) => `(tactic| ((try simp only [depth_under_make, depth_under_kw, depth_in1, depth_deeper, depth_caller, recursionLimit]); omega))
local macro_rules | `(tactic| k_all) => `(tactic| (intro p hp; exact Nat.ne_of_lt ((by assumption : ∀ p ∈ _, p.1 < _) p hp)))
local macro_rules | `(tactic| k_units) => `(tactic| ((try simp only [units_in1, units_deeper, Around.mark_units, units_caller, cLine]); omega))
local macro_rules | `(tactic| mul_fits) => `(tactic| exact mulOk_of (by first | assumption | exact Sm.of_res (by assumption) (by assumption) (by assumption)) (by first | assumption | exact Sm.of_res (by assumption) (by assumption) (by assumption)))
variable {prog : Program} {w : World} {A₀ : Around} {s : Shared} {d u : Nat} {gs : Option (List Code)} {env : Env} {outer : List Env} {base h₀ : Heap} {L : Addr} {m mg mb : Str → Option Value} {p : Program} {loose : List Str} {mean : ExcName → Option Value} {news : List (Addr × Obj)} {R : Result → Shared → Prop} {Q : Value → Shared → Prop} {E : Value → Shared → Prop}
local macro_rules | `(tactic| k_steps) => `(tactic| repeat' (first | (k_unfold; (try dsimp only)) | (dsimp only; k_unfold; (try dsimp only)) | walk1 | (dsimp only; walk1) | (leave1; walk_say "STEP leave1"; try dsimp only) | fail "no step"))
local macro_rules | `(tactic| walk_at "binaryOp Add int ref") => `(tactic| (k_here; (with_reducible show wpAny _ _ (binaryOp Operator.Add (Value.int _ _) (Value.ref _)) _ _ _); k_dflt (refine' int_binR ?F ?X ?I ?hc ?hs ?hr ?hf ?hu PySem.F.fills_int_add PySem.F.slot_int_add PySem.F.entry_int_add (PySem.F.args_int_add_2 _ _) (int_add_inst _ _ _ _ _) ?_; (case F => k_asm); (case X => k_asm); (case I => k_inst); (case hc => k_is); (case hs => k_is); (case hr => k_is); (case hf => k_is); (case hu => k_is); k_whole)))
local macro_rules | `(tactic| walk_at "binaryOp Sub int ref") => `(tactic| (k_here; (with_reducible show wpAny _ _ (binaryOp Operator.Sub (Value.int _ _) (Value.ref _)) _ _ _); k_dflt (refine' int_binR ?F ?X ?I ?hc ?hs ?hr ?hf ?hu PySem.F.fills_int_sub PySem.F.slot_int_sub PySem.F.entry_int_sub (PySem.F.args_int_sub_2 _ _) (int_sub_inst _ _ _ _ _) ?_; (case F => k_asm); (case X => k_asm); (case I => k_inst); (case hc => k_is); (case hs => k_is); (case hr => k_is); (case hf => k_is); (case hu => k_is); k_whole)))
local macro_rules | `(tactic| walk_at "binaryOp Mult int ref") => `(tactic| (k_here; (with_reducible show wpAny _ _ (binaryOp Operator.Mult (Value.int _ _) (Value.ref _)) _ _ _); k_dflt (refine' int_binR ?F ?X ?I ?hc ?hs ?hr ?hf ?hu PySem.F.fills_int_mul PySem.F.slot_int_mul PySem.F.entry_int_mul (PySem.F.args_int_mul_2 _ _) (int_mul_inst _ _ _ _ _) ?_; (case F => k_asm); (case X => k_asm); (case I => k_inst); (case hc => k_is); (case hs => k_is); (case hr => k_is); (case hf => k_is); (case hu => k_is); k_whole)))
local macro_rules | `(tactic| walk_at "binaryOp Div int ref") => `(tactic| (k_here; (with_reducible show wpAny _ _ (binaryOp Operator.Div (Value.int _ _) (Value.ref _)) _ _ _); k_dflt (refine' int_binR ?F ?X ?I ?hc ?hs ?hr ?hf ?hu PySem.F.fills_int_truediv PySem.F.slot_int_truediv PySem.F.entry_int_truediv (PySem.F.args_int_truediv_2 _ _) (int_div_inst _ _ _ _ _) ?_; (case F => k_asm); (case X => k_asm); (case I => k_inst); (case hc => k_is); (case hs => k_is); (case hr => k_is); (case hf => k_is); (case hu => k_is); k_whole)))
local macro_rules | `(tactic| walk_at "call builtin:pow") => `(tactic| (k_here; (with_reducible show wpAny _ _ (call (Value.builtin "pow") [Value.int _ _, Value.int _ _, Value.int _ _]) _ _ _); refine pow3 (by first | assumption | omega) (by first | assumption | exact (fm_4096 _).1 | omega) ?_))
local macro_rules | `(tactic| walk_at "call type:int") => `(tactic| (k_here; (with_reducible show wpAny _ _ (call (Value.type "int") [Value.ref _]) _ _ _); k_dflt (refine' call_int_inst ?F ?X ?I ?hs ?hf ?_; (case F => k_asm); (case X => k_asm); (case I => k_inst); (case hs => k_is); (case hf => k_is); k_whole)))
local macro_rules | `(tactic| walk_at "formatField type:str") => `(tactic| (k_here; (refine field_str (by simp only [units_in1, units_deeper, Around.mark_units, units_caller, cLine]; omega) ?_); intro tk'))
local macro_rules | `(tactic| walk_at "formatField ref") => `(tactic| (k_here; k_dflt (refine' field_cls ?hu ?F ?X ?ho ?hc ?hd ?hn ?hb ?hz ?_; (case hu => (simp only [units_in1, units_deeper, Around.mark_units, units_caller, cLine]; omega)); (case F => k_asm); (case X => k_asm); (case ho => k_is); (case hc => exact rfl); (case hd => exact rfl); (case hn => k_is); (case hb => decide +kernel); (case hz => decide +kernel); k_whole); intro tk'))
local macro_rules | `(tactic| walk_at "binaryOp Add ref ref") => `(tactic| (k_here; (with_reducible show wpAny _ _ (binaryOp Operator.Add (Value.ref _) (Value.ref _)) _ _ _); k_dflt (refine' binop2_K ?F ?X ?I ?hb ?hne ?hc ?hc2 ?hs ?hf ?hr ?hp ?hs2 ?hr2 ?hp2 ?hu ?_; (case F => k_asm); (case X => k_asm); (case I => k_inst); (case hb => k_typeOf); (case hne => decide); (case hc => k_is); (case hc2 => k_is); (case hs => k_is); (case hf => k_is); (case hr => k_is); (case hp => first | exact .inl rfl | exact .inr ⟨_, rfl⟩); (case hs2 => k_is); (case hr2 => k_is); (case hp2 => first | exact .inl rfl | exact .inr ⟨_, rfl⟩); (case hu => k_is); k_whole)))

set_option maxHeartbeats 4000000 in
theorem refused_PR {md n : Int} {y dy : Addr} {a1 a2 a3 a4 : Tok}{z dz : Addr} {a12 a22 a32 a42 : Tok} {k : Int} (B : Below A₀ base [] h₀) (F : Fr h₀ L s.heap m) (X : (Mine.hd.heap_1 w.params).In h₀) (N : News h₀ L s.heap news) (T : Top p loose mean mg mb h₀) (XB : (Mine.hd.heap_1 w.params).In base) (TB : Top p loose mean mg mb base) (hf : env.frame = some L) (hke : env.scope.kind = .function) (hdp : d ≤ 900) (hun : u ≤ 9000) (hx : (y, instObj 333 dy) ∈ news) (hdx : (dy, FQD w.params a1 a2 a3 a4 md n) ∈ news)(hx2 : (z, instObj 186 dz) ∈ news) (hdx2 : (dz, FQD w.params a12 a22 a32 a42 md k) ∈ news)
    (h : ∀ h' tk, Fr h₀ L h' m → News h₀ L h' news → R (.ok (.ret (.bool true))) { s with heap := h', toks := tk }) :
    codeAny (model prog w) ⟨none, d, some [env], gs, u⟩ (.call (.ref 365) ⟨[.ref y, .ref z], []⟩) R s := by
  replace N := news_show2 N (by repeat (first | exact sub_refl | apply sub_tail)) hx hdx
  replace N := news_show2 N (by repeat (first | exact sub_refl | apply sub_tail)) hx2 hdx2
  (refine' code_defR (binds := [("here", .ref y), ("there", .ref z)]) ?k1 ?k2 ?k3 ?k4 ?k5 ?kA ?kF ?kK ?k6 ?k7 ?k8 ?k9 ?kB ?_ ?c2 ?c3 ?c4 ?c5; (case kA => exact rfl); (case kF => exact hf); (case kK => exact hke); (case k1 => k_asm); (case k2 => k_asm); (case k3 => exact X); (case k4 => k_asm); (case k5 => exact T); (case k6 => k_is); (case k7 => k_is); (case k8 => k_room); (case k9 => exact BindsTo.of_eq rfl); (case c5 => decide); (case kB => exact locs rfl); (case c2 => exact rfl); (case c3 => exact rfl); (case c4 => exact rfl); k_whole; intro g' L' h' FG' F' N' B' X' T' D')
  clear B X T
  k_fold
  k_steps
  exact ⟨_, _, _, _, (by assumption), (by k_asm), (by k_asm), fun kF kN => h _ _ kF (news_sub kN (by repeat (first | exact sub_refl | apply sub_tail)))⟩

set_option maxHeartbeats 4000000 in
theorem refused_OR {md n : Int} {y dy : Addr} {a1 a2 a3 a4 : Tok}{z dz : Addr} {a12 a22 a32 a42 : Tok} {k : Int} (B : Below A₀ base [] h₀) (F : Fr h₀ L s.heap m) (X : (Mine.hd.heap_1 w.params).In h₀) (N : News h₀ L s.heap news) (T : Top p loose mean mg mb h₀) (XB : (Mine.hd.heap_1 w.params).In base) (TB : Top p loose mean mg mb base) (hf : env.frame = some L) (hke : env.scope.kind = .function) (hdp : d ≤ 900) (hun : u ≤ 9000) (hx : (y, instObj 186 dy) ∈ news) (hdx : (dy, FQD w.params a1 a2 a3 a4 md n) ∈ news)(hx2 : (z, instObj 333 dz) ∈ news) (hdx2 : (dz, FQD w.params a12 a22 a32 a42 md k) ∈ news)
    (h : ∀ h' tk, Fr h₀ L h' m → News h₀ L h' news → R (.ok (.ret (.bool true))) { s with heap := h', toks := tk }) :
    codeAny (model prog w) ⟨none, d, some [env], gs, u⟩ (.call (.ref 365) ⟨[.ref y, .ref z], []⟩) R s := by
  replace N := news_show2 N (by repeat (first | exact sub_refl | apply sub_tail)) hx hdx
  replace N := news_show2 N (by repeat (first | exact sub_refl | apply sub_tail)) hx2 hdx2
  (refine' code_defR (binds := [("here", .ref y), ("there", .ref z)]) ?k1 ?k2 ?k3 ?k4 ?k5 ?kA ?kF ?kK ?k6 ?k7 ?k8 ?k9 ?kB ?_ ?c2 ?c3 ?c4 ?c5; (case kA => exact rfl); (case kF => exact hf); (case kK => exact hke); (case k1 => k_asm); (case k2 => k_asm); (case k3 => exact X); (case k4 => k_asm); (case k5 => exact T); (case k6 => k_is); (case k7 => k_is); (case k8 => k_room); (case k9 => exact BindsTo.of_eq rfl); (case c5 => decide); (case kB => exact locs rfl); (case c2 => exact rfl); (case c3 => exact rfl); (case c4 => exact rfl); k_whole; intro g' L' h' FG' F' N' B' X' T' D')
  clear B X T
  k_fold
  k_steps
  exact ⟨_, _, _, _, (by assumption), (by k_asm), (by k_asm), fun kF kN => h _ _ kF (news_sub kN (by repeat (first | exact sub_refl | apply sub_tail)))⟩
end P_M12
section P_S6
local macro_rules | `(tactic| k_room) => `(tactic| ((try simp only [depth_under_make, depth_under_kw, depth_in1, depth_deeper, depth_caller, recursionLimit]); omega))
local macro_rules | `(tactic| k_all) => `(tactic| (intro p hp; exact Nat.ne_of_lt ((by assumption : ∀ p ∈ _, p.1 < _) p hp)))
local macro_rules | `(tactic| k_units) => `(tactic| ((try simp only [units_in1, units_deeper, Around.mark_units, units_caller, cLine]); omega))
local macro_rules | `(tactic| mul_fits) => `(tactic| exact mulOk_of (by first | assumption | exact Sm.of_res (by assumption) (by assumption) (by assumption)) (by first | assumption | exact Sm.of_res (by assumption) (by assumption) (by assumption)))
variable {prog : Program} {w : World} {A₀ : Around} {s : Shared} {d u : Nat} {gs : Option (List Code)} {env : Env} {outer : List Env} {base h₀ : Heap} {L : Addr} {m mg mb : Str → Option Value} {p : Program} {loose : List Str} {mean : ExcName → Option Value} {news : List (Addr × Obj)} {R : Result → Shared → Prop} {Q : Value → Shared → Prop} {E : Value → Shared → Prop}
local macro_rules | `(tactic| k_steps) => `(tactic| repeat' (first | (k_unfold; (try dsimp only)) | (dsimp only; k_unfold; (try dsimp only)) | walk1 | (dsimp only; walk1) | (leave1; walk_say "STEP leave1"; try dsimp only) | fail "no step"))
local macro_rules | `(tactic| walk_at "eval Name") => `(tactic| (k_here; k_dflt (refine' nameX_L ?F ?v ?_ ?a ?b; (case F => k_asm); (case a => rfl); (case b => rfl); (case v => assumption); k_whole)))
local macro_rules | `(tactic| k_steps) => `(tactic| repeat' (first | (k_unfold; (try dsimp only)) | (dsimp only; k_unfold; (try dsimp only)) | (walk1; (try dsimp only)) | (dsimp only; walk1) | (leave1; walk_say "STEP leave1"; try dsimp only) | fail "no step"))
local macro_rules | `(tactic| walk_at "subscriptTail") => `(tactic| (k_here; (with_reducible show wpAny _ _ (subscriptTail _ _ (Value.ref _) (Value.int _ _)) _ _ _); k_dflt (refine' item_litK ?k1 ?k2 ?k3 ?k4 ?_ ?k6; (case k1 => exact News.isList (by k_asm) (by k_mem)); (case k2 => decide); (case k3 => decide); (case k4 => rfl); (case k6 => with_unfolding_all rfl); k_whole)))
local macro_rules | `(tactic| k_enter) => `(tactic| ((with_reducible show codeAny _ _ (Code.call (Value.ref 274) _) _ _); k_dflt (refine' eq_r_P ?B ?F ?X ?N ?T ?hf ?hk ?hd ?hx ?hdx ?hx2 ?hdx2 ?_; (case B => k_asm); (case F => k_asm); (case X => k_asm); (case N => k_asm); (case T => k_asm); (case hf => first | exact rfl | assumption); (case hk => first | exact rfl | assumption); (case hd => k_room); (case hx => first | k_mem | k_asm | exact Sm.of_res (by assumption) (fm_lo (by assumption) _) (fm_hi (by assumption) _) | exact Sm.of_res (by assumption) (by assumption) (by assumption)); (case hdx => first | k_mem | k_asm | exact Sm.of_res (by assumption) (fm_lo (by assumption) _) (fm_hi (by assumption) _) | exact Sm.of_res (by assumption) (by assumption) (by assumption)); (case hx2 => first | k_mem | k_asm | exact Sm.of_res (by assumption) (fm_lo (by assumption) _) (fm_hi (by assumption) _) | exact Sm.of_res (by assumption) (by assumption) (by assumption)); (case hdx2 => first | k_mem | k_asm | exact Sm.of_res (by assumption) (fm_lo (by assumption) _) (fm_hi (by assumption) _) | exact Sm.of_res (by assumption) (by assumption) (by assumption)); k_whole); intro h' tk' F' N'; (try k_sweep); (try dsimp only [PySem.W.CmpBack, PySem.W.InitBack, PySem.W.LenBack, PySem.W.StrBack, PySem.W.BoolBack])))
local macro_rules | `(tactic| k_enter) => `(tactic| ((with_reducible show codeAny _ _ (Code.call (Value.ref 274) _) _ _); k_dflt (refine' eq_i_P ?B ?F ?X ?N ?T ?hf ?hk ?hd ?hx ?hdx ?_; (case B => k_asm); (case F => k_asm); (case X => k_asm); (case N => k_asm); (case T => k_asm); (case hf => first | exact rfl | assumption); (case hk => first | exact rfl | assumption); (case hd => k_room); (case hx => first | k_mem | k_asm | exact Sm.of_res (by assumption) (fm_lo (by assumption) _) (fm_hi (by assumption) _) | exact Sm.of_res (by assumption) (by assumption) (by assumption)); (case hdx => first | k_mem | k_asm | exact Sm.of_res (by assumption) (fm_lo (by assumption) _) (fm_hi (by assumption) _) | exact Sm.of_res (by assumption) (by assumption) (by assumption)); k_whole); intro h' tk' F' N'; (try k_sweep); (try dsimp only [PySem.W.CmpBack, PySem.W.InitBack, PySem.W.LenBack, PySem.W.StrBack, PySem.W.BoolBack])))
local macro_rules | `(tactic| k_enter) => `(tactic| ((with_reducible show codeAny _ _ (Code.call (Value.ref 309) _) _ _); k_dflt (refine' lt_r_P ?B ?F ?X ?N ?T ?hf ?hk ?hd ?hx ?hdx ?hx2 ?hdx2 ?_; (case B => k_asm); (case F => k_asm); (case X => k_asm); (case N => k_asm); (case T => k_asm); (case hf => first | exact rfl | assumption); (case hk => first | exact rfl | assumption); (case hd => k_room); (case hx => first | k_mem | k_asm | exact Sm.of_res (by assumption) (fm_lo (by assumption) _) (fm_hi (by assumption) _) | exact Sm.of_res (by assumption) (by assumption) (by assumption)); (case hdx => first | k_mem | k_asm | exact Sm.of_res (by assumption) (fm_lo (by assumption) _) (fm_hi (by assumption) _) | exact Sm.of_res (by assumption) (by assumption) (by assumption)); (case hx2 => first | k_mem | k_asm | exact Sm.of_res (by assumption) (fm_lo (by assumption) _) (fm_hi (by assumption) _) | exact Sm.of_res (by assumption) (by assumption) (by assumption)); (case hdx2 => first | k_mem | k_asm | exact Sm.of_res (by assumption) (fm_lo (by assumption) _) (fm_hi (by assumption) _) | exact Sm.of_res (by assumption) (by assumption) (by assumption)); k_whole); intro h' tk' F' N'; (try k_sweep); (try dsimp only [PySem.W.CmpBack, PySem.W.InitBack, PySem.W.LenBack, PySem.W.StrBack, PySem.W.BoolBack])))
local macro_rules | `(tactic| k_enter) => `(tactic| ((with_reducible show codeAny _ _ (Code.call (Value.ref 302) _) _ _); k_dflt (refine' int_P ?B ?F ?X ?N ?T ?hf ?hk ?hd ?hx ?hdx ?_; (case B => k_asm); (case F => k_asm); (case X => k_asm); (case N => k_asm); (case T => k_asm); (case hf => first | exact rfl | assumption); (case hk => first | exact rfl | assumption); (case hd => k_room); (case hx => first | k_mem | k_asm | exact Sm.of_res (by assumption) (fm_lo (by assumption) _) (fm_hi (by assumption) _) | exact Sm.of_res (by assumption) (by assumption) (by assumption)); (case hdx => first | k_mem | k_asm | exact Sm.of_res (by assumption) (fm_lo (by assumption) _) (fm_hi (by assumption) _) | exact Sm.of_res (by assumption) (by assumption) (by assumption)); k_whole); intro h' tk' F' N'; (try k_sweep); (try dsimp only [PySem.W.CmpBack, PySem.W.InitBack, PySem.W.LenBack, PySem.W.StrBack, PySem.W.BoolBack])))
local macro_rules | `(tactic| k_enter) => `(tactic| ((with_reducible show codeAny _ _ (Code.call (Value.ref 119) _) _ _); k_dflt (refine' eq_r_O ?B ?F ?X ?N ?T ?hf ?hk ?hd ?hx ?hdx ?hx2 ?hdx2 ?_; (case B => k_asm); (case F => k_asm); (case X => k_asm); (case N => k_asm); (case T => k_asm); (case hf => first | exact rfl | assumption); (case hk => first | exact rfl | assumption); (case hd => k_room); (case hx => first | k_mem | k_asm | exact Sm.of_res (by assumption) (fm_lo (by assumption) _) (fm_hi (by assumption) _) | exact Sm.of_res (by assumption) (by assumption) (by assumption)); (case hdx => first | k_mem | k_asm | exact Sm.of_res (by assumption) (fm_lo (by assumption) _) (fm_hi (by assumption) _) | exact Sm.of_res (by assumption) (by assumption) (by assumption)); (case hx2 => first | k_mem | k_asm | exact Sm.of_res (by assumption) (fm_lo (by assumption) _) (fm_hi (by assumption) _) | exact Sm.of_res (by assumption) (by assumption) (by assumption)); (case hdx2 => first | k_mem | k_asm | exact Sm.of_res (by assumption) (fm_lo (by assumption) _) (fm_hi (by assumption) _) | exact Sm.of_res (by assumption) (by assumption) (by assumption)); k_whole); intro h' tk' F' N'; (try k_sweep); (try dsimp only [PySem.W.CmpBack, PySem.W.InitBack, PySem.W.LenBack, PySem.W.StrBack, PySem.W.BoolBack])))
local macro_rules | `(tactic| k_enter) => `(tactic| ((with_reducible show codeAny _ _ (Code.call (Value.ref 119) _) _ _); k_dflt (refine' eq_i_O ?B ?F ?X ?N ?T ?hf ?hk ?hd ?hx ?hdx ?_; (case B => k_asm); (case F => k_asm); (case X => k_asm); (case N => k_asm); (case T => k_asm); (case hf => first | exact rfl | assumption); (case hk => first | exact rfl | assumption); (case hd => k_room); (case hx => first | k_mem | k_asm | exact Sm.of_res (by assumption) (fm_lo (by assumption) _) (fm_hi (by assumption) _) | exact Sm.of_res (by assumption) (by assumption) (by assumption)); (case hdx => first | k_mem | k_asm | exact Sm.of_res (by assumption) (fm_lo (by assumption) _) (fm_hi (by assumption) _) | exact Sm.of_res (by assumption) (by assumption) (by assumption)); k_whole); intro h' tk' F' N'; (try k_sweep); (try dsimp only [PySem.W.CmpBack, PySem.W.InitBack, PySem.W.LenBack, PySem.W.StrBack, PySem.W.BoolBack])))
local macro_rules | `(tactic| k_enter) => `(tactic| ((with_reducible show codeAny _ _ (Code.call (Value.ref 154) _) _ _); k_dflt (refine' lt_r_O ?B ?F ?X ?N ?T ?hf ?hk ?hd ?hx ?hdx ?hx2 ?hdx2 ?_; (case B => k_asm); (case F => k_asm); (case X => k_asm); (case N => k_asm); (case T => k_asm); (case hf => first | exact rfl | assumption); (case hk => first | exact rfl | assumption); (case hd => k_room); (case hx => first | k_mem | k_asm | exact Sm.of_res (by assumption) (fm_lo (by assumption) _) (fm_hi (by assumption) _) | exact Sm.of_res (by assumption) (by assumption) (by assumption)); (case hdx => first | k_mem | k_asm | exact Sm.of_res (by assumption) (fm_lo (by assumption) _) (fm_hi (by assumption) _) | exact Sm.of_res (by assumption) (by assumption) (by assumption)); (case hx2 => first | k_mem | k_asm | exact Sm.of_res (by assumption) (fm_lo (by assumption) _) (fm_hi (by assumption) _) | exact Sm.of_res (by assumption) (by assumption) (by assumption)); (case hdx2 => first | k_mem | k_asm | exact Sm.of_res (by assumption) (fm_lo (by assumption) _) (fm_hi (by assumption) _) | exact Sm.of_res (by assumption) (by assumption) (by assumption)); k_whole); intro h' tk' F' N'; (try k_sweep); (try dsimp only [PySem.W.CmpBack, PySem.W.InitBack, PySem.W.LenBack, PySem.W.StrBack, PySem.W.BoolBack])))
local macro_rules | `(tactic| k_enter) => `(tactic| ((with_reducible show codeAny _ _ (Code.call (Value.ref 147) _) _ _); k_dflt (refine' int_O ?B ?F ?X ?N ?T ?hf ?hk ?hd ?hx ?hdx ?_; (case B => k_asm); (case F => k_asm); (case X => k_asm); (case N => k_asm); (case T => k_asm); (case hf => first | exact rfl | assumption); (case hk => first | exact rfl | assumption); (case hd => k_room); (case hx => first | k_mem | k_asm | exact Sm.of_res (by assumption) (fm_lo (by assumption) _) (fm_hi (by assumption) _) | exact Sm.of_res (by assumption) (by assumption) (by assumption)); (case hdx => first | k_mem | k_asm | exact Sm.of_res (by assumption) (fm_lo (by assumption) _) (fm_hi (by assumption) _) | exact Sm.of_res (by assumption) (by assumption) (by assumption)); k_whole); intro h' tk' F' N'; (try k_sweep); (try dsimp only [PySem.W.CmpBack, PySem.W.InitBack, PySem.W.LenBack, PySem.W.StrBack, PySem.W.BoolBack])))
local macro_rules | `(tactic| k_enter) => `(tactic| ((with_reducible show codeAny _ _ (Code.call (Value.ref 281) _) _ _); k_dflt (refine' ne_r_P ?B ?F ?X ?N ?T ?hf ?hk ?hd ?hun ?hx ?hdx ?hx2 ?hdx2 ?_; (case B => k_asm); (case F => k_asm); (case X => k_asm); (case N => k_asm); (case T => k_asm); (case hf => first | exact rfl | assumption); (case hk => first | exact rfl | assumption); (case hd => k_room); (case hun => k_units); (case hx => first | k_mem | k_asm | exact Sm.of_res (by assumption) (fm_lo (by assumption) _) (fm_hi (by assumption) _) | exact Sm.of_res (by assumption) (by assumption) (by assumption)); (case hdx => first | k_mem | k_asm | exact Sm.of_res (by assumption) (fm_lo (by assumption) _) (fm_hi (by assumption) _) | exact Sm.of_res (by assumption) (by assumption) (by assumption)); (case hx2 => first | k_mem | k_asm | exact Sm.of_res (by assumption) (fm_lo (by assumption) _) (fm_hi (by assumption) _) | exact Sm.of_res (by assumption) (by assumption) (by assumption)); (case hdx2 => first | k_mem | k_asm | exact Sm.of_res (by assumption) (fm_lo (by assumption) _) (fm_hi (by assumption) _) | exact Sm.of_res (by assumption) (by assumption) (by assumption)); k_whole); intro h' tk' F' N'; (try k_sweep); (try dsimp only [PySem.W.CmpBack, PySem.W.InitBack, PySem.W.LenBack, PySem.W.StrBack, PySem.W.BoolBack])))
local macro_rules | `(tactic| k_enter) => `(tactic| ((with_reducible show codeAny _ _ (Code.call (Value.ref 126) _) _ _); k_dflt (refine' ne_r_O ?B ?F ?X ?N ?T ?hf ?hk ?hd ?hun ?hx ?hdx ?hx2 ?hdx2 ?_; (case B => k_asm); (case F => k_asm); (case X => k_asm); (case N => k_asm); (case T => k_asm); (case hf => first | exact rfl | assumption); (case hk => first | exact rfl | assumption); (case hd => k_room); (case hun => k_units); (case hx => first | k_mem | k_asm | exact Sm.of_res (by assumption) (fm_lo (by assumption) _) (fm_hi (by assumption) _) | exact Sm.of_res (by assumption) (by assumption) (by assumption)); (case hdx => first | k_mem | k_asm | exact Sm.of_res (by assumption) (fm_lo (by assumption) _) (fm_hi (by assumption) _) | exact Sm.of_res (by assumption) (by assumption) (by assumption)); (case hx2 => first | k_mem | k_asm | exact Sm.of_res (by assumption) (fm_lo (by assumption) _) (fm_hi (by assumption) _) | exact Sm.of_res (by assumption) (by assumption) (by assumption)); (case hdx2 => first | k_mem | k_asm | exact Sm.of_res (by assumption) (fm_lo (by assumption) _) (fm_hi (by assumption) _) | exact Sm.of_res (by assumption) (by assumption) (by assumption)); k_whole); intro h' tk' F' N'; (try k_sweep); (try dsimp only [PySem.W.CmpBack, PySem.W.InitBack, PySem.W.LenBack, PySem.W.StrBack, PySem.W.BoolBack])))
local macro_rules | `(tactic| k_enter) => `(tactic| ((with_reducible show codeAny _ _ (Code.call (Value.ref 365) (Args.mk [Value.ref _, Value.str _ _] _)) _ _); k_dflt (refine' refused_PS ?B ?F ?X ?N ?T ?XB ?TB ?hf ?hk ?hd ?hun ?hx ?hdx ?_; (case B => k_asm); (case F => k_asm); (case X => k_asm); (case N => k_asm); (case T => k_asm); (case XB => k_asm); (case TB => k_asm); (case hf => first | exact rfl | assumption); (case hk => first | exact rfl | assumption); (case hd => k_room); (case hun => k_units); (case hx => k_mem); (case hdx => k_mem); k_whole); intro h' tk' F' N'; (try k_sweep); (try dsimp only [PySem.W.CmpBack, PySem.W.InitBack, PySem.W.LenBack, PySem.W.StrBack, PySem.W.BoolBack])))
local macro_rules | `(tactic| k_enter) => `(tactic| ((with_reducible show codeAny _ _ (Code.call (Value.ref 365) (Args.mk [Value.ref _, Value.ref _] _)) _ _); k_dflt (refine' refused_PR ?B ?F ?X ?N ?T ?XB ?TB ?hf ?hk ?hd ?hun ?hx ?hdx ?hx2 ?hdx2 ?_; (case B => k_asm); (case F => k_asm); (case X => k_asm); (case N => k_asm); (case T => k_asm); (case XB => k_asm); (case TB => k_asm); (case hf => first | exact rfl | assumption); (case hk => first | exact rfl | assumption); (case hd => k_room); (case hun => k_units); (case hx => k_mem); (case hdx => k_mem); (case hx2 => k_mem); (case hdx2 => k_mem); k_whole); intro h' tk' F' N'; (try k_sweep); (try dsimp only [PySem.W.CmpBack, PySem.W.InitBack, PySem.W.LenBack, PySem.W.StrBack, PySem.W.BoolBack])))
local macro_rules | `(tactic| k_enter) => `(tactic| ((with_reducible show codeAny _ _ (Code.call (Value.ref 365) (Args.mk [Value.ref _, Value.str _ _] _)) _ _); k_dflt (refine' refused_OS ?B ?F ?X ?N ?T ?XB ?TB ?hf ?hk ?hd ?hun ?hx ?hdx ?_; (case B => k_asm); (case F => k_asm); (case X => k_asm); (case N => k_asm); (case T => k_asm); (case XB => k_asm); (case TB => k_asm); (case hf => first | exact rfl | assumption); (case hk => first | exact rfl | assumption); (case hd => k_room); (case hun => k_units); (case hx => k_mem); (case hdx => k_mem); k_whole); intro h' tk' F' N'; (try k_sweep); (try dsimp only [PySem.W.CmpBack, PySem.W.InitBack, PySem.W.LenBack, PySem.W.StrBack, PySem.W.BoolBack])))
local macro_rules | `(tactic| k_enter) => `(tactic| ((with_reducible show codeAny _ _ (Code.call (Value.ref 365) (Args.mk [Value.ref _, Value.ref _] _)) _ _); k_dflt (refine' refused_OR ?B ?F ?X ?N ?T ?XB ?TB ?hf ?hk ?hd ?hun ?hx ?hdx ?hx2 ?hdx2 ?_; (case B => k_asm); (case F => k_asm); (case X => k_asm); (case N => k_asm); (case T => k_asm); (case XB => k_asm); (case TB => k_asm); (case hf => first | exact rfl | assumption); (case hk => first | exact rfl | assumption); (case hd => k_room); (case hun => k_units); (case hx => k_mem); (case hdx => k_mem); (case hx2 => k_mem); (case hdx2 => k_mem); k_whole); intro h' tk' F' N'; (try k_sweep); (try dsimp only [PySem.W.CmpBack, PySem.W.InitBack, PySem.W.LenBack, PySem.W.StrBack, PySem.W.BoolBack])))

set_option maxHeartbeats 3000000 in
theorem stage6 {nm q : Str} {params : Arguments} {body : List Stmt} {scope : Scope} {dV kV doc pm cdv ct oc : Value} {an od : Option Addr} {osl : Array (Option Value)} {fa : Addr} {cd : Value} {g : Addr} {gn : Nat} {g0 g1 g2 g3 g4 g5 g6 g7 g8 : Int} {t0 t1 t2 t3 t4 t5 t6 t7 t8 : Tok} {aA pA dpA qA dqA : Addr} {dueA : Int} {tdA rA1 rA2 rA3 rA4 sA1 sA2 sA3 sA4 : Tok} {aB pB dpB qB dqB : Addr} {dueB : Int} {tdB rB1 rB2 rB3 rB4 sB1 sB2 sB3 sB4 : Tok} {md : Int} {tm : Tok} {QF : Flow → Shared → Prop} (hlk : (Mine.hd.heap_1 w.params).lookup 377 = some ⟨oc, od, .func (fnOf nm q params body scope dV kV doc pm an cdv ct), osl⟩) (B : Below A₀ h₀ [] h₀) (F : Fr h₀ L s.heap m) (X : (Mine.hd.heap_1 w.params).In h₀) (N : News h₀ L s.heap [(aA, tupO [.int dueA tdA, .ref pA, .ref qA]), (pA, instObj 333 dpA), (dpA, FQD w.params rA1 rA2 rA3 rA4 md dueA), (qA, instObj 186 dqA), (dqA, FQD w.params sA1 sA2 sA3 sA4 md dueA), (aB, tupO [.int dueB tdB, .ref pB, .ref qB]), (pB, instObj 333 dpB), (dpB, FQD w.params rB1 rB2 rB3 rB4 md dueB), (qB, instObj 186 dqB), (dqB, FQD w.params sB1 sB2 sB3 sB4 md dueB), (g, listOf #[.int g0 t0, .int g1 t1, .int g2 t2, .int g3 t3, .int g4 t4, .int g5 t5, .int g6 t6, .int g7 t7, .int g8 t8] gn)]) (T : Top p loose mean mg mb h₀) (hdp : d ≤ 700) (hun : u ≤ 200) (hE : PassesOwn (model prog w) ⟨none, d, some [(envOfC q scope L fa cd)], gs, u⟩ (envOfC q scope L fa cd) E) (hmd : 2 ≤ md) (hm1 : m (Str.ofString "first") = some (.ref aA)) (hm2 : m (Str.ofString "last") = some (.ref aB)) (hm3 : m (Str.ofString "given") = some (.ref g)) (hm4 : m (Str.ofString "modulus") = some (.int md tm))
    (h : ∀ m' h' tk, Fr h₀ L h' m' → m' (Str.ofString "first") = some (.ref aA) → m' (Str.ofString "last") = some (.ref aB) → m' (Str.ofString "given") = some (.ref g) → m' (Str.ofString "modulus") = some (.int md tm) → News h₀ L h' [(aA, tupO [.int dueA tdA, .ref pA, .ref qA]), (pA, instObj 333 dpA), (dpA, FQD w.params rA1 rA2 rA3 rA4 md dueA), (qA, instObj 186 dqA), (dqA, FQD w.params sA1 sA2 sA3 sA4 md dueA), (aB, tupO [.int dueB tdB, .ref pB, .ref qB]), (pB, instObj 333 dpB), (dpB, FQD w.params rB1 rB2 rB3 rB4 md dueB), (qB, instObj 186 dqB), (dqB, FQD w.params sB1 sB2 sB3 sB4 md dueB), (g, listOf #[.int g0 t0, .int g1 t1, .int g2 t2, .int g3 t3, .int g4 t4, .int g5 t5, .int g6 t6, .int g7 t7, .int g8 t8] gn)] → QF .next { s with heap := h', toks := tk }) :
    wpAny (model prog w) ⟨none, d, some [(envOfC q scope L fa cd)], gs, u⟩ (execs ((body.drop 7).take 1) (envOfC q scope L fa cd)) QF E s := by
  refine' with_lookup hlk ?k ?_
  (case k => k_is)
  intro eqo
  cases eqo
  clear hlk
  simp only [List.drop_succ_cons, List.drop_zero, List.take_succ_cons, List.take_zero]
  k_steps
  all_goals first | exact (bne_x (by with_reducible assumption)).elim | exact (noteq_x (by with_reducible assumption)).elim | skip
  rename Fr _ _ _ _ => qf
  rename News _ _ _ _ => qn
  exact h _ _ _ qf hm1 hm2 hm3 hm4 (news_sub qn (by repeat (first | exact sub_refl | apply sub_tail)))
end P_S6
section P_M8
local macro_rules | `(tactic| k_room) => `(tactic| ((try simp only [depth_under_make, depth_under_kw, depth_in1, depth_deeper, depth_caller, recursionLimit]); omega))
local macro_rules | `(tactic| k_all) => `(tactic| (intro p hp; exact Nat.ne_of_lt ((by assumption : ∀ p ∈ _, p.1 < _) p hp)))
local macro_rules | `(tactic| k_units) => `(tactic| ((try simp only [units_in1, units_deeper, Around.mark_units, units_caller, cLine]); omega))
local macro_rules | `(tactic| mul_fits) => `(tactic| exact mulOk_of (by first | assumption | exact Sm.of_res (by assumption) (by assumption) (by assumption)) (by first | assumption | exact Sm.of_res (by assumption) (by assumption) (by assumption)))
variable {prog : Program} {w : World} {A₀ : Around} {s : Shared} {d u : Nat} {gs : Option (List Code)} {env : Env} {outer : List Env} {base h₀ : Heap} {L : Addr} {m mg mb : Str → Option Value} {p : Program} {loose : List Str} {mean : ExcName → Option Value} {news : List (Addr × Obj)} {R : Result → Shared → Prop} {Q : Value → Shared → Prop} {E : Value → Shared → Prop}
local macro_rules | `(tactic| k_steps) => `(tactic| repeat' (first | (k_unfold; (try dsimp only)) | (dsimp only; k_unfold; (try dsimp only)) | walk1 | (dsimp only; walk1) | (leave1; walk_say "STEP leave1"; try dsimp only) | fail "no step"))
local macro_rules | `(tactic| mul_fits) => `(tactic| first | exact inv_mul1 (by assumption) (by omega) (by assumption) | exact inv_mul2 (by assumption) (by omega) (by assumption))
local macro_rules | `(tactic| walk_at "binaryOp FloorDiv int int") => `(tactic| (k_here; (refine floordiv_int (by omega) ?_ (Or.inl (inv_py (by assumption) (by omega) (by assumption))))))

set_option maxHeartbeats 4000000 in
theorem inv_ok {a n : Int} {t t' : Tok} (B : Below A₀ base outer h₀) (F : Fr h₀ L s.heap m) (X : (Mine.hd.heap_1 w.params).In h₀) (N : News h₀ L s.heap news) (T : Top p loose mean mg mb h₀) (hf : env.frame = some L) (hke : env.scope.kind = .function) (hdp : d ≤ 980) (h2 : 2 ≤ n) (hS : Sk n)
    (h : ∀ v t'' h' tk, Fr h₀ L h' m → News h₀ L h' news → InvOf a n v → R (.ok (.ret (.int v t''))) { s with heap := h', toks := tk }) :
    codeAny (model prog w) ⟨none, d, some (env :: outer), gs, u⟩ (.call (.ref 28) ⟨[.int a t, .int n t'], []⟩) R s := by
  (refine' code_def (binds := [("a", .int a t), ("n", .int n t')]) ?k1 ?k2 ?k3 ?k4 ?k5 ?kA ?kF ?kK ?k6 ?k7 ?k8 ?k9 ?kB ?_ ?c2 ?c3 ?c4 ?c5; (case kA => exact rfl); (case kF => exact hf); (case kK => exact hke); (case k1 => k_asm); (case k2 => k_asm); (case k3 => k_asm); (case k4 => k_asm); (case k5 => k_asm); (case k6 => k_is); (case k7 => k_is); (case k8 => k_room); (case k9 => exact BindsTo.of_eq rfl); (case c5 => decide); (case kB => exact locs rfl); (case c2 => exact rfl); (case c3 => exact rfl); (case c4 => exact rfl); k_whole; intro g' L' h' FG' F' N' B' X' T')
  clear B X T
  k_fold
  k_with_none
  k_with "exec While Compare cons nil" => k_while (fun (_ : List Int) lm low hm high => InvI (a.fmod n) n lm hm low high) (fun (_ : List Int) lm low hm high => low.toNat) "lm" "low" "hm" "high"
  k_with "state" => first | exact inv_step (by assumption) (by omega) | (rw [fm_fm h2]; exact inv_init (fm_lo h2 a) (fm_hi h2 a) h2)
  k_with "measure" => exact inv_less (by omega)
  k_steps
  · exact leaveK_ (by k_asm) (by k_asm) fun kF kN => h _ _ _ _ kF (news_sub kN (by repeat (first | exact sub_refl | apply sub_tail))) (inv_zero h2 (by assumption))
  · exact leaveK_ (by k_asm) (by k_asm) fun kF kN => h _ _ _ _ kF (news_sub kN (by repeat (first | exact sub_refl | apply sub_tail))) (inv_done h2 (by assumption) (by omega) (by assumption))
  k_with_none
end P_M8
section P_M9
local macro_rules | `(tactic| k_room) => `(tactic| ((try simp only [depth_under_make, depth_under_kw, depth_in1, depth_deeper, depth_caller, recursionLimit]); omega))
local macro_rules | `(tactic| k_all) => `(tactic| (intro p hp; exact Nat.ne_of_lt ((by assumption : ∀ p ∈ _, p.1 < _) p hp)))
local macro_rules | `(tactic| k_units) => `(tactic| ((try simp only [units_in1, units_deeper, Around.mark_units, units_caller, cLine]); omega))
local macro_rules | `(tactic| mul_fits) => `(tactic| exact mulOk_of (by first | assumption | exact Sm.of_res (by assumption) (by assumption) (by assumption)) (by first | assumption | exact Sm.of_res (by assumption) (by assumption) (by assumption)))
variable {prog : Program} {w : World} {A₀ : Around} {s : Shared} {d u : Nat} {gs : Option (List Code)} {env : Env} {outer : List Env} {base h₀ : Heap} {L : Addr} {m mg mb : Str → Option Value} {p : Program} {loose : List Str} {mean : ExcName → Option Value} {news : List (Addr × Obj)} {R : Result → Shared → Prop} {Q : Value → Shared → Prop} {E : Value → Shared → Prop}
local macro_rules | `(tactic| k_steps) => `(tactic| repeat' (first | (k_unfold; (try dsimp only)) | (dsimp only; k_unfold; (try dsimp only)) | walk1 | (dsimp only; walk1) | (leave1; walk_say "STEP leave1"; try dsimp only) | fail "no step"))
local macro_rules | `(tactic| walk_at "call ref") => `(tactic| (k_here; (with_reducible show wpAny _ _ (call (Value.ref 333) [Value.int _ _, Value.int _ _]) _ _ _); k_dflt (refine' mk_P ?B ?F ?X ?N ?T ?hf ?hk ?hd ?hm ?_; (case B => k_asm); (case F => k_asm); (case X => k_asm); (case N => k_asm); (case T => k_asm); (case hf => first | exact rfl | assumption); (case hk => first | exact rfl | assumption); (case hd => k_room); (case hm => k_asm); k_whole); intro x' d' h' t1' t2' t3' t4' tk' F' N' l1 l2; (try k_sweep)))
local macro_rules | `(tactic| walk_at "call ref") => `(tactic| (k_here; (with_reducible show wpAny _ _ (call (Value.ref 186) [Value.int _ _, Value.int _ _]) _ _ _); k_dflt (refine' mk_O ?B ?F ?X ?N ?T ?hf ?hk ?hd ?hm ?_; (case B => k_asm); (case F => k_asm); (case X => k_asm); (case N => k_asm); (case T => k_asm); (case hf => first | exact rfl | assumption); (case hk => first | exact rfl | assumption); (case hd => k_room); (case hm => k_asm); k_whole); intro x' d' h' t1' t2' t3' t4' tk' F' N' l1 l2; (try k_sweep)))
local macro_rules | `(tactic| k_enter) => `(tactic| ((with_reducible show codeAny _ _ (Code.call (Value.ref 316) _) _ _); k_dflt (refine' made_P ?B ?F ?X ?N ?T ?hf ?hk ?hd ?hm ?hx ?hdx ?_; (case B => k_asm); (case F => k_asm); (case X => k_asm); (case N => k_asm); (case T => k_asm); (case hf => first | exact rfl | assumption); (case hk => first | exact rfl | assumption); (case hd => k_room); (case hm => k_asm); (case hx => first | k_mem | k_asm | exact Sm.of_res (by assumption) (fm_lo (by assumption) _) (fm_hi (by assumption) _) | exact Sm.of_res (by assumption) (by assumption) (by assumption)); (case hdx => first | k_mem | k_asm | exact Sm.of_res (by assumption) (fm_lo (by assumption) _) (fm_hi (by assumption) _) | exact Sm.of_res (by assumption) (by assumption) (by assumption)); k_whole); intro x' d' h' t1' t2' t3' t4' tk' F' N' l1 l2; (try k_sweep); (try dsimp only [PySem.W.CmpBack, PySem.W.InitBack, PySem.W.LenBack, PySem.W.StrBack, PySem.W.BoolBack])))
local macro_rules | `(tactic| k_enter) => `(tactic| ((with_reducible show codeAny _ _ (Code.call (Value.ref 169) _) _ _); k_dflt (refine' made_O ?B ?F ?X ?N ?T ?hf ?hk ?hd ?hm ?hx ?hdx ?_; (case B => k_asm); (case F => k_asm); (case X => k_asm); (case N => k_asm); (case T => k_asm); (case hf => first | exact rfl | assumption); (case hk => first | exact rfl | assumption); (case hd => k_room); (case hm => k_asm); (case hx => first | k_mem | k_asm | exact Sm.of_res (by assumption) (fm_lo (by assumption) _) (fm_hi (by assumption) _) | exact Sm.of_res (by assumption) (by assumption) (by assumption)); (case hdx => first | k_mem | k_asm | exact Sm.of_res (by assumption) (fm_lo (by assumption) _) (fm_hi (by assumption) _) | exact Sm.of_res (by assumption) (by assumption) (by assumption)); k_whole); intro x' d' h' t1' t2' t3' t4' tk' F' N' l1 l2; (try k_sweep); (try dsimp only [PySem.W.CmpBack, PySem.W.InitBack, PySem.W.LenBack, PySem.W.StrBack, PySem.W.BoolBack])))
local macro_rules | `(tactic| k_enter) => `(tactic| ((with_reducible show codeAny _ _ (Code.call (Value.ref 28) _) _ _); k_dflt (refine' inv_ok ?B ?F ?X ?N ?T ?hf ?hk ?hd ?h2 ?hS ?_; (case B => k_asm); (case F => k_asm); (case X => k_asm); (case N => k_asm); (case T => k_asm); (case hf => first | exact rfl | assumption); (case hk => first | exact rfl | assumption); (case hd => k_room); (case h2 => k_asm); (case hS => k_asm); k_whole); intro v' t' h' tk' F' N' hV; (have hSv' := inv_sm hV (by assumption)); (try k_sweep); (try dsimp only [PySem.W.CmpBack, PySem.W.InitBack])))

set_option maxHeartbeats 4000000 in
theorem truediv_r_P {md n : Int} {y dy : Addr} {a1 a2 a3 a4 : Tok}{z dz : Addr} {a12 a22 a32 a42 : Tok} {k : Int} (B : Below A₀ base outer h₀) (F : Fr h₀ L s.heap m) (X : (Mine.hd.heap_1 w.params).In h₀) (N : News h₀ L s.heap news) (T : Top p loose mean mg mb h₀) (hf : env.frame = some L) (hke : env.scope.kind = .function) (hdp : d ≤ 960) (hmd : 2 ≤ md) (hS : Sk md) (hx : (y, instObj 333 dy) ∈ news) (hdx : (dy, FQD w.params a1 a2 a3 a4 md n) ∈ news)(hx2 : (z, instObj 333 dz) ∈ news) (hdx2 : (dz, FQD w.params a12 a22 a32 a42 md k) ∈ news) (sn : Sm n)
    (h : ∀ v x dx h' t1 t2 t3 t4 tk, InvOf k md v → Fr h₀ L h' m → News h₀ L h' ((x, instObj 333 dx) :: (dx, FQD w.params t1 t2 t3 t4 md ((n * v).fmod md)) :: news) → (∀ p ∈ news, p.1 < dx) → dx < x → R (.ok (.ret (.ref x))) { s with heap := h', toks := tk }) :
    codeAny (model prog w) ⟨none, d, some (env :: outer), gs, u⟩ (.call (.ref 253) ⟨[.ref y, .ref z], []⟩) R s := by
  replace N := news_show2 N (by repeat (first | exact sub_refl | apply sub_tail)) hx hdx
  replace N := news_show2 N (by repeat (first | exact sub_refl | apply sub_tail)) hx2 hdx2
  (refine' code_def (binds := [("self", .ref y), ("other", .ref z)]) ?k1 ?k2 ?k3 ?k4 ?k5 ?kA ?kF ?kK ?k6 ?k7 ?k8 ?k9 ?kB ?_ ?c2 ?c3 ?c4 ?c5; (case kA => exact rfl); (case kF => exact hf); (case kK => exact hke); (case k1 => k_asm); (case k2 => k_asm); (case k3 => k_asm); (case k4 => k_asm); (case k5 => k_asm); (case k6 => k_is); (case k7 => k_is); (case k8 => k_room); (case k9 => exact BindsTo.of_eq rfl); (case c5 => decide); (case kB => exact locs rfl); (case c2 => exact rfl); (case c3 => exact rfl); (case c4 => exact rfl); k_whole; intro g' L' h' FG' F' N' B' X' T')
  clear B X T
  k_fold
  k_steps
  refine leaveK_ (by k_asm) (by k_asm) fun kF kN => ?_
  rw [fm_fm hmd] at kN
  exact h _ _ _ _ _ _ _ _ _ (by assumption) kF (news_sub kN (sub2 (by repeat (first | exact sub_refl | apply sub_tail)) (by k_mem) (by k_mem))) (fresh_of (by assumption) (by repeat (first | exact sub_refl | apply sub_tail))) (by assumption)

set_option maxHeartbeats 4000000 in
theorem truediv_i_P {md n : Int} {y dy : Addr} {a1 a2 a3 a4 : Tok} {i : Int} {t : Tok} (B : Below A₀ base outer h₀) (F : Fr h₀ L s.heap m) (X : (Mine.hd.heap_1 w.params).In h₀) (N : News h₀ L s.heap news) (T : Top p loose mean mg mb h₀) (hf : env.frame = some L) (hke : env.scope.kind = .function) (hdp : d ≤ 960) (hmd : 2 ≤ md) (hS : Sk md) (hx : (y, instObj 333 dy) ∈ news) (hdx : (dy, FQD w.params a1 a2 a3 a4 md n) ∈ news) (sn : Sm n)
    (h : ∀ v x dx h' t1 t2 t3 t4 tk, InvOf i md v → Fr h₀ L h' m → News h₀ L h' ((x, instObj 333 dx) :: (dx, FQD w.params t1 t2 t3 t4 md ((n * v).fmod md)) :: news) → (∀ p ∈ news, p.1 < dx) → dx < x → R (.ok (.ret (.ref x))) { s with heap := h', toks := tk }) :
    codeAny (model prog w) ⟨none, d, some (env :: outer), gs, u⟩ (.call (.ref 253) ⟨[.ref y, .int i t], []⟩) R s := by
  replace N := news_show2 N (by repeat (first | exact sub_refl | apply sub_tail)) hx hdx
  (refine' code_def (binds := [("self", .ref y), ("other", .int i t)]) ?k1 ?k2 ?k3 ?k4 ?k5 ?kA ?kF ?kK ?k6 ?k7 ?k8 ?k9 ?kB ?_ ?c2 ?c3 ?c4 ?c5; (case kA => exact rfl); (case kF => exact hf); (case kK => exact hke); (case k1 => k_asm); (case k2 => k_asm); (case k3 => k_asm); (case k4 => k_asm); (case k5 => k_asm); (case k6 => k_is); (case k7 => k_is); (case k8 => k_room); (case k9 => exact BindsTo.of_eq rfl); (case c5 => decide); (case kB => exact locs rfl); (case c2 => exact rfl); (case c3 => exact rfl); (case c4 => exact rfl); k_whole; intro g' L' h' FG' F' N' B' X' T')
  clear B X T
  k_fold
  k_steps
  refine leaveK_ (by k_asm) (by k_asm) fun kF kN => ?_
  rw [fm_fm hmd] at kN
  exact h _ _ _ _ _ _ _ _ _ (by assumption) kF (news_sub kN (sub2 (by repeat (first | exact sub_refl | apply sub_tail)) (by k_mem) (by k_mem))) (fresh_of (by assumption) (by repeat (first | exact sub_refl | apply sub_tail))) (by assumption)

set_option maxHeartbeats 4000000 in
theorem truediv_r_O {md n : Int} {y dy : Addr} {a1 a2 a3 a4 : Tok}{z dz : Addr} {a12 a22 a32 a42 : Tok} {k : Int} (B : Below A₀ base outer h₀) (F : Fr h₀ L s.heap m) (X : (Mine.hd.heap_1 w.params).In h₀) (N : News h₀ L s.heap news) (T : Top p loose mean mg mb h₀) (hf : env.frame = some L) (hke : env.scope.kind = .function) (hdp : d ≤ 960) (hmd : 2 ≤ md) (hS : Sk md) (hx : (y, instObj 186 dy) ∈ news) (hdx : (dy, FQD w.params a1 a2 a3 a4 md n) ∈ news)(hx2 : (z, instObj 186 dz) ∈ news) (hdx2 : (dz, FQD w.params a12 a22 a32 a42 md k) ∈ news) (sn : Sm n)
    (h : ∀ v x dx h' t1 t2 t3 t4 tk, InvOf k md v → Fr h₀ L h' m → News h₀ L h' ((x, instObj 186 dx) :: (dx, FQD w.params t1 t2 t3 t4 md ((n * v).fmod md)) :: news) → (∀ p ∈ news, p.1 < dx) → dx < x → R (.ok (.ret (.ref x))) { s with heap := h', toks := tk }) :
    codeAny (model prog w) ⟨none, d, some (env :: outer), gs, u⟩ (.call (.ref 98) ⟨[.ref y, .ref z], []⟩) R s := by
  replace N := news_show2 N (by repeat (first | exact sub_refl | apply sub_tail)) hx hdx
  replace N := news_show2 N (by repeat (first | exact sub_refl | apply sub_tail)) hx2 hdx2
  (refine' code_def (binds := [("self", .ref y), ("other", .ref z)]) ?k1 ?k2 ?k3 ?k4 ?k5 ?kA ?kF ?kK ?k6 ?k7 ?k8 ?k9 ?kB ?_ ?c2 ?c3 ?c4 ?c5; (case kA => exact rfl); (case kF => exact hf); (case kK => exact hke); (case k1 => k_asm); (case k2 => k_asm); (case k3 => k_asm); (case k4 => k_asm); (case k5 => k_asm); (case k6 => k_is); (case k7 => k_is); (case k8 => k_room); (case k9 => exact BindsTo.of_eq rfl); (case c5 => decide); (case kB => exact locs rfl); (case c2 => exact rfl); (case c3 => exact rfl); (case c4 => exact rfl); k_whole; intro g' L' h' FG' F' N' B' X' T')
  clear B X T
  k_fold
  k_steps
  refine leaveK_ (by k_asm) (by k_asm) fun kF kN => ?_
  rw [fm_fm hmd] at kN
  exact h _ _ _ _ _ _ _ _ _ (by assumption) kF (news_sub kN (sub2 (by repeat (first | exact sub_refl | apply sub_tail)) (by k_mem) (by k_mem))) (fresh_of (by assumption) (by repeat (first | exact sub_refl | apply sub_tail))) (by assumption)

set_option maxHeartbeats 4000000 in
theorem rtruediv_i_O {md n : Int} {y dy : Addr} {a1 a2 a3 a4 : Tok} {i : Int} {t : Tok} (B : Below A₀ base outer h₀) (F : Fr h₀ L s.heap m) (X : (Mine.hd.heap_1 w.params).In h₀) (N : News h₀ L s.heap news) (T : Top p loose mean mg mb h₀) (hf : env.frame = some L) (hke : env.scope.kind = .function) (hdp : d ≤ 960) (hmd : 2 ≤ md) (hS : Sk md) (hx : (y, instObj 186 dy) ∈ news) (hdx : (dy, FQD w.params a1 a2 a3 a4 md n) ∈ news) (si : Sm i)
    (h : ∀ v x dx h' t1 t2 t3 t4 tk, InvOf n md v → Fr h₀ L h' m → News h₀ L h' ((x, instObj 186 dx) :: (dx, FQD w.params t1 t2 t3 t4 md ((v * i).fmod md)) :: news) → (∀ p ∈ news, p.1 < dx) → dx < x → R (.ok (.ret (.ref x))) { s with heap := h', toks := tk }) :
    codeAny (model prog w) ⟨none, d, some (env :: outer), gs, u⟩ (.call (.ref 105) ⟨[.ref y, .int i t], []⟩) R s := by
  replace N := news_show2 N (by repeat (first | exact sub_refl | apply sub_tail)) hx hdx
  (refine' code_def (binds := [("self", .ref y), ("other", .int i t)]) ?k1 ?k2 ?k3 ?k4 ?k5 ?kA ?kF ?kK ?k6 ?k7 ?k8 ?k9 ?kB ?_ ?c2 ?c3 ?c4 ?c5; (case kA => exact rfl); (case kF => exact hf); (case kK => exact hke); (case k1 => k_asm); (case k2 => k_asm); (case k3 => k_asm); (case k4 => k_asm); (case k5 => k_asm); (case k6 => k_is); (case k7 => k_is); (case k8 => k_room); (case k9 => exact BindsTo.of_eq rfl); (case c5 => decide); (case kB => exact locs rfl); (case c2 => exact rfl); (case c3 => exact rfl); (case c4 => exact rfl); k_whole; intro g' L' h' FG' F' N' B' X' T')
  clear B X T
  k_fold
  k_steps
  refine leaveK_ (by k_asm) (by k_asm) fun kF kN => ?_
  rw [fm_fm hmd] at kN
  exact h _ _ _ _ _ _ _ _ _ (by assumption) kF (news_sub kN (sub2 (by repeat (first | exact sub_refl | apply sub_tail)) (by k_mem) (by k_mem))) (fresh_of (by assumption) (by repeat (first | exact sub_refl | apply sub_tail))) (by assumption)
end P_M9
section P_M13
local macro_rules | `(tactic| k_room) => `(tactic| ((try simp only [depth_under_make, depth_under_kw, depth_in1, depth_deeper, depth_caller, recursionLimit]); omega))
local macro_rules | `(tactic| k_all) => `(tactic| (intro p hp; exact Nat.ne_of_lt ((by assumption : ∀ p ∈ _, p.1 < _) p hp)))
local macro_rules | `(tactic| k_units) => `(tactic| ((try simp only [units_in1, units_deeper, Around.mark_units, units_caller, cLine]); omega))
local macro_rules | `(tactic| mul_fits) => `(tactic| exact mulOk_of (by first | assumption | exact Sm.of_res (by assumption) (by assumption) (by assumption)) (by first | assumption | exact Sm.of_res (by assumption) (by assumption) (by assumption)))
variable {prog : Program} {w : World} {A₀ : Around} {s : Shared} {d u : Nat} {gs : Option (List Code)} {env : Env} {outer : List Env} {base h₀ : Heap} {L : Addr} {m mg mb : Str → Option Value} {p : Program} {loose : List Str} {mean : ExcName → Option Value} {news : List (Addr × Obj)} {R : Result → Shared → Prop} {Q : Value → Shared → Prop} {E : Value → Shared → Prop}
local macro_rules | `(tactic| k_steps) => `(tactic| repeat' (first | (k_unfold; (try dsimp only)) | (dsimp only; k_unfold; (try dsimp only)) | walk1 | (dsimp only; walk1) | (leave1; walk_say "STEP leave1"; try dsimp only) | fail "no step"))

set_option maxHeartbeats 4000000 in
theorem shared_ok {a b : Int} {t t' : Tok} (B : Below A₀ base outer h₀) (F : Fr h₀ L s.heap m) (X : (Mine.hd.heap_1 w.params).In h₀) (N : News h₀ L s.heap news) (T : Top p loose mean mg mb h₀) (hf : env.frame = some L) (hke : env.scope.kind = .function) (hdp : d ≤ 980) (ha : 0 ≤ a) (hb : 0 ≤ b)
    (h : ∀ t'' h' tk, Fr h₀ L h' m → News h₀ L h' news → R (.ok (.ret (.int (Int.gcd a b : Int) t''))) { s with heap := h', toks := tk }) :
    codeAny (model prog w) ⟨none, d, some (env :: outer), gs, u⟩ (.call (.ref 351) ⟨[.int a t, .int b t'], []⟩) R s := by
  (refine' code_def (binds := [("here", .int a t), ("there", .int b t')]) ?k1 ?k2 ?k3 ?k4 ?k5 ?kA ?kF ?kK ?k6 ?k7 ?k8 ?k9 ?kB ?_ ?c2 ?c3 ?c4 ?c5; (case kA => exact rfl); (case kF => exact hf); (case kK => exact hke); (case k1 => k_asm); (case k2 => k_asm); (case k3 => k_asm); (case k4 => k_asm); (case k5 => k_asm); (case k6 => k_is); (case k7 => k_is); (case k8 => k_room); (case k9 => exact BindsTo.of_eq rfl); (case c5 => decide); (case kB => exact locs rfl); (case c2 => exact rfl); (case c3 => exact rfl); (case c4 => exact rfl); k_whole; intro g' L' h' FG' F' N' B' X' T')
  clear B X T
  k_fold
  k_with_none
  k_with "exec While Compare cons nil" => k_while (fun (_ : List Int) here there => GI a b here there) (fun (_ : List Int) here there => there.toNat) "here" "there"
  k_with "state" => first | exact gi_step (by assumption) (by assumption) | exact ⟨ha, hb, rfl⟩
  k_with "measure" => exact gi_less (by assumption : GI _ _ _ _).2.1 (by assumption)
  k_steps
  · exact leaveK_ (by k_asm) (by k_asm) fun kF kN => (gi_done (by assumption) (by assumption)) ▸ h _ _ _ kF (news_sub kN (by repeat (first | exact sub_refl | apply sub_tail)))
  k_with_none
end P_M13
section P_M14
local macro_rules | `(tactic| k_room) => `(tactic| ((try simp only [depth_under_make, depth_under_kw, depth_in1, depth_deeper, depth_caller, recursionLimit]); omega))
local macro_rules | `(tactic| k_all) => `(tactic| (intro p hp; exact Nat.ne_of_lt ((by assumption : ∀ p ∈ _, p.1 < _) p hp)))
local macro_rules | `(tactic| k_units) => `(tactic| ((try simp only [units_in1, units_deeper, Around.mark_units, units_caller, cLine]); omega))
local macro_rules | `(tactic| mul_fits) => `(tactic| exact mulOk_of (by first | assumption | exact Sm.of_res (by assumption) (by assumption) (by assumption)) (by first | assumption | exact Sm.of_res (by assumption) (by assumption) (by assumption)))
variable {prog : Program} {w : World} {A₀ : Around} {s : Shared} {d u : Nat} {gs : Option (List Code)} {env : Env} {outer : List Env} {base h₀ : Heap} {L : Addr} {m mg mb : Str → Option Value} {p : Program} {loose : List Str} {mean : ExcName → Option Value} {news : List (Addr × Obj)} {R : Result → Shared → Prop} {Q : Value → Shared → Prop} {E : Value → Shared → Prop}
local macro_rules | `(tactic| k_steps) => `(tactic| repeat' (first | (k_unfold; (try dsimp only)) | (dsimp only; k_unfold; (try dsimp only)) | walk1 | (dsimp only; walk1) | (leave1; walk_say "STEP leave1"; try dsimp only) | fail "no step"))
local macro_rules | `(tactic| k_enter) => `(tactic| ((with_reducible show codeAny _ _ (Code.call (Value.ref 351) _) _ _); k_dflt (refine' shared_ok ?B ?F ?X ?N ?T ?hf ?hk ?hd ?ha ?hb ?_; (case B => k_asm); (case F => k_asm); (case X => k_asm); (case N => k_asm); (case T => k_asm); (case hf => first | exact rfl | assumption); (case hk => first | exact rfl | assumption); (case hd => k_room); (case ha => first | exact fm_lo (by assumption) _ | omega); (case hb => first | exact fm_lo (by assumption) _ | omega); k_whole); intro t' h' tk' F' N'; (try k_sweep); (try dsimp only [PySem.W.CmpBack, PySem.W.InitBack])))

set_option maxHeartbeats 4000000 in
theorem divided_ok {found upper lower md : Int} {t1 t2 t3 t4 : Tok} (B : Below A₀ base outer h₀) (F : Fr h₀ L s.heap m) (X : (Mine.hd.heap_1 w.params).In h₀) (N : News h₀ L s.heap news) (T : Top p loose mean mg mb h₀) (hf : env.frame = some L) (hke : env.scope.kind = .function) (hdp : d ≤ 960) (h2 : 2 ≤ md) (hD : DivOk found upper lower md) (sf : Sm found) (sl : Sm lower)
    (h : ∀ h' tk, Fr h₀ L h' m → News h₀ L h' news → R (.ok (.ret (.bool true))) { s with heap := h', toks := tk }) :
    codeAny (model prog w) ⟨none, d, some (env :: outer), gs, u⟩ (.call (.ref 372) ⟨[.int found t1, .int upper t2, .int lower t3, .int md t4], []⟩) R s := by
  (refine' code_def (binds := [("found", .int found t1), ("upper", .int upper t2), ("lower", .int lower t3), ("modulus", .int md t4)]) ?k1 ?k2 ?k3 ?k4 ?k5 ?kA ?kF ?kK ?k6 ?k7 ?k8 ?k9 ?kB ?_ ?c2 ?c3 ?c4 ?c5; (case kA => exact rfl); (case kF => exact hf); (case kK => exact hke); (case k1 => k_asm); (case k2 => k_asm); (case k3 => k_asm); (case k4 => k_asm); (case k5 => k_asm); (case k6 => k_is); (case k7 => k_is); (case k8 => k_room); (case k9 => exact BindsTo.of_eq rfl); (case c5 => decide); (case kB => exact locs rfl); (case c2 => exact rfl); (case c3 => exact rfl); (case c4 => exact rfl); k_whole; intro g' L' h' FG' F' N' B' X' T')
  clear B X T
  k_fold
  k_steps
  · refine leaveK_ (by k_asm) (by k_asm) fun kF kN => ?_
    rw [dv1 h2 hD (by assumption)]
    exact h _ _ kF (news_sub kN (by repeat (first | exact sub_refl | apply sub_tail)))
  · exact leaveK_ (by k_asm) (by k_asm) fun kF kN => h _ _ kF (news_sub kN (by repeat (first | exact sub_refl | apply sub_tail)))
  · refine leaveK_ (by k_asm) (by k_asm) fun kF kN => ?_
    rw [(dv2 h2 hD (by assumption)).2.2]
    exact h _ _ kF (news_sub kN (by repeat (first | exact sub_refl | apply sub_tail)))
  · exact absurd (dv2 h2 hD (by assumption)).2.1 (by assumption)
  · exact absurd (dv2 h2 hD (by assumption)).1 (by assumption)
end P_M14
section P_S7
local macro_rules | `(tactic| k_room) => `(tactic| ((try simp only [depth_under_make, depth_under_kw, depth_in1, depth_deeper, depth_caller, recursionLimit]); omega))
local macro_rules | `(tactic| k_all) => `(tactic| (intro p hp; exact Nat.ne_of_lt ((by assumption : ∀ p ∈ _, p.1 < _) p hp)))
local macro_rules | `(tactic| k_units) => `(tactic| ((try simp only [units_in1, units_deeper, Around.mark_units, units_caller, cLine]); omega))
local macro_rules | `(tactic| mul_fits) => `(tactic| exact mulOk_of (by first | assumption | exact Sm.of_res (by assumption) (by assumption) (by assumption)) (by first | assumption | exact Sm.of_res (by assumption) (by assumption) (by assumption)))
variable {prog : Program} {w : World} {A₀ : Around} {s : Shared} {d u : Nat} {gs : Option (List Code)} {env : Env} {outer : List Env} {base h₀ : Heap} {L : Addr} {m mg mb : Str → Option Value} {p : Program} {loose : List Str} {mean : ExcName → Option Value} {news : List (Addr × Obj)} {R : Result → Shared → Prop} {Q : Value → Shared → Prop} {E : Value → Shared → Prop}
local macro_rules | `(tactic| k_steps) => `(tactic| repeat' (first | (k_unfold; (try dsimp only)) | (dsimp only; k_unfold; (try dsimp only)) | walk1 | (dsimp only; walk1) | (leave1; walk_say "STEP leave1"; try dsimp only) | fail "no step"))
local macro_rules | `(tactic| walk_at "eval Name") => `(tactic| (k_here; k_dflt (refine' nameX_L ?F ?v ?_ ?a ?b; (case F => k_asm); (case a => rfl); (case b => rfl); (case v => assumption); k_whole)))
local macro_rules | `(tactic| walk_at "binaryOp Pow int int") => `(tactic| (k_here; first | refine pow_30 ?_ | refine pow_31 ?_); (intro z' hz'))
local macro_rules | `(tactic| walk_at "binaryOp Mod int int") => `(tactic| (k_here; (refine mod_int' (by first | assumption | omega) ?_)))
local macro_rules | `(tactic| k_steps) => `(tactic| repeat' (first | (k_unfold; (try dsimp only)) | (dsimp only; k_unfold; (try dsimp only)) | (walk1; (try dsimp only)) | (dsimp only; walk1) | (leave1; walk_say "STEP leave1"; try dsimp only) | fail "no step"))
local macro_rules | `(tactic| walk_at "subscriptTail") => `(tactic| (k_here; (with_reducible show wpAny _ _ (subscriptTail _ _ (Value.ref _) (Value.int _ _)) _ _ _); k_dflt (refine' item_litK ?k1 ?k2 ?k3 ?k4 ?_ ?k6; (case k1 => exact News.isList (by k_asm) (by k_mem)); (case k2 => decide); (case k3 => decide); (case k4 => rfl); (case k6 => with_unfolding_all rfl); k_whole)))
local macro_rules | `(tactic| walk_at "subscriptTail Name Constant ref int") => `(tactic| (k_here; (with_reducible show wpAny _ _ (subscriptTail _ _ (Value.ref _) (Value.int _ _)) _ _ _); k_dflt (refine' item_litK ?k1 ?k2 ?k3 ?k4 ?_ ?k6; (case k1 => exact News.isList (by k_asm) (by k_mem)); (case k2 => decide); (case k3 => decide); (case k4 => rfl); (case k6 => with_unfolding_all rfl); k_whole)))
local macro_rules | `(tactic| walk_at "binaryOp Div ref") => `(tactic| (k_here; (with_reducible show wpAny _ _ (binaryOp Operator.Div (Value.ref _) (Value.ref _)) _ _ _); k_dflt (refine' binop_K ?k1 ?k2 ?k3 ?k4 ?k5 ?k6 ?k7 ?_; (case k1 => k_asm); (case k2 => k_asm); (case k3 => k_inst); (case k4 => k_typeOf); (case k5 => k_is); (case k6 => k_is); (case k7 => k_is); k_whole)))
local macro_rules | `(tactic| walk_at "binaryOp Add int ref") => `(tactic| (k_here; (with_reducible show wpAny _ _ (binaryOp Operator.Add (Value.int _ _) (Value.ref _)) _ _ _); k_dflt (refine' int_binR ?F ?X ?I ?hc ?hs ?hr ?hf ?hu PySem.F.fills_int_add PySem.F.slot_int_add PySem.F.entry_int_add (PySem.F.args_int_add_2 _ _) (int_add_inst _ _ _ _ _) ?_; (case F => k_asm); (case X => k_asm); (case I => k_inst); (case hc => k_is); (case hs => k_is); (case hr => k_is); (case hf => k_is); (case hu => k_is); k_whole)))
local macro_rules | `(tactic| walk_at "binaryOp Sub int ref") => `(tactic| (k_here; (with_reducible show wpAny _ _ (binaryOp Operator.Sub (Value.int _ _) (Value.ref _)) _ _ _); k_dflt (refine' int_binR ?F ?X ?I ?hc ?hs ?hr ?hf ?hu PySem.F.fills_int_sub PySem.F.slot_int_sub PySem.F.entry_int_sub (PySem.F.args_int_sub_2 _ _) (int_sub_inst _ _ _ _ _) ?_; (case F => k_asm); (case X => k_asm); (case I => k_inst); (case hc => k_is); (case hs => k_is); (case hr => k_is); (case hf => k_is); (case hu => k_is); k_whole)))
local macro_rules | `(tactic| walk_at "binaryOp Mult int ref") => `(tactic| (k_here; (with_reducible show wpAny _ _ (binaryOp Operator.Mult (Value.int _ _) (Value.ref _)) _ _ _); k_dflt (refine' int_binR ?F ?X ?I ?hc ?hs ?hr ?hf ?hu PySem.F.fills_int_mul PySem.F.slot_int_mul PySem.F.entry_int_mul (PySem.F.args_int_mul_2 _ _) (int_mul_inst _ _ _ _ _) ?_; (case F => k_asm); (case X => k_asm); (case I => k_inst); (case hc => k_is); (case hs => k_is); (case hr => k_is); (case hf => k_is); (case hu => k_is); k_whole)))
local macro_rules | `(tactic| walk_at "binaryOp Div int ref") => `(tactic| (k_here; (with_reducible show wpAny _ _ (binaryOp Operator.Div (Value.int _ _) (Value.ref _)) _ _ _); k_dflt (refine' int_binR ?F ?X ?I ?hc ?hs ?hr ?hf ?hu PySem.F.fills_int_truediv PySem.F.slot_int_truediv PySem.F.entry_int_truediv (PySem.F.args_int_truediv_2 _ _) (int_div_inst _ _ _ _ _) ?_; (case F => k_asm); (case X => k_asm); (case I => k_inst); (case hc => k_is); (case hs => k_is); (case hr => k_is); (case hf => k_is); (case hu => k_is); k_whole)))
local macro_rules | `(tactic| walk_at "call builtin:pow") => `(tactic| (k_here; (with_reducible show wpAny _ _ (call (Value.builtin "pow") [Value.int _ _, Value.int _ _, Value.int _ _]) _ _ _); refine pow3 (by first | assumption | omega) (by first | assumption | exact (fm_4096 _).1 | omega) ?_))
local macro_rules | `(tactic| k_enter) => `(tactic| ((with_reducible show codeAny _ _ (Code.call (Value.ref 253) _) _ _); k_dflt (refine' truediv_r_P ?B ?F ?X ?N ?T ?hf ?hk ?hd ?hm ?hS ?hx ?hdx ?hx2 ?hdx2 ?sn ?_; (case B => k_asm); (case F => k_asm); (case X => k_asm); (case N => k_asm); (case T => k_asm); (case hf => first | exact rfl | assumption); (case hk => first | exact rfl | assumption); (case hd => k_room); (case hm => k_asm); (case hS => k_asm); (case hx => first | k_mem | k_asm | exact Sm.of_res (by assumption) (fm_lo (by assumption) _) (fm_hi (by assumption) _) | exact Sm.of_res (by assumption) (by assumption) (by assumption)); (case hdx => first | k_mem | k_asm | exact Sm.of_res (by assumption) (fm_lo (by assumption) _) (fm_hi (by assumption) _) | exact Sm.of_res (by assumption) (by assumption) (by assumption)); (case hx2 => first | k_mem | k_asm | exact Sm.of_res (by assumption) (fm_lo (by assumption) _) (fm_hi (by assumption) _) | exact Sm.of_res (by assumption) (by assumption) (by assumption)); (case hdx2 => first | k_mem | k_asm | exact Sm.of_res (by assumption) (fm_lo (by assumption) _) (fm_hi (by assumption) _) | exact Sm.of_res (by assumption) (by assumption) (by assumption)); (case sn => first | k_mem | k_asm | exact Sm.of_res (by assumption) (fm_lo (by assumption) _) (fm_hi (by assumption) _) | exact Sm.of_res (by assumption) (by assumption) (by assumption)); k_whole); intro v' x' d' h' t1' t2' t3' t4' tk' hV F' N' l1 l2; (try k_sweep); (try dsimp only [PySem.W.CmpBack, PySem.W.InitBack])))
local macro_rules | `(tactic| k_enter) => `(tactic| ((with_reducible show codeAny _ _ (Code.call (Value.ref 253) _) _ _); k_dflt (refine' truediv_i_P ?B ?F ?X ?N ?T ?hf ?hk ?hd ?hm ?hS ?hx ?hdx ?sn ?_; (case B => k_asm); (case F => k_asm); (case X => k_asm); (case N => k_asm); (case T => k_asm); (case hf => first | exact rfl | assumption); (case hk => first | exact rfl | assumption); (case hd => k_room); (case hm => k_asm); (case hS => k_asm); (case hx => first | k_mem | k_asm | exact Sm.of_res (by assumption) (fm_lo (by assumption) _) (fm_hi (by assumption) _) | exact Sm.of_res (by assumption) (by assumption) (by assumption)); (case hdx => first | k_mem | k_asm | exact Sm.of_res (by assumption) (fm_lo (by assumption) _) (fm_hi (by assumption) _) | exact Sm.of_res (by assumption) (by assumption) (by assumption)); (case sn => first | k_mem | k_asm | exact Sm.of_res (by assumption) (fm_lo (by assumption) _) (fm_hi (by assumption) _) | exact Sm.of_res (by assumption) (by assumption) (by assumption)); k_whole); intro v' x' d' h' t1' t2' t3' t4' tk' hV F' N' l1 l2; (try k_sweep); (try dsimp only [PySem.W.CmpBack, PySem.W.InitBack])))
local macro_rules | `(tactic| k_enter) => `(tactic| ((with_reducible show codeAny _ _ (Code.call (Value.ref 98) _) _ _); k_dflt (refine' truediv_r_O ?B ?F ?X ?N ?T ?hf ?hk ?hd ?hm ?hS ?hx ?hdx ?hx2 ?hdx2 ?sn ?_; (case B => k_asm); (case F => k_asm); (case X => k_asm); (case N => k_asm); (case T => k_asm); (case hf => first | exact rfl | assumption); (case hk => first | exact rfl | assumption); (case hd => k_room); (case hm => k_asm); (case hS => k_asm); (case hx => first | k_mem | k_asm | exact Sm.of_res (by assumption) (fm_lo (by assumption) _) (fm_hi (by assumption) _) | exact Sm.of_res (by assumption) (by assumption) (by assumption)); (case hdx => first | k_mem | k_asm | exact Sm.of_res (by assumption) (fm_lo (by assumption) _) (fm_hi (by assumption) _) | exact Sm.of_res (by assumption) (by assumption) (by assumption)); (case hx2 => first | k_mem | k_asm | exact Sm.of_res (by assumption) (fm_lo (by assumption) _) (fm_hi (by assumption) _) | exact Sm.of_res (by assumption) (by assumption) (by assumption)); (case hdx2 => first | k_mem | k_asm | exact Sm.of_res (by assumption) (fm_lo (by assumption) _) (fm_hi (by assumption) _) | exact Sm.of_res (by assumption) (by assumption) (by assumption)); (case sn => first | k_mem | k_asm | exact Sm.of_res (by assumption) (fm_lo (by assumption) _) (fm_hi (by assumption) _) | exact Sm.of_res (by assumption) (by assumption) (by assumption)); k_whole); intro v' x' d' h' t1' t2' t3' t4' tk' hV F' N' l1 l2; (try k_sweep); (try dsimp only [PySem.W.CmpBack, PySem.W.InitBack])))
local macro_rules | `(tactic| k_enter) => `(tactic| ((with_reducible show codeAny _ _ (Code.call (Value.ref 105) _) _ _); k_dflt (refine' rtruediv_i_O ?B ?F ?X ?N ?T ?hf ?hk ?hd ?hm ?hS ?hx ?hdx ?si ?_; (case B => k_asm); (case F => k_asm); (case X => k_asm); (case N => k_asm); (case T => k_asm); (case hf => first | exact rfl | assumption); (case hk => first | exact rfl | assumption); (case hd => k_room); (case hm => k_asm); (case hS => k_asm); (case hx => first | k_mem | k_asm | exact Sm.of_res (by assumption) (fm_lo (by assumption) _) (fm_hi (by assumption) _) | exact Sm.of_res (by assumption) (by assumption) (by assumption)); (case hdx => first | k_mem | k_asm | exact Sm.of_res (by assumption) (fm_lo (by assumption) _) (fm_hi (by assumption) _) | exact Sm.of_res (by assumption) (by assumption) (by assumption)); (case si => first | k_mem | k_asm | exact Sm.of_res (by assumption) (fm_lo (by assumption) _) (fm_hi (by assumption) _) | exact Sm.of_res (by assumption) (by assumption) (by assumption)); k_whole); intro v' x' d' h' t1' t2' t3' t4' tk' hV F' N' l1 l2; (try k_sweep); (try dsimp only [PySem.W.CmpBack, PySem.W.InitBack])))
local macro_rules | `(tactic| k_enter) => `(tactic| ((with_reducible show codeAny _ _ (Code.call (Value.ref 372) _) _ _); k_dflt (refine' divided_ok ?B ?F ?X ?N ?T ?hf ?hk ?hd ?h2 ?hD ?sf ?sl ?_; (case B => k_asm); (case F => k_asm); (case X => k_asm); (case N => k_asm); (case T => k_asm); (case hf => first | exact rfl | assumption); (case hk => first | exact rfl | assumption); (case hd => k_room); (case h2 => k_asm); (case hD => first | exact div_ok (by assumption) (by assumption) | exact rdiv_ok (by assumption) (by assumption)); (case sf => first | k_asm | exact Sm.of_res (by assumption) (fm_lo (by assumption) _) (fm_hi (by assumption) _)); (case sl => first | k_asm); k_whole); intro h' tk' F' N'; (try k_sweep); (try dsimp only [PySem.W.CmpBack, PySem.W.InitBack, PySem.W.LenBack, PySem.W.StrBack, PySem.W.BoolBack])))

set_option maxHeartbeats 3000000 in
theorem stage7 {nm q : Str} {params : Arguments} {body : List Stmt} {scope : Scope} {dV kV doc pm cdv ct oc : Value} {an od : Option Addr} {osl : Array (Option Value)} {fa : Addr} {cd : Value} {g : Addr} {gn : Nat} {g0 g1 g2 g3 g4 g5 g6 g7 g8 : Int} {t0 t1 t2 t3 t4 t5 t6 t7 t8 : Tok} {aA pA dpA qA dqA : Addr} {dueA : Int} {tdA rA1 rA2 rA3 rA4 sA1 sA2 sA3 sA4 : Tok} {aB pB dpB qB dqB : Addr} {dueB : Int} {tdB rB1 rB2 rB3 rB4 sB1 sB2 sB3 sB4 : Tok} {md : Int} {tm : Tok} {QF : Flow → Shared → Prop} (hlk : (Mine.hd.heap_1 w.params).lookup 377 = some ⟨oc, od, .func (fnOf nm q params body scope dV kV doc pm an cdv ct), osl⟩) (B : Below A₀ h₀ [] h₀) (F : Fr h₀ L s.heap m) (X : (Mine.hd.heap_1 w.params).In h₀) (N : News h₀ L s.heap [(aA, tupO [.int dueA tdA, .ref pA, .ref qA]), (pA, instObj 333 dpA), (dpA, FQD w.params rA1 rA2 rA3 rA4 md dueA), (qA, instObj 186 dqA), (dqA, FQD w.params sA1 sA2 sA3 sA4 md dueA), (aB, tupO [.int dueB tdB, .ref pB, .ref qB]), (pB, instObj 333 dpB), (dpB, FQD w.params rB1 rB2 rB3 rB4 md dueB), (qB, instObj 186 dqB), (dqB, FQD w.params sB1 sB2 sB3 sB4 md dueB), (g, listOf #[.int g0 t0, .int g1 t1, .int g2 t2, .int g3 t3, .int g4 t4, .int g5 t5, .int g6 t6, .int g7 t7, .int g8 t8] gn)]) (T : Top p loose mean mg mb h₀) (hdp : d ≤ 700) (hun : u ≤ 200) (hE : PassesOwn (model prog w) ⟨none, d, some [(envOfC q scope L fa cd)], gs, u⟩ (envOfC q scope L fa cd) E) (hb : ∀ i ∈ [g0, g1, g2, g3, g4, g5, g6, g7, g8], Builtin.Int.intBits i ≤ 1048576) (hmd : 2 ≤ md) (hS : Sk md) (hA0 : 0 ≤ dueA) (hA1 : dueA < md) (hB0 : 0 ≤ dueB) (hB1 : dueB < md) (hm1 : m (Str.ofString "first") = some (.ref aA)) (hm2 : m (Str.ofString "last") = some (.ref aB)) (hm3 : m (Str.ofString "given") = some (.ref g)) (hm4 : m (Str.ofString "modulus") = some (.int md tm))
    (h : ∀ m' h' tk, Fr h₀ L h' m' → QF (.ret (.bool true)) { s with heap := h', toks := tk }) :
    wpAny (model prog w) ⟨none, d, some [(envOfC q scope L fa cd)], gs, u⟩ (execs (body.drop 8) (envOfC q scope L fa cd)) QF E s := by
  have hSm : Sm md := hS.sm
  have hsA : Sm dueA := Sm.of_res hS.sm hA0 hA1
  have hsB : Sm dueB := Sm.of_res hS.sm hB0 hB1
  have hsO : Sm g8 := Nat.le_trans (hb g8 (by k_mem)) (by decide)
  refine' with_lookup hlk ?k ?_
  (case k => k_is)
  intro eqo
  cases eqo
  clear hlk
  simp only [List.drop_succ_cons, List.drop_zero, List.take_succ_cons, List.take_zero]
  k_steps
  all_goals (rename Fr _ _ _ _ => qf; exact h _ _ _ qf)
end P_S7
section P_LA
local macro_rules | `(tactic| k_room) => `(tactic| ((try simp only [depth_under_make, depth_under_kw, depth_in1, depth_deeper, depth_caller, recursionLimit]); omega))
local macro_rules | `(tactic| k_all) => `(tactic| (intro p hp; exact Nat.ne_of_lt ((by assumption : ∀ p ∈ _, p.1 < _) p hp)))
local macro_rules | `(tactic| k_units) => `(tactic| ((try simp only [units_in1, units_deeper, Around.mark_units, units_caller, cLine]); omega))
local macro_rules | `(tactic| mul_fits) => `(tactic| exact mulOk_of (by first | assumption | exact Sm.of_res (by assumption) (by assumption) (by assumption)) (by first | assumption | exact Sm.of_res (by assumption) (by assumption) (by assumption)))
variable {prog : Program} {w : World} {A₀ : Around} {s : Shared} {d u : Nat} {gs : Option (List Code)} {env : Env} {outer : List Env} {base h₀ : Heap} {L : Addr} {m mg mb : Str → Option Value} {p : Program} {loose : List Str} {mean : ExcName → Option Value} {news : List (Addr × Obj)} {R : Result → Shared → Prop} {Q : Value → Shared → Prop} {E : Value → Shared → Prop}
local macro_rules | `(tactic| k_steps) => `(tactic| repeat' (first | (k_unfold; (try dsimp only)) | (dsimp only; k_unfold; (try dsimp only)) | walk1 | (dsimp only; walk1) | (leave1; walk_say "STEP leave1"; try dsimp only) | fail "no step"))

theorem execs_at {M : Model} {A : Around} {E : Value → Shared → Prop} {env : Env} {s : Shared} {Q : Flow → Shared → Prop} (i k j : Nat) {b : List Stmt} (hj : i + k = j) (h : wpAny M A (execs ((b.drop i).take k) env) (fun fl s' => match fl with | .next => wpAny M A (execs (b.drop j) env) Q E s' | f => Q f s') E s) : wpAny M A (execs (b.drop i) env) Q E s := by
  refine execs_cut k ?_
  rw [List.drop_drop, hj]
  exact h
set_option maxHeartbeats 1000000 in
theorem law_all {nm q : Str} {params : Arguments} {body : List Stmt} {scope : Scope} {dV kV doc pm cdv ct oc : Value} {an od : Option Addr} {osl : Array (Option Value)} {fa : Addr} {cd : Value} {wo : Obj} {l : Addr} {vs : List Value} {ns : List Int} {QF : Flow → Shared → Prop} (hlk : (Mine.hd.heap_1 w.params).lookup 377 = some ⟨oc, od, .func (fnOf nm q params body scope dV kV doc pm an cdv ct), osl⟩) (B : Below A₀ h₀ [] h₀) (F : Fr h₀ L s.heap m) (X : (Mine.hd.heap_1 w.params).In h₀) (N : News h₀ L s.heap [(L + 1, wo)]) (T : Top p loose mean mg mb h₀) (hdp : d ≤ 700) (hun : u ≤ 200) (hE : PassesOwn (model prog w) ⟨none, d, some [(envOfC q scope L fa cd)], gs, u⟩ (envOfC q scope L fa cd) E) (hwo : wo.data = .cell (some (.ref l))) (hl : h₀.IsList l vs.toArray) (hI : IntsAre vs ns) (hlay : (PyData.list (ns.map PyData.int)).layable0 = true)
    (h : ∀ m' h' tk, Fr h₀ L h' m' → QF (.ret (.bool true)) { s with heap := h', toks := tk }) :
    wpAny (model prog w) ⟨none, d, some [(envOfC q scope L fa cd)], gs, u⟩ (execs body (envOfC q scope L fa cd)) QF E s := by
  rw [← List.drop_zero (l := body)]
  refine execs_at 0 1 1 rfl (stage0 hlk B F X N T hdp hun hwo hl hI hlay ?_)
  intro g gv gn gs' h1 k1 F1 N1 I1 len1 bits1
  obtain ⟨gl⟩ := gv
  obtain ⟨g0, g1, g2, g3, g4, g5, g6, g7, g8, t0, t1, t2, t3, t4, t5, t6, t7, t8, egl, hb⟩ := ints9 I1 len1 bits1
  dsimp only at egl
  subst egl
  refine execs_at 1 1 2 rfl (stage1 hlk B F1 X N1 T hdp hun rfl ?_)
  intro md tm h2 k2 hmd hS F2 N2
  refine execs_at 2 2 4 rfl (stage2 hlk B F2 X N2 T hdp hun hE rfl rfl hmd hS ?_)
  intro m3 lr vs3 n3 rest3 h3 k3 F3 a3 b3 c3 N3 sz3 hr3 ne3 mem3
  refine execs_at 4 1 5 rfl (stage3 hlk B F3 X N3 T hdp hun hE hb b3 c3 hmd hS a3 sz3 hr3 ne3 mem3 ?_)
  intro m4 vs4 n4 rest4 h4 k4 F4 a4 b4 c4 N4 sz4 hr4 ne4 mem4
  refine execs_at 5 1 6 rfl (stage4 hlk B F4 X N4 T hdp hun hE b4 c4 hmd hS a4 sz4 hr4 ne4 mem4 ?_)
  intro m5 vs5 n5 rest5 h5 k5 F5 a5 b5 c5 N5 sz5 hr5 ne5 mem5
  refine execs_at 6 1 7 rfl (stage5 hlk B F5 X N5 T hdp hun hE b5 c5 hmd hS a5 sz5 hr5 ne5 mem5 ?_)
  intro m6 aA pA dpA qA dqA dueA tdA rA1 rA2 rA3 rA4 sA1 sA2 sA3 sA4 aB pB dpB qB dqB dueB tdB rB1 rB2 rB3 rB4 sB1 sB2 sB3 sB4 h6 k6 F6 x6 y6 b6 c6 N6 A0 A1 B0 B1
  refine execs_at 7 1 8 rfl (stage6 hlk B F6 X N6 T hdp hun hE hmd x6 y6 b6 c6 ?_)
  intro m7 h7 k7 F7 x7 y7 b7 c7 N7
  refine stage7 hlk B F7 X N7 T hdp hun hE hb hmd hS A0 A1 B0 B1 x7 y7 b7 c7 ?_
  intro m8 h8 k8 F8
  exact h _ _ _ F8
end P_LA
end Mine
set_option maxHeartbeats 8000000 in
theorem PySem.Challenge.cw_kh0010_01_holds : PySem.Challenge.rw_kh0010_01.Holds := by
  w_on
  o_law
  refine holds_open (q := Mine.hd.view_1) (YP := Mine.hk.says) (XP := XL Mine.hd.view_1 []) Mine.top_run (Hook.of _) (Hook.keeps _) (fun s e => xl_of s (Bool.and_eq_true_iff.mp e).1) XL.keeps (by rfl) (by rfl) (by rfl) (fun s e => recFacts_of (Bool.and_eq_true_iff.mp e).2) (by rfl) (by first | assumption | decide +kernel) (by decide +kernel) ⟨rfl, rfl, rfl, rfl, rfl, by decide +kernel⟩ ?hw ?hc
  case hw => w_witness2
  case hc =>
    k_go0
    all_goals (try k_fold)
    rename Below callerA _ [] _ => K0
    rename News _ _ _ _ => N0
    rename Fr _ _ _ _ => F0
    rename Top _ _ _ _ _ _ => T0
    rename IntsAre _ _ => I0
    rename Heap.IsList _ _ _ => L0
    rename _ = Data.cell _ => C0
    refine' Mine.law_all (A₀ := callerA) ?hlk K0 F0 ?X N0 T0 ?hdp ?hun ?hE C0 L0 I0 ?hlay ?h
    case hlk => k_is
    case X => k_asm
    case hdp => decide
    case hun => decide
    case hE => passes_own
    case hlay => assumption
    case h =>
      intro m8 h8 k8 F8
      wrow_close
