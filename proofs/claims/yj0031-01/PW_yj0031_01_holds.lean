import PyProof.Rows.All
import Wide.All
import OpenK.AllK
import Wide.FinOn
import Lean
import PySem.Challenge.RW_yj0031_01
open PySem PySem.W PyProof.Rows
set_option Elab.async false
set_option maxRecDepth 100000
set_option linter.unusedVariables false
set_option linter.unusedSectionVars false
set_option maxHeartbeats 8000000
set_option rowWalk.seconds 0
namespace YJ
local macro_rules | `(tactic| walk_at $s:str) => `(tactic| k_extra $s)
local macro_rules | `(tactic| omega) => `(tactic| k_extra "omega")
local macro_rules | `(tactic| ktr_room) => `(tactic| k_extra "room")
local macro_rules | `(tactic| ktr_units) => `(tactic| ktr_room)
local macro_rules | `(tactic| k_inst) => `(tactic| k_extra "inst")
local macro_rules | `(tactic| k_ne) => `(tactic| k_extra "ne")
local macro_rules | `(tactic| k_all) => `(tactic| k_extra "all")
local macro_rules | `(tactic| k_updF) => `(tactic| k_extra "updF")
local macro_rules | `(tactic| k_mem) => `(tactic| k_extra "mem")
local macro_rules | `(tactic| k_steps) => `(tactic| k_extra "steps")
variable (w : World) (p : Program) (loose : List Str) (mean : ExcName → Option Value) (mg mb : Str → Option Value)
  (dp un : Nat) (gd : Option (List Code)) (cn : Str) (cs : Scope) (a : Addr) (ccd : Value) (cl : List (Str × Addr)) (outer : List Env) (A₀ : Around) (base h₀ : Heap) (L : Addr) (m : Str → Option Value) (s : Shared) (Q E : Value → Shared → Prop)
section -- JAr
theorem ar_cut {n x y : Nat} (h : x ≤ y) : min x n + (n - y) ≤ n := by
  rw [Nat.add_comm, Nat.min_comm]
  exact Nat.le_trans (Nat.add_le_add_right (Nat.sub_le_sub_left h n) _) (Nat.le_of_eq (Nat.sub_add_min_cancel n x))
theorem ar_cut3 {n m x y : Nat} (h1 : n ≤ 400) (h2 : m ≤ 400) (h : x ≤ y) : min x n + (m + (n - y)) ≤ 1000 := by
  rw [Nat.add_left_comm]
  exact Nat.le_trans (Nat.add_le_add h2 (Nat.le_trans (ar_cut h) h1)) (Nat.le_of_ble_eq_true rfl)
theorem ar_s1 {n k : Nat} (h : k < n) : n - k = n - k - 1 + 1 := (Nat.sub_add_cancel (Nat.sub_pos_of_lt h)).symm
theorem ar_s2 {n k : Nat} (h : k < n) : n - k - 1 < n := Nat.lt_of_lt_of_le (Nat.sub_lt (Nat.sub_pos_of_lt h) Nat.one_pos) (Nat.sub_le n k)
theorem ar_s3 (n k : Nat) : ((n : Int) - (k : Int)).toNat = n - k := Int.toNat_sub n k
theorem ar_s4 (n k : Nat) : ((n : Int) - (k : Int) - 1).toNat = n - k - 1 := by
  rw [Int.sub_sub, Nat.sub_sub]
  exact Int.toNat_sub n (k + 1)
theorem ar_s5 {n k : Nat} (h : n < 80) : n + 1 - (n - k) < 100 := Nat.lt_of_le_of_lt (Nat.sub_le ..) (Nat.lt_of_lt_of_le (Nat.succ_lt_succ h) (Nat.le_of_ble_eq_true rfl))
theorem ar_s6 {n k : Nat} (h : k + 1 ≤ n) : n - (k + 1) < n := Nat.sub_lt (Nat.lt_of_lt_of_le (Nat.succ_pos k) h) (Nat.succ_pos k)
theorem ar_s7 {n k : Nat} (h : k + 1 ≤ n) : n - k = n - (k + 1) + 1 := ar_s1 h
theorem ar_s8 {n k j : Nat} (h : n - k = j + 1) : n - (k + 1) = j := congrArg Nat.pred h
theorem ar_s9 {n i m : Nat} (h : n < m) : min i n - 0 < m := Nat.lt_of_le_of_lt (Nat.min_le_right i n) h
theorem ar_p2 {n : Nat} (h : 0 < n) : (-1 + (n : Int)) = ((n - 1 : Nat) : Int) := by
  rw [Int.add_comm]
  exact (Int.ofNat_sub h).symm
theorem ar_p3 {n : Nat} (h : 0 < n) : (-1 + (n : Int)).toNat = n - 1 := by rw [ar_p2 h]; rfl
theorem mid_ab {l r : Nat} (h : l < r) : ∃ a b, (l + 1 < r → 0 < a ∧ 0 < b) ∧ (l + r) / 2 = l + a ∧ r = l + a + b := by
  obtain ⟨d, rfl⟩ := Nat.exists_eq_add_of_le (Nat.le_of_lt h)
  refine ⟨d / 2, d - d / 2, fun h2 => ?_, ?_, ?_⟩
  · have h3 : 2 ≤ d := Nat.lt_of_add_lt_add_left h2
    exact ⟨Nat.div_pos h3 (Nat.le_of_ble_eq_true rfl), Nat.sub_pos_of_lt (Nat.div_lt_self (Nat.lt_of_lt_of_le (Nat.le_of_ble_eq_true rfl) h3) (Nat.le_of_ble_eq_true rfl))⟩
  · rw [← Nat.add_assoc, ← Nat.two_mul, Nat.mul_add_div (Nat.le_of_ble_eq_true rfl)]
  · rw [Nat.add_assoc, Nat.add_sub_cancel' (Nat.div_le_self d 2)]
theorem mid_sub (l a : Nat) : ((l + a : Nat) : Int) - (l : Int) = (a : Int) := by rw [Int.natCast_add, Int.add_comm, Int.add_sub_cancel]
theorem mid_len {l a b : Nat} : l + a + b - l = a + b := by rw [Nat.add_assoc, Nat.add_sub_cancel_left]
theorem fit_len {l a n : Nat} (h : l + a ≤ n) : min l n + (l + a - l) + (n - (l + a)) = n := by
  rw [Nat.min_eq_left (Nat.le_trans (Nat.le_add_right l a) h), Nat.add_sub_cancel_left, Nat.add_sub_cancel' h]
theorem lt_4 : ∀ v, v < 4 → v = 0 ∨ v = 1 ∨ v = 2 ∨ v = 3 := by decide
theorem lt_4i {t : Int} (h : 0 ≤ t ∧ t < 4) : t = 0 ∨ t = 1 ∨ t = 2 ∨ t = 3 := by
  obtain ⟨n, rfl⟩ := Int.eq_ofNat_of_zero_le h.1
  exact (lt_4 n (Int.ofNat_lt.mp h.2)).imp (congrArg _) (Or.imp (congrArg _) (Or.imp (congrArg _) (congrArg _)))
theorem mod2 (k : Nat) : (k : Int).fmod 2 = ((k % 2 : Nat) : Int) := Int.fmod_eq_emod_of_nonneg _ (Int.ofNat_le.mpr (Nat.zero_le 2))
theorem mod2_ne {k : Nat} (h : (k : Int).fmod 2 ≠ 0) : k % 2 = 1 := (Nat.mod_two_eq_zero_or_one k).resolve_left fun z => h (by rw [mod2, z]; rfl)
theorem mod2_eq {k : Nat} (h : (k : Int).fmod 2 = 0) : k % 2 ≠ 1 := fun z => by rw [mod2, z] at h; exact absurd h (by decide)
theorem ar_n1 {n : Nat} (h : n < 70) : n - 1 + 1 < 80 := Nat.lt_of_le_of_lt (Nat.succ_le_succ (Nat.sub_le n 1)) (Nat.lt_of_lt_of_le (Nat.succ_lt_succ h) (Nat.le_of_ble_eq_true rfl))
end
section -- JAr2
theorem sub_clip (q w : Nat) : (if (q : Int) - (w : Int) > 0 then (q : Int) - (w : Int) else 0) = ((q - w : Nat) : Int) := by
  split
  · rename_i h; exact (Int.ofNat_sub (Int.ofNat_le.mp (Int.le_of_lt (Int.lt_of_sub_pos h)))).symm
  · rename_i h; rw [Nat.sub_eq_zero_of_le (Int.ofNat_le.mp (Int.le_of_sub_nonpos (Int.not_lt.mp h)))]; rfl
theorem sub_min (q w : Nat) : (q : Int) = ((q - w : Nat) : Int) + ((min q w : Nat) : Int) := by
  rw [← Int.natCast_add, Nat.sub_add_min_cancel]
theorem at_kj (k st lo j : Nat) : (((0 : Int) + (k : Int)) * (st : Int) + ((lo : Int) + (j : Int))).toNat = k * st + lo + j := by
  rw [Int.zero_add, Nat.add_assoc]; rfl
theorem zero_k (k : Nat) : ((0 : Int) + (k : Int)).toNat = k := by rw [Int.zero_add]; rfl
theorem wd_rng {wd q : Nat} {S : Int} (h : (wd : Int) = 2 * q ∨ (wd : Int) = 2 * q - 1) (h1 : 1 ≤ q) (h2 : (q : Int) ≤ S) (h3 : S ≤ 16) : 1 ≤ wd ∧ wd ≤ 40 := by
  have h4 : q ≤ 16 := Int.ofNat_le.mp (Int.le_trans h2 h3)
  have h5 : 2 * q ≤ 32 := Nat.mul_le_mul_left 2 h4
  have h6 : 2 ≤ 2 * q := Nat.mul_le_mul_left 2 h1
  rcases h with h | h
  · have e : wd = 2 * q := Int.ofNat.inj h
    rw [e]
    exact ⟨Nat.le_of_succ_le h6, Nat.le_trans h5 (Nat.le_of_ble_eq_true rfl)⟩
  · have e : wd + 1 = 2 * q := Int.ofNat.inj (show (wd : Int) + 1 = 2 * (q : Int) by rw [h, Int.sub_add_cancel])
    exact ⟨Nat.le_of_succ_le_succ (show 1 + 1 ≤ wd + 1 by rw [e]; exact h6), Nat.le_trans (Nat.le_of_succ_le (show wd + 1 ≤ 32 by rw [e]; exact h5)) (Nat.le_of_ble_eq_true rfl)⟩
theorem mod2z {k : Nat} (h : ((0 : Int) + (k : Int)).fmod 2 ≠ 0) : k % 2 = 1 := mod2_ne (by rw [Int.zero_add] at h; exact h)
theorem mod2z_eq {k : Nat} (h : ((0 : Int) + (k : Int)).fmod 2 = 0) : k % 2 ≠ 1 := mod2_eq (by rw [Int.zero_add] at h; exact h)
theorem sub_one_cast {P y : Nat} (h : 1 ≤ y) : (P : Int) + (y : Int) - 1 = ((P + y - 1 : Nat) : Int) := (Int.ofNat_sub (Nat.le_trans h (Nat.le_add_left y P))).symm
theorem one_of4 {a : Int} (h : a = 1 ∨ a = 4 ∨ a = 16 ∨ a = 64) : 0 < a ∧ a ≤ 64 := by rcases h with rfl | rfl | rfl | rfl <;> decide
theorem fm4 {x : Int} (h : 0 ≤ x ∧ x < 4) : 1 ≤ 1 + x ∧ 1 + x ≤ 4 := ⟨Int.le_add_of_nonneg_right h.1, by rw [Int.add_comm]; exact Int.add_one_le_of_lt h.2⟩
theorem sum4 {a b c d : Int} (ha : 1 ≤ a ∧ a ≤ 4) (hb : 1 ≤ b ∧ b ≤ 4) (hc : 1 ≤ c ∧ c ≤ 4) (hd : 1 ≤ d ∧ d ≤ 4) : 4 ≤ a + (b + (c + (d + 0))) ∧ a + (b + (c + (d + 0))) ≤ 16 :=
  ⟨Int.add_le_add ha.1 (Int.add_le_add hb.1 (Int.add_le_add hc.1 (Int.add_le_add hd.1 (Int.le_refl 0)))), Int.add_le_add ha.2 (Int.add_le_add hb.2 (Int.add_le_add hc.2 (Int.add_le_add hd.2 (Int.le_refl 0))))⟩
end
section -- JTree
theorem zsJTree : True := by
  k_with "omega" => (lia)
  trivial
noncomputable def topRunT (tb : String → Option Builtin) (p : Program) (w : World) (n₀ : Nat) (ann : Option Value) : Nat → SharedT → Thread → Option SharedT
  | 0, _, _ => none
  | n + 1, s, t => match through t with
    | true => some s
    | false => match stepOk n₀ ann t with
      | false => none
      | true => match stepT (denote tb) p w s t with
        | some (s', t') => topRunT tb p w n₀ ann n s' t'
        | none => none
theorem topRunT_of {tb : String → Option Builtin} {p : Program} {w : World} {n₀ : Nat} {ann : Option Value} : ∀ {n : Nat} {s s' : SharedT} {t : Thread}, topRunT tb p w n₀ ann n s t = some s' → topRun tb p w n₀ ann n s.abs t = some s'.abs
  | 0, _, _, _, h => by cases h
  | n + 1, s, s', t, h => by
    unfold topRunT at h
    unfold topRun
    cases ht : through t with
    | true => rw [ht] at h; cases h; rfl
    | false =>
      rw [ht] at h
      cases hk : stepOk n₀ ann t with
      | false => rw [hk] at h; cases h
      | true =>
        rw [hk] at h
        cases hs : stepT (denote tb) p w s t with
        | none => rw [hs] at h; cases h
        | some r => obtain ⟨s₂, t₂⟩ := r; rw [hs] at h; dsimp only; rw [stepT_spec hs]; exact topRunT_of h
noncomputable def treeOf (os : List Obj) (n : Nat) : Nat → Nat → Nat → BT
  | 0, _, _ => .nil
  | f + 1, a, b => match Nat.blt b n with
    | true => .node (os.getD b default) (treeOf os n f (2 * a) (a + b)) (treeOf os n f (2 * a) (2 * a + b))
    | false => .nil
theorem treeOf_get (os : List Obj) (n : Nat) : ∀ (f a b i : Nat), n ≤ f + b → 0 < a → a * i + b < n → (treeOf os n f a b).get i = some (os.getD (a * i + b) default)
  | 0, a, b, i, hf, ha, h => by omega
  | f + 1, a, b, i, hf, ha, h => by
    have hb : b < n := Nat.lt_of_le_of_lt (Nat.le_add_left b (a * i)) h
    have e : Nat.blt b n = true := Nat.ble_eq_true_of_le hb
    unfold treeOf
    rw [e]
    dsimp only
    rw [BT.get_node]
    by_cases h0 : i = 0
    · subst h0; rw [if_pos rfl, Nat.mul_zero, Nat.zero_add]
    · rw [if_neg h0]
      by_cases p : i % 2 = 1
      · have e1 : a * i + b = 2 * a * (i / 2) + (a + b) := X.KT.arith1 p
        rw [if_pos p, treeOf_get os n f (2 * a) (a + b) (i / 2) (by omega) (by omega) (by rw [← e1]; exact h), ← e1]
      · have e1 : a * i + b = 2 * a * (i / 2 - 1) + (2 * a + b) := X.KT.arith2 h0 p
        rw [if_neg p, treeOf_get os n f (2 * a) (2 * a + b) (i / 2 - 1) (by omega) (by omega) (by rw [← e1]; exact h), ← e1]
noncomputable def toT (s : Shared) : SharedT := ⟨treeOf s.heap.objs.toList s.heap.objs.size s.heap.objs.size 1 0, s.heap.objs.size, s.heap.life, s.gens, s.drawn, s.toks, s.os⟩
theorem toT_abs (s : Shared) : (toT s).abs = s := by
  obtain ⟨⟨objs, life⟩, gens, drawn, toks, os⟩ := s
  show Shared.mk (absHeap (treeOf objs.toList objs.size objs.size 1 0) objs.size life) gens drawn toks os = _
  have : absHeap (treeOf objs.toList objs.size objs.size 1 0) objs.size life = ⟨objs, life⟩ := by
    have e : (absHeap (treeOf objs.toList objs.size objs.size 1 0) objs.size life).objs = objs := by
      apply Array.ext_getElem?
      intro i
      rw [absHeap_at]
      by_cases h : i < objs.size
      · rw [if_pos h, treeOf_get objs.toList objs.size objs.size 1 0 i (by omega) (by omega) (by omega)]
        rw [Array.getElem?_eq_getElem h]
        simp [h]
      · rw [if_neg h, Array.getElem?_eq_none (by omega)]
    show Heap.mk _ life = _
    exact congrArg (Heap.mk · life) e
  rw [this]
noncomputable def endT (b : Bool) (o : Option SharedT) (ck : SharedT → Bool) : Option Shared := match b with
  | true => o.bind fun s₁ => match ck s₁ with
    | true => some s₁.abs
    | false => none
  | false => none
noncomputable def topFromT (tb : String → Option Builtin) (p : Program) (w : World) (N : Nat) (s₀ : Shared) : Option Shared :=
  endT (s₀.heap.isNs mainGlobals && s₀.gens.size == 0) (topRunT tb p w s₀.heap.objs.size (s₀.heap.nsMap mainGlobals "__annotations__") N (toT s₀) (topStub p)) fun s₁ => staticsOk (importedModules p.main.body) s₀.heap s₁.abs.heap && namesBound p s₁.abs.heap && gensDone s₁.abs && laidKept s₀.heap s₁.abs.heap
theorem topFromT_of {tb : String → Option Builtin} {p : Program} {w : World} {N : Nat} {s₀ s₁ : Shared} (h : topFromT tb p w N s₀ = some s₁) : topFrom tb p w N s₀ = some s₁ := by
  unfold topFromT endT at h
  unfold topFrom
  cases h1 : (s₀.heap.isNs mainGlobals && s₀.gens.size == 0) with
  | false => rw [h1] at h; cases h
  | true =>
    rw [h1] at h
    dsimp only at h ⊢
    obtain ⟨s₂, e, k⟩ := Option.bind_eq_some_iff.mp h
    have e2 := topRunT_of e
    rw [toT_abs] at e2
    rw [e2]
    exact k
theorem left_of {p q : Program} {loose : List Str} {Xt : Shared → Bool} {α : Type} {Yf : Shared → α} {Ya : World → α} {N : Nat} {g0 : Bool}
    (h : ∀ w : World, ((fencedOpening treeTable p w N).bind (topFromT treeTable p w N)).map (fun s => (openSeen q loose (importedModules p.main.body) Xt g0 s, Yf s)) = some (openGood q loose, Ya w)) : LeftO p q loose Xt Yf Ya N g0 := fun w => by
  obtain ⟨s, e, e'⟩ := Option.map_eq_some_iff.mp (h w)
  obtain ⟨s₀, e1, e2⟩ := Option.bind_eq_some_iff.mp e
  unfold openEnds
  rw [e1]
  show (topFrom treeTable p w N s₀).map _ = _
  rw [topFromT_of e2]
  exact congrArg some e'
noncomputable def getT (s : SharedT) (a : Addr) : Option Obj := match Nat.blt a s.n with
  | true => alive ((s.tree.get a).getD default)
  | false => none
theorem get_alike {h h' : Heap} {a b : Addr} (e : h.objs[a]? = h'.objs[b]?) : h.get? a = h'.get? b := by
  unfold Heap.get?
  rw [e]
theorem getT_abs (s : SharedT) (a : Addr) : s.abs.heap.get? a = getT s a := by
  show (absHeap s.tree s.n s.life).get? a = getT s a
  unfold getT
  cases h : Nat.blt a s.n with
  | true => exact (get_alike (h' := absHeap (.node ((s.tree.get a).getD default) .nil .nil) 1 s.life) (b := 0) ((absHeap_at ..).trans (if_pos (Nat.le_of_ble_eq_true h)))).trans (abs_get Nat.one_pos rfl)
  | false => exact abs_get_none fun q => Bool.noConfusion (h.symm.trans (Nat.ble_eq_true_of_le q))
theorem top_some {b : Bool} {o : Option SharedT} {ck : SharedT → Bool} {s : Shared} (h : endT b o ck = some s) : ∃ s₁, o = some s₁ ∧ s = s₁.abs := by
  cases b with
  | false => cases h
  | true => cases o with
    | none => cases h
    | some s₁ =>
      refine ⟨s₁, rfl, ?_⟩
      replace h : (match ck s₁ with | true => some s₁.abs | false => none) = some s := h
      generalize ck s₁ = c at h
      cases c with
      | true => exact (Option.some.inj h).symm
      | false => cases h
theorem map_out {α β : Type} {o : Option α} {x : α} {f : α → β} {y : β} (e : o = some x) (h : o.map f = some y) : f x = y := by
  subst e
  exact Option.some.inj h
theorem map_in {α β : Type} {o : Option α} {x : α} {f : α → β} {y : β} (e : o = some x) (h : f x = y) : o.map f = some y := by
  subst e
  exact congrArg some h
theorem runs_of {p : Program} {w : World} {N : Nat} {α : Type} {f : Shared → α} {y : α} (h : ((fencedOpening treeTable p w N).bind (topFromT treeTable p w N)).map f = some y) :
    ∃ s₁, (fencedOpening treeTable p w N).bind (topFromT treeTable p w N) = some s₁.abs ∧ ((fencedOpening treeTable p w N).bind fun s₀ => topRunT treeTable p w s₀.heap.objs.size (s₀.heap.nsMap mainGlobals "__annotations__") N (toT s₀) (topStub p)) = some s₁ ∧ f s₁.abs = y := by
  obtain ⟨s, e, e'⟩ := Option.map_eq_some_iff.mp h
  obtain ⟨s₀, e1, e2⟩ := Option.bind_eq_some_iff.mp e
  obtain ⟨s₁, e4, rfl⟩ := top_some e2
  exact ⟨s₁, e, Option.bind_eq_some_iff.mpr ⟨s₀, e1, e4⟩, e'⟩
end
section -- JHd
def qv : Program := view PySem.Challenge.pw_yj0031_01 [0, 1, 5, 6, 7, 8, 9, 10, 12, 13, 14, 15, 17, 18, 19, 21, 23, 24, 25, 26, 27, 28, 29, 30, 31]
abbrev rowR : RowW := OpenRow.toRowW (OpenLaw.row PySem.Challenge.rw_yj0031_01)
theorem said : OpenLaw.wellSaid PySem.Challenge.rw_yj0031_01 = true := by decide +kernel
local macro_rules | `(tactic| o_law) => `(tactic| refine holds_law YJ.said fun said => ?_)
noncomputable def seeH (s : Shared) := openSeen qv [PySem.Str.ofString "capwords", PySem.Str.ofString "_Accumulator", PySem.Str.ofString "tspecials", PySem.Str.ofString "_name_disallowed_re", PySem.Str.ofString "_value_disallowed_re", PySem.Str.ofString "_formatparam"] (importedModules rowR.prog.main.body) (fun s => xlAt qv [] s && recOk (RowW.records rowR) s) true s
theorem seenH : ∀ w : World, ((fencedOpening treeTable rowR.prog w 5256).bind (topFromT treeTable rowR.prog w 5256)).map (fun s => (seeH s).2.2.2.2.2) = some (plainGoodE qv (looseW qv [PySem.Str.ofString "capwords", PySem.Str.ofString "_Accumulator", PySem.Str.ofString "tspecials", PySem.Str.ofString "_name_disallowed_re", PySem.Str.ofString "_value_disallowed_re", PySem.Str.ofString "_formatparam"]), plainGoodD qv [PySem.Str.ofString "capwords", PySem.Str.ofString "_Accumulator", PySem.Str.ofString "tspecials", PySem.Str.ofString "_name_disallowed_re", PySem.Str.ofString "_value_disallowed_re", PySem.Str.ofString "_formatparam"], wideGood qv, clsGoodW qv [PySem.Str.ofString "capwords", PySem.Str.ofString "_Accumulator", PySem.Str.ofString "tspecials", PySem.Str.ofString "_name_disallowed_re", PySem.Str.ofString "_value_disallowed_re", PySem.Str.ofString "_formatparam"]) := by intro w; kernel_rfl
theorem openH (K : Params → Frag) (as : List Addr) (e : ∀ P, as = (K P).map (·.1)) (ts : List Addr) {d : DefRec} {kwd : List (Str × Expr)} (k1 : (OpenLaw.row PySem.Challenge.rw_yj0031_01).wellSaid = true) (hdef : defOf qv rowR.name = some (d, kwd)) (hp : rowR.prog.theDef rowR.name = some (d.params, d.body, d.scope)) (hk : kwWritten? d.params.kwonlyargs d.params.kw_defaults = some kwd)
    (hl : ∀ w : World, ((fencedOpening treeTable rowR.prog w 5256).bind fun s₀ => topRunT treeTable rowR.prog w s₀.heap.objs.size (s₀.heap.nsMap mainGlobals "__annotations__") 5256 (toT s₀) (topStub rowR.prog)).map (fun s => ((as.map (getT s), ts.map (getT s)), (seeH s.abs).1, (seeH s.abs).2.1, (seeH s.abs).2.2.1, (seeH s.abs).2.2.2.1, (seeH s.abs).2.2.2.2.1))
      = some (((K w.params).map fun p => some p.2, ts.map fun _ => some (tabObj #[])), expectedOf qv, bltViewBooted, true, true, pinGoodD (drecsOf qv))) (hw : rowR.promised)
    (call : WalkO qv [PySem.Str.ofString "capwords", PySem.Str.ofString "_Accumulator", PySem.Str.ofString "tspecials", PySem.Str.ofString "_name_disallowed_re", PySem.Str.ofString "_value_disallowed_re", PySem.Str.ofString "_formatparam"] (XL qv []) (kmHook K as e ts).says rowR d kwd fun f vs => PySem.call f vs) : (OpenLaw.row PySem.Challenge.rw_yj0031_01).Holds := by
  refine holds_open (q := qv) (Xt := fun s => xlAt qv [] s && recOk (RowW.records rowR) s) (XP := XL qv []) (Yf := (kmHook K as e ts).obs) (Ya := (kmHook K as e ts).val) (YP := (kmHook K as e ts).says) (N := 5256) (left_of fun w => ?_) (kmHook K as e ts).of (kmHook K as e ts).keeps (fun s e => xl_of s (Bool.and_eq_true_iff.mp e).1) XL.keeps hdef hp hk (fun s e => recFacts_of (Bool.and_eq_true_iff.mp e).2) (by rfl) k1 (by decide +kernel) ⟨rfl, rfl, rfl, rfl, rfl, by decide +kernel⟩ hw call
  obtain ⟨s₁, e1, e2, e4⟩ := runs_of (seenH w)
  have hb := map_out e2 (hl w)
  exact map_in e1 (Prod.ext (Prod.ext (congrArg (·.2.1) hb) (Prod.ext (congrArg (·.2.2.1) hb) (Prod.ext (congrArg (·.2.2.2.1) hb) (Prod.ext (congrArg (·.2.2.2.2.1) hb) (Prod.ext (congrArg (·.2.2.2.2.2) hb) e4))))) ((congrArg (fun g => (as.map g, ts.map g)) (funext (getT_abs s₁))).trans (congrArg (·.1) hb)))
local macro_rules | `(tactic| o_head (kmHook $k $a $e $_)) => `(tactic| (refine openH $k $a $e [69, 62, 200, 207] (by assumption) (by rfl) (by rfl) (by rfl) ?hl ?hw ?hc; (case hl => intro w; kernel_rfl)))
open_top hd for PySem.Challenge.rw_yj0031_01
end
section -- JPre
inductive YEx2 {A B : Type} (P : A → B → Prop) : Prop
  | mk (a : A) (b : B) (pf : P a b) : YEx2 P
inductive YEx4 {A B C D : Type} (P : A → B → C → D → Prop) : Prop
  | mk (a : A) (b : B) (c : C) (d : D) (pf : P a b c d) : YEx4 P
inductive YEx8 {A B C D E F G H : Type} (P : A → B → C → D → E → F → G → H → Prop) : Prop
  | mk (a : A) (b : B) (c : C) (d : D) (e : E) (f : F) (g : G) (h : H) (pf : P a b c d e f g h) : YEx8 P
inductive YAnd4 (A B C D : Prop) : Prop
  | mk (a : A) (b : B) (c : C) (d : D) : YAnd4 A B C D
inductive YAnd8 (A B C D E F G H : Prop) : Prop
  | mk (a : A) (b : B) (c : C) (d : D) (e : E) (f : F) (g : G) (h : H) : YAnd8 A B C D E F G H
theorem room0 {a k l M : Nat} (h : a + l < M) (hk : k ≤ l) : a + k < M := Nat.lt_of_le_of_lt (Nat.add_le_add_left hk a) h
theorem room1 {a i k l M : Nat} (h : a + l < M) (hk : i + k ≤ l) : a + i + k < M := by rw [Nat.add_assoc]; exact room0 h hk
theorem room2 {a l M : Nat} (h : a + l < M) : a < M := Nat.lt_of_le_of_lt (Nat.le_add_right a l) h
theorem y_all0 {P : Addr × Obj → Prop} : ∀ p ∈ ([] : List (Addr × Obj)), P p := fun p hp => by cases hp
theorem y_allc {P : Addr × Obj → Prop} {a : Addr × Obj} {r : List (Addr × Obj)} (h : P a) (k : ∀ p ∈ r, P p) : ∀ p ∈ a :: r, P p := fun p hp => by
  rcases List.mem_cons.mp hp with rfl | hp
  · exact h
  · exact k p hp
theorem y_subn {l : List (Addr × Obj)} : ∀ p ∈ ([] : List (Addr × Obj)), p ∈ l := fun _ h => nomatch h
theorem y_subt {a : Addr × Obj} {r l : List (Addr × Obj)} (h : ∀ p ∈ r, p ∈ l) : ∀ p ∈ r, p ∈ a :: l := fun p hp => .tail _ (h p hp)
theorem subc {a : Addr × Obj} {r l : List (Addr × Obj)} (h : a ∈ l) (k : ∀ p ∈ r, p ∈ l) : ∀ p ∈ a :: r, p ∈ l := fun p hp => by
  rcases List.mem_cons.mp hp with rfl | hp
  · exact h
  · exact k p hp
end
local macro_rules | `(tactic| ktr_room) => `(tactic| (first | exact room0 (by assumption) (Nat.le_of_ble_eq_true rfl) | exact room1 (by assumption) (Nat.le_of_ble_eq_true rfl) | exact room2 (by assumption) | lia))
section -- JBase
open PySem.Calls
noncomputable def Ge (mu : List Addr) (h h' : Heap) : Prop := ∀ b o, b ∉ mu → h.get? b = some o → h'.get? b = some o
noncomputable def YEnd (Q : Value → Shared → Prop) (v : Value) (s' : Shared) : Prop := Q v s'
noncomputable def HG (mu : List Addr) (h g : Heap) : Prop := Ge mu h g
section
variable {prog : Program} {w : World} {A₀ A : Around} {s : Shared} {base h₀ : Heap} {outer : List Env} {L : Addr} {m mg mb : Str → Option Value} {env : Env} {news : List (Addr × Obj)} {K : Frag}
  {p : Program} {loose : List Str} {mean : ExcName → Option Value}
  {Q E : Value → Shared → Prop} {name qual : Str} {params : Arguments} {body : List Stmt} {scope : Scope} {dV kV doc pm cdv ct oc : Value} {an od : Option Addr} {osl : Array (Option Value)} {f : Addr} {args : Args} {binds : List (Str × Value)}
theorem hg_all (N : News h₀ L s.heap news) : HG (news.map (·.1)) s.heap (hideAll s.heap (news.map (·.1))) := fun _ _ hb e => hideAll_get _ e hb
theorem y_code (B : Below A₀ base outer h₀) (F : Fr h₀ L s.heap m) (X : K.In h₀) (N : News h₀ L s.heap news) (T : Top p loose mean mg mb h₀) (hA : A.frames = some (env :: outer)) (hf : env.frame = some L) (hke : env.scope.kind = .function)
    (ho : K.lookup f = some ⟨oc, od, .func (fnOf name qual params body scope dV kV doc pm an cdv ct), osl⟩) (hcd : codeIn K cdv qual = true) (hroom : A.depth < recursionLimit)
    (hbind : BindsTo s (fnOf name qual params body scope dV kV doc pm an cdv ct) args binds) (hloc : ∀ y ∈ binds, scope.names.lookup y.1 = some .local)
    (h : ∀ g L' h₁, HG (news.map (·.1)) s.heap g → Fr g L' h₁ (fun y => binds.reverse.lookup y) → News g L' h₁ news → Below A base (env :: outer) g → K.In g → Top p loose mean mg mb g → (∀ p ∈ news, p.1 < L') → 
      wpAny (model prog w) (A.deeper (envOf qual scope L' f cdv)) (execs body (envOf qual scope L' f cdv))
        (fun fl s' => YEnd Q (match fl with | .ret v => v | _ => .none) s') (fun _ _ => False) { s with heap := h₁, toks := s.toks + binds.length })
    (hco : scope.isCoroutine = false) (hgen : scope.isGenerator = false) (hk : scope.kind = .function)
    (hcell : ∀ x ∈ scope.names, x.2 ≠ .cell) : codeAny (model prog w) A (.call (.ref f) args) (fun r s' => match r with | .ok (.ret v) => Q v s' | .ok _ => False | .error e => E e s') s := by
  obtain ⟨_, BG, st, _⟩ := groundX (R := fun _ _ => True) B F N hA hf hke
  refine codeAny_call_def (fd := fnOf name qual params body scope dV kV doc pm an cdv ct) (body := body) (binds := binds) hroom ((X.keeps F.keep) _ _ ho) rfl (T.nolimit.keeps F.keep) (codeRec_of (X.keeps F.keep) hcd) rfl hbind hcell hloc (fun h₁ hns hk₁ => ?_) hco hgen hk
  refine wpAny_mono (h _ s.heap.objs.size h₁ (hg_all N) ⟨hns, fun b o e => hk₁ b o (of_hideAll _ e), Nat.le_of_eq (hideAll_size _ _)⟩
    (fun p hp => ⟨hk₁ _ _ (N p hp).1, Nat.ne_of_lt (Heap.lt_size (N p hp).1), hideAll_none _ (List.mem_map_of_mem hp)⟩) BG (X.keeps st) (T.keeps st) (fun p hp => Heap.lt_size (N p hp).1)) (fun fl s' hl => ?_) fun _ _ y => y.elim
  exact hl
end
noncomputable abbrev accObj (ax : Addr) (its : Array Value) (n : Nat) : Obj := { cls := .ref 238, dict := some ax, data := .seq its n }
theorem inst_seq {h₀ h : Heap} {L x C dx : Addr} {news : List (Addr × Obj)} {od : Obj} {sl : Array (Option Value)} {its : Array Value} {n : Nat} (N : News h₀ L h news) (h1 : (x, (⟨.ref C, some dx, .seq its n, sl⟩ : Obj)) ∈ news) (h2 : (dx, od) ∈ news) :
    InstAt h x ⟨.ref C, some dx, .seq its n, sl⟩ C (some od) := ⟨(N _ h1).1, rfl, rfl, (N _ h2).1⟩
end
section -- JAcc
open PySem.Calls
section
variable {prog : Program} {w : World} {A : Around} {E : Value → Shared → Prop} {s : Shared} {K : Frag} {x C : Addr} {ox : Obj} {od : Option Obj} {name : Str} {expr : Bool}
theorem lga_slot : builtinKind "list.__getattribute__" = some .slot := by decide +kernel
theorem lga_split : splitId "list.__getattribute__" = some ("list", "__getattribute__") := by decide +kernel
theorem lga_canon : (Manifest.canonical "list.__getattribute__" != "object.__getattribute__") = false := by decide +kernel
theorem inst_of_list (X : K.In s.heap) (I : InstAt s.heap x ox C od) (hm : mroIn K C (.type "list") = some true) : Looks (model prog w) s.heap (isInstance (.ref x) (.type "list")) true :=
  I.type.andThen (looks_mroIn X hm)
set_option maxHeartbeats 400000 in
theorem y_get {v : Value} {Q : Value → Shared → Prop} (X : K.In s.heap) (I : InstAt s.heap x ox C od) (hga : findIn K (.ref C) "__getattribute__" = some (some (.builtin "list.__getattribute__"))) (hgt : findIn K (.ref C) "__getattr__" = some none)
    (hm : mroIn K C (.type "list") = some true) (hf : findObj K C od name = some (.value v)) (hh : handedIn v = true) (h : Q v { s with toks := s.toks + 1 }) : wpAny (model prog w) A (getAttr (.ref x) name expr) Q E s := by
  obtain ⟨hp, g, d, t, os⟩ := s
  have L0 := I.type (M := model prog w)
  have L1 := looks_findIn (M := model prog w) X hga
  have L2 := looks_findIn (M := model prog w) X hgt
  have L3 := looks_find (M := model prog w) X I hf
  have L4 := inst_of_list (prog := prog) (w := w) (s := ⟨hp, g, d, t, os⟩) X I hm
  unfold getAttr getAttrBy
  refine wpAny_bind (wpAny_mkText (wpAny_holding (wpAny_bind (L0.at (wpAny_bind (L1.at ?_))))))
  show wpAny _ _ (getAttrByItsOwn _ _ _ _ _ _) _ _ _
  unfold getAttrByItsOwn
  refine wpAny_bind (show wpAny _ _ (typeLookup _ _) _ _ _ from L2.at (wpAny_bind (wpAny_attempt (wpAny_holding ?_))))
  have e : callGetattribute (.ref x) (.str name t) (.builtin "list.__getattribute__") expr = boundAndCalled (.builtin "list.__getattribute__") (.ref x) (.str name t) := by
    unfold callGetattribute; cases expr <;> rfl
  rw [e]
  unfold boundAndCalled
  refine wpAny_bind (wpAny_of_eq (F.slot_list_getattribute.bind (.ref x)) ?_)
  refine wpAny_call ?_
  show codeAny _ _ (.call (.builtin "list.__getattribute__") ⟨[.ref x, .str name t], []⟩) _ _
  refine codeAny_call_builtin F.slot_list_getattribute.plain F.entry_list_ga (@check_slot (model prog w) _ _ ⟨hp, g, d, t + 1, os⟩ "list.__getattribute__" "list" "__getattribute__" (.ref x) [.str name t] [] _ lga_slot lga_split L4 (F.args_list_getattribute_2 _ _) ?_)
  refine wpAny_bind (wpAny_pure (wpAny_bind (wpAny_pure (wpAny_bind (L0.at (wpAny_bind (L3.at ?_)))))))
  refine wpAny_pure ?_
  show wpAny _ _ (handedOut v) _ _ _
  rw [handedOut_of hh]; exact wpAny_pure h
theorem y_method {pl : Sem Bool} {Q : Value × List Value → Shared → Prop} {f : Value} (X : K.In s.heap) (I : InstAt s.heap x ox C od) (hga : findIn K (.ref C) "__getattribute__" = some (some (.builtin "list.__getattribute__"))) (hgt : findIn K (.ref C) "__getattr__" = some none)
    (hf : findIn K (.ref C) name = some (some f)) (ht : typeIn K f = some (.type "function") ∨ typeIn K f = some (.type "method_descriptor")) (hs : shadowIn od name = some false) (h : Q (f, [.ref x]) s) :
    wpAny (model prog w) A (getMethod (.ref x) name pl) Q E s := by
  unfold getMethod specialOf
  refine wpAny_bind (wpAny_bind (I.type.here ((looks_findIn X hga).here ?_)))
  dsimp only
  rw [lga_canon, if_neg (by decide)]
  refine wpAny_bind (wpAny_bind (I.type.here ((looks_findIn X hgt).here ?_)))
  refine wpAny_bind (wpAny_bind (I.type.here ((looks_findIn X hf).here ?_)))
  have go : wpAny (model prog w) A (do
      if let .ref a := (Value.ref x) then
        if let some d := (← loadPart a (some headPart)).dict then
          if (← nsGet d name).isSome then return ← (do return (← getAttr (.ref x) name, ([] : List Value)))
      rule "call.method-form"
      return (f, [Value.ref x])) Q E s := by
    refine wpAny_bind (wpAny_loadPart I.at_ ?_)
    have hd := I.dict
    cases e : ox.dict with
    | none => exact wpAny_bind (wpAny_rule (wpAny_pure h))
    | some dx =>
      cases od with
      | none => rw [e] at hd; exact hd.elim
      | some o =>
        rw [e] at hd
        obtain ⟨r, a, b⟩ := Option.map_eq_some_iff.mp hs
        refine wpAny_bind (wpAny_bind (wpAny_loadPart hd ?_))
        rw [nsLook_of a]
        refine wpAny_pure ?_
        rw [b]
        exact wpAny_bind (wpAny_rule (wpAny_pure h))
  rcases ht with ht | ht
  · refine wpAny_bind ((looks_typeIn X ht).here ?_)
    rw [if_neg (by decide +kernel)]
    exact go
  · refine wpAny_bind ((looks_typeIn X ht).here ?_)
    rw [if_neg (by decide +kernel)]
    exact go
theorem y_check {i owner n : String} {self : Value} {rest : List Value} {kw : List (Str × Value)} {Q : Unit → Shared → Prop}
    (hk : builtinKind i = some .slot ∨ builtinKind i = some .method) (hs : splitId i = some (owner, n)) (hi : Looks (model prog w) s.heap (isInstance self (.type owner)) true) (ha : argsOk i ⟨self :: rest, kw⟩) (q : Q () s) :
    wpAny (model prog w) A (checkBuiltinCall i ⟨self :: rest, kw⟩) Q E s := by
  rcases hk with hk | hk
  · exact check_slot hk hs hi ha q
  · simp only [checkBuiltinCall, hk, hs]
    refine wpAny_bind (hi.here ?_)
    simp only [Bool.not_true, Bool.false_eq_true, if_false]
    cases hsig : Manifest.signature? i with
    | none => exact wpAny_pure q
    | some sig =>
      simp only [argsOk, hsig] at ha
      have h2 : Bind.checkArgs i sig ⟨self :: rest, kw⟩ = pure () := ha
      show wpAny _ A (Bind.checkArgs i sig ⟨self :: rest, kw⟩) Q E s
      rw [h2]; exact wpAny_pure q
theorem y_bcall {id n n' : String} {b : Builtin} {rest : List Value} {Q : Value → Shared → Prop} {nm : Str} (hsl : Slot n nm id) (hb : entryFor table id = some b) (hk : builtinKind id = some .slot ∨ builtinKind id = some .method)
    (hs : splitId id = some ("list", n')) (ha : argsOk id ⟨.ref x :: rest, []⟩) (hi : Looks (model prog w) s.heap (isInstance (.ref x) (.type "list")) true)
    (h : wpAny (model prog w) A.in1 (b ⟨.ref x :: rest, []⟩) (fun fin s' => ∃ v, fin = .done (.ret v) ∧ Q v s') E s) : wpAny (model prog w) A (call (.builtin id) (.ref x :: rest)) Q E s := by
  refine wpAny_call (codeAny_call_builtin hsl.plain hb (y_check hk hs hi ha (wpAny_mono h (fun fin s' hh => ?_) fun _ _ z => z)))
  obtain ⟨v, rfl, q⟩ := hh
  exact q
theorem y_special {id : String} {args : List Value} {Q : Option Value → Shared → Prop} (X : K.In s.heap) (I : InstAt s.heap x ox C od) (hf : findIn K (.ref C) name = some (some (.builtin id)))
    (hb : bindSpecial (.builtin id) (.ref x) = pure (.builtin id, [.ref x])) (h : wpAny (model prog w) A (call (.builtin id) (.ref x :: args)) (fun v => Q (some v)) E s) : wpAny (model prog w) A (callSpecial? (.ref x) name args) Q E s := by
  unfold callSpecial? specialOf
  refine wpAny_bind (wpAny_bind (I.type.here ((looks_findIn X hf).here (wpAny_holding ?_))))
  rw [hb]
  exact wpAny_bind (wpAny_pure (wpAny_bind (wpAny_mono h (fun _ _ z => wpAny_pure z) fun _ _ z => z)))
end
structure AccAt (w : World) (s : Shared) (x ax : Addr) (its : Array Value) (n : Nat) (od : Obj) : Prop where
  X : (hd.heap_1 w.params).In s.heap
  I : InstAt s.heap x (accObj ax its n) 238 (some od)
section
variable {prog : Program} {w : World} {A : Around} {E : Value → Shared → Prop} {s : Shared} {x ax l : Addr} {its : Array Value} {n : Nat} {od : Obj}
theorem acc_mro (w : World) : mroIn (hd.heap_1 w.params) 238 (.type "list") = some true := by kernel_rfl
theorem acc_find_item (w : World) : findIn (hd.heap_1 w.params) (.ref 238) "__getitem__" = some (some (.builtin "list.__getitem__")) := by kernel_rfl
theorem acc_find_set (w : World) : findIn (hd.heap_1 w.params) (.ref 238) "__setitem__" = some (some (.builtin "list.__setitem__")) := by kernel_rfl
theorem acc_find_iter (w : World) : findIn (hd.heap_1 w.params) (.ref 238) "__iter__" = some (some (.builtin "list.__iter__")) := by kernel_rfl
theorem AccAt.list (a : AccAt w s x ax its n od) : Looks (model prog w) s.heap (isInstance (.ref x) (.type "list")) true := inst_of_list a.X a.I (acc_mro w)
theorem k_meth_append : builtinKind "list.append" = some .method := by decide +kernel
theorem k_split_append : splitId "list.append" = some ("list", "append") := by decide +kernel
theorem acc_map (f : Array Value → Array Value) : Obj.mapSeq f (accObj ax its n) = accObj ax (f its) (if ((f its).size == its.size) = true then n else n + 1) := rfl
theorem erase_last (vs : List Value) (v : Value) : (vs ++ [v]).eraseIdx vs.length = vs := by induction vs <;> simp_all
theorem line_is : sizeLine = 16777216 := rfl
theorem acc_upd {f : Array Value → Array Value} {Q : Unit → Shared → Prop} (a : AccAt w s x ax its n od) (hsz : its.size ≤ 1000) (hsz' : (f its).size ≤ 1000)
    (h : ∀ h' n', Heap.SameBut x s.heap h' → h'.get? x = some (accObj ax (f its) n') → Q () { s with heap := h' }) : wpAny (model prog w) A (updateSeq x f) Q E s := by
  have hx := a.I.at_
  refine wpAny_updateSeq hx rfl (h _ (if ((f its).size == its.size) = true then n else n + 1) (Heap.SameBut.update ..) ?_) (by rw [line_is]; omega) (by rw [line_is]; omega)
  rw [Heap.get?_update_self _ hx (by rw [acc_map]; rfl), acc_map]
theorem acc_append {v : Value} {Q : Value → Shared → Prop} (a : AccAt w s x ax its n od) (hsz : its.size ≤ 900)
    (h : ∀ h' n', Heap.SameBut x s.heap h' → h'.get? x = some (accObj ax (its.push v) n') → Q .none { s with heap := h' }) : wpAny (model prog w) A (call (.builtin "list.append") [.ref x, v]) Q E s := by
  refine y_bcall F.slot_list_append F.entry_list_append (.inr k_meth_append) k_split_append (F.args_list_append_2 _ _) a.list ?_
  show wpAny _ _ (updateSeq x (·.push v) >>= fun _ => ret .none) _ _ s
  exact wpAny_bind (acc_upd a (by omega) (by rw [Array.size_push]; omega) fun h' n' e1 e2 => wpAny_pure ⟨.none, rfl, h h' n' e1 e2⟩)
theorem acc_pop_b {vs : List Value} {v : Value} {Q : Value → Shared → Prop} (a : AccAt w s x ax (vs ++ [v]).toArray n od) (hsz : vs.length ≤ 900)
    (h : ∀ h' n', Heap.SameBut x s.heap h' → h'.get? x = some (accObj ax vs.toArray n') → Q v { s with heap := h' }) : wpAny (model prog w) A (Builtin.«list.pop» ⟨[.ref x], []⟩) (fun fin s' => ∃ v, fin = .done (.ret v) ∧ Q v s') E s := by
  have hx := a.I.at_
  unfold Builtin.«list.pop»
  refine wpAny_bind (wpAny_pure (wpAny_bind (wpAny_pure (wpAny_bind ?_))))
  unfold Builtin.List.listItems
  refine wpAny_bind (wpAny_seqItems hx rfl (wpAny_pure ?_))
  have h1 : ¬ (((vs ++ [v]).toArray).isEmpty = true) := by simp
  rw [if_neg h1]
  have h2 : ((seqIndex? (-1) ((vs ++ [v]).toArray).size).bind fun k => Option.map (fun y => (k, y)) ((vs ++ [v]).toArray)[k]?) = some (vs.length, v) := by
    have e : seqIndex? (-1) ((vs ++ [v]).toArray).size = some vs.length := by
      unfold seqIndex?
      simp
      omega
    rw [e]
    simp
  rw [h2]
  have q : ((vs ++ [v]).toArray).eraseIdxIfInBounds vs.length = vs.toArray := by
    simp [Array.eraseIdxIfInBounds, erase_last]
  refine wpAny_bind (acc_upd a (by simp; omega) (by rw [q]; simp; omega) fun h' n' e1 e2 => wpAny_pure ⟨v, rfl, h h' n' e1 (by rw [e2, q])⟩)
theorem k_slot_len : builtinKind "list.__len__" = some .slot := by decide +kernel
theorem acc_len_b {Q : Value → Shared → Prop} (a : AccAt w s x ax its n od) 
    (h : Q (.int (its.size : Int) s.toks) { s with toks := s.toks + 1 }) : wpAny (model prog w) A (Builtin.«list.__len__» ⟨[.ref x], []⟩) (fun fin s' => ∃ v, fin = .done (.ret v) ∧ Q v s') E s := by
  have hx := a.I.at_
  unfold Builtin.«list.__len__»
  refine wpAny_bind (wpAny_pure ?_)
  show wpAny _ _ (seqSize x >>= fun k => retInt k) _ _ _
  unfold seqSize
  refine wpAny_bind (wpAny_bind (wpAny_loadPart hx ?_))
  refine wpAny_pure ?_
  obtain ⟨hp, g, d, tk, os⟩ := s
  wp_walk
  exact ⟨_, rfl, h⟩
theorem k_slot_init : builtinKind "list.__init__" = some .slot := by decide +kernel
theorem acc_init_b {Q : Value → Shared → Prop} (a : AccAt w s x ax #[] n od)
    (h : ∀ h' n', Heap.SameBut x s.heap h' → h'.get? x = some (accObj ax #[] n') → Q .none { s with heap := h' }) : wpAny (model prog w) A (Builtin.«list.__init__» ⟨[.ref x], []⟩) (fun fin s' => ∃ v, fin = .done (.ret v) ∧ Q v s') E s := by
  have hx := a.I.at_
  unfold Builtin.«list.__init__»
  refine wpAny_bind ?_
  unfold Builtin.List.listItems
  refine wpAny_bind (wpAny_seqItems hx rfl (wpAny_pure ?_))
  refine wpAny_bind (acc_upd a (by simp) (by simp) fun h' n' e1 e2 => ?_)
  exact wpAny_pure ⟨.none, rfl, h h' n' e1 e2⟩
theorem k_slot_item : builtinKind "list.__getitem__" = some .method := by decide +kernel
theorem k_split_item : splitId "list.__getitem__" = some ("list", "__getitem__") := by decide +kernel
theorem acc_noseq (w : World) : noSeq (hd.heap_1 w.params) 238 = true := by kernel_rfl
theorem acc_seqKey {k : Value} {nm : Str} {Q : Value → Shared → Prop} (a : AccAt w s x ax its n od) (h : Q k s) : wpAny (model prog w) A (sequenceKey (.ref x) k nm) Q E s := by
  unfold sequenceKey
  refine wpAny_bind (a.I.type.here ?_)
  refine wpAny_bind ((anyM_none a.X (acc_noseq w)).here ?_)
  rw [if_pos (show (!false) = true from rfl)]
  exact wpAny_pure h
theorem acc_item {k : Int} {t : Tok} {v : Value} {Q : Value → Shared → Prop} (a : AccAt w s x ax its n od) (h0 : 0 ≤ k) (hfit : k < 2 ^ 63) (hv : its[k.toNat]? = some v) (h : Q v s) :
    wpAny (model prog w) A (getItem (.ref x) (.int k t)) Q E s := by
  have hx := a.I.at_
  unfold getItem
  refine wpAny_holding (wpAny_bind (acc_seqKey a (wpAny_bind (y_special a.X a.I (acc_find_item w) (F.slot_list_getitem.bind _) ?_))))
  refine y_bcall F.slot_list_getitem F.entry_list_getitem (.inr k_slot_item) k_split_item (F.args_list_getitem_2 _ _) a.list ?_
  show wpAny _ _ (Builtin.List.listSubscript? (.int k t) >>= _) _ _ s
  refine wpAny_bind (wpAny_listSubscript_int (fitsIndex_of h0 hfit) ?_)
  clear hfit
  obtain ⟨j, rfl⟩ := Int.eq_ofNat_of_zero_le h0
  have hx' : its[j]? = some v := hv
  show wpAny _ _ ((seqItemAt x j >>= fun r => pure (r.map (j, ·))) >>= _) _ _ s
  refine wpAny_bind (wpAny_bind (wpAny_seqItemAt hx rfl (wpAny_pure ?_)))
  rw [hx']
  first
    | exact wpAny_bind (wpAny_pure (wpAny_pure ⟨v, rfl, wpAny_pure h⟩))
    | exact wpAny_pure ⟨v, rfl, wpAny_pure h⟩
theorem y_parts {sl : Addr} {vl vu : Value} {lo hi : Option Int} {Q : Value × Value × Value → Shared → Prop} (hs : s.heap.IsSliceOf sl vl vu .none) (pl : IsPart vl lo) (pu : IsPart vu hi)
    (h : Q (rawPart lo, rawPart hi, .none) s) : wpAny (model prog w) A (Builtin.List.listSliceParts (.ref sl)) Q E s := by
  obtain ⟨os, hos, hcs, hds⟩ := id hs
  rw [listSliceParts_eq]
  refine wpAny_bind (wpAny_field hos hds (x := .none) rfl (wpAny_bind (wpAny_listPart IsPart.none ?_)))
  rw [if_neg (by exact Bool.false_ne_true)]
  refine wpAny_bind (wpAny_field hos hds (x := vl) rfl (wpAny_bind (wpAny_listPart pl ?_)))
  exact wpAny_bind (wpAny_field hos hds (x := vu) rfl (wpAny_bind (wpAny_listPart pu (wpAny_pure h))))
theorem y_noindex {sl : Addr} {vl vu vs : Value} {Q : Option Int → Shared → Prop} (hs : s.heap.IsSliceOf sl vl vu vs) (h : Q none s) : wpAny (model prog w) A (Builtin.List.listSubscript? (.ref sl)) Q E s := by
  obtain ⟨os, hos, hcs, hds⟩ := id hs
  unfold Builtin.List.listSubscript?
  refine wpAny_bind (wpAny_specialOf (T := "slice") ⟨os, hos, hcs⟩ slice_no_index ?_)
  simp only [Option.isNone_none, if_true]
  exact wpAny_pure h
theorem acc_slice {sl : Addr} {vl vu : Value} {lo hi : Option Int} {Q : Value → Shared → Prop} (a : AccAt w s x ax its n od) (hs : s.heap.IsSliceOf sl vl vu .none) (pl : IsPart vl lo) (pu : IsPart vu hi) (hsz : its.size ≤ 1000)
    (h : Q (.ref s.heap.objs.size) { s with heap := s.heap.push { cls := .type "list", data := .seq (slicePick its lo hi none) } }) :
    wpAny (model prog w) A (getItem (.ref x) (.ref sl)) Q E s := by
  have hx := a.I.at_
  obtain ⟨os, hos, hcs, hds⟩ := id hs
  unfold getItem
  refine wpAny_holding (wpAny_bind (acc_seqKey a (wpAny_bind (y_special a.X a.I (acc_find_item w) (F.slot_list_getitem.bind _) ?_))))
  refine y_bcall F.slot_list_getitem F.entry_list_getitem (.inr k_slot_item) k_split_item (F.args_list_getitem_2 _ _) a.list ?_
  show wpAny _ _ (Builtin.List.listSubscript? (.ref sl) >>= _) _ _ s
  refine wpAny_bind (y_noindex hs ?_)
  show wpAny _ _ (typeOf (.ref sl) >>= _) _ _ s
  refine wpAny_bind (wpAny_typeOf (T := "slice") ⟨os, hos, hcs⟩ ?_)
  rw [if_neg (by decide)]
  refine wpAny_bind (y_parts hs pl pu ?_)
  refine wpAny_bind (m := Builtin.List.listItems (.ref x)) ?_
  unfold Builtin.List.listItems
  refine wpAny_bind (wpAny_seqItems hx rfl (wpAny_pure ?_))
  refine wpAny_bind (wpAny_of_eq (sliceIndices_raw lo hi none its.size (by nofun)) ?_)
  exact wpAny_bind (wpAny_newObj_type (wpAny_pure ⟨_, rfl, wpAny_pure h⟩) (Nat.le_trans (slicePick_size_le its lo hi none) (by rw [line_is]; omega)))
theorem k_slot_set : builtinKind "list.__setitem__" = some .slot := by decide +kernel
theorem k_split_set : splitId "list.__setitem__" = some ("list", "__setitem__") := by decide +kernel
theorem acc_setslice {sl : Addr} {vl vu : Value} {lo hi : Option Int} {new : Array Value} {Q : Unit → Shared → Prop} (a : AccAt w s x ax its n od) (hs : s.heap.IsSliceOf sl vl vu .none) (pl : IsPart vl lo) (pu : IsPart vu hi)
    (hl : s.heap.IsList l new) (hne : l ≠ x) (hsz : its.size ≤ 400) (hsn : new.size ≤ 400)
    (h : ∀ h' n', Heap.SameBut x s.heap h' → h'.get? x = some (accObj ax (its.extract 0 (sliceBounds lo hi none its.size).1.toNat ++ new ++ its.extract (max (sliceBounds lo hi none its.size).1 (sliceBounds lo hi none its.size).2.1).toNat its.size) n') → Q () { s with heap := h' }) :
    wpAny (model prog w) A (setItem (.ref x) (.ref sl) (.ref l)) Q E s := by
  have hx := a.I.at_
  obtain ⟨os, hos, hcs, hds⟩ := id hs
  obtain ⟨ol, hol, hcl, nl, hdl⟩ := id hl
  unfold setItem
  refine wpAny_holding (wpAny_bind (acc_seqKey a (wpAny_bind (y_special a.X a.I (acc_find_set w) (F.slot_list_setitem.bind _) ?_))))
  refine y_bcall F.slot_list_setitem F.entry_list_setitem (.inl k_slot_set) k_split_set (F.args_list_setitem_3 _ _ _) a.list ?_
  show wpAny _ _ (Builtin.List.listSubscript? (.ref sl) >>= _) _ _ s
  refine wpAny_bind (y_noindex hs ?_)
  show wpAny _ _ (typeOf (.ref sl) >>= _) _ _ s
  refine wpAny_bind (wpAny_typeOf (T := "slice") ⟨os, hos, hcs⟩ ?_)
  rw [if_neg (by decide)]
  refine wpAny_bind (y_parts hs pl pu ?_)
  have hns : Builtin.List.listSameRef (.ref x) (.ref l) = false := by
    unfold Builtin.List.listSameRef; simp; exact fun e => hne e.symm
  rw [hns]
  dsimp only
  rw [if_neg Bool.false_ne_true]
  refine wpAny_bind (m := Builtin.List.listAllItems _ _) ?_
  unfold Builtin.List.listAllItems
  refine wpAny_bind (wpAny_typeOf (T := "list") ⟨ol, hol, hcl⟩ ?_)
  rw [if_pos (by decide)]
  unfold Builtin.List.listItems
  refine wpAny_bind (wpAny_seqItems hol hdl (wpAny_pure ?_))
  refine wpAny_bind (wpAny_bind (wpAny_seqItems hx rfl (wpAny_pure ?_)))
  refine wpAny_bind (wpAny_of_eq (sliceIndices_raw lo hi none its.size (by nofun)) ?_)
  have hstep : (sliceBounds lo hi none its.size).2.2 = 1 := rfl
  generalize sliceBounds lo hi none its.size = b at *
  obtain ⟨b1, b2, b3⟩ := b
  dsimp only at hstep h ⊢
  subst hstep
  rw [if_pos (by decide)]
  refine wpAny_bind (wpAny_rule ?_)
  rw [if_neg (by unfold Builtin.List.listTooLong; rw [line_is]; simp; first | exact ar_cut3 (by assumption) (by assumption) (Int.toNat_le_toNat (Int.le_max_left _ _)) | omega)]
  refine wpAny_bind (acc_upd (f := fun xs => xs.extract 0 b1.toNat ++ new ++ xs.extract (max b1 b2).toNat) a (by omega) (by simp; first | exact ar_cut3 (by assumption) (by assumption) (Int.toNat_le_toNat (Int.le_max_left _ _)) | omega) fun h' n' e1 e2 => ?_)
  exact wpAny_bind (wpAny_letGo (wpAny_pure ⟨.none, rfl, wpAny_pure (h h' n' e1 e2)⟩))
theorem acc_refuse (x : Addr) : refuseLoop (.ref x) "__setattr__" [.ref 238, .type "list", .type "object"] = pure () := by
  rw [refuseLoop_ref]; kernel_rfl
theorem acc_sa (w : World) : findIn (hd.heap_1 w.params) (.ref 238) "__setattr__" = some (some (.builtin "object.__setattr__")) := by kernel_rfl
theorem acc_obj (w : World) : mroIn (hd.heap_1 w.params) 238 (.type "object") = some true := by kernel_rfl
theorem acc_cls (w : World) : (clsIn (hd.heap_1 w.params) 238).map (·.mro) = some [.ref 238, .type "list", .type "object"] := by kernel_rfl
theorem acc_hasDict (w : World) : (clsIn (hd.heap_1 w.params) 238).any (·.hasDict) = true := by kernel_rfl
theorem acc_setattr {name : Str} {v : Value} {es : List DictEntry} {nd : Nat} {Q : Unit → Shared → Prop} (a : AccAt w s x ax its n (dictOf es nd)) (hn : findIn (hd.heap_1 w.params) (.ref 238) name = some none)
    (hl : (getL name es).isSome = true) (hz : (putL name (PyData.keyHash w.params name) (.str name (s.toks + 1)) v es).length ≤ 1000)
    (h : ∀ h', Heap.SameBut ax s.heap h' → h'.get? ax = some (dictOf (putL name (PyData.keyHash w.params name) (.str name (s.toks + 1)) v es) (putN name es nd)) → Q () { s with heap := h', toks := s.toks + 2 }) :
    wpAny (model prog w) A (setAttr (.ref x) name v) Q E s := by
  obtain ⟨hp, g, d, t, os⟩ := s
  refine set_plain a.X a.I (acc_sa w) ?_
  have SF := PySem.F.store_object
  obtain ⟨cd, hc, hmro⟩ := Option.map_eq_some_iff.mp (acc_cls w)
  have hd' : cd.hasDict = true := by have := acc_hasDict w; rw [hc] at this; exact this
  have hx := a.I.at_
  have hdx : hp.get? ax = some (dictOf es nd) := a.I.dict
  have sub : Looks (model prog w) hp (isInstance (.ref x) (.type "object")) true := a.I.type.andThen (looks_mroIn a.X (acc_obj w))
  refine codeAny_call_builtin SF.slot.plain SF.entry (@check_slot (model prog w) _ _ ⟨hp, g, d, t + 1, os⟩ "object.__setattr__" "object" "__setattr__" (.ref x) [.str name t, v] [] _ SF.kind SF.split sub (SF.args (.ref x) (.str name t) v) ?_)
  have hm : Looks (model prog w) hp (mroOf (.ref 238)) cd.mro := (looks_clsIn a.X hc).andThen .now
  have L0 : Looks (model prog w) hp (typeOf (.ref x)) (.ref 238) := a.I.type
  have L1 := looks_findIn (M := model prog w) a.X hn
  have L2 := looks_clsIn (M := model prog w) a.X hc
  rw [osa_eq, refuse_eq]
  refine wpAny_bind (wpAny_bind (L0.at (wpAny_bind (hm.at ?_))))
  rw [hmro, acc_refuse]
  refine wpAny_pure (wpAny_bind (L0.at (wpAny_bind (L1.at (wpAny_bind (wpAny_pure ?_))))))
  refine wpAny_bind (wpAny_pure (wpAny_bind (wpAny_bind (wpAny_loadPart hx (wpAny_bind (L2.at ?_))))))
  rw [hd']
  refine wpAny_pure (a := some ax) (wpAny_bind (wpAny_pure (wpAny_bind ?_)))
  unfold nsSet
  refine wpAny_bind (wpAny_bind (wpAny_askSetting (wpAny_pure (wpAny_bind (wpAny_mkText (wpAny_bind (wpAny_loadPart hdx ?_)))))))
  have c : (!es.toArray.any (·.key.isStr name) && es.toArray.any (·.refKey)) = false := by
    rw [← Array.any_toList, ← Array.any_toList]
    show (!es.any (·.key.isStr name) && es.any (·.refKey)) = false
    unfold getL at hl
    split at hl
    · rename_i en he
      rw [List.any_eq_true.mpr ⟨en, List.mem_of_find?_eq_some he, List.find?_some he⟩]; rfl
    · split at hl
      · cases hl
      · rename_i z; rw [Bool.not_eq_true] at z; rw [z, Bool.and_false]
  dsimp only
  rw [aRefKeyMayBeTheName_at, c]
  have hput := putName_dict name (PyData.keyHash w.params name) (.str name (t + 1)) v es nd
  refine wpAny_updatePart hdx ?_
  have hnew : (hp.update ax (Obj.putName name (PyData.keyHash w.params name) (.str name (t + 1)) v)).get? ax = some (dictOf (putL name (PyData.keyHash w.params name) (.str name (t + 1)) v es) (putN name es nd)) := by
    rw [Heap.get?_update_self _ hdx (by rw [hput]; rfl), hput]
  refine wpAny_bind (wpAny_lookBehind hnew (pastItsLine_dict (by rw [List.size_toArray, sizeLine_eq]; dsimp only at hz; omega)) ?_)
  exact wpAny_pure (h _ (Heap.SameBut.update ..) hnew)
end
end
section -- JSup
open PySem.Calls
theorem wp_neg {α : Type} {M : Model} {A : Around} {c : Prop} [Decidable c] {x y : Sem α} {Q : α → Shared → Prop} {E : Value → Shared → Prop} {s : Shared} (hc : ¬ c) (h : wpAny M A y Q E s) : wpAny M A (if c then x else y) Q E s := by
  rw [if_neg hc]; exact h
theorem wp_negB {α β : Type} {M : Model} {A : Around} {c : Prop} [Decidable c] {x y : Sem β} {f : β → Sem α} {Q : α → Shared → Prop} {E : Value → Shared → Prop} {s : Shared} (hc : ¬ c) (h : wpAny M A (y >>= f) Q E s) : wpAny M A ((if c then x else y) >>= f) Q E s := by
  rw [if_neg hc]; exact h
theorem sup_slot_wget : Slot "wrapper_descriptor" "__get__" "wrapper_descriptor.__get__" := .of (owner := "wrapper_descriptor") (n := "__get__") (by rw [typeLookup_type, builtinLookup_eq_fast]; kernel_rfl) (by decide +kernel) (by decide +kernel) (by decide +kernel)
  (by first | exact .inl (by decide +kernel) | exact .inr (by decide +kernel)) (by rw [isSubtype_type]; kernel_rfl)
theorem sup_entry_wget : entryFor table "wrapper_descriptor.__get__" = some Builtin.«wrapper_descriptor.__get__» := entryFor_of_tree (by kernel_rfl)
theorem sup_args_wget (a b c : Value) : argsOk "wrapper_descriptor.__get__" ⟨[a, b, c], []⟩ := by unfold argsOk; kernel_rfl
theorem sup_slot_mget : Slot "method_descriptor" "__get__" "method_descriptor.__get__" := .of (owner := "method_descriptor") (n := "__get__") (by rw [typeLookup_type, builtinLookup_eq_fast]; kernel_rfl) (by decide +kernel) (by decide +kernel) (by decide +kernel)
  (by first | exact .inl (by decide +kernel) | exact .inr (by decide +kernel)) (by rw [isSubtype_type]; kernel_rfl)
theorem sup_entry_mget : entryFor table "method_descriptor.__get__" = some Builtin.«method_descriptor.__get__» := entryFor_of_tree (by kernel_rfl)
theorem sup_args_mget (a b c : Value) : argsOk "method_descriptor.__get__" ⟨[a, b, c], []⟩ := by unfold argsOk; kernel_rfl
theorem acc_along_len (w : World) : alongIn (hd.heap_1 w.params) "__len__" [.type "list", .type "object"] = some (some (.builtin "list.__len__")) := by kernel_rfl
theorem acc_along_init (w : World) : alongIn (hd.heap_1 w.params) "__init__" [.type "list", .type "object"] = some (some (.builtin "list.__init__")) := by kernel_rfl
theorem acc_along_pop (w : World) : alongIn (hd.heap_1 w.params) "pop" [.type "list", .type "object"] = some (some (.builtin "list.pop")) := by kernel_rfl
theorem acc_thirdparty (w : World) : nsIn (hd.heap_1 w.params) cStatics "thirdparty.any" = some none := by kernel_rfl
section
variable {prog : Program} {w : World} {A : Around} {E : Value → Shared → Prop} {h : Heap} {g : Array GenState} {d : Drawn} {t : Nat} {os : OsState} {x ax so : Addr} {its : Array Value} {n : Nat} {od : Obj}
noncomputable abbrev supObj (x : Addr) : Obj := { cls := .type "super", dict := none, data := .fields #[.ref 238, .ref x, .ref 238], slots := #[] }
theorem sup_ga_w {id : String} {name : Str} {tk : Tok} {Q : Fin → Shared → Prop} (a : AccAt w ⟨h, g, d, t, os⟩ x ax its n od)
    (hso : h.get? so = some (supObj x)) (hf : alongIn (hd.heap_1 w.params) name [.type "list", .type "object"] = some (some (.builtin id)))
    (hty : typeOf (.builtin id) = pure (.type "wrapper_descriptor"))
    (hxC : x ≠ 238) (hn : (name == ("__class__" : Str)) = false) (hsp : (".".intercalate (id.cutAt '.').dropLast) = "list")
    (hq : Q (.done (.ret (.ref h.objs.size))) ⟨h.push { cls := .type "method-wrapper", data := .fields #[.builtin id, .ref x] }, g, d, t, os⟩) :
    wpAny (model prog w) A (Builtin.«super.__getattribute__» ⟨[.ref so, .str name tk], []⟩) Q E ⟨h, g, d, t, os⟩ := by
  have X : (hd.heap_1 w.params).In h := a.X
  obtain ⟨cd, hc, hmro⟩ := Option.map_eq_some_iff.mp (acc_cls w)
  have hC : Looks (model prog w) h (mroOf (.ref 238)) [.ref 238, .type "list", .type "object"] := hmro ▸ (looks_clsIn X hc).andThen .now
  have hno := looks_opaque (M := model prog w) (C := 238) X (acc_thirdparty w)
  have hlk := sup_slot_wget.lookup
  have hne : (Value.ref x == Value.ref 238) = false := by simp [hxC]
  have hdt : (supObj x).data = .fields #[.ref 238, .ref x, .ref 238] := rfl
  have f0 : (#[.ref 238, .ref x, .ref 238] : Array Value)[0]? = some (.ref 238) := rfl
  have f1 : (#[.ref 238, .ref x, .ref 238] : Array Value)[1]? = some (.ref x) := rfl
  have f2 : (#[.ref 238, .ref x, .ref 238] : Array Value)[2]? = some (.ref 238) := rfl
  have hTf : (⟨h, g, d, t, os⟩ : Shared).TypeIs (.builtin id) "wrapper_descriptor" := hty
  have hx : h.get? x = some (accObj ax its n) := a.I.at_
  have hsub : Looks (model prog w) h (isSubtype (.ref 238) (.type "list")) true := looks_mroIn X (acc_mro w)
  unfold Builtin.«super.__getattribute__»
  repeat (first
    | (with_reducible refine wpAny_field hso hdt f0 ?_) | (with_reducible refine wpAny_field hso hdt f1 ?_) | (with_reducible refine wpAny_field hso hdt f2 ?_)
    | (with_reducible refine ks_wpAny_notOpaque hno ?_)
    | (with_reducible refine Looks.at hC ?_)
    | (refine ks_forIn_along X (fun _ _ => rfl) rfl ?_ hf)
    | (with_reducible refine wpAny_typeOf hTf ?_)
    | (with_reducible refine wpAny_call_entry sup_slot_wget hTf sup_entry_wget ?_ (sup_args_wget _ _ _))
    | (with_reducible refine ⟨_, rfl, ?_⟩)
    | ((with_reducible refine' wp_neg ?hc ?_); (case hc => first | exact Bool.false_ne_true | (simp [hn, hne]; done)))
    | ((with_reducible refine' wp_negB ?hc ?_); (case hc => first | exact Bool.false_ne_true | (simp [hn, hne]; done)))
    | wp_step
    | dsimp only
    | (simp only [hn, hne, Bool.or_false, Bool.false_eq_true, if_false]))
  rw [hsp]
  refine hsub.at ?_
  refine wpAny_pure ?_
  unfold newFields
  refine wpAny_bind (wpAny_newObj_type ?_ (by size_fits))
  refine wpAny_pure ⟨_, rfl, ?_⟩
  refine wpAny_bind (wpAny_pure ?_)
  exact wpAny_pure (wpAny_pure hq)
theorem sup_ga_m {id : String} {name : Str} {tk : Tok} {Q : Fin → Shared → Prop} (a : AccAt w ⟨h, g, d, t, os⟩ x ax its n od)
    (hso : h.get? so = some (supObj x)) (hf : alongIn (hd.heap_1 w.params) name [.type "list", .type "object"] = some (some (.builtin id)))
    (hty : typeOf (.builtin id) = pure (.type "method_descriptor"))
    (hxC : x ≠ 238) (hn : (name == ("__class__" : Str)) = false) (htold : Manifest.toldItsClass.contains id = false) (hsp : (".".intercalate (id.cutAt '.').dropLast) = "list")
    (hq : Q (.done (.ret (.ref h.objs.size))) ⟨h.push { cls := .type "builtin_function_or_method", data := .fields #[.builtin id, .ref x] }, g, d, t, os⟩) :
    wpAny (model prog w) A (Builtin.«super.__getattribute__» ⟨[.ref so, .str name tk], []⟩) Q E ⟨h, g, d, t, os⟩ := by
  have X : (hd.heap_1 w.params).In h := a.X
  obtain ⟨cd, hc, hmro⟩ := Option.map_eq_some_iff.mp (acc_cls w)
  have hC : Looks (model prog w) h (mroOf (.ref 238)) [.ref 238, .type "list", .type "object"] := hmro ▸ (looks_clsIn X hc).andThen .now
  have hno := looks_opaque (M := model prog w) (C := 238) X (acc_thirdparty w)
  have hlk := sup_slot_mget.lookup
  have hne : (Value.ref x == Value.ref 238) = false := by simp [hxC]
  have hdt : (supObj x).data = .fields #[.ref 238, .ref x, .ref 238] := rfl
  have f0 : (#[.ref 238, .ref x, .ref 238] : Array Value)[0]? = some (.ref 238) := rfl
  have f1 : (#[.ref 238, .ref x, .ref 238] : Array Value)[1]? = some (.ref x) := rfl
  have f2 : (#[.ref 238, .ref x, .ref 238] : Array Value)[2]? = some (.ref 238) := rfl
  have hTf : (⟨h, g, d, t, os⟩ : Shared).TypeIs (.builtin id) "method_descriptor" := hty
  have hx : h.get? x = some (accObj ax its n) := a.I.at_
  have hsub : Looks (model prog w) h (isSubtype (.ref 238) (.type "list")) true := looks_mroIn X (acc_mro w)
  unfold Builtin.«super.__getattribute__»
  repeat (first
    | (with_reducible refine wpAny_field hso hdt f0 ?_) | (with_reducible refine wpAny_field hso hdt f1 ?_) | (with_reducible refine wpAny_field hso hdt f2 ?_)
    | (with_reducible refine ks_wpAny_notOpaque hno ?_)
    | (with_reducible refine Looks.at hC ?_)
    | (refine ks_forIn_along X (fun _ _ => rfl) rfl ?_ hf)
    | (with_reducible refine wpAny_typeOf hTf ?_)
    | (with_reducible refine wpAny_call_entry sup_slot_mget hTf sup_entry_mget ?_ (sup_args_mget _ _ _))
    | (with_reducible refine ⟨_, rfl, ?_⟩)
    | ((with_reducible refine' wp_neg ?hc ?_); (case hc => first | exact Bool.false_ne_true | (simp [hn, hne, htold]; done)))
    | ((with_reducible refine' wp_negB ?hc ?_); (case hc => first | exact Bool.false_ne_true | (simp [hn, hne, htold]; done)))
    | wp_step
    | dsimp only
    | (simp only [hn, hne, htold, Bool.or_false, Bool.false_eq_true, if_false]))
  rw [hsp]
  refine hsub.at ?_
  refine wpAny_pure ?_
  unfold newFields
  refine wpAny_bind (wpAny_newObj_type ?_ (by size_fits))
  refine wpAny_pure ⟨_, rfl, ?_⟩
  refine wpAny_bind (wpAny_pure ?_)
  exact wpAny_pure (wpAny_pure hq)
theorem sup_getMethod {ob : Obj} {name : Str} {pl : Sem Bool} {Q : Value × List Value → Shared → Prop} 
    (hso : h.get? so = some (supObj x))
    (hga : ∀ (A : Around) (t : Nat) (Q : Fin → Shared → Prop) (E : Value → Shared → Prop) (tk : Tok), Q (.done (.ret (.ref h.objs.size))) ⟨h.push ob, g, d, t, os⟩ → wpAny (model prog w) A (Builtin.«super.__getattribute__» ⟨[.ref so, .str name tk], []⟩) Q E ⟨h, g, d, t, os⟩)
    (hq : Q (.ref h.objs.size, []) ⟨h.push ob, g, d, t + 1, os⟩) :
    wpAny (model prog w) A (getMethod (.ref so) name pl) Q E ⟨h, g, d, t, os⟩ := by
  have hlk := F.ks_slot_super_ga.lookup
  have hcan := F.ks_canon_super_ga
  have hT : ∀ t', (⟨h, g, d, t', os⟩ : Shared).TypeIs (.ref so) "super" := fun _ => ⟨_, hso, rfl⟩
  unfold getMethod
  refine wpAny_bind (wpAny_specialOf (hT _) hlk ?_)
  show wpAny _ _ (if (Manifest.canonical "super.__getattribute__" != "object.__getattribute__") = true then _ else _) _ _ _
  rw [if_pos hcan]
  unfold getAttr getAttrBy
  refine wpAny_bind (wpAny_bind (wpAny_mkText (wpAny_holding (wpAny_bind (wpAny_typeOf (hT _) (wpAny_bind (wpAny_of_eq hlk ?_)))))))
  show wpAny _ _ (getAttrByItsOwn (.ref so) (.str name t) (.type "super") (.builtin "super.__getattribute__") true false) _ _ _
  unfold getAttrByItsOwn
  refine wpAny_bind (wpAny_of_eq (show hookBefore (.type "super") = pure none from rfl) ?_)
  refine wpAny_bind (wpAny_attempt (wpAny_holding ?_))
  show wpAny _ _ (boundAndCalled (.builtin "super.__getattribute__") (.ref so) (.str name t)) _ _ _
  unfold boundAndCalled
  refine wpAny_bind (wpAny_of_eq (F.ks_slot_super_ga.bind _) ?_)
  refine wpAny_mono (Q := fun v s' => v = .ref h.objs.size ∧ s' = ⟨h.push ob, g, d, t + 1, os⟩) (E := fun _ _ => False)
    (wpAny_call_entry F.ks_slot_super_ga (hT _) F.ks_entry_super_ga (hga _ _ _ _ _ ⟨_, rfl, rfl, rfl⟩) (F.ks_gaArgs_super _ _)) (fun v s' hv => ?_) fun _ _ z => z.elim
  obtain ⟨rfl, rfl⟩ := hv
  exact wpAny_pure (wpAny_pure hq)
theorem sup_call {q : Addr} {id T : String} {b : Builtin} {Q : Value → Shared → Prop} {s : Shared} (hb : s.heap.get? q = some { cls := .type T, data := .fields #[.builtin id, .ref x] })
    (hT : T = "method-wrapper" ∨ T = "builtin_function_or_method") (hcheck : ∀ A Q (E : Value → Shared → Prop), Q () s → wpAny (model prog w) A (checkBoundCall id ⟨[.ref x], []⟩) Q E s) (hid : plainId id = true) (he : entryFor table id = some b)
    (h : wpAny (model prog w) A.in1 (b ⟨[.ref x], []⟩) (fun fin s' => ∃ v, fin = .done (.ret v) ∧ Q v s') E s) : wpAny (model prog w) A (call (.ref q) []) Q E s := by
  refine wpAny_call (codeAny_of_tree ?_)
  show wpAny _ A.in1 (callAny (.ref q) ⟨[], []⟩) _ _ _
  unfold callAny
  refine wpAny_bind (wpAny_load hb ?_)
  have e1 : ((Value.type T == Value.type "method" || Value.type T == Value.type "builtin_function_or_method" || Value.type T == Value.type "method-wrapper") = true) := by rcases hT with rfl | rfl <;> decide
  have e2 : ((Value.type T != Value.type "method") = true) := by rcases hT with rfl | rfl <;> decide
  dsimp only
  rw [if_pos e1]
  show wpAny _ _ (if _ then _ else _) _ _ _
  rw [if_pos e2]
  refine wpAny_bind (hcheck _ _ _ ?_)
  show wpAny _ _ (again (Code.builtin id ⟨[.ref x], []⟩)) _ _ _
  refine wpAny_pure ⟨plainId_quiet hid _, codeAny_builtin he ?_⟩
  rw [Around.under_plainId hid _]
  refine wpAny_mono h (fun fin s' hh => ?_) fun _ _ z => z
  obtain ⟨v, rfl, q⟩ := hh
  exact q
theorem sup_check_slot {id : String} {s : Shared} {Q : Unit → Shared → Prop} (hk : builtinKind id = some .slot) (ha : argsOk id ⟨[.ref x], []⟩) (q : Q () s) : wpAny (model prog w) A (checkBoundCall id ⟨[.ref x], []⟩) Q E s := by
  unfold checkBoundCall
  cases hsig : Manifest.signature? id with
  | none => exact wpAny_pure q
  | some sig =>
    simp only [argsOk, hsig] at ha
    have h2 : Bind.checkArgs id sig ⟨[.ref x], []⟩ = pure () := ha
    dsimp only
    rw [hk]
    dsimp only
    rw [if_pos (by decide), h2]
    exact wpAny_pure q
theorem acc_notmod (w : World) : mroIn (hd.heap_1 w.params) 238 (.type "module") = some false := by kernel_rfl
theorem acc_meta (w : World) : typeIn (hd.heap_1 w.params) (.ref 238) = some (.type "type") := by kernel_rfl
theorem sup_pop_kind : builtinKind "list.pop" = some .method := by decide +kernel
theorem sup_pop_var : Manifest.varargsMethods.contains "list.pop" = false := by decide +kernel
theorem acc_qual (w : World) : (clsIn (hd.heap_1 w.params) 238).map (fun c => (c.mro, c.qualname)) = some (([.ref 238, .type "list", .type "object"] : List Value), ("_Accumulator" : Str)) := by kernel_rfl
theorem sup_pop_args (full : String) (hfull : full = s!"{("_Accumulator" : Str).toString}.{Bind.lastOf "list.pop"}") (sig) (h : Manifest.signature? "list.pop" = some sig) : Bind.checkArgs "list.pop" { sig with full := full } ⟨[.ref x], []⟩ = pure () := by
  have e : Manifest.signature? "list.pop" = some _ := signature?_of (id := "list.pop") (n := ['p', 'o', 'p']) (o := ['t', 's', 'i', 'l']) (by kernel_rfl) F.owner_list
  rw [e] at h
  cases h
  subst hfull
  kernel_rfl
theorem sup_check_pop {Q : Unit → Shared → Prop} (a : AccAt w ⟨h, g, d, t, os⟩ x ax its n od) (q : Q () ⟨h, g, d, t, os⟩) : wpAny (model prog w) A (checkBoundCall "list.pop" ⟨[.ref x], []⟩) Q E ⟨h, g, d, t, os⟩ := by
  have X : (hd.heap_1 w.params).In h := a.X
  obtain ⟨cd, hc, hmq⟩ := Option.map_eq_some_iff.mp (acc_qual w)
  obtain ⟨hmro, hq⟩ := Prod.mk.inj hmq
  have L0 : Looks (model prog w) h (typeOf (.ref x)) (.ref 238) := a.I.type
  have L1 : Looks (model prog w) h (isInstance (.ref x) (.type "module")) false := a.I.type.andThen (looks_mroIn X (acc_notmod w))
  have L2 := looks_clsIn (M := model prog w) X hc
  have L3 : Looks (model prog w) h (typeOf (.ref 238)) (.type "type") := looks_typeIn X (acc_meta w)
  unfold checkBoundCall
  cases hsig : Manifest.signature? "list.pop" with
  | none => exact wpAny_pure q
  | some sig =>
    dsimp only
    rw [sup_pop_kind]
    dsimp only
    rw [if_neg (by decide)]
    refine wpAny_bind (L1.at ?_)
    rw [sup_pop_var]
    rw [if_neg (by decide)]
    refine wpAny_bind (ks_wpAny_isType_inst a.I.at_ (fun c => by nofun) ?_)
    rw [if_neg (by decide)]
    refine wpAny_bind (L0.at ?_)
    dsimp only
    refine wpAny_bind (L2.at ?_)
    refine wpAny_bind (L3.at ?_)
    rw [if_pos (by decide)]
    rw [sup_pop_args _ (by rw [hq]) _ hsig]
    exact wpAny_pure q
end
section
variable {prog : Program} {w : World} {A₀ A : Around} {s : Shared} {base h₀ : Heap} {outer : List Env} {L : Addr} {m mg mb : Str → Option Value} {env : Env} {news : List (Addr × Obj)} {K : Frag}
  {p : Program} {loose : List Str} {mean : ExcName → Option Value}
  {Q E : Value → Shared → Prop} {name qual : Str} {params : Arguments} {body : List Stmt} {scope : Scope} {dV kV doc pm cdv ct oc : Value} {an od : Option Addr} {osl : Array (Option Value)} {f cc : Addr} {args : Args} {binds : List (Str × Value)}
theorem y_codeS (B : Below A₀ base outer h₀) (F : Fr h₀ L s.heap m) (X : K.In h₀) (N : News h₀ L s.heap news) (T : Top p loose mean mg mb h₀) (hA : A.frames = some (env :: outer)) (hf : env.frame = some L) (hke : env.scope.kind = .function)
    (ho : K.lookup f = some ⟨oc, od, .func (ksFn name qual params body scope dV kV doc pm an cdv ct cc), osl⟩) (hcd : codeIn K cdv qual = true) (hroom : A.depth < recursionLimit)
    (hbind : BindsTo s (ksFn name qual params body scope dV kV doc pm an cdv ct cc) args binds) (hloc : ∀ y ∈ binds, scope.names.lookup y.1 = some .local)
    (h : ∀ g L' h₁, HG (news.map (·.1)) s.heap g → Fr g L' h₁ (fun y => binds.reverse.lookup y) → News g L' h₁ news → Below A base (env :: outer) g → K.In g → Top p loose mean mg mb g → (∀ p ∈ news, p.1 < L') → 
      _root_.PySem.wpAt (model prog w) (A.deeper (ksEnv qual scope L' f cdv cc)) (.func body (ksEnv qual scope L' f cdv cc)) (execs body (ksEnv qual scope L' f cdv cc))
        (fun fl s' => YEnd Q (match fl with | .ret v => v | _ => .none) s') (fun _ _ => False) { s with heap := h₁, toks := s.toks + binds.length })
    (hcell : ∀ x ∈ scope.names, x.2 ≠ .cell) (hco : scope.isCoroutine = false) (hgen : scope.isGenerator = false) (hk : scope.kind = .function) : codeAny (model prog w) A (.call (.ref f) args) (fun r s' => match r with | .ok (.ret v) => Q v s' | .ok _ => False | .error e => E e s') s := by
  obtain ⟨_, BG, st, _⟩ := groundX (R := fun _ _ => True) B F N hA hf hke
  refine ks_codeAny_call_defAt (fd := ksFn name qual params body scope dV kV doc pm an cdv ct cc) (body := body) (binds := binds) hroom ((X.keeps F.keep) _ _ ho) rfl (T.nolimit.keeps F.keep) (codeRec_of (X.keeps F.keep) hcd) rfl hbind hcell hloc (fun h₁ hns hk₁ => ?_) hco hgen hk
  refine ks_wpAt_mono (h _ s.heap.objs.size h₁ (hg_all N) ⟨hns, fun b o e => hk₁ b o (of_hideAll _ e), Nat.le_of_eq (hideAll_size _ _)⟩
    (fun p hp => ⟨hk₁ _ _ (N p hp).1, Nat.ne_of_lt (Heap.lt_size (N p hp).1), hideAll_none _ (List.mem_map_of_mem hp)⟩) BG (X.keeps st) (T.keeps st) (fun p hp => Heap.lt_size (N p hp).1)) (fun fl s' hl => ?_) fun _ _ y => y.elim
  exact hl
end
section
variable {prog : Program} {w : World} {A : Around} {E : Value → Shared → Prop} {s : Shared} {h₀ : Heap} {L x ax so : Addr} {m : Str → Option Value} {news : List (Addr × Obj)} {its : Array Value} {n : Nat} {od : Obj}
theorem acc_at (F : Fr h₀ L s.heap m) (X : (hd.heap_1 w.params).In h₀) (N : News h₀ L s.heap news) (h1 : (x, accObj ax its n) ∈ news) (h2 : (ax, od) ∈ news) : AccAt w s x ax its n od := ⟨X.keeps F.keep, inst_seq N h1 h2⟩
theorem acc_ne (a : AccAt w s x ax its n od) : x ≠ 238 := by
  obtain ⟨cd, hc, hmro⟩ := Option.map_eq_some_iff.mp (acc_cls w)
  exact ks_ne a.X a.I hc
theorem sup_meth_w {id : String} {name : Str} {pl : Sem Bool} {Q : Value × List Value → Shared → Prop} (F : Fr h₀ L s.heap m) (X : (hd.heap_1 w.params).In h₀) (N : News h₀ L s.heap news) (hso : (so, supObj x) ∈ news) (h1 : (x, accObj ax its n) ∈ news) (h2 : (ax, od) ∈ news)
    (hf : alongIn (hd.heap_1 w.params) name [.type "list", .type "object"] = some (some (.builtin id))) (hty : typeOf (.builtin id) = pure (.type "wrapper_descriptor")) (hn : (name == ("__class__" : Str)) = false) (hsp : (".".intercalate (id.cutAt '.').dropLast) = "list")
    (h : ∀ q h', Fr h₀ L h' m → News h₀ L h' ((q, { cls := .type "method-wrapper", data := .fields #[.builtin id, .ref x] }) :: news) → (∀ p ∈ news, p.1 < q) → Q (.ref q, []) { s with heap := h', toks := s.toks + 1 }) : wpAny (model prog w) A (getMethod (.ref so) name pl) Q E s := by
  obtain ⟨hh, g, d, t, os⟩ := s
  have a : ∀ t, AccAt w ⟨hh, g, d, t, os⟩ x ax its n od := fun _ => acc_at (s := ⟨hh, g, d, _, os⟩) F X N h1 h2
  refine sup_getMethod (x := x) (N _ hso).1 (fun A t Q E tk hq => sup_ga_w (a t) (N _ hso).1 hf hty (acc_ne (a t)) hn hsp hq) ?_
  obtain ⟨F', N', l'⟩ := ks_newsPush (s := ⟨hh, g, d, t, os⟩) (o := { cls := .type "method-wrapper", data := .fields #[.builtin id, .ref x] }) F N rfl (Heap.get?_push_at rfl rfl) (fun b o e => Heap.get?_push_of_some _ e)
  exact h _ _ F' N' l'
theorem sup_meth_m {id : String} {name : Str} {pl : Sem Bool} {Q : Value × List Value → Shared → Prop} (F : Fr h₀ L s.heap m) (X : (hd.heap_1 w.params).In h₀) (N : News h₀ L s.heap news) (hso : (so, supObj x) ∈ news) (h1 : (x, accObj ax its n) ∈ news) (h2 : (ax, od) ∈ news)
    (hf : alongIn (hd.heap_1 w.params) name [.type "list", .type "object"] = some (some (.builtin id))) (hty : typeOf (.builtin id) = pure (.type "method_descriptor")) (hn : (name == ("__class__" : Str)) = false) (htold : Manifest.toldItsClass.contains id = false) (hsp : (".".intercalate (id.cutAt '.').dropLast) = "list")
    (h : ∀ q h', Fr h₀ L h' m → News h₀ L h' ((q, { cls := .type "builtin_function_or_method", data := .fields #[.builtin id, .ref x] }) :: news) → (∀ p ∈ news, p.1 < q) → Q (.ref q, []) { s with heap := h', toks := s.toks + 1 }) : wpAny (model prog w) A (getMethod (.ref so) name pl) Q E s := by
  obtain ⟨hh, g, d, t, os⟩ := s
  have a : ∀ t, AccAt w ⟨hh, g, d, t, os⟩ x ax its n od := fun _ => acc_at (s := ⟨hh, g, d, _, os⟩) F X N h1 h2
  refine sup_getMethod (x := x) (N _ hso).1 (fun A t Q E tk hq => sup_ga_m (a t) (N _ hso).1 hf hty (acc_ne (a t)) hn htold hsp hq) ?_
  obtain ⟨F', N', l'⟩ := ks_newsPush (s := ⟨hh, g, d, t, os⟩) (o := { cls := .type "builtin_function_or_method", data := .fields #[.builtin id, .ref x] }) F N rfl (Heap.get?_push_at rfl rfl) (fun b o e => Heap.get?_push_of_some _ e)
  exact h _ _ F' N' l'
end
end
section -- JRules
open PySem.Calls
section
variable {prog : Program} {w : World} {M : Model} {A : Around} {E : Value → Shared → Prop} {s : Shared} {h₀ : Heap} {L x ax so l sl q : Addr} {m : Str → Option Value} {news news' : List (Addr × Obj)} {gn : Obj → List (Addr × Obj)} {its : Array Value} {n nd : Nat} {od : Obj} {es es' : List DictEntry}
theorem ty_len : typeOf (.builtin "list.__len__") = pure (.type "wrapper_descriptor") := by show builtinType _ = _; rw [builtinType_eq_fast]; kernel_rfl
theorem ty_init : typeOf (.builtin "list.__init__") = pure (.type "wrapper_descriptor") := by show builtinType _ = _; rw [builtinType_eq_fast]; kernel_rfl
noncomputable abbrev KH (w : World) (h : Heap) : Prop := (hd.heap_1 w.params).In h
theorem acc_getattr_find (w : World) : findIn (hd.heap_1 w.params) (.ref 238) "__getattribute__" = some (some (.builtin "list.__getattribute__")) := by kernel_rfl
theorem acc_getattr_none (w : World) : findIn (hd.heap_1 w.params) (.ref 238) "__getattr__" = some none := by kernel_rfl
theorem led_upd {o' : Obj} {h' : Heap} {o : Obj} (F : Fr h₀ L s.heap m) (N : News h₀ L s.heap news) (U : UpdF x o news gn) (hs : Heap.SameBut x s.heap h') (ho : h'.get? x = some o') : Fr h₀ L h' m ∧ News h₀ L h' (gn o') := by
  obtain ⟨pre, post, rfl, hg, h1, h2⟩ := U.split
  have z := N (x, o) (List.mem_append_right _ (.head _))
  exact ⟨F.change hs z.2.1 z.2.2, hg o' ▸ N.setAt h1 h2 hs ho⟩
theorem acc_getMethod_fn {name : Str} {f : Addr} {pl : Sem Bool} {Q : Value × List Value → Shared → Prop} (F : Fr h₀ L s.heap m) (X : KH w h₀) (N : News h₀ L s.heap news) (h1 : (x, accObj ax its n) ∈ news) (h2 : (ax, dictOf es nd) ∈ news)
    (hf : findIn (hd.heap_1 w.params) (.ref 238) name = some (some (.ref f))) (ht : typeIn (hd.heap_1 w.params) (.ref f) = some (.type "function")) (hs : getL name es = some none) (h : Q (.ref f, [.ref x]) s) : wpAny (model prog w) A (getMethod (.ref x) name pl) Q E s :=
  y_method (X.keeps F.keep) (inst_seq N h1 h2) (acc_getattr_find w) (acc_getattr_none w) hf (.inl ht) (by show (lookIn name (dictOf es nd)).map _ = _; rw [lookIn_dict, hs]; rfl) h
theorem acc_getMethod_bi {name : Str} {id : String} {pl : Sem Bool} {Q : Value × List Value → Shared → Prop} (F : Fr h₀ L s.heap m) (X : KH w h₀) (N : News h₀ L s.heap news) (h1 : (x, accObj ax its n) ∈ news) (h2 : (ax, dictOf es nd) ∈ news)
    (hf : findIn (hd.heap_1 w.params) (.ref 238) name = some (some (.builtin id))) (ht : typeIn (hd.heap_1 w.params) (.builtin id) = some (.type "method_descriptor")) (hs : getL name es = some none) (h : Q (.builtin id, [.ref x]) s) : wpAny (model prog w) A (getMethod (.ref x) name pl) Q E s :=
  y_method (X.keeps F.keep) (inst_seq N h1 h2) (acc_getattr_find w) (acc_getattr_none w) hf (.inr ht) (by show (lookIn name (dictOf es nd)).map _ = _; rw [lookIn_dict, hs]; rfl) h
theorem acc_getAttr {name : Str} {v : Value} {expr : Bool} {Q : Value → Shared → Prop} (F : Fr h₀ L s.heap m) (X : KH w h₀) (N : News h₀ L s.heap news) (h1 : (x, accObj ax its n) ∈ news) (h2 : (ax, dictOf es nd) ∈ news)
    (hf : findIn (hd.heap_1 w.params) (.ref 238) name = some none) (hl : getL name es = some (some v)) (hv : handedIn v = true) (h : Q v { s with toks := s.toks + 1 }) : wpAny (model prog w) A (getAttr (.ref x) name expr) Q E s :=
  y_get (X.keeps F.keep) (inst_seq N h1 h2) (acc_getattr_find w) (acc_getattr_none w) (acc_mro w) (findObj_own (acc_hasDict w) hf rfl hl) hv h
theorem acc_setAttrL {name : Str} {v : Value} {n' : Nat} {Q : Unit → Shared → Prop} (F : Fr h₀ L s.heap m) (X : KH w h₀) (N : News h₀ L s.heap news) (h1 : (x, accObj ax its n) ∈ news) (h2 : (ax, dictOf es nd) ∈ news) (hf : findIn (hd.heap_1 w.params) (.ref 238) name = some none) (hl : (getL name es).isSome = true)
    (e : (putL name (PyData.keyHash w.params name) (.str name (s.toks + 1)) v es, putN name es nd) = (es', n')) (U : UpdF ax (dictOf es nd) news gn) (hz : es'.length ≤ 1000)
    (h : ∀ h', Fr h₀ L h' m → News h₀ L h' (gn (dictOf es' n')) → Q () { s with heap := h', toks := s.toks + 2 }) : wpAny (model prog w) A (setAttr (.ref x) name v) Q E s := by
  obtain ⟨e1, e2⟩ := Prod.mk.inj e
  refine acc_setattr (acc_at F X N h1 h2) hf hl (by rw [e1]; exact hz) fun h' hs ho => ?_
  rw [e1, e2] at ho
  obtain ⟨F', N'⟩ := led_upd F N U hs ho
  exact h h' F' N'
theorem acc_appendL {v : Value} {Q : Value → Shared → Prop} (F : Fr h₀ L s.heap m) (X : KH w h₀) (N : News h₀ L s.heap news) (h2 : (ax, od) ∈ news) (U : UpdF x (accObj ax its n) news gn) (hz : its.size ≤ 900)
    (h : ∀ h' n', Fr h₀ L h' m → News h₀ L h' (gn (accObj ax (its.push v) n')) → Q .none { s with heap := h' }) : wpAny (model prog w) A (call (.builtin "list.append") [.ref x, v]) Q E s := by
  have h1 : (x, accObj ax its n) ∈ news := by obtain ⟨pre, post, e, _, _, _⟩ := U.split; rw [e]; simp
  refine acc_append (acc_at F X N h1 h2) hz fun h' n' hs ho => ?_
  obtain ⟨F', N'⟩ := led_upd F N U hs ho
  exact h h' n' F' N'
theorem acc_itemL {value slice : PySem.Expr} {k : Int} {t : Tok} {v : Value} {Q : Value → Shared → Prop} (F : Fr h₀ L s.heap m) (X : KH w h₀) (N : News h₀ L s.heap news) (h1 : (x, accObj ax its n) ∈ news) (h2 : (ax, od) ∈ news) (h0 : 0 ≤ k) (hfit : k < 2 ^ 63) (hv : its[k.toNat]? = some v) (h : Q v s)
    (hs : subscripted slice false (.ref x) (.int k t) = operate [.ref x, .int k t] (getItem (.ref x) (.int k t)) := by with_unfolding_all rfl) (ht : ∀ r s', Q r s' → wpAny (model prog w) A (letTemporaryGo value (.ref x) r) (fun _ s'' => Q r s'') E s') : wpAny (model prog w) A (subscriptTail value slice (.ref x) (.int k t)) Q E s := by
  have a := acc_at F X N h1 h2
  unfold subscriptTail
  refine wpAny_bind ?_
  unfold getitemInPython specialOf
  refine wpAny_bind (wpAny_bind (a.I.type.here ((looks_findIn a.X (acc_find_item w)).here ?_)))
  refine wpAny_pure ?_
  rw [hs]
  refine wpAny_bind (wpAny_operating (acc_item a h0 hfit hv ?_))
  exact wpAny_bind (wpAny_mono (ht _ _ h) (fun _ _ z => wpAny_pure z) fun _ _ z => z)
theorem acc_sliceL {value slice : PySem.Expr} {vl vu : Value} {lo hi : Option Int} {Q : Value → Shared → Prop} (F : Fr h₀ L s.heap m) (X : KH w h₀) (N : News h₀ L s.heap news) (h1 : (x, accObj ax its n) ∈ news) (h2 : (ax, od) ∈ news) 
    (hs : (sl, ({ cls := .type "slice", data := .fields #[vl, vu, .none] } : Obj)) ∈ news) (pl : IsPart vl lo) (pu : IsPart vu hi) (hsz : its.size ≤ 1000)
    (hsub : subscripted slice false (.ref x) (.ref sl) = operate [.ref sl, .ref x] (getItem (.ref x) (.ref sl)))
    (h : ∀ l h', Fr h₀ L h' m → News h₀ L h' ((l, listOf (slicePick its lo hi none) 0) :: news) → (∀ p ∈ news, p.1 < l) → Q (.ref l) { s with heap := h' }) : wpAny (model prog w) A (subscriptTail value slice (.ref x) (.ref sl)) Q E s := by
  have a := acc_at F X N h1 h2
  unfold subscriptTail
  refine wpAny_bind ?_
  unfold getitemInPython specialOf
  refine wpAny_bind (wpAny_bind (a.I.type.here ((looks_findIn a.X (acc_find_item w)).here ?_)))
  refine wpAny_pure ?_
  rw [hsub]
  refine wpAny_bind (wpAny_operating (acc_slice a ⟨_, (N _ hs).1, rfl, rfl⟩ pl pu hsz ?_))
  refine wpAny_bind (wpAny_letTemporaryGo (wpAny_pure ?_))
  obtain ⟨F', N', l'⟩ := ks_newsPush (s := s) (o := { cls := .type "list", data := .seq (slicePick its lo hi none) }) F N rfl (Heap.get?_push_size _ rfl) (fun b o e => Heap.get?_push_of_some _ e)
  exact h _ _ F' N' l'
theorem acc_setsliceL {vl vu : Value} {lo hi : Option Int} {new : Array Value} {nl : Nat} {Q : Unit → Shared → Prop} (F : Fr h₀ L s.heap m) (X : KH w h₀) (N : News h₀ L s.heap news) (h2 : (ax, od) ∈ news) 
    (hs : (sl, ({ cls := .type "slice", data := .fields #[vl, vu, .none] } : Obj)) ∈ news) (pl : IsPart vl lo) (pu : IsPart vu hi) (hl : (l, listOf new nl) ∈ news) (U : UpdF x (accObj ax its n) news gn) (hsz : its.size ≤ 400) (hsn : new.size ≤ 400)
    (h : ∀ h' n', Fr h₀ L h' m → News h₀ L h' (gn (accObj ax (its.extract 0 (sliceBounds lo hi none its.size).1.toNat ++ new ++ its.extract (max (sliceBounds lo hi none its.size).1 (sliceBounds lo hi none its.size).2.1).toNat its.size) n')) → Q () { s with heap := h' }) : wpAny (model prog w) A (setItem (.ref x) (.ref sl) (.ref l)) Q E s := by
  have h1 : (x, accObj ax its n) ∈ news := by obtain ⟨pre, post, e, _, _, _⟩ := U.split; rw [e]; simp
  have hne : l ≠ x := by
    rintro rfl
    have z1 := (N _ h1).1
    have z2 := (N _ hl).1
    rw [z1] at z2
    cases z2
  refine acc_setslice (acc_at F X N h1 h2) ⟨_, (N _ hs).1, rfl, rfl⟩ pl pu ⟨_, (N _ hl).1, rfl, _, rfl⟩ hne hsz hsn fun h' n' hs ho => ?_
  obtain ⟨F', N'⟩ := led_upd F N U hs ho
  exact h h' n' F' N'
noncomputable abbrev slcObj (vl vu : Value) : Obj := { cls := .type "slice", data := .fields #[vl, vu, .none] }
theorem acc_sliceP {value slice : PySem.Expr} {vl vu : Value} {lo hi : Option Int} {Q : Value → Shared → Prop} (F : Fr h₀ L s.heap m) (X : KH w h₀) (N : News h₀ L s.heap news) (h1 : (x, accObj ax its n) ∈ news) (h2 : (ax, od) ∈ news) 
    (pl : IsPart vl lo) (pu : IsPart vu hi) (hsz : its.size ≤ 1000)
    (hsub : subscripted slice false (.ref x) (.ref s.heap.objs.size) = operate [.ref s.heap.objs.size, .ref x] (getItem (.ref x) (.ref s.heap.objs.size)))
    (h : ∀ l h', Fr h₀ L h' m → News h₀ L h' ((l, listOf (slicePick its lo hi none) 0) :: news) → (∀ p ∈ news, p.1 < l) → Q (.ref l) { s with heap := h' }) :
    wpAny (model prog w) A (subscriptTail value slice (.ref x) (.ref s.heap.objs.size)) Q E { s with heap := s.heap.push { cls := .type "slice", data := .fields #[vl, vu, .none] } } := by
  obtain ⟨F', N', l'⟩ := ks_newsPush (s := s) (o := slcObj vl vu) F N rfl (Heap.get?_push_size _ rfl) (fun b o e => Heap.get?_push_of_some _ e)
  exact acc_sliceL (s := { s with heap := s.heap.push (slcObj vl vu) }) F' X N' (.tail _ h1) (.tail _ h2) (.head _) pl pu hsz hsub fun l h' F2 N2 l2 => h l h' F2 (fun p hp => N2 p (by
    rcases List.mem_cons.mp hp with rfl | hp
    · exact .head _
    · exact .tail _ (.tail _ hp))) fun p hp => l2 p (.tail _ hp)
theorem acc_setsliceP {vl vu : Value} {lo hi : Option Int} {new : Array Value} {nl : Nat} {Q : Unit → Shared → Prop} (F : Fr h₀ L s.heap m) (X : KH w h₀) (N : News h₀ L s.heap news) (U : UpdF x (accObj ax its n) news gn) (h2 : (ax, od) ∈ news) 
    (pl : IsPart vl lo) (pu : IsPart vu hi) (hl : (l, listOf new nl) ∈ news) (hsz : its.size ≤ 400) (hsn : new.size ≤ 400)
    (h : ∀ h' n', Fr h₀ L h' m → News h₀ L h' (gn (accObj ax (its.extract 0 (sliceBounds lo hi none its.size).1.toNat ++ new ++ its.extract (max (sliceBounds lo hi none its.size).1 (sliceBounds lo hi none its.size).2.1).toNat its.size) n')) → Q () { s with heap := h' }) :
    wpAny (model prog w) A (setItem (.ref x) (.ref s.heap.objs.size) (.ref l)) Q E { s with heap := s.heap.push { cls := .type "slice", data := .fields #[vl, vu, .none] } } := by
  obtain ⟨F', N', l'⟩ := ks_newsPush (s := s) (o := slcObj vl vu) F N rfl (Heap.get?_push_size _ rfl) (fun b o e => Heap.get?_push_of_some _ e)
  have h1 : (x, accObj ax its n) ∈ news := by obtain ⟨pre, post, e, _, _, _⟩ := U.split; rw [e]; simp
  have U' : UpdF x (accObj ax its n) ((s.heap.objs.size, slcObj vl vu) :: news) (fun o' => (s.heap.objs.size, slcObj vl vu) :: gn o') := .tail (Nat.ne_of_gt (l' _ h1)) U
  exact acc_setsliceL (s := { s with heap := s.heap.push (slcObj vl vu) }) F' X N' (.tail _ h2) (.head _) pl pu (.tail _ hl) U' hsz hsn fun h' n' F2 N2 => h h' n' F2 fun p hp => N2 p (.tail _ hp)
noncomputable abbrev bndW (id : String) (x : Addr) : Obj := { cls := .type "method-wrapper", data := .fields #[.builtin id, .ref x] }
noncomputable abbrev bndM (id : String) (x : Addr) : Obj := { cls := .type "builtin_function_or_method", data := .fields #[.builtin id, .ref x] }
theorem keeps_bnd {o : Obj} (h : Heap) (X : h.get? q = some o ∧ ∃ id x, o = bndW id x ∨ o = bndM id x) : ∃ k, (k = Keeper.frame ∨ k = Keeper.machine ∨ k = Keeper.boundFrame) ∧ Looks M h (keeperOf (.ref q)) k := by
  obtain ⟨e, id, x, rfl | rfl⟩ := X <;> exact ⟨.machine, .inr (.inl rfl), (Looks.ld (part := none) e).andThen .now⟩
theorem callWith_bnd {env : Env} {pos : Pos} {first : List Value} {o : Obj} {Q : Value → Shared → Prop} (N : News h₀ L s.heap news) (hm : (q, o) ∈ news) (ho : ∃ id x, o = bndW id x ∨ o = bndM id x) (h : wpAny M A (call (.ref q) (first ++ [])) Q E s) :
    wpAny M A (callWith pos (.ref q) first (backTo pos (starEach [] env)) []) Q E s :=
  callWith_of rfl keeps_bnd (evalArgs_nil3 ⟨⟨(N _ hm).1, ho⟩, h⟩)
theorem bnd_len {Q : Value → Shared → Prop} (F : Fr h₀ L s.heap m) (X : KH w h₀) (N : News h₀ L s.heap news) (hq : (q, bndW "list.__len__" x) ∈ news) (h1 : (x, accObj ax its n) ∈ news) (h2 : (ax, od) ∈ news)
    (h : Q (.int (its.size : Int) s.toks) { s with toks := s.toks + 1 }) : wpAny (model prog w) A (call (.ref q) []) Q E s := by
  have a := acc_at F X N h1 h2
  exact sup_call (Q := Q) (N _ hq).1 (.inl rfl) (fun A Q E z => sup_check_slot k_slot_len (PySem.F.args_list_len_1 _) z) PySem.F.slot_list_len.plain PySem.F.entry_list_len (acc_len_b a h)
theorem sup_check_init {Q : Unit → Shared → Prop} (z : Q () s) : wpAny (model prog w) A (checkBoundCall "list.__init__" ⟨[.ref x], []⟩) Q E s := by
  have ha := PySem.F.args_list_init_1 (.ref x)
  have hk := k_slot_init
  generalize ("list.__init__" : String) = id at *
  exact sup_check_slot hk ha z
theorem bnd_init {Q : Value → Shared → Prop} (F : Fr h₀ L s.heap m) (X : KH w h₀) (N : News h₀ L s.heap news) (hq : (q, bndW "list.__init__" x) ∈ news) (U : UpdF x (accObj ax #[] n) news gn) (h2 : (ax, od) ∈ news)
    (h : ∀ h' n', Fr h₀ L h' m → News h₀ L h' (gn (accObj ax #[] n')) → Q .none { s with heap := h' }) : wpAny (model prog w) A (call (.ref q) []) Q E s := by
  have h1 : (x, accObj ax #[] n) ∈ news := by obtain ⟨pre, post, e, _, _, _⟩ := U.split; rw [e]; simp
  have a := acc_at F X N h1 h2
  have k : ∀ h' n', Heap.SameBut x s.heap h' → h'.get? x = some (accObj ax #[] n') → Q .none { s with heap := h' } := fun h' n' hs ho => by
    obtain ⟨F', N'⟩ := led_upd F N U hs ho
    exact h h' n' F' N'
  have b : wpAny (model prog w) A.in1 (Builtin.«list.__init__» ⟨[.ref x], []⟩) (fun fin s' => ∃ v, fin = .done (.ret v) ∧ Q v s') E s := acc_init_b a k
  exact sup_call (Q := Q) (b := Builtin.«list.__init__») (N _ hq).1 (.inl rfl) (fun A Q E z => sup_check_init z) PySem.F.slot_list_init.plain PySem.F.entry_list_init b
theorem bnd_pop {vs : List Value} {v : Value} {Q : Value → Shared → Prop} (F : Fr h₀ L s.heap m) (X : KH w h₀) (N : News h₀ L s.heap news) (hq : (q, bndM "list.pop" x) ∈ news) (U : UpdF x (accObj ax (vs ++ [v]).toArray n) news gn) (h2 : (ax, od) ∈ news) (hsz : vs.length ≤ 900)
    (h : ∀ h' n', Fr h₀ L h' m → News h₀ L h' (gn (accObj ax vs.toArray n')) → Q v { s with heap := h' }) : wpAny (model prog w) A (call (.ref q) []) Q E s := by
  have h1 : (x, accObj ax (vs ++ [v]).toArray n) ∈ news := by obtain ⟨pre, post, e, _, _, _⟩ := U.split; rw [e]; simp
  have a := acc_at F X N h1 h2
  have hqq := (N _ hq).1
  have k : ∀ h' n', Heap.SameBut x s.heap h' → h'.get? x = some (accObj ax vs.toArray n') → Q v { s with heap := h' } := fun h' n' hs ho => by
    obtain ⟨F', N'⟩ := led_upd F N U hs ho
    exact h h' n' F' N'
  clear h
  obtain ⟨hp, g, d, t, os⟩ := s
  exact sup_call (Q := Q) hqq (.inr rfl) (fun A Q E z => sup_check_pop a z) PySem.F.slot_list_pop.plain PySem.F.entry_list_pop (acc_pop_b a hsz k)
end
noncomputable def YOld (P : Prop) : Prop := P
theorem YOld.mk {P : Prop} (h : P) : YOld P := h
theorem y_ge {g h' : Heap} {s : Shared} {h₀ : Heap} {L L1 : Addr} {m' : Str → Option Value} {sm led : List (Addr × Obj)} {mu : List Addr} (N0 : YOld (News h₀ L s.heap sm)) (hG : HG (sm.map (·.1)) s.heap g) (F' : Fr g L1 h' m') (N' : News g L1 h' led)
    (hk : ∀ p ∈ sm, p.1 ∈ mu ∨ p ∈ led) : Ge mu s.heap h' := by
  intro b o hb e
  by_cases hm : b ∈ sm.map (·.1)
  · obtain ⟨p, hp, rfl⟩ := List.mem_map.mp hm
    have e2 := (N0 p hp).1
    rw [e] at e2
    rcases hk p hp with q | q
    · exact absurd q hb
    · rw [Option.some.inj e2]; exact (N' p q).1
  · exact F'.keep b o (hG b o hm e)
theorem y_got {g h' : Heap} {L1 a : Addr} {o : Obj} {led : List (Addr × Obj)} (N' : News g L1 h' led) (hp : (a, o) ∈ led) : h'.get? a = some o := (N' _ hp).1
theorem y_new {g h' : Heap} {s : Shared} {h₀ : Heap} {L L1 t : Addr} {o : Obj} {sm led : List (Addr × Obj)} (N0 : YOld (News h₀ L s.heap sm)) (hG : HG (sm.map (·.1)) s.heap g) (N' : News g L1 h' led) (hp : (t, o) ∈ led) (hn : ∀ p ∈ sm, @Ne Nat p.1 t) : s.heap.get? t = none := by
  cases e : s.heap.get? t with
  | none => rfl
  | some o' =>
    have := hG t o' (fun hm => by obtain ⟨p, hp, q⟩ := List.mem_map.mp hm; exact hn p hp q) e
    rw [(N' _ hp).2.2] at this; cases this
noncomputable abbrev FmtV := Int × Int × Int × Int × Int × Int × Tok × Tok × Tok × Tok × Tok × Tok × Tok × Tok × Tok × Tok
noncomputable def vfEs (V : FmtV) (wd : Nat) (li ac : Addr) : List DictEntry := [⟨V.1, .str "_maxlen" V.2.2.2.2.2.2.1, .int (wd : Int) V.2.2.2.2.2.2.2.2.2.2.2.2.1⟩, ⟨V.2.1, .str "_continuation_ws" V.2.2.2.2.2.2.2.1, .str " " V.2.2.2.2.2.2.2.2.2.2.2.2.2.1⟩, ⟨V.2.2.1, .str "_continuation_ws_len" V.2.2.2.2.2.2.2.2.1, .int 1 V.2.2.2.2.2.2.2.2.2.2.2.2.2.2.1⟩, ⟨V.2.2.2.1, .str "_splitchars" V.2.2.2.2.2.2.2.2.2.1, .str ";" V.2.2.2.2.2.2.2.2.2.2.2.2.2.2.2⟩, ⟨V.2.2.2.2.1, .str "_lines" V.2.2.2.2.2.2.2.2.2.2.1, .ref li⟩, ⟨V.2.2.2.2.2.1, .str "_current_line" V.2.2.2.2.2.2.2.2.2.2.2.1, .ref ac⟩]
theorem y_consS {M : Model} {A : Around} {st : Stmt} {rest : List Stmt} {env : Env} {Q : Flow → Shared → Prop} {E : Value → Shared → Prop} {s : Shared}
  (h : let sk := s; let qk : Flow → Shared → Prop := (fun f s' => match f with | .next => wpAny M A (execs rest env) Q E s' | f => Q f s'); wpAny M A (exec st env) qk E sk) : wpAny M A (execs (st :: rest) env) Q E s := wpAny_execs_cons h
end
section -- JGen
open PySem.Calls
section
variable {prog : Program} {w : World} {A : Around} {E : Value → Shared → Prop} {s : Shared} {x ax l it : Addr} {its : Array Value} {n : Nat} {od : Obj}
theorem acc_iter {Q : Value → Shared → Prop} (a : AccAt w s x ax its n od) (hQ : Q (.ref s.heap.objs.size) { s with heap := s.heap.push { cls := .type "list_iterator", data := .fields #[.ref x, .int 0 0] } }) :
    wpAny (model prog w) A (pyIter (.ref x)) Q E s := by
  unfold pyIter specialOf
  refine wpAny_bind (wpAny_bind (a.I.type.here ((looks_findIn a.X (acc_find_iter w)).here ?_)))
  have hb := PySem.F.slot_list_iter
  unfold callSpecialIfBoundUnlessNone? bindSpecialIfBound? specialOf
  refine wpAny_bind (wpAny_holding (wpAny_bind (wpAny_bind (wpAny_bind (a.I.type.here ((looks_findIn a.X (acc_find_iter w)).here ?_))))))
  dsimp only
  rw [show bindSpecial (.builtin "list.__iter__") (.ref x) = pure (.builtin "list.__iter__", [.ref x]) from slot_list_iter.bind _]
  have fin : wpAny (model prog w) A (if (Value.builtin "list.__iter__" == Value.none) = true then ((do rule "iter.none"; raiseError "TypeError" s!"'{← typeNameOf (.ref x)}' object is not iterable" : Sem Value) >>= fun v => pure (some v)) else (call (.builtin "list.__iter__") [.ref x] >>= fun v => pure (some v)))
      (fun r s' => wpAny (model prog w) A (match r with
        | some it => (do
          match ← specialOf it "__next__" with
          | none => rule "iter.non-iterator"; raiseError "TypeError" s!"iter() returned non-iterator of type '{← typeNameOf it}'"
          | some _ => pure it : Sem Value)
        | none => (do
          match ← bindSpecialIfBound? (.ref x) "__getitem__" with
          | none => rule "iter.not-iterable"; raiseError "TypeError" s!"'{← typeNameOf (.ref x)}' object is not iterable"
          | some _ => rule "iter.getitem-fallback"; newFields "iterator" [(.ref x), ← mkInt 0])) Q E s') E s := by
    rw [if_neg (by decide)]
    refine wpAny_bind ?_
    refine y_bcall (n' := "__iter__") slot_list_iter entry_list_iter (.inl (by decide +kernel)) (by decide +kernel) (args_list_iter _) a.list ?_
    show wpAny _ _ (do ret (← newFields "list_iterator" [.ref x, rawInt 0])) _ _ s
    refine wpAny_bind (wpAny_newObj_type (wpAny_pure ⟨_, rfl, wpAny_pure ?_⟩))
    exact wpAny_bind (wpAny_specialOf (T := "list_iterator") ⟨_, Heap.get?_push_size _ rfl, rfl⟩ slot_listiter_next.lookup (wpAny_pure hQ))
  refine wpAny_bind (wpAny_askSetting (wpAny_ite ?_))
  split
  · exact wpAny_bind (wpAny_pure (wpAny_pure fin))
  · exact wpAny_tryCatch (wpAny_bind (wpAny_pure (wpAny_pure fin)))
theorem acc_next {i : Nat} {v : Value} {o : Obj} {Q : Option Value → Shared → Prop} (hit : s.heap.IsListIter it x i) (hx : s.heap.get? x = some o) (hd' : o.data = .seq its n) (hv : its[i]? = some v)
    (hQ : ∀ h', h'.IsListIter it x (i + 1) → Heap.SameBut it s.heap h' → Q (some v) { s with heap := h' }) : wpAny (model prog w) A (pyNext (.ref it)) Q E s := by
  obtain ⟨o, ho, hc, hd⟩ := id hit
  unfold pyNext
  refine wpAny_bind (wpAny_attempt (wpAny_callSpecial?_slot (name := Str.ofString "__next__") hit.typeIs slot_listiter_next
    (wpAny_call_entry slot_listiter_next hit.typeIs entry_listiter_next ?_ (args_listiter_next _))))
  show wpAny _ _ (field (.ref it) 0 >>= _) _ _ s
  refine wpAny_bind (wpAny_field ho hd (x := .ref x) rfl ?_)
  show wpAny _ _ (if (Value.ref x == Value.none) = true then _ else _) _ _ s
  rw [if_neg (show ¬ ((Value.ref x == Value.none) = true) from Bool.false_ne_true)]
  show wpAny _ _ (field (.ref it) 1 >>= _) _ _ s
  refine wpAny_bind (wpAny_field ho hd (x := .int i 0) rfl ?_)
  show wpAny _ _ (seqItems? (.ref x) >>= _) _ _ s
  refine wpAny_bind (wpAny_seqItems hx hd' ?_)
  simp only [Int.toNat_natCast, hv]
  refine wpAny_bind (wpAny_setField ho hd (by simp) (wpAny_pure ⟨v, rfl, wpAny_pure (hQ _ ?_ (Heap.SameBut.update ..))⟩))
  exact ⟨_, Heap.get?_update_self _ ho (Obj.isFreed_of_fields (Obj.data_mapFields hd _)), (Obj.cls_mapFields ..).trans hc, by
    rw [Obj.data_mapFields hd]; simp [rawInt]⟩
theorem isSubtype_stop' : isSubtype (.type "StopIteration") (.type "StopIteration") = pure true := by rw [isSubtype_type]; kernel_rfl
theorem acc_next_end {i : Nat} {o : Obj} {Q : Option Value → Shared → Prop} (hh : A.handled = none) (hit : s.heap.IsListIter it x i) (hx : s.heap.get? x = some o) (hd' : o.data = .seq its n) (hv : its[i]? = none)
    (hQ : ∀ h', Heap.ExtBut it s.heap h' → Q none { s with heap := h' }) : wpAny (model prog w) A (pyNext (.ref it)) Q E s := by
  obtain ⟨o, ho, hc, hd⟩ := id hit
  unfold pyNext
  refine wpAny_bind (wpAny_attempt (wpAny_callSpecial?_slot (name := Str.ofString "__next__") hit.typeIs slot_listiter_next
    (wpAny_call_entry slot_listiter_next hit.typeIs entry_listiter_next ?_ (args_listiter_next _))))
  show wpAny _ _ (field (.ref it) 0 >>= _) _ _ s
  refine wpAny_bind (wpAny_field ho hd (x := .ref x) rfl ?_)
  show wpAny _ _ (if (Value.ref x == Value.none) = true then _ else _) _ _ s
  rw [if_neg (show ¬ ((Value.ref x == Value.none) = true) from Bool.false_ne_true)]
  show wpAny _ _ (field (.ref it) 1 >>= _) _ _ s
  refine wpAny_bind (wpAny_field ho hd (x := .int i 0) rfl ?_)
  show wpAny _ _ (seqItems? (.ref x) >>= _) _ _ s
  refine wpAny_bind (wpAny_seqItems hx hd' ?_)
  simp only [Int.toNat_natCast, hv]
  refine wpAny_bind (wpAny_rule (wpAny_bind (wpAny_setField ho hd (by simp) ?_)))
  show wpAny _ _ (newExc (.type "StopIteration") [] >>= _) _ _ _
  refine wpAny_bind ?_
  simp only [newExc, newTuple]
  refine wpAny_bind (wpAny_newObj_type ?_ (by size_fits))
  refine wpAny_bind (m := firstArgMember _ _) (wpAny_of_eq (a := Value.none) (by first | rfl | (simp only [firstArgMember]; rfl)) ?_)
  refine wpAny_newObj_type ?_ (by size_fits)
  simp only [raiseNew]
  refine wpAny_bind (wpAny_handled ?_)
  rw [show A.in1.handled = none from hh]
  refine wpAny_bind (wpAny_pure (wpAny_throw ?_))
  refine wpAny_bind (wpAny_isInstance (T := "StopIteration") (b := true) ⟨_, Heap.get?_push_size _ rfl, rfl⟩ isSubtype_stop' ?_)
  exact wpAny_pure (hQ _ (((Heap.SameBut.update ..).extBut.push _).push _))
end
theorem accWalk {prog : Program} {w : World} {A : Around} (hh : A.handled = none) (I x ax : Addr) (n : Nat) (hne : x ≠ I) (its : Array Value) (Ts : Nat → Addr) (vals : Nat → Array Value)
    (hit : ∀ j, j < its.size → its[j]? = some (.ref (Ts j))) (hTI : ∀ j, j < its.size → Ts j ≠ I) :
    WalksU prog w A I (I :: x :: (List.range its.size).map Ts) [I] its.size (fun j v => j < its.size ∧ v = vals j)
      (fun j h => h.IsListIter I x j ∧ h.get? x = some (accObj ax its n) ∧ ∀ k, k < its.size → h.IsTuple (Ts k) (vals k))
      (fun j T h => (j < its.size ∧ T = Ts j) ∧ h.IsListIter I x (j + 1) ∧ h.get? x = some (accObj ax its n) ∧ ∀ k, k < its.size → h.IsTuple (Ts k) (vals k)) where
  sub := fun b hb => by simp at hb; simp [hb]
  frame := fun _ _ _ st hk => ⟨st.1.at fun o e => hk I (by simp) o e, hk x (by simp) _ st.2.1,
    fun k hk' => (st.2.2 k hk').at fun o e => hk (Ts k) (List.mem_cons_of_mem _ (List.mem_cons_of_mem _ (List.mem_map.mpr ⟨k, List.mem_range.mpr hk', rfl⟩))) o e⟩
  item := fun i s Q E hi st hQ => by
    refine acc_next st.1 st.2.1 rfl (hit i hi) fun h' hit' hs' => ?_
    have tup : ∀ k, k < its.size → h'.IsTuple (Ts k) (vals k) := fun k hk' => (st.2.2 k hk').extBut hs'.extBut (hTI k hk')
    exact hQ (Ts i) (vals i) h' s.toks ⟨hi, rfl⟩ (tup i hi) ⟨⟨hi, rfl⟩, hit', hs'.extBut _ _ hne st.2.1, tup⟩ fun b o hb e => hs'.extBut b o (fun h => hb (by simp [h])) e
  go := fun _ _ _ _ _ s Q _ hm hQ => wpAny_letOwnedTupleGo_listiter hm.2.1 (hQ s.heap hm.2 fun _ _ _ e => e)
  apart := fun j T _ hm hmem => by
    rcases List.mem_cons.mp hmem with e | e
    · exact hTI j hm.1.1 (hm.1.2 ▸ e)
    · cases e
  done := fun s Q E st hQ => acc_next_end hh st.1 st.2.1 rfl (by simp) fun h' he' => hQ h' s.toks fun b o hb e => he' b o (fun h => hb (by simp [h])) e
  self := fun _ _ _ _ st hQ => wpAny_pyIter_listiter st.1 hQ
structure GenIn (prog : Program) (w : World) (A : Around) (L : Addr) (led : List (Addr × Obj)) (a : Addr) (n : Nat) (F : Nat → Value → Prop) (s : Shared) : Prop where
  gen : ∃ Kb, Gen prog w A Kb a n F s ∧ L ≤ Kb ∧ ∀ q ∈ led, q.1 ≤ Kb
theorem walks_weaken {prog : Program} {w : World} {A : Around} {I : Addr} {fp wr : List Addr} {G : Array GenState → Array GenState → Prop} {n : Nat} {P P' : Nat → Value → Prop} {St : Nat → Shared → Prop}
    (W : WalksS prog w A I fp wr G n P St) (h : ∀ i v, i < n → P i v → P' i v) : WalksS prog w A I fp wr G n P' St :=
  { sub := W.sub, grefl := W.grefl, gtrans := W.gtrans, frame := W.frame, done := W.done, self := W.self, item := fun i s Q E hi st hQ => W.item i s Q E hi st fun v s' hP => hQ v s' (h i v hi hP) }
theorem passing_all (n : Nat) : passing (fun _ => true) n 0 = List.range n := by simp [passing]
section
variable {prog : Program} {w : World} {A : Around} {E : Value → Shared → Prop} {s : Shared} {h₀ : Heap} {L a c P x ax : Addr} {m mg mb : Str → Option Value} {cn : Str} {cs : Scope} {ccd : Value} {cl : List (Str × Addr)} {news : List (Addr × Obj)} {g : Obj → List (Addr × Obj)}
  {p : Program} {loose : List Str} {mean : ExcName → Option Value} {scope : Scope} {ps : Array Value} {pos : Pos} {clos : List (Str × Addr)} {its : Array Value} {n : Nat} {od : Obj}
theorem updF_lt {o o' : Obj} (N : News h₀ L s.heap news) (U : UpdF P o news g) (q : Addr × Obj) (hq : q ∈ g o') : q.1 < s.heap.objs.size := by
  obtain ⟨own, rest, rfl, hgr, h1, h2⟩ := U.split
  rw [hgr] at hq
  rcases List.mem_append.mp hq with hq | hq
  · exact Heap.lt_size (N q (List.mem_append_left _ hq)).1
  · rcases List.mem_cons.mp hq with rfl | hq
    · exact Heap.lt_size (N (P, o) (List.mem_append_right _ (.head _))).1
    · exact Heap.lt_size (N q (List.mem_append_right _ (.tail _ hq))).1
theorem y_gencode {env : Env} {qualname : Str} {Q : Value → Shared → Prop} (F : Fr h₀ L s.heap m) (N : News h₀ L s.heap news) (C : CodeHd h₀ c P) (hcd : env.code = .ref c) (U : UpdF P (tabObj ps) news g) (ht : TriplesOk ps.toList)
    (h : ∀ cv h' tk ps', Heap.ExtBut P s.heap h' → Fr h₀ L h' m → News h₀ L h' (g (tabObj ps')) → TriplesOk ps'.toList → s.heap.objs.size ≤ h'.objs.size → (∀ q ∈ g (tabObj ps'), q.1 < s.heap.objs.size) → Q cv { s with heap := h', toks := tk }) :
    wpAny (model prog w) A (genexprCode env pos qualname scope) Q E s := by
  obtain ⟨own, rest, rfl, hgr, h1, h2⟩ := U.split
  have hm := N (P, tabObj ps) (List.mem_append_right _ (.head _))
  have C' := C.keeps F.keep
  have hlt : ∀ ps', ∀ q ∈ g (tabObj ps'), q.1 < s.heap.objs.size := fun ps' q hq => by
    rw [hgr] at hq
    rcases List.mem_append.mp hq with hq | hq
    · exact Heap.lt_size (N q (List.mem_append_left _ hq)).1
    · rcases List.mem_cons.mp hq with rfl | hq
      · exact Heap.lt_size hm.1
      · exact Heap.lt_size (N q (List.mem_append_right _ (.tail _ hq))).1
  cases hnf : codeAmong pos ps.toList with
  | some cv =>
    refine wpAny_genexprCode_hit (c := c) hcd (C'.code hm.1 ht) hnf ?_
    exact h cv s.heap s.toks ps (Heap.ExtBut.refl _ _) F (by rw [hgr]; exact N) ht (Nat.le_refl _) (hlt ps)
  | none =>
    refine wpAny_genexprCodeX (c := c) hcd (C'.code hm.1 ht) (C'.tab hm.1) hnf fun c' h' tk hx hge hlt' hcode' _ htab' _ => ?_
    have old : ∀ b o, h₀.get? b = some o → h'.get? b = some o := fun b o e => hx b o (fun q => by rw [q, hm.2.2] at e; cases e) (F.keep b o e)
    refine h _ h' tk (ps ++ #[rawInt pos.line, rawInt pos.col, .ref c']) hx ⟨F.ns.extBut hx hm.2.1.symm, old, F.above⟩ (fun q hq => ?_) ?_ (Nat.le_trans hge (Nat.le_of_lt hlt')) (hlt _)
    · rw [hgr] at hq
      rcases List.mem_append.mp hq with hq | hq
      · have n := N q (List.mem_append_left _ hq)
        exact ⟨hx _ _ (h1 q hq) n.1, n.2⟩
      · rcases List.mem_cons.mp hq with rfl | hq
        · exact ⟨htab'.2, hm.2⟩
        · have n := N q (List.mem_append_right _ (.tail _ hq))
          exact ⟨hx _ _ (h2 q hq) n.1, n.2⟩
    · rw [show (ps ++ #[rawInt pos.line, rawInt pos.col, Value.ref c']).toList = ps.toList ++ [rawInt pos.line, rawInt pos.col, .ref c'] by simp]
      exact TriplesOk_snoc _ _ _ _ ht
theorem y_gen {env : Env} (hge0 : env.globals = mainGlobals) {elt iter : PySem.Expr} {xa xb : Str} {pa pb pt : Pos} {kt : Nat} {Q : Value → Shared → Prop} {Ts : Nat → Addr} {vals : Nat → Array Value} {Fv : Nat → Value → Prop}
    (F : Fr h₀ L s.heap m) (N : News h₀ L s.heap news) (X : KH w h₀) (T : Top p loose mean mg mb h₀) (C : CodeHd h₀ c P) (hcd : env.code = .ref c) (U : UpdF P (tabObj ps) news g) (ht : TriplesOk ps.toList)
    (h1 : (x, accObj ax its n) ∈ news) (h2 : (ax, od) ∈ news) (hG : AllBare s.gens) (hh : A.handled = none)
    (hco : scope.isCoroutine = false) (hclos : closureFor scope env = pure clos) (hcell : ∀ y ∈ scope.names, y.2 ≠ .cell) (h0 : scope.names.lookup (".0" : Str) = some NameKind.local)
    (hxa : scope.names.lookup xa = some .local) (hxb : scope.names.lookup xb = some .local) (hab : xa ≠ xb) (hkind : scope.kind = .function) (hroom : A.depth < recursionLimit)
    (hits : ∀ j, j < its.size → its[j]? = some (.ref (Ts j))) (htup : ∀ j, j < its.size → h₀.IsTuple (Ts j) (vals j)) (hv2 : ∀ j, j < its.size → ∃ va vb, vals j = #[va, vb])
    (hself : ∀ (Q' : Value → Shared → Prop), Q' (.ref x) s → wpAny (model prog w) A (eval iter env) Q' E s)
    (helt : ∀ (C : Addr) (code : Value) (A' : Around) E' i va vb (t : Shared) m₂, A'.handled = none → A'.depth ≤ A.depth + 1 → A'.units ≤ A.units + 8 → i < its.size → vals i = #[va, vb] → Fr h₀ C t.heap m₂ → m₂ xa = some va → m₂ xb = some vb →
      wpAny (model prog w) A' (eval elt (genEnv scope clos C code builtinsNs env)) (fun y s₃ => Fv i y ∧ Keeps t s₃) E' t)
    (hs : ∀ x, genFold iter env x = pure x)
    (hQ : ∀ ga s₅ ps', Fr h₀ L s₅.heap m → News h₀ L s₅.heap (g (tabObj ps')) → TriplesOk ps'.toList → AllBare s₅.gens → s₅.os = s.os → GenIn prog w A L (g (tabObj ps')) ga its.size Fv s₅ → Q (.ref ga) s₅) :
    wpAny (model prog w) A (eval (.GeneratorExp elt [⟨.Tuple [.Name xa pa, .Name xb pb] kt pt, iter, [], 0⟩] scope pos) env) Q E s := by
  refine wpAny_GeneratorExp_walksQTD (cl := clos) hh hco hclos hcell h0 hxa hxb hab hkind hroom (hself _ ?_) hs
  have F2 : Fr h₀ L (s.heap.push { cls := .type "list_iterator", data := .fields #[.ref x, .int 0 0] }) m := ⟨F.ns.push _, fun b o e => Heap.get?_push_of_some _ (F.keep b o e), F.above⟩
  have N2 : News h₀ L (s.heap.push { cls := .type "list_iterator", data := .fields #[.ref x, .int 0 0] }) news := fun q hq => ⟨Heap.get?_push_of_some _ (N q hq).1, (N q hq).2⟩
  refine acc_iter (acc_at F X N h1 h2) ⟨T.nolimit.keeps F2.keep, ?_⟩
  refine y_gencode (s := { s with heap := s.heap.push _ }) F2 N2 C hcd U ht fun cv h' tk ps' hx F3 N3 ht' hge hltg => ?_
  dsimp only at hge hltg hx
  have hm := N2 (P, tabObj ps) (by obtain ⟨pre, post, e, _, _, _⟩ := U.split; rw [e]; simp)
  obtain ⟨bm, ob, b1, b2, b3, b4, b5, b6⟩ := T.bmain
  rw [hge0]
  refine wpAny_builtinsFor (T.g.keeps F3.keep) b1 b2 (F3.keep _ _ b3) b4 b5 b6 ?_
  have hI : s.heap.objs.size ≠ P := fun q => by
    have e1 := (N _ (show (P, tabObj ps) ∈ news by obtain ⟨pre, post, e, _, _, _⟩ := U.split; rw [e]; simp)).1
    exact Nat.lt_irrefl _ (q ▸ Heap.lt_size e1)
  have hxI : x ≠ s.heap.objs.size := fun q => Nat.lt_irrefl _ (q ▸ Heap.lt_size (N _ h1).1)
  have hxP : x ≠ P := fun q => by
    have e1 := (N _ h1).1
    have e2 := (N _ (show (P, tabObj ps) ∈ news by obtain ⟨pre, post, e, _, _, _⟩ := U.split; rw [e]; simp)).1
    rw [q, e2] at e1; cases e1
  have hTlt : ∀ j, j < its.size → Ts j < s.heap.objs.size := fun j hj => let ⟨o, e, _⟩ := htup j hj; Heap.lt_size (F.keep _ _ e)
  have hpush : (s.heap.push { cls := .type "list_iterator", data := .fields #[.ref x, .int 0 0] }).objs.size = s.heap.objs.size + 1 := by rw [Heap.size_push]
  refine ⟨s.heap.objs.size, s.heap.objs.size :: x :: (List.range its.size).map Ts, [s.heap.objs.size], its.size, _, _, _, fun _ => true, Fv, rfl,
    fun A' hA => accWalk hA s.heap.objs.size x ax n hxI its Ts vals hits (fun j hj => Nat.ne_of_lt (hTlt j hj)), (fun i vs hp => by rw [hp.2]; exact hv2 i hp.1), ⟨?_, ?_, ?_⟩, ?_, T.nolimit.keeps F3.keep, ?_, ?_, ?_⟩
  · exact ⟨_, hx _ _ hI (Heap.get?_push_size _ rfl), rfl, rfl⟩
  · exact hx _ _ hxP (Heap.get?_push_of_some _ (N _ h1).1)
  · intro k hk
    exact (htup k hk).at fun o e => F3.keep _ _ e
  · intro b hb
    have : b < s.heap.objs.size + 1 := by
      rcases List.mem_cons.mp hb with rfl | hb
      · exact Nat.lt_succ_self _
      · rcases List.mem_cons.mp hb with rfl | hb
        · exact Nat.lt_succ_of_lt (Heap.lt_size (N _ h1).1)
        · obtain ⟨j, hj, rfl⟩ := List.mem_map.mp hb
          exact Nat.lt_succ_of_lt (hTlt j (List.mem_range.mp hj))
    exact Nat.lt_of_lt_of_le this (hpush ▸ hge)
  · intro hm
    have e : cStatics = s.heap.objs.size := List.mem_singleton.mp hm
    obtain ⟨_, hn, _⟩ := T.nolimit.keeps F.keep
    exact Nat.lt_irrefl _ (Nat.lt_of_lt_of_eq hn.lt e.symm)
  · intro href hhref
    have hLI : L < s.heap.objs.size := F.ns.lt
    have inB : ∀ (t : Shared) m₂, t.heap.Ns h'.objs.size m₂ → (∀ b ∈ List.range h'.objs.size, b ∉ [s.heap.objs.size] → ∀ o, href.get? b = some o → t.heap.get? b = some o) → Fr h₀ h'.objs.size t.heap m₂ := fun t m₂ hn hkp =>
      ⟨hn, fun b o e => hkp b (List.mem_range.mpr (Heap.lt_size (F3.keep b o e))) (fun hm => by
        have e2 := List.mem_singleton.mp hm
        have := Heap.lt_size (F.keep b o e)
        rw [e2] at this
        exact Nat.lt_irrefl _ this) o (hhref b o (F3.keep b o e)),
        Nat.le_trans F.above (Nat.le_of_lt (Nat.lt_of_lt_of_le hLI (Nat.le_trans (by omega) hge)))⟩
    refine ⟨fun A' E' i va vb t m₂ hA hD hU hP hn hma hmb hkp => ?_, fun A' E' i va vb t m₂ hA hD hU hP hp hn hma hmb hkp => helt _ _ A' E' i va vb t m₂ hA hD hU hP.1 hP.2.symm (inB t m₂ hn hkp) hma hmb⟩
    rw [List.forIn_nil]
    exact wpAny_pure ⟨rfl, t.heap, t.toks, rfl, fun _ _ e => e⟩
  · intro a' h₅ tk' gs hgb hag hsz₅ hk₅ W hat
    have hKs : s.heap.objs.size - 1 < s.heap.objs.size := Nat.sub_lt (Nat.lt_of_le_of_lt (Nat.zero_le _) F.ns.lt) (by decide)
    rw [passing_all] at W
    rw [List.length_range] at W
    have W' := walks_weaken (P' := Fv) W fun i v hi hp => by
      obtain ⟨i', hi', hF⟩ := hp
      rw [List.getElem?_range hi] at hi'
      cases hi'
      exact hF
    refine hQ a' _ ps' (F3.keeps hk₅) (fun q hq => ⟨hk₅ _ _ (N3 q hq).1, (N3 q hq).2⟩) ht' (hG.push hgb) rfl ⟨s.heap.objs.size - 1, ⟨_, _, _, _, W', hat, (fun i s' st => st.1.typeIs), List.mem_cons_self, ?_, ?_⟩, Nat.le_sub_one_of_lt F.ns.lt, fun q hq => ?_⟩
    · intro b hb
      show b < h₅.objs.size
      rw [hsz₅]
      rcases List.mem_cons.mp hb with rfl | hb
      · exact Nat.lt_succ_self _
      · rcases List.mem_cons.mp hb with rfl | hb
        · exact Nat.lt_succ_of_lt hag
        · exact Nat.lt_succ_of_lt (Nat.lt_trans (List.mem_range.mp hb) hag)
    · intro b hb
      rcases List.mem_cons.mp hb with rfl | hb
      · exact Nat.lt_of_lt_of_le hKs (Nat.le_trans (by omega) hge)
      · rw [List.mem_singleton.mp hb]; exact hKs
    · exact Nat.le_sub_one_of_lt (updF_lt N U q hq)
end
section
variable {prog : Program} {w : World} {A : Around} {E : Value → Shared → Prop} {s : Shared} {h₀ : Heap} {L a : Addr} {m : Str → Option Value} {news : List (Addr × Obj)} {n : Nat} {Fv : Nat → Value → Prop} {Q : Value → Shared → Prop}
theorem GenIn.later {tk : Nat} (X : GenIn prog w A L news a n Fv s) (h : s.toks ≤ tk) : GenIn prog w A L news a n Fv { s with toks := tk } := by
  obtain ⟨Kb, ⟨fp, wr, g, St, W, hst, h1, h2, hfp, hwr⟩, hLK, hnK⟩ := X
  exact ⟨Kb, ⟨fp, wr, g, St, W, W.frame 0 s s.heap tk hst h fun _ _ _ e => e, h1, h2, hfp, hwr⟩, hLK, hnK⟩
theorem args_sum2 (a b : Value) : argsOk "sum" ⟨[a, b], []⟩ := by unfold argsOk; kernel_rfl
theorem sum2_acc {val : Nat → Int} {ti : Tok} (Fh : Fr h₀ L s.heap m) (N : News h₀ L s.heap news) (G : AllBare s.gens) (X : GenIn prog w A L news a n Fv s) (hval : ∀ j v, Fv j v → ∃ t, v = .int (val j) t) (hfit : ∀ j, j < n → InLong (val j) ∧ InLong (preSum val (j + 1)))
    (hQ : ∀ s' t', Fr h₀ L s'.heap m → News h₀ L s'.heap news → AllBare s'.gens → s'.os = s.os → Q (.int (preSum val n) t') s') : wpAny (model prog w) A (call (.builtin "sum") [.ref a, .int 0 ti]) Q E s := by
  obtain ⟨Kb, ⟨fp, wr, g, St, W, hst, _, _, hfp, hwr⟩, hLK, hnK⟩ := X
  have W := W.in4_1
  refine call_function_tree PySem.F.kind_sum PySem.F.plain_sum PySem.F.entry_sum (args_sum2 _ _) ?_
  unfold Builtin.«sum»
  simp only [List.length_cons, List.length_nil]
  rw [if_neg (by decide)]
  refine wpAny_bind (wpAny_of_eq (show Builtin.Builtins.bindParams "sum" ["start"] 0 { pos := [.int 0 ti] } = pure [some (.int 0 ti)] from rfl) ?_)
  refine wpAny_bind (W.self 0 _ _ _ hst ?_)
  dsimp only
  rw [if_pos (by decide)]
  refine wpAny_bind (wpAny_rule (wpAny_bind (wpAny_mkInt (wpAny_bind (wpAny_pure ?_)))))
  simp only [List.forIn_cons, List.forIn_nil]
  refine wpAny_bind (wpAny_bind (wpAny_bind (wpAny_isInstance (T := "int") (b := false) (typeIs_int _ _ _) PySem.sub_int_str ?_)))
  simp only [Bool.false_eq_true, if_false]
  refine wpAny_pure (wpAny_bind (wpAny_bind (wpAny_isInstance (T := "int") (b := false) (typeIs_int _ _ _) sub_int_bytes ?_)))
  simp only [Bool.false_eq_true, if_false]
  refine wpAny_pure (wpAny_bind (wpAny_bind (wpAny_isInstance (T := "int") (b := false) (typeIs_int _ _ _) sub_int_bytearray ?_)))
  simp only [Bool.false_eq_true, if_false]
  refine wpAny_pure (wpAny_pure ?_)
  refine wpAny_bind (wpAny_newObj_type ?_)
  have hSf : s.heap.objs.size ∉ fp := fun hm => Nat.lt_irrefl _ (hfp _ hm)
  refine wpAny_pure ⟨plainId_quiet PySem.F.plain_sum_loop _, codeAny_sum_loopS W val hval hfit s.heap.objs.size hSf n 0 _ s.toks 0 rfl (Nat.zero_le _)
    (W.frame 0 s _ _ hst (by first | exact Nat.le_refl _ | exact Nat.le_succ _ | omega) fun b _ o e => Heap.get?_push_of_some _ e) (Heap.get?_push_size _ rfl) fun s' t' hm0 => ?_⟩
  have hm := hm0.drop_new (by first | exact Nat.le_refl _ | exact Nat.le_succ _ | omega)
  exact hQ s' t' (Fh.moved hm fun b hb => Nat.lt_of_le_of_lt hLK (hwr b hb)) (fun q hq => ⟨hm.heap _ _ (fun hmem => Nat.lt_irrefl _ (Nat.lt_of_lt_of_le (hwr _ hmem) (hnK q hq))) (N q hq).1, (N q hq).2⟩) (G.movedS hm) hm.os
theorem join_acc {sep : Str} {t : Tok} {tx : Nat → Str} (Fh : Fr h₀ L s.heap m) (N : News h₀ L s.heap news) (G : AllBare s.gens) (X : GenIn prog w A L news a n Fv s) (htx : ∀ j v, Fv j v → ∃ u, v = .str (tx j) u)
    (hok : JoinOk sep ((List.range n).map tx) = true) (hsz : n ≤ sizeLine)
    (hQ : ∀ s' t', Fr h₀ L s'.heap m → News h₀ L s'.heap news → AllBare s'.gens → s'.os = s.os → Q (.str (Txt.join sep ((List.range n).map tx)) t') s') : wpAny (model prog w) A (call (.builtin "str.join") [.str sep t, .ref a]) Q E s := by
  obtain ⟨Kb, X, hLK, hnK⟩ := X
  exact join_rowsK Fh G X hLK tx htx hok (fun s' t' F' G' hos hk => hQ s' t' F' (fun q hq => ⟨hk _ _ (hnK q hq) (N q hq).1, (N q hq).2⟩) G' hos) hsz
end
section
variable {M : Model} {A : Around} {E : Value → Shared → Prop} {s : Shared} {K : Frag} {h₀ : Heap} {C : Addr} {m mg mb : Str → Option Value} {p : Program} {loose : List Str} {mean : ExcName → Option Value} {scope : Scope} {cl : List (Str × Addr)} {code : Value} {env : Env} {x : Str} {pos : Pos} {v : Value} {Q : Value → Shared → Prop}
theorem gname_B (F : Fr h₀ C s.heap m) (X : K.In h₀) (T : Top p loose mean mg mb h₀) (e : nsIn K mainGlobals x = some none) (hv : bootBuiltins x = some v) (hn : x ≠ "__name__") (h : Q v s) (hg : env.globals = mainGlobals) (hk : scope.kind = .function)
    (hx : scope.names.lookup x = some .globalImplicit) (hd : (x == ("__debug__" : Str)) = false) : wpAny M A (eval (.Name x pos) (genEnv scope cl C code builtinsNs env)) Q E s :=
  Calls.Name_function_global (env := genEnv scope cl C code builtinsNs env) hk hx (Calls.loadGlobal_builtin (env := genEnv scope cl C code builtinsNs env) (by show s.heap.Ns env.globals mg; rw [hg]; exact T.g.keeps F.keep) (mg_none_of X T.g e) (T.b.keeps F.keep) ((T.builtins x hn).trans hv) h) hd
theorem gname_K (F : Fr h₀ C s.heap m) (X : K.In h₀) (T : Top p loose mean mg mb h₀) (e : nsIn K mainGlobals x = some (some v)) (h : Q v s) (hg : env.globals = mainGlobals) (hk : scope.kind = .function)
    (hx : scope.names.lookup x = some .globalImplicit) (hd : (x == ("__debug__" : Str)) = false) : wpAny M A (eval (.Name x pos) (genEnv scope cl C code builtinsNs env)) Q E s :=
  Calls.Name_function_global (env := genEnv scope cl C code builtinsNs env) hk hx (loadGlobal_global (env := genEnv scope cl C code builtinsNs env) (by show s.heap.Ns env.globals mg; rw [hg]; exact T.g.keeps F.keep) (mg_of X T.g e) h) hd
theorem gname_L (F : Fr h₀ C s.heap m) (hv : m x = some v) (h : Q v s) (hk : scope.kind = .function) (hl : scope.names.lookup x = some .local) (hd : (x == ("__debug__" : Str)) = false) :
    wpAny M A (eval (.Name x pos) (genEnv scope cl C code builtinsNs env)) Q E s := wpAny_Name (wpAny_loadName_local hk hl F.ns hv h) hd
end
end
section -- JItems
open PySem.Calls
noncomputable abbrev tupObj (vs : Array Value) : Obj := { cls := .type "tuple", data := .seq vs }
noncomputable def Items (h : Heap) (its : Array Value) (xs : List Str) : Prop := ∃ (Ts : Nat → Addr) (U V : Nat → Tok), its.size = xs.length ∧ ∀ j, j < its.size → its[j]? = some (.ref (Ts j)) ∧ h.get? (Ts j) = some (tupObj #[.str "" (U j), .str (xs.getD j "") (V j)])
theorem Items.ge {h h' : Heap} {its : Array Value} {xs : List Str} {mu : List Addr} (I : Items h its xs) (G : Ge mu h h') (hn : ∀ b ∈ mu, ∀ vs, h.get? b ≠ some (tupObj vs)) : Items h' its xs := by
  obtain ⟨Ts, U, V, e, k⟩ := I
  exact ⟨Ts, U, V, e, fun j hj => ⟨(k j hj).1, G _ _ (fun hm => hn _ hm _ (k j hj).2) (k j hj).2⟩⟩
theorem Items.keep {h h' : Heap} {its : Array Value} {xs : List Str} (I : Items h its xs) (G : ∀ b o, h.get? b = some o → h'.get? b = some o) : Items h' its xs := by
  obtain ⟨Ts, U, V, e, k⟩ := I
  exact ⟨Ts, U, V, e, fun j hj => ⟨(k j hj).1, G _ _ (k j hj).2⟩⟩
theorem Items.size {h : Heap} {its : Array Value} {xs : List Str} (I : Items h its xs) : its.size = xs.length := by obtain ⟨_, _, _, e, _⟩ := I; exact e
theorem Items.led {h g h₀ : Heap} {L : Addr} {its : Array Value} {xs : List Str} {news : List (Addr × Obj)} (I : Items h its xs) (N : News h₀ L h news) (G : HG (news.map (·.1)) h g) (hn : news.all (fun p => p.2.cls != .type "tuple") = true) : Items g its xs := by
  refine I.ge G fun b hb vs e => ?_
  obtain ⟨p, hp, rfl⟩ := List.mem_map.mp hb
  have e2 := (N p hp).1
  rw [e] at e2
  have := List.all_eq_true.mp hn p hp
  rw [← Option.some.inj e2] at this
  exact absurd this (by simp)
theorem ne_led {h₀ h : Heap} {L a b : Addr} {o o' : Obj} {news : List (Addr × Obj)} (N : News h₀ L h news) (h1 : (a, o) ∈ news) (h2 : (b, o') ∈ news) (h3 : (o.cls != o'.cls) = true) : @Ne Nat a b := fun e => by
  have e1 := (N _ h1).1
  have e2 := (N _ h2).1
  dsimp only at e1 e2
  subst e
  rw [e1] at e2
  cases e2
  simp at h3
theorem Items.push {h : Heap} {its : Array Value} {xs : List Str} {t : Addr} {x : Str} {u v : Tok} (I : Items h its xs) (e : h.get? t = some (tupObj #[.str "" u, .str x v])) : Items h (its.push (.ref t)) (xs ++ [x]) := by
  obtain ⟨Ts, U, V, hs, k⟩ := I
  refine ⟨fun j => if j = its.size then t else Ts j, fun j => if j = its.size then u else U j, fun j => if j = its.size then v else V j, by simp [hs], fun j hj => ?_⟩
  rw [Array.size_push] at hj
  by_cases hjs : j = its.size
  · subst hjs
    rw [Array.getElem?_push_size]
    simp [e, hs]
  · have hlt : j < its.size := by omega
    obtain ⟨k1, k2⟩ := k j hlt
    dsimp only
    refine ⟨?_, ?_⟩
    · rw [Array.getElem?_push, if_neg hjs, if_neg hjs]; exact k1
    · rw [if_neg hjs, if_neg hjs, if_neg hjs, k2, List.getD_eq_getElem?_getD, List.getD_eq_getElem?_getD, List.getElem?_append_left (by omega)]
theorem Items.take {h : Heap} {its : Array Value} {xs : List Str} (I : Items h its xs) (i : Nat) : Items h (its.extract 0 i) (xs.take i) := by
  obtain ⟨Ts, U, V, hs, k⟩ := I
  refine ⟨Ts, U, V, by simp [hs], fun j hj => ?_⟩
  have hj' : j < its.size ∧ j < i := by simp at hj; exact ⟨Nat.lt_of_lt_of_le hj (Nat.min_le_right ..), Nat.lt_of_lt_of_le hj (Nat.min_le_left ..)⟩
  obtain ⟨k1, k2⟩ := k j hj'.1
  refine ⟨?_, ?_⟩
  · rw [Array.getElem?_extract]
    simp [k1]
    omega
  · rw [k2, List.getD_eq_getElem?_getD, List.getD_eq_getElem?_getD, List.getElem?_take, if_pos hj'.2]
theorem Items.drop {h : Heap} {its : Array Value} {xs : List Str} (I : Items h its xs) (i : Nat) : Items h (its.extract i its.size) (xs.drop i) := by
  obtain ⟨Ts, U, V, hs, k⟩ := I
  refine ⟨fun j => Ts (i + j), fun j => U (i + j), fun j => V (i + j), by simp [hs], fun j hj => ?_⟩
  have hj' : i + j < its.size := by simp at hj; omega
  obtain ⟨k1, k2⟩ := k (i + j) hj'
  refine ⟨?_, ?_⟩
  · rw [Array.getElem?_extract]
    simp [k1]
    omega
  · rw [k2, List.getD_eq_getElem?_getD, List.getD_eq_getElem?_getD, List.getElem?_drop]
theorem getD_len {xs : List Str} {n : Nat} (h : ∀ x ∈ xs, x.length ≤ n) (i : Nat) : (xs.getD i "").length ≤ n := by
  by_cases hi : i < xs.length
  · rw [List.getD_eq_getElem?_getD, List.getElem?_eq_getElem hi]; exact h _ (List.getElem_mem hi)
  · rw [List.getD_eq_getElem?_getD, List.getElem?_eq_none (by omega)]; exact Nat.zero_le _
noncomputable def total (xs : List Str) : Int := ((xs.map (·.length)).sum : Nat)
theorem preSum_total (xs : List Str) (k : Nat) (hk : k ≤ xs.length) : preSum (fun j => (0 : Int) + ((xs.getD j "").length : Int)) k = total (xs.take k) := by
  induction k with
  | zero => rfl
  | succ k ih =>
    rw [preSum, ih (by omega)]
    have : xs.take (k + 1) = xs.take k ++ [xs.getD k ""] := by
      rw [List.take_add_one]
      simp [List.getElem?_eq_getElem (show k < xs.length by omega)]
    rw [this, total, total]
    simp
theorem sum_le {xs : List Str} (h : ∀ x ∈ xs, x.length ≤ 200) : (xs.map (·.length)).sum ≤ 200 * xs.length := by
  induction xs with
  | nil => simp
  | cons x r ih =>
    have := ih fun y hy => h y (.tail _ hy)
    have := h x (.head _)
    simp only [List.map_cons, List.sum_cons, List.length_cons]
    omega
theorem total_le {xs : List Str} (h : ∀ x ∈ xs, x.length ≤ 200) : 0 ≤ total xs ∧ total xs ≤ 200 * xs.length := by
  have := sum_le h
  unfold total
  omega
theorem preSum_fits {xs : List Str} {its : Array Value} (h : ∀ x ∈ xs, x.length ≤ 200) (hs : its.size < 100) (hsz : its.size = xs.length) (j : Nat) (hj : j < its.size) :
    InLong ((0 : Int) + ((xs.getD j "").length : Int)) ∧ InLong (preSum (fun j => (0 : Int) + ((xs.getD j "").length : Int)) (j + 1)) := by
  have h1 := getD_len h j
  rw [preSum_total xs _ (by omega)]
  have h2 := total_le (xs := xs.take (j + 1)) fun x hx => h x (List.mem_of_mem_take hx)
  have h3 : (xs.take (j + 1)).length ≤ xs.length := by rw [List.length_take]; exact Nat.min_le_right _ _
  unfold InLong
  omega
theorem str_nil_append (x : Str) : ("" : Str) ++ x = x := by
  cases x with
  | mk c => show (Str.mk (#[] ++ c)) = _; rw [Array.empty_append]
theorem join_two (x : Str) : Txt.join "" ["", x] = x := by
  have : Txt.join "" ["", x] = "" ++ "" ++ x := (StrLaws.glued_eq_join _ _).trans rfl
  rw [this, str_nil_append, str_nil_append]
theorem range_getD {xs : List Str} {its : Array Value} (hsz : its.size = xs.length) : (List.range its.size).map (fun j => xs.getD j "") = xs := by
  rw [hsz]
  apply List.ext_getElem
  · simp
  · intro i h1 h2
    simp [List.getD_eq_getElem?_getD, List.getElem?_eq_getElem h2]
theorem joinOk_xs {xs : List Str} {its : Array Value} (h : ∀ x ∈ xs, x.length ≤ 200) (hs : its.size < 100) (hsz : its.size = xs.length) : JoinOk "" ((List.range its.size).map (fun j => xs.getD j "")) = true := by
  rw [range_getD hsz]
  have := sum_le h
  exact joinOk_of_weight (by omega) (by decide)
end
section -- JSpl
theorem zsJSpl : True := by
  k_with "room" => (first | exact room0 (by assumption) (Nat.le_of_ble_eq_true rfl) | exact room1 (by assumption) (Nat.le_of_ble_eq_true rfl) | exact room2 (by assumption) | lia)
  trivial
open PySem.Calls Builtin Builtin.Str
noncomputable def jn (m : List Nat) : List (List Nat) → List Nat
  | [] => []
  | [x] => x
  | x :: y :: r => x ++ m ++ jn m (y :: r)
theorem jn_join (m : Str) : ∀ ps : List Str, (Str.join m ps).cps.toList = jn m.cps.toList (ps.map (·.cps.toList))
  | [] => rfl
  | [x] => rfl
  | x :: y :: r => by
    show (x ++ m ++ Str.join m (y :: r)).cps.toList = _
    show ((x.cps ++ m.cps) ++ (Str.join m (y :: r)).cps).toList = _
    rw [Array.toList_append, Array.toList_append, jn_join m (y :: r)]
    rfl
noncomputable def cutsF (m : Nat) : Nat → List (List Nat) → List Nat
  | _, [] => []
  | _, [_] => []
  | a, x :: y :: r => (a + x.length) :: cutsF m (a + x.length + m) (y :: r)
noncomputable def hit (t y : List Nat) (i : Nat) : Bool := (t.drop i).take y.length == y
theorem subAt_hit (x y : Str) (i : Nat) : subAt x y i = hit x.cps.toList y.cps.toList i := by
  rw [StrLaws.subAt_eq]
  show _ = ((x.cps.toList.drop i).take y.cps.toList.length == y.cps.toList)
  rw [Array.length_toList]
  rfl
theorem occ_skip (x y : Str) (hi lim : Nat) : ∀ (n a : Nat) (st : Array Nat × Nat), (∀ i, a ≤ i → i < a + n → i < st.2 ∨ hi < i + y.length ∨ subAt x y i = false) →
    (forIn (List.range' a n) st (StrLaws.occBody x y hi lim)).run = st
  | 0, a, st, _ => rfl
  | n + 1, a, st, h => by
    rw [List.range'_succ, List.forIn_cons]
    have c : ¬ (((st.fst.size < lim ∧ st.snd ≤ a) ∧ a + y.length ≤ hi) ∧ subAt x y a = true) := by
      rintro ⟨⟨⟨_, h1⟩, h2⟩, h3⟩
      rcases h a (Nat.le_refl _) (by omega) with h4 | h4 | h4
      · omega
      · omega
      · rw [h3] at h4; cases h4
    unfold StrLaws.occBody
    rw [if_neg c]
    exact occ_skip x y hi lim n (a + 1) st fun i h1 h2 => h i (by omega) (by omega)
theorem occ_take (x y : Str) (hi lim n a : Nat) (st : Array Nat × Nat) (h1 : st.1.size < lim) (h2 : st.2 ≤ a) (h3 : a + y.length ≤ hi) (h4 : subAt x y a = true) :
    (forIn (List.range' a (n + 1)) st (StrLaws.occBody x y hi lim)).run = (forIn (List.range' (a + 1) n) (st.1.push a, a + y.length) (StrLaws.occBody x y hi lim)).run := by
  rw [List.range'_succ, List.forIn_cons]
  conv => lhs; unfold StrLaws.occBody
  rw [if_pos ⟨⟨⟨h1, h2⟩, h3⟩, h4⟩]
  rfl
theorem forIn_split {f : Nat → Array Nat × Nat → Id (ForInStep (Array Nat × Nat))} (hf : ∀ i st, ∃ st', f i st = pure (.yield st')) : ∀ (l r : List Nat) (st : Array Nat × Nat), (forIn (l ++ r) st f).run = (forIn r (forIn l st f).run f).run
  | [], r, st => rfl
  | a :: l, r, st => by
    rw [List.cons_append, List.forIn_cons, List.forIn_cons]
    obtain ⟨st', e⟩ := hf a st
    rw [e]
    exact forIn_split hf l r st'
theorem occBody_yields (x y : Str) (hi lim : Nat) (i : Nat) (st : Array Nat × Nat) : ∃ st', StrLaws.occBody x y hi lim i st = pure (.yield st') := by
  unfold StrLaws.occBody
  split
  · exact ⟨_, rfl⟩
  · exact ⟨_, rfl⟩
noncomputable def Clear (m : List Nat) (ps : List (List Nat)) : Prop := ∀ p ∈ ps, ∀ c ∈ p, c ∉ m
theorem hit_no {t m : List Nat} {i : Nat} {c : Nat} (hm : m ≠ []) (h : t[i]? = some c) (hc : c ∉ m) : hit t m i = false := by
  unfold hit
  cases m with
  | nil => exact absurd rfl hm
  | cons b m =>
    have e : (t.drop i)[0]? = some c := by rw [List.getElem?_drop]; exact h
    cases ht : t.drop i with
    | nil => rfl
    | cons d r =>
      rw [ht] at e
      have : d = c := by simpa using e
      subst this
      have hne : (d == b) = false := beq_eq_false_iff_ne.mpr fun q => hc (q ▸ .head _)
      show (d == b && _) = false
      rw [hne]; rfl
theorem jn_cons {m x : List Nat} {ps : List (List Nat)} (h : ps ≠ []) : jn m (x :: ps) = x ++ m ++ jn m ps := by
  cases ps with
  | nil => exact absurd rfl h
  | cons y r => rfl
theorem cuts_cons {m a : Nat} {x : List Nat} {ps : List (List Nat)} (h : ps ≠ []) : cutsF m a (x :: ps) = (a + x.length) :: cutsF m (a + x.length + m) ps := by
  cases ps with
  | nil => exact absurd rfl h
  | cons y r => rfl
theorem get_of_drop {t u : List Nat} {a i : Nat} (h : t.drop a = u) (hi : a ≤ i) : t[i]? = u[i - a]? := by
  rw [← h, List.getElem?_drop]
  congr 1
  omega
theorem occ_parts (T y : Str) (hm : y.cps.toList ≠ []) : ∀ (ps : List (List Nat)) (a : Nat) (st : Array Nat × Nat), ps ≠ [] → Clear y.cps.toList ps → T.cps.toList.drop a = jn y.cps.toList ps → a + (jn y.cps.toList ps).length = T.length → st.1.size ≤ a → st.2 ≤ a →
    (forIn (List.range' a ((jn y.cps.toList ps).length + 1)) st (StrLaws.occBody T y T.length (T.length + 1))).run.1.toList = st.1.toList ++ cutsF y.length a ps := by
  have hy : 0 < y.length := by
    show 0 < y.cps.size
    rw [← Array.length_toList]
    exact List.length_pos_iff.mpr hm
  have hyl : y.cps.toList.length = y.length := Array.length_toList ..
  intro ps
  induction ps with
  | nil => intro a st h; exact absurd rfl h
  | cons x ps ih =>
    intro a st _ hc hd hl h1 h2
    have hx : ∀ i, a ≤ i → i < a + x.length → subAt T y i = false := by
      intro i h3 h4
      rw [subAt_hit]
      have e : T.cps.toList[i]? = x[i - a]? := by
        rw [get_of_drop hd h3]
        cases ps with
        | nil => rfl
        | cons z r => rw [jn_cons (List.cons_ne_nil _ _), List.append_assoc, List.getElem?_append_left (by omega)]
      have hlt : i - a < x.length := by omega
      refine hit_no hm (e.trans (List.getElem?_eq_getElem hlt)) (hc x (.head _) _ (List.getElem_mem hlt))
    by_cases hp : ps = []
    · subst hp
      show (forIn (List.range' a (x.length + 1)) st (StrLaws.occBody T y T.length (T.length + 1))).run.1.toList = st.1.toList ++ []
      rw [List.append_nil, occ_skip]
      intro i h3 h4
      by_cases h5 : i < a + x.length
      · exact .inr (.inr (hx i h3 h5))
      · refine .inr (.inl ?_)
        have hl' : a + x.length = T.length := hl
        omega
    · rw [jn_cons hp] at hd hl ⊢
      rw [cuts_cons hp]
      have e1 : (x ++ y.cps.toList ++ jn y.cps.toList ps).length + 1 = x.length + ((y.length - 1 + ((jn y.cps.toList ps).length + 1)) + 1) := by
        simp only [List.length_append, hyl]; omega
      have hl' : a + (x.length + y.length + (jn y.cps.toList ps).length) = T.length := by
        simpa only [List.length_append, hyl] using hl
      rw [e1, ← List.range'_append_1, forIn_split (occBody_yields _ _ _ _), occ_skip _ _ _ _ _ _ _ (fun i h3 h4 => .inr (.inr (hx i h3 h4)))]
      rw [occ_take _ _ _ _ _ _ _ (by omega) (by omega) (by omega), ← List.range'_append_1, forIn_split (occBody_yields _ _ _ _), occ_skip T y T.length (T.length + 1) (y.length - 1) (a + x.length + 1)]
      · have e2 : a + x.length + 1 + (y.length - 1) = a + x.length + y.length := by omega
        rw [e2, ih _ _ hp (fun p hp' => hc p (.tail _ hp'))]
        · simp
        · have e3 : T.cps.toList.drop (a + x.length + y.length) = (T.cps.toList.drop a).drop (x.length + y.length) := by
            rw [List.drop_drop]; congr 1; omega
          rw [e3, hd]
          have : x.length + y.length = (x ++ y.cps.toList).length := by rw [List.length_append, hyl]
          rw [this, List.drop_left]
        · omega
        · simp only [Array.size_push]; omega
        · exact Nat.le_refl _
      · intro i h3 h4
        left
        show i < a + x.length + y.length
        omega
      · rw [subAt_hit]
        unfold hit
        have e3 : T.cps.toList.drop (a + x.length) = y.cps.toList ++ jn y.cps.toList ps := by
          rw [← List.drop_drop, hd, List.append_assoc, List.drop_left]
        rw [e3, List.take_left]
        exact beq_self_eq_true _
theorem parts_back (T y : Str) : ∀ (ps : List Str) (a : Nat), ps ≠ [] → T.cps.toList.drop a = jn y.cps.toList (ps.map (·.cps.toList)) → a + (jn y.cps.toList (ps.map (·.cps.toList))).length = T.length →
    (((a :: (cutsF y.length a (ps.map (·.cps.toList))).map (· + y.length)).zip (cutsF y.length a (ps.map (·.cps.toList)) ++ [T.length])).map fun (i, j) => strSub T i j) = ps := by
  have hyl : y.cps.toList.length = y.length := Array.length_toList ..
  have sub : ∀ (x : Str) (a : Nat) (r : List Nat), T.cps.toList.drop a = x.cps.toList ++ r → strSub T a (a + x.cps.toList.length) = x := by
    intro x a r h
    cases x with
    | mk c =>
      have : T.cps.extract a (a + c.toList.length) = c := by
        apply Array.toList_inj.mp
        rw [Array.toList_extract, List.extract_eq_take_drop]
        rw [show a + c.toList.length - a = c.toList.length by omega, h, List.take_left]
      show Str.mk _ = Str.mk c
      rw [this]
  intro ps
  induction ps with
  | nil => intro a h; exact absurd rfl h
  | cons x ps ih =>
    intro a _ hd hl
    by_cases hp : ps = []
    · subst hp
      have hl' : a + x.cps.toList.length = T.length := hl
      show [strSub T a T.length] = [x]
      rw [← hl', sub x a [] (by rw [hd]; simp [jn])]
    · have hp' : ps.map (fun q => q.cps.toList) ≠ [] := by simpa using hp
      rw [List.map_cons] at hd hl ⊢
      rw [jn_cons hp'] at hd hl
      rw [cuts_cons hp', List.map_cons, List.cons_append, List.zip_cons_cons, List.map_cons]
      rw [ih (a + x.cps.toList.length + y.length) hp ?_ ?_]
      · dsimp only
        rw [sub x a _ (by rw [hd, List.append_assoc])]
      · rw [Nat.add_assoc, ← List.drop_drop, hd, ← hyl, ← List.length_append, List.drop_left]
      · simp only [List.length_append, hyl] at hl
        omega
theorem split_join (y : Str) (ps : List Str) (hm : y.cps.toList ≠ []) (hk : Builtin.Str.strKind y = 1) (hp : ps ≠ []) (hc : Clear y.cps.toList (ps.map (·.cps.toList))) : Txt.split (Txt.join y ps) y = ps := by
  have ej : (Txt.join y ps).cps.toList = jn y.cps.toList (ps.map (·.cps.toList)) := by
    rw [← jn_join, ← StrLaws.glued_eq_join]
    rfl
  generalize Txt.join y ps = T at *
  have hp' : ps.map (fun q => q.cps.toList) ≠ [] := by simpa using hp
  have hl : 0 + (jn y.cps.toList (ps.map (·.cps.toList))).length = T.length := by
    rw [← ej, Nat.zero_add]
    exact Array.length_toList ..
  have hd : T.cps.toList.drop 0 = jn y.cps.toList (ps.map (·.cps.toList)) := by rw [List.drop_zero]; exact ej
  have ho : occurrences T y 0 T.length (T.length + 1) = cutsF y.length 0 (ps.map (·.cps.toList)) := by
    rw [StrLaws.occ_eq, show T.length + 1 - 0 = (jn y.cps.toList (ps.map (·.cps.toList))).length + 1 by omega]
    rw [occ_parts T y hm _ 0 _ hp' hc hd hl (Nat.le_refl _) (Nat.le_refl _)]
    rfl
  have hpb := parts_back T y ps 0 hp hd hl
  have hk2 : Builtin.Str.strKind T ≥ 1 := by unfold Builtin.Str.strKind; split <;> (try split) <;> decide
  have one : ps.length = 1 → [T] = ps := by
    intro h1
    obtain ⟨x, rfl⟩ := List.length_eq_one_iff.mp h1
    have : T = x := by
      cases T with
      | mk c => cases x with
        | mk d => exact congrArg Str.mk (Array.toList_inj.mp ej)
    rw [this]
  have cl : ∀ (ps : List (List Nat)) (a : Nat), (cutsF y.length a ps).length = ps.length - 1 := by
    intro ps
    induction ps with
    | nil => intro a; rfl
    | cons x r ih =>
      intro a
      cases r with
      | nil => rfl
      | cons z r =>
        rw [cuts_cons (List.cons_ne_nil _ _), List.length_cons, ih]
        simp only [List.length_cons]; omega
  unfold Txt.split
  rw [ho]
  by_cases h1 : ps.length = 1
  · have e : (cutsF y.length 0 (ps.map (·.cps.toList))).isEmpty = true := by
      rw [List.isEmpty_iff_length_eq_zero, cl, List.length_map, h1]
    rw [e]
    simp only [if_true, ite_self]
    exact one h1
  · have h2 : 2 ≤ ps.length := by
      have := List.length_pos_iff.mpr hp
      omega
    have e : (cutsF y.length 0 (ps.map (·.cps.toList))).isEmpty = false := by
      rw [Bool.eq_false_iff, ne_eq, List.isEmpty_iff_length_eq_zero, cl, List.length_map]
      omega
    have h3 : ¬ (T.length < y.length) := by
      match ps, h2, hl with
      | p :: q :: r, _, this =>
        rw [show (p :: q :: r).map (fun x : Str => x.cps.toList) = p.cps.toList :: (q :: r).map (fun x : Str => x.cps.toList) from rfl, jn_cons (by simp)] at this
        simp only [List.length_append, Array.length_toList] at this
        show ¬ (T.length < y.cps.size)
        omega
    rw [if_neg (by simp [h3, hk]; omega), e, if_neg (by decide)]
    exact hpb
end
section -- JCapF
open PySem.Calls Builtin Builtin.Str
theorem placed_one {x : Str} {f : Nat → Nat → List Nat} {g : Nat → Nat → Nat} (h : ∀ i c, x.cps.toList[i]? = some c → f i c = [g i c]) : (placed x f).toList = x.cps.toList.mapIdx g := by
  unfold placed
  rw [Array.toList_flatten, Array.toList_mapIdx]
  generalize x.cps.toList = l at *
  have e : List.map Array.toList (List.mapIdx (fun i c => (f i c).toArray) l) = (List.mapIdx g l).map fun c => [c] := by
    apply List.ext_getElem?
    intro i
    rw [List.getElem?_map, List.getElem?_map, List.getElem?_mapIdx, List.getElem?_mapIdx]
    cases hc : l[i]? with
    | none => rfl
    | some c =>
      show some ((f i c).toArray.toList) = some [g i c]
      rw [h i c hc]
  rw [e]
  generalize List.mapIdx g l = r
  induction r with
  | nil => rfl
  | cons a r ih => rw [List.map_cons, List.flatten_cons, ih]; rfl
noncomputable def Sg (c : Nat) : Prop := c = 65 ∨ c = 66 ∨ c = 67 ∨ c = 68 ∨ c = 59
noncomputable def Sg2 (c : Nat) : Prop := Sg c ∨ c = 97 ∨ c = 98 ∨ c = 99 ∨ c = 100
noncomputable def lowC (c : Nat) : Nat := if 65 ≤ c ∧ c ≤ 68 then c + 32 else c
noncomputable def capL : List Nat → List Nat
  | [] => []
  | c :: r => c :: r.map lowC
theorem sg_title {c : Nat} (h : Sg c) : Unicode.titleOf c = [c] := by
  rcases h with rfl | rfl | rfl | rfl | rfl <;> decide +kernel
theorem sg_lower {c : Nat} (h : Sg c) : Unicode.lowerOf c = [lowC c] := by
  rcases h with rfl | rfl | rfl | rfl | rfl <;> decide +kernel
theorem sg_lowC {c : Nat} (h : Sg c) : Sg2 (lowC c) := by
  rcases h with rfl | rfl | rfl | rfl | rfl <;> (unfold lowC Sg2 Sg; decide)
theorem lowerAt_sg {x : Str} {i c : Nat} (hc : x.cps.toList[i]? = some c) (h : Sg c) : Unicode.lowerAt x.cps i = [lowC c] := by
  unfold Unicode.lowerAt
  rw [← Array.getElem?_toList, hc]
  dsimp only
  have : (c == 0x3A3) = false := by rcases h with rfl | rfl | rfl | rfl | rfl <;> rfl
  rw [this, ← sg_lower h]
  simp
theorem mapIdx_const {f : Nat → Nat} (l : List Nat) : List.mapIdx (fun _ c => f c) l = l.map f := by
  apply List.ext_getElem?
  intro i
  rw [List.getElem?_mapIdx, List.getElem?_map]
theorem lower_sg {x : Str} (h : ∀ c ∈ x.cps.toList, Sg c) : (Txt.lower x).cps.toList = x.cps.toList.map lowC := by
  rw [← mapIdx_const]
  exact placed_one fun i c hc => lowerAt_sg hc (h c (List.mem_of_getElem? hc))
theorem cap_sg {x : Str} (h : ∀ c ∈ x.cps.toList, Sg c) : (Txt.capitalize x).cps.toList = capL x.cps.toList := by
  unfold Txt.capitalize
  split
  · rename_i h0
    have : x.cps.toList = [] := by
      rw [beq_iff_eq] at h0
      exact List.length_eq_zero_iff.mp ((Array.length_toList ..).trans h0)
    rw [this]; rfl
  · show (placed x _).toList = _
    rw [placed_one (g := fun i c => if i = 0 then c else lowC c)]
    · cases hl : x.cps.toList with
      | nil => rfl
      | cons c r =>
        rw [List.mapIdx_cons]
        show c :: _ = c :: _
        congr 1
        rw [← mapIdx_const]
        apply List.ext_getElem?
        intro i
        rw [List.getElem?_mapIdx, List.getElem?_mapIdx]
        rfl
    · intro i c hc
      have hs := h c (List.mem_of_getElem? hc)
      by_cases hi : i = 0
      · subst hi
        exact sg_title hs
      · rw [if_neg hi]
        have : (i == 0) = false := beq_eq_false_iff_ne.mpr hi
        simp only [this]
        exact lowerAt_sg hc hs
theorem capL_sg2 {l : List Nat} (h : ∀ c ∈ l, Sg c) : ∀ c ∈ capL l, Sg2 c := by
  cases l with
  | nil => exact fun c hc => absurd hc List.not_mem_nil
  | cons a r =>
    intro c hc
    rcases List.mem_cons.mp hc with rfl | hc
    · exact .inl (h _ (.head _))
    · obtain ⟨d, hd, rfl⟩ := List.mem_map.mp hc
      exact sg_lowC (h d (.tail _ hd))
theorem str_ext {x y : Str} (h : x.cps.toList = y.cps.toList) : x = y := by
  cases x; cases y
  exact congrArg Str.mk (Array.toList_inj.mp h)
theorem app_cps (x y : Str) : (x ++ y).cps.toList = x.cps.toList ++ y.cps.toList := by
  cases x; cases y
  exact Array.toList_append
end
section -- JStr
theorem zsJStr : True := by
  w_top off
  k_with_none
  k_with "omega" => (lia)
  k_with "execs cons" => (refine y_consS ?_; intro sk9 qk9)
  k_with "eval Name" => (k_here; (with_reducible show wpAny _ _ (eval (PySem.Expr.Name _ _) (genEnv _ _ _ _ _ _)) _ _ _); k_dflt (first
  | (refine' gname_L ?F ?hv ?_ ?hk ?hl ?hd; (case F => k_asm); (case hv => assumption); (case hk => exact rfl); (case hl | hd => decide); k_whole)
  | (refine' gname_B ?F ?X ?T ?e ?hv ?hn ?_ ?hg ?hk ?hx ?hd; (case F | X => k_asm); (case T => assumption); (case hx => decide); (case e => k_is); (case hv => boot_fast); (case hn => decide); (case hg | hk => exact rfl); (case hd => decide); k_whole)
  | (refine' gname_K ?F ?X ?T ?e ?_ ?hg ?hk ?hx ?hd; (case F | X => k_asm); (case T => assumption); (case hx => decide); (case e => k_is); (case hg | hk => exact rfl); (case hd => decide); k_whole)))
  k_with "newTuple" => (k_here; unfold newTuple; refine wpAny_newObj_type ?_ (by size_fits))
  trivial
theorem str_spec
  (ac ax : Addr) (its : Array Value) (na : Nat) (hi : Int) (kt ti : Tok) (ps : Array Value) (xs : List Str)
  (B : Below A₀ base outer h₀) (F : Fr h₀ L s.heap m) (X : (hd.heap_1 w.params).In h₀) (N : News h₀ L s.heap ([(ac, accObj ax its na), (ax, dictOf [⟨hi, .str "_initial_size" kt, .int 0 ti⟩] 1), (207, tabObj ps)])) (T : Top p loose mean mg mb h₀) (hkf : cs.kind = .function)
  (hdp : dp + 1 < recursionLimit) (hun : un + 8 < cLine)
  (hs : its.size < 100) (hax : @Ne Nat ac ax) (hit : Items s.heap its xs) (hln : ∀ x ∈ xs, x.length ≤ 200) (htr : TriplesOk ps.toList) (hG0 : AllBare s.gens)
  (hret : ∀ t s' ps', Ge [207] s.heap s'.heap → s'.heap.get? 207 = some (tabObj ps') → TriplesOk ps'.toList → AllBare s'.gens → s'.os = s.os → Q (.str (Txt.join "" xs) t) s') :
  wpAny (model PySem.Challenge.rw_yj0031_01.row.prog w) (ktrTop dp un gd cn cs L a ccd cl outer) (call (.ref 212) [.ref ac]) Q E s := by
  revert X; k_fill; intro X
  refine wpAny_call ?_
  refine' y_code ?k1 ?k2 ?k3 ?k4 ?k5 ?kA ?kF ?kK ?k6 ?k7 ?k8 ?k9 ?kB ?_ ?c2 ?c3 ?c4 ?c5
  (case kA | kF => exact rfl); (case kK | k1 | k2 | k3 | k4 | k5 => assumption); (case k6 | k7 => k_is); (case k8 => ktr_room); (case k9 => first | exact BindsTo.of_eq rfl | exact binds_K (by k_in) rfl (by k_is) rfl rfl rfl); (case c5 => decide); (case kB => exact locs rfl); (case c2 | c3 | c4 => exact rfl); have N0 := YOld.mk N; clear B F X N T; intro g L1 h1 hG F1 N1 B1 X1 T1 l1; (try dsimp only); (try k_lt l1); (try k_fold)
  k_steps
  have I1 := Items.led hit N0 hG rfl
  have nA : @Ne Nat ac 207 := ne_led N0 (.head _) (.tail _ (.tail _ (.head _))) rfl
  have nB : @Ne Nat ax 207 := ne_led N0 (.tail _ (.head _)) (.tail _ (.tail _ (.head _))) rfl
  obtain ⟨Ts, U, V, hsz, hj⟩ := I1
  refine' y_gen (x := ac) (P := 207) (c := 211) (Ts := Ts) (vals := fun j => #[.str "" (U j), .str (xs.getD j "") (V j)]) (Fv := fun j v => ∃ t, v = .str (xs.getD j "") t) ?hge0 ?F ?N ?X ?T ?C ?hcd ?U ?ht ?h1 ?h2 ?hG ?hh ?hco ?hclos ?hcell ?h0 ?hxa ?hxb ?hab ?hkind ?hroom ?hits ?htup ?hv2 ?hself ?helt ?hs ?hQ
  (case hge0 => exact rfl); (case F | N | X => k_asm); (case T => assumption); (case C => exact codeHd_of_K (by assumption) (by kernel_rfl)); (case hcd => exact rfl); (case U => k_updF); (case ht => assumption); (case h1 | h2 => k_mem); (case hG => assumption); (case hh | hco | hclos => exact rfl); (case hcell | h0 | hxa | hxb | hab => decide); (case hkind => exact rfl); (case hroom => ktr_room)
  (case hits => exact fun j h => (hj j h).1)
  (case htup => exact fun j h => ⟨_, (hj j h).2, rfl, 0, rfl⟩)
  (case hv2 => exact fun j h => ⟨_, _, rfl⟩)
  (case hs => intro x; exact rfl)
  (case hself => intro Q' hq; k_steps; exact hq)
  (case helt =>
    intro C code A' E' i va vb t m₂ hA' hd' hu' hi hv F' hma hmb
    cases hv
    have hl100 : (xs.getD i "").length ≤ 200 := getD_len hln i
    clear F1 N1
    have N' : News g C t.heap [] := fun _ h => nomatch h
    k_steps
    refine join_tupleW (ys := ["", xs.getD i ""]) ⟨_, Heap.get?_push_size _ rfl, rfl, _, rfl⟩ (.cons _ _ (.cons _ _ .nil)) (by decide) ?_ fun t' k => ?_
    · show 0 + ((xs.getD i "").length + 0) + 2 ≤ 1048576
      omega
    · exact ⟨⟨t', by rw [join_two]⟩, _, _, rfl, fun b o e => Heap.get?_push_of_some _ e⟩)
  intro ga ⟨hp5, gs5, d5, tk5, os5⟩ ps5 F5 N5 ht5 hG5 ho5 X5
  dsimp only at F5 N5 X5 ho5
  k_steps
  refine' join_acc (tx := fun j => xs.getD j "") ?zF ?zN ?zG X5 ?zval ?zfit ?zsz ?zQ
  (case zF | zN => k_asm); (case zG => exact hG5)
  (case zval => exact fun j v h => h)
  (case zfit => exact joinOk_xs hln hs hsz)
  (case zsz => rw [line_is]; omega)
  intro s6 t6 F6 N6 G6 o6
  rw [range_getD hsz]
  exact hret _ _ _ (y_ge N0 hG F6 N6 (by
    intro p hp
    simp only [List.mem_cons, List.mem_nil_iff, or_false] at hp
    rcases hp with rfl | rfl | rfl <;> first | (left; simp; done) | (right; k_mem))) (y_got N6 (by k_mem)) ht5 G6 (o6.trans ho5)
end
section -- JLen
theorem zsJLen : True := by
  w_top off
  k_with_none
  k_with "omega" => (lia)
  k_with "execs cons" => (refine y_consS ?_; intro sk9 qk9)
  k_with "getAttr ref" => (k_here; k_dflt (refine' acc_getAttr ?F ?X ?N ?h1 ?h2 ?hf ?hl ?hv ?_; (case F | X | N => k_asm); (case h1 | h2 => k_mem); (case hf => k_is); (case hl => k_get); (case hv => k_handed); k_whole))
  k_with "eval Name" => (k_here; (with_reducible show wpAny _ _ (eval (PySem.Expr.Name _ _) (genEnv _ _ _ _ _ _)) _ _ _); k_dflt (first
  | (refine' gname_L ?F ?hv ?_ ?hk ?hl ?hd; (case F => k_asm); (case hv => assumption); (case hk => exact rfl); (case hl | hd => decide); k_whole)
  | (refine' gname_B ?F ?X ?T ?e ?hv ?hn ?_ ?hg ?hk ?hx ?hd; (case F | X => k_asm); (case T => assumption); (case hx => decide); (case e => k_is); (case hv => boot_fast); (case hn => decide); (case hg | hk => exact rfl); (case hd => decide); k_whole)
  | (refine' gname_K ?F ?X ?T ?e ?_ ?hg ?hk ?hx ?hd; (case F | X => k_asm); (case T => assumption); (case hx => decide); (case e => k_is); (case hg | hk => exact rfl); (case hd => decide); k_whole)))
  trivial
theorem len_spec
  (ac ax : Addr) (its : Array Value) (na : Nat) (hi : Int) (kt ti : Tok) (ps : Array Value) (xs : List Str)
  (B : Below A₀ base outer h₀) (F : Fr h₀ L s.heap m) (X : (hd.heap_1 w.params).In h₀) (N : News h₀ L s.heap ([(ac, accObj ax its na), (ax, dictOf [⟨hi, .str "_initial_size" kt, .int 0 ti⟩] 1), (200, tabObj ps)])) (T : Top p loose mean mg mb h₀) (hkf : cs.kind = .function)
  (hdp : dp + 1 < recursionLimit) (hun : un + 8 < cLine)
  (hs : its.size < 100) (hax : @Ne Nat ac ax) (hit : Items s.heap its xs) (hln : ∀ x ∈ xs, x.length ≤ 200) (htr : TriplesOk ps.toList) (hG0 : AllBare s.gens)
  (hret : ∀ t s' ps', Ge [200] s.heap s'.heap → s'.heap.get? 200 = some (tabObj ps') → TriplesOk ps'.toList → AllBare s'.gens → s'.os = s.os → Q (.int (total xs) t) s') :
  wpAny (model PySem.Challenge.rw_yj0031_01.row.prog w) (ktrTop dp un gd cn cs L a ccd cl outer) (call (.ref 205) [.ref ac]) Q E s := by
  revert X; k_fill; intro X
  refine wpAny_call ?_
  refine' y_code ?k1 ?k2 ?k3 ?k4 ?k5 ?kA ?kF ?kK ?k6 ?k7 ?k8 ?k9 ?kB ?_ ?c2 ?c3 ?c4 ?c5
  (case kA | kF => exact rfl); (case kK | k1 | k2 | k3 | k4 | k5 => assumption); (case k6 | k7 => k_is); (case k8 => ktr_room); (case k9 => first | exact BindsTo.of_eq rfl | exact binds_K (by k_in) rfl (by k_is) rfl rfl rfl); (case c5 => decide); (case kB => exact locs rfl); (case c2 | c3 | c4 => exact rfl); have N0 := YOld.mk N; clear B F X N T; intro g L1 h1 hG F1 N1 B1 X1 T1 l1; (try dsimp only); (try k_lt l1); (try k_fold)
  k_steps
  have I1 := Items.led hit N0 hG rfl
  have nA : @Ne Nat ac 200 := ne_led N0 (.head _) (.tail _ (.tail _ (.head _))) rfl
  have nB : @Ne Nat ax 200 := ne_led N0 (.tail _ (.head _)) (.tail _ (.tail _ (.head _))) rfl
  obtain ⟨Ts, U, V, hsz, hj⟩ := I1
  refine' y_gen (x := ac) (P := 200) (c := 204) (Ts := Ts) (vals := fun j => #[.str "" (U j), .str (xs.getD j "") (V j)]) (Fv := fun j v => ∃ t, v = .int ((0 : Int) + ((xs.getD j "").length : Int)) t) ?hge0 ?F ?N ?X ?T ?C ?hcd ?U ?ht ?h1 ?h2 ?hG ?hh ?hco ?hclos ?hcell ?h0 ?hxa ?hxb ?hab ?hkind ?hroom ?hits ?htup ?hv2 ?hself ?helt ?hs ?hQ
  (case hge0 => exact rfl); (case F | N | X => k_asm); (case T => assumption); (case C => exact codeHd_of_K (by assumption) (by kernel_rfl)); (case hcd => exact rfl); (case U => k_updF); (case ht => assumption); (case h1 | h2 => k_mem); (case hG => assumption); (case hh | hco | hclos => exact rfl); (case hcell | h0 | hxa | hxb | hab => decide); (case hkind => exact rfl); (case hroom => ktr_room)
  (case hits => exact fun j h => (hj j h).1)
  (case htup => exact fun j h => ⟨_, (hj j h).2, rfl, 0, rfl⟩)
  (case hv2 => exact fun j h => ⟨_, _, rfl⟩)
  (case hs => intro x; exact rfl)
  (case hself => intro Q' hq; k_steps; exact hq)
  (case helt =>
    intro C code A' E' i va vb t m₂ hA' hd' hu' hi hv F' hma hmb
    cases hv
    have hl100 : (xs.getD i "").length ≤ 200 := getD_len hln i
    clear F1 N1
    k_steps
    all_goals (first | exact ⟨_, _, rfl, fun _ _ e => e⟩ | exact ⟨_, rfl⟩))
  intro ga ⟨hp5, gs5, d5, tk5, os5⟩ ps5 F5 N5 ht5 hG5 ho5 X5
  dsimp only at F5 N5 X5 ho5
  k_steps
  refine' sum2_acc (val := fun j => (0 : Int) + ((xs.getD j "").length : Int)) ?zF ?zN ?zG (GenIn.later X5 ?ztk) ?zval ?zfit ?zQ
  (case zF | zN => k_asm); (case zG => exact hG5); (case ztk => first | exact Nat.le_refl _ | exact Nat.le_succ _ | (dsimp only; omega))
  (case zval => exact fun j v h => h)
  (case zfit => exact fun j hj => preSum_fits hln hs hsz j hj)
  intro s6 t6 F6 N6 G6 o6
  have hT : preSum (fun j => (0 : Int) + ((xs.getD j "").length : Int)) its.size = total xs := by rw [hsz, preSum_total xs _ (Nat.le_refl _), List.take_length]
  rw [hT]
  exact hret _ _ _ (y_ge N0 hG F6 N6 (by
    intro p hp
    simp only [List.mem_cons, List.mem_nil_iff, or_false] at hp
    rcases hp with rfl | rfl | rfl <;> first | (left; simp; done) | (right; k_mem))) (y_got N6 (by k_mem)) ht5 G6 (o6.trans ho5)
end
section -- JAccM
theorem zsJAccM : True := by
  w_top off
  k_with_none
  k_with "omega" => (lia)
  k_with "inst" => ((refine' inst_seq ?N ?h1 ?h2; (case N => k_asm); (case h1 | h2 => k_mem)))
  k_with "execs cons" => (refine y_consS ?_; intro sk9 qk9)
  k_with "apart" => first | exact y_all0 | assumption | (refine' y_allc ?apa ?apb; (case apa => (try dsimp only); first | exact YNe.to (by assumption) | exact YNe.to' (by assumption) | (show @Ne Nat _ _; omega)); (case apb => k_extra "apart"))
  k_with "ge" => first | exact y_all0 | (refine' y_allc ?gea ?geb; (case gea => first | (exact Or.inl (by k_mem)) | (exact Or.inr (by k_mem))); (case geb => k_extra "ge"))
  k_with "getMethod ref" => (k_here; k_dflt (refine' sup_meth_m ?F ?X ?N ?hso ?h1 ?h2 ?hf ?hty ?hn ?htold ?hsp ?_; (case F | X | N => k_asm); (case hso | h1 | h2 => k_mem); (case hf => exact acc_along_pop _); (case hty => exact PySem.F.type_list_pop); (case hn => decide); (case htold | hsp => decide +kernel); k_whole; intro q9' h9' F9' N9' lz1; (try k_lt lz1)))
  k_with "getMethod ref" => (k_here; k_dflt (refine' sup_meth_w ?F ?X ?N ?hso ?h1 ?h2 ?hf ?hty ?hn ?hsp ?_; (case F | X | N => k_asm); (case hso | h1 | h2 => k_mem); (case hf => first | exact acc_along_len _ | exact acc_along_init _); (case hty => first | exact ty_len | exact ty_init); (case hn => decide); (case hsp => decide +kernel); k_whole; intro q9' h9' F9' N9' lz1; (try k_lt lz1)))
  k_with "getMethod ref" => (k_here; k_dflt (refine' acc_getMethod_bi ?F ?X ?N ?h1 ?h2 ?hf ?ht ?hs ?_; (case F | X | N => k_asm); (case h1 | h2 => k_mem); (case hf | ht => k_is); (case hs => k_get); k_whole))
  k_with "getMethod ref" => (k_here; k_dflt (refine' acc_getMethod_fn ?F ?X ?N ?h1 ?h2 ?hf ?ht ?hs ?_; (case F | X | N => k_asm); (case h1 | h2 => k_mem); (case hf | ht => k_is); (case hs => k_get); k_whole))
  k_with "setAttr ref" => (k_here; k_dflt (refine' acc_setAttrL ?F ?X ?N ?h1 ?h2 ?hf ?hl ?e ?U ?hz ?_; (case F | X | N => k_asm); (case h1 | h2 => k_mem); (case hf => k_is); (case hl => k_get); (case e => k_put); (case U => k_updF); (case hz => exact Nat.le_of_ble_eq_true rfl); k_whole; intro h9' F9' N9'; (try dsimp only at N9')))
  k_with "call builtin:list.append" => (k_here; k_dflt (refine' acc_appendL ?F ?X ?N ?h2 ?U ?hz ?_; (case F | X | N => k_asm); (case U => k_updF); (case h2 => k_mem); (case hz => omega); k_whole; intro h9' n9' F9' N9'; (try dsimp only at N9')))
  k_with "callWith ref" => (k_here; k_dflt (refine' callWith_bnd ?N ?hm ?ho ?_; (case N => k_asm); (case hm => k_mem); (case ho => exact ⟨_, _, .inl rfl⟩); k_whole))
  k_with "call ref" => (k_here; k_dflt (refine' bnd_pop ?F ?X ?N ?hq ?U ?h2 ?hz ?_; (case F | X | N => k_asm); (case hq => k_mem); (case U => k_updF); (case h2 => k_mem); (case hz => omega); k_whole; intro h9' n9' F9' N9'; (try dsimp only at N9')))
  k_with "call ref" => (k_here; k_dflt (refine' bnd_init ?F ?X ?N ?hq ?U ?h2 ?_; (case F | X | N => k_asm); (case hq => k_mem); (case U => k_updF); (case h2 => k_mem); k_whole; intro h9' n9' F9' N9'; (try dsimp only at N9')))
  k_with "call ref" => (k_here; k_dflt (refine' bnd_len ?F ?X ?N ?hq ?h1 ?h2 ?_; (case F | X | N => k_asm); (case hq | h1 | h2 => k_mem); k_whole))
  k_with "subscriptTail" => (k_here; (with_reducible show wpAny _ _ (subscriptTail _ (PySem.Expr.Slice _ _ none _) (Value.ref _) (Value.ref _)) _ _ _); k_dflt (refine' acc_sliceP ?F ?X ?N ?h1 ?h2 ?pl ?pu ?hz ?hsub ?_; (case F | X | N => k_asm); (case h1 | h2 => k_mem); (case pl | pu => first | exact IsPart.none | exact IsPart.int _ _); (case hz => omega); (case hsub => exact rfl); k_whole; intro l9' h9' F9' N9' lz1; (try k_lt lz1)))
  k_with "setItem ref ref" => (k_here; k_dflt (refine' acc_setsliceP ?F ?X ?N ?U ?h2 ?pl ?pu ?hl ?hz ?hy ?_; (case F | X | N => k_asm); (case U => k_updF); (case h2 => k_mem); (case pl | pu => first | exact IsPart.none | exact IsPart.int _ _); (case hl => k_mem); (case hz => omega); (case hy => first | omega | (simp; omega) | simp); k_whole; intro h9' n9' F9' N9'; (try dsimp only at N9')))
  trivial
theorem push_spec
  (ac ax : Addr) (its : Array Value) (na : Nat) (hi isz : Int) (kt ti : Tok) (f x : Value)
  (B : Below A₀ base outer h₀) (F : Fr h₀ L s.heap m) (X : (hd.heap_1 w.params).In h₀) (N : News h₀ L s.heap ([(ac, accObj ax its na), (ax, dictOf [⟨hi, .str "_initial_size" kt, .int isz ti⟩] 1)])) (T : Top p loose mean mg mb h₀) (hkf : cs.kind = .function)
  (hdp : dp + 1 < recursionLimit) (hun : un + 8 < cLine)
  (hs : its.size < 100) (hax : @Ne Nat ac ax)
  (hret : ∀ t n' h' tk', Ge [ac] s.heap h' → h'.get? ac = some (accObj ax (its.push (.ref t)) n') → h'.get? t = some { cls := .type "tuple", data := .seq #[f, x] } → s.heap.get? t = none → Q .none { s with heap := h', toks := tk' }) :
  wpAny (model PySem.Challenge.rw_yj0031_01.row.prog w) (ktrTop dp un gd cn cs L a ccd cl outer) (call (.ref 182) [.ref ac, f, x]) Q E s := by
  revert X; k_fill; intro X
  refine wpAny_call ?_
  refine' y_code ?k1 ?k2 ?k3 ?k4 ?k5 ?kA ?kF ?kK ?k6 ?k7 ?k8 ?k9 ?kB ?_ ?c2 ?c3 ?c4 ?c5
  (case kA | kF => exact rfl); (case kK | k1 | k2 | k3 | k4 | k5 => assumption); (case k6 | k7 => k_is); (case k8 => ktr_room); (case k9 => first | exact BindsTo.of_eq rfl | exact binds_K (by k_in) rfl (by k_is) rfl rfl rfl); (case c5 => decide); (case kB => exact locs rfl); (case c2 | c3 | c4 => exact rfl); have N0 := YOld.mk N; clear B F X N T; intro g L1 h1 hG F1 N1 B1 X1 T1 l1; (try dsimp only); (try k_lt l1); (try k_fold)
  k_steps
  exact hret _ _ _ _ (by
    (rename Fr _ _ _ _ => F9); (rename News _ _ _ _ => N9)
    refine y_ge N0 hG F9 N9 ?_
    k_extra "ge") (by (rename News _ _ _ _ => N9); exact y_got N9 (by k_mem)) (by (rename News _ _ _ _ => N9); exact y_got N9 (by k_mem)) (by (rename News _ _ _ _ => N9); exact y_new N0 hG N9 (by k_mem) (by k_extra "apart"))
theorem count_spec
  (ac ax : Addr) (its : Array Value) (na : Nat) (hi isz : Int) (kt ti : Tok)
  (B : Below A₀ base outer h₀) (F : Fr h₀ L s.heap m) (X : (hd.heap_1 w.params).In h₀) (N : News h₀ L s.heap ([(ac, accObj ax its na), (ax, dictOf [⟨hi, .str "_initial_size" kt, .int isz ti⟩] 1)])) (T : Top p loose mean mg mb h₀) (hkf : cs.kind = .function)
  (hdp : dp + 1 < recursionLimit) (hun : un + 8 < cLine)
  (hs : its.size < 100) (hax : @Ne Nat ac ax)
  (hret : ∀ t h' tk', Ge [] s.heap h' → Q (.int (its.size : Int) t) { s with heap := h', toks := tk' }) :
  wpAny (model PySem.Challenge.rw_yj0031_01.row.prog w) (ktrTop dp un gd cn cs L a ccd cl outer) (call (.ref 235) [.ref ac]) Q E s := by
  revert X; k_fill; intro X
  refine wpAny_call ?_
  refine' y_codeS ?k1 ?k2 ?k3 ?k4 ?k5 ?kA ?kF ?kK ?k6 ?k7 ?k8 ?k9 ?kB ?_ ?c5 ?c2 ?c3 ?c4
  (case kA | kF => exact rfl); (case kK | k1 | k2 | k3 | k4 | k5 => assumption); (case k6 | k7 => k_is); (case k8 => ktr_room); (case k9 => first | exact BindsTo.of_eq rfl | exact binds_K (by k_in) rfl (by k_is) rfl rfl rfl); (case c5 => decide); (case kB => exact locs rfl); (case c2 | c3 | c4 => exact rfl); have N0 := YOld.mk N; clear B F X N T; intro g L1 h1 hG F1 N1 B1 X1 T1 l1; (try dsimp only); (try k_lt l1); (try k_fold)
  k_steps
  exact hret _ _ _ (by
    (rename Fr _ _ _ _ => F9); (rename News _ _ _ _ => N9)
    refine y_ge N0 hG F9 N9 ?_
    k_extra "ge")
theorem popf_spec
  (ac ax : Addr) (its : Array Value) (na : Nat) (hi isz : Int) (kt ti : Tok) (i : Int) (t3 : Tok)
  (B : Below A₀ base outer h₀) (F : Fr h₀ L s.heap m) (X : (hd.heap_1 w.params).In h₀) (N : News h₀ L s.heap ([(ac, accObj ax its na), (ax, dictOf [⟨hi, .str "_initial_size" kt, .int isz ti⟩] 1)])) (T : Top p loose mean mg mb h₀) (hkf : cs.kind = .function)
  (hdp : dp + 1 < recursionLimit) (hun : un + 8 < cLine)
  (hs : its.size < 100) (hax : @Ne Nat ac ax) (hi0 : 0 ≤ i) (hi1 : i ≤ its.size)
  (hret : ∀ l n' h' tk', Ge [ac] s.heap h' → h'.get? ac = some (accObj ax (its.extract 0 (sliceBounds (some i) none none its.size).1.toNat ++ #[] ++ its.extract (max (sliceBounds (some i) none none its.size).1 (sliceBounds (some i) none none its.size).2.1).toNat its.size) n') → h'.get? l = some (listOf (slicePick its (some i) none none) 0) → s.heap.get? l = none → Q (.ref l) { s with heap := h', toks := tk' }) :
  wpAny (model PySem.Challenge.rw_yj0031_01.row.prog w) (ktrTop dp un gd cn cs L a ccd cl outer) (call (.ref 190) [.ref ac, .int i t3]) Q E s := by
  revert X; k_fill; intro X
  refine wpAny_call ?_
  refine' y_code ?k1 ?k2 ?k3 ?k4 ?k5 ?kA ?kF ?kK ?k6 ?k7 ?k8 ?k9 ?kB ?_ ?c2 ?c3 ?c4 ?c5
  (case kA | kF => exact rfl); (case kK | k1 | k2 | k3 | k4 | k5 => assumption); (case k6 | k7 => k_is); (case k8 => ktr_room); (case k9 => first | exact BindsTo.of_eq rfl | exact binds_K (by k_in) rfl (by k_is) rfl rfl rfl); (case c5 => decide); (case kB => exact locs rfl); (case c2 | c3 | c4 => exact rfl); have N0 := YOld.mk N; clear B F X N T; intro g L1 h1 hG F1 N1 B1 X1 T1 l1; (try dsimp only); (try k_lt l1); (try k_fold)
  k_steps
  exact hret _ _ _ _ (by
    (rename Fr _ _ _ _ => F9); (rename News _ _ _ _ => N9)
    refine y_ge N0 hG F9 N9 ?_
    k_extra "ge") (by (rename News _ _ _ _ => N9); exact y_got N9 (by k_mem)) (by (rename News _ _ _ _ => N9); exact y_got N9 (by k_mem)) (by (rename News _ _ _ _ => N9); exact y_new N0 hG N9 (by k_mem) (by k_extra "apart"))
theorem reset_spec
  (ac ax : Addr) (its : Array Value) (na : Nat) (hi isz : Int) (kt ti : Tok) (lr : Addr) (its2 : Array Value) (n2 : Nat)
  (B : Below A₀ base outer h₀) (F : Fr h₀ L s.heap m) (X : (hd.heap_1 w.params).In h₀) (N : News h₀ L s.heap ([(ac, accObj ax its na), (ax, dictOf [⟨hi, .str "_initial_size" kt, .int isz ti⟩] 1), (lr, listOf its2 n2)])) (T : Top p loose mean mg mb h₀) (hkf : cs.kind = .function)
  (hdp : dp + 1 < recursionLimit) (hun : un + 8 < cLine)
  (hs : its.size < 100) (hax : @Ne Nat ac ax) (hs2 : its2.size < 100) (hl1 : @Ne Nat lr ac) (hl2 : @Ne Nat lr ax)
  (hret : ∀ n' hi' kt' ti' h' tk', Ge [ac, ax] s.heap h' → h'.get? ac = some (accObj ax (its.extract 0 (sliceBounds none none none its.size).1.toNat ++ its2 ++ its.extract (max (sliceBounds none none none its.size).1 (sliceBounds none none none its.size).2.1).toNat its.size) n') → h'.get? ax = some (dictOf [⟨hi', .str "_initial_size" kt', .int 0 ti'⟩] 1) → Q .none { s with heap := h', toks := tk' }) :
  wpAny (model PySem.Challenge.rw_yj0031_01.row.prog w) (ktrTop dp un gd cn cs L a ccd cl outer) (call (.ref 220) [.ref ac, .ref lr]) Q E s := by
  revert X; k_fill; intro X
  refine wpAny_call ?_
  refine' y_code ?k1 ?k2 ?k3 ?k4 ?k5 ?kA ?kF ?kK ?k6 ?k7 ?k8 ?k9 ?kB ?_ ?c2 ?c3 ?c4 ?c5
  (case kA | kF => exact rfl); (case kK | k1 | k2 | k3 | k4 | k5 => assumption); (case k6 | k7 => k_is); (case k8 => ktr_room); (case k9 => first | exact BindsTo.of_eq rfl | exact binds_K (by k_in) rfl (by k_is) rfl rfl rfl); (case c5 => decide); (case kB => exact locs rfl); (case c2 | c3 | c4 => exact rfl); have N0 := YOld.mk N; clear B F X N T; intro g L1 h1 hG F1 N1 B1 X1 T1 l1; (try dsimp only); (try k_lt l1); (try k_fold)
  k_steps
  exact hret _ _ _ _ _ _ (by
    (rename Fr _ _ _ _ => F9); (rename News _ _ _ _ => N9)
    refine y_ge N0 hG F9 N9 ?_
    k_extra "ge") (by (rename News _ _ _ _ => N9); exact y_got N9 (by k_mem)) (by (rename News _ _ _ _ => N9); exact y_got N9 (by k_mem))
end
section -- JCall
open PySem.Calls
noncomputable def YNe (a b : Nat) : Prop := a ≠ b
theorem YNe.to {a b : Nat} (h : YNe a b) : a ≠ b := h
theorem YNe.to' {a b : Nat} (h : YNe b a) : a ≠ b := fun e => h e.symm
noncomputable def AllNe (t : Nat) : List (Addr × Obj) → Prop
  | [] => True
  | p :: r => YNe p.1 t ∧ AllNe t r
section
variable {h₀ h h' : Heap} {L : Addr} {m : Str → Option Value} {news : List (Addr × Obj)} {mu : List Addr}
theorem y_fr_ge (F : Fr h₀ L h m) (G : Ge mu h h') (hm : ∀ b ∈ mu, b ≠ L ∧ h₀.get? b = none) : Fr h₀ L h' m :=
  ⟨F.ns.at fun o e => G L o (fun hb => (hm L hb).1 rfl) e, fun b o e => G b o (fun hb => by rw [(hm b hb).2] at e; cases e) (F.keep b o e), F.above⟩
theorem y_news_ge {news' : List (Addr × Obj)} (N : News h₀ L h news) (G : Ge mu h h') (hn : ∀ p ∈ news', p ∈ news ∧ p.1 ∉ mu) : News h₀ L h' news' := fun p hp =>
  ⟨G _ _ (hn p hp).2 (N p (hn p hp).1).1, (N p (hn p hp).1).2⟩
theorem y_call0 (F : Fr h₀ L h m) (N : News h₀ L h news) (G : Ge [] h h') : Fr h₀ L h' m ∧ News h₀ L h' news :=
  ⟨y_fr_ge F G (fun _ hb => nomatch hb), y_news_ge N G (fun p hp => ⟨hp, fun h => nomatch h⟩)⟩
theorem y_call1 {x : Addr} {o o' : Obj} {g : Obj → List (Addr × Obj)} (F : Fr h₀ L h m) (N : News h₀ L h news) (U : UpdF x o news g) (G : Ge [x] h h') (ho : h'.get? x = some o') : Fr h₀ L h' m ∧ News h₀ L h' (g o') := by
  obtain ⟨own, rest, rfl, hgr, h1, h2⟩ := U.split
  have hx := N (x, o) (List.mem_append_right _ (.head _))
  refine ⟨y_fr_ge F G fun b hb => by rw [List.mem_singleton.mp hb]; exact hx.2, fun p hp => ?_⟩
  rw [hgr] at hp
  rcases List.mem_append.mp hp with hp | hp
  · have n := N p (List.mem_append_left _ hp)
    exact ⟨G _ _ (fun hm => h1 p hp (List.mem_singleton.mp hm)) n.1, n.2⟩
  · rcases List.mem_cons.mp hp with rfl | hp
    · exact ⟨ho, hx.2⟩
    · have n := N p (List.mem_append_right _ (.tail _ hp))
      exact ⟨G _ _ (fun hm => h2 p hp (List.mem_singleton.mp hm)) n.1, n.2⟩
theorem y_call2 {x y : Addr} {o o' q q' : Obj} {g g2 : Obj → List (Addr × Obj)} (F : Fr h₀ L h m) (N : News h₀ L h news) (U : UpdF x o news g) (U2 : UpdF y q (g o') g2) (G : Ge [x, y] h h') (ho : h'.get? x = some o') (hq : h'.get? y = some q') (hy : (y, q) ∈ news) (hxy : x ≠ y) :
    Fr h₀ L h' m ∧ News h₀ L h' (g2 q') := by
  obtain ⟨own, rest, e, hgr, h1, h2⟩ := U.split
  obtain ⟨own2, rest2, e2, hgr2, h3, h4⟩ := U2.split
  have hx := N (x, o) (by rw [e]; exact List.mem_append_right _ (.head _))
  have hy' := N _ hy
  refine ⟨y_fr_ge F G fun b hb => ?_, fun p hp => ?_⟩
  · rcases List.mem_cons.mp hb with rfl | hb
    · exact hx.2
    · rw [List.mem_singleton.mp hb]; exact hy'.2
  · rw [hgr2] at hp
    have key : ∀ p ∈ g o', p.1 ≠ y → h'.get? p.1 = some p.2 ∧ p.1 ≠ L ∧ h₀.get? p.1 = none := fun p hp hpy => by
      rw [hgr] at hp
      rcases List.mem_append.mp hp with hp | hp
      · have n := N p (by rw [e]; exact List.mem_append_left _ hp)
        exact ⟨G _ _ (fun hm => by rcases List.mem_cons.mp hm with hm | hm; exact h1 p hp hm; exact hpy (List.mem_singleton.mp hm)) n.1, n.2⟩
      · rcases List.mem_cons.mp hp with rfl | hp
        · exact ⟨ho, hx.2⟩
        · have n := N p (by rw [e]; exact List.mem_append_right _ (.tail _ hp))
          exact ⟨G _ _ (fun hm => by rcases List.mem_cons.mp hm with hm | hm; exact h2 p hp hm; exact hpy (List.mem_singleton.mp hm)) n.1, n.2⟩
    rcases List.mem_append.mp hp with hp | hp
    · exact key p (by rw [e2]; exact List.mem_append_left _ hp) (h3 p hp)
    · rcases List.mem_cons.mp hp with rfl | hp
      · exact ⟨hq, hy'.2⟩
      · exact key p (by rw [e2]; exact List.mem_append_right _ (.tail _ hp)) (h4 p hp)
theorem y_fresh {t : Addr} {o : Obj} {news' : List (Addr × Obj)} (F : Fr h₀ L h m) (N' : News h₀ L h' news') (e : h.get? t = none) (e' : h'.get? t = some o) : News h₀ L h' ((t, o) :: news') := fun p hp => by
  rcases List.mem_cons.mp hp with rfl | hp
  · refine ⟨e', fun q => ?_, ?_⟩
    · obtain ⟨o2, _, _, e2, _⟩ := F.ns
      dsimp only at q; rw [← q, e] at e2; cases e2
    · cases e3 : h₀.get? t with
      | none => rfl
      | some o3 => rw [F.keep _ _ e3] at e; cases e
  · exact N' p hp
theorem allNe_hd2 {t a : Nat} {o : Obj} {r : List (Addr × Obj)} (h : AllNe t ((a, o) :: r)) : YNe a t := h.1
theorem allNe_tl2 {t : Nat} {p : Addr × Obj} {r : List (Addr × Obj)} (h : AllNe t (p :: r)) : AllNe t r := h.2
theorem allNe_one {t a : Nat} {o : Obj} (h : AllNe t [(a, o)]) : YNe a t := h.1
theorem allNe_of {t : Addr} : ∀ {l : List (Addr × Obj)}, (∀ p ∈ l, @Ne Nat p.1 t) → AllNe t l
  | [], _ => trivial
  | p :: r, k => ⟨k _ (.head _), allNe_of fun q hq => k q (.tail _ hq)⟩
theorem y_apart {t : Addr} (N : News h₀ L h news) (e : h.get? t = none) : AllNe t news := allNe_of fun p hp q => by
  have e2 := (N p hp).1
  rw [q, e] at e2; cases e2
theorem updF_mem {x : Addr} {o : Obj} {g : Obj → List (Addr × Obj)} (U : UpdF x o news g) : (x, o) ∈ news := by
  obtain ⟨pre, post, e, _, _, _⟩ := U.split
  rw [e]; simp
theorem news2 {a b : Addr × Obj} (N : News h₀ L h news) (h1 : a ∈ news) (h2 : b ∈ news) : News h₀ L h [a, b] := fun p hp => by
  rcases List.mem_cons.mp hp with rfl | hp
  · exact N _ h1
  · rcases List.mem_cons.mp hp with rfl | hp
    · exact N _ h2
    · cases hp
theorem news3 {a b c : Addr × Obj} (N : News h₀ L h news) (h1 : a ∈ news) (h2 : b ∈ news) (h3 : c ∈ news) : News h₀ L h [a, b, c] := fun p hp => by
  rcases List.mem_cons.mp hp with rfl | hp
  · exact N _ h1
  · exact news2 N h2 h3 p hp
end
theorem bounds_lo {i : Int} {n : Nat} (h0 : 0 ≤ i) (h1 : i ≤ n) : sliceBounds (some i) none none n = (i, (n : Int), 1) := by
  unfold sliceBounds
  simp only [Option.getD_none]
  rw [if_pos (by decide), if_neg (by omega), if_pos (by decide)]
  congr 1
  omega
theorem slice_lo (its : Array Value) {i : Int} (h0 : 0 ≤ i) (h1 : i ≤ its.size) : its.extract 0 (sliceBounds (some i) none none its.size).1.toNat ++ #[] ++ its.extract (max (sliceBounds (some i) none none its.size).1 (sliceBounds (some i) none none its.size).2.1).toNat its.size = its.extract 0 i.toNat := by
  rw [bounds_lo h0 h1]
  dsimp only
  rw [show (max i (its.size : Int)).toNat = its.size by rw [Int.max_eq_right h1]; rfl]
  simp
theorem slice_all (its its2 : Array Value) : its.extract 0 (sliceBounds none none none its.size).1.toNat ++ its2 ++ its.extract (max (sliceBounds none none none its.size).1 (sliceBounds none none none its.size).2.1).toNat its.size = its2 := by
  have e : sliceBounds none none none its.size = (0, (its.size : Int), 1) := by
    unfold sliceBounds
    simp
  rw [e]
  dsimp only
  rw [show (max 0 (its.size : Int)).toNat = its.size by rw [Int.max_eq_right (Int.natCast_nonneg _)]; rfl]
  simp
theorem range_pick : ∀ (r : List Value), (List.range r.length).filterMap (fun k => r[k]?) = r
  | [] => rfl
  | x :: r => by
    rw [List.length_cons, List.range_succ_eq_map, List.filterMap_cons]
    simp only [List.getElem?_cons_zero, List.filterMap_map, List.cons.injEq, true_and]
    show List.filterMap (fun k => (x :: r)[k + 1]?) _ = r
    simp only [List.getElem?_cons_succ]
    exact range_pick r
theorem pick_lo (its : Array Value) {i : Int} (h0 : 0 ≤ i) (h1 : i ≤ its.size) : slicePick its (some i) none none = its.extract i.toNat its.size := by
  obtain ⟨j, rfl⟩ := Int.eq_ofNat_of_zero_le h0
  have hj : j ≤ its.size := by omega
  unfold slicePick
  rw [bounds_lo h0 h1]
  dsimp only
  unfold sliceRange
  rw [if_pos (by decide)]
  dsimp only
  have hc : (if (j : Int) < (its.size : Int) then ((its.size : Int) - j + 1 - 1) / 1 else 0).toNat = its.size - j := by
    split <;> omega
  rw [hc]
  have e : (List.range (its.size - j)).map (fun (k : Nat) => ((j : Int) + 1 * (k : Int)).toNat) = (List.range (its.size - j)).map (fun k => j + k) := by
    apply List.map_congr_left
    intro k _
    omega
  rw [e, List.filterMap_map]
  apply Array.toList_inj.mp
  show (List.filterMap (fun k => its[j + k]?) (List.range (its.size - j))) = _
  have e2 := range_pick (its.toList.drop j)
  rw [List.length_drop, Array.length_toList] at e2
  simp only [List.getElem?_drop, Array.getElem?_toList] at e2
  rw [e2]
  simp
  rw [List.take_of_length_le (by simp)]
variable {w p loose mean mg mb dp un gd cn cs a ccd cl outer A₀ base h₀ L m s Q E}
theorem push_L
  {news : List (Addr × Obj)} {gn : Obj → List (Addr × Obj)}
  {ac ax : Addr} {its : Array Value} {na : Nat} {hi isz : Int} {kt ti : Tok} {f x : Value}
  (B : Below A₀ base outer h₀) (F : Fr h₀ L s.heap m) (X : (hd.heap_1 w.params).In h₀) (N : News h₀ L s.heap news) (T : Top p loose mean mg mb h₀) (hkf : cs.kind = .function)
  (hdp : dp + 1 < recursionLimit) (hun : un + 8 < cLine)
  (U : UpdF ac (accObj ax its na) news gn) (h2 : (ax, dictOf [⟨hi, .str "_initial_size" kt, .int isz ti⟩] 1) ∈ news) (hs : its.size < 100) (hax : @Ne Nat ac ax)
  (hret : ∀ t n' h' tk', Fr h₀ L h' m → News h₀ L h' ((t, tupObj #[f, x]) :: gn (accObj ax (its.push (.ref t)) n')) → AllNe t news → Q .none { s with heap := h', toks := tk' }) :
  wpAny (model PySem.Challenge.rw_yj0031_01.row.prog w) (ktrTop dp un gd cn cs L a ccd cl outer) (call (.ref 182) [.ref ac, f, x]) Q E s := by
  refine push_spec w p loose mean mg mb dp un gd cn cs a ccd cl outer A₀ base h₀ L m s Q E ac ax its na hi isz kt ti f x B F X (news2 N (updF_mem U) h2) T hkf hdp hun hs hax ?_
  intro t n' h' tk' G e1 e2 e3
  obtain ⟨F', N'⟩ := y_call1 F N U G e1
  exact hret t n' h' tk' F' (y_fresh F N' e3 e2) (y_apart N e3)
theorem count_L
  {news : List (Addr × Obj)}
  {ac ax : Addr} {its : Array Value} {na : Nat} {hi isz : Int} {kt ti : Tok} 
  (B : Below A₀ base outer h₀) (F : Fr h₀ L s.heap m) (X : (hd.heap_1 w.params).In h₀) (N : News h₀ L s.heap news) (T : Top p loose mean mg mb h₀) (hkf : cs.kind = .function)
  (hdp : dp + 1 < recursionLimit) (hun : un + 8 < cLine)
  (h1 : (ac, accObj ax its na) ∈ news) (h2 : (ax, dictOf [⟨hi, .str "_initial_size" kt, .int isz ti⟩] 1) ∈ news) (hs : its.size < 100) (hax : @Ne Nat ac ax)
  (hret : ∀ t h' tk', Fr h₀ L h' m → News h₀ L h' news → Q (.int (its.size : Int) t) { s with heap := h', toks := tk' }) :
  wpAny (model PySem.Challenge.rw_yj0031_01.row.prog w) (ktrTop dp un gd cn cs L a ccd cl outer) (call (.ref 235) [.ref ac]) Q E s := by
  refine count_spec w p loose mean mg mb dp un gd cn cs a ccd cl outer A₀ base h₀ L m s Q E ac ax its na hi isz kt ti B F X (news2 N h1 h2) T hkf hdp hun hs hax ?_
  intro t h' tk' G
  obtain ⟨F', N'⟩ := y_call0 F N G
  exact hret t h' tk' F' N'
theorem popf_L
  {news : List (Addr × Obj)} {gn : Obj → List (Addr × Obj)}
  {ac ax : Addr} {its : Array Value} {na : Nat} {hi isz : Int} {kt ti : Tok} {i : Int} {t3 : Tok}
  (B : Below A₀ base outer h₀) (F : Fr h₀ L s.heap m) (X : (hd.heap_1 w.params).In h₀) (N : News h₀ L s.heap news) (T : Top p loose mean mg mb h₀) (hkf : cs.kind = .function)
  (hdp : dp + 1 < recursionLimit) (hun : un + 8 < cLine)
  (U : UpdF ac (accObj ax its na) news gn) (h2 : (ax, dictOf [⟨hi, .str "_initial_size" kt, .int isz ti⟩] 1) ∈ news) (hs : its.size < 100) (hax : @Ne Nat ac ax) (hi0 : 0 ≤ i) (hi1 : i ≤ its.size)
  (hret : ∀ l n' h' tk', Fr h₀ L h' m → News h₀ L h' ((l, listOf (its.extract i.toNat its.size) 0) :: gn (accObj ax (its.extract 0 i.toNat) n')) → AllNe l news → Q (.ref l) { s with heap := h', toks := tk' }) :
  wpAny (model PySem.Challenge.rw_yj0031_01.row.prog w) (ktrTop dp un gd cn cs L a ccd cl outer) (call (.ref 190) [.ref ac, .int i t3]) Q E s := by
  refine popf_spec w p loose mean mg mb dp un gd cn cs a ccd cl outer A₀ base h₀ L m s Q E ac ax its na hi isz kt ti i t3 B F X (news2 N (updF_mem U) h2) T hkf hdp hun hs hax hi0 hi1 ?_
  intro l n' h' tk' G e1 e2 e3
  rw [slice_lo its hi0 hi1] at e1
  rw [pick_lo its hi0 hi1] at e2
  obtain ⟨F', N'⟩ := y_call1 F N U G e1
  exact hret l n' h' tk' F' (y_fresh F N' e3 e2) (y_apart N e3)
theorem reset_L
  {news : List (Addr × Obj)} {gn : Obj → List (Addr × Obj)}
  {ac ax : Addr} {its : Array Value} {na : Nat} {hi isz : Int} {kt ti : Tok} {gn3 : Nat → Obj → List (Addr × Obj)} {lr : Addr} {its2 : Array Value} {n2 : Nat} 
  (B : Below A₀ base outer h₀) (F : Fr h₀ L s.heap m) (X : (hd.heap_1 w.params).In h₀) (N : News h₀ L s.heap news) (T : Top p loose mean mg mb h₀) (hkf : cs.kind = .function)
  (hdp : dp + 1 < recursionLimit) (hun : un + 8 < cLine)
  (U : UpdF ac (accObj ax its na) news gn) (h2 : (ax, dictOf [⟨hi, .str "_initial_size" kt, .int isz ti⟩] 1) ∈ news) (h3 : (lr, listOf its2 n2) ∈ news) (U2 : ∀ n, UpdF ax (dictOf [⟨hi, .str "_initial_size" kt, .int isz ti⟩] 1) (gn (accObj ax its2 n)) (gn3 n)) (hs : its.size < 100) (hs2 : its2.size < 100) (hax : @Ne Nat ac ax) (hl1 : @Ne Nat lr ac) (hl2 : @Ne Nat lr ax)
  (hret : ∀ n' hi' kt' ti' h' tk', Fr h₀ L h' m → News h₀ L h' (gn3 n' (dictOf [⟨hi', .str "_initial_size" kt', .int 0 ti'⟩] 1)) → Q .none { s with heap := h', toks := tk' }) :
  wpAny (model PySem.Challenge.rw_yj0031_01.row.prog w) (ktrTop dp un gd cn cs L a ccd cl outer) (call (.ref 220) [.ref ac, .ref lr]) Q E s := by
  refine reset_spec w p loose mean mg mb dp un gd cn cs a ccd cl outer A₀ base h₀ L m s Q E ac ax its na hi isz kt ti lr its2 n2 B F X (news3 N (updF_mem U) h2 h3) T hkf hdp hun hs hax hs2 hl1 hl2 ?_
  intro n' hi' kt' ti' h' tk' G e1 e2
  rw [slice_all its its2] at e1
  obtain ⟨F', N'⟩ := y_call2 F N U (U2 n') G e1 e2 h2 hax
  exact hret n' hi' kt' ti' h' tk' F' N'
theorem len_L
  {news : List (Addr × Obj)} {gn : Obj → List (Addr × Obj)}
  {ac ax : Addr} {its : Array Value} {na : Nat} {hi : Int} {kt ti : Tok} {ps : Array Value} {xs : List Str}
  (B : Below A₀ base outer h₀) (F : Fr h₀ L s.heap m) (X : (hd.heap_1 w.params).In h₀) (N : News h₀ L s.heap news) (T : Top p loose mean mg mb h₀) (hkf : cs.kind = .function)
  (hdp : dp + 1 < recursionLimit) (hun : un + 8 < cLine)
  (h1 : (ac, accObj ax its na) ∈ news) (h2 : (ax, dictOf [⟨hi, .str "_initial_size" kt, .int 0 ti⟩] 1) ∈ news) (U : UpdF 200 (tabObj ps) news gn) (hs : its.size < 100) (hax : @Ne Nat ac ax) (hit : Items s.heap its xs) (hln : ∀ x ∈ xs, x.length ≤ 200) (htr : TriplesOk ps.toList) (hG0 : AllBare s.gens)
  (hret : ∀ t s' ps', Fr h₀ L s'.heap m → News h₀ L s'.heap (gn (tabObj ps')) → TriplesOk ps'.toList → AllBare s'.gens → s'.os = s.os → Q (.int (total xs) t) s') :
  wpAny (model PySem.Challenge.rw_yj0031_01.row.prog w) (ktrTop dp un gd cn cs L a ccd cl outer) (call (.ref 205) [.ref ac]) Q E s := by
  refine len_spec w p loose mean mg mb dp un gd cn cs a ccd cl outer A₀ base h₀ L m s Q E ac ax its na hi kt ti ps xs B F X (news3 N h1 h2 (updF_mem U)) T hkf hdp hun hs hax hit hln htr hG0 ?_
  intro t s' ps' G e1 ht hG ho
  obtain ⟨F', N'⟩ := y_call1 F N U G e1
  exact hret t s' ps' F' N' ht hG ho
theorem str_L
  {news : List (Addr × Obj)} {gn : Obj → List (Addr × Obj)}
  {ac ax : Addr} {its : Array Value} {na : Nat} {hi : Int} {kt ti : Tok} {ps : Array Value} {xs : List Str}
  (B : Below A₀ base outer h₀) (F : Fr h₀ L s.heap m) (X : (hd.heap_1 w.params).In h₀) (N : News h₀ L s.heap news) (T : Top p loose mean mg mb h₀) (hkf : cs.kind = .function)
  (hdp : dp + 1 < recursionLimit) (hun : un + 8 < cLine)
  (h1 : (ac, accObj ax its na) ∈ news) (h2 : (ax, dictOf [⟨hi, .str "_initial_size" kt, .int 0 ti⟩] 1) ∈ news) (U : UpdF 207 (tabObj ps) news gn) (hs : its.size < 100) (hax : @Ne Nat ac ax) (hit : Items s.heap its xs) (hln : ∀ x ∈ xs, x.length ≤ 200) (htr : TriplesOk ps.toList) (hG0 : AllBare s.gens)
  (hret : ∀ t s' ps', Fr h₀ L s'.heap m → News h₀ L s'.heap (gn (tabObj ps')) → TriplesOk ps'.toList → AllBare s'.gens → s'.os = s.os → Q (.str (Txt.join "" xs) t) s') :
  wpAny (model PySem.Challenge.rw_yj0031_01.row.prog w) (ktrTop dp un gd cn cs L a ccd cl outer) (call (.ref 212) [.ref ac]) Q E s := by
  refine str_spec w p loose mean mg mb dp un gd cn cs a ccd cl outer A₀ base h₀ L m s Q E ac ax its na hi kt ti ps xs B F X (news3 N h1 h2 (updF_mem U)) T hkf hdp hun hs hax hit hln htr hG0 ?_
  intro t s' ps' G e1 ht hG ho
  obtain ⟨F', N'⟩ := y_call1 F N U G e1
  exact hret t s' ps' F' N' ht hG ho
end
section -- JPop
theorem zsJPop : True := by
  w_top off
  k_with_none
  k_with "omega" => (lia)
  k_with "inst" => ((refine' inst_seq ?N ?h1 ?h2; (case N => k_asm); (case h1 | h2 => k_mem)))
  k_with "ge" => first | exact y_all0 | (refine' y_allc ?gea ?geb; (case gea => first | (exact Or.inl (by k_mem)) | (exact Or.inr (by k_mem))); (case geb => k_extra "ge"))
  k_with "getMethod ref" => (k_here; k_dflt (refine' sup_meth_m ?F ?X ?N ?hso ?h1 ?h2 ?hf ?hty ?hn ?htold ?hsp ?_; (case F | X | N => k_asm); (case hso | h1 | h2 => k_mem); (case hf => exact acc_along_pop _); (case hty => exact PySem.F.type_list_pop); (case hn => decide); (case htold | hsp => decide +kernel); k_whole; intro q9' h9' F9' N9' lz1; (try k_lt lz1)))
  k_with "getMethod ref" => (k_here; k_dflt (refine' sup_meth_w ?F ?X ?N ?hso ?h1 ?h2 ?hf ?hty ?hn ?hsp ?_; (case F | X | N => k_asm); (case hso | h1 | h2 => k_mem); (case hf => first | exact acc_along_len _ | exact acc_along_init _); (case hty => first | exact ty_len | exact ty_init); (case hn => decide); (case hsp => decide +kernel); k_whole; intro q9' h9' F9' N9' lz1; (try k_lt lz1)))
  k_with "getMethod ref" => (k_here; k_dflt (refine' acc_getMethod_bi ?F ?X ?N ?h1 ?h2 ?hf ?ht ?hs ?_; (case F | X | N => k_asm); (case h1 | h2 => k_mem); (case hf | ht => k_is); (case hs => k_get); k_whole))
  k_with "getMethod ref" => (k_here; k_dflt (refine' acc_getMethod_fn ?F ?X ?N ?h1 ?h2 ?hf ?ht ?hs ?_; (case F | X | N => k_asm); (case h1 | h2 => k_mem); (case hf | ht => k_is); (case hs => k_get); k_whole))
  k_with "callWith ref" => (k_here; k_dflt (refine' callWith_bnd ?N ?hm ?ho ?_; (case N => k_asm); (case hm => k_mem); (case ho => exact ⟨_, _, .inr rfl⟩); k_whole))
  k_with "call ref" => (k_here; k_dflt (refine' bnd_pop ?F ?X ?N ?hq ?U ?h2 ?hz ?_; (case F | X | N => k_asm); (case hq => k_mem); (case U => k_updF); (case h2 => k_mem); (case hz => omega); k_whole; intro h9' n9' F9' N9'; (try dsimp only at N9')))
  k_with "call ref" => (k_here; k_dflt (refine' bnd_init ?F ?X ?N ?hq ?U ?h2 ?_; (case F | X | N => k_asm); (case hq => k_mem); (case U => k_updF); (case h2 => k_mem); k_whole; intro h9' n9' F9' N9'; (try dsimp only at N9')))
  k_with "call ref" => (k_here; k_dflt (refine' bnd_len ?F ?X ?N ?hq ?h1 ?h2 ?_; (case F | X | N => k_asm); (case hq | h1 | h2 => k_mem); k_whole))
  k_with "call ref" => (k_here; k_dflt (refine' popf_L ?B ?F ?X ?N ?T ?hkf ?hdp ?hun ?U ?h2 ?hs ?hax ?hi0 ?hi1 ?_; (case B | F | X | N => k_asm); (case T => assumption); (case hkf => exact rfl); (case hdp => ktr_room); (case hun => ktr_units); (case U => k_updF); (case h2 => k_mem); (case hs => first | assumption | omega | (simp; omega)); (case hax => first | assumption | omega); (case hi0 => omega); (case hi1 => first | omega | (simp; omega)); k_whole; intro l9' n9' h9' tk9' F9' N9' lz1; (try simp only [AllNe, and_true] at lz1); (try dsimp only at N9')))
  k_with "call ref" => (k_here; k_dflt (refine' count_L ?B ?F ?X ?N ?T ?hkf ?hdp ?hun ?h1 ?h2 ?hs ?hax ?_; (case B | F | X | N => k_asm); (case T => assumption); (case hkf => exact rfl); (case hdp => ktr_room); (case hun => ktr_units); (case h1 | h2 => k_mem); (case hs => first | assumption | omega | (simp; omega)); (case hax => first | assumption | omega); k_whole; intro t9' h9' tk9' F9' N9'))
  k_with "call ref" => (k_here; k_dflt (refine' push_L ?B ?F ?X ?N ?T ?hkf ?hdp ?hun ?U ?h2 ?hs ?hax ?_; (case B | F | X | N => k_asm); (case T => assumption); (case hkf => exact rfl); (case hdp => ktr_room); (case hun => ktr_units); (case U => k_updF); (case h2 => k_mem); (case hs => first | assumption | omega | (simp; omega)); (case hax => first | assumption | omega); k_whole; intro t9' n9' h9' tk9' F9' N9' lz1; (try simp only [AllNe, and_true] at lz1); (try dsimp only at N9')))
  trivial
theorem pop_spec
  (ac ax : Addr) (vs : List Value) (v : Value) (na : Nat) (hi isz : Int) (kt ti : Tok)
  (B : Below A₀ base outer h₀) (F : Fr h₀ L s.heap m) (X : (hd.heap_1 w.params).In h₀) (N : News h₀ L s.heap ([(ac, accObj ax (vs ++ [v]).toArray na), (ax, dictOf [⟨hi, .str "_initial_size" kt, .int isz ti⟩] 1)])) (T : Top p loose mean mg mb h₀) (hkf : cs.kind = .function)
  (hdp : dp + 2 < recursionLimit) (hun : un + 16 < cLine)
  (hs : vs.length < 90) (hax : @Ne Nat ac ax)
  (hret : ∀ n' h' tk', Ge [ac] s.heap h' → h'.get? ac = some (accObj ax vs.toArray n') → Q v { s with heap := h', toks := tk' }) :
  wpAny (model PySem.Challenge.rw_yj0031_01.row.prog w) (ktrTop dp un gd cn cs L a ccd cl outer) (call (.ref 198) [.ref ac]) Q E s := by
  revert X; k_fill; intro X
  refine wpAny_call ?_
  refine' y_codeS ?k1 ?k2 ?k3 ?k4 ?k5 ?kA ?kF ?kK ?k6 ?k7 ?k8 ?k9 ?kB ?_ ?c5 ?c2 ?c3 ?c4
  (case kA | kF => exact rfl); (case kK | k1 | k2 | k3 | k4 | k5 => assumption); (case k6 | k7 => k_is); (case k8 => ktr_room); (case k9 => first | exact BindsTo.of_eq rfl | exact binds_K (by k_in) rfl (by k_is) rfl rfl rfl); (case c5 => decide); (case kB => exact locs rfl); (case c2 | c3 | c4 => exact rfl); have N0 := YOld.mk N; clear B F X N T; intro g L1 h1 hG F1 N1 B1 X1 T1 l1; (try dsimp only); (try k_lt l1); (try k_fold)
  have hsz : ((vs ++ [v]).toArray.size : Int) = vs.length + 1 := by simp
  refine ks_wpAt_execs_cons ?_
  refine ks_wpAt_If ?_
  refine wpAt_of_wpAny ?_
  repeat' ((fail_if_success (show PySem.wpAt _ _ _ _ _ _ _)); first | (k_unfold; (try dsimp only)) | (k_end; wrow_close) | walk1 | (dsimp only; walk1) | (leave1; (try dsimp only)))
  · refine wpAt_of_wpAny (wpAny_execs_nil ?_)
    show PySem.wpAt _ _ _ _ _ _ _
    refine ks_wpAt_execs_cons ?_
    refine ks_wpAt_Return_some ?_
    refine ks_wpAt_MethodCall ?_
    k_steps
    exact hret _ _ _ (by
    (rename Fr _ _ _ _ => F9); (rename News _ _ _ _ => N9)
    refine y_ge N0 hG F9 N9 ?_
    k_extra "ge") (by (rename News _ _ _ _ => N9); exact y_got N9 (by k_mem))
end
section -- JCallB
open PySem.Calls
section
variable {prog : Program} {w : World} {A : Around} {E : Value → Shared → Prop} {s : Shared} {K : Frag} {x C f : Addr} {ox : Obj} {od : Option Obj} {name : Str}
theorem y_specialF {args : List Value} {Q : Option Value → Shared → Prop} (X : K.In s.heap) (I : InstAt s.heap x ox C od) (hf : findIn K (.ref C) name = some (some (.ref f))) (ht : typeIn K (.ref f) = some (.type "function"))
    (h : wpAny (model prog w) A (call (.ref f) (.ref x :: args)) (fun v => Q (some v)) E s) : wpAny (model prog w) A (callSpecial? (.ref x) name args) Q E s := by
  unfold callSpecial? specialOf
  refine wpAny_bind (wpAny_bind (I.type.here ((looks_findIn X hf).here (wpAny_holding ?_))))
  refine wpAny_bind ((bind_fn X (.ref x) ht).here ?_)
  exact wpAny_bind (wpAny_mono h (fun _ _ z => wpAny_pure z) fun _ _ z => z)
end
theorem acc_f_len (w : World) : findIn (hd.heap_1 w.params) (.ref 238) "__len__" = some (some (.ref 205)) := by kernel_rfl
theorem acc_f_str (w : World) : findIn (hd.heap_1 w.params) (.ref 238) "__str__" = some (some (.ref 212)) := by kernel_rfl
theorem acc_f_bool (w : World) : findIn (hd.heap_1 w.params) (.ref 238) "__bool__" = some none := by kernel_rfl
theorem acc_t_len (w : World) : typeIn (hd.heap_1 w.params) (.ref 205) = some (.type "function") := by kernel_rfl
theorem acc_t_str (w : World) : typeIn (hd.heap_1 w.params) (.ref 212) = some (.type "function") := by kernel_rfl
section
variable {prog : Program} {w : World} {A : Around} {E : Value → Shared → Prop} {s : Shared} {x ax : Addr} {its : Array Value} {n : Nat} {od : Obj}
theorem acc_len_tree (a : AccAt w s x ax its n od) {Q : Value → Shared → Prop}
    (hcall : wpAny (model prog w) A (call (.ref 205) [.ref x]) (fun r s' => ∃ n u, r = .int n u ∧ 0 ≤ n ∧ n < 2 ^ 63 ∧ Q (.int n s'.toks) { s' with toks := s'.toks + 1 }) E s) :
    wpAny (model prog w) A (Builtin.«len» ⟨[.ref x], []⟩) (fun fin s' => ∃ v, fin = .done (.ret v) ∧ Q v s') E s := by
  unfold Builtin.«len»
  refine wpAny_bind (m := oneArg "len" _) (wpAny_pure ?_)
  refine wpAny_bind (m := callSpecial? (.ref x) (Str.ofString "__len__")) (y_specialF a.X a.I (acc_f_len w) (acc_t_len w) (wpAny_mono hcall (fun r s' hr => ?_) fun _ _ y => y))
  obtain ⟨n, u, rfl, h0, h1, hq⟩ := hr
  refine wpAny_bind (wpAny_holding (wpAny_pure ?_))
  refine wpAny_bind (wpAny_letGo ?_)
  show wpAny _ _ (if n < 0 then _ else _) _ _ _
  rw [if_neg (by omega)]
  show wpAny _ _ (if n ≥ 2 ^ 63 then _ else _) _ _ _
  rw [if_neg (by omega)]
  exact wpAny_bind (wpAny_mkInt (wpAny_pure ⟨_, rfl, hq⟩))
theorem acc_len_call (a : AccAt w s x ax its n od) {Q : Value → Shared → Prop}
    (hcall : wpAny (model prog w) A.in1 (call (.ref 205) [.ref x]) (fun r s' => ∃ n u, r = .int n u ∧ 0 ≤ n ∧ n < 2 ^ 63 ∧ Q (.int n s'.toks) { s' with toks := s'.toks + 1 }) E s) :
    wpAny (model prog w) A (call (.builtin "len") [.ref x]) Q E s :=
  Calls.call_function_entry kind_len plain_len entry_len (args_len1 _) (acc_len_tree a hcall)
theorem acc_str_call (a : AccAt w s x ax its n od) (hu : A.units + 4 < cLine) {Q : Value → Shared → Prop}
    (hcall : wpAny (model prog w) A.in1.in1 (call (.ref 212) [.ref x]) (fun r s' => ∃ m u, r = .str m u ∧ Q (.str m u) s') E s) :
    wpAny (model prog w) A (call (.type "str") [.ref x]) Q E s := by
  refine callType_newIn PySem.F.called_str (by decide) (PySem.F.typeCall_str_1 _) (PySem.F.newCall_str_1 _) (fun obj => PySem.F.args_object_init_2 obj _) PySem.F.entry_str_new
    (S := fun A' R s' => A' = A.in1 ∧ s' = s ∧ R = wants (fun obj s₁ => s₁.TypeIs obj "str" ∧ Q obj s₁) E) ?_ ⟨rfl, rfl, rfl⟩
  rintro A' R s' ⟨rfl, rfl, rfl⟩
  rw [str_new_tree (.ref x)]
  refine wpAny_bind (wpAny_pure ?_)
  refine wpAny_bind (wpAny_of_eq isSubtype_str_str ?_)
  refine wpAny_bind ?_
  unfold Builtin.Str.strOf
  rw [if_neg (show ¬ (Builtin.Str.isExactStr (.ref x) = true) from Bool.false_ne_true)]
  refine wpAny_bind (m := cRoomFor _ _) (wpAny_cRoomFor (by show A.units + 1 + 1 < cLine; omega) ?_)
  refine wpAny_bind (m := callSpecial? (.ref x) (Str.ofString "__str__")) (y_specialF a.X a.I (acc_f_str w) (acc_t_str w) (wpAny_mono hcall (fun r s' hr => ?_) fun _ _ y => y))
  obtain ⟨m, u, rfl, hq⟩ := hr
  show wpAny _ _ (pure (Value.str m u)) _ _ _
  refine wpAny_pure ?_
  show wpAny _ _ (pure (Fin.done (Flow.ret (Value.str m u)))) _ _ _
  refine wpAny_pure ?_
  exact ⟨typeIs_str _ _ _, hq⟩
theorem acc_truthy (a : AccAt w s x ax its n od) {Q : Bool → Shared → Prop}
    (hcall : wpAny (model prog w) A.in1 (call (.ref 205) [.ref x]) (fun r s' => ∃ n u, r = .int n u ∧ 0 ≤ n ∧ n < 2 ^ 63 ∧ Q (n != 0) { s' with toks := s'.toks + 1 }) E s) :
    wpAny (model prog w) A (truthy (.ref x)) Q E s := by
  unfold truthy
  refine wpAny_bind (m := callSpecial? (.ref x) (Str.ofString "__bool__")) ?_
  unfold callSpecial? specialOf
  refine wpAny_bind (wpAny_bind (a.I.type.here ((looks_findIn a.X (acc_f_bool w)).here ?_)))
  refine wpAny_pure ?_
  refine wpAny_bind (wpAny_bind (a.I.type.here ((looks_findIn a.X (acc_f_len w)).here ?_)))
  rw [if_neg (by simp)]
  refine wpAny_bind (wpAny_runValue ?_)
  refine codeAny_builtin entry_len ?_
  rw [Around.under_plainId plain_len _]
  refine wpAny_mono (acc_len_tree (Q := fun v s' => ∃ n u, v = .int n u ∧ Q (n != 0) s') a (wpAny_mono hcall (fun r s' hr => ?_) fun _ _ y => y)) (fun fin s' hf => ?_) fun _ _ y => y
  · obtain ⟨n, u, rfl, h0, h1, hq⟩ := hr
    exact ⟨n, u, rfl, h0, h1, n, _, rfl, hq⟩
  · obtain ⟨v, rfl, n, u, rfl, hq⟩ := hf
    exact wpAny_pure hq
end
variable {w p loose mean mg mb dp un gd cn cs a ccd cl outer A₀ base h₀ L m s}
theorem len_B
  {E : Value → Shared → Prop} {news : List (Addr × Obj)} {gn : Obj → List (Addr × Obj)}
  {ac ax : Addr} {its : Array Value} {na : Nat} {hi : Int} {kt ti : Tok} {ps : Array Value} {xs : List Str} {Q : Value → Shared → Prop}
  (B : Below A₀ base outer h₀) (F : Fr h₀ L s.heap m) (X : (hd.heap_1 w.params).In h₀) (N : News h₀ L s.heap news) (T : Top p loose mean mg mb h₀) (hkf : cs.kind = .function)
  (hdp : dp + 2 < recursionLimit) (hun : un + 24 < cLine)
  (h1 : (ac, accObj ax its na) ∈ news) (h2 : (ax, dictOf [⟨hi, .str "_initial_size" kt, .int 0 ti⟩] 1) ∈ news) (U : UpdF 200 (tabObj ps) news gn) (hs : its.size < 100) (hax : @Ne Nat ac ax) (hit : Items s.heap its xs) (hln : ∀ x ∈ xs, x.length ≤ 200) (htr : TriplesOk ps.toList) (hG0 : AllBare s.gens)
  (hret : ∀ (t : Tok) s' ps', Fr h₀ L s'.heap m → News h₀ L s'.heap (gn (tabObj ps')) → TriplesOk ps'.toList → AllBare s'.gens → s'.os = s.os → Q (.int (total xs) t) s') :
  wpAny (model PySem.Challenge.rw_yj0031_01.row.prog w) (ktrTop dp un gd cn cs L a ccd cl outer) (call (.builtin "len") [.ref ac]) Q E s := by
  refine acc_len_call (acc_at F X N h1 h2) ?_
  refine len_L (dp := dp) (un := un + 1) (A₀ := A₀) (base := base) (ps := ps) (xs := xs) (hi := hi) (kt := kt) (ti := ti) (its := its) (na := na) B F X N T hkf (by omega) (by omega) h1 h2 U hs hax hit hln htr hG0 ?_
  intro t s' ps' F' N' ht hG ho
  have hb := total_le hln
  have hsz := hit.size
  refine ⟨_, _, rfl, hb.1, ?_, ?_⟩
  · have : (xs.length : Int) < 100 := by omega
    have : total xs ≤ 200 * 100 := by omega
    exact Int.lt_of_le_of_lt this (by decide)
  · exact hret _ { s' with toks := s'.toks + 1 } ps' F' N' ht hG ho
theorem truthy_B
  {E : Value → Shared → Prop} {news : List (Addr × Obj)} {gn : Obj → List (Addr × Obj)}
  {ac ax : Addr} {its : Array Value} {na : Nat} {hi : Int} {kt ti : Tok} {ps : Array Value} {xs : List Str} {Q : Bool → Shared → Prop}
  (B : Below A₀ base outer h₀) (F : Fr h₀ L s.heap m) (X : (hd.heap_1 w.params).In h₀) (N : News h₀ L s.heap news) (T : Top p loose mean mg mb h₀) (hkf : cs.kind = .function)
  (hdp : dp + 2 < recursionLimit) (hun : un + 24 < cLine)
  (h1 : (ac, accObj ax its na) ∈ news) (h2 : (ax, dictOf [⟨hi, .str "_initial_size" kt, .int 0 ti⟩] 1) ∈ news) (U : UpdF 200 (tabObj ps) news gn) (hs : its.size < 100) (hax : @Ne Nat ac ax) (hit : Items s.heap its xs) (hln : ∀ x ∈ xs, x.length ≤ 200) (htr : TriplesOk ps.toList) (hG0 : AllBare s.gens)
  (hret : ∀ (t : Tok) s' ps', Fr h₀ L s'.heap m → News h₀ L s'.heap (gn (tabObj ps')) → TriplesOk ps'.toList → AllBare s'.gens → s'.os = s.os → Q (total xs != 0) s') :
  wpAny (model PySem.Challenge.rw_yj0031_01.row.prog w) (ktrTop dp un gd cn cs L a ccd cl outer) (truthy (.ref ac)) Q E s := by
  refine acc_truthy (acc_at F X N h1 h2) ?_
  refine len_L (dp := dp) (un := un + 1) (A₀ := A₀) (base := base) (ps := ps) (xs := xs) (hi := hi) (kt := kt) (ti := ti) (its := its) (na := na) B F X N T hkf (by omega) (by omega) h1 h2 U hs hax hit hln htr hG0 ?_
  intro t s' ps' F' N' ht hG ho
  have hb := total_le hln
  have hsz := hit.size
  refine ⟨_, _, rfl, hb.1, ?_, ?_⟩
  · have : (xs.length : Int) < 100 := by omega
    have : total xs ≤ 200 * 100 := by omega
    exact Int.lt_of_le_of_lt this (by decide)
  · exact hret t { s' with toks := s'.toks + 1 } ps' F' N' ht hG ho
theorem str_B
  {E : Value → Shared → Prop} {news : List (Addr × Obj)} {gn : Obj → List (Addr × Obj)}
  {ac ax : Addr} {its : Array Value} {na : Nat} {hi : Int} {kt ti : Tok} {ps : Array Value} {xs : List Str} {Q : Value → Shared → Prop}
  (B : Below A₀ base outer h₀) (F : Fr h₀ L s.heap m) (X : (hd.heap_1 w.params).In h₀) (N : News h₀ L s.heap news) (T : Top p loose mean mg mb h₀) (hkf : cs.kind = .function)
  (hdp : dp + 2 < recursionLimit) (hun : un + 24 < cLine)
  (h1 : (ac, accObj ax its na) ∈ news) (h2 : (ax, dictOf [⟨hi, .str "_initial_size" kt, .int 0 ti⟩] 1) ∈ news) (U : UpdF 207 (tabObj ps) news gn) (hs : its.size < 100) (hax : @Ne Nat ac ax) (hit : Items s.heap its xs) (hln : ∀ x ∈ xs, x.length ≤ 200) (htr : TriplesOk ps.toList) (hG0 : AllBare s.gens)
  (hret : ∀ (t : Tok) s' ps', Fr h₀ L s'.heap m → News h₀ L s'.heap (gn (tabObj ps')) → TriplesOk ps'.toList → AllBare s'.gens → s'.os = s.os → Q (.str (Txt.join "" xs) t) s') :
  wpAny (model PySem.Challenge.rw_yj0031_01.row.prog w) (ktrTop dp un gd cn cs L a ccd cl outer) (call (.type "str") [.ref ac]) Q E s := by
  refine acc_str_call (acc_at F X N h1 h2) (by show un + 4 < cLine; omega) ?_
  refine str_L (dp := dp) (un := un + 1 + 1) (A₀ := A₀) (base := base) (ps := ps) (xs := xs) (hi := hi) (kt := kt) (ti := ti) (its := its) (na := na) B F X N T hkf (by omega) (by omega) h1 h2 U hs hax hit hln htr hG0 ?_
  intro t s' ps' F' N' ht hG ho
  exact ⟨_, _, rfl, hret _ s' ps' F' N' ht hG ho⟩
variable {Q E}
theorem pop_L
  {news : List (Addr × Obj)} {gn : Obj → List (Addr × Obj)}
  {ac ax : Addr} {its : Array Value} {na : Nat} {hi isz : Int} {kt ti : Tok} {v : Value}
  (B : Below A₀ base outer h₀) (F : Fr h₀ L s.heap m) (X : (hd.heap_1 w.params).In h₀) (N : News h₀ L s.heap news) (T : Top p loose mean mg mb h₀) (hkf : cs.kind = .function)
  (hdp : dp + 2 < recursionLimit) (hun : un + 16 < cLine)
  (U : UpdF ac (accObj ax its na) news gn) (h2 : (ax, dictOf [⟨hi, .str "_initial_size" kt, .int isz ti⟩] 1) ∈ news) (hs : its.size < 90) (hax : @Ne Nat ac ax) (hv : its.back? = some v)
  (hret : ∀ n' h' tk', Fr h₀ L h' m → News h₀ L h' (gn (accObj ax its.pop n')) → Q v { s with heap := h', toks := tk' }) :
  wpAny (model PySem.Challenge.rw_yj0031_01.row.prog w) (ktrTop dp un gd cn cs L a ccd cl outer) (call (.ref 198) [.ref ac]) Q E s := by
  have e : its = (its.toList.dropLast ++ [v]).toArray := by
    apply Array.toList_inj.mp
    rw [← Array.getLast?_toList] at hv
    obtain ⟨ys, e⟩ := List.getLast?_eq_some_iff.mp hv
    rw [e]; simp
  have e2 : its.pop = (its.toList.dropLast).toArray := by
    apply Array.toList_inj.mp
    simp
  refine pop_spec w p loose mean mg mb dp un gd cn cs a ccd cl outer A₀ base h₀ L m s Q E ac ax its.toList.dropLast v na hi isz kt ti B F X (news2 N (by rw [← e]; exact updF_mem U) h2) T hkf hdp hun (by simp; omega) hax ?_
  intro n' h' tk' G e1
  obtain ⟨F', N'⟩ := y_call1 F N U G e1
  exact hret n' h' tk' F' (by rw [e2]; exact N')
end
section -- JFor
open PySem.Calls
noncomputable def AllNe1 (a : Nat) : List Nat → Prop
  | [] => True
  | b :: r => YNe a b ∧ AllNe1 a r
noncomputable def AllNe2 : List Nat → Prop
  | [] => True
  | a :: r => AllNe1 a r ∧ AllNe2 r
noncomputable def YStop (P : Prop) : Prop := P
theorem YStop.of {P : Prop} (h : YStop P) : P := h
theorem YStop.to {P : Prop} (h : P) : YStop P := h
structure TE (R : Flow → Shared → Prop) (J : Shared → Prop) (Q : Flow → Shared → Prop) : Prop where
  next : ∀ s, J s → R .next s
  cont : ∀ s, J s → R .cont s
  brk : ∀ s, Q .next s → R .brk s
  ret : ∀ v s, Q (.ret v) s → R (.ret v) s
theorem TE.id {J : Shared → Prop} {Q : Flow → Shared → Prop} : TE (fun f s₃ => match f with
    | .next | .cont => J s₃
    | .brk => Q .next s₃
    | .ret v => Q (.ret v) s₃) J Q := ⟨fun _ h => h, fun _ h => h, fun _ h => h, fun _ _ h => h⟩
section
variable {prog : Program} {w : World} {A : Around} {E : Value → Shared → Prop} {s : Shared} {I : Addr} {fp wr : List Addr} {n : Nat} {P : Nat → Value → Prop} {St : Nat → Heap → Prop} {J : Nat → Shared → Prop} {target iter : PySem.Expr} {body orelse : List Stmt} {pos : Pos} {env : Env} {Q : Flow → Shared → Prop}
theorem y_forLoop (hgo : ∀ v, letOwnedTupleGo target (.ref I) v = pure ()) (W : Walks prog w A I fp wr n P St) (hSt : ∀ k s, J k s → St k s.heap)
    (step : ∀ k s v h' tk', k < n → J k s → P k v → St (k + 1) h' → (∀ b o, b ∉ wr → s.heap.get? b = some o → h'.get? b = some o) →
      wpAny (model prog w) A (assign target env v) (fun _ s₂ => wpAny (model prog w) A (execs body env) (fun f s₃ => match f with
        | .next | .cont => J (k + 1) s₃
        | .brk => Q .next s₃
        | .ret v => Q (.ret v) s₃) (fun _ _ => False) s₂) (fun _ _ => False) { s with heap := h', toks := tk' })
    (done : ∀ s h' tk', J n s → (∀ b o, b ∉ wr → s.heap.get? b = some o → h'.get? b = some o) → wpAny (model prog w) A (execs orelse env) Q (fun _ _ => False) { s with heap := h', toks := tk' })
    (hJ : J 0 s) : codeAny (model prog w) A (.forLoop target (.ref I) body orelse env) (fun r s' => match r with | .ok f => Q f s' | .error e => cameBackBy (model prog w) A env E e s') s := by
  refine codeAny_forLoop (fun k s' => k ≤ n ∧ J (n - k) s') (fun k s' hk => ?_) n ⟨Nat.le_refl _, by rw [Nat.sub_self]; exact hJ⟩ hgo
  obtain ⟨hkn, hj⟩ := hk
  cases k with
  | zero =>
    rw [Nat.sub_zero] at hj
    refine W.done s' _ _ (hSt _ _ hj) fun h' tk' hk' => ?_
    exact wpAny_mono (done s' h' tk' hj hk') (fun f s₃ h => h) fun _ _ z => z.elim
  | succ k =>
    have hlt : n - (k + 1) < n := ar_s6 (by assumption)
    refine W.item (n - (k + 1)) s' _ _ hlt (hSt _ _ hj) fun v h' tk' hP hst' hk' => ?_
    refine wpAny_mono (step _ s' v h' tk' hlt hj hP hst' hk') (fun _ s₂ h₂ => wpAny_mono h₂ (fun f s₃ h₃ => ?_) fun _ _ z => z.elim) fun _ _ z => z.elim
    cases f with
    | next => exact ⟨k, Nat.lt_succ_self k, Nat.le_of_succ_le (by assumption), by rw [ar_s7 (show k + 1 ≤ n by assumption)]; exact h₃⟩
    | cont => exact ⟨k, Nat.lt_succ_self k, Nat.le_of_succ_le (by assumption), by rw [ar_s7 (show k + 1 ≤ n by assumption)]; exact h₃⟩
    | brk => exact h₃
    | ret v => exact h₃
noncomputable def ForPack (prog : Program) (w : World) (A : Around) (env : Env) (target : PySem.Expr) (body orelse : List Stmt) (Q : Flow → Shared → Prop) (it : Value) (s₂ : Shared) : Prop :=
  ∃ I fp wr n, ∃ (P : Nat → Value → Prop) (St : Nat → Heap → Prop) (J : Nat → Shared → Prop), it = .ref I ∧ Walks prog w A I fp wr n P St ∧ (∀ k s, J k s → St k s.heap) ∧
      (∀ k s v h' tk', k < n → J k s → P k v → St (k + 1) h' → (∀ b o, b ∉ wr → s.heap.get? b = some o → h'.get? b = some o) →
        wpAny (model prog w) A (assign target env v) (fun _ s₂ => wpAny (model prog w) A (execs body env) (fun f s₃ => match f with
          | .next | .cont => J (k + 1) s₃
          | .brk => Q .next s₃
          | .ret v => Q (.ret v) s₃) (fun _ _ => False) s₂) (fun _ _ => False) { s with heap := h', toks := tk' }) ∧
      (∀ s h' tk', J n s → (∀ b o, b ∉ wr → s.heap.get? b = some o → h'.get? b = some o) → wpAny (model prog w) A (execs orelse env) Q (fun _ _ => False) { s with heap := h', toks := tk' }) ∧ J 0 s₂
theorem y_for {x : Str} {px : Pos} (h : wpAny (model prog w) A (eval iter env) (fun xv s₁ => wpAny (model prog w) A (pyIter xv) (ForPack prog w A env (.Name x px) body orelse Q) E s₁) E s)
    (hs : ∀ x, foldedSetIterable iter env x = pure x) : wpAny (model prog w) A (exec (.For (.Name x px) iter body orelse pos) env) Q E s := by
  refine wpAny_For (wpAny_mono h (fun xv s₁ h₁ => wpAny_mono h₁ (fun it s₂ h₂ => ?_) fun _ _ z => z) fun _ _ z => z) hs
  obtain ⟨I, fp, wr, n, P, St, J, rfl, W, hSt, step, done, hJ⟩ := h₂
  exact y_forLoop (fun _ => rfl) W hSt step done hJ
theorem y_semi {t4 : Tok} {D : Addr → Obj → Shared → Prop} (hh : A.handled = none)
    (hb : ∀ I o h' tk' u, s.heap.get? I = none → h'.get? I = some o → (∀ b o, s.heap.get? b = some o → h'.get? b = some o) →
      ∀ R : Flow → Shared → Prop, TE R (D I o) Q → wpAny (model prog w) A (assign target env (.str ";" u)) (fun _ s₂ => wpAny (model prog w) A (execs body env) R (fun _ _ => False) s₂) (fun _ _ => False) { s with heap := h', toks := tk' })
    (hD : ∀ I o s', D I o s' → s'.heap.get? I = some o)
    (hd : ∀ I o s' h' tk', s.heap.get? I = none → D I o s' → (∀ b o, b ≠ I → s'.heap.get? b = some o → h'.get? b = some o) → wpAny (model prog w) A (execs orelse env) Q (fun _ _ => False) { s' with heap := h', toks := tk' }) :
    wpAny (model prog w) A (pyIter (.str ";" t4)) (ForPack prog w A env target body orelse Q) E s := by
  refine wpAny_pyIter_strU ?_
  have e0 : s.heap.get? s.heap.objs.size = none := Heap.get?_none_of_le (Nat.le_refl _)
  refine ⟨s.heap.objs.size, [s.heap.objs.size], [s.heap.objs.size], 1, _, _, fun k s' => (k = 0 ∧ s' = { s with heap := s.heap.push { cls := .type (strIterType ";"), data := .fields #[.str ";" t4, .int 0 0] } }) ∨
    (k = 1 ∧ ∃ o, D s.heap.objs.size o s' ∧ o.cls = .type "str_ascii_iterator" ∧ o.data = .fields #[.str ";" t4, .int 1 0]), rfl, Walks.strAscii hh s.heap.objs.size ";" t4, ?_, ?_, ?_, .inl ⟨rfl, rfl⟩⟩
  · rintro k s' (⟨rfl, rfl⟩ | ⟨rfl, o, hD', hc, hdt⟩)
    · exact ⟨_, Heap.get?_push_size _ rfl, by show Value.type (strIterType ";") = _; rw [show strIterType ";" = "str_ascii_iterator" by kernel_rfl], rfl⟩
    · exact ⟨o, hD _ _ _ hD', hc, hdt⟩
  · rintro k s' v h' tk' hk (⟨rfl, rfl⟩ | ⟨rfl, _⟩) hP hst hkeep
    · obtain ⟨c, u, hc, rfl⟩ := hP
      obtain ⟨o, ho, hoc, hod⟩ := hst
      have hc' : c = 59 := by
        have : ((";" : Str).cps[0]? : Option Nat) = some 59 := by decide
        rw [this] at hc; exact (Option.some.inj hc).symm
      subst hc'
      refine wpAny_mono (hb s.heap.objs.size o h' tk' u e0 ho (fun b o e => hkeep b o (fun hm => by rw [List.mem_singleton.mp hm, e0] at e; cases e) (Heap.get?_push_of_some _ e)) _ TE.id) (fun _ s₂ h₂ => wpAny_mono h₂ (fun f s₃ h₃ => ?_) fun _ _ z => z) fun _ _ z => z
      cases f with
      | next => exact .inr ⟨rfl, o, h₃, hoc, hod⟩
      | cont => exact .inr ⟨rfl, o, h₃, hoc, hod⟩
      | brk => exact h₃
      | ret v => exact h₃
    · exact absurd hk (by decide)
  · rintro s' h' tk' (⟨h, _⟩ | ⟨_, o, hD', _, _⟩) hkeep
    · exact absurd h (by decide)
    · exact hd _ o s' h' tk' e0 hD' fun b o hb e => hkeep b o (fun hm => hb (List.mem_singleton.mp hm)) e
theorem y_down {N : Nat} {r : Addr} {t u v : Tok} {J : Addr → Nat → Shared → Prop} (hh : A.handled = none) (hN : N ≤ 1000) (hr : IsRange s.heap r (N : Int) 0 (-1) t u v)
    (hJ0 : ∀ I h', s.heap.get? I = none → (∀ b o, s.heap.get? b = some o → h'.get? b = some o) → IsRangeIter h' I (N : Int) (N : Int) (-1) → J I 0 { s with heap := h' })
    (hJ : ∀ I k s', J I k s' → k ≤ N → IsRangeIter s'.heap I ((N : Int) - k) ((N : Int) - k) (-1))
    (step : ∀ I k s' h' tk' tk, s.heap.get? I = none → k < N → J I k s' → IsRangeIter h' I ((N : Int) - (k + 1 : Nat)) ((N : Int) - (k + 1 : Nat)) (-1) → (∀ b o, b ≠ I → s'.heap.get? b = some o → h'.get? b = some o) →
      ∀ R : Flow → Shared → Prop, TE R (J I (k + 1)) Q → wpAny (model prog w) A (assign target env (.int ((N : Int) - k) tk)) (fun _ s₂ => wpAny (model prog w) A (execs body env) R (fun _ _ => False) s₂) (fun _ _ => False) { s' with heap := h', toks := tk' })
    (done : ∀ I s' h' tk', s.heap.get? I = none → J I N s' → (∀ b o, b ≠ I → s'.heap.get? b = some o → h'.get? b = some o) → wpAny (model prog w) A (execs orelse env) Q (fun _ _ => False) { s' with heap := h', toks := tk' }) :
    wpAny (model prog w) A (pyIter (.ref r)) (ForPack prog w A env target body orelse Q) E s := by
  have hsz : Builtin.Range.rangeSize (N : Int) 0 (-1) = (N : Int) := by
    unfold Builtin.Range.rangeSize
    rw [if_neg (by decide), show (-(-1 : Int)) = 1 from rfl, Int.ediv_one]
    split <;> omega
  have hsm : Builtin.Range.small (N : Int) 0 (-1) = true := by
    unfold Builtin.Range.small
    rw [hsz, if_neg (by decide)]
    unfold Builtin.Range.rangeFitsLong
    have h1 : (N : Int) ≤ 1000 := by omega
    have h0 : (0 : Int) ≤ N := by omega
    have a1 : decide (-(2 ^ 63) ≤ (N : Int)) = true := decide_eq_true (Int.le_trans (by decide) h0)
    have a2 : decide ((N : Int) < 2 ^ 63) = true := decide_eq_true (Int.lt_of_le_of_lt h1 (by decide))
    rw [a1, a2]
    simp
  refine wpAny_pyIter_range hr hsm ?_
  have e0 : s.heap.get? s.heap.objs.size = none := Heap.get?_none_of_le (Nat.le_refl _)
  refine ⟨s.heap.objs.size, [s.heap.objs.size], [s.heap.objs.size], N, _, _, fun k s' => k ≤ N ∧ J s.heap.objs.size k s', rfl, Walks.range hh s.heap.objs.size (N : Int) (-1) N, ?_, ?_, ?_, Nat.zero_le _, ?_⟩
  · rintro k s' ⟨hk, hj⟩
    have := hJ _ k s' hj hk
    rw [show (N : Int) + (k : Nat) * (-1) = (N : Int) - k by omega]
    exact this
  · rintro k s' v h' tk' hk ⟨_, hj⟩ ⟨t, rfl⟩ hst hkeep
    rw [show (N : Int) + ((k + 1 : Nat) : Int) * (-1) = (N : Int) - (k + 1 : Nat) by omega] at hst
    rw [show (N : Int) + (k : Nat) * (-1) = (N : Int) - k by omega]
    refine wpAny_mono (step _ k s' h' tk' t e0 hk hj hst (fun b o hb e => hkeep b o (fun hm => hb (List.mem_singleton.mp hm)) e) _ TE.id) (fun _ s₂ h₂ => wpAny_mono h₂ (fun f s₃ h₃ => ?_) fun _ _ z => z) fun _ _ z => z
    cases f with
    | next => exact ⟨hk, h₃⟩
    | cont => exact ⟨hk, h₃⟩
    | brk => exact h₃
    | ret v => exact h₃
  · rintro s' h' tk' ⟨_, hj⟩ hkeep
    exact done _ s' h' tk' e0 hj fun b o hb e => hkeep b o (fun hm => hb (List.mem_singleton.mp hm)) e
  · refine hJ0 _ _ e0 (fun b o e => Heap.get?_push_of_some _ e) ?_
    rw [hsz]
    exact Heap.get?_push_size _ rfl
end
theorem y_iter_step {h₀ hc h8 h' : Heap} {L I : Addr} {m7 m8 : Str → Option Value} {led : List (Addr × Obj)} {oI : Obj} (F7 : Fr h₀ L hc m7) (N7 : News h₀ L hc led) (eI : hc.get? I = none) (F8 : Fr h₀ L h8 m8) (N8 : News h₀ L h8 led)
    (hk : ∀ b o, b ≠ I → h8.get? b = some o → h'.get? b = some o) (hI : h'.get? I = some oI) : Fr h₀ L h' m8 ∧ News h₀ L h' ((I, oI) :: led) := by
  have hIL : I ≠ L := fun q => by
    obtain ⟨o2, _, _, e2, _⟩ := F7.ns
    rw [q] at eI; rw [eI] at e2; cases e2
  have hI0 : h₀.get? I = none := by
    cases e3 : h₀.get? I with
    | none => rfl
    | some o3 => rw [F7.keep _ _ e3] at eI; cases eI
  refine ⟨⟨F8.ns.at fun o e => hk _ o (fun q => hIL q.symm) e, fun b o e => hk b o (fun q => by rw [q, hI0] at e; cases e) (F8.keep b o e), F8.above⟩, fun p hp => ?_⟩
  rcases List.mem_cons.mp hp with rfl | hp
  · exact ⟨hI, hIL, hI0⟩
  · refine ⟨hk _ _ (fun q => ?_) (N8 p hp).1, (N8 p hp).2⟩
    have := (N7 p hp).1
    rw [q, eI] at this; cases this
section
variable {prog : Program} {w : World} {A : Around} {E : Value → Shared → Prop} {s : Shared} {g : Heap} {L T : Addr} {m : Str → Option Value} {value slice : PySem.Expr} {u t : Tok} {Q : Value → Shared → Prop}
theorem tup1_B {a b : Value} (F : Fr g L s.heap m) (hT : g.get? T = some (tupObj #[a, b])) (h : Q b s)
    (hs : subscripted slice false (.ref T) (.int 1 u) = operate [.ref T, .int 1 u] (getItem (.ref T) (.int 1 u))) : wpAny (model prog w) A (subscriptTail value slice (.ref T) (.int 1 u)) Q E s :=
  item_tupleT (l := [a, b]) (j := 1) ⟨_, F.keep _ _ hT, rfl, _, rfl⟩ (by decide) (by decide) rfl rfl h hs
end
theorem YUp.to {m : Str → Option Value} {x y : Str} {v w : Option Value} (h : m x = v) (hd : decide (x = y) = false := by decide) : (if x = y then w else m x) = v := by rw [if_neg (of_decide_eq_false hd)]; exact h
theorem news_head {h₀ h : Heap} {L l : Addr} {o : Obj} {r : List (Addr × Obj)} (N : News h₀ L h ((l, o) :: r)) : ∃ rl : Addr, rl = l := ⟨l, rfl⟩
theorem take_len {xs : List Str} {i n : Nat} (h : ∀ y ∈ xs, y.length ≤ n) : ∀ y ∈ xs.take i, y.length ≤ n := fun y hy => h y (List.mem_of_mem_take hy)
theorem ext_size {its : Array Value} {i n : Nat} (h : its.size < n) : (its.extract 0 i).size < n := by
  rw [Array.size_extract]
  exact ar_s9 h
theorem push_size {its : Array Value} {v : Value} (h : its.size < 80) : (its.push v).size < 100 := by
  rw [Array.size_push]
  omega
theorem newsfun {h₀ h : Heap} {L : Addr} {led : List (Addr × Obj)} (N : News h₀ L h led) : ∃ NW : Heap → Prop, NW h ∧ ∀ h', NW h' ↔ News h₀ L h' led := ⟨fun h' => News h₀ L h' led, N, fun _ => Iff.rfl⟩
noncomputable def endsSemi (y : Str) : Bool := (y.length != 0) && (Txt.item y (-1) == ";")
noncomputable def brk (ys : List Str) : Nat → Option Nat
  | 0 => none
  | i + 1 => if endsSemi (ys.getD i "") = true then some (i + 1) else brk ys i
noncomputable def chunkF (wd : Nat) (st : List Str × List Str) (x : Str) : List Str × List Str :=
  if total (st.2 ++ [x]) > wd then
    match brk st.2 st.2.length with
    | some i => (st.1 ++ [Txt.join "" ((st.2 ++ [x]).take i)], (st.2 ++ [x]).drop i)
    | none => (st.1, st.2 ++ [x])
  else (st.1, st.2 ++ [x])
theorem brk_yes {xs : List Str} {n k : Nat} (hk : k < n) (hb : brk xs n = brk xs (n - k)) (h1 : (((xs.getD (n - k - 1) "").length : Int)) ≠ 0) (h2 : (Txt.item (xs.getD (n - k - 1) "") (-1) == (";" : Str)) = true) : brk xs n = some (n - k) := by
  rw [hb]
  obtain ⟨j, hj⟩ : ∃ j, n - k = j + 1 := ⟨n - k - 1, ar_s1 hk⟩
  rw [hj] at h1 h2 ⊢
  rw [Nat.add_sub_cancel] at h1 h2
  unfold brk
  rw [if_pos]
  unfold endsSemi
  rw [h2, Bool.and_true]
  simp only [bne_iff_ne, ne_eq]
  exact fun z => h1 (by rw [z]; rfl)
theorem brk_no {xs : List Str} {n k : Nat} (hk : k < n) (hb : brk xs n = brk xs (n - k)) (h : (((xs.getD (n - k - 1) "").length : Int)) = 0 ∨ (Txt.item (xs.getD (n - k - 1) "") (-1) == (";" : Str)) = false) : brk xs n = brk xs (n - (k + 1)) := by
  rw [hb]
  obtain ⟨j, hj⟩ : ∃ j, n - k = j + 1 := ⟨n - k - 1, ar_s1 hk⟩
  rw [show n - (k + 1) = j from ar_s8 hj]
  rw [hj] at h ⊢
  rw [Nat.add_sub_cancel] at h
  conv => lhs; unfold brk
  rw [if_neg]
  unfold endsSemi
  rcases h with h | h
  · have : (xs.getD j "").length = 0 := Int.ofNat.inj h
    rw [this]; simp
  · rw [h, Bool.and_false]; decide
end
section -- JInts
open PySem.Calls
section
variable {prog : Program} {w : World} {A : Around} {E : Value → Shared → Prop} {s : Shared} {h₀ : Heap} {L wl : Addr} {m : Str → Option Value} {news : List (Addr × Obj)} {wvs : Array Value} {wn : Nat} {ws : List Int} {value slice : PySem.Expr} {k : Int} {u t : Tok} {Q : Value → Shared → Prop}
theorem item_intsB (N : News h₀ L s.heap news) (hm : (wl, listOf wvs wn) ∈ news) (hI : IntsAre wvs.toList ws) (h0 : 0 ≤ k) (h1 : k < (ws.length : Int)) (hw : ws.length ≤ 100) (h : ∀ t, Q (.int (ws.getD k.toNat 0) t) s)
    (hs : subscripted slice false (.ref wl) (.int k u) = operate [.ref wl, .int k u] (getItem (.ref wl) (.int k u))) : wpAny (model prog w) A (subscriptTail value slice (.ref wl) (.int k u)) Q E s := by
  have hl : s.heap.IsList wl wvs := ⟨_, (N _ hm).1, rfl, wn, rfl⟩
  have hlt : k.toNat < ws.length := by omega
  obtain ⟨t, ht⟩ := hI.get k.toNat (ws.getD k.toNat 0) (by rw [List.getD_eq_getElem?_getD, List.getElem?_eq_getElem hlt]; rfl)
  refine tail_any hl.typeIs slot_list_getitem.lookup (wpAny_getItem_list hl h0 ?_ (by rw [← Array.getElem?_toList]; exact ht) (h t)) hs
  have : k < 100 := by omega
  exact Int.lt_trans this (by decide)
theorem getD_rng {ws : List Int} {a b : Int} {i : Nat} (h : ∀ x ∈ ws, a ≤ x ∧ x ≤ b) (hi : i < ws.length) : a ≤ ws.getD i 0 ∧ ws.getD i 0 ≤ b := by
  rw [List.getD_eq_getElem?_getD, List.getElem?_eq_getElem hi]; exact h _ (List.getElem_mem hi)
theorem mulOk7 {x : Str} {n : Int} (hx : x.length = 1) (h1 : 1 ≤ n) (h2 : n ≤ 100) : MulOk x n := by
  refine ⟨?_, fun _ _ => ?_, fun _ _ => ?_⟩
  · have a : ¬ n < -(2 ^ 63 : Int) := fun h => by have := Int.lt_trans h (show -(2 ^ 63 : Int) < 0 by decide); omega
    have b : ¬ n ≥ (2 ^ 63 : Int) := fun h => by have := Int.le_trans (show (100 : Int) < 2 ^ 63 by decide) h; omega
    simp only [decide_eq_false a, decide_eq_false b]; rfl
  · rw [hx]
    intro hh
    have : (1 : Int) ≤ (2 ^ 63 - 1) / n := by
      rw [Int.le_ediv_iff_mul_le (by omega)]
      exact Int.le_trans (by omega) (show (100 : Int) ≤ 2 ^ 63 - 1 by decide)
    have h3 : ((1 : Nat) : Int) > (2 ^ 63 - 1) / n := hh
    omega
  · rw [hx]
    unfold Builtin.Str.tooLong
    rw [line_is]
    exact decide_eq_false (by omega)
end
section
variable {prog : Program} {w : World} {A : Around} {E : Value → Shared → Prop} {s : Shared} {target : PySem.Expr} {body orelse : List Stmt} {env : Env} {Q : Flow → Shared → Prop}
theorem y_list {items : Array Value} {l : Addr} {J : Addr → Nat → Shared → Prop} (hh : A.handled = none) (hl : s.heap.IsList l items)
    (hJ0 : ∀ I h', s.heap.get? I = none → (∀ b o, s.heap.get? b = some o → h'.get? b = some o) → h'.IsListIter I l 0 → J I 0 { s with heap := h' })
    (hJ : ∀ I k s', J I k s' → s'.heap.IsListIter I l k ∧ s'.heap.IsList l items)
    (step : ∀ I k s' v h' tk', s.heap.get? I = none → k < items.size → items[k]? = some v → J I k s' → h'.IsListIter I l (k + 1) → (∀ b o, b ≠ I → s'.heap.get? b = some o → h'.get? b = some o) →
      ∀ R : Flow → Shared → Prop, TE R (J I (k + 1)) Q → wpAny (model prog w) A (assign target env v) (fun _ s₂ => wpAny (model prog w) A (execs body env) R (fun _ _ => False) s₂) (fun _ _ => False) { s' with heap := h', toks := tk' })
    (done : ∀ I s' h' tk', s.heap.get? I = none → J I items.size s' → (∀ b o, b ≠ I → s'.heap.get? b = some o → h'.get? b = some o) → wpAny (model prog w) A (execs orelse env) Q (fun _ _ => False) { s' with heap := h', toks := tk' }) :
    wpAny (model prog w) A (pyIter (.ref l)) (ForPack prog w A env target body orelse Q) E s := by
  refine wpAny_pyIter_list hl ?_
  have e0 : s.heap.get? s.heap.objs.size = none := Heap.get?_none_of_le (Nat.le_refl _)
  have hne : l ≠ s.heap.objs.size := fun q => by obtain ⟨o, e, _⟩ := hl; rw [q, e0] at e; cases e
  refine ⟨s.heap.objs.size, [s.heap.objs.size, l], [s.heap.objs.size], items.size, _, _, fun k s' => J s.heap.objs.size k s', rfl, Walks.list hh s.heap.objs.size l hne items, fun k s' hj => hJ _ k s' hj, ?_, ?_, ?_⟩
  · rintro k s' v h' tk' hk hj hP hst hkeep
    exact step _ k s' v h' tk' e0 hk hP hj hst.1 (fun b o hb e => hkeep b o (fun hm => hb (List.mem_singleton.mp hm)) e) _ TE.id
  · rintro s' h' tk' hj hkeep
    exact done _ s' h' tk' e0 hj fun b o hb e => hkeep b o (fun hm => hb (List.mem_singleton.mp hm)) e
  · exact hJ0 _ _ e0 (fun b o e => Heap.get?_push_of_some _ e) ⟨_, Heap.get?_push_size _ rfl, rfl, rfl⟩
end
section
variable {prog : Program} {w : World} {A : Around} {E : Value → Shared → Prop} {s : Shared} {h₀ : Heap} {L l : Addr} {m : Str → Option Value} {news : List (Addr × Obj)} {gn : Obj → List (Addr × Obj)} {its : Array Value} {n : Nat} {u t : Tok} {v x : Value} {value slice : PySem.Expr} {pre : List Str} {r : Str}
theorem y_setLast_at {Q : Unit → Shared → Prop} (hx : s.heap.get? l = some (listOf its n)) (hne : 0 < its.size)
    (h : ∀ h', Heap.SameBut l s.heap h' → h'.get? l = some (listOf (its.setIfInBounds (its.size - 1) v) n) → Q () { s with heap := h' }) : wpAny (model prog w) A (setItem (.ref l) (.int (-1) t) v) Q E s := by
  have hl : s.heap.IsList l its := ⟨_, hx, rfl, n, rfl⟩
  unfold setItem
  try with_reducible refine wpAny_holding ?_
  first | refine wpAny_bind (wpAny_pure ?_) | skip
  refine wpAny_bind (wpAny_sequenceKey hl.typeIs (by decide) ?_)
  refine wpAny_bind (wpAny_callSpecial?_slot (name := Str.ofString "__setitem__") hl.typeIs slot_list_setitem
    (wpAny_call_entry slot_list_setitem hl.typeIs entry_list_setitem ?_ (args_list_setitem _ _ _)))
  show wpAny _ _ (Builtin.List.listSubscript? (.int (-1) t) >>= _) _ _ s
  refine wpAny_bind (wpAny_listSubscript_int (fitsIndex_neg (by decide) (by decide)) ?_)
  show wpAny _ _ ((Builtin.List.listItems (.ref l) >>= fun xs => pure ((seqIndex? (Int.negSucc 0) xs.size).bind fun i => xs[i]?.map (i, ·))) >>= _) _ _ s
  refine wpAny_bind (wpAny_bind ?_)
  show wpAny _ _ (seqItems? (.ref l) >>= _) _ _ s
  refine wpAny_bind (wpAny_seqItems hx rfl (wpAny_pure (wpAny_pure ?_)))
  have hidx : seqIndex? (Int.negSucc 0) its.size = some (its.size - 1) := by
    rw [seqIndex_neg (by decide) (by omega)]
    exact congrArg some (ar_p3 (by assumption))
  dsimp only [Option.getD]
  rw [hidx]
  have hlt : its.size - 1 < its.size := by omega
  simp only [Option.bind_some, Array.getElem?_eq_getElem hlt, Option.map_some]
  show wpAny _ _ (setSeqItemAt l (its.size - 1) v >>= _) _ _ s
  have hfin : (s.heap.update l (Obj.mapSeq (·.setIfInBounds (its.size - 1) v))).get? l = some (listOf (its.setIfInBounds (its.size - 1) v) n) := by
    have e : Obj.mapSeq (·.setIfInBounds (its.size - 1) v) (listOf its n) = listOf (its.setIfInBounds (its.size - 1) v) n := by
      show listOf _ (if ((its.setIfInBounds (its.size - 1) v).size == its.size) = true then n else n + 1) = _
      rw [Array.size_setIfInBounds, if_pos (by simp)]
    rw [Heap.get?_update_self _ hx (by rw [e]; rfl), e]
  refine wpAny_bind (wpAny_setSeqItemAt hx rfl ?_)
  first
    | exact wpAny_bind (wpAny_pure (wpAny_pure ⟨.none, rfl, wpAny_pure (h _ (Heap.SameBut.update ..) hfin)⟩))
    | exact wpAny_pure ⟨.none, rfl, wpAny_pure (h _ (Heap.SameBut.update ..) hfin)⟩
theorem y_setLast {Q : Unit → Shared → Prop} (F : Fr h₀ L s.heap m) (N : News h₀ L s.heap news) (U : UpdF l (listOf its n) news gn) (hne : 0 < its.size)
    (h : ∀ h', Fr h₀ L h' m → News h₀ L h' (gn (listOf (its.setIfInBounds (its.size - 1) v) n)) → Q () { s with heap := h' }) : wpAny (model prog w) A (setItem (.ref l) (.int (-1) t) v) Q E s :=
  y_setLast_at (N _ (updF_mem U)).1 hne fun h' hs ho => let ⟨F', N'⟩ := led_upd F N U hs ho; h h' F' N'
theorem y_appendB {Q : Value → Shared → Prop} (F : Fr h₀ L s.heap m) (N : News h₀ L s.heap news) (U : UpdF l (listOf its n) news gn) (hs : its.size ≤ 1000)
    (h : ∀ h', Fr h₀ L h' m → News h₀ L h' (gn (listOf (its.push v) (n + 1))) → Q .none { s with heap := h' }) : wpAny (model prog w) A (call (.builtin "list.append") [.ref l, v]) Q E s :=
  append_at (hsz := by rw [line_is]; omega) (N _ (updF_mem U)).1 fun h' hs ho => let ⟨F', N'⟩ := led_upd F N U hs ho; h h' F' N'
theorem strs_snoc {vs : List Value} {xs : List Str} {x : Str} {t : Tok} (h : StrsAre vs xs) : StrsAre (vs ++ [.str x t]) (xs ++ [x]) := by
  induction h with
  | nil => exact .cons _ _ .nil
  | cons y u _ ih => exact .cons y u ih
theorem strs_size {vs : List Value} {xs : List Str} (h : StrsAre vs xs) : vs.length = xs.length := by
  induction h with
  | nil => rfl
  | cons y u _ ih => exact congrArg Nat.succ ih
theorem strs_split {vs : List Value} {r : Str} {pre : List Str} (h : StrsAre vs (pre ++ [r])) : ∃ vp t, vs = vp ++ [.str r t] ∧ StrsAre vp pre := by
  induction pre generalizing vs with
  | nil =>
    cases h with
    | cons _ t h => cases h; exact ⟨[], t, rfl, .nil⟩
  | cons p pre ih =>
    cases h with
    | cons _ t h =>
      obtain ⟨vp, t2, e, h2⟩ := ih h
      exact ⟨_ :: vp, t2, congrArg _ e, .cons _ _ h2⟩
theorem y_lastItem {Q : Value → Shared → Prop} (N : News h₀ L s.heap news) (hm : (l, listOf its n) ∈ news) (hS : StrsAre its.toList (pre ++ [r])) (h : ∀ t, Q (.str r t) s)
    (hs : subscripted slice false (.ref l) (.int (-1) u) = operate [.ref l, .int (-1) u] (getItem (.ref l) (.int (-1) u))) : wpAny (model prog w) A (subscriptTail value slice (.ref l) (.int (-1) u)) Q E s := by
  have hl : s.heap.IsList l its := ⟨_, (N _ hm).1, rfl, n, rfl⟩
  obtain ⟨vp, t, e, hp⟩ := strs_split hS
  have hsz : its.size = vp.length + 1 := by rw [← Array.length_toList, e]; simp
  refine tail_any hl.typeIs slot_list_getitem.lookup (wpAny_getItem_list_neg (x := .str r t) hl (by decide) (by omega) (by decide) ?_ (h t)) hs
  rw [show ((-1 : Int) + (its.size : Int)).toNat = vp.length from (ar_p3 (by rw [hsz]; exact Nat.succ_pos _)).trans (by rw [hsz]; rfl), ← Array.getElem?_toList, e]
  simp
theorem y_lastGet {Q : Value → Shared → Prop} (N : News h₀ L s.heap news) (hm : (l, listOf its n) ∈ news) (hS : StrsAre its.toList (pre ++ [r])) (h : ∀ t, Q (.str r t) s) : wpAny (model prog w) A (getItem (.ref l) (.int (-1) u)) Q E s := by
  have hl : s.heap.IsList l its := ⟨_, (N _ hm).1, rfl, n, rfl⟩
  obtain ⟨vp, t, e, hp⟩ := strs_split hS
  have hsz : its.size = vp.length + 1 := by rw [← Array.length_toList, e]; simp
  refine wpAny_getItem_list_neg (x := .str r t) hl (by decide) (by omega) (by decide) ?_ (h t)
  rw [show ((-1 : Int) + (its.size : Int)).toNat = vp.length from (ar_p3 (by rw [hsz]; exact Nat.succ_pos _)).trans (by rw [hsz]; rfl), ← Array.getElem?_toList, e]
  simp
theorem strs_setLast {its : Array Value} {pre : List Str} {r x : Str} {t : Tok} (hS : StrsAre its.toList (pre ++ [r])) : StrsAre (its.setIfInBounds (its.size - 1) (.str x t)).toList (pre ++ [x]) := by
  obtain ⟨vp, u, e, hp⟩ := strs_split hS
  have hsz : its.size = vp.length + 1 := by rw [← Array.length_toList, e]; simp
  have : (its.setIfInBounds (its.size - 1) (.str x t)).toList = vp ++ [.str x t] := by
    rw [Array.toList_setIfInBounds, e, hsz]
    simp
  rw [this]
  exact strs_snoc hp
end
theorem y_iter_step2 {h₀ hc h8 h' : Heap} {L I : Addr} {m7 m8 : Str → Option Value} {led : List (Addr × Obj)} {oI : Obj} (F7 : Fr h₀ L hc m7) (eI : hc.get? I = none) (hap : ∀ p ∈ led, @Ne Nat p.1 I) (F8 : Fr h₀ L h8 m8) (N8 : News h₀ L h8 led)
    (hk : ∀ b o, b ≠ I → h8.get? b = some o → h'.get? b = some o) (hI : h'.get? I = some oI) : Fr h₀ L h' m8 ∧ News h₀ L h' ((I, oI) :: led) := by
  have hIL : I ≠ L := fun q => by
    obtain ⟨o2, _, _, e2, _⟩ := F7.ns
    rw [q] at eI; rw [eI] at e2; cases e2
  have hI0 : h₀.get? I = none := by
    cases e3 : h₀.get? I with
    | none => rfl
    | some o3 => rw [F7.keep _ _ e3] at eI; cases eI
  refine ⟨⟨F8.ns.at fun o e => hk _ o (fun q => hIL q.symm) e, fun b o e => hk b o (fun q => by rw [q, hI0] at e; cases e) (F8.keep b o e), F8.above⟩, fun p hp => ?_⟩
  rcases List.mem_cons.mp hp with rfl | hp
  · exact ⟨hI, hIL, hI0⟩
  · exact ⟨hk _ _ (hap p hp) (N8 p hp).1, (N8 p hp).2⟩
theorem y_iter_end {h₀ hc h8 h' : Heap} {L I : Addr} {m7 m8 : Str → Option Value} {led : List (Addr × Obj)} (F7 : Fr h₀ L hc m7) (eI : hc.get? I = none) (hap : ∀ p ∈ led, @Ne Nat p.1 I) (F8 : Fr h₀ L h8 m8) (N8 : News h₀ L h8 led)
    (hk : ∀ b o, b ≠ I → h8.get? b = some o → h'.get? b = some o) : Fr h₀ L h' m8 ∧ News h₀ L h' led := by
  have hIL : I ≠ L := fun q => by
    obtain ⟨o2, _, _, e2, _⟩ := F7.ns
    rw [q] at eI; rw [eI] at e2; cases e2
  have hI0 : h₀.get? I = none := by
    cases e3 : h₀.get? I with
    | none => rfl
    | some o3 => rw [F7.keep _ _ e3] at eI; cases eI
  exact ⟨⟨F8.ns.at fun o e => hk _ o (fun q => hIL q.symm) e, fun b o e => hk b o (fun q => by rw [q, hI0] at e; cases e) (F8.keep b o e), F8.above⟩, fun p hp => ⟨hk _ _ (hap p hp) (N8 p hp).1, (N8 p hp).2⟩⟩
section
variable {prog : Program} {w : World} {A : Around} {E : Value → Shared → Prop} {s : Shared} {target : PySem.Expr} {body orelse : List Stmt} {env : Env} {Q : Flow → Shared → Prop}
theorem y_up {lo : Int} {N : Nat} {r : Addr} {t u v : Tok} {J : Addr → Nat → Shared → Prop} (hh : A.handled = none) (hN : N ≤ 1000) (hlo : 0 ≤ lo) (hlo2 : lo ≤ 1000) (hr : IsRange s.heap r lo (lo + N) 1 t u v)
    (hJ0 : ∀ I h', s.heap.get? I = none → (∀ b o, s.heap.get? b = some o → h'.get? b = some o) → IsRangeIter h' I lo (N : Int) 1 → J I 0 { s with heap := h' })
    (hJ : ∀ I k s', J I k s' → k ≤ N → IsRangeIter s'.heap I (lo + k) ((N : Int) - k) 1)
    (step : ∀ I k s' h' tk' tk, s.heap.get? I = none → k < N → J I k s' → IsRangeIter h' I (lo + (k + 1 : Nat)) ((N : Int) - (k + 1 : Nat)) 1 → (∀ b o, b ≠ I → s'.heap.get? b = some o → h'.get? b = some o) →
      ∀ R : Flow → Shared → Prop, TE R (J I (k + 1)) Q → wpAny (model prog w) A (assign target env (.int (lo + k) tk)) (fun _ s₂ => wpAny (model prog w) A (execs body env) R (fun _ _ => False) s₂) (fun _ _ => False) { s' with heap := h', toks := tk' })
    (done : ∀ I s' h' tk', s.heap.get? I = none → J I N s' → (∀ b o, b ≠ I → s'.heap.get? b = some o → h'.get? b = some o) → wpAny (model prog w) A (execs orelse env) Q (fun _ _ => False) { s' with heap := h', toks := tk' }) :
    wpAny (model prog w) A (pyIter (.ref r)) (ForPack prog w A env target body orelse Q) E s := by
  have hsz : Builtin.Range.rangeSize lo (lo + N) 1 = (N : Int) := by
    unfold Builtin.Range.rangeSize
    rw [if_pos (by decide), Int.ediv_one]
    split <;> omega
  have hsm : Builtin.Range.small lo (lo + N) 1 = true := by
    unfold Builtin.Range.small
    rw [hsz, if_pos (by decide)]
    unfold Builtin.Range.rangeFitsLong
    have f : ∀ x : Int, 0 ≤ x → x ≤ 2000 → (decide (-(2 ^ 63) ≤ x) && decide (x < 2 ^ 63)) = true := fun x h0 h1 => by
      rw [decide_eq_true (Int.le_trans (show -(2 ^ 63 : Int) ≤ 0 by decide) h0), decide_eq_true (Int.lt_of_le_of_lt h1 (by decide))]; rfl
    rw [f lo hlo (by omega), f (lo + N) (by omega) (by omega), f N (by omega) (by omega), f (lo + N + (1 - 1)) (by omega) (by omega), f 1 (by decide) (by decide)]
    simp
  refine wpAny_pyIter_range hr hsm ?_
  have e0 : s.heap.get? s.heap.objs.size = none := Heap.get?_none_of_le (Nat.le_refl _)
  refine ⟨s.heap.objs.size, [s.heap.objs.size], [s.heap.objs.size], N, _, _, fun k s' => k ≤ N ∧ J s.heap.objs.size k s', rfl, Walks.range hh s.heap.objs.size lo 1 N, ?_, ?_, ?_, Nat.zero_le _, ?_⟩
  · rintro k s' ⟨hk, hj⟩
    have := hJ _ k s' hj hk
    rw [show lo + (k : Nat) * (1 : Int) = lo + k by omega]
    exact this
  · rintro k s' v h' tk' hk ⟨_, hj⟩ ⟨t, rfl⟩ hst hkeep
    rw [show lo + ((k + 1 : Nat) : Int) * 1 = lo + (k + 1 : Nat) by omega] at hst
    rw [show lo + (k : Nat) * (1 : Int) = lo + k by omega]
    refine wpAny_mono (step _ k s' h' tk' t e0 hk hj hst (fun b o hb e => hkeep b o (fun hm => hb (List.mem_singleton.mp hm)) e) _ TE.id) (fun _ s₂ h₂ => wpAny_mono h₂ (fun f s₃ h₃ => ?_) fun _ _ z => z) fun _ _ z => z
    cases f with
    | next => exact ⟨hk, h₃⟩
    | cont => exact ⟨hk, h₃⟩
    | brk => exact h₃
    | ret v => exact h₃
  · rintro s' h' tk' ⟨_, hj⟩ hkeep
    exact done _ s' h' tk' e0 hj fun b o hb e => hkeep b o (fun hm => hb (List.mem_singleton.mp hm)) e
  · refine hJ0 _ _ e0 (fun b o e => Heap.get?_push_of_some _ e) ?_
    rw [hsz]
    exact Heap.get?_push_size _ rfl
end
theorem len_B2 {prog : Program} {w : World} {A : Around} {E : Value → Shared → Prop} {s : Shared} {g : Heap} {L l : Addr} {m : Str → Option Value} {vs : Array Value} {Q : Value → Shared → Prop} (F : Fr g L s.heap m) (hl : g.IsList l vs) (hs : vs.size ≤ 1000)
    (h : ∀ t tk, Q (.int (vs.size : Int) t) { s with toks := tk }) : wpAny (model prog w) A (call (.builtin "len") [.ref l]) Q E s :=
  Calls.call_len_list (let ⟨o, e, r⟩ := hl; ⟨o, F.keep _ _ e, r⟩) (Int.lt_of_le_of_lt (show (vs.size : Int) ≤ 1000 by omega) (by decide)) (h _ _)
section
variable {prog : Program} {w : World} {A : Around} {E : Value → Shared → Prop} {s : Shared} {h₀ : Heap} {L l : Addr} {m : Str → Option Value} {news : List (Addr × Obj)} {gn : Obj → List (Addr × Obj)} {its : Array Value} {n : Nat} {u t : Tok} {v : Value} {k : Int} {ws : List Int}
theorem y_getInt {Q : Value → Shared → Prop} (N : News h₀ L s.heap news) (hm : (l, listOf its n) ∈ news) (hI : IntsAre its.toList ws) (h0 : 0 ≤ k) (h1 : k < (ws.length : Int)) (hw : ws.length ≤ 5000) (h : ∀ t, Q (.int (ws.getD k.toNat 0) t) s) :
    wpAny (model prog w) A (getItem (.ref l) (.int k u)) Q E s := by
  have hl : s.heap.IsList l its := ⟨_, (N _ hm).1, rfl, n, rfl⟩
  have hlt : k.toNat < ws.length := by omega
  obtain ⟨t, ht⟩ := hI.get k.toNat (ws.getD k.toNat 0) (by rw [List.getD_eq_getElem?_getD, List.getElem?_eq_getElem hlt]; rfl)
  exact wpAny_getItem_list hl h0 (Int.lt_trans (show k < 5000 by omega) (by decide)) (by rw [← Array.getElem?_toList]; exact ht) (h t)
theorem y_setInt_at {Q : Unit → Shared → Prop} (hx : s.heap.get? l = some (listOf its n)) (h0 : 0 ≤ k) (h1 : k < (its.size : Int)) (h2 : its.size ≤ 5000)
    (h : ∀ h', Heap.SameBut l s.heap h' → h'.get? l = some (listOf (its.setIfInBounds k.toNat v) n) → Q () { s with heap := h' }) : wpAny (model prog w) A (setItem (.ref l) (.int k t) v) Q E s := by
  have hl : s.heap.IsList l its := ⟨_, hx, rfl, n, rfl⟩
  have hfit : k < 2 ^ 63 := Int.lt_trans (show k < 5000 by omega) (by decide)
  unfold setItem
  try with_reducible refine wpAny_holding ?_
  first | refine wpAny_bind (wpAny_pure ?_) | skip
  refine wpAny_bind (wpAny_sequenceKey hl.typeIs (by decide) ?_)
  refine wpAny_bind (wpAny_callSpecial?_slot (name := Str.ofString "__setitem__") hl.typeIs slot_list_setitem
    (wpAny_call_entry slot_list_setitem hl.typeIs entry_list_setitem ?_ (args_list_setitem _ _ _)))
  show wpAny _ _ (Builtin.List.listSubscript? (.int k t) >>= _) _ _ s
  refine wpAny_bind (wpAny_listSubscript_int (fitsIndex_of h0 hfit) ?_)
  clear hfit
  obtain ⟨j, rfl⟩ := Int.eq_ofNat_of_zero_le h0
  have hj : j < its.size := by omega
  have hx' : its[j]? = some its[j] := Array.getElem?_eq_getElem hj
  show wpAny _ _ ((seqItemAt l j >>= fun r => pure (r.map (j, ·))) >>= _) _ _ s
  refine wpAny_bind (wpAny_bind (wpAny_seqItemAt hx rfl (wpAny_pure ?_)))
  rw [hx']
  show wpAny _ _ (setSeqItemAt l j v >>= _) _ _ s
  have hfin : (s.heap.update l (Obj.mapSeq (·.setIfInBounds j v))).get? l = some (listOf (its.setIfInBounds j v) n) := by
    have e : Obj.mapSeq (·.setIfInBounds j v) (listOf its n) = listOf (its.setIfInBounds j v) n := by
      show listOf _ (if ((its.setIfInBounds j v).size == its.size) = true then n else n + 1) = _
      rw [Array.size_setIfInBounds, if_pos (by simp)]
    rw [Heap.get?_update_self _ hx (by rw [e]; rfl), e]
  refine wpAny_bind (wpAny_setSeqItemAt hx rfl ?_)
  first
    | exact wpAny_bind (wpAny_pure (wpAny_pure ⟨.none, rfl, wpAny_pure (h _ (Heap.SameBut.update ..) hfin)⟩))
    | exact wpAny_pure ⟨.none, rfl, wpAny_pure (h _ (Heap.SameBut.update ..) hfin)⟩
theorem y_setInt {Q : Unit → Shared → Prop} (F : Fr h₀ L s.heap m) (N : News h₀ L s.heap news) (U : UpdF l (listOf its n) news gn) (h0 : 0 ≤ k) (h1 : k < (its.size : Int)) (h2 : its.size ≤ 5000)
    (h : ∀ h', Fr h₀ L h' m → News h₀ L h' (gn (listOf (its.setIfInBounds k.toNat v) n)) → Q () { s with heap := h' }) : wpAny (model prog w) A (setItem (.ref l) (.int k t) v) Q E s :=
  y_setInt_at (N _ (updF_mem U)).1 h0 h1 h2 fun h' hs ho => let ⟨F', N'⟩ := led_upd F N U hs ho; h h' F' N'
theorem ints_set {vs : List Value} {ws : List Int} (j : Nat) (x : Int) (t : Tok) (h : IntsAre vs ws) : IntsAre (vs.set j (.int x t)) (ws.set j x) := by
  induction h generalizing j with
  | nil => exact .nil
  | cons y u h ih =>
    cases j with
    | zero => exact .cons x t h
    | succ j => exact .cons y u (ih j)
end
end
section -- JMore
open PySem.Calls
theorem y_iter_done {h₀ hc h8 h' : Heap} {L I : Addr} {m7 m8 : Str → Option Value} {led : List (Addr × Obj)} (F7 : Fr h₀ L hc m7) (N7 : News h₀ L hc led) (eI : hc.get? I = none) (F8 : Fr h₀ L h8 m8) (N8 : News h₀ L h8 led)
    (hk : ∀ b o, b ≠ I → h8.get? b = some o → h'.get? b = some o) : Fr h₀ L h' m8 ∧ News h₀ L h' led :=
  y_iter_end F7 eI (fun p hp q => by have := (N7 p hp).1; rw [q, eI] at this; cases this) F8 N8 hk
theorem push_sub {a : Array Value} {t v : Value} (h : v ∈ (a.push t).toList) : v ∈ a.toList ∨ v = t := by
  rw [Array.toList_push] at h
  rcases List.mem_append.mp h with h | h
  · exact .inl h
  · exact .inr (List.mem_singleton.mp h)
theorem ext_sub {a : Array Value} {i j : Nat} {v : Value} (h : v ∈ (a.extract i j).toList) : v ∈ a.toList := by
  rw [Array.toList_extract] at h
  exact List.mem_of_mem_drop (List.mem_of_mem_take h)
theorem YNe.sym {a b : Nat} (h : YNe b a) : YNe a b := fun e => h e.symm
theorem Items.last {h : Heap} {its : Array Value} {xs : List Str} {x : Str} (I : Items h its (xs ++ [x])) : ∃ T u v, its.back? = some (.ref T) ∧ h.get? T = some (tupObj #[.str "" u, .str x v]) := by
  obtain ⟨Ts, U, V, hs, k⟩ := I
  have hz : its.size = xs.length + 1 := by rw [hs]; simp
  obtain ⟨k1, k2⟩ := k xs.length (by omega)
  refine ⟨Ts xs.length, U xs.length, V xs.length, ?_, ?_⟩
  · unfold Array.back?
    rw [hz, Nat.add_sub_cancel]; exact k1
  · rw [k2]; simp
theorem Items.pop {h : Heap} {its : Array Value} {xs : List Str} {x : Str} (I : Items h its (xs ++ [x])) : Items h its.pop xs := by
  have hz : its.size = xs.length + 1 := by rw [I.size]; simp
  have := I.take xs.length
  have e : its.extract 0 xs.length = its.pop := by
    apply Array.ext_getElem?
    intro i
    rw [Array.getElem?_extract, Array.getElem?_pop]
    have hm : min xs.length its.size - 0 = its.size - 1 := by omega
    rw [hm, Nat.zero_add]
  rw [e] at this
  simpa using this
end
section -- JNdT
theorem allNe_lt {t : Addr} {l : List (Addr × Obj)} (h : ∀ p ∈ l, p.1 < t) : AllNe t l := allNe_of fun p hp => Nat.ne_of_lt (h p hp)
theorem allNe_mem {t : Addr} {l : List (Addr × Obj)} (h : AllNe t l) : ∀ p ∈ l, @Ne Nat p.1 t := by
  induction l with
  | nil => intro p hp; cases hp
  | cons q r ih =>
    intro p hp
    rcases List.mem_cons.mp hp with rfl | hp
    · exact h.1
    · exact ih h.2 p hp
noncomputable def NdT (as tl : List Nat) : Prop := as.Nodup ∧ ∀ a ∈ as, a ∉ tl
section
variable {news led TL : List (Addr × Obj)} {as tl : List Nat} {x l a b : Nat} {o : Obj}
theorem nd_new (h : a ∉ as ++ tl) (D : NdT as tl) : NdT (a :: as) tl := by
  refine ⟨List.nodup_cons.mpr ⟨fun z => h (List.mem_append_left _ z), D.1⟩, fun c hc => ?_⟩
  rcases List.mem_cons.mp hc with rfl | hc
  · exact fun z => h (List.mem_append_right _ z)
  · exact D.2 c hc
theorem nd_lt (h : ∀ p ∈ news, p.1 < l) (D : NdT as tl) (e : news.map (·.1) = as ++ tl) : NdT (l :: as) tl :=
  nd_new (fun z => by
    rw [← e] at z
    obtain ⟨p, hp, q⟩ := List.mem_map.mp z
    exact Nat.lt_irrefl _ (q ▸ h p hp)) D
theorem nd_ap (h : ∀ p ∈ news, @Ne Nat p.1 l) (D : NdT as tl) (e : news.map (·.1) = as ++ tl) : NdT (l :: as) tl :=
  nd_new (fun z => by
    rw [← e] at z
    obtain ⟨p, hp, q⟩ := List.mem_map.mp z
    exact h p hp q) D
theorem nd_al (h : AllNe l news) (D : NdT as tl) (e : news.map (·.1) = as ++ tl) : NdT (l :: as) tl := nd_ap (allNe_mem h) D e
theorem upd_cons {p : Addr × Obj} {r : List (Addr × Obj)} {i : Nat} (hp : p.1 ≠ x) (U : UpdF x o r (fun o' => r.set i (x, o'))) : UpdF x o (p :: r) (fun o' => (p :: r).set (i + 1) (x, o')) := .tail hp U
theorem upd_at : ∀ {news : List (Addr × Obj)} (i : Nat), (news.map (·.1)).Nodup ∨ True → (∀ j, j ≠ i → (news.map (·.1))[j]? ≠ some x) → news[i]? = some (x, o) → UpdF x o news (fun o' => news.set i (x, o'))
  | [], i, _, _, h => by simp at h
  | p :: r, 0, _, hne, h => by
    have : p = (x, o) := by simpa using h
    subst this
    refine .head fun q hq e => ?_
    obtain ⟨j, hj⟩ := List.mem_iff_getElem?.mp hq
    exact hne (j + 1) (Nat.succ_ne_zero _) (by rw [List.map_cons, List.getElem?_cons_succ, List.getElem?_map, hj, ← e]; rfl)
  | p :: r, i + 1, _, hne, h => by
    refine upd_cons (fun e => hne 0 (Nat.succ_ne_zero _).symm (by rw [← e]; rfl)) (upd_at i (.inr trivial) (fun j hj => ?_) (by simpa using h))
    have := hne (j + 1) (fun z => hj (Nat.succ.inj z))
    rwa [List.map_cons, List.getElem?_cons_succ] at this
theorem nd_upd {g : Obj → List (Addr × Obj)} (i : Nat) (D : NdT as tl) (e : news.map (·.1) = as ++ tl) (hi : i < as.length) (h : news[i]? = some (x, o)) (hg : ∀ o', g o' = news.set i (x, o')) : UpdF x o news g := by
  have : g = fun o' => news.set i (x, o') := funext hg
  rw [this]
  have hx : as[i]? = some x := by
    have h2 : (news.map (·.1))[i]? = some x := by rw [List.getElem?_map, h]; rfl
    rw [e, List.getElem?_append_left hi] at h2
    exact h2
  refine upd_at i (.inr trivial) (fun j hj q => ?_) h
  rw [e] at q
  by_cases hl : j < as.length
  · rw [List.getElem?_append_left hl] at q
    exact hj ((List.getElem?_inj hl D.1).mp (q.trans hx.symm))
  · rw [List.getElem?_append_right (by omega)] at q
    exact D.2 x (List.mem_of_getElem? hx) (List.mem_of_getElem? q)
theorem nd_up {g : Obj → List (Addr × Obj)} (i : Nat) (D : NdT as tl) (e : news.map (·.1) = as ++ tl) (hi : Nat.ble (i + 1) as.length = true) (h : news[i]? = some (x, o)) (hg : ∀ o', g o' = news.set i (x, o')) : UpdF x o news g := nd_upd i D e (Nat.le_of_ble_eq_true hi) h hg
theorem nd_ne {i j : Nat} (D : NdT as tl) (ha : as[i]? = some a) (hb : as[j]? = some b) (h : i ≠ j) : a ≠ b := fun q => by
  obtain ⟨hl, _⟩ := List.getElem?_eq_some_iff.mp ha
  exact h ((List.getElem?_inj hl D.1).mp (ha.trans (by rw [q]; exact hb.symm)))
theorem nd_yne {i j : Nat} (D : NdT as tl) (ha : as[i]? = some a) (hb : as[j]? = some b) (h : i ≠ j) : YNe a b := nd_ne D ha hb h
theorem nd_tl {i : Nat} (D : NdT as (TL.map (·.1))) (ha : as[i]? = some a) (hb : (b, o) ∈ TL) : a ≠ b := fun q =>
  D.2 a (List.mem_of_getElem? ha) (List.mem_map.mpr ⟨_, hb, q.symm⟩)
theorem nd_al2 {d : Nat} (h : AllNe d news) (h2 : AllNe l news) (h3 : YNe d l) (D : NdT as tl) (e : news.map (·.1) = as ++ tl) : NdT (l :: d :: as) tl :=
  nd_new (fun z => by
    rcases List.mem_cons.mp z with q | z
    · exact h3 q.symm
    · replace z : l ∈ as ++ tl := z
      rw [← e] at z
      obtain ⟨p, hp, q⟩ := List.mem_map.mp z
      exact allNe_mem h2 p hp q) (nd_al h D e)
theorem nd_off (D : NdT (l :: as) tl) (e : news.map (·.1) = as ++ tl) : ∀ p ∈ news, @Ne Nat p.1 l := fun p hp q => by
  have h1 : p.1 ∈ as ++ tl := e ▸ List.mem_map_of_mem hp
  rcases List.mem_append.mp h1 with h1 | h1
  · exact (List.nodup_cons.mp D.1).1 (q ▸ h1)
  · exact D.2 l (.head _) (q ▸ h1)
theorem nd_rest {tl0 : List Nat} (h : AllNe l news) (D : NdT as tl) (e : news.map (·.1) = as ++ tl0) : NdT as (l :: tl) := ⟨D.1, fun c hc z => by
  rcases List.mem_cons.mp z with q | z
  · subst q
    have : c ∈ news.map (·.1) := e ▸ List.mem_append_left _ hc
    obtain ⟨p, hp, q⟩ := List.mem_map.mp this
    exact allNe_mem h p hp q
  · exact D.2 c hc z⟩
theorem nd_drop (D : NdT (a :: as) tl) : NdT as tl := ⟨(List.nodup_cons.mp D.1).2, fun c hc => D.2 c (.tail _ hc)⟩
theorem nd_sub {bs : List Nat} (D : NdT as tl) (h : bs.Sublist as) : NdT bs tl := ⟨D.1.sublist h, fun c hc => D.2 c (h.subset hc)⟩
theorem nd_push (D : NdT (a :: as) tl) : NdT as (a :: tl) := ⟨(List.nodup_cons.mp D.1).2, fun c hc z => by
  rcases List.mem_cons.mp z with rfl | z
  · exact (List.nodup_cons.mp D.1).1 hc
  · exact D.2 c (.tail _ hc) z⟩
theorem nd_tail {tl' : List Nat} (D : NdT as tl) (h : ∀ b ∈ tl', ∀ a ∈ as, b ≠ a) : NdT as (tl ++ tl') := ⟨D.1, fun c hc z => by
  rcases List.mem_append.mp z with z | z
  · exact D.2 c hc z
  · exact h c z c hc rfl⟩
theorem News.dropK {h₀ h : Heap} {L : Addr} {news : List (Addr × Obj)} (k : Nat) (N : News h₀ L h news) : News h₀ L h (news.drop k) := fun p hp => N p (List.mem_of_mem_drop hp)
theorem nd_dropK {as tl : List Nat} (k : Nat) (D : NdT as tl) : NdT (as.drop k) tl := nd_sub D (List.drop_sublist _ _)
theorem nd_del {as tl : List Nat} (i : Nat) (D : NdT as tl) : NdT (as.eraseIdx i) tl := nd_sub D (List.eraseIdx_sublist _ _)
noncomputable def pickL {α : Type} (l : List α) : List Nat → List α
  | [] => []
  | i :: r => match l[i]? with
    | some x => x :: pickL l r
    | none => pickL l r
theorem pickL_sub {α : Type} (l : List α) : ∀ is : List Nat, ∀ x ∈ pickL l is, x ∈ l
  | [], x, h => nomatch h
  | i :: r, x, h => by
    unfold pickL at h
    cases e : l[i]? with
    | none => rw [e] at h; exact pickL_sub l r x h
    | some y =>
      rw [e] at h
      rcases List.mem_cons.mp h with rfl | h
      · exact List.mem_of_getElem? e
      · exact pickL_sub l r x h
theorem News.pick {h₀ h : Heap} {L : Addr} {news : List (Addr × Obj)} (is : List Nat) (N : News h₀ L h news) : News h₀ L h (pickL news is) := fun p hp => N p (pickL_sub _ _ p hp)
theorem nd_move {as tl : List Nat} {a : Nat} (i : Nat) (D : NdT as tl) (e : as[i]? = some a := by exact rfl) : NdT (as.eraseIdx i) (a :: tl) := by
  obtain ⟨hl, e'⟩ := List.getElem?_eq_some_iff.mp e
  refine ⟨(nd_del i D).1, fun c hc z => ?_⟩
  have hca : c ∈ as := (List.eraseIdx_sublist _ _).subset hc
  rcases List.mem_cons.mp z with rfl | z
  · obtain ⟨j, hj⟩ := List.mem_iff_getElem?.mp hc
    rw [List.getElem?_eraseIdx] at hj
    split at hj
    · have := (List.getElem?_inj hl D.1).mp (e.trans hj.symm); omega
    · have := (List.getElem?_inj hl D.1).mp (e.trans hj.symm); omega
  · exact D.2 c hca z
theorem nd_tailM {as : List Nat} {TL TL' : List (Addr × Obj)} (D : NdT as (TL.map (·.1))) (h : ∀ b ∈ TL'.map (·.1), ∀ a ∈ as ++ TL.map (·.1), b ≠ a) : NdT as ((TL ++ TL').map (·.1)) := by
  rw [List.map_append]
  exact nd_tail D fun b hb a ha => h b hb a (List.mem_append_left _ ha)
theorem rest_name (TL TL' : List (Addr × Obj)) : ∃ T, T = TL ++ TL' ∧ (∀ p ∈ TL, p ∈ T) ∧ ∀ p ∈ TL', p ∈ T := ⟨_, rfl, fun _ h => List.mem_append_left _ h, fun _ h => List.mem_append_right _ h⟩
theorem News.rot {h₀ h : Heap} {L : Addr} {n1 r : List (Addr × Obj)} (N : News h₀ L h (n1 ++ r)) (is js : List Nat) : News h₀ L h (pickL n1 is ++ (pickL n1 js ++ r)) := fun p hp => N p (by
  rcases List.mem_append.mp hp with hp | hp
  · exact List.mem_append_left _ (pickL_sub _ _ p hp)
  · rcases List.mem_append.mp hp with hp | hp
    · exact List.mem_append_left _ (pickL_sub _ _ p hp)
    · exact List.mem_append_right _ hp)
theorem idx_z {α : Type} {x : α} {r : List α} : (x :: r)[0]? = some x := rfl
theorem idx_s {α : Type} {x y : α} {r : List α} {i : Nat} (h : r[i]? = some y) : (x :: r)[i + 1]? = some y := h
end
end
local macro_rules | `(tactic| k_lt $h:ident) => `(tactic| (k_extra "lt"; (replace $h := allNe_lt $h; (repeat (first | (replace $h := allNe_one $h) | (have := allNe_hd2 $h; replace $h := allNe_tl2 $h))))))
local macro_rules | `(tactic| k_lt $h:ident) => `(tactic| (k_extra "nd"; (rename NdT _ _ => Dz); first | replace Dz := nd_lt $h Dz rfl | replace Dz := nd_al $h Dz rfl | replace Dz := nd_ap $h Dz rfl))
local macro_rules | `(tactic| k_updF) => `(tactic| (rename NdT _ _ => Dz; (first | refine' nd_up 0 Dz rfl rfl rfl ?hg | refine' nd_up 1 Dz rfl rfl rfl ?hg | refine' nd_up 2 Dz rfl rfl rfl ?hg | refine' nd_up 3 Dz rfl rfl rfl ?hg | refine' nd_up 4 Dz rfl rfl rfl ?hg | refine' nd_up 5 Dz rfl rfl rfl ?hg | refine' nd_up 6 Dz rfl rfl rfl ?hg | refine' nd_up 7 Dz rfl rfl rfl ?hg | refine' nd_up 8 Dz rfl rfl rfl ?hg | refine' nd_up 9 Dz rfl rfl rfl ?hg); (case hg => intro oz; (try dsimp only [List.set_cons_zero, List.set_cons_succ]); (try exact rfl))))
section -- JLoop
inductive TurnEnd (h₀ : Heap) (L I : Addr) (oI : Obj) (J : Array GenState → OsState → List (Addr × Obj) → (Str → Option Value) → Prop) (s₃ : Shared) : Prop
  | mk (led : List (Addr × Obj)) (m : Str → Option Value) (F : Fr h₀ L s₃.heap m) (N : News h₀ L s₃.heap ((I, oI) :: led)) (ap : ∀ p ∈ led, @Ne Nat p.1 I) (j : J s₃.gens s₃.os led m) : TurnEnd h₀ L I oI J s₃
section
variable {prog : Program} {w : World} {A : Around} {E : Value → Shared → Prop} {s : Shared} {target : PySem.Expr} {body orelse : List Stmt} {env : Env} {Q : Flow → Shared → Prop} {h₀ : Heap} {L : Addr} {m : Str → Option Value} {led : List (Addr × Obj)}
theorem y_upL {N : Nat} {hi : Int} {r : Addr} {t u v : Tok} (J : Nat → Array GenState → OsState → List (Addr × Obj) → (Str → Option Value) → Prop) (hh : A.handled = none) (hN : N ≤ 1000) (hhi : hi = (N : Int)) (hr : IsRange s.heap r 0 hi 1 t u v)
    (F : Fr h₀ L s.heap m) (N0 : News h₀ L s.heap led) (hJ0 : J 0 s.gens s.os led m)
    (step : ∀ I oI k s' led' m' tk, (∀ p ∈ led', @Ne Nat p.1 I) → k < N → J k s'.gens s'.os led' m' → Fr h₀ L s'.heap m' → News h₀ L s'.heap ((I, oI) :: led') →
      wpAny (model prog w) A (assign target env (.int (k : Int) tk)) (fun _ s₂ => wpAny (model prog w) A (execs body env) (fun f s₃ => match f with
          | .next | .cont => YStop (TurnEnd h₀ L I oI (J (k + 1)) s₃)
          | .brk => Q .next s₃
          | .ret v => Q (.ret v) s₃) (fun _ _ => False) s₂) (fun _ _ => False) s')
    (done : ∀ s' led' m', J N s'.gens s'.os led' m' → Fr h₀ L s'.heap m' → News h₀ L s'.heap led' → wpAny (model prog w) A (execs orelse env) Q (fun _ _ => False) s') :
    wpAny (model prog w) A (pyIter (.ref r)) (ForPack prog w A env target body orelse Q) E s := by
  subst hhi
  refine y_up (lo := 0) (N := N) (J := fun I k s' => ∃ led' m', (∀ p ∈ led', @Ne Nat p.1 I) ∧ IsRangeIter s'.heap I ((0 : Int) + (k : Int)) ((N : Int) - (k : Int)) 1 ∧ Fr h₀ L s'.heap m' ∧ News h₀ L s'.heap led' ∧ J k s'.gens s'.os led' m')
    hh hN (by decide) (by decide) (by simpa using hr) ?_ ?_ ?_ ?_
  · intro I h2 eI hk2 hit2
    refine ⟨led, m, fun p hp q => ?_, by simpa using hit2, F.keeps hk2, fun p hp => ⟨hk2 _ _ (N0 p hp).1, (N0 p hp).2⟩, hJ0⟩
    have := (N0 p hp).1
    rw [q, eI] at this; cases this
  · rintro I k s' ⟨led', m', _, hit, _⟩ _
    exact hit
  · rintro I k s' h' tk' tk eI hk ⟨led', m', ap, hit, F8, N8, hj⟩ hit9 hkeep9
    have hg : ∃ oI, h'.get? I = some oI ∧ ∀ h'' : Heap, h''.get? I = some oI → IsRangeIter h'' I ((0 : Int) + ((k + 1 : Nat) : Int)) ((N : Int) - ((k + 1 : Nat) : Int)) 1 := ⟨_, hit9, fun _ e => e⟩
    obtain ⟨oI, e9, r9⟩ := hg
    obtain ⟨F9, N9⟩ := y_iter_step2 F eI ap F8 N8 hkeep9 e9
    have c := step I oI k { s' with heap := h', toks := tk' } led' m' tk ap hk hj F9 N9
    intro R hR
    rw [Int.zero_add]
    refine wpAny_mono c (fun _ s₂ h₂ => wpAny_mono h₂ (fun f s₃ h₃ => ?_) fun _ _ z => z) fun _ _ z => z
    have fin : TurnEnd h₀ L I oI (J (k + 1)) s₃ → ∃ led' m', (∀ p ∈ led', @Ne Nat p.1 I) ∧ IsRangeIter s₃.heap I ((0 : Int) + ((k + 1 : Nat) : Int)) ((N : Int) - ((k + 1 : Nat) : Int)) 1 ∧ Fr h₀ L s₃.heap m' ∧ News h₀ L s₃.heap led' ∧ J (k + 1) s₃.gens s₃.os led' m' := by
      rintro ⟨led2, m2, F2, N2, ap2, j2⟩
      exact ⟨led2, m2, ap2, r9 _ (N2 _ (.head _)).1, F2, fun p hp => N2 p (.tail _ hp), j2⟩
    cases f with
    | next => exact hR.next _ (fin h₃)
    | cont => exact hR.cont _ (fin h₃)
    | brk => exact hR.brk _ h₃
    | ret v => exact hR.ret _ _ h₃
  · rintro I s' h' tk' eI ⟨led', m', ap, hit, F8, N8, hj⟩ hkeep9
    obtain ⟨F9, N9⟩ := y_iter_end F eI ap F8 N8 hkeep9
    exact done { s' with heap := h', toks := tk' } led' m' hj F9 N9
theorem y_listL {l : Addr} {items : Array Value} {n : Nat} (J : Nat → Array GenState → OsState → List (Addr × Obj) → (Str → Option Value) → Prop) (hh : A.handled = none)
    (F : Fr h₀ L s.heap m) (N0 : News h₀ L s.heap led) (hm : (l, listOf items n) ∈ led) (hJ0 : J 0 s.gens s.os led m) (hJm : ∀ k g os led' m', J k g os led' m' → (l, listOf items n) ∈ led')
    (step : ∀ I oI k s' led' m' v, (∀ p ∈ led', @Ne Nat p.1 I) → items[k]? = some v → J k s'.gens s'.os led' m' → Fr h₀ L s'.heap m' → News h₀ L s'.heap ((I, oI) :: led') →
      wpAny (model prog w) A (assign target env v) (fun _ s₂ => wpAny (model prog w) A (execs body env) (fun f s₃ => match f with
          | .next | .cont => YStop (TurnEnd h₀ L I oI (J (k + 1)) s₃)
          | .brk => Q .next s₃
          | .ret v => Q (.ret v) s₃) (fun _ _ => False) s₂) (fun _ _ => False) s')
    (done : ∀ s' led' m', J items.size s'.gens s'.os led' m' → Fr h₀ L s'.heap m' → News h₀ L s'.heap led' → wpAny (model prog w) A (execs orelse env) Q (fun _ _ => False) s') :
    wpAny (model prog w) A (pyIter (.ref l)) (ForPack prog w A env target body orelse Q) E s := by
  refine y_list (l := l) (items := items) (J := fun I k s' => ∃ led' m', (∀ p ∈ led', @Ne Nat p.1 I) ∧ s'.heap.IsListIter I l k ∧ Fr h₀ L s'.heap m' ∧ News h₀ L s'.heap led' ∧ J k s'.gens s'.os led' m') hh ⟨_, (N0 _ hm).1, rfl, n, rfl⟩ ?_ ?_ ?_ ?_
  · intro I h2 eI hk2 hit2
    refine ⟨led, m, fun p hp q => ?_, hit2, F.keeps hk2, fun p hp => ⟨hk2 _ _ (N0 p hp).1, (N0 p hp).2⟩, hJ0⟩
    have := (N0 p hp).1
    rw [q, eI] at this; cases this
  · rintro I k s' ⟨led', m', _, hit, F8, N8, hj⟩
    exact ⟨hit, _, (N8 _ (hJm _ _ _ _ _ hj)).1, rfl, n, rfl⟩
  · rintro I k s' v h' tk' eI hk hv ⟨led', m', ap, hit, F8, N8, hj⟩ hit9 hkeep9
    obtain ⟨oI, e9, r9⟩ := hit9
    obtain ⟨F9, N9⟩ := y_iter_step2 F eI ap F8 N8 hkeep9 e9
    have c := step I oI k { s' with heap := h', toks := tk' } led' m' v ap hv hj F9 N9
    intro R hR
    refine wpAny_mono c (fun _ s₂ h₂ => wpAny_mono h₂ (fun f s₃ h₃ => ?_) fun _ _ z => z) fun _ _ z => z
    have fin : TurnEnd h₀ L I oI (J (k + 1)) s₃ → ∃ led' m', (∀ p ∈ led', @Ne Nat p.1 I) ∧ s₃.heap.IsListIter I l (k + 1) ∧ Fr h₀ L s₃.heap m' ∧ News h₀ L s₃.heap led' ∧ J (k + 1) s₃.gens s₃.os led' m' := by
      rintro ⟨led2, m2, F2, N2, ap2, j2⟩
      exact ⟨led2, m2, ap2, ⟨oI, (N2 _ (.head _)).1, r9⟩, F2, fun p hp => N2 p (.tail _ hp), j2⟩
    cases f with
    | next => exact hR.next _ (fin h₃)
    | cont => exact hR.cont _ (fin h₃)
    | brk => exact hR.brk _ h₃
    | ret v => exact hR.ret _ _ h₃
  · rintro I s' h' tk' eI ⟨led', m', ap, hit, F8, N8, hj⟩ hkeep9
    obtain ⟨F9, N9⟩ := y_iter_end F eI ap F8 N8 hkeep9
    exact done { s' with heap := h', toks := tk' } led' m' hj F9 N9
inductive TurnS (h₀ : Heap) (L I : Addr) (oI : Obj) (s : Shared) (J : List (Addr × Obj) → (Str → Option Value) → Prop) (s₃ : Shared) : Prop
  | mk (h : Heap) (tk : Nat) (led : List (Addr × Obj)) (m : Str → Option Value) (es : s₃ = { s with heap := h, toks := tk }) (F : Fr h₀ L h m) (N : News h₀ L h ((I, oI) :: led)) (ap : ∀ p ∈ led, @Ne Nat p.1 I) (j : J led m) : TurnS h₀ L I oI s J s₃
theorem y_upS {N : Nat} {hi lo : Int} {r : Addr} {t u v : Tok} (J : Nat → List (Addr × Obj) → (Str → Option Value) → Prop) (hh : A.handled = none) (hN : N ≤ 1000) (h0 : 0 ≤ lo) (h1 : lo ≤ 1000) (hhi : hi = lo + (N : Int)) (hr : IsRange s.heap r lo hi 1 t u v)
    (F : Fr h₀ L s.heap m) (N0 : News h₀ L s.heap led) (hJ0 : J 0 led m)
    (step : ∀ I oI k h8 tk8 led' m' tk, (∀ p ∈ led', @Ne Nat p.1 I) → k < N → J k led' m' → Fr h₀ L h8 m' → News h₀ L h8 ((I, oI) :: led') →
      wpAny (model prog w) A (assign target env (.int (lo + (k : Int)) tk)) (fun _ s₂ => wpAny (model prog w) A (execs body env) (fun f s₃ => match f with
          | .next | .cont => YStop (TurnS h₀ L I oI s (J (k + 1)) s₃)
          | .brk => Q .next s₃
          | .ret v => Q (.ret v) s₃) (fun _ _ => False) s₂) (fun _ _ => False) { s with heap := h8, toks := tk8 })
    (done : ∀ h8 tk8 led' m', J N led' m' → Fr h₀ L h8 m' → News h₀ L h8 led' → wpAny (model prog w) A (execs orelse env) Q (fun _ _ => False) { s with heap := h8, toks := tk8 }) :
    wpAny (model prog w) A (pyIter (.ref r)) (ForPack prog w A env target body orelse Q) E s := by
  subst hhi
  refine y_up (lo := lo) (N := N) (J := fun I k s' => ∃ h tk led' m', s' = { s with heap := h, toks := tk } ∧ (∀ p ∈ led', @Ne Nat p.1 I) ∧ IsRangeIter h I (lo + (k : Int)) ((N : Int) - (k : Int)) 1 ∧ Fr h₀ L h m' ∧ News h₀ L h led' ∧ J k led' m')
    hh hN h0 h1 hr ?_ ?_ ?_ ?_
  · intro I h2 eI hk2 hit2
    refine ⟨h2, s.toks, led, m, rfl, fun p hp q => ?_, by simpa using hit2, F.keeps hk2, fun p hp => ⟨hk2 _ _ (N0 p hp).1, (N0 p hp).2⟩, hJ0⟩
    have := (N0 p hp).1
    rw [q, eI] at this; cases this
  · rintro I k s' ⟨h, tk, led', m', rfl, _, hit, _⟩ _
    exact hit
  · rintro I k s' h' tk' tk eI hk ⟨h8, tk8, led', m', rfl, ap, hit, F8, N8, hj⟩ hit9 hkeep9 R hR
    obtain ⟨F9, N9⟩ := y_iter_step2 F eI ap F8 N8 hkeep9 hit9
    refine wpAny_mono (step I _ k h' tk' led' m' tk ap hk hj F9 N9) (fun _ s₂ h₂ => wpAny_mono h₂ (fun f s₃ h₃ => ?_) fun _ _ z => z) fun _ _ z => z
    cases f with
    | next => obtain ⟨h3, tk3, led2, m2, rfl, F2, N2, ap2, j2⟩ := h₃; exact hR.next _ ⟨h3, tk3, led2, m2, rfl, ap2, (N2 _ (.head _)).1, F2, fun p hp => N2 p (.tail _ hp), j2⟩
    | cont => obtain ⟨h3, tk3, led2, m2, rfl, F2, N2, ap2, j2⟩ := h₃; exact hR.cont _ ⟨h3, tk3, led2, m2, rfl, ap2, (N2 _ (.head _)).1, F2, fun p hp => N2 p (.tail _ hp), j2⟩
    | brk => exact hR.brk _ h₃
    | ret v => exact hR.ret _ _ h₃
  · rintro I s' h' tk' eI ⟨h8, tk8, led', m', rfl, ap, hit, F8, N8, hj⟩ hkeep9
    obtain ⟨F9, N9⟩ := y_iter_end F eI ap F8 N8 hkeep9
    exact done h' tk' led' m' hj F9 N9
theorem y_listS {l : Addr} {items : Array Value} {n : Nat} (J : Nat → List (Addr × Obj) → (Str → Option Value) → Prop) (hh : A.handled = none)
    (F : Fr h₀ L s.heap m) (N0 : News h₀ L s.heap led) (hm : (l, listOf items n) ∈ led) (hJ0 : J 0 led m) (hJm : ∀ k led' m', J k led' m' → (l, listOf items n) ∈ led')
    (step : ∀ I oI k h8 tk8 led' m' v, (∀ p ∈ led', @Ne Nat p.1 I) → items[k]? = some v → J k led' m' → Fr h₀ L h8 m' → News h₀ L h8 ((I, oI) :: led') →
      wpAny (model prog w) A (assign target env v) (fun _ s₂ => wpAny (model prog w) A (execs body env) (fun f s₃ => match f with
          | .next | .cont => YStop (TurnS h₀ L I oI s (J (k + 1)) s₃)
          | .brk => Q .next s₃
          | .ret v => Q (.ret v) s₃) (fun _ _ => False) s₂) (fun _ _ => False) { s with heap := h8, toks := tk8 })
    (done : ∀ h8 tk8 led' m', J items.size led' m' → Fr h₀ L h8 m' → News h₀ L h8 led' → wpAny (model prog w) A (execs orelse env) Q (fun _ _ => False) { s with heap := h8, toks := tk8 }) :
    wpAny (model prog w) A (pyIter (.ref l)) (ForPack prog w A env target body orelse Q) E s := by
  refine y_list (l := l) (items := items) (J := fun I k s' => ∃ h tk led' m', s' = { s with heap := h, toks := tk } ∧ (∀ p ∈ led', @Ne Nat p.1 I) ∧ h.IsListIter I l k ∧ Fr h₀ L h m' ∧ News h₀ L h led' ∧ J k led' m') hh ⟨_, (N0 _ hm).1, rfl, n, rfl⟩ ?_ ?_ ?_ ?_
  · intro I h2 eI hk2 hit2
    refine ⟨h2, s.toks, led, m, rfl, fun p hp q => ?_, hit2, F.keeps hk2, fun p hp => ⟨hk2 _ _ (N0 p hp).1, (N0 p hp).2⟩, hJ0⟩
    have := (N0 p hp).1
    rw [q, eI] at this; cases this
  · rintro I k s' ⟨h, tk, led', m', rfl, _, hit, F8, N8, hj⟩
    exact ⟨hit, _, (N8 _ (hJm _ _ _ hj)).1, rfl, n, rfl⟩
  · rintro I k s' v h' tk' eI hk hv ⟨h8, tk8, led', m', rfl, ap, hit, F8, N8, hj⟩ ⟨oI, e9, r9⟩ hkeep9 R hR
    obtain ⟨F9, N9⟩ := y_iter_step2 F eI ap F8 N8 hkeep9 e9
    refine wpAny_mono (step I oI k h' tk' led' m' v ap hv hj F9 N9) (fun _ s₂ h₂ => wpAny_mono h₂ (fun f s₃ h₃ => ?_) fun _ _ z => z) fun _ _ z => z
    cases f with
    | next => obtain ⟨h3, tk3, led2, m2, rfl, F2, N2, ap2, j2⟩ := h₃; exact hR.next _ ⟨h3, tk3, led2, m2, rfl, ap2, ⟨oI, (N2 _ (.head _)).1, r9⟩, F2, fun p hp => N2 p (.tail _ hp), j2⟩
    | cont => obtain ⟨h3, tk3, led2, m2, rfl, F2, N2, ap2, j2⟩ := h₃; exact hR.cont _ ⟨h3, tk3, led2, m2, rfl, ap2, ⟨oI, (N2 _ (.head _)).1, r9⟩, F2, fun p hp => N2 p (.tail _ hp), j2⟩
    | brk => exact hR.brk _ h₃
    | ret v => exact hR.ret _ _ h₃
  · rintro I s' h' tk' eI ⟨h8, tk8, led', m', rfl, ap, hit, F8, N8, hj⟩ hkeep9
    obtain ⟨F9, N9⟩ := y_iter_end F eI ap F8 N8 hkeep9
    exact done h' tk' led' m' hj F9 N9
end
end
section -- JDiv
theorem zsJDiv : True := by
  w_top off
  k_with_none
  k_with "omega" => (lia)
  k_with "execs cons" => (refine y_consS ?_; intro sk9 qk9)
  k_with "call builtin:divmod" => (k_here; k_dflt (refine' divmod_N ?F ?N ?hb ?_ ?hp; (case F | N => k_asm); (case hb => omega); (case hp => exact Or.inl (PyProof.noPylong_of_log2 (by assumption))); k_whole; intro h9' F9' N9'))
  trivial
theorem div_spec
  (x y n : Int) (t1 t2 t3 : Tok)
  (B : Below A₀ base outer h₀) (F : Fr h₀ L s.heap m) (X : (hd.heap_1 w.params).In h₀) (N : News h₀ L s.heap ([])) (T : Top p loose mean mg mb h₀) (hkf : cs.kind = .function)
  (hdp : dp + 2 < recursionLimit) (hun : un + 16 < cLine)
  (hx : 0 ≤ x) (hy : 0 < y) (hbits : (Builtin.Int.intBits x : Int) - n ≤ 4000) (hy9 : y.natAbs.log2 < 9000)
  (hret : ∀ (t : Addr) (u v : Tok) (tk' : Nat) h', Ge [] s.heap h' → h'.get? t = some (tupObj #[.int (x.fdiv y) u, .int (x.fmod y) v]) → s.heap.get? t = none → Q (.ref t) { s with heap := h', toks := tk' }) :
  wpAny (model PySem.Challenge.rw_yj0031_01.row.prog w) (ktrTop dp un gd cn cs L a ccd cl outer) (call (.ref 53) [.int x t1, .int y t2, .int n t3]) Q E s := by
  revert X; k_fill; intro X
  refine wpAny_call ?_
  refine' y_code ?k1 ?k2 ?k3 ?k4 ?k5 ?kA ?kF ?kK ?k6 ?k7 ?k8 ?k9 ?kB ?_ ?c2 ?c3 ?c4 ?c5
  (case kA | kF => exact rfl); (case kK | k1 | k2 | k3 | k4 | k5 => assumption); (case k6 | k7 => k_is); (case k8 => ktr_room); (case k9 => first | exact BindsTo.of_eq rfl | exact binds_K (by k_in) rfl (by k_is) rfl rfl rfl); (case c5 => decide); (case kB => exact locs rfl); (case c2 | c3 | c4 => exact rfl); have N0 := YOld.mk N; clear B F X N T; intro g L1 h1 hG F1 N1 B1 X1 T1 l1; (try dsimp only); (try k_lt l1); (try k_fold)
  k_steps
  exact hret _ _ _ _ _ (by
    (rename Fr _ _ _ _ => F9); (rename News _ _ _ _ => N9)
    exact y_ge N0 hG F9 N9 (fun p hp => nomatch hp)) (by (rename News _ _ _ _ => N9); exact y_got N9 (by k_mem)) (by (rename News _ _ _ _ => N9); exact y_new N0 hG N9 (by k_mem) (fun p hp => nomatch hp))
end
section -- JLet
theorem zsJLet : True := by
  w_top off
  k_with_none
  k_with "omega" => (lia)
  k_with "execs cons" => (refine y_consS ?_; intro sk9 qk9)
  k_with "ge" => first | exact y_all0 | (refine' y_allc ?gea ?geb; (case gea => first | (exact Or.inl (by k_mem)) | (exact Or.inr (by k_mem))); (case geb => k_extra "ge"))
  k_with "binaryOp Mult str int" => (k_here; k_dflt (refine' SB.mul (mulOk7 ?h1 ?h2 ?h3) ?_; (case h1 => assumption); (case h2 | h3 => omega); k_whole; intro t9' tk9'))
  trivial
theorem letters_spec
  (wl : Addr) (wvs : Array Value) (wn : Nat) (ws : List Int) (k : Int) (t1 : Tok)
  (B : Below A₀ base outer h₀) (F : Fr h₀ L s.heap m) (X : (hd.heap_1 w.params).In h₀) (N : News h₀ L s.heap ([(wl, listOf wvs wn)])) (T : Top p loose mean mg mb h₀) (hkf : cs.kind = .function)
  (hdp : dp + 2 < recursionLimit) (hun : un + 16 < cLine)
  (hI : IntsAre wvs.toList ws) (hw4 : ws.length = 4) (hw : ∀ x ∈ ws, 1 ≤ x ∧ x ≤ 4) (hk : 0 ≤ k ∧ k < 4)
  (hret : ∀ (t : Tok) (tk' : Nat) h', Ge [] s.heap h' → Q (.str (Txt.mul (Txt.item "ABCD" k) (2 * ws.getD k.toNat 0 - 1)) t) { s with heap := h', toks := tk' }) :
  wpAny (model PySem.Challenge.rw_yj0031_01.row.prog w) (ktrTop dp un gd cn cs L a ccd cl outer) (call (.ref 416) [.int k t1, .ref wl]) Q E s := by
  revert X; k_fill; intro X
  refine wpAny_call ?_
  refine' y_code ?k1 ?k2 ?k3 ?k4 ?k5 ?kA ?kF ?kK ?k6 ?k7 ?k8 ?k9 ?kB ?_ ?c2 ?c3 ?c4 ?c5
  (case kA | kF => exact rfl); (case kK | k1 | k2 | k3 | k4 | k5 => assumption); (case k6 | k7 => k_is); (case k8 => ktr_room); (case k9 => first | exact BindsTo.of_eq rfl | exact binds_K (by k_in) rfl (by k_is) rfl rfl rfl); (case c5 => decide); (case kB => exact locs rfl); (case c2 | c3 | c4 => exact rfl); have N0 := YOld.mk N; clear B F X N T; intro g L1 h1 hG F1 N1 B1 X1 T1 l1; (try dsimp only); (try k_lt l1); (try k_fold)
  have hb := getD_rng hw (show k.toNat < ws.length by omega)
  k_steps
  exact hret _ _ _ (by
    (rename Fr _ _ _ _ => F9); (rename News _ _ _ _ => N9)
    refine y_ge N0 hG F9 N9 ?_
    k_extra "ge")
end
section -- JRowsL
open PySem.Calls
noncomputable def letF (ws : List Int) (k : Int) : Str := Txt.mul (Txt.item "ABCD" k) (2 * ws.getD k.toNat 0 - 1)
noncomputable def rowsStep (ws : List Int) (wd : Nat) (rs : List Str) (k : Int) : List Str :=
  if (((rs.getLastD "").length : Int) + 2 * ws.getD k.toNat 0 > wd) then rs ++ [letF ws k ++ ";"] else rs.dropLast ++ [rs.getLastD "" ++ (letF ws k ++ ";")]
noncomputable def rowsF (ws : List Int) (wd : Nat) (os : List Int) : List Str := os.foldl (rowsStep ws wd) [";"]
theorem letF_len {ws : List Int} {n : Int} (hw : 1 ≤ ws.getD n.toNat 0 ∧ ws.getD n.toNat 0 ≤ 4) (hn : 0 ≤ n ∧ n < 4) : (letF ws n).length ≤ 7 := by
  have h := len_mul (Txt.item "ABCD" n) (2 * ws.getD n.toNat 0 - 1)
  have h1 : (Txt.item "ABCD" n).length = 1 := rfl
  rw [h1, if_neg (by rw [decide_eq_true_eq]; omega)] at h
  unfold letF
  omega
theorem str_len_append (a b : Str) : (a ++ b).length = a.length + b.length := by
  cases a; cases b
  exact Array.size_append ..
theorem rowsStep_snoc (ws : List Int) (wd : Nat) (pre : List Str) (r : Str) (k : Int) : rowsStep ws wd (pre ++ [r]) k = if ((r.length : Int) + 2 * ws.getD k.toNat 0 > wd) then pre ++ [r] ++ [letF ws k ++ ";"] else pre ++ [r ++ (letF ws k ++ ";")] := by
  unfold rowsStep
  simp
theorem rowsF_succ (ws : List Int) (wd : Nat) {os : List Int} {k : Nat} {n : Int} (h : os[k]? = some n) : rowsF ws wd (os.take (k + 1)) = rowsStep ws wd (rowsF ws wd (os.take k)) n := by
  unfold rowsF
  rw [List.take_add_one, h, List.foldl_append]
  rfl
theorem rowsFold_ne (ws : List Int) (wd : Nat) : ∀ (os : List Int) (rs : List Str), (∃ pre r, rs = pre ++ [r]) → ∃ pre r, os.foldl (rowsStep ws wd) rs = pre ++ [r]
  | [], _, h => h
  | k :: os, rs, ⟨pre, r, e⟩ => by
    rw [List.foldl_cons, e, rowsStep_snoc]
    refine rowsFold_ne ws wd os _ ?_
    split
    · exact ⟨_, _, rfl⟩
    · exact ⟨_, _, rfl⟩
theorem rowsF_ne (ws : List Int) (wd : Nat) (os : List Int) : ∃ pre r, rowsF ws wd os = pre ++ [r] := rowsFold_ne ws wd os _ ⟨[], _, rfl⟩
theorem rowsF_len {ws : List Int} (hw : ∀ x ∈ ws, 1 ≤ x ∧ x ≤ 4) (hw4 : ws.length = 4) {os : List Int} (ho : ∀ x ∈ os, 0 ≤ x ∧ x ≤ 3) (wd : Nat) : ∀ r ∈ rowsF ws wd os, r.length ≤ 1 + 8 * os.length := by
  have key : ∀ (os : List Int) (rs : List Str) (B : Nat), (∀ x ∈ os, 0 ≤ x ∧ x ≤ 3) → (∃ pre r, rs = pre ++ [r]) → (∀ r ∈ rs, r.length ≤ B) → 1 ≤ B → ∀ r ∈ os.foldl (rowsStep ws wd) rs, r.length ≤ B + 8 * os.length := by
    intro os
    induction os with
    | nil => intro rs B _ _ h _ r hr; simpa using h r hr
    | cons k os ih =>
      rintro rs B ho ⟨pre, r0, rfl⟩ h hB r hr
      have hk := ho k (.head _)
      have hl := letF_len (ws := ws) (n := k) (getD_rng hw (by omega)) (by omega)
      have hs : (";" : Str).length = 1 := rfl
      rw [List.foldl_cons, rowsStep_snoc] at hr
      have h0 := h r0 (by simp)
      have := ih _ (B + 8) (fun x hx => ho x (.tail _ hx)) (by split; exact ⟨_, _, rfl⟩; exact ⟨_, _, rfl⟩) (by
        intro y hy
        split at hy
        · rcases List.mem_append.mp hy with hy | hy
          · have := h y hy; omega
          · rw [List.mem_singleton.mp hy, str_len_append, hs]; omega
        · rcases List.mem_append.mp hy with hy | hy
          · have := h y (List.mem_append_left _ hy); omega
          · rw [List.mem_singleton.mp hy, str_len_append, str_len_append, hs]; omega) (by omega) r hr
      rw [List.length_cons]
      omega
  exact key os _ 1 ho ⟨[], _, rfl⟩ (by intro r hr; rw [List.mem_singleton.mp hr]; exact Nat.le_refl _) (Nat.le_refl _)
theorem rowsF_size (ws : List Int) (wd : Nat) (os : List Int) : (rowsF ws wd os).length ≤ 1 + os.length := by
  have key : ∀ (os : List Int) (rs : List Str), (∃ pre r, rs = pre ++ [r]) → (os.foldl (rowsStep ws wd) rs).length ≤ rs.length + os.length := by
    intro os
    induction os with
    | nil => intro rs _; simp
    | cons k os ih =>
      rintro rs ⟨pre, r0, rfl⟩
      rw [List.foldl_cons, rowsStep_snoc]
      refine Nat.le_trans (ih _ (by split; exact ⟨_, _, rfl⟩; exact ⟨_, _, rfl⟩)) ?_
      split <;> simp <;> omega
  have := key os [";"] ⟨[], _, rfl⟩
  unfold rowsF
  simp only [List.length_singleton] at this
  omega
variable {w p loose mean mg mb dp un gd cn cs a ccd cl outer A₀ base h₀ L m s Q E}
theorem letters_L
  {news : List (Addr × Obj)}
  {wl : Addr} {wvs : Array Value} {wn : Nat} {ws : List Int} {k : Int} {t1 : Tok}
  (B : Below A₀ base outer h₀) (F : Fr h₀ L s.heap m) (X : (hd.heap_1 w.params).In h₀) (N : News h₀ L s.heap news) (T : Top p loose mean mg mb h₀) (hkf : cs.kind = .function)
  (hdp : dp + 2 < recursionLimit) (hun : un + 16 < cLine)
  (hm : (wl, listOf wvs wn) ∈ news) (hI : IntsAre wvs.toList ws) (hw4 : ws.length = 4) (hw : ∀ x ∈ ws, 1 ≤ x ∧ x ≤ 4) (hk : 0 ≤ k ∧ k < 4)
  (hret : ∀ (t : Tok) (tk' : Nat) h', Fr h₀ L h' m → News h₀ L h' news → Q (.str (letF ws k) t) { s with heap := h', toks := tk' }) :
  wpAny (model PySem.Challenge.rw_yj0031_01.row.prog w) (ktrTop dp un gd cn cs L a ccd cl outer) (call (.ref 416) [.int k t1, .ref wl]) Q E s := by
  refine letters_spec w p loose mean mg mb dp un gd cn cs a ccd cl outer A₀ base h₀ L m s Q E wl wvs wn ws k t1 B F X (fun q hq => by rcases List.mem_cons.mp hq with rfl | hq; exact N _ hm; cases hq) T hkf hdp hun hI hw4 hw hk ?_
  intro t tk' h' G
  obtain ⟨F', N'⟩ := y_call0 F N G
  exact hret t tk' h' F' N'
end
section -- JCel
theorem zsJCel : True := by
  w_top off
  k_with_none
  k_with "omega" => (lia)
  k_with "ne" => ((refine neN ?_; (try dsimp only); first | exact YNe.to (by assumption) | exact YNe.to' (by assumption)))
  k_with "execs cons" => (refine y_consS ?_; intro sk9 qk9)
  k_with "apart" => first | exact y_all0 | assumption | (refine' y_allc ?apa ?apb; (case apa => (try dsimp only); first | exact YNe.to (by assumption) | exact YNe.to' (by assumption) | (show @Ne Nat _ _; omega)); (case apb => k_extra "apart"))
  k_with "te" => first | refine TE.next (by assumption) _ ?_ | refine TE.cont (by assumption) _ ?_ | skip
  k_with "pyIter ref" => (k_here; (with_reducible show wpAny _ _ (pyIter (Value.ref _)) (ForPack _ _ _ _ _ _ _ _) _ _); refine YStop.of ?_)
  k_with "eval Name" => (k_here; k_dflt (refine' ld ?k1 ?k2 ?_; (case k1 => k_asm); (case k2 => first | assumption | exact YUp.to (by assumption)); k_whole))
  k_with "exec For Name Call cons nil" => (k_here; (with_reducible show wpAny _ _ (exec (Stmt.For _ _ _ _ _) _) _ _ _); refine YStop.of ?_)
  k_with "call builtin:len" => (k_here; (with_reducible show wpAny _ _ (call (Value.builtin "len") [Value.ref _]) _ _ _); k_dflt (refine' len_B2 ?F ?hl ?hs ?_; (case F => k_asm); (case hl => assumption); (case hs => omega); k_whole; intro t9' tk9'))
  k_with "getItem ref int" => (k_here; k_dflt (refine' y_getInt ?N ?hm ?hI ?h0 ?h1 ?h2 ?_; (case N => k_asm); (case hm => k_mem); (case hI => assumption); (case h0 | h1 | h2 => omega); k_whole; intro t9'))
  trivial
theorem cells_spec
  (sc : Addr) (ns : List Int) (vs : Array Value)
  (B : Below A₀ base outer h₀) (F : Fr h₀ L s.heap m) (X : (hd.heap_1 w.params).In h₀) (N : News h₀ L s.heap ([])) (T : Top p loose mean mg mb h₀) (hkf : cs.kind = .function)
  (hdp : dp + 2 < recursionLimit) (hun : un + 16 < cLine)
  (hsc : s.heap.IsList sc vs) (hI : IntsAre vs.toList ns) (hn : ns.length ≤ 100)
  (hret : ∀ (l : Addr) (cvs : Array Value) (cs : List Int) (n tk' : Nat) h', Ge [] s.heap h' → IntsAre cvs.toList cs → cs.length = 3 → h'.get? l = some (listOf cvs n) → s.heap.get? l = none → Q (.ref l) { s with heap := h', toks := tk' }) :
  wpAny (model PySem.Challenge.rw_yj0031_01.row.prog w) (ktrTop dp un gd cn cs L a ccd cl outer) (call (.ref 397) [.ref sc]) Q E s := by
  revert X; k_fill; intro X
  refine wpAny_call ?_
  refine' y_code ?k1 ?k2 ?k3 ?k4 ?k5 ?kA ?kF ?kK ?k6 ?k7 ?k8 ?k9 ?kB ?_ ?c2 ?c3 ?c4 ?c5
  (case kA | kF => exact rfl); (case kK | k1 | k2 | k3 | k4 | k5 => assumption); (case k6 | k7 => k_is); (case k8 => ktr_room); (case k9 => first | exact BindsTo.of_eq rfl | exact binds_K (by k_in) rfl (by k_is) rfl rfl rfl); (case c5 => decide); (case kB => exact locs rfl); (case c2 | c3 | c4 => exact rfl); have N0 := YOld.mk N; clear B F X N T; intro g L1 h1 hG F1 N1 B1 X1 T1 l1; (try dsimp only); (try k_lt l1); (try k_fold)
  have I1 : g.IsList sc vs := let ⟨o, e, r⟩ := hsc; ⟨o, hG _ _ (fun h => nomatch h) e, r⟩
  have hvz : vs.size = ns.length := by rw [← Array.length_toList, hI.length]
  k_steps
  refine y_for ?_ (fun _ => rfl)
  k_steps
  (rename IsRange _ _ _ _ _ _ _ _ => R5); (rename Fr _ _ _ _ => F5); (rename News _ _ _ _ => N5)
  obtain ⟨rl, rfl⟩ := news_head N5
  refine YStop.to (y_up (lo := 0) (N := vs.size) (J := fun I k s' => YStop (YEx4 fun m' cvs cn cs' => YAnd8 (Fr g L1 s'.heap m') (News g L1 s'.heap [(rl, listOf cvs cn)]) (IsRangeIter s'.heap I ((0 : Int) + k) ((vs.size : Int) - k) 1) (IntsAre cvs.toList cs') (cs'.length = 3) (m' "cells" = some (.ref rl)) (m' "script" = some (.ref sc)) (s' = { s with heap := s'.heap, toks := s'.toks }))) rfl (by omega) (by decide) (by decide) (by simpa using R5) ?_ ?_ ?_ ?_)
  · intro I h2 eI hk2 hit2
    k_extra "te"; exact YStop.to ⟨_, _, _, _, F5.keeps hk2, (fun q hq => ⟨hk2 _ _ (N5 q hq).1, (N5 q hq).2⟩), by simpa using hit2, .cons _ _ (.cons _ _ (.cons _ _ .nil)), rfl, rfl, rfl, rfl⟩
  · rintro I k s' ⟨m', cvs, cn, cs', F', N', hit', _⟩ _
    exact hit'
  · rintro I k s' h' tk' tki eI hk ⟨m8, cvs, cn, cs', F8, N8, _, hC8, hc3, mc, ms, hs8⟩ hit9 hkeep9 KR9 hKR9
    rw [hs8] at F8 N8 hkeep9 ⊢
    have l9 := y_apart N5 eI
    (repeat (first | (replace l9 := allNe_one l9) | (have := allNe_hd2 l9; replace l9 := allNe_tl2 l9)))
    obtain ⟨F9, N9⟩ := y_iter_step2 F5 eI (by k_extra "apart") F8 N8 hkeep9 hit9
    clear F5 N5 F8 N8
    dsimp only at F9 N9 ⊢
    have hcz : cvs.size = 3 := by rw [← Array.length_toList, hC8.length, hc3]
    k_steps
    (rename Fr _ _ _ _ => F10); (rename News _ _ _ _ => N10); (rename IntsAre _ _ => I10)
    k_extra "te"; exact YStop.to ⟨_, _, _, _, F10, (fun q hq => N10 q (.tail _ hq)), (N10 _ (.head _)).1, by simpa using I10, by rw [List.length_set]; exact hc3, mc, ms, rfl⟩
  · rintro I s' h' tk' eI ⟨m8, cvs, cn, cs', F8, N8, _, hC8, hc3, mc, ms, hs8⟩ hkeep9
    rw [hs8] at F8 N8 hkeep9 ⊢
    have l9 := y_apart N5 eI
    (repeat (first | (replace l9 := allNe_one l9) | (have := allNe_hd2 l9; replace l9 := allNe_tl2 l9)))
    obtain ⟨F9, N9⟩ := y_iter_end F5 eI (by k_extra "apart") F8 N8 hkeep9
    clear F5 N5 F8 N8
    dsimp only at F9 N9 ⊢
    k_steps
    exact hret _ _ _ _ _ _ (by
    (rename Fr _ _ _ _ => F9); (rename News _ _ _ _ => N9)
    exact y_ge N0 hG F9 N9 (fun p hp => nomatch hp)) hC8 hc3 (by (rename News _ _ _ _ => N9); exact y_got N9 (by k_mem)) (by (rename News _ _ _ _ => N9); exact y_new N0 hG N9 (by k_mem) (fun p hp => nomatch hp))
end
section -- JRows
theorem zsJRows : True := by
  w_top off
  k_with_none
  k_with "omega" => (lia)
  k_with "ne" => ((refine neN ?_; (try dsimp only); first | exact YNe.to (by assumption) | exact YNe.to' (by assumption)))
  k_with "execs cons" => (refine y_consS ?_; intro sk9 qk9)
  k_with "apart" => first | exact y_all0 | assumption | (refine' y_allc ?apa ?apb; (case apa => (try dsimp only); first | exact YNe.to (by assumption) | exact YNe.to' (by assumption) | (show @Ne Nat _ _; omega)); (case apb => k_extra "apart"))
  k_with "te" => first | refine TE.next (by assumption) _ ?_ | refine TE.cont (by assumption) _ ?_ | skip
  k_with "ge" => first | exact y_all0 | (refine' y_allc ?gea ?geb; (case gea => first | (exact Or.inl (by k_mem)) | (exact Or.inr (by k_mem))); (case geb => k_extra "ge"))
  k_with "pyIter ref" => (k_here; (with_reducible show wpAny _ _ (pyIter (Value.ref _)) (ForPack _ _ _ _ _ _ _ _) _ _); refine YStop.of ?_)
  k_with "eval Name" => (k_here; k_dflt (refine' ld ?k1 ?k2 ?_; (case k1 => k_asm); (case k2 => first | assumption | exact YUp.to (by assumption)); k_whole))
  k_with "exec For Name Name cons nil" => (k_here; (with_reducible show wpAny _ _ (exec (Stmt.For _ _ _ _ _) _) _ _ _); refine YStop.of ?_)
  k_with "getItem ref int" => (k_here; k_dflt (refine' y_lastGet ?N ?hm ?hS ?_; (case N => k_asm); (case hm => k_mem); (case hS => assumption); k_whole; intro t9'))
  k_with "call builtin:list.append" => (k_here; k_dflt (refine' y_appendB ?F ?N ?U ?hs ?_; (case F | N => k_asm); (case U => k_updF); (case hs => omega); k_whole; intro h9' F9' N9'; (try dsimp only at N9')))
  k_with "setItem ref int" => (k_here; k_dflt (refine' y_setLast ?F ?N ?U ?hs ?_; (case F | N => k_asm); (case U => k_updF); (case hs => omega); k_whole; intro h9' F9' N9'; (try dsimp only at N9')))
  k_with "subscriptTail" => (k_here; (show wpAny _ _ (subscriptTail _ _ (Value.ref _) (Value.int (-1) _)) _ _ _); k_dflt (refine' y_lastItem ?N ?hm ?hS ?_ ?hs; (case N => k_asm); (case hm => k_mem); (case hS => assumption); (case hs => exact rfl); k_whole; intro t9'))
  k_with "call ref" => (k_here; k_dflt (refine' letters_L ?B ?F ?X ?N ?T ?hkf ?hdp ?hun ?hm ?hI ?hw4 ?hw ?hk ?_; (case B | F | X | N => k_asm); (case T => assumption); (case hkf => exact rfl); (case hdp => ktr_room); (case hun => ktr_units); (case hm => k_mem); (case hI | hw4 | hw => assumption); (case hk => omega); k_whole; intro t9' tk9' h9' F9' N9'))
  trivial
theorem rows_spec
  (ol : Addr) (ovs : Array Value) (on : Nat) (os : List Int) (wl : Addr) (wvs : Array Value) (wn : Nat) (ws : List Int) (wd : Nat) (t1 : Tok)
  (B : Below A₀ base outer h₀) (F : Fr h₀ L s.heap m) (X : (hd.heap_1 w.params).In h₀) (N : News h₀ L s.heap ([(ol, listOf ovs on), (wl, listOf wvs wn)])) (T : Top p loose mean mg mb h₀) (hkf : cs.kind = .function)
  (hdp : dp + 3 < recursionLimit) (hun : un + 24 < cLine)
  (hI : IntsAre wvs.toList ws) (hw4 : ws.length = 4) (hw : ∀ x ∈ ws, 1 ≤ x ∧ x ≤ 4) (hO : IntsAre ovs.toList os) (ho4 : os.length = 4) (hor : ∀ x ∈ os, 0 ≤ x ∧ x ≤ 3) (hol : @Ne Nat ol wl) (hwd : wd ≤ 40)
  (hret : ∀ (l : Addr) (rvs : Array Value) (rn tk' : Nat) h', Ge [] s.heap h' → h'.get? l = some (listOf rvs rn) → s.heap.get? l = none → StrsAre rvs.toList (rowsF ws wd os) → Q (.ref l) { s with heap := h', toks := tk' }) :
  wpAny (model PySem.Challenge.rw_yj0031_01.row.prog w) (ktrTop dp un gd cn cs L a ccd cl outer) (call (.ref 423) [.ref ol, .ref wl, .int (wd : Int) t1]) Q E s := by
  revert X; k_fill; intro X
  refine wpAny_call ?_
  refine' y_code ?k1 ?k2 ?k3 ?k4 ?k5 ?kA ?kF ?kK ?k6 ?k7 ?k8 ?k9 ?kB ?_ ?c2 ?c3 ?c4 ?c5
  (case kA | kF => exact rfl); (case kK | k1 | k2 | k3 | k4 | k5 => assumption); (case k6 | k7 => k_is); (case k8 => ktr_room); (case k9 => first | exact BindsTo.of_eq rfl | exact binds_K (by k_in) rfl (by k_is) rfl rfl rfl); (case c5 => decide); (case kB => exact locs rfl); (case c2 | c3 | c4 => exact rfl); have N0 := YOld.mk N; clear B F X N T; intro g L1 h1 hG F1 N1 B1 X1 T1 l1; (try dsimp only); (try k_lt l1); (try k_fold)
  k_steps
  (rename Fr _ _ _ _ => F5); (rename News _ _ _ _ => N5)
  obtain ⟨rl, rfl⟩ := news_head N5
  have hOz : ovs.size = 4 := by rw [← Array.length_toList, hO.length, ho4]
  refine y_for ?_ (fun _ => rfl)
  k_steps
  refine YStop.to (y_list (items := ovs) (l := ol) (J := fun I k s' => YStop (YEx2 fun m' rvs => ∃ rn, YAnd8 (Fr g L1 s'.heap m') (News g L1 s'.heap [(rl, listOf rvs rn), (ol, listOf ovs on), (wl, listOf wvs wn)]) (s'.heap.IsListIter I ol k) (StrsAre rvs.toList (rowsF ws wd (os.take k))) (m' "weights" = some (.ref wl)) (m' "width" = some (.int (wd : Int) t1)) (m' "rows" = some (.ref rl)) (s' = { s with heap := s'.heap, toks := s'.toks }))) rfl ⟨listOf ovs on, (N5 (ol, listOf ovs on) (by k_mem)).1, rfl, on, rfl⟩ ?_ ?_ ?_ ?_)
  · intro I h2 eI hk2 hit2
    exact ⟨_, _, _, F5.keeps hk2, (fun q hq => ⟨hk2 _ _ (N5 q hq).1, (N5 q hq).2⟩), hit2, .cons _ _ .nil, rfl, rfl, rfl, rfl⟩
  · rintro I k s' ⟨m', rvs, rn, F', N', hit', _⟩
    exact ⟨hit', ⟨listOf ovs on, (N' (ol, listOf ovs on) (by k_mem)).1, rfl, on, rfl⟩⟩
  · rintro I k s' v h' tk' eI hk hv ⟨m8, rvs, rn, F8, N8, _, hS8, mw, md, mr, hs8⟩ hit9 hkeep9 KR9 hKR9
    rw [hs8] at F8 N8 hkeep9 ⊢
    obtain ⟨n9, t9, rfl, hn9⟩ := hO.at k v (by rw [Array.getElem?_toList]; exact hv)
    obtain ⟨oI, hoI, hcI, hdI⟩ := hit9
    have l9 := y_apart N5 eI
    (repeat (first | (replace l9 := allNe_one l9) | (have := allNe_hd2 l9; replace l9 := allNe_tl2 l9)))
    obtain ⟨F9, N9⟩ := y_iter_step2 F5 eI (by k_extra "apart") F8 N8 hkeep9 hoI
    clear F5 N5 F8 N8
    dsimp only at F9 N9 ⊢
    have hnr := hor n9 (List.mem_of_getElem? hn9)
    have hnn : 0 ≤ n9 ∧ n9 < 4 := by omega
    have hwr := getD_rng hw (show n9.toNat < ws.length by omega)
    have hllen := letF_len hwr hnn
    have hrs := rowsF_succ ws wd hn9
    obtain ⟨pre, r, hpr⟩ := rowsF_ne ws wd (os.take k)
    have hrl := rowsF_len hw hw4 (os := os.take k) (fun x hx => hor x (List.mem_of_mem_take hx)) wd r (by rw [hpr]; simp)
    have hrz := rowsF_size ws wd (os.take k)
    have hsz8 := strs_size hS8
    rw [Array.length_toList] at hsz8
    have htk : (os.take k).length ≤ 4 := by rw [List.length_take]; omega
    rw [hpr] at hS8 hrs hrz hsz8
    rw [rowsStep_snoc] at hrs
    have hrz1 : 0 < rvs.size := by rw [hsz8]; simp
    have hrz2 : rvs.size ≤ 5 := by rw [hsz8]; omega
    have hr200 : r.length ≤ 200 := by omega
    k_steps
    · (rename Fr _ _ _ _ => F10); (rename News _ _ _ _ => N10)
      k_extra "te"; refine YStop.to ⟨_, _, _, F10, (fun q hq => N10 q (.tail _ hq)), ⟨oI, (N10 (I, oI) (by k_mem)).1, hcI, hdI⟩, ?_, mw, md, mr, rfl⟩
      rw [hrs, if_pos (by omega), Array.toList_push]
      exact strs_snoc hS8
    · (rename Fr _ _ _ _ => F10); (rename News _ _ _ _ => N10)
      k_extra "te"; refine YStop.to ⟨_, _, _, F10, (fun q hq => N10 q (.tail _ hq)), ⟨oI, (N10 (I, oI) (by k_mem)).1, hcI, hdI⟩, ?_, mw, md, mr, rfl⟩
      rw [hrs, if_neg (by omega)]
      exact strs_setLast hS8
  · rintro I s' h' tk' eI ⟨m8, rvs, rn, F8, N8, _, hS8, mw, md, mr, hs8⟩ hkeep9
    rw [hs8] at F8 N8 hkeep9 ⊢
    have l9 := y_apart N5 eI
    (repeat (first | (replace l9 := allNe_one l9) | (have := allNe_hd2 l9; replace l9 := allNe_tl2 l9)))
    obtain ⟨F9, N9⟩ := y_iter_end F5 eI (by k_extra "apart") F8 N8 hkeep9
    clear F5 N5 F8 N8
    dsimp only at F9 N9 ⊢
    rw [hOz, ← ho4, List.take_length] at hS8
    k_steps
    exact hret _ _ _ _ _ (by
    (rename Fr _ _ _ _ => F9); (rename News _ _ _ _ => N9)
    refine y_ge N0 hG F9 N9 ?_
    k_extra "ge") (by (rename News _ _ _ _ => N9); exact y_got N9 (by k_mem)) (by (rename News _ _ _ _ => N9); exact y_new N0 hG N9 (by k_mem) (by k_extra "apart")) hS8
end
section -- JNl
theorem zsJNl : True := by
  w_top off
  k_with_none
  k_with "omega" => (lia)
  k_with "ne" => ((refine neN ?_; (try dsimp only); first | exact YNe.to (by assumption) | exact YNe.to' (by assumption)))
  k_with "execs cons" => (refine y_consS ?_; intro sk9 qk9)
  k_with "ge" => first | exact y_all0 | (refine' y_allc ?gea ?geb; (case gea => first | (exact Or.inl (by k_mem)) | (exact Or.inr (by k_mem))); (case geb => k_extra "ge"))
  k_with "getAttr ref" => (k_here; k_dflt (refine' acc_getAttr ?F ?X ?N ?h1 ?h2 ?hf ?hl ?hv ?_; (case F | X | N => k_asm); (case h1 | h2 => k_mem); (case hf => k_is); (case hl => k_get); (case hv => k_handed); k_whole))
  k_with "setAttr ref" => (k_here; k_dflt (refine' acc_setAttrL ?F ?X ?N ?h1 ?h2 ?hf ?hl ?e ?U ?hz ?_; (case F | X | N => k_asm); (case h1 | h2 => k_mem); (case hf => k_is); (case hl => k_get); (case e => k_put); (case U => k_updF); (case hz => exact Nat.le_of_ble_eq_true rfl); k_whole; intro h9' F9' N9'; (try dsimp only at N9')))
  k_with "setItem ref ref" => (k_here; k_dflt (refine' acc_setsliceP ?F ?X ?N ?U ?h2 ?pl ?pu ?hl ?hz ?hy ?_; (case F | X | N => k_asm); (case U => k_updF); (case h2 => k_mem); (case pl | pu => first | exact IsPart.none | exact IsPart.int _ _); (case hl => k_mem); (case hz => omega); (case hy => first | omega | (simp; omega) | simp); k_whole; intro h9' n9' F9' N9'; (try dsimp only at N9')))
  k_with "truthy ref" => (k_here; k_dflt (refine' truthy_B ?B ?F ?X ?N ?T ?hkf ?hdp ?hun ?h1 ?h2 ?U ?hs ?hax ?hit ?hln ?htr ?hG0 ?_; (case B | F | X | N => k_asm); (case T => assumption); (case hkf => exact rfl); (case hdp => ktr_room); (case hun => ktr_units); (case h1 | h2 => k_mem); (case U => k_updF); (case hs => first | assumption | omega | (simp; omega) | exact ext_size (push_size (by assumption))); (case hax => first | assumption | exact YNe.to (by assumption) | exact YNe.to' (by assumption) | omega); (case hit => (first | assumption | exact Items.keep (by assumption) (Fr.keep (by k_asm)) | exact Items.push (Items.keep (by assumption) (Fr.keep (by k_asm))) (News.get (by k_asm) (by k_mem)) | exact Items.take (Items.push (Items.keep (by assumption) (Fr.keep (by k_asm))) (News.get (by k_asm) (by k_mem))) _)); (case hln => first | assumption | exact take_len (by assumption)); (case htr | hG0 => assumption); k_whole; intro t9' s9' ps9' F9' N9' ht9' hG9' ho9'; obtain ⟨hp9', gs9', d9', tk9', os9'⟩ := s9'; (try dsimp only at F9' N9' hG9' ho9')))
  k_with "call type:str" => (k_here; k_dflt (refine' str_B ?B ?F ?X ?N ?T ?hkf ?hdp ?hun ?h1 ?h2 ?U ?hs ?hax ?hit ?hln ?htr ?hG0 ?_; (case B | F | X | N => k_asm); (case T => assumption); (case hkf => exact rfl); (case hdp => ktr_room); (case hun => ktr_units); (case h1 | h2 => k_mem); (case U => k_updF); (case hs => first | assumption | omega | (simp; omega) | exact ext_size (push_size (by assumption))); (case hax => first | assumption | exact YNe.to (by assumption) | exact YNe.to' (by assumption) | omega); (case hit => (first | assumption | exact Items.keep (by assumption) (Fr.keep (by k_asm)) | exact Items.push (Items.keep (by assumption) (Fr.keep (by k_asm))) (News.get (by k_asm) (by k_mem)) | exact Items.take (Items.push (Items.keep (by assumption) (Fr.keep (by k_asm))) (News.get (by k_asm) (by k_mem))) _)); (case hln => first | assumption | exact take_len (by assumption)); (case htr | hG0 => assumption); k_whole; intro t9' s9' ps9' F9' N9' ht9' hG9' ho9'; obtain ⟨hp9', gs9', d9', tk9', os9'⟩ := s9'; (try dsimp only at F9' N9' hG9' ho9')))
  trivial
theorem reset0_spec
  (ac ax : Addr) (its : Array Value) (na : Nat) (hi isz : Int) (kt ti : Tok)
  (B : Below A₀ base outer h₀) (F : Fr h₀ L s.heap m) (X : (hd.heap_1 w.params).In h₀) (N : News h₀ L s.heap ([(ac, accObj ax its na), (ax, dictOf [⟨hi, .str "_initial_size" kt, .int isz ti⟩] 1)])) (T : Top p loose mean mg mb h₀) (hkf : cs.kind = .function)
  (hdp : dp + 1 < recursionLimit) (hun : un + 8 < cLine)
  (hs : its.size < 90) (hax : @Ne Nat ac ax)
  (hret : ∀ n' hi' kt' ti' h' tk', Ge [ac, ax] s.heap h' → h'.get? ac = some (accObj ax #[] n') → h'.get? ax = some (dictOf [⟨hi', .str "_initial_size" kt', .int 0 ti'⟩] 1) → Q .none { s with heap := h', toks := tk' }) :
  wpAny (model PySem.Challenge.rw_yj0031_01.row.prog w) (ktrTop dp un gd cn cs L a ccd cl outer) (call (.ref 220) [.ref ac]) Q E s := by
  revert X; k_fill; intro X
  refine wpAny_call ?_
  refine' y_code ?k1 ?k2 ?k3 ?k4 ?k5 ?kA ?kF ?kK ?k6 ?k7 ?k8 ?k9 ?kB ?_ ?c2 ?c3 ?c4 ?c5
  (case kA | kF => exact rfl); (case kK | k1 | k2 | k3 | k4 | k5 => assumption); (case k6 | k7 => k_is); (case k8 => ktr_room); (case k9 => first | exact BindsTo.of_eq rfl | exact binds_K (by k_in) rfl (by k_is) rfl rfl rfl); (case c5 => decide); (case kB => exact locs rfl); (case c2 | c3 | c4 => exact rfl); have N0 := YOld.mk N; clear B F X N T; intro g L1 h1 hG F1 N1 B1 X1 T1 l1; (try dsimp only); (try k_lt l1); (try k_fold)
  k_steps
  exact hret _ _ _ _ _ _ (by
    (rename Fr _ _ _ _ => F9); (rename News _ _ _ _ => N9)
    refine y_ge N0 hG F9 N9 ?_
    k_extra "ge") (by (rename News _ _ _ _ => N9); have e9 := y_got (a := ac) N9 (by k_mem); rw [slice_all] at e9; exact e9) (by (rename News _ _ _ _ => N9); exact y_got N9 (by k_mem))
theorem onlyws_spec
  (ac ax : Addr) (its : Array Value) (na : Nat) (hi : Int) (kt ti : Tok) (xs : List Str) (ps qs : Array Value)
  (B : Below A₀ base outer h₀) (F : Fr h₀ L s.heap m) (X : (hd.heap_1 w.params).In h₀) (N : News h₀ L s.heap ([(ac, accObj ax its na), (ax, dictOf [⟨hi, .str "_initial_size" kt, .int 0 ti⟩] 1), (200, tabObj ps), (207, tabObj qs)])) (T : Top p loose mean mg mb h₀) (hkf : cs.kind = .function)
  (hdp : dp + 3 < recursionLimit) (hun : un + 40 < cLine)
  (hs : its.size < 80) (hit : Items s.heap its xs) (hln : ∀ y ∈ xs, y.length ≤ 200) (htp : TriplesOk ps.toList) (htq : TriplesOk qs.toList) (hG0 : AllBare s.gens) (ht0 : total xs ≠ 0) (hns : Txt.isspace (Txt.join "" xs) = false) (hAll : AllNe2 [ac, ax, 200, 207])
  (hret : ∀ (s' : Shared) (ps' qs' : Array Value), Ge [200, 207] s.heap s'.heap → s'.heap.get? 200 = some (tabObj ps') → TriplesOk ps'.toList → s'.heap.get? 207 = some (tabObj qs') → TriplesOk qs'.toList → AllBare s'.gens → s'.os = s.os → Q (.bool false) s') :
  wpAny (model PySem.Challenge.rw_yj0031_01.row.prog w) (ktrTop dp un gd cn cs L a ccd cl outer) (call (.ref 227) [.ref ac]) Q E s := by
  revert X; k_fill; intro X
  refine wpAny_call ?_
  refine' y_code ?k1 ?k2 ?k3 ?k4 ?k5 ?kA ?kF ?kK ?k6 ?k7 ?k8 ?k9 ?kB ?_ ?c2 ?c3 ?c4 ?c5
  (case kA | kF => exact rfl); (case kK | k1 | k2 | k3 | k4 | k5 => assumption); (case k6 | k7 => k_is); (case k8 => ktr_room); (case k9 => first | exact BindsTo.of_eq rfl | exact binds_K (by k_in) rfl (by k_is) rfl rfl rfl); (case c5 => decide); (case kB => exact locs rfl); (case c2 | c3 | c4 => exact rfl); have N0 := YOld.mk N; clear B F X N T; intro g L1 h1 hG F1 N1 B1 X1 T1 l1; (try dsimp only); (try k_lt l1); (try k_fold)
  simp only [AllNe2, AllNe1, and_true, and_assoc] at hAll
  repeat (have := And.left hAll; replace hAll := And.right hAll)
  have I1 : Items g its xs := Items.led hit N0 hG rfl
  have hsz0 := hit.size
  k_steps
  · rw [hns]
    exact hret _ _ _ (by
    (rename Fr _ _ _ _ => F9); (rename News _ _ _ _ => N9)
    refine y_ge N0 hG F9 N9 ?_
    k_extra "ge") (by (rename News _ _ _ _ => N9); exact y_got N9 (by k_mem)) (by assumption) (by (rename News _ _ _ _ => N9); exact y_got N9 (by k_mem)) (by assumption) (by assumption) (by (rename @Eq OsState _ s.os => o9); (rename @Eq OsState _ _ => o10); exact o10.trans o9)
end
section -- JNlL
open PySem.Calls
theorem y_sub {h₀ h : Heap} {L : Addr} {sm led : List (Addr × Obj)} (N : News h₀ L h led) (hs : ∀ p ∈ sm, p ∈ led) : News h₀ L h sm := fun p hp => N p (hs p hp)
theorem sub1 {a : Addr × Obj} {l : List (Addr × Obj)} (h : a ∈ l) : ∀ p ∈ [a], p ∈ l := fun p hp => by rw [List.mem_singleton.mp hp]; exact h
variable {w p loose mean mg mb dp un gd cn cs a ccd cl outer A₀ base h₀ L m s Q E}
theorem reset0_L
  {news : List (Addr × Obj)} {ac ax : Addr} {its : Array Value} {na : Nat} {hi isz : Int} {kt ti : Tok} {gn : Obj → List (Addr × Obj)} {gn3 : Nat → Obj → List (Addr × Obj)}
  (B : Below A₀ base outer h₀) (F : Fr h₀ L s.heap m) (X : (hd.heap_1 w.params).In h₀) (N : News h₀ L s.heap news) (T : Top p loose mean mg mb h₀) (hkf : cs.kind = .function) (hdp : dp + 1 < recursionLimit) (hun : un + 8 < cLine)
  (U : UpdF ac (accObj ax its na) news gn) (h2 : (ax, dictOf [⟨hi, .str "_initial_size" kt, .int isz ti⟩] 1) ∈ news) (U2 : ∀ n, UpdF ax (dictOf [⟨hi, .str "_initial_size" kt, .int isz ti⟩] 1) (gn (accObj ax #[] n)) (gn3 n)) (hs : its.size < 90) (hax : @Ne Nat ac ax)
  (hret : ∀ n' hi' kt' ti' h' tk', Fr h₀ L h' m → News h₀ L h' (gn3 n' (dictOf [⟨hi', .str "_initial_size" kt', .int 0 ti'⟩] 1)) → Q .none { s with heap := h', toks := tk' }) :
  wpAny (model PySem.Challenge.rw_yj0031_01.row.prog w) (ktrTop dp un gd cn cs L a ccd cl outer) (call (.ref 220) [.ref ac]) Q E s := by
  refine reset0_spec _ _ _ _ _ _ _ _ _ _ _ _ _ _ _ _ _ _ _ _ _ _ _  _ _ _ _ _ _ _ _ B F X (y_sub N (subc (updF_mem U) (sub1 h2))) T hkf hdp hun hs hax ?_
  intro n' hi' kt' ti' h' tk' G e1 e2
  obtain ⟨F', N'⟩ := y_call2 F N U (U2 n') G e1 e2 h2 hax
  exact hret n' hi' kt' ti' h' tk' F' N'
theorem onlyws_L
  {news : List (Addr × Obj)} {ac ax : Addr} {its : Array Value} {na : Nat} {hi : Int} {kt ti : Tok} {xs : List Str} {ps qs : Array Value} {gn : Obj → List (Addr × Obj)} {gn3 : Obj → Obj → List (Addr × Obj)}
  (B : Below A₀ base outer h₀) (F : Fr h₀ L s.heap m) (X : (hd.heap_1 w.params).In h₀) (N : News h₀ L s.heap news) (T : Top p loose mean mg mb h₀) (hkf : cs.kind = .function) (hdp : dp + 3 < recursionLimit) (hun : un + 40 < cLine)
  (h1 : (ac, accObj ax its na) ∈ news) (h2 : (ax, dictOf [⟨hi, .str "_initial_size" kt, .int 0 ti⟩] 1) ∈ news) (U : UpdF 200 (tabObj ps) news gn) (h7 : (207, tabObj qs) ∈ news) (U2 : ∀ o, UpdF 207 (tabObj qs) (gn o) (gn3 o)) (hs : its.size < 80) (hit : Items s.heap its xs) (hln : ∀ y ∈ xs, y.length ≤ 200) (htp : TriplesOk ps.toList) (htq : TriplesOk qs.toList) (hG0 : AllBare s.gens) (ht0 : total xs ≠ 0) (hns : Txt.isspace (Txt.join "" xs) = false) (hAll : AllNe2 [ac, ax, 200, 207])
  (hret : ∀ (s' : Shared) (ps' qs' : Array Value), Fr h₀ L s'.heap m → News h₀ L s'.heap (gn3 (tabObj ps') (tabObj qs')) → TriplesOk ps'.toList → TriplesOk qs'.toList → AllBare s'.gens → s'.os = s.os → Q (.bool false) s') :
  wpAny (model PySem.Challenge.rw_yj0031_01.row.prog w) (ktrTop dp un gd cn cs L a ccd cl outer) (call (.ref 227) [.ref ac]) Q E s := by
  refine onlyws_spec _ _ _ _ _ _ _ _ _ _ _ _ _ _ _ _ _ _ _ _ _ _ _  _ _ _ _ _ _ _ xs ps qs B F X (y_sub N (subc h1 (subc h2 (subc (updF_mem U) (sub1 h7))))) T hkf hdp hun hs hit hln htp htq hG0 ht0 hns hAll ?_
  intro s' ps' qs' G e1 t1 e2 t2 hG ho
  obtain ⟨F', N'⟩ := y_call2 F N U (U2 _) G e1 e2 h7 (by decide)
  exact hret s' ps' qs' F' N' t1 t2 hG ho
end
section -- JTup
open PySem.Calls
section
variable {prog : Program} {w : World} {A : Around} {E : Value → Shared → Prop} {s : Shared} {T D : Addr} {Q : Value → Shared → Prop} {x : Str} {u v u' v' : Tok} {g h₀ : Heap} {L : Addr} {m : Str → Option Value} {news : List (Addr × Obj)}
theorem y_tupNe (F : Fr h₀ L s.heap m) (N : News h₀ L s.heap news) (hT : h₀.get? T = some (tupObj #[.str "" u, .str x v])) (hD : (D, tupObj #[.str " " u', .str "" v']) ∈ news) (hok : PyData.strOk x = true) (hu : A.units + 64 < cLine) (h : Q (.bool true) s) :
    wpAny (model prog w) A (compareOp .NotEq (.ref T) (.ref D)) Q E s := by
  refine ne_dataH (da := .tuple [.str "", .str x]) (db := .tuple [.str " ", .str ""]) (reads_tuple_at (vs := #[.str "" u, .str x v]) (F.keep _ _ hT) rfl rfl (.cons (.str _ _) (.cons (.str _ _) .nil))) (reads_tuple_at (vs := #[.str " " u', .str "" v']) (N _ hD).1 rfl rfl (.cons (.str _ _) (.cons (.str _ _) .nil))) ?_ ?_ hu ?_
  · simp [SeqAt.shaped, PyData.canLay0, PyData.canLayAll0, PyData.depth, PyData.depthAll, hok]; decide +kernel
  · simp [SeqAt.shaped, PyData.canLay0, PyData.canLayAll0, PyData.depth, PyData.depthAll]; decide +kernel
  · have : (PyData.eqv (.tuple [.str "", .str x]) (.tuple [.str " ", .str ""])) = false := by
      simp only [PyData.eqv, PyData.eqvAll]
      have : (("" : Str) == (" " : Str)) = false := by decide
      rw [this]; rfl
    rw [this]; exact h
theorem y_bindget {K : Frag} {x C f : Addr} {ox : Obj} {od : Option Obj} {name : Str} {expr : Bool} (X : K.In s.heap) (I : InstAt s.heap x ox C od) (hga : findIn K (.ref C) "__getattribute__" = some (some (.builtin "list.__getattribute__"))) (hgt : findIn K (.ref C) "__getattr__" = some none)
    (hm : mroIn K C (.type "list") = some true) (hf : findObj K C od name = some (.bind (.builtin "function.__get__") (.ref f))) (ht : typeIn K (.ref f) = some (.type "function"))
    (h : Q (.ref s.heap.objs.size) { s with heap := s.heap.push (methodObj (.ref f) (.ref x)), toks := s.toks + 1 }) : wpAny (model prog w) A (getAttr (.ref x) name expr) Q E s := by
  obtain ⟨hp, g, d, t, os⟩ := s
  have L0 := I.type (M := model prog w)
  have L1 := looks_findIn (M := model prog w) X hga
  have L2 := looks_findIn (M := model prog w) X hgt
  have L3 := looks_find (M := model prog w) X I hf
  have L4 := inst_of_list (prog := prog) (w := w) (s := ⟨hp, g, d, t, os⟩) X I hm
  unfold getAttr getAttrBy
  refine wpAny_bind (wpAny_mkText (wpAny_holding (wpAny_bind (L0.at (wpAny_bind (L1.at ?_))))))
  show wpAny _ _ (getAttrByItsOwn _ _ _ _ _ _) _ _ _
  unfold getAttrByItsOwn
  refine wpAny_bind (show wpAny _ _ (typeLookup _ _) _ _ _ from L2.at (wpAny_bind (wpAny_attempt (wpAny_holding ?_))))
  have e : callGetattribute (.ref x) (.str name t) (.builtin "list.__getattribute__") expr = boundAndCalled (.builtin "list.__getattribute__") (.ref x) (.str name t) := by
    unfold callGetattribute; cases expr <;> rfl
  rw [e]
  unfold boundAndCalled
  refine wpAny_bind (wpAny_of_eq (F.slot_list_getattribute.bind (.ref x)) ?_)
  refine wpAny_call ?_
  show codeAny _ _ (.call (.builtin "list.__getattribute__") ⟨[.ref x, .str name t], []⟩) _ _
  refine codeAny_call_builtin F.slot_list_getattribute.plain F.entry_list_ga (@check_slot (model prog w) _ _ ⟨hp, g, d, t + 1, os⟩ "list.__getattribute__" "list" "__getattribute__" (.ref x) [.str name t] [] _ lga_slot lga_split L4 (F.args_list_getattribute_2 _ _) ?_)
  refine wpAny_bind (wpAny_pure (wpAny_bind (wpAny_pure (wpAny_bind (L0.at (wpAny_bind (L3.at ?_)))))))
  show wpAny _ _ (holding [.ref f] (call (.builtin "function.__get__") [.ref f, .ref x, .ref C]) >>= ret) _ _ _
  refine wpAny_bind (wpAny_holding (wpAny_call (fn_get (s := ⟨hp, g, d, t + 1, os⟩) X ht ?_)))
  refine wpAny_pure ?_
  exact wpAny_pure h
end
section
variable {M : Model} {prog : Program} {w : World} {A : Around} {E : Value → Shared → Prop} {s : Shared} {h₀ : Heap} {L T : Addr} {m : Str → Option Value} {news : List (Addr × Obj)} {x ax f : Addr} {its : Array Value} {n : Nat} {es : List DictEntry} {nd : Nat} {name : Str} {expr : Bool}
theorem acc_bound {Q : Value → Shared → Prop} (F : Fr h₀ L s.heap m) (X : KH w h₀) (N : News h₀ L s.heap news) (h1 : (x, accObj ax its n) ∈ news) (h2 : (ax, dictOf es nd) ∈ news)
    (ha : findIn (hd.heap_1 w.params) (.ref 238) name = some (some (.ref f))) (ht : typeIn (hd.heap_1 w.params) (.ref f) = some (.type "function"))
    (hgf : specialIn (hd.heap_1 w.params) (.ref f) "__get__" = some (some (.builtin "function.__get__"))) (htk : takesIn (hd.heap_1 w.params) (.ref f) = some false) (hc : copiedNames.contains name = false) (hl : getL name es = some none)
    (h : ∀ q h', Fr h₀ L h' m → News h₀ L h' ((q, methodObj (.ref f) (.ref x)) :: news) → (∀ p ∈ news, p.1 < q) → Q (.ref q) { s with heap := h', toks := s.toks + 1 }) : wpAny (model prog w) A (getAttr (.ref x) name expr) Q E s :=
  y_bindget (X.keeps F.keep) (inst_seq N h1 h2) (acc_getattr_find w) (acc_getattr_none w) (acc_mro w) (findObj_fn (acc_hasDict w) ha hgf htk hc (by show lookIn name (dictOf es nd) = _; rw [lookIn_dict, hl])) ht
    (h s.heap.objs.size _ (F.push _) (N.push F _) fun p hp => Heap.lt_size (N p hp).1)
theorem callWith_SM {K : Frag} {q g : Addr} {self : Value} {env : Env} {pos p : Pos} {e : PySem.Expr} {first : List Value} {Q : Value → Shared → Prop} (_X : K.In h₀) (_N : News h₀ L s.heap news) (_q : (q, methodObj (.ref g) self) ∈ news) (hf : fnIn K g = true)
    (h : wpAny M A (eval e env) (fun v s₁ => StarOf M A E v (fun vs s₂ => MethP K q g self s₂.heap ∧ wpAny M A (call (.ref q) (first ++ vs)) Q E s₂) s₁) E s)
    (he : starEach [.Starred e p] env = [(true, eval e env)] := by rfl) :
    wpAny M A (callWith pos (.ref q) first (backTo pos (starEach [.Starred e p] env)) []) Q E s := by
  rw [he]
  exact ks_call rfl (keeps_M hf) (ks_lone h)
theorem star_base {a b : Value} {Q : List Value → Shared → Prop} (F : Fr h₀ L s.heap m) (N : News h₀ L s.heap news) (hT : h₀.get? T = some (tupObj #[a, b]))
    (h : ∀ h', Fr h₀ L h' m → News h₀ L h' news → Q [a, b] { s with heap := h' }) : StarOf (model prog w) A E (.ref T) Q s := by
  have D := F.keep _ _ hT
  have hT' : s.TypeIs (.ref T) "tuple" := ⟨_, D, rfl⟩
  have z : wpAny (model prog w) A (collect (.ref T)) Q E s := by
    refine wpAny_collect_seq T (.inr rfl) D rfl rfl (fun h' hk => h h' ?_ fun p hp => ⟨hk _ _ (N p hp).1, (N p hp).2⟩) (Nat.le_of_ble_eq_true rfl)
    obtain ⟨oL, es, ep, hL, r⟩ := F.ns
    exact ⟨⟨oL, es, ep, hk _ _ hL, r⟩, fun b x q => hk _ _ (F.keep b x q), F.above⟩
  unfold StarOf notIterableAtAll
  exact wpAny_bind (wpAny_specialOf hT' PySem.F.slot_tuple_iter.lookup (wpAny_pure ⟨rfl, z⟩))
end
theorem methodCall_S {M : Model} {A : Around} {E : Value → Shared → Prop} {s : Shared} {env : Env} {o e : PySem.Expr} {name : Str} {apos pos p : Pos} {Q : Value → Shared → Prop}
    (h : wpAny M A (eval o env) (fun ov s₁ => wpAny M A (getAttr ov name true) (fun f s₂ => wpAny M A (callWith pos f [] (backTo pos (starEach [.Starred e p] env)) []) Q E s₂) E s₁) E s)
    (he : eval (.Call (.Attribute o name apos) [.Starred e p] [] pos) env = (do
      let ov ← eval o env
      standAt apos.atName
      let (f, first) ← holding [ov] (do pure (← getAttr ov name true, []))
      callWith pos f first (backTo pos (starEach [.Starred e p] env)) []) := by rfl) :
    wpAny M A (eval (.Call (.Attribute o name apos) [.Starred e p] [] pos) env) Q E s := by
  rw [he]
  refine wpAny_bind (wpAny_mono h (fun ov s₁ h₁ => ?_) fun _ _ x => x)
  refine wpAny_bind (wpAny_standAt ?_)
  exact wpAny_bind (wpAny_holding (wpAny_bind (wpAny_mono h₁ (fun f s₂ h₂ => wpAny_pure h₂) fun _ _ x => x)))
end
section -- JTip
theorem zsJTip : True := by
  w_top off
  k_with_none
  k_with "omega" => (lia)
  k_with "execs cons" => (refine y_consS ?_; intro sk9 qk9)
  k_with "apart" => first | exact y_all0 | assumption | (refine' y_allc ?apa ?apb; (case apa => (try dsimp only); first | exact YNe.to (by assumption) | exact YNe.to' (by assumption) | (show @Ne Nat _ _; omega)); (case apb => k_extra "apart"))
  k_with "te" => first | refine TE.next (by assumption) _ ?_ | refine TE.cont (by assumption) _ ?_ | skip
  k_with "ge" => first | exact y_all0 | (refine' y_allc ?gea ?geb; (case gea => first | (exact Or.inl (by k_mem)) | (exact Or.inr (by k_mem))); (case geb => k_extra "ge"))
  k_with "pyIter ref" => (k_here; (with_reducible show wpAny _ _ (pyIter (Value.ref _)) (ForPack _ _ _ _ _ _ _ _) _ _); refine YStop.of ?_)
  k_with "exec For Name Name cons nil" => (k_here; (with_reducible show wpAny _ _ (exec (Stmt.For _ _ _ _ _) _) _ _ _); refine YStop.of ?_)
  k_with "loadName" => (k_here; k_dflt (refine' ldn ?k1 ?k2 ?_; (case k1 => k_asm); (case k2 => first | assumption | exact YUp.to (by assumption) | exact YUp.to (YUp.to (by assumption)) | exact YUp.to (YUp.to (YUp.to (by assumption)))); k_whole))
  k_with "eval Name" => (k_here; k_dflt (refine' ld ?k1 ?k2 ?_; (case k1 => k_asm); (case k2 => first | assumption | exact YUp.to (by assumption) | exact YUp.to (YUp.to (by assumption)) | exact YUp.to (YUp.to (YUp.to (by assumption)))); k_whole))
  trivial
noncomputable def tipF (ws : List Int) (q : Int) : List Int → Int → Option Int
  | [], _ => none
  | k :: os, a => if a < q ∧ q ≤ a + ws.getD k.toNat 0 then some k else tipF ws q os (a + ws.getD k.toNat 0)
theorem tipF_step {ws : List Int} {q a n r : Int} {os : List Int} {k : Nat} (hn : os[k]? = some n) (h : tipF ws q (os.drop k) a = some r) : (a < q ∧ q ≤ a + ws.getD n.toNat 0 ∧ r = n) ∨ (¬ (a < q ∧ q ≤ a + ws.getD n.toNat 0) ∧ tipF ws q (os.drop (k + 1)) (a + ws.getD n.toNat 0) = some r) := by
  have hk : k < os.length := by
    rcases Nat.lt_or_ge k os.length with h | h
    · exact h
    · rw [List.getElem?_eq_none h] at hn; cases hn
  rw [List.getElem?_eq_getElem hk] at hn
  rw [List.drop_eq_getElem_cons hk, Option.some.inj hn] at h
  unfold tipF at h
  split at h
  · rename_i hc; exact .inl ⟨hc.1, hc.2, (Option.some.inj h).symm⟩
  · rename_i hc; exact .inr ⟨hc, h⟩
theorem tip_spec
  (ol : Addr) (ovs : Array Value) (on : Nat) (os : List Int) (wl : Addr) (wvs : Array Value) (wn : Nat) (ws : List Int) (q r : Int) (t1 : Tok)
  (B : Below A₀ base outer h₀) (F : Fr h₀ L s.heap m) (X : (hd.heap_1 w.params).In h₀) (N : News h₀ L s.heap ([(ol, listOf ovs on), (wl, listOf wvs wn)])) (T : Top p loose mean mg mb h₀) (hkf : cs.kind = .function)
  (hdp : dp + 3 < recursionLimit) (hun : un + 24 < cLine)
  (hI : IntsAre wvs.toList ws) (hw4 : ws.length = 4) (hw : ∀ x ∈ ws, 1 ≤ x ∧ x ≤ 4) (hO : IntsAre ovs.toList os) (ho4 : os.length = 4) (hor : ∀ x ∈ os, 0 ≤ x ∧ x ≤ 3) (hol : @Ne Nat ol wl) (htip : tipF ws q os 0 = some r)
  (hret : ∀ (t : Tok) (tk' : Nat) h', Ge [] s.heap h' → Q (.int r t) { s with heap := h', toks := tk' }) :
  wpAny (model PySem.Challenge.rw_yj0031_01.row.prog w) (ktrTop dp un gd cn cs L a ccd cl outer) (call (.ref 409) [.ref ol, .ref wl, .int q t1]) Q E s := by
  revert X; k_fill; intro X
  refine wpAny_call ?_
  refine' y_code ?k1 ?k2 ?k3 ?k4 ?k5 ?kA ?kF ?kK ?k6 ?k7 ?k8 ?k9 ?kB ?_ ?c2 ?c3 ?c4 ?c5
  (case kA | kF => exact rfl); (case kK | k1 | k2 | k3 | k4 | k5 => assumption); (case k6 | k7 => k_is); (case k8 => ktr_room); (case k9 => first | exact BindsTo.of_eq rfl | exact binds_K (by k_in) rfl (by k_is) rfl rfl rfl); (case c5 => decide); (case kB => exact locs rfl); (case c2 | c3 | c4 => exact rfl); have N0 := YOld.mk N; clear B F X N T; intro g L1 h1 hG F1 N1 B1 X1 T1 l1; (try dsimp only); (try k_lt l1); (try k_fold)
  k_steps
  (rename Fr _ _ _ _ => F5); (rename News _ _ _ _ => N5)
  have hOz : ovs.size = 4 := by rw [← Array.length_toList, hO.length, ho4]
  refine y_for ?_ (fun _ => rfl)
  k_steps
  refine YStop.to (y_list (items := ovs) (l := ol) (J := fun I k s' => YStop (YEx2 fun m' a => ∃ ta, YAnd8 (Fr g L1 s'.heap m') (News g L1 s'.heap [(ol, listOf ovs on), (wl, listOf wvs wn)]) (s'.heap.IsListIter I ol k) (tipF ws q (os.drop k) a = some r) ((0 ≤ a ∧ a ≤ 4 * k)) (m' "weights" = some (.ref wl)) (m' "quota" = some (.int q t1)) (m' "ahead" = some (.int a ta) ∧ s' = { s with heap := s'.heap, toks := s'.toks }))) rfl ⟨listOf ovs on, (N5 (ol, listOf ovs on) (by k_mem)).1, rfl, on, rfl⟩ ?_ ?_ ?_ ?_)
  · intro I h2 eI hk2 hit2
    exact ⟨_, _, _, F5.keeps hk2, (fun q hq => ⟨hk2 _ _ (N5 q hq).1, (N5 q hq).2⟩), hit2, htip, ⟨by decide, by decide⟩, rfl, rfl, rfl, rfl⟩
  · rintro I k s' ⟨m', a, ta, F', N', hit', _⟩
    exact ⟨hit', ⟨listOf ovs on, (N' (ol, listOf ovs on) (by k_mem)).1, rfl, on, rfl⟩⟩
  · rintro I k s' v h' tk' eI hk hv ⟨m8, a, ta, F8, N8, _, ht8, ha8, mw, mq, ma, hs8⟩ hit9 hkeep9 KR9 hKR9
    rw [hs8] at F8 N8 hkeep9 ⊢
    obtain ⟨n9, t9, rfl, hn9⟩ := hO.at k v (by rw [Array.getElem?_toList]; exact hv)
    obtain ⟨oI, hoI, hcI, hdI⟩ := hit9
    have l9 := y_apart N5 eI
    (repeat (first | (replace l9 := allNe_one l9) | (have := allNe_hd2 l9; replace l9 := allNe_tl2 l9)))
    obtain ⟨F9, N9⟩ := y_iter_step2 F5 eI (by k_extra "apart") F8 N8 hkeep9 hoI
    clear F5 N5 F8 N8
    (try dsimp only at F9 N9 ⊢)
    have hnr := hor n9 (List.mem_of_getElem? hn9)
    have hnn : 0 ≤ n9 ∧ n9 < 4 := by omega
    have hwr := getD_rng hw (show n9.toNat < ws.length by omega)
    have hst := tipF_step hn9 ht8
    k_steps
    · (rename Fr _ _ _ _ => F9); (rename News _ _ _ _ => N9)
      rcases hst with ⟨_, _, rfl⟩ | ⟨h, _⟩
      · (try dsimp only)
        refine TE.ret (by assumption) _ _ ?_
        exact hret _ _ _ (y_ge N0 hG F9 N9 (by k_extra "ge"))
      · exact absurd ⟨by assumption, by assumption⟩ h
    all_goals
      (rename Fr _ _ _ _ => F10); (rename News _ _ _ _ => N10)
      k_extra "te"; refine YStop.to ⟨_, _, _, F10, (fun q hq => N10 q (.tail _ hq)), ⟨oI, (N10 (I, oI) (by k_mem)).1, hcI, hdI⟩, ?_, ⟨?_, ?_⟩, mw, mq, rfl, rfl⟩
    all_goals first
      | omega
      | (rcases hst with ⟨_, _, _⟩ | ⟨_, h⟩
         · first | exact absurd (by assumption) (by assumption) | omega
         · exact h)
  · rintro I s' h' tk' eI ⟨m8, a, ta, F8, N8, _, ht8, ha8, mw, mq, ma, hs8⟩ hkeep9
    rw [show ovs.size = os.length by omega, List.drop_length] at ht8
    cases ht8
end
section -- JPushC
theorem zsJPushC : True := by
  w_top off
  k_with_none
  k_with "omega" => (lia)
  k_with "execs cons" => (refine y_consS ?_; intro sk9 qk9)
  k_with "apart" => first | exact y_all0 | assumption | (refine' y_allc ?apa ?apb; (case apa => (try dsimp only); first | exact YNe.to (by assumption) | exact YNe.to' (by assumption) | (show @Ne Nat _ _; omega)); (case apb => k_extra "apart"))
  k_with "ge" => first | exact y_all0 | (refine' y_allc ?gea ?geb; (case gea => first | (exact Or.inl (by k_mem)) | (exact Or.inr (by k_mem))); (case geb => k_extra "ge"))
  k_with "getMethod ref" => (k_here; k_dflt (refine' sup_meth_m ?F ?X ?N ?hso ?h1 ?h2 ?hf ?hty ?hn ?htold ?hsp ?_; (case F | X | N => k_asm); (case hso | h1 | h2 => k_mem); (case hf => exact acc_along_pop _); (case hty => exact PySem.F.type_list_pop); (case hn => decide); (case htold | hsp => decide +kernel); k_whole; intro q9' h9' F9' N9' lz1; (try k_lt lz1)))
  k_with "getMethod ref" => (k_here; k_dflt (refine' sup_meth_w ?F ?X ?N ?hso ?h1 ?h2 ?hf ?hty ?hn ?hsp ?_; (case F | X | N => k_asm); (case hso | h1 | h2 => k_mem); (case hf => first | exact acc_along_len _ | exact acc_along_init _); (case hty => first | exact ty_len | exact ty_init); (case hn => decide); (case hsp => decide +kernel); k_whole; intro q9' h9' F9' N9' lz1; (try k_lt lz1)))
  k_with "getMethod ref" => (k_here; k_dflt (refine' acc_getMethod_bi ?F ?X ?N ?h1 ?h2 ?hf ?ht ?hs ?_; (case F | X | N => k_asm); (case h1 | h2 => k_mem); (case hf | ht => k_is); (case hs => k_get); k_whole))
  k_with "getMethod ref" => (k_here; k_dflt (refine' acc_getMethod_fn ?F ?X ?N ?h1 ?h2 ?hf ?ht ?hs ?_; (case F | X | N => k_asm); (case h1 | h2 => k_mem); (case hf | ht => k_is); (case hs => k_get); k_whole))
  k_with "call builtin:list.append" => (k_here; k_dflt (refine' acc_appendL ?F ?X ?N ?h2 ?U ?hz ?_; (case F | X | N => k_asm); (case U => k_updF); (case h2 => k_mem); (case hz => omega); k_whole; intro h9' n9' F9' N9'; (try dsimp only at N9')))
  trivial
theorem push_code
  (ac ax : Addr) (its : Array Value) (na : Nat) (hi isz : Int) (kt ti : Tok) (f x : Value)
  (B : Below A₀ base outer h₀) (F : Fr h₀ L s.heap m) (X : (hd.heap_1 w.params).In h₀) (N : News h₀ L s.heap ([(ac, accObj ax its na), (ax, dictOf [⟨hi, .str "_initial_size" kt, .int isz ti⟩] 1)])) (T : Top p loose mean mg mb h₀) (hkf : cs.kind = .function)
  (hdp : dp + 1 < recursionLimit) (hun : un + 8 < cLine)
  (hs : its.size < 100) (hax : @Ne Nat ac ax)
  (hret : ∀ t n' h' tk', Ge [ac] s.heap h' → h'.get? ac = some (accObj ax (its.push (.ref t)) n') → h'.get? t = some { cls := .type "tuple", data := .seq #[f, x] } → s.heap.get? t = none → Q .none { s with heap := h', toks := tk' }) :
  codeAny (model PySem.Challenge.rw_yj0031_01.row.prog w) (ktrTop dp un gd cn cs L a ccd cl outer) (.call (.ref 182) ⟨[.ref ac, f, x], []⟩) (fun r s' => match r with | .ok (.ret v) => Q v s' | .ok _ => False | .error e => E e s') s := by
  revert X; k_fill; intro X
  refine' y_code ?k1 ?k2 ?k3 ?k4 ?k5 ?kA ?kF ?kK ?k6 ?k7 ?k8 ?k9 ?kB ?_ ?c2 ?c3 ?c4 ?c5
  (case kA | kF => exact rfl); (case kK | k1 | k2 | k3 | k4 | k5 => assumption); (case k6 | k7 => k_is); (case k8 => ktr_room); (case k9 => first | exact BindsTo.of_eq rfl | exact binds_K (by k_in) rfl (by k_is) rfl rfl rfl); (case c5 => decide); (case kB => exact locs rfl); (case c2 | c3 | c4 => exact rfl); have N0 := YOld.mk N; clear B F X N T; intro g L1 h1 hG F1 N1 B1 X1 T1 l1; (try dsimp only); (try k_lt l1); (try k_fold)
  k_steps
  exact hret _ _ _ _ (by
    (rename Fr _ _ _ _ => F9); (rename News _ _ _ _ => N9)
    refine y_ge N0 hG F9 N9 ?_
    k_extra "ge") (by (rename News _ _ _ _ => N9); exact y_got N9 (by k_mem)) (by (rename News _ _ _ _ => N9); exact y_got N9 (by k_mem)) (by (rename News _ _ _ _ => N9); exact y_new N0 hG N9 (by k_mem) (by k_extra "apart"))
variable {w p loose mean mg mb dp un gd cn cs a ccd cl outer A₀ base h₀ L m s Q E}
theorem push_M
  {news : List (Addr × Obj)} {gn : Obj → List (Addr × Obj)} {q ac ax : Addr} {its : Array Value} {na : Nat} {hi isz : Int} {kt ti : Tok} {f x : Value}
  (B : Below A₀ base outer h₀) (F : Fr h₀ L s.heap m) (X : (hd.heap_1 w.params).In h₀) (N : News h₀ L s.heap news) (T : Top p loose mean mg mb h₀) (hkf : cs.kind = .function) (hdp : dp + 1 < recursionLimit) (hun : un + 8 < cLine) (hq : (q, methodObj (.ref 182) (.ref ac)) ∈ news)
  (U : UpdF ac (accObj ax its na) news gn) (h2 : (ax, dictOf [⟨hi, .str "_initial_size" kt, .int isz ti⟩] 1) ∈ news) (hs : its.size < 100) (hax : @Ne Nat ac ax)
  (hret : ∀ t n' h' tk', Fr h₀ L h' m → News h₀ L h' ((t, tupObj #[f, x]) :: gn (accObj ax (its.push (.ref t)) n')) → AllNe t news → Q .none { s with heap := h', toks := tk' }) :
  wpAny (model PySem.Challenge.rw_yj0031_01.row.prog w) (ktrTop dp un gd cn cs L a ccd cl outer) (call (.ref q) [f, x]) Q E s := by
  refine wpAny_call (PySem.W.method_call (N _ hq).1 (push_code _ _ _ _ _ _ _ _ _ _ _ _ _ _ _ _ _ _ _ _ _ _ _  ac ax its na hi isz kt ti f x B F X (news2 N (updF_mem U) h2) T hkf hdp hun hs hax ?_))
  intro t n' h' tk' G e1 e2 e3
  obtain ⟨F', N'⟩ := y_call1 F N U G e1
  exact hret t n' h' tk' F' (y_fresh F N' e3 e2) (y_apart N e3)
end
section -- JMake
open PySem.Calls PySem.Builtin PySem.Builtin.ObjectAttr PySem.Builtin.Getset_descriptor
structure MakesL (M : Model) (h : Heap) (C : Addr) : Prop where
  obj : ∃ oc od cd sl, h.get? C = some ⟨oc, od, .cls cd, sl⟩ ∧ cd.abstract = false ∧ cd.hasDel = false ∧ cd.mro.isEmpty = false
  made : Looks M h (Bind.madeBy (.ref C)) (some "list.__new__")
  base : Looks M h (Bind.staticBase (.ref C)) (.ref C)
  self : Looks M h (isSubtype (.ref C) (.ref C)) true
  sub : Looks M h (isSubtype (.ref C) (.type "list")) true
  call : Looks M h (specialOf (.ref C) "__call__") (some (.builtin "type.__call__"))
  typ : Looks M h (isInstance (.ref C) (.type "type")) true
noncomputable def makesInL (K : Frag) (C : Addr) : Bool := match K.lookup C with
  | some ⟨_, _, .cls cd, sl⟩ => !cd.abstract && !cd.hasDel && (sl.toList[4]?).join == some (.builtin "list.__new__") && !cd.mro.isEmpty && cd.mro.contains (.ref C) && cd.mro.contains (.type "list") &&
      specialIn K (.ref C) "__call__" == some (some (.builtin "type.__call__")) && instIn K (.ref C) (.type "type") == some true
  | _ => false
theorem makesL_of {K : Frag} {M : Model} {h : Heap} (X : K.In h) {C : Addr} (e : makesInL K C = true) : MakesL M h C := by
  unfold makesInL at e
  split at e
  · rename_i oc od cd sl ho
    simp only [Bool.and_eq_true, Bool.not_eq_true', beq_iff_eq] at e
    obtain ⟨⟨⟨⟨⟨⟨⟨e1, e2⟩, e3⟩, e4⟩, e5⟩, e6⟩, e7⟩, e8⟩ := e
    have hc : clsIn K C = some cd := by unfold clsIn; rw [ho]
    have hm : Looks M h (mroOf (.ref C)) cd.mro := (looks_clsIn X hc).andThen .now
    obtain ⟨c, l, hl⟩ : ∃ c l, cd.mro = c :: l := by cases q : cd.mro with | nil => rw [q] at e4; cases e4 | cons c l => exact ⟨c, l, rfl⟩
    have made : Looks M h (Bind.madeBy (.ref C)) (some "list.__new__") := by
      intro A Q E s k q
      unfold Bind.madeBy
      refine wpAny_bind (hm A _ E s k ?_)
      rw [hl, List.forIn_cons]
      refine wpAny_bind (wpAny_bind (wpAny_bind (wpAny_bind (wpAny_loadPart (k _ _ (X _ _ ho)) (wpAny_pure ?_)))))
      dsimp only
      rw [← Array.getElem?_toList, e3]
      exact wpAny_pure (wpAny_pure (wpAny_pure q))
    refine ⟨⟨oc, od, cd, sl, X _ _ ho, e1, e2, e4⟩, made, ?_, looks_mroIn X ?_, looks_mroIn X ?_, looks_specialIn X e7, looks_instIn X e8⟩
    · intro A Q E s k q
      unfold Bind.staticBase
      refine wpAny_bind (hm A _ E s k ?_)
      rw [hl, List.forIn_cons]
      exact wpAny_bind (wpAny_bind (wpAny_bind (made A _ E s k (wpAny_pure (wpAny_pure (wpAny_pure q))))))
    · unfold mroIn; rw [hc, Option.bind_some, if_neg (by rw [e4]; decide), e5]
    · unfold mroIn; rw [hc, Option.bind_some, if_neg (by rw [e4]; decide), e6]
  · cases e
noncomputable abbrev lstObj (C dx : Addr) : Obj := { cls := .ref C, dict := some dx, data := .seq #[] 0 }
theorem ln_kind : builtinKind "list.__new__" = some .builtinFn := by decide +kernel
theorem ln_split : splitId "list.__new__" = some ("list", "__new__") := by decide +kernel
theorem ln_args (C : Addr) (a : Value) : argsOk "list.__new__" ⟨[.ref C, a], []⟩ := by unfold argsOk; kernel_rfl
section
variable {prog : Program} {w : World} {A : Around} {C : Addr} {R : Result → Shared → Prop} {h : Heap} {g : Array GenState} {d : Drawn} {t : Nat} {os : OsState}
theorem newL {a : Value} (Y : MakesL (model prog w) h C) (hq : R (.ok (.ret (.ref (h.objs.size + 1)))) ⟨(h.push emptyDict).push (lstObj C h.objs.size), g, d, t, os⟩) :
    codeAny (model prog w) A (.call (.builtin "list.__new__") ⟨[.ref C, a], []⟩) R ⟨h, g, d, t, os⟩ := by
  obtain ⟨⟨oc, od, cd, sl, hC, e1, e2, e4⟩, made, base, self, sub, call, typ⟩ := Y
  obtain ⟨sig, hsig⟩ : ∃ sig, Manifest.signature? "list.__new__" = some sig := Option.isSome_iff_exists.mp (by decide +kernel)
  have ha := ln_args C a
  simp only [argsOk, hsig] at ha
  have h2 : Bind.checkArgs "list.__new__" sig ⟨[.ref C, a], []⟩ = pure () := ha
  refine codeAny_call_builtin_code (Code.quiet_builtin _ (by decide +kernel)) ?_
  simp only [checkBuiltinCall, ln_kind, ln_split, hsig]
  rw [h2]
  repeat (first | ((with_reducible refine' wp_neg ?hc ?_); (case hc => first | exact Bool.false_ne_true | (simp; done))) | ((with_reducible refine' wp_negB ?hc ?_); (case hc => first | exact Bool.false_ne_true | (simp; done))) | lk | simp only [bne_self_eq_false, Bool.false_eq_true, if_false])
  refine codeAny_builtin_stack F.entry_list_new rfl fun p st => ?_
  rw [Around.under_plainId F.plain_list_new _]
  have hown := owner_list_new
  simp only [hown]
  have hC' : ∀ o, ((h.push emptyDict).push o).get? C = some ⟨oc, od, .cls cd, sl⟩ := fun o => Heap.get?_push_of_some _ (Heap.get?_push_of_some emptyDict hC)
  repeat (first | ((with_reducible refine' wp_neg ?hc ?_); (case hc => first | exact Bool.false_ne_true | (simp; done))) | ((with_reducible refine' wp_negB ?hc ?_); (case hc => first | exact Bool.false_ne_true | (simp; done))) | lk | simp only [bne_self_eq_false, Bool.false_eq_true, if_false])
  refine wpAny_load (hC' _) ?_
  refine wpAny_pure ?_
  rw [e2]
  repeat (first | ((with_reducible refine' wp_neg ?hc ?_); (case hc => first | exact Bool.false_ne_true | (simp; done))) | ((with_reducible refine' wp_negB ?hc ?_); (case hc => first | exact Bool.false_ne_true | (simp; done))) | lk | simp only [Bool.false_eq_true, if_false])
  show R _ _
  rw [Heap.size_push]
  exact hq
theorem makeL {a : Value} {init : Addr} (Y : MakesL (model prog w) h C) (hi : Looks (model prog w) h (typeLookup (.ref C) "__init__") (some (.ref init)))
    (hb : ∀ self, Looks (model prog w) h (bindSpecial (.ref init) self) (.ref init, [self]))
    (hq : codeAny (model prog w) (A.under (.builtin "type.__call__" ⟨[.ref C, a], []⟩)) (.call (.ref init) ⟨[.ref (h.objs.size + 1), a], []⟩) (InitBack (h.objs.size + 1) R) ⟨(h.push emptyDict).push (lstObj C h.objs.size), g, d, t, os⟩) :
    codeAny (model prog w) A (.call (.ref C) ⟨[a], []⟩) R ⟨h, g, d, t, os⟩ := by
  have Y' := Y
  obtain ⟨⟨oc, od, cd, sl, hC, e1, e2, e4⟩, made, base, self, sub, call, typ⟩ := Y
  refine codeAny_of_tree ?_
  show wpAny _ _ (callAny (.ref C) _) _ _ _
  refine nd_load hC ?_
  show wpAny _ _ (callAny.viaDunder (.ref C) _) _ _ _
  unfold callAny.viaDunder
  refine wpAny_bind (call.at ?_)
  dsimp only
  rw [tc_bind]
  refine wpAny_bind (wpAny_pure (wpAny_bind (wpAny_pure ?_)))
  refine wpAny_pure (a := Fin.again (.call (.builtin "type.__call__") ⟨[.ref C, a], []⟩)) (And.intro rfl ?_)
  refine codeAny_call_builtin_at (Code.quiet_builtin _ (by decide +kernel)) entry_typeCall (PySem.W.check_slot tc_kind tc_split typ (tc_args _ _ _) ?_)
  unfold Builtin.«type.__call__»
  have hm : Looks (model prog w) h (mroOf (.ref C)) cd.mro := ((Looks.ld (part := none) hC).andThen .now).andThen .now
  repeat (first | ((with_reducible refine' wp_neg ?hc ?_); (case hc => first | exact Bool.false_ne_true | (simp [e4]; done))) | ((with_reducible refine' wp_negB ?hc ?_); (case hc => first | exact Bool.false_ne_true | (simp [e4]; done))) | with_reducible refine wpAny_call ?_ | lk | simp only [e4, Bool.false_eq_true, if_false])
  refine newL Y' ?_
  have k : ∀ b o, h.get? b = some o → ((h.push emptyDict).push (lstObj C h.objs.size)).get? b = some o := fun b o e => Heap.get?_push_of_some _ (Heap.get?_push_of_some _ e)
  have hx : ((h.push emptyDict).push (lstObj C h.objs.size)).get? (h.objs.size + 1) = some (lstObj C h.objs.size) := by heap_get
  have t1 : Looks (model prog w) ((h.push emptyDict).push (lstObj C h.objs.size)) (typeOf (.ref (h.objs.size + 1))) (.ref C) := (Looks.ld hx).andThen .now
  have s1 := self.keeps k
  have i1 := hi.keeps k
  have b1 := (hb (.ref (h.objs.size + 1))).keeps k
  unfold isInstance callSpecial? specialOf
  repeat (first | with_reducible refine wpAny_call ?_ | lk)
  refine codeAny_mono hq fun r s' z => ?_
  rcases r with e | (v | _ | _ | _) <;> first | exact z | exact z.elim | skip
  obtain ⟨rfl, z⟩ := z
  exact wpAny_pure (wpAny_pure z)
end
section
variable {prog : Program} {w : World} {A : Around} {E : Value → Shared → Prop} {s : Shared} {h₀ : Heap} {L : Addr} {m : Str → Option Value} {news : List (Addr × Obj)} {a : Value} {Q : Value → Shared → Prop}
theorem acc_makes (w : World) : makesInL (hd.heap_1 w.params) 238 = true := by kernel_rfl
theorem acc_finit (w : World) : findIn (hd.heap_1 w.params) (.ref 238) "__init__" = some (some (.ref 175)) := by kernel_rfl
theorem acc_tinit (w : World) : typeIn (hd.heap_1 w.params) (.ref 175) = some (.type "function") := by kernel_rfl
theorem acc_new (F : Fr h₀ L s.heap m) (X : KH w h₀) (N : News h₀ L s.heap news)
    (h : ∀ x dx h', Fr h₀ L h' m → News h₀ L h' ((x, lstObj 238 dx) :: (dx, dictOf [] 0) :: news) → (∀ p ∈ news, p.1 < dx) → dx < x →
      codeAny (model prog w) (A.under (.builtin "type.__call__" ⟨[.ref 238, a], []⟩)) (.call (.ref 175) ⟨[.ref x, a], []⟩) (InitBack x fun r s' => match r with | .ok (.ret v) => Q v s' | .ok _ => False | .error e => E e s') { s with heap := h' }) :
    wpAny (model prog w) A (call (.ref 238) [a]) Q E s := by
  obtain ⟨hh, g, d, t, os⟩ := s
  have X' := X.keeps F.keep
  refine wpAny_call (makeL (makesL_of X' (acc_makes w)) (looks_findIn X' (acc_finit w)) (fun self => bind_fn X' self (acc_tinit w)) (h _ hh.objs.size _ ((F.push _).push _) ?_ (fun p hp => Heap.lt_size (N p hp).1) (Nat.lt_succ_self _)))
  have := (N.push F emptyDict).push (F.push _) (lstObj 238 hh.objs.size)
  rwa [Heap.size_push] at this
end
end
section -- JAccI
theorem zsJAccI : True := by
  w_top off
  k_with_none
  k_with "omega" => (lia)
  k_with "inst" => ((refine' inst_seq ?N ?h1 ?h2; (case N => k_asm); (case h1 | h2 => k_mem)))
  k_with "ge" => first | exact y_all0 | (refine' y_allc ?gea ?geb; (case gea => first | (exact Or.inl (by k_mem)) | (exact Or.inr (by k_mem))); (case geb => k_extra "ge"))
  k_with "getMethod ref" => (k_here; k_dflt (refine' sup_meth_m ?F ?X ?N ?hso ?h1 ?h2 ?hf ?hty ?hn ?htold ?hsp ?_; (case F | X | N => k_asm); (case hso | h1 | h2 => k_mem); (case hf => exact acc_along_pop _); (case hty => exact PySem.F.type_list_pop); (case hn => decide); (case htold | hsp => decide +kernel); k_whole; intro q9' h9' F9' N9' lz1; (try k_lt lz1)))
  k_with "getMethod ref" => (k_here; k_dflt (refine' sup_meth_w ?F ?X ?N ?hso ?h1 ?h2 ?hf ?hty ?hn ?hsp ?_; (case F | X | N => k_asm); (case hso | h1 | h2 => k_mem); (case hf => first | exact acc_along_len _ | exact acc_along_init _); (case hty => first | exact ty_len | exact ty_init); (case hn => decide); (case hsp => decide +kernel); k_whole; intro q9' h9' F9' N9' lz1; (try k_lt lz1)))
  k_with "getMethod ref" => (k_here; k_dflt (refine' acc_getMethod_bi ?F ?X ?N ?h1 ?h2 ?hf ?ht ?hs ?_; (case F | X | N => k_asm); (case h1 | h2 => k_mem); (case hf | ht => k_is); (case hs => k_get); k_whole))
  k_with "getMethod ref" => (k_here; k_dflt (refine' acc_getMethod_fn ?F ?X ?N ?h1 ?h2 ?hf ?ht ?hs ?_; (case F | X | N => k_asm); (case h1 | h2 => k_mem); (case hf | ht => k_is); (case hs => k_get); k_whole))
  k_with "setAttr ref" => (k_here; k_dflt (refine' acc_setAttrL ?F ?X ?N ?h1 ?h2 ?hf ?hl ?e ?U ?hz ?_; (case F | X | N => k_asm); (case h1 | h2 => k_mem); (case hf => k_is); (case hl => k_get); (case e => k_put); (case U => k_updF); (case hz => exact Nat.le_of_ble_eq_true rfl); k_whole; intro h9' F9' N9'; (try dsimp only at N9')))
  k_with "callWith ref" => (k_here; k_dflt (refine' callWith_bnd ?N ?hm ?ho ?_; (case N => k_asm); (case hm => k_mem); (case ho => exact ⟨_, _, .inl rfl⟩); k_whole))
  k_with "call ref" => (k_here; k_dflt (refine' bnd_pop ?F ?X ?N ?hq ?U ?h2 ?hz ?_; (case F | X | N => k_asm); (case hq => k_mem); (case U => k_updF); (case h2 => k_mem); (case hz => omega); k_whole; intro h9' n9' F9' N9'; (try dsimp only at N9')))
  k_with "call ref" => (k_here; k_dflt (refine' bnd_init ?F ?X ?N ?hq ?U ?h2 ?_; (case F | X | N => k_asm); (case hq => k_mem); (case U => k_updF); (case h2 => k_mem); k_whole; intro h9' n9' F9' N9'; (try dsimp only at N9')))
  k_with "call ref" => (k_here; k_dflt (refine' bnd_len ?F ?X ?N ?hq ?h1 ?h2 ?_; (case F | X | N => k_asm); (case hq | h1 | h2 => k_mem); k_whole))
  trivial
theorem under_make1 {dp un : Nat} {gd : Option (List Code)} {cn : Str} {cs : Scope} {L a : Addr} {ccd : Value} {cl : List (Str × Addr)} {outer : List Env} (C : Addr) (vs : List Value) :
    (ktrTop dp un gd cn cs L a ccd cl outer).under (.builtin "type.__call__" ⟨.ref C :: vs, []⟩) = ktrTop (dp + 1) (un + 1) gd cn cs L a ccd cl outer := by
  have e1 : (Code.builtin "type.__call__" ⟨.ref C :: vs, []⟩).weight = 1 := rfl
  have e2 : (Code.builtin "type.__call__" ⟨.ref C :: vs, []⟩).envs = [] := rfl
  have e3 : (Code.builtin "type.__call__" ⟨.ref C :: vs, []⟩).guards = [] := rfl
  have e4 : (Code.builtin "type.__call__" ⟨.ref C :: vs, []⟩).cUnits = 1 := by kernel_rfl
  simp only [Around.under, e1, e2, e3, e4]
  cases gd <;> rfl
theorem accinit_code
  (ac ax : Addr) (t1 : Tok)
  (B : Below A₀ base outer h₀) (F : Fr h₀ L s.heap m) (X : (hd.heap_1 w.params).In h₀) (N : News h₀ L s.heap ([(ac, accObj ax #[] 0), (ax, dictOf [] 0)])) (T : Top p loose mean mg mb h₀) (hkf : cs.kind = .function)
  (hdp : dp + 3 < recursionLimit) (hun : un + 24 < cLine)
  (hax : @Ne Nat ac ax)
  (hret : ∀ n' hi' kt' ti' h' tk', Ge [ac, ax] s.heap h' → h'.get? ac = some (accObj ax #[] n') → h'.get? ax = some (dictOf [⟨hi', .str "_initial_size" kt', .int 0 ti'⟩] 1) → Q .none { s with heap := h', toks := tk' }) :
  codeAny (model PySem.Challenge.rw_yj0031_01.row.prog w) (ktrTop dp un gd cn cs L a ccd cl outer) (.call (.ref 175) ⟨[.ref ac, .int 0 t1], []⟩) (fun r s' => match r with | .ok (.ret v) => Q v s' | .ok _ => False | .error e => E e s') s := by
  revert X; k_fill; intro X
  refine' y_codeS ?k1 ?k2 ?k3 ?k4 ?k5 ?kA ?kF ?kK ?k6 ?k7 ?k8 ?k9 ?kB ?_ ?c5 ?c2 ?c3 ?c4
  (case kA | kF => exact rfl); (case kK | k1 | k2 | k3 | k4 | k5 => assumption); (case k6 | k7 => k_is); (case k8 => ktr_room); (case k9 => first | exact BindsTo.of_eq rfl | exact binds_K (by k_in) rfl (by k_is) rfl rfl rfl); (case c5 => decide); (case kB => exact locs rfl); (case c2 | c3 | c4 => exact rfl); have N0 := YOld.mk N; clear B F X N T; intro g L1 h1 hG F1 N1 B1 X1 T1 l1; (try dsimp only); (try k_lt l1); (try k_fold)
  refine ks_wpAt_execs_cons ?_
  refine wpAt_of_wpAny ?_
  repeat' ((fail_if_success (show PySem.wpAt _ _ _ _ _ _ _)); first | (k_unfold; (try dsimp only)) | (k_end; wrow_close) | walk1 | (dsimp only; walk1) | (leave1; (try dsimp only)))
  show PySem.wpAt _ _ _ _ _ _ _
  refine ks_wpAt_execs_cons ?_
  refine ks_wpAt_Expr_any ?_
  refine ks_wpAt_MethodCall ?_
  k_steps
  exact hret _ _ _ _ _ _ (by
    (rename Fr _ _ _ _ => F9); (rename News _ _ _ _ => N9)
    refine y_ge N0 hG F9 N9 ?_
    k_extra "ge") (by (rename News _ _ _ _ => N9); exact y_got N9 (by k_mem)) (by (rename News _ _ _ _ => N9); exact y_got N9 (by k_mem))
variable {w p loose mean mg mb dp un gd cn cs a ccd cl outer A₀ base h₀ L m s Q E}
theorem accNew_L
  {news : List (Addr × Obj)} {t1 : Tok}
  (B : Below A₀ base outer h₀) (F : Fr h₀ L s.heap m) (X : (hd.heap_1 w.params).In h₀) (N : News h₀ L s.heap news) (T : Top p loose mean mg mb h₀) (hkf : cs.kind = .function) (hdp : dp + 4 < recursionLimit) (hun : un + 32 < cLine)
  (hret : ∀ ac ax n' hi' kt' ti' h' tk', Fr h₀ L h' m → News h₀ L h' ((ac, accObj ax #[] n') :: (ax, dictOf [⟨hi', .str "_initial_size" kt', .int 0 ti'⟩] 1) :: news) → (∀ p ∈ news, p.1 < ax) → ax < ac → Q (.ref ac) { s with heap := h', toks := tk' }) :
  wpAny (model PySem.Challenge.rw_yj0031_01.row.prog w) (ktrTop dp un gd cn cs L a ccd cl outer) (call (.ref 238) [.int 0 t1]) Q E s := by
  refine acc_new F X N ?_
  intro x dx h1 F1 N1 l1 l2
  rw [under_make1]
  have hne : @Ne Nat x dx := Nat.ne_of_gt l2
  have c := accinit_code w p loose mean mg mb (dp + 1) (un + 1) gd cn cs a ccd cl outer A₀ base h₀ L m { s with heap := h1 } (fun v s' => v = .none ∧ Q (.ref x) s') E x dx t1 B F1 X (y_sub N1 (subc (.head _) (sub1 (.tail _ (.head _))))) T hkf (by omega) (by omega) hne ?_
  · refine codeAny_mono c fun r s' z => ?_
    rcases r with e | (v | _ | _ | _) <;> exact z
  · intro n' hi' kt' ti' h' tk' G e1 e2
    refine ⟨rfl, hret x dx n' hi' kt' ti' h' tk' (y_fr_ge F1 G ?_) ?_ l1 l2⟩
    · intro b hb
      rcases List.mem_cons.mp hb with rfl | hb
      · exact (N1 _ (.head _)).2
      · rw [List.mem_singleton.mp hb]; exact (N1 _ (.tail _ (.head _))).2
    · intro q hq
      rcases List.mem_cons.mp hq with rfl | hq
      · exact ⟨e1, (N1 _ (.head _)).2⟩
      · rcases List.mem_cons.mp hq with rfl | hq
        · exact ⟨e2, (N1 _ (.tail _ (.head _))).2⟩
        · have n := N1 q (.tail _ (.tail _ hq))
          have k1 := l1 q hq
          refine ⟨G _ _ (fun hm => ?_) n.1, n.2⟩
          rcases List.mem_cons.mp hm with e | hm
          · have k2 := Nat.lt_trans k1 l2
            rw [e] at k2; exact Nat.lt_irrefl _ k2
          · rw [List.mem_singleton.mp hm] at k1; exact Nat.lt_irrefl _ k1
end
section -- JCode
open PySem.Calls
section
variable {prog : Program} {w : World} {A₀ A : Around} {s : Shared} {base h₀ : Heap} {outer : List Env} {L : Addr} {m mg mb : Str → Option Value} {env : Env} {news : List (Addr × Obj)} {K : Frag}
  {p : Program} {loose : List Str} {mean : ExcName → Option Value}
  {Q E : Value → Shared → Prop} {name qual : Str} {params : Arguments} {body : List Stmt} {scope : Scope} {dV kV doc pm cdv ct oc : Value} {an od : Option Addr} {osl : Array (Option Value)} {f cc : Addr} {args : Args} {binds rb : List (Str × Value)}
theorem y_codeT (B : Below A₀ base outer h₀) (F : Fr h₀ L s.heap m) (X : K.In h₀) (N : News h₀ L s.heap news) (T : Top p loose mean mg mb h₀) (hA : A.frames = some (env :: outer)) (hf : env.frame = some L) (hke : env.scope.kind = .function)
    (ho : K.lookup f = some ⟨oc, od, .func (fnOf name qual params body scope dV kV doc pm an cdv ct), osl⟩) (hcd : codeIn K cdv qual = true) (hroom : A.depth < recursionLimit)
    (hbind : BindsTo s (fnOf name qual params body scope dV kV doc pm an cdv ct) args binds) (hrev : binds.reverse = rb) (hloc : ∀ y ∈ rb, scope.names.lookup y.1 = some .local)
    (h : ∀ g L' h₁ tk, HG (news.map (·.1)) s.heap g → Fr g L' h₁ (fun y => rb.lookup y) → News g L' h₁ news → Below A base (env :: outer) g → K.In g → Top p loose mean mg mb g → (∀ p ∈ news, p.1 < L') → 
      wpAny (model prog w) (A.deeper (envOf qual scope L' f cdv)) (execs body (envOf qual scope L' f cdv))
        (fun fl s' => YEnd Q (match fl with | .ret v => v | _ => .none) s') (fun _ _ => False) { s with heap := h₁, toks := tk })
    (hco : scope.isCoroutine = false) (hgen : scope.isGenerator = false) (hk : scope.kind = .function)
    (hcell : ∀ x ∈ scope.names, x.2 ≠ .cell) : codeAny (model prog w) A (.call (.ref f) args) (fun r s' => match r with | .ok (.ret v) => Q v s' | .ok _ => False | .error e => E e s') s := by
  subst hrev
  exact y_code B F X N T hA hf hke ho hcd hroom hbind (fun y hy => hloc y (List.mem_reverse.mpr hy)) (fun g L' h₁ a1 a2 a3 a4 a5 a6 a7 => h g L' h₁ _ a1 a2 a3 a4 a5 a6 a7) hco hgen hk hcell
end
end
section -- JCodeC
open PySem.Calls
section
variable {prog : Program} {w : World} {A₀ A : Around} {s : Shared} {base h₀ : Heap} {outer : List Env} {L : Addr} {m mg mb : Str → Option Value} {env : Env} {news : List (Addr × Obj)} {K : Frag}
  {p : Program} {loose : List Str} {mean : ExcName → Option Value}
  {Q E : Value → Shared → Prop} {name qual : Str} {params : Arguments} {body : List Stmt} {scope : Scope} {dV kV doc pm cdv ct oc : Value} {an od : Option Addr} {osl : Array (Option Value)} {f cc : Addr} {args : Args} {binds rb : List (Str × Value)}
theorem y_codeC (B : Below A₀ base outer h₀) (F : Fr h₀ L s.heap m) (X : K.In h₀) (N : News h₀ L s.heap news) (T : Top p loose mean mg mb h₀) (hA : A.frames = some (env :: outer)) (hf : env.frame = some L) (hke : env.scope.kind = .function)
    (ho : K.lookup f = some ⟨oc, od, .func (fnOf name qual params body scope dV kV doc pm an cdv ct), osl⟩) (hcd : codeIn K cdv qual = true) (hroom : A.depth < recursionLimit)
    (hbind : BindsTo s (fnOf name qual params body scope dV kV doc pm an cdv ct) args binds) (hkind : (binds.all fun y => scope.names.lookup y.1 == some .local || scope.names.lookup y.1 == some .cell) = true)
    (hnd : ((cellsFrom 0 scope.names []).map (·.1)).Nodup)
    (h : ∀ g L' h₁ tk cells, HG (news.map (·.1)) s.heap g → Fr g L' h₁ (bindL (envOfC qual scope L' f cdv).kindOf binds fun _ => none) → News g L' h₁ (cells ++ news) →
      CellsAre (bindC (envOfC qual scope L' f cdv).kindOf binds fun _ => none) (cellsFrom (L' + 1) scope.names []) cells → Below A base (env :: outer) g → K.In g → Top p loose mean mg mb g → (∀ p ∈ news, p.1 < L') →
      wpAny (model prog w) (A.deeper (envOfC qual scope L' f cdv)) (execs body (envOfC qual scope L' f cdv))
        (fun fl s' => YEnd Q (match fl with | .ret v => v | _ => .none) s') (fun _ _ => False) { s with heap := h₁, toks := tk })
    (hco : scope.isCoroutine = false) (hgen : scope.isGenerator = false) (hk : scope.kind = .function) : codeAny (model prog w) A (.call (.ref f) args) (fun r s' => match r with | .ok (.ret v) => Q v s' | .ok _ => False | .error e => E e s') s := by
  obtain ⟨FG, BG, st, _⟩ := groundX (R := fun _ _ => True) B F N hA hf hke
  refine codeAny_call_function hroom ((X.keeps F.keep) _ _ ho) rfl hco hgen rfl (codeRec_of (X.keeps F.keep) hcd) (hbind _ _ _ _ ?_)
  refine wpAny_newFunctionEnv_cells hk (kindsX hkind _) fun env' he s' x => ?_
  subst he
  refine ⟨(T.nolimit.keeps F.keep).keeps x.toInCall.keep, codeAny_func ?_⟩
  obtain ⟨h₁, tk, rfl, _⟩ := x.done
  have hk₁ := x.toInCall.keep
  obtain ⟨cells, NC, Y⟩ := Cl.news (h₀ := s.heap) (Nat.le_refl _) fun n c hm => ⟨x.cell n c (lookup_of_mem_nodup (cellsFrom_names scope.names 0 (s.heap.objs.size + 1) [] [] rfl ▸ hnd) hm), x.above n c hm⟩
  refine wpAny_mono (h _ s.heap.objs.size h₁ tk cells (hg_all N) ⟨x.toInCall.ns, fun b o e => hk₁ b o (of_hideAll _ e), Nat.le_of_eq (hideAll_size _ _)⟩ (fun p hp => ?_) Y BG (X.keeps st) (T.keeps st) (fun p hp => Heap.lt_size (N p hp).1)) (fun fl s' hl => hl) fun _ _ y => y.elim
  rcases List.mem_append.mp hp with hp | hp
  · refine ⟨(NC p hp).1, (NC p hp).2.1, ?_⟩
    cases q : (hideAll s.heap (news.map (·.1))).get? p.1 with
    | none => rfl
    | some o => have := of_hideAll _ q; rw [(NC p hp).2.2] at this; cases this
  · exact ⟨hk₁ _ _ (N p hp).1, Nat.ne_of_lt (Heap.lt_size (N p hp).1), hideAll_none _ (List.mem_map_of_mem hp)⟩
end
end
section -- JComp
open PySem.Calls
section
variable {prog : Program} {w : World} {A : Around} {E : Value → Shared → Prop} {s : Shared} {h₀ : Heap} {L : Addr} {m : Str → Option Value} {env : Env}
theorem y_small {n : Nat} (hn : n ≤ 1000) : Builtin.Range.rangeSize 0 (0 + (n : Int)) 1 = (n : Int) ∧ Builtin.Range.small 0 (0 + (n : Int)) 1 = true ∧ rangeInts 0 1 n = (List.range n).map fun i : Nat => (i : Int) := by
  have hsz : Builtin.Range.rangeSize 0 (0 + (n : Int)) 1 = (n : Int) := by
    unfold Builtin.Range.rangeSize
    rw [if_pos (by decide), Int.ediv_one]
    split <;> omega
  refine ⟨hsz, ?_, ?_⟩
  · unfold Builtin.Range.small
    rw [hsz, if_pos (by decide)]
    unfold Builtin.Range.rangeFitsLong
    have f : ∀ x : Int, 0 ≤ x → x ≤ 2000 → (decide (-(2 ^ 63) ≤ x) && decide (x < 2 ^ 63)) = true := fun x h0 h1 => by
      rw [decide_eq_true (Int.le_trans (show -(2 ^ 63 : Int) ≤ 0 by decide) h0), decide_eq_true (Int.lt_of_le_of_lt h1 (by decide))]; rfl
    rw [f 0 (by decide) (by decide), f (0 + n) (by omega) (by omega), f n (by omega) (by omega), f (0 + n + (1 - 1)) (by omega) (by omega), f 1 (by decide) (by decide)]
    simp
  · unfold rangeInts
    refine List.map_congr_left fun i _ => ?_
    omega
noncomputable def CompR (prog : Program) (w : World) (A : Around) (h₀ : Heap) (L : Addr) (m : Str → Option Value) (env : Env) (scope : Scope) (cl : List (Str × Addr)) (ct : PySem.Expr) (x : Str) (pz : Int → Bool) (n : Nat) (Fin : Addr → Array Value → Nat → Heap → Tok → List (Addr × Obj) → Shared → Prop) (xv : Value) (s₁ : Shared) : Prop :=
  YStop (∃ (news : List (Addr × Obj)) (r : Addr) (t u v : Tok), xv = .ref r ∧ IsRange s₁.heap r 0 (0 + (n : Int)) 1 t u v ∧ Fr h₀ L s₁.heap m ∧ News h₀ L s₁.heap news ∧
      (∀ C (a : Nat) ta s₂ m₂ E', s₁.heap.objs.size ≤ C → a < n → s₂.heap.Ns C m₂ → m₂ x = some (.int (a : Int) ta) → (∀ b o, s₁.heap.get? b = some o → s₂.heap.get? b = some o) →
        wpAny (model prog w) A (isTrue ct (compEnvC scope cl C env) (eval ct (compEnvC scope cl C env))) (fun ok s₃ => ok = pz a ∧ Keeps s₂ s₃) E' s₂) ∧
      (∀ D ys k h' tk, News h₀ L h' ((D, listOf ys k) :: news) → (∀ p ∈ news, p.1 ≠ D) → IntsAre ys.toList (((List.range n).map fun i : Nat => (i : Int)).filter pz) → Fin D ys k h' tk news s₁))
theorem y_test {ct : PySem.Expr} {cenv : Env} {b : Bool} {s₂ : Shared} {E' : Value → Shared → Prop} (h : wpAny (model prog w) A (isTrue ct cenv (eval ct cenv)) (fun ok s₃ => ok = b ∧ Keeps s₂ s₃) E' s₂) :
    wpAny (model prog w) A (forIn [ct] true fun c r => if r = true then do let ok ← isTrue c cenv (eval c cenv); pure (ForInStep.yield ok) else pure (ForInStep.yield r)) (fun ok s₃ => ok = b ∧ Keeps s₂ s₃) E' s₂ := by
  rw [List.forIn_cons]
  simp only [if_true, List.forIn_nil, bind_assoc, pure_bind]
  exact wpAny_bind (wpAny_mono h (fun _ _ h => wpAny_pure h) (fun _ _ h => h))
theorem y_elt {x : Str} {px' : Pos} {scope : Scope} {cl : List (Str × Addr)} {C : Addr} {a : Int} {ta : Tok} {s₂ : Shared} {m₂ : Str → Option Value} {E' : Value → Shared → Prop} (hkind : scope.kind = .function) (hx : scope.names.lookup x = some .local) (hd : (x == ("__debug__" : Str)) = false)
    (hns : s₂.heap.Ns C m₂) (hm : m₂ x = some (.int a ta)) : wpAny (model prog w) A (eval (.Name x px') (compEnvC scope cl C env)) (fun y s₃ => Carried y (.int a) ∧ Keeps s₂ s₃) E' s₂ := by
  refine wpAny_Name (wpAny_loadName_local ?_ ?_ hns hm ⟨Carried.int _ _, ?_⟩) hd
  · simp [compEnvC, relabel, hkind]
  · exact lookup_relabel_local hx
  · exact ⟨s₂.heap, s₂.toks, rfl, fun _ _ e => e⟩
theorem y_compR {ct iter : PySem.Expr} {x : Str} {px px' : Pos} {scope : Scope} {cl : List (Str × Addr)} {pos : Pos} {Q : Value → Shared → Prop} {pz : Int → Bool} {n : Nat}
    (hh : A.handled = none) (hclos : closureFor scope env = pure cl) (hcell : ∀ y ∈ scope.names, y.2 ≠ .cell) (hkind : scope.kind = .function)
    (hnames : ∀ y ∈ scope.names, y.2 = .local → scope.names.lookup y.1 = some .local) (hx : scope.names.lookup x = some .local) (hd : (x == ("__debug__" : Str)) = false) (hn : n ≤ 1000)
    (hs : ∀ x, foldedSetIterable iter env x = pure x)
    (h : wpAny (model prog w) A (eval iter env) (CompR prog w A h₀ L m env scope cl ct x pz n fun D ys k h' tk news s₁ => Fr h₀ L h' m → Q (.ref D) { s₁ with heap := h', toks := tk }) E s) :
    wpAny (model prog w) A (eval (.ListComp (.Name x px') [⟨.Name x px, iter, [ct], 0⟩] scope pos) env) Q E s := by
  refine ListComp_DCr (h₀ := h₀) (L := L) (m := m) (pz := pz) (d := fun a => .int a) hh hclos hcell hkind hnames hx (wpAny_mono h (fun xv s₁ h₁ => ?_) fun _ _ e => e) hs
  obtain ⟨news, r, t, u, v, rfl, hr, F, N, ht, hq⟩ := h₁
  obtain ⟨hsz, hsm, hri⟩ := y_small hn
  refine ⟨news, r, 0, 0 + (n : Int), 1, t, u, v, n, rfl, hr, hsm, hsz, by rw [line_is]; omega, F, N, ?_, ?_, ?_⟩
  · intro C a v s₂ m₂ E' hC ha hi hns hm hk
    obtain ⟨ta, rfl⟩ := hi
    rw [hri] at ha
    obtain ⟨i, hi, rfl⟩ := List.mem_map.mp ha
    exact y_test (ht C i ta s₂ m₂ E' hC (List.mem_range.mp hi) hns hm hk)
  · intro C a v s₂ m₂ E' hC ha hi hp hns hm hk
    obtain ⟨ta, rfl⟩ := hi
    exact y_elt hkind hx hd hns hm
  · intro D ys h' tk F' N' hD hl hp hc
    obtain ⟨⟨k, e⟩, hap⟩ := hp
    rw [hri] at hc
    refine hq D ys.toArray k h' tk (fun p hp => ?_) hap (by simpa using IntsAre.ofCarried hc) F'
    rcases List.mem_cons.mp hp with rfl | hp
    · exact ⟨e, NewPlain.ne_locals (news := news) ⟨⟨k, e⟩, hap⟩ F', hD⟩
    · exact N' p hp
theorem y_compRA {ct iter : PySem.Expr} {x y : Str} {px px' py : Pos} {scope : Scope} {cl : List (Str × Addr)} {pos spos : Pos} {Q : Flow → Shared → Prop} {pz : Int → Bool} {n : Nat}
    (hsw : swapsWith (.ListComp (.Name x px') [⟨.Name x px, iter, [ct], 0⟩] scope pos) (some (.Name y py)) spos.line env = pure true) (hL : env.locals = L)
    (hh : A.handled = none) (hclos : closureFor scope env = pure cl) (hcell : ∀ z ∈ scope.names, z.2 ≠ .cell) (hkind : scope.kind = .function)
    (hnames : ∀ z ∈ scope.names, z.2 = .local → scope.names.lookup z.1 = some .local) (hx : scope.names.lookup x = some .local) (hd : (x == ("__debug__" : Str)) = false) (hn : n ≤ 1000)
    (hy : env.kindOf y = some .local) (hp : (env.scope.kind == .class || (env.scope.kind == .module && env.locals != env.globals)) = false)
    (hs : ∀ x, foldedSetIterable iter env x = pure x)
    (h : wpAny (model prog w) A (eval iter env) (CompR prog w A h₀ L m env scope cl ct x pz n fun D ys k h' tk news s₁ => Fr h₀ L h' (fun z => if z = y then some (.ref D) else m z) → Q .next { s₁ with heap := h', toks := tk }) E s) :
    wpAny (model prog w) A (exec (.Assign [.Name y py] (.ListComp (.Name x px') [⟨.Name x px, iter, [ct], 0⟩] scope pos) spos) env) Q E s := by
  refine Assign_ListComp_DCr (h₀ := h₀) (L := L) (m := m) (pz := pz) (d := fun a => .int a) hsw hL hh hclos hcell hkind hnames hx hy hp (wpAny_mono h (fun xv s₁ h₁ => ?_) fun _ _ e => e) hs
  obtain ⟨news, r, t, u, v, rfl, hr, F, N, ht, hq⟩ := h₁
  obtain ⟨hsz, hsm, hri⟩ := y_small hn
  refine ⟨news, r, 0, 0 + (n : Int), 1, t, u, v, n, rfl, hr, hsm, hsz, by rw [line_is]; omega, F, N, ?_, ?_, ?_⟩
  · intro C a v s₂ m₂ E' hC ha hi hns hm hk
    obtain ⟨ta, rfl⟩ := hi
    rw [hri] at ha
    obtain ⟨i, hi, rfl⟩ := List.mem_map.mp ha
    exact y_test (ht C i ta s₂ m₂ E' hC (List.mem_range.mp hi) hns hm hk)
  · intro C a v s₂ m₂ E' hC ha hi hp hns hm hk
    obtain ⟨ta, rfl⟩ := hi
    exact y_elt hkind hx hd hns hm
  · intro D ys h' tk F' N' hD hl hp hc
    obtain ⟨⟨k, e⟩, hap⟩ := hp
    rw [hri] at hc
    refine hq D ys.toArray k h' tk (fun p hp => ?_) hap (by simpa using IntsAre.ofCarried hc) F'
    rcases List.mem_cons.mp hp with rfl | hp
    · exact ⟨e, NewPlain.ne_locals (news := news) ⟨⟨k, e⟩, hap⟩ F', hD⟩
    · exact N' p hp
theorem add_list_N {l b : Addr} {x y : Array Value} {n k : Nat} {news : List (Addr × Obj)} {Q : Value → Shared → Prop} (F : Fr h₀ L s.heap m) (N : News h₀ L s.heap news) (hl : (l, listOf x n) ∈ news) (hb : (b, listOf y k) ∈ news) (hx : x.size ≤ 1000) (hy : y.size ≤ 1000)
    (h : ∀ h' l', Fr h₀ L h' m → News h₀ L h' ((l', listOf (x ++ y) 0) :: news) → (∀ p ∈ news, p.1 < l') → Q (.ref l') { s with heap := h' }) : wpAny (model prog w) A (binaryOp .Add (.ref l) (.ref b)) Q E s := by
  have up : ∀ c o, s.heap.get? c = some o → (s.heap.push { cls := .type "list", data := .seq (x ++ y) }).get? c = some o := fun c o e => Heap.get?_push_of_some _ e
  refine P.add_list (N _ hl).1 (N _ hb).1 (h _ _ (F.keeps up) (fun p hp => ?_) ?_) (by rw [line_is]; omega)
  · rcases List.mem_cons.mp hp with rfl | hp
    · refine ⟨Heap.get?_push_size _ rfl, Nat.ne_of_gt F.ns.lt, ?_⟩
      cases e : h₀.get? s.heap.objs.size with
      | none => rfl
      | some o => exact absurd (Heap.lt_size (F.keep _ _ e)) (Nat.lt_irrefl _)
    · exact ⟨up _ _ (N p hp).1, (N p hp).2⟩
  · exact fun p hp => Heap.lt_size (N p hp).1
theorem ints_sm2 {ys : Array Value} {pz : Int → Bool} {n : Nat} (h : IntsAre ys.toList (((List.range n).map fun i : Nat => (i : Int)).filter pz)) : ys.size ≤ n := by
  have := h.length
  rw [Array.length_toList] at this
  rw [this]
  exact Nat.le_trans (List.length_filter_le _ _) (by simp)
theorem ints_sm1 {ws : List Value} {pz : Int → Bool} {n : Nat} (h : IntsAre ws (((List.range n).map fun i : Nat => (i : Int)).filter pz).reverse) : ws.toArray.size ≤ n := by
  have := h.length
  rw [List.length_reverse] at this
  rw [List.size_toArray, this]
  exact Nat.le_trans (List.length_filter_le _ _) (by simp)
end
end
section -- JZip
open PySem.Calls PySem.Spec
open LCg
theorem News.sub {h₀ h : Heap} {L : Addr} {l l' : List (Addr × Obj)} (N : News h₀ L h l) (k : ∀ p ∈ l', p ∈ l) : News h₀ L h l' := fun p hp => N p (k p hp)
theorem News.cons' {h₀ h : Heap} {L : Addr} {a : Addr × Obj} {l l' : List (Addr × Obj)} (N : News h₀ L h l) (h1 : a ∈ l) (k : News h₀ L h l') : News h₀ L h (a :: l') := y_allc (N a h1) k
section
variable {prog : Program} {w : World} {A : Around} {E : Value → Shared → Prop} {s : Shared} {h₀ : Heap} {L : Addr} {m : Str → Option Value} {env : Env}
noncomputable def ZFin (h₀ : Heap) (L : Addr) (m : Str → Option Value) (s₁ : Shared) (y : Str) (Q : Flow → Shared → Prop) (as bs : List Int) (news : List (Addr × Obj)) : Prop :=
  ∀ D ys h tk, Fr h₀ L h (fun z => if z = y then some (.ref D) else m z) → News h₀ L h ((D, lst ys) :: news) → AllNe D news → IntsAre ys (List.zipWith (· + ·) as bs) → Q .next { s₁ with heap := h, toks := tk }
inductive ZPack (prog : Program) (w : World) (A : Around) (h₀ : Heap) (L : Addr) (m : Str → Option Value) (s₁ : Shared) (y : Str) (Q : Flow → Shared → Prop) (it : Value) (s₂ : Shared) : Prop
  | mk (z TI TO i1 i2 l1 l2 : Addr) (xs ys : Array Value) (as bs : List Int) (news : List (Addr × Obj)) (tk : Nat) (es : s₂ = { s₁ with heap := s₂.heap, toks := tk }) (ei : it = .ref z) (D : ZipApart z TI TO i1 i2 l1 l2)
    (st : IsZip s₂.heap z TI TO .none ∧ IsPair s₂.heap TI (.ref i1) (.ref i2) ∧ (∃ a b, IsPair s₂.heap TO a b) ∧ s₂.heap.IsListIter i1 l1 0 ∧ s₂.heap.IsListIter i2 l2 0 ∧ s₂.heap.IsList l1 xs ∧ s₂.heap.IsList l2 ys)
    (I1 : IntsAre xs.toList as) (I2 : IntsAre ys.toList bs) (sz : xs.size ≤ 1000) (F : Fr h₀ L s₂.heap m) (N : News h₀ L s₂.heap news) (off : ∀ b ∈ [z, TO, i1, i2], b ≠ L ∧ h₀.get? b = none ∧ ∀ p ∈ news, p.1 ≠ b) (fin : ZFin h₀ L m s₁ y Q as bs news) : ZPack prog w A h₀ L m s₁ y Q it s₂
inductive ZI (h₀ : Heap) (L C D : Addr) (m : Str → Option Value) (s₂ : Shared) (news : List (Addr × Obj)) (as bs : List Int) (xs ys : Array Value) (z TI TO i1 i2 l1 l2 : Addr) (k : Nat) (s' : Shared) : Prop
  | mk (h' : Heap) (tk i : Nat) (zs : List Value) (m' : Str → Option Value) (es : s' = { s₂ with heap := h', toks := tk }) (hi : i ≤ min as.length bs.length) (hk : k = min as.length bs.length + 1 - i) (hz : zs.length = i)
    (st : IsZip h' z TI TO .none ∧ IsPair h' TI (.ref i1) (.ref i2) ∧ (∃ a b, IsPair h' TO a b) ∧ h'.IsListIter i1 l1 i ∧ h'.IsListIter i2 l2 i ∧ h'.IsList l1 xs ∧ h'.IsList l2 ys) (F : Fr h₀ L h' m) (hn : h'.Ns C m') (N : News h₀ L h' ((D, lst zs) :: news))
    (hI : IntsAre zs (List.zipWith (· + ·) (as.take i) (bs.take i))) : ZI h₀ L C D m s₂ news as bs xs ys z TI TO i1 i2 l1 l2 k s'
theorem y_zip {l1 l2 : Addr} {xs ys : Array Value} {n1 n2 : Nat} {as bs : List Int} {news : List (Addr × Obj)} {y : Str} {Q : Flow → Shared → Prop} (hh : A.handled = none) (F : Fr h₀ L s.heap m) (N : News h₀ L s.heap news)
    (hm1 : (l1, listOf xs n1) ∈ news) (hm2 : (l2, listOf ys n2) ∈ news) (hI1 : IntsAre xs.toList as) (hI2 : IntsAre ys.toList bs) (hz : xs.size ≤ 1000) (h : ZFin h₀ L m s y Q as bs news) :
    wpAny (model prog w) A (call (.type "zip") [.ref l1, .ref l2]) (fun xv s₁ => wpAny (model prog w) A (pyIter xv) (ZPack prog w A h₀ L m s₁ y Q) E s₁) E s := by
  have hax1 := N _ hm1
  have hax2 := N _ hm2
  have hl1 : s.heap.IsList l1 xs := ⟨_, hax1.1, rfl, n1, rfl⟩
  have hl2 : s.heap.IsList l2 ys := ⟨_, hax2.1, rfl, n2, rfl⟩
  have hlt1 : l1 < s.heap.objs.size := Heap.lt_size hax1.1
  have hlt2 : l2 < s.heap.objs.size := Heap.lt_size hax2.1
  have hLs : L < s.heap.objs.size := F.ns.lt
  refine call_zip_2 hl1 hl2 fun h' hz hTI hTO hi1 hi2 hsz hk => ?_
  refine wpAny_pyIter_zip hz ?_
  refine ⟨_, _, _, _, _, l1, l2, xs, ys, as, bs, news, _, rfl, rfl, ktu_apart _ _ _ hlt1 hlt2, ⟨hz, hTI, ⟨_, _, hTO⟩, hi1, hi2, hl1.at fun o e => hk l1 o e, hl2.at fun o e => hk l2 o e⟩, hI1, hI2, by assumption, F.keeps hk, N.grown hk, ?_, h⟩
  intro b hb
  have hge : s.heap.objs.size ≤ b := by
    simp only [List.mem_cons, List.mem_nil_iff, or_false] at hb
    rcases hb with rfl | rfl | rfl | rfl <;> first | exact Nat.le_refl _ | exact Nat.le_add_right _ _
  exact ⟨Nat.ne_of_gt (Nat.lt_of_lt_of_le hLs hge), ktu_new F hge, fun p hp => Nat.ne_of_lt (Nat.lt_of_lt_of_le (Heap.lt_size (N p hp).1) hge)⟩
theorem zipW_snoc {as bs : List Int} {i : Nat} {a b : Int} (ha : as[i]? = some a) (hb : bs[i]? = some b) : List.zipWith (· + ·) (as.take (i + 1)) (bs.take (i + 1)) = List.zipWith (· + ·) (as.take i) (bs.take i) ++ [a + b] := by
  obtain ⟨h1, e1⟩ := List.getElem?_eq_some_iff.mp ha
  obtain ⟨h2, e2⟩ := List.getElem?_eq_some_iff.mp hb
  rw [List.take_add_one, List.take_add_one, ha, hb, List.zipWith_append (by simp; omega)]
  rfl
theorem y_compZ {elt iter : PySem.Expr} {x x₂ y : Str} {px px₂ tp py : Pos} {tk9} {scope : Scope} {cl : List (Str × Addr)} {pos spos : Pos} {Q : Flow → Shared → Prop} (F₀ : Fr h₀ L s.heap m) (hLe : env.locals = L)
    (hsw : swapsWith (.ListComp elt [⟨.Tuple [.Name x px, .Name x₂ px₂] tk9 tp, iter, [], 0⟩] scope pos) (some (.Name y py)) spos.line env = pure true)
    (hh : A.handled = none) (hclos : closureFor scope env = pure cl) (hcell : ∀ z ∈ scope.names, z.2 ≠ .cell) (hkind : scope.kind = .function)
    (hnames : ∀ z ∈ scope.names, z.2 = .local → scope.names.lookup z.1 = some .local) (hx : scope.names.lookup x = some .local) (hx₂ : scope.names.lookup x₂ = some .local) (hxx : x ≠ x₂)
    (hy : env.kindOf y = some .local) (hp : (env.scope.kind == .class || (env.scope.kind == .module && env.locals != env.globals)) = false)
    (helt : ∀ C a b ta tb s₂ m₂ E', s₂.heap.Ns C m₂ → m₂ x = some (.int a ta) → m₂ x₂ = some (.int b tb) → wpAny (model prog w) A (eval elt (compEnvC scope cl C env)) (fun v s₃ => (∃ t, v = .int (a + b) t) ∧ Keeps s₂ s₃) E' s₂)
    (h : wpAny (model prog w) A (eval iter env) (fun xv s₁ => wpAny (model prog w) A (pyIter xv) (ZPack prog w A h₀ L m s₁ y Q) E s₁) E s)
    (hs : ∀ x, foldedSetIterable iter env x = pure x := by intro _; rfl) :
    wpAny (model prog w) A (exec (.Assign [.Name y py] (.ListComp elt [⟨.Tuple [.Name x px, .Name x₂ px₂] tk9 tp, iter, [], 0⟩] scope pos) spos) env) Q E s := by
  subst hLe
  rw [exec_Assign_Name_used _ _ _ _ hsw]
  refine wpAny_bind (wpAny_standAt (wpAny_bind ?_))
  show wpAny _ A (do let _ ← comprehension (.ListComp elt [⟨.Tuple [.Name x px, .Name x₂ px₂] tk9 tp, iter, [], 0⟩] scope pos) scope env _ (newList []) false (eval iter env) (some (assign (.Name y py) env))) _ _ s
  refine wpAny_bind (wpAny_mono (wpAny_comprehension_free (use := some (assign (.Name y py) env)) (Q := fun _ s' => Q .next s') rfl hs hclos hkind hnames
    (wpAny_mono h (fun xv s₁ h₁ => wpAny_mono h₁ (fun it s₂ h₂ => ?_) fun _ _ e => e) fun _ _ e => e)) (fun _ s' hq => wpAny_pure (wpAny_pure hq)) fun _ _ e => e)
  obtain ⟨z, TI, TO, i1, i2, l1, l2, xs, ys, as, bs, news, tk1, hs12, rfl, D, hst, hI1, hI2, hsz, F, N, off, fin⟩ := h₂
  have W := (WalksT.zip2 (prog := prog) (w := w) hh z TI TO i1 i2 l1 l2 D xs ys).toU
  have hfp : ∀ b ∈ [z, TI, TO, i1, i2, l1, l2], b < s₂.heap.objs.size := by
    obtain ⟨a1, a2, ⟨_, _, a3⟩, ⟨_, a4, _⟩, ⟨_, a5, _⟩, ⟨_, a6, _⟩, ⟨_, a7, _⟩⟩ := hst
    intro b hb
    simp only [List.mem_cons, List.mem_nil_iff, or_false] at hb
    rcases hb with rfl | rfl | rfl | rfl | rfl | rfl | rfl
    · exact Heap.lt_size a1
    · exact Heap.lt_size a2
    · exact Heap.lt_size a3
    · exact Heap.lt_size a4
    · exact Heap.lt_size a5
    · exact Heap.lt_size a6
    · exact Heap.lt_size a7
  refine wpAny_newObj_type (wpAny_newFunctionEnv hcell (by intro y hy; simp at hy) (fun h₁ hns₁ hsb₁ => ?_) hkind)
  (try dsimp only at hns₁ hsb₁ ⊢)
  generalize hH2 : s₂.heap.push { cls := .type "list", dict := none, data := .seq ([] : List Value).toArray } = H2 at hns₁ hsb₁ ⊢
  have hC : H2.objs.size = s₂.heap.objs.size + 1 := by rw [← hH2, Heap.size_push]
  have hDC : s₂.heap.objs.size ≠ H2.objs.size := by rw [hC]; exact Nat.ne_of_lt (Nat.lt_succ_self _)
  have below : ∀ b, b < s₂.heap.objs.size → b ≠ H2.objs.size ∧ b ≠ s₂.heap.objs.size := fun b hb => ⟨by rw [hC]; exact Nat.ne_of_lt (Nat.lt_succ_of_lt hb), Nat.ne_of_lt hb⟩
  have hDf : s₂.heap.objs.size ∉ [z, TI, TO, i1, i2, l1, l2] := fun hm => Nat.lt_irrefl _ (hfp _ hm)
  have hCf : H2.objs.size ∉ [z, TI, TO, i1, i2, l1, l2] := fun hm => by have := hfp _ hm; rw [hC] at this; exact Nat.lt_irrefl _ (Nat.lt_of_succ_lt this)
  have old : ∀ b o, s₂.heap.get? b = some o → h₁.get? b = some o := fun b o e => hsb₁.extBut b o (below b (Heap.lt_size e)).1 (Heap.get?_push_of_some _ (hH2 ▸ Heap.get?_push_of_some _ e))
  have hacc : h₁.get? s₂.heap.objs.size = some (lst []) := hsb₁.extBut _ _ hDC (Heap.get?_push_of_some _ (hH2 ▸ Heap.get?_push_size _ rfl))
  have hst₁ := W.frame 0 _ h₁ hst fun b _ o e => old b o e
  have hD₀ : h₀.get? s₂.heap.objs.size = none := ktu_new F (Nat.le_refl _)
  have hC₀ : h₀.get? H2.objs.size = none := ktu_new F (by rw [hC]; exact Nat.le_succ _)
  have hLlt : env.locals < s₂.heap.objs.size := F.ns.lt
  have hDL : s₂.heap.objs.size ≠ env.locals := Ne.symm (below _ hLlt).2
  have hCL : H2.objs.size ≠ env.locals := Ne.symm (below _ hLlt).1
  have hnD : ∀ p ∈ news, p.1 ≠ s₂.heap.objs.size := fun p hp => Nat.ne_of_lt (Heap.lt_size (N p hp).1)
  have hnC : ∀ p ∈ news, p.1 ≠ H2.objs.size := fun p hp => (below _ (Heap.lt_size (N p hp).1)).1
  have hz1 : xs.size = as.length := by rw [← Array.length_toList]; exact hI1.length
  have hz2 : ys.size = bs.length := by rw [← Array.length_toList]; exact hI2.length
  have wrD : s₂.heap.objs.size ∉ [z, TO, i1, i2] := fun hm => hDf (W.sub _ hm)
  have wrC : H2.objs.size ∉ [z, TO, i1, i2] := fun hm => hCf (W.sub _ hm)
  have frw : ∀ (h h' : Heap), Fr h₀ env.locals h m → (∀ b o, b ∉ [z, TO, i1, i2] → h.get? b = some o → h'.get? b = some o) → Fr h₀ env.locals h' m := fun h h' F hk =>
    ⟨F.ns.at' fun o e => hk _ o (fun hm => (off _ hm).1 rfl) e, fun b o e => hk b o (fun hm => by rw [(off _ hm).2.1] at e; cases e) (F.keep b o e), F.above⟩
  have nww : ∀ (h h' : Heap) (ys : List Value), News h₀ env.locals h ((s₂.heap.objs.size, lst ys) :: news) → (∀ b o, b ∉ [z, TO, i1, i2] → h.get? b = some o → h'.get? b = some o) → News h₀ env.locals h' ((s₂.heap.objs.size, lst ys) :: news) := fun h h' ys N hk p hp => by
    refine ⟨hk _ _ (fun hm => ?_) (N p hp).1, (N p hp).2⟩
    rcases List.mem_cons.mp hp with rfl | hp
    · exact wrD hm
    · exact (off _ hm).2.2 p hp rfl
  have loop : ∀ s₃ : Shared, s₃ = { s₂ with heap := h₁, toks := s₂.toks + ([] : List (Str × Value)).length } →
      codeAny (model prog w) A (.compLoop (.ListComp elt [⟨.Tuple [.Name x px, .Name x₂ px₂] tk9 tp, iter, [], 0⟩] scope pos) 0 (.ref z) (.ref s₂.heap.objs.size) (compEnvC scope cl H2.objs.size env))
        (compPost (model prog w) A E (some (assign (.Name y py) env)) (fun _ s' => Q .next s') (.ref s₂.heap.objs.size) H2.objs.size) s₃ := by
    rintro s₃ rfl
    obtain ⟨I, hI⟩ : ∃ I : Nat → Shared → Prop, I = ZI h₀ env.locals H2.objs.size s₂.heap.objs.size m s₂ news as bs xs ys z TI TO i1 i2 l1 l2 := ⟨_, rfl⟩
    generalize hR : compPost (model prog w) A E (some (assign (.Name y py) env)) (fun _ s' => Q .next s') (.ref s₂.heap.objs.size) H2.objs.size = R
    refine LCp.codeAny_compLoop_pair I ?_ (min as.length bs.length + 1) ?_
    rotate_left
    · rw [hI]
      refine ⟨h₁, _, 0, [], _, rfl, Nat.zero_le _, rfl, rfl, hst₁, F.keeps old, hns₁, fun p hp => ?_, by simpa using IntsAre.nil⟩
      rcases List.mem_cons.mp hp with rfl | hp
      · exact ⟨hacc, hDL, hD₀⟩
      · exact ⟨old _ _ (N p hp).1, (N p hp).2⟩
    · intro k s' hk0
      rw [hI] at hk0
      obtain ⟨h', tk, i, ws, m', rfl, hi, rfl, hyl, hst', F', hn', N', hI'⟩ := hk0
      by_cases hlt : i < min as.length bs.length
      · refine W.item i _ _ _ (by rw [hz1, hz2]; exact hlt) hst' fun T vals h₂ tk₂ hP hT hMid hk₂ => ?_
        obtain ⟨v1, v2, e1, e2, rfl⟩ := hP
        obtain ⟨a, ta, rfl, ha⟩ := hI1.at i v1 (by rw [Array.getElem?_toList]; exact e1)
        obtain ⟨b, tb, rfl, hb⟩ := hI2.at i v2 (by rw [Array.getElem?_toList]; exact e2)
        refine W.go _ _ _ i T _ _ _ hMid fun h₃ hst₃ hk₃ => ?_
        have hT3 : IsTup h₃ T #[.int a ta, .int b tb] := by
          obtain ⟨oT, eT, r⟩ := hT
          exact ⟨oT, hk₃ _ _ (W.apart _ _ _ hMid) eT, r⟩
        have F₃ := frw _ _ (frw _ _ F' hk₂) hk₃
        have N₃ := nww _ _ _ (nww _ _ _ N' hk₂) hk₃
        refine assign_Tuple_tuple hh hT3 rfl rfl fun h₅ he => ?_
        have he' : ∀ b o, h₃.get? b = some o → h₅.get? b = some o := fun b o e => he b o (Nat.ne_of_lt (Heap.lt_size e)) e
        refine assignInOrder_cons (wpAny_assign_Name (wpAny_storeName_local (lookup_relabel_local hx) (((hn'.at' fun o e => hk₂ _ o wrC e).at' fun o e => hk₃ _ o wrC e).at' fun o e => he' _ o e) (fun h₆ hn₆ hs₆ => ?_) (by simp [compEnvC, relabel, hkind])))
        refine assignInOrder_cons (wpAny_assign_Name (wpAny_storeName_local (lookup_relabel_local hx₂) hn₆ (fun h₇ hn₇ hs₇ => ?_) (by simp [compEnvC, relabel, hkind])))
        refine assignInOrder_nil ?_
        have old7 : ∀ b o, b ≠ H2.objs.size → h₃.get? b = some o → h₇.get? b = some o := fun b o hb e => hs₇.extBut b o hb (hs₆.extBut b o hb (he' b o e))
        have hst₇ := W.frame _ _ h₇ hst₃ fun b hb o e => old7 b o (fun q => hCf (by rw [← q]; exact hb)) e
        have F₇ : Fr h₀ env.locals h₇ m := ((F₃.keeps he').change hs₆ hCL hC₀).change hs₇ hCL hC₀
        have N₇ : News h₀ env.locals h₇ ((s₂.heap.objs.size, lst ws) :: news) := fun p hp => ⟨old7 _ _ (by
          rcases List.mem_cons.mp hp with rfl | hp
          · exact hDC
          · exact hnC p hp) (N₃ p hp).1, (N₃ p hp).2⟩
        refine wpAny_mono (helt _ a b ta tb _ _ _ hn₇ (by simp [hxx]) (by simp)) (fun v s₄ h₄ => ?_) fun _ _ e => e
        obtain ⟨⟨t4, rfl⟩, h₈, tk₈, rfl, hk₈⟩ := h₄
        have N₈ : News h₀ env.locals h₈ ((s₂.heap.objs.size, lst ws) :: news) := fun p hp => ⟨hk₈ _ _ (N₇ p hp).1, (N₇ p hp).2⟩
        refine append_at (hsz := by show ws.toArray.size ≤ sizeLine; rw [List.size_toArray, hyl, line_is]; omega) (N₈ _ (.head _)).1 fun h₉ hs₉ hD₉ => ?_
        refine ⟨min as.length bs.length + 1 - (i + 1), by omega, ?_⟩
        rw [hI]
        refine ⟨h₉, _, i + 1, ws ++ [.int (a + b) t4], _, rfl, hlt, rfl, by simp [hyl], W.frame _ _ _ (W.frame _ _ _ hst₇ fun b _ o e => hk₈ b o e) fun b hb o e => hs₉.extBut b o (fun q => hDf (q ▸ hb)) e,
          (F₇.keeps hk₈).change hs₉ hDL hD₀, (hn₇.at' fun o e => hk₈ _ o e).sameBut hs₉ (Ne.symm hDC), fun p hp => ?_, ?_⟩
        · rcases List.mem_cons.mp hp with rfl | hp
          · exact ⟨hD₉.trans (congrArg some (lst_snoc _ _)), hDL, hD₀⟩
          · exact ⟨hs₉.extBut _ _ (hnD p hp) (N₈ p (.tail _ hp)).1, (N₈ p (.tail _ hp)).2⟩
        · rw [zipW_snoc ha hb]
          exact hI'.append (.cons _ _ .nil)
      · obtain rfl : i = min as.length bs.length := Nat.le_antisymm hi (Nat.not_lt.mp hlt)
        refine W.done _ _ _ (by rw [hz1, hz2]; exact hst') fun h₂ tk₂ hk₂ => ?_
        rw [← hR]
        show wpAny _ A (assign (.Name y py) env (.ref s₂.heap.objs.size)) _ _ _
        have F₂ := frw _ _ F' hk₂
        have N₂ := nww _ _ _ N' hk₂
        refine wpAny_assign_Name (wpAny_storeName_local hy F₂.ns (fun h₃ hn₃ hs₃ => ?_) hp)
        have hL₀ : h₀.get? env.locals = none := Heap.get?_none_of_le F₂.above
        have F₃ : Fr h₀ env.locals h₃ (fun q => if q = y then some (.ref s₂.heap.objs.size) else m q) := ⟨hn₃, fun b o e => hs₃.extBut b o (fun q => by rw [q, hL₀] at e; cases e) (F₂.keep b o e), F₂.above⟩
        refine ⟨m', (hn'.at' fun o e => hk₂ _ o wrC e).sameBut hs₃ hCL, fun h'' hs'' => ?_⟩
        refine (congrArg (fun q : Shared => ∀ k, Q Flow.next { q with heap := h'', toks := k }) hs12).mpr (fun k => fin s₂.heap.objs.size ws h'' k (F₃.change hs'' hCL hC₀) (fun p hp => ?_) (allNe_of hnD) ?_) _
        · have q : h₃.get? p.1 = some p.2 := hs₃.extBut _ _ (N₂ p hp).2.1 (N₂ p hp).1
          refine ⟨hs''.extBut _ _ ?_ q, (N₂ p hp).2⟩
          rcases List.mem_cons.mp hp with rfl | hp
          · exact hDC
          · exact hnC p hp
        · have e : List.zipWith (· + ·) (as.take (min as.length bs.length)) (bs.take (min as.length bs.length)) = List.zipWith (· + ·) as bs := by
            rw [← List.take_zipWith, List.take_of_length_le (by simp)]
          rw [← e]; exact hI'
  exact codeAny_compStart_list (loop _ rfl) (W.self 0 _ _ _ hst₁ (loop _ rfl))
theorem foldl_rep (v : Value) (n : Nat) : List.foldl (fun x1 x2 => x1 ++ x2) #[] (List.replicate n #[v]) = (List.replicate n v).toArray := by
  have key : ∀ (n : Nat) (a : Array Value), List.foldl (fun x1 x2 => x1 ++ x2) a (List.replicate n #[v]) = a ++ (List.replicate n v).toArray := by
    intro n
    induction n with
    | zero => intro a; simp
    | succ n ih =>
      intro a
      rw [List.replicate_succ, List.foldl_cons, ih, List.replicate_succ]
      apply Array.ext'
      simp
  rw [key]; simp
theorem y_mul1 {l : Addr} {v : Value} {k : Nat} {x : Int} {u : Tok} {news : List (Addr × Obj)} {Q : Value → Shared → Prop} (F : Fr h₀ L s.heap m) (N : News h₀ L s.heap news) (hm : (l, listOf #[v] k) ∈ news) (h0 : 0 ≤ x) (h1 : x ≤ 10000)
    (h : ∀ h' r, Fr h₀ L h' m → News h₀ L h' ((r, listOf (List.replicate x.toNat v).toArray 0) :: news) → (∀ p ∈ news, p.1 < r) → Q (.ref r) { s with heap := h' }) : wpAny (model prog w) A (binaryOp .Mult (.ref l) (.int x u)) Q E s := by
  refine mul_list F N (N _ hm).1 (by omega) (by omega) (by simp; omega) fun h' F' N' => ?_
  refine h h' _ F' ?_ fun p hp => Heap.lt_size (N p hp).1
  have e : (List.foldl (fun x1 x2 => x1 ++ x2) #[] (List.replicate (if (#[v] : Array Value).isEmpty = true then 0 else x.toNat) #[v])) = (List.replicate x.toNat v).toArray := by
    rw [if_neg (by simp)]; exact foldl_rep v _
  rw [e] at N'
  exact N'
end
end
section -- JVf
theorem zsJVf : True := by
  w_top off
  k_with_none
  k_with "omega" => (lia)
  k_with "ne" => ((refine neN ?_; (try dsimp only); first | exact YNe.to (by assumption) | exact YNe.to' (by assumption)))
  k_with "execs cons" => (refine y_consS ?_; intro sk9 qk9)
  k_with "apart" => first | exact y_all0 | assumption | (refine' y_allc ?apa ?apb; (case apa => (try dsimp only); first | exact YNe.to (by assumption) | exact YNe.to' (by assumption) | (show @Ne Nat _ _; omega)); (case apb => k_extra "apart"))
  k_with "ge" => first | exact y_all0 | (refine' y_allc ?gea ?geb; (case gea => first | (exact Or.inl (by k_mem)) | (exact Or.inr (by k_mem))); (case geb => k_extra "ge"))
  k_with "call ref" => (k_here; k_dflt (refine' accNew_L ?B ?F ?X ?N ?T ?hkf ?hdp ?hun ?_; (case B | F | X | N => k_asm); (case T => assumption); (case hkf => exact rfl); (case hdp => ktr_room); (case hun => ktr_units); k_whole; intro ac9' ax9' n9' hi9' kt9' ti9' h9' tk9' F9' N9' lz1 lz2; (try k_lt lz1); (try k_lt2 lz2); (try dsimp only at N9')))
  trivial
theorem vfinit_code
  (pg dx : Addr) (wd : Nat) (t0 t1 t2 t3 : Tok)
  (B : Below A₀ base outer h₀) (F : Fr h₀ L s.heap m) (X : (hd.heap_1 w.params).In h₀) (N : News h₀ L s.heap ([(pg, instObj 154 dx), (dx, dictOf [] 0)])) (T : Top p loose mean mg mb h₀) (hkf : cs.kind = .function)
  (hdp : dp + 6 < recursionLimit) (hun : un + 60 < cLine)
  (hpx : @Ne Nat pg dx)
  (hret : ∀ (li ac ax : Addr) (na' nl' : Nat) (hi' : Int) (kt' ti' : Tok) (V : FmtV) h' tk', h'.get? dx = some (dictOf (vfEs V wd li ac) 6) → h'.get? li = some (listOf #[] nl') → h'.get? ac = some (accObj ax #[] na') → h'.get? ax = some (dictOf [⟨hi', .str "_initial_size" kt', .int 0 ti'⟩] 1) → Ge [dx] s.heap h' → @LT.lt Nat _ pg li → @LT.lt Nat _ dx li → @LT.lt Nat _ li ax → @LT.lt Nat _ ax ac → s.heap.get? li = none → s.heap.get? ax = none → s.heap.get? ac = none → Q .none { s with heap := h', toks := tk' }) :
  codeAny (model PySem.Challenge.rw_yj0031_01.row.prog w) (ktrTop dp un gd cn cs L a ccd cl outer) (.call (.ref 95) ⟨[.ref pg, .int 0 t0, .int (wd : Int) t1, .str " " t2, .str ";" t3], []⟩) (fun r s' => match r with | .ok (.ret v) => Q v s' | .ok _ => False | .error e => E e s') s := by
  revert X; k_fill; intro X
  refine' y_codeT (rb := [(("splitchars" : Str), (.str ";" t3 : Value)), (("continuation_ws" : Str), (.str " " t2 : Value)), (("maxlen" : Str), (.int (wd : Int) t1 : Value)), (("headerlen" : Str), (.int 0 t0 : Value)), (("self" : Str), (.ref pg : Value))]) ?k1 ?k2 ?k3 ?k4 ?k5 ?kA ?kF ?kK ?k6 ?k7 ?k8 ?k9 ?kR ?kB ?_ ?c2 ?c3 ?c4 ?c5
  (case kA | kF => exact rfl); (case kK | k1 | k2 | k3 | k4 | k5 => assumption); (case k6 | k7 => k_is); (case k8 => ktr_room); (case k9 => first | exact BindsTo.of_eq rfl | exact binds_K (by k_in) rfl (by k_is) rfl rfl rfl); (case kR => exact rfl); (case c5 => decide); (case kB => exact locs rfl); (case c2 | c3 | c4 => exact rfl); have N0 := YOld.mk N; clear B F X N T; intro g L1 h1 tk1 hG F1 N1 B1 X1 T1 l1; (try dsimp only); (try k_lt l1); (try k_fold)
  k_steps
  exact hret _ _ _ _ _ _ _ _ ⟨_, _, _, _, _, _, _, _, _, _, _, _, _, _, _, _⟩ _ _ (by (rename News _ _ _ _ => N9); exact y_got N9 (by k_mem)) (by (rename News _ _ _ _ => N9); exact y_got N9 (by k_mem)) (by (rename News _ _ _ _ => N9); exact y_got N9 (by k_mem)) (by (rename News _ _ _ _ => N9); exact y_got N9 (by k_mem)) (by
    (rename Fr _ _ _ _ => F9); (rename News _ _ _ _ => N9)
    refine y_ge N0 hG F9 N9 ?_
    k_extra "ge") (by omega) (by omega) (by omega) (by omega) (by (rename News _ _ _ _ => N9); exact y_new N0 hG N9 (by k_mem) (by k_extra "apart")) (by (rename News _ _ _ _ => N9); exact y_new N0 hG N9 (by k_mem) (by k_extra "apart")) (by (rename News _ _ _ _ => N9); exact y_new N0 hG N9 (by k_mem) (by k_extra "apart"))
end
section -- JVfL
open PySem.Calls
theorem vf_makes (w : World) : makesIn (hd.heap_1 w.params) 154 = true := by kernel_rfl
theorem vf_finit (w : World) : findIn (hd.heap_1 w.params) (.ref 154) "__init__" = some (some (.ref 95)) := by kernel_rfl
theorem vf_tinit (w : World) : typeIn (hd.heap_1 w.params) (.ref 95) = some (.type "function") := by kernel_rfl
variable {w p loose mean mg mb dp un gd cn cs a ccd cl outer A₀ base h₀ L m s Q E}
theorem vfNew_L
  {news : List (Addr × Obj)} {wd : Nat} {t0 t1 t2 t3 : Tok}
  (B : Below A₀ base outer h₀) (F : Fr h₀ L s.heap m) (X : (hd.heap_1 w.params).In h₀) (N : News h₀ L s.heap news) (T : Top p loose mean mg mb h₀) (hkf : cs.kind = .function) (hdp : dp + 7 < recursionLimit) (hun : un + 70 < cLine)
  (hret : ∀ (pg dx li ac ax : Addr) (na nl : Nat) (hi : Int) (kt ti : Tok) (V : FmtV) h' tk', Fr h₀ L h' m → News h₀ L h' ((pg, instObj 154 dx) :: (dx, dictOf (vfEs V wd li ac) 6) :: (li, listOf #[] nl) :: (ac, accObj ax #[] na) :: (ax, dictOf [⟨hi, .str "_initial_size" kt, .int 0 ti⟩] 1) :: news) →
    (∀ p ∈ news, p.1 < dx) → dx < pg → @LT.lt Nat _ pg li → @LT.lt Nat _ li ax → @LT.lt Nat _ ax ac → Q (.ref pg) { s with heap := h', toks := tk' }) :
  wpAny (model PySem.Challenge.rw_yj0031_01.row.prog w) (ktrTop dp un gd cn cs L a ccd cl outer) (call (.ref 154) [.int 0 t0, .int (wd : Int) t1, .str " " t2, .str ";" t3]) Q E s := by
  refine wpAny_call (make_K F N (X.keeps F.keep) (vf_makes w) (vf_finit w) (vf_tinit w) ?_)
  intro x dx hh1 F1 N1 l1 l2
  rw [under_make1]
  have hne : @Ne Nat x dx := Nat.ne_of_gt l2
  have c := vfinit_code w p loose mean mg mb (dp + 1) (un + 1) gd cn cs a ccd cl outer A₀ base h₀ L m { s with heap := hh1 } (fun v s' => v = .none ∧ Q (.ref x) s') E x dx wd t0 t1 t2 t3 B F1 X (y_sub N1 (subc (.head _) (sub1 (.tail _ (.head _))))) T hkf (by omega) (by omega) hne ?_
  · refine codeAny_mono c fun r s' z => ?_
    rcases r with e | (v | _ | _ | _) <;> exact z
  · intro li ac ax na nl hi kt ti V h' tk' e1 e2 e3 e4 G o1 o2 o3 o4 n1 n2 n3
    have F' : Fr h₀ L h' m := y_fr_ge F1 G fun b hb => by rw [List.mem_singleton.mp hb]; exact (N1 _ (.tail _ (.head _))).2
    have N' : News h₀ L h' news := fun q hq => by
      have n := N1 q (.tail _ (.tail _ hq))
      have k1 := l1 q hq
      refine ⟨G _ _ (fun hm => ?_) n.1, n.2⟩
      rw [List.mem_singleton.mp hm] at k1; exact Nat.lt_irrefl _ k1
    have N2 := y_fresh F1 (y_fresh F1 (y_fresh F1 N' n2 e4) n3 e3) n1 e2
    refine ⟨rfl, hret x dx li ac ax na nl hi kt ti V h' tk' F' ?_ l1 l2 o1 o3 o4⟩
    intro q hq
    rcases List.mem_cons.mp hq with rfl | hq
    · exact ⟨G _ _ (fun hm => hne (List.mem_singleton.mp hm)) (N1 _ (.head _)).1, (N1 _ (.head _)).2⟩
    · rcases List.mem_cons.mp hq with rfl | hq
      · exact ⟨e1, (N1 _ (.tail _ (.head _))).2⟩
      · exact N2 q hq
end
section -- JFig
theorem zsJFig : True := by
  w_top off
  k_with_none
  k_with "omega" => (lia)
  k_with "lt" => (skip)
  k_with "execs cons" => (refine y_consS ?_; intro sk9 qk9)
  k_with "te" => first | refine TE.next (by assumption) _ ?_ | refine TE.cont (by assumption) _ ?_ | skip
  k_with "pyIter ref" => (k_here; (with_reducible show wpAny _ _ (pyIter (Value.ref _)) (ForPack _ _ _ _ _ _ _ _) _ _); refine YStop.of ?_)
  k_with "exec For Name Call cons nil" => (k_here; (with_reducible show wpAny _ _ (exec (Stmt.For _ _ _ _ _) _) _ _ _); refine YStop.of ?_)
  k_with "eval Name" => (k_here; k_dflt (refine' ld ?k1 ?k2 ?_; (case k1 => k_asm); (case k2 => first | assumption | exact YUp.to (by assumption) | exact YUp.to (YUp.to (by assumption)) | exact YUp.to (YUp.to (YUp.to (by assumption)))); k_whole))
  k_with "binaryOp Add ref" => (k_here; k_dflt (refine' add_list_N ?F ?N ?hl ?hb ?h1 ?h2 ?_; (case F | N => k_asm); (case hl | hb => k_mem); (case h1 | h2 => first | assumption | omega | (simp only [List.size_toArray, List.length_replicate]; omega)); k_whole; intro h9' l9' F9' N9' lz1; (try k_lt lz1)))
  k_with "exec Assign cons ListComp" => (k_here; (with_reducible show wpAny _ _ (exec (PySem.Stmt.Assign _ _ _) _) _ _ _); refine YStop.of ?_)
  k_with "call type:zip" => (k_here; refine YStop.of ?_)
  k_with "binaryOp Mult ref int" => (k_here; k_dflt (refine' y_mul1 ?F ?N ?hm ?h0 ?h1 ?_; (case F | N => k_asm); (case hm => k_mem); (case h0 | h1 => omega); k_whole; intro h9' r9' F9' N9' lz1; (try k_lt lz1)))
  trivial
noncomputable def figStep (f : List Int) (g : Nat) : List Int := List.zipWith (· + ·) (f ++ List.replicate g 0) (List.replicate g 0 ++ f)
noncomputable def figsK (v : Int) (ws : List Int) (st : Nat) : Nat → List Int
  | 0 => [1]
  | k + 1 => if (k : Int) ≠ v then figStep (figsK v ws st k) (st + (ws.getD k 0).toNat) else figsK v ws st k
theorem figStep_len (f : List Int) (g : Nat) : (figStep f g).length = f.length + g := by
  unfold figStep
  simp
  omega
theorem figsK_len {v : Int} {ws : List Int} {st : Nat} (hw4 : ws.length = 4) (hw : ∀ x ∈ ws, 1 ≤ x ∧ x ≤ 4) (hst : st ≤ 17) : ∀ k, k ≤ 4 → (figsK v ws st k).length ≤ 1 + 21 * k
  | 0, _ => Nat.le_refl _
  | k + 1, h => by
    have ih := figsK_len (v := v) hw4 hw hst k (by omega)
    have := getD_rng hw (show k < ws.length by omega)
    unfold figsK
    split
    · rw [figStep_len]; omega
    · omega
theorem intsAre_rep (t : Tok) : ∀ n : Nat, IntsAre (List.replicate n (.int 0 t)) (List.replicate n 0)
  | 0 => .nil
  | n + 1 => .cons _ _ (intsAre_rep t n)
theorem figs_spec
  (wl : Addr) (wvs : Array Value) (wn : Nat) (ws : List Int) (v : Int) (st : Nat) (t1 t2 : Tok)
  (B : Below A₀ base outer h₀) (F : Fr h₀ L s.heap m) (X : (hd.heap_1 w.params).In h₀) (N : News h₀ L s.heap ([(wl, listOf wvs wn)])) (T : Top p loose mean mg mb h₀) (hkf : cs.kind = .function)
  (hdp : dp + 3 < recursionLimit) (hun : un + 24 < cLine)
  (hI : IntsAre wvs.toList ws) (hw4 : ws.length = 4) (hw : ∀ x ∈ ws, 1 ≤ x ∧ x ≤ 4) (hst : st ≤ 17)
  (hret : ∀ (l : Addr) (fvs : Array Value) (fn tk' : Nat) h', Ge [] s.heap h' → h'.get? l = some (listOf fvs fn) → s.heap.get? l = none → IntsAre fvs.toList (figsK v ws st 4) → Q (.ref l) { s with heap := h', toks := tk' }) :
  wpAny (model PySem.Challenge.rw_yj0031_01.row.prog w) (ktrTop dp un gd cn cs L a ccd cl outer) (call (.ref 435) [.int v t1, .ref wl, .int (st : Int) t2]) Q E s := by
  revert X; k_fill; intro X
  refine wpAny_call ?_
  refine' y_code ?k1 ?k2 ?k3 ?k4 ?k5 ?kA ?kF ?kK ?k6 ?k7 ?k8 ?k9 ?kB ?_ ?c2 ?c3 ?c4 ?c5
  (case kA | kF => exact rfl); (case kK | k1 | k2 | k3 | k4 | k5 => assumption); (case k6 | k7 => k_is); (case k8 => ktr_room); (case k9 => first | exact BindsTo.of_eq rfl | exact binds_K (by k_in) rfl (by k_is) rfl rfl rfl); (case c5 => decide); (case kB => exact locs rfl); (case c2 | c3 | c4 => exact rfl); have N0 := YOld.mk N; clear B F X N T; intro g L1 h1 hG F1 N1 B1 X1 T1 l1; (try dsimp only); (try k_lt l1); (try k_fold)
  k_steps
  (rename Fr _ _ _ _ => F5); (rename News _ _ _ _ => N5)
  refine y_for ?_ (fun _ => rfl)
  k_steps
  (rename IsRange _ _ _ _ _ _ _ _ => R5); (rename Fr _ _ _ _ => F5); (rename News _ _ _ _ => N5)
  refine YStop.to (y_up (lo := 0) (N := 4) (J := fun I k s' => YStop (YEx4 fun m' fl fvs fn => YAnd8 (Fr g L1 s'.heap m') (News g L1 s'.heap [(fl, listOf fvs fn), (wl, listOf wvs wn)]) (IsRangeIter s'.heap I ((0 : Int) + k) ((4 : Nat) - (k : Int)) 1) (IntsAre fvs.toList (figsK v ws st k)) (YNe fl I) (YNe wl fl) (m' "figures" = some (.ref fl)) (YAnd4 (m' "weights" = some (.ref wl)) (m' "stride" = some (.int (st : Int) t2)) (m' "voter" = some (.int v t1)) (s' = { s with heap := s'.heap, toks := s'.toks })))) rfl (by decide) (by decide) (by decide) (by simpa using R5) ?_ ?_ ?_ ?_)
  · intro I h2 eI hk2 hit2
    have l9 := y_apart N5 eI
    k_extra "te"; exact YStop.to ⟨_, _, _, _, F5.keeps hk2, (fun q hq => ⟨hk2 _ _ (N5 q hq).1, (N5 q hq).2⟩), by simpa using hit2, .cons _ _ .nil, l9.1, (by assumption), rfl, rfl, rfl, rfl, rfl⟩
  · rintro I k s' ⟨m', fl, fvs, fn, F', N', hit', _⟩ _
    exact hit'
  · rintro I k s' h' tk' tki eI hk ⟨m8, fl, fvs, fn, F8, N8, _, hI8, hnf, hnw, mf, mw, ms, mv, hs8⟩ hit9 hkeep9 KR9 hKR9
    rw [hs8] at F8 N8 hkeep9 ⊢
    have l9 := y_apart N5 eI
    (repeat (first | (replace l9 := allNe_one l9) | (have := allNe_hd2 l9; replace l9 := allNe_tl2 l9)))
    obtain ⟨F9, N9⟩ := y_iter_step2 F5 eI (y_allc (YNe.to hnf) (y_allc (YNe.to l9) y_all0)) F8 N8 hkeep9 hit9
    clear F5 N5 F8 N8
    (try dsimp only at F9 N9 ⊢)
    have hlen := figsK_len (v := v) hw4 hw hst k (by omega)
    have hfz : fvs.size = (figsK v ws st k).length := by rw [← Array.length_toList]; exact hI8.length
    have hwk := getD_rng hw (show ((0 : Int) + (k : Int)).toNat < ws.length by rw [zero_k, hw4]; exact hk)
    k_steps
    · (rename Fr _ _ _ _ => F6); (rename News _ _ _ _ => N6)
      refine YStop.to (y_compZ F6 rfl (by with_unfolding_all rfl) rfl (by with_unfolding_all rfl) (by decide) rfl (by decide) rfl rfl (by decide) rfl rfl ?helt ?src (fun _ => rfl))
      case helt =>
        intro C a b ta tb s₂ m₂ E' hns h1 h2
        k_steps
        exact ⟨_, _, rfl, fun _ _ e => e⟩
      case src =>
        have hf9 : fvs.size ≤ 1000 := by omega
        have hk0 : ((0 : Int) + (k : Int)).toNat = k := zero_k k
        k_steps
        (rename Fr _ _ _ _ => F7); (rename News _ _ _ _ => N7)
        refine' YStop.to (y_zip rfl F7 N7 ?m1 ?m2 ?i1 ?i2 ?hz ?fin)
        case m1 => exact .tail _ (.head _)
        case m2 => exact .head _
        case i1 => rw [Array.toList_append]; exact hI8.append (intsAre_rep _ _)
        case i2 => rw [Array.toList_append]; exact (intsAre_rep _ _).append hI8
        case hz => simp only [Array.size_append, List.size_toArray, List.length_replicate]; omega
        intro D ys h8 tk8 F8 N8 hap hI
        k_steps
        k_extra "te"; refine YStop.to ⟨_, D, ys.toArray, ys.length, F8, News.cons' N8 (.head _) (News.cons' N8 (by k_mem) y_all0), (N8 (I, _) (by k_mem)).1, ?_, (by have := hap; simp only [AllNe, and_true] at this; exact YNe.sym this.2.2.2.2.1), (by have := hap; simp only [AllNe, and_true] at this; exact this.2.2.2.2.2.2), ?_, mw, ms, mv, rfl⟩
        · rw [hk0] at hI
          have e : (st : Int) + ws.getD k 0 = ((st + (ws.getD k 0).toNat : Nat) : Int) := by rw [hk0] at hwk; omega
          rw [e, Int.toNat_natCast] at hI
          unfold figsK
          rw [if_pos (by omega)]
          simpa [figStep] using hI
        · exact rfl
    · (rename Fr _ _ _ _ => F6); (rename News _ _ _ _ => N6)
      k_extra "te"; refine YStop.to ⟨_, fl, fvs, fn, F6, News.cons' N6 (by k_mem) (News.cons' N6 (by k_mem) y_all0), (N6 (I, _) (by k_mem)).1, ?_, hnf, hnw, mf, mw, ms, mv, rfl⟩
      rename_i hkv _ _
      unfold figsK
      rw [if_neg (by omega)]
      exact hI8
  · rintro I s' h' tk' eI ⟨m8, fl, fvs, fn, F8, N8, hit8, hI8, hnf, hnw, mf, mw, ms, mv, hs8⟩ hkeep9
    rw [hs8] at F8 N8 hkeep9 ⊢
    have l9 := y_apart N5 eI
    (repeat (first | (replace l9 := allNe_one l9) | (have := allNe_hd2 l9; replace l9 := allNe_tl2 l9)))
    obtain ⟨F9, N9⟩ := y_iter_end F5 eI (y_allc (YNe.to hnf) (y_allc (YNe.to l9) y_all0)) F8 N8 hkeep9
    clear F5 N5 F8 N8
    (try dsimp only at F9 N9 ⊢)
    k_steps
    exact hret _ _ _ _ _ (y_ge N0 hG F9 N9 (y_allc (.inr (.tail _ (.head _))) y_all0)) (y_got N9 (.head _)) (y_new N0 hG N9 (.head _) (y_allc (YNe.to hnw) y_all0)) hI8
end
section -- JOrd
theorem zsJOrd : True := by
  w_top off
  k_with_none
  k_with "nd" => skip
  k_with "execs cons" => (refine y_consS ?_; intro sk9 qk9)
  k_with "mem" => first | assumption | exact List.Mem.head _ | (refine' List.Mem.tail _ ?_; k_extra "mem")
  k_with "pyIter ref" => (k_here; (with_reducible show wpAny _ _ (pyIter _) (ForPack _ _ _ _ _ _ _ _) _ _); refine YStop.of ?_)
  k_with "exec For" => (k_here; (with_reducible show wpAny _ _ (exec (Stmt.For _ _ _ _ _) _) _ _ _); refine YStop.of ?_)
  k_with "exec For Name Call cons nil" => (k_here; (with_reducible show wpAny _ _ (exec (Stmt.For _ _ _ _ _) _) _ _ _); refine YStop.of ?_)
  k_with "eval Name" => (k_here; (first | (with_reducible show wpAny _ _ (eval (.Name (.ofString "orders") _) _) _ _ _) | (with_reducible show wpAny _ _ (eval (.Name (.ofString "others") _) _) _ _ _) | (with_reducible show wpAny _ _ (eval (.Name (.ofString "odd") _) _) _ _ _)); k_dflt (refine' ld ?k1 ?k2 ?_; (case k1 => k_asm); (case k2 => first | assumption | exact rfl); k_whole))
  k_with "binaryOp Add ref" => (k_here; k_dflt (refine' add_list_N ?F ?N ?hl ?hb ?h1 ?h2 ?_; (case F | N => k_asm); (case hl | hb => k_mem); (case h1 => exact Nat.le_of_ble_eq_true rfl); (case h2 => first | exact Nat.le_trans (ints_sm1 (by assumption)) (by decide) | exact Nat.le_trans (ints_sm2 (by assumption)) (by decide)); k_whole; intro h9' l9' F9' N9' lz1; (try k_lt lz1)))
  k_with "call builtin:list.append" => (k_here; k_dflt (refine' y_appendB ?F ?N ?U ?hs ?_; (case F | N => k_asm); (case U => k_updF); (case hs => assumption); k_whole; intro h9' F9' N9'; (try dsimp only at N9')))
  k_with "eval ListComp" => (k_here; (with_reducible show wpAny _ _ (eval (PySem.Expr.ListComp _ _ _ _) _) _ _ _); refine YStop.of ?_)
  k_with "exec Assign cons ListComp" => (k_here; (with_reducible show wpAny _ _ (exec (PySem.Stmt.Assign _ _ _) _) _ _ _); refine YStop.of ?_)
  trivial
noncomputable def ordRow (i j : Int) : List Int :=
  [i, j] ++ (if (i + j - (if decide (i < j) = true then 1 else 0)).fmod 2 = 1 then (((List.range 4).map fun i : Nat => (i : Int)).filter fun a => a != i && a != j).reverse else ((List.range 4).map fun i : Nat => (i : Int)).filter fun a => a != i && a != j)
noncomputable def jsOf (k : Nat) : List Int := ((List.range 4).map fun i : Nat => (i : Int)).filter fun a => a != (0 + k : Int)
noncomputable def ordsF : Nat → List (List Int)
  | 0 => []
  | k + 1 => ordsF k ++ (jsOf k).map (ordRow (0 + (k : Int)))
theorem y_tt {a b c : Int} (h1 : a ≠ b) (h2 : a ≠ c) : true = (a != b && a != c) := by simp [h1, h2]
theorem take_map_snoc {js : List Int} {j : Nat} {n : Int} (f : Int → List Int) (h : js[j]? = some n) : (js.take (j + 1)).map f = (js.take j).map f ++ [f n] := by
  rw [List.take_add_one, h, List.map_append]; rfl
inductive OrdAre (tl : List (Addr × Obj)) : List Value → List (List Int) → Prop
  | nil : OrdAre tl [] []
  | cons {a vs n os r oss} : (a, listOf vs n) ∈ tl → IntsAre vs.toList os → OrdAre tl r oss → OrdAre tl (.ref a :: r) (os :: oss)
theorem news_head2 {h₀ h : Heap} {L l : Addr} {o : Obj} {r : List (Addr × Obj)} (N : News h₀ L h ((l, o) :: r)) : ∃ (rl : Addr) (ro : Obj), rl = l ∧ ro = o := ⟨l, o, rfl, rfl⟩
theorem OrdAre.mono {tl tl' : List (Addr × Obj)} (h : ∀ p ∈ tl, p ∈ tl') {r : List Value} {oss : List (List Int)} (k : OrdAre tl r oss) : OrdAre tl' r oss := by
  induction k with
  | nil => exact .nil
  | cons a b _ ih => exact .cons (h _ a) b ih
theorem OrdAre.snoc {tl : List (Addr × Obj)} {a : Addr} {vs : Array Value} {n : Nat} {os : List Int} (hm : (a, listOf vs n) ∈ tl) (hi : IntsAre vs.toList os) {r : List Value} {oss : List (List Int)} (k : OrdAre tl r oss) : OrdAre tl (r ++ [.ref a]) (oss ++ [os]) := by
  induction k with
  | nil => exact .cons hm hi .nil
  | cons a b _ ih => exact .cons a b ih
inductive OrdJ1 (rl L1 : Addr) (k : Nat) (led : List (Addr × Obj)) (m : Str → Option Value) : Prop
  | mk (oi oj : Obj) (vi vj : Option Value) (rvs : Array Value) (rn : Nat) (TL : List (Addr × Obj)) (el : led = (rl, listOf rvs rn) :: (L1 + 1 + 1, oj) :: (L1 + 1, oi) :: TL) (D : NdT [rl, L1 + 1 + 1, L1 + 1] (TL.map (·.1))) (O : OrdAre TL rvs.toList (ordsF k)) (sz : rvs.size ≤ 4 * k)
    (di : oi.data = .cell vi) (dj : oj.data = .cell vj) (mr : m "orders" = some (.ref rl)) : OrdJ1 rl L1 k led m
inductive OrdJ2 (rl L1 I D : Addr) (oI oi : Obj) (ys : Array Value) (kk k k2 : Nat) (led : List (Addr × Obj)) (m : Str → Option Value) : Prop
  | mk (oj : Obj) (vj : Option Value) (rvs : Array Value) (rn : Nat) (TL : List (Addr × Obj)) (el : led = (D, listOf ys kk) :: (I, oI) :: (rl, listOf rvs rn) :: (L1 + 1 + 1, oj) :: (L1 + 1, oi) :: TL) (Dn : NdT [D, I, rl, L1 + 1 + 1, L1 + 1] (TL.map (·.1)))
    (O : OrdAre TL rvs.toList (ordsF k ++ ((jsOf k).take k2).map (ordRow (0 + (k : Int))))) (sz : rvs.size ≤ 4 * k + k2) (dj : oj.data = .cell vj) (mr : m "orders" = some (.ref rl)) : OrdJ2 rl L1 I D oI oi ys kk k k2 led m
theorem ord_spec
  (B : Below A₀ base outer h₀) (F : Fr h₀ L s.heap m) (X : (hd.heap_1 w.params).In h₀) (N : News h₀ L s.heap ([])) (T : Top p loose mean mg mb h₀) (hkf : cs.kind = .function)
  (hdp : dp + 3 < recursionLimit) (hun : un + 24 < cLine)
  (hret : ∀ (l : Addr) (tk' : Nat) h' (rvs : Array Value) (rn : Nat) (tl : List (Addr × Obj)), Ge [] s.heap h' → h'.get? l = some (listOf rvs rn) → s.heap.get? l = none → OrdAre tl rvs.toList (ordsF 4) → (∀ p ∈ tl, h'.get? p.1 = some p.2 ∧ s.heap.get? p.1 = none) → Q (.ref l) { s with heap := h', toks := tk' }) :
  wpAny (model PySem.Challenge.rw_yj0031_01.row.prog w) (ktrTop dp un gd cn cs L a ccd cl outer) (call (.ref 402) []) Q E s := by
  revert X; k_fill; intro X
  refine wpAny_call ?_
  refine' y_codeC ?k1 ?k2 ?k3 ?k4 ?k5 ?kA ?kF ?kK ?k6 ?k7 ?k8 ?k9 ?kB ?kD ?_ ?c2 ?c3 ?c4
  (case kA | kF => exact rfl); (case kK | k1 | k2 | k3 | k4 | k5 => assumption); (case k6 | k7 => k_is); (case k8 => ktr_room); (case k9 => first | exact BindsTo.of_eq rfl | exact binds_K (by k_in) rfl (by k_is) rfl rfl rfl); (case kB => exact rfl); (case kD => decide +kernel); (case c2 | c3 | c4 => exact rfl); have N0 := YOld.mk N; clear B F X N T; intro g L1 h1 tk1 cells1 hG F1 N1 Y1 B1 X1 T1 l1; k_cells Y1; (try simp only [List.cons_append, List.nil_append] at N1); (try dsimp only); (try k_fold)
  replace F1 : Fr g L1 h1 (fun _ => none) := F1
  rename_i oj oi dj di
  replace dj : oj.data = .cell none := dj
  replace di : oi.data = .cell none := di
  have Dz : NdT [L1 + 1 + 1, L1 + 1] [] := ⟨List.nodup_cons.mpr ⟨fun hm => Nat.succ_ne_self _ (List.mem_singleton.mp hm), List.nodup_cons.mpr ⟨fun hm => (nomatch hm), List.nodup_nil⟩⟩, fun _ _ hm => nomatch hm⟩
  clear l1
  k_steps
  (rename News _ _ _ _ => N5)
  obtain ⟨rl, rfl⟩ := news_head N5
  refine y_for ?_ (fun _ => rfl)
  k_steps
  (rename IsRange _ _ _ _ _ _ _ _ => R5); (rename Fr _ _ _ _ => F5); (rename News _ _ _ _ => N5); (rename NdT _ _ => D5)
  refine YStop.to (y_upS (N := 4) (OrdJ1 rl L1) rfl (by decide) (by decide) (by decide) rfl R5 F5 N5 ?hJ0 ?step ?done)
  case hJ0 => exact .mk _ _ _ _ _ _ [] rfl D5 .nil (Nat.zero_le _) di dj rfl
  case step =>
    intro I oI k h8 tk8 led8 m8 tki hap hk hj F8 N8
    obtain ⟨oi8, oj8, vi, vj, rvs, rn, TL, el, D8, hO8, hz8, di8, dj8, mr⟩ := hj
    subst el
    have Dz := nd_ap hap D8 rfl
    clear F5 N5 D5 hap D8
    k_steps
    refine y_for ?_ (fun _ => rfl)
    k_steps
    (rename Fr _ _ _ _ => F6); rename_i h6 o6 N6 d6
    refine YStop.to (y_compR (h₀ := g) (L := L1) (m := m8) (pz := fun a => a != (0 + k : Int)) (n := 4) rfl (by with_unfolding_all rfl) (by decide) rfl (by decide) rfl (by decide) (by decide) (fun _ => rfl) ?_)
    k_steps
    (rename IsRange _ _ _ _ _ _ _ _ => R7); (rename Fr _ _ _ _ => F7); (rename News _ _ _ _ => N7)
    unfold CompR
    refine YStop.to ⟨_, _, _, _, _, rfl, R7, F7, N7, ?test, ?fin⟩
    case test =>
      intro C a ta s₂ m₂ E' hC ha hns hm hk
      k_steps
      exact ⟨_, _, rfl, fun _ _ e => e⟩
    case fin =>
      intro D ys kk h8 tk8 N8 hap8 hI8 F8
      replace Dz := nd_ap hap8 Dz rfl
      (try clear F7); (try clear N7); (try clear F6); (try clear N6); clear hap8
      k_steps
      refine YStop.to (y_listS (l := D) (items := ys) (n := kk) (OrdJ2 rl L1 I D oI o6 ys kk k) rfl F8 N8 (by k_mem) ?jJ0 ?jJm ?jstep ?jdone)
      case jJ0 => exact .mk oj8 vj rvs rn TL rfl Dz (by rw [List.take_zero, List.map_nil, List.append_nil]; exact hO8) hz8 dj8 mr
      case jJm =>
        intro k2 led' m' hj
        obtain ⟨_, _, _, _, _, el, _⟩ := hj
        rw [el]
        k_mem
      case jstep =>
        intro I2 oI2 k2 h10 tk10 led10 m10 v hap hv hj F10 N10
        obtain ⟨oj10, vj10, rvs10, rn10, TL10, el, D10, hO10, hz10, dj10, mr10⟩ := hj
        subst el
        clear F8 N8 Dz hO8 hz8
        have Dz := nd_ap hap D10 rfl
        clear hap D10
        obtain ⟨n9, t9, rfl, hn9⟩ := hI8.at k2 v (by rw [Array.getElem?_toList]; exact hv)
        k_steps
        (rename Fr _ _ _ _ => F13); (rename News _ _ _ _ => N13); rename_i h13 oj13 d13
        refine YStop.to (y_compRA (h₀ := g) (L := L1) (m := m10) (pz := fun a => a != (0 + k : Int) && a != n9) (n := 4) (by with_unfolding_all rfl) rfl rfl (by with_unfolding_all rfl) (by decide) rfl (by decide) rfl (by decide) (by decide) rfl rfl (fun _ => rfl) ?_)
        k_steps
        (rename IsRange _ _ _ _ _ _ _ _ => R14); (rename Fr _ _ _ _ => F14); (rename News _ _ _ _ => N14)
        unfold CompR
        refine YStop.to ⟨_, _, _, _, _, rfl, R14, F14, N14, ?test2, ?fin2⟩
        case test2 =>
          intro C a ta s₂ m₂ E' hC ha hns hm hk
          k_steps
          all_goals first
            | exact ⟨_, _, rfl, fun _ _ e => e⟩
            | exact y_tt (by assumption) (by assumption)
            | (rename_i hx1; simp only [beq_iff_eq, bne_iff_ne, ne_eq, Bool.and_eq_true, decide_eq_true_eq, Decidable.not_not] at *; simp [*]; done)
            | trace_state
        case fin2 =>
          intro D2 ys2 kk2 h15 tk15 N15 hap15 hI15 F15
          replace Dz := nd_ap hap15 Dz rfl
          have hz11 : rvs10.size ≤ 1000 := Nat.le_trans hz10 (Nat.le_trans (Nat.add_le_add (Nat.mul_le_mul_left 4 (Nat.le_of_lt hk)) (Nat.le_trans (Nat.le_of_lt (Array.getElem?_eq_some_iff.mp hv).1) (ints_sm2 hI8))) (by decide))
          clear hap15 R14
          (try clear F14); (try clear N14); (try clear F13); (try clear N13)
          k_steps
          all_goals first | exact ("" : Str) | exact (0 : Nat) | exact Value.none | skip
          all_goals
            (rename Fr _ _ _ _ => F16); (rename News _ _ _ _ => N16); (rename IntsAre _ _ => I16); (rename NdT _ _ => D16)
            obtain ⟨l16, o16, rfl, e16⟩ := news_head2 N16
            rw [← e16] at N16
            have hn9j : (jsOf k)[k2]? = some n9 := hn9
            have Dq : NdT [I2, D, I, rl, L1 + 1 + 1, L1 + 1] (((l16, o16) :: TL10).map (·.1)) := by first | exact nd_push (nd_del 1 (nd_del 1 (nd_del 1 D16))) | exact nd_push (nd_del 1 (nd_del 1 D16))
            refine' YStop.to (TurnS.mk _ _ _ _ rfl F16 ?news (nd_off Dq rfl) (OrdJ2.mk oj13 _ _ _ ((l16, o16) :: TL10) rfl (nd_drop Dq) ?ords ?size d13 mr10))
            case news => exact y_sub N16 (subc (by k_mem) (subc (by k_mem) (subc (by k_mem) (subc (by k_mem) (subc (by k_mem) (subc (by k_mem) (subc (by k_mem) fun p hp => by k_mem)))))))
            case size => rw [Array.size_push]; exact Nat.succ_le_succ hz10
            case ords =>
              rw [take_map_snoc _ hn9j, ← List.append_assoc, Array.toList_push]
              refine OrdAre.snoc (by rw [← e16]; exact .head _) ?_ (hO10.mono fun p hp => .tail _ hp)
              rw [Array.toList_append]
              unfold ordRow
              first
                | (rw [if_pos (by assumption)]; exact IntsAre.append (.cons _ _ (.cons _ _ .nil)) I16)
                | (rw [if_neg (by assumption)]; exact IntsAre.append (.cons _ _ (.cons _ _ .nil)) I16)
      case jdone =>
        intro h12 tk12 led12 m12 hj F12 N12
        obtain ⟨oj10, vj10, rvs10, rn10, TL10, el, D10, hO10, hz10, dj10, mr10⟩ := hj
        subst el
        clear F8 N8 Dz hO8 hz8
        have hyz : ys.size = (jsOf k).length := by rw [← Array.length_toList]; exact hI8.length
        rw [hyz, List.take_length] at hO10
        k_steps
        refine YStop.to (TurnS.mk _ _ _ _ rfl F12 (y_sub N12 fun p hp => .tail _ hp) (nd_off (nd_drop D10) rfl) (OrdJ1.mk _ _ _ _ _ _ _ rfl (nd_drop (nd_drop D10)) hO10 (Nat.le_trans hz10 (Nat.add_le_add_left (ints_sm2 hI8) _)) d6 dj10 mr10))
  case done =>
    intro h8 tk8 led8 m8 hj F9 N9
    obtain ⟨oi8, oj8, vi, vj, rvs, rn, TL, el, D8, hO8, hz8, di8, dj8, mr⟩ := hj
    subst el
    clear F5 N5 D5
    k_steps
    all_goals first | exact ("" : Str) | exact (0 : Nat) | exact Value.none | skip
    exact hret _ _ _ _ _ _ (y_ge N0 hG F9 N9 y_all0) (y_got N9 (.head _)) (y_new N0 hG N9 (.head _) y_all0) hO8 fun p hp => ⟨(N9 p (.tail _ (.tail _ (.tail _ hp)))).1, y_new (o := p.2) N0 hG N9 (.tail _ (.tail _ (.tail _ hp))) y_all0⟩
end
section -- JCnt
theorem zsJCnt : True := by
  w_top off
  k_with_none
  k_with "omega" => (lia)
  k_with "lt" => (skip)
  k_with "execs cons" => (refine y_consS ?_; intro sk9 qk9)
  k_with "te" => first | refine TE.next (by assumption) _ ?_ | refine TE.cont (by assumption) _ ?_ | skip
  k_with "pyIter ref" => (k_here; (with_reducible show wpAny _ _ (pyIter (Value.ref _)) (ForPack _ _ _ _ _ _ _ _) _ _); refine YStop.of ?_)
  k_with "exec For Name Call cons nil" => (k_here; (with_reducible show wpAny _ _ (exec (Stmt.For _ _ _ _ _) _) _ _ _); refine YStop.of ?_)
  k_with "loadName" => (k_here; k_dflt (refine' ldn ?k1 ?k2 ?_; (case k1 => k_asm); (case k2 => first | assumption | exact YUp.to (by assumption) | exact YUp.to (YUp.to (by assumption)) | exact YUp.to (YUp.to (YUp.to (by assumption)))); k_whole))
  k_with "eval Name" => (k_here; k_dflt (refine' ld ?k1 ?k2 ?_; (case k1 => k_asm); (case k2 => first | assumption | exact YUp.to (by assumption) | exact YUp.to (YUp.to (by assumption)) | exact YUp.to (YUp.to (YUp.to (by assumption)))); k_whole))
  k_with "binaryOp Add ref" => (k_here; k_dflt (refine' add_list_N ?F ?N ?hl ?hb ?h1 ?h2 ?_; (case F | N => k_asm); (case hl | hb => k_mem); (case h1 | h2 => first | assumption | omega | (simp only [List.size_toArray, List.length_replicate]; omega)); k_whole; intro h9' l9' F9' N9' lz1; (try k_lt lz1)))
  k_with "binaryOp Mult ref int" => (k_here; k_dflt (refine' y_mul1 ?F ?N ?hm ?h0 ?h1 ?_; (case F | N => k_asm); (case hm => k_mem); (case h0 | h1 => omega); k_whole; intro h9' r9' F9' N9' lz1; (try k_lt lz1)))
  k_with "subscriptTail" => (k_here; (with_reducible show wpAny _ _ (subscriptTail _ _ (Value.ref _) (Value.int _ _)) _ _ _); k_dflt (refine' item_intsB ?N ?hm ?hI ?h0 ?h1 ?hw ?_ ?hs; (case N => k_asm); (case hm => k_mem); (case hI => first | assumption | exact .cons _ _ (.cons _ _ (.cons _ _ (.cons _ _ .nil)))); (case h0 => omega); (case h1 | hw => first | omega | (simp only [List.length_cons, List.length_nil]; omega)); (case hs => exact rfl); k_whole; intro t9'))
  trivial
noncomputable def cntIn (ps : List Int) (c : Int) (b : Nat) : Nat → Int
  | 0 => 0
  | j + 1 => cntIn ps c b j + c * ps.getD (b + j) 0
noncomputable def cntK (ps : List Int) (st lo n : Nat) : Nat → Int
  | 0 => 0
  | k + 1 => cntK ps st lo n k + cntIn ps ([3, 1, 1, 3].getD k 0) (k * st + lo) n
theorem coef_rng {k : Nat} (h : k < 4) : 1 ≤ [(3 : Int), 1, 1, 3].getD k 0 ∧ [(3 : Int), 1, 1, 3].getD k 0 ≤ 3 := by
  have := lt_4 k h
  rcases this with rfl | rfl | rfl | rfl <;> decide
theorem prod_rng {c x : Int} (h : 1 ≤ c ∧ c ≤ 3) (k : 0 ≤ x ∧ x ≤ 8) : 0 ≤ c * x ∧ c * x ≤ 24 := by
  have : c = 1 ∨ c = 2 ∨ c = 3 := by omega
  rcases this with rfl | rfl | rfl <;> omega
theorem getD_08 {ps : List Int} (h : ∀ x ∈ ps, 0 ≤ x ∧ x ≤ 8) (j : Nat) : 0 ≤ ps.getD j 0 ∧ ps.getD j 0 ≤ 8 := by
  rw [List.getD_eq_getElem?_getD]
  cases e : ps[j]? with
  | none => decide
  | some x => exact h x (List.mem_of_getElem? e)
theorem cntIn_rng {ps : List Int} {c : Int} (h : ∀ x ∈ ps, 0 ≤ x ∧ x ≤ 8) (hc : 1 ≤ c ∧ c ≤ 3) (b : Nat) : ∀ j : Nat, 0 ≤ cntIn ps c b j ∧ cntIn ps c b j ≤ 24 * j
  | 0 => ⟨Int.le_refl _, Int.le_refl _⟩
  | j + 1 => by
    have a := cntIn_rng h hc b j
    have d := prod_rng hc (getD_08 h (b + j))
    unfold cntIn
    exact ⟨Int.add_nonneg a.1 d.1, by rw [Int.natCast_add, Int.mul_add]; exact Int.add_le_add a.2 d.2⟩
theorem cntK_rng {ps : List Int} {st lo n : Nat} (h : ∀ x ∈ ps, 0 ≤ x ∧ x ≤ 8) : ∀ k : Nat, k ≤ 4 → 0 ≤ cntK ps st lo n k ∧ cntK ps st lo n k ≤ 24 * n * k
  | 0, _ => by simp [cntK]
  | k + 1, hk => by
    have a := cntK_rng (st := st) (lo := lo) (n := n) h k (Nat.le_of_succ_le hk)
    have b := cntIn_rng h (coef_rng hk) (k * st + lo) n
    unfold cntK
    have e : (24 * (n : Int)) * ((k + 1 : Nat) : Int) = 24 * n * k + 24 * n := by
      rw [Int.natCast_add, Int.mul_add]; simp
    exact ⟨Int.add_nonneg a.1 b.1, by rw [e]; exact Int.add_le_add a.2 b.2⟩
theorem rep_08 {fs : List Int} (h : ∀ x ∈ fs, 0 ≤ x ∧ x ≤ 8) (n : Nat) : ∀ x ∈ fs ++ List.replicate n 0, 0 ≤ x ∧ x ≤ 8 := fun x hx => by
  rcases List.mem_append.mp hx with hx | hx
  · exact h x hx
  · rw [List.eq_of_mem_replicate hx]; decide
theorem k_st {k st : Nat} (hk : k < 4) : ((0 : Int) + (k : Int)) * (st : Int) = ((k * st : Nat) : Int) ∧ k * st ≤ 3 * st := ⟨by rw [Int.zero_add]; exact (Int.natCast_mul k st).symm, Nat.mul_le_mul_right st (by omega)⟩
theorem cnt_spec
  (fl : Addr) (fvs : Array Value) (fn : Nat) (fs : List Int) (st wt q : Nat) (t1 t2 t3 : Tok)
  (B : Below A₀ base outer h₀) (F : Fr h₀ L s.heap m) (X : (hd.heap_1 w.params).In h₀) (N : News h₀ L s.heap ([(fl, listOf fvs fn)])) (T : Top p loose mean mg mb h₀) (hkf : cs.kind = .function)
  (hdp : dp + 3 < recursionLimit) (hun : un + 24 < cLine)
  (hI : IntsAre fvs.toList fs) (hfl : fs.length ≤ 100) (hst : st ≤ 17) (hwt : wt ≤ 4) (hq : q < st) (hfb : ∀ x ∈ fs, 0 ≤ x ∧ x ≤ 8)
  (hret : ∀ (t : Tok) (tk' : Nat) h', Ge [] s.heap h' → Q (.int (cntK (fs ++ List.replicate (4 * st) 0) st (q - wt) (min q wt) 4) t) { s with heap := h', toks := tk' }) :
  wpAny (model PySem.Challenge.rw_yj0031_01.row.prog w) (ktrTop dp un gd cn cs L a ccd cl outer) (call (.ref 442) [.ref fl, .int (st : Int) t1, .int (wt : Int) t2, .int (q : Int) t3]) Q E s := by
  revert X; k_fill; intro X
  refine wpAny_call ?_
  refine' y_codeT (rb := [(("quota" : Str), (.int (q : Int) t3 : Value)), (("weight" : Str), (.int (wt : Int) t2 : Value)), (("stride" : Str), (.int (st : Int) t1 : Value)), (("figures" : Str), (.ref fl : Value))]) ?k1 ?k2 ?k3 ?k4 ?k5 ?kA ?kF ?kK ?k6 ?k7 ?k8 ?k9 ?kR ?kB ?_ ?c2 ?c3 ?c4 ?c5
  (case kA | kF => exact rfl); (case kK | k1 | k2 | k3 | k4 | k5 => assumption); (case k6 | k7 => k_is); (case k8 => ktr_room); (case k9 => first | exact BindsTo.of_eq rfl | exact binds_K (by k_in) rfl (by k_is) rfl rfl rfl); (case kR => exact rfl); (case c5 => decide); (case kB => exact locs rfl); (case c2 | c3 | c4 => exact rfl); have N0 := YOld.mk N; clear B F X N T; intro g L1 h1 tk1 hG F1 N1 B1 X1 T1 l1; (try dsimp only); (try k_lt l1); (try k_fold)
  have hfz : fvs.size = fs.length := by rw [← Array.length_toList]; exact hI.length
  k_steps
  (rename Fr _ _ _ _ => F5); (rename News _ _ _ _ => N5)
  have N6 : News g L1 _ [_, (fl, listOf fvs fn)] := News.cons' N5 (.head _) (News.cons' N5 (by k_mem) y_all0)
  have hIp : IntsAre (fvs ++ (List.replicate ((4 : Int) * (st : Int)).toNat (Value.int 0 tk1)).toArray).toList (fs ++ List.replicate (4 * st) 0) := by
    rw [show ((4 : Int) * (st : Int)).toNat = 4 * st by omega, Array.toList_append]
    exact hI.append (intsAre_rep tk1 _)
  generalize (fvs ++ (List.replicate ((4 : Int) * (st : Int)).toNat (Value.int 0 tk1)).toArray) = pvs at N5 N6 hIp
  clear N5
  have hps : (fs ++ List.replicate (4 * st) 0).length = fs.length + 4 * st := by simp
  have hp8 := rep_08 hfb (4 * st)
  generalize fs ++ List.replicate (4 * st) 0 = ps at hIp hps hp8 hret
  refine y_for ?_ (fun _ => rfl)
  k_steps
  (rename IsRange _ _ _ _ _ _ _ _ => R7); (rename Fr _ _ _ _ => F7); (rename News _ _ _ _ => N7)
  obtain ⟨pl, rfl⟩ := news_head N7
  refine YStop.to (y_up (lo := 0) (N := 4) (J := fun I k s' => YStop (YEx2 fun m' tc => YAnd8 (Fr g L1 s'.heap m') (News g L1 s'.heap [(pl, listOf pvs 0), (fl, listOf fvs fn)]) (IsRangeIter s'.heap I ((0 : Int) + k) ((4 : Nat) - (k : Int)) 1) (m' "count" = some (.int (cntK ps st (q - wt) (min q wt) k) tc)) (m' "places" = some (.ref pl)) (m' "stride" = some (.int (st : Int) t1)) (m' "weight" = some (.int (wt : Int) t2)) (m' "quota" = some (.int (q : Int) t3) ∧ s' = { s with heap := s'.heap, toks := s'.toks }))) rfl (by decide) (by decide) (by decide) (by simpa using R7) ?_ ?_ ?_ ?_)
  · intro I h2 eI hk2 hit2
    k_extra "te"; exact YStop.to ⟨_, _, F7.keeps hk2, (fun q hq => ⟨hk2 _ _ (N7 q hq).1, (N7 q hq).2⟩), by simpa using hit2, rfl, rfl, rfl, rfl, rfl, rfl⟩
  · rintro I k s' ⟨m', tc, F', N', hit', _⟩ _
    exact hit'
  · rintro I k s' h' tk' tki eI hk ⟨m8, tc, F8, N8, _, mc, mp, ms, mw, mq, hs8⟩ hit9 hkeep9 KR9 hKR9
    rw [hs8] at F8 N8 hkeep9 ⊢
    have l9 := y_apart N7 eI
    simp only [AllNe, and_true] at l9
    obtain ⟨F9, N9⟩ := y_iter_step2 F7 eI (y_allc (YNe.to l9.1) (y_allc (YNe.to l9.2) y_all0)) F8 N8 hkeep9 hit9
    have hn1 := l9.1
    have hn2 := l9.2
    clear F7 N7 F8 N8
    (try dsimp only at F9 N9 ⊢)
    k_steps
    refine y_for ?_ (fun _ => rfl)
    k_steps
    (rename IsRange _ _ _ _ _ _ _ _ => R10); (rename Fr _ _ _ _ => F10); (rename News _ _ _ _ => N10)
    have elo := sub_clip q wt
    rw [elo] at R10
    have ehi := sub_min q wt
    rw [ehi] at R10
    have hlo : q - wt ≤ 16 := Nat.le_trans (Nat.sub_le q wt) (Nat.le_of_lt_succ (Nat.lt_of_lt_of_le hq hst))
    have hnn : q - wt + min q wt < st := by rw [Nat.sub_add_min_cancel]; exact hq
    generalize q - wt = lo at R10 hlo hnn mc ehi elo hKR9 ⊢
    generalize min q wt = n at R10 hnn mc ehi hKR9 ⊢
    obtain ⟨hks, hks2⟩ := k_st (st := st) hk
    have hc := coef_rng (show ((0 : Int) + (k : Int)).toNat < 4 by rw [zero_k]; exact hk)
    have hr := cntK_rng (st := st) (lo := lo) (n := n) hp8 k (Nat.le_of_lt hk)
    refine YStop.to (y_up (lo := (lo : Int)) (N := n) (J := fun I2 j s' => YStop (YEx2 fun m' tc => YAnd8 (Fr g L1 s'.heap m') (News g L1 s'.heap [(I, { cls := Value.type "range_iterator", data := Data.fields #[rawInt (0 + ((k + 1 : Nat) : Int)), rawInt ((4 : Nat) - ((k + 1 : Nat) : Int)), rawInt 1] }), (pl, listOf pvs 0), (fl, listOf fvs fn)]) (IsRangeIter s'.heap I2 ((lo : Int) + j) ((n : Nat) - (j : Int)) 1) (m' "count" = some (.int (cntK ps st lo n k + cntIn ps ([(3 : Int), 1, 1, 3].getD ((0 : Int) + (k : Int)).toNat 0) (k * st + lo) j) tc)) (m' "size" = some (.int (0 + (k : Int)) tki)) (m' "places" = some (.ref pl)) (m' "stride" = some (.int (st : Int) t1)) (m' "weight" = some (.int (wt : Int) t2) ∧ m' "quota" = some (.int (q : Int) t3) ∧ s' = { s with heap := s'.heap, toks := s'.toks }))) rfl (by omega) (by omega) (by omega) (by simpa using R10) ?_ ?_ ?_ ?_)
    · intro I2 h2 eI2 hk2 hit2
      k_extra "te"; exact YStop.to ⟨_, _, F10.keeps hk2, (fun q hq => ⟨hk2 _ _ (N10 q hq).1, (N10 q hq).2⟩), by simpa using hit2, by rw [show cntIn ps ([(3 : Int), 1, 1, 3].getD ((0 : Int) + (k : Int)).toNat 0) (k * st + lo) 0 = 0 from rfl, Int.add_zero]; exact mc, rfl, mp, ms, mw, mq, rfl⟩
    · rintro I2 j s' ⟨m', tc, F', N', hit', _⟩ _
      exact hit'
    · rintro I2 j s' h' tk' tkj eI2 hj ⟨m12, tc12, F12, N12, _, nc, nz, np, ns, nw, nq, hs12⟩ hit13 hkeep13 KR13 hKR13
      rw [hs12] at F12 N12 hkeep13 ⊢
      have l13 := y_apart N10 eI2
      simp only [AllNe, and_true] at l13
      obtain ⟨F13, N13⟩ := y_iter_step2 F10 eI2 (y_allc (YNe.to l13.1) (y_allc (YNe.to l13.2.1) (y_allc (YNe.to l13.2.2) y_all0))) F12 N12 hkeep13 hit13
      clear F10 N10 F12 N12
      (try dsimp only at F13 N13 ⊢)
      have hx := getD_08 hp8 (((0 : Int) + (k : Int)) * (st : Int) + ((lo : Int) + (j : Int))).toNat
      have hpr := prod_rng hc hx
      have hri := cntIn_rng hp8 hc (k * st + lo) j
      k_steps
      (rename Fr _ _ _ _ => F14); (rename News _ _ _ _ => N14)
      have hcnt : cntK ps st lo n k + cntIn ps ([(3 : Int), 1, 1, 3].getD ((0 : Int) + (k : Int)).toNat 0) (k * st + lo) (j + 1) = cntK ps st lo n k + cntIn ps ([(3 : Int), 1, 1, 3].getD ((0 : Int) + (k : Int)).toNat 0) (k * st + lo) j + [(3 : Int), 1, 1, 3].getD ((0 : Int) + (k : Int)).toNat 0 * ps.getD (((0 : Int) + (k : Int)) * (st : Int) + ((lo : Int) + (j : Int))).toNat 0 := by
        rw [at_kj, Int.add_assoc]; rfl
      k_extra "te"; exact YStop.to ⟨_, _, F14, (fun p hp => N14 p (.tail _ (.tail _ hp))), (N14 (I2, _) (.tail _ (.head _))).1, (by rw [hcnt]; exact rfl), nz, np, ns, nw, nq, rfl⟩
    · rintro I2 s' h' tk' eI2 ⟨m12, tc12, F12, N12, _, nc, nz, np, ns, nw, nq, hs12⟩ hkeep13
      rw [hs12] at F12 N12 hkeep13 ⊢
      have l13 := y_apart N10 eI2
      simp only [AllNe, and_true] at l13
      obtain ⟨F13, N13⟩ := y_iter_end F10 eI2 (y_allc (YNe.to l13.1) (y_allc (YNe.to l13.2.1) (y_allc (YNe.to l13.2.2) y_all0))) F12 N12 hkeep13
      clear F10 N10 F12 N12
      (try dsimp only at F13 N13 ⊢)
      k_steps
      k_extra "te"; refine YStop.to ⟨_, tc12, F13, (fun p hp => N13 p (.tail _ hp)), (N13 (I, _) (.head _)).1, ?_, np, ns, nw, nq, rfl⟩
      rw [nc, zero_k]
      rfl
  · rintro I s' h' tk' eI ⟨m8, tc, F8, N8, _, mc, mp, ms, mw, mq, hs8⟩ hkeep9
    rw [hs8] at F8 N8 hkeep9 ⊢
    have l9 := y_apart N7 eI
    simp only [AllNe, and_true] at l9
    obtain ⟨F9, N9⟩ := y_iter_end F7 eI (y_allc (YNe.to l9.1) (y_allc (YNe.to l9.2) y_all0)) F8 N8 hkeep9
    clear F7 N7 F8 N8
    (try dsimp only at F9 N9 ⊢)
    k_steps
    exact hret _ _ _ (y_ge N0 hG F9 N9 (y_allc (.inr (.tail _ (.head _))) y_all0))
end
section -- JBig
open PySem.Calls PySem.Spec
theorem and_low (x s : Nat) : x &&& (x / 2 ^ s * 2 ^ s) = x / 2 ^ s * 2 ^ s := by
  apply Nat.eq_of_testBit_eq
  intro i
  rw [Nat.testBit_and, ← Nat.shiftLeft_eq, Nat.testBit_shiftLeft, Nat.testBit_div_two_pow]
  by_cases h : s ≤ i
  · simp [h, Nat.sub_add_cancel h]
  · simp [h]
theorem low_eq {x k : Nat} {xi sh : Int} (hx : xi = x) (hs : sh = k) : Builtin.bitXor xi (xi.fdiv (2 ^ sh.toNat) * 2 ^ sh.toNat) = ((x % 2 ^ k : Nat) : Int) := by
  subst hx hs
  rw [Int.toNat_natCast]
  have e : ((x : Int).fdiv (2 ^ k) * 2 ^ k) = ((x / 2 ^ k * 2 ^ k : Nat) : Int) := by
    rw [Int.natCast_mul, Int.natCast_ediv, Int.natCast_pow, Int.fdiv_eq_ediv_of_nonneg _ (by exact_mod_cast Nat.zero_le _)]; rfl
  rw [e]
  show Builtin.bitOr _ _ - Builtin.bitAnd _ _ = _
  rw [bitOr_and, bitAnd_pp (Int.natCast_nonneg _) (Int.natCast_nonneg _), Int.toNat_natCast, Int.toNat_natCast, and_low]
  have := Nat.div_add_mod x (2 ^ k)
  rw [Nat.mul_comm] at this
  omega
theorem up_eq {x k : Nat} {xi sh : Int} (hx : xi = x) (hs : sh = k) : xi.fdiv (2 ^ sh.toNat) = ((x / 2 ^ k : Nat) : Int) := by
  subst hx hs
  rw [Int.toNat_natCast, Int.natCast_ediv, Int.natCast_pow, Int.fdiv_eq_ediv_of_nonneg _ (by exact_mod_cast Nat.zero_le _)]; rfl
theorem mid_eq {l r : Nat} {li ri : Int} (hl : li = l) (hr : ri = r) : (li + ri).fdiv (2 ^ (1 : Int).toNat) = (((l + r) / 2 : Nat) : Int) := by
  subst hl hr
  show ((l : Int) + r).fdiv 2 = _
  rw [Int.fdiv_eq_ediv_of_nonneg _ (by decide)]
  omega
theorem bits_le_iff {x k : Nat} : Builtin.Int.intBits (x : Int) ≤ k ↔ x < 2 ^ k := by
  unfold Builtin.Int.intBits
  by_cases h : x = 0
  · subst h; simp; exact Nat.two_pow_pos k
  · have h' : ((x : Int) == 0) = false := by simp; exact h
    rw [h']
    simp only [Bool.false_eq_true, if_false, Int.natAbs_natCast]
    rw [Nat.succ_le_iff, Nat.log2_lt h]
theorem bits_nat {x k : Nat} {xi : Int} (e : xi = x) (h : x < 2 ^ k) : (Builtin.Int.intBits xi : Int) ≤ k := by
  subst e; exact_mod_cast bits_le_iff.mpr h
noncomputable def digs (n x k : Nat) : List Int := (List.range k).map fun i => ((x / 2 ^ (n * i) % 2 ^ n : Nat) : Int)
theorem digs_len (n x k : Nat) : (digs n x k).length = k := by simp [digs]
theorem digs_one {n x : Nat} (h : x < 2 ^ n) : digs n x 1 = [(x : Int)] := by
  simp [digs, List.range_succ, Nat.mod_eq_of_lt h]
  exact_mod_cast (Nat.mod_eq_of_lt h)
theorem digs_split (n x a b : Nat) : digs n x (a + b) = digs n (x % 2 ^ (n * a)) a ++ digs n (x / 2 ^ (n * a)) b := by
  unfold digs
  rw [List.range_add, List.map_append, List.map_map]
  congr 1
  · apply List.map_congr_left
    intro i hi
    have hi := List.mem_range.mp hi
    obtain ⟨c, rfl⟩ : ∃ c, a = i + 1 + c := ⟨a - (i + 1), by omega⟩
    have e : n * (i + 1 + c) = n * i + (n + n * c) := by rw [Nat.mul_add, Nat.mul_add]; omega
    congr 1
    rw [e, Nat.pow_add 2 (n * i), Nat.mod_mul_right_div_self, Nat.pow_add 2 n, Nat.mod_mul_right_mod]
  · apply List.map_congr_left
    intro i _
    show ((x / 2 ^ (n * (a + i)) % 2 ^ n : Nat) : Int) = _
    rw [Nat.div_div_eq_div_mul, ← Nat.pow_add, ← Nat.mul_add]
theorem up_lt {x n a b : Nat} (h : x < 2 ^ (n * (a + b))) : x / 2 ^ (n * a) < 2 ^ (n * b) := by
  rw [Nat.div_lt_iff_lt_mul (Nat.two_pow_pos _), ← Nat.pow_add, Nat.add_comm (n * b), ← Nat.mul_add]; exact h
theorem low_lt (x n a : Nat) : x % 2 ^ (n * a) < 2 ^ (n * a) := Nat.mod_lt _ (Nat.two_pow_pos _)
theorem fill_two {ds d1 d2 : List Int} {l a b : Nat} (h1 : d1.length = a) (h2 : d2.length = b) (hd : l + a + b ≤ ds.length) :
    (ds.take l ++ d1 ++ ds.drop (l + a)).take (l + a) ++ d2 ++ (ds.take l ++ d1 ++ ds.drop (l + a)).drop (l + a + b) = ds.take l ++ (d1 ++ d2) ++ ds.drop (l + a + b) := by
  have e : (ds.take l ++ d1).length = l + a := by rw [List.length_append, List.length_take, h1]; omega
  rw [List.take_append_of_le_length (by omega), List.take_of_length_le (by omega), List.drop_append, List.drop_eq_nil_of_le (by omega), List.nil_append, List.drop_drop, e]
  simp only [List.append_assoc]
  congr 4
  omega
theorem fill_one {ds : List Int} {l : Nat} (v : Int) (h : l < ds.length) : ds.set l v = ds.take l ++ [v] ++ ds.drop (l + 1) := by
  rw [List.set_eq_take_append_cons_drop, if_pos h]; simp
section
variable {prog : Program} {w : World} {A₀ A : Around} {s : Shared} {base h₀ : Heap} {outer : List Env} {L : Addr} {m mg mb : Str → Option Value} {env : Env} {news : List (Addr × Obj)} {K : Frag}
  {p : Program} {loose : List Str} {mean : ExcName → Option Value}
  {Q E : Value → Shared → Prop} {name qual : Str} {params : Arguments} {body : List Stmt} {scope : Scope} {doc pm ct : Value} {f c' : Addr} {cl : List (Str × Addr)} {args : Args} {binds rb : List (Str × Value)}
theorem y_codeN (B : Below A₀ base outer h₀) (F : Fr h₀ L s.heap m) (X : K.In h₀) (N : News h₀ L s.heap news) (T : Top p loose mean mg mb h₀) (hA : A.frames = some (env :: outer)) (hf : env.frame = some L) (hke : env.scope.kind = .function)
    (ho : (f, fnMade name qual params body scope cl doc pm c' ct) ∈ news) (hcd : s.heap.CodeRec (.ref c') qual) (hroom : A.depth < recursionLimit)
    (hbind : BindsTo s (fnX name qual params body scope cl .none .none doc pm none (.ref c') ct) args binds) (hrev : binds.reverse = rb) (hloc : ∀ y ∈ rb, scope.names.lookup y.1 = some .local)
    (h : ∀ g L' h₁ tk, HG (news.map (·.1)) s.heap g → Fr g L' h₁ (fun y => rb.lookup y) → News g L' h₁ news → Below A base (env :: outer) g → K.In g → Top p loose mean mg mb g → (∀ p ∈ news, p.1 < L') → 
      wpAny (model prog w) (A.deeper (envX qual scope L' f (.ref c') cl)) (execs body (envX qual scope L' f (.ref c') cl))
        (fun fl s' => YEnd Q (match fl with | .ret v => v | _ => .none) s') (fun _ _ => False) { s with heap := h₁, toks := tk })
    (hco : scope.isCoroutine = false) (hgen : scope.isGenerator = false) (hk : scope.kind = .function)
    (hcell : ∀ x ∈ scope.names, x.2 ≠ .cell) : codeAny (model prog w) A (.call (.ref f) args) (fun r s' => match r with | .ok (.ret v) => Q v s' | .ok _ => False | .error e => E e s') s := by
  subst hrev
  obtain ⟨_, BG, st, _⟩ := groundX (R := fun _ _ => True) B F N hA hf hke
  refine codeAny_call_def (fd := fnX name qual params body scope cl .none .none doc pm none (.ref c') ct) (body := body) (binds := binds) hroom (N _ ho).1 rfl (T.nolimit.keeps F.keep) hcd rfl hbind hcell (fun y hy => hloc y (List.mem_reverse.mpr hy)) (fun h₁ hns hk₁ => ?_) hco hgen hk
  refine wpAny_mono (h _ s.heap.objs.size h₁ _ (hg_all N) ⟨hns, fun b o e => hk₁ b o (of_hideAll _ e), Nat.le_of_eq (hideAll_size _ _)⟩
    (fun p hp => ⟨hk₁ _ _ (N p hp).1, Nat.ne_of_lt (Heap.lt_size (N p hp).1), hideAll_none _ (List.mem_map_of_mem hp)⟩) BG (X.keeps st) (T.keeps st) (fun p hp => Heap.lt_size (N p hp).1)) (fun fl s' hl => ?_) fun _ _ y => y.elim
  exact hl
theorem codeRec_at {h g : Heap} {news : List (Addr × Obj)} (hG : HG (news.map (·.1)) h g) (hc : ∀ p ∈ news, @Ne Nat p.1 c') (e : h.CodeRec (.ref c') qual) : g.CodeRec (.ref c') qual := by
  obtain ⟨c, oc, vs, t, e1, e2, e3, e4⟩ := e
  cases e1
  exact ⟨_, oc, vs, t, rfl, hG _ _ (fun hm => by obtain ⟨p, hp, q⟩ := List.mem_map.mp hm; exact hc p hp q) e2, e3, e4⟩
theorem codeRec_keep {h g : Heap} (hk : ∀ b o, h.get? b = some o → g.get? b = some o) (e : h.CodeRec (.ref c') qual) : g.CodeRec (.ref c') qual := by
  obtain ⟨c, oc, vs, t, e1, e2, e3, e4⟩ := e
  exact ⟨c, oc, vs, t, e1, hk _ _ e2, e3, e4⟩
theorem y_nest {M : Model} {A : Around} {E : Value → Shared → Prop} {s : Shared} {h₀ : Heap} {L a c P : Addr} {m mg mb : Str → Option Value} {cn : Str} {cs : Scope} {ccd : Value} {cl : List (Str × Addr)} {news : List (Addr × Obj)} {gn : Obj → List (Addr × Obj)}
    {p : Program} {loose : List Str} {mean : ExcName → Option Value} {name qual : Str} {params : Arguments} {body : List Stmt} {scope : Scope} {ps : Array Value} {pos : Pos} {firstLine : Nat} {clos : List (Str × Addr)} {Q : Value → Shared → Prop}
    (F : Fr h₀ L s.heap m) (N : News h₀ L s.heap news) (T : Top p loose mean mg mb h₀) (C : CodeHd h₀ c P) (hcd : ccd = .ref c) (U : UpdF P (tabObj ps) news gn)
    (hps : ps = #[] ∨ ∃ c', ps = #[rawInt pos.line, rawInt pos.col, .ref c'] ∧ h₀.CodeRec (.ref c') qual) (hcl : closureFor scope (envX cn cs L a ccd cl) = pure clos)
    (h : ∀ f c' ctv doc h' tk ps' (tl : List (Addr × Obj)), Fr h₀ L h' m → News h₀ L h' ((f, fnMade name qual params body scope clos doc ((mg "__name__").getD .none) c' ctv) :: gn (tabObj ps')) → News h₀ L h' tl →
      (∀ h'', (∀ b o, h₀.get? b = some o → h''.get? b = some o) → News h₀ L h'' tl → h''.CodeRec (.ref c') qual) → AllNe c' news → AllNe f news → YNe f c' → (∀ q ∈ tl, q.1 = c') →
      (ps = #[] → ps' = #[rawInt pos.line, rawInt pos.col, .ref c'] ∧ ∃ oc vs t, tl = [(c', oc)] ∧ oc.data = .fields vs ∧ vs[1]? = some (.str qual t)) → Q (.ref f) { s with heap := h', toks := tk }) :
    wpAny M A (makeFunction name qual params (.stmts body) scope (envX cn cs L a ccd cl) [] [] [] pos firstLine) Q E s := by
  rcases hps with rfl | ⟨c', rfl, hrec⟩
  · refine nest_K F N T C hcd U trivial rfl hcl fun f c' oc vs t ctv doc h' tk F' N' hd hv l1 l2 => ?_
    refine h f c' ctv doc h' tk _ [(c', oc)] F' (fun q hq => N' q ?_) (fun q hq => N' q ?_) (fun h'' _ N'' => codeRec_news N'' (.head _) hd hv) (allNe_lt l1) (allNe_of fun q hq => Nat.ne_of_lt (Nat.lt_trans (l1 q hq) l2)) (Nat.ne_of_gt l2) (fun q hq => by rw [List.mem_singleton.mp hq]) fun _ => ⟨rfl, oc, vs, t, rfl, hd, hv⟩
    · rcases List.mem_cons.mp hq with rfl | hq
      · exact .head _
      · exact .tail _ (.tail _ (show q ∈ gn _ by simpa using hq))
    · rw [List.mem_singleton.mp hq]; exact .tail _ (.head _)
  · have hmem := updF_mem U
    obtain ⟨own, rest, e1, e2, _, _⟩ := U.split
    have hgn : gn (tabObj #[rawInt pos.line, rawInt pos.col, .ref c']) = news := by rw [e2, e1]
    refine nestHit_K (c' := c') F N T C hcd hmem trivial ?_ hcl fun f ctv doc h' tk F' N' l1 => ?_
    · simp [codeAmong, rawInt]
    · have hne : ∀ q ∈ news, @Ne Nat q.1 c' := fun q hq e => by
        obtain ⟨c, oc, vs, t, e1, e2, _⟩ := hrec
        cases e1
        have := (N q hq).2.2
        rw [e, e2] at this; cases this
      refine h f c' ctv doc h' tk _ [] F' (by rw [hgn]; exact N') y_all0 (fun h'' k _ => codeRec_keep k hrec) (allNe_of hne) (allNe_lt l1) ?_ y_all0 fun e => by simp at e
      intro e
      obtain ⟨c, oc, vs, t, e1, e2, _⟩ := hrec
      cases e1
      have := (N' _ (.head _)).2.2
      rw [e, e2] at this; cases this
end
end
section -- JDgLaw
open PySem.Calls
noncomputable def valN (B : Nat) : List Int → Nat
  | [] => 0
  | d :: r => d.toNat + B * valN B r
theorem valN_rep (B : Nat) : ∀ n : Nat, valN B (List.replicate n 0) = 0
  | 0 => rfl
  | n + 1 => by rw [List.replicate_succ, valN, valN_rep B n]; rfl
theorem valN_app_rep (B : Nat) : ∀ (f : List Int) (n : Nat), valN B (f ++ List.replicate n 0) = valN B f
  | [], n => valN_rep B n
  | d :: r, n => by rw [List.cons_append, valN, valN, valN_app_rep B r n]
theorem valN_rep_app (B : Nat) (f : List Int) : ∀ n : Nat, valN B (List.replicate n 0 ++ f) = B ^ n * valN B f
  | 0 => by simp
  | n + 1 => by
    rw [List.replicate_succ, List.cons_append, valN, valN_rep_app B f n, Nat.pow_succ']
    rw [Nat.mul_assoc]
    exact Nat.zero_add _
theorem valN_zip (B : Nat) : ∀ (f g : List Int), f.length = g.length → (∀ x ∈ f, 0 ≤ x) → (∀ x ∈ g, 0 ≤ x) → valN B (List.zipWith (· + ·) f g) = valN B f + valN B g
  | [], [], _, _, _ => rfl
  | a :: f, b :: g, h, h1, h2 => by
    rw [List.zipWith_cons_cons, valN, valN, valN, valN_zip B f g (Nat.succ.inj h) (fun x hx => h1 x (.tail _ hx)) (fun x hx => h2 x (.tail _ hx)), Nat.mul_add]
    rw [Int.toNat_add (h1 a (.head _)) (h2 b (.head _))]
    exact Nat.add_add_add_comm ..
structure FigOk (M : Int) (f : List Int) : Prop where
  rng : ∀ x ∈ f, 0 ≤ x ∧ x ≤ M
  last : ∃ r, f = r ++ [1]
theorem figStep_ok {M : Int} {f : List Int} {g : Nat} (h : FigOk M f) (hg : 1 ≤ g) : FigOk (2 * M) (figStep f g) := by
  have hM : 1 ≤ M := by
    obtain ⟨r, rfl⟩ := h.last
    exact (h.rng 1 (by simp)).2
  refine ⟨fun x hx => ?_, ?_⟩
  · unfold figStep at hx
    obtain ⟨i, hi, rfl⟩ := List.mem_iff_getElem.mp hx
    rw [List.getElem_zipWith]
    have key : ∀ y ∈ f ++ List.replicate g 0, 0 ≤ y ∧ y ≤ M := fun y hy => by
      rcases List.mem_append.mp hy with hy | hy
      · exact h.rng y hy
      · rw [(List.mem_replicate.mp hy).2]; omega
    have key2 : ∀ y ∈ List.replicate g 0 ++ f, 0 ≤ y ∧ y ≤ M := fun y hy => by
      rcases List.mem_append.mp hy with hy | hy
      · rw [(List.mem_replicate.mp hy).2]; omega
      · exact h.rng y hy
    rw [List.length_zipWith] at hi
    have h1 := key _ (List.getElem_mem (Nat.lt_of_lt_of_le hi (Nat.min_le_left ..)))
    have h2 := key2 _ (List.getElem_mem (Nat.lt_of_lt_of_le hi (Nat.min_le_right ..)))
    exact ⟨Int.add_nonneg h1.1 h2.1, by rw [Int.two_mul]; exact Int.add_le_add h1.2 h2.2⟩
  · obtain ⟨r, hr⟩ := h.last
    unfold figStep
    obtain ⟨k, rfl⟩ : ∃ k, g = k + 1 := ⟨g - 1, by omega⟩
    have e1 : f ++ List.replicate (k + 1) (0 : Int) = (f ++ List.replicate k 0) ++ [0] := by rw [List.append_assoc, ← List.replicate_succ']
    have e2 : List.replicate (k + 1) (0 : Int) ++ f = (List.replicate (k + 1) 0 ++ r) ++ [1] := by rw [hr, List.append_assoc]
    rw [e1, e2, List.zipWith_append]
    · exact ⟨_, rfl⟩
    · rw [hr]
      simp only [List.length_append, List.length_replicate, List.length_singleton]
      omega
theorem figStep_val {M : Int} {f : List Int} {g B : Nat} (h : FigOk M f) : valN B (figStep f g) = valN B f * (1 + B ^ g) := by
  unfold figStep
  rw [valN_zip, valN_app_rep, valN_rep_app, Nat.mul_add, Nat.mul_one, Nat.mul_comm (B ^ g)]
  · simp only [List.length_append, List.length_replicate]; omega
  · intro x hx
    rcases List.mem_append.mp hx with hy | hy
    · exact (h.rng x hy).1
    · rw [(List.mem_replicate.mp hy).2]; omega
  · intro x hx
    rcases List.mem_append.mp hx with hy | hy
    · rw [(List.mem_replicate.mp hy).2]; omega
    · exact (h.rng x hy).1
noncomputable def facN (v : Int) (ws : List Int) (st B : Nat) : Nat → Nat
  | 0 => 1
  | k + 1 => if (k : Int) ≠ v then facN v ws st B k * (1 + B ^ (st + (ws.getD k 0).toNat)) else facN v ws st B k
noncomputable def facM (v : Int) : Nat → Int
  | 0 => 1
  | k + 1 => if (k : Int) ≠ v then 2 * facM v k else facM v k
theorem figsK_ok {v : Int} {ws : List Int} {st B : Nat} (hst : 1 ≤ st) : ∀ k, FigOk (facM v k) (figsK v ws st k) ∧ valN B (figsK v ws st k) = facN v ws st B k
  | 0 => ⟨⟨by show ∀ x ∈ [(1 : Int)], 0 ≤ x ∧ x ≤ 1; simp, [], rfl⟩, by simp [figsK, facN, valN]⟩
  | k + 1 => by
    obtain ⟨h1, h2⟩ := figsK_ok (v := v) (ws := ws) (B := B) hst k
    unfold figsK facN facM
    split
    · exact ⟨figStep_ok h1 (by omega), by rw [figStep_val h1, h2]⟩
    · exact ⟨h1, h2⟩
theorem digs_val {n : Nat} : ∀ (f : List Int), (∀ x ∈ f, 0 ≤ x ∧ x < (2 ^ n : Nat)) → digs n (valN (2 ^ n) f) f.length = f
  | [], _ => rfl
  | d :: r, h => by
    have hd := h d (.head _)
    have ih := digs_val r fun x hx => h x (.tail _ hx)
    have hdl : d.toNat < 2 ^ n := (Int.toNat_lt hd.1).mpr hd.2
    rw [List.length_cons, Nat.add_comm, digs_split, Nat.mul_one]
    have e1 : valN (2 ^ n) (d :: r) % 2 ^ n = d.toNat := by
      show (d.toNat + 2 ^ n * valN (2 ^ n) r) % 2 ^ n = _
      rw [Nat.add_mul_mod_self_left, Nat.mod_eq_of_lt hdl]
    have e2 : valN (2 ^ n) (d :: r) / 2 ^ n = valN (2 ^ n) r := by
      show (d.toNat + 2 ^ n * valN (2 ^ n) r) / 2 ^ n = _
      rw [Nat.add_mul_div_left _ _ (Nat.two_pow_pos n), Nat.div_eq_of_lt hdl, Nat.zero_add]
    rw [e1, e2, ih, digs_one hdl]
    show [((d.toNat : Nat) : Int)] ++ r = d :: r
    rw [Int.toNat_of_nonneg hd.1]
    rfl
theorem valN_lt {n : Nat} : ∀ (f : List Int), (∀ x ∈ f, 0 ≤ x ∧ x < (2 ^ n : Nat)) → valN (2 ^ n) f < 2 ^ (n * f.length)
  | [], _ => by simp [valN]
  | d :: r, h => by
    have hd := h d (.head _)
    have ih := valN_lt r fun x hx => h x (.tail _ hx)
    have hdl : d.toNat < 2 ^ n := (Int.toNat_lt hd.1).mpr hd.2
    rw [List.length_cons, Nat.mul_add, Nat.mul_one, Nat.pow_add, Nat.mul_comm]
    show d.toNat + 2 ^ n * valN (2 ^ n) r < 2 ^ n * 2 ^ (n * r.length)
    have : 2 ^ n * (valN (2 ^ n) r + 1) ≤ 2 ^ n * 2 ^ (n * r.length) := Nat.mul_le_mul_left _ ih
    rw [Nat.mul_add, Nat.mul_one] at this
    exact Nat.lt_of_lt_of_le (by rw [Nat.add_comm]; exact Nat.add_lt_add_left hdl _) this
theorem valN_ge {n : Nat} : ∀ (r : List Int), 2 ^ (n * r.length) ≤ valN (2 ^ n) (r ++ [1])
  | [] => by simp [valN]
  | d :: r => by
    have ih := valN_ge (n := n) r
    rw [List.cons_append, List.length_cons, Nat.mul_add, Nat.mul_one, Nat.pow_add, Nat.mul_comm]
    show 2 ^ n * 2 ^ (n * r.length) ≤ d.toNat + 2 ^ n * valN (2 ^ n) (r ++ [1])
    exact Nat.le_trans (Nat.mul_le_mul_left (2 ^ n) ih) (Nat.le_add_left ..)
theorem digs_figs {n : Nat} {f : List Int} {M : Int} (hn : 1 ≤ n) (h : FigOk M f) (hM : M < (2 ^ n : Nat)) : digs n (valN (2 ^ n) f) ((Builtin.Int.intBits ((valN (2 ^ n) f : Nat) : Int) + n - 1) / n) = f := by
  have hr : ∀ x ∈ f, 0 ≤ x ∧ x < (2 ^ n : Nat) := fun x hx => ⟨(h.rng x hx).1, Int.lt_of_le_of_lt (h.rng x hx).2 hM⟩
  have h1 := bits_le_iff.mpr (valN_lt f hr)
  obtain ⟨r, e⟩ := h.last
  have h2 : ¬ (Builtin.Int.intBits ((valN (2 ^ n) f : Nat) : Int) ≤ n * r.length) := by
    rw [bits_le_iff, e]
    exact Nat.not_lt.mpr (valN_ge r)
  have hl : f.length = r.length + 1 := by rw [e]; simp
  have : (Builtin.Int.intBits ((valN (2 ^ n) f : Nat) : Int) + n - 1) / n = f.length := by
    generalize Builtin.Int.intBits ((valN (2 ^ n) f : Nat) : Int) = b at *
    rw [hl] at h1 ⊢
    rw [Nat.mul_add, Nat.mul_one] at h1
    obtain ⟨d, rfl⟩ := Nat.exists_eq_add_of_lt (Nat.lt_of_not_le h2)
    have e3 : n * r.length + d + 1 + n - 1 = d + n * (r.length + 1) := by rw [Nat.add_right_comm (n * r.length + d) 1 n, Nat.add_sub_cancel, Nat.mul_add, Nat.mul_one, Nat.add_comm (n * r.length) d, Nat.add_assoc]
    rw [e3, Nat.add_mul_div_left _ _ hn, Nat.div_eq_of_lt (Nat.le_of_add_le_add_left (show n * r.length + (d + 1) ≤ n * r.length + n from h1)), Nat.zero_add]
  rw [this]
  exact digs_val f hr
noncomputable def prodN (ws : List Int) (st B : Nat) : Nat → Nat
  | 0 => 1
  | k + 1 => prodN ws st B k * (1 + B ^ (st + (ws.getD k 0).toNat))
theorem prod_fac {v : Nat} {ws : List Int} {st B : Nat} : ∀ k, prodN ws st B k = facN v ws st B k * (if v < k then 1 + B ^ (st + (ws.getD v 0).toNat) else 1)
  | 0 => by simp [prodN, facN]
  | k + 1 => by
    unfold prodN facN
    rw [prod_fac (v := v) k]
    by_cases h : (k : Int) ≠ (v : Int)
    · rw [if_pos h]
      have : (v < k) ↔ (v < k + 1) := ⟨Nat.lt_succ_of_lt, fun z => Nat.lt_of_le_of_ne (Nat.le_of_lt_succ z) fun e => h (by rw [e])⟩
      by_cases h2 : v < k
      · rw [if_pos h2, if_pos (this.mp h2), Nat.mul_right_comm]
      · rw [if_neg h2, if_neg (fun z => h2 (this.mpr z)), Nat.mul_one, Nat.mul_one]
    · rw [if_neg h]
      have hk : k = v := Int.ofNat.inj (Decidable.not_not.mp h)
      subst hk
      rw [if_neg (Nat.lt_irrefl _), if_pos (Nat.lt_succ_self _), Nat.mul_one]
theorem div_fac {x y : Nat} (hy : 0 < y) : (x * y + y - 1) / y = x ∧ (x * y + y - 1) % y = y - 1 := by
  have e : x * y + y - 1 = (y - 1) + y * x := by rw [Nat.mul_comm y, Nat.add_sub_assoc hy, Nat.add_comm]
  rw [e, Nat.add_mul_div_left _ _ hy, Nat.add_mul_mod_self_left, Nat.div_eq_of_lt (Nat.sub_lt hy Nat.one_pos), Nat.mod_eq_of_lt (Nat.sub_lt hy Nat.one_pos)]
  exact ⟨Nat.zero_add _, rfl⟩
theorem facM_le (v : Int) (hv : 0 ≤ v ∧ v ≤ 3) : facM v 4 = 8 := by
  have := lt_4i ⟨hv.1, Int.lt_of_le_of_lt hv.2 (by decide)⟩
  rcases this with rfl | rfl | rfl | rfl <;> decide
theorem facN_pos {v : Int} {ws : List Int} {st B : Nat} : ∀ k, 1 ≤ facN v ws st B k
  | 0 => Nat.le_refl _
  | k + 1 => by
    have ih := facN_pos (v := v) (ws := ws) (st := st) (B := B) k
    unfold facN
    split
    · have : 1 * 1 ≤ facN v ws st B k * (1 + B ^ (st + (ws.getD k 0).toNat)) := Nat.mul_le_mul ih (Nat.le_add_right 1 _)
      exact this
    · exact ih
end
section -- JFac
open PySem.Calls
theorem mulOk_sum {a b : Int} (h : Builtin.Int.intBits a + Builtin.Int.intBits b ≤ 100000) : IntMulOk a b := by
  unfold IntMulOk Builtin.Int.intTooBig
  intro hh
  simp only [Bool.and_eq_true, decide_eq_true_eq] at hh
  have hb : 100000 ≤ bitsLine := by decide
  omega
theorem fac_le (e : Nat) : 1 + 2 ^ e ≤ 2 ^ (e + 1) := by
  have := Nat.one_le_two_pow (n := e)
  rw [Nat.pow_succ, Nat.mul_two]
  exact Nat.add_le_add_right this _
theorem prod_le {ws : List Int} {st b E : Nat} : ∀ k, (∀ i, i < k → b * (st + (ws.getD i 0).toNat) ≤ E) → prodN ws st (2 ^ b) k ≤ 2 ^ (k * (E + 1))
  | 0, _ => by simp [prodN]
  | k + 1, h => by
    have ih := prod_le (ws := ws) (st := st) k fun i hi => h i (Nat.lt_succ_of_lt hi)
    have h1 := h k (Nat.lt_succ_self k)
    unfold prodN
    rw [← Nat.pow_mul, Nat.succ_mul, Nat.pow_add]
    exact Nat.mul_le_mul ih (Nat.le_trans (fac_le _) (Nat.pow_le_pow_right (by decide) (Nat.succ_le_succ h1)))
theorem bits_le_pow {x k : Nat} (h : x ≤ 2 ^ k) : Builtin.Int.intBits ((x : Nat) : Int) ≤ k + 1 := bits_le_iff.mpr (Nat.lt_of_le_of_lt h (Nat.pow_lt_pow_right (by decide) (Nat.lt_succ_self k)))
theorem expo_le {b st W : Nat} (hb : b ≤ 63) (hst : st ≤ 17) (hW : W ≤ 4) : b * (st + W) ≤ 1323 := Nat.le_trans (Nat.mul_le_mul hb (show st + W ≤ 21 by omega)) (by decide)
theorem prod_bits {ws : List Int} (hw4 : ws.length = 4) (hw : ∀ x ∈ ws, 1 ≤ x ∧ x ≤ 4) {st b : Nat} (hb : b ≤ 63) (hst : st ≤ 17) {k : Nat} (hk : k ≤ 4) : Builtin.Int.intBits ((prodN ws st (2 ^ b) k : Nat) : Int) ≤ 5297 := by
  have h := prod_le (ws := ws) (st := st) (b := b) (E := 1323) k fun i hi => by
    have := getD_rng hw (show i < ws.length by omega)
    exact expo_le hb hst (by omega)
  have := bits_le_pow h
  have h2 : k * (1323 + 1) ≤ 4 * 1324 := Nat.mul_le_mul_right _ hk
  omega
theorem fac_bits {b e : Nat} (he : e ≤ 1323) : Builtin.Int.intBits ((1 + 2 ^ e : Nat) : Int) ≤ 1325 := by
  have := bits_le_pow (fac_le e)
  omega
theorem prod_pos {ws : List Int} {st B : Nat} : ∀ k, 1 ≤ prodN ws st B k
  | 0 => Nat.le_refl _
  | k + 1 => by
    have ih := prod_pos (ws := ws) (st := st) (B := B) k
    unfold prodN
    have : 1 * 1 ≤ prodN ws st B k * (1 + B ^ (st + (ws.getD k 0).toNat)) := Nat.mul_le_mul ih (Nat.le_add_right 1 _)
    exact this
theorem dm_room {ws : List Int} (hw4 : ws.length = 4) (hw : ∀ x ∈ ws, 1 ≤ x ∧ x ≤ 4) {st b W : Nat} (hb : 4 ≤ b) (hst : 5 ≤ st) (hW : 1 ≤ W ∧ W ≤ 4) :
    (Builtin.Int.intBits ((prodN ws st (2 ^ b) 4 + (1 + 2 ^ (b * (st + W))) - 1 : Nat) : Int) + Builtin.Int.intBits ((1 + 2 ^ (b * (st + W)) : Nat) : Int) - 1) / Builtin.Int.intBits ((1 + 2 ^ (b * (st + W)) : Nat) : Int) ≤ 100 := by
  have hE : ∀ U : Nat, U ≤ 4 → b * (st + U) ≤ b * (st + 4) := fun U h => Nat.mul_le_mul_left _ (Nat.add_le_add_left h st)
  have hP := prod_le (ws := ws) (st := st) (b := b) (E := b * (st + 4)) 4 fun i hi => hE _ (by
    have := getD_rng hw (show i < ws.length from hw4 ▸ hi)
    exact Int.toNat_le.mpr this.2)
  have hy1 := fac_le (b * (st + W))
  have hWE := hE W hW.2
  have hlow : b * (st + W) < Builtin.Int.intBits ((1 + 2 ^ (b * (st + W)) : Nat) : Int) := by
    refine Nat.lt_of_not_le fun h => ?_
    exact Nat.not_lt.mpr (Nat.le_add_left _ 1) (bits_le_iff.mp h)
  have hb1 : b * (st + 1) ≤ b * (st + W) := Nat.mul_le_mul_left _ (Nat.add_le_add_left hW.1 st)
  have e1 : b * (st + 4) = b * (st + 1) + b * 3 := by rw [← Nat.mul_add]
  have e2 : b * 3 ≤ b * (st + 1) := Nat.mul_le_mul_left _ (Nat.le_trans (Nat.le_of_ble_eq_true rfl) (Nat.le_trans hst (Nat.le_succ _)))
  have hx : prodN ws st (2 ^ b) 4 + (1 + 2 ^ (b * (st + W))) - 1 ≤ 2 ^ (4 * (b * (st + 4) + 1) + 1) := by
    have h2 : 2 ^ (b * (st + W) + 1) ≤ 2 ^ (4 * (b * (st + 4) + 1)) := Nat.pow_le_pow_right (by decide) (Nat.le_trans (Nat.succ_le_succ hWE) (Nat.le_mul_of_pos_left _ (by decide)))
    rw [Nat.pow_succ, Nat.mul_two]
    exact Nat.le_trans (Nat.sub_le _ 1) (Nat.add_le_add hP (Nat.le_trans hy1 h2))
  have hbx := bits_le_pow hx
  generalize Builtin.Int.intBits ((1 + 2 ^ (b * (st + W)) : Nat) : Int) = Y at *
  generalize Builtin.Int.intBits ((prodN ws st (2 ^ b) 4 + (1 + 2 ^ (b * (st + W))) - 1 : Nat) : Int) = X at *
  have hs : b * (st + 1) + 1 ≤ Y := Nat.lt_of_le_of_lt hb1 hlow
  have hY : 1 ≤ Y := Nat.le_trans (Nat.le_add_left 1 _) hs
  have h5 : b * (st + 4) + 1 ≤ 2 * Y := by
    rw [e1, Nat.two_mul, Nat.add_assoc]
    exact Nat.add_le_add (Nat.le_of_succ_le hs) (Nat.le_trans (Nat.succ_le_succ e2) hs)
  have hX : X ≤ 10 * Y := Nat.le_trans hbx (Nat.le_trans (Nat.add_le_add_right (Nat.mul_le_mul_left 4 h5) 2) (by
    rw [← Nat.mul_assoc, show 10 * Y = 4 * 2 * Y + 2 * Y from Nat.add_mul 8 2 Y]
    exact Nat.add_le_add_left (Nat.mul_le_mul_left 2 hY) _))
  have : X + Y - 1 ≤ 100 * Y := Nat.le_trans (Nat.sub_le _ 1) (Nat.le_trans (Nat.add_le_add_right hX Y) (by
    rw [← Nat.succ_mul]
    exact Nat.mul_le_mul_right Y (Nat.le_of_ble_eq_true rfl)))
  exact Nat.le_trans (Nat.div_le_div_right this) (by rw [Nat.mul_div_cancel _ hY]; exact Nat.le_refl _)
theorem quot_law {ws : List Int} (hw4 : ws.length = 4) (hw : ∀ x ∈ ws, 1 ≤ x ∧ x ≤ 4) {st b v : Nat} (hb : 4 ≤ b) (hst : 1 ≤ st ∧ st ≤ 17) (hv : v < 4) :
    ∃ R : Nat, 0 < R ∧ prodN ws st (2 ^ b) 4 = R * (1 + 2 ^ (b * (st + (ws.getD v 0).toNat))) ∧ digs b R ((Builtin.Int.intBits ((R : Nat) : Int) + b - 1) / b) = figsK v ws st 4 ∧ (Builtin.Int.intBits ((R : Nat) : Int) + b - 1) / b ≤ 100 ∧
      (figsK (v : Int) ws st 4).length ≤ 100 ∧ ∀ x ∈ figsK (v : Int) ws st 4, 0 ≤ x ∧ x ≤ 8 := by
  obtain ⟨h1, h2⟩ := figsK_ok (v := (v : Int)) (ws := ws) (B := 2 ^ b) hst.1 4
  rw [facM_le (v : Int) (by omega)] at h1
  have hpow : 2 ^ 4 ≤ 2 ^ b := Nat.pow_le_pow_right (by decide) hb
  have h3 := digs_figs (n := b) (by omega) h1 (by omega)
  have hlen := figsK_len (v := (v : Int)) hw4 hw hst.2 4 (Nat.le_refl _)
  have h4 : (Builtin.Int.intBits ((valN (2 ^ b) (figsK (v : Int) ws st 4) : Nat) : Int) + b - 1) / b = (figsK (v : Int) ws st 4).length := by
    have := congrArg List.length h3
    rwa [digs_len] at this
  rw [h2] at h3 h4
  refine ⟨facN (v : Int) ws st (2 ^ b) 4, facN_pos 4, ?_, h3, by rw [h4]; omega, by omega, h1.rng⟩
  have := prod_fac (v := v) (ws := ws) (st := st) (B := 2 ^ b) 4
  rw [if_pos hv, ← Nat.pow_mul] at this
  exact this
end
section -- JDig
theorem zsJDig : True := by
  w_top off
  k_with_none
  k_with "omega" => first | assumption | lia
  k_with "lt" => (skip)
  k_with "all" => (first | assumption | exact y_all0 | exact allNe_mem (by assumption) | (refine' y_allc ?a ?b; (case a => k_ne); (case b => k_all)))
  k_with "ne" => ((refine neN ?_; (try dsimp only); first | exact YNe.to (by assumption) | exact YNe.to' (by assumption) | exact Nat.succ_ne_self _ | exact (Nat.succ_ne_self _).symm | exact Nat.ne_of_gt (Nat.lt_succ_of_lt (Nat.lt_succ_self _)) | exact Nat.ne_of_lt (Nat.lt_succ_of_lt (Nat.lt_succ_self _))))
  k_with "execs cons" => (refine y_consS ?_; intro sk9 qk9)
  k_with "binaryOp FloorDiv int int" => (k_here; k_dflt (refine' floordiv_int ?hb ?_ ?hp; (case hb => omega); (case hp => exact Or.inl (PyProof.noPylong_small (by omega))); k_whole))
  k_with "exec FunctionDef" => (k_here; k_dflt (refine' nestDef_K ?d0 ?k0 ?a0 ?_; (case d0 | k0 | a0 => exact rfl)); refine YStop.of ?_)
  k_with "binaryOp RShift int int" => (k_here; k_dflt (refine' rshift_int ?h0 ?_; (case h0 => first | assumption | decide | omega); k_whole))
  k_with "binaryOp LShift int int" => (k_here; k_dflt (refine' lshift_int ?h0 ?hz ?_; (case h0 => first | assumption | omega); (case hz => assumption); k_whole))
  k_with "call ref" => (k_here; (with_reducible show wpAny _ _ (call (Value.ref _) [Value.int _ _, Value.int _ _, Value.int _ _]) _ _ _); refine YStop.of ?_)
  k_with "callWith ref" => (k_here; k_dflt (refine' callWith_F0 ?k1 ?_; (case k1 => first | exact FnAt.of (by k_asm) (by k_mem) | exact fnAt_of (by k_asm) (by k_mem) (by assumption)); k_whole; try dsimp only [List.nil_append, List.cons_append]))
  k_with "callWith ref" => (k_here; k_dflt (refine' callWith_F ?k1 ?_; (case k1 => first | exact FnAt.of (by k_asm) (by k_mem) | exact fnAt_of (by k_asm) (by k_mem) (by assumption)); k_whole))
  k_with "FnAt" => (k_dflt (exact fnAt_of (by k_asm) (by k_mem) (by assumption)))
  k_with "call builtin:len" => (k_here; k_dflt (refine' len_BL ?N ?hm ?hs ?_; (case N => k_asm); (case hm => k_mem); (case hs => first | assumption | omega | (simp only [List.size_toArray, List.length_replicate]; omega)); k_whole; intro t9' tk9'))
  k_with "setItem ref int" => (k_here; k_dflt (refine' y_setInt ?F ?N ?U ?h0 ?h1 ?h2 ?_; (case F | N => k_asm); (case U => k_updF); (case h0 | h1 | h2 => omega); k_whole; intro h9' F9' N9'; (try dsimp only at N9')))
  k_with "eval Name" => (k_here; k_dflt (refine' y_free ?N ?hc ?hm ?hd ?_ ?hk ?hx ?hb ?hn; (case hk | hx | hc => exact rfl); (case N => k_asm); (case hm => k_mem); (case hd => assumption); (case hb | hn => decide); k_whole))
  k_with "binaryOp Mult ref int" => (k_here; k_dflt (refine' y_mul1 ?F ?N ?hm ?h0 ?h1 ?_; (case F | N => k_asm); (case hm => k_mem); (case h0 | h1 => omega); k_whole; intro h9' r9' F9' N9' lz1; (try k_lt lz1)))
  trivial
theorem len_BL {prog : Program} {w : World} {A : Around} {E : Value → Shared → Prop} {s : Shared} {g : Heap} {L l : Addr} {vs : Array Value} {n : Nat} {news : List (Addr × Obj)} {Q : Value → Shared → Prop} (N : News g L s.heap news) (hm : (l, listOf vs n) ∈ news) (hs : vs.size ≤ 1000)
    (h : ∀ t tk, Q (.int (vs.size : Int) t) { s with toks := tk }) : wpAny (model prog w) A (call (.builtin "len") [.ref l]) Q E s :=
  Calls.call_len_list ⟨_, (N _ hm).1, rfl, n, rfl⟩ (Int.lt_of_le_of_lt (show (vs.size : Int) ≤ 1000 by omega) (by decide)) (h _ _)
theorem news_2nd {h₀ h : Heap} {L l : Addr} {a : Addr × Obj} {o : Obj} {r : List (Addr × Obj)} (N : News h₀ L h (a :: (l, o) :: r)) : ∃ rl : Addr, rl = l := ⟨l, rfl⟩
theorem fnAt_of {h₀ h : Heap} {L q : Addr} {fo : Obj} {news : List (Addr × Obj)} {name qual : Str} {params : Arguments} {body : List Stmt} {scope : Scope} {cl : List (Str × Addr)} {doc pm ct : Value} {c' : Addr} (N : News h₀ L h news) (hm : (q, fo) ∈ news) (e : fo = fnMade name qual params body scope cl doc pm c' ct) : FnAt q h := by subst e; exact FnAt.of N hm
theorem News.app {h₀ h : Heap} {L : Addr} {l tl : List (Addr × Obj)} (N : News h₀ L h l) (M : News h₀ L h tl) : News h₀ L h (l ++ tl) := fun p hp => (List.mem_append.mp hp).elim (N p) (M p)
theorem news_hd2 {h₀ h : Heap} {L l : Addr} {o : Obj} {r : List (Addr × Obj)} (N : News h₀ L h ((l, o) :: r)) : ∃ (rl : Addr) (ro : Obj), rl = l ∧ ro = o := ⟨l, o, rfl, rfl⟩
theorem y_free {M : Model} {A : Around} {E : Value → Shared → Prop} {s : Shared} {h₀ : Heap} {L a c : Addr} {cn : Str} {cs : Scope} {ccd : Value} {cl : List (Str × Addr)} {news : List (Addr × Obj)} {x : Str} {pos : Pos} {v : Value} {o : Obj} {Q : Value → Shared → Prop}
    (N : News h₀ L s.heap news) (hc : cl.lookup x = some c) (hm : (c, o) ∈ news) (hd : o.data = .cell (some v)) (h : Q v s)
    (hk : cs.kind = .function) (hx : (envX cn cs L a ccd cl).kindOf x = some .free) (hb : (x == ("__debug__" : Str)) = false) (hn : (x == ("__classdict__" : Str)) = false) :
    wpAny M A (eval (.Name x pos) (envX cn cs L a ccd cl)) Q E s := wpAny_Name (wpAny_loadName_free hk hx hc ⟨o, N.get hm, hd⟩ h hn) hb
noncomputable def InnerC (w : World) (p : Program) (loose : List Str) (mean : ExcName → Option Value) (mg mb : Str → Option Value) (qual : Str) (fo : Obj) (f c' c1 c2 c3 : Addr) (n k : Nat) : Prop :=
  ∀ (dp un : Nat) (gd : Option (List Code)) (cn : Str) (cs : Scope) (a : Addr) (ccd : Value) (cl : List (Str × Addr)) (outer : List Env) (A₀ : Around) (base h₀ : Heap) (L : Addr) (m : Str → Option Value) (s : Shared) (Q E : Value → Shared → Prop)
    (dl : Addr) (dvs : Array Value) (dn : Nat) (ds : List Int) (o1 o2 o3 : Obj) (x l r : Nat) (xi li ri : Int) (t1 t2 t3 tn : Tok),
    Below A₀ base outer h₀ → Fr h₀ L s.heap m → (hd.heap_1 w.params).In h₀ → News h₀ L s.heap [(f, fo), (dl, listOf dvs dn), (c3, o3), (c1, o1), (c2, o2)] → Top p loose mean mg mb h₀ → cs.kind = .function →
    dp + k + 1 < recursionLimit → un + 8 * k + 8 < cLine → s.heap.CodeRec (.ref c') qual → AllNe c' [(f, fo), (dl, listOf dvs dn), (c3, o3), (c1, o1), (c2, o2)] →
    o1.data = .cell (some (.ref dl)) → o2.data = .cell (some (.int n tn)) → o3.data = .cell (some (.ref f)) → YNe f dl → YNe c3 dl → YNe c1 dl → YNe c2 dl →
    IntsAre dvs.toList ds → r ≤ ds.length → ds.length ≤ 1000 → l < r → r ≤ l + k → x < 2 ^ (n * (r - l)) → n ≤ 10000 → xi = x → li = l → ri = r →
    (∀ (tk' : Nat) h' dvs', Ge [dl] s.heap h' → h'.get? dl = some (listOf dvs' dn) → IntsAre dvs'.toList (ds.take l ++ digs n x (r - l) ++ ds.drop r) → Q .none { s with heap := h', toks := tk' }) →
    wpAny (model PySem.Challenge.rw_yj0031_01.row.prog w) (ktrTop dp un gd cn cs L a ccd cl outer) (call (.ref f) [.int xi t1, .int li t2, .int ri t3]) Q E s
theorem InnerC.lf {w : World} {p : Program} {loose : List Str} {mean : ExcName → Option Value} {mg mb : Str → Option Value} {qual : Str} {fo : Obj} {f c' c1 c2 c3 : Addr} {n k : Nat} (C : InnerC w p loose mean mg mb qual fo f c' c1 c2 c3 n k)
    {dp un : Nat} {gd : Option (List Code)} {cn : Str} {cs : Scope} {a : Addr} {ccd : Value} {cl : List (Str × Addr)} {outer : List Env} {A₀ : Around} {base h₀ : Heap} {L : Addr} {m : Str → Option Value} {s : Shared} {Q E : Value → Shared → Prop}
    {dl : Addr} {dvs : Array Value} {dn : Nat} {ds : List Int} {o1 o2 o3 : Obj} {x l r : Nat} {xi li ri : Int} {t1 t2 t3 tn : Tok} {news : List (Addr × Obj)} {gn : Obj → List (Addr × Obj)}
    (B : Below A₀ base outer h₀) (F : Fr h₀ L s.heap m) (X : (hd.heap_1 w.params).In h₀) (N : News h₀ L s.heap news) (T : Top p loose mean mg mb h₀) (hkf : cs.kind = .function)
    (hdp : dp + k + 1 < recursionLimit) (hun : un + 8 * k + 8 < cLine) (hrec : s.heap.CodeRec (.ref c') qual) (hne : AllNe c' [(f, fo), (dl, listOf dvs dn), (c3, o3), (c1, o1), (c2, o2)])
    (U : UpdF dl (listOf dvs dn) news gn) (h1 : (f, fo) ∈ news) (h2 : (c1, o1) ∈ news) (h3 : (c2, o2) ∈ news) (h4 : (c3, o3) ∈ news)
    (d1 : o1.data = .cell (some (.ref dl))) (d2 : o2.data = .cell (some (.int n tn))) (d3 : o3.data = .cell (some (.ref f))) (n1 : YNe f dl) (n2 : YNe c3 dl) (n3 : YNe c1 dl) (n4 : YNe c2 dl)
    (hI : IntsAre dvs.toList ds) (hr : r ≤ ds.length) (hds : ds.length ≤ 1000) (hlr : l < r) (hk : r ≤ l + k) (hx : x < 2 ^ (n * (r - l))) (hn : n ≤ 10000) (e1 : xi = x) (e2 : li = l) (e3 : ri = r)
    (hret : ∀ (tk' : Nat) h' dvs', Fr h₀ L h' m → News h₀ L h' (gn (listOf dvs' dn)) → IntsAre dvs'.toList (ds.take l ++ digs n x (r - l) ++ ds.drop r) → Q .none { s with heap := h', toks := tk' }) :
    wpAny (model PySem.Challenge.rw_yj0031_01.row.prog w) (ktrTop dp un gd cn cs L a ccd cl outer) (call (.ref f) [.int xi t1, .int li t2, .int ri t3]) Q E s :=
  C dp un gd cn cs a ccd cl outer A₀ base h₀ L m s Q E dl dvs dn ds o1 o2 o3 x l r xi li ri t1 t2 t3 tn B F X (News.cons' N h1 (News.cons' N (updF_mem U) (News.cons' N h4 (News.cons' N h2 (News.cons' N h3 y_all0))))) T hkf hdp hun hrec hne d1 d2 d3 n1 n2 n3 n4 hI hr hds hlr hk hx hn e1 e2 e3
    fun tk' h' dvs' G ho hI' => let ⟨F', N'⟩ := y_call1 F N U G ho; hret tk' h' dvs' F' N' hI'
theorem dig_spec
  (x n : Nat) (t1 t2 : Tok) (ps : Array Value)
  (B : Below A₀ base outer h₀) (F : Fr h₀ L s.heap m) (X : (hd.heap_1 w.params).In h₀) (N : News h₀ L s.heap ([(62, tabObj ps)])) (T : Top p loose mean mg mb h₀) (hkf : cs.kind = .function)
  (hdp : dp + 150 < recursionLimit) (hun : un + 1000 < cLine)
  (hps : ps = #[] ∨ ∃ c', ps = #[rawInt (39 : Nat), rawInt (4 : Nat), .ref c'] ∧ c' ≠ 62 ∧ s.heap.CodeRec (.ref c') (PySem.Str.ofString "_int2digits.<locals>.inner")) (hn : 1 ≤ n ∧ n ≤ 10000) (D : Nat) (hD : ((Builtin.Int.intBits (x : Int) : Int) + n - 1).fdiv n = (D : Int)) (hD1 : D ≤ 100) (hx : x < 2 ^ (n * D)) (hx0 : 0 < x)
  (hret : ∀ (l : Addr) (dvs : Array Value) (dn tk' : Nat) h' ps', Ge [62] s.heap h' → h'.get? l = some (listOf dvs dn) → s.heap.get? l = none → IntsAre dvs.toList (digs n x D) → (h'.get? 62 = some (tabObj ps')) → (ps = #[] → ∃ c' oc vs t, ps' = #[rawInt (39 : Nat), rawInt (4 : Nat), .ref c'] ∧ s.heap.get? c' = none ∧ h'.get? c' = some oc ∧ oc.data = .fields vs ∧ vs[1]? = some (.str (PySem.Str.ofString "_int2digits.<locals>.inner") t)) → Q (.ref l) { s with heap := h', toks := tk' }) :
  wpAny (model PySem.Challenge.rw_yj0031_01.row.prog w) (ktrTop dp un gd cn cs L a ccd cl outer) (call (.ref 67) [.int (x : Int) t1, .int (n : Int) t2]) Q E s := by
  revert X; k_fill; intro X
  refine wpAny_call ?_
  refine' y_codeC ?k1 ?k2 ?k3 ?k4 ?k5 ?kA ?kF ?kK ?k6 ?k7 ?k8 ?k9 ?kB ?kD ?_ ?c2 ?c3 ?c4
  (case kA | kF => exact rfl); (case kK | k1 | k2 | k3 | k4 | k5 => assumption); (case k6 | k7 => k_is); (case k8 => ktr_room); (case k9 => first | exact BindsTo.of_eq rfl | exact binds_K (by k_in) rfl (by k_is) rfl rfl rfl); (case kB => exact rfl); (case kD => decide +kernel); (case c2 | c3 | c4 => exact rfl); have N0 := YOld.mk N; clear B F X N T; intro g L1 h1 tk1 cells1 hG F1 N1 Y1 B1 X1 T1 l1; have l62 : @LT.lt Nat _ 62 L1 := l1 _ (.head _); k_cells Y1; (try simp only [List.cons_append, List.nil_append] at N1); (try dsimp only); (try k_fold)
  replace F1 : Fr g L1 h1 (fun z => if z = "a" then some (.int (x : Int) t1) else none) := F1
  have q1 : YNe 62 (L1 + 1) := Nat.ne_of_lt (Nat.lt_succ_of_lt l62)
  have q2 : YNe 62 (L1 + 1 + 1) := Nat.ne_of_lt (Nat.lt_succ_of_lt (Nat.lt_succ_of_lt l62))
  have q3 : YNe 62 (L1 + 1 + 1 + 1) := Nat.ne_of_lt (Nat.lt_succ_of_lt (Nat.lt_succ_of_lt (Nat.lt_succ_of_lt l62)))
  rename_i oI oA oN dI dA dN
  replace dI : oI.data = .cell none := dI
  replace dA : oA.data = .cell none := dA
  replace dN : oN.data = .cell (some (.int (n : Int) t2)) := dN
  k_steps
  (rename Fr _ _ _ _ => F5); (rename News _ _ _ _ => N5); (rename Obj => oD); (rename oD.data = _ => dD)
  refine' YStop.to (y_nest (ps := ps) (P := 62) (c := 66) ?F ?N ?T ?C ?hcd ?U ?hps ?hcl ?_)
  case F => exact F5
  case N => exact N5
  case T => exact T1
  case C => exact codeHd_of_K (by assumption) (by kernel_rfl)
  case hcd => exact rfl
  case U => k_updF
  case hps => exact hps.imp id fun ⟨c', e, h2, h3⟩ => ⟨c', e, codeRec_at hG (y_allc (Ne.symm h2) y_all0) h3⟩
  case hcl => exact rfl
  intro f c' ct dc h6 tk6 ps6 tl F6 N6 N6t hrec hc6 hf6 hfc htl hnew
  clear F5 N5
  (try dsimp only at N6)
  replace hrec : ∀ h'' : Heap, (∀ b o, g.get? b = some o → h''.get? b = some o) → News g L1 h'' tl → h''.CodeRec (.ref c') (PySem.Str.ofString "_int2digits.<locals>.inner") := hrec
  replace hnew : ps = #[] → ps6 = #[rawInt (39 : Nat), rawInt (4 : Nat), .ref c'] ∧ ∃ oc vs t, tl = [(c', oc)] ∧ oc.data = .fields vs ∧ vs[1]? = some (.str (PySem.Str.ofString "_int2digits.<locals>.inner") t) := hnew
  obtain ⟨f, fo, rfl, hfo⟩ := news_hd2 N6
  rw [← hfo] at N6
  simp only [List.cons_append, List.nil_append, AllNe, and_true] at hc6 hf6
  have key : ∀ k, InnerC w p loose mean mg mb (PySem.Str.ofString "_int2digits.<locals>.inner") fo f c' (L1 + 1 + 1) (L1 + 1) (L1 + 1 + 1 + 1) n k := by
    clear F6 N6 N6t hrec hnew htl hret N0 hG B1 X1 T1 dI dA dN dD hps hD hx hx0
    (repeat (rename Fr _ _ _ _ => F0; clear F0))
    (repeat (rename News _ _ _ _ => F0; clear F0))
    subst hfo
    intro k
    induction k using Nat.strongRecOn with
    | ind k IH =>
    unfold InnerC
    intro dp un gd cn cs a ccd cl outer A₀ base h₀ L m s Q E dl dvs dn ds o1 o2 o3 x l r xi li ri t1 t2 t3 tn B F X N T hkf hdp hun hrec hne d1 d2 d3 n1 n2 n3 n4 hI hr hds hlr hk hx hn e1 e2 e3 hret
    refine wpAny_call ?_
    refine' y_codeN (rb := [("R", .int ri t3), ("L", .int li t2), ("x", .int xi t1)]) ?k1 ?k2 ?k3 ?k4 ?k5 ?kA ?kF ?kK ?k6 ?k7 ?k8 ?k9 ?kR ?kB ?_ ?c2 ?c3 ?c4 ?c5
    (case kA | kF => exact rfl); (case kK | k1 | k2 | k3 | k4 | k5 => assumption); (case k6 => exact .head _); (case k7 => exact hrec); (case k8 => ktr_room); (case k9 => exact BindsTo.of_eq rfl); (case kR => exact rfl); (case c5 => decide); (case kB => exact locs rfl); (case c2 | c3 | c4 => exact rfl)
    have N0 := YOld.mk N; clear B F X N T; intro g2 L2 h2 tk2 hG2 F2 N2 B2 X2 T2 l2; (try dsimp only); (try k_lt l2); (try k_fold)
    have hrec2 := codeRec_at hG2 (allNe_mem hne) hrec
    have hdz : dvs.size = ds.length := by rw [← Array.length_toList]; exact hI.length
    obtain ⟨a2, b2, hab, hm2, rfl⟩ : ∃ a2 b2, (l + 1 < r → 0 < a2 ∧ 0 < b2) ∧ (l + r) / 2 = l + a2 ∧ r = l + a2 + b2 := mid_ab hlr
    have hr9 : l + (a2 + b2) ≤ 1000 := Nat.add_assoc l a2 b2 ▸ Nat.le_trans hr hds
    have hab9 : a2 + b2 ≤ 1000 := Nat.le_trans (Nat.le_add_left _ l) hr9
    have ha9 : a2 ≤ 1000 := Nat.le_trans (Nat.le_add_right a2 b2) hab9
    have hb9 : b2 ≤ 1000 := Nat.le_trans (Nat.le_add_left b2 a2) hab9
    have hm : (li + ri).fdiv (2 ^ (1 : Int).toNat) = ((l + a2 : Nat) : Int) := by rw [← hm2]; exact mid_eq e2 e3
    have hsh : ((li + ri).fdiv (2 ^ (1 : Int).toNat) - li) * (n : Int) = ((n * a2 : Nat) : Int) := by rw [hm, e2, mid_sub, Int.natCast_mul, Int.mul_comm]
    have hs0 : 0 ≤ ((li + ri).fdiv (2 ^ (1 : Int).toNat) - li) * (n : Int) := by rw [hsh]; exact Int.natCast_nonneg _
    have hna : n * a2 ≤ 10000 * 1000 := Nat.mul_le_mul hn ha9
    have hup : x / 2 ^ (n * a2) < 2 ^ (n * b2) := up_lt (by rw [mid_len] at hx; exact hx)
    have hz : (Builtin.Int.intBits (xi.fdiv (2 ^ (((li + ri).fdiv (2 ^ (1 : Int).toNat) - li) * (n : Int)).toNat)) : Int) + ((li + ri).fdiv (2 ^ (1 : Int).toNat) - li) * (n : Int) ≤ 2 ^ 27 := by
      have z1 := bits_nat (up_eq e1 hsh) hup
      have z2 : ((n * b2 : Nat) : Int) ≤ ((10000000 : Nat) : Int) := Int.ofNat_le.mpr (Nat.le_trans (Nat.mul_le_mul hn hb9) (by decide))
      have z3 : ((n * a2 : Nat) : Int) ≤ ((10000000 : Nat) : Int) := Int.ofNat_le.mpr (Nat.le_trans hna (by decide))
      rw [hsh] at z1 ⊢
      exact Int.le_trans (Int.add_le_add (Int.le_trans z1 z2) z3) (by decide)
    have hmb : 0 ≤ (li + ri).fdiv (2 ^ (1 : Int).toNat) - li ∧ (li + ri).fdiv (2 ^ (1 : Int).toNat) - li ≤ 1000 := by rw [hm, e2, mid_sub]; exact ⟨Int.natCast_nonneg _, Int.ofNat_le.mpr ha9⟩
    have hl9 : l < ds.length := Nat.lt_of_lt_of_le hlr hr
    have hli0 : 0 ≤ li := by rw [e2]; exact Int.natCast_nonneg _
    have hli1 : li < (dvs.size : Int) := by rw [e2, hdz]; exact Int.ofNat_lt.mpr hl9
    have hds9 : dvs.size ≤ 1000 := hdz ▸ hds
    clear hm2
    k_steps
    · (rename Fr _ _ _ _ => F9); (rename News _ _ _ _ => N9)
      have hb0 : l + a2 + b2 = l + 1 := by
        have z : li + 1 = ri := by assumption
        rw [e2, e3] at z
        exact (Int.ofNat.inj z).symm
      have hln : l + a2 + b2 - l = 1 := by rw [hb0, Nat.add_sub_cancel_left]
      refine hret _ _ _ (y_ge N0 hG2 F9 N9 (y_allc (.inr (.head _)) (y_allc (.inl (.head _)) (y_allc (.inr (.tail _ (.tail _ (.head _)))) (y_allc (.inr (.tail _ (.tail _ (.tail _ (.head _))))) (y_allc (.inr (.tail _ (.tail _ (.tail _ (.tail _ (.head _)))))) y_all0)))))) (y_got N9 (.tail _ (.head _))) ?_
      rw [hln, Nat.mul_one] at hx
      rw [hln, digs_one hx, hb0, Array.toList_setIfInBounds, ← fill_one _ hl9, show li.toNat = l by rw [e2]; rfl, e1]
      exact ints_set _ _ _ hI
    · obtain ⟨ha0, hb0⟩ := hab (Nat.lt_of_le_of_ne hlr fun z => (by assumption : ¬ li + 1 = ri) (by rw [e2, e3, ← z]; rfl))
      have hk9 : a2 + b2 ≤ k := Nat.le_of_add_le_add_left (Nat.add_assoc l a2 b2 ▸ hk)
      have hak : a2 < k := Nat.lt_of_lt_of_le (Nat.lt_add_of_pos_right hb0) hk9
      have hbk : b2 < k := Nat.lt_of_lt_of_le (Nat.lt_add_of_pos_left ha0) hk9
      have hr8 : l + a2 ≤ ds.length := Nat.le_trans (Nat.le_add_right _ b2) hr
      (rename Fr _ _ _ _ => F9); (rename News _ _ _ _ => N9)
      refine' YStop.to (InnerC.lf (x := x % 2 ^ (n * a2)) (l := l) (r := l + a2) (IH a2 hak) ?B ?F ?X ?N ?T ?hkf ?hdp ?hun ?hrec ?hne ?U ?h1 ?h2 ?h3 ?h4 d1 d2 d3 n1 n2 n3 n4 hI ?hr hds ?hlr ?hk ?hx hn (low_eq e1 hsh) e2 hm ?_)
      case B => k_asm
      case F => exact F9
      case X => k_asm
      case N => exact N9
      case T => assumption
      case hkf => exact rfl
      case hdp => ktr_room
      case hun => ktr_units
      case hrec => exact codeRec_keep F9.keep hrec2
      case hne => exact hne
      case U => k_updF
      case h1 => k_mem
      case h2 => k_mem
      case h3 => k_mem
      case h4 => k_mem
      case hr => exact hr8
      case hlr => exact Nat.lt_add_of_pos_right ha0
      case hk => exact Nat.le_refl _
      case hx => rw [Nat.add_sub_cancel_left]; exact low_lt _ _ _
      clear F9 N9
      intro tk7 h7 dvs7 F7 N7 hI7
      (try dsimp only at N7)
      k_steps
      (rename Fr _ _ _ _ => F9); (rename News _ _ _ _ => N9)
      refine' YStop.to (InnerC.lf (x := x / 2 ^ (n * a2)) (l := l + a2) (r := l + a2 + b2) (IH b2 hbk) ?B ?F ?X ?N ?T ?hkf ?hdp ?hun ?hrec ?hne ?U ?h1 ?h2 ?h3 ?h4 d1 d2 d3 n1 n2 n3 n4 hI7 ?hr ?hds ?hlr ?hk ?hx hn (up_eq e1 hsh) hm e3 ?_)
      case B => k_asm
      case F => exact F9
      case X => k_asm
      case N => exact N9
      case T => assumption
      case hkf => exact rfl
      case hdp => ktr_room
      case hun => ktr_units
      case hrec => exact codeRec_keep F9.keep hrec2
      case hne => exact hne
      case U => k_updF
      case h1 => k_mem
      case h2 => k_mem
      case h3 => k_mem
      case h4 => k_mem
      case hr => rw [List.length_append, List.length_append, List.length_take, List.length_drop, digs_len, fit_len hr8]; exact hr
      case hds => rw [List.length_append, List.length_append, List.length_take, List.length_drop, digs_len, fit_len hr8]; exact hds
      case hlr => exact Nat.lt_add_of_pos_right hb0
      case hk => exact Nat.le_refl _
      case hx => rw [Nat.add_sub_cancel_left]; exact hup
      clear F9 N9
      intro tk8 h8 dvs8 F8 N8 hI8
      (try dsimp only at N8)
      k_steps
      (rename Fr _ _ _ _ => F9); (rename News _ _ _ _ => N9)
      refine hret _ _ _ (y_ge N0 hG2 F9 N9 (y_allc (.inr (.head _)) (y_allc (.inl (.head _)) (y_allc (.inr (.tail _ (.tail _ (.head _)))) (y_allc (.inr (.tail _ (.tail _ (.tail _ (.head _))))) (y_allc (.inr (.tail _ (.tail _ (.tail _ (.tail _ (.head _)))))) y_all0)))))) (y_got N9 (.tail _ (.head _))) ?_
      rw [show l + a2 - l = a2 from Nat.add_sub_cancel_left _ _, show l + a2 + b2 - (l + a2) = b2 from Nat.add_sub_cancel_left _ _, fill_two (digs_len _ _ _) (digs_len _ _ _) hr, ← digs_split] at hI8
      rw [mid_len]
      exact hI8
  rw [hD, Int.toNat_natCast] at N6
  obtain ⟨dl, rfl⟩ := news_2nd N6
  obtain ⟨b1, b2, b3, b4, b5, b6⟩ := hc6
  obtain ⟨e1, e2, e3, e4, e5, e6⟩ := hf6
  have ht : ∀ a : Addr, YNe a c' → ∀ p ∈ tl, @Ne Nat p.1 a := fun a h p hp e => h (e.symm.trans (htl p hp))
  have ht1 := ht _ b1
  have ht3 := ht _ b3
  have N7 := News.app N6 N6t
  (try dsimp only [List.cons_append, List.nil_append] at N7)
  clear N6 N6t
  have hD0 : 0 < D := by
    rcases Nat.eq_zero_or_pos D with e | e
    · rw [e] at hx; simp at hx; omega
    · exact e
  have hxp : (0 : Int) < (x : Int) := by omega
  k_steps
  · (rename Fr _ _ _ _ => F9); (rename News _ _ _ _ => N9); (rename Obj => oF); (rename oF.data = _ => dF)
    refine' YStop.to (InnerC.lf (x := x) (l := 0) (r := D) (ds := List.replicate D 0) (key D) ?B ?F ?X ?N ?T ?hkf ?hdp ?hun ?hrec ?hne ?U ?h1 ?h2 ?h3 ?h4 dD dN dF (YNe.sym e1) ?n2 ?n3 ?n4 (intsAre_rep _ _) ?hr ?hds ?hlr ?hk ?hx hn.2 rfl rfl ?hri ?_)
    case B => k_asm
    case F => exact F9
    case X => k_asm
    case N => exact N9
    case T => assumption
    case hkf => exact rfl
    case hdp => ktr_room
    case hun => ktr_units
    case U => k_updF
    case h1 => k_mem
    case h2 => k_mem
    case h3 => k_mem
    case h4 => k_mem
    case hrec => exact hrec _ F9.keep (News.sub N9 fun p hp => .tail _ (.tail _ (.tail _ (.tail _ (.tail _ (.tail _ (.tail _ hp)))))))
    case hne => exact ⟨hfc, b1, b3, b4, b5, trivial⟩
    case n2 => assumption
    case n3 => assumption
    case n4 => assumption
    case hr => simp
    case hds => simp; omega
    case hlr => exact hD0
    case hk => omega
    case hx => exact hx
    case hri => simp
    clear F9 N9
    intro tk7 h7 dvs7 F7 N7 hI7
    (try dsimp only at N7)
    simp only [List.take_zero, List.nil_append, Nat.sub_zero] at hI7
    rw [List.drop_eq_nil_of_le (by simp), List.append_nil] at hI7
    k_steps
    (rename Fr _ _ _ _ => F9); (rename News _ _ _ _ => N9)
    refine hret _ _ _ _ _ _ (y_ge N0 hG F9 N9 (y_allc (.inl (.head _)) y_all0)) (y_got N9 (.tail _ (.head _))) (y_new N0 hG N9 (.tail _ (.head _)) (y_allc (YNe.to (by assumption)) y_all0)) hI7 (y_got N9 (.tail _ (.tail _ (.tail _ (.tail _ (.tail _ (.tail _ (.head _)))))))) fun e => ?_
    obtain ⟨q1, oc, vs, t, rfl, q2, q3⟩ := hnew e
    exact ⟨c', oc, vs, t, q1, y_new N0 hG N9 (.tail _ (.tail _ (.tail _ (.tail _ (.tail _ (.tail _ (.tail _ (.head _)))))))) (y_allc (YNe.to b6) y_all0), y_got N9 (.tail _ (.tail _ (.tail _ (.tail _ (.tail _ (.tail _ (.tail _ (.head _)))))))), q2, q3⟩
end
section -- JD2i
theorem zsJD2i : True := by
  w_top off
  k_with_none
  k_with "omega" => first | assumption | lia
  k_with "lt" => (skip)
  k_with "all" => (first | assumption | exact y_all0 | exact allNe_mem (by assumption) | (refine' y_allc ?a ?b; (case a => k_ne); (case b => k_all)))
  k_with "ne" => ((refine neN ?_; (try dsimp only); first | exact YNe.to (by assumption) | exact YNe.to' (by assumption) | exact Nat.succ_ne_self _ | exact (Nat.succ_ne_self _).symm | exact Nat.ne_of_gt (Nat.lt_succ_of_lt (Nat.lt_succ_self _)) | exact Nat.ne_of_lt (Nat.lt_succ_of_lt (Nat.lt_succ_self _))))
  k_with "execs cons" => (refine y_consS ?_; intro sk9 qk9)
  k_with "exec FunctionDef" => (k_here; k_dflt (refine' nestDef_K ?d0 ?k0 ?a0 ?_; (case d0 | k0 | a0 => exact rfl)); refine YStop.of ?_)
  k_with "binaryOp RShift int int" => (k_here; k_dflt (refine' rshift_int ?h0 ?_; (case h0 => first | assumption | decide | omega); k_whole))
  k_with "binaryOp LShift int int" => (k_here; k_dflt (refine' lshift_int ?h0 ?hz ?_; (case h0 => first | assumption | omega); (case hz => assumption); k_whole))
  k_with "call ref" => (k_here; (with_reducible show wpAny _ _ (call (Value.ref _) [Value.int _ _, Value.int _ _]) _ _ _); refine YStop.of ?_)
  k_with "callWith ref" => (k_here; k_dflt (refine' callWith_F0 ?k1 ?_; (case k1 => first | exact FnAt.of (by k_asm) (by k_mem) | exact fnAt_of (by k_asm) (by k_mem) (by assumption)); k_whole; try dsimp only [List.nil_append, List.cons_append]))
  k_with "callWith ref" => (k_here; k_dflt (refine' callWith_F ?k1 ?_; (case k1 => first | exact FnAt.of (by k_asm) (by k_mem) | exact fnAt_of (by k_asm) (by k_mem) (by assumption)); k_whole))
  k_with "FnAt" => (k_dflt (exact fnAt_of (by k_asm) (by k_mem) (by assumption)))
  k_with "call builtin:len" => (k_here; k_dflt (refine' len_BL ?N ?hm ?hs ?_; (case N => k_asm); (case hm => k_mem); (case hs => first | assumption | omega | (simp only [List.size_toArray, List.length_replicate]; omega)); k_whole; intro t9' tk9'))
  k_with "truthy ref" => (k_here; k_dflt (refine' truthy_BL ?N ?hm ?hs ?_; (case N => k_asm); (case hm => k_mem); (case hs => assumption); k_whole; intro tk9'))
  k_with "eval Name" => (k_here; k_dflt (refine' y_free ?N ?hc ?hm ?hd ?_ ?hk ?hx ?hb ?hn; (case hk | hx | hc => exact rfl); (case N => k_asm); (case hm => k_mem); (case hd => assumption); (case hb | hn => decide); k_whole))
  trivial
theorem truthy_BL {prog : Program} {w : World} {A : Around} {E : Value → Shared → Prop} {s : Shared} {g : Heap} {L l : Addr} {vs : Array Value} {n : Nat} {news : List (Addr × Obj)} {Q : Bool → Shared → Prop} (N : News g L s.heap news) (hm : (l, listOf vs n) ∈ news) (hs : 0 < vs.size ∧ vs.size ≤ 1000)
    (h : ∀ tk, Q true { s with toks := tk }) : wpAny (model prog w) A (truthy (.ref l)) Q E s := by
  refine wpAny_truthy_list (items := vs) ⟨_, (N _ hm).1, rfl, n, rfl⟩ (Int.lt_of_le_of_lt (show (vs.size : Int) ≤ 1000 by omega) (by decide)) ?_
  have e : (!vs.isEmpty) = true := by simp [Array.isEmpty]; intro h; subst h; simp at hs
  rw [e]
  exact h _
noncomputable def und (n : Nat) : List Nat → Nat
  | [] => 0
  | d :: r => d + 2 ^ n * und n r
theorem und_append (n : Nat) : ∀ (a b : List Nat), und n (a ++ b) = und n a + 2 ^ (n * a.length) * und n b
  | [], b => by simp [und]
  | d :: a, b => by
    show d + 2 ^ n * und n (a ++ b) = d + 2 ^ n * und n a + 2 ^ (n * (a.length + 1)) * und n b
    rw [und_append n a b, Nat.mul_add, Nat.mul_add n, Nat.mul_one, Nat.add_comm (n * a.length), Nat.pow_add, Nat.mul_assoc]
    omega
theorem und_lt {n : Nat} : ∀ {a : List Nat}, (∀ d ∈ a, d < 2 ^ n) → und n a < 2 ^ (n * a.length)
  | [], _ => by simp [und]
  | d :: a, h => by
    have h1 := h d (.head _)
    have h2 := und_lt (a := a) fun x hx => h x (.tail _ hx)
    show d + 2 ^ n * und n a < 2 ^ (n * (a.length + 1))
    rw [Nat.mul_add, Nat.mul_one, Nat.add_comm (n * a.length), Nat.pow_add]
    have h3 : 2 ^ n * (und n a + 1) ≤ 2 ^ n * 2 ^ (n * a.length) := Nat.mul_le_mul_left _ h2
    rw [Nat.mul_add, Nat.mul_one] at h3
    omega
theorem slice_two {ds : List Nat} (l a b : Nat) : (ds.drop l).take (a + b) = (ds.drop l).take a ++ (ds.drop (l + a)).take b := by
  rw [List.take_add, List.drop_drop]
theorem slice_len {ds : List Nat} {l a : Nat} (h : l + a ≤ ds.length) : ((ds.drop l).take a).length = a := by
  rw [List.length_take, List.length_drop]; exact Nat.min_eq_left (Nat.le_sub_of_add_le (by rw [Nat.add_comm]; exact h))
theorem und_one {n : Nat} {ds : List Nat} {l : Nat} {li : Int} (h : l < ds.length) (e : li = l) : (ds.map Int.ofNat).getD li.toNat 0 = ((und n ((ds.drop l).take 1) : Nat) : Int) := by
  rw [e, Int.toNat_natCast, List.getD_eq_getElem?_getD, List.getElem?_map, List.getElem?_eq_getElem h, show List.take 1 (List.drop l ds) = [ds[l]] by rw [List.drop_eq_getElem_cons h]; rfl]
  show (Int.ofNat ds[l]) = ((ds[l] + 2 ^ n * 0 : Nat) : Int)
  rw [Nat.mul_zero, Nat.add_zero]; rfl
noncomputable def InnerD (w : World) (p : Program) (loose : List Str) (mean : ExcName → Option Value) (mg mb : Str → Option Value) (qual : Str) (fo : Obj) (f c' c1 c2 c3 : Addr) (n k : Nat) : Prop :=
  ∀ (dp un : Nat) (gd : Option (List Code)) (cn : Str) (cs : Scope) (a : Addr) (ccd : Value) (cl : List (Str × Addr)) (outer : List Env) (A₀ : Around) (base h₀ : Heap) (L : Addr) (m : Str → Option Value) (s : Shared) (Q E : Value → Shared → Prop)
    (dl : Addr) (dvs : Array Value) (dn : Nat) (ds : List Nat) (o1 o2 o3 : Obj) (l r : Nat) (li ri : Int) (t2 t3 tn : Tok),
    Below A₀ base outer h₀ → Fr h₀ L s.heap m → (hd.heap_1 w.params).In h₀ → News h₀ L s.heap [(f, fo), (dl, listOf dvs dn), (c3, o3), (c1, o1), (c2, o2)] → Top p loose mean mg mb h₀ → cs.kind = .function →
    dp + k + 1 < recursionLimit → un + 8 * k + 8 < cLine → s.heap.CodeRec (.ref c') qual → AllNe c' [(f, fo), (dl, listOf dvs dn), (c3, o3), (c1, o1), (c2, o2)] →
    o1.data = .cell (some (.ref dl)) → o2.data = .cell (some (.int n tn)) → o3.data = .cell (some (.ref f)) →
    IntsAre dvs.toList (ds.map Int.ofNat) → (∀ d ∈ ds, d < 2 ^ n) → r ≤ ds.length → ds.length ≤ 1000 → l < r → r ≤ l + k → n ≤ 10000 → li = l → ri = r →
    (∀ (t : Tok) (tk' : Nat) h', Ge [] s.heap h' → Q (.int ((und n ((ds.drop l).take (r - l)) : Nat) : Int) t) { s with heap := h', toks := tk' }) →
    wpAny (model PySem.Challenge.rw_yj0031_01.row.prog w) (ktrTop dp un gd cn cs L a ccd cl outer) (call (.ref f) [.int li t2, .int ri t3]) Q E s
theorem InnerD.lf {w : World} {p : Program} {loose : List Str} {mean : ExcName → Option Value} {mg mb : Str → Option Value} {qual : Str} {fo : Obj} {f c' c1 c2 c3 : Addr} {n k : Nat} (C : InnerD w p loose mean mg mb qual fo f c' c1 c2 c3 n k)
    {dp un : Nat} {gd : Option (List Code)} {cn : Str} {cs : Scope} {a : Addr} {ccd : Value} {cl : List (Str × Addr)} {outer : List Env} {A₀ : Around} {base h₀ : Heap} {L : Addr} {m : Str → Option Value} {s : Shared} {Q E : Value → Shared → Prop}
    {dl : Addr} {dvs : Array Value} {dn : Nat} {ds : List Nat} {o1 o2 o3 : Obj} {l r : Nat} {li ri : Int} {t2 t3 tn : Tok} {news : List (Addr × Obj)}
    (B : Below A₀ base outer h₀) (F : Fr h₀ L s.heap m) (X : (hd.heap_1 w.params).In h₀) (N : News h₀ L s.heap news) (T : Top p loose mean mg mb h₀) (hkf : cs.kind = .function)
    (hdp : dp + k + 1 < recursionLimit) (hun : un + 8 * k + 8 < cLine) (hrec : s.heap.CodeRec (.ref c') qual) (hne : AllNe c' [(f, fo), (dl, listOf dvs dn), (c3, o3), (c1, o1), (c2, o2)])
    (h0 : (dl, listOf dvs dn) ∈ news) (h1 : (f, fo) ∈ news) (h2 : (c1, o1) ∈ news) (h3 : (c2, o2) ∈ news) (h4 : (c3, o3) ∈ news)
    (d1 : o1.data = .cell (some (.ref dl))) (d2 : o2.data = .cell (some (.int n tn))) (d3 : o3.data = .cell (some (.ref f)))
    (hI : IntsAre dvs.toList (ds.map Int.ofNat)) (hds2 : ∀ d ∈ ds, d < 2 ^ n) (hr : r ≤ ds.length) (hds : ds.length ≤ 1000) (hlr : l < r) (hk : r ≤ l + k) (hn : n ≤ 10000) (e2 : li = l) (e3 : ri = r)
    (hret : ∀ (t : Tok) (tk' : Nat) h', Fr h₀ L h' m → News h₀ L h' news → Q (.int ((und n ((ds.drop l).take (r - l)) : Nat) : Int) t) { s with heap := h', toks := tk' }) :
    wpAny (model PySem.Challenge.rw_yj0031_01.row.prog w) (ktrTop dp un gd cn cs L a ccd cl outer) (call (.ref f) [.int li t2, .int ri t3]) Q E s :=
  C dp un gd cn cs a ccd cl outer A₀ base h₀ L m s Q E dl dvs dn ds o1 o2 o3 l r li ri t2 t3 tn B F X (News.cons' N h1 (News.cons' N h0 (News.cons' N h4 (News.cons' N h2 (News.cons' N h3 y_all0))))) T hkf hdp hun hrec hne d1 d2 d3 hI hds2 hr hds hlr hk hn e2 e3
    fun t tk' h' G => let ⟨F', N'⟩ := y_call0 F N G; hret t tk' h' F' N'
theorem d2i_spec
  (dl : Addr) (dvs : Array Value) (dn : Nat) (ds : List Nat) (n : Nat) (t2 : Tok)
  (B : Below A₀ base outer h₀) (F : Fr h₀ L s.heap m) (X : (hd.heap_1 w.params).In h₀) (N : News h₀ L s.heap ([(69, tabObj #[]), (dl, listOf dvs dn)])) (T : Top p loose mean mg mb h₀) (hkf : cs.kind = .function)
  (hdp : dp + 150 < recursionLimit) (hun : un + 1000 < cLine)
  (hI : IntsAre dvs.toList (ds.map Int.ofNat)) (hds2 : ∀ d ∈ ds, d < 2 ^ n) (hn : 1 ≤ n ∧ n ≤ 10000) (hds : ds.length ≤ 100) (hds0 : 0 < ds.length) (h69 : YNe dl 69)
  (hret : ∀ (t : Tok) (tk' : Nat) h' (ps' : Array Value), Ge [69] s.heap h' → h'.get? 69 = some (tabObj ps') → Q (.int ((und n ds : Nat) : Int) t) { s with heap := h', toks := tk' }) :
  wpAny (model PySem.Challenge.rw_yj0031_01.row.prog w) (ktrTop dp un gd cn cs L a ccd cl outer) (call (.ref 74) [.ref dl, .int (n : Int) t2]) Q E s := by
  revert X; k_fill; intro X
  refine wpAny_call ?_
  refine' y_codeC ?k1 ?k2 ?k3 ?k4 ?k5 ?kA ?kF ?kK ?k6 ?k7 ?k8 ?k9 ?kB ?kD ?_ ?c2 ?c3 ?c4
  (case kA | kF => exact rfl); (case kK | k1 | k2 | k3 | k4 | k5 => assumption); (case k6 | k7 => k_is); (case k8 => ktr_room); (case k9 => first | exact BindsTo.of_eq rfl | exact binds_K (by k_in) rfl (by k_is) rfl rfl rfl); (case kB => exact rfl); (case kD => decide +kernel); (case c2 | c3 | c4 => exact rfl); have N0 := YOld.mk N; clear B F X N T; intro g L1 h1 tk1 cells1 hG F1 N1 Y1 B1 X1 T1 l1; have l62 : @LT.lt Nat _ 69 L1 := l1 _ (.head _); k_cells Y1; (try simp only [List.cons_append, List.nil_append] at N1); (try dsimp only); (try k_fold)
  have ldl : @LT.lt Nat _ dl L1 := l1 _ (.tail _ (.head _))
  have q1 : YNe 69 (L1 + 1) := Nat.ne_of_lt (Nat.lt_succ_of_lt l62)
  have q2 : YNe 69 (L1 + 1 + 1) := Nat.ne_of_lt (Nat.lt_succ_of_lt (Nat.lt_succ_of_lt l62))
  have q3 : YNe 69 (L1 + 1 + 1 + 1) := Nat.ne_of_lt (Nat.lt_succ_of_lt (Nat.lt_succ_of_lt (Nat.lt_succ_of_lt l62)))
  have r1 : YNe dl (L1 + 1) := Nat.ne_of_lt (Nat.lt_succ_of_lt ldl)
  have r2 : YNe dl (L1 + 1 + 1) := Nat.ne_of_lt (Nat.lt_succ_of_lt (Nat.lt_succ_of_lt ldl))
  have r3 : YNe dl (L1 + 1 + 1 + 1) := Nat.ne_of_lt (Nat.lt_succ_of_lt (Nat.lt_succ_of_lt (Nat.lt_succ_of_lt ldl)))
  replace F1 : Fr g L1 h1 (fun _ => none) := F1
  rename_i oI oN oA dI dN dA
  replace dI : oI.data = .cell none := dI
  replace dA : oA.data = .cell (some (.ref dl)) := dA
  replace dN : oN.data = .cell (some (.int (n : Int) t2)) := dN
  k_steps
  refine' YStop.to (y_nest (ps := #[]) (P := 69) (c := 73) ?F ?N ?T ?C ?hcd ?U ?hps ?hcl ?_)
  case F => exact F1
  case N => exact N1
  case T => exact T1
  case C => exact codeHd_of_K (by assumption) (by kernel_rfl)
  case hcd => exact rfl
  case U => k_updF
  case hps => exact .inl rfl
  case hcl => exact rfl
  intro f c' ct dc h6 tk6 ps6 tl F6 N6 N6t hrec hc6 hf6 hfc htl hnew
  clear F1 N1
  (try dsimp only at N6)
  replace hrec : ∀ h'' : Heap, (∀ b o, g.get? b = some o → h''.get? b = some o) → News g L1 h'' tl → h''.CodeRec (.ref c') (PySem.Str.ofString "_digits2int.<locals>.inner") := hrec
  clear hnew
  obtain ⟨f, fo, rfl, hfo⟩ := news_hd2 N6
  rw [← hfo] at N6
  simp only [AllNe, and_true] at hc6 hf6
  have key : ∀ k, InnerD w p loose mean mg mb (PySem.Str.ofString "_digits2int.<locals>.inner") fo f c' (L1 + 1) (L1 + 1 + 1) (L1 + 1 + 1 + 1) n k := by
    clear F6 N6 N6t hrec htl hret N0 hG B1 X1 T1 dI dA dN hI hds2 hds hds0
    (repeat (rename Fr _ _ _ _ => F0; clear F0))
    (repeat (rename News _ _ _ _ => F0; clear F0))
    subst hfo
    intro k
    induction k using Nat.strongRecOn with
    | ind k IH =>
    unfold InnerD
    intro dp un gd cn cs a ccd cl outer A₀ base h₀ L m s Q E dl dvs dn ds o1 o2 o3 l r li ri t2 t3 tn B F X N T hkf hdp hun hrec hne d1 d2 d3 hI hds2 hr hds hlr hk hn e2 e3 hret
    refine wpAny_call ?_
    refine' y_codeN (rb := [("R", .int ri t3), ("L", .int li t2)]) ?k1 ?k2 ?k3 ?k4 ?k5 ?kA ?kF ?kK ?k6 ?k7 ?k8 ?k9 ?kR ?kB ?_ ?c2 ?c3 ?c4 ?c5
    (case kA | kF => exact rfl); (case kK | k1 | k2 | k3 | k4 | k5 => assumption); (case k6 => exact .head _); (case k7 => exact hrec); (case k8 => ktr_room); (case k9 => exact BindsTo.of_eq rfl); (case kR => exact rfl); (case c5 => decide); (case kB => exact locs rfl); (case c2 | c3 | c4 => exact rfl)
    have N0 := YOld.mk N; clear B F X N T; intro g2 L2 h2 tk2 hG2 F2 N2 B2 X2 T2 l2; (try dsimp only); (try k_lt l2); (try k_fold)
    have hrec2 := codeRec_at hG2 (allNe_mem hne) hrec
    have hdz : dvs.size = ds.length := by rw [← Array.length_toList, hI.length, List.length_map]
    obtain ⟨a2, b2, hab, hm2, rfl⟩ : ∃ a2 b2, (l + 1 < r → 0 < a2 ∧ 0 < b2) ∧ (l + r) / 2 = l + a2 ∧ r = l + a2 + b2 := mid_ab hlr
    have hr9 : l + (a2 + b2) ≤ 1000 := Nat.add_assoc l a2 b2 ▸ Nat.le_trans hr hds
    have hab9 : a2 + b2 ≤ 1000 := Nat.le_trans (Nat.le_add_left _ l) hr9
    have ha9 : a2 ≤ 1000 := Nat.le_trans (Nat.le_add_right a2 b2) hab9
    have hb9 : b2 ≤ 1000 := Nat.le_trans (Nat.le_add_left b2 a2) hab9
    have hm : (li + ri).fdiv (2 ^ (1 : Int).toNat) = ((l + a2 : Nat) : Int) := by rw [← hm2]; exact mid_eq e2 e3
    have hsh : ((li + ri).fdiv (2 ^ (1 : Int).toNat) - li) * (n : Int) = ((n * a2 : Nat) : Int) := by rw [hm, e2, mid_sub, Int.natCast_mul, Int.mul_comm]
    have hs0 : 0 ≤ ((li + ri).fdiv (2 ^ (1 : Int).toNat) - li) * (n : Int) := by rw [hsh]; exact Int.natCast_nonneg _
    have hna : n * a2 ≤ 10000 * 1000 := Nat.mul_le_mul hn ha9
    have hsl : ((ds.drop (l + a2)).take b2).length = b2 := slice_len hr
    have hup : und n ((ds.drop (l + a2)).take b2) < 2 ^ (n * b2) := by
      have := und_lt (n := n) (a := (ds.drop (l + a2)).take b2) (fun x hx => hds2 x (List.mem_of_mem_drop (List.mem_of_mem_take hx)))
      rw [hsl] at this; exact this
    have hz : (Builtin.Int.intBits ((und n ((ds.drop (l + a2)).take (l + a2 + b2 - (l + a2))) : Nat) : Int) : Int) + ((li + ri).fdiv (2 ^ (1 : Int).toNat) - li) * (n : Int) ≤ 2 ^ 27 := by
      rw [show l + a2 + b2 - (l + a2) = b2 from Nat.add_sub_cancel_left _ _]
      have z1 := bits_nat rfl hup
      have z2 : ((n * b2 : Nat) : Int) ≤ ((10000000 : Nat) : Int) := Int.ofNat_le.mpr (Nat.le_trans (Nat.mul_le_mul hn hb9) (by decide))
      have z3 : ((n * a2 : Nat) : Int) ≤ ((10000000 : Nat) : Int) := Int.ofNat_le.mpr (Nat.le_trans hna (by decide))
      rw [hsh]
      exact Int.le_trans (Int.add_le_add (Int.le_trans z1 z2) z3) (by decide)
    have hmb : 0 ≤ (li + ri).fdiv (2 ^ (1 : Int).toNat) - li ∧ (li + ri).fdiv (2 ^ (1 : Int).toNat) - li ≤ 1000 := by rw [hm, e2, mid_sub]; exact ⟨Int.natCast_nonneg _, Int.ofNat_le.mpr ha9⟩
    have hl9 : l < ds.length := Nat.lt_of_lt_of_le hlr hr
    have hli0 : 0 ≤ li := by rw [e2]; exact Int.natCast_nonneg _
    have hli1 : li < (ds.length : Int) := by rw [e2]; exact Int.ofNat_lt.mpr hl9
    have hli2 : li < 2 ^ 63 := Int.lt_of_lt_of_le hli1 (Int.le_trans (Int.ofNat_le.mpr hds) (by decide))
    clear hm2
    have hret' : ∀ (z : Int) (t : Tok) (tk' : Nat) h', z = ((und n ((ds.drop l).take (l + a2 + b2 - l)) : Nat) : Int) → Ge [] s.heap h' → Q (.int z t) { s with heap := h', toks := tk' } := fun z t tk' h' e G => by rw [e]; exact hret t tk' h' G
    have GEND : ∀ (h9 : Heap) m9, Fr g2 L2 h9 m9 → News g2 L2 h9 [(f, _), (dl, listOf dvs dn), (L1 + 1 + 1 + 1, o3), (L1 + 1, o1), (L1 + 1 + 1, o2)] → Ge [] s.heap h9 := fun h9 m9 F9 N9 => y_ge N0 hG2 F9 N9 fun q hq => .inr hq
    k_steps
    · (rename Fr _ _ _ _ => F9); (rename News _ _ _ _ => N9)
      refine hret' _ _ _ _ ?_ (GEND _ _ F9 N9)
      rw [show l + a2 + b2 - l = 1 by
        have z : li + 1 = ri := by assumption
        rw [e2, e3] at z
        rw [← show l + 1 = l + a2 + b2 from Int.ofNat.inj z, Nat.add_sub_cancel_left]]
      exact und_one hl9 e2
    · obtain ⟨ha0, hb0⟩ := hab (Nat.lt_of_le_of_ne hlr fun z => (by assumption : ¬ li + 1 = ri) (by rw [e2, e3, ← z]; rfl))
      have hk9 : a2 + b2 ≤ k := Nat.le_of_add_le_add_left (Nat.add_assoc l a2 b2 ▸ hk)
      have hak : a2 < k := Nat.lt_of_lt_of_le (Nat.lt_add_of_pos_right hb0) hk9
      have hbk : b2 < k := Nat.lt_of_lt_of_le (Nat.lt_add_of_pos_left ha0) hk9
      have hr8 : l + a2 ≤ ds.length := Nat.le_trans (Nat.le_add_right _ b2) hr
      (rename Fr _ _ _ _ => F9); (rename News _ _ _ _ => N9)
      refine' YStop.to (InnerD.lf (l := l + a2) (r := l + a2 + b2) (IH b2 hbk) ?B ?F ?X ?N ?T ?hkf ?hdp ?hun ?hrec ?hne ?h0 ?h1 ?h2 ?h3 ?h4 d1 d2 d3 hI hds2 ?hr hds ?hlr ?hk hn hm e3 ?_)
      case B => k_asm
      case F => exact F9
      case X => k_asm
      case N => exact N9
      case T => assumption
      case hkf => exact rfl
      case hdp => ktr_room
      case hun => ktr_units
      case hrec => exact codeRec_keep F9.keep hrec2
      case hne => exact hne
      case h0 => k_mem
      case h1 => k_mem
      case h2 => k_mem
      case h3 => k_mem
      case h4 => k_mem
      case hr => exact hr
      case hlr => exact Nat.lt_add_of_pos_right hb0
      case hk => exact Nat.le_refl _
      clear F9 N9
      intro t7 tk7 h7 F7 N7
      k_steps
      (rename Fr _ _ _ _ => F9); (rename News _ _ _ _ => N9)
      refine' YStop.to (InnerD.lf (l := l) (r := l + a2) (IH a2 hak) ?B ?F ?X ?N ?T ?hkf ?hdp ?hun ?hrec ?hne ?h0 ?h1 ?h2 ?h3 ?h4 d1 d2 d3 hI hds2 ?hr hds ?hlr ?hk hn e2 hm ?_)
      case B => k_asm
      case F => exact F9
      case X => k_asm
      case N => exact N9
      case T => assumption
      case hkf => exact rfl
      case hdp => ktr_room
      case hun => ktr_units
      case hrec => exact codeRec_keep F9.keep hrec2
      case hne => exact hne
      case h0 => k_mem
      case h1 => k_mem
      case h2 => k_mem
      case h3 => k_mem
      case h4 => k_mem
      case hr => exact hr8
      case hlr => exact Nat.lt_add_of_pos_right ha0
      case hk => exact Nat.le_refl _
      clear F9 N9
      intro t8 tk8 h8 F8 N8
      k_steps
      (rename Fr _ _ _ _ => F9); (rename News _ _ _ _ => N9)
      refine hret' _ _ _ _ ?_ (GEND _ _ F9 N9)
      rw [show l + a2 + b2 - (l + a2) = b2 from Nat.add_sub_cancel_left _ _, show l + a2 - l = a2 from Nat.add_sub_cancel_left _ _, show l + a2 + b2 - l = a2 + b2 from mid_len, slice_two, und_append, slice_len hr8, hsh, Int.toNat_natCast, Int.natCast_add, Int.natCast_mul, Int.natCast_pow, Int.mul_comm]
      exact Int.add_comm _ _
  obtain ⟨b3, b2, b1, b4, b0⟩ := hc6
  obtain ⟨e3, e2, e1, e4, e0⟩ := hf6
  have ht : ∀ a : Addr, YNe a c' → ∀ p ∈ tl, @Ne Nat p.1 a := fun a h p hp e => h (e.symm.trans (htl p hp))
  have ht3 := ht _ b3
  have N7 := News.app N6 N6t
  (try dsimp only [List.cons_append, List.nil_append] at N7)
  clear N6 N6t
  have hz0 : dvs.size = ds.length := by rw [← Array.length_toList, hI.length, List.length_map]
  have hz1 : 0 < dvs.size ∧ dvs.size ≤ 1000 := by omega
  k_steps
  (rename Fr _ _ _ _ => F9); (rename News _ _ _ _ => N9); (rename Obj => oF); (rename oF.data = _ => dF)
  refine' YStop.to (InnerD.lf (l := 0) (r := ds.length) (key ds.length) ?B ?F ?X ?N ?T ?hkf ?hdp ?hun ?hrec ?hne ?h0 ?h1 ?h2 ?h3 ?h4 dA dN dF hI hds2 (Nat.le_refl _) ?hds hds0 ?hk hn.2 rfl ?hri ?_)
  case B => k_asm
  case F => exact F9
  case X => k_asm
  case N => exact N9
  case T => assumption
  case hkf => exact rfl
  case hdp => ktr_room
  case hun => ktr_units
  case hrec => exact hrec _ F9.keep (News.sub N9 fun p hp => .tail _ (.tail _ (.tail _ (.tail _ (.tail _ (.tail _ hp))))))
  case hne => exact ⟨hfc, b0, b3, b1, b2, trivial⟩
  case h0 => k_mem
  case h1 => k_mem
  case h2 => k_mem
  case h3 => k_mem
  case h4 => k_mem
  case hds => omega
  case hk => omega
  case hri => rw [hz0]
  clear F9 N9
  intro t7 tk7 h7 F7 N7
  k_steps
  (rename Fr _ _ _ _ => F9); (rename News _ _ _ _ => N9)
  rw [List.drop_zero, Nat.sub_zero, List.take_length]
  exact hret _ _ _ _ (y_ge N0 hG F9 N9 (y_allc (.inl (.head _)) (y_allc (.inr (by k_mem)) y_all0))) (y_got N9 (.tail _ (.tail _ (.tail _ (.tail _ (.head _))))))
end
section -- JDmL
theorem zsJDmL : True := by
  k_with_none
  k_with "omega" => (lia)
  trivial
open PySem.Calls PySem.Spec
section
variable {prog : Program} {w : World} {A : Around} {E : Value → Shared → Prop} {s : Shared} {target : PySem.Expr} {body orelse : List Stmt} {env : Env} {Q : Flow → Shared → Prop}
theorem y_rev {I l : Addr} {items : Array Value} {J : Nat → Shared → Prop} (hh : A.handled = none) (hne : @Ne Nat l I) (hit : s.heap.IsRevIter I l ((items.size : Int) - 1)) (hJ0 : J 0 s)
    (hJ : ∀ k s', J k s' → k ≤ items.size → s'.heap.IsRevIter I l ((items.size : Int) - 1 - (k : Int)) ∧ s'.heap.IsList l items)
    (step : ∀ k s' v h' tk', k < items.size → items[items.size - 1 - k]? = some v → J k s' → h'.IsRevIter I l ((items.size : Int) - 1 - ((k + 1 : Nat) : Int)) → (∀ b o, b ≠ I → s'.heap.get? b = some o → h'.get? b = some o) →
      ∀ R : Flow → Shared → Prop, TE R (J (k + 1)) Q → wpAny (model prog w) A (assign target env v) (fun _ s₂ => wpAny (model prog w) A (execs body env) R (fun _ _ => False) s₂) (fun _ _ => False) { s' with heap := h', toks := tk' })
    (done : ∀ s' h' tk', J items.size s' → (∀ b o, b ≠ I → s'.heap.get? b = some o → h'.get? b = some o) → wpAny (model prog w) A (execs orelse env) Q (fun _ _ => False) { s' with heap := h', toks := tk' }) :
    wpAny (model prog w) A (pyIter (.ref I)) (ForPack prog w A env target body orelse Q) E s := by
  refine wpAny_pyIter_revIter hit ?_
  refine ⟨I, _, _, items.size, _, _, fun k s' => k ≤ items.size ∧ J k s', rfl, Walks.listRev hh I l hne items, ?_, ?_, ?_, Nat.zero_le _, hJ0⟩
  · rintro k s' ⟨hk, hj⟩
    exact ⟨hk, (hJ k s' hj hk).1, (hJ k s' hj hk).2⟩
  · rintro k s' v h' tk' hk ⟨_, hj⟩ hP hst hkeep
    refine wpAny_mono (step k s' v h' tk' hk hP hj hst.2.1 (fun b o hb e => hkeep b o (fun hm => hb (List.mem_singleton.mp hm)) e) _ TE.id) (fun _ s₂ h₂ => wpAny_mono h₂ (fun f s₃ h₃ => ?_) fun _ _ z => z) fun _ _ z => z
    cases f with
    | next => exact ⟨hk, h₃⟩
    | cont => exact ⟨hk, h₃⟩
    | brk => exact h₃
    | ret v => exact h₃
  · rintro s' h' tk' ⟨_, hj⟩ hkeep
    exact done s' h' tk' hj fun b o hb e => hkeep b o (fun hm => hb (List.mem_singleton.mp hm)) e
end
theorem y_iterR {h₀ h8 h' : Heap} {L I : Addr} {m8 : Str → Option Value} {led : List (Addr × Obj)} {oI : Obj} (hIL : I ≠ L ∧ h₀.get? I = none) (hap : ∀ p ∈ led, @Ne Nat p.1 I) (F8 : Fr h₀ L h8 m8) (N8 : News h₀ L h8 led)
    (hk : ∀ b o, b ≠ I → h8.get? b = some o → h'.get? b = some o) (hI : h'.get? I = some oI) : Fr h₀ L h' m8 ∧ News h₀ L h' ((I, oI) :: led) :=
  ⟨⟨F8.ns.at fun o e => hk _ o (fun q => hIL.1 q.symm) e, fun b o e => hk b o (fun q => by rw [q, hIL.2] at e; cases e) (F8.keep b o e), F8.above⟩, y_allc ⟨hI, hIL.1, hIL.2⟩ fun p hp => ⟨hk _ _ (hap p hp) (N8 p hp).1, (N8 p hp).2⟩⟩
theorem y_iterRE {h₀ h8 h' : Heap} {L I : Addr} {m8 : Str → Option Value} {led : List (Addr × Obj)} (hIL : I ≠ L ∧ h₀.get? I = none) (hap : ∀ p ∈ led, @Ne Nat p.1 I) (F8 : Fr h₀ L h8 m8) (N8 : News h₀ L h8 led)
    (hk : ∀ b o, b ≠ I → h8.get? b = some o → h'.get? b = some o) : Fr h₀ L h' m8 ∧ News h₀ L h' led :=
  ⟨⟨F8.ns.at fun o e => hk _ o (fun q => hIL.1 q.symm) e, fun b o e => hk b o (fun q => by rw [q, hIL.2] at e; cases e) (F8.keep b o e), F8.above⟩, fun p hp => ⟨hk _ _ (hap p hp) (N8 p hp).1, (N8 p hp).2⟩⟩
section
variable {w : World} {p : Program} {loose : List Str} {mean : ExcName → Option Value} {mg mb : Str → Option Value}
    {dp un : Nat} {gd : Option (List Code)} {cn : Str} {cs : Scope} {a : Addr} {ccd : Value} {cl : List (Str × Addr)} {outer : List Env} {A₀ : Around} {base h₀ : Heap} {L : Addr} {m : Str → Option Value} {s : Shared} {Q E : Value → Shared → Prop} {news : List (Addr × Obj)} {gn : Obj → List (Addr × Obj)}
theorem dig_fit {x n D : Nat} (hn : 1 ≤ n) (hD : D = (Builtin.Int.intBits (x : Int) + n - 1) / n) : x < 2 ^ (n * D) ∧ ((Builtin.Int.intBits (x : Int) : Int) + n - 1).fdiv n = (D : Int) := by
  have h1 : x < 2 ^ Builtin.Int.intBits (x : Int) := bits_le_iff.mp (Nat.le_refl _)
  generalize Builtin.Int.intBits (x : Int) = b at *
  have h2 : b ≤ n * D := by
    have := Nat.div_add_mod (b + n - 1) n
    have := Nat.mod_lt (b + n - 1) (show n > 0 by omega)
    rw [← hD] at *
    omega
  refine ⟨Nat.lt_of_lt_of_le h1 (Nat.pow_le_pow_right (by decide) h2), ?_⟩
  rw [Int.fdiv_eq_ediv_of_nonneg _ (by omega), hD, Int.natCast_ediv]
  congr 1
  omega
theorem ne_of_objs {h : Heap} {a b : Addr} {oa ob : Obj} (ea : h.get? a = some oa) (eb : h.get? b = some ob) (hn : oa ≠ ob) : YNe a b := fun e => by
  rw [e, eb] at ea; exact hn (Option.some.inj ea).symm
theorem dig_L0 {x n : Nat} {t1 t2 : Tok} (B : Below A₀ base outer h₀) (F : Fr h₀ L s.heap m) (X : (hd.heap_1 w.params).In h₀) (N : News h₀ L s.heap news) (T : Top p loose mean mg mb h₀) (hkf : cs.kind = .function)
    (hdp : dp + 150 < recursionLimit) (hun : un + 1000 < cLine) (U : UpdF 62 (tabObj #[]) news gn) (hn : 1 ≤ n ∧ n ≤ 10000) (hD1 : (Builtin.Int.intBits (x : Int) + n - 1) / n ≤ 100) (hx0 : 0 < x)
    (hret : ∀ (l c' : Addr) (dvs : Array Value) (dn tk' : Nat) h' oc vs t, Fr h₀ L h' m → News h₀ L h' ((l, listOf dvs dn) :: (c', oc) :: gn (tabObj #[rawInt (39 : Nat), rawInt (4 : Nat), .ref c'])) → AllNe l news → AllNe c' news → YNe l c' → IntsAre dvs.toList (digs n x ((Builtin.Int.intBits (x : Int) + n - 1) / n)) →
      oc.data = .fields vs → vs[1]? = some (.str (PySem.Str.ofString "_int2digits.<locals>.inner") t) → Q (.ref l) { s with heap := h', toks := tk' }) :
    wpAny (model PySem.Challenge.rw_yj0031_01.row.prog w) (ktrTop dp un gd cn cs L a ccd cl outer) (call (.ref 67) [.int (x : Int) t1, .int (n : Int) t2]) Q E s := by
  obtain ⟨hx, hD⟩ := dig_fit (x := x) hn.1 rfl
  refine dig_spec w p loose mean mg mb dp un gd cn cs a ccd cl outer A₀ base h₀ L m s Q E x n t1 t2 #[] B F X (News.cons' N (updF_mem U) y_all0) T hkf hdp hun (.inl rfl) hn _ hD hD1 hx hx0 fun l dvs dn tk' h' ps' G e1 e2 hI e3 hnew => ?_
  obtain ⟨c', oc, vs, t, rfl, e4, e5, e6, e7⟩ := hnew rfl
  obtain ⟨F', N'⟩ := y_call1 F N U G e3
  exact hret l c' dvs dn tk' h' oc vs t F' (y_fresh F (y_fresh F N' e4 e5) e2 e1) (y_apart N e2) (y_apart N e4) (ne_of_objs e1 e5 fun q => by rw [← q] at e6; cases e6) hI e6 e7
theorem dig_L1 {x n : Nat} {t1 t2 : Tok} {c' : Addr} {oc : Obj} {vs : Array Value} {t : Tok} (B : Below A₀ base outer h₀) (F : Fr h₀ L s.heap m) (X : (hd.heap_1 w.params).In h₀) (N : News h₀ L s.heap news) (T : Top p loose mean mg mb h₀) (hkf : cs.kind = .function)
    (hdp : dp + 150 < recursionLimit) (hun : un + 1000 < cLine) (U : UpdF 62 (tabObj #[rawInt (39 : Nat), rawInt (4 : Nat), .ref c']) news gn) (hm : (c', oc) ∈ news) (hc : YNe c' 62) (e6 : oc.data = .fields vs) (e7 : vs[1]? = some (.str (PySem.Str.ofString "_int2digits.<locals>.inner") t))
    (hn : 1 ≤ n ∧ n ≤ 10000) (hD1 : (Builtin.Int.intBits (x : Int) + n - 1) / n ≤ 100) (hx0 : 0 < x)
    (hret : ∀ (l : Addr) (dvs : Array Value) (dn tk' : Nat) h' ps', Fr h₀ L h' m → News h₀ L h' ((l, listOf dvs dn) :: gn (tabObj ps')) → AllNe l news → IntsAre dvs.toList (digs n x ((Builtin.Int.intBits (x : Int) + n - 1) / n)) → Q (.ref l) { s with heap := h', toks := tk' }) :
    wpAny (model PySem.Challenge.rw_yj0031_01.row.prog w) (ktrTop dp un gd cn cs L a ccd cl outer) (call (.ref 67) [.int (x : Int) t1, .int (n : Int) t2]) Q E s := by
  obtain ⟨hx, hD⟩ := dig_fit (x := x) hn.1 rfl
  refine dig_spec w p loose mean mg mb dp un gd cn cs a ccd cl outer A₀ base h₀ L m s Q E x n t1 t2 _ B F X (News.cons' N (updF_mem U) y_all0) T hkf hdp hun (.inr ⟨c', rfl, hc, codeRec_news N hm e6 e7⟩) hn _ hD hD1 hx hx0 fun l dvs dn tk' h' ps' G e1 e2 hI e3 _ => ?_
  obtain ⟨F', N'⟩ := y_call1 F N U G e3
  exact hret l dvs dn tk' h' ps' F' (y_fresh F N' e2 e1) (y_apart N e2) hI
theorem div_L {x y n : Int} {t1 t2 t3 : Tok} (B : Below A₀ base outer h₀) (F : Fr h₀ L s.heap m) (X : (hd.heap_1 w.params).In h₀) (N : News h₀ L s.heap news) (T : Top p loose mean mg mb h₀) (hkf : cs.kind = .function)
    (hdp : dp + 2 < recursionLimit) (hun : un + 16 < cLine) (hx : 0 ≤ x) (hy : 0 < y) (hbits : (Builtin.Int.intBits x : Int) - n ≤ 4000) (hy9 : y.natAbs.log2 < 9000)
    (hret : ∀ (t : Addr) (u v : Tok) (tk' : Nat) h', Fr h₀ L h' m → News h₀ L h' ((t, tupObj #[.int (x.fdiv y) u, .int (x.fmod y) v]) :: news) → AllNe t news → Q (.ref t) { s with heap := h', toks := tk' }) :
    wpAny (model PySem.Challenge.rw_yj0031_01.row.prog w) (ktrTop dp un gd cn cs L a ccd cl outer) (call (.ref 53) [.int x t1, .int y t2, .int n t3]) Q E s :=
  div_spec w p loose mean mg mb dp un gd cn cs a ccd cl outer A₀ base h₀ L m s Q E x y n t1 t2 t3 B F X y_all0 T hkf hdp hun hx hy hbits hy9 fun t u v tk' h' G e1 e2 =>
    let ⟨F', N'⟩ := y_call0 F N G; hret t u v tk' h' F' (y_fresh F N' e2 e1) (y_apart N e2)
theorem d2i_L {dl : Addr} {dvs : Array Value} {dn : Nat} {ds : List Nat} {n : Nat} {t2 : Tok} (B : Below A₀ base outer h₀) (F : Fr h₀ L s.heap m) (X : (hd.heap_1 w.params).In h₀) (N : News h₀ L s.heap news) (T : Top p loose mean mg mb h₀) (hkf : cs.kind = .function)
    (hdp : dp + 150 < recursionLimit) (hun : un + 1000 < cLine) (U : UpdF 69 (tabObj #[]) news gn) (hm : (dl, listOf dvs dn) ∈ news) (hI : IntsAre dvs.toList (ds.map Int.ofNat)) (hds2 : ∀ d ∈ ds, d < 2 ^ n) (hn : 1 ≤ n ∧ n ≤ 10000) (hds : ds.length ≤ 100) (hds0 : 0 < ds.length) (h69 : YNe dl 69)
    (hret : ∀ (t : Tok) (tk' : Nat) h' (ps' : Array Value), Fr h₀ L h' m → News h₀ L h' (gn (tabObj ps')) → Q (.int ((und n ds : Nat) : Int) t) { s with heap := h', toks := tk' }) :
    wpAny (model PySem.Challenge.rw_yj0031_01.row.prog w) (ktrTop dp un gd cn cs L a ccd cl outer) (call (.ref 74) [.ref dl, .int (n : Int) t2]) Q E s :=
  d2i_spec w p loose mean mg mb dp un gd cn cs a ccd cl outer A₀ base h₀ L m s Q E dl dvs dn ds n t2 B F X (News.cons' N (updF_mem U) (News.cons' N hm y_all0)) T hkf hdp hun hI hds2 hn hds hds0 h69 fun t tk' h' o' G e =>
    let ⟨F', N'⟩ := y_call1 F N U G e; hret t tk' h' o' F' N'
end
theorem long_div {X d n y Q r : Nat} (hy : 0 < y) (h : X = Q * y + r) : X * 2 ^ n + d = (Q * 2 ^ n + (r * 2 ^ n + d) / y) * y + (r * 2 ^ n + d) % y := by
  have h0 := Nat.div_add_mod (r * 2 ^ n + d) y
  rw [Nat.mul_comm y] at h0
  have h1 : (Q * y + r) * 2 ^ n = Q * 2 ^ n * y + r * 2 ^ n := by rw [Nat.add_mul, Nat.mul_right_comm]
  have h2 : (Q * 2 ^ n + (r * 2 ^ n + d) / y) * y = Q * 2 ^ n * y + (r * 2 ^ n + d) / y * y := Nat.add_mul ..
  rw [h, h1, h2]
  omega
end
section -- JDm
theorem zsJDm : True := by
  w_top off
  k_with "lt" => (skip)
  k_with "ne" => ((refine neN ?_; (try dsimp only); first | exact YNe.to (by assumption) | exact YNe.to' (by assumption) | exact Nat.succ_ne_self _ | exact (Nat.succ_ne_self _).symm))
  k_with "all" => (first | assumption | exact y_all0 | exact allNe_mem (by assumption) | (refine' y_allc ?a ?b; (case a => k_ne); (case b => k_all)))
  k_with "execs cons" => (refine y_consS ?_; intro sk9 qk9)
  k_with "te" => first | refine TE.next (by assumption) _ ?_ | refine TE.cont (by assumption) _ ?_ | skip
  k_with "pyIter ref" => (k_here; (with_reducible show wpAny _ _ (pyIter (Value.ref _)) (ForPack _ _ _ _ _ _ _ _) _ _); refine YStop.of ?_)
  k_with "exec For Name Call cons nil" => (k_here; (with_reducible show wpAny _ _ (exec (Stmt.For _ _ _ _ _) _) _ _ _); refine YStop.of ?_)
  k_with "eval Name" => (k_here; k_dflt (refine' ld ?k1 ?k2 ?_; (case k1 => k_asm); (case k2 => first | assumption | exact YUp.to (by assumption) | exact YUp.to (YUp.to (by assumption)) | exact YUp.to (YUp.to (YUp.to (by assumption)))); k_whole))
  k_with "binaryOp LShift int int" => (k_here; k_dflt (refine' lshift_int ?h0 ?hz ?_; (case h0 => first | assumption | omega); (case hz => assumption); k_whole))
  k_with "call ref" => (k_here; k_dflt (refine' dig_L0 ?B ?F ?X ?N ?T ?hkf ?hdp ?hun ?U ?hn ?hD1 ?hx0 ?_; (case B | F | X | N => k_asm); (case T => assumption); (case hkf => exact rfl); (case hdp => ktr_room); (case hun => ktr_units); (case U => k_updF); (case hn | hD1 | hx0 => assumption); k_whole; intro l9' c9' dvs9' dn9' tk9' h9' oc9' vs9' t9' F9' N9' lz1 lz2 lc hI9' e6 e7; (try simp only [AllNe, and_true] at lz1 lz2); (repeat (have := And.left lz1; replace lz1 := And.right lz1)); (repeat (have := And.left lz2; replace lz2 := And.right lz2)); (try dsimp only at N9')))
  k_with "call ref" => (k_here; k_dflt (refine' div_L ?B ?F ?X ?N ?T ?hkf ?hdp ?hun ?hx ?hy ?hbits ?hy9 ?_; (case B | F | X | N => k_asm); (case T => assumption); (case hkf => exact rfl); (case hdp => ktr_room); (case hun => ktr_units); (case hx | hy | hbits | hy9 => assumption); k_whole; intro t9' u9' v9' tk9' h9' F9' N9' lz1; (try simp only [AllNe, and_true] at lz1); (repeat (have := And.left lz1; replace lz1 := And.right lz1))))
  k_with "call builtin:list.append" => (k_here; k_dflt (refine' y_appendB ?F ?N ?U ?hs ?_; (case F | N => k_asm); (case U => k_updF); (case hs => omega); k_whole; intro h9' F9' N9'; (try dsimp only at N9')))
  k_with "call ref" => (k_here; (with_reducible show wpAny _ _ (call (Value.ref 74) _) _ _ _); refine YStop.of ?_)
  k_with "call builtin:list.reverse" => (k_here; k_dflt (refine' y_revL ?F ?N ?U ?hs ?_; (case F | N => k_asm); (case U => k_updF); (case hs => omega); k_whole; intro h9' F9' N9'; (try dsimp only at N9')))
  trivial
theorem y_revL {prog : Program} {w : World} {A : Around} {E : Value → Shared → Prop} {s : Shared} {h₀ : Heap} {L D : Addr} {m : Str → Option Value} {news : List (Addr × Obj)} {gn : Obj → List (Addr × Obj)} {its : Array Value} {n : Nat} {Q : Value → Shared → Prop} (F : Fr h₀ L s.heap m) (N : News h₀ L s.heap news) (U : UpdF D (listOf its n) news gn) (hz : its.size ≤ 1000)
    (h : ∀ h', Fr h₀ L h' m → News h₀ L h' (gn (listOf its.reverse n)) → Q .none { s with heap := h' }) : wpAny (model prog w) A (call (.builtin "list.reverse") [.ref D]) Q E s := by
  have z := N _ (updF_mem U)
  refine call_meets PySem.F.slot_list_reverse ⟨_, z.1, rfl⟩ PySem.F.entry_list_reverse (PySem.F.args_list_reverse_1 _) (PySem.AutoSeq1.list_reverse_list_0 D its n (by rw [line_is]; omega)) ⟨z.1, ?_⟩
  have e : Obj.mapSeq (fun x => x.reverse) (listOf its n) = listOf its.reverse n := by
    show listOf _ (if (its.reverse.size == its.size) = true then n else n + 1) = _
    rw [Array.size_reverse, if_pos (by simp)]
  obtain ⟨F', N'⟩ := led_upd F N U (Heap.SameBut.update ..) (o' := listOf its.reverse n) (h' := s.heap.update D (Obj.mapSeq fun x => x.reverse)) (by rw [Heap.get?_update_self _ z.1 (by rw [e]; rfl), e])
  exact h _ F' N'
theorem news_nm {h₀ h : Heap} {L a1 a2 a3 a4 : Addr} {o1 o2 o3 o4 : Obj} {r : List (Addr × Obj)} (N : News h₀ L h ((a1, o1) :: (a2, o2) :: (a3, o3) :: (a4, o4) :: r)) : ∃ b1 b2 b3 b4 : Addr, b1 = a1 ∧ b2 = a2 ∧ b3 = a3 ∧ b4 = a4 := ⟨_, _, _, _, rfl, rfl, rfl, rfl⟩
theorem news_nl {h₀ h : Heap} {L a1 a2 a3 a4 : Addr} {o1 o2 o4 : Obj} {vs : Array Value} {n : Nat} {r : List (Addr × Obj)} (N : News h₀ L h ((a1, o1) :: (a2, o2) :: (a3, listOf vs n) :: (a4, o4) :: r)) : ∃ (vs' : Array Value) (n' : Nat) (o' : Obj), vs' = vs ∧ n' = n ∧ o' = o4 := ⟨_, _, _, rfl, rfl, rfl⟩
theorem dm_spec
  (x y : Nat) (t1 t2 : Tok)
  (B : Below A₀ base outer h₀) (F : Fr h₀ L s.heap m) (X : (hd.heap_1 w.params).In h₀) (N : News h₀ L s.heap ([(62, tabObj #[]), (69, tabObj #[])])) (T : Top p loose mean mg mb h₀) (hkf : cs.kind = .function)
  (hdp : dp + 152 < recursionLimit) (hun : un + 1020 < cLine)
  (hy : 0 < y) (hx : 0 < x) (hyb : Builtin.Int.intBits (y : Int) ≤ 4000) (hD1 : (Builtin.Int.intBits (x : Int) + Builtin.Int.intBits (y : Int) - 1) / Builtin.Int.intBits (y : Int) ≤ 100)
  (hret : ∀ (t c' : Addr) (u v : Tok) (tk' : Nat) h' oc vs t9 (ps9 : Array Value), Ge [62, 69] s.heap h' → h'.get? t = some (tupObj #[.int ((x / y : Nat) : Int) u, .int ((x % y : Nat) : Int) v]) → s.heap.get? t = none → h'.get? 62 = some (tabObj #[rawInt (39 : Nat), rawInt (4 : Nat), .ref c']) → s.heap.get? c' = none → h'.get? c' = some oc → oc.data = .fields vs → vs[1]? = some (.str (PySem.Str.ofString "_int2digits.<locals>.inner") t9) → h'.get? 69 = some (tabObj ps9) → Q (.ref t) { s with heap := h', toks := tk' }) :
  wpAny (model PySem.Challenge.rw_yj0031_01.row.prog w) (ktrTop dp un gd cn cs L a ccd cl outer) (call (.ref 81) [.int (x : Int) t1, .int (y : Int) t2]) Q E s := by
  revert X; k_fill; intro X
  refine wpAny_call ?_
  refine' y_codeT (rb := [(("b" : Str), (.int (y : Int) t2 : Value)), (("a" : Str), (.int (x : Int) t1 : Value))]) ?k1 ?k2 ?k3 ?k4 ?k5 ?kA ?kF ?kK ?k6 ?k7 ?k8 ?k9 ?kR ?kB ?_ ?c2 ?c3 ?c4 ?c5
  (case kA | kF => exact rfl); (case kK | k1 | k2 | k3 | k4 | k5 => assumption); (case k6 | k7 => k_is); (case k8 => ktr_room); (case k9 => first | exact BindsTo.of_eq rfl | exact binds_K (by k_in) rfl (by k_is) rfl rfl rfl); (case kR => exact rfl); (case c5 => decide); (case kB => exact locs rfl); (case c2 | c3 | c4 => exact rfl); have N0 := YOld.mk N; clear B F X N T; intro g L1 h1 tk1 hG F1 N1 B1 X1 T1 l1; (try dsimp only); (try k_lt l1); (try k_fold)
  have hn1 : 1 ≤ Builtin.Int.intBits (y : Int) ∧ Builtin.Int.intBits (y : Int) ≤ 10000 := ⟨by
      rcases Nat.eq_zero_or_pos (Builtin.Int.intBits (y : Int)) with e | e
      · have := (bits_le_iff (x := y) (k := 0)).mp (Nat.le_of_eq e)
        omega
      · exact e, by omega⟩
  have hyn : y < 2 ^ Builtin.Int.intBits (y : Int) := bits_le_iff.mp (Nat.le_refl _)
  have hy9 : ((y : Int)).natAbs.log2 < 9000 := by
    rw [Int.natAbs_natCast, Nat.log2_lt (by omega)]
    exact Nat.lt_of_lt_of_le hyn (Nat.pow_le_pow_right (by decide) (by omega))
  k_steps
  refine y_for ?_ (fun _ => rfl)
  k_steps
  (rename Fr _ _ _ _ => F5); (rename News _ _ _ _ => N5); (rename IntsAre _ _ => hI5)
  obtain ⟨RV, ql, dl, c', rfl, rfl, rfl, rfl⟩ := news_nm N5
  obtain ⟨dvs, dn, oc, rfl, rfl, rfl⟩ := news_nl N5
  obtain ⟨hxD, _⟩ := dig_fit (x := x) hn1.1 rfl
  generalize (Builtin.Int.intBits (x : Int) + Builtin.Int.intBits (y : Int) - 1) / Builtin.Int.intBits (y : Int) = D at hI5 hxD hD1
  obtain ⟨n, hnn⟩ : ∃ n, Builtin.Int.intBits (y : Int) = n := ⟨_, rfl⟩
  simp only [hnn] at F5 hI5 hn1 hyn hyb hxD
  have hdz : dvs.size = D := by rw [← Array.length_toList, hI5.length, digs_len]
  have hRV := (N5 _ (.head _)).2
  have N6 := News.sub N5 (l' := [(ql, listOf #[] 0), (dl, listOf dvs dn), (c', oc), (62, tabObj #[rawInt (39 : Nat), rawInt (4 : Nat), .ref c']), (69, tabObj #[])]) (fun p hp => .tail _ hp)
  have b96 : YNe 69 62 := (by show (69 : Nat) ≠ 62; decide)
  have a1 : YNe ql RV := by assumption
  have a2 : YNe dl RV := by assumption
  have a3 : YNe c' RV := by assumption
  have a4 : YNe 62 RV := by assumption
  have a5 : YNe 69 RV := by assumption
  refine YStop.to (y_rev (items := dvs) (l := dl) (J := fun k s' => YStop (YEx4 fun m' qvs qn r => YEx2 fun qs tr => YAnd8 (Fr g L1 s'.heap m') (News g L1 s'.heap [(ql, listOf qvs qn), (dl, listOf dvs dn), (c', oc), (62, tabObj #[rawInt (39 : Nat), rawInt (4 : Nat), .ref c']), (69, tabObj #[])]) (s'.heap.IsRevIter RV dl ((dvs.size : Int) - 1 - (k : Int))) (IntsAre qvs.toList ((qs : List Nat).map Int.ofNat)) ((∀ d ∈ qs, d < 2 ^ n)) (qs.length = k) (r < y) (YAnd4 (x / 2 ^ (n * (D - k)) = und n qs.reverse * y + r) (m' "r" = some (.int (r : Nat) tr)) (m' "q_digits" = some (.ref ql)) (m' "b" = some (.int (y : Int) t2) ∧ m' "n" = some (.int (n : Int) tk1) ∧ s' = { s with heap := s'.heap, toks := s'.toks })))) rfl a2 ?it0 ?j0 ?jj ?step ?done)
  case it0 => exact ⟨_, (N5 _ (.head _)).1, rfl, by rw [Array.length_toList]; rfl⟩
  case j0 =>
    k_extra "te"; refine YStop.to ⟨_, #[], 0, 0, [], _, F5, N6, ⟨_, (N5 _ (.head _)).1, rfl, by rw [Array.length_toList]; simp [revObj]⟩, .nil, (fun d hd => nomatch hd), rfl, hy, ?_, rfl, rfl, rfl, rfl, rfl⟩
    rw [Nat.sub_zero, Nat.div_eq_of_lt hxD]; simp [und]
  case jj =>
    rintro k s' ⟨m', qvs, qn, r, qs, tr, F', N', hit', _⟩ _
    exact ⟨hit', ⟨_, (N' _ (.tail _ (.head _))).1, rfl, _, rfl⟩⟩
  case step =>
    rintro k s' v h' tk' hk hv ⟨m8, qvs, qn, r, qs, tr, F8, N8, _, hQ8, hq8, hql8, hr8, hinv, mr, mq, mb2, mn, hs8⟩ hit9 hkeep9 KR9 hKR9
    rw [hs8] at F8 N8 hkeep9 ⊢
    obtain ⟨oRV, hoRV, hoc, hod⟩ := hit9
    obtain ⟨F9, N9⟩ := y_iterR (I := RV) hRV (y_allc (YNe.to a1) (y_allc (YNe.to a2) (y_allc (YNe.to a3) (y_allc (YNe.to a4) (y_allc (YNe.to a5) y_all0))))) F8 N8 hkeep9 hoRV
    clear F5 N5 N6 F8 N8
    (try dsimp only at F9 N9 ⊢)
    obtain ⟨d9, td, rfl, hd9⟩ := hI5.at _ v (by rw [Array.getElem?_toList]; exact hv)
    rw [hdz] at hd9
    obtain ⟨i, hi⟩ : ∃ i, D - 1 - k = i := ⟨_, rfl⟩
    have hi2 : D - k = i + 1 := by omega
    have hi3 : D - (k + 1) = i := by omega
    have hdd : d9 = ((x / 2 ^ (n * i) % 2 ^ n : Nat) : Int) := by
      rw [hi] at hd9
      simp only [digs, List.getElem?_map, List.getElem?_range (show i < D by omega), Option.map_some, Option.some.injEq] at hd9
      exact hd9.symm
    have hdl : x / 2 ^ (n * i) % 2 ^ n < 2 ^ n := Nat.mod_lt _ (Nat.two_pow_pos n)
    have hX : x / 2 ^ (n * i) = x / 2 ^ (n * (D - k)) * 2 ^ n + x / 2 ^ (n * i) % 2 ^ n := by
      rw [hi2, Nat.mul_add, Nat.mul_one, Nat.pow_add, ← Nat.div_div_eq_div_mul]
      exact (Nat.div_add_mod' _ _).symm
    generalize x / 2 ^ (n * i) % 2 ^ n = d at hdd hdl hX
    subst hdd
    have hX2 := long_div (n := n) (d := d) hy hinv
    rw [← hX] at hX2
    have hz : (Builtin.Int.intBits ((r : Nat) : Int) : Int) + ((n : Nat) : Int) ≤ 2 ^ 27 := by
      have z1 := bits_nat (xi := ((r : Nat) : Int)) rfl (Nat.lt_trans hr8 hyn)
      omega
    have e0 : ((r : Nat) : Int) * 2 ^ ((n : Nat) : Int).toNat + ((d : Nat) : Int) = ((r * 2 ^ n + d : Nat) : Int) := by
      rw [Int.toNat_natCast, Int.natCast_add, Int.natCast_mul, Int.natCast_pow]; rfl
    have hx' : 0 ≤ ((r : Nat) : Int) * 2 ^ ((n : Nat) : Int).toNat + ((d : Nat) : Int) := by rw [e0]; exact Int.natCast_nonneg _
    have hy' : 0 < ((y : Nat) : Int) := by omega
    have hlt : r * 2 ^ n + d < y * 2 ^ n := by
      have := Nat.mul_le_mul_right (2 ^ n) hr8
      rw [Nat.succ_mul] at this
      omega
    have hbits : (Builtin.Int.intBits (((r : Nat) : Int) * 2 ^ ((n : Nat) : Int).toNat + ((d : Nat) : Int)) : Int) - ((n : Nat) : Int) ≤ 4000 := by
      have z1 := bits_nat e0 (k := n + n) (Nat.lt_trans hlt (by rw [Nat.pow_add]; exact Nat.mul_lt_mul_of_pos_right hyn (Nat.two_pow_pos n)))
      omega
    have ef : (((r : Nat) : Int) * 2 ^ ((n : Nat) : Int).toNat + ((d : Nat) : Int)).fdiv ((y : Nat) : Int) = (((r * 2 ^ n + d) / y : Nat) : Int) := by
      rw [e0, Int.fdiv_eq_ediv_of_nonneg _ (by omega)]; rfl
    have em : (((r : Nat) : Int) * 2 ^ ((n : Nat) : Int).toNat + ((d : Nat) : Int)).fmod ((y : Nat) : Int) = (((r * 2 ^ n + d) % y : Nat) : Int) := by
      rw [e0, Int.fmod_eq_emod_of_nonneg _ (by omega)]; rfl
    have hqz : qvs.size = k := by rw [← Array.length_toList, hQ8.length, List.length_map, hql8]
    k_steps
    (rename Fr _ _ _ _ => F10); (rename News _ _ _ _ => N10)
    rw [ef, em] at F10
    rw [ef] at N10
    k_extra "te"; refine YStop.to ⟨_, _, _, (r * 2 ^ n + d) % y, qs ++ [(r * 2 ^ n + d) / y], _, F10, News.cons' N10 (by k_mem) (News.sub N10 fun p hp => .tail _ (.tail _ (.tail _ hp))), ⟨oRV, (N10 (RV, oRV) (by k_mem)).1, hoc, hod⟩, ?_, ?_, by rw [List.length_append, hql8]; rfl, Nat.mod_lt _ hy, ?_, rfl, mq, mb2, mn, rfl⟩
    · rw [Array.toList_push, List.map_append]
      exact hQ8.append (.cons _ _ .nil)
    · intro e he
      rcases List.mem_append.mp he with he | he
      · exact hq8 e he
      · rw [List.mem_singleton.mp he, Nat.div_lt_iff_lt_mul hy, Nat.mul_comm (2 ^ n) y]; exact hlt
    · rw [hi3, hX2, List.reverse_append]
      show _ = ((r * 2 ^ n + d) / y + 2 ^ n * und n qs.reverse) * y + _
      rw [Nat.add_comm ((r * 2 ^ n + d) / y), Nat.mul_comm (2 ^ n)]
  case done =>
    rintro s' h' tk' ⟨m8, qvs, qn, r, qs, tr, F8, N8, _, hQ8, hq8, hql8, hr8, hinv, mr, mq, mb2, mn, hs8⟩ hkeep9
    rw [hs8] at F8 N8 hkeep9 ⊢
    obtain ⟨F9, N9⟩ := y_iterRE (I := RV) hRV (y_allc (YNe.to a1) (y_allc (YNe.to a2) (y_allc (YNe.to a3) (y_allc (YNe.to a4) (y_allc (YNe.to a5) y_all0))))) F8 N8 hkeep9
    clear F5 N5 N6 F8 N8
    (try dsimp only at F9 N9 ⊢)
    rw [hdz, Nat.sub_self, Nat.mul_zero, Nat.pow_zero, Nat.div_one] at hinv
    have hqz : qvs.size = D := by rw [← Array.length_toList, hQ8.length, List.length_map, hql8, hdz]
    k_steps
    · (rename Fr _ _ _ _ => F10); (rename News _ _ _ _ => N10)
      refine' YStop.to (d2i_L (ds := qs.reverse) ?B ?F ?X ?N ?T ?hkf ?hdp ?hun ?U ?hm ?hI ?h2 ?hn ?hds ?hds0 ?h69 ?_)
      case B => k_asm
      case F => exact F10
      case X => k_asm
      case N => exact N10
      case T => exact T1
      case hkf => exact rfl
      case hdp => ktr_room
      case hun => ktr_units
      case U => k_updF
      case hm => exact .head _
      case hI => rw [Array.toList_reverse, List.map_reverse]; exact hQ8.reverse
      case h2 => exact fun e he => hq8 e (List.mem_reverse.mp he)
      case hn => exact hn1
      case hds => rw [List.length_reverse]; omega
      case hds0 =>
        rw [List.length_reverse, hql8, hdz]
        rcases Nat.eq_zero_or_pos D with e | e
        · rw [e] at hxD; simp at hxD; omega
        · exact e
      case h69 => first | assumption | exact YNe.sym (by assumption)
      have hxy : und n qs.reverse = x / y ∧ r = x % y := by
        have e1 : x / y = und n qs.reverse := by
          rw [hinv, Nat.mul_comm, Nat.mul_add_div hy, Nat.div_eq_of_lt hr8, Nat.add_zero]
        have e2 : x % y = r := by rw [hinv, Nat.mul_comm, Nat.mul_add_mod, Nat.mod_eq_of_lt hr8]
        exact ⟨e1.symm, e2.symm⟩
      clear F9 N9
      intro t7 tk7 h7 o7 F7 N7
      (try dsimp only at N7)
      clear F10 N10
      rw [hxy.1]
      k_steps
      (rename Fr _ _ _ _ => F9); (rename News _ _ _ _ => N9)
      rw [hxy.2] at N9
      exact hret _ c' _ _ _ _ oc _ _ _ (y_ge N0 hG F9 N9 (y_allc (.inl (.head _)) (y_allc (.inl (.tail _ (.head _))) y_all0))) (y_got N9 (.head _)) (y_new N0 hG N9 (.head _) (y_allc (YNe.to (by assumption)) (y_allc (YNe.to (by assumption)) y_all0))) (y_got N9 (.tail _ (.tail _ (.tail _ (.tail _ (.head _)))))) (y_new N0 hG N9 (.tail _ (.tail _ (.tail _ (.head _)))) (y_allc (YNe.to (by assumption)) (y_allc (YNe.to (by assumption)) y_all0))) (y_got N9 (.tail _ (.tail _ (.tail _ (.head _))))) (by assumption) (by assumption) (y_got N9 (.tail _ (.tail _ (.tail _ (.tail _ (.tail _ (.head _)))))))
end
section -- JSre
open PySem.Calls PySem.Spec
open PySem.Builtin.Re
theorem owner_rep : Manifest.owners.lookup (String.ofList ['n', 'r', 'e', 't', 't', 'a', 'P', '.', 'e', 'r'].reverse) = some Manifest.sig_re_Pattern := by kernel_rfl
theorem plainAttrs_rep : PlainAttrs "re.Pattern" :=
  ⟨⟨"object.__getattribute__", by rw [typeLookup_type, builtinLookup_eq_fast]; kernel_rfl, by decide +kernel⟩, by rw [typeLookup_type, builtinLookup_eq_fast]; kernel_rfl⟩
theorem slot_rep_search : Slot "re.Pattern" "search" "re.Pattern.search" :=
  .of (owner := "re.Pattern") (n := "search") (by rw [typeLookup_type, builtinLookup_eq_fast]; kernel_rfl) (by decide +kernel) (by decide +kernel) (by decide +kernel)
    (by first | exact .inl (by decide +kernel) | exact .inr (by decide +kernel)) (by rw [isSubtype_type]; kernel_rfl)
theorem type_rep_search : typeOf (.builtin "re.Pattern.search") = pure (.type "method_descriptor") := by show builtinType _ = _; rw [builtinType_eq_fast]; kernel_rfl
theorem entry_rep_search : entryFor table "re.Pattern.search" = some Builtin.«re.Pattern.search» := entryFor_of_tree (by kernel_rfl)
theorem args_rep_search (a b : Value) : argsOk "re.Pattern.search" ⟨[a, b], []⟩ := by
  unfold argsOk; rw [signature?_of (id := "re.Pattern.search") (n := ['h', 'c', 'r', 'a', 'e', 's']) (o := ['n', 'r', 'e', 't', 't', 'a', 'P', '.', 'e', 'r']) (by kernel_rfl) owner_rep]; kernel_rfl
noncomputable def runsTo : Nat → Sre.M → Option Sre.Outcome
  | 0, _ => none
  | k + 1, m => match (m.runFor reTurnSteps).outcome with
    | some o => some o
    | none => runsTo k (m.runFor reTurnSteps)
noncomputable def isFailed : Option Sre.Outcome → Bool | some .failed => true | _ => false
noncomputable def noHit (code : Array Nat) (x : Str) : Bool := isFailed (runsTo 100 (Sre.forSearch code x.cps 0 0 x.cps.size false))
section
variable {prog : Program} {w : World} {A : Around} {E : Value → Shared → Prop} {s : Shared}
theorem drive_failed {Q : Sre.M → Shared → Prop} : ∀ (k n : Nat) (m : Sre.M), k ≤ n → isFailed (runsTo k m) = true → (∀ m', m'.outcome = some .failed → Q m' s) → wpAny (model prog w) A (reDrive n m) Q E s
  | 0, _, _, _, h, _ => by cases h
  | k + 1, 0, _, hk, _, _ => by omega
  | k + 1, n + 1, m, hk, h, hQ => by
    unfold runsTo at h
    unfold reDrive
    (try dsimp only)
    cases e : (m.runFor reTurnSteps).outcome with
    | some o =>
      rw [e] at h
      simp only [Option.isSome_some, if_true]
      refine wpAny_pure (hQ _ ?_)
      rw [e]
      cases o with
      | failed => rfl
      | _ => cases h
    | none =>
      rw [e] at h
      simp only [Option.isSome_none, Bool.false_eq_true, if_false]
      exact wpAny_bind (wpAny_rule (drive_failed k n _ (by omega) h hQ))
theorem rules_pass {Q : Unit → Shared → Prop} (p : Nat → Bool) (f : Nat → String) (h : Q () s) : ∀ l : List Nat, wpAny (model prog w) A (forIn l PUnit.unit fun i r => if p i = true then do rule (f i); pure (ForInStep.yield PUnit.unit) else pure (ForInStep.yield PUnit.unit)) (fun _ => Q ()) E s
  | [] => wpAny_pure h
  | i :: l => by
    rw [List.forIn_cons]
    refine wpAny_bind ?_
    split
    · exact wpAny_bind (wpAny_rule (wpAny_pure (rules_pass p f h l)))
    · exact wpAny_pure (rules_pass p f h l)
theorem run_failed {m : Sre.M} {Q : Option Sre.M → Shared → Prop} (h : isFailed (runsTo 100 m) = true) (hQ : Q none s) : wpAny (model prog w) A (reRunToEnd m) Q E s := by
  unfold reRunToEnd
  refine wpAny_bind (drive_failed 100 _ m (by decide) h fun m' e => ?_)
  refine wpAny_bind (wpAny_mono (rules_pass (Q := fun _ s' => s' = s) _ _ rfl _) (fun _ s' e' => ?_) fun _ _ x => x)
  subst e'
  rw [e]
  exact wpAny_pure hQ
theorem named_is (v : Value) : reNamed "re.Pattern.search" "search" ["string", "pos", "endpos"] 1 [v] [] = pure [some v, none, none] := rfl
theorem call_search {pat ct : Addr} {od od2 : Option Addr} {fs cvs : Array Value} {sl sl2 : Array (Option Value)} {cc : Value} {nc : Nat} {x : Str} {t : Tok} {code : Array Nat} {Q : Value → Shared → Prop}
    (hp : s.heap.get? pat = some ⟨.type "re.Pattern", od, .fields fs, sl⟩) (hc : s.heap.get? ct = some ⟨cc, od2, .seq cvs nc, sl2⟩) (h5 : fs.getD 5 .none = .ref ct) (h6 : reRawNat (fs.getD 6 .none) = 0) (h2 : reRawNat (fs.getD 2 .none) = 0)
    (hcode : (cvs.map reRawOf).map (·.toNat) = code) (hx : noHit code x = true) (hsz : x.cps.size ≤ 1000) (h : Q .none s) :
    wpAny (model prog w) A (call (.builtin "re.Pattern.search") [.ref pat, .str x t]) Q E s := by
  refine wpAny_call_entry slot_rep_search ⟨_, hp, rfl⟩ entry_rep_search ?_ (args_rep_search _ _)
  show wpAny _ _ (reTarget "re.Pattern.search" "search" ⟨[.ref pat, .str x t], []⟩ >>= fun t => reAnswer t (Sre.forSearch t.code t.text t.groups t.pos t.lim false)) _ _ s
  unfold reTarget
  dsimp only
  rw [named_is]
  simp only [pure_bind]
  refine wpAny_bind ?_
  refine wpAny_bind (wpAny_fieldsOf hp rfl ?_)
  have ht : reTextOf (Value.str x t) = pure (x.cps, 0) := rfl
  have hnc : reNoCollectionInside (Value.str x t) 0 = pure () := rfl
  rw [ht]
  simp only [pure_bind, h6, h5, h2]
  rw [if_neg (by decide), if_neg (by decide), hnc]
  simp only [pure_bind]
  unfold reRawItems
  refine wpAny_bind (wpAny_bind (wpAny_seqItems hc rfl (wpAny_pure (wpAny_pure ?_))))
  dsimp only [Option.getD]
  rw [hcode]
  have e1 : min (Int.toNat 0) x.cps.size = 0 := by simp
  have e2 : min ((2 : Int) ^ 63 - 1).toNat x.cps.size = x.cps.size := Nat.min_eq_right (Nat.le_trans hsz (by decide))
  rw [e1, e2]
  unfold reAnswer
  exact wpAny_bind (run_failed hx (wpAny_pure ⟨_, rfl, h⟩))
theorem search_K {K : Frag} {h₀ : Heap} {L pat ct : Addr} {m : Str → Option Value} {od od2 : Option Addr} {fs cvs : Array Value} {sl sl2 : Array (Option Value)} {cc : Value} {nc : Nat} {x : Str} {t : Tok} {code : Array Nat} {Q : Value → Shared → Prop}
    (F : Fr h₀ L s.heap m) (X : K.In h₀) (hp : K.lookup pat = some ⟨.type "re.Pattern", od, .fields fs, sl⟩) (h5 : fs.getD 5 .none = .ref ct) (hc : K.lookup ct = some ⟨cc, od2, .seq cvs nc, sl2⟩) (h6 : reRawNat (fs.getD 6 .none) = 0) (h2 : reRawNat (fs.getD 2 .none) = 0)
    (hcode : (cvs.map reRawOf).map (·.toNat) = code) (hx : noHit code x = true) (hsz : x.cps.size ≤ 1000) (h : Q .none s) :
    wpAny (model prog w) A (call (.builtin "re.Pattern.search") [.ref pat, .str x t]) Q E s :=
  call_search (F.keep _ _ (X _ _ hp)) (F.keep _ _ (X _ _ hc)) h5 h6 h2 hcode hx hsz h
theorem meth_search {K : Frag} {h₀ : Heap} {L pat : Addr} {m : Str → Option Value} {o : Obj} {pl : Sem Bool} {Q : Value × List Value → Shared → Prop} (F : Fr h₀ L s.heap m) (X : K.In h₀) (hp : K.lookup pat = some o) (h1 : o.cls = .type "re.Pattern") (h2 : o.dict = none)
    (h : Q (.builtin "re.Pattern.search", [.ref pat]) s) : wpAny (model prog w) A (getMethod (.ref pat) "search" pl) Q E s :=
  getMethod_builtin ⟨_, F.keep _ _ (X _ _ hp), h1⟩ plainAttrs_rep slot_rep_search type_rep_search (fun a e => by cases e; exact ⟨_, F.keep _ _ (X _ _ hp), h2⟩) h
end
noncomputable def codeN : Array Nat := #[14, 10, 4, 1, 1, 22, 0, 31, 16, 127, 0, 13, 7, 22, 0, 31, 16, 127, 0, 1]
noncomputable def codeV : Array Nat := #[14, 14, 4, 1, 1, 9, 4294966783, 0, 0, 2147483648, 0, 0, 0, 0, 0, 13, 11, 9, 4294966783, 0, 0, 2147483648, 0, 0, 0, 0, 0, 1]
end
section -- JConv
theorem zsJConv : True := by
  w_top off
  k_with_none
  k_with "lt" => (skip)
  k_with "execs cons" => (refine y_consS ?_; intro sk9 qk9)
  k_with "getMethod ref" => (k_here; (with_reducible show wpAny _ _ (getMethod (Value.ref _) (PySem.Str.ofString "search") _) _ _ _); k_dflt (refine' meth_search ?F ?X ?hp ?h1 ?h2 ?_; (case F | X => k_asm); (case hp => k_is); (case h1 | h2 => exact rfl); k_whole))
  k_with "call builtin:re.Pattern.search" => (k_here; k_dflt (refine' search_K ?F ?X ?hp ?h5 ?hc ?h6 ?h2 ?hcode ?hx ?hsz ?_; (case F | X => k_asm); (case hp => k_is); (case h5 => exact rfl); (case hc => k_is); (case h6 | h2 => exact rfl); (case hx => assumption); (case hcode => kernel_rfl); (case hsz => assumption); k_whole))
  trivial
theorem convN_spec
  (self : Value) (x : Str) (t : Tok)
  (B : Below A₀ base outer h₀) (F : Fr h₀ L s.heap m) (X : (hd.heap_1 w.params).In h₀) (N : News h₀ L s.heap ([])) (T : Top p loose mean mg mb h₀) (hkf : cs.kind = .function)
  (hdp : dp + 3 < recursionLimit) (hun : un + 24 < cLine)
  (hx : noHit codeN x = true) (hsz : x.cps.size ≤ 1000)
  (hret : ∀ (tk' : Nat) h', Ge [] s.heap h' → Q (.str x t) { s with heap := h', toks := tk' }) :
  wpAny (model PySem.Challenge.rw_yj0031_01.row.prog w) (ktrTop dp un gd cn cs L a ccd cl outer) (call (.ref 287) [self, .str x t] [("name", .bool true)]) Q E s := by
  revert X; k_fill; intro X
  refine wpAny_call ?_
  refine' y_code ?k1 ?k2 ?k3 ?k4 ?k5 ?kA ?kF ?kK ?k6 ?k7 ?k8 ?k9 ?kB ?_ ?c2 ?c3 ?c4 ?c5
  (case kA | kF => exact rfl); (case kK | k1 | k2 | k3 | k4 | k5 => assumption); (case k6 | k7 => k_is); (case k8 => ktr_room); (case k9 => first | exact BindsTo.of_eq rfl | exact binds_K (by k_in) rfl (by k_is) rfl rfl rfl); (case c5 => decide); (case kB => exact locs rfl); (case c2 | c3 | c4 => exact rfl); have N0 := YOld.mk N; clear B F X N T; intro g L1 h1 hG F1 N1 B1 X1 T1 l1; (try dsimp only); (try k_lt l1); (try k_fold)
  k_steps
  (rename Fr _ _ _ _ => F9); (rename News _ _ _ _ => N9)
  exact hret _ _ (y_ge N0 hG F9 N9 y_all0)
theorem convV_spec
  (self : Value) (x : Str) (t : Tok)
  (B : Below A₀ base outer h₀) (F : Fr h₀ L s.heap m) (X : (hd.heap_1 w.params).In h₀) (N : News h₀ L s.heap ([])) (T : Top p loose mean mg mb h₀) (hkf : cs.kind = .function)
  (hdp : dp + 3 < recursionLimit) (hun : un + 24 < cLine)
  (hx : noHit codeV x = true) (hsz : x.cps.size ≤ 1000)
  (hret : ∀ (tk' : Nat) h', Ge [] s.heap h' → Q (.str x t) { s with heap := h', toks := tk' }) :
  wpAny (model PySem.Challenge.rw_yj0031_01.row.prog w) (ktrTop dp un gd cn cs L a ccd cl outer) (call (.ref 287) [self, .str x t] [("name", .bool false)]) Q E s := by
  revert X; k_fill; intro X
  refine wpAny_call ?_
  refine' y_code ?k1 ?k2 ?k3 ?k4 ?k5 ?kA ?kF ?kK ?k6 ?k7 ?k8 ?k9 ?kB ?_ ?c2 ?c3 ?c4 ?c5
  (case kA | kF => exact rfl); (case kK | k1 | k2 | k3 | k4 | k5 => assumption); (case k6 | k7 => k_is); (case k8 => ktr_room); (case k9 => first | exact BindsTo.of_eq rfl | exact binds_K (by k_in) rfl (by k_is) rfl rfl rfl); (case c5 => decide); (case kB => exact locs rfl); (case c2 | c3 | c4 => exact rfl); have N0 := YOld.mk N; clear B F X N T; intro g L1 h1 hG F1 N1 B1 X1 T1 l1; (try dsimp only); (try k_lt l1); (try k_fold)
  k_steps
  (rename Fr _ _ _ _ => F9); (rename News _ _ _ _ => N9)
  exact hret _ _ (y_ge N0 hG F9 N9 y_all0)
end
section -- JHin
theorem zsJHin : True := by
  w_top off
  k_with_none
  k_with "omega" => (lia)
  k_with "lt" => (skip)
  k_with "ne" => ((refine neN ?_; (try dsimp only); first | exact YNe.to (by assumption) | exact YNe.to' (by assumption) | exact Nat.succ_ne_self _ | exact (Nat.succ_ne_self _).symm))
  k_with "all" => (first | assumption | exact y_all0 | exact allNe_mem (by assumption) | (refine' y_allc ?a ?b; (case a => k_ne); (case b => k_all)))
  k_with "execs cons" => (refine y_consS ?_; intro sk9 qk9)
  k_with "call ref" => (k_here; k_dflt (refine' convV_L ?B ?F ?X ?N ?T ?hkf ?hdp ?hun ?hx ?hsz ?_; (case B | F | X | N => k_asm); (case T => assumption); (case hkf => exact rfl); (case hdp => ktr_room); (case hun => ktr_units); (case hx => first | assumption | decide +kernel); (case hsz => first | assumption | decide); k_whole; intro tk9' h9' F9' N9'))
  k_with "call ref" => (k_here; k_dflt (refine' convN_L ?B ?F ?X ?N ?T ?hkf ?hdp ?hun ?hx ?hsz ?_; (case B | F | X | N => k_asm); (case T => assumption); (case hkf => exact rfl); (case hdp => ktr_room); (case hun => ktr_units); (case hx => first | assumption | decide +kernel); (case hsz => first | assumption | decide); k_whole; intro tk9' h9' F9' N9'))
  trivial
variable {w p loose mean mg mb dp un gd cn cs a ccd cl outer A₀ base h₀ L m s Q E}
theorem convN_L
  {news : List (Addr × Obj)} {self : Value} {x : Str} {t : Tok}
    (B : Below A₀ base outer h₀) (F : Fr h₀ L s.heap m) (X : (hd.heap_1 w.params).In h₀) (N : News h₀ L s.heap news) (T : Top p loose mean mg mb h₀) (hkf : cs.kind = .function) (hdp : dp + 3 < recursionLimit) (hun : un + 24 < cLine)
    (hx : noHit codeN x = true) (hsz : x.cps.size ≤ 1000) (hret : ∀ (tk' : Nat) h', Fr h₀ L h' m → News h₀ L h' news → Q (.str x t) { s with heap := h', toks := tk' }) :
    wpAny (model PySem.Challenge.rw_yj0031_01.row.prog w) (ktrTop dp un gd cn cs L a ccd cl outer) (call (.ref 287) [self, .str x t] [("name", .bool true)]) Q E s :=
  convN_spec w p loose mean mg mb dp un gd cn cs a ccd cl outer A₀ base h₀ L m s Q E self x t B F X y_all0 T hkf hdp hun hx hsz fun tk' h' G => let ⟨F', N'⟩ := y_call0 F N G; hret tk' h' F' N'
theorem convV_L
  {news : List (Addr × Obj)} {self : Value} {x : Str} {t : Tok}
    (B : Below A₀ base outer h₀) (F : Fr h₀ L s.heap m) (X : (hd.heap_1 w.params).In h₀) (N : News h₀ L s.heap news) (T : Top p loose mean mg mb h₀) (hkf : cs.kind = .function) (hdp : dp + 3 < recursionLimit) (hun : un + 24 < cLine)
    (hx : noHit codeV x = true) (hsz : x.cps.size ≤ 1000) (hret : ∀ (tk' : Nat) h', Fr h₀ L h' m → News h₀ L h' news → Q (.str x t) { s with heap := h', toks := tk' }) :
    wpAny (model PySem.Challenge.rw_yj0031_01.row.prog w) (ktrTop dp un gd cn cs L a ccd cl outer) (call (.ref 287) [self, .str x t] [("name", .bool false)]) Q E s :=
  convV_spec w p loose mean mg mb dp un gd cn cs a ccd cl outer A₀ base h₀ L m s Q E self x t B F X y_all0 T hkf hdp hun hx hsz fun tk' h' G => let ⟨F', N'⟩ := y_call0 F N G; hret tk' h' F' N'
variable (w p loose mean mg mb dp un gd cn cs a ccd cl outer A₀ base h₀ L m s Q E)
theorem hinit_code
  (tb dx pl t0 : Addr) (pn : Nat) (u v : Tok)
  (B : Below A₀ base outer h₀) (F : Fr h₀ L s.heap m) (X : (hd.heap_1 w.params).In h₀) (N : News h₀ L s.heap ([(tb, instObj 386 dx), (dx, dictOf [] 0), (pl, listOf #[.ref t0] pn), (t0, tupObj #[.str "Abcd" u, .str "all" v])])) (T : Top p loose mean mg mb h₀) (hkf : cs.kind = .function)
  (hdp : dp + 6 < recursionLimit) (hun : un + 60 < cLine)
  (n1 : YNe tb dx) (n2 : YNe pl dx) (n3 : YNe t0 dx)
  (hret : ∀ (hi : Int) (k1 : Tok) h' tk', Ge [dx] s.heap h' → h'.get? dx = some (dictOf [⟨hi, .str "_headers" k1, .ref pl⟩] 1) → Q .none { s with heap := h', toks := tk' }) :
  codeAny (model PySem.Challenge.rw_yj0031_01.row.prog w) (ktrTop dp un gd cn cs L a ccd cl outer) (.call (.ref 280) ⟨[.ref tb, .ref pl], []⟩) (fun r s' => match r with | .ok (.ret v) => Q v s' | .ok _ => False | .error e => E e s') s := by
  revert X; k_fill; intro X
  refine' y_codeT (rb := [(("headers" : Str), (.ref pl : Value)), (("self" : Str), (.ref tb : Value))]) ?k1 ?k2 ?k3 ?k4 ?k5 ?kA ?kF ?kK ?k6 ?k7 ?k8 ?k9 ?kR ?kB ?_ ?c2 ?c3 ?c4 ?c5
  (case kA | kF => exact rfl); (case kK | k1 | k2 | k3 | k4 | k5 => assumption); (case k6 | k7 => k_is); (case k8 => ktr_room); (case k9 => first | exact BindsTo.of_eq rfl | exact binds_K (by k_in) rfl (by k_is) rfl rfl rfl); (case kR => exact rfl); (case c5 => decide); (case kB => exact locs rfl); (case c2 | c3 | c4 => exact rfl); have N0 := YOld.mk N; clear B F X N T; intro g L1 h1 tk1 hG F1 N1 B1 X1 T1 l1; (try dsimp only); (try k_lt l1); (try k_fold)
  k_steps
  (rename Fr _ _ _ _ => F9); (rename News _ _ _ _ => N9)
  exact hret _ _ _ _ (y_ge N0 hG F9 N9 (y_allc (.inr (.head _)) (y_allc (.inl (.head _)) (y_allc (.inr (.tail _ (.tail _ (.head _)))) (y_allc (.inr (.tail _ (.tail _ (.tail _ (.head _))))) y_all0))))) (y_got N9 (.tail _ (.head _)))
theorem hd_makes (w : World) : makesIn (hd.heap_1 w.params) 386 = true := by kernel_rfl
theorem hd_finit (w : World) : findIn (hd.heap_1 w.params) (.ref 386) "__init__" = some (some (.ref 280)) := by kernel_rfl
theorem hd_tinit (w : World) : typeIn (hd.heap_1 w.params) (.ref 280) = some (.type "function") := by kernel_rfl
variable {w p loose mean mg mb dp un gd cn cs a ccd cl outer A₀ base h₀ L m s Q E}
theorem hdNew_L
  {news : List (Addr × Obj)} {pl t0 : Addr} {pn : Nat} {u v : Tok}
  (B : Below A₀ base outer h₀) (F : Fr h₀ L s.heap m) (X : (hd.heap_1 w.params).In h₀) (N : News h₀ L s.heap news) (T : Top p loose mean mg mb h₀) (hkf : cs.kind = .function) (hdp : dp + 7 < recursionLimit) (hun : un + 70 < cLine)
  (hm1 : (pl, listOf #[.ref t0] pn) ∈ news) (hm2 : (t0, tupObj #[.str "Abcd" u, .str "all" v]) ∈ news)
  (hret : ∀ (tb dx : Addr) (hi : Int) (k1 : Tok) h' tk', Fr h₀ L h' m → News h₀ L h' ((tb, instObj 386 dx) :: (dx, dictOf [⟨hi, .str "_headers" k1, .ref pl⟩] 1) :: news) →
    AllNe dx news → AllNe tb news → YNe dx tb → Q (.ref tb) { s with heap := h', toks := tk' }) :
  wpAny (model PySem.Challenge.rw_yj0031_01.row.prog w) (ktrTop dp un gd cn cs L a ccd cl outer) (call (.ref 386) [.ref pl]) Q E s := by
  refine wpAny_call (make_K F N (X.keeps F.keep) (hd_makes w) (hd_finit w) (hd_tinit w) ?_)
  intro x dx hh1 F1 N1 l1 l2
  rw [under_make1]
  have hne : @Ne Nat x dx := Nat.ne_of_gt l2
  have n2 : YNe pl dx := Nat.ne_of_lt (l1 _ hm1)
  have n3 : YNe t0 dx := Nat.ne_of_lt (l1 _ hm2)
  have c := hinit_code w p loose mean mg mb (dp + 1) (un + 1) gd cn cs a ccd cl outer A₀ base h₀ L m { s with heap := hh1 } (fun v s' => v = .none ∧ Q (.ref x) s') E x dx pl t0 pn u v B F1 X (News.cons' N1 (.head _) (News.cons' N1 (.tail _ (.head _)) (News.cons' N1 (.tail _ (.tail _ hm1)) (News.cons' N1 (.tail _ (.tail _ hm2)) y_all0)))) T hkf (by omega) (by omega) hne n2 n3 ?_
  · refine codeAny_mono c fun r s' z => ?_
    rcases r with e | (v | _ | _ | _) <;> exact z
  · intro hi k1 h' tk' G e1
    have F' : Fr h₀ L h' m := y_fr_ge F1 G fun b hb => by rw [List.mem_singleton.mp hb]; exact (N1 _ (.tail _ (.head _))).2
    have N' : News h₀ L h' news := fun q hq => by
      have n := N1 q (.tail _ (.tail _ hq))
      have k1 := l1 q hq
      refine ⟨G _ _ (fun hm => ?_) n.1, n.2⟩
      rw [List.mem_singleton.mp hm] at k1; exact Nat.lt_irrefl _ k1
    refine ⟨rfl, hret x dx hi k1 h' tk' F' (y_allc ⟨G _ _ (fun hm => hne (List.mem_singleton.mp hm)) (N1 _ (.head _)).1, (N1 _ (.head _)).2⟩ (y_allc ⟨e1, (N1 _ (.tail _ (.head _))).2⟩ N')) (allNe_lt l1) (allNe_of fun q hq => Nat.ne_of_lt (Nat.lt_trans (l1 q hq) l2)) (Nat.ne_of_lt l2)⟩
end
section -- JCodeK
open PySem.Calls PySem.Spec
theorem wp_peekH {α : Type} {K : Frag} {M : Model} {A : Around} {E : Value → Shared → Prop} {Q : α → Shared → Prop} {s : Shared} {o : Obj} (X : K.In s.heap) :
    ∀ (t : Sem α) (g : Addr → Sem α), peekA K ⟨M.prog, M.w.params⟩ t = some (o, g) → wpAny M A (g s.heap.objs.size) Q E { s with heap := s.heap.push o } → wpAny M A t Q E s := by
  intro t
  induction t with
  | rule _ k ih => intro g e q Γ p hΓ; exact ih () g e q Γ p hΓ
  | point _ k ih => intro g e q Γ p hΓ; exact ih () g e q Γ p hΓ
  | ask k ih => intro g e q Γ p hΓ; exact ih _ g e q Γ p hΓ
  | load a _ k ih =>
    intro g e q Γ p hΓ
    simp only [peekA] at e
    split at e
    · rename_i ob ho; exact ⟨ob, X _ _ ho, ih ob g e q Γ p hΓ⟩
    · cases e
  | alloc ob k _ =>
    intro g e q
    have e : some (ob, k) = some (o, g) := e
    obtain ⟨e1, e2⟩ := Prod.mk.inj (Option.some.inj e)
    subst e1
    subst e2
    show wpAny M A (alloc ob >>= k) Q E s
    exact wpAny_bind (wpAny_alloc q)
  | _ => intro g e; cases e
section
variable {prog : Program} {w : World} {A₀ A : Around} {s : Shared} {base h₀ : Heap} {outer : List Env} {L : Addr} {m mg mb : Str → Option Value} {env : Env} {news : List (Addr × Obj)} {K : Frag}
  {p : Program} {loose : List Str} {mean : ExcName → Option Value}
  {Q E : Value → Shared → Prop} {name qual nm : Str} {params : Arguments} {body : List Stmt} {scope : Scope} {dV kV doc pm cdv ct oc : Value} {an od : Option Addr} {osl : Array (Option Value)} {f : Addr} {args : Args} {front : List (Str × Value)} {g₁ : Addr → Sem (List (Str × Value))}
theorem y_codeK (B : Below A₀ base outer h₀) (F : Fr h₀ L s.heap m) (X : K.In h₀) (N : News h₀ L s.heap news) (T : Top p loose mean mg mb h₀) (hA : A.frames = some (env :: outer)) (hf : env.frame = some L) (hke : env.scope.kind = .function)
    (ho : K.lookup f = some ⟨oc, od, .func (fnOf name qual params body scope dV kV doc pm an cdv ct), osl⟩) (hcd : codeIn K cdv qual = true) (hroom : A.depth < recursionLimit)
    (hp : peekA K ⟨prog, w.params⟩ (bindArgs (fnOf name qual params body scope dV kV doc pm an cdv ct) args) = some (dictOf [] 0, g₁)) (hk₁ : ∀ D, g₁ D = pure (front ++ [(nm, Value.ref D)]))
    (hloc : ∀ D, ∀ y ∈ front ++ [(nm, Value.ref D)], scope.names.lookup y.1 = some .local)
    (h : ∀ D g L' h₁ tk, (∀ p ∈ news, p.1 < D) → (D == sysModules) = false → HG (news.map (·.1)) s.heap g → Fr g L' h₁ (fun y => (front ++ [(nm, Value.ref D)]).reverse.lookup y) → News g L' h₁ ((D, dictOf [] 0) :: news) → Below A base (env :: outer) g → K.In g → Top p loose mean mg mb g → (∀ p ∈ news, p.1 < L') → 
      wpAny (model prog w) (A.deeper (envOf qual scope L' f cdv)) (execs body (envOf qual scope L' f cdv))
        (fun fl s' => YEnd Q (match fl with | .ret v => v | _ => .none) s') (fun _ _ => False) { s with heap := h₁, toks := tk })
    (hco : scope.isCoroutine = false) (hgen : scope.isGenerator = false) (hk : scope.kind = .function)
    (hcell : ∀ x ∈ scope.names, x.2 ≠ .cell) : codeAny (model prog w) A (.call (.ref f) args) (fun r s' => match r with | .ok (.ret v) => Q v s' | .ok _ => False | .error e => E e s') s := by
  refine codeAny_call_function (fd := fnOf name qual params body scope dV kV doc pm an cdv ct) hroom ((X.keeps F.keep) _ _ ho) rfl hco hgen rfl (codeRec_of (X.keeps F.keep) hcd) ?_
  refine wp_peekH (X.keeps F.keep) _ g₁ hp ?_
  rw [hk₁]
  refine wpAny_pure ?_
  have F1 := F.push (dictOf [] 0)
  have N1 : News h₀ L (s.heap.push (dictOf [] 0)) ((s.heap.objs.size, dictOf [] 0) :: news) := News.push F N _ rfl
  have hup : ∀ b o, s.heap.get? b = some o → (s.heap.push (dictOf [] 0)).get? b = some o := fun b o e => Heap.get?_push_of_some _ e
  obtain ⟨_, BG, st, _⟩ := groundX (s := { s with heap := s.heap.push (dictOf [] 0) }) (R := fun _ _ => True) B F1 N1 hA hf hke
  refine wpAny_newFunctionEnv hcell (hloc _) (fun h₁ hns hsb => ⟨(T.nolimit.keeps F1.keep).fresh _ hsb, codeAny_func ?_⟩) hk
  have hk₁ : ∀ b o, (s.heap.push (dictOf [] 0)).get? b = some o → h₁.get? b = some o := fun b o e => hsb.extBut b o (Nat.ne_of_lt (Heap.lt_size e)) (Heap.get?_push_of_some _ e)
  have hlt : ∀ p ∈ news, p.1 < s.heap.objs.size := fun p hp => Heap.lt_size (N p hp).1
  refine wpAny_mono (h s.heap.objs.size _ (s.heap.push (dictOf [] 0)).objs.size h₁ _ hlt (F.notModules (modules_low T.nolimit)) (fun b o hb e => ?_) ⟨hns, fun b o e => hk₁ b o (of_hideAll _ e), Nat.le_of_eq (hideAll_size _ _)⟩
    (fun p hp => ⟨hk₁ _ _ (N1 p hp).1, Nat.ne_of_lt (Heap.lt_size (N1 p hp).1), hideAll_none _ (List.mem_map_of_mem hp)⟩) BG (X.keeps st) (T.keeps st) (fun p hp => Nat.lt_trans (hlt p hp) (by rw [Heap.size_push]; exact Nat.lt_succ_self _))) (fun fl s' hl => hl) fun _ _ y => y.elim
  refine hideAll_get _ (hup b o e) (fun hm => ?_)
  rcases List.mem_cons.mp hm with rfl | hm
  · exact Nat.lt_irrefl _ (Heap.lt_size e)
  · exact hb hm
end
end
section -- JHadd
theorem zsJHadd : True := by
  w_top off
  k_with "exec For Tuple Call cons nil" => (k_here; (with_reducible show wpAny _ _ (exec (Stmt.For _ _ _ _ _) _) _ _ _); refine YStop.of ?_)
  k_with "call builtin:str.join" => (k_here; k_dflt (refine' y_join1 ?N ?hm ?hz ?_; (case N => k_asm); (case hm => k_mem); (case hz => assumption); k_whole; intro t9' tk9'))
  k_with "call builtin:list.append" => (k_here; k_dflt (refine' y_appendB ?F ?N ?U ?hs ?_; (case F | N => k_asm); (case U => k_updF); (case hs => first | assumption | omega | (simp; omega)); k_whole; intro h9' F9' N9'; (try dsimp only at N9')))
  trivial
theorem y_join1 {prog : Program} {w : World} {A : Around} {E : Value → Shared → Prop} {s : Shared} {g : Heap} {L l : Addr} {x : Str} {u t : Tok} {n : Nat} {news : List (Addr × Obj)} {Q : Value → Shared → Prop} (N : News g L s.heap news) (hm : (l, listOf (#[].push (.str x u)) n) ∈ news) (hz : x.cps.size ≤ 1000)
    (h : ∀ t' tk, Q (.str x t') { s with toks := tk }) : wpAny (model prog w) A (call (.builtin "str.join") [.str "; " t, .ref l]) Q E s :=
  join_list (ys := [x]) ⟨_, (N _ hm).1, rfl, n, rfl⟩ (.cons _ _ .nil) (by
    show ([x].map (·.length)).sum + [x].length * ("; " : Str).length ≤ 16777216
    have : ("; " : Str).length = 2 := by decide
    rw [this]
    show x.cps.size + 0 + 1 * 2 ≤ 16777216
    omega) (fun t' k => h t' k)
inductive HdrAre (tl : List (Addr × Obj)) : List Value → List (Str × Str) → Prop
  | nil : HdrAre tl [] []
  | cons {a k u v w r hs} : (a, tupObj #[.str k u, .str v w]) ∈ tl → HdrAre tl r hs → HdrAre tl (.ref a :: r) ((k, v) :: hs)
theorem HdrAre.mono {tl tl' : List (Addr × Obj)} (h : ∀ p ∈ tl, p ∈ tl') {r : List Value} {hs : List (Str × Str)} (k : HdrAre tl r hs) : HdrAre tl' r hs := by
  induction k with
  | nil => exact .nil
  | cons a _ ih => exact .cons (h _ a) ih
theorem HdrAre.snoc {tl : List (Addr × Obj)} {a : Addr} {k v : Str} {u w : Tok} (hm : (a, tupObj #[.str k u, .str v w]) ∈ tl) {r : List Value} {hs : List (Str × Str)} (q : HdrAre tl r hs) : HdrAre tl (r ++ [.ref a]) (hs ++ [(k, v)]) := by
  induction q with
  | nil => exact .cons hm .nil
  | cons a _ ih => exact .cons a ih
theorem HdrAre.len {tl : List (Addr × Obj)} {r : List Value} {hs : List (Str × Str)} (q : HdrAre tl r hs) : r.length = hs.length := by
  induction q with
  | nil => rfl
  | cons _ _ ih => exact congrArg (· + 1) ih
theorem HdrAre.at {tl : List (Addr × Obj)} {r : List Value} {hs : List (Str × Str)} (i : Nat) (v : Value) (q : HdrAre tl r hs) (h : r[i]? = some v) : ∃ a k u x w, v = .ref a ∧ (a, tupObj #[.str k u, .str x w]) ∈ tl ∧ hs[i]? = some (k, x) := by
  induction q generalizing i with
  | nil => cases h
  | cons hm _ ih => cases i with
    | zero => exact ⟨_, _, _, _, _, (Option.some.inj h).symm, hm, rfl⟩
    | succ i => exact ih i h
theorem addh_spec
  (tb dx pl : Addr) (hi : Int) (k1 : Tok) (pvs : Array Value) (pn : Nat) (tl : List (Addr × Obj)) (hs : List (Str × Str)) (nm tx : Str) (t1 t2 : Tok)
  (B : Below A₀ base outer h₀) (F : Fr h₀ L s.heap m) (X : (hd.heap_1 w.params).In h₀) (N : News h₀ L s.heap ((tb, instObj 386 dx) :: (dx, dictOf [⟨hi, .str "_headers" k1, .ref pl⟩] 1) :: (pl, listOf pvs pn) :: tl)) (T : Top p loose mean mg mb h₀) (hkf : cs.kind = .function)
  (hdp : dp + 6 < recursionLimit) (hun : un + 60 < cLine)
  (n1 : YNe tb dx) (n2 : YNe tb pl) (n3 : YNe dx pl) (htl : ∀ p ∈ tl, @Ne Nat p.1 pl) (hH : HdrAre tl pvs.toList hs) (hhs : hs.length ≤ 100) (hN : noHit codeN nm = true) (hV : noHit codeV tx = true) (z1 : nm.cps.size ≤ 1000) (z2 : tx.cps.size ≤ 1000)
  (hret : ∀ (t : Addr) (u v : Tok) (tk' pn' : Nat) h', Ge [pl] s.heap h' → h'.get? pl = some (listOf (pvs.push (.ref t)) pn') → h'.get? t = some (tupObj #[.str nm u, .str tx v]) → s.heap.get? t = none → Q .none { s with heap := h', toks := tk' }) :
  wpAny (model PySem.Challenge.rw_yj0031_01.row.prog w) (ktrTop dp un gd cn cs L a ccd cl outer) (call (.ref 383) [.ref tb, .str nm t1, .str tx t2]) Q E s := by
  revert X; k_fill; intro X
  refine wpAny_call ?_
  refine' y_codeK ?k1 ?k2 ?k3 ?k4 ?k5 ?kA ?kF ?kK ?k6 ?k7 ?k8 ?kP ?kk ?kB ?_ ?c2 ?c3 ?c4 ?c5
  (case kA | kF => exact rfl); (case kK | k1 | k2 | k3 | k4 | k5 => assumption); (case k6 | k7 => k_is); (case k8 => ktr_room); (case kP => exact rfl); (case kk => exact fun _ => rfl); (case c5 => decide); (case kB => exact fun _ => locs rfl); (case c2 | c3 | c4 => exact rfl); have N0 := YOld.mk N; clear B F X N T; intro D1 g L1 h1 tk1 lD low hG F1 N1 B1 X1 T1 l1; (try dsimp only); (try k_lt lD); (try k_lt l1); (try k_fold)
  have hz : pvs.size = hs.length := by rw [← Array.length_toList]; exact hH.len
  replace F1 : Fr g L1 h1 (fun y => List.lookup y [("_params", Value.ref D1), ("_value", .str tx t2), ("_name", .str nm t1), ("self", .ref tb)]) := F1
  have hd0 : (dictOf [] 0).IsDictOf (PySem.strKind PySem.Challenge.rw_yj0031_01.row.prog w) [] := kp_isDict (ex := []) 0 0 List.nodup_nil
  k_steps
  (rename Fr _ _ _ _ => F5); (rename News _ _ _ _ => N5)
  refine YStop.to ?_
  with_unfolding_all refine' For_turns F5 ?_
  k_whole
  with_unfolding_all ((refine MethodCall_ ?_); (refine ld F5 (by rfl) ?_); (refine kdl_method (knd := PySem.strKind _ _) PySem.F.slot_dict_items PySem.F.type_dict_items N5 (.tail _ (.head _)) hd0 ?_); (refine callWith_method0 ?_); (refine kta_callItems (knd := PySem.strKind _ _) F5 N5 (.tail _ (.head _)) hd0 low ?_); intro h7 hv7 F7 N7; (refine kta_items (knd := PySem.strKind _ _) (enc := PyData.str) (xs := []) (by rfl) F7 N7 hv7 (.tail _ (.head _)) hd0 (fun _ _ h => Value.isStrOf_shape h) (by rfl) ?_))
  intro i7 l7
  clear F5 N5 F7 N7 l7
  intro h8 tk8 F8 N8
  (try dsimp only)
  k_steps
  (rename Fr _ _ _ _ => F9); (rename News _ _ _ _ => N9)
  exact hret _ _ _ _ _ _ (y_ge N0 hG F9 N9 (y_allc (.inr (by k_mem)) (y_allc (.inr (by k_mem)) (y_allc (.inl (.head _)) (fun p hp => .inr (.tail _ (.tail _ (.tail _ (.tail _ (.tail _ (.tail _ hp)))))))))) ) (y_got N9 (by k_mem)) (y_got N9 (.head _)) (y_new N0 hG N9 (.head _) (y_allc (YNe.to (by assumption)) (y_allc (YNe.to (by assumption)) (y_allc (YNe.to (by assumption)) (allNe_mem (by assumption))))))
end
section -- JTurn
section
variable {prog : Program} {w : World} {A : Around} {E : Value → Shared → Prop} {s : Shared} {I : Addr} {fp wr : List Addr} {n : Nat} {P : Nat → Value → Prop} {St : Nat → Heap → Prop} {elts : List PySem.Expr} {x1 : Nat} {tp : Pos} {iter : PySem.Expr} {body : List Stmt} {pos : Pos} {env : Env} {Q : Flow → Shared → Prop} {h₀ : Heap} {m : Str → Option Value} {news : List (Addr × Obj)} {l : Addr} {its : Array Value} {pn : Nat}
theorem turns_list (W : Walks prog w A I fp wr n P St) (hT : ∀ k v h, P k v → St (k + 1) h → ∃ l i T, v = .ref T ∧ h.IsListIter I l i) :
    KTurns prog w A (.Tuple elts x1 tp) I fp wr n (fun k v _ => P k v) (fun k v h => P k v ∧ St (k + 1) h) St :=
  ⟨W.sub, W.frame, fun i s Q E hi hs hq => W.item i s Q E hi hs fun v h' tk hp hst hk => hq v h' tk ⟨hp, hst⟩ hk,
   fun i v s Q E hmd hq => by
    obtain ⟨l, j, T, rfl, hI⟩ := hT _ _ _ hmd.1 hmd.2
    exact wpAny_letOwnedTupleGo_listiter hI (hq s.heap hmd.1 hmd.2 fun _ _ _ h => h),
   W.done⟩
theorem y_turns (hh : A.handled = none) (F : Fr h₀ env.locals s.heap m) (N : News h₀ env.locals s.heap news) (hm : (l, listOf its pn) ∈ news) (hT : ∀ (i : Nat) v, its[i]? = some v → ∃ T, v = .ref T)
    (J : Nat → (Str → Option Value) → Prop) (J0 : J 0 m)
    (step : ∀ i v m₁ h₁ tk₁ I o, its[i]? = some v → J i m₁ → Fr h₀ env.locals h₁ m₁ → News h₀ env.locals h₁ ((I, o) :: news) → (∀ p ∈ news, @Ne Nat p.1 I) →
      wpAny (model prog w) A (assign (.Tuple elts x1 tp) env v) (fun _ s₃ => wpAny (model prog w) A (execs body env) (fun f s' => match f with
        | .ret v => Q (.ret v) s'
        | .brk => Q .next s'
        | _ => YStop (∃ h' tk m', s' = { s with heap := h', toks := tk } ∧ Fr h₀ env.locals h' m' ∧ News h₀ env.locals h' ((I, o) :: news) ∧ J (i + 1) m')) E s₃) E { s with heap := h₁, toks := tk₁ })
    (done : ∀ h' tk m', Fr h₀ env.locals h' m' → News h₀ env.locals h' news → J its.size m' → Q .next { s with heap := h', toks := tk }) :
    wpAny (model prog w) A (pyIter (.ref l)) (fun it s₂ => TurnsAt prog w A h₀ env (.Tuple elts x1 tp) body Q E it s₂) E s := by
  have hl := (N _ hm)
  have hil : s.heap.IsList l its := ⟨_, hl.1, rfl, _, rfl⟩
  refine wpAny_pyIter_list hil ?_
  have e0 : s.heap.get? s.heap.objs.size = none := Heap.get?_none_of_le (Nat.le_refl _)
  have hne : l ≠ s.heap.objs.size := fun q => by rw [q, e0] at hl; cases hl.1
  have hap : ∀ p ∈ news, @Ne Nat p.1 s.heap.objs.size := fun p hp q => by have := (N p hp).1; rw [q, e0] at this; cases this
  have hI0 : h₀.get? s.heap.objs.size = none := by
    cases e3 : h₀.get? s.heap.objs.size with
    | none => rfl
    | some o3 => rw [F.keep _ _ e3] at e0; cases e0
  have hIL : s.heap.objs.size ≠ env.locals := fun q => by
    obtain ⟨o2, _, _, e2, _⟩ := F.ns
    rw [q] at e0; rw [e0] at e2; cases e2
  have hpush : ∀ b o, s.heap.get? b = some o → (s.heap.push { cls := Value.type "list_iterator", data := Data.fields #[Value.ref l, Value.int 0 0] }).get? b = some o := fun b o h => Heap.get?_push_of_some _ h
  have F2 : Fr h₀ env.locals (s.heap.push { cls := Value.type "list_iterator", data := Data.fields #[Value.ref l, Value.int 0 0] }) m := ⟨F.ns.at fun o e => hpush _ o e, fun b o e => hpush b o (F.keep b o e), F.above⟩
  have N2 : News h₀ env.locals (s.heap.push { cls := Value.type "list_iterator", data := Data.fields #[Value.ref l, Value.int 0 0] }) news := fun p hp => ⟨hpush _ _ (N p hp).1, (N p hp).2⟩
  have W := Walks.list (prog := prog) (w := w) hh s.heap.objs.size l hne its
  refine ⟨_, [s.heap.objs.size, l], [s.heap.objs.size], its.size, _, _, _, m, news, fun i m' news' => J i m' ∧ news' = news, rfl, turns_list W ?_, ?_, ?_, ?_, ⟨⟨_, Heap.get?_push_size _ rfl, rfl, rfl⟩, ⟨_, hpush _ _ hl.1, rfl, _, rfl⟩⟩, F2, N2, ⟨J0, rfl⟩, ?_, ?_⟩
  · intro k v h hv hst
    obtain ⟨T, rfl⟩ := hT k v hv
    exact ⟨_, _, T, rfl, hst.1⟩
  · intro hmem
    rcases List.mem_cons.mp hmem with h | h
    · exact hIL h.symm
    · exact hl.2.1 (List.mem_singleton.mp h).symm
  · intro b hb
    rw [List.mem_singleton.mp hb]; exact hI0
  · intro p hp hb
    exact hap p hp (List.mem_singleton.mp hb)
  · rintro i v m₁ news₁ h₁ tk₁ own hi hv ⟨hj, rfl⟩ hnw hofp hoat hofull hst F1 N1
    obtain ⟨oI, eI, _⟩ := hst.1
    have hIo : (_, oI) ∈ own := hofull _ (.head _) hI0 _ eI
    have N3 : News h₀ env.locals h₁ ((s.heap.objs.size, oI) :: news₁) := fun p hp => by
      rcases List.mem_cons.mp hp with rfl | hp
      · exact N1 _ (List.mem_append_left _ hIo)
      · exact N1 _ (List.mem_append_right _ hp)
    refine wpAny_mono (step i v m₁ h₁ tk₁ _ oI hv hj F1 N3 hap) (fun _ s₃ h₃ => wpAny_mono h₃ (fun f s' h₄ => ?_) fun _ _ z => z) fun _ _ z => z
    have key : (∃ h' tk m', s' = { s with heap := h', toks := tk } ∧ Fr h₀ env.locals h' m' ∧ News h₀ env.locals h' ((s.heap.objs.size, oI) :: news₁) ∧ J (i + 1) m') → LoopStepU h₀ env.locals [s.heap.objs.size] own (fun m' news' => J (i + 1) m' ∧ news' = news₁) { s with heap := h₁, toks := tk₁ } .next s' := by
      rintro ⟨h', tk, m', rfl, F', N', j'⟩
      refine ⟨rfl, h', tk, m', news₁, rfl, F', fun p hp => ?_, hnw, j', rfl⟩
      rcases List.mem_append.mp hp with hp | hp
      · have hat := hoat p hp
        have hL := (N1 p (List.mem_append_left _ hp)).2
        rcases List.mem_cons.mp (hofp p hp) with h | h
        · have e1 : p.2 = oI := by rw [h] at hat; rw [hat] at eI; exact Option.some.inj eI
          rw [e1, h]
          exact ⟨(N' _ (.head _)).1, (N' _ (.head _)).2⟩
        · have h := List.mem_singleton.mp h
          have e1 : p.2 = listOf its pn := by
            have := (N1 _ (List.mem_append_right _ hm)).1
            rw [h, this] at hat; exact (Option.some.inj hat).symm
          rw [e1, h]
          exact N' _ (.tail _ hm)
      · exact N' p (.tail _ hp)
    cases f with
    | next => exact key h₄
    | cont => exact key h₄
    | brk => exact h₄
    | ret v => exact h₄
  · rintro h' tk m' news' F' N' _ ⟨hj, rfl⟩
    exact done h' tk m' F' N' hj
end
end
section -- JHget
theorem zsJHget : True := by
  w_top off
  k_with_none
  k_with "omega" => (lia)
  k_with "lt" => (skip)
  k_with "execs cons" => (refine y_consS ?_; intro sk9 qk9)
  k_with "eval ListComp" => (k_here; (with_reducible show wpAny _ _ (eval (PySem.Expr.ListComp _ _ _ _) _) _ _ _); refine YStop.of ?_)
  k_with "SrcLP" => (refine YStop.of ?_)
  trivial
theorem off1_all {D : Addr} {l : List (Addr × Obj)} (h : LCg.Off1 D l) : ∀ p ∈ l, @Ne Nat p.1 D := by
  induction l with
  | nil => intro p hp; cases hp
  | cons a r ih => exact y_allc h.1 (ih h.2)
section
variable {prog : Program} {w : World} {A : Around} {E : Value → Shared → Prop} {s : Shared} {h₀ : Heap} {L : Addr} {m : Str → Option Value} {env : Env}
open LCg LCp
theorem rest_pairs {elt : PySem.Expr} {x x₂ : Str} {scope : Scope} {cl : List (Str × Addr)} {pl : Addr} {its : Array Value} {pn : Nat} {tl news : List (Addr × Obj)} {hs : List (Str × Str)} {f : Str × Str → Str} {Fin : List Value → List (Addr × Obj) → Prop}
    (hpl : (pl, listOf its pn) ∈ news) (htl : ∀ p ∈ tl, p ∈ news) (hH : HdrAre tl its.toList hs)
    (helt : ∀ C oC m₂ s₂ N9 E' k v u w' Q, NsObj oC m₂ → m₂ x = some (.str k u) → m₂ x₂ = some (.str v w') → News h₀ L s₂.heap N9 → (C, oC) ∈ N9 → (∀ t, Q (.str (f (k, v)) t) s₂) → wpAny (model prog w) A (eval elt (compEnvC scope cl C env)) Q E' s₂)
    (hfin : ∀ ys, StrsAre ys (hs.map f) → Fin ys news) :
    ∀ (n i : Nat) (ys : List Value), i + n = its.size → StrsAre ys ((hs.take i).map f) → CompRestP prog w A h₀ L m env elt x x₂ scope cl s (SrcAt h₀ pl its) (fun i v => its[i]? = some v) Fin n i ys news
  | 0, i, ys, hi, hy => by
    refine CompRestP.zero (hfin ys ?_)
    have : hs.length = its.size := by rw [← Array.length_toList]; exact hH.len.symm
    rw [List.take_of_length_le (by omega)] at hy
    exact hy
  | n + 1, i, ys, hi, hy => by
    refine CompRestP.succ fun v hv => ?_
    obtain ⟨a, k, u, y, w', rfl, hm, hk⟩ := hH.at i v (by rw [Array.getElem?_toList]; exact hv)
    refine ⟨a, _, _, _, _, rfl, htl _ hm, rfl, rfl, ?_⟩
    intro I oI C oC D m₂ h tk E' hC h1 h2 F N off ne
    refine helt C oC m₂ _ _ E' k y u w' _ hC h1 h2 N (.tail _ (.head _)) fun t => ?_
    refine CompEnd.intro F N news (fun p hp => hp) off (.inr ⟨_, hpl, rfl, _, rfl⟩) ?_
    refine rest_pairs hpl htl hH helt hfin n (i + 1) _ (by omega) ?_
    rw [List.take_add_one, hk, List.map_append]
    exact strs_snoc hy
end
theorem keys_spec
  (tb dx pl : Addr) (hi : Int) (k1 : Tok) (pvs : Array Value) (pn : Nat) (tl : List (Addr × Obj)) (hs : List (Str × Str))
  (B : Below A₀ base outer h₀) (F : Fr h₀ L s.heap m) (X : (hd.heap_1 w.params).In h₀) (N : News h₀ L s.heap ((tb, instObj 386 dx) :: (dx, dictOf [⟨hi, .str "_headers" k1, .ref pl⟩] 1) :: (pl, listOf pvs pn) :: tl)) (T : Top p loose mean mg mb h₀) (hkf : cs.kind = .function)
  (hdp : dp + 6 < recursionLimit) (hun : un + 60 < cLine)
  (n1 : YNe tb dx) (n2 : YNe tb pl) (n3 : YNe dx pl) (htl : ∀ p ∈ tl, @Ne Nat p.1 pl) (hH : HdrAre tl pvs.toList hs) (hhs : hs.length ≤ 100)
  (hret : ∀ (l : Addr) (kvs : Array Value) (kn tk' : Nat) h', Ge [] s.heap h' → h'.get? l = some (listOf kvs kn) → s.heap.get? l = none → StrsAre kvs.toList (hs.map (·.1)) → Q (.ref l) { s with heap := h', toks := tk' }) :
  wpAny (model PySem.Challenge.rw_yj0031_01.row.prog w) (ktrTop dp un gd cn cs L a ccd cl outer) (call (.ref 338) [.ref tb]) Q E s := by
  revert X; k_fill; intro X
  refine wpAny_call ?_
  refine' y_codeT (rb := [(("self" : Str), (.ref tb : Value))]) ?k1 ?k2 ?k3 ?k4 ?k5 ?kA ?kF ?kK ?k6 ?k7 ?k8 ?k9 ?kR ?kB ?_ ?c2 ?c3 ?c4 ?c5
  (case kA | kF => exact rfl); (case kK | k1 | k2 | k3 | k4 | k5 => assumption); (case k6 | k7 => k_is); (case k8 => ktr_room); (case k9 => first | exact BindsTo.of_eq rfl | exact binds_K (by k_in) rfl (by k_is) rfl rfl rfl); (case kR => exact rfl); (case c5 => decide); (case kB => exact locs rfl); (case c2 | c3 | c4 => exact rfl); have N0 := YOld.mk N; clear B F X N T; intro g L1 h1 tk1 hG F1 N1 B1 X1 T1 l1; (try dsimp only); (try k_lt l1); (try k_fold)
  k_steps
  (rename Fr _ _ _ _ => F5); (rename News _ _ _ _ => N5)
  refine YStop.to (LCp.ListComp_P F5 (by with_unfolding_all rfl) (by decide) rfl (by decide) rfl rfl (by decide) ?_ (fun _ => rfl))
  k_steps
  have hz : pvs.size = hs.length := by rw [← Array.length_toList]; exact hH.len
  refine YStop.to (LCp.SrcLP.ledger rfl F5 N5 (.tail _ (.tail _ (.head _))) (by rw [line_is]; omega) fun g' => ?_)
  refine rest_pairs (f := fun q => q.1) (.tail _ (.tail _ (.head _))) (fun p hp => .tail _ (.tail _ (.tail _ hp))) hH ?helt ?hfin _ 0 [] (Nat.zero_add _) .nil
  case helt =>
    intro C oC m₂ s₂ N9 E' k v u w' Q hC h1 h2 N hm hQ
    exact LCgL.ld_own N hm hC h1 (hQ u)
  case hfin =>
    intro ys hy D h8 tk8 F8 N8 o1
    clear F5 N5
    k_steps
    (rename Fr _ _ _ _ => F9); (rename News _ _ _ _ => N9)
    simp only [LCg.Off1] at o1
    exact hret _ _ _ _ _ (y_ge N0 hG F9 N9 (fun p hp => .inr (.tail _ hp))) (y_got N9 (.head _)) (y_new N0 hG N9 (.head _) (y_allc o1.1 (y_allc o1.2.1 (y_allc o1.2.2.1 (off1_all o1.2.2.2))))) hy
end
section -- JHg3
theorem zsJHg3 : True := by
  w_top off
  k_with_none
  k_with "omega" => (lia)
  k_with "lt" => (skip)
  k_with "execs cons" => (refine y_consS ?_; intro sk9 qk9)
  k_with "eval Name" => (k_here; k_dflt (refine' ld ?k1 ?k2 ?_; (case k1 => k_asm); (case k2 => first | assumption | exact YUp.to (by assumption)); k_whole))
  k_with "exec For Tuple Attribute cons nil" => (k_here; (with_reducible show wpAny _ _ (exec (Stmt.For _ _ _ _ _) _) _ _ _); refine YStop.of ?_)
  k_with "call ref" => (k_here; k_dflt (refine' convV_L ?B ?F ?X ?N ?T ?hkf ?hdp ?hun ?hx ?hsz ?_; (case B | F | X | N => k_asm); (case T => assumption); (case hkf => exact rfl); (case hdp => ktr_room); (case hun => ktr_units); (case hx => first | assumption | decide +kernel); (case hsz => first | assumption | decide); k_whole; intro tk9' h9' F9' N9'))
  k_with "call ref" => (k_here; k_dflt (refine' convN_L ?B ?F ?X ?N ?T ?hkf ?hdp ?hun ?hx ?hsz ?_; (case B | F | X | N => k_asm); (case T => assumption); (case hkf => exact rfl); (case hdp => ktr_room); (case hun => ktr_units); (case hx => first | assumption | decide +kernel); (case hsz => first | assumption | decide); k_whole; intro tk9' h9' F9' N9'))
  k_with "pyIter ref" => (k_here; (with_reducible show wpAny _ _ (pyIter (Value.ref _)) _ _ _); refine YStop.of ?_)
  k_with "call builtin:str.lower" => (k_here; k_dflt (refine' SCL.lower ?hf ?_; (case hf => first | omega | exact Nat.le_trans (by assumption) (by decide)); k_whole; intro _))
  trivial
section
variable {prog : Program} {w : World} {A : Around} {E : Value → Shared → Prop} {s : Shared} {env : Env} {elts : List PySem.Expr} {x1 : Nat} {pos : Pos} {T : Addr} {a b : Value} {Q : Unit → Shared → Prop} {h₀ : Heap} {L : Addr} {m : Str → Option Value} {news : List (Addr × Obj)}
theorem y_asg2 (hh : A.handled = none) (F : Fr h₀ L s.heap m) (N : News h₀ L s.heap news) (hT : s.heap.get? T = some (tupObj #[a, b])) (hl : (assignEach elts env).length = 2)
    (hf : List.findIdx? (fun x => x.fst) (assignEach elts env) = none)
    (h : ∀ h', Fr h₀ L h' m → News h₀ L h' news → wpAny (model prog w) A (assignInOrder (List.map (fun x => x.snd) (assignEach elts env)) [a, b]) Q E { s with heap := h' }) :
    wpAny (model prog w) A (assign (.Tuple elts x1 pos) env (.ref T)) Q E s := by
  refine assign_Tuple_tuple hh ⟨_, hT, rfl, _, rfl⟩ hl hf fun h' he => h h' ?_ ?_
  · exact ⟨F.ns.at fun o e => he _ o (Nat.ne_of_lt (Heap.lt_size e)) e, fun b o e => he b o (Nat.ne_of_lt (Heap.lt_size (F.keep b o e))) (F.keep b o e), F.above⟩
  · exact fun p hp => ⟨he _ _ (Nat.ne_of_lt (Heap.lt_size (N p hp).1)) (N p hp).1, (N p hp).2⟩
end
theorem find_hit {α : Type} {p : α → Bool} {l : List α} {i : Nat} {q : α} (h0 : (l.take i).find? p = none) (h1 : l[i]? = some q) (h2 : p q = true) : l.find? p = some q := by
  obtain ⟨hi, rfl⟩ := List.getElem?_eq_some_iff.mp h1
  have e : (l.take i ++ l.drop i).find? p = some l[i] := by rw [List.drop_eq_getElem_cons hi, List.find?_append, h0, List.find?_cons, h2]; rfl
  rwa [List.take_append_drop] at e
theorem find_miss {α : Type} {p : α → Bool} {l : List α} {i : Nat} {q : α} (h0 : (l.take i).find? p = none) (h1 : l[i]? = some q) (h2 : p q = false) : (l.take (i + 1)).find? p = none := by
  rw [List.take_add_one, h1, List.find?_append, h0]
  simp [h2]
theorem get_spec
  (tb dx pl : Addr) (hi : Int) (k1 : Tok) (pvs : Array Value) (pn : Nat) (tl : List (Addr × Obj)) (hs : List (Str × Str)) (nm lw df : Str) (t1 t2 : Tok)
  (B : Below A₀ base outer h₀) (F : Fr h₀ L s.heap m) (X : (hd.heap_1 w.params).In h₀) (N : News h₀ L s.heap ((tb, instObj 386 dx) :: (dx, dictOf [⟨hi, .str "_headers" k1, .ref pl⟩] 1) :: (pl, listOf pvs pn) :: tl)) (T : Top p loose mean mg mb h₀) (hkf : cs.kind = .function)
  (hdp : dp + 6 < recursionLimit) (hun : un + 60 < cLine)
  (n1 : YNe tb dx) (n2 : YNe tb pl) (n3 : YNe dx pl) (htl : ∀ p ∈ tl, @Ne Nat p.1 pl) (hH : HdrAre tl pvs.toList hs) (hhs : hs.length ≤ 100) (hL : Txt.lower nm = lw) (hN : noHit codeN (Txt.lower nm) = true) (z1 : (Txt.lower nm).cps.size ≤ 1000) (z2 : nm.length ≤ 1000) (hkz : ∀ q ∈ hs, q.1.length ≤ 1000)
  (hret : ∀ (u : Tok) (tk' : Nat) h', Ge [] s.heap h' → Q (.str (((hs.find? fun q => Txt.lower q.1 == lw).map (·.2)).getD df) u) { s with heap := h', toks := tk' }) :
  wpAny (model PySem.Challenge.rw_yj0031_01.row.prog w) (ktrTop dp un gd cn cs L a ccd cl outer) (call (.ref 333) [.ref tb, .str nm t1, .str df t2]) Q E s := by
  revert X; k_fill; intro X
  refine wpAny_call ?_
  refine' y_codeT (rb := [(("default" : Str), (.str df t2 : Value)), (("name" : Str), (.str nm t1 : Value)), (("self" : Str), (.ref tb : Value))]) ?k1 ?k2 ?k3 ?k4 ?k5 ?kA ?kF ?kK ?k6 ?k7 ?k8 ?k9 ?kR ?kB ?_ ?c2 ?c3 ?c4 ?c5
  (case kA | kF => exact rfl); (case kK | k1 | k2 | k3 | k4 | k5 => assumption); (case k6 | k7 => k_is); (case k8 => ktr_room); (case k9 => first | exact BindsTo.of_eq rfl | exact binds_K (by k_in) rfl (by k_is) rfl rfl rfl); (case kR => exact rfl); (case c5 => decide); (case kB => exact locs rfl); (case c2 | c3 | c4 => exact rfl); have N0 := YOld.mk N; clear B F X N T; intro g L1 h1 tk1 hG F1 N1 B1 X1 T1 l1; (try dsimp only); (try k_lt l1); (try k_fold)
  k_steps
  (rename Fr _ _ _ _ => F5)
  refine YStop.to (For_turns F5 ?_ (fun _ => rfl))
  k_steps
  (rename Fr _ _ _ _ => F6); (rename News _ _ _ _ => N6)
  have hz : pvs.size = hs.length := by rw [← Array.length_toList]; exact hH.len
  refine YStop.to (y_turns rfl F6 N6 (.tail _ (.tail _ (.head _))) ?hT (fun i m' => (∃ tN, m' "name" = some (.str lw tN)) ∧ m' "default" = some (.str df t2) ∧ (hs.take i).find? (fun q => Txt.lower q.1 == lw) = none) ?hJ0 ?hstep ?hdone)
  case hT =>
    intro i v hv
    obtain ⟨a, k, u, y, w', rfl, hm, hk⟩ := hH.at i v (by rw [Array.getElem?_toList]; exact hv)
    exact ⟨a, rfl⟩
  case hJ0 => exact ⟨⟨_, (by rw [← hL]; rfl)⟩, rfl, by rw [List.take_zero]; rfl⟩
  case hstep =>
    rintro i v m8 h8 tk8 I o hv ⟨⟨tN, j1⟩, j2, j3⟩ F8 N8 hap
    obtain ⟨a, k, u, y, w', rfl, hm, hk⟩ := hH.at i v (by rw [Array.getElem?_toList]; exact hv)
    have hkl : k.length ≤ 1000 := hkz _ (List.mem_of_getElem? hk)
    clear F6 N6
    refine y_asg2 rfl F8 N8 (N8 _ (.tail _ (.tail _ (.tail _ (.tail _ hm))))).1 rfl rfl fun h9 F9 N9 => ?_
    clear F8 N8
    k_steps
    · (rename (Txt.lower k == lw) = true => hp)
      (rename Fr _ _ _ _ => F7); (rename News _ _ _ _ => N7)
      rw [find_hit (p := fun q => Txt.lower q.1 == lw) j3 hk hp] at hret
      exact hret _ _ _ (y_ge N0 hG F7 N7 (fun p hp => .inr (.tail _ hp)))
    · (rename (Txt.lower k == lw) = false => hp)
      (rename Fr _ _ _ _ => F7); (rename News _ _ _ _ => N7)
      refine YStop.to ⟨_, _, _, rfl, F7, N7, ⟨tN, j1⟩, j2, find_miss j3 hk hp⟩
  case hdone =>
    rintro h8 tk8 m8 F8 N8 ⟨⟨tN, j1⟩, j2, j3⟩
    clear F6 N6
    k_steps
    (rename Fr _ _ _ _ => F7); (rename News _ _ _ _ => N7)
    rw [List.take_of_length_le (by omega)] at j3
    rw [j3] at hret
    exact hret _ _ _ (y_ge N0 hG F7 N7 (fun p hp => .inr hp))
end
section -- JLawP
open PySem.Calls
noncomputable def partOf : Stmt → List Stmt × Scope
  | .FunctionDef _ _ body _ _ _ scope _ _ _ => (body, scope)
  | .For _ _ b _ _ => (b, ⟨.module, [], false, false, []⟩)
  | _ => ([], ⟨.module, [], false, false, []⟩)
noncomputable def lawPart : List Stmt × Scope := partOf (PySem.Challenge.pw_yj0031_01.main.body.getLastD (.Pass ⟨0, 0, 0, 0⟩))
noncomputable def lawBody : List Stmt := lawPart.1
noncomputable def lawScope : Scope := lawPart.2
noncomputable def loopBody (x : Stmt) : List Stmt := (partOf x).1
end
section -- JHga
theorem zsJHga : True := by
  w_top off
  k_with_none
  k_with "omega" => (lia)
  k_with "ne" => ((refine neN ?_; (try dsimp only); first | exact YNe.to (by assumption) | exact YNe.to' (by assumption) | exact Nat.succ_ne_self _ | exact (Nat.succ_ne_self _).symm))
  k_with "all" => (first | assumption | exact y_all0 | exact allNe_mem (by assumption) | (refine' y_allc ?a ?b; (case a => k_ne); (case b => k_all)))
  k_with "execs cons" => (refine y_consS ?_; intro sk9 qk9)
  k_with "call ref" => (k_here; k_dflt (refine' convV_L ?B ?F ?X ?N ?T ?hkf ?hdp ?hun ?hx ?hsz ?_; (case B | F | X | N => k_asm); (case T => assumption); (case hkf => exact rfl); (case hdp => ktr_room); (case hun => ktr_units); (case hx => first | assumption | decide +kernel); (case hsz => first | assumption | decide); k_whole; intro tk9' h9' F9' N9'))
  k_with "call ref" => (k_here; k_dflt (refine' convN_L ?B ?F ?X ?N ?T ?hkf ?hdp ?hun ?hx ?hsz ?_; (case B | F | X | N => k_asm); (case T => assumption); (case hkf => exact rfl); (case hdp => ktr_room); (case hun => ktr_units); (case hx => first | assumption | decide +kernel); (case hsz => first | assumption | decide); k_whole; intro tk9' h9' F9' N9'))
  k_with "eval ListComp" => (k_here; (with_reducible show wpAny _ _ (eval (PySem.Expr.ListComp _ _ _ _) _) _ _ _); refine YStop.of ?_)
  k_with "CompSrcT" => (refine YStop.of ?_)
  k_with "call builtin:str.lower" => (k_here; k_dflt (refine' SCL.lower ?hf ?_; (case hf => first | omega | exact Nat.le_trans (by assumption) (by decide)); k_whole; intro _))
  trivial
section
variable {prog : Program} {w : World} {A : Around} {E : Value → Shared → Prop} {s : Shared} {h₀ : Heap} {L : Addr} {m : Str → Option Value} {env : Env}
open LCg LCt
theorem rest_test {ct elt : PySem.Expr} {x : Str} {scope : Scope} {cl : List (Str × Addr)} {pl : Addr} {its : Array Value} {pn : Nat} {tl news : List (Addr × Obj)} {hs : List (Str × Str)} {pp : Str × Str → Bool} {f : Str × Str → Str} {Fin : List Value → List (Addr × Obj) → Prop}
    (hpl : (pl, listOf its pn) ∈ news) (htl : ∀ p ∈ tl, p ∈ news) (hH : HdrAre tl its.toList hs)
    (htest : ∀ C oC m₂ s₂ N9 E' a k v u w' Q, NsObj oC m₂ → m₂ x = some (.ref a) → Fr h₀ L s₂.heap m → News h₀ L s₂.heap N9 → (C, oC) ∈ N9 → (∀ q ∈ news, q ∈ N9) → (a, tupObj #[.str k u, .str v w']) ∈ tl → (k, v) ∈ hs → (∀ tk, Q (pp (k, v)) { s₂ with toks := tk }) → wpAny (model prog w) A (isTrue ct (compEnvC scope cl C env) (eval ct (compEnvC scope cl C env))) Q E' s₂)
    (helt : ∀ C oC m₂ s₂ N9 E' a k v u w' Q, NsObj oC m₂ → m₂ x = some (.ref a) → Fr h₀ L s₂.heap m → News h₀ L s₂.heap N9 → (C, oC) ∈ N9 → (∀ q ∈ news, q ∈ N9) → (a, tupObj #[.str k u, .str v w']) ∈ tl → (∀ t tk, Q (.str (f (k, v)) t) { s₂ with toks := tk }) → wpAny (model prog w) A (eval elt (compEnvC scope cl C env)) Q E' s₂)
    (hfin : ∀ ys, StrsAre ys ((hs.filter pp).map f) → Fin ys news) :
    ∀ (n i : Nat) (ys : List Value), i + n = its.size → StrsAre ys (((hs.take i).filter pp).map f) → CompRestT prog w A h₀ L m env ct elt x scope cl s (SrcAt h₀ pl its) (fun i v => its[i]? = some v) Fin n i ys news
  | 0, i, ys, hi, hy => by
    refine CompRestT.zero (hfin ys ?_)
    have : hs.length = its.size := by rw [← Array.length_toList]; exact hH.len.symm
    rw [List.take_of_length_le (by omega)] at hy
    exact hy
  | n + 1, i, ys, hi, hy => by
    refine CompRestT.succ fun v I oI C oC D m₂ h tk E' hv hC h1 F N off ne => ?_
    obtain ⟨a, k, u, y, w', rfl, hm, hk⟩ := hH.at i v (by rw [Array.getElem?_toList]; exact hv)
    refine htest C oC m₂ _ _ E' a k y u w' _ hC h1 F N (.tail _ (.head _)) (fun q hq => .tail _ (.tail _ (.tail _ hq))) hm (List.mem_of_getElem? hk) fun tk1 => ?_
    have hstep := rest_test hpl htl hH htest helt hfin n (i + 1)
    cases hp : pp (k, y) with
    | true =>
      rw [if_pos rfl]
      refine helt C oC m₂ _ _ E' a k y u w' _ hC h1 F N (.tail _ (.head _)) (fun q hq => .tail _ (.tail _ (.tail _ hq))) hm fun t tk2 => ?_
      refine CompEnd.intro F N news (fun p hp => hp) off (.inr ⟨_, hpl, rfl, _, rfl⟩) (hstep _ (by omega) ?_)
      rw [List.take_add_one, hk, List.filter_append, List.map_append]
      simp only [Option.toList_some, List.filter_cons, hp, if_true, List.filter_nil]
      exact strs_snoc hy
    | false =>
      rw [if_neg (by decide)]
      refine CompEnd.intro F N news (fun p hp => hp) off (.inr ⟨_, hpl, rfl, _, rfl⟩) (hstep _ (by omega) ?_)
      rw [List.take_add_one, hk, List.filter_append]
      simp only [Option.toList_some, List.filter_cons, hp, Bool.false_eq_true, if_false, List.filter_nil, List.append_nil]
      exact hy
end
section
variable {prog : Program} {w : World} {A : Around} {E : Value → Shared → Prop} {s : Shared} {g : Heap} {L T : Addr} {value slice : PySem.Expr} {u t : Tok} {news : List (Addr × Obj)} {a b : Value} {Q : Value → Shared → Prop}
end
theorem getall_spec
  (tb dx pl : Addr) (hi : Int) (k1 : Tok) (pvs : Array Value) (pn : Nat) (tl : List (Addr × Obj)) (hs : List (Str × Str)) (nm lw : Str) (t1 : Tok)
  (B : Below A₀ base outer h₀) (F : Fr h₀ L s.heap m) (X : (hd.heap_1 w.params).In h₀) (N : News h₀ L s.heap ((tb, instObj 386 dx) :: (dx, dictOf [⟨hi, .str "_headers" k1, .ref pl⟩] 1) :: (pl, listOf pvs pn) :: tl)) (T : Top p loose mean mg mb h₀) (hkf : cs.kind = .function)
  (hdp : dp + 6 < recursionLimit) (hun : un + 60 < cLine)
  (n1 : YNe tb dx) (n2 : YNe tb pl) (n3 : YNe dx pl) (htl : ∀ p ∈ tl, @Ne Nat p.1 pl) (hH : HdrAre tl pvs.toList hs) (hhs : hs.length ≤ 100) (hL : Txt.lower nm = lw) (hN : noHit codeN (Txt.lower nm) = true) (z1 : (Txt.lower nm).cps.size ≤ 1000) (z2 : nm.length ≤ 1000) (hkz : ∀ q ∈ hs, q.1.length ≤ 1000)
  (hret : ∀ (l : Addr) (kvs : Array Value) (kn tk' : Nat) h', Ge [] s.heap h' → h'.get? l = some (listOf kvs kn) → s.heap.get? l = none → StrsAre kvs.toList ((hs.filter fun q => Txt.lower q.1 == lw).map (·.2)) → Q (.ref l) { s with heap := h', toks := tk' }) :
  wpAny (model PySem.Challenge.rw_yj0031_01.row.prog w) (ktrTop dp un gd cn cs L a ccd cl outer) (call (.ref 325) [.ref tb, .str nm t1]) Q E s := by
  revert X; k_fill; intro X
  refine wpAny_call ?_
  refine' y_codeC ?k1 ?k2 ?k3 ?k4 ?k5 ?kA ?kF ?kK ?k6 ?k7 ?k8 ?k9 ?kB ?kD ?_ ?c2 ?c3 ?c4
  (case kA | kF => exact rfl); (case kK | k1 | k2 | k3 | k4 | k5 => assumption); (case k6 | k7 => k_is); (case k8 => ktr_room); (case k9 => first | exact BindsTo.of_eq rfl | exact binds_K (by k_in) rfl (by k_is) rfl rfl rfl); (case kB => exact rfl); (case kD => decide +kernel); (case c2 | c3 | c4 => exact rfl); have N0 := YOld.mk N; clear B F X N T; intro g L1 h1 tk1 cells1 hG F1 N1 Y1 B1 X1 T1 l1; k_cells Y1; (try simp only [List.cons_append, List.nil_append] at N1); (try dsimp only); (try k_fold)
  replace F1 : Fr g L1 h1 (fun z => if z = "self" then some (.ref tb) else none) := F1
  have qa : YNe tb (L1 + 1) := Nat.ne_of_lt (Nat.lt_succ_of_lt (l1 _ (.head _)))
  have qb : YNe dx (L1 + 1) := Nat.ne_of_lt (Nat.lt_succ_of_lt (l1 _ (.tail _ (.head _))))
  have qc : YNe pl (L1 + 1) := Nat.ne_of_lt (Nat.lt_succ_of_lt (l1 _ (.tail _ (.tail _ (.head _)))))
  have qd : ∀ p ∈ tl, @Ne Nat p.1 (L1 + 1) := fun p hp => Nat.ne_of_lt (Nat.lt_succ_of_lt (l1 _ (.tail _ (.tail _ (.tail _ hp)))))
  rename_i oN dN
  replace dN : oN.data = .cell (some (.str nm t1)) := dN
  k_steps
  (rename Fr _ _ _ _ => F5); (rename News _ _ _ _ => N5)
  refine YStop.to (LCt.ListComp_T F5 (by with_unfolding_all rfl) (by decide) rfl (by decide) rfl ?_ (fun _ => rfl))
  k_steps
  have hz : pvs.size = hs.length := by rw [← Array.length_toList]; exact hH.len
  (rename Obj => oN2); (rename oN2.data = _ => dN2)
  refine YStop.to (LCt.CompSrcT.ledger rfl F5 N5 (.tail _ (.tail _ (.tail _ (.head _)))) (by rw [line_is]; omega) fun g' => ?_)
  refine rest_test (pp := fun q => Txt.lower q.1 == lw) (f := fun q => q.2) (.tail _ (.tail _ (.tail _ (.head _)))) (fun p hp => .tail _ (.tail _ (.tail _ (.tail _ hp)))) hH ?htest ?helt ?hfin _ 0 [] (Nat.zero_add _) .nil
  case htest =>
    intro C oC m₂ s₂ N9 E' a k v u w' Q9 hC h1 F N hCm hsub ha hq hQ
    have N10 : News g L1 s₂.heap [(C, oC), (L1 + 1, oN2), (a, tupObj #[.str k u, .str v w'])] := News.cons' N hCm (News.cons' N (hsub _ (.head _)) (News.cons' N (hsub _ (.tail _ (.tail _ (.tail _ (.tail _ ha))))) y_all0))
    have hkl : k.length ≤ 1000 := hkz _ hq
    clear N N5 F5 hsub
    k_steps
    rw [hL]
    exact hQ _
  case helt =>
    intro C oC m₂ s₂ N9 E' a k v u w' Q9 hC h1 F N hCm hsub ha hQ
    have N10 : News g L1 s₂.heap [(C, oC), (L1 + 1, oN2), (a, tupObj #[.str k u, .str v w'])] := News.cons' N hCm (News.cons' N (hsub _ (.head _)) (News.cons' N (hsub _ (.tail _ (.tail _ (.tail _ (.tail _ ha))))) y_all0))
    clear N N5 F5 hsub
    k_steps
    exact hQ _ _
  case hfin =>
    intro ys hy D h8 tk8 F8 N8 o1
    clear F5 N5
    k_steps
    (rename Fr _ _ _ _ => F9); (rename News _ _ _ _ => N9)
    simp only [LCg.Off1] at o1
    exact hret _ _ _ _ _ (y_ge N0 hG F9 N9 (fun p hp => .inr (.tail _ (.tail _ hp)))) (y_got N9 (.head _)) (y_new N0 hG N9 (.head _) (y_allc o1.2.1 (y_allc o1.2.2.1 (y_allc o1.2.2.2.1 (off1_all o1.2.2.2.2))))) hy
end
section -- JNew
theorem zsJNew : True := by
  w_top off
  k_with_none
  k_with "omega" => first | exact ar_n1 (by assumption) | lia
  k_with "ne" => ((refine neN ?_; (try dsimp only); first | exact YNe.to (by assumption) | exact YNe.to' (by assumption)))
  k_with "execs cons" => (refine y_consS ?_; intro sk9 qk9)
  k_with "ge" => first | exact y_all0 | (refine' y_allc ?gea ?geb; (case gea => first | (exact Or.inl (by k_mem)) | (exact Or.inr (by k_mem))); (case geb => k_extra "ge"))
  k_with "getMethod ref" => (k_here; k_dflt (refine' sup_meth_m ?F ?X ?N ?hso ?h1 ?h2 ?hf ?hty ?hn ?htold ?hsp ?_; (case F | X | N => k_asm); (case hso | h1 | h2 => k_mem); (case hf => exact acc_along_pop _); (case hty => exact PySem.F.type_list_pop); (case hn => decide); (case htold | hsp => decide +kernel); k_whole; intro q9' h9' F9' N9' lz1; (try k_lt lz1)))
  k_with "getMethod ref" => (k_here; k_dflt (refine' sup_meth_w ?F ?X ?N ?hso ?h1 ?h2 ?hf ?hty ?hn ?hsp ?_; (case F | X | N => k_asm); (case hso | h1 | h2 => k_mem); (case hf => first | exact acc_along_len _ | exact acc_along_init _); (case hty => first | exact ty_len | exact ty_init); (case hn => decide); (case hsp => decide +kernel); k_whole; intro q9' h9' F9' N9' lz1; (try k_lt lz1)))
  k_with "getMethod ref" => (k_here; k_dflt (refine' acc_getMethod_bi ?F ?X ?N ?h1 ?h2 ?hf ?ht ?hs ?_; (case F | X | N => k_asm); (case h1 | h2 => k_mem); (case hf | ht => k_is); (case hs => k_get); k_whole))
  k_with "getMethod ref" => (k_here; k_dflt (refine' acc_getMethod_fn ?F ?X ?N ?h1 ?h2 ?hf ?ht ?hs ?_; (case F | X | N => k_asm); (case h1 | h2 => k_mem); (case hf | ht => k_is); (case hs => k_get); k_whole))
  k_with "call ref" => (k_here; k_dflt (refine' reset_L (lr := ?lr) ?B ?F ?X ?N ?T ?hkf ?hdp ?hun ?U ?h2 ?h3 ?U2 ?hs ?hs2 ?hax ?hl1 ?hl2 ?_; (case B | F | X | N => k_asm); (case T => assumption); (case hkf => exact rfl); (case hdp => ktr_room); (case hun => ktr_units); (case U => k_updF); (case h2 | h3 => k_mem); (case U2 => intro n9; k_updF); (case hs => first | assumption | omega | (simp; omega) | exact ext_size (push_size (by assumption))); (case hs2 => first | assumption | omega | (simp; omega)); (case hax => first | assumption | exact YNe.to (by assumption) | exact YNe.to' (by assumption) | omega); (case hl1 | hl2 => first | exact YNe.to (by assumption) | exact YNe.to' (by assumption) | omega); k_whole; intro n9' hi9' kt9' ti9' h9' tk9' F9' N9'; (try dsimp only at N9')))
  k_with "call ref" => (k_here; k_dflt (refine' pop_L ?B ?F ?X ?N ?T ?hkf ?hdp ?hun ?U ?h2 ?hs ?hax ?hv ?_; (case B | F | X | N => k_asm); (case T => assumption); (case hkf => exact rfl); (case hdp => ktr_room); (case hun => ktr_units); (case U => k_updF); (case h2 => k_mem); (case hs => first | assumption | omega | (simp; omega) | exact ext_size (push_size (by assumption))); (case hax => first | assumption | exact YNe.to (by assumption) | exact YNe.to' (by assumption) | omega); (case hv => first | assumption | exact Array.back?_push); k_whole; intro n9' h9' tk9' F9' N9'; (try simp only [Array.pop_push] at N9'); (try dsimp only at N9')))
  k_with "call builtin:len" => (k_here; k_dflt (refine' len_B ?B ?F ?X ?N ?T ?hkf ?hdp ?hun ?h1 ?h2 ?U ?hs ?hax ?hit ?hln ?htr ?hG0 ?_; (case B | F | X | N => k_asm); (case T => assumption); (case hkf => exact rfl); (case hdp => ktr_room); (case hun => ktr_units); (case h1 | h2 => k_mem); (case U => k_updF); (case hs => first | assumption | omega | (simp; omega) | exact ext_size (push_size (by assumption))); (case hax => first | assumption | exact YNe.to (by assumption) | exact YNe.to' (by assumption) | omega); (case hit => (first | assumption | exact Items.keep (by assumption) (Fr.keep (by k_asm)) | exact Items.push (Items.keep (by assumption) (Fr.keep (by k_asm))) (News.get (by k_asm) (by k_mem)) | exact Items.take (Items.push (Items.keep (by assumption) (Fr.keep (by k_asm))) (News.get (by k_asm) (by k_mem))) _)); (case hln => first | assumption | exact take_len (by assumption)); (case htr | hG0 => assumption); k_whole; intro t9' s9' ps9' F9' N9' ht9' hG9' ho9'; obtain ⟨hp9', gs9', d9', tk9', os9'⟩ := s9'; (try dsimp only at F9' N9' hG9' ho9')))
  k_with "call type:str" => (k_here; k_dflt (refine' str_B ?B ?F ?X ?N ?T ?hkf ?hdp ?hun ?h1 ?h2 ?U ?hs ?hax ?hit ?hln ?htr ?hG0 ?_; (case B | F | X | N => k_asm); (case T => assumption); (case hkf => exact rfl); (case hdp => ktr_room); (case hun => ktr_units); (case h1 | h2 => k_mem); (case U => k_updF); (case hs => first | assumption | omega | (simp; omega) | exact ext_size (push_size (by assumption))); (case hax => first | assumption | exact YNe.to (by assumption) | exact YNe.to' (by assumption) | omega); (case hit => (first | assumption | exact Items.keep (by assumption) (Fr.keep (by k_asm)) | exact Items.push (Items.keep (by assumption) (Fr.keep (by k_asm))) (News.get (by k_asm) (by k_mem)) | exact Items.take (Items.push (Items.keep (by assumption) (Fr.keep (by k_asm))) (News.get (by k_asm) (by k_mem))) _)); (case hln => first | assumption | exact take_len (by assumption)); (case htr | hG0 => assumption); k_whole; intro t9' s9' ps9' F9' N9' ht9' hG9' ho9'; obtain ⟨hp9', gs9', d9', tk9', os9'⟩ := s9'; (try dsimp only at F9' N9' hG9' ho9')))
  k_with "compareOp NotEq ref ref" => (k_here; k_dflt (refine' y_tupNe ?F ?N ?hT ?hD ?hok ?hu ?_; (case F | N => k_asm); (case hT => assumption); (case hD => k_mem); (case hok => assumption); (case hu => ktr_units); k_whole))
  k_with "getAttr ref" => (k_here; k_dflt (refine' acc_bound ?F ?X ?N ?h1 ?h2 ?ha ?ht ?hgf ?htk ?hc ?hl ?_; (case F | X | N => k_asm); (case h1 | h2 => k_mem); (case ha | ht | hgf | htk => k_is); (case hc => decide +kernel); (case hl => k_get); k_whole; intro q9' h9' F9' N9' lz1; (try k_lt lz1)))
  k_with "callWith ref" => (k_here; (with_reducible show wpAny _ _ (callWith _ (Value.ref _) _ (backTo _ (starEach [PySem.Expr.Starred _ _] _)) []) _ _ _); k_dflt (refine' callWith_SM ?X ?N ?q ?hf ?_; (case X | N => k_asm); (case q => k_mem); (case hf => k_is); k_whole))
  k_with "eval Call Attribute" => (k_here; (with_reducible show wpAny _ _ (eval (PySem.Expr.Call (PySem.Expr.Attribute _ _ _) [PySem.Expr.Starred _ _] [] _) _) _ _ _); refine methodCall_S ?_)
  k_with "StarOf ref" => (k_here; k_dflt (refine' star_base ?F ?N ?hT ?_; (case F | N => k_asm); (case hT => assumption); k_whole; intro h9' F9' N9'; refine ⟨?_, ?_⟩; (first | exact methP (by k_asm) (by k_mem) (by k_in) | skip); (try dsimp only [List.nil_append])))
  k_with "call ref" => (k_here; k_dflt (refine' push_M ?B ?F ?X ?N ?T ?hkf ?hdp ?hun ?hq ?U ?h2 ?hs ?hax ?_; (case B | F | X | N => k_asm); (case T => assumption); (case hkf => exact rfl); (case hdp => ktr_room); (case hun => ktr_units); (case hq => k_mem); (case U => k_updF); (case h2 => k_mem); (case hs => first | assumption | omega | (simp; omega) | exact ext_size (push_size (by assumption))); (case hax => first | assumption | exact YNe.to (by assumption) | exact YNe.to' (by assumption) | omega); k_whole; intro t9' n9' h9' tk9' F9' N9' lz1; (repeat (first | (replace lz1 := allNe_one lz1) | (have := allNe_hd2 lz1; replace lz1 := allNe_tl2 lz1))); (try dsimp only at N9')))
  k_with "call ref" => (k_here; k_dflt (refine' reset0_L ?B ?F ?X ?N ?T ?hkf ?hdp ?hun ?U ?h2 ?U2 ?hs ?hax ?_; (case B | F | X | N => k_asm); (case T => assumption); (case hkf => exact rfl); (case hdp => ktr_room); (case hun => ktr_units); (case U => k_updF); (case h2 => k_mem); (case U2 => intro n9; k_updF); (case hs => first | assumption | omega | (simp; omega) | exact ext_size (push_size (by assumption))); (case hax => first | assumption | exact YNe.to (by assumption) | exact YNe.to' (by assumption) | omega); k_whole; intro n9' hi9' kt9' ti9' h9' tk9' F9' N9'; (try dsimp only at N9')))
  k_with "call ref" => (k_here; k_dflt (refine' onlyws_L ?B ?F ?X ?N ?T ?hkf ?hdp ?hun ?h1 ?h2 ?U ?h7 ?U2 ?hs ?hit ?hln ?htp ?htq ?hG0 ?ht0 ?hns ?hAll ?_; (case B | F | X | N => k_asm); (case T => assumption); (case hkf => exact rfl); (case hdp => ktr_room); (case hun => ktr_units); (case h1 | h2 => k_mem); (case U => k_updF); (case h7 => k_mem); (case U2 => intro n9; k_updF); (case hs => first | assumption | omega | (simp; omega) | exact ext_size (push_size (by assumption))); (case hit => (first | assumption | exact Items.keep (by assumption) (Fr.keep (by k_asm)) | exact Items.push (Items.keep (by assumption) (Fr.keep (by k_asm))) (News.get (by k_asm) (by k_mem)) | exact Items.take (Items.push (Items.keep (by assumption) (Fr.keep (by k_asm))) (News.get (by k_asm) (by k_mem))) _)); (case hln => first | assumption | exact take_len (by assumption)); (case htp | htq | hG0 | ht0 | hns => assumption); (case hAll => simp only [AllNe2, AllNe1, and_true]; and_intros <;> first | assumption | exact YNe.sym (by assumption) | (show _ ≠ _; omega)); k_whole; intro s9' ps9' qs9' F9' N9' t19' t29' hG9' ho9'; obtain ⟨hp9', gs9', d9', tk9', os9'⟩ := s9'; (try dsimp only at F9' N9' hG9' ho9')))
  trivial
theorem newline_spec
  (pg dx li : Addr) (wd nl : Nat) (lvs : Array Value) (lns : List Str) (V : FmtV) (ps qs : Array Value) (xs : List Str) (ac ax : Addr) (its : Array Value) (na : Nat) (hi : Int) (kt ti : Tok) (x : Str)
  (B : Below A₀ base outer h₀) (F : Fr h₀ L s.heap m) (X : (hd.heap_1 w.params).In h₀) (N : News h₀ L s.heap ([(pg, instObj 154 dx), (dx, dictOf (vfEs V wd li ac) 6), (li, listOf lvs nl), (ac, accObj ax its na), (ax, dictOf [⟨hi, .str "_initial_size" kt, .int 0 ti⟩] 1), (200, tabObj ps), (207, tabObj qs)])) (T : Top p loose mean mg mb h₀) (hkf : cs.kind = .function)
  (hdp : dp + 5 < recursionLimit) (hun : un + 80 < cLine)
  (hs : its.size < 70) (hls : lvs.size < 80) (hit : Items s.heap its (xs ++ [x])) (hln : ∀ y ∈ xs ++ [x], y.length ≤ 200) (htp : TriplesOk ps.toList) (htq : TriplesOk qs.toList) (hG0 : AllBare s.gens)
  (hSl : StrsAre lvs.toList lns) (hok : PyData.strOk x = true) (ht0 : 0 < total (xs ++ [x])) (hns : Txt.isspace (Txt.join "" (xs ++ [x])) = false) (hAll : AllNe2 [pg, dx, li, ac, ax, 200, 207])
  (hret : ∀ (s' : Shared) (lvs' : Array Value) (nl' : Nat) (na' : Nat) (hi' : Int) (kt' ti' : Tok) (ps' qs' : Array Value), Ge [li, ac, ax, 200, 207] s.heap s'.heap → s'.heap.get? li = some (listOf lvs' nl') → StrsAre lvs'.toList (lns ++ [Txt.join "" (xs ++ [x])]) → s'.heap.get? ac = some (accObj ax #[] na') → s'.heap.get? ax = some (dictOf [⟨hi', .str "_initial_size" kt', .int 0 ti'⟩] 1) → s'.heap.get? 200 = some (tabObj ps') → TriplesOk ps'.toList → s'.heap.get? 207 = some (tabObj qs') → TriplesOk qs'.toList → AllBare s'.gens → s'.os = s.os → Q .none s') :
  wpAny (model PySem.Challenge.rw_yj0031_01.row.prog w) (ktrTop dp un gd cn cs L a ccd cl outer) (call (.ref 116) [.ref pg]) Q E s := by
  revert X; k_fill; intro X
  refine wpAny_call ?_
  refine' y_code ?k1 ?k2 ?k3 ?k4 ?k5 ?kA ?kF ?kK ?k6 ?k7 ?k8 ?k9 ?kB ?_ ?c2 ?c3 ?c4 ?c5
  (case kA | kF => exact rfl); (case kK | k1 | k2 | k3 | k4 | k5 => assumption); (case k6 | k7 => k_is); (case k8 => ktr_room); (case k9 => first | exact BindsTo.of_eq rfl | exact binds_K (by k_in) rfl (by k_is) rfl rfl rfl); (case c5 => decide); (case kB => exact locs rfl); (case c2 | c3 | c4 => exact rfl); have N0 := YOld.mk N; clear B F X N T; intro g L1 h1 hG F1 N1 B1 X1 T1 l1; (try dsimp only); (try k_lt l1); (try k_fold)
  simp only [AllNe2, AllNe1, and_true, and_assoc] at hAll
  repeat (have := And.left hAll; replace hAll := And.right hAll)
  have I1 : Items g its (xs ++ [x]) := Items.led hit N0 hG rfl
  have hsz0 := hit.size
  have ht1 : total (xs ++ [x]) ≠ 0 := by omega
  have I2 := I1.pop
  obtain ⟨TL, tu, tv, hbk, hTL⟩ := I1.last
  k_steps
  exact hret _ _ _ _ _ _ _ _ _ (by
    (rename Fr _ _ _ _ => F9); (rename News _ _ _ _ => N9)
    refine y_ge N0 hG F9 N9 ?_
    k_extra "ge") (by (rename News _ _ _ _ => N9); exact y_got N9 (by k_mem)) (by rw [Array.toList_push]; exact strs_snoc hSl) (by (rename News _ _ _ _ => N9); exact y_got N9 (by k_mem)) (by (rename News _ _ _ _ => N9); exact y_got N9 (by k_mem)) (by (rename News _ _ _ _ => N9); exact y_got N9 (by k_mem)) (by assumption) (by (rename News _ _ _ _ => N9); exact y_got N9 (by k_mem)) (by assumption) (by assumption) (by first | rfl | assumption | exact Eq.trans (by assumption) (by assumption) | exact Eq.trans (by assumption) (Eq.trans (by assumption) (by assumption)))
end
section -- JChunk
theorem zsJChunk : True := by
  w_top off
  k_with_none
  k_with "omega" => first | exact ar_s5 (by assumption) | lia
  k_with "inst" => ((refine' inst_seq ?N ?h1 ?h2; (case N => k_asm); (case h1 | h2 => k_mem)))
  k_with "execs cons" => (refine y_consS ?_; intro sk9 qk9)
  k_with "ne" => (refine neN ?_; (try dsimp only); first | exact YNe.to (by assumption) | exact YNe.to' (by assumption) | (rename NdT _ _ => Dz; exact nd_ne Dz (by k_extra "idx") (by k_extra "idx") (by decide)))
  k_with "nd" => skip
  k_with "idx" => first | exact idx_z | exact idx_s idx_z | exact idx_s (idx_s idx_z) | exact idx_s (idx_s (idx_s idx_z)) | exact idx_s (idx_s (idx_s (idx_s idx_z))) | exact idx_s (idx_s (idx_s (idx_s (idx_s idx_z)))) | exact idx_s (idx_s (idx_s (idx_s (idx_s (idx_s idx_z))))) | exact idx_s (idx_s (idx_s (idx_s (idx_s (idx_s (idx_s idx_z)))))) | exact idx_s (idx_s (idx_s (idx_s (idx_s (idx_s (idx_s (idx_s idx_z))))))) | exact idx_s (idx_s (idx_s (idx_s (idx_s (idx_s (idx_s (idx_s (idx_s idx_z)))))))) | exact idx_s (idx_s (idx_s (idx_s (idx_s (idx_s (idx_s (idx_s (idx_s (idx_s idx_z))))))))) | exact idx_s (idx_s (idx_s (idx_s (idx_s (idx_s (idx_s (idx_s (idx_s (idx_s (idx_s idx_z))))))))))
  k_with "mem" => first | assumption | exact List.Mem.head _ | (refine' List.Mem.tail _ ?_; k_extra "mem")
  k_with "call builtin:list.append" => (k_here; k_dflt (refine' y_appendB ?F ?N ?U ?hs ?_; (case F | N => k_asm); (case U => k_updF); (case hs => exact Nat.le_trans (Nat.le_of_lt (by assumption)) (Nat.le_of_ble_eq_true rfl)); k_whole; intro h9' F9' N9'; (try dsimp only at N9')))
  k_with "apart" => first | exact y_all0 | assumption | (refine' y_allc ?apa ?apb; (case apa => (try dsimp only); first | exact YNe.to (by assumption) | exact YNe.to' (by assumption) | (rename NdT _ _ => Dz; exact nd_ne Dz (by k_extra "idx") (by k_extra "idx") (by decide)) | (rename NdT _ _ => Dz; exact Ne.symm (nd_tl Dz (by k_extra "idx") (by assumption)))); (case apb => k_extra "apart"))
  k_with "te" => first | refine TE.next (by assumption) _ ?_ | refine TE.cont (by assumption) _ ?_ | skip
  k_with "ge" => first | exact y_all0 | (refine' y_allc ?gea ?geb; (case gea => first | (exact Or.inl (by k_mem)) | (exact Or.inr (by k_mem))); (case geb => k_extra "ge"))
  k_with "getMethod ref" => (k_here; k_dflt (refine' sup_meth_m ?F ?X ?N ?hso ?h1 ?h2 ?hf ?hty ?hn ?htold ?hsp ?_; (case F | X | N => k_asm); (case hso | h1 | h2 => k_mem); (case hf => exact acc_along_pop _); (case hty => exact PySem.F.type_list_pop); (case hn => decide); (case htold | hsp => decide +kernel); k_whole; intro q9' h9' F9' N9' lz1; (try k_lt lz1)))
  k_with "getMethod ref" => (k_here; k_dflt (refine' sup_meth_w ?F ?X ?N ?hso ?h1 ?h2 ?hf ?hty ?hn ?hsp ?_; (case F | X | N => k_asm); (case hso | h1 | h2 => k_mem); (case hf => first | exact acc_along_len _ | exact acc_along_init _); (case hty => first | exact ty_len | exact ty_init); (case hn => decide); (case hsp => decide +kernel); k_whole; intro q9' h9' F9' N9' lz1; (try k_lt lz1)))
  k_with "getMethod ref" => (k_here; k_dflt (refine' acc_getMethod_bi ?F ?X ?N ?h1 ?h2 ?hf ?ht ?hs ?_; (case F | X | N => k_asm); (case h1 | h2 => k_mem); (case hf | ht => k_is); (case hs => k_get); k_whole))
  k_with "getMethod ref" => (k_here; k_dflt (refine' acc_getMethod_fn ?F ?X ?N ?h1 ?h2 ?hf ?ht ?hs ?_; (case F | X | N => k_asm); (case h1 | h2 => k_mem); (case hf | ht => k_is); (case hs => k_get); k_whole))
  k_with "getAttr ref" => (k_here; k_dflt (refine' acc_getAttr ?F ?X ?N ?h1 ?h2 ?hf ?hl ?hv ?_; (case F | X | N => k_asm); (case h1 | h2 => k_mem); (case hf => k_is); (case hl => k_get); (case hv => k_handed); k_whole))
  k_with "call ref" => (k_here; k_dflt (refine' popf_L ?B ?F ?X ?N ?T ?hkf ?hdp ?hun ?U ?h2 ?hs ?hax ?hi0 ?hi1 ?_; (case B | F | X | N => k_asm); (case T => assumption); (case hkf => exact rfl); (case hdp => ktr_room); (case hun => ktr_units); (case U => k_updF); (case h2 => k_mem); (case hs => first | assumption | omega | (simp; omega) | exact ext_size (push_size (by assumption))); (case hax => first | assumption | exact YNe.to (by assumption) | exact YNe.to' (by assumption) | omega); (case hi0 => omega); (case hi1 => first | omega | (simp; omega)); k_whole; intro l9' n9' h9' tk9' F9' N9' lz1; k_lt lz1; (try dsimp only at N9')))
  k_with "call ref" => (k_here; k_dflt (refine' count_L ?B ?F ?X ?N ?T ?hkf ?hdp ?hun ?h1 ?h2 ?hs ?hax ?_; (case B | F | X | N => k_asm); (case T => assumption); (case hkf => exact rfl); (case hdp => ktr_room); (case hun => ktr_units); (case h1 | h2 => k_mem); (case hs => first | assumption | omega | (simp; omega) | exact ext_size (push_size (by assumption))); (case hax => first | assumption | exact YNe.to (by assumption) | exact YNe.to' (by assumption) | omega); k_whole; intro t9' h9' tk9' F9' N9'))
  k_with "call ref" => (k_here; k_dflt (refine' push_L ?B ?F ?X ?N ?T ?hkf ?hdp ?hun ?U ?h2 ?hs ?hax ?_; (case B | F | X | N => k_asm); (case T => assumption); (case hkf => exact rfl); (case hdp => ktr_room); (case hun => ktr_units); (case U => k_updF); (case h2 => k_mem); (case hs => first | assumption | omega | (simp; omega) | exact ext_size (push_size (by assumption))); (case hax => first | assumption | exact YNe.to (by assumption) | exact YNe.to' (by assumption) | omega); k_whole; intro t9' n9' h9' tk9' F9' N9' lz1; k_lt lz1; (try dsimp only at N9')))
  k_with "call ref" => (k_here; k_dflt (refine' reset_L (lr := ?lr) ?B ?F ?X ?N ?T ?hkf ?hdp ?hun ?U ?h2 ?h3 ?U2 ?hs ?hs2 ?hax ?hl1 ?hl2 ?_; (case B | F | X | N => k_asm); (case T => assumption); (case hkf => exact rfl); (case hdp => ktr_room); (case hun => ktr_units); (case U => k_updF); (case h2 | h3 => k_mem); (case U2 => intro n9; k_updF); (case hs => first | assumption | omega | (simp; omega) | exact ext_size (push_size (by assumption))); (case hs2 => first | assumption | omega | (simp; omega)); (case hax => first | assumption | exact YNe.to (by assumption) | exact YNe.to' (by assumption) | omega); (case hl1 | hl2 => (rename NdT _ _ => Dz; exact nd_ne Dz (by k_extra "idx") (by k_extra "idx") (by decide))); k_whole; intro n9' hi9' kt9' ti9' h9' tk9' F9' N9'; (try dsimp only at N9')))
  k_with "call ref" => (k_here; k_dflt (refine' pop_L ?B ?F ?X ?N ?T ?hkf ?hdp ?hun ?U ?h2 ?hs ?hax ?hv ?_; (case B | F | X | N => k_asm); (case T => assumption); (case hkf => exact rfl); (case hdp => ktr_room); (case hun => ktr_units); (case U => k_updF); (case h2 => k_mem); (case hs => first | assumption | omega | (simp; omega) | exact ext_size (push_size (by assumption))); (case hax => first | assumption | exact YNe.to (by assumption) | exact YNe.to' (by assumption) | omega); (case hv => first | assumption | exact Array.back?_push); k_whole; intro n9' h9' tk9' F9' N9'; (try simp only [Array.pop_push] at N9'); (try dsimp only at N9')))
  k_with "call builtin:len" => (k_here; k_dflt (refine' len_B ?B ?F ?X ?N ?T ?hkf ?hdp ?hun ?h1 ?h2 ?U ?hs ?hax ?hit ?hln ?htr ?hG0 ?_; (case B | F | X | N => k_asm); (case T => assumption); (case hkf => exact rfl); (case hdp => ktr_room); (case hun => ktr_units); (case h1 | h2 => k_mem); (case U => k_updF); (case hs => first | assumption | omega | (simp; omega) | exact ext_size (push_size (by assumption))); (case hax => first | assumption | exact YNe.to (by assumption) | exact YNe.to' (by assumption) | omega); (case hit => (first | assumption | exact Items.keep (by assumption) (Fr.keep (by k_asm)) | exact Items.push (Items.keep (by assumption) (Fr.keep (by k_asm))) (News.get (by k_asm) (by k_mem)) | exact Items.take (Items.push (Items.keep (by assumption) (Fr.keep (by k_asm))) (News.get (by k_asm) (by k_mem))) _)); (case hln => first | assumption | exact take_len (by assumption)); (case htr | hG0 => assumption); k_whole; intro t9' s9' ps9' F9' N9' ht9' hG9' ho9'; obtain ⟨hp9', gs9', d9', tk9', os9'⟩ := s9'; (try dsimp only at F9' N9' hG9' ho9')))
  k_with "call type:str" => (k_here; k_dflt (refine' str_B ?B ?F ?X ?N ?T ?hkf ?hdp ?hun ?h1 ?h2 ?U ?hs ?hax ?hit ?hln ?htr ?hG0 ?_; (case B | F | X | N => k_asm); (case T => assumption); (case hkf => exact rfl); (case hdp => ktr_room); (case hun => ktr_units); (case h1 | h2 => k_mem); (case U => k_updF); (case hs => first | assumption | omega | (simp; omega) | exact ext_size (push_size (by assumption))); (case hax => first | assumption | exact YNe.to (by assumption) | exact YNe.to' (by assumption) | omega); (case hit => (first | assumption | exact Items.keep (by assumption) (Fr.keep (by k_asm)) | exact Items.push (Items.keep (by assumption) (Fr.keep (by k_asm))) (News.get (by k_asm) (by k_mem)) | exact Items.take (Items.push (Items.keep (by assumption) (Fr.keep (by k_asm))) (News.get (by k_asm) (by k_mem))) _)); (case hln => first | assumption | exact take_len (by assumption)); (case htr | hG0 => assumption); k_whole; intro t9' s9' ps9' F9' N9' ht9' hG9' ho9'; obtain ⟨hp9', gs9', d9', tk9', os9'⟩ := s9'; (try dsimp only at F9' N9' hG9' ho9')))
  k_with "exec For" => (k_here; (with_reducible show wpAny _ _ (exec (Stmt.For _ _ _ _ _) _) _ _ _); refine YStop.of ?_)
  k_with "pyIter ref" => (k_here; (with_reducible show wpAny _ _ (pyIter (Value.ref _)) (ForPack _ _ _ _ _ _ _ _) _ _); refine YStop.of ?_)
  k_with "pyIter str" => (k_here; (with_reducible show wpAny _ _ (pyIter (Value.str _ _)) (ForPack _ _ _ _ _ _ _ _) _ _); refine YStop.of ?_)
  k_with "subscriptTail" => (k_here; (with_reducible show wpAny _ _ (subscriptTail _ _ (Value.ref _) (Value.int _ _)) _ _ _); k_dflt (refine' acc_itemL ?F ?X ?N ?h1 ?h2 ?h0 ?hfit ?hv ?_ ?hs ?ht; (case F | X | N => k_asm); (case h1 | h2 => k_mem); (case h0 | hfit => omega); (case hv => assumption); (case hs => exact rfl); (case ht => intro r9 s9 h9; exact wpAny_letTemporaryGo h9); k_whole))
  k_with "subscriptTail" => (k_here; (with_reducible show wpAny _ _ (subscriptTail _ _ (Value.ref _) (Value.int 1 _)) _ _ _); k_dflt (refine' tup1_B ?F ?hT ?_ ?hs; (case F => k_asm); (case hT => assumption); (case hs => exact rfl); k_whole))
  k_with "eval Name" => (k_here; k_dflt (refine' ld ?k1 ?k2 ?_; (case k1 => k_asm); (case k2 => first | assumption | exact YUp.to (by assumption)); k_whole))
  trivial
theorem nd_seven {pg dx li ac ax : Addr} {o1 o2 : Obj} (h : AllNe2 [pg, dx, li, ac, ax, 200, 207]) : NdT [li, ac, ax, 200, 207] ([(pg, o1), (dx, o2)].map (·.1)) := by
  obtain ⟨⟨_, a1, a2, a3, a4, a5, _⟩, ⟨b1, b2, b3, b4, b5, _⟩, ⟨c1, c2, c3, c4, _⟩, ⟨d1, d2, d3, _⟩, ⟨e1, e2, _⟩, ⟨f1, _⟩, _⟩ := h
  have key : ∀ {a : Nat}, YNe pg a → YNe dx a → a ∉ ([(pg, o1), (dx, o2)].map (·.1)) := fun h1 h2 hm => by
    rcases List.mem_cons.mp hm with e | hm
    · exact h1 e.symm
    · exact h2 (List.mem_singleton.mp hm).symm
  have nc : ∀ {a : Nat} {l : List Nat}, (∀ b ∈ l, a ≠ b) → l.Nodup → (a :: l).Nodup := fun h k => List.nodup_cons.mpr ⟨fun hm => h _ hm rfl, k⟩
  have fc : ∀ {a b : Nat} {l : List Nat}, a ≠ b → (∀ b ∈ l, a ≠ b) → ∀ c ∈ b :: l, a ≠ c := fun h k c hc => by
    rcases List.mem_cons.mp hc with rfl | hc
    · exact h
    · exact k c hc
  have f0 : ∀ {a : Nat}, ∀ b ∈ ([] : List Nat), a ≠ b := fun _ hb => nomatch hb
  exact ⟨nc (fc c1 (fc c2 (fc c3 (fc c4 f0)))) (nc (fc d1 (fc d2 (fc d3 f0))) (nc (fc e1 (fc e2 f0)) (nc (fc f1 f0) (nc f0 List.nodup_nil)))),
    List.forall_mem_cons.mpr ⟨key a1 b1, List.forall_mem_cons.mpr ⟨key a2 b2, List.forall_mem_cons.mpr ⟨key a3 b3, List.forall_mem_cons.mpr ⟨key a4 b4, List.forall_mem_cons.mpr ⟨key a5 b5, fun _ hm => nomatch hm⟩⟩⟩⟩⟩⟩
theorem chunk_spec
  (pg dx li : Addr) (wd nl : Nat) (lvs : Array Value) (lns : List Str) (V : FmtV) (ps qs : Array Value) (xs : List Str) (ac ax : Addr) (its : Array Value) (na : Nat) (hi : Int) (kt ti : Tok) (x : Str) (fu xu : Tok)
  (B : Below A₀ base outer h₀) (F : Fr h₀ L s.heap m) (X : (hd.heap_1 w.params).In h₀) (N : News h₀ L s.heap ([(pg, instObj 154 dx), (dx, dictOf (vfEs V wd li ac) 6), (li, listOf lvs nl), (ac, accObj ax its na), (ax, dictOf [⟨hi, .str "_initial_size" kt, .int 0 ti⟩] 1), (200, tabObj ps), (207, tabObj qs)])) (T : Top p loose mean mg mb h₀) (hkf : cs.kind = .function)
  (hdp : dp + 5 < recursionLimit) (hun : un + 80 < cLine)
  (hs : its.size < 80) (hls : lvs.size < 80) (hit : Items s.heap its xs) (hln : ∀ y ∈ xs ++ [x], y.length ≤ 200) (htp : TriplesOk ps.toList) (htq : TriplesOk qs.toList) (hG0 : AllBare s.gens)
  (hwd : wd ≤ 100) (hSl : StrsAre lvs.toList lns) (hAll : AllNe2 [pg, dx, li, ac, ax, 200, 207])
  (hret : ∀ (s' : Shared) (lvs' : Array Value) (nl' : Nat) (its' : Array Value) (na' : Nat) (hi' : Int) (kt' ti' : Tok) (ps' qs' : Array Value) (t' : Addr), s'.heap.get? t' = some (tupObj #[.str "" fu, .str x xu]) → s.heap.get? t' = none → (∀ v ∈ its'.toList, v ∈ its.toList ∨ v = .ref t') → Ge [li, ac, ax, 200, 207] s.heap s'.heap → s'.heap.get? li = some (listOf lvs' nl') → StrsAre lvs'.toList (chunkF wd (lns, xs) x).1 → s'.heap.get? ac = some (accObj ax its' na') → Items s'.heap its' (chunkF wd (lns, xs) x).2 → s'.heap.get? ax = some (dictOf [⟨hi', .str "_initial_size" kt', .int 0 ti'⟩] 1) → s'.heap.get? 200 = some (tabObj ps') → TriplesOk ps'.toList → s'.heap.get? 207 = some (tabObj qs') → TriplesOk qs'.toList → AllBare s'.gens → s'.os = s.os → Q .none s') :
  wpAny (model PySem.Challenge.rw_yj0031_01.row.prog w) (ktrTop dp un gd cn cs L a ccd cl outer) (call (.ref 151) [.ref pg, .str "" fu, .str x xu]) Q E s := by
  revert X; k_fill; intro X
  refine wpAny_call ?_
  refine' y_code ?k1 ?k2 ?k3 ?k4 ?k5 ?kA ?kF ?kK ?k6 ?k7 ?k8 ?k9 ?kB ?_ ?c2 ?c3 ?c4 ?c5
  (case kA | kF => exact rfl); (case kK | k1 | k2 | k3 | k4 | k5 => assumption); (case k6 | k7 => k_is); (case k8 => ktr_room); (case k9 => first | exact BindsTo.of_eq rfl | exact binds_K (by k_in) rfl (by k_is) rfl rfl rfl); (case c5 => decide); (case kB => exact locs rfl); (case c2 | c3 | c4 => exact rfl); have N0 := YOld.mk N; clear B F X N T; intro g L1 h1 hG F1 N1 B1 X1 T1 l1; (try dsimp only); (try k_fold)
  obtain ⟨TL, hTL⟩ : ∃ TL, TL = [(pg, instObj 154 dx), (dx, dictOf (vfEs V wd li ac) 6)] := ⟨_, rfl⟩
  have Dz : NdT [li, ac, ax, 200, 207] (TL.map (·.1)) := by rw [hTL]; exact nd_seven hAll
  have mpg : (pg, instObj 154 dx) ∈ TL := by rw [hTL]; exact .head _
  have mdx : (dx, dictOf (vfEs V wd li ac) 6) ∈ TL := by rw [hTL]; exact .tail _ (.head _)
  replace N1 : News g L1 h1 ((li, listOf lvs nl) :: (ac, accObj ax its na) :: (ax, dictOf [⟨hi, .str "_initial_size" kt, .int 0 ti⟩] 1) :: (200, tabObj ps) :: (207, tabObj qs) :: TL) := by rw [hTL]; exact News.pick [2, 3, 4, 5, 6, 0, 1] N1
  have hax : YNe ac ax := nd_yne (i := 1) (j := 2) Dz rfl rfl (by decide)
  clear hTL l1
  have I1 : Items g its xs := Items.led hit N0 hG rfl
  have hsz0 := hit.size
  have hln1 : ∀ y ∈ xs, y.length ≤ 200 := fun y hy => hln y (List.mem_append_left _ hy)
  k_steps
  rotate_left
  · (rename Fr _ _ _ _ => F10); (rename News _ _ _ _ => N10); (rename AllBare _ => G10); (rename _ = s.os => o10); (rename ¬ _ < total _ => hnt)
    have hcf : chunkF wd (lns, xs) x = (lns, xs ++ [x]) := by unfold chunkF; rw [if_neg hnt]
    obtain ⟨TT1, rfl⟩ := news_head N10
    refine hret _ _ _ _ _ _ _ _ _ _ _ (y_got N10 (a := TT1) (by k_mem)) (y_new N0 hG N10 (by k_mem) (by k_extra "apart")) (fun v hv => push_sub hv) (y_ge N0 hG F10 N10 (by k_extra "ge")) (y_got N10 (by k_mem)) (by rw [hcf]; exact hSl) (y_got N10 (by k_mem)) (by rw [hcf]; exact Items.push (Items.keep I1 F10.keep) (News.get N10 (by k_mem))) (y_got N10 (by k_mem)) (y_got N10 (by k_mem)) (by assumption) (y_got N10 (by k_mem)) (by assumption) G10 o10
  · (rename Fr _ _ _ _ => F5); (rename News _ _ _ _ => N5); (rename AllBare _ => G5); (rename _ = s.os => o5); (rename _ < total _ => htot)
    obtain ⟨tt, rfl⟩ := news_head N5
    refine y_for ?_ (fun _ => rfl)
    k_steps
    (rename Fr _ _ _ _ => F5); (rename News _ _ _ _ => N5); (rename NdT _ _ => D5)
    obtain ⟨NW, hN0, hNW⟩ := newsfun N5
    refine y_semi (D := fun I o s' => YStop (∃ m', YAnd8 (Fr g L1 s'.heap m') (NW s'.heap) (s'.heap.get? I = some o) (m' "self" = some (.ref pg)) (AllBare s'.gens) (s'.os = s.os) (brk xs its.size = none) True)) rfl ?_ (fun I o s' h => by obtain ⟨_, _, _, e, _⟩ := h; exact e) ?_
    · intro I o h' tk' u eI eo hk KR6 hKR6
      dsimp only at eI hk
      have F6 : Fr g L1 h' _ := ⟨F5.ns.keeps hk, fun b o e => hk b o (F5.keep b o e), F5.above⟩
      have N6 := y_fresh (h' := h') F5 (fun q hq => ⟨hk _ _ (N5 q hq).1, (N5 q hq).2⟩) eI eo
      have Dz := nd_al (y_apart N5 eI) D5 rfl
      clear F5 N5 D5
      k_steps
      refine y_for ?_ (fun _ => rfl)
      k_steps
      (rename IsRange _ _ _ _ _ _ _ _ => R7); (rename Fr _ _ _ _ => F7); (rename News _ _ _ _ => N7); (rename NdT _ _ => D7)
      obtain ⟨NV, hV0, hNV⟩ := newsfun N7
      have hch : (if ("ch" : Str) = "ch" then some (Value.str ";" u) else none) = some (Value.str ";" u) := rfl
      rw [Array.size_push, show ((its.size + 1 : Nat) : Int) - 1 = (its.size : Int) from Int.add_sub_cancel (its.size : Int) 1] at R7
      refine YStop.to (y_down (N := its.size) (J := fun I2 k s' => YStop (∃ m', YAnd8 (Fr g L1 s'.heap m') (NV s'.heap) (IsRangeIter s'.heap I2 ((its.size : Int) - k) ((its.size : Int) - k) (-1)) (m' "self" = some (.ref pg)) (m' "ch" = some (.str ";" u)) (AllBare s'.gens) (s'.os = s.os) (brk xs its.size = brk xs (its.size - k)))) rfl (by omega) R7 ?_ (fun I k s' h _ => by obtain ⟨_, _, _, e, _⟩ := h; exact e) ?_ ?_)
      · intro I2 h2 eI2 hk2 hit2
        refine YStop.to ⟨_, F7.keeps hk2, (hNV _).mpr fun q hq => ⟨hk2 _ _ (N7 q hq).1, (N7 q hq).2⟩, by simpa using hit2, rfl, rfl, G5, o5, rfl⟩
      · rintro I2 k ⟨hp8, gs8, d8, tk8, os8⟩ h9 tk9 tki eI2 hk2 ⟨m8, F8, V8, _, ms8, mc8, G8, o8, b8⟩ hit9 hkeep9 KR9 hKR9
        dsimp only at F8 V8 G8 o8 hkeep9 eI2 ⊢
        have Dz := nd_al (y_apart N7 eI2) D7 rfl
        obtain ⟨F9, N9⟩ := y_iter_step F7 N7 eI2 F8 ((hNV _).mp V8) hkeep9 hit9
        clear F7 N7 F8 V8 D7
        obtain ⟨Ts, U, V, hsz, hj⟩ := id I1
        obtain ⟨hv9, hT9⟩ := hj (its.size - k - 1) (ar_s2 hk2)
        have hv : (its.push (.ref tt))[((its.size : Int) - k - 1).toNat]? = some (.ref (Ts (its.size - k - 1))) := by
          rw [show ((its.size : Int) - k - 1).toNat = its.size - k - 1 from ar_s4 _ _, Array.getElem?_push, if_neg (Nat.ne_of_lt (ar_s2 hk2))]; exact hv9
        have hf9 := getD_len hln1 (its.size - k - 1)
        obtain ⟨y9, hy9⟩ : ∃ y, y = xs.getD (its.size - k - 1) "" := ⟨_, rfl⟩
        rw [← hy9] at hT9 hf9
        k_steps
        · refine TE.brk (by assumption) _ ?_
          k_steps
          refine TE.brk (by assumption) _ ?_
          k_steps
          (rename Fr _ _ _ _ => F10); (rename News _ _ _ _ => N10); (rename AllBare _ => G10); (rename _ = os8 => o10)
          have hbk := brk_yes (n := its.size) (xs := xs) hk2 b8 (by rw [← hy9]; assumption) (by rw [← hy9]; assumption)
          have hcf : chunkF wd (lns, xs) x = (lns ++ [Txt.join "" ((xs ++ [x]).take (its.size - k))], (xs ++ [x]).drop (its.size - k)) := by
            unfold chunkF
            rw [if_pos htot, ← hsz, hbk]
          have hik : ((its.size : Int) - k).toNat = its.size - k := ar_s3 _ _
          rw [hik] at N10
          refine hret _ _ _ _ _ _ _ _ _ _ _ (y_got N10 (a := tt) (by k_mem)) (y_new N0 hG N10 (by k_mem) (by k_extra "apart")) (fun v hv => push_sub (ext_sub hv)) (y_ge N0 hG F10 N10 (by k_extra "ge")) (y_got N10 (by k_mem)) (by rw [hcf, Array.toList_push]; exact strs_snoc hSl) (y_got N10 (by k_mem)) (by rw [hcf]; exact Items.drop (Items.push (Items.keep I1 F10.keep) (News.get N10 (by k_mem))) _) (y_got N10 (by k_mem)) (y_got N10 (by k_mem)) (by assumption) (y_got N10 (by k_mem)) (by assumption) G10 (o10.trans o8)
        · (rename Fr _ _ _ _ => F10); (rename News _ _ _ _ => N10)
          k_extra "te"; exact YStop.to ⟨_, F10, (hNV _).mpr fun q hq => N10 q (.tail _ hq), (N10 _ (.head _)).1, ms8, mc8, G8, o8, brk_no hk2 b8 (.inr (by rw [← hy9]; first | assumption | simpa using (by assumption : ¬ (Txt.item y9 (-1) == (";" : Str)) = true)))⟩
        · (rename Fr _ _ _ _ => F10); (rename News _ _ _ _ => N10)
          k_extra "te"; exact YStop.to ⟨_, F10, (hNV _).mpr fun q hq => N10 q (.tail _ hq), (N10 _ (.head _)).1, ms8, mc8, G8, o8, brk_no hk2 b8 (.inl (by rw [← hy9]; first | assumption | omega))⟩
      · rintro I2 ⟨hp8, gs8, d8, tk8, os8⟩ h9 tk9 eI2 ⟨m8, F8, V8, _, ms8, mc8, G8, o8, b8⟩ hkeep9
        dsimp only at F8 V8 G8 o8 hkeep9 eI2 ⊢
        obtain ⟨F9, N9⟩ := y_iter_done F7 N7 eI2 F8 ((hNV _).mp V8) hkeep9
        clear F7 N7 F8 V8
        k_steps
        (rename Fr _ _ _ _ => F10); (rename News _ _ _ _ => N10)
        k_extra "te"; exact YStop.to ⟨_, F10, (hNW _).mpr fun q hq => N10 q (.tail _ hq), (N10 _ (.head _)).1, ms8, G8, o8, by rw [b8, Nat.sub_self]; rfl, trivial⟩
    · rintro I o ⟨hp8, gs8, d8, tk8, os8⟩ h9 tk9 eI ⟨m8, F8, W8, _, ms8, G8, o8, b8, _⟩ hkeep9
      dsimp only at F8 W8 G8 o8 hkeep9 eI ⊢
      obtain ⟨F9, N9⟩ := y_iter_done F5 N5 eI F8 ((hNW _).mp W8) hkeep9
      clear F5 N5 F8 W8
      k_steps
      (rename Fr _ _ _ _ => F10); (rename News _ _ _ _ => N10)
      have hcf : chunkF wd (lns, xs) x = (lns, xs ++ [x]) := by
        unfold chunkF
        rw [if_pos htot, ← hsz0, b8]
      obtain ⟨TT3, rfl⟩ := news_head N10
      exact hret _ _ _ _ _ _ _ _ _ _ _ (y_got N10 (a := TT3) (by k_mem)) (y_new N0 hG N10 (by k_mem) (by k_extra "apart")) (fun v hv => push_sub hv) (y_ge N0 hG F10 N10 (by k_extra "ge")) (y_got N10 (by k_mem)) (by rw [hcf]; exact hSl) (y_got N10 (by k_mem)) (by rw [hcf]; exact Items.push (Items.keep I1 F10.keep) (News.get N10 (by k_mem))) (y_got N10 (by k_mem)) (y_got N10 (by k_mem)) (by assumption) (y_got N10 (by k_mem)) (by assumption) G8 o8
end
section -- JPg
theorem zsJPg : True := by
  w_top off
  k_with_none
  k_with "sub" => first | exact y_subn | (intro qz hqz; with_reducible exact hqz) | (refine subc (by k_mem) ?_; k_extra "sub") | (refine y_subt ?_; k_extra "sub")
  trivial
open PySem.Calls
theorem y_callM {h₀ h h' : Heap} {L : Addr} {m : Str → Option Value} {news news' : List (Addr × Obj)} {mu : List Addr} (F : Fr h₀ L h m) (N : News h₀ L h news) (G : Ge mu h h') (hm : ∀ b ∈ mu, ∃ o, (b, o) ∈ news)
    (hn : ∀ p ∈ news', (p.1 ∈ mu ∧ h'.get? p.1 = some p.2) ∨ (p ∈ news ∧ p.1 ∉ mu)) : Fr h₀ L h' m ∧ News h₀ L h' news' := by
  refine ⟨y_fr_ge F G fun b hb => ?_, fun p hp => ?_⟩
  · obtain ⟨o, ho⟩ := hm b hb
    exact (N _ ho).2
  · rcases hn p hp with ⟨h1, h2⟩ | ⟨h1, h2⟩
    · obtain ⟨o, ho⟩ := hm _ h1
      exact ⟨h2, (N _ ho).2⟩
    · exact ⟨G _ _ h2 (N p h1).1, (N p h1).2⟩
theorem or_fold {P : Addr × Obj → Prop} {a : Addr × Obj} {r : List (Addr × Obj)} (h : P a) (k : ∀ p ∈ r, P p) : ∀ p ∈ a :: r, P p := fun p hp => by
  rcases List.mem_cons.mp hp with rfl | hp
  · exact h
  · exact k p hp
variable {w p loose mean mg mb dp un gd cn cs a ccd cl outer A₀ base h₀ L m s Q E}
theorem newline_7
   {pg dx li : Addr} {wd nl : Nat} {lvs : Array Value} {lns : List Str} {V : FmtV} {ps qs : Array Value} {xs : List Str} {ac ax : Addr} {its : Array Value} {na : Nat} {hi : Int} {kt ti : Tok} {rest : List (Addr × Obj)} {x : Str}
  (B : Below A₀ base outer h₀) (F : Fr h₀ L s.heap m) (X : (hd.heap_1 w.params).In h₀) (N : News h₀ L s.heap ((pg, instObj 154 dx) :: (dx, dictOf (vfEs V wd li ac) 6) :: (li, listOf lvs nl) :: (ac, accObj ax its na) :: (ax, dictOf [⟨hi, .str "_initial_size" kt, .int 0 ti⟩] 1) :: (200, tabObj ps) :: (207, tabObj qs) :: rest)) (T : Top p loose mean mg mb h₀) (hkf : cs.kind = .function) (hdp : dp + 5 < recursionLimit) (hun : un + 80 < cLine)
  (hs : its.size < 70) (hls : lvs.size < 80) (hit : Items s.heap its (xs ++ [x])) (hln : ∀ y ∈ xs ++ [x], y.length ≤ 200) (htp : TriplesOk ps.toList) (htq : TriplesOk qs.toList) (hG0 : AllBare s.gens)
  (hSl : StrsAre lvs.toList lns) (hok : PyData.strOk x = true) (ht0 : 0 < total (xs ++ [x])) (hns : Txt.isspace (Txt.join "" (xs ++ [x])) = false) (hAll : AllNe2 [pg, dx, li, ac, ax, 200, 207]) (hr : ∀ p ∈ rest, p.1 ∉ [li, ac, ax, 200, 207])
  (hret : ∀ (s' : Shared) (lvs' : Array Value) (nl' : Nat) (na' : Nat) (hi' : Int) (kt' ti' : Tok) (ps' qs' : Array Value), Fr h₀ L s'.heap m → News h₀ L s'.heap ((pg, instObj 154 dx) :: (dx, dictOf (vfEs V wd li ac) 6) :: (li, listOf lvs' nl') :: (ac, accObj ax #[] na') :: (ax, dictOf [⟨hi', .str "_initial_size" kt', .int 0 ti'⟩] 1) :: (200, tabObj ps') :: (207, tabObj qs') :: rest) → StrsAre lvs'.toList (lns ++ [Txt.join "" (xs ++ [x])]) → TriplesOk ps'.toList → TriplesOk qs'.toList → AllBare s'.gens → s'.os = s.os → Q .none s') :
  wpAny (model PySem.Challenge.rw_yj0031_01.row.prog w) (ktrTop dp un gd cn cs L a ccd cl outer) (call (.ref 116) [.ref pg]) Q E s := by
  refine newline_spec _ _ _ _ _ _ _ _ _ _ _ _ _ _ _ _ _ _ _ _ _ _ _  pg dx li wd nl lvs lns V ps qs xs ac ax its na hi kt ti x B F X (y_sub N (by k_extra "sub")) T hkf hdp hun hs hls hit hln htp htq hG0 hSl hok ht0 hns hAll ?_
  intro s' lvs' nl' na' hi' kt' ti' ps' qs' G e1 j1 e2 e3 e4 j4 e5 j5 hG ho
  simp only [AllNe2, AllNe1, and_true] at hAll
  obtain ⟨⟨a1, a2, a3, a4, a5, a6⟩, ⟨a7, a8, a9, a10, a11⟩, _⟩ := hAll
  obtain ⟨F', N'⟩ := y_callM (news' := (pg, instObj 154 dx) :: (dx, dictOf (vfEs V wd li ac) 6) :: (li, listOf lvs' nl') :: (ac, accObj ax #[] na') :: (ax, dictOf [⟨hi', .str "_initial_size" kt', .int 0 ti'⟩] 1) :: (200, tabObj ps') :: (207, tabObj qs') :: rest) F N G (by intro b hb; simp only [List.mem_cons, List.mem_nil_iff, or_false] at hb; rcases hb with rfl | rfl | rfl | rfl | rfl <;> first | exact ⟨_, .tail _ (.tail _ (.head _))⟩ | exact ⟨_, .tail _ (.tail _ (.tail _ (.head _)))⟩ | exact ⟨_, .tail _ (.tail _ (.tail _ (.tail _ (.head _))))⟩ | exact ⟨_, .tail _ (.tail _ (.tail _ (.tail _ (.tail _ (.head _)))))⟩ | exact ⟨_, .tail _ (.tail _ (.tail _ (.tail _ (.tail _ (.tail _ (.head _))))))⟩)
    (or_fold (.inr ⟨by simp, by simp only [List.mem_cons, List.mem_nil_iff, or_false, not_or]; exact ⟨YNe.to a2, YNe.to a3, YNe.to a4, YNe.to a5, YNe.to a6⟩⟩)
      (or_fold (.inr ⟨by simp, by simp only [List.mem_cons, List.mem_nil_iff, or_false, not_or]; exact ⟨YNe.to a7, YNe.to a8, YNe.to a9, YNe.to a10, YNe.to a11⟩⟩)
        (or_fold (.inl ⟨by simp, e1⟩) (or_fold (.inl ⟨by simp, e2⟩) (or_fold (.inl ⟨by simp, e3⟩) (or_fold (.inl ⟨by simp, e4⟩) (or_fold (.inl ⟨by simp, e5⟩)
          fun p hp => .inr ⟨by simp [hp], hr p hp⟩)))))))
  exact hret s' lvs' nl' na' hi' kt' ti' ps' qs' F' N' j1 j4 j5 hG ho
end
section -- JMap
theorem zsJMap : True := by
  k_with "omega" => (lia)
  trivial
open PySem.Calls PySem.Builtin
theorem slot_map_next : Slot "map" "__next__" "map.__next__" := .of (owner := "map") (n := "__next__") (by rw [typeLookup_type, builtinLookup_eq_fast]; kernel_rfl) (by decide +kernel) (by decide +kernel) (by decide +kernel)
    (by first | exact .inl (by decide +kernel) | exact .inr (by decide +kernel)) (by rw [isSubtype_type]; kernel_rfl)
theorem slot_map_iter : Slot "map" "__iter__" "map.__iter__" := .of (owner := "map") (n := "__iter__") (by rw [typeLookup_type, builtinLookup_eq_fast]; kernel_rfl) (by decide +kernel) (by decide +kernel) (by decide +kernel)
    (by first | exact .inl (by decide +kernel) | exact .inr (by decide +kernel)) (by rw [isSubtype_type]; kernel_rfl)
theorem slot_map_init : Slot "map" "__init__" "object.__init__" := .of (owner := "object") (n := "__init__") (by rw [typeLookup_type, builtinLookup_eq_fast]; kernel_rfl) (by decide +kernel) (by decide +kernel) (by decide +kernel)
    (by first | exact .inl (by decide +kernel) | exact .inr (by decide +kernel)) (by rw [isSubtype_type]; kernel_rfl)
theorem entry_map_next : entryFor table "map.__next__" = some Builtin.«map.__next__» := entryFor_of_tree (by kernel_rfl)
theorem entry_map_iter : entryFor table "map.__iter__" = some Builtin.«dict_keyiterator.__iter__» :=
  entryFor_alias (id' := "dict_keyiterator.__iter__") (by kernel_rfl) (by first | rfl | decide +kernel | (unfold String.splitOn; simp +decide [String.splitOnAux])) (by decide +kernel) (by kernel_rfl)
theorem args_map_next (a : Value) : argsOk "map.__next__" ⟨[a], []⟩ := by unfold argsOk; kernel_rfl
theorem args_map_iter (a : Value) : argsOk "map.__iter__" ⟨[a], []⟩ := by unfold argsOk; kernel_rfl
theorem mro_map : mroOf (.type "map") = pure [.type "map", .type "object"] := by rw [mroOf_type]; kernel_rfl
theorem lookup_map_new : typeLookup (.type "map") "__new__" = pure (some (.builtin "map.__new__")) := by rw [typeLookup_type, builtinLookup_eq_fast]; kernel_rfl
theorem called_map : TypeCalled "map" "map.__new__" "object.__init__" :=
  ⟨by decide +kernel, by decide +kernel, ⟨_, _, mro_map⟩, madeBy_type mro_map lookup_map_new (by decide +kernel), by decide +kernel, by rw [isSubtype_type]; kernel_rfl, slot_map_init⟩
theorem typeCall_map (a b : Value) : checkTypeCall "map" ⟨[a, b], []⟩ = pure () := by kernel_rfl
theorem newCall_map (a b : Value) : checkBuiltinCall "map.__new__" ⟨[.type "map", a, b], []⟩ = pure () := by kernel_rfl
theorem entry_map_new : entryFor table "map.__new__" = some Builtin.«map.__new__» := entryFor_of_tree (by kernel_rfl)
theorem sub_map : isSubtype (.type "map") (.type "map") = pure true := by rw [isSubtype_type]; kernel_rfl
theorem map_no_len : typeLookup (.type "map") "__len__" = pure none := by rw [typeLookup_type, builtinLookup_eq_fast]; kernel_rfl
theorem map_no_hint : typeLookup (.type "map") "__length_hint__" = pure none := by rw [typeLookup_type, builtinLookup_eq_fast]; kernel_rfl
noncomputable abbrev mapObj (T : Addr) (f : Value) : Obj := { cls := .type "map", data := .fields #[.ref T, f] }
noncomputable abbrev litObj (l : Addr) : Obj := { cls := .type "list_iterator", data := .fields #[.ref l, .int 0 0] }
theorem meets_map_new (f : Value) (l : Addr) (xs : Array Value) :
    Meets (Builtin.«map.__new__» ⟨[.type "map", f, .ref l], []⟩) (fun _ R s => s.heap.IsList l xs ∧
      R (.ok (.ret (.ref ((s.heap.push (litObj l)).push (tupObj #[.ref s.heap.objs.size])).objs.size))) { s with heap := ((s.heap.push (litObj l)).push (tupObj #[.ref s.heap.objs.size])).push (mapObj (s.heap.push (litObj l)).objs.size f) }) :=
  .of_wp fun prog w A R s h => by
    obtain ⟨hp, g, d, tk, os⟩ := s; obtain ⟨hl1, h⟩ := h
    have hsub := sub_map
    have hL1 : Heap.IsList (Shared.heap ⟨hp, g, d, tk, os⟩) l xs := hl1
    wp_walk using wpAny_pyIter_list hL1
    exact ⟨_, rfl, h⟩
section
variable {prog : Program} {w : World} {A : Around} {E : Value → Shared → Prop} {s : Shared} {M T I l : Addr} {k : Nat} {xs : Array Value}
noncomputable abbrev capV : Value := .builtin "str.capitalize"
theorem map_next_item {y : Str} {u : Tok} {Q : Value → Shared → Prop} (hM : s.heap.get? M = some (mapObj T capV)) (hT : s.heap.get? T = some (tupObj #[.ref I])) (hI : s.heap.IsListIter I l k) (hl : s.heap.IsList l xs) (hx : xs[k]? = some (.str y u)) (hMI : M ≠ I)
    (hy : y.length ≤ 1000) (hQ : ∀ h' t tk, h'.IsListIter I l (k + 1) → Heap.SameBut I s.heap h' → Q (.str (Txt.capitalize y) t) { s with heap := h', toks := tk }) :
    wpAny (model prog w) A (Builtin.«map.__next__» ⟨[.ref M], []⟩) (fun fin s' => ∃ v, fin = .done (.ret v) ∧ Q v s') E s := by
  show wpAny _ _ (field (.ref M) 0 >>= _) _ _ _
  refine wpAny_bind (wpAny_field hM rfl (x := .ref T) rfl ?_)
  refine wpAny_bind (wpAny_seqItems hT rfl ?_)
  (try dsimp only)
  refine wpAny_bind ?_
  rw [← Array.forIn_toList]
  show wpAny _ _ (forIn [Value.ref I] #[] _) _ _ _
  rw [List.forIn_cons]
  refine wpAny_bind (wpAny_bind (wpAny_holding (wpAny_nextOf_list_item hI hl hx fun h₁ hI₁ hs₁ => wpAny_pure ?_)))
  (try dsimp only)
  rw [List.forIn_nil]
  refine wpAny_pure ?_
  have hM₁ := hs₁.extBut _ _ hMI hM
  refine wpAny_bind (wpAny_field hM₁ rfl (x := capV) rfl ?_)
  refine wpAny_bind (wpAny_holding (SCL.capitalize (by omega) fun t' k' _ => ?_))
  refine wpAny_bind (wpAny_letGo ?_)
  exact wpAny_pure ⟨_, rfl, hQ _ _ _ hI₁ hs₁⟩
theorem map_next_end {Q : Fin → Shared → Prop} (hh : A.handled = none) (hM : s.heap.get? M = some (mapObj T capV)) (hT : s.heap.get? T = some (tupObj #[.ref I])) (hI : s.heap.IsListIter I l k) (hl : s.heap.IsList l xs) (hx : xs[k]? = none)
    (hE : ∀ h' e, Heap.ExtBut I s.heap h' → (∃ o, h'.get? e = some o ∧ o.cls = .type "StopIteration") → E (.ref e) { s with heap := h' }) :
    wpAny (model prog w) A (Builtin.«map.__next__» ⟨[.ref M], []⟩) Q E s := by
  show wpAny _ _ (field (.ref M) 0 >>= _) _ _ _
  refine wpAny_bind (wpAny_field hM rfl (x := .ref T) rfl ?_)
  refine wpAny_bind (wpAny_seqItems hT rfl ?_)
  (try dsimp only)
  refine wpAny_bind ?_
  rw [← Array.forIn_toList]
  show wpAny _ _ (forIn [Value.ref I] #[] _) _ _ _
  rw [List.forIn_cons]
  exact wpAny_bind (wpAny_bind (wpAny_holding (wpAny_nextOf_list_end hh hI hl hx fun h' e hs he => hE h' e hs he)))
theorem Walks_map (hh : A.handled = none) (hMI : M ≠ I) (hTI : T ≠ I) (hlI : l ≠ I) (ys : List Str) (hys : StrsAre xs.toList ys) (hlen : ∀ y ∈ ys, y.length ≤ 1000) :
    Walks prog w A M [M, T, I, l] [I] xs.size (fun i v => ∃ t, v = .str (Txt.capitalize (ys.getD i "")) t)
      (fun i h => h.get? M = some (mapObj T capV) ∧ h.get? T = some (tupObj #[.ref I]) ∧ h.IsListIter I l i ∧ h.IsList l xs) where
  sub := fun b hb => by simp at hb; simp [hb]
  frame := fun i h h' st hk => ⟨hk M (by simp) _ st.1, hk T (by simp) _ st.2.1, st.2.2.1.at fun o e => hk I (by simp) o e, st.2.2.2.at fun o e => hk l (by simp) o e⟩
  item := fun i s Q E hi st hQ => by
    obtain ⟨hM, hT, hI, hl⟩ := st
    obtain ⟨y, u, hx, hy, hym⟩ : ∃ y u, xs[i]? = some (.str y u) ∧ ys.getD i "" = y ∧ y ∈ ys := by
      have key : ∀ (vs : List Value) (ys : List Str) (i : Nat), StrsAre vs ys → i < vs.length → ∃ y u, vs[i]? = some (.str y u) ∧ ys.getD i "" = y ∧ y ∈ ys := by
        intro vs ys i h
        induction h generalizing i with
        | nil => intro hi; exact absurd hi (Nat.not_lt_zero _)
        | cons y t h ih =>
          intro hi
          cases i with
          | zero => exact ⟨y, t, rfl, rfl, List.mem_cons_self⟩
          | succ j =>
            obtain ⟨y', u', e1, e2, e3⟩ := ih j (by simpa using hi)
            exact ⟨y', u', by simpa using e1, by simpa using e2, List.mem_cons_of_mem _ e3⟩
      have := key xs.toList ys i hys (by simpa using hi)
      simpa using this
    have hty : s.TypeIs (.ref M) "map" := ⟨_, hM, rfl⟩
    unfold pyNext
    refine wpAny_bind (wpAny_attempt (wpAny_callSpecial?_slot (name := Str.ofString "__next__") hty slot_map_next (wpAny_call_entry slot_map_next hty entry_map_next
      (map_next_item hM hT hI hl hx hMI (hlen y hym) fun h' t tk hI' hs => wpAny_pure ?_) (args_map_next _))))
    exact hQ _ h' tk ⟨t, by rw [hy]⟩ ⟨hs.extBut _ _ hMI hM, hs.extBut _ _ hTI hT, hI', hl.extBut hs.extBut hlI⟩ fun b o hb e => hs.extBut b o (fun h => hb (by simp [h])) e
  done := fun s Q E st hQ => by
    obtain ⟨hM, hT, hI, hl⟩ := st
    have hty : s.TypeIs (.ref M) "map" := ⟨_, hM, rfl⟩
    unfold pyNext
    refine wpAny_bind (wpAny_attempt (wpAny_callSpecial?_slot (name := Str.ofString "__next__") hty slot_map_next (wpAny_call_entry slot_map_next hty entry_map_next
      (map_next_end hh hM hT hI hl (Array.getElem?_eq_none (Nat.le_refl _)) fun h' e hk he => ?_) (args_map_next _))))
    obtain ⟨o, ho, hc⟩ := he
    refine wpAny_bind (wpAny_isInstance (T := "StopIteration") (b := true) ⟨o, ho, hc⟩ isSubtype_stop ?_)
    exact wpAny_pure (hQ h' s.toks fun b o hb e => hk b o (fun h => hb (by simp [h])) e)
  self := fun i s Q E st hQ => by
    have hty : s.TypeIs (.ref M) "map" := ⟨_, st.1, rfl⟩
    refine wpAny_pyIter_slot hty slot_map_iter (wpAny_call_entry slot_map_iter hty entry_map_iter ?_ (args_map_iter _))
    show wpAny _ _ (ret (.ref M)) _ _ s
    exact wpAny_pure ⟨_, rfl, "map", _, hty, slot_map_next.lookup, hQ⟩
end
section
variable {prog : Program} {w : World} {A : Around} {E : Value → Shared → Prop} {s : Shared} {I : Addr} {fp wr : List Addr} {G : Array GenState → Array GenState → Prop} {n : Nat} {P : Nat → Value → Prop} {St : Nat → Shared → Prop}
theorem touched (h : Heap) : (∃ c, (((h.push (listOf #[] 0)).update h.objs.size (Obj.mapSeq (·.push Value.none))).update h.objs.size (Obj.mapSeq (·.pop))).get? h.objs.size = some (listOf #[] c)) ∧
    ∀ b o, h.get? b = some o → (((h.push (listOf #[] 0)).update h.objs.size (Obj.mapSeq (·.push Value.none))).update h.objs.size (Obj.mapSeq (·.pop))).get? b = some o := by
  have e0 : (h.push (listOf #[] 0)).get? h.objs.size = some (listOf #[] 0) := Heap.get?_push_size _ rfl
  have e1 := Heap.get?_update_self (Obj.mapSeq (·.push Value.none)) e0 rfl
  have e2 := Heap.get?_update_self (Obj.mapSeq (·.pop)) e1 rfl
  refine ⟨⟨_, e2⟩, fun b o e => ?_⟩
  have hb : h.objs.size ≠ b := fun q => Nat.lt_irrefl _ (q ▸ Heap.lt_size e)
  rw [Heap.get?_update_other _ _ hb, Heap.get?_update_other _ _ hb]
  exact Heap.get?_push_of_some _ e
theorem collect_map {Q : List Value → Shared → Prop} (W : WalksS prog w A.in1 I fp wr G n P St) (hT : ∀ i s, St i s → s.TypeIs (.ref I) "map") (hst : St 0 s) (hfp : ∀ b ∈ fp, b < s.heap.objs.size) (hI : I ∈ fp)
    (hQ : ∀ s' acc, Moved wr G s s' → ItemsOf P acc n → Q acc.toList s') (hn : n ≤ sizeLine) : wpAny (model prog w) A (collect (.ref I)) Q E s := by
  have hS : s.heap.objs.size ∉ fp := fun hm => Nat.lt_irrefl _ (hfp _ hm)
  have st1 := W.frame 0 s (s.heap.push (listOf #[] 0)) s.toks hst (Nat.le_refl _) fun b _ o e => Heap.get?_push_of_some _ e
  obtain ⟨⟨c, hc⟩, hk⟩ := touched s.heap
  have st2 := W.frame 0 s _ s.toks hst (Nat.le_refl _) fun b _ o e => hk b o e
  have eS : (s.heap.push (listOf #[] 0)).get? s.heap.objs.size = some (listOf #[] 0) := Heap.get?_push_size _ rfl
  have loop := codeAny_extend_loopS (R := fun r s' => match r with | .ok (.ret v) => v = .ref s.heap.objs.size ∧ ∃ acc c', s'.heap.get? s.heap.objs.size = some (listOf acc c') ∧ ItemsOf P acc n ∧ Moved wr G s s' | _ => False)
    W hn s.heap.objs.size hS (.ref s.heap.objs.size) n 0 _ #[] c rfl (Nat.zero_le _) st2 hc (ItemsOf.nil P) (fun s' acc' c' hm hS' ha => ⟨rfl, acc', c', hS', ha,
      ⟨fun b o hb e => hm.heap b o (fun q => by rcases List.mem_cons.mp q with rfl | q; exact Nat.lt_irrefl _ (Heap.lt_size e); exact hb q) (hk b o e), hm.gens, hm.drawn, hm.os, hm.toks⟩⟩)
  unfold collect
  refine wpAny_bind (wpAny_runValue (codeAny_builtin F.entry_proto_collect ?_))
  rw [Around.under_plainId F.plain_proto_collect _]
  refine wpAny_bind (m := newList []) (wpAny_newObj_type ?_ (by size_fits))
  refine wpAny_pure ⟨plainId_quiet F.plain_list_iadd _, codeAny_builtin F.entry_list_iadd ?_⟩
  rw [Around.under_plainId F.plain_list_iadd _]
  refine wpAny_bind (m := typeOf (.ref I)) (wpAny_typeOf (hT 0 _ st1) ?_)
  rw [if_neg (by simp [Builtin.List.listSameRef]; exact fun e => hS (e ▸ hI))]
  refine wpAny_bind (W.self 0 _ _ _ st1 (wpAny_bind (wpAny_holding ?_)))
  unfold Builtin.List.listLengthHint
  refine wpAny_bind (wpAny_specialOf (hT 0 _ st1) map_no_len ?_)
  (try dsimp only)
  refine wpAny_bind (wpAny_specialOf (hT 0 _ st1) map_no_hint (wpAny_pure ?_))
  refine wpAny_bind (m := rule _) (wpAny_rule (wpAny_bind (m := Builtin.List.listTouch _) ?_))
  refine wpAny_bind (m := updateSeq s.heap.objs.size (·.push .none)) (wpAny_updateSeq eS rfl (wpAny_updateSeq (Heap.get?_update_self (Obj.mapSeq (·.push Value.none)) eS rfl) rfl ?_))
  refine wpAny_pure ⟨plainId_quiet F.plain_extend_loop _, codeAny_mono loop fun r s' z => ?_⟩
  rcases r with e | (v | _ | _ | _) <;> first | exact z.elim | skip
  obtain ⟨rfl, acc, c', h1, h2, h3⟩ := z
  exact wpAny_bind (wpAny_load h1 (wpAny_pure (hQ s' acc h3 h2)))
end
theorem caps_of {ys : List Str} {acc : Array Value} {n : Nat} (hn : n = ys.length) (h : ItemsOf (fun i v => ∃ t, v = .str (Txt.capitalize (ys.getD i "")) t) acc n) : ∃ l : List (Str × Tok), strValues l = acc.toList ∧ l.map (·.1) = ys.map Txt.capitalize := by
  obtain ⟨h1, h2⟩ := h
  obtain ⟨l, hl⟩ := exists_strValues acc.toList fun v hv => by
    obtain ⟨j, hj, rfl⟩ := Array.mem_iff_getElem.mp (Array.mem_toList_iff.mp hv)
    obtain ⟨t, e⟩ := h2 j _ (Array.getElem?_eq_getElem hj)
    exact ⟨_, _, e⟩
  have hlen : l.length = ys.length := by
    have := congrArg List.length hl
    simp only [strValues, List.length_map, Array.length_toList] at this
    omega
  refine ⟨l, hl, List.ext_getElem (by simp [hlen]) fun j hj hj' => ?_⟩
  simp only [List.length_map] at hj hj'
  have e1 : acc[j]? = some (.str l[j].1 l[j].2) := by
    rw [← Array.getElem?_toList, ← hl]
    simp only [strValues, List.getElem?_map, List.getElem?_eq_getElem hj, Option.map_some]
  obtain ⟨t, e2⟩ := h2 j _ e1
  simp only [Value.str.injEq] at e2
  simp only [List.getElem_map]
  rw [e2.1, List.getD_eq_getElem?_getD, List.getElem?_eq_getElem hj']
  rfl
theorem join_map {sep : Str} {t : Tok} {M T I l : Addr} {xs : Array Value} {ys : List Str} {prog : Program} {w : World} {A : Around} {E : Value → Shared → Prop} {s : Shared} {Q : Value → Shared → Prop} (hh : A.handled = none)
    (hM : s.heap.get? M = some (mapObj T capV)) (hT : s.heap.get? T = some (tupObj #[.ref I])) (hI : s.heap.IsListIter I l 0) (hl : s.heap.IsList l xs) (hMI : M ≠ I) (hTI : T ≠ I) (hlI : l ≠ I) (hys : StrsAre xs.toList ys) (hlen : ∀ y ∈ ys, y.length ≤ 1000) (hz : ys.length ≤ 1000)
    (hok : JoinOk sep (ys.map Txt.capitalize) = true)
    (hQ : ∀ h' t' k', (∀ b o, b ≠ I → s.heap.get? b = some o → h'.get? b = some o) → Q (.str (Txt.join sep (ys.map Txt.capitalize)) t') { s with heap := h', toks := k' }) :
    wpAny (model prog w) A (call (.builtin "str.join") [.str sep t, .ref M]) Q E s := by
  have hsz : xs.size = ys.length := by rw [← Array.length_toList, strs_size hys]
  have W := (Walks_map (prog := prog) (w := w) (A := A.in1.in1) hh hMI hTI hlI ys hys hlen).toS
  have hst : (fun i (s : Shared) => s.heap.get? M = some (mapObj T capV) ∧ s.heap.get? T = some (tupObj #[.ref I]) ∧ s.heap.IsListIter I l i ∧ s.heap.IsList l xs) 0 s := ⟨hM, hT, hI, hl⟩
  refine wpAny_call (codeAny_call_builtin F.slot_str_join.plain F.entry_str_join (F.slot_str_join.check _ _ _ _ _ _ _ _ (typeIs_str _ _ _) (F.args_str_join_2 _ _) ?_))
  rw [join_tree_other]
  refine wpAny_bind (wpAny_typeOf ⟨_, hM, rfl⟩ ?_)
  show wpAny _ A.in1 ((pyIter (.ref M)).tryCatch _ >>= fun it => collect it >>= fun items => joinTail sep items) _ _ s
  refine wpAny_bind (wpAny_tryCatch (W.of_in1.self 0 s _ _ hst ?_))
  refine wpAny_bind (collect_map W (fun i s st => ⟨_, st.1, rfl⟩) hst ?_ (by simp) (fun s' acc hm hacc => ?_) ?_)
  · intro b hb
    simp only [List.mem_cons, List.mem_nil_iff, or_false] at hb
    rcases hb with rfl | rfl | rfl | rfl
    · exact Heap.lt_size hM
    · exact Heap.lt_size hT
    · obtain ⟨_, e, _⟩ := hI; exact Heap.lt_size e
    · obtain ⟨_, e, _⟩ := hl; exact Heap.lt_size e
  · obtain ⟨L, hL, hmap⟩ := caps_of hsz hacc
    rw [← hL]
    rw [← hmap] at hok hQ
    unfold JoinOk at hok
    rw [Bool.not_eq_true'] at hok
    have g : Gives (joinTail sep (strValues L)) (joinMade sep L) := by
      have g0 := gives_joinTail sep L hok
      rcases L with _ | ⟨p, _ | ⟨q, r⟩⟩ <;> exact g0
    refine g prog w A (wants Q E) s' (post_join L ⟨joinFit_length hok, fun t' k => ?_⟩)
    obtain ⟨hp', gs', d', tk', os'⟩ := s'
    obtain ⟨k1, k2, k3, k4, k5⟩ := hm
    (try dsimp only at k1 k2 k3 k4)
    subst k2 k3 k4
    exact hQ _ t' k fun b o hb e => k1 b o (by simpa using hb) e
  · rw [hsz, line_is]; omega
theorem call_map {f : Value} {l : Addr} {xs : Array Value} {prog : Program} {w : World} {A : Around} {E : Value → Shared → Prop} {s : Shared} {Q : Value → Shared → Prop} (hl : s.heap.IsList l xs)
    (h : ∀ h', h'.get? (s.heap.objs.size + 2) = some (mapObj (s.heap.objs.size + 1) f) → h'.get? (s.heap.objs.size + 1) = some (tupObj #[.ref s.heap.objs.size]) → h'.IsListIter s.heap.objs.size l 0 → h'.objs.size = s.heap.objs.size + 3 → (∀ b o, s.heap.get? b = some o → h'.get? b = some o) → Q (.ref (s.heap.objs.size + 2)) { s with heap := h' }) :
    wpAny (model prog w) A (call (.type "map") [f, .ref l]) Q E s := by
  refine callType_new called_map (by decide) (typeCall_map _ _) (newCall_map _ _) (fun obj => F.args_object_init_3 obj _ _) entry_map_new (meets_map_new f l xs) ⟨hl, ?_⟩
  have z1 : (s.heap.push (litObj l)).objs.size = s.heap.objs.size + 1 := Heap.size_push ..
  have z2 : ((s.heap.push (litObj l)).push (tupObj #[.ref s.heap.objs.size])).objs.size = s.heap.objs.size + 2 := by rw [Heap.size_push, z1]
  have e2 : (((s.heap.push (litObj l)).push (tupObj #[.ref s.heap.objs.size])).push (mapObj (s.heap.push (litObj l)).objs.size f)).get? ((s.heap.push (litObj l)).push (tupObj #[.ref s.heap.objs.size])).objs.size = some _ := Heap.get?_push_size _ rfl
  have e1 : (((s.heap.push (litObj l)).push (tupObj #[.ref s.heap.objs.size])).push (mapObj (s.heap.push (litObj l)).objs.size f)).get? (s.heap.push (litObj l)).objs.size = some _ := Heap.get?_push_of_some _ (Heap.get?_push_size _ rfl)
  have e0 : (((s.heap.push (litObj l)).push (tupObj #[.ref s.heap.objs.size])).push (mapObj (s.heap.push (litObj l)).objs.size f)).get? s.heap.objs.size = some _ := Heap.get?_push_of_some _ (Heap.get?_push_of_some _ (Heap.get?_push_size _ rfl))
  show _ ∧ _
  have e2' := e2
  rw [z2] at e2
  have e2'' := e2
  rw [z1] at e2 e1
  rw [z2]
  exact ⟨⟨_, e2'', rfl⟩, h _ (by rw [e2'', z1]) (by simpa [z1] using e1) ⟨_, e0, rfl, rfl⟩ (by rw [Heap.size_push, z2]) fun b o x => Heap.get?_push_of_some _ (Heap.get?_push_of_some _ (Heap.get?_push_of_some _ x))⟩
theorem y_clsattr {K : Frag} {T : String} {name : Str} {v : Value} {expr : Bool} {prog : Program} {w : World} {A : Around} {E : Value → Shared → Prop} {s : Shared} {h₀ : Heap} {L : Addr} {m : Str → Option Value} {Q : Value → Shared → Prop} (F : Fr h₀ L s.heap m) (X₀ : K.In h₀)
    (ht : typeOf (.type T) = pure (.type "type")) (hs : Manifest.isStub T = false) (e : findCls K (.type T) (.type "type") name = some (.val v)) (hh : handedIn v = true) (h : Q v { s with toks := s.toks + 1 }) : wpAny (model prog w) A (getAttr (.type T) name expr) Q E s := by
  have X := X₀.keeps F.keep
  have hstub : opaqueClassAbove (.type T) = pure none := by unfold opaqueClassAbove; dsimp only; rw [hs]; rfl
  have L0 : Looks (model prog w) s.heap (typeOf (.type T)) (.type "type") := Looks.of_pure ht
  have LO : Looks (model prog w) s.heap (opaqueClassAbove (.type T)) none := Looks.of_pure hstub
  have hg : findIn K (.type "type") "__getattribute__" = some (some (.builtin "type.__getattribute__")) := type_tga
  exact cls_open X LO L0 hg (looks_hook X (r := none) (by rfl)) (by show subIn K _ _ = _; rfl) e (wpAny_pure (by show wpAny _ _ (handedOut v) _ _ _; rw [handedOut_of hh]; exact wpAny_pure h))
theorem meta_str : typeOf (.type "str") = pure (.type "type") := by first | rfl | kernel_rfl
theorem caps_weight {n : Nat} : ∀ {ys : List Str}, (∀ y ∈ ys, y.length ≤ n) → ((ys.map Txt.capitalize).map (·.length)).sum ≤ 3 * n * ys.length
  | [], _ => by simp
  | y :: ys, h => by
    have ih := caps_weight (ys := ys) fun z hz => h z (.tail _ hz)
    have h1 := h y (.head _)
    have h2 := len_capitalize y
    simp only [List.map_cons, List.sum_cons, List.length_cons]
    have h3 : 3 * n * (ys.length + 1) = 3 * n * ys.length + 3 * n := by rw [Nat.mul_add, Nat.mul_one]
    omega
theorem caps_ok {sep : Str} {ys : List Str} (h : ∀ y ∈ ys, y.length ≤ 200) (hz : ys.length ≤ 100) (hs : sep.length ≤ 16) : JoinOk sep (ys.map Txt.capitalize) = true := by
  have h1 := caps_weight h
  refine joinOk_of_weight (sep := sep) (by rw [List.length_map]; omega) hs
theorem list_lt {h : Heap} {a : Addr} {vs : Array Value} (L : h.IsList a vs) : a < h.objs.size := by obtain ⟨_, e, _⟩ := L; exact Heap.lt_size e
theorem ne_up {n k : Nat} (hk : 0 < k) : n + k ≠ n := Nat.ne_of_gt (Nat.lt_add_of_pos_right hk)
end
section -- JPageF
open PySem.Calls
noncomputable def catS (xs : List Str) : Str := ⟨(xs.map (·.cps)).foldr (· ++ ·) #[]⟩
theorem str_app_nil (x : Str) : x ++ ("" : Str) = x := by
  cases x with
  | mk c => show (Str.mk (c ++ #[])) = _; rw [Array.append_empty]
theorem str_app_assoc (x y z : Str) : x ++ y ++ z = x ++ (y ++ z) := by
  cases x; cases y; cases z
  show Str.mk (_ ++ _ ++ _) = Str.mk (_ ++ (_ ++ _))
  rw [Array.append_assoc]
theorem catS_nil : catS [] = "" := rfl
theorem catS_cons (x : Str) (xs : List Str) : catS (x :: xs) = x ++ catS xs := rfl
theorem catS_append : ∀ (xs ys : List Str), catS (xs ++ ys) = catS xs ++ catS ys
  | [], ys => (str_nil_append _).symm
  | x :: xs, ys => by rw [List.cons_append, catS_cons, catS_append xs ys, catS_cons, str_app_assoc]
theorem join_cat : ∀ xs : List Str, Str.join "" xs = catS xs
  | [] => rfl
  | [x] => by show x = x ++ catS []; rw [catS_nil, str_app_nil]
  | x :: y :: r => by
    show x ++ "" ++ Str.join "" (y :: r) = _
    rw [join_cat (y :: r), str_app_nil, catS_cons x]
theorem tjoin_cat (xs : List Str) : Txt.join "" xs = catS xs := by
  rw [← join_cat]
  exact (StrLaws.glued_eq_join _ _)
theorem total_append (xs ys : List Str) : total (xs ++ ys) = total xs + total ys := by simp [total]
theorem total_one (x : Str) : total [x] = x.length := by simp [total]
theorem cat_len : ∀ xs : List Str, ((catS xs).length : Int) = total xs
  | [] => rfl
  | x :: xs => by
    have := cat_len xs
    rw [catS_cons, str_len_append, show x :: xs = [x] ++ xs from rfl, total_append, total_one]
    omega
theorem chunkF_len (wd : Nat) (st : List Str × List Str) (x : Str) : (chunkF wd st x).1.length ≤ st.1.length + 1 ∧ (chunkF wd st x).2.length ≤ st.2.length + 1 ∧ ∀ y ∈ (chunkF wd st x).2, y ∈ st.2 ++ [x] := by
  unfold chunkF
  split
  · split
    · refine ⟨by simp, by simp, fun y hy => List.mem_of_mem_drop hy⟩
    · exact ⟨by simp, by simp, fun y hy => hy⟩
  · exact ⟨by simp, by simp, fun y hy => hy⟩
noncomputable def PgInv (st : List Str × List Str) (rs : List Str) : Prop := ∃ ys : List Str, st.2 = ys ++ [(";" : Str)] ∧ rs = st.1 ++ [catS st.2]
theorem semi_ends : endsSemi ";" = true := by decide +kernel
theorem letF_ends {ws : List Int} {k : Int} (hw : 1 ≤ ws.getD k.toNat 0 ∧ ws.getD k.toNat 0 ≤ 4) (hk : 0 ≤ k ∧ k < 4) : endsSemi (letF ws k) = false ∧ ((letF ws k).length : Int) = 2 * ws.getD k.toNat 0 - 1 := by
  unfold letF
  generalize ws.getD k.toNat 0 = n at *
  have h1 : k = 0 ∨ k = 1 ∨ k = 2 ∨ k = 3 := by omega
  have h2 : n = 1 ∨ n = 2 ∨ n = 3 ∨ n = 4 := by omega
  rcases h1 with rfl | rfl | rfl | rfl <;> rcases h2 with rfl | rfl | rfl | rfl <;> decide +kernel
theorem brk_snoc_yes {ys : List Str} {x : Str} (h : endsSemi x = true) : brk (ys ++ [x]) (ys ++ [x]).length = some (ys.length + 1) := by
  rw [List.length_append, List.length_singleton]
  unfold brk
  rw [if_pos (by simpa using h)]
theorem brk_ext : ∀ (n : Nat) {ys zs : List Str}, n ≤ ys.length → brk (ys ++ zs) n = brk ys n
  | 0, _, _, _ => rfl
  | n + 1, ys, zs, h => by
    unfold brk
    rw [brk_ext n (by omega)]
    have : (ys ++ zs).getD n "" = ys.getD n "" := by
      rw [List.getD_eq_getElem?_getD, List.getD_eq_getElem?_getD, List.getElem?_append_left (by omega)]
    rw [this]
theorem brk_snoc_no {ys : List Str} {x : Str} (h : endsSemi x = false) : brk (ys ++ [x]) (ys ++ [x]).length = brk ys ys.length := by
  rw [List.length_append, List.length_singleton]
  conv => lhs; unfold brk
  rw [if_neg (by simpa using h), brk_ext _ (Nat.le_refl _)]
theorem chunk_first {wd : Nat} (hwd : 1 ≤ wd) : PgInv (chunkF wd ([], []) ";") [";"] := by
  have : chunkF wd ([], []) ";" = (([], [";"]) : List Str × List Str) := by
    unfold chunkF
    rw [if_neg]
    · rfl
    · show ¬ (total [";"] > wd)
      rw [total_one]
      have : (";" : Str).length = 1 := rfl
      rw [this]; omega
  rw [this]
  exact ⟨[], rfl, rfl⟩
theorem chunk_step {ws : List Int} {wd : Nat} {st : List Str × List Str} {rs : List Str} {k : Int} (hw : 1 ≤ ws.getD k.toNat 0 ∧ ws.getD k.toNat 0 ≤ 4) (hk : 0 ≤ k ∧ k < 4) (h : PgInv st rs) :
    PgInv (chunkF wd (chunkF wd st (letF ws k)) ";") (rowsStep ws wd rs k) := by
  obtain ⟨lns, xs⟩ := st
  obtain ⟨ys, hxs, rfl⟩ := h
  (try dsimp only at hxs ⊢)
  obtain ⟨hA, hAl⟩ := letF_ends hw hk
  have hs1 : ((";" : Str).length : Int) = 1 := rfl
  have hb : brk xs xs.length = some xs.length := by rw [hxs, brk_snoc_yes semi_ends]; simp
  rw [rowsStep_snoc, cat_len]
  generalize letF ws k = A at *
  by_cases h1 : total (xs ++ [A]) > wd
  · have e1 : chunkF wd (lns, xs) A = (lns ++ [catS xs], [A]) := by
      unfold chunkF
      (try dsimp only)
      rw [if_pos h1, hb]
      (try dsimp only)
      rw [List.take_left, List.drop_left, tjoin_cat]
    have e2 : chunkF wd (lns ++ [catS xs], [A]) ";" = (lns ++ [catS xs], [A, ";"]) := by
      unfold chunkF
      (try dsimp only)
      split
      · have : brk [A] [A].length = none := by
          have := brk_snoc_no (ys := []) hA
          simpa [brk] using this
        rw [this]; rfl
      · rfl
    rw [e1, e2]
    rw [total_append, total_one] at h1
    rw [if_pos (by omega)]
    refine ⟨[A], rfl, ?_⟩
    (try dsimp only)
    rw [show catS [A, ";"] = A ++ ";" from by rw [catS_cons, catS_cons, catS_nil, str_app_nil]]
  · have e1 : chunkF wd (lns, xs) A = (lns, xs ++ [A]) := by
      unfold chunkF
      (try dsimp only)
      rw [if_neg h1]
    rw [e1]
    have hb2 : brk (xs ++ [A]) (xs ++ [A]).length = some xs.length := by rw [brk_snoc_no hA, hb]
    by_cases h2 : total (xs ++ [A] ++ [(";" : Str)]) > wd
    · have e2 : chunkF wd (lns, xs ++ [A]) ";" = (lns ++ [catS xs], [A, ";"]) := by
        unfold chunkF
        (try dsimp only)
        rw [if_pos h2, hb2]
        (try dsimp only)
        rw [List.append_assoc, List.take_left, List.drop_left, tjoin_cat]
        rfl
      rw [e2]
      rw [total_append, total_append, total_one, total_one] at h2
      rw [if_pos (by omega)]
      refine ⟨[A], rfl, ?_⟩
      (try dsimp only)
      rw [show catS [A, ";"] = A ++ ";" from by rw [catS_cons, catS_cons, catS_nil, str_app_nil]]
    · have e2 : chunkF wd (lns, xs ++ [A]) ";" = (lns, xs ++ [A] ++ [(";" : Str)]) := by
        unfold chunkF
        (try dsimp only)
        rw [if_neg h2]
      rw [e2]
      rw [total_append, total_append, total_one, total_one] at h2
      rw [if_neg (by omega)]
      refine ⟨xs ++ [A], rfl, ?_⟩
      (try dsimp only)
      rw [catS_append, catS_append, catS_cons, catS_nil, str_app_nil, catS_cons, catS_nil, str_app_nil, str_app_assoc]
theorem cat_semi_ne (ys : List Str) : Txt.isspace (Txt.join "" (ys ++ [(";" : Str)])) = false := by
  rw [tjoin_cat, catS_append, catS_cons, catS_nil, str_app_nil]
  unfold Txt.isspace
  have : (catS ys ++ (";" : Str)).cps.all Unicode.isSpace = false := by
    cases catS ys with
    | mk c =>
      show ((c ++ #[59]).all Unicode.isSpace) = false
      rw [Array.all_append]
      have : (#[59] : Array Nat).all Unicode.isSpace = false := by decide +kernel
      rw [this, Bool.and_false]
  rw [this, Bool.and_false]
theorem cat_semi_pos (ys : List Str) : 0 < total (ys ++ [(";" : Str)]) := by
  rw [total_append, total_one]
  have := cat_len ys
  have hs1 : ((";" : Str).length : Int) = 1 := rfl
  omega
theorem Items.nil (h : Heap) : Items h #[] [] := ⟨fun _ => (0 : Nat), fun _ => (0 : Nat), fun _ => (0 : Nat), rfl, fun j hj => absurd hj (Nat.not_lt_zero _)⟩
theorem semi_len {y : Str} (h : y ∈ ([] : List Str) ++ [(";" : Str)]) : y.length ≤ 200 := by
  rw [List.mem_singleton.mp h]; decide
theorem iadd_list_at {prog : Program} {w : World} {A : Around} {E : Value → Shared → Prop} {Q : Value → Shared → Prop} {s : Shared} {l b : Addr} {x y : Array Value} {n m : Nat} (hl : s.heap.get? l = some (listOf x n)) (hb : s.heap.get? b = some (listOf y m)) (hx : x.size ≤ 1000) (hy : y.size ≤ 1000)
    (h : ∀ h' n', Heap.SameBut l s.heap h' → h'.get? l = some (listOf (x ++ y) n') → Q (.ref l) { s with heap := h' }) : wpAny (model prog w) A (inplaceOp .Add (.ref l) (.ref b)) Q E s := by
  have tl : s.TypeIs (.ref l) "list" := ⟨_, hl, rfl⟩
  have tb : s.TypeIs (.ref b) "list" := ⟨_, hb, rfl⟩
  unfold inplaceOp
  refine wpAny_holding ?_
  have hno : typeLookup (.type "list") (dunderI "add") = pure (some (.builtin "list.__iadd__")) := F.slot_list_iadd.lookup
  have hfi : fillsInplaceSlot (.type "list") "add" (Operator.Add == .Add) = pure false := by
    unfold fillsInplaceSlot
    show (typeLookup (.type "list") (dunderI "add") >>= fun fi => pure (fi.isSome && !isSeqSlot fi)) = pure false
    rw [hno]; rfl
  refine wpAny_bind (wpAny_typeOf tl (wpAny_bind (wpAny_of_eq hfi ?_)))
  show wpAny _ A (if false = true then _ else _) Q E s
  rw [if_neg Bool.false_ne_true]
  refine wpAny_bind (wpAny_binaryOp1_none (nm := "add") tl tb noFill_list_add ?_)
  refine wpAny_bind (wpAny_of_eq (PySem.seqSlot_of F.slot_list_iadd.lookup (by decide +kernel)) ?_)
  refine wpAny_bind (wpAny_rule ?_)
  have hz : x.size + y.size ≤ sizeLine := by rw [line_is]; omega
  refine wpAny_mono (call_meets (Q := Q) F.slot_list_iadd tl F.entry_list_iadd (F.args_list_iadd_2 _ _) (AutoSeq1.list___iadd___list_list_0 l x n b y m ?_ (by omega) (by omega)) ⟨hl, hb, ?_⟩) (fun _ _ h => h) (fun _ _ h => h)
  · exact extend_door hz
  · refine h _ (if ((x ++ y).size == x.size) = true then n else n + 1) (Heap.SameBut.update ..) ?_
    have e : Obj.mapSeq (fun z => z ++ y) (listOf x n) = listOf (x ++ y) (if ((x ++ y).size == x.size) = true then n else n + 1) := rfl
    rw [Heap.get?_update_self _ hl (by rw [e]; rfl), e]
theorem iadd_list {prog : Program} {w : World} {A : Around} {E : Value → Shared → Prop} {Q : Value → Shared → Prop} {s : Shared} {h₀ : Heap} {L l b : Addr} {x y : Array Value} {n m : Nat} {fm : Str → Option Value} {news : List (Addr × Obj)} {gn : Obj → List (Addr × Obj)} (F : Fr h₀ L s.heap fm) (N : News h₀ L s.heap news) (U : UpdF l (listOf x n) news gn) (hb : (b, listOf y m) ∈ news) (hx : x.size ≤ 1000) (hy : y.size ≤ 1000)
    (h : ∀ h' n', Fr h₀ L h' fm → News h₀ L h' (gn (listOf (x ++ y) n')) → Q (.ref l) { s with heap := h' }) : wpAny (model prog w) A (inplaceOp .Add (.ref l) (.ref b)) Q E s :=
  iadd_list_at (N _ (updF_mem U)).1 (N _ hb).1 hx hy fun h' n' hs ho => let ⟨F', N'⟩ := led_upd F N U hs ho; h h' n' F' N'
theorem ne_nones {prog : Program} {w : World} {A : Around} {E : Value → Shared → Prop} {Q : Value → Shared → Prop} {s : Shared} {l b : Addr} {x y : Array Value} {n m j : Nat} (hl : s.heap.get? l = some (listOf x n)) (hb : s.heap.get? b = some (listOf y m)) (hx : x.toList = List.replicate j .none) (hy : y.toList = List.replicate j .none) (hu : A.units < cLine)
    (h : Q (.bool false) s) : wpAny (model prog w) A (compareOp .NotEq (.ref l) (.ref b)) Q E s := by
  have ex : ∀ i (h1 : i < x.size), x[i] = .none := fun i h1 => by
    have : x[i] ∈ x.toList := Array.getElem_mem_toList h1
    rw [hx] at this; exact List.eq_of_mem_replicate this
  have ey : ∀ i (h1 : i < y.size), y[i] = .none := fun i h1 => by
    have : y[i] ∈ y.toList := Array.getElem_mem_toList h1
    rw [hy] at this; exact List.eq_of_mem_replicate this
  have sx : x.size = j := by rw [← Array.length_toList, hx, List.length_replicate]
  have sy : y.size = j := by rw [← Array.length_toList, hy, List.length_replicate]
  refine SeqAt.RcNeAt.lists (e := fun _ => true) ⟨_, hl, rfl, n, rfl⟩ ⟨_, hb, rfl, m, rfl⟩ (sx.trans sy.symm) hu (fun i h1 h2 => by rw [ex, ey]; exact SeqAt.EqAt.same _) _ _ _ _ ?_
  have : (List.range x.size).all (fun _ => true) = true := by simp
  rw [this]; exact h
theorem nones_snoc {vs : Array Value} {n : Nat} (h : vs.toList = List.replicate n .none) : (vs ++ #[Value.none, Value.none]).toList = List.replicate (n + 2) .none := by
  rw [Array.toList_append, h]
  show List.replicate n Value.none ++ List.replicate 2 Value.none = _
  rw [List.replicate_append_replicate]
noncomputable def pageF (ws : List Int) (wd : Nat) (mk : Str) (os : List Int) : Str := Txt.join mk ((Txt.split (mk ++ Txt.join mk (rowsF ws wd os) ++ mk) mk).map Txt.capitalize)
end
section -- JPgP
open PySem.Calls
noncomputable def ItemsL (TL : List (Addr × Obj)) (its : Array Value) (xs : List Str) : Prop := ∃ (Ts : Nat → Addr) (U V : Nat → Tok), its.size = xs.length ∧ ∀ j, j < its.size → its[j]? = some (.ref (Ts j)) ∧ (Ts j, tupObj #[.str "" (U j), .str (xs.getD j "") (V j)]) ∈ TL
theorem ItemsL.items {TL led : List (Addr × Obj)} {its : Array Value} {xs : List Str} {h₀ h : Heap} {L : Addr} (I : ItemsL TL its xs) (N : News h₀ L h led) (hs : ∀ p ∈ TL, p ∈ led) : Items h its xs := by
  obtain ⟨Ts, U, V, e, k⟩ := I
  exact ⟨Ts, U, V, e, fun j hj => ⟨(k j hj).1, (N _ (hs _ (k j hj).2)).1⟩⟩
theorem ItemsL.size {TL : List (Addr × Obj)} {its : Array Value} {xs : List Str} (I : ItemsL TL its xs) : its.size = xs.length := by obtain ⟨_, _, _, e, _⟩ := I; exact e
theorem ItemsL.nil (TL : List (Addr × Obj)) : ItemsL TL #[] [] := ⟨fun _ => (0 : Nat), fun _ => (0 : Nat), fun _ => (0 : Nat), rfl, fun j hj => absurd hj (Nat.not_lt_zero _)⟩
theorem ItemsL.step {TL led : List (Addr × Obj)} {its its' : Array Value} {xs xs' : List Str} {h₀ h : Heap} {L t : Addr} {o : Obj} (I : ItemsL TL its xs) (M : ∀ v ∈ its'.toList, v ∈ its.toList ∨ v = .ref t) (J : Items h its' xs') (N : News h₀ L h led) (hs : ∀ p ∈ (t, o) :: TL, p ∈ led) : ItemsL ((t, o) :: TL) its' xs' := by
  obtain ⟨Ts, U, V, e, k⟩ := J
  refine ⟨Ts, U, V, e, fun j hj => ⟨(k j hj).1, ?_⟩⟩
  obtain ⟨o', ho'⟩ : ∃ o', (Ts j, o') ∈ (t, o) :: TL := by
    rcases M (.ref (Ts j)) (List.mem_of_getElem? (i := j) (by rw [Array.getElem?_toList]; exact (k j hj).1)) with h1 | h1
    · obtain ⟨Ts2, U2, V2, e2, k2⟩ := I
      obtain ⟨i, hi⟩ := List.mem_iff_getElem?.mp h1
      have hl : i < its.size := by
        rw [Array.getElem?_toList] at hi
        exact (Array.getElem?_eq_some_iff.mp hi).1
      have := (k2 i hl).1
      rw [← Array.getElem?_toList, hi] at this
      have e3 : Ts2 i = Ts j := (Value.ref.inj (Option.some.inj this)).symm
      exact ⟨_, .tail _ (e3 ▸ (k2 i hl).2)⟩
    · cases h1
      exact ⟨o, .head _⟩
  have e1 := (N _ (hs _ ho')).1
  rw [(k j hj).2] at e1
  rw [Option.some.inj e1]
  exact ho'
theorem chunk_all {pg dx li ac ax : Addr} {od oi : Obj} {TL : List (Addr × Obj)} (D : NdT [li, ac, ax, 200, 207] (TL.map (·.1))) (mpg : (pg, oi) ∈ TL) (mdx : (dx, od) ∈ TL) (hpd : YNe pg dx) : AllNe2 [pg, dx, li, ac, ax, 200, 207] :=
  ⟨⟨hpd, Ne.symm (nd_tl (i := 0) D rfl mpg), Ne.symm (nd_tl (i := 1) D rfl mpg), Ne.symm (nd_tl (i := 2) D rfl mpg), Ne.symm (nd_tl (i := 3) D rfl mpg), Ne.symm (nd_tl (i := 4) D rfl mpg), trivial⟩,
   ⟨Ne.symm (nd_tl (i := 0) D rfl mdx), Ne.symm (nd_tl (i := 1) D rfl mdx), Ne.symm (nd_tl (i := 2) D rfl mdx), Ne.symm (nd_tl (i := 3) D rfl mdx), Ne.symm (nd_tl (i := 4) D rfl mdx), trivial⟩,
   ⟨nd_yne (i := 0) (j := 1) D rfl rfl (by decide), nd_yne (i := 0) (j := 2) D rfl rfl (by decide), nd_yne (i := 0) (j := 3) D rfl rfl (by decide), nd_yne (i := 0) (j := 4) D rfl rfl (by decide), trivial⟩,
   ⟨nd_yne (i := 1) (j := 2) D rfl rfl (by decide), nd_yne (i := 1) (j := 3) D rfl rfl (by decide), nd_yne (i := 1) (j := 4) D rfl rfl (by decide), trivial⟩,
   ⟨nd_yne (i := 2) (j := 3) D rfl rfl (by decide), nd_yne (i := 2) (j := 4) D rfl rfl (by decide), trivial⟩,
   ⟨nd_yne (i := 3) (j := 4) D rfl rfl (by decide), trivial⟩, trivial, trivial⟩
theorem mu5 {li ac ax : Addr} {P : Addr → Prop} (h1 : P li) (h2 : P ac) (h3 : P ax) (h4 : P 200) (h5 : P 207) : ∀ b ∈ [li, ac, ax, 200, 207], P b :=
  List.forall_mem_cons.mpr ⟨h1, List.forall_mem_cons.mpr ⟨h2, List.forall_mem_cons.mpr ⟨h3, List.forall_mem_cons.mpr ⟨h4, List.forall_mem_cons.mpr ⟨h5, fun _ h => nomatch h⟩⟩⟩⟩⟩
variable {w p loose mean mg mb dp un gd cn cs a ccd cl outer A₀ base h₀ L m s Q E}
theorem chunk_P
  {pg dx li : Addr} {wd nl : Nat} {lvs : Array Value} {lns : List Str} {V : FmtV} {ps qs : Array Value} {xs : List Str} {ac ax : Addr} {its : Array Value} {na : Nat} {hi : Int} {kt ti : Tok} {TL : List (Addr × Obj)} {fr : List (Addr × Obj)} {x : Str} {fu xu : Tok}
  (B : Below A₀ base outer h₀) (F : Fr h₀ L s.heap m) (X : (hd.heap_1 w.params).In h₀) (N : News h₀ L s.heap (fr ++ ((li, listOf lvs nl) :: (ac, accObj ax its na) :: (ax, dictOf [⟨hi, .str "_initial_size" kt, .int 0 ti⟩] 1) :: (200, tabObj ps) :: (207, tabObj qs) :: TL))) (T : Top p loose mean mg mb h₀) (hkf : cs.kind = .function) (hdp : dp + 5 < recursionLimit) (hun : un + 80 < cLine)
  (D : NdT (fr.map (·.1) ++ [li, ac, ax, 200, 207]) (TL.map (·.1))) (mpg : (pg, instObj 154 dx) ∈ TL) (mdx : (dx, dictOf (vfEs V wd li ac) 6) ∈ TL) (hpd : YNe pg dx)
  (hit : ItemsL TL its xs) (hs : its.size < 80) (hls : lvs.size < 80) (hln : ∀ y ∈ xs ++ [x], y.length ≤ 200) (htp : TriplesOk ps.toList) (htq : TriplesOk qs.toList) (hG0 : AllBare s.gens) (hwd : wd ≤ 100) (hSl : StrsAre lvs.toList lns)
  (hret : ∀ (s' : Shared) (lvs' : Array Value) (nl' : Nat) (its' : Array Value) (na' : Nat) (hi' : Int) (kt' ti' : Tok) (ps' qs' : Array Value) (TL' : List (Addr × Obj)), Fr h₀ L s'.heap m → News h₀ L s'.heap (fr ++ ((li, listOf lvs' nl') :: (ac, accObj ax its' na') :: (ax, dictOf [⟨hi', .str "_initial_size" kt', .int 0 ti'⟩] 1) :: (200, tabObj ps') :: (207, tabObj qs') :: TL')) → NdT (fr.map (·.1) ++ [li, ac, ax, 200, 207]) (TL'.map (·.1)) → (∀ p ∈ TL, p ∈ TL') → ItemsL TL' its' (chunkF wd (lns, xs) x).2 → StrsAre lvs'.toList (chunkF wd (lns, xs) x).1 → TriplesOk ps'.toList → TriplesOk qs'.toList → AllBare s'.gens → s'.os = s.os → Q .none s') :
  wpAny (model PySem.Challenge.rw_yj0031_01.row.prog w) (ktrTop dp un gd cn cs L a ccd cl outer) (call (.ref 151) [.ref pg, .str "" fu, .str x xu]) Q E s := by
  have D5 : NdT [li, ac, ax, 200, 207] (TL.map (·.1)) := nd_sub D (List.sublist_append_right _ _)
  have hT : ∀ p ∈ TL, p ∈ fr ++ ((li, listOf lvs nl) :: (ac, accObj ax its na) :: (ax, dictOf [⟨hi, .str "_initial_size" kt, .int 0 ti⟩] 1) :: (200, tabObj ps) :: (207, tabObj qs) :: TL) := fun p hp => List.mem_append_right _ (.tail _ (.tail _ (.tail _ (.tail _ (.tail _ hp)))))
  have hC : ∀ p ∈ [(li, listOf lvs nl), (ac, accObj ax its na), (ax, dictOf [⟨hi, .str "_initial_size" kt, .int 0 ti⟩] 1), (200, tabObj ps), (207, tabObj qs)], p ∈ fr ++ ((li, listOf lvs nl) :: (ac, accObj ax its na) :: (ax, dictOf [⟨hi, .str "_initial_size" kt, .int 0 ti⟩] 1) :: (200, tabObj ps) :: (207, tabObj qs) :: TL) := fun p hp => List.mem_append_right _ (List.mem_append_left TL hp)
  refine chunk_spec _ _ _ _ _ _ _ _ _ _ _ _ _ _ _ _ _ _ _ _ _ _ _  pg dx li wd nl lvs lns V ps qs xs ac ax its na hi kt ti x fu xu B F X (y_sub N (subc (hT _ mpg) (subc (hT _ mdx) hC))) T hkf hdp hun hs hls (hit.items N hT) hln htp htq hG0 hwd hSl (chunk_all D5 mpg mdx hpd) ?_
  intro s' lvs' nl' its' na' hi' kt' ti' ps' qs' t' et ef em G e1 j1 e2 j2 e3 e4 j4 e5 j5 hG ho
  have hf : ∀ p ∈ fr, p.1 ∉ [li, ac, ax, 200, 207] := fun p hp hm => (List.nodup_append.mp D.1).2.2 p.1 (List.mem_map.mpr ⟨p, hp, rfl⟩) p.1 hm rfl
  have ht : ∀ p ∈ TL, p.1 ∉ [li, ac, ax, 200, 207] := fun p hp hm => D5.2 p.1 hm (List.mem_map.mpr ⟨p, hp, rfl⟩)
  obtain ⟨F', N'⟩ := y_callM (news' := fr ++ ((li, listOf lvs' nl') :: (ac, accObj ax its' na') :: (ax, dictOf [⟨hi', .str "_initial_size" kt', .int 0 ti'⟩] 1) :: (200, tabObj ps') :: (207, tabObj qs') :: TL)) F N G
    (mu5 ⟨_, hC _ (.head _)⟩ ⟨_, hC _ (.tail _ (.head _))⟩ ⟨_, hC _ (.tail _ (.tail _ (.head _)))⟩ ⟨_, hC _ (.tail _ (.tail _ (.tail _ (.head _))))⟩ ⟨_, hC _ (.tail _ (.tail _ (.tail _ (.tail _ (.head _)))))⟩) (fun p hp => by
      rcases List.mem_append.mp hp with hp | hp
      · exact .inr ⟨List.mem_append_left _ hp, hf p hp⟩
      · exact or_fold (P := fun p => (p.1 ∈ [li, ac, ax, 200, 207] ∧ s'.heap.get? p.1 = some p.2) ∨ (p ∈ fr ++ ((li, listOf lvs nl) :: (ac, accObj ax its na) :: (ax, dictOf [⟨hi, .str "_initial_size" kt, .int 0 ti⟩] 1) :: (200, tabObj ps) :: (207, tabObj qs) :: TL) ∧ p.1 ∉ [li, ac, ax, 200, 207])) (.inl ⟨.head _, e1⟩) (or_fold (.inl ⟨.tail _ (.head _), e2⟩) (or_fold (.inl ⟨.tail _ (.tail _ (.head _)), e3⟩) (or_fold (.inl ⟨.tail _ (.tail _ (.tail _ (.head _))), e4⟩) (or_fold (.inl ⟨.tail _ (.tail _ (.tail _ (.tail _ (.head _)))), e5⟩) fun p hp => .inr ⟨hT p hp, ht p hp⟩)))) p hp)
  have N2 : News h₀ L s'.heap (fr ++ ((li, listOf lvs' nl') :: (ac, accObj ax its' na') :: (ax, dictOf [⟨hi', .str "_initial_size" kt', .int 0 ti'⟩] 1) :: (200, tabObj ps') :: (207, tabObj qs') :: (t', tupObj #[.str "" fu, .str x xu]) :: TL)) := by
    have N1 := y_fresh F N' ef et
    refine y_sub N1 fun p hp => ?_
    rcases List.mem_append.mp hp with hp | hp
    · exact .tail _ (List.mem_append_left _ hp)
    · have hin : ∀ q ∈ (li, listOf lvs' nl') :: (ac, accObj ax its' na') :: (ax, dictOf [⟨hi', .str "_initial_size" kt', .int 0 ti'⟩] 1) :: (200, tabObj ps') :: (207, tabObj qs') :: TL, q ∈ (t', tupObj #[.str "" fu, .str x xu]) :: (fr ++ ((li, listOf lvs' nl') :: (ac, accObj ax its' na') :: (ax, dictOf [⟨hi', .str "_initial_size" kt', .int 0 ti'⟩] 1) :: (200, tabObj ps') :: (207, tabObj qs') :: TL)) := fun q hq => .tail _ (List.mem_append_right _ hq)
      exact subc (hin _ (.head _)) (subc (hin _ (.tail _ (.head _))) (subc (hin _ (.tail _ (.tail _ (.head _)))) (subc (hin _ (.tail _ (.tail _ (.tail _ (.head _))))) (subc (hin _ (.tail _ (.tail _ (.tail _ (.tail _ (.head _)))))) (subc (.head _) fun q hq => hin q (.tail _ (.tail _ (.tail _ (.tail _ (.tail _ hq)))))))))) p hp
  exact hret s' lvs' nl' its' na' hi' kt' ti' ps' qs' _ F' N2 (nd_rest (y_apart N ef) D (by rw [List.map_append, List.append_assoc]; rfl)) (fun p hp => .tail _ hp) (hit.step em j2 N2 fun p hp => List.mem_append_right _ (.tail _ (.tail _ (.tail _ (.tail _ (.tail _ hp)))))) j1 j4 j5 hG ho
theorem chunk_P0
  {pg dx li : Addr} {wd nl : Nat} {lvs : Array Value} {lns : List Str} {V : FmtV} {ps qs : Array Value} {xs : List Str} {ac ax : Addr} {its : Array Value} {na : Nat} {hi : Int} {kt ti : Tok} {TL : List (Addr × Obj)}  {x : Str} {fu xu : Tok}
  (B : Below A₀ base outer h₀) (F : Fr h₀ L s.heap m) (X : (hd.heap_1 w.params).In h₀) (N : News h₀ L s.heap ((li, listOf lvs nl) :: (ac, accObj ax its na) :: (ax, dictOf [⟨hi, .str "_initial_size" kt, .int 0 ti⟩] 1) :: (200, tabObj ps) :: (207, tabObj qs) :: TL)) (T : Top p loose mean mg mb h₀) (hkf : cs.kind = .function) (hdp : dp + 5 < recursionLimit) (hun : un + 80 < cLine)
  (D : NdT ([li, ac, ax, 200, 207]) (TL.map (·.1))) (mpg : (pg, instObj 154 dx) ∈ TL) (mdx : (dx, dictOf (vfEs V wd li ac) 6) ∈ TL) (hpd : YNe pg dx)
  (hit : ItemsL TL its xs) (hs : its.size < 80) (hls : lvs.size < 80) (hln : ∀ y ∈ xs ++ [x], y.length ≤ 200) (htp : TriplesOk ps.toList) (htq : TriplesOk qs.toList) (hG0 : AllBare s.gens) (hwd : wd ≤ 100) (hSl : StrsAre lvs.toList lns)
  (hret : ∀ (s' : Shared) (lvs' : Array Value) (nl' : Nat) (its' : Array Value) (na' : Nat) (hi' : Int) (kt' ti' : Tok) (ps' qs' : Array Value) (TL' : List (Addr × Obj)), Fr h₀ L s'.heap m → News h₀ L s'.heap ((li, listOf lvs' nl') :: (ac, accObj ax its' na') :: (ax, dictOf [⟨hi', .str "_initial_size" kt', .int 0 ti'⟩] 1) :: (200, tabObj ps') :: (207, tabObj qs') :: TL') → NdT ([li, ac, ax, 200, 207]) (TL'.map (·.1)) → (∀ p ∈ TL, p ∈ TL') → ItemsL TL' its' (chunkF wd (lns, xs) x).2 → StrsAre lvs'.toList (chunkF wd (lns, xs) x).1 → TriplesOk ps'.toList → TriplesOk qs'.toList → AllBare s'.gens → s'.os = s.os → Q .none s') :
  wpAny (model PySem.Challenge.rw_yj0031_01.row.prog w) (ktrTop dp un gd cn cs L a ccd cl outer) (call (.ref 151) [.ref pg, .str "" fu, .str x xu]) Q E s := 
  chunk_P (fr := []) B F X N T hkf hdp hun D mpg mdx hpd hit hs hls hln htp htq hG0 hwd hSl hret
theorem chunk_P2
  {pg dx li : Addr} {wd nl : Nat} {lvs : Array Value} {lns : List Str} {V : FmtV} {ps qs : Array Value} {xs : List Str} {ac ax : Addr} {its : Array Value} {na : Nat} {hi : Int} {kt ti : Tok} {TL : List (Addr × Obj)} {i1 i2 : Addr} {q1 q2 : Obj} {x : Str} {fu xu : Tok}
  (B : Below A₀ base outer h₀) (F : Fr h₀ L s.heap m) (X : (hd.heap_1 w.params).In h₀) (N : News h₀ L s.heap ((i1, q1) :: (i2, q2) :: (li, listOf lvs nl) :: (ac, accObj ax its na) :: (ax, dictOf [⟨hi, .str "_initial_size" kt, .int 0 ti⟩] 1) :: (200, tabObj ps) :: (207, tabObj qs) :: TL)) (T : Top p loose mean mg mb h₀) (hkf : cs.kind = .function) (hdp : dp + 5 < recursionLimit) (hun : un + 80 < cLine)
  (D : NdT ([i1, i2, li, ac, ax, 200, 207]) (TL.map (·.1))) (mpg : (pg, instObj 154 dx) ∈ TL) (mdx : (dx, dictOf (vfEs V wd li ac) 6) ∈ TL) (hpd : YNe pg dx)
  (hit : ItemsL TL its xs) (hs : its.size < 80) (hls : lvs.size < 80) (hln : ∀ y ∈ xs ++ [x], y.length ≤ 200) (htp : TriplesOk ps.toList) (htq : TriplesOk qs.toList) (hG0 : AllBare s.gens) (hwd : wd ≤ 100) (hSl : StrsAre lvs.toList lns)
  (hret : ∀ (s' : Shared) (lvs' : Array Value) (nl' : Nat) (its' : Array Value) (na' : Nat) (hi' : Int) (kt' ti' : Tok) (ps' qs' : Array Value) (TL' : List (Addr × Obj)), Fr h₀ L s'.heap m → News h₀ L s'.heap ((i1, q1) :: (i2, q2) :: (li, listOf lvs' nl') :: (ac, accObj ax its' na') :: (ax, dictOf [⟨hi', .str "_initial_size" kt', .int 0 ti'⟩] 1) :: (200, tabObj ps') :: (207, tabObj qs') :: TL') → NdT ([i1, i2, li, ac, ax, 200, 207]) (TL'.map (·.1)) → (∀ p ∈ TL, p ∈ TL') → ItemsL TL' its' (chunkF wd (lns, xs) x).2 → StrsAre lvs'.toList (chunkF wd (lns, xs) x).1 → TriplesOk ps'.toList → TriplesOk qs'.toList → AllBare s'.gens → s'.os = s.os → Q .none s') :
  wpAny (model PySem.Challenge.rw_yj0031_01.row.prog w) (ktrTop dp un gd cn cs L a ccd cl outer) (call (.ref 151) [.ref pg, .str "" fu, .str x xu]) Q E s := 
  chunk_P (fr := [(i1, q1), (i2, q2)]) B F X N T hkf hdp hun D mpg mdx hpd hit hs hls hln htp htq hG0 hwd hSl hret
theorem vfNew_P
  {TL : List (Addr × Obj)} {ps qs : Array Value} {wd : Nat} {t0 t1 t2 t3 : Tok}
  (B : Below A₀ base outer h₀) (F : Fr h₀ L s.heap m) (X : (hd.heap_1 w.params).In h₀) (N : News h₀ L s.heap ((200, tabObj ps) :: (207, tabObj qs) :: TL)) (T : Top p loose mean mg mb h₀) (hkf : cs.kind = .function) (hdp : dp + 7 < recursionLimit) (hun : un + 70 < cLine) (D : NdT [200, 207] (TL.map (·.1)))
  (hret : ∀ (pg dx li ac ax : Addr) (na nl : Nat) (hi : Int) (kt ti : Tok) (V : FmtV) (TL' : List (Addr × Obj)) h' tk', Fr h₀ L h' m → News h₀ L h' ((li, listOf #[] nl) :: (ac, accObj ax #[] na) :: (ax, dictOf [⟨hi, .str "_initial_size" kt, .int 0 ti⟩] 1) :: (200, tabObj ps) :: (207, tabObj qs) :: TL') →
    NdT [li, ac, ax, 200, 207] (TL'.map (·.1)) → (∀ p ∈ TL, p ∈ TL') → (pg, instObj 154 dx) ∈ TL' → (dx, dictOf (vfEs V wd li ac) 6) ∈ TL' → YNe pg dx → Q (.ref pg) { s with heap := h', toks := tk' }) :
  wpAny (model PySem.Challenge.rw_yj0031_01.row.prog w) (ktrTop dp un gd cn cs L a ccd cl outer) (call (.ref 154) [.int 0 t0, .int (wd : Int) t1, .str " " t2, .str ";" t3]) Q E s := by
  refine vfNew_L B F X N T hkf hdp hun ?_
  intro pg dx li ac ax na nl hi kt ti V h' tk' F' N' l1 l2 l3 l4 l5
  refine hret pg dx li ac ax na nl hi kt ti V ((pg, instObj 154 dx) :: (dx, dictOf (vfEs V wd li ac) 6) :: TL) h' tk' F' (y_sub N' ?_) ?_ (fun p hp => .tail _ (.tail _ hp)) (.head _) (.tail _ (.head _)) (Nat.ne_of_gt l2)
  · exact subc (.tail _ (.tail _ (.head _))) (subc (.tail _ (.tail _ (.tail _ (.head _)))) (subc (.tail _ (.tail _ (.tail _ (.tail _ (.head _))))) (subc (.tail _ (.tail _ (.tail _ (.tail _ (.tail _ (.head _)))))) (subc (.tail _ (.tail _ (.tail _ (.tail _ (.tail _ (.tail _ (.head _))))))) (subc (.head _) (subc (.tail _ (.head _)) fun q hq => .tail _ (.tail _ (.tail _ (.tail _ (.tail _ (.tail _ (.tail _ hq))))))))))))
  · have hb : ∀ b ∈ [(200 : Nat), 207] ++ ((pg, instObj 154 dx) :: (dx, dictOf (vfEs V wd li ac) 6) :: TL).map (·.1), b ≤ pg := by
      have h0 : ∀ b ∈ ((200, tabObj ps) :: (207, tabObj qs) :: TL).map (·.1), @LT.lt Nat _ b dx := fun b hb => by
        obtain ⟨p, hp, rfl⟩ := List.mem_map.mp hb
        exact l1 p hp
      exact fun b hb => by
        rcases List.mem_cons.mp hb with rfl | hb
        · exact Nat.le_of_lt (Nat.lt_trans (h0 _ (.head _)) l2)
        · rcases List.mem_cons.mp hb with rfl | hb
          · exact Nat.le_of_lt (Nat.lt_trans (h0 _ (.tail _ (.head _))) l2)
          · rcases List.mem_cons.mp hb with rfl | hb
            · exact Nat.le_refl _
            · rcases List.mem_cons.mp hb with rfl | hb
              · exact Nat.le_of_lt l2
              · exact Nat.le_of_lt (Nat.lt_trans (h0 _ (.tail _ (.tail _ hb))) l2)
    have D0 : NdT [200, 207] (((pg, instObj 154 dx) :: (dx, dictOf (vfEs V wd li ac) 6) :: TL).map (·.1)) :=
      nd_rest (news := [(200, tabObj ps), (207, tabObj qs)]) (tl0 := []) (allNe_of fun p hp => Nat.ne_of_lt (Nat.lt_trans (l1 p (List.mem_append_left TL hp)) l2)) (nd_rest (news := [(200, tabObj ps), (207, tabObj qs)]) (tl0 := []) (allNe_of fun p hp => Nat.ne_of_lt (l1 p (List.mem_append_left TL hp))) D rfl) rfl
    refine nd_new (fun hm => ?_) (nd_new (fun hm => ?_) (nd_new (fun hm => ?_) D0))
    · rcases List.mem_cons.mp hm with e | hm
      · rw [e] at l4; exact Nat.lt_irrefl _ (Nat.lt_trans l4 l5)
      · rcases List.mem_cons.mp hm with e | hm
        · rw [e] at l4; exact Nat.lt_irrefl _ l4
        · exact Nat.lt_irrefl _ (Nat.lt_of_lt_of_le l3 (hb _ hm))
    · rcases List.mem_cons.mp hm with e | hm
      · rw [e] at l5; exact Nat.lt_irrefl _ l5
      · exact Nat.lt_irrefl _ (Nat.lt_of_lt_of_le (Nat.lt_trans l3 (Nat.lt_trans l4 l5)) (hb _ hm))
    · exact Nat.lt_irrefl _ (Nat.lt_of_lt_of_le (Nat.lt_trans l3 l4) (hb _ hm))
end
section -- JPgLaw
open PySem.Calls Builtin Builtin.Str
noncomputable def SgS (x : Str) : Prop := ∀ c ∈ x.cps.toList, Sg c
theorem sgs_app {x y : Str} (hx : SgS x) (hy : SgS y) : SgS (x ++ y) := by
  intro c hc
  rw [app_cps] at hc
  rcases List.mem_append.mp hc with h | h
  · exact hx c h
  · exact hy c h
theorem sgs_semi : SgS ";" := by
  intro c hc
  have : c = 59 := by simpa using (show c ∈ [59] from hc)
  exact .inr (.inr (.inr (.inr this)))
theorem letF_sgs {ws : List Int} {k : Int} (hw : 1 ≤ ws.getD k.toNat 0 ∧ ws.getD k.toNat 0 ≤ 4) (hk : 0 ≤ k ∧ k ≤ 3) : SgS (letF ws k) ∧ ∃ z, (letF ws k).cps.toList = (Txt.item "ABCD" k).cps.toList ++ z := by
  unfold letF
  generalize ws.getD k.toNat 0 = n at *
  have h1 : k = 0 ∨ k = 1 ∨ k = 2 ∨ k = 3 := lt_4i ⟨hk.1, Int.lt_of_le_of_lt hk.2 (by decide)⟩
  have h2 : n = 1 ∨ n = 2 ∨ n = 3 ∨ n = 4 := by omega
  rcases h1 with rfl | rfl | rfl | rfl <;> rcases h2 with rfl | rfl | rfl | rfl <;> exact ⟨by unfold SgS Sg; decide +kernel, _, rfl⟩
theorem rows_fold_sgs {ws : List Int} (hw4 : ws.length = 4) (hw : ∀ x ∈ ws, 1 ≤ x ∧ x ≤ 4) (wd : Nat) : ∀ (os : List Int) (pre : List Str) (r : Str), (∀ x ∈ os, 0 ≤ x ∧ x ≤ 3) → (∀ x ∈ pre ++ [r], SgS x) →
    (∃ r' rest, os.foldl (rowsStep ws wd) (pre ++ [r]) = pre ++ (r ++ r') :: rest) ∧ ∀ x ∈ os.foldl (rowsStep ws wd) (pre ++ [r]), SgS x
  | [], pre, r, _, h => ⟨⟨"", [], by show pre ++ [r] = pre ++ [r ++ ""]; rw [show r ++ "" = r from str_ext (by rw [app_cps]; exact List.append_nil _)]⟩, h⟩
  | k :: os, pre, r, ho, h => by
    rw [List.foldl_cons, rowsStep_snoc]
    have hk := ho k (.head _)
    have hl := (letF_sgs (getD_rng hw (show k.toNat < ws.length by omega)) hk).1
    have hr : SgS r := h r (List.mem_append_right _ (.head _))
    split
    · have ih := rows_fold_sgs hw4 hw wd os (pre ++ [r]) (letF ws k ++ ";") (fun x hx => ho x (.tail _ hx)) (fun x hx => by
        rcases List.mem_append.mp hx with hx | hx
        · exact h x hx
        · rw [List.mem_singleton.mp hx]; exact sgs_app hl sgs_semi)
      obtain ⟨⟨r', rest, e⟩, h2⟩ := ih
      refine ⟨⟨"", (letF ws k ++ ";" ++ r') :: rest, ?_⟩, h2⟩
      rw [e, show r ++ "" = r from str_ext (by rw [app_cps]; exact List.append_nil _)]
      simp
    · have ih := rows_fold_sgs hw4 hw wd os pre (r ++ (letF ws k ++ ";")) (fun x hx => ho x (.tail _ hx)) (fun x hx => by
        rcases List.mem_append.mp hx with hx | hx
        · exact h x (List.mem_append_left _ hx)
        · rw [List.mem_singleton.mp hx]; exact sgs_app hr (sgs_app hl sgs_semi))
      obtain ⟨⟨r', rest, e⟩, h2⟩ := ih
      exact ⟨⟨_, rest, by rw [e, str_app_assoc]⟩, h2⟩
theorem rows_sgs {ws : List Int} (hw4 : ws.length = 4) (hw : ∀ x ∈ ws, 1 ≤ x ∧ x ≤ 4) (wd : Nat) {os : List Int} (ho : ∀ x ∈ os, 0 ≤ x ∧ x ≤ 3) : ∀ x ∈ rowsF ws wd os, SgS x :=
  (rows_fold_sgs hw4 hw wd os [] ";" ho (fun x hx => by rw [List.mem_singleton.mp hx]; exact sgs_semi)).2
theorem rows_tip {ws : List Int} (hw4 : ws.length = 4) (hw : ∀ x ∈ ws, 1 ≤ x ∧ x ≤ 4) {wd : Nat} {q : Int} {t : Int} (hq : (wd : Int) = 2 * q ∨ (wd : Int) = 2 * q - 1) : ∀ (os : List Int) (a : Int) (r : Str), (∀ x ∈ os, 0 ≤ x ∧ x ≤ 3) → SgS r → (r.length : Int) = 1 + 2 * a → a < q → tipF ws q os a = some t →
    ∃ r0 z rest, os.foldl (rowsStep ws wd) [r] = (r ++ r0) :: (letF ws t ++ z) :: rest
  | [], a, r, _, _, _, _, h => nomatch h
  | k :: os, a, r, ho, hr, hl, ha, h => by
    have hk := ho k (.head _)
    have hwk := getD_rng hw (show k.toNat < ws.length by omega)
    obtain ⟨hls, hz⟩ := letF_sgs hwk hk
    have e := rowsStep_snoc ws wd [] r k
    simp only [List.nil_append, List.cons_append] at e
    rw [List.foldl_cons, e]
    unfold tipF at h
    by_cases hc : q ≤ a + ws.getD k.toNat 0
    · rw [if_pos ⟨ha, hc⟩] at h
      rw [if_pos (by omega)]
      have ih := rows_fold_sgs hw4 hw wd os [r] (letF ws k ++ ";") (fun x hx => ho x (.tail _ hx)) (fun x hx => by
        rcases List.mem_append.mp hx with hx | hx
        · rw [List.mem_singleton.mp hx]; exact hr
        · rw [List.mem_singleton.mp hx]; exact sgs_app hls sgs_semi)
      obtain ⟨⟨r', rest, e2⟩, h2⟩ := ih
      cases h
      simp only [List.cons_append, List.nil_append] at e2
      exact ⟨"", ";" ++ r', rest, by rw [e2, str_app_assoc, show r ++ "" = r from str_ext (by rw [app_cps]; exact List.append_nil _)]⟩
    · rw [if_neg (fun z => hc z.2)] at h
      rw [if_neg (by omega)]
      have hlen : ((letF ws k).length : Int) = 2 * ws.getD k.toNat 0 - 1 := by
        unfold letF
        generalize ws.getD k.toNat 0 = n at *
        have h1 : k = 0 ∨ k = 1 ∨ k = 2 ∨ k = 3 := lt_4i ⟨(ho k (.head _)).1, Int.lt_of_le_of_lt (ho k (.head _)).2 (by decide)⟩
        have h2 : n = 1 ∨ n = 2 ∨ n = 3 ∨ n = 4 := by omega
        rcases h1 with rfl | rfl | rfl | rfl <;> rcases h2 with rfl | rfl | rfl | rfl <;> decide +kernel
      have hs : ((";" : Str).length : Int) = 1 := rfl
      obtain ⟨r0, z, rest, e3⟩ := rows_tip hw4 hw hq os (a + ws.getD k.toNat 0) (r ++ (letF ws k ++ ";")) (fun x hx => ho x (.tail _ hx)) (sgs_app hr (sgs_app hls sgs_semi))
        (by rw [str_len_append, str_len_append]; omega) (by omega) h
      exact ⟨_, z, rest, by rw [e3, str_app_assoc]⟩
theorem tip_some {ws : List Int} {q : Int} : ∀ (os : List Int) (a : Int), a < q → q ≤ a + (os.map fun k => ws.getD k.toNat 0).sum → ∃ t ∈ os, tipF ws q os a = some t
  | [], a, h1, h2 => by simp at h2; omega
  | k :: os, a, h1, h2 => by
    unfold tipF
    by_cases hc : q ≤ a + ws.getD k.toNat 0
    · exact ⟨k, .head _, by rw [if_pos ⟨h1, hc⟩]⟩
    · rw [if_neg (fun z => hc z.2)]
      rw [List.map_cons, List.sum_cons] at h2
      obtain ⟨t, h3, h4⟩ := tip_some (ws := ws) (q := q) os (a + ws.getD k.toNat 0) (by omega) (by omega)
      exact ⟨t, .tail _ h3, h4⟩
structure MkOk (mk : Str) : Prop where
  ne : mk.cps.toList ≠ []
  kind : Builtin.Str.strKind mk = 1
  clear : ∀ c, Sg2 c → c ∉ mk.cps.toList
theorem clear_sgs {mk : Str} (h : MkOk mk) {ps : List Str} (hp : ∀ p ∈ ps, ∀ c ∈ p.cps.toList, Sg2 c) : Clear mk.cps.toList (ps.map (·.cps.toList)) := by
  intro l hl c hc
  obtain ⟨p, hp', rfl⟩ := List.mem_map.mp hl
  exact h.clear c (hp p hp' c hc)
theorem join_cons {mk x : Str} {ps : List Str} (h : ps ≠ []) : Txt.join mk (x :: ps) = x ++ mk ++ Txt.join mk ps := by
  show glued mk _ = _ ++ glued mk _
  rw [StrLaws.glued_eq_join, StrLaws.glued_eq_join]
  cases ps with
  | nil => exact absurd rfl h
  | cons y r => rfl
theorem empty_app (x : Str) : ("" : Str) ++ x = x := str_ext (by rw [app_cps]; exact List.nil_append _)
theorem app_empty (x : Str) : x ++ ("" : Str) = x := str_ext (by rw [app_cps]; exact List.append_nil _)
theorem join_snoc {mk : Str} : ∀ {ps : List Str}, ps ≠ [] → Txt.join mk (ps ++ [("" : Str)]) = Txt.join mk ps ++ mk
  | [], h => absurd rfl h
  | [x], _ => by
    show Txt.join mk (x :: [("" : Str)]) = _
    rw [join_cons (by simp)]
    exact app_empty _
  | x :: y :: r, _ => by
    rw [List.cons_append, join_cons (by simp), join_cons (List.cons_ne_nil _ _), join_snoc (List.cons_ne_nil _ _)]
    simp only [str_app_assoc]
theorem join_ends {mk : Str} {ps : List Str} (h : ps ≠ []) : mk ++ Txt.join mk ps ++ mk = Txt.join mk (("" : Str) :: (ps ++ [("" : Str)])) := by
  rw [join_cons (by simp), join_snoc h, empty_app, str_app_assoc]
theorem cap_sg2 {x : Str} (h : SgS x) : ∀ c ∈ (Txt.capitalize x).cps.toList, Sg2 c := by
  rw [cap_sg h]
  exact capL_sg2 h
section
variable {ws : List Int} {wd : Nat} {os : List Int} {mk : Str}
theorem rows_ne (hw4 : ws.length = 4) (hw : ∀ x ∈ ws, 1 ≤ x ∧ x ≤ 4) (ho : ∀ x ∈ os, 0 ≤ x ∧ x ≤ 3) : rowsF ws wd os ≠ [] := by
  obtain ⟨⟨r', rest, e⟩, _⟩ := rows_fold_sgs hw4 hw wd os [] ";" ho (fun x hx => by rw [List.mem_singleton.mp hx]; exact sgs_semi)
  unfold rowsF
  rw [List.nil_append] at e
  rw [e]
  simp
theorem page_split (hmk : MkOk mk) (hw4 : ws.length = 4) (hw : ∀ x ∈ ws, 1 ≤ x ∧ x ≤ 4) (ho : ∀ x ∈ os, 0 ≤ x ∧ x ≤ 3) : Txt.split (mk ++ Txt.join mk (rowsF ws wd os) ++ mk) mk = ("" : Str) :: (rowsF ws wd os ++ [("" : Str)]) := by
  rw [join_ends (rows_ne hw4 hw ho)]
  refine split_join mk _ hmk.ne hmk.kind (List.cons_ne_nil _ _) (clear_sgs hmk fun p hp c hc => ?_)
  have hs := rows_sgs hw4 hw wd ho
  rcases List.mem_cons.mp hp with rfl | hp
  · exact absurd hc List.not_mem_nil
  · rcases List.mem_append.mp hp with hp | hp
    · exact .inl (hs p hp c hc)
    · rw [List.mem_singleton.mp hp] at hc
      exact absurd hc List.not_mem_nil
theorem page_eq (hmk : MkOk mk) (hw4 : ws.length = 4) (hw : ∀ x ∈ ws, 1 ≤ x ∧ x ≤ 4) (ho : ∀ x ∈ os, 0 ≤ x ∧ x ≤ 3) : pageF ws wd mk os = Txt.join mk (("" : Str) :: ((rowsF ws wd os).map Txt.capitalize ++ [("" : Str)])) := by
  unfold pageF
  rw [page_split hmk hw4 hw ho, List.map_cons, List.map_append]
  rfl
theorem page_back (hmk : MkOk mk) (hw4 : ws.length = 4) (hw : ∀ x ∈ ws, 1 ≤ x ∧ x ≤ 4) (ho : ∀ x ∈ os, 0 ≤ x ∧ x ≤ 3) : Txt.split (pageF ws wd mk os) mk = ("" : Str) :: ((rowsF ws wd os).map Txt.capitalize ++ [("" : Str)]) := by
  rw [page_eq hmk hw4 hw ho]
  refine split_join mk _ hmk.ne hmk.kind (List.cons_ne_nil _ _) (clear_sgs hmk fun p hp c hc => ?_)
  have hs := rows_sgs hw4 hw wd ho
  rcases List.mem_cons.mp hp with rfl | hp
  · exact absurd hc List.not_mem_nil
  · rcases List.mem_append.mp hp with hp | hp
    · obtain ⟨r, hr, rfl⟩ := List.mem_map.mp hp
      exact cap_sg2 (hs r hr) c hc
    · rw [List.mem_singleton.mp hp] at hc
      exact absurd hc List.not_mem_nil
theorem cap_row {x : Str} (hs : SgS x) (hx : x.length ≠ 0) : Txt.capitalize x = Txt.item x 0 ++ Txt.lower (Txt.slice x (some 1) none) := by
  have hl : 1 ≤ x.length := by omega
  have e := slice_from_eq (x := x) (i := 1) (b := x.length) (by decide) (by omega) rfl
  rw [e]
  apply str_ext
  rw [cap_sg hs, app_cps]
  have e1 : (Txt.item x 0).cps.toList = x.cps.toList.take 1 := by
    unfold Txt.item Txt.charAt
    have : seqIndex? 0 x.length = some 0 := by unfold seqIndex?; simp; omega
    rw [this]
    show [(x.cps[0]?).getD 0] = _
    rw [← Array.getElem?_toList]
    have : x.cps.toList.length = x.length := Array.length_toList ..
    cases hc : x.cps.toList with
    | nil => rw [hc] at this; simp at this; omega
    | cons a r => rfl
  have e2 : (x.cps.toList.drop (1 : Int).toNat).take (((x.length : Int)) - 1).toNat = x.cps.toList.drop 1 := by
    have : x.cps.toList.length = x.length := Array.length_toList ..
    rw [List.take_of_length_le]
    · rfl
    · rw [List.length_drop]
      show x.cps.toList.length - 1 ≤ _
      omega
  rw [e1, e2, lower_sg (x := ⟨(x.cps.toList.drop 1).toArray⟩) (fun c hc => hs c (List.mem_of_mem_drop hc))]
  cases x.cps.toList with
  | nil => rfl
  | cons a r => rfl
theorem rows_count : (rowsF ws wd os).length ≤ 1 + os.length := by
  have key : ∀ (os : List Int) (rs : List Str), (os.foldl (rowsStep ws wd) rs).length ≤ rs.length + os.length + (if rs = [] then 1 else 0) := by
    intro os
    induction os with
    | nil => intro rs; simp
    | cons k os ih =>
      intro rs
      rw [List.foldl_cons]
      have h := ih (rowsStep ws wd rs k)
      have h2 : (rowsStep ws wd rs k) ≠ [] ∧ (rowsStep ws wd rs k).length ≤ rs.length + 1 := by
        unfold rowsStep
        split
        · simp
        · refine ⟨by simp, ?_⟩
          simp only [List.length_append, List.length_dropLast, List.length_singleton]
          omega
      rw [if_neg h2.1] at h
      simp only [List.length_cons]
      omega
  have := key os [";"]
  simp at this
  unfold rowsF
  omega
theorem sum_leB {B : Nat} : ∀ {l : List Str}, (∀ r ∈ l, r.length ≤ B) → (l.map (·.length)).sum ≤ B * l.length
  | [], _ => Nat.zero_le _
  | x :: r, h => by
    have ih := sum_leB (l := r) fun y hy => h y (.tail _ hy)
    have := h x (.head _)
    simp only [List.map_cons, List.sum_cons, List.length_cons, Nat.mul_add, Nat.mul_one]
    omega
theorem page_room (hmk : MkOk mk) (hm4 : mk.length ≤ 3) (hw4 : ws.length = 4) (hw : ∀ x ∈ ws, 1 ≤ x ∧ x ≤ 4) (ho : ∀ x ∈ os, 0 ≤ x ∧ x ≤ 3) (ho4 : os.length = 4) :
    (mk ++ Txt.join mk (rowsF ws wd os) ++ mk).length ≤ 200 ∧ (Txt.split (mk ++ Txt.join mk (rowsF ws wd os) ++ mk) mk).length ≤ 100 ∧ ((rowsF ws wd os).map (·.length)).sum + (rowsF ws wd os).length ≤ 1048576 := by
  have h1 := rows_count (ws := ws) (wd := wd) (os := os)
  have h2 := sum_leB (rowsF_len hw hw4 ho wd)
  rw [ho4] at h1 h2
  have h3 := StrLaws.join_length_le mk (rowsF ws wd os)
  have h4 : Txt.join mk (rowsF ws wd os) = Str.join mk (rowsF ws wd os) := StrLaws.glued_eq_join ..
  have h5 : (rowsF ws wd os).length * mk.length ≤ 5 * 3 := Nat.mul_le_mul (by omega) hm4
  refine ⟨?_, ?_, ?_⟩
  · rw [str_len_append, str_len_append, h4]
    omega
  · rw [page_split hmk hw4 hw ho]
    simp only [List.length_cons, List.length_append, List.length_nil]
    omega
  · omega
theorem page_great (hmk : MkOk mk) (hw4 : ws.length = 4) (hw : ∀ x ∈ ws, 1 ≤ x ∧ x ≤ 4) (ho : ∀ x ∈ os, 0 ≤ x ∧ x ≤ 3) {q t : Int} (hq : (wd : Int) = 2 * q ∨ (wd : Int) = 2 * q - 1) (hq0 : 0 < q) (ht : tipF ws q os 0 = some t) (h03 : 0 ≤ t ∧ t ≤ 3) :
    ∃ z, (Txt.split (pageF ws wd mk os) mk)[2]? = some z ∧ z.cps.toList.take 1 = (Txt.item "ABCD" t).cps.toList := by
  obtain ⟨r0, z, rest, e⟩ := rows_tip hw4 hw hq os 0 ";" ho sgs_semi rfl hq0 ht
  have e' : rowsF ws wd os = (";" ++ r0) :: (letF ws t ++ z) :: rest := e
  have hs : SgS (letF ws t ++ z) := rows_sgs hw4 hw wd ho _ (by rw [e']; exact .tail _ (.head _))
  rw [page_back hmk hw4 hw ho, e']
  refine ⟨_, rfl, ?_⟩
  rw [cap_sg hs, app_cps]
  obtain ⟨y, hy⟩ := (letF_sgs (ws := ws) (k := t) (getD_rng hw (by omega)) h03).2
  rw [hy]
  have : (Txt.item "ABCD" t).cps.toList = [((Txt.charAt "ABCD" t).getD 0)] := rfl
  rw [this]
  rfl
theorem rows_all (hw4 : ws.length = 4) (hw : ∀ x ∈ ws, 1 ≤ x ∧ x ≤ 4) (ho : ∀ x ∈ os, 0 ≤ x ∧ x ≤ 3) : ∀ x ∈ rowsF ws wd os, x.length ≠ 0 := by
  have key : ∀ (os : List Int) (rs : List Str), (∀ x ∈ rs, x.length ≠ 0) → ∀ x ∈ os.foldl (rowsStep ws wd) rs, x.length ≠ 0 := by
    intro os
    induction os with
    | nil => exact fun _ h => h
    | cons k os ih =>
      intro rs h
      rw [List.foldl_cons]
      refine ih _ fun x hx => ?_
      have hs : ((";" : Str)).length = 1 := rfl
      unfold rowsStep at hx
      split at hx
      · rcases List.mem_append.mp hx with hx | hx
        · exact h x hx
        · rw [List.mem_singleton.mp hx, str_len_append]; omega
      · rcases List.mem_append.mp hx with hx | hx
        · exact h x ((List.dropLast_sublist _).subset hx)
        · rw [List.mem_singleton.mp hx, str_len_append, str_len_append]; omega
  exact key os _ fun x hx => by rw [List.mem_singleton.mp hx]; decide
theorem page_whole (hmk : MkOk mk) (hw4 : ws.length = 4) (hw : ∀ x ∈ ws, 1 ≤ x ∧ x ≤ 4) (ho : ∀ x ∈ os, 0 ≤ x ∧ x ≤ 3) :
    pageF ws wd mk os = mk ++ Txt.join mk ((rowsF ws wd os).map fun r => Txt.item r 0 ++ Txt.lower (Txt.slice r (some 1) none)) ++ mk := by
  rw [page_eq hmk hw4 hw ho, ← join_ends (by simpa using rows_ne hw4 hw ho)]
  congr 3
  exact List.map_congr_left fun r hr => cap_row (rows_sgs hw4 hw wd ho r hr) (rows_all hw4 hw ho r hr)
end
theorem mark_ok : ∀ mk ∈ [("|" : Str), "\n", "--", " / "], MkOk mk ∧ mk.length ≤ 3 ∧ (mk.length == 0) = false := by
  intro mk h
  have key : ∀ l : List Nat, (∀ c ∈ l, ¬ Sg2 c) → ∀ c, Sg2 c → c ∉ l := fun l h c hc hm => h c hm hc
  simp only [List.mem_cons, List.not_mem_nil, or_false] at h
  rcases h with rfl | rfl | rfl | rfl <;> refine ⟨⟨by decide +kernel, by decide +kernel, key _ ?_⟩, by decide +kernel, by decide +kernel⟩ <;> (unfold Sg2 Sg; decide +kernel)
end
section -- JCtLaw
open PySem.Calls
noncomputable def tipD (ws : List Int) (q : Int) (os : List Int) : Int := (tipF ws q os 0).getD 0
theorem ords12 : ordsF 4 = [[0, 1, 2, 3], [0, 2, 3, 1], [0, 3, 1, 2], [1, 0, 3, 2], [1, 2, 0, 3], [1, 3, 2, 0], [2, 0, 1, 3], [2, 1, 3, 0], [2, 3, 0, 1], [3, 0, 2, 1], [3, 1, 0, 2], [3, 2, 1, 0]] := by decide +kernel
noncomputable def ind (p : Prop) [Decidable p] : Int := if p then 1 else 0
theorem ind_congr {p q : Prop} [Decidable p] [Decidable q] (h : p ↔ q) : ind p = ind q := by
  unfold ind
  by_cases hp : p
  · rw [if_pos hp, if_pos (h.mp hp)]
  · rw [if_neg hp, if_neg (fun z => hp (h.mpr z))]
theorem ind_not {p : Prop} [Decidable p] (h : ¬ p) : ind p = 0 := if_neg h
noncomputable def sumP (st i : Nat) : List (Nat × Nat) → Int
  | [] => 0
  | x :: r => ind (x.1 * st + x.2 = i) + sumP st i r
theorem sumP_app (st i : Nat) : ∀ (a b : List (Nat × Nat)), sumP st i (a ++ b) = sumP st i a + sumP st i b
  | [], b => (Int.zero_add _).symm
  | x :: a, b => by rw [List.cons_append, sumP, sumP, sumP_app st i a b, Int.add_assoc]
noncomputable def Coef (st : Nat) (f : List Int) (ps : List (Nat × Nat)) : Prop := ∀ i, f.getD i 0 = sumP st i ps
theorem getD_app_zero (f : List Int) (n i : Nat) : (f ++ List.replicate n 0).getD i 0 = f.getD i 0 := by
  rw [List.getD_eq_getElem?_getD, List.getD_eq_getElem?_getD]
  by_cases h : i < f.length
  · rw [List.getElem?_append_left h]
  · rw [List.getElem?_append_right (by omega), List.getElem?_eq_none (l := f) (by omega), List.getElem?_replicate]
    split <;> rfl
theorem coef_rep {st n : Nat} {f : List Int} {ps : List (Nat × Nat)} (h : Coef st f ps) : Coef st (f ++ List.replicate n 0) ps := fun i => by rw [getD_app_zero]; exact h i
theorem getD_figStep (f : List Int) (g i : Nat) : (figStep f g).getD i 0 = f.getD i 0 + (if g ≤ i then f.getD (i - g) 0 else 0) := by
  unfold figStep
  have h1 : (List.replicate g (0 : Int) ++ f).getD i 0 = if g ≤ i then f.getD (i - g) 0 else 0 := by
    rw [List.getD_eq_getElem?_getD]
    by_cases h : g ≤ i
    · rw [if_pos h, List.getElem?_append_right (by simpa using h), List.length_replicate, ← List.getD_eq_getElem?_getD]
    · rw [if_neg h, List.getElem?_append_left (by simp; omega), List.getElem?_replicate, if_pos (by omega)]
      rfl
  rw [← h1, ← getD_app_zero f g i]
  have hl : (f ++ List.replicate g (0 : Int)).length = (List.replicate g 0 ++ f).length := by simp; omega
  generalize f ++ List.replicate g (0 : Int) = a at *
  generalize List.replicate g (0 : Int) ++ f = b at *
  rw [List.getD_eq_getElem?_getD, List.getD_eq_getElem?_getD, List.getD_eq_getElem?_getD, List.getElem?_zipWith]
  by_cases h : i < a.length
  · rw [List.getElem?_eq_getElem h, List.getElem?_eq_getElem (hl ▸ h)]; rfl
  · rw [List.getElem?_eq_none (l := a) (by omega), List.getElem?_eq_none (l := b) (by omega)]; rfl
theorem sumP_shift (st w i : Nat) (ps : List (Nat × Nat)) : sumP st i (ps.map fun x => (x.1 + 1, x.2 + w)) = if st + w ≤ i then sumP st (i - (st + w)) ps else 0 := by
  induction ps with
  | nil => rw [List.map_nil, sumP, sumP]; exact (ite_self _).symm
  | cons x r ih =>
    rw [List.map_cons, sumP, ih]
    have e : (x.1 + 1) * st + (x.2 + w) = x.1 * st + x.2 + (st + w) := by rw [Nat.succ_mul, Nat.add_add_add_comm]
    by_cases h : st + w ≤ i
    · rw [if_pos h, if_pos h, sumP]
      exact congrArg (· + _) (ind_congr (by rw [e]; exact ⟨Nat.eq_sub_of_add_eq, fun z => by rw [z, Nat.sub_add_cancel h]⟩))
    · rw [if_neg h, if_neg h, ind_not (fun z => h (by rw [e] at z; rw [← z]; exact Nat.le_add_left ..))]
      rfl
theorem step_le {ps : List (Nat × Nat)} {B w : Nat} (h : ∀ p ∈ ps, p.2 ≤ B) : ∀ p ∈ ps ++ ps.map fun x => (x.1 + 1, x.2 + w), p.2 ≤ B + w := fun p hp => by
  rcases List.mem_append.mp hp with hp | hp
  · exact Nat.le_trans (h p hp) (Nat.le_add_right ..)
  · obtain ⟨x, hx, rfl⟩ := List.mem_map.mp hp
    exact Nat.add_le_add_right (h x hx) w
theorem coef_step {st w : Nat} {f : List Int} {ps : List (Nat × Nat)} (h : Coef st f ps) : Coef st (figStep f (st + w)) (ps ++ ps.map fun x => (x.1 + 1, x.2 + w)) := fun i => by
  rw [getD_figStep, sumP_app, sumP_shift, h i]
  split
  · rw [h]
  · rfl
theorem coef_one (st : Nat) : Coef st [1] [(0, 0)] := fun i => by
  cases i with
  | zero => simp [sumP, ind]
  | succ i => simp [sumP, ind]
noncomputable def sumR (st lo n : Nat) (B : Nat) : List (Nat × Nat) → Int
  | [] => 0
  | x :: r => ind (B ≤ x.1 * st + x.2 ∧ x.1 * st + x.2 < B + n) + sumR st lo n B r
theorem sumR_zero (st lo B : Nat) : ∀ ps : List (Nat × Nat), sumR st lo 0 B ps = 0
  | [] => rfl
  | x :: r => by rw [sumR, sumR_zero st lo B r, ind_not (by omega)]; rfl
theorem sumR_succ (st lo B j : Nat) : ∀ ps : List (Nat × Nat), sumR st lo (j + 1) B ps = sumR st lo j B ps + sumP st (B + j) ps
  | [] => rfl
  | x :: r => by
    rw [sumR, sumR, sumP, sumR_succ st lo B j r]
    have : ind (B ≤ x.1 * st + x.2 ∧ x.1 * st + x.2 < B + (j + 1)) = ind (B ≤ x.1 * st + x.2 ∧ x.1 * st + x.2 < B + j) + ind (x.1 * st + x.2 = B + j) := by
      generalize x.1 * st + x.2 = X
      unfold ind
      (repeat' split) <;> omega
    rw [this]
    omega
theorem cntIn_sum {st lo : Nat} {ps : List Int} {qs : List (Nat × Nat)} (h : Coef st ps qs) (c : Int) (B : Nat) : ∀ j, cntIn ps c B j = c * sumR st lo j B qs
  | 0 => by rw [sumR_zero]; simp [cntIn]
  | j + 1 => by rw [cntIn, cntIn_sum h c B j, sumR_succ, h, Int.mul_add]
theorem ind_pair {k m st lo n w : Nat} (h : w < st) (h2 : lo + n ≤ st) : ind (k * st + lo ≤ m * st + w ∧ m * st + w < k * st + lo + n) = if k = m then ind (lo ≤ w ∧ w < lo + n) else 0 := by
  by_cases e : k = m
  · rw [if_pos e, e]
    exact ind_congr (by omega)
  · rw [if_neg e]
    refine ind_not ?_
    rcases Nat.lt_or_gt_of_ne e with h3 | h3
    · have := Nat.mul_le_mul_right st (show k + 1 ≤ m from h3)
      rw [Nat.succ_mul] at this
      omega
    · have := Nat.mul_le_mul_right st (show m + 1 ≤ k from h3)
      rw [Nat.succ_mul] at this
      omega
noncomputable def sumS (f : Int → Int) (k : Nat) : List (Nat × Nat) → Int
  | [] => 0
  | x :: r => if k = x.1 then f (x.2 : Int) + sumS f k r else sumS f k r
noncomputable def runF (q a : Nat) (P : Int) : Int := ind (P < (q : Int) ∧ (q : Int) ≤ P + (a : Int))
theorem runF_of {lo n q a : Nat} (hlo : lo = q - a) (hn : n = min q a) (w : Nat) : ind (lo ≤ w ∧ w < lo + n) = runF q a (w : Int) := ind_congr (by
  rw [hlo, hn, Nat.sub_add_min_cancel, Nat.sub_le_iff_le_add, and_comm]
  exact and_congr Int.ofNat_lt.symm Int.ofNat_le.symm)
theorem sumR_S {st lo n k q a : Nat} (hlo : lo = q - a) (hn : n = min q a) (h2 : lo + n ≤ st) : ∀ {ps : List (Nat × Nat)}, (∀ x ∈ ps, x.2 < st) → sumR st lo n (k * st + lo) ps = sumS (runF q a) k ps
  | [], _ => rfl
  | x :: r, h => by
    rw [sumR, sumS, sumR_S hlo hn h2 fun y hy => h y (.tail _ hy), ind_pair (h x (.head _)) h2]
    by_cases e : k = x.1
    · rw [if_pos e, if_pos e, runF_of hlo hn]
    · rw [if_neg e, if_neg e, Int.zero_add]
theorem cntK_sum {st lo n q a : Nat} {ps : List Int} {qs : List (Nat × Nat)} (h : Coef st ps qs) (hlo : lo = q - a) (hn : n = min q a) (h2 : lo + n ≤ st) (hq : ∀ x ∈ qs, x.2 < st) : cntK ps st lo n 4 = (0 : Int) + 3 * sumS (runF q a) 0 qs + 1 * sumS (runF q a) 1 qs + 1 * sumS (runF q a) 2 qs + 3 * sumS (runF q a) 3 qs := by
  unfold cntK cntK cntK cntK cntK
  rw [cntIn_sum (lo := lo) h, cntIn_sum (lo := lo) h, cntIn_sum (lo := lo) h, cntIn_sum (lo := lo) h, sumR_S hlo hn h2 hq, sumR_S hlo hn h2 hq, sumR_S hlo hn h2 hq, sumR_S hlo hn h2 hq]
  rfl
theorem permSum {f : Int → Int} {l l' : List Int} (h : l.Perm l') : (l.map f).sum = (l'.map f).sum := by
  induction h with
  | nil => rfl
  | cons x _ ih => rw [List.map_cons, List.map_cons, List.sum_cons, List.sum_cons, ih]
  | swap x y l => exact Int.add_left_comm ..
  | trans _ _ a b => exact a.trans b
theorem ord_perm : ∀ os ∈ ordsF 4, os.Perm [0, 1, 2, 3] ∧ os.Nodup := by rw [ords12]; decide +kernel
theorem four_of {ws : List Int} (h : ws.length = 4) : ∃ a b c d, ws = [a, b, c, d] := by
  obtain ⟨a, r, rfl⟩ := List.exists_cons_of_length_eq_add_one h
  obtain ⟨b, r, rfl⟩ := List.exists_cons_of_length_eq_add_one (Nat.succ.inj h)
  obtain ⟨c, r, rfl⟩ := List.exists_cons_of_length_eq_add_one (Nat.succ.inj (Nat.succ.inj h))
  obtain ⟨d, r, rfl⟩ := List.exists_cons_of_length_eq_add_one (Nat.succ.inj (Nat.succ.inj (Nat.succ.inj h)))
  rw [List.eq_nil_of_length_eq_zero (Nat.succ.inj (Nat.succ.inj (Nat.succ.inj (Nat.succ.inj h))))]
  exact ⟨_, _, _, _, rfl⟩
theorem tip_ok {ws : List Int} (hw4 : ws.length = 4) {q : Int} (hq : 1 ≤ q) (hs : q ≤ ws.sum) : ∀ os ∈ ordsF 4, tipF ws q os 0 = some (tipD ws q os) ∧ tipD ws q os ∈ os := by
  intro os ho
  have hsum : (os.map fun k => ws.getD k.toNat 0).sum = ws.sum := by
    rw [permSum (ord_perm os ho).1]
    obtain ⟨a, b, c, d, rfl⟩ := four_of hw4
    rfl
  obtain ⟨t, h1, h2⟩ := tip_some (ws := ws) (q := q) os 0 (Int.lt_of_lt_of_le Int.zero_lt_one hq) (by rw [hsum, Int.zero_add]; exact hs)
  unfold tipD
  rw [h2]
  exact ⟨rfl, h1⟩
noncomputable def pre (ws : List Int) : List Int → Int → Int
  | [], _ => 0
  | k :: r, v => if k = v then 0 else ws.getD k.toNat 0 + pre ws r v
theorem pre_nonneg {ws : List Int} (hw : ∀ k : Int, 0 ≤ ws.getD k.toNat 0) (v : Int) : ∀ os, 0 ≤ pre ws os v
  | [] => Int.le_refl _
  | k :: r => by
    rw [pre]
    split
    · exact Int.le_refl _
    · exact Int.add_nonneg (hw k) (pre_nonneg hw v r)
theorem tipF_mem {ws : List Int} {q x : Int} : ∀ {os : List Int} {a : Int}, tipF ws q os a = some x → x ∈ os
  | [], _, h => nomatch h
  | k :: r, a, h => by
    rw [tipF] at h
    split at h
    · cases h; exact .head _
    · exact .tail _ (tipF_mem h)
theorem tip_at {ws : List Int} {q v : Int} (hw : ∀ k : Int, 0 ≤ ws.getD k.toNat 0) : ∀ {os : List Int} {a : Int}, a < q → os.Nodup → v ∈ os → (tipF ws q os a = some v ↔ a + pre ws os v < q ∧ q ≤ a + pre ws os v + ws.getD v.toNat 0)
  | [], _, _, _, h => nomatch h
  | k :: r, a, h, nd, hv => by
    obtain ⟨n1, n2⟩ := List.nodup_cons.mp nd
    rw [tipF, pre]
    by_cases e : k = v
    · subst e
      rw [if_pos rfl, Int.add_zero]
      by_cases c : a < q ∧ q ≤ a + ws.getD k.toNat 0
      · rw [if_pos c]; exact ⟨fun _ => c, fun _ => rfl⟩
      · rw [if_neg c]; exact ⟨fun z => (n1 (tipF_mem z)).elim, fun z => (c z).elim⟩
    · rw [if_neg e, ← Int.add_assoc]
      by_cases c : a < q ∧ q ≤ a + ws.getD k.toNat 0
      · rw [if_pos c]
        refine ⟨fun z => (e (Option.some.inj z)).elim, fun z => ?_⟩
        have := pre_nonneg hw v r
        exact (Int.not_lt.mpr c.2 (Int.lt_of_le_of_lt (Int.le_add_of_nonneg_right this) z.1)).elim
      · rw [if_neg c]
        exact tip_at hw (Int.not_le.mp fun z => c ⟨h, z⟩) n2 ((List.mem_cons.mp hv).resolve_left fun z => e z.symm)
noncomputable def sumF (f : Int → Int) : List Int → Int
  | [] => 0
  | x :: r => f x + sumF f r
theorem cnt_pre {ws : List Int} {q a : Nat} {v : Int} (ha : ws.getD v.toNat 0 = (a : Int)) (hw : ∀ k : Int, 0 ≤ ws.getD k.toNat 0) (hq : 1 ≤ q) : ∀ {L : List (List Int)}, (∀ os ∈ L, tipF ws q os 0 = some (tipD ws q os) ∧ os.Nodup ∧ v ∈ os) → (((L.map (tipD ws q)).count v : Nat) : Int) = sumF (runF q a) (L.map fun os => pre ws os v)
  | [], _ => rfl
  | os :: r, h => by
    obtain ⟨h1, h2, h3⟩ := h os (.head _)
    have ht := tip_at hw (a := 0) (q := (q : Int)) (Int.natCast_pos.mpr hq) h2 h3
    rw [h1, ha, Int.zero_add] at ht
    have e : (if (tipD ws q os == v) = true then (1 : Nat) else 0 : Nat) = runF q a (pre ws os v) := by
      unfold runF ind
      by_cases c : tipD ws q os = v
      · rw [if_pos (beq_iff_eq.mpr c), if_pos (ht.mp (congrArg some c))]; rfl
      · rw [if_neg (fun z => c (beq_iff_eq.mp z)), if_neg (fun z => c (Option.some.inj (ht.mpr z)))]; rfl
    rw [List.map_cons, List.map_cons, List.count_cons, Int.natCast_add, e, cnt_pre ha hw hq fun o ho => h o (.tail _ ho), sumF, Int.add_comm]
theorem fin_sum {f : Int → Int} {x y z p0 p1 p2 px py pz pxy pxz pyz t0 t1 t2 : Int} (h0 : p0 = 0) (h1 : p1 = 0) (h2 : p2 = 0) (hx : px = 0 + x) (hy : py = 0 + y) (hz : pz = 0 + z) (hxy : pxy = 0 + x + y) (hxz : pxz = 0 + x + z) (hyz : pyz = 0 + y + z) (u0 : t0 = 0 + x + y + z) (u1 : t1 = 0 + x + y + z) (u2 : t2 = 0 + x + y + z) :
    (0 : Int) + 3 * (f 0 + 0) + 1 * (f (0 + x) + (f (0 + y) + (f (0 + z) + 0))) + 1 * (f (0 + x + y) + (f (0 + x + z) + (f (0 + y + z) + 0))) + 3 * (f (0 + x + y + z) + 0) = sumF f [p0, p1, p2, px, py, pz, pxy, pxz, pyz, t0, t1, t2] := by
  subst h0 h1 h2 hx hy hz hxy hxz hyz u0 u1 u2
  simp only [sumF]
  omega
section
variable {x y z : Int}
theorem z1 : x + 0 = 0 + x := Int.add_comm ..
theorem z2 : x + (y + 0) = 0 + x + y := by rw [Int.add_zero, Int.zero_add]
theorem z2r : y + (x + 0) = 0 + x + y := by rw [z2, Int.add_assoc, Int.add_assoc, Int.add_comm y]
theorem z3_xyz : x + (y + (z + 0)) = 0 + x + y + z := by rw [z2, Int.zero_add, Int.zero_add, Int.add_assoc]
theorem z3_xzy : x + (z + (y + 0)) = 0 + x + y + z := by omega
theorem z3_yxz : y + (x + (z + 0)) = 0 + x + y + z := by omega
theorem z3_yzx : y + (z + (x + 0)) = 0 + x + y + z := by omega
theorem z3_zxy : z + (x + (y + 0)) = 0 + x + y + z := by omega
theorem z3_zyx : z + (y + (x + 0)) = 0 + x + y + z := by omega
end
theorem cntw_L {ws : List Int} (hw4 : ws.length = 4) (hw : ∀ x ∈ ws, 1 ≤ x ∧ x ≤ 4) {v : Int} {q st a x y z : Nat} {L : List (List Int)} (ha : ws.getD v.toNat 0 = (a : Int)) (hv : v = 0 ∨ v = 1 ∨ v = 2 ∨ v = 3) (hq : 1 ≤ q) (hs : (q : Int) ≤ ws.sum) (hL : (ordsF 4).Perm L) (hl : x + y + z < st) (h2 : q ≤ st)
    (e : sumF (runF q a) (L.map fun os => pre ws os v) = (0 : Int) + 3 * (runF q a 0 + 0) + 1 * (runF q a (0 + (x : Int)) + (runF q a (0 + (y : Int)) + (runF q a (0 + (z : Int)) + 0))) + 1 * (runF q a (0 + (x : Int) + (y : Int)) + (runF q a (0 + (x : Int) + (z : Int)) + (runF q a (0 + (y : Int) + (z : Int)) + 0))) + 3 * (runF q a (0 + (x : Int) + (y : Int) + (z : Int)) + 0)) :
    cntK (figStep (figStep (figStep [1] (st + x)) (st + y)) (st + z) ++ List.replicate (4 * st) 0) st (q - a) (min q a) 4 = ((((ordsF 4).map (tipD ws q)).count v : Nat) : Int) := by
  have hC := coef_rep (n := 4 * st) (coef_step (w := z) (coef_step (w := y) (coef_step (w := x) (coef_one st))))
  rw [(hL.map _).count_eq, cnt_pre ha (fun k => ?hw) hq (fun os ho => ?ho), e]
  · exact cntK_sum hC rfl rfl (by rw [Nat.sub_add_min_cancel]; exact h2) fun p hp => Nat.lt_of_le_of_lt (step_le (w := z) (step_le (w := y) (step_le (w := x) (B := 0) (List.forall_mem_singleton.mpr (Nat.le_refl 0)))) p hp) (by rw [Nat.zero_add]; exact hl)
  case hw =>
    rw [List.getD_eq_getElem?_getD]
    cases e9 : ws[k.toNat]? with
    | none => exact Int.le_refl _
    | some t => exact Int.le_of_lt (Int.lt_of_lt_of_le Int.zero_lt_one (hw t (List.mem_of_getElem? e9)).1)
  case ho =>
    have ho2 := hL.symm.subset ho
    refine ⟨(tip_ok hw4 (Int.ofNat_le.mpr hq) hs os ho2).1, (ord_perm os ho2).2, (ord_perm os ho2).1.symm.subset ?_⟩
    rcases hv with rfl | rfl | rfl | rfl <;> decide
theorem count_law {ws : List Int} (hw4 : ws.length = 4) (hw : ∀ x ∈ ws, 1 ≤ x ∧ x ≤ 4) {v : Nat} (hv : v < 4) {q st : Nat} (hq : 1 ≤ q) (hs : (q : Int) ≤ ws.sum) (hst : (st : Int) = ws.sum + 1) :
    cntK (figsK v ws st 4 ++ List.replicate (4 * st) 0) st (q - (ws.getD v 0).toNat) (min q (ws.getD v 0).toNat) 4 = ((((ordsF 4).map (tipD ws q)).count (v : Int) : Nat) : Int) := by
  obtain ⟨a, b, c, d, rfl⟩ := four_of hw4
  obtain ⟨a, rfl⟩ := Int.eq_ofNat_of_zero_le (show 0 ≤ a from Int.le_trans (by decide) (hw a (.head _)).1)
  obtain ⟨b, rfl⟩ := Int.eq_ofNat_of_zero_le (show 0 ≤ b from Int.le_trans (by decide) (hw b (.tail _ (.head _))).1)
  obtain ⟨c, rfl⟩ := Int.eq_ofNat_of_zero_le (show 0 ≤ c from Int.le_trans (by decide) (hw c (.tail _ (.tail _ (.head _)))).1)
  obtain ⟨d, rfl⟩ := Int.eq_ofNat_of_zero_le (show 0 ≤ d from Int.le_trans (by decide) (hw d (.tail _ (.tail _ (.tail _ (.head _))))).1)
  have hS : a + b + c + d < st ∧ q ≤ st := by
    simp only [List.sum_cons, List.sum_nil] at hs hst
    omega
  have := lt_4 v hv
  rcases this with rfl | rfl | rfl | rfl
  · refine cntw_L (L := [[0, 1, 2, 3], [0, 2, 3, 1], [0, 3, 1, 2], [1, 0, 3, 2], [2, 0, 1, 3], [3, 0, 2, 1], [1, 2, 0, 3], [3, 1, 0, 2], [2, 3, 0, 1], [1, 3, 2, 0], [2, 1, 3, 0], [3, 2, 1, 0]]) (x := b) (y := c) (z := d) hw4 hw rfl (by decide) hq hs (by rw [ords12]; decide +kernel) (by omega) hS.2 ?_
    exact (fin_sum (f := runF q a) (x := (b : Int)) (y := (c : Int)) (z := (d : Int)) rfl rfl rfl z1 z1 z1 z2 z2r z2 z3_xzy z3_yxz z3_zyx).symm
  · refine cntw_L (L := [[1, 0, 3, 2], [1, 2, 0, 3], [1, 3, 2, 0], [0, 1, 2, 3], [2, 1, 3, 0], [3, 1, 0, 2], [2, 0, 1, 3], [0, 3, 1, 2], [3, 2, 1, 0], [0, 2, 3, 1], [2, 3, 0, 1], [3, 0, 2, 1]]) (x := a) (y := c) (z := d) hw4 hw rfl (by decide) hq hs (by rw [ords12]; decide +kernel) (by omega) hS.2 ?_
    exact (fin_sum (f := runF q b) (x := (a : Int)) (y := (c : Int)) (z := (d : Int)) rfl rfl rfl z1 z1 z1 z2r z2 z2r z3_xyz z3_yzx z3_zxy).symm
  · refine cntw_L (L := [[2, 0, 1, 3], [2, 1, 3, 0], [2, 3, 0, 1], [0, 2, 3, 1], [1, 2, 0, 3], [3, 2, 1, 0], [0, 1, 2, 3], [3, 0, 2, 1], [1, 3, 2, 0], [0, 3, 1, 2], [1, 0, 3, 2], [3, 1, 0, 2]]) (x := a) (y := b) (z := d) hw4 hw rfl (by decide) hq hs (by rw [ords12]; decide +kernel) (by omega) hS.2 ?_
    exact (fin_sum (f := runF q c) (x := (a : Int)) (y := (b : Int)) (z := (d : Int)) rfl rfl rfl z1 z1 z1 z2 z2r z2 z3_xzy z3_yxz z3_zyx).symm
  · refine cntw_L (L := [[3, 0, 2, 1], [3, 1, 0, 2], [3, 2, 1, 0], [0, 3, 1, 2], [1, 3, 2, 0], [2, 3, 0, 1], [1, 0, 3, 2], [0, 2, 3, 1], [2, 1, 3, 0], [0, 1, 2, 3], [1, 2, 0, 3], [2, 0, 1, 3]]) (x := a) (y := b) (z := c) hw4 hw rfl (by decide) hq hs (by rw [ords12]; decide +kernel) (by omega) hS.2 ?_
    exact (fin_sum (f := runF q d) (x := (a : Int)) (y := (b : Int)) (z := (c : Int)) rfl rfl rfl z1 z1 z1 z2r z2 z2r z3_xyz z3_yzx z3_zxy).symm
end
section -- JCap
theorem zsJCap : True := by
  w_top off
  k_with "execs cons" => (refine y_consS ?_; intro sk9 qk9)
  k_with "getAttr" => (k_here; (with_reducible show wpAny _ _ (getAttr (Value.type "str") _ _) _ _ _); k_dflt (refine' y_clsattr ?F ?X ?t ?s ?e ?h ?_; (case F | X => k_asm); (case t => exact meta_str); (case s => decide +kernel); (case e => k_is); (case h => k_handed); k_whole))
  trivial
theorem cap_spec
  (x mk : Str) (tx tm : Tok)
  (B : Below A₀ base outer h₀) (F : Fr h₀ L s.heap m) (X : (hd.heap_1 w.params).In h₀) (N : News h₀ L s.heap ([])) (T : Top p loose mean mg mb h₀) (hkf : cs.kind = .function)
  (hdp : dp + 3 < recursionLimit) (hun : un + 60 < cLine)
  (hmk : mk.length ≤ 16) (hm0 : (mk.length == 0) = false) (hx : x.length ≤ 200) (hsl : (Txt.split x mk).length ≤ 100)
  (hret : ∀ (h' : Heap) (t' : Tok) (k' : Nat), Ge [] s.heap h' → Q (.str (Txt.join mk ((Txt.split x mk).map Txt.capitalize)) t') { s with heap := h', toks := k' }) :
  wpAny (model PySem.Challenge.rw_yj0031_01.row.prog w) (ktrTop dp un gd cn cs L a ccd cl outer) (call (.ref 46) [.str x tx, .str mk tm]) Q E s := by
  revert X; k_fill; intro X
  refine wpAny_call ?_
  refine' y_codeT (rb := [(("sep" : Str), (.str mk tm : Value)), (("s" : Str), (.str x tx : Value))]) ?k1 ?k2 ?k3 ?k4 ?k5 ?kA ?kF ?kK ?k6 ?k7 ?k8 ?k9 ?kR ?kB ?_ ?c2 ?c3 ?c4 ?c5
  (case kA | kF => exact rfl); (case kK | k1 | k2 | k3 | k4 | k5 => assumption); (case k6 | k7 => k_is); (case k8 => ktr_room); (case k9 => first | exact BindsTo.of_eq rfl | exact binds_K (by k_in) rfl (by k_is) rfl rfl rfl); (case kR => exact rfl); (case c5 => decide); (case kB => exact locs rfl); (case c2 | c3 | c4 => exact rfl); have N0 := YOld.mk N; clear B F X N T; intro g L1 h1 tk1 hG F1 N1 B1 X1 T1 l1; (try dsimp only); (try k_lt l1); (try k_fold)
  k_steps
  · (rename Fr _ _ _ _ => F5); (rename News _ _ _ _ => N5); (rename Heap.IsList _ _ _ => L5); (rename StrsAre _ _ => S5); (rename List.map _ _ = Txt.split _ _ => e5); (rename ∀ _, _ → _ ≤ x.length => ln5)
    rw [e5] at S5 ln5
    refine call_map L5 ?_
    intro h2 hM hT hI hz hk
    (try dsimp only at L5 hM hT hI hk)
    have b5 := list_lt L5
    k_steps
    refine join_map rfl hM hT hI (let ⟨o, e, r⟩ := L5; ⟨o, hk _ _ e, r⟩) (ne_up (by decide)) (ne_up (by decide)) (Nat.ne_of_lt b5) S5 (fun y hy => Nat.le_trans (ln5 y hy) (by omega)) (by omega) (caps_ok (fun y hy => Nat.le_trans (ln5 y hy) hx) hsl hmk) ?_
    intro h3 t3 k3 hk3
    exact hret _ _ _ fun b o _ e => let e2 := F5.keep b o (hG b o (fun hm => nomatch hm) e); hk3 b o (Nat.ne_of_lt (Heap.lt_size e2)) (hk b o e2)
end
section -- JStr2
theorem zsJStr2 : True := by
  w_top off
  k_with_none
  k_with "omega" => (lia)
  k_with "execs cons" => (refine y_consS ?_; intro sk9 qk9)
  k_with "ge" => first | exact y_all0 | (refine' y_allc ?gea ?geb; (case gea => first | (exact Or.inl (by k_mem)) | (exact Or.inr (by k_mem))); (case geb => k_extra "ge"))
  k_with "call ref" => (k_here; k_dflt (refine' newline_7 ?B ?F ?X ?N ?T ?hkf ?hdp ?hun ?hs ?hls ?hit ?hln ?htp ?htq ?hG0 ?hSl ?hok ?ht0 ?hns ?hAll ?hr ?_; (case B | F | X | N => k_asm); (case T => assumption); (case hkf => exact rfl); (case hdp => ktr_room); (case hun => ktr_units); (case hs => first | assumption | omega | (simp; omega) | exact ext_size (push_size (by assumption))); (case hls | hit => assumption); (case hln => first | assumption | exact take_len (by assumption)); (case htp | htq | hG0 | hSl | hok | ht0 | hns => assumption); (case hAll => simp only [AllNe2, AllNe1, and_true]; and_intros <;> first | assumption | exact YNe.sym (by assumption) | (show _ ≠ _; omega)); (case hr => exact fun p hp => nomatch hp); k_whole; intro s9' lvs9' nl9' na9' hi9' kt9' ti9' ps9' qs9' F9' N9' j1 j4 j5 hG9' ho9'; obtain ⟨hp9', gs9', d9', tk9', os9'⟩ := s9'; (try dsimp only at F9' N9' hG9' ho9')))
  trivial
theorem str2_spec
  (pg dx li : Addr) (wd nl : Nat) (lvs : Array Value) (lns : List Str) (V : FmtV) (ps qs : Array Value) (xs : List Str) (ac ax : Addr) (its : Array Value) (na : Nat) (hi : Int) (kt ti : Tok) (x mk : Str) (tm : Tok)
  (B : Below A₀ base outer h₀) (F : Fr h₀ L s.heap m) (X : (hd.heap_1 w.params).In h₀) (N : News h₀ L s.heap ([(pg, instObj 154 dx), (dx, dictOf (vfEs V wd li ac) 6), (li, listOf lvs nl), (ac, accObj ax its na), (ax, dictOf [⟨hi, .str "_initial_size" kt, .int 0 ti⟩] 1), (200, tabObj ps), (207, tabObj qs)])) (T : Top p loose mean mg mb h₀) (hkf : cs.kind = .function)
  (hdp : dp + 6 < recursionLimit) (hun : un + 90 < cLine)
  (hs : its.size < 70) (hls : lvs.size < 80) (hit : Items s.heap its (xs ++ [x])) (hln : ∀ y ∈ xs ++ [x], y.length ≤ 200) (htp : TriplesOk ps.toList) (htq : TriplesOk qs.toList) (hG0 : AllBare s.gens)
  (hSl : StrsAre lvs.toList lns) (hok : PyData.strOk x = true) (ht0 : 0 < total (xs ++ [x])) (hns : Txt.isspace (Txt.join "" (xs ++ [x])) = false) (hmk : mk.length ≤ 16) (hw : ((lns ++ [Txt.join "" (xs ++ [x])]).map (·.length)).sum + (lns ++ [Txt.join "" (xs ++ [x])]).length ≤ 1048576) (hAll : AllNe2 [pg, dx, li, ac, ax, 200, 207])
  (hret : ∀ (s' : Shared) (tr : Tok) (ps' qs' : Array Value), Ge [li, ac, ax, 200, 207] s.heap s'.heap → s'.heap.get? 200 = some (tabObj ps') → TriplesOk ps'.toList → s'.heap.get? 207 = some (tabObj qs') → TriplesOk qs'.toList → AllBare s'.gens → s'.os = s.os → Q (.str (Txt.join mk (lns ++ [Txt.join "" (xs ++ [x])])) tr) s') :
  wpAny (model PySem.Challenge.rw_yj0031_01.row.prog w) (ktrTop dp un gd cn cs L a ccd cl outer) (call (.ref 102) [.ref pg, .str mk tm]) Q E s := by
  revert X; k_fill; intro X
  refine wpAny_call ?_
  refine' y_codeT (rb := [(("linesep" : Str), (.str mk tm : Value)), (("self" : Str), (.ref pg : Value))]) ?k1 ?k2 ?k3 ?k4 ?k5 ?kA ?kF ?kK ?k6 ?k7 ?k8 ?k9 ?kR ?kB ?_ ?c2 ?c3 ?c4 ?c5
  (case kA | kF => exact rfl); (case kK | k1 | k2 | k3 | k4 | k5 => assumption); (case k6 | k7 => k_is); (case k8 => ktr_room); (case k9 => first | exact BindsTo.of_eq rfl | exact binds_K (by k_in) rfl (by k_is) rfl rfl rfl); (case kR => exact rfl); (case c5 => decide); (case kB => exact locs rfl); (case c2 | c3 | c4 => exact rfl); have N0 := YOld.mk N; clear B F X N T; intro g L1 h1 tk1 hG F1 N1 B1 X1 T1 l1; (try dsimp only); (try k_lt l1); (try k_fold)
  have hAll0 := hAll
  simp only [AllNe2, AllNe1, and_true, and_assoc] at hAll
  repeat (have := And.left hAll; replace hAll := And.right hAll)
  have I1 : Items g its (xs ++ [x]) := Items.led hit N0 hG rfl
  have I2 : Items h1 its (xs ++ [x]) := Items.keep I1 F1.keep
  k_steps
  refine join_listW (News.isList (by k_asm) (by k_mem)) (by assumption) hmk hw ?_
  intro t' k'
  exact hret _ _ _ _ (by
    (rename Fr _ _ _ _ => F9); (rename News _ _ _ _ => N9)
    refine y_ge N0 hG F9 N9 ?_
    k_extra "ge") (by (rename News _ _ _ _ => N9); exact y_got N9 (by k_mem)) (by assumption) (by (rename News _ _ _ _ => N9); exact y_got N9 (by k_mem)) (by assumption) (by assumption) (by first | rfl | assumption | exact Eq.trans (by assumption) (by assumption) | exact Eq.trans (by assumption) (Eq.trans (by assumption) (by assumption)))
end
section -- JPage
theorem zsJPage : True := by
  w_top off
  k_with_none
  k_with "nd" => skip
  k_with "execs cons" => (refine y_consS ?_; intro sk9 qk9)
  k_with "ge" => first | exact y_all0 | (refine' y_allc ?gea ?geb; (case gea => first | (exact Or.inl (by k_mem)) | (exact Or.inr (by k_mem))); (case geb => k_extra "ge"))
  k_with "mem" => first | assumption | exact List.Mem.head _ | (refine' List.Mem.tail _ ?_; k_extra "mem")
  k_with "exec For Name Name cons nil" => (k_here; (with_reducible show wpAny _ _ (exec (Stmt.For _ _ _ _ _) _) _ _ _); refine YStop.of ?_)
  k_with "pyIter ref" => (k_here; (with_reducible show wpAny _ _ (pyIter _) (ForPack _ _ _ _ _ _ _ _) _ _); refine YStop.of ?_)
  k_with "eval Name" => (k_here; (first | (with_reducible show wpAny _ _ (eval (.Name (.ofString "order") _) _) _ _ _) | (with_reducible show wpAny _ _ (eval (.Name (.ofString "weights") _) _) _ _ _) | (with_reducible show wpAny _ _ (eval (.Name (.ofString "mark") _) _) _ _ _) | (with_reducible show wpAny _ _ (eval (.Name (.ofString "page") _) _) _ _ _) | (with_reducible show wpAny _ _ (eval (.Name (.ofString "given") _) _) _ _ _) | (with_reducible show wpAny _ _ (eval (.Name (.ofString "k") _) _) _ _ _) | (with_reducible show wpAny _ _ (eval (.Name (.ofString "width") _) _) _ _ _)); k_dflt (refine' ld ?k1 ?k2 ?_; (case k1 => k_asm); (case k2 => first | assumption | exact rfl | exact YUp.to (by assumption)); k_whole))
  k_with "loadName" => (k_here; k_dflt (refine' ldn ?k1 ?k2 ?_; (case k1 => k_asm); (case k2 => first | assumption | exact YUp.to (by assumption)); k_whole))
  k_with "call ref" => (k_here; k_dflt (refine' letters_L ?B ?F ?X ?N ?T ?hkf ?hdp ?hun ?hm ?hI ?hw4 ?hw ?hk ?_; (case B | F | X | N => k_asm); (case T => assumption); (case hkf => exact rfl); (case hdp => ktr_room); (case hun => ktr_units); (case hm => k_mem); (case hI | hw4 | hw => assumption); (case hk => omega); k_whole; intro t9' tk9' h9' F9' N9'))
  k_with "call ref" => (k_here; k_dflt (refine' vfNew_P ?B ?F ?X ?N ?T ?hkf ?hdp ?hun ?D ?_; (case B | F | X | N => k_asm); (case T => assumption); (case hkf => exact rfl); (case hdp => ktr_room); (case hun => ktr_units); (case D => assumption); k_whole; intro pg dx li ac ax na0 nl0 hi0 kt0 ti0 V TL1 h9' tk9' F9' N9' D9' hT1 mpg mdx hpd))
  k_with "call ref" => (k_here; (with_reducible show wpAny _ _ (call (Value.ref 151) _ _) _ _ _); refine YStop.of ?_)
  trivial
inductive PgJ (gv li ac ax pg dx ol wl : Addr) (V : FmtV) (wd : Nat) (ovs wvs : Array Value) (on wn : Nat) (ws os : List Int) (mk : Str) (tm : Tok) (os0 : OsState) (k : Nat) (gens : Array GenState) (osst : OsState) (led : List (Addr × Obj)) (m : Str → Option Value) : Prop
  | mk (lv : Array Value) (nl : Nat) (it : Array Value) (na : Nat) (hi : Int) (kt ti : Tok) (ps qs gvs : Array Value) (gn : Nat) (lns xs : List Str) (TL : List (Addr × Obj))
    (el : led = (gv, listOf gvs gn) :: (li, listOf lv nl) :: (ac, accObj ax it na) :: (ax, dictOf [⟨hi, .str "_initial_size" kt, .int 0 ti⟩] 1) :: (200, tabObj ps) :: (207, tabObj qs) :: TL)
    (D : NdT [gv, li, ac, ax, 200, 207] (TL.map (·.1))) (mp : (pg, instObj 154 dx) ∈ TL) (md : (dx, dictOf (vfEs V wd li ac) 6) ∈ TL) (mo : (ol, listOf ovs on) ∈ TL) (mw : (wl, listOf wvs wn) ∈ TL)
    (I : ItemsL TL it xs) (S : StrsAre lv.toList lns) (P : PgInv (lns, xs) (rowsF ws wd (os.take k))) (b : lns.length ≤ 2 * k + 1 ∧ xs.length ≤ 2 * k + 1 ∧ ∀ y ∈ xs, y.length ≤ 7) (tp : TriplesOk ps.toList) (tq : TriplesOk qs.toList)
    (hg : gvs.toList = List.replicate (2 * k + 1) .none) (G : AllBare gens) (ho : osst = os0) (no : m "order" = some (.ref ol)) (nw : m "weights" = some (.ref wl)) (nm : m "mark" = some (.str mk tm)) (np : m "page" = some (.ref pg)) (ng : m "given" = some (.ref gv)) : PgJ gv li ac ax pg dx ol wl V wd ovs wvs on wn ws os mk tm os0 k gens osst led m
theorem nd_four {ol wl : Addr} {a b : Obj} (h : AllNe2 [200, 207, ol, wl]) : NdT [200, 207] ([(ol, a), (wl, b)].map (·.1)) := by
  obtain ⟨⟨h1, h2, h3, _⟩, ⟨h4, h5, _⟩, _⟩ := h
  refine ⟨List.nodup_cons.mpr ⟨fun hm => h1 (List.mem_singleton.mp hm), List.nodup_cons.mpr ⟨fun hm => (nomatch hm), List.nodup_nil⟩⟩, List.forall_mem_cons.mpr ⟨fun hm => ?_, List.forall_mem_cons.mpr ⟨fun hm => ?_, fun _ hm => nomatch hm⟩⟩⟩
  · rcases List.mem_cons.mp hm with e | hm
    · exact h2 e
    · exact h3 (List.mem_singleton.mp hm)
  · rcases List.mem_cons.mp hm with e | hm
    · exact h4 e
    · exact h5 (List.mem_singleton.mp hm)
theorem page_spec
  (ol : Addr) (ovs : Array Value) (on : Nat) (os : List Int) (wl : Addr) (wvs : Array Value) (wn : Nat) (ws : List Int) (wd : Nat) (mk : Str) (t1 tm : Tok) (ps qs : Array Value)
  (B : Below A₀ base outer h₀) (F : Fr h₀ L s.heap m) (X : (hd.heap_1 w.params).In h₀) (N : News h₀ L s.heap ([(200, tabObj ps), (207, tabObj qs), (ol, listOf ovs on), (wl, listOf wvs wn)])) (T : Top p loose mean mg mb h₀) (hkf : cs.kind = .function)
  (hdp : dp + 9 < recursionLimit) (hun : un + 120 < cLine)
  (hI : IntsAre wvs.toList ws) (hw4 : ws.length = 4) (hw : ∀ x ∈ ws, 1 ≤ x ∧ x ≤ 4) (hO : IntsAre ovs.toList os) (ho4 : os.length = 4) (hor : ∀ x ∈ os, 0 ≤ x ∧ x ≤ 3) (hol : @Ne Nat ol wl) (hwd1 : 1 ≤ wd) (hwd : wd ≤ 40) (hmk : mk.length ≤ 4) (hm0 : (mk.length == 0) = false) (htp : TriplesOk ps.toList) (htq : TriplesOk qs.toList) (hG0 : AllBare s.gens) (hA9 : AllNe2 [200, 207, ol, wl]) (hpg : (mk ++ Txt.join mk (rowsF ws wd os) ++ mk).length ≤ 200 ∧ (Txt.split (mk ++ Txt.join mk (rowsF ws wd os) ++ mk) mk).length ≤ 100 ∧ ((rowsF ws wd os).map (·.length)).sum + (rowsF ws wd os).length ≤ 1048576)
  (hret : ∀ (s' : Shared) (tr : Tok) (ps' qs' : Array Value), Ge [200, 207] s.heap s'.heap → s'.heap.get? 200 = some (tabObj ps') → TriplesOk ps'.toList → s'.heap.get? 207 = some (tabObj qs') → TriplesOk qs'.toList → AllBare s'.gens → s'.os = s.os → Q (.str (pageF ws wd mk os) tr) s') :
  wpAny (model PySem.Challenge.rw_yj0031_01.row.prog w) (ktrTop dp un gd cn cs L a ccd cl outer) (call (.ref 430) [.ref ol, .ref wl, .int (wd : Int) t1, .str mk tm]) Q E s := by
  revert X; k_fill; intro X
  refine wpAny_call ?_
  refine' y_codeT (rb := [(("mark" : Str), (.str mk tm : Value)), (("width" : Str), (.int (wd : Int) t1 : Value)), (("weights" : Str), (.ref wl : Value)), (("order" : Str), (.ref ol : Value))]) ?k1 ?k2 ?k3 ?k4 ?k5 ?kA ?kF ?kK ?k6 ?k7 ?k8 ?k9 ?kR ?kB ?_ ?c2 ?c3 ?c4 ?c5
  (case kA | kF => exact rfl); (case kK | k1 | k2 | k3 | k4 | k5 => assumption); (case k6 | k7 => k_is); (case k8 => ktr_room); (case k9 => first | exact BindsTo.of_eq rfl | exact binds_K (by k_in) rfl (by k_is) rfl rfl rfl); (case kR => exact rfl); (case c5 => decide); (case kB => exact locs rfl); (case c2 | c3 | c4 => exact rfl); have N0 := YOld.mk N; clear B F X N T; intro g L1 h1 tk1 hG F1 N1 B1 X1 T1 l1; (try dsimp only); (try k_fold)
  obtain ⟨TL0, hTL0⟩ : ∃ TL0, TL0 = [(ol, listOf ovs on), (wl, listOf wvs wn)] := ⟨_, rfl⟩
  have D0 : NdT [200, 207] (TL0.map (·.1)) := by rw [hTL0]; exact nd_four hA9
  have mol : (ol, listOf ovs on) ∈ TL0 := by rw [hTL0]; exact .head _
  have mwl : (wl, listOf wvs wn) ∈ TL0 := by rw [hTL0]; exact .tail _ (.head _)
  replace N1 : News g L1 h1 ((200, tabObj ps) :: (207, tabObj qs) :: TL0) := by rw [hTL0]; exact N1
  clear hTL0 l1
  have hwd9 : wd ≤ 100 := Nat.le_trans hwd (by decide)
  have hOz : ovs.size = 4 := by rw [← Array.length_toList, hO.length, ho4]
  k_steps
  refine' YStop.to (chunk_P0 (lns := []) (xs := []) ?B ?F ?X ?N ?T ?hkf ?hdp ?hun ?D mpg mdx hpd (.nil _) (by decide) (by decide) (fun y hy => semi_len hy) htp htq hG0 hwd9 .nil ?_)
  (case B | F | X | N => k_asm); (case T => assumption); (case hkf => exact rfl); (case hdp => ktr_room); (case hun => ktr_units)
  case D => assumption
  intro s6 lv6 nl6 it6 na6 hi6 kt6 ti6 ps6 qs6 TL6 F6 N6 D6 hT6 I6 S6 j6 jq6 G6 o6
  replace mpg := hT6 _ mpg
  replace mdx := hT6 _ mdx
  replace mol := hT6 _ (hT1 _ mol)
  replace mwl := hT6 _ (hT1 _ mwl)
  have hL6 := chunkF_len wd ([], []) ";"
  have hP6 := chunk_first hwd1
  generalize chunkF wd ([], []) ";" = st6 at *
  obtain ⟨lns6, xs6⟩ := st6
  dsimp only at hL6 S6 I6
  clear hT6 hT1
  (try clear F9'); (try clear N9'); (try clear D9')
  k_steps
  (rename Fr _ _ _ _ => F7); (rename News _ _ _ _ => N7); (rename NdT _ _ => D7)
  obtain ⟨gv, rfl⟩ := news_head N7
  refine y_for ?_ (fun _ => rfl)
  k_steps
  (rename Fr _ _ _ _ => F7); (rename News _ _ _ _ => N7); (rename NdT _ _ => D7)
  refine YStop.to (y_listL (l := ol) (items := ovs) (n := on) (PgJ gv li ac ax pg dx ol wl V wd ovs wvs on wn ws os mk tm s.os) rfl F7 N7 (by k_mem) ?hJ0 ?hJm ?step ?done)
  case hJ0 => exact .mk lv6 nl6 it6 na6 hi6 kt6 ti6 ps6 qs6 #[Value.none] 0 lns6 xs6 TL6 rfl D7 mpg mdx mol mwl I6 S6 hP6 ⟨hL6.1, hL6.2.1, fun y hy => by have := hL6.2.2 y hy; rw [List.mem_singleton.mp this]; decide⟩ j6 jq6 rfl G6 o6 rfl rfl rfl rfl rfl
  case hJm =>
    intro k gens osst led' m' hj
    obtain ⟨lv, nl, it, na, hi, kt, ti, ps8, qs8, gvs, gn, lns, xs, TL8, el, D8, mp, md, mo, mw, _⟩ := hj
    rw [el]
    k_mem
  case step =>
    intro I oI k s' led' m' v hap hv hj F8 N8
    obtain ⟨lv, nl, it, na, hi, kt, ti, ps8, qs8, gvs, gn, lns, xs, TL8, el, D8, mp, md, mo, mw, I8, S8, P8, ⟨b1, b2, b3⟩, jp8, jq8, hg8, G8, o8, no, nw, nm, np, ng⟩ := hj
    subst el
    clear F7 N7 D7 I6 S6 hL6 hP6
    obtain ⟨n9, t9, rfl, hn9⟩ := hO.at k v (by rw [Array.getElem?_toList]; exact hv)
    have Dz := nd_ap hap D8 rfl
    clear D8 hap
    have hk : k < 4 := by rw [← hOz]; exact (Array.getElem?_eq_some_iff.mp hv).1
    have hnr := hor n9 (List.mem_of_getElem? hn9)
    have hnn : 0 ≤ n9 ∧ n9 < 4 := ⟨hnr.1, Int.lt_of_le_of_lt hnr.2 (by decide)⟩
    have hwr := getD_rng hw (show n9.toNat < ws.length by omega)
    have hb1 : it.size < 80 ∧ lv.size < 80 := by
      have h1 := I8.size
      have h2 := strs_size S8
      rw [Array.length_toList] at h2
      omega
    have hln8 : ∀ y ∈ xs ++ [letF ws n9], y.length ≤ 7 := fun y hy => by
      rcases List.mem_append.mp hy with h | h
      · exact b3 y h
      · rw [List.mem_singleton.mp h]; exact letF_len hwr hnn
    k_steps
    refine' YStop.to (chunk_P2 (lns := lns) (xs := xs) ?B ?F ?X ?N ?T ?hkf ?hdp ?hun Dz mp md hpd I8 hb1.1 hb1.2 (fun y hy => Nat.le_trans (hln8 y hy) (by decide)) jp8 jq8 G8 hwd9 S8 ?_)
    (case B | F | X | N => k_asm); (case T => assumption); (case hkf => exact rfl); (case hdp => ktr_room); (case hun => ktr_units)
    intro s11 lv11 nl11 it11 na11 hi11 kt11 ti11 ps11 qs11 TL11 F11 N11 D11 hT11 I11 S11 j11 jq11 G11 o11
    replace mp := hT11 _ mp
    replace md := hT11 _ md
    replace mo := hT11 _ mo
    replace mw := hT11 _ mw
    clear hT11
    have hL11 := chunkF_len wd (lns, xs) (letF ws n9)
    have hP11 := chunk_step hwr hnn P8 (wd := wd)
    rw [← rowsF_succ ws wd hn9] at hP11
    have hln11 : ∀ y ∈ (chunkF wd (lns, xs) (letF ws n9)).2, y.length ≤ 7 := fun y hy => hln8 y (hL11.2.2 y hy)
    generalize chunkF wd (lns, xs) (letF ws n9) = st11 at hL11 hP11 hln11 I11 S11
    obtain ⟨lns11, xs11⟩ := st11
    dsimp only at hL11 S11 I11 hln11
    have hb11 : it11.size < 80 ∧ lv11.size < 80 := by
      have h1 := I11.size
      have h2 := strs_size S11
      rw [Array.length_toList] at h2
      omega
    clear Dz I8 S8
    (try clear N8); (try clear F8)
    (try clear F9'); (try clear N9')
    k_steps
    refine' YStop.to (chunk_P2 (lns := lns11) (xs := xs11) ?B ?F ?X ?N ?T ?hkf ?hdp ?hun D11 mp md hpd I11 hb11.1 hb11.2 ?hln j11 jq11 G11 hwd9 S11 ?_)
    (case B | F | X | N => k_asm); (case T => assumption); (case hkf => exact rfl); (case hdp => ktr_room); (case hun => ktr_units)
    case hln =>
      intro y hy
      rcases List.mem_append.mp hy with h | h
      · exact Nat.le_trans (hln11 y h) (by decide)
      · rw [List.mem_singleton.mp h]; decide
    intro s13 lv13 nl13 it13 na13 hi13 kt13 ti13 ps13 qs13 TL13 F13 N13 D13 hT13 I13 S13 j13 jq13 G13 o13
    replace mp := hT13 _ mp
    replace md := hT13 _ md
    replace mo := hT13 _ mo
    replace mw := hT13 _ mw
    clear hT13
    have hL13 := chunkF_len wd (lns11, xs11) ";"
    have hgs : gvs.size ≤ 1000 := by rw [← Array.length_toList, hg8, List.length_replicate]; omega
    clear D11 I11 S11
    (try clear N11); (try clear F11)
    k_steps
    (rename Fr _ _ _ _ => F14); (rename News _ _ _ _ => N14)
    refine' iadd_list F14 N14 ?U (by k_mem) hgs (by decide) ?_
    case U => k_updF
    intro h15 n15 F15 N15
    (try dsimp only at N15)
    (try clear N14); (try clear F14)
    k_steps
    (rename Fr _ _ _ _ => F16); (rename News _ _ _ _ => N16); (rename NdT _ _ => D16)
    refine YStop.to (TurnEnd.mk _ _ F16 (y_sub N16 fun p hp => .tail _ hp) (nd_off (nd_drop D16) rfl) (PgJ.mk lv13 nl13 it13 na13 hi13 kt13 ti13 ps13 qs13 (gvs ++ #[Value.none, Value.none]) n15 (chunkF wd (lns11, xs11) ";").1 (chunkF wd (lns11, xs11) ";").2 TL13 rfl (nd_drop (nd_drop D16)) mp md mo mw I13 S13 hP11 ?b j13 jq13 (nones_snoc hg8) G13 (o13.trans (o11.trans o8)) ?no ?nw ?nm ?np ?ng))
    case b =>
      obtain ⟨c1, c2, c3⟩ := hL13
      obtain ⟨c4, c5, c6⟩ := hL11
      exact ⟨Nat.le_trans c1 (Nat.le_trans (Nat.succ_le_succ c4) (Nat.succ_le_succ (Nat.succ_le_succ b1))), Nat.le_trans c2 (Nat.le_trans (Nat.succ_le_succ c5) (Nat.succ_le_succ (Nat.succ_le_succ b2))), fun y hy => by
        rcases List.mem_append.mp (c3 y hy) with h | h
        · exact hln11 y h
        · rw [List.mem_singleton.mp h]; decide⟩
    all_goals first | exact rfl | (refine (if_neg (by decide)).trans ((if_neg (by decide)).trans ?_); assumption) | trace_state
  case done =>
    intro s' led' m' hj F8 N8
    obtain ⟨lv, nl, it, na, hi, kt, ti, ps8, qs8, gvs, gn, lns, xs, TL8, el, D8, mp, md, mo, mw, I8, S8, P8, ⟨b1, b2, b3⟩, jp8, jq8, hg8, G8, o8, no, nw, nm, np, ng⟩ := hj
    subst el
    clear F7 N7 D7 I6 S6 hL6 hP6
    rw [List.take_of_length_le (by omega)] at P8
    obtain ⟨ys, hys, hrw⟩ := P8
    dsimp only at hys hrw
    subst hys
    rw [hOz] at hg8 b1 b2
    k_steps
    (rename Fr _ _ _ _ => F10); (rename News _ _ _ _ => N10)
    refine mul_list F10 N10 (N10 _ (.head _)).1 (by decide) (by decide) (by decide) ?_
    intro h11 F11 N11
    have hb11 := (N11 _ (.head _)).1
    replace hb11 : h11.get? _ = some (listOf #[Value.none, Value.none, Value.none, Value.none, Value.none, Value.none, Value.none, Value.none, Value.none] 0) := hb11
    refine ne_nones (j := 9) (N11 (gv, listOf gvs gn) (by k_mem)).1 hb11 hg8 rfl (by ktr_units) ?_
    (try clear N10); (try clear F10); clear hb11
    k_steps
    (rename Fr _ _ _ _ => F12)
    (rename NdT _ _ => D10)
    have D5 := nd_drop (nd_drop D10)
    have hI8 := I8.size
    have hS8 := strs_size S8
    rw [Array.length_toList] at hS8
    refine' str2_spec _ _ _ _ _ _ _ _ _ _ _ _ _ _ _ _ _ _ _ _ _ _ _ pg dx li wd nl lv lns V ps8 qs8 ys ac ax it na hi kt ti ";" mk tm ?B ?F ?X ?N ?T ?hkf ?hdp ?hun (by omega) (by omega) (I8.items N11 (fun p hp => by k_mem)) (fun y hy => Nat.le_trans (b3 y hy) (by decide)) jp8 jq8 G8 S8 (by decide +kernel) (cat_semi_pos ys) (cat_semi_ne ys) (Nat.le_trans hmk (by decide)) (by rw [tjoin_cat, ← hrw]; exact hpg.2.2) (chunk_all D5 mp md hpd) ?_
    (case B | F | X => k_asm); (case N => exact y_sub N11 (subc (by k_mem) (subc (by k_mem) (subc (by k_mem) (subc (by k_mem) (subc (by k_mem) (subc (by k_mem) (subc (by k_mem) y_subn)))))))); (case T => assumption); (case hkf => exact rfl); (case hdp => ktr_room); (case hun => ktr_units)
    intro s13 tr13 ps13 qs13 G13 g200 j200 g207 j207 gb13 o13
    have hap : ∀ {b : Addr} {o : Obj}, (b, o) ∈ TL8 → b ∉ [li, ac, ax, 200, 207] := fun hb hm => D5.2 _ hm (List.mem_map.mpr ⟨_, hb, rfl⟩)
    obtain ⟨F14, N14⟩ := y_callM (news' := [(200, tabObj ps13), (207, tabObj qs13), (ol, listOf ovs on), (wl, listOf wvs wn)]) F12 N11 G13 (mu5 ⟨_, by k_mem⟩ ⟨_, by k_mem⟩ ⟨_, by k_mem⟩ ⟨_, by k_mem⟩ ⟨_, by k_mem⟩)
      (or_fold (.inl ⟨by k_mem, g200⟩) (or_fold (.inl ⟨by k_mem, g207⟩) (or_fold (.inr ⟨by k_mem, hap mo⟩) (or_fold (.inr ⟨by k_mem, hap mw⟩) (fun p hp => nomatch hp)))))
    rw [tjoin_cat, ← hrw]
    (try clear F12); (try clear N11); (try clear F11); clear I8
    have hz1 : mk.length + (Txt.join mk (rowsF ws wd os)).length + mk.length ≤ 200 := by have := hpg.1; rw [str_len_append, str_len_append] at this; exact this
    refine SBL.add (hsz := ?hsz) ?_
    case hsz => rw [line_is]; omega
    intro tA kA
    try intro heA
    k_steps
    refine' cap_spec _ _ _ _ _ _ _ _ _ _ _ _ _ _ _ _ _ _ _ _ _ _ _ (mk ++ Txt.join mk (rowsF ws wd os) ++ mk) mk _ tm ?B ?F ?X ?N ?T ?hkf ?hdp ?hun (Nat.le_trans hmk (by decide)) hm0 hpg.1 hpg.2.1 ?_
    (case B | F | X => k_asm); (case N => exact fun p hp => nomatch hp); (case T => assumption); (case hkf => exact rfl); (case hdp => ktr_room); (case hun => ktr_units)
    intro h15 t15 k15 G15
    obtain ⟨F16, N16⟩ := y_call0 F14 N14 G15
    k_steps
    refine hret _ _ ps13 qs13 ?_ (N16 (200, tabObj ps13) (by k_mem)).1 j200 (N16 (207, tabObj qs13) (by k_mem)).1 j207 gb13 ?_
    · exact y_ge N0 hG F16 N16 (by k_extra "ge")
    · exact o13.trans o8
end
section -- JLawL
theorem zsJLawL : True := by
  k_with "omega" => (lia)
  trivial
section
variable {h₀ h h' : Heap} {L l : Addr} {m : Str → Option Value} {news tl : List (Addr × Obj)} {o : Obj}
theorem upd_old {d : Addr} {o : Obj} {led : List (Addr × Obj)} {g : Obj → List (Addr × Obj)} (U : UpdF d o led g) : (d, o) ∈ led := by
  induction U with
  | head _ => exact .head _
  | tail _ _ ih => exact .tail _ ih
theorem y_fre (F : Fr h₀ L h m) (N : News h₀ L h news) (e0 : h.get? l = none) : l ≠ L ∧ h₀.get? l = none ∧ AllNe l news := by
  refine ⟨fun q => ?_, ?_, allNe_of fun p hp q => ?_⟩
  · obtain ⟨o2, _, _, e2, _⟩ := F.ns
    rw [q] at e0; rw [e0] at e2; cases e2
  · cases e3 : h₀.get? l with
    | none => rfl
    | some o3 => rw [F.keep _ _ e3] at e0; cases e0
  · have := (N p hp).1
    rw [q, e0] at this; cases this
theorem y_add (F : Fr h₀ L h m) (N : News h₀ L h news) (G : Ge [] h h') (e : h'.get? l = some o) (e0 : h.get? l = none) : Fr h₀ L h' m ∧ News h₀ L h' ((l, o) :: news) ∧ AllNe l news := by
  obtain ⟨F', N'⟩ := y_call0 F N G
  obtain ⟨k1, k2, k3⟩ := y_fre F N e0
  exact ⟨F', y_allc ⟨e, k1, k2⟩ N', k3⟩
theorem y_addl (F : Fr h₀ L h m) (N : News h₀ L h news) (G : Ge [] h h') (e : ∀ p ∈ tl, h'.get? p.1 = some p.2 ∧ h.get? p.1 = none) : News h₀ L h' (news ++ tl) ∧ ∀ p ∈ news, AllNe p.1 tl := by
  obtain ⟨F', N'⟩ := y_call0 F N G
  refine ⟨fun p hp => ?_, fun p hp => allNe_of fun q hq e1 => ?_⟩
  · rcases List.mem_append.mp hp with hp | hp
    · exact N' p hp
    · obtain ⟨k1, k2, k3⟩ := y_fre F N (e p hp).2
      exact ⟨(e p hp).1, k1, k2⟩
  · have := (N p hp).1
    rw [← e1, (e q hq).2] at this; cases this
end
variable {w p loose mean mg mb dp un gd cn cs a ccd cl outer A₀ base h₀ L m s Q E}
theorem cells_L
  {news : List (Addr × Obj)} {sc : Addr} {ns : List Int} {vs : Array Value}
    (B : Below A₀ base outer h₀) (F : Fr h₀ L s.heap m) (X : (hd.heap_1 w.params).In h₀) (N : News h₀ L s.heap news) (T : Top p loose mean mg mb h₀) (hkf : cs.kind = .function) (hdp : dp + 2 < recursionLimit) (hun : un + 16 < cLine)
    (hsc : h₀.IsList sc vs) (hI : IntsAre vs.toList ns) (hn : ns.length ≤ 100)
    (hret : ∀ (l : Addr) (cvs : Array Value) (cs : List Int) (n tk' : Nat) h', Fr h₀ L h' m → News h₀ L h' ((l, listOf cvs n) :: news) → AllNe l news → IntsAre cvs.toList cs → cs.length = 3 → Q (.ref l) { s with heap := h', toks := tk' }) :
    wpAny (model PySem.Challenge.rw_yj0031_01.row.prog w) (ktrTop dp un gd cn cs L a ccd cl outer) (call (.ref 397) [.ref sc]) Q E s :=
  cells_spec w p loose mean mg mb dp un gd cn cs a ccd cl outer A₀ base h₀ L m s Q E sc ns vs B F X y_all0 T hkf hdp hun (let ⟨o, e, r⟩ := hsc; ⟨o, F.keep _ _ e, r⟩) hI hn fun l cvs cs n tk' h' G k1 k2 e e0 => let ⟨F', N', l1⟩ := y_add F N G e e0; hret l cvs cs n tk' h' F' N' l1 k1 k2
theorem ord_L
  {news : List (Addr × Obj)} 
    (B : Below A₀ base outer h₀) (F : Fr h₀ L s.heap m) (X : (hd.heap_1 w.params).In h₀) (N : News h₀ L s.heap news) (T : Top p loose mean mg mb h₀) (hkf : cs.kind = .function) (hdp : dp + 3 < recursionLimit) (hun : un + 24 < cLine)
    (hret : ∀ (l : Addr) (rvs : Array Value) (rn : Nat) (tl : List (Addr × Obj)) (tk' : Nat) h', Fr h₀ L h' m → News h₀ L h' (((l, listOf rvs rn) :: news) ++ tl) → AllNe l news → (∀ p ∈ news, AllNe p.1 tl) → OrdAre tl rvs.toList (ordsF 4) → Q (.ref l) { s with heap := h', toks := tk' }) :
    wpAny (model PySem.Challenge.rw_yj0031_01.row.prog w) (ktrTop dp un gd cn cs L a ccd cl outer) (call (.ref 402) []) Q E s :=
  ord_spec w p loose mean mg mb dp un gd cn cs a ccd cl outer A₀ base h₀ L m s Q E  B F X y_all0 T hkf hdp hun  fun l tk' h' rvs rn tl G e e0 hO he => let ⟨F', N', l1⟩ := y_add F N G e e0; let ⟨N2, l2⟩ := y_addl F N G he; hret l rvs rn tl tk' h' F' (y_allc (N' _ (.head _)) N2) l1 l2 hO
theorem tip_L
  {news : List (Addr × Obj)} {ol : Addr} {ovs : Array Value} {on : Nat} {os : List Int} {wl : Addr} {wvs : Array Value} {wn : Nat} {ws : List Int} {q r : Int} {t1 : Tok}
    (B : Below A₀ base outer h₀) (F : Fr h₀ L s.heap m) (X : (hd.heap_1 w.params).In h₀) (N : News h₀ L s.heap news) (T : Top p loose mean mg mb h₀) (hkf : cs.kind = .function) (hdp : dp + 3 < recursionLimit) (hun : un + 24 < cLine)
    (hm1 : (ol, listOf ovs on) ∈ news) (hm2 : (wl, listOf wvs wn) ∈ news) (hI : IntsAre wvs.toList ws) (hw4 : ws.length = 4) (hw : ∀ x ∈ ws, 1 ≤ x ∧ x ≤ 4) (hO : IntsAre ovs.toList os) (ho4 : os.length = 4) (hor : ∀ x ∈ os, 0 ≤ x ∧ x ≤ 3) (hol : @Ne Nat ol wl) (htip : tipF ws q os 0 = some r)
    (hret : ∀ (t : Tok) (tk' : Nat) h', Fr h₀ L h' m → News h₀ L h' news → Q (.int r t) { s with heap := h', toks := tk' }) :
    wpAny (model PySem.Challenge.rw_yj0031_01.row.prog w) (ktrTop dp un gd cn cs L a ccd cl outer) (call (.ref 409) [.ref ol, .ref wl, .int q t1]) Q E s :=
  tip_spec w p loose mean mg mb dp un gd cn cs a ccd cl outer A₀ base h₀ L m s Q E ol ovs on os wl wvs wn ws q r t1 B F X (News.cons' N hm1 (News.cons' N hm2 y_all0)) T hkf hdp hun hI hw4 hw hO ho4 hor hol htip fun t tk' h' G => let ⟨F', N'⟩ := y_call0 F N G; hret t tk' h' F' N'
theorem rows_L
  {news : List (Addr × Obj)} {ol : Addr} {ovs : Array Value} {on : Nat} {os : List Int} {wl : Addr} {wvs : Array Value} {wn : Nat} {ws : List Int} {wd : Nat} {t1 : Tok}
    (B : Below A₀ base outer h₀) (F : Fr h₀ L s.heap m) (X : (hd.heap_1 w.params).In h₀) (N : News h₀ L s.heap news) (T : Top p loose mean mg mb h₀) (hkf : cs.kind = .function) (hdp : dp + 3 < recursionLimit) (hun : un + 24 < cLine)
    (hm1 : (ol, listOf ovs on) ∈ news) (hm2 : (wl, listOf wvs wn) ∈ news) (hI : IntsAre wvs.toList ws) (hw4 : ws.length = 4) (hw : ∀ x ∈ ws, 1 ≤ x ∧ x ≤ 4) (hO : IntsAre ovs.toList os) (ho4 : os.length = 4) (hor : ∀ x ∈ os, 0 ≤ x ∧ x ≤ 3) (hol : @Ne Nat ol wl) (hwd : wd ≤ 40)
    (hret : ∀ (l : Addr) (vs : Array Value) (vn tk' : Nat) h', Fr h₀ L h' m → News h₀ L h' ((l, listOf vs vn) :: news) → AllNe l news → StrsAre vs.toList (rowsF ws wd os) → Q (.ref l) { s with heap := h', toks := tk' }) :
    wpAny (model PySem.Challenge.rw_yj0031_01.row.prog w) (ktrTop dp un gd cn cs L a ccd cl outer) (call (.ref 423) [.ref ol, .ref wl, .int (wd : Int) t1]) Q E s :=
  rows_spec w p loose mean mg mb dp un gd cn cs a ccd cl outer A₀ base h₀ L m s Q E ol ovs on os wl wvs wn ws wd t1 B F X (News.cons' N hm1 (News.cons' N hm2 y_all0)) T hkf hdp hun hI hw4 hw hO ho4 hor hol hwd fun l rvs rn tk' h' G e e0 hS => let ⟨F', N', l1⟩ := y_add F N G e e0; hret l rvs rn tk' h' F' N' l1 hS
theorem figs_L
  {news : List (Addr × Obj)} {wl : Addr} {wvs : Array Value} {wn : Nat} {ws : List Int} {v : Int} {st : Nat} {t1 t2 : Tok}
    (B : Below A₀ base outer h₀) (F : Fr h₀ L s.heap m) (X : (hd.heap_1 w.params).In h₀) (N : News h₀ L s.heap news) (T : Top p loose mean mg mb h₀) (hkf : cs.kind = .function) (hdp : dp + 3 < recursionLimit) (hun : un + 24 < cLine)
    (hm1 : (wl, listOf wvs wn) ∈ news) (hI : IntsAre wvs.toList ws) (hw4 : ws.length = 4) (hw : ∀ x ∈ ws, 1 ≤ x ∧ x ≤ 4) (hst : st ≤ 17)
    (hret : ∀ (l : Addr) (vs : Array Value) (vn tk' : Nat) h', Fr h₀ L h' m → News h₀ L h' ((l, listOf vs vn) :: news) → AllNe l news → IntsAre vs.toList (figsK v ws st 4) → Q (.ref l) { s with heap := h', toks := tk' }) :
    wpAny (model PySem.Challenge.rw_yj0031_01.row.prog w) (ktrTop dp un gd cn cs L a ccd cl outer) (call (.ref 435) [.int v t1, .ref wl, .int (st : Int) t2]) Q E s :=
  figs_spec w p loose mean mg mb dp un gd cn cs a ccd cl outer A₀ base h₀ L m s Q E wl wvs wn ws v st t1 t2 B F X (News.cons' N hm1 y_all0) T hkf hdp hun hI hw4 hw hst fun l fvs fn tk' h' G e e0 hS => let ⟨F', N', l1⟩ := y_add F N G e e0; hret l fvs fn tk' h' F' N' l1 hS
theorem cnt_L
  {news : List (Addr × Obj)} {fl : Addr} {fvs : Array Value} {fn : Nat} {fs : List Int} {st wt q : Nat} {t1 t2 t3 : Tok}
    (B : Below A₀ base outer h₀) (F : Fr h₀ L s.heap m) (X : (hd.heap_1 w.params).In h₀) (N : News h₀ L s.heap news) (T : Top p loose mean mg mb h₀) (hkf : cs.kind = .function) (hdp : dp + 3 < recursionLimit) (hun : un + 24 < cLine)
    (hm1 : (fl, listOf fvs fn) ∈ news) (hI : IntsAre fvs.toList fs) (hfl : fs.length ≤ 100) (hst : st ≤ 17) (hwt : wt ≤ 4) (hq : q < st) (hfb : ∀ x ∈ fs, 0 ≤ x ∧ x ≤ 8)
    (hret : ∀ (t : Tok) (tk' : Nat) h', Fr h₀ L h' m → News h₀ L h' news → Q (.int (cntK (fs ++ List.replicate (4 * st) 0) st (q - wt) (min q wt) 4) t) { s with heap := h', toks := tk' }) :
    wpAny (model PySem.Challenge.rw_yj0031_01.row.prog w) (ktrTop dp un gd cn cs L a ccd cl outer) (call (.ref 442) [.ref fl, .int (st : Int) t1, .int (wt : Int) t2, .int (q : Int) t3]) Q E s :=
  cnt_spec w p loose mean mg mb dp un gd cn cs a ccd cl outer A₀ base h₀ L m s Q E fl fvs fn fs st wt q t1 t2 t3 B F X (News.cons' N hm1 y_all0) T hkf hdp hun hI hfl hst hwt hq hfb fun t tk' h' G => let ⟨F', N'⟩ := y_call0 F N G; hret t tk' h' F' N'
theorem keys_L
  {news : List (Addr × Obj)} {tb dx pl : Addr} {hi : Int} {k1 : Tok} {pvs : Array Value} {pn : Nat} {tl : List (Addr × Obj)} {hs : List (Str × Str)}
    (B : Below A₀ base outer h₀) (F : Fr h₀ L s.heap m) (X : (hd.heap_1 w.params).In h₀) (N : News h₀ L s.heap news) (T : Top p loose mean mg mb h₀) (hkf : cs.kind = .function) (hdp : dp + 6 < recursionLimit) (hun : un + 60 < cLine)
    (hm1 : (tb, instObj 386 dx) ∈ news) (hm2 : (dx, dictOf [⟨hi, .str "_headers" k1, .ref pl⟩] 1) ∈ news) (hm3 : (pl, listOf pvs pn) ∈ news) (hsub : ∀ p ∈ tl, p ∈ news) (n1 : YNe tb dx) (n2 : YNe tb pl) (n3 : YNe dx pl) (htl : ∀ p ∈ tl, @Ne Nat p.1 pl) (hH : HdrAre tl pvs.toList hs) (hhs : hs.length ≤ 100)
    (hret : ∀ (l : Addr) (vs : Array Value) (vn tk' : Nat) h', Fr h₀ L h' m → News h₀ L h' ((l, listOf vs vn) :: news) → AllNe l news → StrsAre vs.toList (hs.map (·.1)) → Q (.ref l) { s with heap := h', toks := tk' }) :
    wpAny (model PySem.Challenge.rw_yj0031_01.row.prog w) (ktrTop dp un gd cn cs L a ccd cl outer) (call (.ref 338) [.ref tb]) Q E s :=
  keys_spec w p loose mean mg mb dp un gd cn cs a ccd cl outer A₀ base h₀ L m s Q E tb dx pl hi k1 pvs pn tl hs B F X (News.cons' N hm1 (News.cons' N hm2 (News.cons' N hm3 (News.sub N hsub)))) T hkf hdp hun n1 n2 n3 htl hH hhs fun l vs vn tk' h' G e e0 hS => let ⟨F', N', l1⟩ := y_add F N G e e0; hret l vs vn tk' h' F' N' l1 hS
theorem getall_L
  {news : List (Addr × Obj)} {tb dx pl : Addr} {hi : Int} {k1 : Tok} {pvs : Array Value} {pn : Nat} {tl : List (Addr × Obj)} {hs : List (Str × Str)} {nm lw : Str} {t1 : Tok}
    (B : Below A₀ base outer h₀) (F : Fr h₀ L s.heap m) (X : (hd.heap_1 w.params).In h₀) (N : News h₀ L s.heap news) (T : Top p loose mean mg mb h₀) (hkf : cs.kind = .function) (hdp : dp + 6 < recursionLimit) (hun : un + 60 < cLine)
    (hm1 : (tb, instObj 386 dx) ∈ news) (hm2 : (dx, dictOf [⟨hi, .str "_headers" k1, .ref pl⟩] 1) ∈ news) (hm3 : (pl, listOf pvs pn) ∈ news) (hsub : ∀ p ∈ tl, p ∈ news) (n1 : YNe tb dx) (n2 : YNe tb pl) (n3 : YNe dx pl) (htl : ∀ p ∈ tl, @Ne Nat p.1 pl) (hH : HdrAre tl pvs.toList hs) (hhs : hs.length ≤ 100) (hL : Txt.lower nm = lw) (hN : noHit codeN (Txt.lower nm) = true) (z1 : (Txt.lower nm).cps.size ≤ 1000) (z2 : nm.length ≤ 1000) (hkz : ∀ q ∈ hs, q.1.length ≤ 1000)
    (hret : ∀ (l : Addr) (vs : Array Value) (vn tk' : Nat) h', Fr h₀ L h' m → News h₀ L h' ((l, listOf vs vn) :: news) → AllNe l news → StrsAre vs.toList ((hs.filter fun q => Txt.lower q.1 == lw).map (·.2)) → Q (.ref l) { s with heap := h', toks := tk' }) :
    wpAny (model PySem.Challenge.rw_yj0031_01.row.prog w) (ktrTop dp un gd cn cs L a ccd cl outer) (call (.ref 325) [.ref tb, .str nm t1]) Q E s :=
  getall_spec w p loose mean mg mb dp un gd cn cs a ccd cl outer A₀ base h₀ L m s Q E tb dx pl hi k1 pvs pn tl hs nm lw t1 B F X (News.cons' N hm1 (News.cons' N hm2 (News.cons' N hm3 (News.sub N hsub)))) T hkf hdp hun n1 n2 n3 htl hH hhs hL hN z1 z2 hkz fun l vs vn tk' h' G e e0 hS => let ⟨F', N', l1⟩ := y_add F N G e e0; hret l vs vn tk' h' F' N' l1 hS
theorem get_L
  {news : List (Addr × Obj)} {tb dx pl : Addr} {hi : Int} {k1 : Tok} {pvs : Array Value} {pn : Nat} {tl : List (Addr × Obj)} {hs : List (Str × Str)} {nm lw : Str} {t1 : Tok} {df : Str} {t2 : Tok}
    (B : Below A₀ base outer h₀) (F : Fr h₀ L s.heap m) (X : (hd.heap_1 w.params).In h₀) (N : News h₀ L s.heap news) (T : Top p loose mean mg mb h₀) (hkf : cs.kind = .function) (hdp : dp + 6 < recursionLimit) (hun : un + 60 < cLine)
    (hm1 : (tb, instObj 386 dx) ∈ news) (hm2 : (dx, dictOf [⟨hi, .str "_headers" k1, .ref pl⟩] 1) ∈ news) (hm3 : (pl, listOf pvs pn) ∈ news) (hsub : ∀ p ∈ tl, p ∈ news) (n1 : YNe tb dx) (n2 : YNe tb pl) (n3 : YNe dx pl) (htl : ∀ p ∈ tl, @Ne Nat p.1 pl) (hH : HdrAre tl pvs.toList hs) (hhs : hs.length ≤ 100) (hL : Txt.lower nm = lw) (hN : noHit codeN (Txt.lower nm) = true) (z1 : (Txt.lower nm).cps.size ≤ 1000) (z2 : nm.length ≤ 1000) (hkz : ∀ q ∈ hs, q.1.length ≤ 1000)
    (hret : ∀ (u : Tok) (tk' : Nat) h', Fr h₀ L h' m → News h₀ L h' news → Q (.str (((hs.find? fun q => Txt.lower q.1 == lw).map (·.2)).getD df) u) { s with heap := h', toks := tk' }) :
    wpAny (model PySem.Challenge.rw_yj0031_01.row.prog w) (ktrTop dp un gd cn cs L a ccd cl outer) (call (.ref 333) [.ref tb, .str nm t1, .str df t2]) Q E s :=
  get_spec w p loose mean mg mb dp un gd cn cs a ccd cl outer A₀ base h₀ L m s Q E tb dx pl hi k1 pvs pn tl hs nm lw df t1 t2 B F X (News.cons' N hm1 (News.cons' N hm2 (News.cons' N hm3 (News.sub N hsub)))) T hkf hdp hun n1 n2 n3 htl hH hhs hL hN z1 z2 hkz fun u tk' h' G => let ⟨F', N'⟩ := y_call0 F N G; hret u tk' h' F' N'
theorem addh_L
  {news : List (Addr × Obj)} {tb dx pl : Addr} {hi : Int} {k1 : Tok} {pvs : Array Value} {pn : Nat} {tl : List (Addr × Obj)} {hs : List (Str × Str)} {nm tx : Str} {t1 t2 : Tok} {g : Obj → List (Addr × Obj)}
    (B : Below A₀ base outer h₀) (F : Fr h₀ L s.heap m) (X : (hd.heap_1 w.params).In h₀) (N : News h₀ L s.heap news) (T : Top p loose mean mg mb h₀) (hkf : cs.kind = .function) (hdp : dp + 6 < recursionLimit) (hun : un + 60 < cLine)
    (U : UpdF pl (listOf pvs pn) news g) (hm1 : (tb, instObj 386 dx) ∈ news) (hm2 : (dx, dictOf [⟨hi, .str "_headers" k1, .ref pl⟩] 1) ∈ news) (hm3 : (pl, listOf pvs pn) ∈ news) (hsub : ∀ p ∈ tl, p ∈ news) (n1 : YNe tb dx) (n2 : YNe tb pl) (n3 : YNe dx pl) (htl : ∀ p ∈ tl, @Ne Nat p.1 pl) (hH : HdrAre tl pvs.toList hs) (hhs : hs.length ≤ 100) (hN : noHit codeN nm = true) (hV : noHit codeV tx = true) (z1 : nm.cps.size ≤ 1000) (z2 : tx.cps.size ≤ 1000)
    (hret : ∀ (t : Addr) (u v : Tok) (tk' pn' : Nat) h', Fr h₀ L h' m → News h₀ L h' ((t, tupObj #[.str nm u, .str tx v]) :: g (listOf (pvs.push (.ref t)) pn')) → AllNe t news → Q .none { s with heap := h', toks := tk' }) :
    wpAny (model PySem.Challenge.rw_yj0031_01.row.prog w) (ktrTop dp un gd cn cs L a ccd cl outer) (call (.ref 383) [.ref tb, .str nm t1, .str tx t2]) Q E s :=
  addh_spec w p loose mean mg mb dp un gd cn cs a ccd cl outer A₀ base h₀ L m s Q E tb dx pl hi k1 pvs pn tl hs nm tx t1 t2 B F X (News.cons' N hm1 (News.cons' N hm2 (News.cons' N hm3 (News.sub N hsub)))) T hkf hdp hun n1 n2 n3 htl hH hhs hN hV z1 z2 fun t u v tk' pn' h' G e1 e2 e0 => let ⟨F', N'⟩ := y_call1 F N U G e1; let ⟨k1, k2, k3⟩ := y_fre F N e0; hret t u v tk' pn' h' F' (y_allc ⟨e2, k1, k2⟩ N') k3
theorem page_L
  {news : List (Addr × Obj)} {ol : Addr} {ovs : Array Value} {on : Nat} {os : List Int} {wl : Addr} {wvs : Array Value} {wn : Nat} {ws : List Int} {wd : Nat} {mk : Str} {t1 tm : Tok} {ps qs : Array Value} {g : Obj → List (Addr × Obj)} {g2 : Obj → Obj → List (Addr × Obj)}
    (B : Below A₀ base outer h₀) (F : Fr h₀ L s.heap m) (X : (hd.heap_1 w.params).In h₀) (N : News h₀ L s.heap news) (T : Top p loose mean mg mb h₀) (hkf : cs.kind = .function) (hdp : dp + 9 < recursionLimit) (hun : un + 120 < cLine)
    (U : UpdF 200 (tabObj ps) news g) (hm0 : (207, tabObj qs) ∈ news) (U2 : ∀ o, UpdF 207 (tabObj qs) (g o) (g2 o)) (hm1 : (ol, listOf ovs on) ∈ news) (hm2 : (wl, listOf wvs wn) ∈ news) (hI : IntsAre wvs.toList ws) (hw4 : ws.length = 4) (hw : ∀ x ∈ ws, 1 ≤ x ∧ x ≤ 4) (hO : IntsAre ovs.toList os) (ho4 : os.length = 4) (hor : ∀ x ∈ os, 0 ≤ x ∧ x ≤ 3) (hol : @Ne Nat ol wl) (hwd1 : 1 ≤ wd) (hwd : wd ≤ 40) (hmk : mk.length ≤ 4) (hm9 : (mk.length == 0) = false) (htp : TriplesOk ps.toList) (htq : TriplesOk qs.toList) (hG0 : AllBare s.gens) (hA9 : AllNe2 [200, 207, ol, wl]) (hpg : (mk ++ Txt.join mk (rowsF ws wd os) ++ mk).length ≤ 200 ∧ (Txt.split (mk ++ Txt.join mk (rowsF ws wd os) ++ mk) mk).length ≤ 100 ∧ ((rowsF ws wd os).map (·.length)).sum + (rowsF ws wd os).length ≤ 1048576)
    (hret : ∀ (s' : Shared) (tr : Tok) (ps' qs' : Array Value), Fr h₀ L s'.heap m → News h₀ L s'.heap (g2 (tabObj ps') (tabObj qs')) → TriplesOk ps'.toList → TriplesOk qs'.toList → AllBare s'.gens → s'.os = s.os → Q (.str (pageF ws wd mk os) tr) s') :
    wpAny (model PySem.Challenge.rw_yj0031_01.row.prog w) (ktrTop dp un gd cn cs L a ccd cl outer) (call (.ref 430) [.ref ol, .ref wl, .int (wd : Int) t1, .str mk tm]) Q E s :=
  page_spec w p loose mean mg mb dp un gd cn cs a ccd cl outer A₀ base h₀ L m s Q E ol ovs on os wl wvs wn ws wd mk t1 tm ps qs B F X (News.cons' N (upd_old U) (News.cons' N hm0 (News.cons' N hm1 (News.cons' N hm2 y_all0)))) T hkf hdp hun hI hw4 hw hO ho4 hor hol hwd1 hwd hmk hm9 htp htq hG0 hA9 hpg fun s' tr ps' qs' G e1 e2 e3 e4 e5 e6 => let ⟨F', N'⟩ := y_call2 F N U (U2 _) G e1 e3 hm0 (by decide); hret s' tr ps' qs' F' N' e2 e4 e5 e6
theorem dm_L
  {news : List (Addr × Obj)} {x y : Nat} {t1 t2 : Tok} {g : Obj → List (Addr × Obj)} {g2 : Obj → Obj → List (Addr × Obj)}
    (B : Below A₀ base outer h₀) (F : Fr h₀ L s.heap m) (X : (hd.heap_1 w.params).In h₀) (N : News h₀ L s.heap news) (T : Top p loose mean mg mb h₀) (hkf : cs.kind = .function) (hdp : dp + 152 < recursionLimit) (hun : un + 1020 < cLine)
    (U : UpdF 62 (tabObj #[]) news g) (hm0 : (69, tabObj #[]) ∈ news) (U2 : ∀ o, UpdF 69 (tabObj #[]) (g o) (g2 o)) (hy : 0 < y) (hx : 0 < x) (hyb : Builtin.Int.intBits (y : Int) ≤ 4000) (hD1 : (Builtin.Int.intBits (x : Int) + Builtin.Int.intBits (y : Int) - 1) / Builtin.Int.intBits (y : Int) ≤ 100)
    (hret : ∀ (t c' : Addr) (u v : Tok) (tk' : Nat) h' oc vs t9 (ps9 : Array Value), Fr h₀ L h' m → News h₀ L h' ((t, tupObj #[.int ((x / y : Nat) : Int) u, .int ((x % y : Nat) : Int) v]) :: (c', oc) :: g2 (tabObj #[rawInt (39 : Nat), rawInt (4 : Nat), .ref c']) (tabObj ps9)) → AllNe t news → AllNe c' news → oc.data = .fields vs → vs[1]? = some (.str (PySem.Str.ofString "_int2digits.<locals>.inner") t9) → Q (.ref t) { s with heap := h', toks := tk' }) :
    wpAny (model PySem.Challenge.rw_yj0031_01.row.prog w) (ktrTop dp un gd cn cs L a ccd cl outer) (call (.ref 81) [.int (x : Int) t1, .int (y : Int) t2]) Q E s :=
  dm_spec w p loose mean mg mb dp un gd cn cs a ccd cl outer A₀ base h₀ L m s Q E x y t1 t2 B F X (News.cons' N (upd_old U) (News.cons' N hm0 y_all0)) T hkf hdp hun hy hx hyb hD1 fun t c' u v tk' h' oc vs t9 ps9 G e1 e0 e2 f0 f1 f2 f3 e3 => let ⟨F', N'⟩ := y_call2 F N U (U2 _) G e2 e3 hm0 (by decide); let ⟨k1, k2, k3⟩ := y_fre F N e0; let ⟨j1, j2, j3⟩ := y_fre F N f0; hret t c' u v tk' h' oc vs t9 ps9 F' (y_allc ⟨e1, k1, k2⟩ (y_allc ⟨f1, j1, j2⟩ N')) k3 j3 f2 f3
end
section -- JRest
section
variable {prog : Program} {w : World} {A : Around} {E : Value → Shared → Prop} {s : Shared} {h₀ : Heap} {L : Addr} {m : Str → Option Value} {env : Env}
open LCg
theorem rest_rel {α β : Type} {elt : PySem.Expr} {x : Str} {scope : Scope} {cl : List (Str × Addr)} {pl : Addr} {its : Array Value} {pn : Nat} {news : List (Addr × Obj)} {Fin : List Value → List (Addr × Obj) → Prop}
    (xs : List α) (P : α → Value → Prop) (f : α → β) (R : β → Value → Prop) (All : List Value → List β → Prop) (hsn : ∀ {ys : List Value} {bs : List β} {y : Value} {b : β}, All ys bs → R b y → All (ys ++ [y]) (bs ++ [b]))
    (hpl : (pl, listOf its pn) ∈ news) (hat : ∀ (i : Nat) (v : Value), its[i]? = some v → ∃ a, xs[i]? = some a ∧ P a v) (hlen : xs.length = its.size)
    (helt : ∀ C oC m₂ s₂ N9 E' a v Q, a ∈ xs → P a v → NsObj oC m₂ → m₂ x = some v → Fr h₀ L s₂.heap m → News h₀ L s₂.heap N9 → (C, oC) ∈ N9 → (∀ q ∈ news, q ∈ N9) → (∀ q ∈ news, @Ne Nat q.1 C) →
      (∀ y h' tk, R (f a) y → Fr h₀ L h' m → News h₀ L h' N9 → Q y { s₂ with heap := h', toks := tk }) → wpAny (model prog w) A (eval elt (compEnvC scope cl C env)) Q E' s₂)
    (hfin : ∀ ys, All ys (xs.map f) → Fin ys news) :
    ∀ (n i : Nat) (ys : List Value), i + n = its.size → All ys ((xs.take i).map f) → CompRest prog w A h₀ L m env elt x scope cl s (SrcAt h₀ pl its) (fun i v => its[i]? = some v) Fin n i ys news
  | 0, i, ys, hi, hy => by
    refine CompRest.zero (hfin ys ?_)
    rw [List.take_of_length_le (by omega)] at hy
    exact hy
  | n + 1, i, ys, hi, hy => by
    refine CompRest.succ fun v I oI C oC D m₂ h tk E' hv hC h1 F N off ne => ?_
    obtain ⟨a, ha, hp⟩ := hat i v hv
    refine helt C oC m₂ _ _ E' a v _ (List.mem_of_getElem? ha) hp hC h1 F N (.tail _ (.head _)) (fun q hq => .tail _ (.tail _ (.tail _ hq))) ?hoff fun y h' tk' hr F' N' => ?_
    case hoff => exact fun q hq => (Off3.mem off q hq).2.1
    refine CompEnd.intro F' N' news (fun p hp => hp) off (.inr ⟨_, hpl, rfl, _, rfl⟩) ?_
    refine rest_rel xs P f R All hsn hpl hat hlen helt hfin n (i + 1) _ (by omega) ?_
    rw [List.take_add_one, ha, List.map_append]
    exact hsn hy hr
end
theorem OrdAre.at {tl : List (Addr × Obj)} {r : List Value} {oss : List (List Int)} (i : Nat) (v : Value) (q : OrdAre tl r oss) (h : r[i]? = some v) : ∃ a vs n os, v = .ref a ∧ (a, listOf vs n) ∈ tl ∧ IntsAre vs.toList os ∧ oss[i]? = some os := by
  induction q generalizing i with
  | nil => cases h
  | cons hm hi _ ih => cases i with
    | zero => exact ⟨_, _, _, _, (Option.some.inj h).symm, hm, hi, rfl⟩
    | succ i => exact ih i h
theorem OrdAre.hat {tl : List (Addr × Obj)} {rvs : Array Value} {oss : List (List Int)} (q : OrdAre tl rvs.toList oss) (i : Nat) (v : Value) (hv : rvs[i]? = some v) : ∃ os, oss[i]? = some os ∧ ∃ a vs n, v = .ref a ∧ (a, listOf vs n) ∈ tl ∧ IntsAre vs.toList os := by
  obtain ⟨a, vs, n, os, e, h1, h2, h3⟩ := q.at i v (by rw [Array.getElem?_toList]; exact hv)
  exact ⟨os, h3, a, vs, n, e, h1, h2⟩
theorem OrdAre.len {tl : List (Addr × Obj)} {r : List Value} {oss : List (List Int)} (q : OrdAre tl r oss) : r.length = oss.length := by
  induction q with
  | nil => rfl
  | cons _ _ _ ih => exact congrArg (· + 1) ih
theorem ints_snoc {ys : List Value} {bs : List Int} {y : Value} {b : Int} (h : IntsAre ys bs) (hr : ∃ t, y = .int b t) : IntsAre (ys ++ [y]) (bs ++ [b]) := by
  obtain ⟨t, rfl⟩ := hr
  exact h.append (.cons _ _ .nil)
theorem strs_snoc' {ys : List Value} {bs : List Str} {y : Value} {b : Str} (h : StrsAre ys bs) (hr : ∃ t, y = .str b t) : StrsAre (ys ++ [y]) (bs ++ [b]) := by
  obtain ⟨t, rfl⟩ := hr
  exact strs_snoc h
theorem ints_hat {its : Array Value} {xs : List Int} (h : IntsAre its.toList xs) (i : Nat) (v : Value) (hv : its[i]? = some v) : ∃ a, xs[i]? = some a ∧ ∃ t, v = .int a t := by
  obtain ⟨a, t, e, k⟩ := h.at i v (by rw [Array.getElem?_toList]; exact hv)
  exact ⟨a, k, t, e⟩
theorem ints_len {its : Array Value} {xs : List Int} (h : IntsAre its.toList xs) : xs.length = its.size := by rw [← Array.length_toList]; exact h.length.symm
end
section -- JNd
end
section -- JS3
theorem zsJS3 : True := by
  w_top off
  k_with_none
  k_with "nd" => (skip)
  k_with "execs cons" => (refine y_consS ?_; intro sk9 qk9)
  k_with "mem" => first | assumption | exact List.Mem.head _ | (refine' List.Mem.tail _ ?_; k_extra "mem")
  k_with "eval Name" => (k_here; (first | (with_reducible show wpAny _ _ (eval (.Name (.ofString "script") _) _) _ _ _) | (with_reducible show wpAny _ _ (eval (.Name (.ofString "total") _) _) _ _ _) | (with_reducible show wpAny _ _ (eval (.Name (.ofString "bits") _) _) _ _ _) | (with_reducible show wpAny _ _ (eval (.Name (.ofString "width") _) _) _ _ _) | (with_reducible show wpAny _ _ (eval (.Name (.ofString "mark") _) _) _ _ _) | (with_reducible show wpAny _ _ (eval (.Name (.ofString "voter") _) _) _ _ _) | (with_reducible show wpAny _ _ (eval (.Name (.ofString "orders") _) _) _ _ _) | (with_reducible show wpAny _ _ (eval (.Name (.ofString "pairs") _) _) _ _ _) | (with_reducible show wpAny _ _ (eval (.Name (.ofString "table") _) _) _ _ _) | (with_reducible show wpAny _ _ (eval (.Name (.ofString "place") _) _) _ _ _) | (with_reducible show wpAny _ _ (eval (.Name (.ofString "capped") _) _) _ _ _) | (with_reducible show wpAny _ _ (eval (.Name (.ofString "great") _) _) _ _ _) | (with_reducible show wpAny _ _ (eval (.Name (.ofString "name") _) _) _ _ _) | (with_reducible show wpAny _ _ (eval (.Name (.ofString "rows") _) _) _ _ _) | (with_reducible show wpAny _ _ (eval (.Name (.ofString "due") _) _) _ _ _) | (with_reducible show wpAny _ _ (eval (.Name (.ofString "stride") _) _) _ _ _) | (with_reducible show wpAny _ _ (eval (.Name (.ofString "whole") _) _) _ _ _) | (with_reducible show wpAny _ _ (eval (.Name (.ofString "weight") _) _) _ _ _) | (with_reducible show wpAny _ _ (eval (.Name (.ofString "factor") _) _) _ _ _) | (with_reducible show wpAny _ _ (eval (.Name (.ofString "quotient") _) _) _ _ _) | (with_reducible show wpAny _ _ (eval (.Name (.ofString "rest") _) _) _ _ _) | (with_reducible show wpAny _ _ (eval (.Name (.ofString "figures") _) _) _ _ _)); k_dflt (refine' ld ?k1 ?k2 ?_; (case k1 => k_asm); (case k2 => first | assumption | exact rfl); k_whole))
  k_with "call ref" => (k_here; k_dflt (refine' hdNew_L ?B ?F ?X ?N ?T ?hkf ?hdp ?hun ?hm1 ?hm2 ?_; (case B | F | X | N => k_asm); (case T => assumption); (case hkf => exact rfl); (case hdp => ktr_room); (case hun => ktr_units); (case hm1 | hm2 => k_mem); k_whole; intro tb9' dx9' hi9' k19' h9' tk9' F9' N9' ldx9' ltb9' ldt9'; (try dsimp only at N9'); ((rename NdT _ _ => Dz); replace Dz := nd_al2 ldx9' ltb9' ldt9' Dz rfl)))
  trivial
theorem seg3 (w : World) (p : Program) (loose : List Str) (mean : ExcName → Option Value) (mg mb : Str → Option Value)
  (dp un : Nat) (gd : Option (List Code)) (L fa : Addr) (cd : Value) (A₀ : Around) (base h₀ : Heap) (outer : List Env) (m : Str → Option Value) (s : Shared) (Q : Flow → Shared → Prop) (rest : List Stmt)
  (o4 o7 : Obj) (ps qs : Array Value) (TL : List (Addr × Obj)) (ol : Addr) (ws : List Int) (b wd v : Nat) (mk : Str) (t2 t3 t4 t5 t6 : Tok)
  (B : Below A₀ base outer h₀) (F : Fr h₀ L s.heap m) (X : (hd.heap_1 w.params).In h₀) (N : News h₀ L s.heap ((L + 1 + 1 + 1 + 1, o4) :: (L + 1 + 1 + 1 + 1 + 1 + 1 + 1, o7) :: (69, tabObj #[]) :: (62, tabObj #[]) :: (200, tabObj ps) :: (207, tabObj qs) :: TL)) (T : Top p loose mean mg mb h₀) (hdp : dp + 300 < recursionLimit) (hun : un + 1500 < cLine) (D : NdT [L + 1 + 1 + 1 + 1, L + 1 + 1 + 1 + 1 + 1 + 1 + 1, 69, 62, 200, 207] (TL.map (·.1)))
  (n_orders : m "orders" = some (.ref ol)) (n_total : m "total" = some (.int ws.sum t2)) (n_bits : m "bits" = some (.int (b : Int) t3)) (n_width : m "width" = some (.int (wd : Int) t4)) (n_mark : m "mark" = some (.str mk t5)) (n_voter : m "voter" = some (.int (v : Int) t6))
  (hret : ∀ (h' : Heap) (tk' : Nat) (m' : Str → Option Value) (TL' : List (Addr × Obj)) (pl tb dx t0 : Addr) (pn : Nat) (hi : Int) (k1 u1 u2 : Tok),
    Fr h₀ L h' m' → News h₀ L h' ((pl, listOf #[.ref t0] pn) :: (L + 1 + 1 + 1 + 1, o4) :: (L + 1 + 1 + 1 + 1 + 1 + 1 + 1, o7) :: (69, tabObj #[]) :: (62, tabObj #[]) :: (200, tabObj ps) :: (207, tabObj qs) :: TL') → NdT (pl :: [L + 1 + 1 + 1 + 1, L + 1 + 1 + 1 + 1 + 1 + 1 + 1, 69, 62, 200, 207]) (TL'.map (·.1)) → (∀ p ∈ TL, p ∈ TL') →
    (tb, instObj 386 dx) ∈ TL' → (dx, dictOf [⟨hi, .str "_headers" k1, .ref pl⟩] 1) ∈ TL' → (t0, tupObj #[.str "Abcd" u1, .str "all" u2]) ∈ TL' → YNe tb dx → m' "pairs" = some (.ref pl) → m' "table" = some (.ref tb) → m' "orders" = some (.ref ol) → m' "total" = some (.int ws.sum t2) → m' "bits" = some (.int (b : Int) t3) → m' "width" = some (.int (wd : Int) t4) → m' "mark" = some (.str mk t5) → m' "voter" = some (.int (v : Int) t6) →
    wpAny (model PySem.Challenge.rw_yj0031_01.row.prog w) (({ depth := dp, frames := some outer, guards := gd, units := un } : Around).deeper (envOfC "law" lawScope L fa cd)) (execs rest (envOfC "law" lawScope L fa cd)) Q (fun _ _ => False) { s with heap := h', toks := tk' }) :
  wpAny (model PySem.Challenge.rw_yj0031_01.row.prog w) (({ depth := dp, frames := some outer, guards := gd, units := un } : Around).deeper (envOfC "law" lawScope L fa cd)) (execs ((lawBody.drop 9).take 2 ++ rest) (envOfC "law" lawScope L fa cd)) Q (fun _ _ => False) s := by
  have eb : (lawBody.drop 9).take 2 = [?s0, ?s1] := by exact rfl
  have es : lawScope = ⟨?sk, ?sn, ?sg, ?sc, ?sm⟩ := by exact rfl
  rw [eb]
  rw [es] at hret ⊢
  clear eb es
  simp only [List.cons_append, List.nil_append]
  revert X; k_fill; intro X
  k_steps
  all_goals first | exact ("" : Str) | exact (0 : Nat) | exact Value.none | skip
  (rename Fr _ _ _ _ => F8); (rename News _ _ _ _ => N8); (rename NdT _ _ => Dz)
  trace_state
  refine hret _ _ _ _ _ _ _ _ _ _ _ _ _ F8 (News.rot (n1 := [_, _, _, _, _, _, _, _, _, _]) N8 [2, 4, 5, 6, 7, 8, 9] [0, 1, 3]) (nd_move 0 (nd_move 1 (nd_move 3 Dz))) (fun p hp => .tail _ (.tail _ (.tail _ hp))) (.head _) (.tail _ (.head _)) (.tail _ (.tail _ (.head _))) (nd_yne Dz (i := 0) (j := 1) rfl rfl (by decide)) rfl rfl n_orders n_total n_bits n_width n_mark n_voter
end
section -- JS1
theorem zsJS1 : True := by
  w_top off
  k_with_none
  k_with "nd" => (skip)
  k_with "execs cons" => (refine y_consS ?_; intro sk9 qk9)
  k_with "mem" => first | assumption | exact List.Mem.head _ | (refine' List.Mem.tail _ ?_; k_extra "mem")
  k_with "exec Assign cons ListComp" => (k_here; (with_reducible show wpAny _ _ (exec (PySem.Stmt.Assign _ _ _) _) _ _ _); refine YStop.of ?_)
  k_with "CompSrc" => (refine YStop.of ?_)
  k_with "binaryOp FloorDiv int int" => (k_here; k_dflt (refine' floordiv_int ?hb ?_ ?hp; (case hb => first | decide | omega); (case hp => exact Or.inl (PyProof.noPylong_small (by first | decide | omega))); k_whole))
  k_with "eval Name" => (k_here; (first | (with_reducible show wpAny _ _ (eval (.Name (.ofString "script") _) _) _ _ _) | (with_reducible show wpAny _ _ (eval (.Name (.ofString "total") _) _) _ _ _) | (with_reducible show wpAny _ _ (eval (.Name (.ofString "bits") _) _) _ _ _) | (with_reducible show wpAny _ _ (eval (.Name (.ofString "width") _) _) _ _ _) | (with_reducible show wpAny _ _ (eval (.Name (.ofString "mark") _) _) _ _ _) | (with_reducible show wpAny _ _ (eval (.Name (.ofString "voter") _) _) _ _ _) | (with_reducible show wpAny _ _ (eval (.Name (.ofString "orders") _) _) _ _ _) | (with_reducible show wpAny _ _ (eval (.Name (.ofString "pairs") _) _) _ _ _) | (with_reducible show wpAny _ _ (eval (.Name (.ofString "table") _) _) _ _ _) | (with_reducible show wpAny _ _ (eval (.Name (.ofString "place") _) _) _ _ _) | (with_reducible show wpAny _ _ (eval (.Name (.ofString "capped") _) _) _ _ _) | (with_reducible show wpAny _ _ (eval (.Name (.ofString "great") _) _) _ _ _) | (with_reducible show wpAny _ _ (eval (.Name (.ofString "name") _) _) _ _ _) | (with_reducible show wpAny _ _ (eval (.Name (.ofString "rows") _) _) _ _ _) | (with_reducible show wpAny _ _ (eval (.Name (.ofString "due") _) _) _ _ _) | (with_reducible show wpAny _ _ (eval (.Name (.ofString "stride") _) _) _ _ _) | (with_reducible show wpAny _ _ (eval (.Name (.ofString "whole") _) _) _ _ _) | (with_reducible show wpAny _ _ (eval (.Name (.ofString "weight") _) _) _ _ _) | (with_reducible show wpAny _ _ (eval (.Name (.ofString "factor") _) _) _ _ _) | (with_reducible show wpAny _ _ (eval (.Name (.ofString "quotient") _) _) _ _ _) | (with_reducible show wpAny _ _ (eval (.Name (.ofString "rest") _) _) _ _ _) | (with_reducible show wpAny _ _ (eval (.Name (.ofString "figures") _) _) _ _ _) | (with_reducible show wpAny _ _ (eval (.Name (.ofString "part") _) _) _ _ _)); k_dflt (refine' ld ?k1 ?k2 ?_; (case k1 => k_asm); (case k2 => first | assumption | exact rfl); k_whole))
  k_with "call ref" => (k_here; k_dflt (refine' cells_L ?B ?F ?X ?N ?T ?hkf ?hdp ?hun ?hsc ?hI ?hn ?_; (case B | F | X | N => k_asm); (case T => assumption); (case hkf => exact rfl); (case hdp => ktr_room); (case hun => ktr_units); (case hsc | hI | hn => assumption); k_whole; intro l9' cvs9' cs9' n9' tk9' h9' F9' N9' lz1 hI9' hl9'; (try dsimp only at N9'); k_lt lz1))
  k_with "subscriptTail" => (k_here; (with_reducible show wpAny _ _ (subscriptTail (PySem.Expr.List _ _) _ (Value.ref _) (Value.int _ _)) _ _ _); refine YStop.of ?_)
  trivial
theorem len3 {cs : List Int} (h : cs.length = 3) : ∃ a b c, cs = [a, b, c] := by
  cases cs with
  | nil => cases h
  | cons a r => cases r with
    | nil => cases h
    | cons b r => cases r with
      | nil => cases h
      | cons c r => cases r with
        | nil => exact ⟨a, b, c, rfl⟩
        | cons d r => cases h
theorem weights_ok (c : Int) : (List.map (fun p => 1 + (c.fdiv p).fmod 4) [1, 4, 16, 64]).length = 4 ∧ (∀ x ∈ List.map (fun p => 1 + (c.fdiv p).fmod 4) [1, 4, 16, 64], 1 ≤ x ∧ x ≤ 4) ∧ 4 ≤ (List.map (fun p => 1 + (c.fdiv p).fmod 4) [1, 4, 16, 64]).sum ∧ (List.map (fun p => 1 + (c.fdiv p).fmod 4) [1, 4, 16, 64]).sum ≤ 16 := by
  have key : ∀ x : Int, 0 ≤ x.fmod 4 ∧ x.fmod 4 < 4 := fun x => ⟨Int.fmod_nonneg_of_pos _ (by decide), Int.fmod_lt_of_pos _ (by decide)⟩
  have a := key (c.fdiv 1); have b := key (c.fdiv 4); have d := key (c.fdiv 16); have e := key (c.fdiv 64)
  refine ⟨rfl, fun x hx => ?_, ?_, ?_⟩
  · obtain ⟨p, _, rfl⟩ := List.mem_map.mp hx
    exact fm4 (key _)
  · exact (sum4 (fm4 a) (fm4 b) (fm4 d) (fm4 e)).1
  · exact (sum4 (fm4 a) (fm4 b) (fm4 d) (fm4 e)).2
theorem strs_get {vs : List Value} {ws : List Str} (i : Nat) (q : StrsAre vs ws) (h : i < ws.length) : ∃ t, vs[i]? = some (.str (ws.getD i "") t) := by
  induction q generalizing i with
  | nil => exact absurd h (Nat.not_lt_zero _)
  | cons _ _ _ ih => exact match i with
    | 0 => ⟨_, rfl⟩
    | i + 1 => ih i (Nat.lt_of_succ_lt_succ h)
section
variable {prog : Program} {w : World} {A : Around} {E : Value → Shared → Prop} {s : Shared} {h₀ : Heap} {L l : Addr} {news : List (Addr × Obj)} {its : Array Value} {n : Nat} {u : Tok} {k : Int} {ws : List Str} {value slice : PySem.Expr}
theorem item_strsB {Q : Value → Shared → Prop} (N : News h₀ L s.heap news) (hm : (l, listOf its n) ∈ news) (hI : StrsAre its.toList ws) (h0 : 0 ≤ k) (h1 : k < (ws.length : Int)) (hw : ws.length ≤ 100) (h : ∀ t, Q (.str (ws.getD k.toNat "") t) s)
    (hs : subscripted slice false (.ref l) (.int k u) = operate [.ref l, .int k u] (getItem (.ref l) (.int k u))) : wpAny (model prog w) A (subscriptTail value slice (.ref l) (.int k u)) Q E s := by
  have hl : s.heap.IsList l its := ⟨_, (N _ hm).1, rfl, n, rfl⟩
  have hlt : k.toNat < ws.length := by omega
  obtain ⟨t, ht⟩ := strs_get k.toNat hI hlt
  refine tail_any hl.typeIs slot_list_getitem.lookup (wpAny_getItem_list hl h0 ?_ (by rw [← Array.getElem?_toList]; exact ht) (h t)) hs
  have : k < 100 := by omega
  exact Int.lt_trans this (by decide)
end
theorem seg1 (w : World) (p : Program) (loose : List Str) (mean : ExcName → Option Value) (mg mb : Str → Option Value)
  (dp un : Nat) (gd : Option (List Code)) (L fa : Addr) (cd : Value) (A₀ : Around) (base h₀ : Heap) (outer : List Env) (m : Str → Option Value) (s : Shared) (Q : Flow → Shared → Prop) (rest : List Stmt)
  (o1 o2 o3 o4 o5 o6 o7 : Obj) (sc : Addr) (ns : List Int) (vs : Array Value) (ps qs : Array Value)
  (B : Below A₀ base outer h₀) (F : Fr h₀ L s.heap m) (X : (hd.heap_1 w.params).In h₀) (N : News h₀ L s.heap ((L + 1, o1) :: (L + 1 + 1, o2) :: (L + 1 + 1 + 1, o3) :: (L + 1 + 1 + 1 + 1, o4) :: (L + 1 + 1 + 1 + 1 + 1, o5) :: (L + 1 + 1 + 1 + 1 + 1 + 1, o6) :: (L + 1 + 1 + 1 + 1 + 1 + 1 + 1, o7) :: (69, tabObj #[]) :: (62, tabObj #[]) :: (200, tabObj ps) :: (207, tabObj qs) :: [])) (T : Top p loose mean mg mb h₀) (hdp : dp + 300 < recursionLimit) (hun : un + 1500 < cLine) (D : NdT [L + 1, L + 1 + 1, L + 1 + 1 + 1, L + 1 + 1 + 1 + 1, L + 1 + 1 + 1 + 1 + 1, L + 1 + 1 + 1 + 1 + 1 + 1, L + 1 + 1 + 1 + 1 + 1 + 1 + 1, 69, 62, 200, 207] [])
  (hm : m "script" = some (.ref sc)) (d1 : o1.data = .cell none) (d2 : o2.data = .cell none) (d3 : o3.data = .cell none) (d4 : o4.data = .cell none) (d5 : o5.data = .cell none) (d6 : o6.data = .cell none) (d7 : o7.data = .cell none) (hsc : h₀.IsList sc vs) (hI : IntsAre vs.toList ns) (hn : ns.length ≤ 100) (hL : 207 < L)
  (hret : ∀ (h' : Heap) (tk' : Nat) (m' : Str → Option Value) (TL : List (Addr × Obj)) (wl : Addr) (wvs : Array Value) (wn : Nat) (ws : List Int) (p2 p3 : Obj) (q b wd v : Nat) (mk : Str) (t1 t2 t3 t4 t5 t6 : Tok),
    Fr h₀ L h' m' → News h₀ L h' ((L + 1 + 1 + 1 + 1, o4) :: (L + 1 + 1 + 1 + 1 + 1, o5) :: (L + 1 + 1 + 1 + 1 + 1 + 1, o6) :: (L + 1 + 1 + 1 + 1 + 1 + 1 + 1, o7) :: (69, tabObj #[]) :: (62, tabObj #[]) :: (200, tabObj ps) :: (207, tabObj qs) :: TL) → NdT [L + 1 + 1 + 1 + 1, L + 1 + 1 + 1 + 1 + 1, L + 1 + 1 + 1 + 1 + 1 + 1, L + 1 + 1 + 1 + 1 + 1 + 1 + 1, 69, 62, 200, 207] (TL.map (·.1)) →
    (wl, listOf wvs wn) ∈ TL → (L + 1 + 1, p2) ∈ TL → (L + 1 + 1 + 1, p3) ∈ TL → p2.data = .cell (some (.ref wl)) → p3.data = .cell (some (.int (q : Int) t1)) →
    IntsAre wvs.toList ws → ws.length = 4 → (∀ x ∈ ws, 1 ≤ x ∧ x ≤ 4) → 4 ≤ ws.sum ∧ ws.sum ≤ 16 → 1 ≤ q ∧ (q : Int) ≤ ws.sum → 4 ≤ b ∧ b ≤ 63 →
    (wd : Int) = 2 * q ∨ (wd : Int) = 2 * q - 1 → mk ∈ [("|" : Str), "\n", "--", " / "] → v < 4 → m' "total" = some (.int ws.sum t2) → m' "bits" = some (.int (b : Int) t3) → m' "width" = some (.int (wd : Int) t4) → m' "mark" = some (.str mk t5) → m' "voter" = some (.int (v : Int) t6) →
    wpAny (model PySem.Challenge.rw_yj0031_01.row.prog w) (({ depth := dp, frames := some outer, guards := gd, units := un } : Around).deeper (envOfC "law" lawScope L fa cd)) (execs rest (envOfC "law" lawScope L fa cd)) Q (fun _ _ => False) { s with heap := h', toks := tk' }) :
  wpAny (model PySem.Challenge.rw_yj0031_01.row.prog w) (({ depth := dp, frames := some outer, guards := gd, units := un } : Around).deeper (envOfC "law" lawScope L fa cd)) (execs ((lawBody.drop 0).take 6 ++ rest) (envOfC "law" lawScope L fa cd)) Q (fun _ _ => False) s := by
  have eb : (lawBody.drop 0).take 6 = [?s0, ?s1, ?s2, ?s3, ?s4, ?s5] := by exact rfl
  have es : lawScope = ⟨?sk, ?sn, ?sg, ?sc, ?sm⟩ := by exact rfl
  rw [eb]
  rw [es] at hret ⊢
  clear eb es
  simp only [List.cons_append, List.nil_append]
  revert X; k_fill; intro X
  k_steps
  all_goals first | exact ("" : Str) | exact (0 : Nat) | exact Value.none | skip
  (rename Fr _ _ _ _ => F5); (rename News _ _ _ _ => N5); (rename List.length _ = 3 => hcl); (obtain ⟨c0, c1, c2, rfl⟩ := len3 hcl); (rename Obj => o1c); (rename o1c.data = _ => d1c)
  refine YStop.to (wpAny_Assign_Name ?_ (by with_unfolding_all rfl))
  refine LCg.ListComp_U F5 (by with_unfolding_all rfl) (by decide) rfl (by decide) rfl ?_ (fun _ => rfl)
  k_steps
  (rename Fr _ _ _ _ => F6); (rename News _ _ _ _ => N6)
  refine YStop.to (LCg.CompSrc.ledger rfl F6 N6 (.head _) (by rw [line_is]; show 4 ≤ _; omega) fun g' => ?_)
  refine rest_rel [1, 4, 16, 64] (fun a v => ∃ t, v = .int a t) (fun p => 1 + (Int.fmod (Int.fdiv c0 p) 4)) (fun b y => ∃ t, y = .int b t) IntsAre ints_snoc (.head _) (ints_hat (.cons _ _ (.cons _ _ (.cons _ _ (.cons _ _ .nil))))) rfl ?helt ?hfin _ 0 [] (Nat.zero_add _) .nil
  case helt =>
    rintro C oC m₂ s₂ N9 E' a v Q9 hxs ⟨t, rfl⟩ hC hv F N hCm hsub hoff hQ
    have ha : 0 < a ∧ a ≤ 64 := by
      simp only [List.mem_cons, List.not_mem_nil, or_false] at hxs
      exact one_of4 hxs
    have N10 := News.cons' N hCm (News.cons' N (hsub _ (.tail _ (.head _))) (News.cons' N (hsub _ (.tail _ (.tail _ (.head _)))) y_all0))
    clear N6 F6
    k_steps
    exact hQ _ _ _ ⟨_, rfl⟩ F N
  case hfin =>
    intro ys hy D8 h8 tk8 F8 N8 off8
    (rename NdT _ _ => Dz)
    replace Dz := nd_ap (off1_all off8) Dz rfl
    clear off8
    (try dsimp only)
    have hws := weights_ok c0
    generalize List.map (fun p => 1 + (c0.fdiv p).fmod 4) [1, 4, 16, 64] = ws at hy hws
    obtain ⟨hw4, hw, hs1, hs2⟩ := hws
    clear N6 F6
    k_steps
    all_goals first | exact ("" : Str) | exact (0 : Nat) | exact Value.none | skip
    (rename News _ _ _ _ => N7); (rename Fr _ _ _ _ => F7)
    have hmk : [("|" : Str), "
", "--", " / "].getD (((c2.fdiv 60).fmod 4)).toNat "" ∈ [("|" : Str), "
", "--", " / "] := by
      have h0 := Int.fmod_nonneg_of_pos (c2.fdiv 60) (show (0 : Int) < 4 by decide)
      have h1 := Int.fmod_lt_of_pos (c2.fdiv 60) (show (0 : Int) < 4 by decide)
      rw [List.getD_eq_getElem?_getD, List.getElem?_eq_getElem (show _ < 4 by omega)]
      exact List.getElem_mem _
    refine YStop.to (item_strsB (ws := [("|" : Str), "
", "--", " / "]) N7 (.head _) (.cons _ _ (.cons _ _ (.cons _ _ (.cons _ _ .nil)))) (Int.fmod_nonneg_of_pos _ (by decide)) (by show _ < (4 : Int); exact Int.fmod_lt_of_pos _ (by decide)) (by decide) (fun t7 => ?_) rfl)
    k_steps
    all_goals first | exact ("" : Str) | exact (0 : Nat) | exact Value.none | skip
    (rename Fr _ _ _ _ => F8); (rename News _ _ _ _ => N8)
    (try dsimp only)
    have hq0 := Int.fmod_nonneg_of_pos c1 (show 0 < ws.sum by omega)
    have hq1 := Int.fmod_lt_of_pos c1 (show 0 < ws.sum by omega)
    have hb0 := Int.fmod_nonneg_of_pos c2 (show (0 : Int) < 60 by decide)
    have hb1 := Int.fmod_lt_of_pos c2 (show (0 : Int) < 60 by decide)
    have hr0 := Int.fmod_nonneg_of_pos (c1.fdiv ws.sum) (show (0 : Int) < 2 by decide)
    have hr1 := Int.fmod_lt_of_pos (c1.fdiv ws.sum) (show (0 : Int) < 2 by decide)
    have hv0 := Int.fmod_nonneg_of_pos (c2.fdiv 240) (show (0 : Int) < 4 by decide)
    have hv1 := Int.fmod_lt_of_pos (c2.fdiv 240) (show (0 : Int) < 4 by decide)
    obtain ⟨q, hq⟩ := Int.eq_ofNat_of_zero_le (show 0 ≤ 1 + c1.fmod ws.sum by omega)
    obtain ⟨b, hb⟩ := Int.eq_ofNat_of_zero_le (show 0 ≤ 4 + c2.fmod 60 by omega)
    obtain ⟨wd, hwd⟩ := Int.eq_ofNat_of_zero_le (show 0 ≤ 2 * (1 + c1.fmod ws.sum) - (c1.fdiv ws.sum).fmod 2 by omega)
    obtain ⟨v, hv⟩ := Int.eq_ofNat_of_zero_le hv0
    (rename NdT _ _ => Dz)
    (rename Obj.data _ = Data.cell (some (Value.int _ _)) => dq)
    refine' hret _ _ _ [(D8, LCg.lst ys), _, _] D8 ys.toArray ys.length ws _ _ q b wd v _ _ _ _ _ _ _ F8 (News.pick [9, 10, 11, 12, 13, 14, 15, 16, 3, 7, 8] N8) (nd_dropK 6 (nd_move 3 (nd_move 7 (nd_move 8 Dz)))) (.head _) (.tail _ (.head _)) (.tail _ (.tail _ (.head _))) ?e1 ?e2 hy hw4 hw ⟨hs1, hs2⟩ (by omega) (by omega) (by omega) hmk (by omega) ?e4 ?e5 ?e6 ?e7 ?e8
    case e1 => assumption
    case e2 => rw [← hq]; exact dq
    case e4 => exact rfl
    case e5 => rw [← hb]; exact rfl
    case e6 => rw [← hwd]; exact rfl
    case e7 => exact rfl
    case e8 => rw [← hv]; exact rfl
end
section -- JS2
theorem zsJS2 : True := by
  w_top off
  k_with_none
  k_with "execs cons" => (refine y_consS ?_; intro sk9 qk9)
  k_with "mem" => first | assumption | exact List.Mem.head _ | (refine' List.Mem.tail _ ?_; k_extra "mem")
  k_with "eval ListComp" => (k_here; (with_reducible show wpAny _ _ (eval (PySem.Expr.ListComp _ _ _ _) _) _ _ _); refine YStop.of ?_)
  k_with "exec Assign cons ListComp" => (k_here; (with_reducible show wpAny _ _ (exec (PySem.Stmt.Assign _ _ _) _) _ _ _); refine YStop.of ?_)
  k_with "CompSrc" => (refine YStop.of ?_)
  k_with "eval Name" => (k_here; (first | (with_reducible show wpAny _ _ (eval (.Name (.ofString "script") _) _) _ _ _) | (with_reducible show wpAny _ _ (eval (.Name (.ofString "total") _) _) _ _ _) | (with_reducible show wpAny _ _ (eval (.Name (.ofString "bits") _) _) _ _ _) | (with_reducible show wpAny _ _ (eval (.Name (.ofString "width") _) _) _ _ _) | (with_reducible show wpAny _ _ (eval (.Name (.ofString "mark") _) _) _ _ _) | (with_reducible show wpAny _ _ (eval (.Name (.ofString "voter") _) _) _ _ _) | (with_reducible show wpAny _ _ (eval (.Name (.ofString "orders") _) _) _ _ _) | (with_reducible show wpAny _ _ (eval (.Name (.ofString "pairs") _) _) _ _ _) | (with_reducible show wpAny _ _ (eval (.Name (.ofString "table") _) _) _ _ _) | (with_reducible show wpAny _ _ (eval (.Name (.ofString "place") _) _) _ _ _) | (with_reducible show wpAny _ _ (eval (.Name (.ofString "capped") _) _) _ _ _) | (with_reducible show wpAny _ _ (eval (.Name (.ofString "great") _) _) _ _ _) | (with_reducible show wpAny _ _ (eval (.Name (.ofString "name") _) _) _ _ _) | (with_reducible show wpAny _ _ (eval (.Name (.ofString "rows") _) _) _ _ _) | (with_reducible show wpAny _ _ (eval (.Name (.ofString "due") _) _) _ _ _) | (with_reducible show wpAny _ _ (eval (.Name (.ofString "stride") _) _) _ _ _) | (with_reducible show wpAny _ _ (eval (.Name (.ofString "whole") _) _) _ _ _) | (with_reducible show wpAny _ _ (eval (.Name (.ofString "weight") _) _) _ _ _) | (with_reducible show wpAny _ _ (eval (.Name (.ofString "factor") _) _) _ _ _) | (with_reducible show wpAny _ _ (eval (.Name (.ofString "quotient") _) _) _ _ _) | (with_reducible show wpAny _ _ (eval (.Name (.ofString "rest") _) _) _ _ _) | (with_reducible show wpAny _ _ (eval (.Name (.ofString "figures") _) _) _ _ _) | (with_reducible show wpAny _ _ (eval (.Name (.ofString "part") _) _) _ _ _) | (with_reducible show wpAny _ _ (eval (.Name (.ofString "order") _) _) _ _ _)); k_dflt (refine' ld ?k1 ?k2 ?_; (case k1 => k_asm); (case k2 => first | assumption | exact rfl); k_whole))
  k_with "call ref" => (k_here; k_dflt (refine' ord_N ?B ?F ?X ?N ?T ?hkf ?hdp ?hun  ?_; (case B | F | X | N => k_asm); (case T => assumption); (case hkf => exact rfl); (case hdp => ktr_room); (case hun => ktr_units); k_whole; intro ol9' rvs9' rn9' tl9' tk9' h9' F9' N9' ap9' hO9'; (try dsimp only at N9')))
  k_with "call builtin:str.join" => (k_here; k_dflt (refine' joinN ?N ?hm ?hi ?hsep ?hw ?_; (case N => k_asm); (case hm => k_mem); (case hi => assumption); (case hsep => decide); (case hw => first | (rw [items_len, List.length_map]; omega)); k_whole; intro t9' k9'))
  k_with "call ref" => (k_here; k_dflt (refine' tip_L ?B ?F ?X ?N ?T ?hkf ?hdp ?hun ?hm1 ?hm2 ?hI ?hw4 ?hw ?hO ?ho4 ?hor ?hol ?htip ?_; (case B | F | X | N => k_asm); (case T => assumption); (case hkf => exact rfl); (case hdp => ktr_room); (case hun => ktr_units); (case hm1 | hm2 => k_mem); (case hI | hw4 | hw | hO | ho4 | hor | hol | htip => assumption); k_whole; intro t9' tk9' h9' F9' N9'; (try dsimp only at N9')))
  trivial
noncomputable def textF (os : List Int) : Str := Txt.join "" (os.map (Txt.item "abcd"))
theorem ord_ok : ∀ os ∈ ordsF 4, os.length = 4 ∧ (∀ x ∈ os, 0 ≤ x ∧ x ≤ 3) ∧ ∀ x ∈ os, 0 ≤ x ∧ x < 4 := by rw [ords12]; decide
theorem ints_fun {vs : List Value} {xs ys : List Int} (h : IntsAre vs xs) (k : IntsAre vs ys) : xs = ys := by
  induction h generalizing ys with
  | nil => cases k; rfl
  | cons _ _ _ ih => cases k with | cons _ _ k => rw [ih k]
theorem row_ne {h₀ h : Heap} {L la wl : Addr} {N9 : List (Addr × Obj)} {vs wvs : Array Value} {n wn : Nat} {os ws : List Int} (N : News h₀ L h N9) (h1 : (la, listOf vs n) ∈ N9) (h2 : (wl, listOf wvs wn) ∈ N9) (ha : IntsAre vs.toList os) (hw : IntsAre wvs.toList ws) (ho : os ∈ ordsF 4) (hb : ∀ x ∈ ws, 1 ≤ x ∧ x ≤ 4) : @Ne Nat la wl := fun e => by
  have e1 := (N _ h1).1
  have e2 := (N _ h2).1
  rw [e] at e1
  rw [e1] at e2
  have e3 : vs = wvs := by injection e2 with e4; injection e4 with _ _ e5 _; injection e5
  rw [e3] at ha
  have e4 := ints_fun ha hw
  have : ∀ os ∈ ordsF 4, (0 : Int) ∈ os := by rw [ords12]; decide
  have := hb 0 (e4 ▸ this os ho)
  omega
theorem items_len (s : Str) : ∀ os : List Int, ((os.map (Txt.item s)).map (·.length)).sum = os.length
  | [] => rfl
  | x :: r => by
    rw [List.map_cons, List.map_cons, List.sum_cons, items_len s r, List.length_cons, Nat.add_comm]
    rfl
section
variable {prog : Program} {w : World} {A : Around} {E : Value → Shared → Prop} {s : Shared} {h₀ : Heap} {L l : Addr} {news : List (Addr × Obj)}
theorem joinN {x : Str} {t : Tok} {vs : Array Value} {n : Nat} {ys : List Str} {Q : Value → Shared → Prop} (N : News h₀ L s.heap news) (hm : (l, listOf vs n) ∈ news) (hi : StrsAre vs.toList ys) (hsep : x.length ≤ 16) (hw : (ys.map (·.length)).sum + ys.length ≤ 1048576)
    (h : ∀ t' k, Q (.str (Txt.join x ys) t') { s with toks := k }) : wpAny (model prog w) A (call (.builtin "str.join") [.str x t, .ref l]) Q E s :=
  join_listW ⟨_, (N _ hm).1, rfl, n, rfl⟩ hi hsep hw h
end
variable {w p loose mean mg mb dp un gd cn cs a ccd cl outer A₀ base h₀ L m s Q E}
theorem ord_N
  {news : List (Addr × Obj)}
    (B : Below A₀ base outer h₀) (F : Fr h₀ L s.heap m) (X : (hd.heap_1 w.params).In h₀) (N : News h₀ L s.heap news) (T : Top p loose mean mg mb h₀) (hkf : cs.kind = .function) (hdp : dp + 3 < recursionLimit) (hun : un + 24 < cLine)
    (hret : ∀ (l : Addr) (rvs : Array Value) (rn : Nat) (tl : List (Addr × Obj)) (tk' : Nat) h', Fr h₀ L h' m → News h₀ L h' (news ++ (l, listOf rvs rn) :: tl) → (∀ b ∈ ((l, listOf rvs rn) :: tl).map (·.1), ∀ a ∈ news.map (·.1), b ≠ a) → OrdAre tl rvs.toList (ordsF 4) → Q (.ref l) { s with heap := h', toks := tk' }) :
    wpAny (model PySem.Challenge.rw_yj0031_01.row.prog w) (ktrTop dp un gd cn cs L a ccd cl outer) (call (.ref 402) []) Q E s :=
  ord_L B F X N T hkf hdp hun fun l rvs rn tl tk' h' F' N' l1 l2 hO => hret l rvs rn tl tk' h' F' (fun p hp => N' p (by
    rcases List.mem_append.mp hp with hp | hp
    · exact List.mem_append_left _ (.tail _ hp)
    · rcases List.mem_cons.mp hp with rfl | hp
      · exact List.mem_append_left _ (.head _)
      · exact List.mem_append_right _ hp)) (fun b hb a ha e => by
    obtain ⟨p, hp, rfl⟩ := List.mem_map.mp ha
    rcases List.mem_cons.mp hb with rfl | hb
    · exact allNe_mem l1 p hp e.symm
    · obtain ⟨q, hq, rfl⟩ := List.mem_map.mp hb
      exact allNe_mem (l2 p hp) q hq e) hO
theorem seg2 (w : World) (p : Program) (loose : List Str) (mean : ExcName → Option Value) (mg mb : Str → Option Value)
  (dp un : Nat) (gd : Option (List Code)) (L fa : Addr) (cd : Value) (A₀ : Around) (base h₀ : Heap) (outer : List Env) (m : Str → Option Value) (s : Shared) (Q : Flow → Shared → Prop) (rest : List Stmt)
  (o4 o5 o6 o7 : Obj) (ps qs : Array Value) (TL : List (Addr × Obj)) (wl : Addr) (wvs : Array Value) (wn : Nat) (ws : List Int) (p2 p3 : Obj) (q b wd v : Nat) (mk : Str) (t1 t2 t3 t4 t5 t6 : Tok)
  (B : Below A₀ base outer h₀) (F : Fr h₀ L s.heap m) (X : (hd.heap_1 w.params).In h₀) (N : News h₀ L s.heap ((L + 1 + 1 + 1 + 1, o4) :: (L + 1 + 1 + 1 + 1 + 1, o5) :: (L + 1 + 1 + 1 + 1 + 1 + 1, o6) :: (L + 1 + 1 + 1 + 1 + 1 + 1 + 1, o7) :: (69, tabObj #[]) :: (62, tabObj #[]) :: (200, tabObj ps) :: (207, tabObj qs) :: TL)) (T : Top p loose mean mg mb h₀) (hdp : dp + 300 < recursionLimit) (hun : un + 1500 < cLine) (D : NdT [L + 1 + 1 + 1 + 1, L + 1 + 1 + 1 + 1 + 1, L + 1 + 1 + 1 + 1 + 1 + 1, L + 1 + 1 + 1 + 1 + 1 + 1 + 1, 69, 62, 200, 207] (TL.map (·.1)))
  (d5 : o5.data = .cell none) (d6 : o6.data = .cell none) (mw : (wl, listOf wvs wn) ∈ TL) (m2 : (L + 1 + 1, p2) ∈ TL) (m3 : (L + 1 + 1 + 1, p3) ∈ TL) (e2 : p2.data = .cell (some (.ref wl))) (e3 : p3.data = .cell (some (.int (q : Int) t1))) (hI : IntsAre wvs.toList ws) (hw4 : ws.length = 4) (hw : ∀ x ∈ ws, 1 ≤ x ∧ x ≤ 4) (hws : 4 ≤ ws.sum ∧ ws.sum ≤ 16) (hq : 1 ≤ q ∧ (q : Int) ≤ ws.sum) (n_total : m "total" = some (.int ws.sum t2)) (n_bits : m "bits" = some (.int (b : Int) t3)) (n_width : m "width" = some (.int (wd : Int) t4)) (n_mark : m "mark" = some (.str mk t5)) (n_voter : m "voter" = some (.int (v : Int) t6))
  (hret : ∀ (h' : Heap) (tk' : Nat) (m' : Str → Option Value) (TL' : List (Addr × Obj)) (ol xl yl : Addr) (rvs xvs yvs : Array Value) (rn xn yn : Nat) (p5 p6 : Obj),
    Fr h₀ L h' m' → News h₀ L h' ((L + 1 + 1 + 1 + 1, o4) :: (L + 1 + 1 + 1 + 1 + 1 + 1 + 1, o7) :: (69, tabObj #[]) :: (62, tabObj #[]) :: (200, tabObj ps) :: (207, tabObj qs) :: TL') → NdT [L + 1 + 1 + 1 + 1, L + 1 + 1 + 1 + 1 + 1 + 1 + 1, 69, 62, 200, 207] (TL'.map (·.1)) → (∀ p ∈ TL, p ∈ TL') →
    (ol, listOf rvs rn) ∈ TL' → (xl, listOf xvs xn) ∈ TL' → (yl, listOf yvs yn) ∈ TL' → (L + 1 + 1 + 1 + 1 + 1, p5) ∈ TL' → (L + 1 + 1 + 1 + 1 + 1 + 1, p6) ∈ TL' → p5.data = .cell (some (.ref xl)) → p6.data = .cell (some (.ref yl)) →
    OrdAre TL' rvs.toList (ordsF 4) → StrsAre xvs.toList ((ordsF 4).map textF) → IntsAre yvs.toList ((ordsF 4).map (tipD ws q)) → m' "orders" = some (.ref ol) → m' "total" = some (.int ws.sum t2) → m' "bits" = some (.int (b : Int) t3) → m' "width" = some (.int (wd : Int) t4) → m' "mark" = some (.str mk t5) → m' "voter" = some (.int (v : Int) t6) →
    wpAny (model PySem.Challenge.rw_yj0031_01.row.prog w) (({ depth := dp, frames := some outer, guards := gd, units := un } : Around).deeper (envOfC "law" lawScope L fa cd)) (execs rest (envOfC "law" lawScope L fa cd)) Q (fun _ _ => False) { s with heap := h', toks := tk' }) :
  wpAny (model PySem.Challenge.rw_yj0031_01.row.prog w) (({ depth := dp, frames := some outer, guards := gd, units := un } : Around).deeper (envOfC "law" lawScope L fa cd)) (execs ((lawBody.drop 6).take 3 ++ rest) (envOfC "law" lawScope L fa cd)) Q (fun _ _ => False) s := by
  have eb : (lawBody.drop 6).take 3 = [?s0, ?s1, ?s2] := by exact rfl
  have es : lawScope = ⟨?sk, ?sn, ?sg, ?sc, ?sm⟩ := by exact rfl
  rw [eb]
  rw [es] at hret ⊢
  clear eb es
  simp only [List.cons_append, List.nil_append]
  revert X; k_fill; intro X
  k_steps
  all_goals first | exact ("" : Str) | exact (0 : Nat) | exact Value.none | skip
  (rename Fr _ _ _ _ => F5); (rename News _ _ _ _ => N5); (rename NdT _ _ => Dz)
  obtain ⟨TL1, hT1, hs1, hs2⟩ := rest_name TL ((ol9', listOf rvs9' rn9') :: tl9')
  have D1 := nd_tailM Dz ap9'
  rw [← hT1] at D1
  have N6 := (show _ = _ from rfl : News h₀ L _ _ = News h₀ L _ (_ :: _ :: _ :: _ :: _ :: _ :: _ :: _ :: (TL ++ ((ol9', listOf rvs9' rn9') :: tl9')))) ▸ N5
  rw [← hT1] at N6
  have mol := hs2 _ (.head _)
  have hO1 := hO9'.mono fun p hp => hs2 p (.tail _ hp)
  have mw1 := hs1 _ mw
  have m21 := hs1 _ m2
  have m31 := hs1 _ m3
  have hrs : rvs9'.size = 12 := by
    have := hO1.len
    rw [Array.length_toList, ords12] at this
    exact this
  clear hs2 hO9' ap9' hT1 N5 mw m2 m3 Dz
  refine YStop.to (wpAny_Assign_Name ?_ (by with_unfolding_all rfl))
  refine LCg.ListComp_U F5 (by with_unfolding_all rfl) (by decide) rfl (by decide) rfl ?_ (fun _ => rfl)
  k_steps
  all_goals first | exact ("" : Str) | exact (0 : Nat) | exact Value.none | skip
  (rename Fr _ _ _ _ => F6); (rename News _ _ _ _ => N7)
  refine YStop.to (LCg.CompSrc.ledger rfl F6 N7 (.tail _ (.tail _ (.tail _ (.tail _ (.tail _ (.tail _ (.tail _ (.tail _ mol)))))))) (by rw [line_is]; show rvs9'.size ≤ _; omega) fun g' => ?_)
  refine rest_rel (ordsF 4) (fun os v => ∃ a vs n, v = .ref a ∧ (a, listOf vs n) ∈ TL1 ∧ IntsAre vs.toList os) textF (fun b y => ∃ t, y = .str b t) StrsAre strs_snoc' (.tail _ (.tail _ (.tail _ (.tail _ (.tail _ (.tail _ (.tail _ (.tail _ mol)))))))) hO1.hat (by rw [hrs, ords12]; rfl) ?helt ?hfin _ 0 [] (Nat.zero_add _) .nil
  case helt =>
    rintro C oC m₂ s₂ N9 E' os v Q9 hxs ⟨la, vs9, n9, rfl, hla, hIa⟩ hC hv F N hCm hsub hoff hQ
    obtain ⟨ho4, hor, hor4⟩ := ord_ok os hxs
    have hmla : (la, listOf vs9 n9) ∈ N9 := hsub _ (.tail _ (.tail _ (.tail _ (.tail _ (.tail _ (.tail _ (.tail _ (.tail _ hla))))))))
    (try clear N6); (try clear N7); (try clear F5); (try clear F6)
    k_steps
    all_goals first | exact ("" : Str) | exact (0 : Nat) | exact Value.none | skip
    (rename Fr _ _ _ _ => F5); (rename News _ _ _ _ => N5)
    refine YStop.to (LCg.ListComp_U F5 (by with_unfolding_all rfl) (by decide) rfl (by decide) rfl ?_ (fun _ => rfl))
    k_steps
    all_goals first | exact ("" : Str) | exact (0 : Nat) | exact Value.none | skip
    (rename Fr _ _ _ _ => F6); (rename News _ _ _ _ => N6)
    refine YStop.to (LCg.CompSrc.ledger rfl F6 N6 hmla (by rw [line_is]; have := ints_len hIa; omega) fun g9 => ?_)
    refine rest_rel os (fun x v => ∃ t, v = .int x t) (Txt.item "abcd") (fun b y => ∃ t, y = .str b t) StrsAre strs_snoc' hmla (ints_hat hIa) (ints_len hIa) ?helt2 ?hfin2 _ 0 [] (Nat.zero_add _) .nil
    case helt2 =>
      rintro C2 oC2 m22 s22 N29 E2 x v2 Q2 hx ⟨tx, rfl⟩ hC2 hv2 FF NN hCm2 hsub2 hoff2 hQ2
      have hx4 := hor4 x hx
      (try clear N6); (try clear F6)
      k_steps
      all_goals first | exact ("" : Str) | exact (0 : Nat) | exact Value.none | skip
      exact hQ2 _ _ _ ⟨_, rfl⟩ FF NN
    case hfin2 =>
      intro ys2 hy2 D2 h28 tk28 F28 N28 off28
      (try clear N6); (try clear F6)
      k_steps
      all_goals first | exact ("" : Str) | exact (0 : Nat) | exact Value.none | skip
      exact hQ _ _ _ ⟨_, rfl⟩ F28 fun p hp => N28 p (.tail _ hp)
  case hfin =>
    intro xvs hxs D3 h38 tk38 F38 N38 off38
    (try clear N6); (try clear N7); (try clear F5); (try clear F6)
    have D2 := nd_ap (off1_all off38) D1 rfl
    clear D1
    (try dsimp only)
    k_steps
    all_goals first | exact ("" : Str) | exact (0 : Nat) | exact Value.none | skip
    (rename Fr _ _ _ _ => F41); (rename News _ _ _ _ => N41); (rename Obj => o5n); (rename o5n.data = _ => d5n)
    have key : ∃ T, News h₀ L _ ((L + 1 + 1 + 1 + 1, o4) :: (L + 1 + 1 + 1 + 1 + 1 + 1, o6) :: (L + 1 + 1 + 1 + 1 + 1 + 1 + 1, o7) :: (69, tabObj #[]) :: (62, tabObj #[]) :: (200, tabObj ps) :: (207, tabObj qs) :: T) ∧ NdT [L + 1 + 1 + 1 + 1, L + 1 + 1 + 1 + 1 + 1 + 1, L + 1 + 1 + 1 + 1 + 1 + 1 + 1, 69, 62, 200, 207] (T.map (·.1)) ∧ (∀ p ∈ TL1, p ∈ T) ∧ (D3, LCg.lst xvs) ∈ T ∧ (L + 1 + 1 + 1 + 1 + 1, o5n) ∈ T :=
      ⟨(D3, LCg.lst xvs) :: (L + 1 + 1 + 1 + 1 + 1, o5n) :: TL1, News.rot (n1 := [_, _, _, _, _, _, _, _, _]) N41 [1, 3, 4, 5, 6, 7, 8] [0, 2], nd_move 0 (nd_move 2 D2), fun p hp => .tail _ (.tail _ hp), .head _, .tail _ (.head _)⟩
    obtain ⟨TL2, N42, D42, hs3, mxl, m5⟩ := key
    have mol2 := hs3 _ mol
    have hO2 := hO1.mono hs3
    have mw2 := hs3 _ mw1
    have m22 := hs3 _ m21
    have m32 := hs3 _ m31
    clear N41 D2 hO1
    refine YStop.to (wpAny_Assign_Name ?_ (by with_unfolding_all rfl))
    refine LCg.ListComp_U F41 (by with_unfolding_all rfl) (by decide) rfl (by decide) rfl ?_ (fun _ => rfl)
    k_steps
    all_goals first | exact ("" : Str) | exact (0 : Nat) | exact Value.none | skip
    (rename Fr _ _ _ _ => F6); (rename News _ _ _ _ => N7)
    refine YStop.to (LCg.CompSrc.ledger rfl F6 N7 (.tail _ (.tail _ (.tail _ (.tail _ (.tail _ (.tail _ (.tail _ mol2))))))) (by rw [line_is]; show rvs9'.size ≤ _; omega) fun g' => ?_)
    refine rest_rel (ordsF 4) (fun os v => ∃ a vs n, v = .ref a ∧ (a, listOf vs n) ∈ TL2 ∧ IntsAre vs.toList os) (tipD ws q) (fun b y => ∃ t, y = .int b t) IntsAre ints_snoc (.tail _ (.tail _ (.tail _ (.tail _ (.tail _ (.tail _ (.tail _ mol2))))))) hO2.hat (by rw [hrs, ords12]; rfl) ?helt3 ?hfin3 _ 0 [] (Nat.zero_add _) .nil
    case helt3 =>
      rintro C oC m₂ s₂ N9 E' os v Q9 hxs ⟨la, vs9, n9, rfl, hla, hIa⟩ hC hv F N hCm hsub hoff hQ
      obtain ⟨ho4, hor, hor4⟩ := ord_ok os hxs
      obtain ⟨htip, htipm⟩ := tip_ok hw4 (show (1 : Int) ≤ q by omega) hq.2 os hxs
      have hmla : (la, listOf vs9 n9) ∈ N9 := hsub _ (.tail _ (.tail _ (.tail _ (.tail _ (.tail _ (.tail _ (.tail _ hla)))))))
      have hmw9 : (wl, listOf wvs wn) ∈ N9 := hsub _ (.tail _ (.tail _ (.tail _ (.tail _ (.tail _ (.tail _ (.tail _ mw2)))))))
      have hm29 : (L + 1 + 1, p2) ∈ N9 := hsub _ (.tail _ (.tail _ (.tail _ (.tail _ (.tail _ (.tail _ (.tail _ m22)))))))
      have hm39 : (L + 1 + 1 + 1, p3) ∈ N9 := hsub _ (.tail _ (.tail _ (.tail _ (.tail _ (.tail _ (.tail _ (.tail _ m32)))))))
      have hlw := row_ne N hmla hmw9 hIa hI hxs hw
      (try clear N7); (try clear F6); (try clear N42); (try clear F41)
      k_steps
      all_goals first | exact ("" : Str) | exact (0 : Nat) | exact Value.none | skip
      exact hQ _ _ _ ⟨_, rfl⟩ F9' N9'
    case hfin3 =>
      intro yvs hys D5 h48 tk48 F48 N48 off48
      (try clear N7); (try clear F6); (try clear N42); (try clear F41)
      have D6 := nd_ap (off1_all off48) D42 rfl
      clear D42
      (try dsimp only)
      k_steps
      all_goals first | exact ("" : Str) | exact (0 : Nat) | exact Value.none | skip
      (rename Fr _ _ _ _ => F51); (rename News _ _ _ _ => N51); (rename Obj => o6n); (rename o6n.data = _ => d6n)
      trace_state
      refine hret _ _ _ ((D5, LCg.lst yvs) :: (L + 1 + 1 + 1 + 1 + 1 + 1, o6n) :: TL2) ol9' D3 D5 rvs9' xvs.toArray yvs.toArray rn9' xvs.length yvs.length o5n o6n F51 (News.rot (n1 := [_, _, _, _, _, _, _, _]) N51 [1, 3, 4, 5, 6, 7] [0, 2]) (nd_move 0 (nd_move 2 D6)) (fun p hp => .tail _ (.tail _ (hs3 p (hs1 p hp)))) (.tail _ (.tail _ mol2)) (.tail _ (.tail _ mxl)) (.head _) (.tail _ (.tail _ m5)) (.tail _ (.head _)) d5n d6n (hO2.mono fun p hp => .tail _ (.tail _ hp)) hxs hys ?e1 ?e2 ?e3 ?e4 ?e5 ?e6
      case e1 => exact rfl
      case e2 => exact n_total
      case e3 => exact n_bits
      case e4 => exact n_width
      case e5 => exact n_mark
      case e6 => exact n_voter
end
section -- JS4
theorem zsJS4 : True := by
  w_top off
  k_with_none
  k_with "nd" => (skip)
  k_with "execs cons" => (refine y_consS ?_; intro sk9 qk9)
  k_with "mem" => first | assumption | exact List.Mem.head _ | (refine' List.Mem.tail _ ?_; k_extra "mem")
  k_with "call builtin:str.join" => (k_here; k_dflt (refine' joinN ?N ?hm ?hi ?hsep ?hw ?_; (case N => k_asm); (case hm => k_mem); (case hi => assumption); (case hsep => omega); (case hw => assumption); k_whole; intro t9' k9'))
  k_with "eval ListComp" => (k_here; (with_reducible show wpAny _ _ (eval (PySem.Expr.ListComp _ _ _ _) _) _ _ _); refine YStop.of ?_)
  k_with "CompSrc" => (refine YStop.of ?_)
  k_with "eval Name" => (k_here; (first | (with_reducible show wpAny _ _ (eval (.Name (.ofString "script") _) _) _ _ _) | (with_reducible show wpAny _ _ (eval (.Name (.ofString "total") _) _) _ _ _) | (with_reducible show wpAny _ _ (eval (.Name (.ofString "bits") _) _) _ _ _) | (with_reducible show wpAny _ _ (eval (.Name (.ofString "width") _) _) _ _ _) | (with_reducible show wpAny _ _ (eval (.Name (.ofString "mark") _) _) _ _ _) | (with_reducible show wpAny _ _ (eval (.Name (.ofString "voter") _) _) _ _ _) | (with_reducible show wpAny _ _ (eval (.Name (.ofString "orders") _) _) _ _ _) | (with_reducible show wpAny _ _ (eval (.Name (.ofString "pairs") _) _) _ _ _) | (with_reducible show wpAny _ _ (eval (.Name (.ofString "table") _) _) _ _ _) | (with_reducible show wpAny _ _ (eval (.Name (.ofString "place") _) _) _ _ _) | (with_reducible show wpAny _ _ (eval (.Name (.ofString "capped") _) _) _ _ _) | (with_reducible show wpAny _ _ (eval (.Name (.ofString "great") _) _) _ _ _) | (with_reducible show wpAny _ _ (eval (.Name (.ofString "name") _) _) _ _ _) | (with_reducible show wpAny _ _ (eval (.Name (.ofString "rows") _) _) _ _ _) | (with_reducible show wpAny _ _ (eval (.Name (.ofString "due") _) _) _ _ _) | (with_reducible show wpAny _ _ (eval (.Name (.ofString "stride") _) _) _ _ _) | (with_reducible show wpAny _ _ (eval (.Name (.ofString "whole") _) _) _ _ _) | (with_reducible show wpAny _ _ (eval (.Name (.ofString "weight") _) _) _ _ _) | (with_reducible show wpAny _ _ (eval (.Name (.ofString "factor") _) _) _ _ _) | (with_reducible show wpAny _ _ (eval (.Name (.ofString "quotient") _) _) _ _ _) | (with_reducible show wpAny _ _ (eval (.Name (.ofString "rest") _) _) _ _ _) | (with_reducible show wpAny _ _ (eval (.Name (.ofString "figures") _) _) _ _ _) | (with_reducible show wpAny _ _ (eval (.Name (.ofString "row") _) _) _ _ _)); k_dflt (refine' ld ?k1 ?k2 ?_; (case k1 => k_asm); (case k2 => first | assumption | exact rfl); k_whole))
  k_with "binaryOp Add ref ref" => (k_here; k_dflt (refine' add_list_N ?F ?N ?hl ?hb ?h1 ?h2 ?_; (case F | N => k_asm); (case hl | hb => k_mem); (case h1 => first | assumption | omega); (case h2 => first | exact Nat.le_of_ble_eq_true rfl | assumption | omega); k_whole; intro h9' l9' F9' N9' lz1; k_lt lz1))
  k_with "subscriptTail" => (k_here; (with_reducible show wpAny _ _ (subscriptTail _ _ (Value.ref _) (Value.int _ _)) _ _ _); k_dflt (refine' itemV ?N ?hm ?h0 ?h1 ?hx ?_ ?hs; (case N => k_asm); (case hm => k_mem); (case hx => assumption); (case h0 | h1 => omega); (case hs => exact rfl); k_whole))
  k_with "call builtin:str.split" => (k_here; k_dflt (refine' splitL ?F ?N ?hy ?hsz ?_; (case F | N => k_asm); (case hy => assumption); (case hsz => omega); k_whole; intro D9' vs9' n9' h9' k9' hS9' hz9' F9' N9' lz1; k_lt lz1))
  k_with "call ref" => (k_here; k_dflt (refine' page_L ?B ?F ?X ?N ?T ?hkf ?hdp ?hun ?U ?hm0 ?U2 ?hm1 ?hm2 ?hI ?hw4 ?hw ?hO ?ho4 ?hor ?hol ?hwd1 ?hwd ?hmk ?hm9 ?htp ?htq ?hG0 ?hA9 ?hpg ?_; (case B | F | X | N => k_asm); (case T => assumption); (case hkf => exact rfl); (case hdp => ktr_room); (case hun => ktr_units); (case U => k_updF); (case hm0 => k_mem); (case U2 => intro n9; k_updF); (case hm1 | hm2 => k_mem); (case hI | hw4 | hw | hO | ho4 | hor | hol | hwd1 | hwd | hmk | hm9 | htp | htq | hG0 | hA9 | hpg => assumption); k_whole; intro s9' tr9' ps9' qs9' F9' N9' htp9' htq9' hG9' ho9'; (try dsimp only at N9'); obtain ⟨hp9', gs9', d9', tk9', os9'⟩ := s9'; (try dsimp only at F9' N9' hG9' ho9')))
  k_with "call ref" => (k_here; k_dflt (refine' rows_L ?B ?F ?X ?N ?T ?hkf ?hdp ?hun ?hm1 ?hm2 ?hI ?hw4 ?hw ?hO ?ho4 ?hor ?hol ?hwd ?_; (case B | F | X | N => k_asm); (case T => assumption); (case hkf => exact rfl); (case hdp => ktr_room); (case hun => ktr_units); (case hm1 | hm2 => k_mem); (case hI | hw4 | hw | hO | ho4 | hor | hol | hwd => assumption); k_whole; intro lr9' rvs9' rn9' tk9' h9' F9' N9' lz1 hS9'; (try dsimp only at N9'); k_lt lz1))
  k_with "call ref" => (k_here; k_dflt (refine' addh_L ?B ?F ?X ?N ?T ?hkf ?hdp ?hun ?U ?hm1 ?hm2 ?hm3 ?hsub ?n1 ?n2 ?n3 ?htl ?hH ?hhs ?hN ?hV ?z1 ?z2 ?_; (case B | F | X | N => k_asm); (case T => assumption); (case hkf => exact rfl); (case hdp => ktr_room); (case hun => ktr_units); (case hm1 | hm2 | hm3 => k_mem); (case U => k_updF); (case hH => assumption); (case hsub => intro pz hpz; k_mem); (case n1 | n2 | n3 | htl => assumption); (case hhs => omega); (case hN | hV | z1 | z2 => assumption); k_whole; intro ta9' u9' v9' tk9' pn9' h9' F9' N9' lz1; (try dsimp only at N9'); k_lt lz1))
  k_with "eval IfExp" => (k_here; (with_reducible show wpAny _ _ (eval (PySem.Expr.IfExp _ _ _ _) _) _ _ _); refine YStop.of ?_)
  k_with "subscriptTail" => (k_here; (with_reducible show wpAny _ _ (subscriptTail _ _ (Value.str _ _) (Value.ref _)) _ _ _); refine YStop.of ?_)
  k_with "subscriptTail" => (k_here; (with_reducible show wpAny _ _ (subscriptTail (PySem.Expr.BinOp _ _ _ _) _ (Value.ref _) (Value.int _ _)) _ _ _); refine YStop.of ?_)
  k_with "compareOp NotEq str str" => (k_here; k_dflt (refine' neq_same ?e ?_; (case e => first | rfl | assumption); k_whole))
  k_with "call builtin:str.lower" => (k_here; k_dflt (refine' SCL.lower ?hf ?_; (case hf => first | omega | exact Nat.le_trans (by assumption) (by decide)); k_whole; intro _))
  trivial
noncomputable def bodyAt (k : Nat) : List Stmt := loopBody (lawBody.getD k (.Pass ⟨0, 0, 0, 0⟩))
theorem strs_at {vs : List Value} {ws : List Str} (i : Nat) (x : Str) (q : StrsAre vs ws) (h : ws[i]? = some x) : ∃ t, vs[i]? = some (.str x t) := by
  induction q generalizing i with
  | nil => cases h
  | cons _ t _ ih => cases i with
    | zero => exact ⟨t, by rw [← Option.some.inj h]; rfl⟩
    | succ i => exact ih i h
theorem strs_len {vs : List Value} {ws : List Str} (q : StrsAre vs ws) : vs.length = ws.length := strs_size q
theorem strs_app {a b : List Value} {x y : List Str} (q : StrsAre a x) (h : StrsAre b y) : StrsAre (a ++ b) (x ++ y) := by
  induction q with
  | nil => exact h
  | cons _ _ _ ih => exact .cons _ _ ih
section
variable {prog : Program} {w : World} {A : Around} {E : Value → Shared → Prop} {s : Shared} {h₀ : Heap} {L l : Addr} {m : Str → Option Value} {news : List (Addr × Obj)} {x y : Str} {t u : Tok} {Q : Value → Shared → Prop}
theorem itemV {i : Int} {vs : Array Value} {n : Nat} {v : Value} {value slice : PySem.Expr} (N : News h₀ L s.heap news) (hm : (l, listOf vs n) ∈ news) (h0 : 0 ≤ i) (h1 : i < 1000) (hx : vs[i.toNat]? = some v) (h : Q v s)
    (hs : subscripted slice false (.ref l) (.int i u) = operate [.ref l, .int i u] (getItem (.ref l) (.int i u))) : wpAny (model prog w) A (subscriptTail value slice (.ref l) (.int i u)) Q E s := by
  have hl : s.heap.IsList l vs := ⟨_, (N _ hm).1, rfl, n, rfl⟩
  exact tail_any hl.typeIs slot_list_getitem.lookup (wpAny_getItem_list hl h0 (Int.lt_trans h1 (by decide)) hx h) hs
theorem splitL (F : Fr h₀ L s.heap m) (N : News h₀ L s.heap news) (hy : (y.length == 0) = false) (hsz : x.length ≤ 1000)
    (h : ∀ D vs n h' k, StrsAre vs.toList (Txt.split x y) → vs.size = (Txt.split x y).length → Fr h₀ L h' m → News h₀ L h' ((D, listOf vs n) :: news) → (∀ p ∈ news, p.1 < D) → Q (.ref D) { s with heap := h', toks := k }) :
    wpAny (model prog w) A (call (.builtin "str.split") [.str x t, .str y u]) Q E s :=
  KSpl.split1 F N hy (fun D l h' k e a F' N' lt => h D _ 0 h' k (by rw [← e]; exact a) (by rw [← e, ← strs_len a]; exact (Array.length_toList ..).symm) F' N' lt) (by rw [line_is]; omega)
theorem neq_same (e : x = y) (h : Q (.bool false) s) : wpAny (model prog w) A (compareOp .NotEq (.str x t) (.str y u)) Q E s := by
  refine ne_str ?_
  rw [e, bne_self_eq_false]
  exact h
end
theorem y_meet {M : Model} {A : Around} {E : Value → Shared → Prop} {c : Sem Value} {P : Value → Prop} {Q : Value → Shared → Prop} {s : Shared} (h : wpAny M A c (fun v s' => YStop (P v ∧ ∃ tk, s' = { s with toks := tk })) (fun _ _ => False) s)
    (hQ : ∀ v tk, P v → Q v { s with toks := tk }) : wpAny M A c Q E s := wpAny_mono h (fun v s' hh => by
  obtain ⟨p, tk, rfl⟩ := hh
  exact hQ v tk p) fun _ _ z => z.elim
theorem low_item {t : Int} (h : 0 ≤ t ∧ t < 4) : Txt.lower (Txt.item "ABCD" t) = Txt.item "abcd" t := by
  have : t = 0 ∨ t = 1 ∨ t = 2 ∨ t = 3 := lt_4i h
  rcases this with rfl | rfl | rfl | rfl <;> decide +kernel
theorem name_ok {t : Int} (h : 0 ≤ t ∧ t < 4) : ∀ s ∈ [("abcd" : Str), "ABCD"], noHit codeN (Txt.item s t) = true := by
  have : t = 0 ∨ t = 1 ∨ t = 2 ∨ t = 3 := lt_4i h
  rcases this with rfl | rfl | rfl | rfl <;> decide +kernel
theorem text_ok : ∀ os ∈ ordsF 4, noHit codeV (textF os) = true ∧ (textF os).cps.size ≤ 1000 := by rw [ords12]; decide +kernel
theorem slice_one {x z : Str} (h : z.cps.toList.take 1 = x.cps.toList) (h1 : x.cps.toList.length = 1) : Txt.slice z none (some 1) = x := by
  have hz : 1 ≤ z.length := by
    have : (z.cps.toList.take 1).length = 1 := by rw [h, h1]
    rw [List.length_take, Array.length_toList] at this
    show 1 ≤ z.cps.size
    omega
  have e := eq_of_beq (slice_closes_toL (x := z) (j := 1) (by decide) (by omega))
  rw [e]
  exact str_ext h
noncomputable def rowG (r : Str) : Str := Txt.item r 0 ++ Txt.lower (Txt.slice r (some 1) none)
theorem strs_hat {its : Array Value} {xs : List Str} (h : StrsAre its.toList xs) (i : Nat) (v : Value) (hv : its[i]? = some v) : ∃ a, xs[i]? = some a ∧ ∃ t, v = .str a t := by
  obtain ⟨y, t, e, k⟩ := h.item i v (by rw [Array.getElem?_toList]; exact hv)
  exact ⟨y, k, t, e⟩
theorem strs_sz {its : Array Value} {xs : List Str} (h : StrsAre its.toList xs) : xs.length = its.size := by rw [← Array.length_toList]; exact (strs_len h).symm
noncomputable def hdrF (ws : List Int) (q : Int) (k : Nat) : Str × Str := (Txt.item (if k % 2 = 1 then "abcd" else "ABCD") (tipD ws q ((ordsF 4).getD k [])), textF ((ordsF 4).getD k []))
theorem cap_len {x : Str} (h : SgS x) : (Txt.capitalize x).length = x.length := by
  have e2 := cap_sg h
  have e3 : (Txt.capitalize x).cps.toList.length = x.cps.toList.length := by
    rw [e2]
    cases x.cps.toList with
    | nil => rfl
    | cons a r => simp [capL]
  rw [Array.length_toList, Array.length_toList] at e3
  exact e3
theorem rows_G {ws : List Int} {wd : Nat} {os : List Int} (hw4 : ws.length = 4) (hw : ∀ x ∈ ws, 1 ≤ x ∧ x ≤ 4) (ho : ∀ x ∈ os, 0 ≤ x ∧ x ≤ 3) (ho4 : os.length = 4) : (((rowsF ws wd os).map rowG).map (·.length)).sum + ((rowsF ws wd os).map rowG).length ≤ 1048576 ∧ (Txt.join "" ((rowsF ws wd os).map rowG)).length ≤ 1000 := by
  have h1 := rows_count (ws := ws) (wd := wd) (os := os)
  have h2 : (((rowsF ws wd os).map rowG).map (·.length)).sum ≤ 33 * ((rowsF ws wd os).map rowG).length := by
    refine sum_leB fun r hr => ?_
    obtain ⟨x, hx, rfl⟩ := List.mem_map.mp hr
    have e := cap_row (rows_sgs hw4 hw wd ho x hx) (rows_all hw4 hw ho x hx)
    show (Txt.item x 0 ++ Txt.lower (Txt.slice x (some 1) none)).length ≤ 33
    rw [← e, cap_len (rows_sgs hw4 hw wd ho x hx)]
    have := rowsF_len hw hw4 ho wd x hx
    omega
  have h4 : Txt.join "" ((rowsF ws wd os).map rowG) = Str.join "" ((rowsF ws wd os).map rowG) := StrLaws.glued_eq_join ..
  have h3 := StrLaws.join_length_le "" ((rowsF ws wd os).map rowG)
  have h0 : (("" : Str)).length = 0 := rfl
  rw [h0, Nat.mul_zero] at h3
  rw [List.length_map] at h2 ⊢
  rw [h4]
  omega
theorem split_len {ws : List Int} {wd : Nat} {os : List Int} {mk : Str} (hmk : MkOk mk) (hw4 : ws.length = 4) (hw : ∀ x ∈ ws, 1 ≤ x ∧ x ≤ 4) (ho : ∀ x ∈ os, 0 ≤ x ∧ x ≤ 3) (ho4 : os.length = 4) : ∀ z ∈ Txt.split (pageF ws wd mk os) mk, z.length ≤ 33 := by
  rw [page_back hmk hw4 hw ho]
  intro z hz
  rcases List.mem_cons.mp hz with rfl | hz
  · exact Nat.zero_le _
  · rcases List.mem_append.mp hz with hz | hz
    · obtain ⟨x, hx, rfl⟩ := List.mem_map.mp hz
      rw [cap_len (rows_sgs hw4 hw wd ho x hx)]
      have := rowsF_len hw hw4 ho wd x hx
      omega
    · rw [List.mem_singleton.mp hz]; exact Nat.zero_le _
theorem page_len {ws : List Int} {wd : Nat} {os : List Int} {mk : Str} (hmk : MkOk mk) (hm4 : mk.length ≤ 3) (hw4 : ws.length = 4) (hw : ∀ x ∈ ws, 1 ≤ x ∧ x ≤ 4) (ho : ∀ x ∈ os, 0 ≤ x ∧ x ≤ 3) (ho4 : os.length = 4) : (pageF ws wd mk os).length ≤ 200 := by
  rw [page_eq hmk hw4 hw ho]
  have h3 := StrLaws.join_length_le mk (("" : Str) :: ((rowsF ws wd os).map Txt.capitalize ++ [("" : Str)]))
  have h4 : Txt.join mk (("" : Str) :: ((rowsF ws wd os).map Txt.capitalize ++ [("" : Str)])) = Str.join mk (("" : Str) :: ((rowsF ws wd os).map Txt.capitalize ++ [("" : Str)])) := StrLaws.glued_eq_join ..
  have h1 := rows_count (ws := ws) (wd := wd) (os := os)
  have h2 : (((rowsF ws wd os).map Txt.capitalize).map (·.length)).sum ≤ 33 * ((rowsF ws wd os).map Txt.capitalize).length := by
    refine sum_leB fun r hr => ?_
    obtain ⟨x, hx, rfl⟩ := List.mem_map.mp hr
    rw [cap_len (rows_sgs hw4 hw wd ho x hx)]
    have e1 := rowsF_len hw hw4 ho wd x hx
    omega
  rw [List.length_map] at h2
  rw [h4]
  rw [ho4] at h1
  simp only [List.map_cons, List.map_append, List.map_nil, List.sum_cons, List.sum_append, List.sum_nil, List.length_cons, List.length_append, List.length_map, List.length_nil] at h3
  have h0 : (("" : Str)).length = 0 := rfl
  have h5 : ((rowsF ws wd os).length + (0 + 1) + 1) * mk.length ≤ 7 * 3 := Nat.mul_le_mul (by omega) hm4
  omega
theorem body4 (w : World) (p : Program) (loose : List Str) (mean : ExcName → Option Value) (mg mb : Str → Option Value)
  (dp un : Nat) (gd : Option (List Code)) (L fa : Addr) (cd : Value) (A₀ : Around) (base h₀ : Heap) (outer : List Env) (m : Str → Option Value) (s : Shared) (Q : Flow → Shared → Prop)
  (I : Addr) (oI : Obj) (k : Nat) (tk : Tok) (o4 o7 : Obj) (ps qs : Array Value) (TL : List (Addr × Obj)) (pl tb dx ol xl yl : Addr) (pvs rvs xvs yvs : Array Value) (pn rn xn yn : Nat) (p5 p6 : Obj) (hi : Int) (k1 : Tok) (hs : List (Str × Str)) (wl : Addr) (wvs : Array Value) (wn : Nat) (ws : List Int) (p2 p3 : Obj) (q b wd v : Nat) (mk : Str) (t1 t2 t3 t4 t5 t6 : Tok)
  (B : Below A₀ base outer h₀) (F : Fr h₀ L s.heap m) (X : (hd.heap_1 w.params).In h₀) (N : News h₀ L s.heap ((I, oI) :: (pl, listOf pvs pn) :: (L + 1 + 1 + 1 + 1, o4) :: (L + 1 + 1 + 1 + 1 + 1 + 1 + 1, o7) :: (69, tabObj #[]) :: (62, tabObj #[]) :: (200, tabObj ps) :: (207, tabObj qs) :: TL)) (T : Top p loose mean mg mb h₀) (hdp : dp + 300 < recursionLimit) (hun : un + 1500 < cLine) (D : NdT (pl :: [L + 1 + 1 + 1 + 1, L + 1 + 1 + 1 + 1 + 1 + 1 + 1, 69, 62, 200, 207]) (TL.map (·.1)))
  (ap : ∀ p ∈ ((pl, listOf pvs pn) :: (L + 1 + 1 + 1 + 1, o4) :: (L + 1 + 1 + 1 + 1 + 1 + 1 + 1, o7) :: (69, tabObj #[]) :: (62, tabObj #[]) :: (200, tabObj ps) :: (207, tabObj qs) :: TL), @Ne Nat p.1 I) (hk : k < 12) (htp : TriplesOk ps.toList) (htq : TriplesOk qs.toList) (hG0 : AllBare s.gens)
  (mol : (ol, listOf rvs rn) ∈ TL) (mxl : (xl, listOf xvs xn) ∈ TL) (myl : (yl, listOf yvs yn) ∈ TL) (m5 : (L + 1 + 1 + 1 + 1 + 1, p5) ∈ TL) (m6 : (L + 1 + 1 + 1 + 1 + 1 + 1, p6) ∈ TL) (e5 : p5.data = .cell (some (.ref xl))) (e6 : p6.data = .cell (some (.ref yl)))
  (hO : OrdAre TL rvs.toList (ordsF 4)) (hS : StrsAre xvs.toList ((ordsF 4).map textF)) (hY : IntsAre yvs.toList ((ordsF 4).map (tipD ws q)))
  (mtb : (tb, instObj 386 dx) ∈ TL) (mdx : (dx, dictOf [⟨hi, .str "_headers" k1, .ref pl⟩] 1) ∈ TL) (ntd : YNe tb dx) (hH : HdrAre TL pvs.toList hs) (hhs : hs.length ≤ 90)
  (hwd : (wd : Int) = 2 * q ∨ (wd : Int) = 2 * q - 1) (hmk : mk ∈ [("|" : Str), "\n", "--", " / "]) (mw : (wl, listOf wvs wn) ∈ TL) (m2 : (L + 1 + 1, p2) ∈ TL) (m3 : (L + 1 + 1 + 1, p3) ∈ TL) (e2 : p2.data = .cell (some (.ref wl))) (e3 : p3.data = .cell (some (.int (q : Int) t1))) (hI : IntsAre wvs.toList ws) (hw4 : ws.length = 4) (hw : ∀ x ∈ ws, 1 ≤ x ∧ x ≤ 4) (hws : 4 ≤ ws.sum ∧ ws.sum ≤ 16) (hq : 1 ≤ q ∧ (q : Int) ≤ ws.sum) (n_place : m "place" = some (.int (k : Int) tk)) (n_pairs : m "pairs" = some (.ref pl)) (n_table : m "table" = some (.ref tb)) (n_orders : m "orders" = some (.ref ol)) (n_total : m "total" = some (.int ws.sum t2)) (n_bits : m "bits" = some (.int (b : Int) t3)) (n_width : m "width" = some (.int (wd : Int) t4)) (n_mark : m "mark" = some (.str mk t5)) (n_voter : m "voter" = some (.int (v : Int) t6))
  (hret : ∀ (s' : Shared) (m' : Str → Option Value) (ps' qs' pvs' : Array Value) (pn' : Nat) (ta : Addr) (ua va : Tok), Fr h₀ L s'.heap m' → News h₀ L s'.heap ((I, oI) :: (pl, listOf pvs' pn') :: (L + 1 + 1 + 1 + 1, o4) :: (L + 1 + 1 + 1 + 1 + 1 + 1 + 1, o7) :: (69, tabObj #[]) :: (62, tabObj #[]) :: (200, tabObj ps') :: (207, tabObj qs') :: (ta, tupObj #[.str (hdrF ws q k).1 ua, .str (hdrF ws q k).2 va]) :: TL) → NdT (I :: pl :: [L + 1 + 1 + 1 + 1, L + 1 + 1 + 1 + 1 + 1 + 1 + 1, 69, 62, 200, 207]) (ta :: TL.map (·.1)) → pvs' = pvs.push (.ref ta) →
  TriplesOk ps'.toList → TriplesOk qs'.toList → AllBare s'.gens → s'.os = s.os → m' "pairs" = some (.ref pl) → m' "table" = some (.ref tb) → m' "orders" = some (.ref ol) → m' "total" = some (.int ws.sum t2) → m' "bits" = some (.int (b : Int) t3) → m' "width" = some (.int (wd : Int) t4) → m' "mark" = some (.str mk t5) → m' "voter" = some (.int (v : Int) t6) → Q .next s') :
  wpAny (model PySem.Challenge.rw_yj0031_01.row.prog w) (({ depth := dp, frames := some outer, guards := gd, units := un } : Around).deeper (envOfC "law" lawScope L fa cd)) (execs (bodyAt 11) (envOfC "law" lawScope L fa cd)) Q (fun _ _ => False) s := by
  have eb : bodyAt 11 = [?s0, ?s1, ?s2, ?s3, ?s4, ?s5] := by exact rfl
  have es : lawScope = ⟨?sk, ?sn, ?sg, ?sc, ?sm⟩ := by exact rfl
  rw [eb, es]
  clear eb es
  revert X; k_fill; intro X
  have D1 := nd_ap ap D rfl
  clear D ap
  have hrs : rvs.size = 12 := by
    have := hO.len
    rw [Array.length_toList, ords12] at this
    exact this
  obtain ⟨la, vs9, n9, os, ela, hla, hIa, hos⟩ := hO.at k rvs[k] (by rw [Array.getElem?_toList]; exact Array.getElem?_eq_getElem (by omega))
  have hx1 : rvs[((k : Nat) : Int).toNat]? = some (.ref la) := by rw [← ela]; exact Array.getElem?_eq_getElem (by omega)
  have hoo : os ∈ ordsF 4 := List.mem_of_getElem? hos
  obtain ⟨ho4, hor, hor4⟩ := ord_ok os hoo
  obtain ⟨htip, htm⟩ := tip_ok hw4 (show (1 : Int) ≤ q from Int.ofNat_le.mpr hq.1) hq.2 os hoo
  obtain ⟨tx, hx2⟩ := strs_at k (textF os) hS (by rw [List.getElem?_map, hos]; rfl)
  rw [Array.getElem?_toList] at hx2
  obtain ⟨ty, hx3⟩ := hY.get k (tipD ws q os) (by rw [List.getElem?_map, hos]; rfl)
  rw [Array.getElem?_toList] at hx3
  have hx2' : xvs[((k : Nat) : Int).toNat]? = some (.str (textF os) tx) := hx2
  have hx3' : yvs[((k : Nat) : Int).toNat]? = some (.int (tipD ws q os) ty) := hx3
  have htr := hor4 _ htm
  obtain ⟨hMk, hm3, hm9⟩ := mark_ok mk hmk
  have hol := row_ne N (.tail _ (.tail _ (.tail _ (.tail _ (.tail _ (.tail _ (.tail _ (.tail _ hla)))))))) (.tail _ (.tail _ (.tail _ (.tail _ (.tail _ (.tail _ (.tail _ (.tail _ mw)))))))) hIa hI hoo hw
  have ntp : YNe tb pl := fun e => nd_tl (i := 1) D1 rfl mtb e.symm
  have ndp : YNe dx pl := fun e => nd_tl (i := 1) D1 rfl mdx e.symm
  have htl9 : ∀ p ∈ TL, @Ne Nat p.1 pl := fun p hp e => nd_tl (i := 1) (b := p.1) (o := p.2) D1 rfl hp e.symm
  have hA9 : AllNe2 [200, 207, la, wl] := ⟨⟨(show (200 : Nat) ≠ 207 by decide), (nd_tl (i := 6) D1 rfl hla), (nd_tl (i := 6) D1 rfl mw), trivial⟩, ⟨(nd_tl (i := 7) D1 rfl hla), (nd_tl (i := 7) D1 rfl mw), trivial⟩, ⟨hol, trivial⟩, trivial, trivial⟩
  have hpg := page_room hMk hm3 hw4 hw hor ho4 (wd := wd)
  have hpl := page_len hMk hm3 hw4 hw hor ho4 (wd := wd)
  obtain ⟨hwd1, hwd2⟩ := wd_rng hwd hq.1 hq.2 hws.2
  have hmk4 : mk.length ≤ 4 := Nat.le_trans hm3 (Nat.le_of_ble_eq_true rfl)
  have hsp : (Txt.split (pageF ws wd mk os) mk).length ≤ 90 := by
    rw [page_back hMk hw4 hw hor]
    have := rows_count (ws := ws) (wd := wd) (os := os)
    simp only [List.length_cons, List.length_append, List.length_map, List.length_nil]
    omega
  obtain ⟨z2, hz2, hz3⟩ := page_great hMk hw4 hw hor (wd := wd) hwd (by omega) htip (by omega)
  have hlt2 : 2 < (Txt.split (pageF ws wd mk os) mk).length := by
    obtain ⟨hh, _⟩ := List.getElem?_eq_some_iff.mp hz2
    exact hh
  have hzl : z2.length ≤ sizeLine := by
    have := split_len hMk hw4 hw hor ho4 z2 (List.mem_of_getElem? hz2)
    rw [line_is]
    omega
  k_steps
  all_goals first | exact ("" : Str) | exact (0 : Nat) | exact Value.none | skip
  (rename News _ _ _ _ => N5); (rename StrsAre _ (Txt.split _ _) => hSp)
  (try dsimp only)
  have hl9 : (Txt.split (pageF ws wd mk os) mk ++ [("" : Str), ""]).length = (Txt.split (pageF ws wd mk os) mk).length + 2 := List.length_append ..
  refine YStop.to (item_strsB (ws := Txt.split (pageF ws wd mk os) mk ++ [("" : Str), ""]) N5 (.head _) (by rw [Array.toList_append]; exact strs_app hSp (.cons _ _ (.cons _ _ .nil))) (by decide) (by rw [hl9]; omega) (by rw [hl9]; omega) (fun t7 => ?_) rfl)
  have hz4 : (Txt.split (pageF ws wd mk os) mk ++ [("" : Str), ""]).getD (Int.toNat 2) "" = z2 := by
    rw [List.getD_eq_getElem?_getD]
    show ((Txt.split (pageF ws wd mk os) mk ++ [("" : Str), ""])[2]?).getD ("" : Str) = z2
    rw [List.getElem?_append_left hlt2, hz2]
    rfl
  rw [hz4]
  k_steps
  all_goals first | exact ("" : Str) | exact (0 : Nat) | exact Value.none | skip
  (rename Fr _ _ _ _ => F6); (rename News _ _ _ _ => N6)
  refine YStop.to (slice_strN_ns F6 N6 (fun h7 t8 k7 F7 N7 => ?_) (by exact rfl) (fun _ => rfl) hzl)
  rw [slice_one hz3 rfl]
  clear F6 N6
  (try dsimp only)
  k_steps
  all_goals first | exact ("" : Str) | exact (0 : Nat) | exact Value.none | skip
  (rename Fr _ _ _ _ => F8); (rename News _ _ _ _ => N8)
  have hg0 : (ordsF 4).getD k [] = os := by rw [List.getD_eq_getElem?_getD, hos]; rfl
  have hn0 : (hdrF ws q k).1 = Txt.item (if k % 2 = 1 then "abcd" else "ABCD") (tipD ws q os) := by unfold hdrF; rw [hg0]
  have hkm : ((k : Nat) : Int).fmod 2 = ((k % 2 : Nat) : Int) := mod2 k
  have hnN : noHit codeN (hdrF ws q k).1 = true := by
    rw [hn0]
    refine name_ok htr _ ?_
    split
    · exact .head _
    · exact .tail _ (.head _)
  have hnz : (hdrF ws q k).1.cps.size ≤ 1000 := by rw [hn0]; exact (by decide : 1 ≤ 1000)
  obtain ⟨htV, htz⟩ := text_ok os hoo
  refine YStop.to (y_meet (P := fun v => ∃ t8, v = .str (hdrF ws q k).1 t8) ?ife (fun v8 tk8 hv8 => ?_))
  case ife =>
    refine IfExp_ ?_
    k_steps
    all_goals first | exact ("" : Str) | exact (0 : Nat) | exact Value.none | skip
    · rename_i hodd
      have h8 : Txt.lower (Txt.item "ABCD" (tipD ws q os)) = (hdrF ws q k).1 := by rw [hn0, low_item htr, if_pos (by first | exact mod2_ne hodd | omega)]
      exact YStop.to ⟨⟨_, congrArg (fun z => Value.str z _) h8⟩, _, rfl⟩
    · rename_i hodd
      have h8 : Txt.item "ABCD" (tipD ws q os) = (hdrF ws q k).1 := by rw [hn0, if_neg (by first | exact mod2_eq hodd | exact mod2_eq (Decidable.not_not.mp hodd) | omega)]
      exact YStop.to ⟨⟨_, congrArg (fun z => Value.str z _) h8⟩, _, rfl⟩
  obtain ⟨t8, rfl⟩ := hv8
  k_steps
  all_goals first | exact ("" : Str) | exact (0 : Nat) | exact Value.none | skip
  (rename Fr _ _ _ _ => F9); (rename News _ _ _ _ => N9); (rename StrsAre _ (rowsF _ _ _) => hRs)
  refine YStop.to (LCg.ListComp_U F9 (by with_unfolding_all rfl) (by decide) rfl (by decide) rfl ?_ (fun _ => rfl))
  k_steps
  all_goals first | exact ("" : Str) | exact (0 : Nat) | exact Value.none | skip
  (rename Fr _ _ _ _ => F10); (rename News _ _ _ _ => N10)
  have hrz := strs_sz hRs
  have hrc := rows_count (ws := ws) (wd := wd) (os := os)
  refine YStop.to (LCg.CompSrc.ledger rfl F10 N10 (.head _) (by rw [line_is]; omega) fun g' => ?_)
  refine rest_rel (rowsF ws wd os) (fun x v => ∃ t, v = .str x t) rowG (fun b y => ∃ t, y = .str b t) StrsAre strs_snoc' (.head _) (strs_hat hRs) hrz ?helt ?hfin _ 0 [] (Nat.zero_add _) .nil
  case helt =>
    rintro C oC m₂ s₂ N19 E' r v Q9 hxs ⟨tr, rfl⟩ hC hv F19 N11 hCm hsub hoff hQ
    have hr1 := rowsF_len hw hw4 hor wd r hxs
    have hr0 := rows_all hw4 hw hor r hxs
    have hr2 : 0 < r.length := by omega
    (try clear N10); (try clear F10)
    k_steps
    all_goals first | exact ("" : Str) | exact (0 : Nat) | exact Value.none | skip
    (rename Fr _ _ _ _ => F20); (rename News _ _ _ _ => N20)
    exact hQ _ _ _ ⟨_, rfl⟩ F20 N20
  case hfin =>
    intro ys hys D8 h8 tk8 F18 N18 off8
    have hjw := (rows_G (wd := wd) hw4 hw hor ho4).1
    have hpw : pageF ws wd mk os = mk ++ Txt.join mk ((rowsF ws wd os).map rowG) ++ mk := page_whole hMk hw4 hw hor (wd := wd)
    have hjl : mk.length + (Txt.join mk ((rowsF ws wd os).map rowG)).length + mk.length ≤ 200 := by
      have := hpl
      rw [hpw, str_len_append, str_len_append] at this
      exact this
    (try clear N10); (try clear F10)
    (try dsimp only)
    k_steps
    all_goals first | exact ("" : Str) | exact (0 : Nat) | exact Value.none | skip
    have hn2 : (hdrF ws q k).2 = textF os := by unfold hdrF; rw [hg0]
    rw [hn2] at hret
    (rename NdT _ _ => Dz)
    exact hret _ _ ps9' qs9' _ _ _ _ _ F18 (News.rot (n1 := [_, _, _, _, _, _, _, _, _, _, _, _, _, _]) N18 [6, 7, 8, 9, 10, 11, 12, 13] [2]) (nd_dropK 4 (nd_move 1 Dz)) rfl htp9' htq9' hG9' ho9' n_pairs n_table n_orders n_total n_bits n_width n_mark n_voter
end
section -- JS4b
theorem zsJS4b : True := by
  w_top off
  k_with_none
  k_with "execs cons" => (refine y_consS ?_; intro sk9 qk9)
  k_with "exec For Name Call cons nil" => (k_here; (with_reducible show wpAny _ _ (exec (Stmt.For _ _ _ _ _) _) _ _ _); refine YStop.of ?_)
  k_with "pyIter ref" => (k_here; (with_reducible show wpAny _ _ (pyIter _) (ForPack _ _ _ _ _ _ _ _) _ _); refine YStop.of ?_)
  trivial
inductive J4 (L : Addr) (o4 o7 : Obj) (TL : List (Addr × Obj)) (q : Int) (os₀ : OsState) (pl tb ol : Addr) (ws : List Int) (b wd v : Nat) (mk : Str) (t2 t3 t4 t5 t6 : Tok) (k : Nat) (g : Array GenState) (os : OsState) : List (Addr × Obj) → (Str → Option Value) → Prop
  | mk (pvs : Array Value) (pn : Nat) (ps' qs' : Array Value) (TL' : List (Addr × Obj)) (m' : Str → Option Value) (D : NdT (pl :: [L + 1 + 1 + 1 + 1, L + 1 + 1 + 1 + 1 + 1 + 1 + 1, 69, 62, 200, 207]) (TL'.map (·.1))) (hsub : ∀ p ∈ TL, p ∈ TL') (hH : HdrAre TL' pvs.toList (("Abcd", "all") :: (List.range k).map (hdrF ws q)))
      (htp : TriplesOk ps'.toList) (htq : TriplesOk qs'.toList) (hG : AllBare g) (ho : os = os₀) (n_pairs : m' "pairs" = some (.ref pl)) (n_table : m' "table" = some (.ref tb)) (n_orders : m' "orders" = some (.ref ol)) (n_total : m' "total" = some (.int ws.sum t2)) (n_bits : m' "bits" = some (.int (b : Int) t3)) (n_width : m' "width" = some (.int (wd : Int) t4)) (n_mark : m' "mark" = some (.str mk t5)) (n_voter : m' "voter" = some (.int (v : Int) t6)) : J4 L o4 o7 TL q os₀ pl tb ol ws b wd v mk t2 t3 t4 t5 t6 k g os ((pl, listOf pvs pn) :: (L + 1 + 1 + 1 + 1, o4) :: (L + 1 + 1 + 1 + 1 + 1 + 1 + 1, o7) :: (69, tabObj #[]) :: (62, tabObj #[]) :: (200, tabObj ps') :: (207, tabObj qs') :: TL') m'
theorem hdrs_succ (ws : List Int) (q : Int) (k : Nat) : (("Abcd" : Str), ("all" : Str)) :: (List.range (k + 1)).map (hdrF ws q) = ((("Abcd" : Str), ("all" : Str)) :: (List.range k).map (hdrF ws q)) ++ [((hdrF ws q k).1, (hdrF ws q k).2)] := by
  rw [List.range_succ, List.map_append]
  rfl
theorem seg4 (w : World) (p : Program) (loose : List Str) (mean : ExcName → Option Value) (mg mb : Str → Option Value)
  (dp un : Nat) (gd : Option (List Code)) (L fa : Addr) (cd : Value) (A₀ : Around) (base h₀ : Heap) (outer : List Env) (m : Str → Option Value) (s : Shared) (Q : Flow → Shared → Prop) (rest : List Stmt)
  (o4 o7 : Obj) (ps qs : Array Value) (TL : List (Addr × Obj)) (pl tb dx t0 ol xl yl : Addr) (rvs xvs yvs : Array Value) (pn rn xn yn : Nat) (p5 p6 : Obj) (hi : Int) (k1 u1 u2 : Tok) (wl : Addr) (wvs : Array Value) (wn : Nat) (ws : List Int) (p2 p3 : Obj) (q b wd v : Nat) (mk : Str) (t1 t2 t3 t4 t5 t6 : Tok)
  (B : Below A₀ base outer h₀) (F : Fr h₀ L s.heap m) (X : (hd.heap_1 w.params).In h₀) (N : News h₀ L s.heap ((pl, listOf #[.ref t0] pn) :: (L + 1 + 1 + 1 + 1, o4) :: (L + 1 + 1 + 1 + 1 + 1 + 1 + 1, o7) :: (69, tabObj #[]) :: (62, tabObj #[]) :: (200, tabObj ps) :: (207, tabObj qs) :: TL)) (T : Top p loose mean mg mb h₀) (hdp : dp + 300 < recursionLimit) (hun : un + 1500 < cLine) (D : NdT (pl :: [L + 1 + 1 + 1 + 1, L + 1 + 1 + 1 + 1 + 1 + 1 + 1, 69, 62, 200, 207]) (TL.map (·.1)))
  (htp : TriplesOk ps.toList) (htq : TriplesOk qs.toList) (hG0 : AllBare s.gens)
  (mol : (ol, listOf rvs rn) ∈ TL) (mxl : (xl, listOf xvs xn) ∈ TL) (myl : (yl, listOf yvs yn) ∈ TL) (m5 : (L + 1 + 1 + 1 + 1 + 1, p5) ∈ TL) (m6 : (L + 1 + 1 + 1 + 1 + 1 + 1, p6) ∈ TL) (e5 : p5.data = .cell (some (.ref xl))) (e6 : p6.data = .cell (some (.ref yl)))
  (hO : OrdAre TL rvs.toList (ordsF 4)) (hS : StrsAre xvs.toList ((ordsF 4).map textF)) (hY : IntsAre yvs.toList ((ordsF 4).map (tipD ws q)))
  (mtb : (tb, instObj 386 dx) ∈ TL) (mdx : (dx, dictOf [⟨hi, .str "_headers" k1, .ref pl⟩] 1) ∈ TL) (mt0 : (t0, tupObj #[.str "Abcd" u1, .str "all" u2]) ∈ TL) (ntd : YNe tb dx)
  (hwd : (wd : Int) = 2 * q ∨ (wd : Int) = 2 * q - 1) (hmk : mk ∈ [("|" : Str), "\n", "--", " / "]) (mw : (wl, listOf wvs wn) ∈ TL) (m2 : (L + 1 + 1, p2) ∈ TL) (m3 : (L + 1 + 1 + 1, p3) ∈ TL) (e2 : p2.data = .cell (some (.ref wl))) (e3 : p3.data = .cell (some (.int (q : Int) t1))) (hI : IntsAre wvs.toList ws) (hw4 : ws.length = 4) (hw : ∀ x ∈ ws, 1 ≤ x ∧ x ≤ 4) (hws : 4 ≤ ws.sum ∧ ws.sum ≤ 16) (hq : 1 ≤ q ∧ (q : Int) ≤ ws.sum) (n_pairs : m "pairs" = some (.ref pl)) (n_table : m "table" = some (.ref tb)) (n_orders : m "orders" = some (.ref ol)) (n_total : m "total" = some (.int ws.sum t2)) (n_bits : m "bits" = some (.int (b : Int) t3)) (n_width : m "width" = some (.int (wd : Int) t4)) (n_mark : m "mark" = some (.str mk t5)) (n_voter : m "voter" = some (.int (v : Int) t6))
  (hret : ∀ (s' : Shared) (m' : Str → Option Value) (TL' : List (Addr × Obj)) (pvs : Array Value) (pn : Nat) (ps' qs' : Array Value),
    Fr h₀ L s'.heap m' → News h₀ L s'.heap ((pl, listOf pvs pn) :: (L + 1 + 1 + 1 + 1, o4) :: (L + 1 + 1 + 1 + 1 + 1 + 1 + 1, o7) :: (69, tabObj #[]) :: (62, tabObj #[]) :: (200, tabObj ps') :: (207, tabObj qs') :: TL') → NdT (pl :: [L + 1 + 1 + 1 + 1, L + 1 + 1 + 1 + 1 + 1 + 1 + 1, 69, 62, 200, 207]) (TL'.map (·.1)) → (∀ p ∈ TL, p ∈ TL') → HdrAre TL' pvs.toList (("Abcd", "all") :: (List.range 12).map (hdrF ws q)) →
    TriplesOk ps'.toList → TriplesOk qs'.toList → AllBare s'.gens → s'.os = s.os → m' "pairs" = some (.ref pl) → m' "table" = some (.ref tb) → m' "orders" = some (.ref ol) → m' "total" = some (.int ws.sum t2) → m' "bits" = some (.int (b : Int) t3) → m' "width" = some (.int (wd : Int) t4) → m' "mark" = some (.str mk t5) → m' "voter" = some (.int (v : Int) t6) →
    wpAny (model PySem.Challenge.rw_yj0031_01.row.prog w) (({ depth := dp, frames := some outer, guards := gd, units := un } : Around).deeper (envOfC "law" lawScope L fa cd)) (execs rest (envOfC "law" lawScope L fa cd)) Q (fun _ _ => False) s') :
  wpAny (model PySem.Challenge.rw_yj0031_01.row.prog w) (({ depth := dp, frames := some outer, guards := gd, units := un } : Around).deeper (envOfC "law" lawScope L fa cd)) (execs ((lawBody.drop 11).take 1 ++ rest) (envOfC "law" lawScope L fa cd)) Q (fun _ _ => False) s := by
  have eb : (lawBody.drop 11).take 1 = [?s0] := by exact rfl
  have es : lawScope = ⟨?sk, ?sn, ?sg, ?sc, ?sm⟩ := by exact rfl
  rw [eb]
  rw [es] at hret ⊢
  clear eb
  simp only [List.cons_append, List.nil_append]
  revert X; k_fill; intro X
  have hb := @body4
  rw [es] at hb
  clear es
  k_steps
  all_goals first | exact ("" : Str) | exact (0 : Nat) | exact Value.none | skip
  refine y_for ?_ (fun _ => rfl)
  k_steps
  all_goals first | exact ("" : Str) | exact (0 : Nat) | exact Value.none | skip
  (rename IsRange _ _ _ _ _ _ _ _ => R5); (rename Fr _ _ _ _ => F5); (rename News _ _ _ _ => N5); (rename NdT _ _ => D5)
  refine YStop.to (y_upL (N := 12) (J4 L o4 o7 TL q s.os pl tb ol ws b wd v mk t2 t3 t4 t5 t6) rfl (by decide) rfl R5 F5 N5 ?hJ0 ?step ?done)
  case hJ0 => exact .mk _ _ _ _ _ _ D5 (fun _ h => h) (.cons mt0 .nil) htp htq hG0 rfl n_pairs n_table n_orders n_total n_bits n_width n_mark n_voter
  case step =>
    intro I oI k s' led' m' tk hap hk hj F8 N8
    obtain ⟨pvs8, pn8, ps8, qs8, TL8, _, D8, hs8, hH8, htp8, htq8, hG8, ho8, i1, i2, i3, i4, i5, i6, i7, i8⟩ := hj
    clear F5 N5 D5 R5
    k_with "execs cons" => (k_here; refine YStop.of ?_)
    k_steps
    all_goals first | exact ("" : Str) | exact (0 : Nat) | exact Value.none | skip
    (rename Fr _ _ _ _ => F9); (rename News _ _ _ _ => N9)
    refine YStop.to (hb _ _ _ _ _ _ _ _ _ _ _ _ _ _ _ _ _ _ _ _ _ _ _ _ _ _ _ _ _ _ _ _ _ _ _ _ _ _ _ _ _ _ _ _ _ _ _ _ _ _ _ _ _ _ _ _ _ _ _ _ _ _ _ _ B F9 X N9 T hdp hun D8 hap hk htp8 htq8 hG8 (hs8 _ mol) (hs8 _ mxl) (hs8 _ myl) (hs8 _ m5) (hs8 _ m6) e5 e6 (hO.mono hs8) hS hY (hs8 _ mtb) (hs8 _ mdx) ntd hH8 ?hhs hwd hmk (hs8 _ mw) (hs8 _ m2) (hs8 _ m3) e2 e3 hI hw4 hw hws hq rfl i1 i2 i3 i4 i5 i6 i7 i8 ?hret)
    case hhs =>
      simp only [List.length_cons, List.length_map, List.length_range]
      omega
    case hret =>
      intro s9 m9 ps9 qs9 pvs9 pn9 ta ua va F10 N10 D10 e10 htp9 htq9 hG9 ho9 j1 j2 j3 j4 j5 j6 j7 j8
      subst e10
      refine YStop.to (.mk _ m9 F10 N10 (nd_off D10 rfl) (.mk _ _ _ _ _ _ (nd_drop D10) (fun p hp => .tail _ (hs8 p hp)) ?hh htp9 htq9 hG9 (ho9.trans ho8) j1 j2 j3 j4 j5 j6 j7 j8))
      rw [hdrs_succ, Array.toList_push]
      exact (hH8.mono fun p hp => .tail _ hp).snoc (.head _)
  case done =>
    intro s' led' m' hj F8 N8
    obtain ⟨pvs8, pn8, ps8, qs8, TL8, _, D8, hs8, hH8, htp8, htq8, hG8, ho8, i1, i2, i3, i4, i5, i6, i7, i8⟩ := hj
    clear F5 N5 D5 R5
    k_steps
    all_goals first | exact ("" : Str) | exact (0 : Nat) | exact Value.none | skip
    trace_state
    exact hret _ _ _ _ _ _ _ F8 N8 D8 hs8 hH8 htp8 htq8 hG8 ho8 i1 i2 i3 i4 i5 i6 i7 i8
end
section -- JEq
open PySem.SeqAt
section
variable {prog : Program} {w : World} {A : Around} {E : Value → Shared → Prop} {s : Shared} {h₀ : Heap} {L l b : Addr} {xs ys : Array Value} {n k : Nat} {news : List (Addr × Obj)} {Q : Value → Shared → Prop}
theorem ne_same (N : News h₀ L s.heap news) (hl : (l, listOf xs n) ∈ news) (hb : (b, listOf ys k) ∈ news) (hsz : xs.size = ys.size) (hu : A.units < cLine) (he : ∀ j (h1 : j < xs.size) (h2 : j < ys.size), EqAt A.in1 s xs[j] ys[j] true) (h : Q (.bool false) s) :
    wpAny (model prog w) A (compareOp .NotEq (.ref l) (.ref b)) Q E s := by
  refine RcNeAt.lists (e := fun _ => true) ⟨_, (N _ hl).1, rfl, n, rfl⟩ ⟨_, (N _ hb).1, rfl, k, rfl⟩ hsz hu he _ _ _ _ ?_
  have : (List.range xs.size).all (fun _ => true) = true := by simp
  rw [this]
  exact h
theorem eqAt_str {A : Around} {s : Shared} {x : Str} {t u : Tok} : EqAt A s (.str x t) (.str x u) true := by
  have := EqAt.str_str (A := A) (s := s) x t x u
  rwa [beq_self_eq_true] at this
theorem strs_nth {vs : List Value} {ws : List Str} (j : Nat) (h : j < vs.length) (k : StrsAre vs ws) : ∃ x t, vs[j] = .str x t ∧ ws[j]? = some x := by
  induction k generalizing j with
  | nil => exact absurd h (Nat.not_lt_zero _)
  | cons x t _ ih => exact match j with
    | 0 => ⟨x, t, rfl, rfl⟩
    | j + 1 => ih j (Nat.lt_of_succ_lt_succ h)
theorem ne_strs {ws : List Str} (N : News h₀ L s.heap news) (hl : (l, listOf xs n) ∈ news) (hb : (b, listOf ys k) ∈ news) (h1 : StrsAre xs.toList ws) (h2 : StrsAre ys.toList ws) (hu : A.units < cLine) (h : Q (.bool false) s) :
    wpAny (model prog w) A (compareOp .NotEq (.ref l) (.ref b)) Q E s := by
  refine ne_same N hl hb ?_ hu (fun j j1 j2 => ?_) h
  · rw [← strs_sz h1, ← strs_sz h2]
  · obtain ⟨x, t, e1, e2⟩ := strs_nth j (by rw [Array.length_toList]; exact j1) h1
    obtain ⟨y, u, e3, e4⟩ := strs_nth j (by rw [Array.length_toList]; exact j2) h2
    rw [Array.getElem_toList] at e1 e3
    rw [e2] at e4
    cases e4
    rw [e1, e3]
    exact eqAt_str
theorem ints_nth {vs : List Value} {ws : List Int} (j : Nat) (h : j < vs.length) (k : IntsAre vs ws) : ∃ x t, vs[j] = .int x t ∧ ws[j]? = some x := by
  induction k generalizing j with
  | nil => exact absurd h (Nat.not_lt_zero _)
  | cons x t _ ih => exact match j with
    | 0 => ⟨x, t, rfl, rfl⟩
    | j + 1 => ih j (Nat.lt_of_succ_lt_succ h)
theorem ne_ints {ws : List Int} (N : News h₀ L s.heap news) (hl : (l, listOf xs n) ∈ news) (hb : (b, listOf ys k) ∈ news) (h1 : IntsAre xs.toList ws) (h2 : IntsAre ys.toList ws) (hu : A.units < cLine) (h : Q (.bool false) s) :
    wpAny (model prog w) A (compareOp .NotEq (.ref l) (.ref b)) Q E s := by
  refine ne_same N hl hb ?_ hu (fun j j1 j2 => ?_) h
  · rw [← ints_len h1, ← ints_len h2]
  · obtain ⟨x, t, e1, e2⟩ := ints_nth j (by rw [Array.length_toList]; exact j1) h1
    obtain ⟨y, u, e3, e4⟩ := ints_nth j (by rw [Array.length_toList]; exact j2) h2
    rw [Array.getElem_toList] at e1 e3
    rw [e2] at e4
    cases e4
    rw [e1, e3]
    have := EqAt.int_int (A := A.in1) (s := s) x t x u
    rwa [beq_self_eq_true] at this
theorem HdrAre.nth {tl : List (Addr × Obj)} {vs : List Value} {hs : List (Str × Str)} (j : Nat) (h : j < vs.length) (q : HdrAre tl vs hs) : ∃ a k u v w, vs[j] = .ref a ∧ (a, tupObj #[.str k u, .str v w]) ∈ tl ∧ hs[j]? = some (k, v) := by
  induction q generalizing j with
  | nil => exact absurd h (Nat.not_lt_zero _)
  | cons hm _ ih => exact match j with
    | 0 => ⟨_, _, _, _, _, rfl, hm, rfl⟩
    | j + 1 => ih j (Nat.lt_of_succ_lt_succ h)
theorem ne_hdrs {hs : List (Str × Str)} {tl : List (Addr × Obj)} (N : News h₀ L s.heap news) (hl : (l, listOf xs n) ∈ news) (hb : (b, listOf ys k) ∈ news) (ht : ∀ p ∈ tl, p ∈ news) (h1 : HdrAre tl xs.toList hs) (h2 : HdrAre tl ys.toList hs) (hu : A.units + 1 < cLine) (h : Q (.bool false) s) :
    wpAny (model prog w) A (compareOp .NotEq (.ref l) (.ref b)) Q E s := by
  have sx : xs.size = hs.length := by rw [← Array.length_toList]; exact h1.len
  have sy : ys.size = hs.length := by rw [← Array.length_toList]; exact h2.len
  refine ne_same N hl hb (sx.trans sy.symm) (by omega) (fun j j1 j2 => ?_) h
  obtain ⟨a, k1, u1, v1, w1, e1, m1, r1⟩ := h1.nth j (by rw [Array.length_toList]; exact j1)
  obtain ⟨c, k2, u2, v2, w2, e2, m2, r2⟩ := h2.nth j (by rw [Array.length_toList]; exact j2)
  rw [Array.getElem_toList] at e1 e2
  rw [r1] at r2
  cases r2
  rw [e1, e2]
  by_cases hac : a = c
  · rw [hac]; exact EqAt.same _
  · refine EqAt.of_refs hac ?_
    exact RcAt.tuples (e := fun _ => true) ⟨_, (N _ (ht _ m1)).1, rfl, _, rfl⟩ ⟨_, (N _ (ht _ m2)).1, rfl, _, rfl⟩ (by rw [units_in1]; exact hu) (fun i i1 i2 => by
      cases i with
      | zero => exact eqAt_str
      | succ i => cases i with
        | zero => exact eqAt_str
        | succ i => exact absurd i1 (Nat.not_lt.mpr (Nat.le_add_left 2 i)))
open LCg
variable {m : Str → Option Value} {env : Env}
theorem rest_rng {β : Type} {elt : PySem.Expr} {x : Str} {scope : Scope} {cl : List (Str × Addr)} {a : Int} {n : Nat} {news : List (Addr × Obj)} {Fin : List Value → List (Addr × Obj) → Prop}
    (f : Nat → β) (R : β → Value → Prop) (All : List Value → List β → Prop) (hsn : ∀ {ys : List Value} {bs : List β} {y : Value} {b : β}, All ys bs → R b y → All (ys ++ [y]) (bs ++ [b]))
    (helt : ∀ C oC m₂ s₂ N9 E' k t Q, k < n → NsObj oC m₂ → m₂ x = some (.int (a + (k : Int)) t) → Fr h₀ L s₂.heap m → News h₀ L s₂.heap N9 → (C, oC) ∈ N9 → (∀ q ∈ news, q ∈ N9) → (∀ q ∈ news, @Ne Nat q.1 C) →
      (∀ y h' tk, R (f k) y → Fr h₀ L h' m → News h₀ L h' N9 → Q y { s₂ with heap := h', toks := tk }) → wpAny (model prog w) A (eval elt (compEnvC scope cl C env)) Q E' s₂)
    (hfin : ∀ ys, All ys ((List.range n).map f) → Fin ys news) :
    ∀ (j i : Nat) (ys : List Value), i + j = n → All ys ((List.range i).map f) → CompRest prog w A h₀ L m env elt x scope cl s (fun _ => True) (fun i v => ∃ t, v = .int (a + (i : Int)) t) Fin j i ys news
  | 0, i, ys, hi, hy => by
    refine CompRest.zero (hfin ys ?_)
    rw [← hi, Nat.add_zero]; exact hy
  | j + 1, i, ys, hi, hy => by
    refine CompRest.succ fun v I oI C oC D m₂ h tk E' hv hC h1 F N off ne => ?_
    obtain ⟨t, rfl⟩ := hv
    refine helt C oC m₂ _ _ E' i t _ (by omega) hC h1 F N (.tail _ (.head _)) (fun q hq => .tail _ (.tail _ (.tail _ hq))) ?hoff fun y h' tk' hr F' N' => ?_
    case hoff => exact fun q hq => (Off3.mem off q hq).2.1
    refine CompEnd.intro F' N' news (fun p hp => hp) off trivial ?_
    refine rest_rng f R All hsn helt hfin j (i + 1) _ (by omega) ?_
    rw [List.range_succ, List.map_append]
    exact hsn hy hr
theorem rest_made {elt : PySem.Expr} {x : Str} {scope : Scope} {cl : List (Str × Addr)} {a : Int} {n : Nat} {news : List (Addr × Obj)} {Fin : List Value → List (Addr × Obj) → Prop} (f : Nat → Str × Str)
    (helt : ∀ C oC m₂ s₂ N9 E' k t Q, k < n → NsObj oC m₂ → m₂ x = some (.int (a + (k : Int)) t) → Fr h₀ L s₂.heap m → News h₀ L s₂.heap N9 → (C, oC) ∈ N9 → (∀ q ∈ news, q ∈ N9) →
      (∀ T u v h' tk, Fr h₀ L h' m → News h₀ L h' ((T, tupObj #[.str (f k).1 u, .str (f k).2 v]) :: N9) → (∀ p ∈ N9, @Ne Nat p.1 T) → Q (.ref T) { s₂ with heap := h', toks := tk }) → wpAny (model prog w) A (eval elt (compEnvC scope cl C env)) Q E' s₂)
    (hfin : ∀ ys tl, HdrAre tl ys ((List.range n).map f) → Fin ys (tl ++ news)) :
    ∀ (j i : Nat) (ys : List Value) (tl : List (Addr × Obj)), i + j = n → HdrAre tl ys ((List.range i).map f) → CompRest prog w A h₀ L m env elt x scope cl s (fun _ => True) (fun i v => ∃ t, v = .int (a + (i : Int)) t) Fin j i ys (tl ++ news)
  | 0, i, ys, tl, hi, hy => by
    refine CompRest.zero (hfin ys tl ?_)
    rw [← hi, Nat.add_zero]; exact hy
  | j + 1, i, ys, tl, hi, hy => by
    refine CompRest.succ fun v I oI C oC D m₂ h tk E' hv hC h1 F N off ne => ?_
    obtain ⟨t, rfl⟩ := hv
    refine helt C oC m₂ _ _ E' i t _ (by omega) hC h1 F N (.tail _ (.head _)) (fun q hq => .tail _ (.tail _ (.tail _ (List.mem_append_right _ hq)))) fun T u v h' tk' F' N' ap => ?_
    refine CompEnd.intro F' N' ((T, tupObj #[.str (f i).1 u, .str (f i).2 v]) :: (tl ++ news)) (fun p hp => ?_) ?_ trivial ?_
    · rcases List.mem_cons.mp hp with rfl | hp
      · exact .tail _ (.head _)
      · rcases List.mem_cons.mp hp with rfl | hp
        · exact .tail _ (.tail _ (.head _))
        · rcases List.mem_cons.mp hp with rfl | hp
          · exact .tail _ (.tail _ (.tail _ (.head _)))
          · rcases List.mem_cons.mp hp with rfl | hp
            · exact .head _
            · exact .tail _ (.tail _ (.tail _ (.tail _ hp)))
    · exact ⟨⟨(ap _ (.head _)).symm, (ap _ (.tail _ (.head _))).symm, (ap _ (.tail _ (.tail _ (.head _)))).symm⟩, off⟩
    · have ih := rest_made f helt hfin j (i + 1) (ys ++ [.ref T]) ((T, tupObj #[.str (f i).1 u, .str (f i).2 v]) :: tl) (by omega) (by
        rw [List.range_succ, List.map_append]
        exact (hy.mono fun p hp => .tail _ hp).snoc (.head _))
      exact ih
end
end
section -- JDue
section
variable {prog : Program} {w : World} {A : Around} {E : Value → Shared → Prop} {s : Shared} {h₀ : Heap} {L : Addr} {m : Str → Option Value} {env : Env}
open LCg LCt
theorem rest_rngT {ct elt : PySem.Expr} {x : Str} {scope : Scope} {cl : List (Str × Addr)} {a : Int} {n : Nat} {news : List (Addr × Obj)} {Fin : List Value → List (Addr × Obj) → Prop} (pp : Nat → Bool) (f : Nat → Str)
    (htest : ∀ C oC m₂ s₂ N9 E' k t Q, k < n → NsObj oC m₂ → m₂ x = some (.int (a + (k : Int)) t) → Fr h₀ L s₂.heap m → News h₀ L s₂.heap N9 → (C, oC) ∈ N9 → (∀ q ∈ news, q ∈ N9) → (∀ tk, Q (pp k) { s₂ with toks := tk }) → wpAny (model prog w) A (isTrue ct (compEnvC scope cl C env) (eval ct (compEnvC scope cl C env))) Q E' s₂)
    (helt : ∀ C oC m₂ s₂ N9 E' k t Q, k < n → NsObj oC m₂ → m₂ x = some (.int (a + (k : Int)) t) → Fr h₀ L s₂.heap m → News h₀ L s₂.heap N9 → (C, oC) ∈ N9 → (∀ q ∈ news, q ∈ N9) → (∀ t tk, Q (.str (f k) t) { s₂ with toks := tk }) → wpAny (model prog w) A (eval elt (compEnvC scope cl C env)) Q E' s₂)
    (hfin : ∀ ys, StrsAre ys (((List.range n).filter pp).map f) → Fin ys news) :
    ∀ (j i : Nat) (ys : List Value), i + j = n → StrsAre ys (((List.range i).filter pp).map f) → CompRestT prog w A h₀ L m env ct elt x scope cl s (fun _ => True) (fun i v => ∃ t, v = .int (a + (i : Int)) t) Fin j i ys news
  | 0, i, ys, hi, hy => by
    refine CompRestT.zero (hfin ys ?_)
    rw [← hi, Nat.add_zero]; exact hy
  | j + 1, i, ys, hi, hy => by
    refine CompRestT.succ fun v I oI C oC D m₂ h tk E' hv hC h1 F N off ne => ?_
    obtain ⟨t, rfl⟩ := hv
    refine htest C oC m₂ _ _ E' i t _ (by omega) hC h1 F N (.tail _ (.head _)) (fun q hq => .tail _ (.tail _ (.tail _ hq))) fun tk1 => ?_
    have hstep := rest_rngT pp f htest helt hfin j (i + 1)
    cases hp : pp i with
    | true =>
      rw [if_pos rfl]
      refine helt C oC m₂ _ _ E' i t _ (by omega) hC h1 F N (.tail _ (.head _)) (fun q hq => .tail _ (.tail _ (.tail _ hq))) fun t tk2 => ?_
      refine CompEnd.intro F N news (fun p hp => hp) off trivial (hstep _ (by omega) ?_)
      rw [List.range_succ, List.filter_append, List.map_append]
      simp only [List.filter_cons, hp, if_true, List.filter_nil]
      exact strs_snoc hy
    | false =>
      rw [if_neg (by decide)]
      refine CompEnd.intro F N news (fun p hp => hp) off trivial (hstep _ (by omega) ?_)
      rw [List.range_succ, List.filter_append]
      simp only [List.filter_cons, hp, Bool.false_eq_true, if_false, List.filter_nil, List.append_nil]
      exact hy
end
noncomputable def dueF (ws : List Int) (q : Int) (k : Int) : List Str := ((List.range 12).filter fun p => tipD ws q ((ordsF 4).getD p []) == k).map fun p => textF ((ordsF 4).getD p [])
theorem low_abcd {t : Int} (h : 0 ≤ t ∧ t < 4) : Txt.lower (Txt.item "abcd" t) = Txt.item "abcd" t := by
  have : t = 0 ∨ t = 1 ∨ t = 2 ∨ t = 3 := lt_4i (by assumption)
  rcases this with rfl | rfl | rfl | rfl <;> decide +kernel
theorem item_inj {t k : Int} (h : 0 ≤ t ∧ t < 4) (hk : 0 ≤ k ∧ k < 4) : (Txt.item "abcd" t == Txt.item "abcd" k) = (t == k) := by
  have h1 : t = 0 ∨ t = 1 ∨ t = 2 ∨ t = 3 := lt_4i (by assumption)
  have h2 : k = 0 ∨ k = 1 ∨ k = 2 ∨ k = 3 := lt_4i (by assumption)
  rcases h1 with rfl | rfl | rfl | rfl <;> rcases h2 with rfl | rfl | rfl | rfl <;> decide +kernel
theorem low_first {k : Int} (hk : 0 ≤ k ∧ k < 4) : (Txt.lower "Abcd" == Txt.item "abcd" k) = false := by
  have h2 : k = 0 ∨ k = 1 ∨ k = 2 ∨ k = 3 := lt_4i (by assumption)
  rcases h2 with rfl | rfl | rfl | rfl <;> decide +kernel
theorem hdr_low {ws : List Int} {q : Int} {p : Nat} (h : 0 ≤ tipD ws q ((ordsF 4).getD p []) ∧ tipD ws q ((ordsF 4).getD p []) < 4) : Txt.lower (hdrF ws q p).1 = Txt.item "abcd" (tipD ws q ((ordsF 4).getD p [])) := by
  unfold hdrF
  (try dsimp only)
  split
  · exact low_abcd h
  · exact low_item h
theorem tip_rng {ws : List Int} (hw4 : ws.length = 4) {q : Int} (hq : 1 ≤ q) (hs : q ≤ ws.sum) {p : Nat} (hp : p < 12) : 0 ≤ tipD ws q ((ordsF 4).getD p []) ∧ tipD ws q ((ordsF 4).getD p []) < 4 := by
  have hl : p < (ordsF 4).length := by rw [ords12]; exact hp
  rw [List.getD_eq_getElem?_getD, List.getElem?_eq_getElem hl]
  have hm := List.getElem_mem hl
  exact (ord_ok _ hm).2.2 _ (tip_ok hw4 hq hs _ hm).2
theorem due_eq {ws : List Int} (hw4 : ws.length = 4) {q : Int} (hq : 1 ≤ q) (hs : q ≤ ws.sum) {k : Int} (hk : 0 ≤ k ∧ k < 4) :
    ((((("Abcd" : Str), ("all" : Str)) :: (List.range 12).map (hdrF ws q)).filter fun z => Txt.lower z.1 == Txt.lower (Txt.item "ABCD" k)).map (·.2)) = dueF ws q k := by
  rw [low_item hk, List.filter_cons, if_neg (by rw [low_first hk]; decide), List.filter_map, List.map_map]
  unfold dueF
  have : ((List.range 12).filter ((fun z : Str × Str => Txt.lower z.1 == Txt.item "abcd" k) ∘ hdrF ws q)) = (List.range 12).filter fun p => tipD ws q ((ordsF 4).getD p []) == k := by
    refine List.filter_congr fun p hp => ?_
    have h4 := tip_rng hw4 hq hs (List.mem_range.mp hp)
    show (Txt.lower (hdrF ws q p).1 == Txt.item "abcd" k) = _
    rw [hdr_low h4, item_inj h4 hk]
  rw [this]
  rfl
theorem find_first (p : Str × Str → Bool) (df : Str) : ∀ hs : List (Str × Str), ((hs.find? p).map (·.2)).getD df = ((hs.filter p).map (·.2) ++ [df]).getD 0 ""
  | [] => rfl
  | x :: r => by
    rw [List.find?_cons, List.filter_cons]
    cases h : p x with
    | true => rfl
    | false =>
      have := find_first p df r
      simpa using this
theorem due_len (ws : List Int) (q k : Int) : (dueF ws q k).length ≤ 12 := by
  unfold dueF
  rw [List.length_map]
  exact Nat.le_trans (List.length_filter_le _ _) (by simp)
end
section -- JS5
theorem zsJS5 : True := by
  w_top off
  k_with_none
  k_with "nd" => (skip)
  k_with "execs cons" => (refine y_consS ?_; intro sk9 qk9)
  k_with "mem" => first | assumption | exact List.Mem.head _ | (refine' List.Mem.tail _ ?_; k_extra "mem")
  k_with "subscriptTail" => (k_here; (with_reducible show wpAny _ _ (subscriptTail _ _ (Value.str _ _) (Value.int _ _)) _ _ _); k_dflt (refine' KXi.item (n := 4) ?hk ?h0 ?h1 ?hn ?_ ?hs ?ht; (case hk => assumption); (case h0 | h1 => omega); (case hn => decide); (case hs => exact rfl); (case ht => exact fun _ => rfl); k_whole; intro kxi9'))
  k_with "eval ListComp" => (k_here; (with_reducible show wpAny _ _ (eval (PySem.Expr.ListComp _ _ _ _) _) _ _ _); refine YStop.of ?_)
  k_with "exec Assign cons ListComp" => (k_here; (with_reducible show wpAny _ _ (exec (PySem.Stmt.Assign _ _ _) _) _ _ _); refine YStop.of ?_)
  k_with "CompSrc" => (refine YStop.of ?_)
  k_with "eval Name" => (k_here; (first | (with_reducible show wpAny _ _ (eval (.Name (.ofString "script") _) _) _ _ _) | (with_reducible show wpAny _ _ (eval (.Name (.ofString "total") _) _) _ _ _) | (with_reducible show wpAny _ _ (eval (.Name (.ofString "bits") _) _) _ _ _) | (with_reducible show wpAny _ _ (eval (.Name (.ofString "width") _) _) _ _ _) | (with_reducible show wpAny _ _ (eval (.Name (.ofString "mark") _) _) _ _ _) | (with_reducible show wpAny _ _ (eval (.Name (.ofString "voter") _) _) _ _ _) | (with_reducible show wpAny _ _ (eval (.Name (.ofString "orders") _) _) _ _ _) | (with_reducible show wpAny _ _ (eval (.Name (.ofString "pairs") _) _) _ _ _) | (with_reducible show wpAny _ _ (eval (.Name (.ofString "table") _) _) _ _ _) | (with_reducible show wpAny _ _ (eval (.Name (.ofString "place") _) _) _ _ _) | (with_reducible show wpAny _ _ (eval (.Name (.ofString "capped") _) _) _ _ _) | (with_reducible show wpAny _ _ (eval (.Name (.ofString "great") _) _) _ _ _) | (with_reducible show wpAny _ _ (eval (.Name (.ofString "name") _) _) _ _ _) | (with_reducible show wpAny _ _ (eval (.Name (.ofString "rows") _) _) _ _ _) | (with_reducible show wpAny _ _ (eval (.Name (.ofString "due") _) _) _ _ _) | (with_reducible show wpAny _ _ (eval (.Name (.ofString "stride") _) _) _ _ _) | (with_reducible show wpAny _ _ (eval (.Name (.ofString "whole") _) _) _ _ _) | (with_reducible show wpAny _ _ (eval (.Name (.ofString "weight") _) _) _ _ _) | (with_reducible show wpAny _ _ (eval (.Name (.ofString "factor") _) _) _ _ _) | (with_reducible show wpAny _ _ (eval (.Name (.ofString "quotient") _) _) _ _ _) | (with_reducible show wpAny _ _ (eval (.Name (.ofString "rest") _) _) _ _ _) | (with_reducible show wpAny _ _ (eval (.Name (.ofString "figures") _) _) _ _ _)); k_dflt (refine' ld ?k1 ?k2 ?_; (case k1 => k_asm); (case k2 => first | assumption | exact rfl); k_whole))
  k_with "binaryOp Add ref ref" => (k_here; k_dflt (refine' add_list_N ?F ?N ?hl ?hb ?h1 ?h2 ?_; (case F | N => k_asm); (case hl | hb => k_mem); (case h1 | h2 => first | exact Nat.le_of_ble_eq_true rfl | assumption | omega); k_whole; intro h9' l9' F9' N9' lz1; k_lt lz1))
  k_with "subscriptTail" => (k_here; (with_reducible show wpAny _ _ (subscriptTail _ _ (Value.ref _) (Value.int _ _)) _ _ _); k_dflt (refine' itemV ?N ?hm ?h0 ?h1 ?hx ?_ ?hs; (case N => k_asm); (case hm => k_mem); (case hx => assumption); (case h0 | h1 => omega); (case hs => exact rfl); k_whole))
  k_with "eval IfExp" => (k_here; (with_reducible show wpAny _ _ (eval (PySem.Expr.IfExp _ _ _ _) _) _ _ _); refine YStop.of ?_)
  k_with "call ref" => (k_here; k_dflt (refine' keys_L ?B ?F ?X ?N ?T ?hkf ?hdp ?hun ?hm1 ?hm2 ?hm3 ?hsub ?n1 ?n2 ?n3 ?htl ?hH ?hhs ?_; (case B | F | X | N => k_asm); (case T => assumption); (case hkf => exact rfl); (case hdp => ktr_room); (case hun => ktr_units); (case hm1 | hm2 | hm3 => k_mem); (case hH => assumption); (case hsub => intro pz hpz; k_mem); (case n1 | n2 | n3 | htl | hhs => assumption); k_whole; intro lk9' kvs9' kn9' tk9' h9' F9' N9' lz1 hS9'; (try dsimp only at N9'); k_lt lz1))
  k_with "compareOp NotEq ref ref" => (k_here; (with_reducible show wpAny _ _ (compareOp _ _ _) _ _ _); refine YStop.of ?_)
  trivial
theorem hdr_names (ws : List Int) (q : Int) : ((("Abcd" : Str), ("all" : Str)) :: (List.range 12).map (hdrF ws q)).map (·.1) = ("Abcd" : Str) :: (List.range 12).map fun k => (hdrF ws q k).1 := by
  rw [List.map_cons, List.map_map]
  rfl
theorem seg5 (w : World) (p : Program) (loose : List Str) (mean : ExcName → Option Value) (mg mb : Str → Option Value)
  (dp un : Nat) (gd : Option (List Code)) (L fa : Addr) (cd : Value) (A₀ : Around) (base h₀ : Heap) (outer : List Env) (m : Str → Option Value) (s : Shared) (Q : Flow → Shared → Prop) (rest : List Stmt)
  (o4 o7 : Obj) (ps qs : Array Value) (TL : List (Addr × Obj)) (pl tb dx xl yl ol : Addr) (pvs xvs yvs : Array Value) (pn xn yn : Nat) (p5 p6 : Obj) (hi : Int) (k1 : Tok) (q : Nat) (ws : List Int) (b wd v : Nat) (mk : Str) (t2 t3 t4 t5 t6 : Tok)
  (B : Below A₀ base outer h₀) (F : Fr h₀ L s.heap m) (X : (hd.heap_1 w.params).In h₀) (N : News h₀ L s.heap ((pl, listOf pvs pn) :: (L + 1 + 1 + 1 + 1, o4) :: (L + 1 + 1 + 1 + 1 + 1 + 1 + 1, o7) :: (69, tabObj #[]) :: (62, tabObj #[]) :: (200, tabObj ps) :: (207, tabObj qs) :: TL)) (T : Top p loose mean mg mb h₀) (hdp : dp + 300 < recursionLimit) (hun : un + 1500 < cLine) (D : NdT (pl :: [L + 1 + 1 + 1 + 1, L + 1 + 1 + 1 + 1 + 1 + 1 + 1, 69, 62, 200, 207]) (TL.map (·.1)))
  (d7 : o7.data = .cell none) (mxl : (xl, listOf xvs xn) ∈ TL) (myl : (yl, listOf yvs yn) ∈ TL) (m5 : (L + 1 + 1 + 1 + 1 + 1, p5) ∈ TL) (m6 : (L + 1 + 1 + 1 + 1 + 1 + 1, p6) ∈ TL) (e5 : p5.data = .cell (some (.ref xl))) (e6 : p6.data = .cell (some (.ref yl)))
  (hS : StrsAre xvs.toList ((ordsF 4).map textF)) (hY : IntsAre yvs.toList ((ordsF 4).map (tipD ws q))) (hw4 : ws.length = 4) (hq : 1 ≤ q ∧ (q : Int) ≤ ws.sum)
  (mtb : (tb, instObj 386 dx) ∈ TL) (mdx : (dx, dictOf [⟨hi, .str "_headers" k1, .ref pl⟩] 1) ∈ TL) (ntd : YNe tb dx) (hH : HdrAre TL pvs.toList (("Abcd", "all") :: (List.range 12).map (hdrF ws q))) (n_pairs : m "pairs" = some (.ref pl)) (n_table : m "table" = some (.ref tb)) (n_orders : m "orders" = some (.ref ol)) (n_total : m "total" = some (.int ws.sum t2)) (n_bits : m "bits" = some (.int (b : Int) t3)) (n_width : m "width" = some (.int (wd : Int) t4)) (n_mark : m "mark" = some (.str mk t5)) (n_voter : m "voter" = some (.int (v : Int) t6))
  (hret : ∀ (h' : Heap) (tk' : Nat) (m' : Str → Option Value),
    Fr h₀ L h' m' → News h₀ L h' ((pl, listOf pvs pn) :: (L + 1 + 1 + 1 + 1, o4) :: (69, tabObj #[]) :: (62, tabObj #[]) :: (200, tabObj ps) :: (207, tabObj qs) :: TL) → NdT (pl :: [L + 1 + 1 + 1 + 1, 69, 62, 200, 207]) (TL.map (·.1)) → m' "pairs" = some (.ref pl) → m' "table" = some (.ref tb) → m' "orders" = some (.ref ol) → m' "total" = some (.int ws.sum t2) → m' "bits" = some (.int (b : Int) t3) → m' "width" = some (.int (wd : Int) t4) → m' "mark" = some (.str mk t5) → m' "voter" = some (.int (v : Int) t6) →
    wpAny (model PySem.Challenge.rw_yj0031_01.row.prog w) (({ depth := dp, frames := some outer, guards := gd, units := un } : Around).deeper (envOfC "law" lawScope L fa cd)) (execs rest (envOfC "law" lawScope L fa cd)) Q (fun _ _ => False) { s with heap := h', toks := tk' }) :
  wpAny (model PySem.Challenge.rw_yj0031_01.row.prog w) (({ depth := dp, frames := some outer, guards := gd, units := un } : Around).deeper (envOfC "law" lawScope L fa cd)) (execs ((lawBody.drop 12).take 2 ++ rest) (envOfC "law" lawScope L fa cd)) Q (fun _ _ => False) s := by
  have eb : (lawBody.drop 12).take 2 = [?s0, ?s1] := by exact rfl
  have es : lawScope = ⟨?sk, ?sn, ?sg, ?sc, ?sm⟩ := by exact rfl
  rw [eb]
  rw [es] at hret ⊢
  clear eb es
  simp only [List.cons_append, List.nil_append]
  revert X; k_fill; intro X
  have hys : yvs.size = 12 := by
    have := ints_len hY
    rw [List.length_map, ords12] at this
    exact this.symm
  have hat : ∀ k, k < 12 → ∃ os, (ordsF 4)[k]? = some os ∧ (ordsF 4).getD k [] = os ∧ os ∈ ordsF 4 ∧ (0 ≤ tipD ws q os ∧ tipD ws q os < 4) ∧ (∃ ty, yvs[((0 : Int) + (k : Int)).toNat]? = some (.int (tipD ws q os) ty)) ∧ ∃ tx, xvs[((0 : Int) + (k : Int)).toNat]? = some (.str (textF os) tx) := by
    intro k hk
    have hl : k < (ordsF 4).length := by rw [ords12]; exact hk
    have e := List.getElem?_eq_getElem hl
    have hm := List.getElem_mem hl
    generalize (ordsF 4)[k] = os at e hm
    obtain ⟨htip, htm⟩ := tip_ok hw4 (show (1 : Int) ≤ q from Int.ofNat_le.mpr hq.1) hq.2 os hm
    have hk0 : ((0 : Int) + (k : Int)).toNat = k := zero_k k
    rw [hk0]
    refine ⟨os, e, by rw [List.getD_eq_getElem?_getD, e]; rfl, hm, (ord_ok os hm).2.2 _ htm, ?_, ?_⟩
    · obtain ⟨ty, h⟩ := hY.get k (tipD ws q os) (by rw [List.getElem?_map, e]; rfl)
      exact ⟨ty, by rw [← Array.getElem?_toList]; exact h⟩
    · obtain ⟨tx, h⟩ := strs_at k (textF os) hS (by rw [List.getElem?_map, e]; rfl)
      exact ⟨tx, by rw [← Array.getElem?_toList]; exact h⟩
  k_steps
  all_goals first | exact ("" : Str) | exact (0 : Nat) | exact Value.none | skip
  (rename Fr _ _ _ _ => F5); (rename News _ _ _ _ => N5)
  refine YStop.to (wpAny_Assign_Name ?_ (by with_unfolding_all rfl))
  refine LCg.ListComp_U F5 (by with_unfolding_all rfl) (by decide) rfl (by decide) rfl ?_ (fun _ => rfl)
  k_steps
  all_goals first | exact ("" : Str) | exact (0 : Nat) | exact Value.none | skip
  (rename IsRange _ _ _ _ _ _ _ _ => R5); (rename Fr _ _ _ _ => F6); (rename News _ _ _ _ => N6)
  refine YStop.to (LCg.CompSrc.range (n := 12) rfl F6 N6 R5 (by decide +kernel) (by decide +kernel) (by rw [line_is]; omega) fun g' => ?_)
  refine rest_rng (fun k => (hdrF ws q k).1) (fun b y => ∃ t, y = .str b t) StrsAre strs_snoc' ?helt ?hfin 12 0 [] rfl .nil
  case helt =>
    intro C oC m₂ s₂ N9 E' k t Q9 hk hC hv F N hCm hsub hoff hQ
    obtain ⟨os, h1, h2, h3, h4, ⟨ty, h5⟩, _⟩ := hat k hk
    have hm6 : (L + 1 + 1 + 1 + 1 + 1 + 1, p6) ∈ N9 := hsub _ (.tail _ (.tail _ (.tail _ (.tail _ (.tail _ (.tail _ (.tail _ m6)))))))
    have hmy : (yl, listOf yvs yn) ∈ N9 := hsub _ (.tail _ (.tail _ (.tail _ (.tail _ (.tail _ (.tail _ (.tail _ myl)))))))
    (try clear N5); (try clear N6); (try clear F5); (try clear F6)
    k_steps
    all_goals first | exact ("" : Str) | exact (0 : Nat) | exact Value.none | skip
    have hkm : ((0 : Int) + (k : Int)).fmod 2 = ((k % 2 : Nat) : Int) := by rw [Int.zero_add]; exact mod2 k
    refine YStop.to (y_meet (P := fun v => ∃ t8, v = .str (if k % 2 = 1 then ("abcd" : Str) else ("ABCD" : Str)) t8) ?ife (fun v8 tk8 hv8 => ?_))
    case ife =>
      refine IfExp_ ?_
      k_steps
      all_goals first | exact ("" : Str) | exact (0 : Nat) | exact Value.none | skip
      · rename_i hodd
        have h8 : ("abcd" : Str) = (if k % 2 = 1 then ("abcd" : Str) else ("ABCD" : Str)) := (if_pos (by first | exact mod2z hodd | omega)).symm
        exact YStop.to ⟨⟨_, congrArg (fun z => Value.str z _) h8⟩, _, rfl⟩
      · rename_i hodd
        have h8 : ("ABCD" : Str) = (if k % 2 = 1 then ("abcd" : Str) else ("ABCD" : Str)) := (if_neg (by first | exact mod2z_eq hodd | exact mod2z_eq (Decidable.not_not.mp hodd) | omega)).symm
        exact YStop.to ⟨⟨_, congrArg (fun z => Value.str z _) h8⟩, _, rfl⟩
    obtain ⟨t8, rfl⟩ := hv8
    obtain ⟨sx, hsx, hsl⟩ : ∃ sx : Str, sx = (if k % 2 = 1 then ("abcd" : Str) else ("ABCD" : Str)) ∧ sx.length = 4 := ⟨_, rfl, by split <;> rfl⟩
    rw [← hsx]
    k_steps
    all_goals first | exact ("" : Str) | exact (0 : Nat) | exact Value.none | skip
    have h9 : Txt.item sx (tipD ws q os) = (hdrF ws q k).1 := by unfold hdrF; rw [h2, hsx]
    (rename Fr _ _ _ _ => F20); (rename News _ _ _ _ => N20)
    exact hQ _ _ _ ⟨_, congrArg (fun z => Value.str z _) h9⟩ F20 N20
  case hfin =>
    intro nvs hns D7 h8 tk8 F8 N8 off8
    (rename NdT _ _ => Dz)
    replace Dz := nd_ap (off1_all off8) Dz rfl
    clear off8
    (try clear N5); (try clear N6); (try clear F5); (try clear F6)
    have hnl := strs_len hns
    rw [List.length_map, List.length_range] at hnl
    have hnz : nvs.toArray.size ≤ 1000 := by rw [List.size_toArray]; omega
    have ntp : YNe tb pl := fun e => nd_tl (i := 1) Dz rfl mtb e.symm
    have ndp : YNe dx pl := fun e => nd_tl (i := 1) Dz rfl mdx e.symm
    have htl9 : ∀ p ∈ TL, @Ne Nat p.1 pl := fun p hp e => nd_tl (i := 1) (b := p.1) (o := p.2) Dz rfl hp e.symm
    have hhl : ((("Abcd" : Str), ("all" : Str)) :: (List.range 12).map (hdrF ws q)).length ≤ 100 := by simp
    (try dsimp only)
    k_steps
    all_goals first | exact ("" : Str) | exact (0 : Nat) | exact Value.none | skip
    (rename News _ _ _ _ => N30); (rename StrsAre _ (List.map _ (_ :: _)) => hks)
    refine YStop.to (ne_strs (ws := ("Abcd" : Str) :: (List.range 12).map fun k => (hdrF ws q k).1) N30 (.tail _ (.tail _ (.head _))) (.head _) (by rw [← hdr_names]; exact hks) (by rw [Array.toList_append]; exact .cons _ _ hns) (by ktr_units) ?_)
    k_steps
    all_goals first | exact ("" : Str) | exact (0 : Nat) | exact Value.none | skip
    (rename Fr _ _ _ _ => F31); (rename News _ _ _ _ => N31); (rename NdT _ _ => D31); (rename Obj => o7n); (rename o7n.data = _ => d7n)
    refine YStop.to (LCg.ListComp_U F31 (by with_unfolding_all rfl) (by decide) rfl (by decide) rfl ?_ (fun _ => rfl))
    k_steps
    all_goals first | exact ("" : Str) | exact (0 : Nat) | exact Value.none | skip
    (rename IsRange _ _ _ _ _ _ _ _ => R5); (rename Fr _ _ _ _ => F6); (rename News _ _ _ _ => N6)
    refine YStop.to (LCg.CompSrc.range (n := 12) rfl F6 N6 R5 (by decide +kernel) (by decide +kernel) (by rw [line_is]; omega) fun g' => ?_)
    refine rest_made (hdrF ws q) ?helt2 ?hfin2 12 0 [] [] rfl .nil
    case helt2 =>
      intro C oC m₂ s₂ N9 E' k t Q9 hk hC hv F N hCm hsub hQ
      obtain ⟨os, h1, h2, h3, h4, _, ⟨tx, h5⟩⟩ := hat k hk
      obtain ⟨tn, h6⟩ := strs_at k (hdrF ws q k).1 hns (by rw [List.getElem?_map, List.getElem?_range hk]; rfl)
      have h6' : nvs.toArray[((0 : Int) + (k : Int)).toNat]? = some (.str (hdrF ws q k).1 tn) := by
        have hk0 : ((0 : Int) + (k : Int)).toNat = k := zero_k k
        rw [hk0, List.getElem?_toArray]; exact h6
      have h5' : textF os = (hdrF ws q k).2 := by unfold hdrF; rw [h2]
      rw [h5'] at h5
      have hm5 : (L + 1 + 1 + 1 + 1 + 1, p5) ∈ N9 := hsub _ (.tail _ (.tail _ (.tail _ (.tail _ (.tail _ (.tail _ (.tail _ (.tail _ (.tail _ (.tail _ (.tail _ (.tail _ (.tail _ m5)))))))))))))
      have hm7 : (L + 1 + 1 + 1 + 1 + 1 + 1 + 1, o7n) ∈ N9 := hsub _ (by k_mem)
      have hmx : (xl, listOf xvs xn) ∈ N9 := hsub _ (.tail _ (.tail _ (.tail _ (.tail _ (.tail _ (.tail _ (.tail _ (.tail _ (.tail _ (.tail _ (.tail _ (.tail _ (.tail _ mxl)))))))))))))
      have hmn : (D7, listOf nvs.toArray nvs.length) ∈ N9 := hsub _ (by k_mem)
      (try clear N31); (try clear N6); (try clear F31); (try clear F6)
      k_steps
      all_goals first | exact ("" : Str) | exact (0 : Nat) | exact Value.none | skip
      (rename Fr _ _ _ _ => F20); (rename News _ _ _ _ => N20); (rename ∀ _, _ → _ < _ => lt20)
      exact hQ _ _ _ _ _ F20 N20 fun p hp => Nat.ne_of_lt (lt20 p hp)
    case hfin2 =>
      intro ys tl hH2 D8 h48 tk48 F48 N48 off48
      (try clear N31); (try clear N6); (try clear F31); (try clear F6)
      (try dsimp only)
      k_steps
      all_goals first | exact ("" : Str) | exact (0 : Nat) | exact Value.none | skip
      have hyl := hH2.len
      rw [List.length_map, List.length_range] at hyl
      refine add_list_N F48 N48 (.tail _ (List.mem_append_right _ (.head _))) (.head _) (Nat.le_of_ble_eq_true rfl) (by rw [List.size_toArray]; omega) (fun h51 l51 F51 N51 lt51 => ?_)
      clear N48 F48
      k_steps
      all_goals first | exact ("" : Str) | exact (0 : Nat) | exact Value.none | skip
      (rename News _ _ _ _ => N52)
      refine YStop.to (ne_hdrs (hs := (("Abcd" : Str), ("all" : Str)) :: (List.range 12).map (hdrF ws q)) N52 (.tail _ (.tail _ (List.mem_append_right _ (.tail _ (.tail _ (.tail _ (.tail _ (.tail _ (.tail _ (.head _)))))))))) (.head _) (fun _ h => h) (hH.mono fun p hp => .tail _ (.tail _ (List.mem_append_right _ (.tail _ (.tail _ (.tail _ (.tail _ (.tail _ (.tail _ (.tail _ (.tail _ (.tail _ (.tail _ (.tail _ (.tail _ (.tail _ hp))))))))))))))))
        (by rw [Array.toList_append]; exact .cons (.tail _ (.tail _ (List.mem_append_right _ (.tail _ (.head _))))) (hH2.mono fun p hp => .tail _ (.tail _ (List.mem_append_left _ hp)))) (by first | ktr_units | omega) ?_)
      k_steps
      all_goals first | exact ("" : Str) | exact (0 : Nat) | exact Value.none | skip
      (rename Fr _ _ _ _ => F60); (rename News _ _ _ _ => N60)
      trace_state
      exact hret _ _ _ F60 (News.rot (n1 := [_, _, _, _, _, _, _, _, _, _, _, _, _]) (fun p hp => N60 p (.tail _ (.tail _ (List.mem_append_right _ hp)))) [6, 7, 9, 10, 11, 12] []) (nd_del 2 (nd_dropK 6 D31)) n_pairs n_table n_orders n_total n_bits n_width n_mark n_voter
end
section -- JS6
theorem zsJS6 : True := by
  w_top off
  k_with_none
  k_with "nd" => (skip)
  k_with "execs cons" => (refine y_consS ?_; intro sk9 qk9)
  k_with "mem" => first | assumption | exact List.Mem.head _ | (refine' List.Mem.tail _ ?_; k_extra "mem")
  k_with "exec Assign cons ListComp" => (k_here; (with_reducible show wpAny _ _ (exec (PySem.Stmt.Assign _ _ _) _) _ _ _); refine YStop.of ?_)
  k_with "CompSrcT" => (refine YStop.of ?_)
  k_with "eval Name" => (k_here; (first | (with_reducible show wpAny _ _ (eval (.Name (.ofString "script") _) _) _ _ _) | (with_reducible show wpAny _ _ (eval (.Name (.ofString "total") _) _) _ _ _) | (with_reducible show wpAny _ _ (eval (.Name (.ofString "bits") _) _) _ _ _) | (with_reducible show wpAny _ _ (eval (.Name (.ofString "width") _) _) _ _ _) | (with_reducible show wpAny _ _ (eval (.Name (.ofString "mark") _) _) _ _ _) | (with_reducible show wpAny _ _ (eval (.Name (.ofString "voter") _) _) _ _ _) | (with_reducible show wpAny _ _ (eval (.Name (.ofString "orders") _) _) _ _ _) | (with_reducible show wpAny _ _ (eval (.Name (.ofString "pairs") _) _) _ _ _) | (with_reducible show wpAny _ _ (eval (.Name (.ofString "table") _) _) _ _ _) | (with_reducible show wpAny _ _ (eval (.Name (.ofString "place") _) _) _ _ _) | (with_reducible show wpAny _ _ (eval (.Name (.ofString "capped") _) _) _ _ _) | (with_reducible show wpAny _ _ (eval (.Name (.ofString "great") _) _) _ _ _) | (with_reducible show wpAny _ _ (eval (.Name (.ofString "name") _) _) _ _ _) | (with_reducible show wpAny _ _ (eval (.Name (.ofString "rows") _) _) _ _ _) | (with_reducible show wpAny _ _ (eval (.Name (.ofString "due") _) _) _ _ _) | (with_reducible show wpAny _ _ (eval (.Name (.ofString "stride") _) _) _ _ _) | (with_reducible show wpAny _ _ (eval (.Name (.ofString "whole") _) _) _ _ _) | (with_reducible show wpAny _ _ (eval (.Name (.ofString "weight") _) _) _ _ _) | (with_reducible show wpAny _ _ (eval (.Name (.ofString "factor") _) _) _ _ _) | (with_reducible show wpAny _ _ (eval (.Name (.ofString "quotient") _) _) _ _ _) | (with_reducible show wpAny _ _ (eval (.Name (.ofString "rest") _) _) _ _ _) | (with_reducible show wpAny _ _ (eval (.Name (.ofString "figures") _) _) _ _ _)); k_dflt (refine' ld ?k1 ?k2 ?_; (case k1 => k_asm); (case k2 => first | assumption | exact rfl); k_whole))
  k_with "binaryOp Add ref ref" => (k_here; k_dflt (refine' add_list_N ?F ?N ?hl ?hb ?h1 ?h2 ?_; (case F | N => k_asm); (case hl | hb => k_mem); (case h1 | h2 => first | exact Nat.le_of_ble_eq_true rfl | assumption | omega); k_whole; intro h9' l9' F9' N9' lz1; k_lt lz1))
  k_with "subscriptTail" => (k_here; (with_reducible show wpAny _ _ (subscriptTail _ _ (Value.ref _) (Value.int _ _)) _ _ _); k_dflt (refine' itemV ?N ?hm ?h0 ?h1 ?hx ?_ ?hs; (case N => k_asm); (case hm => k_mem); (case hx => assumption); (case h0 | h1 => omega); (case hs => exact rfl); k_whole))
  k_with "call ref" => (k_here; k_dflt (refine' getall_L ?B ?F ?X ?N ?T ?hkf ?hdp ?hun ?hm1 ?hm2 ?hm3 ?hsub ?n1 ?n2 ?n3 ?htl ?hH ?hhs ?hL ?hN ?z1 ?z2 ?hkz ?_; (case B | F | X | N => k_asm); (case T => assumption); (case hkf => exact rfl); (case hdp => ktr_room); (case hun => ktr_units); (case hm1 | hm2 | hm3 => k_mem); (case hH => assumption); (case hL => exact rfl); (case hsub => intro pz hpz; k_mem); (case n1 | n2 | n3 | htl | hhs | hN | z1 | z2 | hkz => assumption); k_whole; intro lg9' gvs9' gn9' tk9' h9' F9' N9' lz1 hS9'; (try dsimp only at N9'); k_lt lz1))
  k_with "call ref" => (k_here; k_dflt (refine' get_L ?B ?F ?X ?N ?T ?hkf ?hdp ?hun ?hm1 ?hm2 ?hm3 ?hsub ?n1 ?n2 ?n3 ?htl ?hH ?hhs ?hL ?hN ?z1 ?z2 ?hkz ?_; (case B | F | X | N => k_asm); (case T => assumption); (case hkf => exact rfl); (case hdp => ktr_room); (case hun => ktr_units); (case hm1 | hm2 | hm3 => k_mem); (case hH => assumption); (case hL => exact rfl); (case hsub => intro pz hpz; k_mem); (case n1 | n2 | n3 | htl | hhs | hN | z1 | z2 | hkz => assumption); k_whole; intro ug9' tk9' h9' F9' N9'; (try dsimp only at N9')))
  k_with "compareOp NotEq ref ref" => (k_here; (with_reducible show wpAny _ _ (compareOp _ _ _) _ _ _); refine YStop.of ?_)
  k_with "compareOp NotEq str str" => (k_here; (with_reducible show wpAny _ _ (compareOp _ _ _) _ _ _); refine YStop.of ?_)
  k_with "subscriptTail" => (k_here; (with_reducible show wpAny _ _ (subscriptTail (PySem.Expr.BinOp _ _ _ _) _ (Value.ref _) (Value.int _ _)) _ _ _); refine YStop.of ?_)
  trivial
theorem body6 (w : World) (p : Program) (loose : List Str) (mean : ExcName → Option Value) (mg mb : Str → Option Value)
  (dp un : Nat) (gd : Option (List Code)) (L fa : Addr) (cd : Value) (A₀ : Around) (base h₀ : Heap) (outer : List Env) (m : Str → Option Value) (s : Shared) (Q : Flow → Shared → Prop)
  (I : Addr) (oI : Obj) (k : Nat) (tk : Tok) (o4 : Obj) (ps qs : Array Value) (TL : List (Addr × Obj)) (pl tb dx xl yl ol : Addr) (pvs xvs yvs : Array Value) (pn xn yn : Nat) (p5 p6 : Obj) (hi : Int) (k1 : Tok) (q : Nat) (ws : List Int) (b wd v : Nat) (mk : Str) (t2 t3 t4 t5 t6 : Tok)
  (B : Below A₀ base outer h₀) (F : Fr h₀ L s.heap m) (X : (hd.heap_1 w.params).In h₀) (N : News h₀ L s.heap ((I, oI) :: (pl, listOf pvs pn) :: (L + 1 + 1 + 1 + 1, o4) :: (69, tabObj #[]) :: (62, tabObj #[]) :: (200, tabObj ps) :: (207, tabObj qs) :: TL)) (T : Top p loose mean mg mb h₀) (hdp : dp + 300 < recursionLimit) (hun : un + 1500 < cLine) (D : NdT (pl :: [L + 1 + 1 + 1 + 1, 69, 62, 200, 207]) (TL.map (·.1)))
  (ap : ∀ p ∈ ((pl, listOf pvs pn) :: (L + 1 + 1 + 1 + 1, o4) :: (69, tabObj #[]) :: (62, tabObj #[]) :: (200, tabObj ps) :: (207, tabObj qs) :: TL), @Ne Nat p.1 I) (hk : k < 4) (d4 : o4.data = .cell (some (.int (k : Int) tk))) (mxl : (xl, listOf xvs xn) ∈ TL) (myl : (yl, listOf yvs yn) ∈ TL) (m5 : (L + 1 + 1 + 1 + 1 + 1, p5) ∈ TL) (m6 : (L + 1 + 1 + 1 + 1 + 1 + 1, p6) ∈ TL) (e5 : p5.data = .cell (some (.ref xl))) (e6 : p6.data = .cell (some (.ref yl)))
  (hS : StrsAre xvs.toList ((ordsF 4).map textF)) (hY : IntsAre yvs.toList ((ordsF 4).map (tipD ws q))) (hw4 : ws.length = 4) (hq : 1 ≤ q ∧ (q : Int) ≤ ws.sum)
  (mtb : (tb, instObj 386 dx) ∈ TL) (mdx : (dx, dictOf [⟨hi, .str "_headers" k1, .ref pl⟩] 1) ∈ TL) (ntd : YNe tb dx) (hH : HdrAre TL pvs.toList (("Abcd", "all") :: (List.range 12).map (hdrF ws q))) (n_pairs : m "pairs" = some (.ref pl)) (n_table : m "table" = some (.ref tb)) (n_orders : m "orders" = some (.ref ol)) (n_total : m "total" = some (.int ws.sum t2)) (n_bits : m "bits" = some (.int (b : Int) t3)) (n_width : m "width" = some (.int (wd : Int) t4)) (n_mark : m "mark" = some (.str mk t5)) (n_voter : m "voter" = some (.int (v : Int) t6))
  (hret : ∀ (h' : Heap) (tk' : Nat) (m' : Str → Option Value), Fr h₀ L h' m' → News h₀ L h' ((I, oI) :: (pl, listOf pvs pn) :: (L + 1 + 1 + 1 + 1, o4) :: (69, tabObj #[]) :: (62, tabObj #[]) :: (200, tabObj ps) :: (207, tabObj qs) :: TL) → m' "pairs" = some (.ref pl) → m' "table" = some (.ref tb) → m' "orders" = some (.ref ol) → m' "total" = some (.int ws.sum t2) → m' "bits" = some (.int (b : Int) t3) → m' "width" = some (.int (wd : Int) t4) → m' "mark" = some (.str mk t5) → m' "voter" = some (.int (v : Int) t6) → Q .next { s with heap := h', toks := tk' }) :
  wpAny (model PySem.Challenge.rw_yj0031_01.row.prog w) (({ depth := dp, frames := some outer, guards := gd, units := un } : Around).deeper (envOfC "law" lawScope L fa cd)) (execs (bodyAt 14) (envOfC "law" lawScope L fa cd)) Q (fun _ _ => False) s := by
  have eb : bodyAt 14 = [?s0, ?s1] := by exact rfl
  have es : lawScope = ⟨?sk, ?sn, ?sg, ?sc, ?sm⟩ := by exact rfl
  rw [eb, es]
  clear eb es
  revert X; k_fill; intro X
  have D1 := nd_ap ap D rfl
  clear D ap
  have hys : yvs.size = 12 := by
    have := ints_len hY
    rw [List.length_map, ords12] at this
    exact this.symm
  have hat : ∀ k, k < 12 → ∃ os, (ordsF 4)[k]? = some os ∧ (ordsF 4).getD k [] = os ∧ os ∈ ordsF 4 ∧ (0 ≤ tipD ws q os ∧ tipD ws q os < 4) ∧ (∃ ty, yvs[((0 : Int) + (k : Int)).toNat]? = some (.int (tipD ws q os) ty)) ∧ ∃ tx, xvs[((0 : Int) + (k : Int)).toNat]? = some (.str (textF os) tx) := by
    intro k hk
    have hl : k < (ordsF 4).length := by rw [ords12]; exact hk
    have e := List.getElem?_eq_getElem hl
    have hm := List.getElem_mem hl
    generalize (ordsF 4)[k] = os at e hm
    obtain ⟨htip, htm⟩ := tip_ok hw4 (show (1 : Int) ≤ q by omega) hq.2 os hm
    have hk0 : ((0 : Int) + (k : Int)).toNat = k := by omega
    rw [hk0]
    refine ⟨os, e, by rw [List.getD_eq_getElem?_getD, e]; rfl, hm, (ord_ok os hm).2.2 _ htm, ?_, ?_⟩
    · obtain ⟨ty, h⟩ := hY.get k (tipD ws q os) (by rw [List.getElem?_map, e]; rfl)
      exact ⟨ty, by rw [← Array.getElem?_toList]; exact h⟩
    · obtain ⟨tx, h⟩ := strs_at k (textF os) hS (by rw [List.getElem?_map, e]; rfl)
      exact ⟨tx, by rw [← Array.getElem?_toList]; exact h⟩
  have ntp : YNe tb pl := fun e => nd_tl (i := 1) D1 rfl mtb e.symm
  have ndp : YNe dx pl := fun e => nd_tl (i := 1) D1 rfl mdx e.symm
  have htl9 : ∀ p ∈ TL, @Ne Nat p.1 pl := fun p hp e => nd_tl (i := 1) (b := p.1) (o := p.2) D1 rfl hp e.symm
  have hhl : ((("Abcd" : Str), ("all" : Str)) :: (List.range 12).map (hdrF ws q)).length ≤ 100 := by simp
  have hk4 : (0 : Int) ≤ (k : Int) ∧ (k : Int) < 4 := by omega
  have hN9 : noHit codeN (Txt.lower (Txt.item "ABCD" (k : Int))) = true := by rw [low_item hk4]; exact name_ok hk4 _ (.head _)
  have hz1 : (Txt.lower (Txt.item "ABCD" (k : Int))).cps.size ≤ 1000 := by rw [low_item hk4]; exact (by decide : 1 ≤ 1000)
  have hz2 : (Txt.item "ABCD" (k : Int)).length ≤ 1000 := (by decide : 1 ≤ 1000)
  have hkz : ∀ z ∈ (("Abcd" : Str), ("all" : Str)) :: (List.range 12).map (hdrF ws q), z.1.length ≤ 1000 := by
    intro z hz
    rcases List.mem_cons.mp hz with rfl | hz
    · exact (by decide : 4 ≤ 1000)
    · obtain ⟨p, hp, rfl⟩ := List.mem_map.mp hz
      exact (by decide : 1 ≤ 1000)
  k_steps
  all_goals first | exact ("" : Str) | exact (0 : Nat) | exact Value.none | skip
  (rename Fr _ _ _ _ => F5); (rename News _ _ _ _ => N5)
  refine YStop.to (LCt.Assign_ListComp_T F5 rfl (by with_unfolding_all rfl) (by with_unfolding_all rfl) (by decide) rfl (by decide) rfl rfl rfl ?_ (fun _ => rfl))
  k_steps
  all_goals first | exact ("" : Str) | exact (0 : Nat) | exact Value.none | skip
  (rename IsRange _ _ _ _ _ _ _ _ => R5); (rename Fr _ _ _ _ => F6); (rename News _ _ _ _ => N6)
  refine YStop.to (LCt.CompSrcT.range (n := 12) rfl F6 N6 R5 (by decide +kernel) (by decide +kernel) (by rw [line_is]; omega) fun g' => ?_)
  refine rest_rngT (fun p => tipD ws q ((ordsF 4).getD p []) == (k : Int)) (fun p => textF ((ordsF 4).getD p [])) ?htest ?helt ?hfin 12 0 [] rfl .nil
  case htest =>
    intro C oC m₂ s₂ N9 E' j t Q9 hj hC hv F N hCm hsub hQ
    obtain ⟨os, h1, h2, h3, h4, ⟨ty, h5⟩, _⟩ := hat j hj
    have hm6 : (L + 1 + 1 + 1 + 1 + 1 + 1, p6) ∈ N9 := hsub _ (.tail _ (.tail _ (.tail _ (.tail _ (.tail _ (.tail _ (.tail _ m6)))))))
    have hmy : (yl, listOf yvs yn) ∈ N9 := hsub _ (.tail _ (.tail _ (.tail _ (.tail _ (.tail _ (.tail _ (.tail _ myl)))))))
    have hm4 : (L + 1 + 1 + 1 + 1, o4) ∈ N9 := hsub _ (.tail _ (.tail _ (.head _)))
    rw [h2] at hQ
    (try clear N5); (try clear N6); (try clear F5); (try clear F6)
    k_steps
    all_goals first | exact ("" : Str) | exact (0 : Nat) | exact Value.none | skip
    exact hQ _
  case helt =>
    intro C oC m₂ s₂ N9 E' j t Q9 hj hC hv F N hCm hsub hQ
    obtain ⟨os, h1, h2, h3, h4, _, ⟨tx, h5⟩⟩ := hat j hj
    have hm5 : (L + 1 + 1 + 1 + 1 + 1, p5) ∈ N9 := hsub _ (.tail _ (.tail _ (.tail _ (.tail _ (.tail _ (.tail _ (.tail _ m5)))))))
    have hmx : (xl, listOf xvs xn) ∈ N9 := hsub _ (.tail _ (.tail _ (.tail _ (.tail _ (.tail _ (.tail _ (.tail _ mxl)))))))
    rw [h2] at hQ
    (try clear N5); (try clear N6); (try clear F5); (try clear F6)
    k_steps
    all_goals first | exact ("" : Str) | exact (0 : Nat) | exact Value.none | skip
    exact hQ _ _
  case hfin =>
    intro ys hys2 D8 h8 tk8 F8 N8 off8
    (rename NdT _ _ => Dz)
    replace Dz := nd_ap (off1_all off8) Dz rfl
    clear off8
    (try clear N5); (try clear N6); (try clear F5); (try clear F6)
    have hyd : StrsAre ys (dueF ws q (k : Int)) := hys2
    have hdl := due_len ws q (k : Int)
    have hyz : ys.toArray.size ≤ 1000 := by rw [List.size_toArray, strs_len hyd]; omega
    (try dsimp only)
    k_steps
    all_goals first | exact ("" : Str) | exact (0 : Nat) | exact Value.none | skip
    (rename News _ _ _ _ => N30); (rename StrsAre _ (List.map _ (List.filter _ (_ :: _))) => hks)
    refine YStop.to (ne_strs (ws := dueF ws q (k : Int)) N30 (.head _) (.tail _ (.head _)) (by rw [← due_eq hw4 (show (1 : Int) ≤ q by omega) hq.2 hk4]; exact hks) hyd (by ktr_units) ?_)
    k_steps
    all_goals first | exact ("" : Str) | exact (0 : Nat) | exact Value.none | skip
    (rename News _ _ _ _ => N31)
    have hl9 : (dueF ws q (k : Int) ++ [("none" : Str)]).length = (dueF ws q (k : Int)).length + 1 := List.length_append ..
    refine YStop.to (item_strsB (ws := dueF ws q (k : Int) ++ [("none" : Str)]) N31 (.head _) (by rw [Array.toList_append]; exact strs_app hyd (.cons _ _ .nil)) (by decide) (by rw [hl9]; omega) (by rw [hl9]; omega) (fun t7 => ?_) rfl)
    k_steps
    all_goals first | exact ("" : Str) | exact (0 : Nat) | exact Value.none | skip
    refine YStop.to (neq_same ?e ?_)
    case e =>
      rw [find_first, due_eq hw4 (show (1 : Int) ≤ q by omega) hq.2 hk4]
      rfl
    k_steps
    all_goals first | exact ("" : Str) | exact (0 : Nat) | exact Value.none | skip
    (rename Fr _ _ _ _ => F40); (rename News _ _ _ _ => N40)
    exact hret _ _ _ F40 (News.dropK 4 N40) n_pairs n_table n_orders n_total n_bits n_width n_mark n_voter
end
section -- JS6b
theorem zsJS6b : True := by
  w_top off
  k_with_none
  k_with "execs cons" => (refine y_consS ?_; intro sk9 qk9)
  k_with "exec For Name Call cons nil" => (k_here; (with_reducible show wpAny _ _ (exec (Stmt.For _ _ _ _ _) _) _ _ _); refine YStop.of ?_)
  k_with "pyIter ref" => (k_here; (with_reducible show wpAny _ _ (pyIter _) (ForPack _ _ _ _ _ _ _ _) _ _); refine YStop.of ?_)
  trivial
inductive J6 (L pl tb : Addr) (pvs : Array Value) (pn : Nat) (ps qs : Array Value) (TL : List (Addr × Obj)) (g₀ : Array GenState) (os₀ : OsState) (ol : Addr) (ws : List Int) (b wd v : Nat) (mk : Str) (t2 t3 t4 t5 t6 : Tok) (k : Nat) (g : Array GenState) (os : OsState) : List (Addr × Obj) → (Str → Option Value) → Prop
  | mk (o4 : Obj) (m' : Str → Option Value) (d4 : ∃ v, o4.data = .cell v) (hg : g = g₀) (ho : os = os₀) (n_pairs : m' "pairs" = some (.ref pl)) (n_table : m' "table" = some (.ref tb)) (n_orders : m' "orders" = some (.ref ol)) (n_total : m' "total" = some (.int ws.sum t2)) (n_bits : m' "bits" = some (.int (b : Int) t3)) (n_width : m' "width" = some (.int (wd : Int) t4)) (n_mark : m' "mark" = some (.str mk t5)) (n_voter : m' "voter" = some (.int (v : Int) t6)) : J6 L pl tb pvs pn ps qs TL g₀ os₀ ol ws b wd v mk t2 t3 t4 t5 t6 k g os ((pl, listOf pvs pn) :: (L + 1 + 1 + 1 + 1, o4) :: (69, tabObj #[]) :: (62, tabObj #[]) :: (200, tabObj ps) :: (207, tabObj qs) :: TL) m'
theorem seg6 (w : World) (p : Program) (loose : List Str) (mean : ExcName → Option Value) (mg mb : Str → Option Value)
  (dp un : Nat) (gd : Option (List Code)) (L fa : Addr) (cd : Value) (A₀ : Around) (base h₀ : Heap) (outer : List Env) (m : Str → Option Value) (s : Shared) (Q : Flow → Shared → Prop) (rest : List Stmt)
  (o4 : Obj) (ps qs : Array Value) (TL : List (Addr × Obj)) (pl tb dx xl yl ol : Addr) (pvs xvs yvs : Array Value) (pn xn yn : Nat) (p5 p6 : Obj) (hi : Int) (k1 : Tok) (q : Nat) (ws : List Int) (b wd v : Nat) (mk : Str) (t2 t3 t4 t5 t6 : Tok)
  (B : Below A₀ base outer h₀) (F : Fr h₀ L s.heap m) (X : (hd.heap_1 w.params).In h₀) (N : News h₀ L s.heap ((pl, listOf pvs pn) :: (L + 1 + 1 + 1 + 1, o4) :: (69, tabObj #[]) :: (62, tabObj #[]) :: (200, tabObj ps) :: (207, tabObj qs) :: TL)) (T : Top p loose mean mg mb h₀) (hdp : dp + 300 < recursionLimit) (hun : un + 1500 < cLine) (D : NdT (pl :: [L + 1 + 1 + 1 + 1, 69, 62, 200, 207]) (TL.map (·.1)))
  (d4 : o4.data = .cell none) (mxl : (xl, listOf xvs xn) ∈ TL) (myl : (yl, listOf yvs yn) ∈ TL) (m5 : (L + 1 + 1 + 1 + 1 + 1, p5) ∈ TL) (m6 : (L + 1 + 1 + 1 + 1 + 1 + 1, p6) ∈ TL) (e5 : p5.data = .cell (some (.ref xl))) (e6 : p6.data = .cell (some (.ref yl)))
  (hS : StrsAre xvs.toList ((ordsF 4).map textF)) (hY : IntsAre yvs.toList ((ordsF 4).map (tipD ws q))) (hw4 : ws.length = 4) (hq : 1 ≤ q ∧ (q : Int) ≤ ws.sum)
  (mtb : (tb, instObj 386 dx) ∈ TL) (mdx : (dx, dictOf [⟨hi, .str "_headers" k1, .ref pl⟩] 1) ∈ TL) (ntd : YNe tb dx) (hH : HdrAre TL pvs.toList (("Abcd", "all") :: (List.range 12).map (hdrF ws q))) (n_pairs : m "pairs" = some (.ref pl)) (n_table : m "table" = some (.ref tb)) (n_orders : m "orders" = some (.ref ol)) (n_total : m "total" = some (.int ws.sum t2)) (n_bits : m "bits" = some (.int (b : Int) t3)) (n_width : m "width" = some (.int (wd : Int) t4)) (n_mark : m "mark" = some (.str mk t5)) (n_voter : m "voter" = some (.int (v : Int) t6))
  (hret : ∀ (s' : Shared) (m' : Str → Option Value), Fr h₀ L s'.heap m' → News h₀ L s'.heap ((69, tabObj #[]) :: (62, tabObj #[]) :: (200, tabObj ps) :: (207, tabObj qs) :: TL) → NdT [69, 62, 200, 207] (TL.map (·.1)) → s'.gens = s.gens → s'.os = s.os → m' "pairs" = some (.ref pl) → m' "table" = some (.ref tb) → m' "orders" = some (.ref ol) → m' "total" = some (.int ws.sum t2) → m' "bits" = some (.int (b : Int) t3) → m' "width" = some (.int (wd : Int) t4) → m' "mark" = some (.str mk t5) → m' "voter" = some (.int (v : Int) t6) →
    wpAny (model PySem.Challenge.rw_yj0031_01.row.prog w) (({ depth := dp, frames := some outer, guards := gd, units := un } : Around).deeper (envOfC "law" lawScope L fa cd)) (execs rest (envOfC "law" lawScope L fa cd)) Q (fun _ _ => False) s') :
  wpAny (model PySem.Challenge.rw_yj0031_01.row.prog w) (({ depth := dp, frames := some outer, guards := gd, units := un } : Around).deeper (envOfC "law" lawScope L fa cd)) (execs ((lawBody.drop 14).take 1 ++ rest) (envOfC "law" lawScope L fa cd)) Q (fun _ _ => False) s := by
  have eb : (lawBody.drop 14).take 1 = [?s0] := by exact rfl
  have es : lawScope = ⟨?sk, ?sn, ?sg, ?sc, ?sm⟩ := by exact rfl
  rw [eb]
  rw [es] at hret ⊢
  clear eb
  simp only [List.cons_append, List.nil_append]
  revert X; k_fill; intro X
  have hb := @body6
  rw [es] at hb
  clear es
  k_steps
  all_goals first | exact ("" : Str) | exact (0 : Nat) | exact Value.none | skip
  refine y_for ?_ (fun _ => rfl)
  k_steps
  all_goals first | exact ("" : Str) | exact (0 : Nat) | exact Value.none | skip
  (rename IsRange _ _ _ _ _ _ _ _ => R5); (rename Fr _ _ _ _ => F5); (rename News _ _ _ _ => N5); (rename NdT _ _ => D5)
  refine YStop.to (y_upL (N := 4) (J6 L pl tb pvs pn ps qs TL s.gens s.os ol ws b wd v mk t2 t3 t4 t5 t6) rfl (by decide) rfl R5 F5 N5 ?hJ0 ?step ?done)
  case hJ0 => exact .mk _ _ ⟨_, d4⟩ rfl rfl n_pairs n_table n_orders n_total n_bits n_width n_mark n_voter
  case step =>
    intro I oI k s' led' m' tk hap hk hj F8 N8
    obtain ⟨o48, _, ⟨v8, d48⟩, hg8, ho8, i1, i2, i3, i4, i5, i6, i7, i8⟩ := hj
    have D6 := nd_ap hap D5 rfl
    clear F5 N5 D5 R5
    k_with "execs cons" => (k_here; refine YStop.of ?_)
    k_steps
    all_goals first | exact ("" : Str) | exact (0 : Nat) | exact Value.none | skip
    (rename Fr _ _ _ _ => F9); (rename News _ _ _ _ => N9); (rename Obj => o49); (rename o49.data = _ => d49)
    refine YStop.to (hb _ _ _ _ _ _ _ _ _ _ _ _ _ _ _ _ _ _ _ _ _ _ _ _ _ _ _ _ _ _ _ _ _ _ _ _ _ _ _ _ _ _ _ _ _ _ _ _ _ _ _ _ _ _ B F9 X N9 T hdp hun (nd_drop D6) (nd_off D6 rfl) hk d49 mxl myl m5 m6 e5 e6 hS hY hw4 hq mtb mdx ntd hH i1 i2 i3 i4 i5 i6 i7 i8 ?hret)
    intro h9 tk9 m9 F10 N10 j1 j2 j3 j4 j5 j6 j7 j8
    exact YStop.to (.mk _ m9 F10 N10 (nd_off D6 rfl) (.mk _ _ ⟨_, d49⟩ hg8 ho8 j1 j2 j3 j4 j5 j6 j7 j8))
  case done =>
    intro s' led' m' hj F8 N8
    obtain ⟨o48, _, ⟨v8, d48⟩, hg8, ho8, i1, i2, i3, i4, i5, i6, i7, i8⟩ := hj
    clear F5 N5 R5
    k_steps
    all_goals first | exact ("" : Str) | exact (0 : Nat) | exact Value.none | skip
    exact hret _ _ F8 (News.dropK 2 N8) (nd_dropK 2 D5) hg8 ho8 i1 i2 i3 i4 i5 i6 i7 i8
end
section -- JS7
theorem zsJS7 : True := by
  w_top off
  k_with_none
  k_with "nd" => (skip)
  k_with "execs cons" => (refine y_consS ?_; intro sk9 qk9)
  k_with "mem" => first | assumption | exact List.Mem.head _ | (refine' List.Mem.tail _ ?_; k_extra "mem")
  k_with "exec For Name Name cons nil" => (k_here; (with_reducible show wpAny _ _ (exec (Stmt.For _ _ _ _ _) _) _ _ _); refine YStop.of ?_)
  k_with "pyIter ref" => (k_here; (with_reducible show wpAny _ _ (pyIter _) (ForPack _ _ _ _ _ _ _ _) _ _); refine YStop.of ?_)
  k_with "eval Name" => (k_here; (first | (with_reducible show wpAny _ _ (eval (.Name (.ofString "script") _) _) _ _ _) | (with_reducible show wpAny _ _ (eval (.Name (.ofString "total") _) _) _ _ _) | (with_reducible show wpAny _ _ (eval (.Name (.ofString "bits") _) _) _ _ _) | (with_reducible show wpAny _ _ (eval (.Name (.ofString "width") _) _) _ _ _) | (with_reducible show wpAny _ _ (eval (.Name (.ofString "mark") _) _) _ _ _) | (with_reducible show wpAny _ _ (eval (.Name (.ofString "voter") _) _) _ _ _) | (with_reducible show wpAny _ _ (eval (.Name (.ofString "orders") _) _) _ _ _) | (with_reducible show wpAny _ _ (eval (.Name (.ofString "pairs") _) _) _ _ _) | (with_reducible show wpAny _ _ (eval (.Name (.ofString "table") _) _) _ _ _) | (with_reducible show wpAny _ _ (eval (.Name (.ofString "place") _) _) _ _ _) | (with_reducible show wpAny _ _ (eval (.Name (.ofString "capped") _) _) _ _ _) | (with_reducible show wpAny _ _ (eval (.Name (.ofString "great") _) _) _ _ _) | (with_reducible show wpAny _ _ (eval (.Name (.ofString "name") _) _) _ _ _) | (with_reducible show wpAny _ _ (eval (.Name (.ofString "rows") _) _) _ _ _) | (with_reducible show wpAny _ _ (eval (.Name (.ofString "due") _) _) _ _ _) | (with_reducible show wpAny _ _ (eval (.Name (.ofString "stride") _) _) _ _ _) | (with_reducible show wpAny _ _ (eval (.Name (.ofString "whole") _) _) _ _ _) | (with_reducible show wpAny _ _ (eval (.Name (.ofString "weight") _) _) _ _ _) | (with_reducible show wpAny _ _ (eval (.Name (.ofString "factor") _) _) _ _ _) | (with_reducible show wpAny _ _ (eval (.Name (.ofString "quotient") _) _) _ _ _) | (with_reducible show wpAny _ _ (eval (.Name (.ofString "rest") _) _) _ _ _) | (with_reducible show wpAny _ _ (eval (.Name (.ofString "figures") _) _) _ _ _)); k_dflt (refine' ld ?k1 ?k2 ?_; (case k1 => k_asm); (case k2 => first | assumption | exact rfl); k_whole))
  k_with "subscriptTail" => (k_here; (with_reducible show wpAny _ _ (subscriptTail _ _ (Value.ref _) (Value.int _ _)) _ _ _); k_dflt (refine' item_intsB ?N ?hm ?hI ?h0 ?h1 ?hw ?_ ?hs; (case N => k_asm); (case hm => k_mem); (case hI => assumption); (case h0 => first | decide | omega); (case h1 | hw => first | decide | omega | (simp only [List.length_map]; omega)); (case hs => exact rfl); k_whole; intro t9'))
  k_with "inplaceOp Mult int int" => (k_here; (with_reducible show wpAny _ _ (inplaceOp _ _ _) _ _ _); refine YStop.of ?_)
  k_with "binaryOp LShift int int" => (k_here; k_dflt (refine' lshift_int ?h0 ?hz ?_; (case h0 | hz => assumption); k_whole))
  k_with "loadName" => (k_here; k_dflt (refine' ldn ?k1 ?k2 ?_; (case k1 => k_asm); (case k2 => assumption); k_whole))
  trivial
inductive J7 (wl : Addr) (wvs : Array Value) (wn : Nat) (ps qs : Array Value) (TL : List (Addr × Obj)) (g₀ : Array GenState) (os₀ : OsState) (ws : List Int) (b v st : Nat) (t2 t3 t6 t7 : Tok) (k : Nat) (g : Array GenState) (os : OsState) : List (Addr × Obj) → (Str → Option Value) → Prop
  | mk (m' : Str → Option Value) (t8 : Tok) (mw : (wl, listOf wvs wn) ∈ TL) (hg : g = g₀) (ho : os = os₀) (n_whole : m' "whole" = some (.int ((prodN ws st (2 ^ b) k : Nat) : Int) t8)) (n_stride : m' "stride" = some (.int (st : Int) t7)) (n_total : m' "total" = some (.int ws.sum t2)) (n_bits : m' "bits" = some (.int (b : Int) t3)) (n_voter : m' "voter" = some (.int (v : Int) t6)) : J7 wl wvs wn ps qs TL g₀ os₀ ws b v st t2 t3 t6 t7 k g os ((69, tabObj #[]) :: (62, tabObj #[]) :: (200, tabObj ps) :: (207, tabObj qs) :: TL) m'
theorem seg7 (w : World) (p : Program) (loose : List Str) (mean : ExcName → Option Value) (mg mb : Str → Option Value)
  (dp un : Nat) (gd : Option (List Code)) (L fa : Addr) (cd : Value) (A₀ : Around) (base h₀ : Heap) (outer : List Env) (m : Str → Option Value) (s : Shared) (Q : Flow → Shared → Prop) (rest : List Stmt)
  (ps qs : Array Value) (TL : List (Addr × Obj)) (wl : Addr) (wvs : Array Value) (wn : Nat) (ws : List Int) (p2 : Obj) (b v : Nat) (t2 t3 t6 : Tok)
  (B : Below A₀ base outer h₀) (F : Fr h₀ L s.heap m) (X : (hd.heap_1 w.params).In h₀) (N : News h₀ L s.heap ((69, tabObj #[]) :: (62, tabObj #[]) :: (200, tabObj ps) :: (207, tabObj qs) :: TL)) (T : Top p loose mean mg mb h₀) (hdp : dp + 300 < recursionLimit) (hun : un + 1500 < cLine) (D : NdT [69, 62, 200, 207] (TL.map (·.1)))
  (mw : (wl, listOf wvs wn) ∈ TL) (m2 : (L + 1 + 1, p2) ∈ TL) (e2 : p2.data = .cell (some (.ref wl))) (hI : IntsAre wvs.toList ws) (hw4 : ws.length = 4) (hw : ∀ x ∈ ws, 1 ≤ x ∧ x ≤ 4) (hws : 4 ≤ ws.sum ∧ ws.sum ≤ 16) (hb : 4 ≤ b ∧ b ≤ 63) (hv : v < 4) (n_total : m "total" = some (.int ws.sum t2)) (n_bits : m "bits" = some (.int (b : Int) t3)) (n_voter : m "voter" = some (.int (v : Int) t6))
  (hret : ∀ (s' : Shared) (m' : Str → Option Value) (st : Nat) (t7 t8 t9 : Tok), Fr h₀ L s'.heap m' → News h₀ L s'.heap ((69, tabObj #[]) :: (62, tabObj #[]) :: (200, tabObj ps) :: (207, tabObj qs) :: TL) → s'.gens = s.gens → s'.os = s.os → (st : Int) = ws.sum + 1 → m' "whole" = some (.int ((prodN ws st (2 ^ b) 4 : Nat) : Int) t8) → m' "factor" = some (.int ((1 + 2 ^ (b * (st + (ws.getD v 0).toNat)) : Nat) : Int) t9) → m' "stride" = some (.int (st : Int) t7) → m' "total" = some (.int ws.sum t2) → m' "bits" = some (.int (b : Int) t3) → m' "voter" = some (.int (v : Int) t6) →
    wpAny (model PySem.Challenge.rw_yj0031_01.row.prog w) (({ depth := dp, frames := some outer, guards := gd, units := un } : Around).deeper (envOfC "law" lawScope L fa cd)) (execs rest (envOfC "law" lawScope L fa cd)) Q (fun _ _ => False) s') :
  wpAny (model PySem.Challenge.rw_yj0031_01.row.prog w) (({ depth := dp, frames := some outer, guards := gd, units := un } : Around).deeper (envOfC "law" lawScope L fa cd)) (execs ((lawBody.drop 15).take 3 ++ rest) (envOfC "law" lawScope L fa cd)) Q (fun _ _ => False) s := by
  have eb : (lawBody.drop 15).take 3 = [?s0, ?s1, ?s2] := by exact rfl
  have es : lawScope = ⟨?sk, ?sn, ?sg, ?sc, ?sm⟩ := by exact rfl
  rw [eb]
  rw [es] at hret ⊢
  clear eb es
  simp only [List.cons_append, List.nil_append]
  revert X; k_fill; intro X
  obtain ⟨st, hst⟩ := Int.eq_ofNat_of_zero_le (show 0 ≤ ws.sum + 1 by omega)
  have hst17 : st ≤ 17 := by omega
  k_steps
  all_goals first | exact ("" : Str) | exact (0 : Nat) | exact Value.none | skip
  refine y_for ?_ (fun _ => rfl)
  k_steps
  all_goals first | exact ("" : Str) | exact (0 : Nat) | exact Value.none | skip
  (rename Fr _ _ _ _ => F5); (rename News _ _ _ _ => N5)
  have N6 := News.dropK 1 N5
  clear N5
  refine YStop.to (y_listL (J7 wl wvs wn ps qs TL s.gens s.os ws b v st t2 t3 t6 (s.toks + 1)) rfl F5 N6 (.tail _ (.tail _ (.tail _ (.tail _ mw)))) ?hJ0 ?hJm ?step ?done)
  case hJ0 => exact .mk _ _ mw rfl rfl rfl (by rw [← hst]; exact rfl) n_total n_bits n_voter
  case hJm =>
    intro k g os led' m' hj
    obtain ⟨_, t8, mw8, hg8, ho8, nwh, nst, i1, i2, i3⟩ := hj
    exact (.tail _ (.tail _ (.tail _ (.tail _ mw8))))
  case step =>
    intro I oI k s' led' m' vv hap hv hj F8 N8
    obtain ⟨_, t8, mw8, hg8, ho8, nwh, nst, i1, i2, i3⟩ := hj
    obtain ⟨a, ha, tw, rfl⟩ := ints_hat hI k vv hv
    have ha4 := hw a (List.mem_of_getElem? ha)
    have hk : k < 4 := by
      have := (List.getElem?_eq_some_iff.mp ha).1
      omega
    have hgd : ws.getD k 0 = a := by rw [List.getD_eq_getElem?_getD, ha]; rfl
    obtain ⟨W, hW⟩ := Int.eq_ofNat_of_zero_le (show 0 ≤ a by omega)
    have hE := expo_le (W := W) hb.2 hst17 (by omega)
    clear F5 N6
    have e1 : (1 : Int) + 1 * 2 ^ ((b : Int) * ((st : Int) + a)).toNat = ((1 + 2 ^ (b * (st + W)) : Nat) : Int) := by
      rw [hW, ← Int.natCast_add, ← Int.natCast_mul, Int.one_mul, Int.toNat_natCast, Int.natCast_add, Int.natCast_pow]
      rfl
    have e0 : (b : Int) * ((st : Int) + a) = ((b * (st + W) : Nat) : Int) := by rw [hW, ← Int.natCast_add, ← Int.natCast_mul]
    have hn0 : 0 ≤ (b : Int) * ((st : Int) + a) := by rw [e0]; exact Int.natCast_nonneg _
    have hn1 : (Builtin.Int.intBits 1 : Int) + (b : Int) * ((st : Int) + a) ≤ 2 ^ 27 := by
      have h1b : Builtin.Int.intBits 1 = 1 := by decide +kernel
      rw [e0, h1b]
      omega
    k_steps
    all_goals first | exact ("" : Str) | exact (0 : Nat) | exact Value.none | skip
    rw [e1]
    have e5 : ((prodN ws st (2 ^ b) k : Nat) : Int) * ((1 + 2 ^ (b * (st + W)) : Nat) : Int) = ((prodN ws st (2 ^ b) (k + 1) : Nat) : Int) := by
      have : (ws.getD k 0).toNat = W := by rw [hgd, hW]; rfl
      rw [← Int.natCast_mul]
      show _ = ((prodN ws st (2 ^ b) k * (1 + (2 ^ b) ^ (st + (ws.getD k 0).toNat)) : Nat) : Int)
      rw [this, ← Nat.pow_mul]
    have hpb := prod_bits hw4 hw hb.2 hst17 (show k ≤ 4 by omega)
    have hfb := fac_bits (b := 0) hE
    refine YStop.to (PyProof.Rows.imul_int ?_ (mulOk_sum (by omega)))
    rw [e5]
    k_steps
    all_goals first | exact ("" : Str) | exact (0 : Nat) | exact Value.none | skip
    (rename Fr _ _ _ _ => F20); (rename News _ _ _ _ => N20)
    exact YStop.to (.mk _ _ F20 N20 hap (.mk _ _ mw8 hg8 ho8 rfl nst i1 i2 i3))
  case done =>
    intro s' led' m' hj F8 N8
    obtain ⟨_, t8, mw8, hg8, ho8, nwh, nst, i1, i2, i3⟩ := hj
    have hk4 : wvs.size = 4 := by rw [← ints_len hI, hw4]
    rw [hk4] at nwh
    have hgv := getD_rng hw (show v < ws.length by omega)
    obtain ⟨W, hW⟩ := Int.eq_ofNat_of_zero_le (show 0 ≤ ws.getD v 0 by omega)
    have hE := expo_le (W := W) hb.2 hst17 (by omega)
    clear F5 N6
    have e1 : (1 : Int) + 1 * 2 ^ ((b : Int) * ((st : Int) + ws.getD v 0)).toNat = ((1 + 2 ^ (b * (st + (ws.getD v 0).toNat)) : Nat) : Int) := by
      rw [hW, Int.toNat_natCast, ← Int.natCast_add, ← Int.natCast_mul, Int.one_mul, Int.toNat_natCast, Int.natCast_add, Int.natCast_pow]
      rfl
    have e0 : (b : Int) * ((st : Int) + ws.getD v 0) = ((b * (st + W) : Nat) : Int) := by rw [hW, ← Int.natCast_add, ← Int.natCast_mul]
    have hn0 : 0 ≤ (b : Int) * ((st : Int) + ws.getD v 0) := by rw [e0]; exact Int.natCast_nonneg _
    have hn1 : (Builtin.Int.intBits 1 : Int) + (b : Int) * ((st : Int) + ws.getD v 0) ≤ 2 ^ 27 := by
      have h1b : Builtin.Int.intBits 1 = 1 := by decide +kernel
      rw [e0, h1b]
      omega
    k_steps
    all_goals first | exact ("" : Str) | exact (0 : Nat) | exact Value.none | skip
    (rename Fr _ _ _ _ => F30); (rename News _ _ _ _ => N30)
    refine' hret _ _ st _ _ _ F30 N30 hg8 ho8 hst.symm nwh ?e2 nst i1 i2 i3
    case e2 => rw [← e1]; exact rfl
end
section -- JS8
theorem zsJS8 : True := by
  w_top off
  k_with_none
  k_with "execs cons" => (refine y_consS ?_; intro sk9 qk9)
  k_with "getMethod ref" => (k_here; (with_reducible show wpAny _ _ (getMethod (Value.ref _) (PySem.Str.ofString "count") _) _ _ _); k_dflt (refine' listMethod_K ?N ?m PySem.F.slot_list_count PySem.F.type_list_count ?_; (case N => k_asm); (case m => k_mem)))
  k_with "mem" => first | assumption | exact List.Mem.head _ | (refine' List.Mem.tail _ ?_; k_extra "mem")
  k_with "eval Name" => (k_here; (first | (with_reducible show wpAny _ _ (eval (.Name (.ofString "script") _) _) _ _ _) | (with_reducible show wpAny _ _ (eval (.Name (.ofString "total") _) _) _ _ _) | (with_reducible show wpAny _ _ (eval (.Name (.ofString "bits") _) _) _ _ _) | (with_reducible show wpAny _ _ (eval (.Name (.ofString "width") _) _) _ _ _) | (with_reducible show wpAny _ _ (eval (.Name (.ofString "mark") _) _) _ _ _) | (with_reducible show wpAny _ _ (eval (.Name (.ofString "voter") _) _) _ _ _) | (with_reducible show wpAny _ _ (eval (.Name (.ofString "orders") _) _) _ _ _) | (with_reducible show wpAny _ _ (eval (.Name (.ofString "pairs") _) _) _ _ _) | (with_reducible show wpAny _ _ (eval (.Name (.ofString "table") _) _) _ _ _) | (with_reducible show wpAny _ _ (eval (.Name (.ofString "place") _) _) _ _ _) | (with_reducible show wpAny _ _ (eval (.Name (.ofString "capped") _) _) _ _ _) | (with_reducible show wpAny _ _ (eval (.Name (.ofString "great") _) _) _ _ _) | (with_reducible show wpAny _ _ (eval (.Name (.ofString "name") _) _) _ _ _) | (with_reducible show wpAny _ _ (eval (.Name (.ofString "rows") _) _) _ _ _) | (with_reducible show wpAny _ _ (eval (.Name (.ofString "due") _) _) _ _ _) | (with_reducible show wpAny _ _ (eval (.Name (.ofString "stride") _) _) _ _ _) | (with_reducible show wpAny _ _ (eval (.Name (.ofString "whole") _) _) _ _ _) | (with_reducible show wpAny _ _ (eval (.Name (.ofString "weight") _) _) _ _ _) | (with_reducible show wpAny _ _ (eval (.Name (.ofString "factor") _) _) _ _ _) | (with_reducible show wpAny _ _ (eval (.Name (.ofString "quotient") _) _) _ _ _) | (with_reducible show wpAny _ _ (eval (.Name (.ofString "rest") _) _) _ _ _) | (with_reducible show wpAny _ _ (eval (.Name (.ofString "figures") _) _) _ _ _)); k_dflt (refine' ld ?k1 ?k2 ?_; (case k1 => k_asm); (case k2 => first | assumption | exact rfl); k_whole))
  k_with "subscriptTail" => (k_here; (with_reducible show wpAny _ _ (subscriptTail _ _ (Value.ref _) (Value.int _ _)) _ _ _); k_dflt (refine' item_intsB ?N ?hm ?hI ?h0 ?h1 ?hw ?_ ?hs; (case N => k_asm); (case hm => k_mem); (case hI => assumption); (case h0 => first | decide | omega); (case h1 | hw => first | decide | omega | (simp only [List.length_map]; omega)); (case hs => exact rfl); k_whole; intro t9'))
  k_with "call ref" => (k_here; (with_reducible show wpAny _ _ (call _ _) _ _ _); refine YStop.of ?_)
  k_with "compareOp NotEq int int" => (k_here; (with_reducible show wpAny _ _ (compareOp _ _ _) _ _ _); refine YStop.of ?_)
  k_with "compareOp NotEq ref ref" => (k_here; (with_reducible show wpAny _ _ (compareOp _ _ _) _ _ _); refine YStop.of ?_)
  k_with "compareOp Eq int int" => (k_here; (with_reducible show wpAny _ _ (compareOp _ _ _) _ _ _); refine YStop.of ?_)
  k_with "call builtin:list.count" => (k_here; refine YStop.of ?_)
  trivial
section
variable {prog : Program} {w : World} {A : Around} {E : Value → Shared → Prop} {s : Shared} {h₀ : Heap} {L l : Addr} {news : List (Addr × Obj)} {Q : Value → Shared → Prop} {t u : Tok}
theorem neq_int_same {x y : Int} (e : x = y) (h : Q (.bool false) s) : wpAny (model prog w) A (compareOp .NotEq (.int x t) (.int y u)) Q E s := by
  refine ne_int ?_
  rw [e, bne_self_eq_false]
  exact h
theorem eq_int_same {x y : Int} (e : x = y) (h : Q (.bool true) s) : wpAny (model prog w) A (compareOp .Eq (.int x t) (.int y u)) Q E s := by
  refine PyProof.Rows.eq_int ?_
  rw [e, beq_self_eq_true]
  exact h
end
theorem seg8 (w : World) (p : Program) (loose : List Str) (mean : ExcName → Option Value) (mg mb : Str → Option Value)
  (dp un : Nat) (gd : Option (List Code)) (L fa : Addr) (cd : Value) (A₀ : Around) (base h₀ : Heap) (outer : List Env) (m : Str → Option Value) (s : Shared) (Q : Flow → Shared → Prop) (rest : List Stmt)
  (ps qs : Array Value) (TL : List (Addr × Obj)) (wl yl : Addr) (wvs yvs : Array Value) (wn yn : Nat) (ws : List Int) (p2 p3 p6 : Obj) (q b v st : Nat) (t1 t3 t6 t7 t8 t9 : Tok)
  (B : Below A₀ base outer h₀) (F : Fr h₀ L s.heap m) (X : (hd.heap_1 w.params).In h₀) (N : News h₀ L s.heap ((69, tabObj #[]) :: (62, tabObj #[]) :: (200, tabObj ps) :: (207, tabObj qs) :: TL)) (T : Top p loose mean mg mb h₀) (hdp : dp + 300 < recursionLimit) (hun : un + 1500 < cLine) (D : NdT [69, 62, 200, 207] (TL.map (·.1)))
  (mw : (wl, listOf wvs wn) ∈ TL) (m2 : (L + 1 + 1, p2) ∈ TL) (e2 : p2.data = .cell (some (.ref wl))) (m3 : (L + 1 + 1 + 1, p3) ∈ TL) (e3 : p3.data = .cell (some (.int (q : Int) t1))) (myl : (yl, listOf yvs yn) ∈ TL) (m6 : (L + 1 + 1 + 1 + 1 + 1 + 1, p6) ∈ TL) (e6 : p6.data = .cell (some (.ref yl)))
  (hI : IntsAre wvs.toList ws) (hw4 : ws.length = 4) (hw : ∀ x ∈ ws, 1 ≤ x ∧ x ≤ 4) (hws : 4 ≤ ws.sum ∧ ws.sum ≤ 16) (hq : 1 ≤ q ∧ (q : Int) ≤ ws.sum) (hb : 4 ≤ b ∧ b ≤ 63) (hv : v < 4) (hst : (st : Int) = ws.sum + 1) (hY : IntsAre yvs.toList ((ordsF 4).map (tipD ws q))) (n_bits : m "bits" = some (.int (b : Int) t3)) (n_voter : m "voter" = some (.int (v : Int) t6)) (n_stride : m "stride" = some (.int (st : Int) t7)) (n_whole : m "whole" = some (.int ((prodN ws st (2 ^ b) 4 : Nat) : Int) t8)) (n_factor : m "factor" = some (.int ((1 + 2 ^ (b * (st + (ws.getD v 0).toNat)) : Nat) : Int) t9))
  (hret : ∀ (s' : Shared) (m' : Str → Option Value) (ps1 ps2 : Array Value), Fr h₀ L s'.heap m' → News h₀ L s'.heap ((69, tabObj ps1) :: (62, tabObj ps2) :: (200, tabObj ps) :: (207, tabObj qs) :: TL) → s'.gens = s.gens → s'.os = s.os → Q (.ret (.bool true)) s') :
  wpAny (model PySem.Challenge.rw_yj0031_01.row.prog w) (({ depth := dp, frames := some outer, guards := gd, units := un } : Around).deeper (envOfC "law" lawScope L fa cd)) (execs ((lawBody.drop 18).take 4 ++ rest) (envOfC "law" lawScope L fa cd)) Q (fun _ _ => False) s := by
  have eb : (lawBody.drop 18).take 4 = [?s0, ?s1, ?s2, ?s3] := by exact rfl
  have es : lawScope = ⟨?sk, ?sn, ?sg, ?sc, ?sm⟩ := by exact rfl
  rw [eb]
  (try rw [es] at hret)
  rw [es]
  clear eb es
  simp only [List.cons_append, List.nil_append]
  revert X; k_fill; intro X
  have hst17 : st ≤ 17 := by omega
  have hgv := getD_rng hw (show v < ws.length by omega)
  obtain ⟨R, hR, hP, hdg, hdl, hfl, hfb⟩ := quot_law hw4 hw hb.1 (show 1 ≤ st ∧ st ≤ 17 by omega) hv
  obtain ⟨W, hW⟩ := Int.eq_ofNat_of_zero_le (show 0 ≤ ws.getD v 0 by omega)
  have hWn : (ws.getD v 0).toNat = W := by rw [hW]; rfl
  have hrm := dm_room hw4 hw (W := W) hb.1 (show 5 ≤ st by omega) (by omega)
  have hE := expo_le (W := W) hb.2 hst17 (by omega)
  have hyb := fac_bits (b := 0) hE
  rw [hWn] at n_factor hP
  generalize hy : 1 + 2 ^ (b * (st + W)) = y at *
  generalize hPP : prodN ws st (2 ^ b) 4 = P at *
  have hy1 : 1 ≤ y := hy ▸ Nat.le_add_right 1 _
  have hx : ((P : Nat) : Int) + ((y : Nat) : Int) - 1 = ((P + y - 1 : Nat) : Int) := by first | exact sub_one_cast (by assumption) | omega
  have hxp : 0 < P + y - 1 := by
    have : 1 * 1 ≤ R * y := Nat.mul_le_mul hR hy1
    omega
  obtain ⟨hd1, hd2⟩ := div_fac (x := R) (y := y) (by first | assumption | omega)
  rw [← hP] at hd1 hd2
  k_steps
  all_goals first | exact ("" : Str) | exact (0 : Nat) | exact Value.none | skip
  rw [hx]
  refine YStop.to ?zz
  refine' dm_L (x := P + y - 1) (y := y) ?B ?F ?X ?N ?T ?hkf ?hdp ?hun ?U ?hm0 ?U2 ?hy ?hx ?hyb ?hD1 ?zq
  case B => k_asm
  case F => k_asm
  case X => k_asm
  case N => k_asm
  case T => assumption
  case hkf => exact rfl
  case hdp => ktr_room
  case hun => ktr_units
  case U => k_updF
  case hm0 => k_mem
  case U2 => intro n9; k_updF
  case hy => exact hy1
  case hx => exact hxp
  case hyb => omega
  case hD1 => exact hrm
  intro tq c9 u9 v9 tk9 h9 oc vs9 t99 ps9 F6 N6 lt lc ho1 ho2
  rw [hd1, hd2] at N6
  have N7 := News.rot (n1 := [_, _, _, _, _, _]) N6 [2, 3, 4, 5] [0, 1]
  (rename NdT _ _ => Dz)
  have D7 : NdT [69, 62, 200, 207] (tq :: c9 :: TL.map (·.1)) := nd_rest lt (nd_rest lc Dz rfl) rfl
  clear N6 Dz
  have N8 := (show _ = _ from rfl : News h₀ L _ _ = News h₀ L _ ((69, tabObj ps9) :: (62, tabObj #[rawInt (39 : Nat), rawInt (4 : Nat), .ref c9]) :: (200, tabObj ps) :: (207, tabObj qs) :: (tq, tupObj #[.int ((R : Nat) : Int) u9, .int ((y - 1 : Nat) : Int) v9]) :: (c9, oc) :: TL)) ▸ N7
  clear N7
  have hc62 : YNe c9 62 := (lc.2.1).sym
  k_steps
  all_goals first | exact ("" : Str) | exact (0 : Nat) | exact Value.none | skip
  refine YStop.to ?zzb
  refine' dig_L1 (x := R) (n := b) (c' := c9) (oc := oc) ?Bb ?Fb ?Xb ?Nb ?Tb ?hkfb ?hdpb ?hunb ?Ub ?hmb ?hcb ?e6b ?e7b ?hnb ?hD1b ?hx0b ?zqb
  case Bb => k_asm
  case Fb => k_asm
  case Xb => k_asm
  case Nb => k_asm
  case Tb => assumption
  case hkfb => exact rfl
  case hdpb => ktr_room
  case hunb => ktr_units
  case hmb => k_mem
  case Ub => k_updF
  case hcb => assumption
  case e6b => assumption
  case e7b => assumption
  case hnb => omega
  case hD1b => exact hdl
  case hx0b => exact hR
  intro lqd dvs dn tk8 h8 ps8 F9 N9 ll hdI
  rw [hdg] at hdI
  k_steps
  all_goals first | exact ("" : Str) | exact (0 : Nat) | exact Value.none | skip
  refine YStop.to (neq_int_same (by omega) ?_)
  k_steps
  all_goals first | exact ("" : Str) | exact (0 : Nat) | exact Value.none | skip
  refine YStop.to ?zzc
  refine' figs_L (v := (v : Int)) (st := st) ?Bc ?Fc ?Xc ?Nc ?Tc ?hkfc ?hdpc ?hunc ?hm1c ?hIc ?hw4c ?hwc ?hstc ?zqc
  case Bc => k_asm
  case Fc => k_asm
  case Xc => k_asm
  case Nc => k_asm
  case Tc => assumption
  case hkfc => exact rfl
  case hdpc => ktr_room
  case hunc => ktr_units
  case hm1c => k_mem
  case hIc => assumption
  case hw4c => assumption
  case hwc => assumption
  case hstc => omega
  intro lf fvs fn tk7 h7 F10 N10 lf1 hFI
  k_steps
  all_goals first | exact ("" : Str) | exact (0 : Nat) | exact Value.none | skip
  (rename News _ _ _ _ => N11)
  refine YStop.to (ne_ints (ws := figsK (v : Int) ws st 4) N11 (.tail _ (.head _)) (.head _) hdI hFI (by ktr_units) ?_)
  k_steps
  all_goals first | exact ("" : Str) | exact (0 : Nat) | exact Value.none | skip
  have hWv : ws.getD ((v : Nat) : Int).toNat 0 = ((W : Nat) : Int) := hW
  rw [hWv]
  refine YStop.to ?zzd
  refine' cnt_L (fs := figsK (v : Int) ws st 4) (st := st) (wt := W) (q := q) ?Bd ?Fd ?Xd ?Nd ?Td ?hkfd ?hdpd ?hund ?hm1d ?hId ?hfld ?hstd ?hwtd ?hqd ?hfbd ?zqd
  case Bd => k_asm
  case Fd => k_asm
  case Xd => k_asm
  case Nd => k_asm
  case Td => assumption
  case hkfd => exact rfl
  case hdpd => ktr_room
  case hund => ktr_units
  case hm1d => k_mem
  case hId => assumption
  case hfld => assumption
  case hstd => omega
  case hwtd => omega
  case hqd => omega
  case hfbd => assumption
  intro tc tk6 h6 F12 N12
  k_steps
  all_goals first | exact ("" : Str) | exact (0 : Nat) | exact Value.none | skip
  refine YStop.to (count_list_ints (vs := yvs.toList) (ns := (ordsF 4).map (tipD ws q)) ⟨_, (N12 _ (.tail _ (.tail _ (.tail _ (.tail _ (.tail _ (.tail _ (.tail _ (.tail _ myl))))))))).1, rfl, yn, rfl⟩ hY ?_)
  k_steps
  all_goals first | exact ("" : Str) | exact (0 : Nat) | exact Value.none | skip
  have hcl := count_law hw4 hw hv hq.1 hq.2 hst
  rw [hWn] at hcl
  refine YStop.to (eq_int_same hcl ?_)
  k_steps
  all_goals first | exact ("" : Str) | exact (0 : Nat) | exact Value.none | skip
  exact hret _ _ ps9 ps8 F12 (News.rot (n1 := [_, _, _, _, _, _, _, _]) N12 [2, 3, 4, 5] []) rfl rfl
end
section -- JLaw
theorem seg_split (k n : Nat) : lawBody.drop k = (lawBody.drop k).take n ++ lawBody.drop (k + n) := by
  rw [← List.drop_drop, List.take_append_drop]
theorem triples_nil : TriplesOk (#[] : Array Value).toList := trivial
theorem law_walk (w : World) (p : Program) (loose : List Str) (mean : ExcName → Option Value) (mg mb : Str → Option Value)
  (dp un : Nat) (gd : Option (List Code)) (L fa : Addr) (cd : Value) (A₀ : Around) (base h₀ : Heap) (outer : List Env) (m : Str → Option Value) (s : Shared) (Q : Flow → Shared → Prop)
  (o1 o2 o3 o4 o5 o6 o7 : Obj) (sc : Addr) (ns : List Int) (vs : Array Value)
  (B : Below A₀ base outer h₀) (F : Fr h₀ L s.heap m) (X : (hd.heap_1 w.params).In h₀) (N : News h₀ L s.heap ((L + 1, o1) :: (L + 1 + 1, o2) :: (L + 1 + 1 + 1, o3) :: (L + 1 + 1 + 1 + 1, o4) :: (L + 1 + 1 + 1 + 1 + 1, o5) :: (L + 1 + 1 + 1 + 1 + 1 + 1, o6) :: (L + 1 + 1 + 1 + 1 + 1 + 1 + 1, o7) :: (69, tabObj #[]) :: (62, tabObj #[]) :: (200, tabObj #[]) :: (207, tabObj #[]) :: [])) (T : Top p loose mean mg mb h₀) (hdp : dp + 300 < recursionLimit) (hun : un + 1500 < cLine) (D : NdT [L + 1, L + 1 + 1, L + 1 + 1 + 1, L + 1 + 1 + 1 + 1, L + 1 + 1 + 1 + 1 + 1, L + 1 + 1 + 1 + 1 + 1 + 1, L + 1 + 1 + 1 + 1 + 1 + 1 + 1, 69, 62, 200, 207] [])
  (hm : m "script" = some (.ref sc)) (d1 : o1.data = .cell none) (d2 : o2.data = .cell none) (d3 : o3.data = .cell none) (d4 : o4.data = .cell none) (d5 : o5.data = .cell none) (d6 : o6.data = .cell none) (d7 : o7.data = .cell none) (hsc : h₀.IsList sc vs) (hI : IntsAre vs.toList ns) (hn : ns.length ≤ 100) (hL : 207 < L) (hG : AllBare s.gens)
  (hret : ∀ (s' : Shared) (m' : Str → Option Value) (ps1 ps2 ps3 ps4 : Array Value) (TL : List (Addr × Obj)), Fr h₀ L s'.heap m' → News h₀ L s'.heap ((69, tabObj ps1) :: (62, tabObj ps2) :: (200, tabObj ps3) :: (207, tabObj ps4) :: TL) → AllBare s'.gens → s'.os = s.os → Q (.ret (.bool true)) s') :
  wpAny (model PySem.Challenge.rw_yj0031_01.row.prog w) (({ depth := dp, frames := some outer, guards := gd, units := un } : Around).deeper (envOfC "law" lawScope L fa cd)) (execs lawBody (envOfC "law" lawScope L fa cd)) Q (fun _ _ => False) s := by
  have e0 : lawBody = (lawBody.drop 0).take 6 ++ lawBody.drop 6 := seg_split 0 6
  have e6 : lawBody.drop 6 = (lawBody.drop 6).take 3 ++ lawBody.drop 9 := seg_split 6 3
  have e9 : lawBody.drop 9 = (lawBody.drop 9).take 2 ++ lawBody.drop 11 := seg_split 9 2
  have e11 : lawBody.drop 11 = (lawBody.drop 11).take 1 ++ lawBody.drop 12 := seg_split 11 1
  have e12 : lawBody.drop 12 = (lawBody.drop 12).take 2 ++ lawBody.drop 14 := seg_split 12 2
  have e14 : lawBody.drop 14 = (lawBody.drop 14).take 1 ++ lawBody.drop 15 := seg_split 14 1
  have e15 : lawBody.drop 15 = (lawBody.drop 15).take 3 ++ lawBody.drop 18 := seg_split 15 3
  have e18 : lawBody.drop 18 = (lawBody.drop 18).take 4 ++ lawBody.drop 22 := seg_split 18 4
  rw [e0]
  refine seg1 w p loose mean mg mb dp un gd L fa cd A₀ base h₀ outer m s Q _ o1 o2 o3 o4 o5 o6 o7 sc ns vs #[] #[] B F X N T hdp hun D hm d1 d2 d3 d4 d5 d6 d7 hsc hI hn hL ?_
  clear N F D hm hsc hI
  intro h' tk' m' TL wl wvs wn ws p2 p3 q b wd v mk t1 t2 t3 t4 t5 t6 F N D mw m2 m3 e2 e3 hI hw4 hw hws hq hb hwd hmk hv n1 n2 n3 n4 n5
  rw [e6]
  refine seg2 w p loose mean mg mb dp un gd L fa cd A₀ base h₀ outer m' _ Q _ o4 o5 o6 o7 #[] #[] TL wl wvs wn ws p2 p3 q b wd v mk t1 t2 t3 t4 t5 t6 B F X N T hdp hun D d5 d6 mw m2 m3 e2 e3 hI hw4 hw hws hq n1 n2 n3 n4 n5 ?_
  clear N F D n1 n2 n3 n4 n5
  intro h2 tk2 ma TL2 ol xl yl rvs xvs yvs rn xn yn p5 p6 F N D hs2 mol mxl myl m5 m6 e5 e6' hO hS hY n0 n1 n2 n3 n4 n5
  replace mw := hs2 _ mw
  replace m2 := hs2 _ m2
  replace m3 := hs2 _ m3
  clear hs2
  rw [e9]
  refine seg3 w p loose mean mg mb dp un gd L fa cd A₀ base h₀ outer ma _ Q _ o4 o7 #[] #[] TL2 ol ws b wd v mk t2 t3 t4 t5 t6 B F X N T hdp hun D n0 n1 n2 n3 n4 n5 ?_
  clear N F D n0 n1 n2 n3 n4 n5
  intro h3 tk3 mb3 TL3 pl tb dx t0 pn hi k1 u1 u2 F N D hs3 mtb mdx mt0 ntd na nb n0 n1 n2 n3 n4 n5
  replace mw := hs3 _ mw
  replace m2 := hs3 _ m2
  replace m3 := hs3 _ m3
  replace mol := hs3 _ mol
  replace mxl := hs3 _ mxl
  replace myl := hs3 _ myl
  replace m5 := hs3 _ m5
  replace m6 := hs3 _ m6
  replace hO := hO.mono hs3
  clear hs3
  rw [e11]
  refine seg4 w p loose mean mg mb dp un gd L fa cd A₀ base h₀ outer mb3 _ Q _ o4 o7 #[] #[] TL3 pl tb dx t0 ol xl yl rvs xvs yvs pn rn xn yn p5 p6 hi k1 u1 u2 wl wvs wn ws p2 p3 q b wd v mk t1 t2 t3 t4 t5 t6 B F X N T hdp hun D triples_nil triples_nil hG mol mxl myl m5 m6 e5 e6' hO hS hY mtb mdx mt0 ntd hwd hmk mw m2 m3 e2 e3 hI hw4 hw hws hq na nb n0 n1 n2 n3 n4 n5 ?_
  clear N F D na nb n0 n1 n2 n3 n4 n5
  intro s4 mc TL4 pvs pn4 ps4 qs4 F N D hs4 hH htp htq hG4 ho4 na nb n0 n1 n2 n3 n4 n5
  replace mw := hs4 _ mw
  replace m2 := hs4 _ m2
  replace m3 := hs4 _ m3
  replace mxl := hs4 _ mxl
  replace myl := hs4 _ myl
  replace m5 := hs4 _ m5
  replace m6 := hs4 _ m6
  replace mtb := hs4 _ mtb
  replace mdx := hs4 _ mdx
  clear hs4
  rw [e12]
  refine seg5 w p loose mean mg mb dp un gd L fa cd A₀ base h₀ outer mc _ Q _ o4 o7 ps4 qs4 TL4 pl tb dx xl yl ol pvs xvs yvs pn4 xn yn p5 p6 hi k1 q ws b wd v mk t2 t3 t4 t5 t6 B F X N T hdp hun D d7 mxl myl m5 m6 e5 e6' hS hY hw4 hq mtb mdx ntd hH na nb n0 n1 n2 n3 n4 n5 ?_
  clear N F D na nb n0 n1 n2 n3 n4 n5
  intro h5 tk5 md F N D na nb n0 n1 n2 n3 n4 n5
  rw [e14]
  refine seg6 w p loose mean mg mb dp un gd L fa cd A₀ base h₀ outer md _ Q _ o4 ps4 qs4 TL4 pl tb dx xl yl ol pvs xvs yvs pn4 xn yn p5 p6 hi k1 q ws b wd v mk t2 t3 t4 t5 t6 B F X N T hdp hun D d4 mxl myl m5 m6 e5 e6' hS hY hw4 hq mtb mdx ntd hH na nb n0 n1 n2 n3 n4 n5 ?_
  clear N F D na nb n0 n1 n2 n3 n4 n5
  intro s6 me F N D hg6 ho6 na nb n0 n1 n2 n3 n4 n5
  rw [e15]
  refine seg7 w p loose mean mg mb dp un gd L fa cd A₀ base h₀ outer me s6 Q _ ps4 qs4 TL4 wl wvs wn ws p2 b v t2 t3 t6 B F X N T hdp hun D mw m2 e2 hI hw4 hw hws hb hv n1 n2 n5 ?_
  clear N F na nb n0 n1 n2 n3 n4 n5
  intro s7 mf st t7 t8 t9 F N hg7 ho7 hst nw nf ns1 n1 n2 n5
  rw [e18]
  refine seg8 w p loose mean mg mb dp un gd L fa cd A₀ base h₀ outer mf s7 Q _ ps4 qs4 TL4 wl yl wvs yvs wn yn ws p2 p3 p6 q b v st t1 t3 t6 t7 t8 t9 B F X N T hdp hun D mw m2 e2 m3 e3 myl m6 e6' hI hw4 hw hws hq hb hv hst hY n2 n5 ns1 nw nf ?_
  intro s8 mg8 ps1 ps2 F N hg8 ho8
  refine hret s8 mg8 ps1 ps2 ps4 qs4 TL4 F N ?_ ?_
  · rw [hg8, hg7, hg6]
    exact hG4
  · rw [ho8, ho7, ho6]
    exact ho4
end
section -- JEnd
noncomputable abbrev tbs : List (Addr × Addr) := [(73, 69), (66, 62), (204, 200), (211, 207)]
noncomputable def Done (g : Heap) (os : OsState) (r : Result) (s' : Shared) : Prop :=
  r = .ok (.ret (.bool true)) ∧ (∀ b o, g.get? b = some o → s'.heap.get? b = some o) ∧ s'.os = os ∧ AllBare s'.gens ∧ GrownAll tbs s'.heap
theorem done_good {s₁ s' : Shared} {cw : ClaimW} {cl : Str → Option Addr} {mean : ExcName → Option Value} {args : List WData} {r : Result} (hT : TabsAt tbs s₁.heap) (hr : ∀ a x, cw.raises a x = false)
    (hp : cw.post args (.bool true) args = true) (h : Done (ghostOf s₁.heap tbs) s₁.os r s') : GoodWG cw cl mean args s₁ r s' := by
  obtain ⟨rfl, hk, hos, hg, hgr⟩ := h
  have keep : ∀ b o, b ∉ tbs.map (·.2) → s₁.heap.get? b = some o → s'.heap.get? b = some o := fun b o hb e => hk b o (ghost_ne e hb)
  have grown : ∀ b o, b ∈ tbs.map (·.2) → s₁.heap.get? b = some o → isCodeTable s₁.heap b ∧ o = tabObj #[] ∧ ∃ ps, s'.heap.get? b = some (tabObj ps) := fun b o hb e => by
    obtain ⟨q, hq, rfl⟩ := List.mem_map.mp hb
    have e2 := (hT q hq).2
    rw [e] at e2
    exact ⟨((hT q hq).1.tab (hT q hq).2).isCodeTable, Option.some.inj e2, hgr.get q hq⟩
  refine ⟨.inl ⟨_, _, [], rfl, fun cls => hr _ _, ReadsW.bool true, hp, fun _ => ⟨List.nodup_nil, fun _ hm => (nomatch hm)⟩⟩, ⟨fun b o e => ?_, fun b o e => ?_⟩, hos, hg⟩
  · by_cases hb : b ∈ tbs.map (·.2)
    · obtain ⟨ht, rfl, ps, hP⟩ := grown b o hb e
      exact .inr (.inl ⟨ht, rfl, #[], ps, rfl, by rw [Array.empty_append]; exact hP⟩)
    · exact .inl (keep b o hb e)
  · by_cases hb : b ∈ tbs.map (·.2)
    · obtain ⟨_, _, ps, hP⟩ := grown b o hb e
      exact ⟨_, hP⟩
    · exact ⟨o, keep b o hb e⟩
theorem y_post {M : Model} {A : Around} {cd : Code} {s s₁ : Shared} {cw : ClaimW} {cl : Str → Option Addr} {mean : ExcName → Option Value} {args : List WData} (hT : TabsAt tbs s₁.heap) (hr : ∀ a x, cw.raises a x = false)
    (hp : cw.post args (.bool true) args = true)
    (h : codeAny M A cd (fun r s' => Done (ghostOf s₁.heap tbs) s₁.os r s') s) : codeAny M A cd (GoodWG cw cl mean args s₁) s :=
  codeAny_mono h fun _ _ h => done_good hT hr hp h
theorem nd_start {L : Nat} (h : 69 < L ∧ 62 < L ∧ 200 < L ∧ 207 < L) : NdT [L + 1, L + 1 + 1, L + 1 + 1 + 1, L + 1 + 1 + 1 + 1, L + 1 + 1 + 1 + 1 + 1, L + 1 + 1 + 1 + 1 + 1 + 1, L + 1 + 1 + 1 + 1 + 1 + 1 + 1, 69, 62, 200, 207] [] := by
  refine ⟨?_, fun _ _ hm => nomatch hm⟩
  show ([1, 2, 3, 4, 5, 6, 7].map (L + ·) ++ [69, 62, 200, 207]).Nodup
  refine List.pairwise_append.mpr ⟨List.pairwise_map.mpr ((show [1, 2, 3, 4, 5, 6, 7].Pairwise (· ≠ ·) by decide).imp fun h e => h (Nat.add_left_cancel e)), by decide, fun a ha b hb e => ?_⟩
  obtain ⟨k, _, rfl⟩ := List.mem_map.mp ha
  have : ∀ b ∈ [69, 62, 200, 207], b < L := List.forall_mem_cons.mpr ⟨h.1, List.forall_mem_cons.mpr ⟨h.2.1, List.forall_mem_cons.mpr ⟨h.2.2.1, List.forall_mem_cons.mpr ⟨h.2.2.2, fun _ h => nomatch h⟩⟩⟩⟩
  exact Nat.lt_irrefl _ (Nat.lt_of_le_of_lt (Nat.le_add_right L k) (e ▸ this b hb))
theorem entry : PySem.Challenge.rw_yj0031_01.Holds := hd (by
  w_strict (
  k_fill
  intro w s₀ s₁ mg mb G Y fa o pm cd doc dV kV ho hd hcd hD hmg hg args vals as hpre hlay hrd hwl hlo
  have KX := km_in_of Y
  km_tabs Y
  have X := (Ground.X G).1
  have V := (Ground.X G).2
  refine Ground.open G ?_
  intro T B D TE TW
  try (refine guard_noD D (by decide +kernel) ?_; clear D)
  have hT9 : TabsAt ([(73, 69), (66, 62), (204, 200), (211, 207)] : List (Addr × Addr)) _ := List.forall_mem_cons.mpr ⟨⟨codeHd_of_K (c := 73) (P := 69) KX (by kernel_rfl), hT8 69 (by k_mem)⟩, List.forall_mem_cons.mpr ⟨⟨codeHd_of_K (c := 66) (P := 62) KX (by kernel_rfl), hT8 62 (by k_mem)⟩, List.forall_mem_cons.mpr ⟨⟨codeHd_of_K (c := 204) (P := 200) KX (by kernel_rfl), hT8 200 (by k_mem)⟩, List.forall_mem_cons.mpr ⟨⟨codeHd_of_K (c := 211) (P := 207) KX (by kernel_rfl), hT8 207 (by k_mem)⟩, fun _ h => nomatch h⟩⟩⟩⟩
  clear hmg
  wrow_args hpre hlay hrd hwl hlo
  all_goals (
    first | refine callC_kw (enter_call ?_) | refine enter_call ?_
    w_top on
    refine y_post hT9 (fun _ _ => rfl) ?_ ?_
    rotate_left
    w_call any ho hd hcd hD T F
    clear hd
    kn_ghosts F T
    k_drop
    skip)
  · have hroom : callerA.depth + 300 < recursionLimit := by decide +kernel
    have hunits : callerA.units + 1500 < cLine := by decide +kernel
    (rename Fr (ghostOf _ _) _ _ _ => F9); (rename News (ghostOf _ _) _ _ _ => N9); (rename Below _ (ghostOf _ _) _ _ => B9); (rename Top _ _ _ _ _ (ghostOf _ _) => T9); (rename Frag.In _ (ghostOf _ _) => X9); (rename IntsAre _ _ => I9); (rename (ghostOf _ _).IsList _ _ => L9); (rename 69 < _ ∧ _ => l9); (rename ¬ (_ < _) => hc9)
    rename_i q7 q6 q5 q4 q3 q2 q1 y0 y1 y2 y3
    refine wpAny_mono (law_walk w _ _ _ mg mb callerA.depth callerA.units callerA.guards s₁.heap.objs.size fa cd _ _ _ [] _ _ _ _ _ _ _ _ _ _ _ _ _ B9 F9 X9 (News.pick [6, 5, 4, 3, 2, 1, 0, 7, 8, 9, 10] N9) T9 hroom hunits (nd_start l9) rfl q1 q2 q3 q4 q5 q6 q7 L9 I9 (by omega) l9.2.2.2 (AllBare.of_eq hg) ?_) (fun _ _ z => z) (fun _ _ z => z.elim)
    intro s' m' ps1 ps2 ps3 ps4 TL F N hG ho
    exact ⟨rfl, F.keep, ho, hG, ⟨_, (N _ (.head _)).1⟩, ⟨_, (N _ (.tail _ (.head _))).1⟩, ⟨_, (N _ (.tail _ (.tail _ (.head _)))).1⟩, ⟨_, (N _ (.tail _ (.tail _ (.tail _ (.head _))))).1⟩, trivial⟩
  · first | kernel_rfl | with_unfolding_all rfl | law_fin))
end
end YJ
theorem PySem.Challenge.cw_yj0031_01_holds : PySem.Challenge.rw_yj0031_01.Holds :=
  YJ.entry
