import PyProof.Rows.All
import Wide.All
import OpenK.AllK
import Wide.FinOn
import KE.KSortTup
import KE.LcTurns
import KE.KDictObj
import KE.KCallOwn
import PyProof.DictWalks
import KE.KDictIter
import KE.KDictList
import KE.KEqDat
import Lean
import PySem.Challenge.RW_aw5017_04
set_option Elab.async false
section
open PySem PySem.W PyProof.Rows
set_option Elab.async false
set_option maxRecDepth 100000
set_option maxHeartbeats 8000000
namespace Mine
open_top hd for PySem.Challenge.rw_aw5017_04

end Mine
end
section
open PySem PySem.W PySem.W.X PyProof.Rows PySem.Calls PySem.Spec
set_option Elab.async false
set_option maxRecDepth 100000
set_option maxHeartbeats 8000000
namespace Mine
theorem law_post (l : List Int) : PySem.Challenge.rw_aw5017_04.row.claim.post [ofPy (PyData.list (l.map PyData.int))] (.bool true) [ofPy (PyData.list (l.map PyData.int))] = true := by
  first | wrow_post | rfl | decide +kernel
theorem law_raises (l : List Int) (cls) : PySem.Challenge.rw_aw5017_04.row.claim.raises [ofPy (PyData.list (l.map PyData.int))] cls = false := rfl
end Mine
end
section
open PySem PySem.W
set_option maxRecDepth 100000
namespace Mine
def katRun {α : Type} (n : Nat) (lt : Nat → Nat → Bool) : KasT α → Option α
  | .ret a => some a
  | .ask i j k => if i < n ∧ j < n then katRun n lt (k (lt i j)) else none
def grow (k : Nat) (r : List Nat) : List Nat := r.map (fun x => if k ≤ x then x + 1 else x) ++ [k]
def perms : Nat → List (List Nat)
  | 0 => [[]]
  | n + 1 => (perms n).flatMap fun r => (List.range (n + 1)).map fun k => grow k r
def ranksOk (n : Nat) (r : List Nat) : Bool := match katRun n (fun i j => decide (r.getD i 0 < r.getD j 0)) (kas_sort n) with
  | some p => p.toList.map (fun i => r.getD i 0) == List.range n && p.toList.all (· < n)
  | none => false
theorem ranks2 : (perms 2).all (ranksOk 2) = true := by decide +kernel
theorem ranks3 : (perms 3).all (ranksOk 3) = true := by decide +kernel
theorem ranks4 : (perms 4).all (ranksOk 4) = true := by decide +kernel
theorem ranks5 : (perms 5).all (ranksOk 5) = true := by decide +kernel
theorem ranks6 : (perms 6).all (ranksOk 6) = true := by decide +kernel
theorem katRun_congr {α : Type} {n : Nat} {lt lt' : Nat → Nat → Bool} (h : ∀ i j, i < n → j < n → lt i j = lt' i j) : ∀ t : KasT α, katRun n lt t = katRun n lt' t
  | .ret _ => rfl
  | .ask i j k => by
    unfold katRun
    split
    · next hij => rw [h i j hij.1 hij.2]; exact katRun_congr h _
    · rfl
/-- the highest rank below -/
theorem top_of (n : Nat) (f : Nat → Nat) (P : Nat → Bool) : ∃ k, (∀ i, i < n → P i = true → f i < k) ∧ (k = 0 ∨ ∃ j, j < n ∧ P j = true ∧ f j + 1 = k) := by
  induction n with
  | zero => exact ⟨0, fun i h => absurd h (Nat.not_lt_zero _), .inl rfl⟩
  | succ n ih =>
    obtain ⟨k, h1, h2⟩ := ih
    by_cases hP : P n = true
    · by_cases hk : f n < k
      · refine ⟨k, fun i hi hPi => ?_, ?_⟩
        · rcases Nat.lt_succ_iff_lt_or_eq.mp hi with h | rfl
          · exact h1 i h hPi
          · exact hk
        · rcases h2 with h | ⟨j, hj, r⟩
          · omega
          · exact .inr ⟨j, by omega, r⟩
      · refine ⟨f n + 1, fun i hi hPi => ?_, .inr ⟨n, by omega, hP, rfl⟩⟩
        rcases Nat.lt_succ_iff_lt_or_eq.mp hi with h | rfl
        · have := h1 i h hPi; omega
        · omega
    · refine ⟨k, fun i hi hPi => ?_, ?_⟩
      · rcases Nat.lt_succ_iff_lt_or_eq.mp hi with h | rfl
        · exact h1 i h hPi
        · exact absurd hPi hP
      · rcases h2 with h | ⟨j, hj, r⟩
        · exact .inl h
        · exact .inr ⟨j, by omega, r⟩
structure Strict (n : Nat) (lt : Nat → Nat → Bool) : Prop where
  irr : ∀ i, i < n → lt i i = false
  tot : ∀ i j, i < n → j < n → i ≠ j → lt i j = true ∨ lt j i = true
  tr : ∀ i j k, i < n → j < n → k < n → lt i j = true → lt j k = true → lt i k = true
theorem Strict.asym {n : Nat} {lt : Nat → Nat → Bool} (h : Strict n lt) {i j : Nat} (hi : i < n) (hj : j < n) (hl : lt i j = true) : lt j i = false := by
  cases hb : lt j i with
  | false => rfl
  | true => have := h.tr i j i hi hj hi hl hb; rw [h.irr i hi] at this; cases this
theorem ranks_of : ∀ (n : Nat) (lt : Nat → Nat → Bool), Strict n lt → ∃ r ∈ perms n, r.length = n ∧ (∀ i, i < n → r.getD i 0 < n) ∧ ∀ i j, i < n → j < n → lt i j = decide (r.getD i 0 < r.getD j 0)
  | 0, _, _ => ⟨[], by simp [perms], rfl, fun i h => absurd h (Nat.not_lt_zero _), fun i _ h => absurd h (Nat.not_lt_zero _)⟩
  | n + 1, lt, H => by
    obtain ⟨r, hr, hlen, hb, hl⟩ := ranks_of n lt ⟨fun i h => H.irr i (by omega), fun i j hi hj => H.tot i j (by omega) (by omega), fun i j k hi hj hk => H.tr i j k (by omega) (by omega) (by omega)⟩
    obtain ⟨k, h1, h2⟩ := top_of n (fun i => r.getD i 0) (fun i => lt i n)
    have hkn : k ≤ n := by
      rcases h2 with h | ⟨j, hj, _, e⟩
      · omega
      · have := hb j hj; omega
    have h3 : ∀ i, i < n → (lt i n = true ↔ r.getD i 0 < k) := by
      intro i hi
      refine ⟨h1 i hi, fun hlt => ?_⟩
      rcases h2 with h | ⟨j, hj, hPj, e⟩
      · omega
      · by_cases hij : i = j
        · rw [hij]; exact hPj
        · have hl1 := hl j i hj hi
          have hji : lt j i = false := by
            rw [hl1]
            exact decide_eq_false (by omega)
          rcases H.tot i j (by omega) (by omega) hij with h | h
          · exact H.tr i j n (by omega) (by omega) (by omega) h hPj
          · rw [hji] at h; cases h
    have ga : ∀ i, i < n → (grow k r).getD i 0 = if k ≤ r.getD i 0 then r.getD i 0 + 1 else r.getD i 0 := by
      intro i hi
      unfold grow
      rw [List.getD_eq_getElem?_getD, List.getElem?_append_left (by rw [List.length_map]; omega), List.getElem?_map, List.getD_eq_getElem?_getD, List.getElem?_eq_getElem (by omega)]
      rfl
    have gn : (grow k r).getD n 0 = k := by
      unfold grow
      rw [List.getD_eq_getElem?_getD, List.getElem?_append_right (by rw [List.length_map]; omega), List.length_map, hlen, Nat.sub_self]
      rfl
    refine ⟨grow k r, ?_, by simp [grow, hlen], fun i hi => ?_, fun i j hi hj => ?_⟩
    · exact List.mem_flatMap.mpr ⟨r, hr, List.mem_map.mpr ⟨k, List.mem_range.mpr (by omega), rfl⟩⟩
    · rcases Nat.lt_succ_iff_lt_or_eq.mp hi with h | rfl
      · rw [ga i h]; have := hb i h; split <;> omega
      · rw [gn]; omega
    · rcases Nat.lt_succ_iff_lt_or_eq.mp hi with h | rfl
      · rcases Nat.lt_succ_iff_lt_or_eq.mp hj with h' | rfl
        · rw [ga i h, ga j h', hl i j h h']
          congr 1
          apply propext
          split <;> split <;> omega
        · rw [ga i h, gn]
          have := h3 i h
          by_cases hc : lt i j = true
          · rw [hc]; have := this.mp hc; symm; apply decide_eq_true; split <;> omega
          · have h4 : ¬ r.getD i 0 < k := fun x => hc (this.mpr x)
            rw [Bool.not_eq_true] at hc
            rw [hc]; symm; apply decide_eq_false; split <;> omega
      · rcases Nat.lt_succ_iff_lt_or_eq.mp hj with h' | rfl
        · rw [ga j h', gn]
          have := h3 j h'
          rcases H.tot i j (by omega) (by omega) (by omega) with hc | hc
          · have h5 := H.asym (by omega) (by omega) hc
            have h4 : ¬ r.getD j 0 < k := fun x => by rw [this.mpr x] at h5; cases h5
            rw [hc]; symm; apply decide_eq_true; split <;> omega
          · have h5 := H.asym (by omega) (by omega) hc
            have h4 := this.mp hc
            rw [h5]; symm; apply decide_eq_false; split <;> omega
        · rw [H.irr _ (by omega)]; simp
theorem sort_ok {n : Nat} (h2 : 2 ≤ n) (h6 : n ≤ 6) {lt : Nat → Nat → Bool} (H : Strict n lt) :
    ∃ p, katRun n lt (kas_sort n) = some p ∧ (∀ i, i ∈ p.toList → i < n) ∧ (∀ i, i < n → i ∈ p.toList) ∧ p.toList.Pairwise fun i j => lt i j = true := by
  obtain ⟨r, hr, hlen, hb, hl⟩ := ranks_of n lt H
  have hok : ranksOk n r = true := by
    have : (perms n).all (ranksOk n) = true := by
      match n, h2, h6 with
      | 2, _, _ => exact ranks2
      | 3, _, _ => exact ranks3
      | 4, _, _ => exact ranks4
      | 5, _, _ => exact ranks5
      | 6, _, _ => exact ranks6
    exact List.all_eq_true.mp this r hr
  rw [katRun_congr hl]
  unfold ranksOk at hok
  split at hok
  case h_2 => cases hok
  rename_i p hp
  simp only [Bool.and_eq_true, beq_iff_eq, List.all_eq_true, decide_eq_true_eq] at hok
  refine ⟨p, hp, hok.2, fun i hi => ?_, ?_⟩
  · have h1 : r.getD i 0 ∈ p.toList.map (fun i => r.getD i 0) := by rw [hok.1]; exact List.mem_range.mpr (hb i hi)
    obtain ⟨j, hj, e⟩ := List.mem_map.mp h1
    by_cases hij : j = i
    · exact hij ▸ hj
    · exfalso
      have hjn := hok.2 j hj
      rcases H.tot j i hjn hi hij with h | h
      · rw [hl j i hjn hi, decide_eq_true_eq] at h; omega
      · rw [hl i j hi hjn, decide_eq_true_eq] at h; omega
  · have h1 : (p.toList.map (fun i => r.getD i 0)).Pairwise (· < ·) := by rw [hok.1]; exact List.pairwise_lt_range
    rw [List.pairwise_map] at h1
    refine h1.imp_of_mem ?_
    intro a b ha hb' hlt
    rw [hl a b (hok.2 a ha) (hok.2 b hb'), decide_eq_true_eq]; exact hlt
/-- the least one that is free -/
def least (lt : Nat → Nat → Bool) (free : Nat → Bool) : List Nat → Option Nat
  | [] => none
  | i :: r => match least lt free r with
    | none => if free i then some i else none
    | some j => if free i && lt i j then some i else some j
theorem least_spec {lt : Nat → Nat → Bool} {free : Nat → Bool} : ∀ {l : List Nat}, (∀ i ∈ l, ∀ j ∈ l, i ≠ j → lt i j = true ∨ lt j i = true) → (∀ i ∈ l, ∀ j ∈ l, ∀ k ∈ l, lt i j = true → lt j k = true → lt i k = true) →
    match least lt free l with
    | none => ∀ i ∈ l, free i = false
    | some j => j ∈ l ∧ free j = true ∧ ∀ i ∈ l, free i = true → i = j ∨ lt j i = true
  | [], _, _ => by simp [least]
  | i :: r, ht, htr => by
    have ih := least_spec (lt := lt) (free := free) (l := r) (fun a ha b hb => ht a (.tail _ ha) b (.tail _ hb)) (fun a ha b hb c hc => htr a (.tail _ ha) b (.tail _ hb) c (.tail _ hc))
    unfold least
    cases hr : least lt free r with
    | none =>
      rw [hr] at ih
      dsimp only at ih ⊢
      cases hf : free i with
      | false =>
        rw [if_neg (by simp)]
        dsimp only
        exact List.forall_mem_cons.mpr ⟨hf, ih⟩
      | true =>
        rw [if_pos rfl]
        refine ⟨.head _, hf, fun a ha hfa => ?_⟩
        rcases List.mem_cons.mp ha with rfl | ha
        · exact .inl rfl
        · rw [ih a ha] at hfa; cases hfa
    | some j =>
      rw [hr] at ih
      dsimp only at ih ⊢
      obtain ⟨hj, hfj, hall⟩ := ih
      cases hc : (free i && lt i j) with
      | true =>
        rw [if_pos rfl]
        rw [Bool.and_eq_true] at hc
        refine ⟨.head _, hc.1, fun a ha hfa => ?_⟩
        rcases List.mem_cons.mp ha with rfl | ha
        · exact .inl rfl
        · rcases hall a ha hfa with rfl | h
          · exact .inr hc.2
          · exact .inr (htr i (.head _) j (.tail _ hj) a (.tail _ ha) hc.2 h)
      | false =>
        rw [if_neg (by simp)]
        refine ⟨.tail _ hj, hfj, fun a ha hfa => ?_⟩
        rcases List.mem_cons.mp ha with rfl | ha
        · by_cases e : a = j
          · exact .inl e
          · rw [hfa, Bool.true_and] at hc
            rcases ht a (.head _) j (.tail _ hj) e with h | h
            · rw [hc] at h; cases h
            · exact .inr h
        · exact hall a ha hfa
theorem find_least {n : Nat} {lt : Nat → Nat → Bool} {free : Nat → Bool} (H : Strict n lt) {p : List Nat} (h1 : ∀ i ∈ p, i < n) (h2 : ∀ i, i < n → i ∈ p) (h3 : p.Pairwise fun i j => lt i j = true) :
    p.find? free = least lt free (List.range n) := by
  have sp := least_spec (lt := lt) (free := free) (l := List.range n) (fun i hi j hj => H.tot i j (List.mem_range.mp hi) (List.mem_range.mp hj)) (fun i hi j hj k hk => H.tr i j k (List.mem_range.mp hi) (List.mem_range.mp hj) (List.mem_range.mp hk))
  cases hl : least lt free (List.range n) with
  | none =>
    rw [hl] at sp
    rw [List.find?_eq_none]
    intro i hi
    rw [sp i (List.mem_range.mpr (h1 i hi))]; simp
  | some j =>
    rw [hl] at sp
    obtain ⟨hj, hfj, hall⟩ := sp
    have hjn := List.mem_range.mp hj
    cases hf : p.find? free with
    | none => exact absurd hfj (by simpa using List.find?_eq_none.mp hf j (h2 j hjn))
    | some a =>
      obtain ⟨hfa, as, bs, rfl, hnot⟩ := List.find?_eq_some_iff_append.mp hf
      have han := h1 a (by simp)
      rcases hall a (List.mem_range.mpr han) hfa with rfl | h
      · rfl
      · exfalso
        have hja := h2 j hjn
        rcases List.mem_append.mp hja with h4 | h4
        · have := hnot j h4; rw [hfj] at this; simp at this
        · rcases List.mem_cons.mp h4 with rfl | h4
          · rw [H.irr j hjn] at h; cases h
          · have h5 := (List.pairwise_cons.mp (List.pairwise_append.mp h3).2.1).1 j h4
            have := H.asym han hjn h5
            rw [this] at h; cases h
end Mine
end
section
open PySem PySem.W PySem.W.X PyProof.Rows PySem.Calls PySem.Spec
set_option Elab.async false
set_option maxRecDepth 100000
set_option maxHeartbeats 8000000
namespace Mine
theorem filled : PySem.Challenge.rw_aw5017_04 = PySem.Challenge.rw_aw5017_04 ∧ hd.heap_39 = hd.heap_39 := by k_fill; exact ⟨rfl, rfl⟩
abbrev PW := PySem.Challenge.pw_aw5017_04
/-- a Domain object: a list of its own class -/
abbrev domO (dx : Addr) (xs : Array Value) (e : Nat) : Obj := { cls := .ref 303, dict := some dx, data := .seq xs e }
/-- the dict of a Domain object -/
abbrev domD (P : Params) (t1 t2 : Tok) (hd st : Addr) (e : Nat) : Obj := dictOf [⟨PyData.keyHash P "_hidden", .str "_hidden" t1, .ref hd⟩, ⟨PyData.keyHash P "_states", .str "_states" t2, .ref st⟩] e

section
variable {w : World} {A : Around} {E : Value → Shared → Prop} {s : Shared} {x dx : Addr} {xs : Array Value} {e : Nat} {name : Str} {K : Frag} {C : Addr} {ox : Obj} {od : Option Obj} {prog : Program}
theorem getL_open {expr : Bool} {Q : Value → Shared → Prop} (X : K.In s.heap) (I : InstAt s.heap x ox C od) (hga : findIn K (.ref C) "__getattribute__" = some (some (.builtin "list.__getattribute__"))) (hgn : findIn K (.ref C) "__getattr__" = some none)
    (h : wpAny (model prog w) A (call (.builtin "list.__getattribute__") [.ref x, .str name s.toks]) (fun v s' => wpAny (model prog w) A (handedOut v) Q E s') (fun _ _ => False) { s with toks := s.toks + 1 }) :
    wpAny (model prog w) A (getAttr (.ref x) name expr) Q E s := by
  obtain ⟨hh, g, d, t, os⟩ := s
  have L0 := I.type (M := model prog w)
  have L1 := looks_findIn (M := model prog w) X hga
  have L2 := looks_findIn (M := model prog w) X hgn
  unfold getAttr getAttrBy
  refine wpAny_bind (wpAny_mkText (wpAny_holding (wpAny_bind (L0.at (wpAny_bind (L1.at ?_))))))
  show wpAny _ _ (getAttrByItsOwn _ _ _ _ _ _) _ _ _
  unfold getAttrByItsOwn hookBefore
  refine wpAny_bind ?_
  rw [if_pos (show onTheHeap (Value.ref C) = true from rfl)]
  refine L2.at ?_
  refine wpAny_bind (wpAny_attempt (wpAny_holding ?_))
  unfold callGetattribute
  rw [if_neg (show ¬ ((expr && onTheHeap (Value.builtin "list.__getattribute__")) = true) by cases expr <;> decide)]
  unfold boundAndCalled
  rw [PySem.F.slot_list_getattribute.bind]
  refine wpAny_bind (wpAny_pure ?_)
  refine wpAny_mono h (fun v s' z => z) fun _ _ z => z.elim
end
section
variable {w : World} {A : Around} {E : Value → Shared → Prop} {s : Shared} {x : Addr} {name : Str} {K : Frag} {C : Addr} {ox : Obj} {od : Option Obj} {prog : Program}
theorem methodL {pl : Sem Bool} {Q : Value × List Value → Shared → Prop} {f T : Value} (X : K.In s.heap) (I : InstAt s.heap x ox C od) (hga : findIn K (.ref C) "__getattribute__" = some (some (.builtin "list.__getattribute__"))) (hk : findIn K (.ref C) "__getattr__" = some none)
    (hf : findIn K (.ref C) name = some (some f)) (ht : Looks (model prog w) s.heap (typeOf f) T) (hT : (T != Value.type "function" && T != Value.type "method_descriptor" && T != Value.type "wrapper_descriptor") = false) (hs : shadowIn od name = some false) (h : Q (f, [.ref x]) s) :
    wpAny (model prog w) A (getMethod (.ref x) name pl) Q E s := by
  unfold getMethod specialOf
  refine wpAny_bind (wpAny_bind (I.type.here ((looks_findIn X hga).here ?_)))
  dsimp only
  rw [PySem.canon_list_getattribute, if_neg (by decide)]
  refine wpAny_bind (wpAny_bind (I.type.here ((looks_findIn X hk).here ?_)))
  refine wpAny_bind (wpAny_bind (I.type.here ((looks_findIn X hf).here (wpAny_bind (ht.here ?_)))))
  rw [hT, if_neg (by decide)]
  refine wpAny_bind (wpAny_loadPart I.at_ ?_)
  have hd := I.dict
  cases e : ox.dict with
  | none => exact wpAny_bind (wpAny_rule (wpAny_pure h))
  | some dx =>
    cases od with
    | none => rw [e] at hd; exact hd.elim
    | some o =>
      rw [e] at hd
      obtain ⟨r, a, b⟩ := Option.map_eq_some_iff.mp hs
      refine wpAny_bind (wpAny_bind (wpAny_loadPart hd ?_))
      rw [nsLook_of a]
      refine wpAny_pure ?_
      cases r with
      | some _ => cases b
      | none => exact wpAny_bind (wpAny_rule (wpAny_pure h))
end
section
variable {w : World} {A : Around} {E : Value → Shared → Prop} {s : Shared} {x dx hdA st : Addr} {xs : Array Value} {e e2 : Nat} {t1 t2 : Tok}
local macro_rules | `(tactic| x_close) => `(tactic| (rw [handedOut_of rfl]; refine wpAny_pure ?_; assumption))
theorem dom_hidden {expr : Bool} {Q : Value → Shared → Prop} (X : (hd.heap_39 w.params).In s.heap) (hx : s.heap.get? x = some (domO dx xs e)) (hdx : s.heap.get? dx = some (domD w.params t1 t2 hdA st e2)) (h : Q (.ref hdA) { s with toks := s.toks + 1 }) :
    wpAny (model PW w) A (getAttr (.ref x) "_hidden" expr) Q E s := by
  have I : InstAt s.heap x (domO dx xs e) 303 (some (domD w.params t1 t2 hdA st e2)) := ⟨hx, rfl, rfl, hdx⟩
  refine getL_open X I (by k_is) (by k_is) ?_
  obtain ⟨hh, g, d, t, os⟩ := s
  have hx' : hh.get? x = some ⟨.ref 303, some dx, .seq xs e, #[]⟩ := hx
  have hdx' : hh.get? dx = some ⟨.type "dict", none, .dict #[⟨PyData.keyHash w.params "_hidden", .str "_hidden" t1, .ref hdA⟩, ⟨PyData.keyHash w.params "_states", .str "_states" t2, .ref st⟩] e2, #[]⟩ := hdx
  clear hx hdx I
  x_run
theorem dom_states {expr : Bool} {Q : Value → Shared → Prop} (X : (hd.heap_39 w.params).In s.heap) (hx : s.heap.get? x = some (domO dx xs e)) (hdx : s.heap.get? dx = some (domD w.params t1 t2 hdA st e2)) (h : Q (.ref st) { s with toks := s.toks + 1 }) :
    wpAny (model PW w) A (getAttr (.ref x) "_states" expr) Q E s := by
  have I : InstAt s.heap x (domO dx xs e) 303 (some (domD w.params t1 t2 hdA st e2)) := ⟨hx, rfl, rfl, hdx⟩
  refine getL_open X I (by k_is) (by k_is) ?_
  obtain ⟨hh, g, d, t, os⟩ := s
  have hx' : hh.get? x = some ⟨.ref 303, some dx, .seq xs e, #[]⟩ := hx
  have hdx' : hh.get? dx = some ⟨.type "dict", none, .dict #[⟨PyData.keyHash w.params "_hidden", .str "_hidden" t1, .ref hdA⟩, ⟨PyData.keyHash w.params "_states", .str "_states" t2, .ref st⟩] e2, #[]⟩ := hdx
  clear hx hdx I
  x_run
end
end Mine
end
section
open PySem PySem.W PySem.W.X PyProof.Rows PySem.Calls PySem.Spec
open PySem.Builtin.List (listItems listUpdate listExtendWith listSameRef listTooLong)
set_option Elab.async false
set_option maxRecDepth 100000
set_option maxHeartbeats 8000000
namespace Mine
theorem filled2 : PySem.Challenge.rw_aw5017_04 = PySem.Challenge.rw_aw5017_04 ∧ hd.heap_39 = hd.heap_39 := by k_fill; exact ⟨rfl, rfl⟩
/-- ints with their tokens, as values -/
def iv (l : List (Int × Tok)) : List Value := l.map fun p => .int p.1 p.2
def eqv (v : Int) (p : Int × Tok) : Bool := p.1 == v
theorem iv_len (l : List (Int × Tok)) : (iv l).length = l.length := by simp [iv]
theorem iv_app (a b : List (Int × Tok)) : iv (a ++ b) = iv a ++ iv b := by simp [iv]
theorem eraseP_app {v : Int} : ∀ (pre : List (Int × Tok)) (post : List (Int × Tok)), (∀ p ∈ pre, p.1 ≠ v) → (pre ++ post).eraseP (eqv v) = pre ++ post.eraseP (eqv v)
  | [], _, _ => rfl
  | p :: r, post, h => by
    have h1 : eqv v p = false := by simp [eqv, h p (.head _)]
    rw [List.cons_append, List.eraseP_cons, h1]
    simp only [cond_false, eraseP_app r post fun q hq => h q (.tail _ hq), List.cons_append]

section
variable {w : World} {A : Around} {E : Value → Shared → Prop} {s : Shared} {x dx : Addr} {xs : Array Value} {e : Nat}
theorem dom_type {M : Model} {h : Heap} (hx : h.get? x = some (domO dx xs e)) : Looks M h (typeOf (.ref x)) (.ref 303) := (Looks.ld (part := some headPart) hx).andThen .now
theorem check_dom {id n : String} {k : Manifest.AttrKind} {rest : List Value} {Q : Unit → Shared → Prop} (X : (hd.heap_39 w.params).In s.heap) (hx : s.heap.get? x = some (domO dx xs e)) (hs : splitId id = some ("list", n)) (hk : (Manifest.find? "list").bind (·.attrs.lookup n) = some k) (hkk : k = .slot ∨ k = .method)
    (ha : argsOk id ⟨.ref x :: rest, []⟩) (hQ : Q () s) : wpAny (model PW w) A (checkBuiltinCall id ⟨.ref x :: rest, []⟩) Q E s := by
  have hk' : builtinKind id = some k := by simp only [builtinKind, hs, hk]
  have L2 := looks_subIn (M := model PW w) X (show subIn (hd.heap_39 w.params) (.ref 303) (.type "list") = some true by k_is)
  rcases hkk with rfl | rfl <;>
  · simp only [checkBuiltinCall, hk', hs]
    refine wpAny_bind ?_
    unfold isInstance
    refine wpAny_bind ((dom_type hx).here (L2.here ?_))
    simp only [Bool.not_true, Bool.false_eq_true, if_false]
    cases hsig : Manifest.signature? id with
    | none => exact wpAny_pure hQ
    | some sig =>
      simp only [argsOk, hsig] at ha
      have h2 : Bind.checkArgs id sig ⟨.ref x :: rest, []⟩ = pure () := ha
      show wpAny _ A (Bind.checkArgs id sig ⟨.ref x :: rest, []⟩) Q E s
      rw [h2]; exact wpAny_pure hQ
theorem call_dom {id n : String} {k : Manifest.AttrKind} {b : Builtin} {rest : List Value} {Q : Value → Shared → Prop} (X : (hd.heap_39 w.params).In s.heap) (hx : s.heap.get? x = some (domO dx xs e)) (hq : plainId id = true) (hb : entryFor table id = some b) (hs : splitId id = some ("list", n)) (hk : (Manifest.find? "list").bind (·.attrs.lookup n) = some k) (hkk : k = .slot ∨ k = .method)
    (ha : argsOk id ⟨.ref x :: rest, []⟩)
    (h : wpAny (model PW w) A.in1 (b ⟨.ref x :: rest, []⟩) (fun fin s' => match fin with | .done f => (match f with | .ret v => Q v s' | _ => False) | .again c' => c'.quiet = true ∧ codeAny (model PW w) A c' (fun r s' => match r with | .ok (.ret v) => Q v s' | .ok _ => False | .error e => E e s') s') E s) :
    wpAny (model PW w) A (call (.builtin id) (.ref x :: rest)) Q E s := by
  refine wpAny_call (codeAny_call_builtin hq hb (check_dom X hx hs hk hkk ha (wpAny_mono h (fun fin s' z => ?_) fun _ _ z => z)))
  cases fin with
  | done f => cases f <;> first | exact z | exact z.elim
  | again c => exact z
theorem entry_remove_loop : entryFor table "list.remove.loop" = some Builtin.«list.remove.loop» := entryFor_of_tree (by kernel_rfl)
theorem remove_loop {v : Int} {u : Tok} {ob : Obj} {R : Result → Shared → Prop} : ∀ (post pre : List (Int × Tok)), (∀ p ∈ pre, p.1 ≠ v) → (∃ p ∈ post, p.1 = v) → s.heap.get? x = some ob → ob.data = .seq (iv (pre ++ post)).toArray e → (pre ++ post).length ≤ 1000 →
    (∀ h', Heap.SameBut x s.heap h' → h'.get? x = some { ob with data := .seq (iv ((pre ++ post).eraseP (eqv v))).toArray (e + 1) } → R (.ok (.ret .none)) { s with heap := h' }) →
    codeAny (model PW w) A (.builtin "list.remove.loop" ⟨[.ref x, .int v u, rawInt pre.length], []⟩) R s
  | [], _, _, ⟨_, hm, _⟩, _, _, _, _ => nomatch hm
  | p :: post, pre, hpre, hex, hx, hdt, hlen, h => by
    refine codeAny_builtin entry_remove_loop ?_
    show wpAny _ _ (do match (← listItems (.ref x))[((pre.length : Nat) : Int).toNat]? with
      | none => rule "list.remove.not-found"; raiseError "ValueError" "list.remove(x): x not in list"
      | some y => if ← eqBool y (.int v u) then listUpdate (.ref x) (·.eraseIdxIfInBounds ((pre.length : Nat) : Int).toNat); ret .none else again (.builtin "list.remove.loop" ⟨[.ref x, .int v u, rawInt (((pre.length : Nat) : Int) + 1)], []⟩)) _ _ s
    refine wpAny_bind (wpAny_listItems hx hdt ?_)
    have hi : (iv (pre ++ p :: post)).toArray[((pre.length : Nat) : Int).toNat]? = some (.int p.1 p.2) := by simp [iv]
    rw [hi]
    refine wpAny_bind (wpAny_eqBool_int ?_)
    by_cases hp : p.1 = v
    · rw [if_pos (by simp [hp])]
      refine wpAny_bind (wpAny_updateSeq hx hdt ?_ (by simp [iv]; rw [sizeLine_eq]; simp at hlen; omega) (by simp only [iv, List.size_toArray, List.eraseIdxIfInBounds_toArray]; refine Nat.le_trans (List.length_eraseIdx_le ..) ?_; rw [sizeLine_eq]; simp at hlen ⊢; omega))
      refine wpAny_pure (h _ (Heap.SameBut.update ..) ?_)
      obtain ⟨oc, od, odt, osl⟩ := ob
      dsimp only at hdt
      subst hdt
      have e1 : (iv (pre ++ p :: post)).toArray.eraseIdxIfInBounds ((pre.length : Nat) : Int).toNat = (iv ((pre ++ p :: post).eraseP (eqv v))).toArray := by
        rw [eraseP_app pre _ hpre, List.eraseP_cons, show eqv v p = true by simp [eqv, hp]]
        simp [iv, List.eraseIdx_append_of_length_le]
      rw [Heap.get?_update_self _ hx rfl]
      show some (Obj.mapSeq _ _) = _
      unfold Obj.mapSeq
      simp only [e1]
      congr 3
      have : (iv ((pre ++ p :: post).eraseP (eqv v))).length ≠ (iv (pre ++ p :: post)).length := by
        rw [eraseP_app pre _ hpre, List.eraseP_cons, show eqv v p = true by simp [eqv, hp]]
        simp [iv]
      simp [this]
    · rw [if_neg (by simp [hp])]
      refine wpAny_pure ⟨Code.quiet_builtin _ (by decide +kernel), ?_⟩
      have e2 : (rawInt (((pre.length : Nat) : Int) + 1)) = rawInt ((pre ++ [p]).length : Nat) := by simp
      rw [e2]
      refine remove_loop post (pre ++ [p]) ?_ ?_ hx (by simpa using hdt) (by simpa using hlen) (by simpa using h)
      · intro q hq
        rcases List.mem_append.mp hq with hq | hq
        · exact hpre q hq
        · rw [List.mem_singleton.mp hq]; exact hp
      · obtain ⟨q, hq, hv⟩ := hex
        rcases List.mem_cons.mp hq with rfl | hq
        · exact absurd hv hp
        · exact ⟨q, hq, hv⟩
theorem dom_remove {l : List (Int × Tok)} {v : Int} {u : Tok} {Q : Value → Shared → Prop} (X : (hd.heap_39 w.params).In s.heap) (hx : s.heap.get? x = some (domO dx (iv l).toArray e)) (hex : ∃ p ∈ l, p.1 = v) (hlen : l.length ≤ 1000)
    (h : ∀ h', Heap.SameBut x s.heap h' → h'.get? x = some (domO dx (iv (l.eraseP (eqv v))).toArray (e + 1)) → Q .none { s with heap := h' }) :
    wpAny (model PW w) A (call (.builtin "list.remove") [.ref x, .int v u]) Q E s := by
  refine call_dom (n := "remove") (k := .method) X hx PySem.F.slot_list_remove.plain PySem.F.entry_list_remove (by decide +kernel) (by decide +kernel) (.inr rfl) (PySem.F.args_list_remove_2 _ _) ?_
  show wpAny _ _ (again (.builtin "list.remove.loop" ⟨[.ref x, .int v u, rawInt 0], []⟩)) _ _ _
  refine wpAny_pure ⟨Code.quiet_builtin _ (by decide +kernel), ?_⟩
  exact remove_loop l [] (fun _ h => nomatch h) hex hx rfl (by simpa using hlen) (fun h' a b => h h' a b)
theorem dom_extend {xs ys : Array Value} {b : Addr} {n : Nat} {Q : Value → Shared → Prop} (X : (hd.heap_39 w.params).In s.heap) (hx : s.heap.get? x = some (domO dx xs e)) (hb : s.heap.get? b = some (listOf ys n)) (hbx : b ≠ x) (hlen : xs.size + ys.size ≤ 1000)
    (h : ∀ h' e', Heap.SameBut x s.heap h' → h'.get? x = some (domO dx (xs ++ ys) e') → Q .none { s with heap := h' }) :
    wpAny (model PW w) A (call (.builtin "list.extend") [.ref x, .ref b]) Q E s := by
  refine call_dom (n := "extend") (k := .method) X hx PySem.F.slot_list_extend.plain PySem.F.entry_list_extend (by decide +kernel) (by decide +kernel) (.inr rfl) (PySem.F.args_list_extend_2 _ _) ?_
  show wpAny _ _ (listExtendWith (.ref x) (.ref b) .none) _ _ _
  unfold listExtendWith
  refine wpAny_bind (wpAny_typeOf (T := "list") ⟨_, hb, rfl⟩ ?_)
  rw [if_pos (by simp)]
  refine wpAny_bind (wpAny_listItems hb rfl (wpAny_bind (wpAny_listItems hx rfl ?_)))
  rw [if_neg (by have : listTooLong (xs.size + ys.size) = false := by (unfold listTooLong; rw [sizeLine_eq]; simp; omega)
                 simp [this])]
  refine wpAny_bind ((wpAny_updateSeq (f := fun zs => zs ++ ys) hx rfl ?_ (by rw [sizeLine_eq]; omega) (by rw [Array.size_append, sizeLine_eq]; omega)))
  refine wpAny_pure (h _ _ (Heap.SameBut.update ..) (by rw [Heap.get?_update_self _ hx rfl]; rfl))
end
end Mine
end
section
open PySem PySem.W PySem.W.X PyProof.Rows PySem.Calls PySem.Spec
set_option Elab.async false
set_option maxRecDepth 100000
set_option maxHeartbeats 8000000
namespace Mine
theorem filled1b : PySem.Challenge.rw_aw5017_04 = PySem.Challenge.rw_aw5017_04 ∧ hd.heap_39 = hd.heap_39 := by k_fill; exact ⟨rfl, rfl⟩
section
variable {w : World} {A : Around} {E : Value → Shared → Prop} {s : Shared} {x dx hdA st : Addr} {xs : Array Value} {e e2 : Nat} {t1 t2 : Tok}
local macro_rules | `(tactic| x_close) => `(tactic| (first | assumption | (refine (by assumption : ∀ u tk', _) _ _)))
theorem dom_len {Q : Value → Shared → Prop} (X : (hd.heap_39 w.params).In s.heap) (hx : s.heap.get? x = some (domO dx xs e)) (hsz : xs.size ≤ 1000) (h : ∀ u tk', Q (.int xs.size u) { s with toks := tk' }) :
    wpAny (model PW w) A (call (.builtin "len") [.ref x]) Q E s := by
  obtain ⟨hh, g, d, t, os⟩ := s
  have hx' : hh.get? x = some ⟨.ref 303, some dx, .seq xs e, #[]⟩ := hx
  have h' := h (t + 1) (t + 1 + 1)
  clear hx h
  x_run
theorem dom_len0 {Q : Value → Shared → Prop} (X : (hd.heap_39 w.params).In s.heap) (hx : s.heap.get? x = some (domO dx xs e)) (hsz : xs.size ≤ 1000) (h : ∀ u tk', Q (.int xs.size u) { s with toks := tk' }) :
    wpAny (model PW w) A (runValue (.builtin "len" ⟨[.ref x], []⟩)) Q E s := by
  obtain ⟨hh, g, d, t, os⟩ := s
  have hx' : hh.get? x = some ⟨.ref 303, some dx, .seq xs e, #[]⟩ := hx
  have h' := h (t + 1) (t + 1 + 1)
  clear hx h
  x_run
theorem dom_truthy {Q : Bool → Shared → Prop} (X : (hd.heap_39 w.params).In s.heap) (hx : s.heap.get? x = some (domO dx xs e)) (hsz : xs.size ≤ 1000) (h : ∀ tk', Q (xs.size != 0) { s with toks := tk' }) :
    wpAny (model PW w) A (truthy (.ref x)) Q E s := by
  have T (M : Model) : Looks M s.heap (typeOf (.ref x)) (.ref 303) := dom_type hx
  have L1 := looks_findIn (M := model PW w) X (show findIn (hd.heap_39 w.params) (.ref 303) "__bool__" = some none by k_is)
  have L2 := looks_findIn (M := model PW w) X (show findIn (hd.heap_39 w.params) (.ref 303) "__len__" = some (some (.builtin "list.__len__")) by k_is)
  unfold truthy
  dsimp only
  unfold callSpecial?
  refine wpAny_bind (wpAny_bind ?_)
  unfold specialOf
  refine wpAny_bind ((T _).here (L1.here (wpAny_pure ?_)))
  refine wpAny_bind (wpAny_bind ((T _).here (L2.here ?_)))
  rw [if_neg (by decide)]
  refine wpAny_bind (dom_len0 X hx hsz fun u tk' => wpAny_pure ?_)
  have e1 : (((xs.size : Nat) : Int) != 0) = (xs.size != 0) := by
    cases h0 : xs.size <;> simp [bne]
    omega
  rw [e1]
  exact h tk'
end
end Mine
end
section
open PySem PySem.W PySem.W.X PyProof.Rows PySem.Calls PySem.Spec
set_option Elab.async false
set_option maxRecDepth 100000
set_option maxHeartbeats 8000000
namespace Mine
theorem filled3 : PySem.Challenge.rw_aw5017_04 = PySem.Challenge.rw_aw5017_04 ∧ hd.heap_39 = hd.heap_39 := by k_fill; exact ⟨rfl, rfl⟩
/-- what is around a call: no exception in hand, a frame of a def on top -/
abbrev myA (dp un : Nat) (gd : Option (List Code)) (env : Env) (outer : List Env) : Around := { handled := none, depth := dp, frames := some (env :: outer), guards := gd, units := un }
theorem myA_depth (dp un : Nat) (gd : Option (List Code)) (env : Env) (outer : List Env) : (myA dp un gd env outer).depth = dp := rfl
theorem myA_units (dp un : Nat) (gd : Option (List Code)) (env : Env) (outer : List Env) : (myA dp un gd env outer).units = un := rfl
/-- the ground of a call -/
structure Cx (w : World) (p : Program) (loose : List Str) (mean : ExcName → Option Value) (mg mb : Str → Option Value) (A : Around) (dp un : Nat) (env : Env) (outer : List Env) (A₀ : Around) (base h₀ : Heap) (L : Addr) : Prop where
  B : Below A₀ base outer h₀
  X : (hd.heap_39 w.params).In h₀
  T : Top p loose mean mg mb h₀
  k : env.scope.kind = .function
  f : env.frame = some L
  d : A.depth ≤ dp
  u : A.units ≤ un
  fr : A.frames = some (env :: outer)
  hh : A.handled = none

section
variable {w : World} {A : Around} {E : Value → Shared → Prop} {s : Shared} {x dx L : Addr} {xs : Array Value} {e : Nat} {h₀ : Heap} {m : Str → Option Value} {news news' : List (Addr × Obj)}
theorem upd_at {h h' : Heap} {D : Addr} {o o' : Obj} (F : Fr h₀ L h m) (N : News h₀ L h news) (U : Upd D o o' news news') (hs : Heap.SameBut D h h') (ho : h'.get? D = some o') : Fr h₀ L h' m ∧ News h₀ L h' news' := by
  obtain ⟨pre, post, rfl, rfl, a, b⟩ := U.split
  have z := N (D, o) (List.mem_append.mpr (.inr (.head _)))
  exact ⟨F.change hs z.2.1 z.2.2, news_set N a b hs ho⟩
theorem upd_mem {D : Addr} {o o' : Obj} {l l' : List (Addr × Obj)} (U : Upd D o o' l l') : (D, o) ∈ l := by
  obtain ⟨pre, post, rfl, _, _, _⟩ := U.split
  exact List.mem_append.mpr (.inr (.head _))
theorem remove_K {l : List (Int × Tok)} {v : Int} {u : Tok} {Q : Value → Shared → Prop} (X : (hd.heap_39 w.params).In s.heap) (F : Fr h₀ L s.heap m) (N : News h₀ L s.heap news) (U : Upd x (domO dx (iv l).toArray e) (domO dx (iv (l.eraseP (eqv v))).toArray (e + 1)) news news') (hex : ∃ p ∈ l, p.1 = v) (hlen : l.length ≤ 1000)
    (h : ∀ h', Fr h₀ L h' m → News h₀ L h' news' → Q .none { s with heap := h' }) :
    wpAny (model PW w) A (call (.builtin "list.remove") [.ref x, .int v u]) Q E s :=
  dom_remove X (N _ (upd_mem U)).1 hex hlen fun h' hs ho => let z := upd_at F N U hs ho; h h' z.1 z.2
theorem append_iv {D : Addr} {l : List (Int × Tok)} {f : Nat} {v : Int} {u : Tok} {Q : Value → Shared → Prop} (F : Fr h₀ L s.heap m) (N : News h₀ L s.heap news) (U : Upd D (listOf (iv l).toArray f) (listOf (iv (l ++ [(v, u)])).toArray (f + 1)) news news') (hlen : l.length ≤ 1000)
    (h : ∀ h', Fr h₀ L h' m → News h₀ L h' news' → Q .none { s with heap := h' }) : wpAny (model PW w) A (call (.builtin "list.append") [.ref D, .int v u]) Q E s :=
  append_K F N (by have e : (iv l).toArray.push (.int v u) = (iv (l ++ [(v, u)])).toArray := by simp [iv]
                   rw [e]; exact U) h (by rw [List.size_toArray, iv_len, sizeLine_eq]; omega)
theorem pop_iv {D : Addr} {l : List (Int × Tok)} {f : Nat} {v : Int} {u : Tok} {Q : Value → Shared → Prop} (F : Fr h₀ L s.heap m) (N : News h₀ L s.heap news) (U : Upd D (listOf (iv (l ++ [(v, u)])).toArray f) (listOf (iv l).toArray (f + 1)) news news') (hlen : l.length ≤ 1000)
    (h : ∀ h', Fr h₀ L h' m → News h₀ L h' news' → Q (.int v u) { s with heap := h' }) : wpAny (model PW w) A (call (.builtin "list.pop") [.ref D]) Q E s :=
  kl_pop (p := iv l) (y := .int v u) F N (by simp only [iv_app]; exact kpa_last _ _) U (by simp [iv]; rw [sizeLine_eq]; omega) h
theorem len_iv {l : List (Int × Tok)} {Q : Value → Shared → Prop} (X : (hd.heap_39 w.params).In s.heap) (N : News h₀ L s.heap news) (hx : (x, domO dx (iv l).toArray e) ∈ news) (hlen : l.length ≤ 1000) (h : ∀ u tk', Q (.int (l.length : Int) u) { s with toks := tk' }) :
    wpAny (model PW w) A (call (.builtin "len") [.ref x]) Q E s :=
  dom_len X (N _ hx).1 (by simpa [iv] using hlen) fun u tk' => by simpa [iv] using h u tk'
theorem truthy_iv {l : List (Int × Tok)} {Q : Bool → Shared → Prop} (X : (hd.heap_39 w.params).In s.heap) (N : News h₀ L s.heap news) (hx : (x, domO dx (iv l).toArray e) ∈ news) (hlen : l.length ≤ 1000) (h : ∀ tk', Q (l.length != 0) { s with toks := tk' }) :
    wpAny (model PW w) A (truthy (.ref x)) Q E s :=
  dom_truthy X (N _ hx).1 (by simpa [iv] using hlen) fun tk' => by simpa [iv] using h tk'
theorem hidden_K {expr : Bool} {Q : Value → Shared → Prop} {hdA st : Addr} {t1 t2 : Tok} {e2 : Nat} (X : (hd.heap_39 w.params).In s.heap) (N : News h₀ L s.heap news) (hx : (x, domO dx xs e) ∈ news) (hdx : (dx, domD w.params t1 t2 hdA st e2) ∈ news) (h : Q (.ref hdA) { s with toks := s.toks + 1 }) :
    wpAny (model PW w) A (getAttr (.ref x) "_hidden" expr) Q E s := dom_hidden X (N _ hx).1 (N _ hdx).1 h
theorem states_K {expr : Bool} {Q : Value → Shared → Prop} {hdA st : Addr} {t1 t2 : Tok} {e2 : Nat} (X : (hd.heap_39 w.params).In s.heap) (N : News h₀ L s.heap news) (hx : (x, domO dx xs e) ∈ news) (hdx : (dx, domD w.params t1 t2 hdA st e2) ∈ news) (h : Q (.ref st) { s with toks := s.toks + 1 }) :
    wpAny (model PW w) A (getAttr (.ref x) "_states" expr) Q E s := dom_states X (N _ hx).1 (N _ hdx).1 h
theorem meth_K {name : Str} {pl : Sem Bool} {Q : Value × List Value → Shared → Prop} {f T : Value} {od : Obj} (X : (hd.heap_39 w.params).In s.heap) (N : News h₀ L s.heap news) (hx : (x, domO dx xs e) ∈ news) (hdx : (dx, od) ∈ news)
    (hf : findIn (hd.heap_39 w.params) (.ref 303) name = some (some f)) (ht : ∀ M h, (hd.heap_39 w.params).In h → Looks M h (typeOf f) T) (hT : (T != Value.type "function" && T != Value.type "method_descriptor" && T != Value.type "wrapper_descriptor") = false) (hs : shadowIn (some od) name = some false) (h : Q (f, [.ref x]) s) :
    wpAny (model PW w) A (getMethod (.ref x) name pl) Q E s :=
  methodL (K := hd.heap_39 w.params) X ⟨(N _ hx).1, rfl, rfl, (N _ hdx).1⟩ (by k_is) (by k_is) hf (ht _ _ X) hT hs h
end
local macro_rules | `(tactic| k_all) => `(tactic| assumption)
local macro_rules | `(tactic| ktr_room) => `(tactic| (simp only [depth_under_make, depth_under_kw, depth_in1, depth_deeper, depth_caller, recursionLimit] at *; omega))
local macro_rules | `(tactic| walk_at "getAttr ref") => `(tactic| (k_here; (with_reducible show wpAny _ _ (getAttr (Value.ref _) (PySem.Str.ofString "_hidden") _) _ _ _); k_dflt (refine' hidden_K ?k1 ?k2 ?k3 ?k4 ?_; (case k1 => k_in); (case k2 => k_asm); (case k3 => k_mem); (case k4 => k_mem); k_whole)))
local macro_rules | `(tactic| walk_at "getAttr ref") => `(tactic| (k_here; (with_reducible show wpAny _ _ (getAttr (Value.ref _) (PySem.Str.ofString "_states") _) _ _ _); k_dflt (refine' states_K ?k1 ?k2 ?k3 ?k4 ?_; (case k1 => k_in); (case k2 => k_asm); (case k3 => k_mem); (case k4 => k_mem); k_whole)))
local macro_rules | `(tactic| walk_at "getMethod ref") => `(tactic| (k_here; k_dflt (refine' meth_K ?k1 ?k2 ?k3 ?k4 ?k5 ?k6 ?k7 ?k8 ?_; (case k1 => k_in); (case k2 => k_asm); (case k3 => k_mem); (case k4 => k_mem); (case k5 => k_is); (case k6 => first | (intro M h X; exact looks_typeIn X (by k_is)) | (intro M h X; exact Looks.of_pure (by first | exact PySem.F.type_list_remove | exact PySem.F.type_list_extend))); (case k7 => decide); (case k8 => first | rfl | decide +kernel); k_whole)))
local macro_rules | `(tactic| walk_at "call builtin:list.remove") => `(tactic| (k_here; k_dflt (refine' remove_K ?k1 ?k2 ?k3 ?k4 ?k5 ?k6 ?_; (case k1 => k_in); (case k2 => k_asm); (case k3 => k_asm); (case k4 => k_upd); (case k5 => assumption); (case k6 => assumption); k_whole; intro h' F' N'; (try k_sweep))))
local macro_rules | `(tactic| walk_at "call builtin:list.append") => `(tactic| (k_here; k_dflt (refine' append_iv ?k1 ?k2 ?k3 ?k4 ?_; (case k1 => k_asm); (case k2 => k_asm); (case k3 => k_upd); (case k4 => assumption); k_whole; intro h' F' N'; (try k_sweep))))
local macro_rules | `(tactic| walk_at "call builtin:list.pop") => `(tactic| (k_here; (with_reducible show wpAny _ _ (call (Value.builtin _) [Value.ref _]) _ _ _); k_dflt (refine' pop_iv ?k1 ?k2 ?k3 ?k4 ?_; (case k1 => k_asm); (case k2 => k_asm); (case k3 => k_upd); (case k4 => assumption); k_whole; intro h' F' N'; (try k_sweep))))
local macro_rules | `(tactic| walk_at "call builtin:list.pop") => `(tactic| (dsimp only; fail_if_success (with_reducible show wpAny _ _ (call (Value.builtin _) (Prod.snd _)) _ _ _)))
local macro_rules | `(tactic| walk_at "call builtin:len") => `(tactic| (k_here; (with_reducible show wpAny _ _ (call (Value.builtin "len") [Value.ref _]) _ _ _); k_dflt (refine' len_iv ?k1 ?k2 ?k3 ?k4 ?_; (case k1 => k_in); (case k2 => k_asm); (case k3 => k_mem); (case k4 => assumption); k_whole); intro u' tk'))
local macro_rules | `(tactic| walk_at "truthy ref") => `(tactic| (k_here; k_dflt (refine' truthy_iv ?k1 ?k2 ?k3 ?k4 ?_; (case k1 => k_in); (case k2 => k_asm); (case k3 => k_mem); (case k4 => assumption); k_whole); intro tk'))
local macro_rules | `(tactic| ktr_enter) => `(tactic| (refine' code_def ?k1 ?k2 ?k3 ?k4 ?k5 ?kA ?kF ?kK ?k6 ?k7 ?k8 ?k9 ?kB ?_ ?c2 ?c3 ?c4 ?c5; (case kA => first | assumption | exact rfl); (case kF => first | assumption | exact rfl); (case kK => first | assumption | exact rfl); (case k1 => k_asm); (case k2 => k_asm); (case k3 => k_asm); (case k4 => k_asm); (case k5 => k_asm); (case k6 => k_is); (case k7 => k_is); (case k8 => ktr_room); (case k9 => first | exact BindsTo.of_eq rfl | exact binds_K (by k_in) rfl (by k_is) rfl rfl rfl); (case c5 => decide); (case kB => exact locs rfl); (case c2 => exact rfl); (case c3 => exact rfl); (case c4 => exact rfl); k_whole; intro g' L' h' FG' F' N' B' X' T'; (try dsimp only); (try k_fold)))
section
variable {w : World} {p : Program} {loose : List Str} {mean : ExcName → Option Value} {mg mb : Str → Option Value} {A : Around} {env : Env} {outer : List Env} {A₀ : Around} {base h₀ : Heap} {L : Addr} {m : Str → Option Value} {s : Shared} {Q E : Value → Shared → Prop} {rest : List (Addr × Obj)} {x dx hdA st : Addr} {t1 t2 : Tok} {e e2 f g : Nat} {l hs ss : List (Int × Tok)}
theorem hide_c {v : Int} {u : Tok} (cx : Cx w p loose mean mg mb A 900 9000 env outer A₀ base h₀ L) (F : Fr h₀ L s.heap m)
    (N : News h₀ L s.heap ((x, domO dx (iv l).toArray e) :: (dx, domD w.params t1 t2 hdA st e2) :: (hdA, listOf (iv hs).toArray f) :: rest))
    (n1 : @Ne Nat x dx) (n2 : @Ne Nat x hdA) (n3 : @Ne Nat dx hdA) (r1 : ∀ p ∈ rest, p.1 ≠ x) (r2 : ∀ p ∈ rest, p.1 ≠ dx) (r3 : ∀ p ∈ rest, p.1 ≠ hdA) (hex : ∃ p ∈ l, p.1 = v) (hl : l.length ≤ 1000) (hhs : hs.length ≤ 1000)
    (ret : ∀ h' tk' e' f', Fr h₀ L h' m → News h₀ L h' ((x, domO dx (iv (l.eraseP (eqv v))).toArray e') :: (dx, domD w.params t1 t2 hdA st e2) :: (hdA, listOf (iv (hs ++ [(v, u)])).toArray f') :: rest) → Q .none { s with heap := h', toks := tk' }) :
    wpAny (model PW w) A (call (.ref 300) [.ref x, .int v u]) Q E s := by
  obtain ⟨B, X, T, hk, hf, hd, hu, hfr, hhd⟩ := cx
  refine wpAny_call ?_
  k_dflt ktr_enter
  k_steps
  exact ret _ _ _ _ (by k_asm) (by k_asm)
end
end Mine
end
section
open PySem PySem.W PySem.W.X PyProof.Rows PySem.Calls PySem.Spec
set_option Elab.async false
set_option maxRecDepth 100000
set_option maxHeartbeats 8000000
namespace Mine
theorem filled5 : PySem.Challenge.rw_aw5017_04 = PySem.Challenge.rw_aw5017_04 ∧ hd.heap_39 = hd.heap_39 := by k_fill; exact ⟨rfl, rfl⟩
/-- what is left behind a slice object's making -/
def SliceThen (M : Model) (A : Around) (value slice : Expr) (o vl vu : Value) (Q : Value → Shared → Prop) (E : Value → Shared → Prop) (s : Shared) : Prop :=
  wpAny M A (subscriptTail value slice o (.ref s.heap.objs.size)) Q E { s with heap := s.heap.push { cls := .type "slice", data := .fields #[vl, vu, .none] } }
theorem SubSlice_ {M : Model} {A : Around} {E : Value → Shared → Prop} {s : Shared} {env : Env} {value : Expr} {lower upper : Option Expr} {p pos : Pos} {Q : Value → Shared → Prop}
    (h : wpAny M A (eval value env) (fun o s₁ => wpAny M A (evalPart lower env) (fun vl s₂ => wpAny M A (evalPart upper env) (fun vu s₃ => SliceThen M A value (.Slice lower upper none p) o vl vu Q E s₃) E s₂) E s₁) E s) :
    wpAny M A (eval (.Subscript value (.Slice lower upper none p) pos) env) Q E s :=
  Subscript_ (wpAny_mono h (fun o s₁ h₁ => wpAny_Slice (wpAny_mono h₁ (fun vl s₂ h₂ => wpAny_mono h₂ (fun vu s₃ h₃ => by rw [evalPart_none]; exact wpAny_pure h₃) fun _ _ z => z) fun _ _ z => z)) fun _ _ z => z)
/-- a Domain or a plain list with these items -/
inductive Listish (h : Heap) (l : Addr) (xs : Array Value) : Prop where
  | plain (n : Nat) (e : h.get? l = some (listOf xs n)) : Listish h l xs
  | dom (dx : Addr) (n : Nat) (e : h.get? l = some (domO dx xs n)) : Listish h l xs
section
variable {w : World} {A : Around} {E : Value → Shared → Prop} {s : Shared} {x dx L l sl : Addr} {xs : Array Value} {e : Nat} {h₀ : Heap} {m : Str → Option Value} {news news' : List (Addr × Obj)}
theorem callSpecial_dom {name : Str} {id : String} {args : List Value} {Q : Option Value → Shared → Prop} (X : (hd.heap_39 w.params).In s.heap) (hx : s.heap.get? x = some (domO dx xs e)) (hf : findIn (hd.heap_39 w.params) (.ref 303) name = some (some (.builtin id))) (hb : bindSpecial (.builtin id) (.ref x) = pure (.builtin id, [.ref x]))
    (h : wpAny (model PW w) A (call (.builtin id) (.ref x :: args)) (fun v => Q (some v)) E s) : wpAny (model PW w) A (callSpecial? (.ref x) name args) Q E s := by
  unfold callSpecial? specialOf
  refine wpAny_bind (wpAny_bind ((dom_type hx).here ((looks_findIn X hf).here ?_)))
  dsimp only
  refine wpAny_holding ?_
  rw [hb]
  refine wpAny_bind (wpAny_pure ?_)
  exact wpAny_bind (wpAny_mono h (fun v s' z => wpAny_pure z) fun _ _ z => z)
theorem getItem_slice_dom {vl vu : Value} {lo hi : Option Int} {Q : Value → Shared → Prop} (X : (hd.heap_39 w.params).In s.heap) (hl : s.heap.get? l = some (domO dx xs e))
    (hs : s.heap.IsSliceOf sl vl vu .none) (pl : IsPart vl lo) (pu : IsPart vu hi) 
    (h : Q (.ref s.heap.objs.size) { s with heap := s.heap.push { cls := .type "list", data := .seq (slicePick xs lo hi none) } })
    (hsz : xs.size ≤ 1000) : wpAny (model PW w) A (getItem (.ref l) (.ref sl)) Q E s := by
  obtain ⟨os, hos, hcs, hds⟩ := id hs
  have hTs : s.TypeIs (.ref sl) "slice" := ⟨os, hos, hcs⟩
  have hsz' : xs.size ≤ sizeLine := by rw [sizeLine_eq]; omega
  unfold getItem sequenceKey
  refine wpAny_holding (wpAny_bind (wpAny_bind ((dom_type hl).here ?_)))
  refine wpAny_bind ((anyM_none X (show noSeq (hd.heap_39 w.params) 303 = true by k_is)).here ?_)
  rw [if_pos (show (!false) = true from rfl)]
  refine wpAny_pure (wpAny_bind (callSpecial_dom X hl (by k_is) (slot_list_getitem.bind _) ?_))
  refine call_dom (n := "__getitem__") (k := .method) X hl slot_list_getitem.plain entry_list_getitem (by decide +kernel) (by decide +kernel) (.inr rfl) (args_list_getitem _ _) ?_
  show wpAny _ _ (Builtin.List.listSubscript? (.ref sl) >>= _) _ _ s
  refine wpAny_bind ?_
  unfold Builtin.List.listSubscript?
  refine wpAny_bind (wpAny_specialOf hTs slice_no_index ?_)
  simp only [Option.isNone_none, if_true]
  refine wpAny_pure ?_
  show wpAny _ _ (typeOf (.ref sl) >>= _) _ _ s
  refine wpAny_bind (wpAny_typeOf hTs ?_)
  rw [if_neg (by decide)]
  rw [listSliceParts_eq]
  refine wpAny_bind (wpAny_bind (wpAny_field hos hds (x := .none) rfl (wpAny_bind (wpAny_listPart .none ?_))))
  rw [if_neg (show ¬ ((rawPart none == rawInt 0) = true) from Bool.false_ne_true)]
  refine wpAny_bind (wpAny_field hos hds (x := vl) rfl (wpAny_bind (wpAny_listPart pl ?_)))
  refine wpAny_bind (wpAny_field hos hds (x := vu) rfl (wpAny_bind (wpAny_listPart pu (wpAny_pure ?_))))
  refine wpAny_bind (m := Builtin.List.listItems (.ref l)) ?_
  refine wpAny_listItems hl rfl ?_
  refine wpAny_bind (wpAny_of_eq (sliceIndices_raw lo hi none xs.size (by simp)) ?_)
  exact wpAny_bind (wpAny_newObj_type (wpAny_pure (wpAny_pure h)) (Nat.le_trans (slicePick_size_le xs lo hi none) hsz'))
theorem tail_open {o i : Value} {value slice : Expr} {Q : Value → Shared → Prop} {prog : Program} {r : Option Value} (hl : Looks (model prog w) s.heap (specialOf o "__getitem__") r) (hr : (match r with | some (.ref _) => False | _ => True)) (hm : o ≠ .builtin "sys.modules#opaque") (h : wpAny (model prog w) A (getItem o i) Q E s)
    (hs : subscripted slice false o i = operate [i, o] (getItem o i)) : wpAny (model prog w) A (subscriptTail value slice o i) Q E s := by
  unfold subscriptTail
  refine wpAny_bind ?_
  rw [getitemInPython_of_ne hm]
  refine wpAny_bind (hl.here ?_)
  have fin : wpAny (model prog w) A (subscripted slice false o i) (fun r s₃ => wpAny (model prog w) A (letTemporaryGo value o r >>= fun _ => pure r) Q E s₃) E s := by
    rw [hs]
    exact wpAny_operating (wpAny_mono h (fun r s₃ h₃ => wpAny_bind (wpAny_letTemporaryGo (wpAny_pure h₃))) fun _ _ z => z)
  cases r with
  | none => exact wpAny_pure (wpAny_bind fin)
  | some v => cases v <;> first | exact hr.elim | exact wpAny_pure (wpAny_bind fin)
theorem sliceThen_K {vl vu : Value} {lo hi : Option Int} {o : Obj} {value : Expr} {lo' up' : Option Expr} {p : Pos} {Q : Value → Shared → Prop} (X : (hd.heap_39 w.params).In s.heap) (F : Fr h₀ L s.heap m) (N : News h₀ L s.heap news) (hl : (l, o) ∈ news) (ho : (o = domO dx xs e ∨ o = listOf xs e)) (pl : IsPart vl lo) (pu : IsPart vu hi) (hsz : xs.size ≤ 1000)
    (h : ∀ a h', Fr h₀ L h' m → News h₀ L h' ((a, listOf (slicePick xs lo hi none) 0) :: news) → (∀ p ∈ news, p.1 < a) → Q (.ref a) { s with heap := h' }) :
    SliceThen (model PW w) A value (.Slice lo' up' none p) (.ref l) vl vu Q E s := by
  unfold SliceThen
  have hlt : ∀ p ∈ news, p.1 < s.heap.objs.size := fun p hp => Heap.lt_size (N p hp).1
  have X1 : (hd.heap_39 w.params).In (s.heap.push { cls := .type "slice", data := .fields #[vl, vu, .none] }) := fun a ob ho => Heap.get?_push_of_some _ (X a ob ho)
  have F1 := F.push { cls := .type "slice", data := .fields #[vl, vu, .none] }
  have N1 := N.push F { cls := .type "slice", data := .fields #[vl, vu, .none] }
  have hs : (s.heap.push { cls := .type "slice", data := .fields #[vl, vu, .none] }).IsSliceOf s.heap.objs.size vl vu .none := Heap.IsSliceOf.new ..
  have hob := (N1 _ (.tail _ hl)).1
  have fin : Q (.ref ((s.heap.push { cls := .type "slice", data := .fields #[vl, vu, .none] }).objs.size)) { s with heap := (s.heap.push { cls := .type "slice", data := .fields #[vl, vu, .none] }).push { cls := .type "list", data := .seq (slicePick xs lo hi none) } } := by
    refine h _ _ (F1.push _) ?_ (fun p hp => Nat.lt_trans (hlt p hp) (by rw [Heap.size_push]; exact Nat.lt_succ_self _))
    have N2 := N1.push F1 { cls := .type "list", data := .seq (slicePick xs lo hi none) }
    intro p hp
    rcases List.mem_cons.mp hp with rfl | hp
    · exact N2 _ (.head _)
    · exact N2 _ (.tail _ (.tail _ hp))
  have hsz' : xs.size ≤ sizeLine := by rw [sizeLine_eq]; omega
  rcases ho with rfl | rfl
  · have L1 : Looks (model PW w) (s.heap.push { cls := .type "slice", data := .fields #[vl, vu, .none] }) (specialOf (.ref l) "__getitem__") (some (.builtin "list.__getitem__")) := (dom_type hob).andThen (looks_findIn X1 (by k_is))
    exact tail_open L1 trivial (by simp) (getItem_slice_dom X1 hob hs pl pu fin hsz) rfl
  · have L1 : Looks (model PW w) (s.heap.push { cls := .type "slice", data := .fields #[vl, vu, .none] }) (specialOf (.ref l) "__getitem__") (some (.builtin "list.__getitem__")) := ((Looks.ld (part := some headPart) hob).andThen .now).andThen (Looks.of_pure slot_list_getitem.lookup)
    exact tail_open L1 trivial (by simp) (wpAny_getItem_list_slice ⟨_, hob, rfl, _, rfl⟩ hs pl pu .none (by simp) fin hsz') rfl
end
end Mine
end
section
open PySem PySem.W PySem.W.X PyProof.Rows PySem.Calls PySem.Spec
set_option Elab.async false
set_option maxRecDepth 100000
set_option maxHeartbeats 8000000
namespace Mine
theorem filled6 : PySem.Challenge.rw_aw5017_04 = PySem.Challenge.rw_aw5017_04 ∧ hd.heap_39 = hd.heap_39 := by k_fill; exact ⟨rfl, rfl⟩
theorem zip_cut {sel : Nat → Bool} {a n : Nat} (hs : ∀ i, i < n → sel i = decide (a ≤ i)) : ∀ (l : List Value) (k : Nat), k + l.length ≤ n → ((l.zipIdx k).filterMap fun p => if sel p.2 then none else some p.1) = l.take (a - k)
  | [], k, _ => by simp
  | x :: r, k, h => by
    simp only [List.length_cons] at h
    rw [List.zipIdx_cons, List.filterMap_cons]
    simp only [hs k (by omega)]
    by_cases hk : a ≤ k
    · rw [decide_eq_true hk]
      simp only [if_true]
      rw [zip_cut hs r (k + 1) (by omega), show a - (k + 1) = 0 by omega, show a - k = 0 by omega]
      simp
    · rw [decide_eq_false hk]
      simp only [Bool.false_eq_true, if_false]
      rw [zip_cut hs r (k + 1) (by omega), show a - k = (a - (k + 1)) + 1 by omega, List.take_succ_cons]
theorem fin_obj {ys zs : List Value} {n e : Nat} (h : ys = zs) : some ({ cls := .type "list", data := .seq ys.toArray (if (ys.toArray.size == n) = true then e else e + 1) } : Obj) = some (listOf zs.toArray (if (zs.toArray.size == n) = true then e else e + 1)) := by subst h; rfl
section
variable {w : World} {A : Around} {E : Value → Shared → Prop} {s : Shared} {x dx L l sl : Addr} {xs : Array Value} {e : Nat} {h₀ : Heap} {m : Str → Option Value} {news news' : List (Addr × Obj)}
theorem del_slice {vl : Value} {lo : Option Int} {a : Nat} {prog : Program} {Q : Unit → Shared → Prop} (hl : s.heap.get? l = some (listOf xs e))
    (hs : s.heap.IsSliceOf sl vl .none .none) (pl : IsPart vl lo) (ha : (sliceBounds lo none none xs.size).1 = (a : Int)) (hsz : xs.size ≤ 1000)
    (h : ∀ h' e', Heap.SameBut l s.heap h' → h'.get? l = some (listOf (xs.toList.take a).toArray e') → Q () { s with heap := h' }) :
    wpAny (model prog w) A (delItem (.ref l) (.ref sl)) Q E s := by
  obtain ⟨os, hos, hcs, hds⟩ := id hs
  have hTs : s.TypeIs (.ref sl) "slice" := ⟨os, hos, hcs⟩
  have hT : s.TypeIs (.ref l) "list" := ⟨_, hl, rfl⟩
  refine wpAny_delItem_slot hT (by decide) PySem.F.slot_list_delitem ?_
  refine wpAny_call_entry PySem.F.slot_list_delitem hT PySem.F.entry_list_delitem ?_ (PySem.F.args_list_delitem_2 _ _)
  show wpAny _ _ (Builtin.List.listSubscript? (.ref sl) >>= _) _ _ s
  refine wpAny_bind ?_
  unfold Builtin.List.listSubscript?
  refine wpAny_bind (wpAny_specialOf hTs slice_no_index ?_)
  simp only [Option.isNone_none, if_true]
  refine wpAny_pure ?_
  show wpAny _ _ (typeOf (.ref sl) >>= _) _ _ s
  refine wpAny_bind (wpAny_typeOf hTs ?_)
  rw [if_neg (by decide)]
  rw [listSliceParts_eq]
  refine wpAny_bind (wpAny_bind (wpAny_field hos hds (x := .none) rfl (wpAny_bind (wpAny_listPart .none ?_))))
  rw [if_neg (show ¬ ((rawPart none == rawInt 0) = true) from Bool.false_ne_true)]
  refine wpAny_bind (wpAny_field hos hds (x := vl) rfl (wpAny_bind (wpAny_listPart pl ?_)))
  refine wpAny_bind (wpAny_field hos hds (x := .none) rfl (wpAny_bind (wpAny_listPart .none (wpAny_pure ?_))))
  refine wpAny_bind (m := Builtin.List.listItems (.ref l)) (wpAny_listItems hl rfl ?_)
  refine wpAny_bind (wpAny_of_eq (sliceIndices_raw lo none none xs.size (by simp)) ?_)
  refine wpAny_bind (wpAny_rule ?_)
  have hb : (sliceBounds lo none none xs.size) = ((a : Int), (xs.size : Int), 1) := by
    have : (sliceBounds lo none none xs.size) = ((sliceBounds lo none none xs.size).1, (xs.size : Int), 1) := by simp [sliceBounds]
    rw [this, ha]
  rw [hb]
  dsimp only
  have key : ∀ sel : Nat → Bool, (∀ i, sel i = (decide ((a : Int) ≤ (i : Int)) && decide ((i : Int) < (xs.size : Int)) && ((((i : Int) - (a : Int)) % 1) == 0))) → ((xs.toList.zipIdx.filterMap fun p => if sel p.2 then none else some p.1)) = xs.toList.take a := fun sel hsel => by
    have := zip_cut (sel := sel) (a := a) (n := xs.size) (fun i hi => by
      rw [hsel i]
      have e1 : (((i : Int) - (a : Int)) % 1) = 0 := by omega
      rw [e1]
      have : ((i : Int) < (xs.size : Int)) := by omega
      simp [this]) xs.toList 0 (by simp)
    simpa using this
  refine wpAny_bind (wpAny_updateSeq hl rfl ?_ (by rw [sizeLine_eq]; omega) ?_)
  · refine wpAny_bind (wpAny_letGo (wpAny_pure ⟨_, rfl, h _ (if (xs.toList.take a).toArray.size == xs.size then e else e + 1) (Heap.SameBut.update ..) ?_⟩))
    rw [Heap.get?_update_self _ hl rfl]
    show some (Obj.mapSeq _ _) = _
    unfold Obj.mapSeq
    dsimp only
    exact fin_obj (key _ (fun i => rfl))
  · refine Nat.le_trans (Nat.le_of_eq (congrArg Array.size (congrArg List.toArray (key _ (fun i => rfl))))) ?_
    simp
    rw [sizeLine_eq]
    omega
end
end Mine
end
section
open PySem PySem.W PySem.W.X PyProof.Rows PySem.Calls PySem.Spec
set_option Elab.async false
set_option maxRecDepth 100000
set_option maxHeartbeats 8000000
namespace Mine
theorem filled7 : PySem.Challenge.rw_aw5017_04 = PySem.Challenge.rw_aw5017_04 ∧ hd.heap_39 = hd.heap_39 := by k_fill; exact ⟨rfl, rfl⟩
theorem news_tl {h₀ h : Heap} {L : Addr} {p : Addr × Obj} {l : List (Addr × Obj)} (N : News h₀ L h (p :: l)) : News h₀ L h l := fun q hq => N q (.tail _ hq)
def DelThen (M : Model) (A : Around) (o vl : Value) (Q : Unit → Shared → Prop) (E : Value → Shared → Prop) (s : Shared) : Prop :=
  wpAny M A (delItem o (.ref s.heap.objs.size)) Q E { s with heap := s.heap.push { cls := .type "slice", data := .fields #[vl, .none, .none] } }
theorem DelSlice_ {M : Model} {A : Around} {E : Value → Shared → Prop} {s : Shared} {env : Env} {value : Expr} {lower : Option Expr} {p pos : Pos} {Q : Unit → Shared → Prop}
    (h : wpAny M A (eval value env) (fun o s₁ => wpAny M A (evalPart lower env) (fun vl s₂ => DelThen M A o vl Q E s₂) E s₁) E s) :
    wpAny M A (delete (.Subscript value (.Slice lower none none p) pos) env) Q E s :=
  wpAny_delete_Subscript (wpAny_mono h (fun o s₁ h₁ => wpAny_Slice (wpAny_mono h₁ (fun vl s₂ h₂ => by rw [evalPart_none]; exact wpAny_pure (wpAny_pure h₂)) fun _ _ z => z)) fun _ _ z => z)
section
variable {w : World} {A : Around} {E : Value → Shared → Prop} {s : Shared} {x dx L l sl : Addr} {xs : Array Value} {e : Nat} {h₀ : Heap} {m : Str → Option Value} {news news' : List (Addr × Obj)}
theorem delThen_K {vl : Value} {lo : Option Int} {a : Nat} {prog : Program} {g : Obj → List (Addr × Obj)} {Q : Unit → Shared → Prop} (F : Fr h₀ L s.heap m) (N : News h₀ L s.heap news) (U : ∀ o', Upd l (listOf xs e) o' news (g o')) (pl : IsPart vl lo) (ha : (sliceBounds lo none none xs.size).1 = (a : Int)) (hsz : xs.size ≤ 1000)
    (h : ∀ h' e', Fr h₀ L h' m → News h₀ L h' (g (listOf (xs.toList.take a).toArray e')) → Q () { s with heap := h' }) : DelThen (model prog w) A (.ref l) vl Q E s := by
  unfold DelThen
  have hl := (N _ (upd_mem (U (listOf xs e)))).1
  have F1 := F.push { cls := .type "slice", data := .fields #[vl, .none, .none] }
  have N1 := N.push F { cls := .type "slice", data := .fields #[vl, .none, .none] }
  have N2 : News h₀ L (s.heap.push { cls := .type "slice", data := .fields #[vl, .none, .none] }) news := fun p hp => N1 p (.tail _ hp)
  refine del_slice (Heap.get?_push_of_some _ hl) (Heap.IsSliceOf.new ..) pl ha hsz fun h' e' hs ho => ?_
  obtain ⟨F3, N3⟩ := upd_at F1 N2 (U _) hs ho
  exact h h' e' F3 N3
theorem bounds_last (d n : Nat) (h0 : 0 < d) (h1 : d ≤ n) : (sliceBounds (some (-(d : Int))) none none n).1 = ((n - d : Nat) : Int) := by
  simp only [sliceBounds, Option.getD_none]
  rw [if_pos (by omega), if_pos (by omega)]
  omega
theorem bounds_all (n : Nat) : (sliceBounds none none none n).1 = ((0 : Nat) : Int) := by simp [sliceBounds]
theorem pick_last (l : List (Int × Tok)) (d : Nat) (h : 1 ≤ d) : slicePick (iv l).toArray (some (-(d : Int))) none none = (iv (l.drop (l.length - d))).toArray := by
  rw [slicePick_last _ _ h]; simp [iv]
/-- self._hidden[-diff:] -/
theorem sliceLast_K {hs : List (Int × Tok)} {d : Int} {u : Tok} {value : Expr} {lo' up' : Option Expr} {p : Pos} {Q : Value → Shared → Prop} (X : (hd.heap_39 w.params).In s.heap) (F : Fr h₀ L s.heap m) (N : News h₀ L s.heap news) (hl : (l, listOf (iv hs).toArray e) ∈ news) (h0 : 0 < d) (hsz : hs.length ≤ 1000)
    (h : ∀ a h', Fr h₀ L h' m → News h₀ L h' ((a, listOf (iv (hs.drop (hs.length - d.toNat))).toArray 0) :: news) → (∀ p ∈ news, p.1 < a) → Q (.ref a) { s with heap := h' }) :
    SliceThen (model PW w) A value (.Slice lo' up' none p) (.ref l) (.int (-d) u) .none Q E s := by
  obtain ⟨k, rfl⟩ : ∃ k : Nat, d = k := ⟨d.toNat, by omega⟩
  refine sliceThen_K (dx := 0) X F N hl (.inr rfl) (.int _ _) .none (by simpa [iv] using hsz) fun a h' F' N' hlt => ?_
  rw [pick_last _ _ (by omega)] at N'
  exact h a h' F' (by simpa using N') hlt
theorem sliceAll_K {l' : List (Int × Tok)} {o : Obj} {value : Expr} {lo' up' : Option Expr} {p : Pos} {Q : Value → Shared → Prop} (X : (hd.heap_39 w.params).In s.heap) (F : Fr h₀ L s.heap m) (N : News h₀ L s.heap news) (hl : (l, o) ∈ news) (ho : o = domO dx (iv l').toArray e ∨ o = listOf (iv l').toArray e) (hsz : l'.length ≤ 1000)
    (h : ∀ a h', Fr h₀ L h' m → News h₀ L h' ((a, listOf (iv l').toArray 0) :: news) → (∀ p ∈ news, p.1 < a) → Q (.ref a) { s with heap := h' }) :
    SliceThen (model PW w) A value (.Slice lo' up' none p) (.ref l) .none .none Q E s := by
  refine sliceThen_K X F N hl ho .none .none (by simpa [iv] using hsz) fun a h' F' N' hlt => ?_
  rw [slicePick_all] at N'
  exact h a h' F' N' hlt
/-- del self._hidden[-diff:] -/
theorem delLast_K {hs : List (Int × Tok)} {d : Int} {u : Tok} {prog : Program} {g : Obj → List (Addr × Obj)} {Q : Unit → Shared → Prop} (F : Fr h₀ L s.heap m) (N : News h₀ L s.heap news) (U : ∀ o', Upd l (listOf (iv hs).toArray e) o' news (g o')) (h0 : 0 < d) (h1 : d ≤ hs.length) (hsz : hs.length ≤ 1000)
    (h : ∀ h' e', Fr h₀ L h' m → News h₀ L h' (g (listOf (iv (hs.take (hs.length - d.toNat))).toArray e')) → Q () { s with heap := h' }) : DelThen (model prog w) A (.ref l) (.int (-d) u) Q E s := by
  obtain ⟨k, rfl⟩ : ∃ k : Nat, d = k := ⟨d.toNat, by omega⟩
  refine delThen_K (a := hs.length - k) F N U (.int _ _) (by rw [List.size_toArray, iv_len]; exact bounds_last _ _ (by omega) (by omega)) (by simpa [iv] using hsz) fun h' e' F' N' => h h' e' F' ?_
  have : (iv hs).toArray.toList.take (hs.length - k) = iv (hs.take (hs.length - k)) := by simp [iv]
  rw [this] at N'
  simpa using N'
theorem delAll_K {hs : List (Int × Tok)} {prog : Program} {g : Obj → List (Addr × Obj)} {Q : Unit → Shared → Prop} (F : Fr h₀ L s.heap m) (N : News h₀ L s.heap news) (U : ∀ o', Upd l (listOf (iv hs).toArray e) o' news (g o')) (hsz : hs.length ≤ 1000)
    (h : ∀ h' e', Fr h₀ L h' m → News h₀ L h' (g (listOf (iv []).toArray e')) → Q () { s with heap := h' }) : DelThen (model prog w) A (.ref l) .none Q E s := by
  refine delThen_K (a := 0) F N U .none (bounds_all _) (by simpa [iv] using hsz) fun h' e' F' N' => h h' e' F' ?_
  simpa [iv] using N'
theorem extend_iv {l1 l2 : List (Int × Tok)} {b : Addr} {n : Nat} {g : Obj → List (Addr × Obj)} {Q : Value → Shared → Prop} (X : (hd.heap_39 w.params).In s.heap) (F : Fr h₀ L s.heap m) (N : News h₀ L s.heap news) (U : ∀ o', Upd x (domO dx (iv l1).toArray e) o' news (g o')) (hb : (b, listOf (iv l2).toArray n) ∈ news) (hbx : @Ne Nat b x) (hlen : l1.length + l2.length ≤ 1000)
    (h : ∀ h' e', Fr h₀ L h' m → News h₀ L h' (g (domO dx (iv (l1 ++ l2)).toArray e')) → Q .none { s with heap := h' }) :
    wpAny (model PW w) A (call (.builtin "list.extend") [.ref x, .ref b]) Q E s :=
  dom_extend X (N _ (upd_mem (U (domO dx (iv l1).toArray e)))).1 (N _ hb).1 hbx (by simpa [iv] using hlen) fun h' e' hs ho => by
    have ho' : h'.get? x = some (domO dx (iv (l1 ++ l2)).toArray e') := by rw [ho]; simp [iv]
    let z := upd_at F N (U _) hs ho'
    exact h h' e' z.1 z.2
end
end Mine
end
section
open PySem PySem.W PySem.W.X PyProof.Rows PySem.Calls PySem.Spec
set_option Elab.async false
set_option maxRecDepth 100000
set_option maxHeartbeats 8000000
namespace Mine
theorem filled9 : PySem.Challenge.rw_aw5017_04 = PySem.Challenge.rw_aw5017_04 ∧ hd.heap_39 = hd.heap_39 := by k_fill; exact ⟨rfl, rfl⟩
/-- what a for does with its iterable -/
def ForThen (M : Model) (A : Around) (target : Expr) (body orelse : List Stmt) (env : Env) (Q : Flow → Shared → Prop) (E : Value → Shared → Prop) (x : Value) (s : Shared) : Prop :=
  wpAny M A (pyIter x) (fun it s₂ => codeAny M A (.forLoop target it body orelse env) (fun r s' => match r with | .ok f => Q f s' | .error e => cameBackBy M A env E e s') s₂) E s
theorem For_ {M : Model} {A : Around} {E : Value → Shared → Prop} {s : Shared} {env : Env} {target iter : Expr} {body orelse : List Stmt} {pos : Pos} {Q : Flow → Shared → Prop}
    (h : wpAny M A (eval iter env) (fun x s₁ => ForThen M A target body orelse env Q E x s₁) E s) (hs : ∀ x, foldedSetIterable iter env x = pure x := by intro _; rfl) :
    wpAny M A (exec (.For target iter body orelse pos) env) Q E s := wpAny_For h hs
/-- an object whose items are these -/
def SeqAt (h : Heap) (l : Addr) (vs : List Value) : Prop := ∃ o n, h.get? l = some o ∧ o.data = .seq vs.toArray n
abbrev itO (l : Addr) (i : Nat) : Obj := { cls := .type "list_iterator", data := .fields #[.ref l, .int i 0] }
section
variable {w : World} {A : Around} {E : Value → Shared → Prop} {s : Shared} {x dx L l I : Addr} {e : Nat} {h₀ : Heap} {m : Str → Option Value} {news news' : List (Addr × Obj)} {env : Env} {prog : Program}
theorem next_item {vs : List Value} {i : Nat} {v : Value} {Q : Option Value → Shared → Prop} (F : Fr h₀ L s.heap m) (N : News h₀ L s.heap ((I, itO l i) :: news)) (hI : ∀ p ∈ news, p.1 ≠ I) (hl : SeqAt s.heap l vs) (hx : vs[i]? = some v)
    (h : ∀ h', Fr h₀ L h' m → News h₀ L h' ((I, itO l (i + 1)) :: news) → Q (some v) { s with heap := h' }) : wpAny (model prog w) A (pyNext (.ref I)) Q E s := by
  obtain ⟨ol, nl, hol, hdl⟩ := hl
  have ho := (N _ (.head _)).1
  have hit : s.heap.IsListIter I l i := ⟨_, ho, rfl, rfl⟩
  unfold pyNext
  refine wpAny_bind (wpAny_attempt (wpAny_callSpecial?_slot (name := Str.ofString "__next__") hit.typeIs slot_listiter_next
    (wpAny_call_entry slot_listiter_next hit.typeIs entry_listiter_next ?_ (args_listiter_next _))))
  show wpAny _ _ (field (.ref I) 0 >>= _) _ _ s
  refine wpAny_bind (wpAny_field ho rfl (x := .ref l) rfl ?_)
  show wpAny _ _ (if (Value.ref l == Value.none) = true then _ else _) _ _ s
  rw [if_neg (show ¬ ((Value.ref l == Value.none) = true) from Bool.false_ne_true)]
  show wpAny _ _ (field (.ref I) 1 >>= _) _ _ s
  refine wpAny_bind (wpAny_field ho rfl (x := .int i 0) rfl ?_)
  show wpAny _ _ (seqItems? (.ref l) >>= _) _ _ s
  refine wpAny_bind (wpAny_seqItems hol hdl ?_)
  have hx' : vs.toArray[i]? = some v := by simpa using hx
  simp only [Int.toNat_natCast, hx']
  refine wpAny_bind (wpAny_setField ho rfl (by simp) (wpAny_pure ⟨v, rfl, wpAny_pure ?_⟩))
  have U : Upd I (itO l i) (itO l (i + 1)) ((I, itO l i) :: news) ((I, itO l (i + 1)) :: news) := .head hI
  obtain ⟨F', N'⟩ := upd_at F N U (Heap.SameBut.update s.heap I (Obj.mapFields fun vs => vs.setIfInBounds 1 (rawInt ((i : Int) + 1)))) (by
    have e1 := Heap.get?_update_self (Obj.mapFields fun vs => vs.setIfInBounds 1 (rawInt ((i : Int) + 1))) ho rfl
    rw [e1]; simp [Obj.mapFields, rawInt])
  exact h _ F' N'
theorem next_end {vs : List Value} {i : Nat} {Q : Option Value → Shared → Prop} (hh : A.handled = none) (F : Fr h₀ L s.heap m) (N : News h₀ L s.heap ((I, itO l i) :: news)) (hI : ∀ p ∈ news, p.1 ≠ I) (hl : SeqAt s.heap l vs) (hx : vs[i]? = none)
    (h : ∀ h', Fr h₀ L h' m → News h₀ L h' news → Q none { s with heap := h' }) : wpAny (model prog w) A (pyNext (.ref I)) Q E s := by
  obtain ⟨ol, nl, hol, hdl⟩ := hl
  have ho := (N _ (.head _)).1
  have hz := (N _ (.head _)).2
  have hit : s.heap.IsListIter I l i := ⟨_, ho, rfl, rfl⟩
  unfold pyNext
  refine wpAny_bind (wpAny_attempt (wpAny_callSpecial?_slot (name := Str.ofString "__next__") hit.typeIs slot_listiter_next
    (wpAny_call_entry slot_listiter_next hit.typeIs entry_listiter_next ?_ (args_listiter_next _))))
  show wpAny _ _ (field (.ref I) 0 >>= _) _ _ s
  refine wpAny_bind (wpAny_field ho rfl (x := .ref l) rfl ?_)
  show wpAny _ _ (if (Value.ref l == Value.none) = true then _ else _) _ _ s
  rw [if_neg (show ¬ ((Value.ref l == Value.none) = true) from Bool.false_ne_true)]
  show wpAny _ _ (field (.ref I) 1 >>= _) _ _ s
  refine wpAny_bind (wpAny_field ho rfl (x := .int i 0) rfl ?_)
  show wpAny _ _ (seqItems? (.ref l) >>= _) _ _ s
  refine wpAny_bind (wpAny_seqItems hol hdl ?_)
  have hx' : vs.toArray[i]? = none := by simpa using hx
  simp only [Int.toNat_natCast, hx']
  refine wpAny_bind (wpAny_rule (wpAny_bind (wpAny_setField ho rfl (by simp) ?_)))
  show wpAny _ _ (newExc (.type "StopIteration") [] >>= _) _ _ _
  refine wpAny_bind ?_
  simp only [newExc, newTuple]
  refine wpAny_bind (wpAny_newObj_type ?_ (by size_fits))
  refine wpAny_bind (m := firstArgMember _ _) (wpAny_of_eq (a := Value.none) (by first | rfl | (simp only [firstArgMember]; rfl)) ?_)
  refine wpAny_newObj_type ?_ (by size_fits)
  simp only [raiseNew]
  refine wpAny_bind (wpAny_handled ?_)
  rw [show A.in1.handled = none from hh]
  refine wpAny_bind (wpAny_pure (wpAny_throw ?_))
  refine wpAny_bind (wpAny_isInstance (T := "StopIteration") (b := true) ⟨_, Heap.get?_push_size _ rfl, rfl⟩ isSubtype_stop ?_)
  refine wpAny_pure (h _ ?_ ?_)
  · exact ((F.change (Heap.SameBut.update ..) hz.1 hz.2).push _).push _
  · intro p hp
    have q := N p (.tail _ hp)
    exact ⟨Heap.get?_push_of_some _ (Heap.get?_push_of_some _ ((Heap.get?_update_ne _ _ _ _ (hI p hp)).trans q.1)), q.2⟩
theorem iter_list {o : Obj} {vs : List Value} {n : Nat} {Q : Value → Shared → Prop} (F : Fr h₀ L s.heap m) (N : News h₀ L s.heap news) (hl : s.heap.get? l = some (listOf vs.toArray n))
    (h : ∀ I h', Fr h₀ L h' m → News h₀ L h' ((I, itO l 0) :: news) → (∀ p ∈ news, p.1 ≠ I) → (∀ b o, s.heap.get? b = some o → h'.get? b = some o) → Q (.ref I) { s with heap := h' }) : wpAny (model prog w) A (pyIter (.ref l)) Q E s :=
  wpAny_pyIter_list ⟨_, hl, rfl, _, rfl⟩ (h _ _ (F.push _) (N.push F _) (fun p hp => Nat.ne_of_lt (Heap.lt_size (N p hp).1)) fun b o e => Heap.get?_push_of_some _ e)
theorem iter_dom {xs : Array Value} {Q : Value → Shared → Prop} (X : (hd.heap_39 w.params).In s.heap) (F : Fr h₀ L s.heap m) (N : News h₀ L s.heap news) (hl : s.heap.get? l = some (domO dx xs e))
    (h : ∀ I h', Fr h₀ L h' m → News h₀ L h' ((I, itO l 0) :: news) → (∀ p ∈ news, p.1 ≠ I) → (∀ b o, s.heap.get? b = some o → h'.get? b = some o) → Q (.ref I) { s with heap := h' }) : wpAny (model PW w) A (pyIter (.ref l)) Q E s := by
  have T (M : Model) : Looks M s.heap (typeOf (.ref l)) (.ref 303) := dom_type hl
  have L1 := looks_findIn (M := model PW w) X (show findIn (hd.heap_39 w.params) (.ref 303) "__iter__" = some (some (.builtin "list.__iter__")) by k_is)
  unfold pyIter specialOf
  refine wpAny_bind (wpAny_bind ((T _).here (L1.here ?_)))
  dsimp only
  have fin : wpAny (model PW w) A (callSpecialIfBoundUnlessNone? (.ref l) "__iter__" (do rule "iter.none"; raiseError "TypeError" s!"'{← typeNameOf (.ref l)}' object is not iterable")) (fun r s' => ∃ it, r = some it ∧ wpAny (model PW w) A (specialOf it "__next__") (fun r s'' => (∃ v, r = some v) ∧ Q it s'') E s') E s := by
    simp only [callSpecialIfBoundUnlessNone?, bindSpecialIfBound?]
    unfold specialOf
    refine wpAny_holding (wpAny_bind (wpAny_bind (wpAny_bind ((T _).here (L1.here ?_)))))
    dsimp only
    rw [slot_list_iter.bind]
    refine wpAny_bind (wpAny_askSetting (wpAny_ite ?_))
    have fin2 : wpAny (model PW w) A (call (.builtin "list.__iter__") [.ref l]) (fun it s' => wpAny (model PW w) A (specialOf it "__next__") (fun r s'' => (∃ v, r = some v) ∧ Q it s'') E s') E s := by
      refine call_dom (n := "__iter__") (k := .slot) X hl slot_list_iter.plain entry_list_iter (by decide +kernel) (by decide +kernel) (.inl rfl) (args_list_iter _) ?_
      show wpAny _ _ (do ret (← newFields "list_iterator" [.ref l, rawInt 0])) _ _ s
      refine wpAny_bind (wpAny_newObj_type (wpAny_pure ?_))
      refine wpAny_specialOf (T := "list_iterator") ⟨_, Heap.get?_push_size _ rfl, rfl⟩ slot_listiter_next.lookup ⟨⟨_, rfl⟩, ?_⟩
      exact h _ _ (F.push _) (N.push F _) (fun p hp => Nat.ne_of_lt (Heap.lt_size (N p hp).1)) fun b o e => Heap.get?_push_of_some _ e
    have fin3 : wpAny (model PW w) A (do
        let __do_lift ← pure (Value.builtin "list.__iter__", [Value.ref l])
        pure (some __do_lift)) (fun a s' => a = some (Value.builtin "list.__iter__", [Value.ref l]) ∧ s' = s) E s := wpAny_bind (wpAny_pure (wpAny_pure ⟨rfl, rfl⟩))
    have fin4 : wpAny (model PW w) A (tryCatch (do
        let __do_lift ← pure (Value.builtin "list.__iter__", [Value.ref l])
        pure (some __do_lift)) fun e => do
          if ← isInstance e (.type "AttributeError") then pure none else throw e) (fun a s' => a = some (Value.builtin "list.__iter__", [Value.ref l]) ∧ s' = s) E s := wpAny_tryCatch (wpAny_bind (wpAny_pure (wpAny_pure ⟨rfl, rfl⟩)))
    have cont : ∀ a s', (a = some (Value.builtin "list.__iter__", [Value.ref l]) ∧ s' = s) → wpAny (model PW w) A (match a with
          | some (g, first) =>
            if (g == Value.none) = true then do
              let r ← (do rule "iter.none"; raiseError "TypeError" s!"'{← typeNameOf (.ref l)}' object is not iterable")
              pure (some r)
            else do
              let r ← call g first
              pure (some r)
          | x => pure none) (fun r s' => ∃ it, r = some it ∧ wpAny (model PW w) A (specialOf it "__next__") (fun r s'' => (∃ v, r = some v) ∧ Q it s'') E s') E s' := by
      rintro a s' ⟨rfl, rfl⟩
      show wpAny _ _ (if (Value.builtin "list.__iter__" == Value.none) = true then _ else _) _ _ _
      rw [if_neg (by rw [builtin_beq_none]; decide)]
      exact wpAny_bind (wpAny_mono fin2 (fun v s'' z => wpAny_pure ⟨_, rfl, z⟩) fun _ _ z => z)
    split
    · exact wpAny_mono fin3 cont fun _ _ z => z
    · exact wpAny_mono fin4 cont fun _ _ z => z
  refine wpAny_bind (wpAny_mono fin (fun r s' z => ?_) fun _ _ z => z)
  obtain ⟨it, rfl, hz⟩ := z
  refine wpAny_bind (wpAny_mono hz (fun r s'' z => ?_) fun _ _ z => z)
  obtain ⟨⟨v, rfl⟩, hQ⟩ := z
  exact wpAny_pure hQ
end
end Mine
end
section
open PySem PySem.W PySem.W.X PyProof.Rows PySem.Calls PySem.Spec
set_option Elab.async false
set_option maxRecDepth 100000
set_option maxHeartbeats 8000000
namespace Mine
/-- how a body of a loop goes out -/
def Out (J : Shared → Prop) (Q : Flow → Shared → Prop) (f : Flow) (s : Shared) : Prop := match f with
  | .next => J s
  | .cont => J s
  | .brk => Q .next s
  | .ret v => Q (.ret v) s
/-- the state at the head of a loop, behind its iterator's own entry -/
def At (h₀ : Heap) (L : Addr) (base : Shared) (p : Addr × Obj) (J : (Str → Option Value) → List (Addr × Obj) → Prop) (s : Shared) : Prop :=
  ∃ h tk m news, s = { base with heap := h, toks := tk } ∧ Fr h₀ L h m ∧ News h₀ L h (p :: news) ∧ J m news
section
variable {w : World} {A : Around} {E : Value → Shared → Prop} {s : Shared} {l I : Addr} {h₀ : Heap} {m : Str → Option Value} {news : List (Addr × Obj)} {env : Env} {prog : Program}
def GoFree (M : Model) (A : Around) (target : Expr) (I l : Addr) : Prop := ∀ (s : Shared) (i : Nat) (v : Value) (Q : Unit → Shared → Prop) (E : Value → Shared → Prop), s.heap.IsListIter I l i → Q () s → wpAny M A (letOwnedTupleGo target (.ref I) v) Q E s
theorem go_name {M : Model} {x : Str} {p : Pos} : GoFree M A (.Name x p) I l := fun _ _ _ _ _ _ h => wpAny_of_eq rfl h
theorem loop_list {target : Expr} {body orelse : List Stmt} {Q : Flow → Shared → Prop} (N : Nat) (J : Nat → (Str → Option Value) → List (Addr × Obj) → Prop) (hgo : GoFree (model prog w) A target I l) (hE : PassesOwn (model prog w) A env E) (hh : A.handled = none)
    (F : Fr h₀ env.locals s.heap m) (NN : News h₀ env.locals s.heap ((I, itO l 0) :: news)) (h0 : J 0 m news)
    (hI : ∀ i m news h, J i m news → News h₀ env.locals h ((I, itO l i) :: news) → ∀ p ∈ news, p.1 ≠ I)
    (step : ∀ i m₁ news₁ h₁ tk₁, J i m₁ news₁ → Fr h₀ env.locals h₁ m₁ → News h₀ env.locals h₁ ((I, itO l i) :: news₁) → ∃ vs, SeqAt h₁ l vs ∧ match vs[i]? with
      | none => ∀ h₂, Fr h₀ env.locals h₂ m₁ → News h₀ env.locals h₂ news₁ → wpAny (model prog w) A (execs orelse env) Q E { s with heap := h₂, toks := tk₁ }
      | some v => i < N ∧ ∀ h₂, Fr h₀ env.locals h₂ m₁ → News h₀ env.locals h₂ ((I, itO l (i + 1)) :: news₁) →
          wpAny (model prog w) A (assign target env v) (fun _ s₂ => wpAny (model prog w) A (execs body env) (Out (At h₀ env.locals s (I, itO l (i + 1)) (J (i + 1))) Q) E s₂) E { s with heap := h₂, toks := tk₁ }) :
    codeAny (model prog w) A (.forLoop target (.ref I) body orelse env) (fun r s' => match r with | .ok f => Q f s' | .error e => cameBackBy (model prog w) A env E e s') s := by
  refine codeAny_forLoop_any (R := fun r s' => match r with | .ok f => Q f s' | .error e => cameBackBy (model prog w) A env E e s')
    (fun k s' => ∃ i, At h₀ env.locals s (I, itO l i) (J i) s' ∧ i ≤ N ∧ k = N + 1 - i) ?_ (N + 1) ⟨0, ⟨s.heap, s.toks, m, news, rfl, F, NN, h0⟩, Nat.zero_le _, rfl⟩
  rintro k s' ⟨i, ⟨h', tk, m', news', rfl, F', N', hJ⟩, hi, rfl⟩
  obtain ⟨vs, hvs, hst⟩ := step i m' news' h' tk hJ F' N'
  have hne := hI i m' news' h' hJ N'
  cases hv : vs[i]? with
  | none =>
    rw [hv] at hst
    refine wpAny_passesOwn hE (next_end hh F' N' hne hvs hv fun h₂ F₂ N₂ => ?_)
    exact wpAny_passesOwn hE (hst h₂ F₂ N₂)
  | some v =>
    rw [hv] at hst
    obtain ⟨hlt, hst⟩ := hst
    refine wpAny_passesOwn hE (next_item F' N' hne hvs hv fun h₂ F₂ N₂ => ?_)
    refine wpAny_passesOwn hE (hgo _ (i + 1) _ _ _ ⟨_, (N₂ _ (.head _)).1, rfl, rfl⟩ ?_)
    refine wpAny_passesOwn hE (wpAny_mono (hst h₂ F₂ N₂) (fun _ s₂ z => ?_) fun _ _ z => z)
    refine wpAny_passesOwn hE (wpAny_mono z (fun f s₃ z => ?_) fun _ _ z => z)
    cases f with
    | next => exact ⟨N + 1 - (i + 1), by omega, i + 1, z, hlt, rfl⟩
    | cont => exact ⟨N + 1 - (i + 1), by omega, i + 1, z, hlt, rfl⟩
    | brk => exact z
    | ret v => exact z
end
end Mine
end
section
open PySem PySem.W PySem.W.X PyProof.Rows PySem.Calls PySem.Spec
set_option Elab.async false
set_option maxRecDepth 100000
set_option maxHeartbeats 8000000
namespace Mine
theorem filled8 : PySem.Challenge.rw_aw5017_04 = PySem.Challenge.rw_aw5017_04 ∧ hd.heap_39 = hd.heap_39 := by k_fill; exact ⟨rfl, rfl⟩
local macro_rules | `(tactic| k_all) => `(tactic| assumption)
local macro_rules | `(tactic| ktr_room) => `(tactic| (simp only [depth_under_make, depth_under_kw, depth_in1, depth_deeper, depth_caller, recursionLimit] at *; omega))
local macro_rules | `(tactic| walk_at "getAttr ref") => `(tactic| (k_here; (with_reducible show wpAny _ _ (getAttr (Value.ref _) (PySem.Str.ofString "_hidden") _) _ _ _); k_dflt (refine' hidden_K ?k1 ?k2 ?k3 ?k4 ?_; (case k1 => k_in); (case k2 => k_asm); (case k3 => k_mem); (case k4 => k_mem); k_whole)))
local macro_rules | `(tactic| walk_at "getAttr ref") => `(tactic| (k_here; (with_reducible show wpAny _ _ (getAttr (Value.ref _) (PySem.Str.ofString "_states") _) _ _ _); k_dflt (refine' states_K ?k1 ?k2 ?k3 ?k4 ?_; (case k1 => k_in); (case k2 => k_asm); (case k3 => k_mem); (case k4 => k_mem); k_whole)))
local macro_rules | `(tactic| walk_at "getMethod ref") => `(tactic| (k_here; k_dflt (refine' meth_K ?k1 ?k2 ?k3 ?k4 ?k5 ?k6 ?k7 ?k8 ?_; (case k1 => k_in); (case k2 => k_asm); (case k3 => k_mem); (case k4 => k_mem); (case k5 => k_is); (case k6 => first | (intro M h X; exact looks_typeIn X (by k_is)) | (intro M h X; exact Looks.of_pure (by first | exact PySem.F.type_list_remove | exact PySem.F.type_list_extend))); (case k7 => decide); (case k8 => first | rfl | decide +kernel); k_whole)))
local macro_rules | `(tactic| walk_at "call builtin:list.remove") => `(tactic| (k_here; k_dflt (refine' remove_K ?k1 ?k2 ?k3 ?k4 ?k5 ?k6 ?_; (case k1 => k_in); (case k2 => k_asm); (case k3 => k_asm); (case k4 => k_upd); (case k5 => assumption); (case k6 => assumption); k_whole; intro h' F' N'; (try k_sweep))))
local macro_rules | `(tactic| walk_at "call builtin:list.append") => `(tactic| (k_here; k_dflt (refine' append_iv ?k1 ?k2 ?k3 ?k4 ?_; (case k1 => k_asm); (case k2 => k_asm); (case k3 => k_upd); (case k4 => assumption); k_whole; intro h' F' N'; (try k_sweep))))
local macro_rules | `(tactic| walk_at "call builtin:list.pop") => `(tactic| (k_here; (with_reducible show wpAny _ _ (call (Value.builtin _) [Value.ref _]) _ _ _); k_dflt (refine' pop_iv ?k1 ?k2 ?k3 ?k4 ?_; (case k1 => k_asm); (case k2 => k_asm); (case k3 => k_upd); (case k4 => assumption); k_whole; intro h' F' N'; (try k_sweep))))
local macro_rules | `(tactic| walk_at "call builtin:list.pop") => `(tactic| (dsimp only; fail_if_success (with_reducible show wpAny _ _ (call (Value.builtin _) (Prod.snd _)) _ _ _)))
local macro_rules | `(tactic| walk_at "call builtin:len") => `(tactic| (k_here; (with_reducible show wpAny _ _ (call (Value.builtin "len") [Value.ref _]) _ _ _); k_dflt (refine' len_iv ?k1 ?k2 ?k3 ?k4 ?_; (case k1 => k_in); (case k2 => k_asm); (case k3 => k_mem); (case k4 => assumption); k_whole); intro u' tk'))
local macro_rules | `(tactic| walk_at "truthy ref") => `(tactic| (k_here; k_dflt (refine' truthy_iv ?k1 ?k2 ?k3 ?k4 ?_; (case k1 => k_in); (case k2 => k_asm); (case k3 => k_mem); (case k4 => assumption); k_whole); intro tk'))
local macro_rules | `(tactic| walk_at "eval Subscript") => `(tactic| (k_here; (with_reducible show wpAny _ _ (eval (PySem.Expr.Subscript _ (PySem.Expr.Slice _ _ none _) _) _) _ _ _); refine SubSlice_ ?_))
local macro_rules | `(tactic| walk_at "delete Subscript") => `(tactic| (k_here; (with_reducible show wpAny _ _ (delete (PySem.Expr.Subscript _ (PySem.Expr.Slice _ none none _) _) _) _ _ _); refine DelSlice_ ?_))
local macro_rules | `(tactic| walk_at "call builtin:list.extend") => `(tactic| (k_here; k_dflt (refine' extend_iv ?k1 ?k2 ?k3 ?k4 ?k5 ?k6 ?k7 ?_; (case k1 => k_in); (case k2 => k_asm); (case k3 => k_asm); (case k4 => (intro o9; k_upd)); (case k5 => k_mem); (case k6 => first | assumption | omega); (case k7 => ((try simp only [List.length_drop, List.length_take]); omega)); k_whole; intro h' e' F' N'; (try k_sweep))))
local macro_rules | `(tactic| ktr_enter) => `(tactic| (refine' code_def ?k1 ?k2 ?k3 ?k4 ?k5 ?kA ?kF ?kK ?k6 ?k7 ?k8 ?k9 ?kB ?_ ?c2 ?c3 ?c4 ?c5; (case kA => first | assumption | exact rfl); (case kF => first | assumption | exact rfl); (case kK => first | assumption | exact rfl); (case k1 => k_asm); (case k2 => k_asm); (case k3 => k_asm); (case k4 => k_asm); (case k5 => k_asm); (case k6 => k_is); (case k7 => k_is); (case k8 => ktr_room); (case k9 => first | exact BindsTo.of_eq rfl | exact binds_K (by k_in) rfl (by k_is) rfl rfl rfl); (case c5 => decide); (case kB => exact locs rfl); (case c2 => exact rfl); (case c3 => exact rfl); (case c4 => exact rfl); k_whole; intro g' L' h' FG' F' N' B' X' T'; (try dsimp only); (try k_fold)))
section
variable {w : World} {p : Program} {loose : List Str} {mean : ExcName → Option Value} {mg mb : Str → Option Value} {A : Around} {env : Env} {outer : List Env} {A₀ : Around} {base h₀ : Heap} {L : Addr} {m : Str → Option Value} {s : Shared} {Q E : Value → Shared → Prop} {rest : List (Addr × Obj)} {x dx hdA st : Addr} {t1 t2 : Tok} {e e2 f g : Nat} {l hs ss : List (Int × Tok)}

theorem push_c (cx : Cx w p loose mean mg mb A 900 9000 env outer A₀ base h₀ L) (F : Fr h₀ L s.heap m)
    (N : News h₀ L s.heap ((x, domO dx (iv l).toArray e) :: (dx, domD w.params t1 t2 hdA st e2) :: (st, listOf (iv ss).toArray g) :: rest))
    (n1 : @Ne Nat x dx) (n2 : @Ne Nat x st) (n3 : @Ne Nat dx st) (r3 : ∀ p ∈ rest, p.1 ≠ st) (hl : l.length ≤ 1000) (hss : ss.length ≤ 1000)
    (ret : ∀ h' tk' g' u, Fr h₀ L h' m → News h₀ L h' ((x, domO dx (iv l).toArray e) :: (dx, domD w.params t1 t2 hdA st e2) :: (st, listOf (iv (ss ++ [((l.length : Int), u)])).toArray g') :: rest) → Q .none { s with heap := h', toks := tk' }) :
    wpAny (model PW w) A (call (.ref 286) [.ref x]) Q E s := by
  obtain ⟨B, X, T, hk, hf, hd, hu, hfr, hhd⟩ := cx
  refine wpAny_call ?_
  k_dflt ktr_enter
  k_steps
  exact ret _ _ _ _ (by k_asm) (by k_asm)
theorem pop_c {n : Int} {u : Tok} (cx : Cx w p loose mean mg mb A 900 9000 env outer A₀ base h₀ L) (F : Fr h₀ L s.heap m)
    (N : News h₀ L s.heap ((x, domO dx (iv l).toArray e) :: (dx, domD w.params t1 t2 hdA st e2) :: (hdA, listOf (iv hs).toArray f) :: (st, listOf (iv (ss ++ [(n, u)])).toArray g) :: rest))
    (n1 : @Ne Nat x dx) (n2 : @Ne Nat x hdA) (n3 : @Ne Nat x st) (n4 : @Ne Nat dx hdA) (n5 : @Ne Nat dx st) (n6 : @Ne Nat hdA st) (r1 : ∀ p ∈ rest, p.1 ≠ x) (r3 : ∀ p ∈ rest, p.1 ≠ hdA) (r4 : ∀ p ∈ rest, p.1 ≠ st) (hl : l.length ≤ 500) (hhs : hs.length ≤ 500) (hss : ss.length ≤ 1000)
    (hn : (l.length : Int) ≤ n) (hn2 : n - l.length ≤ hs.length)
    (ret : ∀ h' tk' e' f' g', Fr h₀ L h' m → News h₀ L h' ((x, domO dx (iv (l ++ hs.drop (hs.length - (n - l.length).toNat))).toArray e') :: (dx, domD w.params t1 t2 hdA st e2) :: (hdA, listOf (iv (hs.take (hs.length - (n - l.length).toNat))).toArray f') :: (st, listOf (iv ss).toArray g') :: rest) → Q .none { s with heap := h', toks := tk' }) :
    wpAny (model PW w) A (call (.ref 293) [.ref x]) Q E s := by
  obtain ⟨B, X, T, hk, hf, hd, hu, hfr, hhd⟩ := cx
  have hl' : l.length ≤ 1000 := by omega
  refine wpAny_call ?_
  k_dflt ktr_enter
  k_steps
  · k_dflt (refine' sliceLast_K ?k1 ?k2 ?k3 ?k4 ?k5 ?k6 ?_; (case k1 => k_in); (case k2 => k_asm); (case k3 => k_asm); (case k4 => k_mem); (case k5 => omega); (case k6 => omega))
    intro a9 h' F' N' l1
    have q1 : @Ne Nat a9 x := Nat.ne_of_gt (l1 (x, _) (by k_mem))
    have q2 : @Ne Nat a9 hdA := Nat.ne_of_gt (l1 (hdA, _) (by k_mem))
    clear l1
    k_steps
    k_dflt (refine' delLast_K ?k1 ?k2 ?k3 ?k5 ?k6 ?k7 ?_; (case k1 => k_asm); (case k2 => k_asm); (case k3 => (intro o9; k_upd)); (case k5 => omega); (case k6 => omega); (case k7 => omega))
    intro h' e' F' N'
    k_steps
    rename News h₀ L _ _ => N9
    refine' ret _ _ _ _ _ ?_ (news_tl N9)
    k_asm
  · have e1 : (n - (l.length : Int)).toNat = 0 := by omega
    have e2 : hs.length - (n - (l.length : Int)).toNat = hs.length := by omega
    have ret' := ret
    rw [e2, List.drop_length, List.take_length, List.append_nil] at ret'
    exact ret' _ _ _ _ _ (by k_asm) (by k_asm)
theorem reset_c (cx : Cx w p loose mean mg mb A 900 9000 env outer A₀ base h₀ L) (F : Fr h₀ L s.heap m)
    (N : News h₀ L s.heap ((x, domO dx (iv l).toArray e) :: (dx, domD w.params t1 t2 hdA st e2) :: (hdA, listOf (iv hs).toArray f) :: (st, listOf (iv ss).toArray g) :: rest))
    (n1 : @Ne Nat x dx) (n2 : @Ne Nat x hdA) (n3 : @Ne Nat x st) (n4 : @Ne Nat dx hdA) (n5 : @Ne Nat dx st) (n6 : @Ne Nat hdA st) (r1 : ∀ p ∈ rest, p.1 ≠ x) (r3 : ∀ p ∈ rest, p.1 ≠ hdA) (r4 : ∀ p ∈ rest, p.1 ≠ st) (hl : l.length ≤ 500) (hhs : hs.length ≤ 500) (hss : ss.length ≤ 1000)
    (ret : ∀ h' tk' e' f' g', Fr h₀ L h' m → News h₀ L h' ((x, domO dx (iv (l ++ hs)).toArray e') :: (dx, domD w.params t1 t2 hdA st e2) :: (hdA, listOf (iv []).toArray f') :: (st, listOf (iv []).toArray g') :: rest) → Q .none { s with heap := h', toks := tk' }) :
    wpAny (model PW w) A (call (.ref 279) [.ref x]) Q E s := by
  obtain ⟨B, X, T, hk, hf, hd, hu, hfr, hhd⟩ := cx
  have q1 : @Ne Nat hdA x := n2.symm
  refine wpAny_call ?_
  k_dflt ktr_enter
  k_steps
  k_dflt (refine' delAll_K ?k1 ?k2 ?k3 ?k7 ?_; (case k1 => k_asm); (case k2 => k_asm); (case k3 => (intro o9; k_upd)); (case k7 => omega))
  intro h' e' F' N'
  k_steps
  k_dflt (refine' delAll_K ?k1 ?k2 ?k3 ?k7 ?_; (case k1 => k_asm); (case k2 => k_asm); (case k3 => (intro o9; k_upd)); (case k7 => omega))
  intro h' e' F' N'
  k_steps
  exact ret _ _ _ _ _ (by k_asm) (by k_asm)
end
end Mine
end
section
open PySem PySem.W PySem.W.X PyProof.Rows PySem.Calls PySem.Spec
set_option Elab.async false
set_option maxRecDepth 100000
set_option maxHeartbeats 8000000
namespace Mine
/-- where the parts of a Domain object lie -/
structure Dc where
  x : Addr
  dx : Addr
  hd : Addr
  st : Addr
  t1 : Tok
  t2 : Tok
  e2 : Nat
/-- what a Domain object holds -/
structure Ds where
  vs : List (Int × Tok)
  hid : List (Int × Tok)
  sts : List Int
def Dc.ads (c : Dc) : List Addr := [c.x, c.dx, c.hd, c.st]
def Dt (P : Params) (c : Dc) (d : Ds) (l : List (Addr × Obj)) : Prop := ∃ e f g ss, l = [(c.x, domO c.dx (iv d.vs).toArray e), (c.dx, domD P c.t1 c.t2 c.hd c.st c.e2), (c.hd, listOf (iv d.hid).toArray f), (c.st, listOf (iv ss).toArray g)] ∧ ss.map (·.1) = d.sts
def Dyn (P : Params) : List Dc → List Ds → List (Addr × Obj) → Prop
  | [], [], l => l = []
  | c :: cs, d :: ds, l => ∃ l1 l2, l = l1 ++ l2 ∧ Dt P c d l1 ∧ Dyn P cs ds l2
  | [], _ :: _, _ => False
  | _ :: _, [], _ => False
abbrev ads (cs : List Dc) : List Addr := cs.flatMap Dc.ads
theorem Dt.fst {P : Params} {c : Dc} {d : Ds} {l : List (Addr × Obj)} (h : Dt P c d l) : l.map (·.1) = c.ads := by
  obtain ⟨e, f, g, ss, rfl, _⟩ := h; rfl
theorem Dyn.fst {P : Params} : ∀ {cs : List Dc} {ds : List Ds} {l : List (Addr × Obj)}, Dyn P cs ds l → l.map (·.1) = ads cs
  | [], [], _, h => by cases (h : _ = []); rfl
  | c :: cs, d :: ds, _, ⟨l1, l2, h, h1, h2⟩ => by subst h; simp [ads, h1.fst, h2.fst]
  | [], _ :: _, _, h => h.elim
  | _ :: _, [], _, h => h.elim
theorem Dyn.split {P : Params} : ∀ {cs : List Dc} {ds : List Ds} {l : List (Addr × Obj)} {i : Nat} {c : Dc} {d : Ds}, Dyn P cs ds l → cs[i]? = some c → ds[i]? = some d →
    ∃ pre l1 post, l = pre ++ (l1 ++ post) ∧ Dt P c d l1 ∧ (∀ d' l1', Dt P c d' l1' → Dyn P cs (ds.set i d') (pre ++ (l1' ++ post))) ∧ pre.map (·.1) ++ (c.ads ++ post.map (·.1)) = ads cs
  | [], [], _, i, c, d, _, h, _ => by simp at h
  | c₀ :: cs, d₀ :: ds, _, 0, c, d, ⟨l1, l2, hl, h1, h2⟩, hc, hd => by
    subst hl
    simp only [List.getElem?_cons_zero, Option.some.injEq] at hc hd
    subst hc; subst hd
    exact ⟨[], l1, l2, rfl, h1, fun d' l1' h' => ⟨l1', l2, rfl, h', h2⟩, by simp [h2.fst]⟩
  | c₀ :: cs, d₀ :: ds, _, i + 1, c, d, ⟨l1, l2, hl, h1, h2⟩, hc, hd => by
    subst hl
    simp only [List.getElem?_cons_succ] at hc hd
    obtain ⟨pre, l1', post, rfl, a, b, e⟩ := Dyn.split h2 hc hd
    exact ⟨l1 ++ pre, l1', post, by simp, a, fun d' l' h' => ⟨l1, _, by simp, h1, b d' l' h'⟩, by rw [List.map_append, h1.fst, List.append_assoc, e]; simp [ads]⟩
  | [], _ :: _, _, _, _, _, h, _, _ => h.elim
  | _ :: _, [], _, _, _, _, h, _, _ => h.elim
theorem Dyn.len {P : Params} : ∀ {cs : List Dc} {ds : List Ds} {l : List (Addr × Obj)}, Dyn P cs ds l → cs.length = ds.length
  | [], [], _, _ => rfl
  | c :: cs, d :: ds, _, ⟨_, _, _, _, h2⟩ => by simp [h2.len]
  | [], _ :: _, _, h => h.elim
  | _ :: _, [], _, h => h.elim
theorem Dyn.there {P : Params} {cs : List Dc} {ds : List Ds} {l : List (Addr × Obj)} {i : Nat} {c : Dc} {d : Ds} (h : Dyn P cs ds l) (hc : cs[i]? = some c) (hd : ds[i]? = some d) :
    ∃ e, (c.x, domO c.dx (iv d.vs).toArray e) ∈ l ∧ (c.dx, domD P c.t1 c.t2 c.hd c.st c.e2) ∈ l := by
  obtain ⟨pre, l1, post, rfl, ⟨e, f, g, ss, rfl, _⟩, _, _⟩ := h.split hc hd
  exact ⟨e, by simp, by simp⟩
/-- what lies behind own objects -/
inductive Cut (T : List (Addr × Obj)) : List (Addr × Obj) → List (Addr × Obj) → Prop
  | base (R) : Cut T (R ++ T) R
  | cons (a) {l R} : Cut T l R → Cut T (a :: l) (a :: R)
theorem Cut.eq {T l R : List (Addr × Obj)} (h : Cut T l R) : l = R ++ T := by
  induction h with
  | base R => rfl
  | cons a _ ih => rw [ih]; rfl
/-- hideValue, pushState, popState, resetState upon a state -/
def Ds.hide (d : Ds) (v : Int) (u : Tok) : Option Ds := if d.vs.any (·.1 == v) && decide (d.vs.length ≤ 500) && decide (d.hid.length ≤ 500) then some { d with vs := d.vs.eraseP (eqv v), hid := d.hid ++ [(v, u)] } else none
def Ds.push (d : Ds) : Option Ds := if decide (d.vs.length ≤ 500) && decide (d.sts.length ≤ 500) then some { d with sts := d.sts ++ [(d.vs.length : Int)] } else none
def Ds.pop (d : Ds) : Option Ds := match d.sts.getLast? with
  | none => none
  | some n => if decide (d.vs.length ≤ 500) && decide (d.hid.length ≤ 500) && decide (d.sts.length ≤ 500) && decide ((d.vs.length : Int) ≤ n) && decide (n - d.vs.length ≤ d.hid.length) then
      some { vs := d.vs ++ d.hid.drop (d.hid.length - (n - d.vs.length).toNat), hid := d.hid.take (d.hid.length - (n - d.vs.length).toNat), sts := d.sts.dropLast } else none
def Ds.reset (d : Ds) : Option Ds := if decide (d.vs.length ≤ 500) && decide (d.hid.length ≤ 500) && decide (d.sts.length ≤ 500) then some { vs := d.vs ++ d.hid, hid := [], sts := [] } else none
section
variable {w : World} {p : Program} {loose : List Str} {mean : ExcName → Option Value} {mg mb : Str → Option Value} {A : Around} {env : Env} {outer : List Env} {A₀ : Around} {base h₀ : Heap} {L : Addr} {m : Str → Option Value} {s : Shared} {Q E : Value → Shared → Prop}
  {R dyn news : List (Addr × Obj)} {cs : List Dc} {ds : List Ds} {i : Nat} {c : Dc} {d d' : Ds}
theorem part4 {h : Heap} {pre post R : List (Addr × Obj)} {a b c d : Addr × Obj} : News h₀ L h (R ++ (pre ++ ([a, b, c, d] ++ post))) ↔ News h₀ L h (a :: b :: c :: d :: (R ++ (pre ++ post))) :=
  ⟨fun N p hp => N p (by simp only [List.mem_append, List.mem_cons] at hp ⊢; grind), fun N p hp => N p (by simp only [List.mem_append, List.mem_cons, List.not_mem_nil, or_false] at hp ⊢; grind)⟩
theorem swap34 {h : Heap} {a b c d : Addr × Obj} {r : List (Addr × Obj)} (N : News h₀ L h (a :: b :: c :: d :: r)) : News h₀ L h (a :: b :: d :: c :: r) := fun q hq => N q (by simp only [List.mem_cons] at hq ⊢; grind)
theorem hide_D {v : Int} {u : Tok} (cx : Cx w p loose mean mg mb A 900 9000 env outer A₀ base h₀ L) (F : Fr h₀ L s.heap m) (N : News h₀ L s.heap news) (C : Cut dyn news R) (D : Dyn w.params cs ds dyn) (nd : (ads cs).Nodup) (hR : ∀ p ∈ R, p.1 ∉ ads cs)
    (hc : cs[i]? = some c) (hd : ds[i]? = some d) (hm : d.hide v u = some d') (ret : ∀ h' tk' dyn', Fr h₀ L h' m → News h₀ L h' (R ++ dyn') → Dyn w.params cs (ds.set i d') dyn' → Q .none { s with heap := h', toks := tk' }) :
    wpAny (model PW w) A (call (.ref 300) [.ref c.x, .int v u]) Q E s := by
  rw [C.eq] at N
  obtain ⟨pre, l1, post, rfl, ⟨e, f, g, ss, rfl, hss⟩, hset, hads⟩ := D.split hc hd
  rw [part4] at N
  unfold Ds.hide at hm
  split at hm
  case isFalse => cases hm
  rename_i hif
  simp only [Bool.and_eq_true, decide_eq_true_eq, List.any_eq_true, beq_iff_eq] at hif
  cases hm
  rw [← hads] at nd hR
  have sub : ∀ p ∈ R ++ (pre ++ post), p.1 ∉ c.ads := by
    intro p hp hq
    rcases List.mem_append.mp hp with h1 | h1
    · exact hR p h1 (by simp [hq])
    · have h2 := List.nodup_append.mp nd
      have h3 := List.nodup_append.mp h2.2.1
      rcases List.mem_append.mp h1 with h4 | h4
      · exact h2.2.2 _ (List.mem_map.mpr ⟨p, h4, rfl⟩) _ (List.mem_append.mpr (.inl hq)) rfl
      · exact h3.2.2 _ hq _ (List.mem_map.mpr ⟨p, h4, rfl⟩) rfl
  have nd4 : c.ads.Nodup := (List.nodup_append.mp (List.nodup_append.mp nd).2.1).1
  simp only [Dc.ads, List.nodup_cons, List.mem_cons, List.not_mem_nil, or_false, not_or] at nd4 sub
  refine hide_c (hdA := c.hd) (dx := c.dx) (t1 := c.t1) (t2 := c.t2) (st := c.st) (e2 := c.e2) (rest := (c.st, listOf (iv ss).toArray g) :: (R ++ (pre ++ post))) cx F N nd4.1.1 nd4.1.2.1 nd4.2.1.1 ?_ ?_ ?_ hif.1.1 (by omega) (by omega) ?_
  · exact List.forall_mem_cons.mpr ⟨fun h => nd4.1.2.2 h.symm, fun p hp => (sub p hp).1⟩
  · exact List.forall_mem_cons.mpr ⟨fun h => nd4.2.1.2 h.symm, fun p hp => (sub p hp).2.1⟩
  · exact List.forall_mem_cons.mpr ⟨fun h => nd4.2.2.1 h.symm, fun p hp => (sub p hp).2.2.1⟩
  · intro h' tk' e' f' F' N'
    exact ret h' tk' _ F' (part4.mpr N') (hset _ _ ⟨e', f', g, ss, rfl, hss⟩)
theorem push_D (cx : Cx w p loose mean mg mb A 900 9000 env outer A₀ base h₀ L) (F : Fr h₀ L s.heap m) (N : News h₀ L s.heap news) (C : Cut dyn news R) (D : Dyn w.params cs ds dyn) (nd : (ads cs).Nodup) (hR : ∀ p ∈ R, p.1 ∉ ads cs)
    (hc : cs[i]? = some c) (hd : ds[i]? = some d) (hm : d.push = some d') (ret : ∀ h' tk' dyn', Fr h₀ L h' m → News h₀ L h' (R ++ dyn') → Dyn w.params cs (ds.set i d') dyn' → Q .none { s with heap := h', toks := tk' }) :
    wpAny (model PW w) A (call (.ref 286) [.ref c.x]) Q E s := by
  rw [C.eq] at N
  obtain ⟨pre, l1, post, rfl, ⟨e, f, g, ss, rfl, hss⟩, hset, hads⟩ := D.split hc hd
  rw [part4] at N
  unfold Ds.push at hm
  split at hm
  case isFalse => cases hm
  rename_i hif
  simp only [Bool.and_eq_true, decide_eq_true_eq] at hif
  cases hm
  rw [← hads] at nd hR
  have sub : ∀ p ∈ R ++ (pre ++ post), p.1 ∉ c.ads := by
    intro p hp hq
    rcases List.mem_append.mp hp with h1 | h1
    · exact hR p h1 (by simp [hq])
    · have h2 := List.nodup_append.mp nd
      have h3 := List.nodup_append.mp h2.2.1
      rcases List.mem_append.mp h1 with h4 | h4
      · exact h2.2.2 _ (List.mem_map.mpr ⟨p, h4, rfl⟩) _ (List.mem_append.mpr (.inl hq)) rfl
      · exact h3.2.2 _ hq _ (List.mem_map.mpr ⟨p, h4, rfl⟩) rfl
  have nd4 : c.ads.Nodup := (List.nodup_append.mp (List.nodup_append.mp nd).2.1).1
  simp only [Dc.ads, List.nodup_cons, List.mem_cons, List.not_mem_nil, or_false, not_or] at nd4 sub
  have hlen : ss.length = d.sts.length := by rw [← hss]; simp
  have N2 : News h₀ L s.heap ((c.x, domO c.dx (iv d.vs).toArray e) :: (c.dx, domD w.params c.t1 c.t2 c.hd c.st c.e2) :: (c.st, listOf (iv ss).toArray g) :: (c.hd, listOf (iv d.hid).toArray f) :: (R ++ (pre ++ post))) := swap34 N
  refine push_c (hdA := c.hd) (dx := c.dx) (t1 := c.t1) (t2 := c.t2) (st := c.st) (e2 := c.e2) (rest := (c.hd, listOf (iv d.hid).toArray f) :: (R ++ (pre ++ post))) cx F N2 nd4.1.1 nd4.1.2.2 nd4.2.1.2 ?_ (by omega) (by omega) ?_
  · exact List.forall_mem_cons.mpr ⟨nd4.2.2.1, fun p hp => (sub p hp).2.2.2⟩
  · intro h' tk' g' u F' N'
    refine ret h' tk' _ F' (part4.mpr (swap34 N')) (hset _ _ ⟨e, f, g', _, rfl, ?_⟩)
    simp [hss]
theorem pop_D (cx : Cx w p loose mean mg mb A 900 9000 env outer A₀ base h₀ L) (F : Fr h₀ L s.heap m) (N : News h₀ L s.heap news) (C : Cut dyn news R) (D : Dyn w.params cs ds dyn) (nd : (ads cs).Nodup) (hR : ∀ p ∈ R, p.1 ∉ ads cs)
    (hc : cs[i]? = some c) (hd : ds[i]? = some d) (hm : d.pop = some d') (ret : ∀ h' tk' dyn', Fr h₀ L h' m → News h₀ L h' (R ++ dyn') → Dyn w.params cs (ds.set i d') dyn' → Q .none { s with heap := h', toks := tk' }) :
    wpAny (model PW w) A (call (.ref 293) [.ref c.x]) Q E s := by
  rw [C.eq] at N
  obtain ⟨pre, l1, post, rfl, ⟨e, f, g, ss, rfl, hss⟩, hset, hads⟩ := D.split hc hd
  rw [part4] at N
  unfold Ds.pop at hm
  split at hm
  · cases hm
  rename_i n hn
  split at hm
  case isFalse => cases hm
  rename_i hif
  simp only [Bool.and_eq_true, decide_eq_true_eq] at hif
  cases hm
  rw [← hads] at nd hR
  have sub : ∀ p ∈ R ++ (pre ++ post), p.1 ∉ c.ads := by
    intro p hp hq
    rcases List.mem_append.mp hp with h1 | h1
    · exact hR p h1 (by simp [hq])
    · have h2 := List.nodup_append.mp nd
      have h3 := List.nodup_append.mp h2.2.1
      rcases List.mem_append.mp h1 with h4 | h4
      · exact h2.2.2 _ (List.mem_map.mpr ⟨p, h4, rfl⟩) _ (List.mem_append.mpr (.inl hq)) rfl
      · exact h3.2.2 _ hq _ (List.mem_map.mpr ⟨p, h4, rfl⟩) rfl
  have nd4 : c.ads.Nodup := (List.nodup_append.mp (List.nodup_append.mp nd).2.1).1
  simp only [Dc.ads, List.nodup_cons, List.mem_cons, List.not_mem_nil, or_false, not_or] at nd4 sub
  have hlen : ss.length = d.sts.length := by rw [← hss]; simp
  obtain ⟨ss', u, rfl, hss'⟩ : ∃ ss' u, ss = ss' ++ [(n, u)] ∧ ss'.map (·.1) = d.sts.dropLast := by
    have hne : ss ≠ [] := by rintro rfl; rw [← hss] at hn; simp at hn
    refine ⟨ss.dropLast, (ss.getLast hne).2, ?_, by rw [← hss, List.map_dropLast]⟩
    have e1 : (ss.getLast hne).1 = n := by
      rw [← hss, List.getLast?_map, List.getLast?_eq_some_getLast hne] at hn
      simpa using hn
    rw [← e1]
    exact (List.dropLast_concat_getLast hne).symm
  simp only [List.length_append, List.length_cons, List.length_nil] at hlen
  refine pop_c (hdA := c.hd) (dx := c.dx) (t1 := c.t1) (t2 := c.t2) (st := c.st) (e2 := c.e2) (rest := R ++ (pre ++ post)) cx F N nd4.1.1 nd4.1.2.1 nd4.1.2.2 nd4.2.1.1 nd4.2.1.2 nd4.2.2.1 (fun p hp => (sub p hp).1) (fun p hp => (sub p hp).2.2.1) (fun p hp => (sub p hp).2.2.2) (by omega) (by omega) (by omega) (by omega) (by omega) ?_
  intro h' tk' e' f' g' F' N'
  exact ret h' tk' _ F' (part4.mpr N') (hset _ _ ⟨e', f', g', ss', rfl, hss'⟩)
theorem reset_D (cx : Cx w p loose mean mg mb A 900 9000 env outer A₀ base h₀ L) (F : Fr h₀ L s.heap m) (N : News h₀ L s.heap news) (C : Cut dyn news R) (D : Dyn w.params cs ds dyn) (nd : (ads cs).Nodup) (hR : ∀ p ∈ R, p.1 ∉ ads cs)
    (hc : cs[i]? = some c) (hd : ds[i]? = some d) (hm : d.reset = some d') (ret : ∀ h' tk' dyn', Fr h₀ L h' m → News h₀ L h' (R ++ dyn') → Dyn w.params cs (ds.set i d') dyn' → Q .none { s with heap := h', toks := tk' }) :
    wpAny (model PW w) A (call (.ref 279) [.ref c.x]) Q E s := by
  rw [C.eq] at N
  obtain ⟨pre, l1, post, rfl, ⟨e, f, g, ss, rfl, hss⟩, hset, hads⟩ := D.split hc hd
  rw [part4] at N
  unfold Ds.reset at hm
  split at hm
  case isFalse => cases hm
  rename_i hif
  simp only [Bool.and_eq_true, decide_eq_true_eq] at hif
  cases hm
  rw [← hads] at nd hR
  have sub : ∀ p ∈ R ++ (pre ++ post), p.1 ∉ c.ads := by
    intro p hp hq
    rcases List.mem_append.mp hp with h1 | h1
    · exact hR p h1 (by simp [hq])
    · have h2 := List.nodup_append.mp nd
      have h3 := List.nodup_append.mp h2.2.1
      rcases List.mem_append.mp h1 with h4 | h4
      · exact h2.2.2 _ (List.mem_map.mpr ⟨p, h4, rfl⟩) _ (List.mem_append.mpr (.inl hq)) rfl
      · exact h3.2.2 _ hq _ (List.mem_map.mpr ⟨p, h4, rfl⟩) rfl
  have nd4 : c.ads.Nodup := (List.nodup_append.mp (List.nodup_append.mp nd).2.1).1
  simp only [Dc.ads, List.nodup_cons, List.mem_cons, List.not_mem_nil, or_false, not_or] at nd4 sub
  have hlen : ss.length = d.sts.length := by rw [← hss]; simp
  refine reset_c (hdA := c.hd) (dx := c.dx) (t1 := c.t1) (t2 := c.t2) (st := c.st) (e2 := c.e2) (rest := R ++ (pre ++ post)) cx F N nd4.1.1 nd4.1.2.1 nd4.1.2.2 nd4.2.1.1 nd4.2.1.2 nd4.2.2.1 (fun p hp => (sub p hp).1) (fun p hp => (sub p hp).2.2.1) (fun p hp => (sub p hp).2.2.2) (by omega) (by omega) (by omega) ?_
  intro h' tk' e' f' g' F' N'
  exact ret h' tk' _ F' (part4.mpr N') (hset _ _ ⟨e', f', g', [], rfl, rfl⟩)
end
end Mine
end
section
open PySem PySem.W PySem.W.X PyProof.Rows PySem.Calls PySem.Spec
set_option Elab.async false
set_option maxRecDepth 100000
set_option maxHeartbeats 8000000
namespace Mine
/-- the dict of an ExactSumConstraint -/
abbrev escD (P : Params) (t1 t2 : Tok) (es : Int) (te : Tok) (mu : Value) (e : Nat) : Obj := dictOf [⟨PyData.keyHash P "_exactsum", .str "_exactsum" t1, .int es te⟩, ⟨PyData.keyHash P "_multipliers", .str "_multipliers" t2, mu⟩] e
abbrev nvs (nm : Nat → Str) (vars : List (Nat × Tok)) : List Value := vars.map fun p => .str (nm p.1) p.2
abbrev asgKv (nm : Nat → Str) (asg : List (Nat × Int × Tok)) : List (Str × Value) := asg.map fun p => (nm p.1, .int p.2.1 p.2.2)
/-- some names of a frame and what they stand for -/
def Locs (m : Str → Option Value) (l : List (Str × Value)) : Prop := ∀ p ∈ l, m p.1 = some p.2
def nest (m : Str → Option Value) : List (Str × Value) → Str → Option Value
  | [], y => m y
  | (x, v) :: l, y => if y = x then some v else nest m l y
theorem nest_eq {m : Str → Option Value} : ∀ {l : List (Str × Value)}, Locs m l → nest m l = m
  | [], _ => rfl
  | (x, v) :: l, H => by
    funext y
    show (if y = x then some v else nest m l y) = m y
    split
    · next h => rw [h]; exact (H (x, v) (.head _)).symm
    · rw [nest_eq fun p hp => H p (.tail _ hp)]
theorem Locs.fr {h₀ h : Heap} {L : Addr} {m : Str → Option Value} {l : List (Str × Value)} (H : Locs m l) (F : Fr h₀ L h m) : Fr h₀ L h (nest m l) := by rw [nest_eq H]; exact F
theorem Locs.nil {m : Str → Option Value} : Locs m [] := fun _ h => nomatch h
theorem Locs.cons {m : Str → Option Value} {x : Str} {v : Value} {l : List (Str × Value)} (h : m x = some v) (H : Locs m l) : Locs m ((x, v) :: l) := List.forall_mem_cons.mpr ⟨h, H⟩
theorem Fr.abs {h₀ h : Heap} {L : Addr} {m : Str → Option Value} (l : List (Str × Value)) {P : Prop} (F : Fr h₀ L h m) (H : Locs m l) (k : ∀ m', Locs m' l → Fr h₀ L h m' → P) : P := k m H F
def Stop (P : Prop) : Prop := P
theorem Stop.intro {P : Prop} (h : Stop P) : P := h
/-- the first pass of ExactSumConstraint.__call__ -/
def lk (asg : List (Nat × Int × Tok)) (v : Nat) : Option (Int × Tok) := (asg.find? (·.1 == v)).map (·.2)
def escS (asg : List (Nat × Int × Tok)) : List (Nat × Int) → Int → Bool → Int × Bool
  | [], s, ms => (s, ms)
  | (v, f) :: vs, s, ms => match lk asg v with
    | some x => escS asg vs (s + x.1 * f) ms
    | none => escS asg vs s true
/-- the second pass -/
def hideAll (es S f : Int) : List (Int × Tok) → Ds → Option Ds
  | [], d => some d
  | x :: xs, d => if S + x.1 * f > es then (match d.hide x.1 x.2 with | none => none | some d' => hideAll es S f xs d') else hideAll es S f xs d
def escF (es S : Int) (asg : List (Nat × Int × Tok)) : List (Nat × Int) → List Ds → Option (Bool × List Ds)
  | [], ds => some (true, ds)
  | (v, f) :: vs, ds => match lk asg v with
    | some _ => escF es S asg vs ds
    | none => match ds[v]? with
      | none => none
      | some d => if d.vs.length ≤ 500 then (match hideAll es S f d.vs d with
        | none => none
        | some d' => if d'.vs.length ≤ 500 then (if d'.vs.length == 0 then some (false, ds.set v d') else escF es S asg vs (ds.set v d')) else none) else none
/-- ExactSumConstraint.__call__ -/
def escM (es : Int) (vs : List (Nat × Int)) (asg : List (Nat × Int × Tok)) (fc : Bool) (ds : List Ds) : Option (Bool × List Ds) :=
  if (escS asg vs 0 false).1 > es then some (false, ds) else
  match (if fc && (escS asg vs 0 false).2 then escF es (escS asg vs 0 false).1 asg vs ds else some (true, ds)) with
  | none => none
  | some (false, ds') => some (false, ds')
  | some (true, ds') => some (if (escS asg vs 0 false).2 then decide ((escS asg vs 0 false).1 ≤ es) else decide ((escS asg vs 0 false).1 = es), ds')
theorem valueAt_asg {nm : Nat → Str} (inj : Function.Injective nm) (v : Nat) : ∀ asg : List (Nat × Int × Tok), valueAt (asgKv nm asg) (nm v) = (lk asg v).map fun x => .int x.1 x.2
  | [] => rfl
  | a :: asg => by
    have ih := valueAt_asg inj v asg
    unfold valueAt lk at *
    simp only [asgKv, List.map_cons, List.find?_cons] at ih ⊢
    by_cases h : a.1 = v
    · subst h; simp
    · have h2 : ¬ nm a.1 = nm v := fun e => h (inj e)
      simp only [h2, decide_false, beq_eq_false_iff_ne.mpr h]
      exact ih

section
variable {prog : Program} {w : World} {K : Type} [DecidableEq K] {knd : KeyKind prog w K} {A : Around} {E : Value → Shared → Prop} {s : Shared} {h₀ : Heap} {L d : Addr} {news : List (Addr × Obj)} {o : Obj} {kvs : List (K × Value)} {k : K} {key v : Value} {Q : Value → Shared → Prop}
theorem kin_t (N : News h₀ L s.heap news) (hp : (d, o) ∈ news) (hd : o.IsDictOf knd kvs) (lo : (d == sysModules) = false) (hkey : knd.is k key = true) (hv : valueAt kvs k = some v) (h : Q (.bool true) { s with toks := s.toks + 1 }) : wpAny (model prog w) A (compareOp .In key (.ref d)) Q E s := kda_in N hp hd lo hkey true (by rw [hv]; rfl) h
theorem kin_f (N : News h₀ L s.heap news) (hp : (d, o) ∈ news) (hd : o.IsDictOf knd kvs) (lo : (d == sysModules) = false) (hkey : knd.is k key = true) (hv : valueAt kvs k = none) (h : Q (.bool false) { s with toks := s.toks + 1 }) : wpAny (model prog w) A (compareOp .In key (.ref d)) Q E s := kda_in N hp hd lo hkey false (by rw [hv]; rfl) h
theorem knin_t (N : News h₀ L s.heap news) (hp : (d, o) ∈ news) (hd : o.IsDictOf knd kvs) (lo : (d == sysModules) = false) (hkey : knd.is k key = true) (hv : valueAt kvs k = some v) (h : Q (.bool false) { s with toks := s.toks + 1 }) : wpAny (model prog w) A (compareOp .NotIn key (.ref d)) Q E s := wpAny_notIn_of hkey lo (kda_dict N hp hd).mapOf (by rw [hv]; exact h)
theorem knin_f (N : News h₀ L s.heap news) (hp : (d, o) ∈ news) (hd : o.IsDictOf knd kvs) (lo : (d == sysModules) = false) (hkey : knd.is k key = true) (hv : valueAt kvs k = none) (h : Q (.bool true) { s with toks := s.toks + 1 }) : wpAny (model prog w) A (compareOp .NotIn key (.ref d)) Q E s := wpAny_notIn_of hkey lo (kda_dict N hp hd).mapOf (by rw [hv]; exact h)
end
/-- what stands for forwardcheck -/
def FcOk (news : List (Addr × Obj)) (v : Value) (b : Bool) : Prop := (v = .none ∧ b = false) ∨ (v = .bool false ∧ b = false) ∨ ∃ pl xs k, v = .ref pl ∧ (pl, listOf xs k) ∈ news ∧ xs.size ≤ 1000 ∧ b = !xs.isEmpty
theorem fc_truthy {prog : Program} {w : World} {A : Around} {E : Value → Shared → Prop} {s : Shared} {h₀ : Heap} {L : Addr} {news news' : List (Addr × Obj)} {v : Value} {b : Bool} {Q : Bool → Shared → Prop} (N : News h₀ L s.heap news) (hf : FcOk news' v b) (hs : ∀ p ∈ news', p ∈ news) (h : ∀ tk', Q b { s with toks := tk' }) : wpAny (model prog w) A (truthy v) Q E s := by
  rcases hf with ⟨rfl, rfl⟩ | ⟨rfl, rfl⟩ | ⟨pl, xs, k, rfl, hm, hsz, rfl⟩
  · exact wpAny_of_eq (a := false) rfl (h s.toks)
  · exact wpAny_truthy_bool (h s.toks)
  · exact wpAny_truthy_list (items := xs) ⟨_, (N _ (hs _ hm)).1, rfl, _, rfl⟩ (by omega) (h _)
theorem Dyn.notin {P : Params} {cs : List Dc} {ds : List Ds} {dyn : List (Addr × Obj)} {I : Addr} (D : Dyn P cs ds dyn) (h : ∀ p ∈ dyn, p.1 ≠ I) : I ∉ ads cs := by
  rw [← D.fst]; intro hm; obtain ⟨p, hp, he⟩ := List.mem_map.mp hm; exact h p hp he
theorem Dyn.ne {P : Params} {cs : List Dc} {ds : List Ds} {dyn : List (Addr × Obj)} {I : Addr} (D : Dyn P cs ds dyn) (h : I ∉ ads cs) : ∀ p ∈ dyn, p.1 ≠ I := by
  intro p hp e; apply h; rw [← D.fst]; exact List.mem_map.mpr ⟨p, hp, e⟩
theorem ne_app {l1 l2 : List (Addr × Obj)} {I : Addr} (h1 : ∀ p ∈ l1, p.1 ≠ I) (h2 : ∀ p ∈ l2, p.1 ≠ I) : ∀ p ∈ l1 ++ l2, p.1 ≠ I := fun p hp => (List.mem_append.mp hp).elim (h1 p) (h2 p)
theorem ne_l {l1 l2 : List (Addr × Obj)} {I : Addr} (h : ∀ p ∈ l1 ++ l2, p.1 ≠ I) : ∀ p ∈ l1, p.1 ≠ I := fun p hp => h p (List.mem_append_left _ hp)
theorem ne_r {l1 l2 : List (Addr × Obj)} {I : Addr} (h : ∀ p ∈ l1 ++ l2, p.1 ≠ I) : ∀ p ∈ l2, p.1 ≠ I := fun p hp => h p (List.mem_append_right _ hp)
theorem drop_some {α : Type} {l : List α} {i : Nat} {q : α} (h : l[i]? = some q) : i < l.length ∧ l.drop i = q :: l.drop (i + 1) := by
  obtain ⟨hlt, he⟩ := List.getElem?_eq_some_iff.mp h
  exact ⟨hlt, by rw [List.drop_eq_getElem_cons hlt, he]⟩
theorem drop_none {α : Type} {l : List α} {i : Nat} (h : l[i]? = none) : l.drop i = [] := List.drop_eq_nil_of_le (List.getElem?_eq_none_iff.mp h)
theorem get_same {α β : Type} {l : List α} {l' : List β} (h : l.length = l'.length) {i : Nat} {q : β} (hq : l'[i]? = some q) : ∃ p, l[i]? = some p := by
  have := (List.getElem?_eq_some_iff.mp hq).1
  exact ⟨l[i]'(by omega), List.getElem?_eq_getElem _⟩
theorem fr_in {A : Around} {env env' : Env} {outer : List Env} (h : A.frames = some (env :: outer)) : Option.map (env' :: ·) A.frames = some (env' :: env :: outer) := by rw [h]; rfl
theorem iv_get {l : List (Int × Tok)} {j : Nat} : (iv l)[j]? = (l[j]?).map fun p => Value.int p.1 p.2 := by simp [iv]
end Mine
end
section
open PySem PySem.W PySem.W.X PyProof.Rows PySem.Calls PySem.Spec
set_option Elab.async false
set_option maxRecDepth 100000
set_option maxHeartbeats 8000000
namespace Mine
open PyProof.Rows.LCg
/-- how one turn of a comprehension goes out -/
def CompOut (h₀ : Heap) (L : Addr) (m : Str → Option Value) (s₁ : Shared) (I : Addr) (oI : Obj) (C : Addr) (oC : Obj) (D : Addr) (ys : List Value) (J : List (Addr × Obj) → Prop) (s₂ : Shared) : Prop :=
  ∃ h' tk news', s₂ = { s₁ with heap := h', toks := tk } ∧ Fr h₀ L h' m ∧ News h₀ L h' ((I, oI) :: (C, oC) :: (D, lst ys) :: news') ∧ (∀ p ∈ news', p.1 ≠ I ∧ p.1 ≠ C ∧ p.1 ≠ D) ∧ J news'
section
variable {prog : Program} {w : World} {A : Around} {E : Value → Shared → Prop} {s : Shared} {h₀ : Heap} {L : Addr} {m : Str → Option Value} {env : Env}
theorem block_J {elt iter : Expr} {ifs : List Expr} {x : Str} {px : Pos} {scope : Scope} {cl : List (Str × Addr)} {pos : Pos} {s₂ : Shared} {I : Addr} {fp : List Addr} {n : Nat} {P : Nat → Value → Prop} {St : Nat → Heap → Prop} {news : List (Addr × Obj)}
    {RR : Value → Addr → Result → Shared → Prop} (J : Nat → List Value → List (Addr × Obj) → Prop)
    (W : Walks prog w A I fp [I] n P St) (hsz : n ≤ sizeLine) (hIo : ∀ i h, St i h → ∃ o, h.get? I = some o)
    (hSt : ∀ i h h' o nw ys, St i h → h.get? I = some o → h'.get? I = some o → (∀ b o, h₀.get? b = some o → h'.get? b = some o) → News h₀ L h' nw → J i ys nw → St i h')
    (hcell : ∀ y ∈ scope.names, y.2 ≠ .cell) (hkind : scope.kind = .function) (hx : scope.names.lookup x = some .local) (hst : St 0 s₂.heap) (hfp : ∀ b ∈ fp, b < s₂.heap.objs.size)
    (F : Fr h₀ L s₂.heap m) (N : News h₀ L s₂.heap news) (hIL : L ≠ I) (hI₀ : h₀.get? I = none) (off : ∀ p ∈ news, p.1 ≠ I) (hJ : J 0 [] news)
    (turn : ∀ i v oI C oC D m₂ h tk ys nw (E' : Value → Shared → Prop), i < n → P i v → J i ys nw → ys.length ≤ i → NsObj oC m₂ → m₂ x = some v → Fr h₀ L h m → News h₀ L h ((I, oI) :: (C, oC) :: (D, lst ys) :: nw) → (∀ p ∈ nw, p.1 ≠ I ∧ p.1 ≠ C ∧ p.1 ≠ D) → ((@Ne Nat I C) ∧ (@Ne Nat I D) ∧ (@Ne Nat C D)) →
      wpAny (model prog w) A (forIn ifs true fun c r => if r = true then do let ok ← isTrue c (compEnvC scope cl C env) (eval c (compEnvC scope cl C env)); pure (ForInStep.yield ok) else pure (ForInStep.yield r)) (fun ok s₃ =>
        if ok = true then wpAny (model prog w) A (eval elt (compEnvC scope cl C env)) (fun y s₄ => CompOut h₀ L m s₂ I oI C oC D ys (J (i + 1) (ys ++ [y])) s₄) E' s₃ else CompOut h₀ L m s₂ I oI C oC D ys (J (i + 1) ys) s₃) E' { s₂ with heap := h, toks := tk })
    (hRR : ∀ D C h tk m' ys news', Fr h₀ L h m → News h₀ L h ((D, lst ys) :: news') → (∀ p ∈ news', p.1 ≠ D) → h.Ns C m' → h₀.get? C = none → h₀.get? D = none → C ≠ L → D ≠ L → C ≠ D → (∀ p ∈ news', p.1 ≠ C) → J n ys news' → RR (.ref D) C (.ok .next) { s₂ with heap := h, toks := tk }) :
    wpAny (model prog w) A (newList []) (fun acc s₃ => wpAny (model prog w) A (newFunctionEnv scope env.globals cl [] env.qual none .none (some env)) (fun cenv s₄ =>
      codeAny (model prog w) A (.compStart (.ListComp elt [⟨.Name x px, iter, ifs, 0⟩] scope pos) 0 (.ref I) acc { cenv with scope := relabel scope env }) (RR acc cenv.locals) s₄) E s₃) E s₂ := by
  refine wpAny_newObj_type (wpAny_newFunctionEnv hcell (by intro y hy; simp at hy) (fun h₁ hns₁ hsb₁ => ?_) hkind)
  dsimp only at hns₁ hsb₁ ⊢
  generalize hH2 : s₂.heap.push { cls := .type "list", dict := none, data := .seq ([] : List Value).toArray } = H2 at hns₁ hsb₁ ⊢
  have hC : H2.objs.size = s₂.heap.objs.size + 1 := by rw [← hH2, Heap.size_push]
  have hDC : s₂.heap.objs.size ≠ H2.objs.size := by rw [hC]; exact Nat.ne_of_lt (Nat.lt_succ_self _)
  have below : ∀ b, b < s₂.heap.objs.size → b ≠ H2.objs.size ∧ b ≠ s₂.heap.objs.size := fun b hb => ⟨by rw [hC]; exact Nat.ne_of_lt (Nat.lt_succ_of_lt hb), Nat.ne_of_lt hb⟩
  have hDf : s₂.heap.objs.size ∉ fp := fun hm => Nat.lt_irrefl _ (hfp _ hm)
  have hCf : H2.objs.size ∉ fp := fun hm => by have := hfp _ hm; rw [hC] at this; exact Nat.lt_irrefl _ (Nat.lt_of_succ_lt this)
  have hIf : I ∈ fp := W.sub I (List.mem_singleton.mpr rfl)
  have hIlt : I < s₂.heap.objs.size := hfp I hIf
  have old : ∀ b o, s₂.heap.get? b = some o → h₁.get? b = some o := fun b o e => hsb₁.extBut b o (below b (Heap.lt_size e)).1 (Heap.get?_push_of_some _ (hH2 ▸ Heap.get?_push_of_some _ e))
  have hacc : h₁.get? s₂.heap.objs.size = some (lst []) := hsb₁.extBut _ _ hDC (Heap.get?_push_of_some _ (hH2 ▸ Heap.get?_push_size _ rfl))
  have hst₁ : St 0 h₁ := W.frame _ _ _ hst fun b _ o e => old b o e
  have fresh : ∀ a, s₂.heap.objs.size ≤ a → s₂.heap.get? a = none := fun a ha => by
    cases e : s₂.heap.get? a with
    | none => rfl
    | some o' => exact absurd (Heap.lt_size e) (Nat.not_lt.mpr ha)
  have fresh₀ : ∀ a, s₂.heap.objs.size ≤ a → h₀.get? a = none := fun a ha => by
    cases e : h₀.get? a with
    | none => rfl
    | some o' => have := F.keep a o' e; rw [fresh a ha] at this; cases this
  have hD₀ : h₀.get? s₂.heap.objs.size = none := fresh₀ _ (Nat.le_refl _)
  have hC₀ : h₀.get? H2.objs.size = none := fresh₀ _ (by rw [hC]; exact Nat.le_succ _)
  have hLlt : L < s₂.heap.objs.size := F.ns.lt
  have hDL : s₂.heap.objs.size ≠ L := Ne.symm (below L hLlt).2
  have hCL : H2.objs.size ≠ L := Ne.symm (below L hLlt).1
  have hCI : I ≠ H2.objs.size := (below I hIlt).1
  have hDI : I ≠ s₂.heap.objs.size := (below I hIlt).2
  have off₀ : ∀ p ∈ news, p.1 ≠ I ∧ p.1 ≠ H2.objs.size ∧ p.1 ≠ s₂.heap.objs.size := fun p hp => ⟨off p hp, (below _ (Heap.lt_size (N p hp).1)).1, (below _ (Heap.lt_size (N p hp).1)).2⟩
  have loop : ∀ s₃ : Shared, s₃ = { s₂ with heap := h₁, toks := s₂.toks + ([] : List (Str × Value)).length } →
      codeAny (model prog w) A (.compLoop (.ListComp elt [⟨.Name x px, iter, ifs, 0⟩] scope pos) 0 (.ref I) (.ref s₂.heap.objs.size) (compEnvC scope cl H2.objs.size env))
        (RR (.ref s₂.heap.objs.size) H2.objs.size) s₃ := by
    rintro s₃ rfl
    refine codeAny_compLoop_tests
      (fun k s' => ∃ h' tk i ys m' news', s' = { s₂ with heap := h', toks := tk } ∧ i ≤ n ∧ k = n + 1 - i ∧ ys.length ≤ i ∧ St i h' ∧ Fr h₀ L h' m ∧ h'.Ns H2.objs.size m' ∧ News h₀ L h' ((s₂.heap.objs.size, lst ys) :: news') ∧
        (∀ p ∈ news', p.1 ≠ I ∧ p.1 ≠ H2.objs.size ∧ p.1 ≠ s₂.heap.objs.size) ∧ J i ys news') ?_ (n + 1)
      ⟨h₁, _, 0, [], _, news, rfl, Nat.zero_le _, rfl, Nat.le_refl _, hst₁, F.keeps old, hns₁, fun p hp => ?_, off₀, hJ⟩
    · rintro k s' ⟨h', tk, i, ys, m', news', rfl, hi, rfl, hyl, hst', F', hn', N', off', hJ'⟩
      by_cases hlt : i < n
      · refine W.item i _ _ _ hlt hst' fun v h₂ tk₂ hPv hst₂ hk₂ => ?_
        refine wpAny_assign_Name (wpAny_storeName_local (lookup_relabel_local hx) (hn'.at' fun o e => hk₂ _ o (by simpa using Ne.symm hCI) e) (fun h₃ hn₃ hs₃ => ?_) (by simp [compEnvC, relabel, hkind]))
        have hst₃ : St (i + 1) h₃ := W.frame _ _ _ hst₂ fun b hb o e => hs₃.extBut b o (fun q => hCf (by have q' : b = H2.objs.size := q; rw [← q']; exact hb)) e
        obtain ⟨oI, heI⟩ := hIo _ _ hst₃
        obtain ⟨oC, heC, hoC⟩ := ns_obj hn₃
        have F₃ : Fr h₀ L h₃ m := (fr_but F' hk₂ hIL hI₀).change hs₃ hCL hC₀
        have N₂ : News h₀ L h₂ ((s₂.heap.objs.size, lst ys) :: news') := news_but N' hk₂ fun p hp => by
          rcases List.mem_cons.mp hp with rfl | hp
          · exact Ne.symm hDI
          · exact (off' p hp).1
        have N₃ : News h₀ L h₃ ((I, oI) :: (H2.objs.size, oC) :: (s₂.heap.objs.size, lst ys) :: news') := fun p hp => by
          rcases List.mem_cons.mp hp with rfl | hp
          · exact ⟨heI, Ne.symm hIL, hI₀⟩
          · rcases List.mem_cons.mp hp with rfl | hp
            · exact ⟨heC, hCL, hC₀⟩
            · have z := N₂ p hp
              refine ⟨hs₃.extBut _ _ ?_ z.1, z.2⟩
              rcases List.mem_cons.mp hp with rfl | hp
              · exact hDC
              · exact (off' p hp).2.1
        refine wpAny_mono (turn i v oI H2.objs.size oC s₂.heap.objs.size _ h₃ _ ys news' _ hlt hPv hJ' hyl hoC (by simp) F₃ N₃ off' ⟨hCI, hDI, Ne.symm hDC⟩) (fun ok s₄ h₄ => ?_) fun _ _ e => e
        cases ok with
        | false =>
          obtain ⟨h₄, tk₄, news₄, rfl, F₄, N₄, off₄, hJ₄⟩ := h₄
          have zI := (N₄ (I, oI) List.mem_cons_self).1
          have zC := (N₄ (H2.objs.size, oC) (List.mem_cons_of_mem _ List.mem_cons_self)).1
          have N₄' : News h₀ L h₄ ((s₂.heap.objs.size, lst ys) :: news₄) := fun p hp => N₄ p (List.mem_cons_of_mem _ (List.mem_cons_of_mem _ hp))
          exact ⟨n + 1 - (i + 1), by omega, h₄, tk₄, i + 1, ys, _, news₄, rfl, hlt, rfl, by omega, hSt _ _ _ _ _ _ hst₃ heI zI F₄.keep (fun p hp => N₄' p (.tail _ hp)) hJ₄, F₄, hoC.ns zC, N₄', off₄, hJ₄⟩
        | true =>
          refine wpAny_mono h₄ (fun y s₅ h₅ => ?_) fun _ _ e => e
          obtain ⟨h₄, tk₄, news₄, rfl, F₄, N₄, off₄, hJ₄⟩ := h₅
          have zI := (N₄ (I, oI) List.mem_cons_self).1
          have zC := (N₄ (H2.objs.size, oC) (List.mem_cons_of_mem _ List.mem_cons_self)).1
          have zD := (N₄ (s₂.heap.objs.size, lst ys) (List.mem_cons_of_mem _ (List.mem_cons_of_mem _ List.mem_cons_self))).1
          have N₄' : News h₀ L h₄ news₄ := fun p hp => N₄ p (List.mem_cons_of_mem _ (List.mem_cons_of_mem _ (List.mem_cons_of_mem _ hp)))
          have hst₄ : St (i + 1) h₄ := hSt _ _ _ _ _ _ hst₃ heI zI F₄.keep N₄' hJ₄
          refine append_at (hsz := by show ys.toArray.size ≤ sizeLine; rw [List.size_toArray]; omega) zD fun h₅ hs₅ hD₅ => ?_
          refine ⟨n + 1 - (i + 1), by omega, h₅, tk₄, i + 1, ys ++ [y], _, news₄, rfl, hlt, rfl, by rw [List.length_append, List.length_singleton]; omega, W.frame _ _ _ hst₄ fun b hb o e => hs₅.extBut b o (fun q => hDf (q ▸ hb)) e, F₄.change hs₅ hDL hD₀,
            (hoC.ns zC).sameBut hs₅ (Ne.symm hDC), fun p hp => ?_, off₄, hJ₄⟩
          rcases List.mem_cons.mp hp with rfl | hp
          · exact ⟨hD₅.trans (congrArg some (lst_snoc ys y)), hDL, hD₀⟩
          · exact ⟨hs₅.extBut _ _ (off₄ p hp).2.2 (N₄' p hp).1, (N₄' p hp).2⟩
      · obtain rfl : i = n := Nat.le_antisymm hi (Nat.not_lt.mp hlt)
        refine W.done _ _ _ hst' fun h₂ tk₂ hk₂ => ?_
        exact hRR _ _ h₂ tk₂ _ ys news' (fr_but F' hk₂ hIL hI₀) (news_but N' hk₂ fun p hp => by
          rcases List.mem_cons.mp hp with rfl | hp
          · exact Ne.symm hDI
          · exact (off' p hp).1) (fun p hp => (off' p hp).2.2) (hn'.at' fun o e => hk₂ _ o (by simpa using Ne.symm hCI) e) hC₀ hD₀ hCL hDL (Ne.symm hDC) (fun p hp => (off' p hp).2.1) hJ'
    · rcases List.mem_cons.mp hp with rfl | hp
      · exact ⟨hacc, hDL, hD₀⟩
      · exact ⟨old _ _ (N p hp).1, (N p hp).2⟩
  exact codeAny_compStart_list (loop _ rfl) (W.self 0 _ _ _ hst₁ (loop _ rfl))
end
end Mine
end
section
open PySem PySem.W PySem.W.X PyProof.Rows PySem.Calls PySem.Spec
set_option Elab.async false
set_option maxRecDepth 100000
set_option maxHeartbeats 8000000
namespace Mine
open PyProof.Rows.LCg
/-- what a comprehension does with its iterable -/
def CompSt (M : Model) (A : Around) (use : Option (Value → Sem Unit)) (elt iter : Expr) (x : Str) (px : Pos) (ifs : List Expr) (scope : Scope) (pos : Pos) (cl : List (Str × Addr)) (env : Env) (Q : Value → Shared → Prop) (E : Value → Shared → Prop) (xv : Value) (s₁ : Shared) : Prop :=
  wpAny M A (pyIter xv) (fun it s₂ => wpAny M A (newList []) (fun acc s₃ => wpAny M A (newFunctionEnv scope env.globals cl [] env.qual none .none (some env)) (fun cenv s₄ =>
    codeAny M A (.compStart (.ListComp elt [⟨.Name x px, iter, ifs, 0⟩] scope pos) 0 it acc { cenv with scope := relabel scope env }) (compPost M A E use Q acc cenv.locals) s₄) E s₃) E s₂) E s₁
section
variable {prog : Program} {w : World} {A : Around} {E : Value → Shared → Prop} {s : Shared} {h₀ : Heap} {L : Addr} {m : Str → Option Value} {env : Env}
theorem ListComp_C {elt iter : Expr} {ifs : List Expr} {x : Str} {px : Pos} {scope : Scope} {cl : List (Str × Addr)} {pos : Pos} {Q : Value → Shared → Prop}
    (hclos : closureFor scope env = pure cl) (hkind : scope.kind = .function)
    (hnames : ∀ y ∈ scope.names, y.2 = .local → scope.names.lookup y.1 = some .local)
    (h : wpAny (model prog w) A (eval iter env) (fun xv s₁ => CompSt (model prog w) A none elt iter x px ifs scope pos cl env Q E xv s₁) E s)
    (hs : ∀ x, foldedSetIterable iter env x = pure x := by intro _; rfl) :
    wpAny (model prog w) A (eval (.ListComp elt [⟨.Name x px, iter, ifs, 0⟩] scope pos) env) Q E s := by
  rw [eval_ListComp]
  exact wpAny_comprehension_free (use := none) rfl hs hclos hkind hnames h
theorem Assign_ListComp_C {elt iter : Expr} {ifs : List Expr} {x y : Str} {px py : Pos} {scope : Scope} {cl : List (Str × Addr)} {pos spos : Pos} {Q : Flow → Shared → Prop}
    (hsw : swapsWith (.ListComp elt [⟨.Name x px, iter, ifs, 0⟩] scope pos) (some (.Name y py)) spos.line env = pure true)
    (hclos : closureFor scope env = pure cl) (hkind : scope.kind = .function)
    (hnames : ∀ z ∈ scope.names, z.2 = .local → scope.names.lookup z.1 = some .local)
    (h : wpAny (model prog w) A (eval iter env) (fun xv s₁ => CompSt (model prog w) A (some (assign (.Name y py) env)) elt iter x px ifs scope pos cl env (fun _ s' => Q .next s') E xv s₁) E s)
    (hs : ∀ x, foldedSetIterable iter env x = pure x := by intro _; rfl) :
    wpAny (model prog w) A (exec (.Assign [.Name y py] (.ListComp elt [⟨.Name x px, iter, ifs, 0⟩] scope pos) spos) env) Q E s := by
  rw [exec_Assign_Name_used _ _ _ _ hsw]
  refine wpAny_bind (wpAny_standAt (wpAny_bind ?_))
  show wpAny _ A (do let _ ← comprehension (.ListComp elt [⟨.Name x px, iter, ifs, 0⟩] scope pos) scope env _ (newList []) false (eval iter env) (some (assign (.Name y py) env))) _ _ s
  exact wpAny_bind (wpAny_mono (wpAny_comprehension_free (use := some (assign (.Name y py) env)) (Q := fun _ s' => Q .next s') rfl hs hclos hkind hnames h) (fun _ s' hq => wpAny_pure (wpAny_pure hq)) fun _ _ e => e)
theorem IsDictOf.at {K : Type} [DecidableEq K] {knd : KeyKind prog w K} {o : Obj} {kvs : List (K × Value)} (hd : o.IsDictOf knd kvs) : ∃ ep, ∀ (h : Heap) (d : Addr), h.get? d = some o → h.DictAt knd d kvs ep :=
  let ⟨es, ep, r⟩ := hd; ⟨ep, fun _ _ e => ⟨o, es, e, r⟩⟩
/-- a comprehension over the keys of a dict -/
theorem compSt_dict {use : Option (Value → Sem Unit)} {K : Type} [DecidableEq K] {knd : KeyKind prog w K} {elt iter : Expr} {ifs : List Expr} {x : Str} {px : Pos} {scope : Scope} {cl : List (Str × Addr)} {pos : Pos} {news : List (Addr × Obj)} {d : Addr} {od : Obj} {kvs : List (K × Value)} {Q : Value → Shared → Prop}
    (J : Nat → List Value → List (Addr × Obj) → Prop) (hh : A.handled = none) (F : Fr h₀ L s.heap m) (N : News h₀ L s.heap news) (hm : (d, od) ∈ news) (hd : od.IsDictOf knd kvs) (lo : (d == sysModules) = false) (hsz : kvs.length ≤ sizeLine)
    (hcell : ∀ y ∈ scope.names, y.2 ≠ .cell) (hkind : scope.kind = .function) (hx : scope.names.lookup x = some .local)
    (hJd : ∀ i ys nw, J i ys nw → (d, od) ∈ nw) (hJ : J 0 [] news)
    (turn : ∀ I i k u t oI C oC D m₂ h tk ys nw (E' : Value → Shared → Prop) (s₂ : Shared), kvs[i]? = some (k, u) → knd.is k t = true → J i ys nw → NsObj oC m₂ → m₂ x = some t → Fr h₀ L h m → News h₀ L h ((I, oI) :: (C, oC) :: (D, lst ys) :: nw) → (∀ p ∈ nw, p.1 ≠ I ∧ p.1 ≠ C ∧ p.1 ≠ D) → ((@Ne Nat I C) ∧ (@Ne Nat I D) ∧ (@Ne Nat C D)) →
      wpAny (model prog w) A (forIn ifs true fun c r => if r = true then do let ok ← isTrue c (compEnvC scope cl C env) (eval c (compEnvC scope cl C env)); pure (ForInStep.yield ok) else pure (ForInStep.yield r)) (fun ok s₃ =>
        if ok = true then wpAny (model prog w) A (eval elt (compEnvC scope cl C env)) (fun y s₄ => CompOut h₀ L m s₂ I oI C oC D ys (J (i + 1) (ys ++ [y])) s₄) E' s₃ else CompOut h₀ L m s₂ I oI C oC D ys (J (i + 1) ys) s₃) E' { s₂ with heap := h, toks := tk })
    (fin : ∀ D h tk ys nw, Fr h₀ L h m → News h₀ L h ((D, lst ys) :: nw) → (∀ p ∈ nw, p.1 ≠ D) → J kvs.length ys nw → match use with
      | none => Q (.ref D) { s with heap := h, toks := tk }
      | some u => wpAny (model prog w) A (u (.ref D)) (fun _ s'' => ∃ h' tk' m', s'' = { s with heap := h', toks := tk' } ∧ Fr h₀ L h' m' ∧ News h₀ L h' ((D, lst ys) :: nw) ∧ (∀ b o, b ≠ L → h.get? b = some o → h'.get? b = some o) ∧
          ∀ h'', Fr h₀ L h'' m' → News h₀ L h'' ((D, lst ys) :: nw) → Q .none { s with heap := h'', toks := tk' }) E { s with heap := h, toks := tk }) :
    CompSt (model prog w) A use elt iter x px ifs scope pos cl env Q E (.ref d) s := by
  obtain ⟨ep, hat⟩ := IsDictOf.at hd
  have hdm := hat _ _ (N _ hm).1
  have hdlt : d < s.heap.objs.size := Heap.lt_size (N _ hm).1
  unfold CompSt
  refine wpAny_pyIter_dict lo hdm ?_
  have up : ∀ b o, s.heap.get? b = some o → (s.heap.push { cls := .type "dict_keyiterator", data := .fields #[.ref d, .int 0 0, .int kvs.length 0, .int ep 0] }).get? b = some o := fun b o e => Heap.get?_push_of_some _ e
  refine block_J J (Walks.dictKeys (knd := knd) hh s.heap.objs.size d (Nat.ne_of_lt hdlt) kvs ep) hsz (fun i h st => by obtain ⟨o, e, _⟩ := st.1; exact ⟨o, e⟩) ?_ hcell hkind hx ⟨⟨_, Heap.get?_push_size _ rfl, rfl, rfl⟩, hat _ _ (up _ _ (N _ hm).1)⟩ ?_
    (F.keeps up) (N.grown up) (Nat.ne_of_lt F.ns.lt) (next_is_new F) (fun p hp => Nat.ne_of_lt (Heap.lt_size (N p hp).1)) hJ ?_ ?_
  · intro i h h' o nw ys st e e' _ N' hj
    refine ⟨?_, hat _ _ (N' _ (hJd _ _ _ hj)).1⟩
    obtain ⟨o', q, r⟩ := st.1
    rw [e] at q; cases q; exact ⟨o, e', r⟩
  · intro b hb
    show b < (s.heap.push _).objs.size
    rw [Heap.size_push]
    rcases List.mem_cons.mp hb with rfl | hb
    · exact Nat.lt_succ_self _
    · rw [List.mem_singleton.mp hb]; exact Nat.lt_succ_of_lt hdlt
  · rintro i v oI C oC D m₂ h tk ys nw E' hi ⟨k, u, hk, hkey⟩ hj _ hC hx' F' N' off' ne'
    exact turn _ i k u v oI C oC D m₂ h tk ys nw E' _ hk hkey hj hC hx' F' N' off' ne'
  · intro D C h tk m' ys nw F' N' o1 hn hC₀ hD₀ hCL hDL hCD offC hj
    have z := fin D h tk ys nw F' N' o1 hj
    have keep : ∀ {h1 h2 : Heap} {m1 : Str → Option Value}, Fr h₀ L h1 m1 → News h₀ L h1 ((D, lst ys) :: nw) → Heap.SameBut C h1 h2 → Fr h₀ L h2 m1 ∧ News h₀ L h2 ((D, lst ys) :: nw) := fun F1 N1 hs => by
      refine ⟨F1.change hs hCL hC₀, fun p hp => ⟨hs.extBut _ _ ?_ (N1 p hp).1, (N1 p hp).2⟩⟩
      rcases List.mem_cons.mp hp with rfl | hp
      · exact Ne.symm hCD
      · exact offC p hp
    cases use with
    | none =>
      refine ⟨m', hn, fun h'' hs'' => ?_⟩
      obtain ⟨F3, N3⟩ := keep F' N' hs''
      exact fin D h'' tk ys nw F3 N3 o1 hj
    | some u =>
      refine wpAny_mono z (fun _ s'' hz => ?_) fun _ _ e => e
      obtain ⟨h₂, tk₂, m₂, rfl, F₂, N₂, k₂, hq⟩ := hz
      refine ⟨m', hn.at' fun o e => k₂ _ o hCL e, fun h'' hs'' => ?_⟩
      obtain ⟨F3, N3⟩ := keep F₂ N₂ hs''
      exact hq h'' F3 N3
/-- the same, given to a name -/
theorem compSt_dictA {K : Type} [DecidableEq K] {knd : KeyKind prog w K} {elt iter : Expr} {ifs : List Expr} {x y : Str} {px py : Pos} {scope : Scope} {cl : List (Str × Addr)} {pos : Pos} {news : List (Addr × Obj)} {d : Addr} {od : Obj} {kvs : List (K × Value)} {Q : Shared → Prop}
    (J : Nat → List Value → List (Addr × Obj) → Prop) (hLe : env.locals = L) (hy : env.kindOf y = some .local) (hpk : (env.scope.kind == .class || (env.scope.kind == .module && env.locals != env.globals)) = false) (hh : A.handled = none) (F : Fr h₀ L s.heap m) (N : News h₀ L s.heap news) (hm : (d, od) ∈ news) (hd : od.IsDictOf knd kvs) (lo : (d == sysModules) = false) (hsz : kvs.length ≤ sizeLine)
    (hcell : ∀ y ∈ scope.names, y.2 ≠ .cell) (hkind : scope.kind = .function) (hx : scope.names.lookup x = some .local)
    (hJd : ∀ i ys nw, J i ys nw → (d, od) ∈ nw) (hJ : J 0 [] news)
    (turn : ∀ I i k u t oI C oC D m₂ h tk ys nw (E' : Value → Shared → Prop) (s₂ : Shared), kvs[i]? = some (k, u) → knd.is k t = true → J i ys nw → NsObj oC m₂ → m₂ x = some t → Fr h₀ L h m → News h₀ L h ((I, oI) :: (C, oC) :: (D, lst ys) :: nw) → (∀ p ∈ nw, p.1 ≠ I ∧ p.1 ≠ C ∧ p.1 ≠ D) → ((@Ne Nat I C) ∧ (@Ne Nat I D) ∧ (@Ne Nat C D)) →
      wpAny (model prog w) A (forIn ifs true fun c r => if r = true then do let ok ← isTrue c (compEnvC scope cl C env) (eval c (compEnvC scope cl C env)); pure (ForInStep.yield ok) else pure (ForInStep.yield r)) (fun ok s₃ =>
        if ok = true then wpAny (model prog w) A (eval elt (compEnvC scope cl C env)) (fun y s₄ => CompOut h₀ L m s₂ I oI C oC D ys (J (i + 1) (ys ++ [y])) s₄) E' s₃ else CompOut h₀ L m s₂ I oI C oC D ys (J (i + 1) ys) s₃) E' { s₂ with heap := h, toks := tk })
    (fin : ∀ D h tk ys nw, Fr h₀ L h (fun z => if z = y then some (.ref D) else m z) → News h₀ L h ((D, lst ys) :: nw) → (∀ p ∈ nw, p.1 ≠ D) → J kvs.length ys nw → Q { s with heap := h, toks := tk }) :
    CompSt (model prog w) A (some (assign (.Name y py) env)) elt iter x px ifs scope pos cl env (fun _ s' => Q s') E (.ref d) s := by
  subst hLe
  refine compSt_dict J hh F N hm hd lo hsz hcell hkind hx hJd hJ turn ?_
  intro D h tk ys nw F' N' o1 hj
  show wpAny _ A (assign (.Name y py) env (.ref D)) _ _ _
  refine wpAny_assign_Name (wpAny_storeName_local hy F'.ns (fun h₂ hn₂ hs₂ => ?_) hpk)
  have hL₀ : h₀.get? env.locals = none := Heap.get?_none_of_le F'.above
  refine ⟨h₂, _, (fun z => if z = y then some (.ref D) else m z), rfl, ⟨hn₂, fun b o e => hs₂.extBut b o (fun q => by rw [q, hL₀] at e; cases e) (F'.keep b o e), F'.above⟩, fun p hp => ⟨hs₂.extBut _ _ (N' p hp).2.1 (N' p hp).1, (N' p hp).2⟩, fun b o hb e => hs₂.extBut b o hb e, fun h'' F3 N3 => fin D h'' _ ys nw F3 N3 o1 hj⟩
end
end Mine
end
section
open PySem PySem.W PySem.W.X PyProof.Rows PySem.Calls PySem.Spec
set_option Elab.async false
set_option maxRecDepth 100000
set_option maxHeartbeats 8000000
namespace Mine
theorem filled16 : PySem.Challenge.rw_aw5017_04 = PySem.Challenge.rw_aw5017_04 ∧ hd.heap_39 = hd.heap_39 := by k_fill; exact ⟨rfl, rfl⟩
local macro_rules | `(tactic| k_all) => `(tactic| assumption)
local macro_rules | `(tactic| ktr_room) => `(tactic| (simp only [depth_under_make, depth_under_kw, depth_in1, depth_deeper, depth_caller, recursionLimit] at *; omega))
local macro_rules | `(tactic| walk_at "getAttr ref") => `(tactic| (k_here; (with_reducible show wpAny _ _ (getAttr (Value.ref _) (PySem.Str.ofString "_hidden") _) _ _ _); k_dflt (refine' hidden_K ?k1 ?k2 ?k3 ?k4 ?_; (case k1 => k_in); (case k2 => k_asm); (case k3 => k_mem); (case k4 => k_mem); k_whole)))
local macro_rules | `(tactic| walk_at "getAttr ref") => `(tactic| (k_here; (with_reducible show wpAny _ _ (getAttr (Value.ref _) (PySem.Str.ofString "_states") _) _ _ _); k_dflt (refine' states_K ?k1 ?k2 ?k3 ?k4 ?_; (case k1 => k_in); (case k2 => k_asm); (case k3 => k_mem); (case k4 => k_mem); k_whole)))
local macro_rules | `(tactic| walk_at "getMethod ref") => `(tactic| (k_here; k_dflt (refine' meth_K ?k1 ?k2 ?k3 ?k4 ?k5 ?k6 ?k7 ?k8 ?_; (case k1 => k_in); (case k2 => k_asm); (case k3 => k_mem); (case k4 => k_mem); (case k5 => k_is); (case k6 => first | (intro M h X; exact looks_typeIn X (by k_is)) | (intro M h X; exact Looks.of_pure (by first | exact PySem.F.type_list_remove | exact PySem.F.type_list_extend))); (case k7 => decide); (case k8 => first | rfl | decide +kernel); k_whole)))
local macro_rules | `(tactic| walk_at "call builtin:list.remove") => `(tactic| (k_here; k_dflt (refine' remove_K ?k1 ?k2 ?k3 ?k4 ?k5 ?k6 ?_; (case k1 => k_in); (case k2 => k_asm); (case k3 => k_asm); (case k4 => k_upd); (case k5 => assumption); (case k6 => assumption); k_whole; intro h' F' N'; (try k_sweep))))
local macro_rules | `(tactic| walk_at "call builtin:list.append") => `(tactic| (k_here; k_dflt (refine' append_iv ?k1 ?k2 ?k3 ?k4 ?_; (case k1 => k_asm); (case k2 => k_asm); (case k3 => k_upd); (case k4 => assumption); k_whole; intro h' F' N'; (try k_sweep))))
local macro_rules | `(tactic| walk_at "call builtin:list.pop") => `(tactic| (k_here; (with_reducible show wpAny _ _ (call (Value.builtin _) [Value.ref _]) _ _ _); k_dflt (refine' pop_iv ?k1 ?k2 ?k3 ?k4 ?_; (case k1 => k_asm); (case k2 => k_asm); (case k3 => k_upd); (case k4 => assumption); k_whole; intro h' F' N'; (try k_sweep))))
local macro_rules | `(tactic| walk_at "call builtin:list.pop") => `(tactic| (dsimp only; fail_if_success (with_reducible show wpAny _ _ (call (Value.builtin _) (Prod.snd _)) _ _ _)))
local macro_rules | `(tactic| walk_at "call builtin:len") => `(tactic| (k_here; (with_reducible show wpAny _ _ (call (Value.builtin "len") [Value.ref _]) _ _ _); k_dflt (refine' len_iv ?k1 ?k2 ?k3 ?k4 ?_; (case k1 => k_in); (case k2 => k_asm); (case k3 => k_mem); (case k4 => assumption); k_whole); intro u' tk'))
local macro_rules | `(tactic| walk_at "truthy ref") => `(tactic| (k_here; k_dflt (refine' truthy_iv ?k1 ?k2 ?k3 ?k4 ?_; (case k1 => k_in); (case k2 => k_asm); (case k3 => k_mem); (case k4 => assumption); k_whole); intro tk'))
local macro_rules | `(tactic| walk_at "eval Subscript") => `(tactic| (k_here; (with_reducible show wpAny _ _ (eval (PySem.Expr.Subscript _ (PySem.Expr.Slice _ _ none _) _) _) _ _ _); refine SubSlice_ ?_))
local macro_rules | `(tactic| walk_at "delete Subscript") => `(tactic| (k_here; (with_reducible show wpAny _ _ (delete (PySem.Expr.Subscript _ (PySem.Expr.Slice _ none none _) _) _) _ _ _); refine DelSlice_ ?_))
local macro_rules | `(tactic| walk_at "call builtin:list.extend") => `(tactic| (k_here; k_dflt (refine' extend_iv ?k1 ?k2 ?k3 ?k4 ?k5 ?k6 ?k7 ?_; (case k1 => k_in); (case k2 => k_asm); (case k3 => k_asm); (case k4 => (intro o9; k_upd)); (case k5 => k_mem); (case k6 => first | assumption | omega); (case k7 => ((try simp only [List.length_drop, List.length_take]); omega)); k_whole; intro h' e' F' N'; (try k_sweep))))
local macro_rules | `(tactic| ktr_enter) => `(tactic| (refine' code_def ?k1 ?k2 ?k3 ?k4 ?k5 ?kA ?kF ?kK ?k6 ?k7 ?k8 ?k9 ?kB ?_ ?c2 ?c3 ?c4 ?c5; (case kA => first | assumption | exact fr_in (by assumption) | exact rfl); (case kF => first | assumption | exact rfl); (case kK => first | assumption | exact rfl); (case k1 => k_asm); (case k2 => k_asm); (case k3 => k_asm); (case k4 => k_asm); (case k5 => k_asm); (case k6 => k_is); (case k7 => k_is); (case k8 => ktr_room); (case k9 => first | exact BindsTo.of_eq rfl | exact binds_K (by k_in) rfl (by k_is) rfl rfl rfl); (case c5 => decide); (case kB => exact locs rfl); (case c2 => exact rfl); (case c3 => exact rfl); (case c4 => exact rfl); k_whole; intro g' L' h' FG' F' N' B' X' T'; (try dsimp only); (try k_fold)))
local macro_rules | `(tactic| k_mem) => `(tactic| (first | (refine List.mem_append_left _ ?_; assumption) | (refine List.mem_append_right _ ?_; assumption)))
local macro_rules | `(tactic| walk_at "exec For Name Name cons nil") => `(tactic| (k_here; refine For_ ?_))
local macro_rules | `(tactic| walk_at "exec For Name Subscript cons nil") => `(tactic| (k_here; refine For_ ?_))
local macro_rules | `(tactic| walk_at "call ref") => `(tactic| (k_here; (with_reducible show wpAny _ _ (call (Value.ref 300) _) _ _ _); refine Stop.intro ?_))
local macro_rules | `(tactic| walk_at "compareOp In str ref") => `(tactic| (k_here; k_dflt (first
  | (refine' kin_t (knd := PySem.strKind _ _) ?k1 ?k2 ?k3 ?k4 (strKind_is _ _ _ _) ?k5 ?_; (case k1 => k_asm); (case k2 => k_mem); (case k3 => assumption); (case k4 => assumption); (case k5 => assumption); k_whole)
  | (refine' kin_f (knd := PySem.strKind _ _) ?k1 ?k2 ?k3 ?k4 (strKind_is _ _ _ _) ?k5 ?_; (case k1 => k_asm); (case k2 => k_mem); (case k3 => assumption); (case k4 => assumption); (case k5 => assumption); k_whole))))
local macro_rules | `(tactic| walk_at "compareOp NotIn str ref") => `(tactic| (k_here; k_dflt (first
  | (refine' knin_t (knd := PySem.strKind _ _) ?k1 ?k2 ?k3 ?k4 (strKind_is _ _ _ _) ?k5 ?_; (case k1 => k_asm); (case k2 => k_mem); (case k3 => assumption); (case k4 => assumption); (case k5 => assumption); k_whole)
  | (refine' knin_f (knd := PySem.strKind _ _) ?k1 ?k2 ?k3 ?k4 (strKind_is _ _ _ _) ?k5 ?_; (case k1 => k_asm); (case k2 => k_mem); (case k3 => assumption); (case k4 => assumption); (case k5 => assumption); k_whole))))
local macro_rules | `(tactic| walk_at "subscriptTail") => `(tactic| (k_here; k_dflt (refine' kda_item (knd := PySem.strKind _ _) ?k1 ?k2 ?k3 (strKind_is _ _ _ _) ?k5 ?_; (case k1 => k_asm); (case k2 => k_mem); (case k3 => assumption); (case k5 => assumption); k_whole)))
local macro_rules | `(tactic| walk_at "call builtin:list.remove") => `(tactic| (k_here; (with_reducible show wpAny _ _ (call _ _) _ _ _); refine Stop.intro ?_))
local macro_rules | `(tactic| walk_at "call ref") => `(tactic| (k_here; (with_reducible show wpAny _ _ (call (Value.ref 336) _) _ _ _); k_dflt (refine wpAny_call ?_; ktr_enter)))
def Ds.rem (d : Ds) (v : Int) : Option Ds := if d.vs.any (·.1 == v) && decide (d.vs.length ≤ 500) then some { d with vs := d.vs.eraseP (eqv v) } else none
def remAll (es f : Int) : List (Int × Tok) → Ds → Option Ds
  | [], d => some d
  | x :: xs, d => if x.1 * f > es then (match d.rem x.1 with | none => none | some d' => remAll es f xs d') else remAll es f xs d
/-- ExactSumConstraint.preProcess of more than one variable -/
def preM (es : Int) : List (Nat × Int) → List Ds → Option (List Ds)
  | [], ds => some ds
  | (v, f) :: vs, ds => match ds[v]? with
    | none => none
    | some d => if d.vs.length ≤ 500 then (match remAll es f d.vs d with
      | none => none
      | some d' => preM es vs (ds.set v d')) else none
section
variable {w : World} {p : Program} {loose : List Str} {mean : ExcName → Option Value} {mg mb : Str → Option Value} {A : Around} {env : Env} {outer : List Env} {A₀ : Around} {base h₀ : Heap} {L : Addr} {m : Str → Option Value} {s : Shared} {Q E : Value → Shared → Prop}
  {R dyn news : List (Addr × Obj)} {cs : List Dc} {ds ds' : List Ds} {i : Nat} {c : Dc} {d d' : Ds}
theorem rem_D {v : Int} {u : Tok} (X : (hd.heap_39 w.params).In s.heap) (F : Fr h₀ L s.heap m) (N : News h₀ L s.heap news) (C : Cut dyn news R) (D : Dyn w.params cs ds dyn) (nd : (ads cs).Nodup) (hR : ∀ p ∈ R, p.1 ∉ ads cs)
    (hc : cs[i]? = some c) (hd : ds[i]? = some d) (hm : d.rem v = some d') (ret : ∀ h' dyn', Fr h₀ L h' m → News h₀ L h' (R ++ dyn') → Dyn w.params cs (ds.set i d') dyn' → Q .none { s with heap := h' }) :
    wpAny (model PW w) A (call (.builtin "list.remove") [.ref c.x, .int v u]) Q E s := by
  rw [C.eq] at N
  obtain ⟨pre, l1, post, rfl, ⟨e, f, g, ss, rfl, hss⟩, hset, hads⟩ := D.split hc hd
  rw [part4] at N
  unfold Ds.rem at hm
  split at hm
  case isFalse => cases hm
  rename_i hif
  simp only [Bool.and_eq_true, decide_eq_true_eq, List.any_eq_true, beq_iff_eq] at hif
  cases hm
  rw [← hads] at nd hR
  have sub : ∀ p ∈ R ++ (pre ++ post), p.1 ∉ c.ads := by
    intro p hp hq
    rcases List.mem_append.mp hp with h1 | h1
    · exact hR p h1 (by simp [hq])
    · have h2 := List.nodup_append.mp nd
      have h3 := List.nodup_append.mp h2.2.1
      rcases List.mem_append.mp h1 with h4 | h4
      · exact h2.2.2 _ (List.mem_map.mpr ⟨p, h4, rfl⟩) _ (List.mem_append.mpr (.inl hq)) rfl
      · exact h3.2.2 _ hq _ (List.mem_map.mpr ⟨p, h4, rfl⟩) rfl
  have nd4 : c.ads.Nodup := (List.nodup_append.mp (List.nodup_append.mp nd).2.1).1
  simp only [Dc.ads, List.nodup_cons, List.mem_cons, List.not_mem_nil, or_false, not_or] at nd4 sub
  refine dom_remove (x := c.x) X (N _ (.head _)).1 hif.1 (by omega) fun h' hs ho => ?_
  have z := N _ (.head _)
  have N' : News h₀ L h' ((c.x, domO c.dx (iv (d.vs.eraseP (eqv v))).toArray (e + 1)) :: (c.dx, domD w.params c.t1 c.t2 c.hd c.st c.e2) :: (c.hd, listOf (iv d.hid).toArray f) :: (c.st, listOf (iv ss).toArray g) :: (R ++ (pre ++ post))) := by
    intro q hq
    rcases List.mem_cons.mp hq with rfl | hq
    · exact ⟨ho, z.2⟩
    · have zz := N q (.tail _ hq)
      refine ⟨hs.extBut _ _ ?_ zz.1, zz.2⟩
      rcases List.mem_cons.mp hq with rfl | hq
      · exact fun e => nd4.1.1 e.symm
      rcases List.mem_cons.mp hq with rfl | hq
      · exact fun e => nd4.1.2.1 e.symm
      rcases List.mem_cons.mp hq with rfl | hq
      · exact fun e => nd4.1.2.2 e.symm
      · exact (sub q hq).1
  exact ret h' _ (F.change hs z.2.1 z.2.2) (part4.mpr N') (hset _ _ ⟨e + 1, f, g, ss, rfl, hss⟩)
theorem len_nvs {x : Addr} {nm : Nat → Str} {vars : List (Nat × Tok)} {k : Nat} {prog : Program} {Q : Value → Shared → Prop} (N : News h₀ L s.heap news) (hx : (x, listOf (nvs nm vars).toArray k) ∈ news) (hz : vars.length ≤ 1000) (h : ∀ u tk', Q (.int (vars.length : Int) u) { s with toks := tk' }) : wpAny (model prog w) A (call (.builtin "len") [.ref x]) Q E s := by
  refine call_len_list (items := (nvs nm vars).toArray) ⟨_, (N _ hx).1, rfl, _, rfl⟩ (by simp; omega) ?_
  have e : ((nvs nm vars).toArray.size : Int) = vars.length := by simp
  rw [e]; exact h _ _
local macro_rules | `(tactic| walk_at "call builtin:len") => `(tactic| (k_here; (with_reducible show wpAny _ _ (call (Value.builtin "len") [Value.ref _]) _ _ _); k_dflt (refine' len_nvs ?k2 ?k3 ?k4 ?_; (case k2 => k_asm); (case k3 => k_mem); (case k4 => assumption); k_whole); intro u' tk'))
theorem pre_c {c cdx vl AD AC AV : Addr} {es : Int} {t1 t2 te : Tok} {ep k : Nat} {nm : Nat → Str} {vars : List (Nat × Tok)} {od : Obj} {domKv : List (Str × Value)} (cx : Cx w p loose mean mg mb A 800 8000 env outer A₀ base h₀ L) (F : Fr h₀ L s.heap m)
    (N : News h₀ L s.heap news) (C : Cut dyn news R) (hc : (c, instObj 410 cdx) ∈ R) (hcd : (cdx, escD w.params t1 t2 es te .none ep) ∈ R) (hv : (vl, listOf (nvs nm vars).toArray k) ∈ R) (hda : (AD, od) ∈ R) (hod : od.IsDictOf (PySem.strKind PW w) domKv)
    (hdk : ∀ v c, cs[v]? = some c → valueAt domKv (nm v) = some (.ref c.x)) (hlv : vars.length ≤ 1000) (hl1 : vars.length ≠ 1)
    (D : Dyn w.params cs ds dyn) (nd : (ads cs).Nodup) (hR : ∀ p ∈ R, p.1 ∉ ads cs)
    (hm : preM es (vars.map fun p => (p.1, 1)) ds = some ds')
    (ret : ∀ h' tk' dyn', Fr h₀ L h' m → News h₀ L h' (R ++ dyn') → Dyn w.params cs ds' dyn' → Q .none { s with heap := h', toks := tk' }) :
    wpAny (model PW w) A (call (.ref 399) [.ref c, .ref vl, .ref AD, .ref AC, .ref AV]) Q E s := by
  obtain ⟨B, X, T, hk, hf, hd, hu, hfr, hhd⟩ := cx
  obtain rfl := C.eq
  refine wpAny_call ?_
  k_dflt ktr_enter
  rename Fr h₀ L _ m => FG
  k_steps
  · exfalso; omega
  rename Fr _ _ _ _ => F1
  rename News _ _ _ _ => N1
  refine Fr.abs [("exactsum", .int es te), ("multipliers", .none), ("variables", .ref vl), ("domains", .ref AD)] F1 (by (intros; repeat (first | exact Locs.nil | refine Locs.cons rfl ?_))) (fun m1 H1 F3 => ?_)
  clear F1
  refine iter_list (o := default) F3 N1 (N1 _ (List.mem_append_left _ hv)).1 (fun I2 h' F2 N2 hI2 hk => ?_)
  clear F3
  refine loop_list (I := I2) (l := vl) vars.length (fun i m₁ news₁ => ∃ dyn₁ ds₁, news₁ = R ++ dyn₁ ∧ Dyn w.params cs ds₁ dyn₁ ∧ preM es ((vars.drop i).map fun p => (p.1, 1)) ds₁ = some ds' ∧
    Locs m₁ [("exactsum", .int es te), ("multipliers", .none), ("variables", .ref vl), ("domains", .ref AD)]) go_name ?hE hhd F2 N2 ?h0 ?h1 ?h2
  case hE => passes_own
  case h0 => exact ⟨_, _, rfl, D, hm, H1⟩
  case h1 =>
    rintro i m news h ⟨dyn₁, ds₁, rfl, D₁, _⟩ _
    exact ne_app (ne_l hI2) (D₁.ne (D.notin (ne_r hI2)))
  case h2 =>
    rintro i m₁ news₁ h₁ tk₁ ⟨dyn₁, ds₁, rfl, D₁, hS₁, H₁⟩ F₁ N₁
    refine ⟨nvs nm vars, ⟨_, _, (N₁ _ (.tail _ (List.mem_append_left _ hv))).1, rfl⟩, ?_⟩
    rw [List.getElem?_map]
    cases hi : vars[i]? with
    | none =>
      dsimp only [Option.map]
      intro h₂ F₂ N₂
      have F₂ := H₁.fr F₂
      simp only [nest] at F₂
      rw [drop_none hi] at hS₁
      simp only [List.map_nil, preM, Option.some.injEq] at hS₁
      subst hS₁
      k_steps
      refine' ret _ _ _ ?_ ?_ D₁
      · k_asm
      · k_asm
    | some q =>
      dsimp only [Option.map]
      obtain ⟨hlt, hdr⟩ := drop_some hi
      refine ⟨hlt, fun h₂ F₂ N₂ => ?_⟩
      have F₂ := H₁.fr F₂
      simp only [nest] at F₂
      rw [hdr] at hS₁
      simp only [List.map_cons, preM] at hS₁
      cases hd1 : ds₁[q.1]? with
      | none => rw [hd1] at hS₁; cases hS₁
      | some d =>
      rw [hd1] at hS₁
      dsimp only at hS₁
      split at hS₁
      case isFalse => cases hS₁
      rename_i hl5
      cases hH : remAll es 1 d.vs d with
      | none => rw [hH] at hS₁; cases hS₁
      | some d' =>
      rw [hH] at hS₁
      dsimp only at hS₁
      obtain ⟨c₁, hc₁⟩ := get_same D₁.len hd1
      have hvd := hdk _ _ hc₁
      have hl1 : d.vs.length ≤ 1000 := by omega
      have hset : ds₁.set q.1 d = ds₁ := by
        obtain ⟨h1, h2⟩ := List.getElem?_eq_some_iff.mp hd1
        rw [← h2]; exact List.set_getElem_self h1
      obtain ⟨e₁, hx₁, hdx₁⟩ := D₁.there hc₁ hd1
      k_steps
      rename Fr _ _ _ _ => F8
      rename News _ _ _ _ => N8
      k_dflt (refine' sliceAll_K ?k1 F8 N8 (List.mem_cons_of_mem _ (List.mem_append_right _ hx₁)) (.inl rfl) hl1 ?_; (case k1 => k_in))
      intro a h' F9 N9 hlt9
      k_steps
      refine Fr.abs [("exactsum", .int es te), ("multipliers", .none), ("variables", .ref vl), ("domains", .ref AD), ("domain", .ref c₁.x)] F9 (by (intros; repeat (first | exact Locs.nil | refine Locs.cons rfl ?_))) (fun m9 H9 F9 => ?_)
      refine iter_list (o := default) F9 N9 (N9 _ (.head _)).1 (fun I3 h' F10 N10 hI3 hk3 => ?_)
      have nI3 : I3 ∉ ads cs := D₁.notin fun p hp => hI3 p (List.mem_cons_of_mem _ (List.mem_cons_of_mem _ (List.mem_append_right _ hp)))
      have na : a ∉ ads cs := D₁.notin fun p hp => Nat.ne_of_lt (hlt9 p (List.mem_cons_of_mem _ (List.mem_append_right _ hp)))
      have nI2 : I2 ∉ ads cs := D.notin (ne_r hI2)
      refine loop_list (I := I3) (l := a) d.vs.length (fun j m₂ news₂ => ∃ dyn₂ d₂, news₂ = (a, listOf (iv d.vs).toArray 0) :: (I2, itO vl (i + 1)) :: (R ++ dyn₂) ∧ Dyn w.params cs (ds₁.set q.1 d₂) dyn₂ ∧ remAll es 1 (d.vs.drop j) d₂ = some d' ∧
        Locs m₂ [("exactsum", .int es te), ("multipliers", .none), ("variables", .ref vl), ("domains", .ref AD), ("domain", .ref c₁.x)]) go_name ?hE hhd F10 N10 ?h0 ?h1 ?h2
      case hE => passes_own
      case h0 => exact ⟨dyn₁, d, rfl, by rw [hset]; exact D₁, hH, H9⟩
      case h1 =>
        rintro j m₂ news₂ h ⟨dyn₂, d₂, rfl, D₂, _⟩ _
        refine List.forall_mem_cons.mpr ⟨hI3 _ (.head _), List.forall_mem_cons.mpr ⟨hI3 _ (.tail _ (.head _)), ne_app (fun p hp => hI3 p (.tail _ (.tail _ (List.mem_append_left _ hp)))) (D₂.ne nI3)⟩⟩
      case h2 =>
        rintro j m₂ news₂ h₂ tk₂ ⟨dyn₂, d₂, rfl, D₂, hS₂, H₂⟩ F₂ N₂
        refine ⟨iv d.vs, ⟨_, _, (N₂ _ (.tail _ (.head _))).1, rfl⟩, ?_⟩
        rw [iv_get]
        cases hj : d.vs[j]? with
        | some y =>
          dsimp only [Option.map]
          obtain ⟨hltj, hdrj⟩ := drop_some hj
          refine ⟨hltj, fun h₃ F₃ N₃ => ?_⟩
          have F₃ := H₂.fr F₃
          simp only [nest] at F₃
          rw [hdrj] at hS₂
          simp only [remAll, Int.mul_one] at hS₂
          have hd2 : (ds₁.set q.1 d₂)[q.1]? = some d₂ := List.getElem?_set_self (List.getElem?_eq_some_iff.mp hd1).1
          obtain ⟨e₂, hx₂, hdx₂⟩ := D₂.there hc₁ hd2
          k_steps
          · rw [if_pos (by assumption)] at hS₂
            cases hh : d₂.rem y.1 with
            | none => rw [hh] at hS₂; cases hS₂
            | some d₃ =>
              rw [hh] at hS₂
              dsimp only at hS₂
              rename Fr _ _ _ _ => F11
              rename News _ _ _ _ => N11
              k_dflt (refine' rem_D (R := (I3, itO a (j + 1)) :: (a, listOf (iv d.vs).toArray 0) :: (I2, itO vl (i + 1)) :: R) ?k1 F11 N11 (.cons _ (.cons _ (.cons _ (.base _)))) D₂ nd ?_ hc₁ hd2 hh ?_; (case k1 => k_in))
              · exact List.forall_mem_cons.mpr ⟨nI3, List.forall_mem_cons.mpr ⟨na, List.forall_mem_cons.mpr ⟨nI2, hR⟩⟩⟩
              · intro h' dyn₃ F12 N12 D₃
                simp only [List.cons_append] at N12
                rw [List.set_set] at D₃
                k_steps
                exact ⟨_, _, _, _, rfl, by k_asm, by k_asm, _, _, rfl, D₃, hS₂, by (intros; repeat (first | exact Locs.nil | refine Locs.cons rfl ?_))⟩
          · rw [if_neg (by omega)] at hS₂
            exact ⟨_, _, _, _, rfl, by k_asm, by k_asm, _, _, rfl, D₂, hS₂, by (intros; repeat (first | exact Locs.nil | refine Locs.cons rfl ?_))⟩
        | none =>
          dsimp only [Option.map]
          intro h₃ F₃ N₃
          have F₃ := H₂.fr F₃
          simp only [nest] at F₃
          rw [drop_none hj] at hS₂
          simp only [remAll, Option.some.injEq] at hS₂
          subst hS₂
          k_steps
          rename News _ _ _ _ => N15
          exact ⟨_, _, _, _, rfl, by k_asm, news_tl N15, _, _, rfl, D₂, hS₁, by (intros; repeat (first | exact Locs.nil | refine Locs.cons rfl ?_))⟩
end
end Mine
end
section
open PySem PySem.W PySem.W.X PyProof.Rows PySem.Calls PySem.Spec
set_option Elab.async false
set_option maxRecDepth 100000
set_option maxHeartbeats 8000000
namespace Mine
open PyProof.Rows.LCg
def keyLt (key : Nat → Int × Int) (i j : Nat) : Bool := if (key i).1 = (key j).1 then (if (key i).2 = (key j).2 then decide (i < j) else decide ((key i).2 < (key j).2)) else decide ((key i).1 < (key j).1)
theorem keyLt_strict (n : Nat) (key : Nat → Int × Int) : Strict n (keyLt key) where
  irr := fun i _ => by simp [keyLt]
  tot := fun i j _ _ hij => by
    unfold keyLt
    rcases Int.lt_trichotomy (key i).1 (key j).1 with h | h | h
    · left; rw [if_neg (by omega)]; simpa using h
    · rw [if_pos h, if_pos h.symm]
      rcases Int.lt_trichotomy (key i).2 (key j).2 with h | h | h
      · left; rw [if_neg (by omega)]; simpa using h
      · rw [if_pos h, if_pos h.symm]; simp only [decide_eq_true_eq]; omega
      · right; rw [if_neg (by omega)]; simpa using h
    · right; rw [if_neg (by omega)]; simpa using h
  tr := fun i j k _ _ _ h1 h2 => by
    unfold keyLt at *
    split at h1 <;> split at h2 <;> (try split at h1) <;> (try split at h2) <;> simp only [decide_eq_true_eq] at h1 h2 <;> (repeat' split) <;> simp only [decide_eq_true_eq] <;> omega
section
variable {prog : Program} {w : World} {A : Around} {E : Value → Shared → Prop} {s : Shared} {h₀ : Heap} {L D : Addr} {m : Str → Option Value} {rest : List (Addr × Obj)}
theorem kas_pure {α : Type} {κ : SortKind} {vs : List Value} {n : Nat} {lt : Nat → Nat → Bool} {Q : α → Shared → Prop}
    (ask : ∀ i j (C : Bool → Shared → Prop) tk, i < n → j < n → (∀ tk', C (lt i j) { s with toks := tk' }) → kas_ask prog w A κ vs i j C { s with toks := tk }) :
    ∀ (t : KasT α) (a : α) (tk : Nat), katRun n lt t = some a → (∀ tk', Q a { s with toks := tk' }) → t.kasWp (kas_ask prog w A κ vs) Q { s with toks := tk }
  | .ret b, a, tk, h, hQ => by
    simp only [katRun, Option.some.injEq] at h
    subst h; exact hQ tk
  | .ask i j k, a, tk, h, hQ => by
    unfold katRun at h
    split at h
    case isFalse => cases h
    rename_i hij
    exact ask i j _ tk hij.1 hij.2 fun tk' => kas_pure ask _ a tk' h hQ
def TupAt (a b : Int) (x : Str) (o : Obj) : Prop := ∃ t u v, o = { cls := .type "tuple", data := .seq #[.int a t, .int b u, .str x v] }
abbrev refs (T : List (Addr × Obj)) : List Value := T.map fun p => .ref p.1
theorem refs_get {T : List (Addr × Obj)} {i : Nat} {p : Addr × Obj} (h : T[i]? = some p) : (refs T).getD i Value.none = .ref p.1 := by
  rw [List.getD_eq_getElem?_getD, List.getElem?_map, h]; rfl
theorem tups_firsts {h : Heap} (key : Nat → Int × Int) (nm : Nat → Str) : ∀ (T : List (Addr × Obj)) (o : Nat), (∀ p ∈ T, h.get? p.1 = some p.2) → (∀ (j : Nat) (p : Addr × Obj), T[j]? = some p → TupAt (key (o + j)).1 (key (o + j)).2 (nm (o + j)) p.2) →
    ∃ fs, KatTups h (refs T) fs ∧ fs.length = T.length ∧ ∀ v ∈ fs, ∃ x t, v = .int x t
  | [], _, _, _ => ⟨[], .nil, rfl, fun _ h => nomatch h⟩
  | p :: T, o, hh, hk => by
    obtain ⟨fs, h1, h2, h3⟩ := tups_firsts key nm T (o + 1) (fun q hq => hh q (.tail _ hq)) (fun j q hq => by have := hk (j + 1) q (by simpa using hq); rw [show o + (j + 1) = o + 1 + j by omega] at this; exact this)
    obtain ⟨t, u, v, ho⟩ := hk 0 p rfl
    exact ⟨.int (key (o + 0)).1 t :: fs, .cons (hh p (.head _)) (by rw [ho]) (by rw [ho]) rfl h1, by simp [h2], List.forall_mem_cons.mpr ⟨⟨_, _, rfl⟩, h3⟩⟩
theorem sort_tups {T : List (Addr × Obj)} {key : Nat → Int × Int} {nm : Nat → Str} {n c : Nat} {Q : Value → Shared → Prop} (F : Fr h₀ L s.heap m) (N : News h₀ L s.heap ((D, listOf (refs T).toArray c) :: rest)) (hD : ∀ p ∈ rest, p.1 ≠ D) (hT : ∀ p ∈ T, p ∈ rest)
    (hk : ∀ (j : Nat) (p : Addr × Obj), T[j]? = some p → TupAt (key j).1 (key j).2 (nm j) p.2)
    (hn : T.length = n) (h2 : 2 ≤ n) (h6 : n ≤ 6) (inj : Function.Injective nm) (hnm : ∀ i j, i < n → j < n → ((nm i).cps.toList < (nm j).cps.toList ↔ i < j))
    (h : ∀ h' tk' c' (p : List Nat), Fr h₀ L h' m → News h₀ L h' ((D, listOf (p.map fun i => (refs T).getD i Value.none).toArray c') :: rest) → (∀ i ∈ p, i < n) → (∀ free, p.find? free = least (keyLt key) free (List.range n)) → Q .none { s with heap := h', toks := tk' }) :
    wpAny (model prog w) A (call (.builtin "list.sort") [.ref D]) Q E s := by
  have U : UpdF D (listOf (refs T).toArray c) ((D, listOf (refs T).toArray c) :: rest) (fun o => (D, o) :: rest) := .head hD
  obtain ⟨p, hp, hp1, hp2, hp3⟩ := sort_ok h2 h6 (keyLt_strict n key)
  have hfind : ∀ free, p.toList.find? free = least (keyLt key) free (List.range n) := fun free => find_least (keyLt_strict n key) hp1 hp2 hp3
  refine kat_lsort (vs := refs T) F N U (by simp) (by simp; omega) (by simp; omega) fun e1 h' F' N' => ?_
  have hat : ∀ p ∈ T, h'.get? p.1 = some p.2 := fun p hp => (N' p (.tail _ (hT p hp))).1
  obtain ⟨fs, hfs, hfl, hfi⟩ := tups_firsts (h := h') key nm T 0 hat (fun j p hj => by simpa using hk j p hj)
  refine kat_kind (T := .type "int") hfs (by omega) (fun v hv => ?_) rfl ?_
  · obtain ⟨x, t, rfl⟩ := hfi v hv; exact .now
  rw [show (refs T).length = n by simpa using hn]
  refine kas_pure (s := { s with heap := h' }) (lt := keyLt key) (n := n) ?_ (kas_sort n) p s.toks hp ?_
  · intro i j C tk hi hj hC
    obtain ⟨pi, hpi⟩ : ∃ q, T[i]? = some q := ⟨T[i]'(by omega), List.getElem?_eq_getElem _⟩
    obtain ⟨pj, hpj⟩ : ∃ q, T[j]? = some q := ⟨T[j]'(by omega), List.getElem?_eq_getElem _⟩
    obtain ⟨ti, ui, vi, ci⟩ := hk i pi hpi
    obtain ⟨tj, uj, vj, cj⟩ := hk j pj hpj
    have di : pi.2.data = .seq #[.int (key i).1 ti, .int (key i).2 ui, .str (nm i) vi] := by rw [ci]
    have dj : pj.2.data = .seq #[.int (key j).1 tj, .int (key j).2 uj, .str (nm j) vj] := by rw [cj]
    unfold kas_ask
    rw [refs_get hpi, refs_get hpj]
    refine kat_lt (s := { s with heap := h', toks := tk }) (hat pi (List.mem_of_getElem? hpi)) di (hat pj (List.mem_of_getElem? hpj)) dj ?_
    show KatLex _ _ _ _ _ _ [(_, _), (_, _), (_, _)] 0 _
    unfold keyLt at hC
    refine kat_cons (wpAny_eqBool_int ?_)
    refine kat_go (fun he => kat_yes ?_) (fun he => kat_no ?_)
    · rw [if_pos (by simpa using he)] at hC
      refine kat_cons (wpAny_eqBool_int ?_)
      refine kat_go (fun he2 => kat_yes ?_) (fun he2 => kat_no ?_)
      · rw [if_pos (by simpa using he2)] at hC
        refine kat_cons (wpAny_eqBool_str ?_)
        refine kat_go (fun he3 => kat_yes ?_) (fun he3 => kat_no ?_)
        · refine kat_nil ?_
          have hij := inj (of_decide_eq_true he3)
          rw [show decide (i < j) = false by rw [hij]; simp] at hC
          exact hC tk
        · refine kat_one _ _ (P.lt_str ?_)
          rw [show decide (i < j) = decide ((nm i).cps.toList < (nm j).cps.toList) by simp only [hnm i j hi hj]] at hC
          exact hC tk
      · rw [if_neg (by simpa using he2)] at hC
        exact kat_one _ _ (wpAny_lt_int (hC tk))
    · rw [if_neg (by simpa using he)] at hC
      exact oneLt_int (hC tk)
  · intro tk'
    refine KasFin.intro F' N' (.head hD) fun h2' c2 F2 N2 => ?_
    exact h h2' tk' c2 p.toList F2 N2 hp1 hfind
end
end Mine
end
section
open PySem PySem.W PySem.W.X PyProof.Rows PySem.Calls PySem.Spec
set_option Elab.async false
set_option maxRecDepth 100000
set_option maxHeartbeats 8000000
namespace Mine
theorem filled13 : PySem.Challenge.rw_aw5017_04 = PySem.Challenge.rw_aw5017_04 ∧ hd.heap_39 = hd.heap_39 := by k_fill; exact ⟨rfl, rfl⟩
local macro_rules | `(tactic| k_all) => `(tactic| assumption)
local macro_rules | `(tactic| ktr_room) => `(tactic| (simp only [depth_under_make, depth_under_kw, depth_in1, depth_deeper, depth_caller, recursionLimit] at *; omega))
local macro_rules | `(tactic| walk_at "getAttr ref") => `(tactic| (k_here; (with_reducible show wpAny _ _ (getAttr (Value.ref _) (PySem.Str.ofString "_hidden") _) _ _ _); k_dflt (refine' hidden_K ?k1 ?k2 ?k3 ?k4 ?_; (case k1 => k_in); (case k2 => k_asm); (case k3 => k_mem); (case k4 => k_mem); k_whole)))
local macro_rules | `(tactic| walk_at "getAttr ref") => `(tactic| (k_here; (with_reducible show wpAny _ _ (getAttr (Value.ref _) (PySem.Str.ofString "_states") _) _ _ _); k_dflt (refine' states_K ?k1 ?k2 ?k3 ?k4 ?_; (case k1 => k_in); (case k2 => k_asm); (case k3 => k_mem); (case k4 => k_mem); k_whole)))
local macro_rules | `(tactic| walk_at "getMethod ref") => `(tactic| (k_here; k_dflt (refine' meth_K ?k1 ?k2 ?k3 ?k4 ?k5 ?k6 ?k7 ?k8 ?_; (case k1 => k_in); (case k2 => k_asm); (case k3 => k_mem); (case k4 => k_mem); (case k5 => k_is); (case k6 => first | (intro M h X; exact looks_typeIn X (by k_is)) | (intro M h X; exact Looks.of_pure (by first | exact PySem.F.type_list_remove | exact PySem.F.type_list_extend))); (case k7 => decide); (case k8 => first | rfl | decide +kernel); k_whole)))
local macro_rules | `(tactic| walk_at "call builtin:list.remove") => `(tactic| (k_here; k_dflt (refine' remove_K ?k1 ?k2 ?k3 ?k4 ?k5 ?k6 ?_; (case k1 => k_in); (case k2 => k_asm); (case k3 => k_asm); (case k4 => k_upd); (case k5 => assumption); (case k6 => assumption); k_whole; intro h' F' N'; (try k_sweep))))
local macro_rules | `(tactic| walk_at "call builtin:list.append") => `(tactic| (k_here; k_dflt (refine' append_iv ?k1 ?k2 ?k3 ?k4 ?_; (case k1 => k_asm); (case k2 => k_asm); (case k3 => k_upd); (case k4 => assumption); k_whole; intro h' F' N'; (try k_sweep))))
local macro_rules | `(tactic| walk_at "call builtin:list.pop") => `(tactic| (k_here; (with_reducible show wpAny _ _ (call (Value.builtin _) [Value.ref _]) _ _ _); k_dflt (refine' pop_iv ?k1 ?k2 ?k3 ?k4 ?_; (case k1 => k_asm); (case k2 => k_asm); (case k3 => k_upd); (case k4 => assumption); k_whole; intro h' F' N'; (try k_sweep))))
local macro_rules | `(tactic| walk_at "call builtin:list.pop") => `(tactic| (dsimp only; fail_if_success (with_reducible show wpAny _ _ (call (Value.builtin _) (Prod.snd _)) _ _ _)))
local macro_rules | `(tactic| walk_at "call builtin:len") => `(tactic| (k_here; (with_reducible show wpAny _ _ (call (Value.builtin "len") [Value.ref _]) _ _ _); k_dflt (refine' len_iv ?k1 ?k2 ?k3 ?k4 ?_; (case k1 => k_in); (case k2 => k_asm); (case k3 => k_mem); (case k4 => assumption); k_whole); intro u' tk'))
local macro_rules | `(tactic| walk_at "truthy ref") => `(tactic| (k_here; k_dflt (refine' truthy_iv ?k1 ?k2 ?k3 ?k4 ?_; (case k1 => k_in); (case k2 => k_asm); (case k3 => k_mem); (case k4 => assumption); k_whole); intro tk'))
local macro_rules | `(tactic| walk_at "eval Subscript") => `(tactic| (k_here; (with_reducible show wpAny _ _ (eval (PySem.Expr.Subscript _ (PySem.Expr.Slice _ _ none _) _) _) _ _ _); refine SubSlice_ ?_))
local macro_rules | `(tactic| walk_at "delete Subscript") => `(tactic| (k_here; (with_reducible show wpAny _ _ (delete (PySem.Expr.Subscript _ (PySem.Expr.Slice _ none none _) _) _) _ _ _); refine DelSlice_ ?_))
local macro_rules | `(tactic| walk_at "call builtin:list.extend") => `(tactic| (k_here; k_dflt (refine' extend_iv ?k1 ?k2 ?k3 ?k4 ?k5 ?k6 ?k7 ?_; (case k1 => k_in); (case k2 => k_asm); (case k3 => k_asm); (case k4 => (intro o9; k_upd)); (case k5 => k_mem); (case k6 => first | assumption | omega); (case k7 => ((try simp only [List.length_drop, List.length_take]); omega)); k_whole; intro h' e' F' N'; (try k_sweep))))
local macro_rules | `(tactic| ktr_enter) => `(tactic| (refine' code_def ?k1 ?k2 ?k3 ?k4 ?k5 ?kA ?kF ?kK ?k6 ?k7 ?k8 ?k9 ?kB ?_ ?c2 ?c3 ?c4 ?c5; (case kA => first | assumption | exact fr_in (by assumption) | exact rfl); (case kF => first | assumption | exact rfl); (case kK => first | assumption | exact rfl); (case k1 => k_asm); (case k2 => k_asm); (case k3 => k_asm); (case k4 => k_asm); (case k5 => k_asm); (case k6 => k_is); (case k7 => k_is); (case k8 => ktr_room); (case k9 => first | exact BindsTo.of_eq rfl | exact binds_K (by k_in) rfl (by k_is) rfl rfl rfl); (case c5 => decide); (case kB => exact locs rfl); (case c2 => exact rfl); (case c3 => exact rfl); (case c4 => exact rfl); k_whole; intro g' L' h' FG' F' N' B' X' T'; (try dsimp only); (try k_fold)))
local macro_rules | `(tactic| k_mem) => `(tactic| (first | (refine List.mem_append_left _ ?_; assumption) | (refine List.mem_append_right _ ?_; assumption) | (refine List.mem_append_right _ ?_; k_mem)))
local macro_rules | `(tactic| walk_at "exec For Name Name cons nil") => `(tactic| (k_here; refine For_ ?_))
local macro_rules | `(tactic| walk_at "exec For Name Subscript cons nil") => `(tactic| (k_here; refine For_ ?_))
local macro_rules | `(tactic| walk_at "call ref") => `(tactic| (k_here; (with_reducible show wpAny _ _ (call (Value.ref 300) _) _ _ _); refine Stop.intro ?_))
local macro_rules | `(tactic| walk_at "compareOp In str ref") => `(tactic| (k_here; k_dflt (first
  | (refine' kin_t (knd := PySem.strKind _ _) ?k1 ?k2 ?k3 ?k4 (strKind_is _ _ _ _) ?k5 ?_; (case k1 => k_asm); (case k2 => k_mem); (case k3 => assumption); (case k4 => assumption); (case k5 => assumption); k_whole)
  | (refine' kin_f (knd := PySem.strKind _ _) ?k1 ?k2 ?k3 ?k4 (strKind_is _ _ _ _) ?k5 ?_; (case k1 => k_asm); (case k2 => k_mem); (case k3 => assumption); (case k4 => assumption); (case k5 => assumption); k_whole))))
local macro_rules | `(tactic| walk_at "compareOp NotIn str ref") => `(tactic| (k_here; k_dflt (first
  | (refine' knin_t (knd := PySem.strKind _ _) ?k1 ?k2 ?k3 ?k4 (strKind_is _ _ _ _) ?k5 ?_; (case k1 => k_asm); (case k2 => k_mem); (case k3 => assumption); (case k4 => assumption); (case k5 => assumption); k_whole)
  | (refine' knin_f (knd := PySem.strKind _ _) ?k1 ?k2 ?k3 ?k4 (strKind_is _ _ _ _) ?k5 ?_; (case k1 => k_asm); (case k2 => k_mem); (case k3 => assumption); (case k4 => assumption); (case k5 => assumption); k_whole))))
local macro_rules | `(tactic| walk_at "subscriptTail") => `(tactic| (k_here; k_dflt (refine' kda_item (knd := PySem.strKind _ _) ?k1 ?k2 ?k3 (strKind_is _ _ _ _) ?k5 ?_; (case k1 => k_asm); (case k2 => k_mem); (case k3 => assumption); (case k5 => assumption); k_whole)))
section
variable {w : World} {p : Program} {loose : List Str} {mean : ExcName → Option Value} {mg mb : Str → Option Value} {A : Around} {env : Env} {outer : List Env} {A₀ : Around} {base h₀ : Heap} {L : Addr} {m : Str → Option Value} {s : Shared} {Q E : Value → Shared → Prop}
theorem esc_code {R dyn news : List (Addr × Obj)} {c cdx vl AD AA : Addr} {es : Int} {t1 t2 te : Tok} {ep k : Nat} {nm : Nat → Str} {vars : List (Nat × Tok)} {asg : List (Nat × Int × Tok)} {oa od : Obj} {domKv : List (Str × Value)} {cs : List Dc} {ds ds' : List Ds} {b fc : Bool} {fcv : Value} (cx : Cx w p loose mean mg mb A 800 8000 env outer A₀ base h₀ L) (F : Fr h₀ L s.heap m)
    (N : News h₀ L s.heap news) (C : Cut dyn news R) (inj : Function.Injective nm) (hc : (c, instObj 410 cdx) ∈ R) (hcd : (cdx, escD w.params t1 t2 es te .none ep) ∈ R) (hv : (vl, listOf (nvs nm vars).toArray k) ∈ R) (hda : (AD, od) ∈ R) (hod : od.IsDictOf (PySem.strKind PW w) domKv)
    (hdk : ∀ v c, cs[v]? = some c → valueAt domKv (nm v) = some (.ref c.x))
    (haa : (AA, oa) ∈ R) (hoa : oa.IsDictOf (PySem.strKind PW w) (asgKv nm asg)) (hlo : (AA == sysModules) = false)
    (D : Dyn w.params cs ds dyn) (nd : (ads cs).Nodup) (hR : ∀ p ∈ R, p.1 ∉ ads cs)
    (hfc : FcOk R fcv fc) (hm : escM es (vars.map fun p => (p.1, 1)) asg fc ds = some (b, ds'))
    (ret : ∀ h' tk' dyn', Fr h₀ L h' m → News h₀ L h' (R ++ dyn') → Dyn w.params cs ds' dyn' → Q (.bool b) { s with heap := h', toks := tk' }) :
    codeAny (model PW w) A (.call (.ref 407) ⟨[.ref c, .ref vl, .ref AD, .ref AA, fcv], []⟩) (fun r s' => match r with | .ok (.ret v) => Q v s' | .ok _ => False | .error e => E e s') s := by
  obtain ⟨B, X, T, hk, hf, hd, hu, hfr, hhd⟩ := cx
  obtain rfl := C.eq
  k_dflt ktr_enter
  rename Fr h₀ L _ m => FG
  k_steps
  rename Fr _ _ _ _ => F1
  rename News _ _ _ _ => N1
  refine Fr.abs [("sum", .int 0 _), ("missing", .bool false), ("exactsum", .int es te), ("multipliers", .none), ("self", .ref c), ("variables", .ref vl), ("domains", .ref AD), ("assignments", .ref AA), ("forwardcheck", fcv)] F1 (by (intros; repeat (first | exact Locs.nil | refine Locs.cons rfl ?_))) (fun m1 H1 F3 => ?_)
  clear F1
  refine iter_list (o := default) F3 N1 (N1 _ (List.mem_append_left _ hv)).1 (fun I h' F2 N2 hI hk => ?_)
  clear F3
  refine loop_list (I := I) (l := vl) vars.length (fun i m₁ news₁ => news₁ = R ++ dyn ∧ ∃ S M u, escS asg ((vars.drop i).map fun p => (p.1, 1)) S M = escS asg (vars.map fun p => (p.1, 1)) 0 false ∧
    Locs m₁ [("sum", .int S u), ("missing", .bool M), ("exactsum", .int es te), ("multipliers", .none), ("self", .ref c), ("variables", .ref vl), ("domains", .ref AD), ("assignments", .ref AA), ("forwardcheck", fcv)]) go_name ?hE hhd F2 N2 ?h0 ?h1 ?h2
  case hE => passes_own
  case h0 => exact ⟨rfl, 0, false, _, rfl, H1⟩
  case h1 => rintro i m news h ⟨rfl, _⟩ _; exact hI
  case h2 =>
    rintro i m₁ news₁ h₁ tk₁ ⟨rfl, S, M, u, hS, H⟩ F₁ N₁
    refine ⟨nvs nm vars, ⟨_, _, (N₁ _ (.tail _ (List.mem_append_left _ hv))).1, rfl⟩, ?_⟩
    rw [List.getElem?_map]
    cases hi : vars[i]? with
    | some q =>
      dsimp only [Option.map]
      have hlt : i < vars.length := (List.getElem?_eq_some_iff.mp hi).1
      refine ⟨hlt, fun h₂ F₂ N₂ => ?_⟩
      have F₂ := H.fr F₂
      simp only [nest] at F₂
      have hdr : vars.drop i = q :: vars.drop (i + 1) := by rw [List.drop_eq_getElem_cons hlt]; congr 1; exact (List.getElem?_eq_some_iff.mp hi).2
      rw [hdr] at hS
      simp only [List.map_cons, escS] at hS
      have hva := valueAt_asg inj q.1 asg
      cases hlk : lk asg q.1 with
      | some x =>
        rw [hlk] at hva hS
        dsimp only [Option.map] at hva hS
        rw [Int.mul_one] at hS
        k_steps
        exact ⟨_, _, _, _, rfl, by k_asm, by k_asm, rfl, _, _, _, hS, by (intros; repeat (first | exact Locs.nil | refine Locs.cons rfl ?_))⟩
      | none =>
        rw [hlk] at hva hS
        dsimp only [Option.map] at hva
        k_steps
        exact ⟨_, _, _, _, rfl, by k_asm, by k_asm, rfl, _, _, _, hS, by (intros; repeat (first | exact Locs.nil | refine Locs.cons rfl ?_))⟩
    | none =>
      dsimp only [Option.map]
      intro h₂ F₂ N₂
      have F₂ := H.fr F₂
      simp only [nest] at F₂
      rw [drop_none hi] at hS
      simp only [List.map_nil, escS] at hS
      unfold escM at hm
      rw [← hS] at hm
      dsimp only at hm
      k_steps
      · rw [if_pos (by assumption)] at hm
        cases hm
        refine' ret _ _ _ ?_ ?_ D
        · k_asm
        · k_asm
      · rw [if_neg (by omega)] at hm
        rename News _ _ _ _ => N5
        refine fc_truthy N5 hfc (fun p hp => List.mem_append_left _ hp) fun tk' => ?_
        cases fc with
        | false =>
          simp only [Bool.false_and, Bool.false_eq_true, if_false] at hm
          cases M with
          | true =>
            k_steps
            simp only [if_true, if_false, Option.some.injEq, Prod.mk.injEq, Bool.false_eq_true, Bool.and_false] at hm
            obtain ⟨rfl, rfl⟩ := hm
            refine' ret _ _ _ ?_ ?_ D
            · k_asm
            · k_asm
          | false =>
            k_steps
            simp only [if_true, if_false, Option.some.injEq, Prod.mk.injEq, Bool.false_eq_true, Bool.and_false] at hm
            obtain ⟨rfl, rfl⟩ := hm
            refine' ret _ _ _ ?_ ?_ D
            · k_asm
            · k_asm
        | true =>
          cases M with
          | false =>
            k_steps
            simp only [if_true, if_false, Option.some.injEq, Prod.mk.injEq, Bool.false_eq_true, Bool.and_false] at hm
            obtain ⟨rfl, rfl⟩ := hm
            refine' ret _ _ _ ?_ ?_ D
            · k_asm
            · k_asm
          | true =>
            k_steps
            rename Fr _ _ _ _ => F6
            rename News _ _ _ _ => N6
            refine Fr.abs [("sum", .int S _), ("exactsum", .int es te), ("variables", .ref vl), ("domains", .ref AD), ("assignments", .ref AA), ("missing", .bool true)] F6 (by (intros; repeat (first | exact Locs.nil | refine Locs.cons rfl ?_))) (fun m6 H6 F6 => ?_)
            refine iter_list (o := default) F6 N6 (N6 _ (List.mem_append_left _ hv)).1 (fun I2 h' F7 N7 hI2 hk2 => ?_)
            simp only [Bool.true_and, if_true] at hm
            refine loop_list (I := I2) (l := vl) vars.length (fun i m₁ news₁ => ∃ dyn₁ ds₁, news₁ = R ++ dyn₁ ∧ Dyn w.params cs ds₁ dyn₁ ∧ escF es S asg ((vars.drop i).map fun p => (p.1, 1)) ds₁ = escF es S asg (vars.map fun p => (p.1, 1)) ds ∧
              Locs m₁ [("sum", .int S u), ("exactsum", .int es te), ("variables", .ref vl), ("domains", .ref AD), ("assignments", .ref AA), ("missing", .bool true)]) go_name ?hE hhd F7 N7 ?h0 ?h1 ?h2
            case hE => passes_own
            case h0 => exact ⟨_, _, rfl, D, rfl, H6⟩
            case h1 =>
              rintro i m news h ⟨dyn₁, ds₁, rfl, D₁, _⟩ _
              exact ne_app (ne_l hI2) (D₁.ne (D.notin (ne_r hI2)))
            case h2 =>
              rintro i m₁ news₁ h₁ tk₁ ⟨dyn₁, ds₁, rfl, D₁, hS₁, H₁⟩ F₁ N₁
              refine ⟨nvs nm vars, ⟨_, _, (N₁ _ (.tail _ (List.mem_append_left _ hv))).1, rfl⟩, ?_⟩
              rw [List.getElem?_map]
              cases hi : vars[i]? with
              | some q =>
                dsimp only [Option.map]
                obtain ⟨hlt, hdr⟩ := drop_some hi
                refine ⟨hlt, fun h₂ F₂ N₂ => ?_⟩
                have F₂ := H₁.fr F₂
                simp only [nest] at F₂
                rw [hdr] at hS₁
                simp only [List.map_cons, escF] at hS₁
                have hva := valueAt_asg inj q.1 asg
                cases hlk : lk asg q.1 with
                | some x =>
                  rw [hlk] at hva hS₁
                  dsimp only [Option.map] at hva hS₁
                  k_steps
                  exact ⟨_, _, _, _, rfl, by k_asm, by k_asm, _, _, rfl, D₁, hS₁, by (intros; repeat (first | exact Locs.nil | refine Locs.cons rfl ?_))⟩
                | none =>
                  rw [hlk] at hva hS₁
                  dsimp only [Option.map] at hva hS₁
                  cases hd1 : ds₁[q.1]? with
                  | none => rw [hd1] at hS₁; dsimp only at hS₁; rw [← hS₁] at hm; cases hm
                  | some d =>
                    rw [hd1] at hS₁
                    dsimp only at hS₁
                    split at hS₁
                    case isFalse => rw [← hS₁] at hm; cases hm
                    rename_i hl5
                    cases hH : hideAll es S 1 d.vs d with
                    | none => rw [hH] at hS₁; dsimp only at hS₁; rw [← hS₁] at hm; cases hm
                    | some d' =>
                    rw [hH] at hS₁
                    dsimp only at hS₁
                    split at hS₁
                    case isFalse => rw [← hS₁] at hm; cases hm
                    rename_i hl6
                    obtain ⟨c₁, hc₁⟩ := get_same D₁.len hd1
                    have hvd := hdk _ _ hc₁
                    have hl1 : d.vs.length ≤ 1000 := by omega
                    have hset : ds₁.set q.1 d = ds₁ := by
                      obtain ⟨h1, h2⟩ := List.getElem?_eq_some_iff.mp hd1
                      rw [← h2]; exact List.set_getElem_self h1
                    obtain ⟨e₁, hx₁, hdx₁⟩ := D₁.there hc₁ hd1
                    k_steps
                    rename Fr _ _ _ _ => F8
                    rename News _ _ _ _ => N8
                    k_dflt (refine' sliceAll_K ?k1 F8 N8 (List.mem_cons_of_mem _ (List.mem_append_right _ hx₁)) (.inl rfl) hl1 ?_; (case k1 => k_in))
                    intro a h' F9 N9 hlt9
                    k_steps
                    refine Fr.abs [("sum", .int S _), ("exactsum", .int es te), ("variables", .ref vl), ("domains", .ref AD), ("assignments", .ref AA), ("missing", .bool true), ("domain", .ref c₁.x)] F9 (by (intros; repeat (first | exact Locs.nil | refine Locs.cons rfl ?_))) (fun m9 H9 F9 => ?_)
                    refine iter_list (o := default) F9 N9 (N9 _ (.head _)).1 (fun I3 h' F10 N10 hI3 hk3 => ?_)
                    have nI3 : I3 ∉ ads cs := D₁.notin fun p hp => hI3 p (List.mem_cons_of_mem _ (List.mem_cons_of_mem _ (List.mem_append_right _ hp)))
                    have na : a ∉ ads cs := D₁.notin fun p hp => Nat.ne_of_lt (hlt9 p (List.mem_cons_of_mem _ (List.mem_append_right _ hp)))
                    have nI2 : I2 ∉ ads cs := D.notin (ne_r hI2)
                    refine loop_list (I := I3) (l := a) d.vs.length (fun j m₂ news₂ => ∃ dyn₂ d₂, news₂ = (a, listOf (iv d.vs).toArray 0) :: (I2, itO vl (i + 1)) :: (R ++ dyn₂) ∧ Dyn w.params cs (ds₁.set q.1 d₂) dyn₂ ∧ hideAll es S 1 (d.vs.drop j) d₂ = some d' ∧
                      Locs m₂ [("sum", .int S u), ("exactsum", .int es te), ("variables", .ref vl), ("domains", .ref AD), ("assignments", .ref AA), ("missing", .bool true), ("domain", .ref c₁.x)]) go_name ?hE hhd F10 N10 ?h0 ?h1 ?h2
                    case hE => passes_own
                    case h0 => exact ⟨dyn₁, d, rfl, by rw [hset]; exact D₁, hH, H9⟩
                    case h1 =>
                      rintro j m₂ news₂ h ⟨dyn₂, d₂, rfl, D₂, _⟩ _
                      refine List.forall_mem_cons.mpr ⟨hI3 _ (.head _), List.forall_mem_cons.mpr ⟨hI3 _ (.tail _ (.head _)), ne_app (fun p hp => hI3 p (.tail _ (.tail _ (List.mem_append_left _ hp)))) (D₂.ne nI3)⟩⟩
                    case h2 =>
                      rintro j m₂ news₂ h₂ tk₂ ⟨dyn₂, d₂, rfl, D₂, hS₂, H₂⟩ F₂ N₂
                      refine ⟨iv d.vs, ⟨_, _, (N₂ _ (.tail _ (.head _))).1, rfl⟩, ?_⟩
                      rw [iv_get]
                      cases hj : d.vs[j]? with
                      | some y =>
                        dsimp only [Option.map]
                        obtain ⟨hltj, hdrj⟩ := drop_some hj
                        refine ⟨hltj, fun h₃ F₃ N₃ => ?_⟩
                        have F₃ := H₂.fr F₃
                        simp only [nest] at F₃
                        rw [hdrj] at hS₂
                        simp only [hideAll, Int.mul_one] at hS₂
                        have hd2 : (ds₁.set q.1 d₂)[q.1]? = some d₂ := List.getElem?_set_self (List.getElem?_eq_some_iff.mp hd1).1
                        obtain ⟨e₂, hx₂, hdx₂⟩ := D₂.there hc₁ hd2
                        k_steps
                        · rw [if_pos (by assumption)] at hS₂
                          cases hh : d₂.hide y.1 y.2 with
                          | none => rw [hh] at hS₂; cases hS₂
                          | some d₃ =>
                            rw [hh] at hS₂
                            dsimp only at hS₂
                            rename Fr _ _ _ _ => F11
                            rename News _ _ _ _ => N11
                            refine hide_D (R := (I3, itO a (j + 1)) :: (a, listOf (iv d.vs).toArray 0) :: (I2, itO vl (i + 1)) :: R) (by (refine' Cx.mk ?cxB ?cxX ?cxT ?cxk ?cxf ?cxd ?cxu ?cxfr ?cxhh; (case cxfr => exact fr_in (by assumption)); (case cxhh => assumption); (case cxB => assumption); (case cxX => assumption); (case cxT => assumption); (case cxk => exact rfl); (case cxf => exact rfl); (case cxd => (simp only [depth_in1, depth_deeper] at *; omega)); (case cxu => (simp only [units_in1, units_deeper] at *; omega)))) F11 N11 (.cons _ (.cons _ (.cons _ (.base _)))) D₂ nd ?_ hc₁ hd2 hh ?_
                            · exact List.forall_mem_cons.mpr ⟨nI3, List.forall_mem_cons.mpr ⟨na, List.forall_mem_cons.mpr ⟨nI2, hR⟩⟩⟩
                            · intro h' tk' dyn₃ F12 N12 D₃
                              simp only [List.cons_append] at N12
                              rw [List.set_set] at D₃
                              k_steps
                              exact ⟨_, _, _, _, rfl, by k_asm, by k_asm, _, _, rfl, D₃, hS₂, by (intros; repeat (first | exact Locs.nil | refine Locs.cons rfl ?_))⟩
                        · rw [if_neg (by omega)] at hS₂
                          exact ⟨_, _, _, _, rfl, by k_asm, by k_asm, _, _, rfl, D₂, hS₂, by (intros; repeat (first | exact Locs.nil | refine Locs.cons rfl ?_))⟩
                      | none =>
                        dsimp only [Option.map]
                        intro h₃ F₃ N₃
                        have F₃ := H₂.fr F₃
                        simp only [nest] at F₃
                        rw [drop_none hj] at hS₂
                        simp only [hideAll, Option.some.injEq] at hS₂
                        subst hS₂
                        have hd2 : (ds₁.set q.1 d₂)[q.1]? = some d₂ := List.getElem?_set_self (List.getElem?_eq_some_iff.mp hd1).1
                        obtain ⟨e₂, hx₂, hdx₂⟩ := D₂.there hc₁ hd2
                        have hl2 : d₂.vs.length ≤ 1000 := by omega
                        k_steps
                        · rename (_ != _) = true => hne
                          rw [if_neg (by simpa using hne)] at hS₁
                          rename News _ _ _ _ => N15
                          exact ⟨_, _, _, _, rfl, by k_asm, news_tl N15, _, _, rfl, D₂, hS₁, by (intros; repeat (first | exact Locs.nil | refine Locs.cons rfl ?_))⟩
                        · rename (_ != _) = false => hne
                          rw [if_pos (by simpa using hne)] at hS₁
                          rw [← hS₁] at hm
                          simp only [Option.some.injEq, Prod.mk.injEq] at hm
                          obtain ⟨rfl, rfl⟩ := hm
                          dsimp only
                          k_steps
                          dsimp only [Out]
                          k_steps
                          rename News _ _ _ _ => N15
                          refine' ret _ _ _ ?_ (news_tl (news_tl N15)) D₂
                          · k_asm
              | none =>
                dsimp only [Option.map]
                intro h₂ F₂ N₂
                have F₂ := H₁.fr F₂
                simp only [nest] at F₂
                rw [drop_none hi] at hS₁
                simp only [List.map_nil, escF] at hS₁
                rw [← hS₁] at hm
                simp only [if_true, Option.some.injEq, Prod.mk.injEq] at hm
                obtain ⟨rfl, rfl⟩ := hm
                k_steps
                refine' ret _ _ _ ?_ ?_ D₁
                · k_asm
                · k_asm
end
end Mine
end
section
open PySem PySem.W PySem.W.X PyProof.Rows PySem.Calls PySem.Spec
set_option Elab.async false
set_option maxRecDepth 100000
set_option maxHeartbeats 8000000
namespace Mine
open PyProof.Rows.LCg
/-- where the parts of a constraint lie -/
structure Cn where
  tp : Addr
  c : Addr
  cdx : Addr
  vl : Addr
  es : Int
  te : Tok
  t1 : Tok
  t2 : Tok
  ep : Nat
  mu : Value
  ff : List (Nat × Int)
  vars : List (Nat × Tok)
/-- what the factors stand for -/
def MulOk (_R : List (Addr × Obj)) (cn : Cn) : Prop := cn.mu = .none ∧ cn.ff = cn.vars.map fun p => (p.1, 1)
theorem MulOk.mono {R R' : List (Addr × Obj)} {cn : Cn} (h : MulOk R cn) (_ : ∀ p ∈ R, p ∈ R') : MulOk R' cn := h
abbrev domKv (nm : Nat → Str) (cs : List Dc) : List (Str × Value) := cs.mapIdx fun i c => (nm i, .ref c.x)
abbrev vcKv (nm : Nat → Str) (vls : List Addr) : List (Str × Value) := vls.mapIdx fun i a => (nm i, .ref a)
structure CnOk (w : World) (nm : Nat → Str) (R : List (Addr × Obj)) (cn : Cn) : Prop where
  tp : (cn.tp, ({ cls := .type "tuple", data := .seq #[.ref cn.c, .ref cn.vl] } : Obj)) ∈ R
  c : (cn.c, instObj 410 cn.cdx) ∈ R
  cd : (cn.cdx, escD w.params cn.t1 cn.t2 cn.es cn.te cn.mu cn.ep) ∈ R
  mul : MulOk R cn
  vl : ∃ k, (cn.vl, listOf (nvs nm cn.vars).toArray k) ∈ R
/-- a problem, as its solver sees it -/
structure PbOk (w : World) (nm : Nat → Str) (R : List (Addr × Obj)) (AD AV : Addr) (od ov : Obj) (cs : List Dc) (vls : List Addr) (vcs : List (List Cn)) : Prop where
  inj : Function.Injective nm
  ord : ∀ i j, i < cs.length → j < cs.length → ((nm i).cps.toList < (nm j).cps.toList ↔ i < j)
  n2 : 2 ≤ cs.length
  n6 : cs.length ≤ 6
  hAD : (AD, od) ∈ R
  hod : od.IsDictOf (PySem.strKind PW w) (domKv nm cs)
  hAV : (AV, ov) ∈ R
  hov : ov.IsDictOf (PySem.strKind PW w) (vcKv nm vls)
  l1 : vls.length = cs.length
  l2 : vcs.length = cs.length
  hvl : ∀ (v : Nat) (a : Addr) (l : List Cn), vls[v]? = some a → vcs[v]? = some l → ∃ k, (a, listOf (l.map fun cn => Value.ref cn.tp).toArray k) ∈ R
  hcn : ∀ l ∈ vcs, ∀ cn ∈ l, CnOk w nm R cn
  hsz : ∀ l ∈ vcs, l.length ≤ 500
  nd : (ads cs).Nodup
  hR : ∀ p ∈ R, p.1 ∉ ads cs
  loD : (AD == sysModules) = false
  loV : (AV == sysModules) = false
theorem CnOk.mono {w : World} {nm : Nat → Str} {R R' : List (Addr × Obj)} {cn : Cn} (h : CnOk w nm R cn) (hs : ∀ p ∈ R, p ∈ R') : CnOk w nm R' cn :=
  ⟨hs _ h.tp, hs _ h.c, hs _ h.cd, h.mul.mono hs, let ⟨k, a⟩ := h.vl; ⟨k, hs _ a⟩⟩
theorem PbOk.mono {w : World} {nm : Nat → Str} {R R' : List (Addr × Obj)} {AD AV : Addr} {od ov : Obj} {cs : List Dc} {vls : List Addr} {vcs : List (List Cn)} (h : PbOk w nm R AD AV od ov cs vls vcs) (hs : ∀ p ∈ R, p ∈ R') (hR : ∀ p ∈ R', p.1 ∉ ads cs) :
    PbOk w nm R' AD AV od ov cs vls vcs :=
  { h with hAD := hs _ h.hAD, hAV := hs _ h.hAV, hvl := fun v a l x y => let ⟨k, z⟩ := h.hvl v a l x y; ⟨k, hs _ z⟩, hcn := fun l x cn y => (h.hcn l x cn y).mono hs, hR := hR }
theorem valueAt_get {K : Type} [DecidableEq K] {kvs : List (K × Value)} {i : Nat} {k : K} {v : Value} (hn : (kvs.map (·.1)).Nodup) (h : kvs[i]? = some (k, v)) : valueAt kvs k = some v := by
  unfold valueAt
  induction kvs generalizing i with
  | nil => simp at h
  | cons p r ih =>
    simp only [List.map_cons, List.nodup_cons] at hn
    cases i with
    | zero =>
      simp only [List.getElem?_cons_zero, Option.some.injEq] at h
      subst h; simp
    | succ i =>
      simp only [List.getElem?_cons_succ] at h
      have hne : ¬ p.1 = k := fun e => hn.1 (e ▸ List.mem_map.mpr ⟨(k, v), List.mem_of_getElem? h, rfl⟩)
      rw [List.find?_cons_of_neg (by simpa using hne)]
      exact ih hn.2 h
theorem IsDictOf.nodup {K : Type} [DecidableEq K] {prog : Program} {w : World} {knd : KeyKind prog w K} {o : Obj} {kvs : List (K × Value)} (h : o.IsDictOf knd kvs) : (kvs.map (·.1)).Nodup := let ⟨_, _, r⟩ := h; r.2.2.2.2
theorem PbOk.dom {w : World} {nm : Nat → Str} {R : List (Addr × Obj)} {AD AV : Addr} {od ov : Obj} {cs : List Dc} {vls : List Addr} {vcs : List (List Cn)} (h : PbOk w nm R AD AV od ov cs vls vcs) : ∀ v c, cs[v]? = some c → valueAt (domKv nm cs) (nm v) = some (.ref c.x) :=
  fun v c hc => valueAt_get (IsDictOf.nodup h.hod) (i := v) (by rw [List.getElem?_mapIdx, hc]; rfl)
theorem PbOk.vc {w : World} {nm : Nat → Str} {R : List (Addr × Obj)} {AD AV : Addr} {od ov : Obj} {cs : List Dc} {vls : List Addr} {vcs : List (List Cn)} (h : PbOk w nm R AD AV od ov cs vls vcs) : ∀ v a, vls[v]? = some a → valueAt (vcKv nm vls) (nm v) = some (.ref a) :=
  fun v a ha => valueAt_get (IsDictOf.nodup h.hov) (i := v) (by rw [List.getElem?_mapIdx, ha]; rfl)
theorem len_map {α : Type} {f : α → Value} {xs : List α} {x L : Addr} {k : Nat} {prog : Program} {w : World} {A : Around} {E : Value → Shared → Prop} {s : Shared} {h₀ : Heap} {news : List (Addr × Obj)} {Q : Value → Shared → Prop} (N : News h₀ L s.heap news) (hx : (x, listOf (xs.map f).toArray k) ∈ news) (hz : xs.length ≤ 1000) (h : ∀ u tk', Q (.int (xs.length : Int) u) { s with toks := tk' }) : wpAny (model prog w) A (call (.builtin "len") [.ref x]) Q E s := by
  refine call_len_list (items := (xs.map f).toArray) ⟨_, (N _ hx).1, rfl, _, rfl⟩ (by simp; omega) ?_
  have e : ((xs.map f).toArray.size : Int) = xs.length := by simp
  rw [e]; exact h _ _
/-- the key of a variable in the solver's order -/
def vkey (vcs : List (List Cn)) (ds : List Ds) (j : Nat) : Int × Int := (-((vcs.getD j []).length : Int), (((ds[j]?.map (·.vs)).getD []).length : Int))
theorem allLt_mem {a : Addr} : ∀ {l : List (Addr × Obj)}, AllLt a l → ∀ p ∈ l, p.1 < a
  | [], _, _, h => nomatch h
  | q :: l, x, p, h => by
    rcases List.mem_cons.mp h with rfl | h
    · exact x.1
    · exact allLt_mem x.2 p h
theorem out_snoc {h₀ h : Heap} {L I C D a : Addr} {m : Str → Option Value} {s₂ : Shared} {oI oC o : Obj} {ys : List Value} {J : List (Addr × Obj) → Prop} {T base : List (Addr × Obj)} {tk : Nat} (F : Fr h₀ L h m) (N : News h₀ L h ((a, o) :: (I, oI) :: (C, oC) :: (D, lst ys) :: (T ++ base)))
    (hlt : I < a ∧ C < a ∧ D < a ∧ AllLt a (T ++ base)) (off : ∀ p ∈ T ++ base, p.1 ≠ I ∧ p.1 ≠ C ∧ p.1 ≠ D) (hJ : J (T ++ [(a, o)] ++ base)) : CompOut h₀ L m s₂ I oI C oC D ys J { s₂ with heap := h, toks := tk } := by
  refine ⟨h, tk, _, rfl, F, fun p hp => N p ?_, ?_, hJ⟩
  · simp only [List.mem_cons, List.mem_append, List.not_mem_nil, or_false] at hp ⊢; grind
  · intro p hp
    by_cases hpa : p = (a, o)
    · subst hpa; exact ⟨Nat.ne_of_gt hlt.1, Nat.ne_of_gt hlt.2.1, Nat.ne_of_gt hlt.2.2.1⟩
    · refine off p ?_
      simp only [List.mem_cons, List.mem_append, List.not_mem_nil, or_false] at hp ⊢; grind
end Mine
end
section
open PySem PySem.W PySem.W.X PyProof.Rows PySem.Calls PySem.Spec
set_option Elab.async false
set_option maxRecDepth 100000
set_option maxHeartbeats 8000000
namespace Mine
abbrev Asg := List (Nat × Int × Tok)
/-- the state of a search: the dict of assignments, the list of solutions, the Domain objects -/
structure RbSt (w : World) (nm : Nat → Str) (AA AS : Addr) (cs : List Dc) (av : List (Str × Value)) (sols : List Asg) (ds : List Ds) (oa : Obj) (S : List (Addr × Obj)) (k : Nat) (dyn : List (Addr × Obj)) : Prop where
  a : oa.IsDictOf (PySem.strKind PW w) av
  s : Paired (fun (g : Asg) (p : Addr × Obj) => p.2.IsDictOf (PySem.strKind PW w) (asgKv nm g)) sols S
  d : Dyn w.params cs ds dyn
  ne : @Ne Nat AA AS
  na : AA ∉ ads cs
  ns : AS ∉ ads cs
  off : ∀ p ∈ S, p.1 ≠ AA ∧ p.1 ≠ AS ∧ p.1 ∉ ads cs
  up : ∀ p ∈ S, @LT.lt Nat _ AA p.1
/-- its entries -/
abbrev rbL (AA AS : Addr) (oa : Obj) (S : List (Addr × Obj)) (k : Nat) (dyn : List (Addr × Obj)) : List (Addr × Obj) := (AA, oa) :: (AS, listOf (refs S).toArray k) :: (S ++ dyn)
/-- what is not of that state -/
def Off (AA AS : Addr) (cs : List Dc) (Lo : List (Addr × Obj)) : Prop := ∀ p ∈ Lo, p.1 ≠ AA ∧ p.1 ≠ AS ∧ p.1 ∉ ads cs
theorem news_sub {h₀ h : Heap} {L : Addr} {l l' : List (Addr × Obj)} (N : News h₀ L h l) (hs : ∀ p ∈ l', p ∈ l) : News h₀ L h l' := fun p hp => N p (hs p hp)
theorem Dyn.ne' {P : Params} {cs : List Dc} {ds : List Ds} {dyn : List (Addr × Obj)} {I : Addr} (D : Dyn P cs ds dyn) (h : I ∉ ads cs) : ∀ p ∈ dyn, p.1 ≠ I := D.ne h
section
variable {w : World} {A : Around} {E : Value → Shared → Prop} {s : Shared} {h₀ : Heap} {L AA AS : Addr} {m : Str → Option Value} {nm : Nat → Str} {cs : List Dc} {ds : List Ds} {av : List (Str × Value)} {sols : List Asg} {Lo S dyn news : List (Addr × Obj)} {oa : Obj} {k : Nat}
theorem RbSt.mem_a (_ : RbSt w nm AA AS cs av sols ds oa S k dyn) : (AA, oa) ∈ rbL AA AS oa S k dyn := .head _
theorem perm_a : News h₀ L s.heap (Lo ++ rbL AA AS oa S k dyn) ↔ News h₀ L s.heap ((AA, oa) :: (Lo ++ (AS, listOf (refs S).toArray k) :: (S ++ dyn))) :=
  ⟨fun N => news_sub N (by intro p hp; simp only [List.mem_append, List.mem_cons] at hp ⊢; grind), fun N => news_sub N (by intro p hp; simp only [List.mem_append, List.mem_cons] at hp ⊢; grind)⟩
theorem rest_a (R : RbSt w nm AA AS cs av sols ds oa S k dyn) (off : Off AA AS cs Lo) : ∀ p ∈ Lo ++ (AS, listOf (refs S).toArray k) :: (S ++ dyn), p.1 ≠ AA := by
  intro p hp
  rcases List.mem_append.mp hp with h | h
  · exact (off p h).1
  rcases List.mem_cons.mp h with rfl | h
  · exact fun e => R.ne e.symm
  rcases List.mem_append.mp h with h | h
  · exact (R.off p h).1
  · exact R.d.ne R.na p h
theorem rb_set {t : Tok} {x : Str} {v : Value} {Q : Unit → Shared → Prop} (F : Fr h₀ L s.heap m) (N : News h₀ L s.heap news) (C : Cut (rbL AA AS oa S k dyn) news Lo) (R : RbSt w nm AA AS cs av sols ds oa S k dyn) (off : Off AA AS cs Lo) (hsz : av.length ≤ 500)
    (h : ∀ h' oa' tk', Fr h₀ L h' m → News h₀ L h' (Lo ++ rbL AA AS oa' S k dyn) → RbSt w nm AA AS cs (stored av x v) sols ds oa' S k dyn → Q () { s with heap := h', toks := tk' }) :
    wpAny (model PW w) A (setItem (.ref AA) (.str x t) v) Q E s := by
  rw [C.eq, perm_a] at N
  refine kda_set (knd := PySem.strKind PW w) F N (.head (rest_a R off)) R.a (strKind_is _ _ _ _) (by rw [sizeLine_eq]; omega) fun h' o' F' N' hd => ?_
  exact h h' o' _ F' (perm_a (s := { s with heap := h' }).mpr N') { R with a := hd }
theorem rb_del {t : Tok} {x : Str} {Q : Unit → Shared → Prop} (F : Fr h₀ L s.heap m) (N : News h₀ L s.heap news) (C : Cut (rbL AA AS oa S k dyn) news Lo) (R : RbSt w nm AA AS cs av sols ds oa S k dyn) (off : Off AA AS cs Lo) (hsz : av.length ≤ 500) (hl : (valueAt av x).isSome = true)
    (h : ∀ h' oa' tk', Fr h₀ L h' m → News h₀ L h' (Lo ++ rbL AA AS oa' S k dyn) → RbSt w nm AA AS cs (without av x) sols ds oa' S k dyn → Q () { s with heap := h', toks := tk' }) :
    wpAny (model PW w) A (delItem (.ref AA) (.str x t)) Q E s := by
  rw [C.eq, perm_a] at N
  refine kob_del (knd := PySem.strKind PW w) F N (.head (rest_a R off)) R.a (strKind_is _ _ _ _) hl (by rw [sizeLine_eq]; omega) fun h' o' F' N' hd => ?_
  exact h h' o' _ F' (perm_a (s := { s with heap := h' }).mpr N') { R with a := hd }
/-- assignments.copy() -/
theorem dict_copy {d : Addr} {o : Obj} {Q : Value → Shared → Prop} {kvs : List (Str × Value)} (F : Fr h₀ L s.heap m) (N : News h₀ L s.heap news) (hp : (d, o) ∈ news) (hd : o.IsDictOf (PySem.strKind PW w) kvs) (lo : (d == sysModules) = false) (hsz : kvs.length ≤ 500)
    (h : ∀ a o' h', Fr h₀ L h' m → News h₀ L h' ((a, o') :: news) → o'.IsDictOf (PySem.strKind PW w) kvs → (∀ p ∈ news, p.1 < a) → Q (.ref a) { s with heap := h' }) :
    wpAny (model PW w) A (call (.builtin "dict.copy") [.ref d]) Q E s := by
  have hD := kda_dict N hp hd
  refine call_meetsIn PySem.F.slot_dict_copy hD.typeIs PySem.F.entry_dict_copy (PySem.F.args_dict_copy_1 _) (meets_dict_copy _ d lo) ⟨kvs, hD, by rw [sizeLine_eq]; omega, fun h' hm _ hk => ?_⟩
  obtain ⟨o', ho', hd'⟩ := Heap.dictOf_iff.mp hm
  have N' : News h₀ L h' ((s.heap.objs.size, o') :: news) := by
    intro p hp
    rcases List.mem_cons.mp hp with rfl | hp
    · exact ⟨ho', Nat.ne_of_gt F.ns.lt, Heap.get?_none_of_le (Nat.le_trans F.above (Nat.le_of_lt F.ns.lt))⟩
    · exact ⟨hk _ _ (N p hp).1, (N p hp).2⟩
  exact h _ o' h' ⟨F.ns.at' fun o e => hk _ o e, fun b o e => hk b o (F.keep b o e), F.above⟩ N' hd' fun p hp => Heap.lt_size (N p hp).1
/-- solutions.append(copy) -/
theorem perm_s {a : Addr} {o : Obj} : News h₀ L s.heap ((a, o) :: (Lo ++ rbL AA AS oa S k dyn)) ↔ News h₀ L s.heap ((AS, listOf (refs S).toArray k) :: (a, o) :: (AA, oa) :: (Lo ++ (S ++ dyn))) :=
  ⟨fun N => news_sub N (by intro p hp; simp only [List.mem_append, List.mem_cons] at hp ⊢; grind), fun N => news_sub N (by intro p hp; simp only [List.mem_append, List.mem_cons] at hp ⊢; grind)⟩
theorem rb_append {a : Addr} {o : Obj} {g : Asg} {Q : Value → Shared → Prop} (F : Fr h₀ L s.heap m) (N : News h₀ L s.heap ((a, o) :: (Lo ++ rbL AA AS oa S k dyn))) (R : RbSt w nm AA AS cs av sols ds oa S k dyn) (off : Off AA AS cs Lo) (ho : o.IsDictOf (PySem.strKind PW w) (asgKv nm g)) (hlt : ∀ p ∈ Lo ++ rbL AA AS oa S k dyn, p.1 < a) (hsz : S.length ≤ 500)
    (h : ∀ h' S' k', Fr h₀ L h' m → News h₀ L h' (Lo ++ rbL AA AS oa S' k' dyn) → RbSt w nm AA AS cs av (sols ++ [g]) ds oa S' k' dyn → Q .none { s with heap := h' }) :
    wpAny (model PW w) A (call (.builtin "list.append") [.ref AS, .ref a]) Q E s := by
  rw [perm_s] at N
  have haAA : AA < a := hlt (AA, oa) (List.mem_append_right _ (.head _))
  have haAS : AS < a := hlt (AS, listOf (refs S).toArray k) (List.mem_append_right _ (.tail _ (.head _)))
  have hrest : ∀ p ∈ (a, o) :: (AA, oa) :: (Lo ++ (S ++ dyn)), p.1 ≠ AS := by
    intro p hp
    rcases List.mem_cons.mp hp with rfl | hp
    · exact Nat.ne_of_gt haAS
    rcases List.mem_cons.mp hp with rfl | hp
    · exact R.ne
    rcases List.mem_append.mp hp with hp | hp
    · exact (off p hp).2.1
    rcases List.mem_append.mp hp with hp | hp
    · exact (R.off p hp).2.1
    · exact R.d.ne R.ns p hp
  refine append_K F N (.head hrest) (fun h' F' N' => ?_) (by rw [List.size_toArray, List.length_map, sizeLine_eq]; omega)
  have e : ((refs S).toArray.push (.ref a)) = (refs (S ++ [(a, o)])).toArray := by simp [refs]
  rw [e] at N'
  refine h h' (S ++ [(a, o)]) (k + 1) F' (news_sub N' (by intro p hp; simp only [List.mem_append, List.mem_cons, List.not_mem_nil, or_false] at hp ⊢; grind)) { R with s := R.s.snoc ho, off := ?_, up := fun p hp => (List.mem_append.mp hp).elim (R.up p) fun h => by rw [List.mem_singleton.mp h]; exact haAA }
  intro p hp
  rcases List.mem_append.mp hp with hp | hp
  · exact R.off p hp
  · rw [List.mem_singleton.mp hp]
    refine ⟨Nat.ne_of_gt haAA, Nat.ne_of_gt haAS, R.d.notin fun q hq => Nat.ne_of_lt (hlt q (List.mem_append_right _ (.tail _ (.tail _ (List.mem_append_right _ hq)))))⟩
end
end Mine
end
section
open PySem PySem.W PySem.W.X PyProof.Rows PySem.Calls PySem.Spec
set_option Elab.async false
set_option maxRecDepth 100000
set_option maxHeartbeats 8000000
namespace Mine
theorem filled21 : PySem.Challenge.rw_aw5017_04 = PySem.Challenge.rw_aw5017_04 ∧ hd.heap_39 = hd.heap_39 := by k_fill; exact ⟨rfl, rfl⟩
/-- a part of the problem's Domains pushed or popped -/
def pushAll : List Nat → List Ds → Option (List Ds)
  | [], ds => some ds
  | v :: r, ds => match ds[v]? with
    | none => none
    | some d => match d.push with
      | none => none
      | some d' => pushAll r (ds.set v d')
def popAll : List Nat → List Ds → Option (List Ds)
  | [], ds => some ds
  | v :: r, ds => match ds[v]? with
    | none => none
    | some d => match d.pop with
      | none => none
      | some d' => popAll r (ds.set v d')
/-- the constraints of a variable, until one fails -/
def conM (asg : Asg) (fc : Bool) : List Cn → List Ds → Option (Bool × List Ds)
  | [], ds => some (true, ds)
  | cn :: r, ds => match escM cn.es cn.ff asg fc ds with
    | none => none
    | some (false, ds') => some (false, ds')
    | some (true, ds') => conM asg fc r ds'
section
variable {w : World} {p : Program} {loose : List Str} {mean : ExcName → Option Value} {mg mb : Str → Option Value} {A : Around} {env : Env} {outer : List Env} {A₀ : Around} {base h₀ : Heap} {L : Addr} {m : Str → Option Value} {s : Shared} {Q E : Value → Shared → Prop}
  {AA AS : Addr} {nm : Nat → Str} {cs : List Dc} {ds ds' : List Ds} {av : List (Str × Value)} {sols : List Asg} {Lo S dyn news : List (Addr × Obj)} {oa : Obj} {k i : Nat} {c : Dc} {d d' : Ds}
abbrev loS (AA AS : Addr) (oa : Obj) (S : List (Addr × Obj)) (k : Nat) (Lo : List (Addr × Obj)) : List (Addr × Obj) := Lo ++ (AA, oa) :: (AS, listOf (refs S).toArray k) :: S
theorem cut_d (C : Cut (rbL AA AS oa S k dyn) news Lo) : Cut dyn news (loS AA AS oa S k Lo) := by
  rw [C.eq, show Lo ++ rbL AA AS oa S k dyn = loS AA AS oa S k Lo ++ dyn by simp [loS, rbL]]
  exact .base _
theorem loS_off (R : RbSt w nm AA AS cs av sols ds oa S k dyn) (off : Off AA AS cs Lo) : ∀ p ∈ loS AA AS oa S k Lo, p.1 ∉ ads cs := by
  intro p hp
  rcases List.mem_append.mp hp with h | h
  · exact (off p h).2.2
  rcases List.mem_cons.mp h with rfl | h
  · exact R.na
  rcases List.mem_cons.mp h with rfl | h
  · exact R.ns
  · exact (R.off p h).2.2
theorem loS_back {h : Heap} {dyn' : List (Addr × Obj)} (N : News h₀ L h (loS AA AS oa S k Lo ++ dyn')) : News h₀ L h (Lo ++ rbL AA AS oa S k dyn') := by
  rw [show Lo ++ rbL AA AS oa S k dyn' = loS AA AS oa S k Lo ++ dyn' by simp [loS, rbL]]; exact N
theorem rb_push (cx : Cx w p loose mean mg mb A 900 9000 env outer A₀ base h₀ L) (F : Fr h₀ L s.heap m) (N : News h₀ L s.heap news) (C : Cut (rbL AA AS oa S k dyn) news Lo) (R : RbSt w nm AA AS cs av sols ds oa S k dyn) (off : Off AA AS cs Lo) (nd : (ads cs).Nodup)
    (hc : cs[i]? = some c) (hd : ds[i]? = some d) (hm : d.push = some d') (ret : ∀ h' tk' dyn', Fr h₀ L h' m → News h₀ L h' (Lo ++ rbL AA AS oa S k dyn') → RbSt w nm AA AS cs av sols (ds.set i d') oa S k dyn' → Q .none { s with heap := h', toks := tk' }) :
    wpAny (model PW w) A (call (.ref 286) [.ref c.x]) Q E s :=
  push_D cx F N (cut_d C) R.d nd (loS_off R off) hc hd hm fun h' tk' dyn' F' N' D' => ret h' tk' dyn' F' (loS_back N') { R with d := D' }
theorem rb_pop (cx : Cx w p loose mean mg mb A 900 9000 env outer A₀ base h₀ L) (F : Fr h₀ L s.heap m) (N : News h₀ L s.heap news) (C : Cut (rbL AA AS oa S k dyn) news Lo) (R : RbSt w nm AA AS cs av sols ds oa S k dyn) (off : Off AA AS cs Lo) (nd : (ads cs).Nodup)
    (hc : cs[i]? = some c) (hd : ds[i]? = some d) (hm : d.pop = some d') (ret : ∀ h' tk' dyn', Fr h₀ L h' m → News h₀ L h' (Lo ++ rbL AA AS oa S k dyn') → RbSt w nm AA AS cs av sols (ds.set i d') oa S k dyn' → Q .none { s with heap := h', toks := tk' }) :
    wpAny (model PW w) A (call (.ref 293) [.ref c.x]) Q E s :=
  pop_D cx F N (cut_d C) R.d nd (loS_off R off) hc hd hm fun h' tk' dyn' F' N' D' => ret h' tk' dyn' F' (loS_back N') { R with d := D' }
theorem FcOk.mono {l l' : List (Addr × Obj)} {v : Value} {b : Bool} (h : FcOk l v b) (hs : ∀ p ∈ l, p ∈ l') : FcOk l' v b := by
  rcases h with h | h | ⟨pl, xs, k, a, b, c⟩
  · exact .inl h
  · exact .inr (.inl h)
  · exact .inr (.inr ⟨pl, xs, k, a, hs _ b, c⟩)
/-- a constraint called -/
theorem con_code {R : List (Addr × Obj)} {AD AV : Addr} {od ov : Obj} {vls : List Addr} {vcs : List (List Cn)} {asg : Asg} {cn : Cn} {b fc : Bool} {fcv : Value} (cx : Cx w p loose mean mg mb A 800 8000 env outer A₀ base h₀ L) (F : Fr h₀ L s.heap m) (N : News h₀ L s.heap news) (C : Cut dyn news R) (D : Dyn w.params cs ds dyn)
    (P : PbOk w nm R AD AV od ov cs vls vcs) (hcn : CnOk w nm R cn) (haa : (AA, oa) ∈ R) (hoa : oa.IsDictOf (PySem.strKind PW w) (asgKv nm asg)) (loA : (AA == sysModules) = false) (hfc : FcOk R fcv fc) (hm : escM cn.es cn.ff asg fc ds = some (b, ds'))
    (ret : ∀ h' tk' dyn', Fr h₀ L h' m → News h₀ L h' (R ++ dyn') → Dyn w.params cs ds' dyn' → Q (.bool b) { s with heap := h', toks := tk' }) :
    wpAny (model PW w) A (call (.ref cn.c) [.ref cn.vl, .ref AD, .ref AA, fcv]) Q E s := by
  obtain ⟨kv, hkv⟩ := hcn.vl
  have X := cx.X.keeps F.keep
  have hnc : (cn.c, instObj 410 cn.cdx) ∈ news := by rw [C.eq]; exact List.mem_append_left _ hcn.c
  have hnd : (cn.cdx, escD w.params cn.t1 cn.t2 cn.es cn.te cn.mu cn.ep) ∈ news := by rw [C.eq]; exact List.mem_append_left _ hcn.cd
  refine wpAny_call (kco_code (K := hd.heap_39 w.params) (C := 410) (f := 407) (ox := instObj 410 cn.cdx) (od := some (escD w.params cn.t1 cn.t2 cn.es cn.te cn.mu cn.ep)) X ⟨(N _ hnc).1, rfl, rfl, (N _ hnd).1⟩ rfl (by k_is) (by k_is) (by k_is) ?_)
  obtain ⟨hmu, hff⟩ := hcn.mul
  rw [hff] at hm
  exact esc_code cx F N C P.inj hcn.c (hmu ▸ hcn.cd) hkv P.hAD P.hod P.dom haa hoa loA D P.nd P.hR hfc hm ret
theorem PbOk.ups {R R' : List (Addr × Obj)} {AD AV : Addr} {od ov : Obj} {vls : List Addr} {vcs : List (List Cn)} (h : PbOk w nm R AD AV od ov cs vls vcs) (hs : ∀ p ∈ R, p ∈ R') (hR : ∀ p ∈ R', p.1 ∉ ads cs) : PbOk w nm R' AD AV od ov cs vls vcs := h.mono hs hR
theorem rb_esc {AD AV : Addr} {od ov : Obj} {vls : List Addr} {vcs : List (List Cn)} {asg : Asg} {cn : Cn} {b fc : Bool} {fcv : Value} (cx : Cx w p loose mean mg mb A 800 8000 env outer A₀ base h₀ L) (F : Fr h₀ L s.heap m) (N : News h₀ L s.heap news) (C : Cut (rbL AA AS oa S k dyn) news Lo) (R : RbSt w nm AA AS cs (asgKv nm asg) sols ds oa S k dyn) (off : Off AA AS cs Lo)
    (P : PbOk w nm Lo AD AV od ov cs vls vcs) (hcn : CnOk w nm Lo cn) (loA : (AA == sysModules) = false) (hfc : FcOk Lo fcv fc) (hm : escM cn.es cn.ff asg fc ds = some (b, ds'))
    (ret : ∀ h' tk' dyn', Fr h₀ L h' m → News h₀ L h' (Lo ++ rbL AA AS oa S k dyn') → RbSt w nm AA AS cs (asgKv nm asg) sols ds' oa S k dyn' → Q (.bool b) { s with heap := h', toks := tk' }) :
    wpAny (model PW w) A (call (.ref cn.c) [.ref cn.vl, .ref AD, .ref AA, fcv]) Q E s := by
  have up : ∀ p ∈ Lo, p ∈ loS AA AS oa S k Lo := fun p hp => List.mem_append_left _ hp
  exact con_code cx F N (cut_d C) R.d (P.mono up (loS_off R off)) (hcn.mono up) (List.mem_append_right _ (.head _)) R.a loA (hfc.mono up) hm fun h' tk' dyn' F' N' D' => ret h' tk' dyn' F' (loS_back N') { R with d := D' }
end
end Mine
end
section
open PySem PySem.W PySem.W.X PyProof.Rows PySem.Calls PySem.Spec
set_option Elab.async false
set_option maxRecDepth 100000
set_option maxHeartbeats 8000000
namespace Mine
/-- the loop over the values of a variable in recursiveBacktracking -/
def rbLoop (rec : List Asg → Asg → List Ds → Option (List Asg × List Ds)) (single fcb : Bool) (push : List Nat) (vc : List Cn) (v : Nat) (asg : Asg) : Nat → Nat → List Asg → List Ds → Option (Bool × List Asg × List Ds)
  | 0, _, _, _ => none
  | t + 1, k, sols, ds => match ds[v]? with
    | none => none
    | some d => match d.vs[k]? with
      | none => some (false, sols, ds)
      | some x => match pushAll push ds with
        | none => none
        | some ds1 => match conM (asg ++ [(v, x)]) fcb vc ds1 with
          | none => none
          | some (false, ds2) => match popAll push ds2 with
            | none => none
            | some ds3 => rbLoop rec single fcb push vc v asg t (k + 1) sols ds3
          | some (true, ds2) => match rec sols (asg ++ [(v, x)]) ds2 with
            | none => none
            | some (sols2, ds3) => if sols2.length ≤ 1000 then (if single && !sols2.isEmpty then some (true, sols2, ds3) else match popAll push ds3 with
              | none => none
              | some ds4 => rbLoop rec single fcb push vc v asg t (k + 1) sols2 ds4) else none
/-- the other variables that have no value yet -/
def others (n : Nat) (asg : Asg) (v : Nat) : List Nat := (List.range n).filter fun i => (lk asg i).isNone && i != v
/-- RecursiveBacktrackingSolver.recursiveBacktracking -/
def rbM (n : Nat) (vcs : List (List Cn)) (fcOn single : Bool) : Nat → List Asg → Asg → List Ds → Option (List Asg × List Ds)
  | 0, _, _, _ => none
  | f + 1, sols, asg, ds => if ds.all (fun d => decide (d.vs.length ≤ 500)) && decide (asg.length ≤ 400) && decide (sols.length ≤ 400) then
      match least (keyLt (vkey vcs ds)) (fun i => (lk asg i).isNone) (List.range n) with
      | none => some (sols ++ [asg], ds)
      | some v => match rbLoop (rbM n vcs fcOn single f) single (fcOn && !(others n asg v).isEmpty) (if fcOn then others n asg v else []) (vcs.getD v []) v asg 60 0 sols ds with
        | none => none
        | some (_, sols', ds') => some (sols', ds')
    else none
theorem Dyn.cls {P : Params} : ∀ {cs : List Dc} {ds : List Ds} {l : List (Addr × Obj)}, Dyn P cs ds l → ∀ p ∈ l, p.2.cls = .ref 303 ∨ p.2.cls = .type "dict" ∨ p.2.cls = .type "list"
  | [], [], _, h => by cases (h : _ = []); intro p hp; cases hp
  | c :: cs, d :: ds, _, ⟨l1, l2, h, ⟨e, f, g, ss, h1, _⟩, h2⟩ => by
    subst h; subst h1
    intro p hp
    rcases List.mem_append.mp hp with hp | hp
    · simp only [List.mem_cons, List.not_mem_nil, or_false] at hp
      rcases hp with rfl | rfl | rfl | rfl
      · exact .inl rfl
      · exact .inr (.inl rfl)
      · exact .inr (.inr rfl)
      · exact .inr (.inr rfl)
    · exact Dyn.cls h2 p hp
  | [], _ :: _, _, h => h.elim
  | _ :: _, [], _, h => h.elim
theorem IsDictOf.cls {K : Type} [DecidableEq K] {prog : Program} {w : World} {knd : KeyKind prog w K} {o : Obj} {kvs : List (K × Value)} (h : o.IsDictOf knd kvs) : o.cls = .type "dict" := let ⟨_, _, r⟩ := h; r.1.1
theorem rb_off_cls {w : World} {h₀ h : Heap} {L AA AS : Addr} {nm : Nat → Str} {cs : List Dc} {ds : List Ds} {av : List (Str × Value)} {sols : List Asg} {S dyn : List (Addr × Obj)} {oa : Obj} {k : Nat} {a : Addr} {o : Obj}
    (R : RbSt w nm AA AS cs av sols ds oa S k dyn) (N : News h₀ L h (rbL AA AS oa S k dyn)) (ha : h.get? a = some o) (hc : o.cls = .type "tuple" ∨ o.cls = .type "list_iterator") : a ≠ AA ∧ a ≠ AS ∧ a ∉ ads cs := by
  have key : ∀ p ∈ rbL AA AS oa S k dyn, (p.2.cls = .ref 303 ∨ p.2.cls = .type "dict" ∨ p.2.cls = .type "list") → a ≠ p.1 := by
    intro p hp hcl e
    have z := (N p hp).1
    rw [← e, ha] at z
    have z' : o = p.2 := Option.some.inj z
    subst z'
    rcases hc with hc | hc <;> rw [hc] at hcl <;> revert hcl <;> decide
  refine ⟨key _ (.head _) (.inr (.inl (IsDictOf.cls R.a))), key _ (.tail _ (.head _)) (.inr (.inr rfl)), R.d.notin fun q hq => ?_⟩
  exact fun e => key q (.tail _ (.tail _ (List.mem_append_right _ hq))) (R.d.cls q hq) e.symm
theorem paired_mem {α β : Type} {F : α → β → Prop} : ∀ {l₁ : List α} {l₂ : List β}, Paired F l₁ l₂ → ∀ b ∈ l₂, ∃ a, F a b
  | _, _, .nil, _, h => nomatch h
  | _, _, .cons h t, b, hb => by
    rcases List.mem_cons.mp hb with rfl | hb
    · exact ⟨_, h⟩
    · exact paired_mem t b hb
theorem rb_ne_cls {w : World} {h₀ h : Heap} {L AA AS : Addr} {nm : Nat → Str} {cs : List Dc} {ds : List Ds} {av : List (Str × Value)} {sols : List Asg} {S dyn : List (Addr × Obj)} {oa : Obj} {k : Nat} {a : Addr} {o : Obj}
    (R : RbSt w nm AA AS cs av sols ds oa S k dyn) (N : News h₀ L h (rbL AA AS oa S k dyn)) (ha : h.get? a = some o) (hc : o.cls = .type "tuple" ∨ o.cls = .type "list_iterator") : ∀ p ∈ rbL AA AS oa S k dyn, p.1 ≠ a := by
  intro p hp e
  have z := (N p hp).1
  rw [e, ha] at z
  have z' : o = p.2 := Option.some.inj z
  have hcl : p.2.cls = .ref 303 ∨ p.2.cls = .type "dict" ∨ p.2.cls = .type "list" := by
    rcases List.mem_cons.mp hp with rfl | hp
    · exact .inr (.inl (IsDictOf.cls R.a))
    rcases List.mem_cons.mp hp with rfl | hp
    · exact .inr (.inr rfl)
    rcases List.mem_append.mp hp with hp | hp
    · obtain ⟨g, hg⟩ := paired_mem R.s p hp
      exact .inr (.inl (IsDictOf.cls hg))
    · exact R.d.cls p hp
  rw [← z'] at hcl
  rcases hc with hc | hc <;> rw [hc] at hcl <;> revert hcl <;> decide
theorem copy_method {prog : Program} {w : World} {K : Type} [DecidableEq K] {knd : KeyKind prog w K} {A : Around} {E : Value → Shared → Prop} {s : Shared} {h₀ : Heap} {L d : Addr} {news : List (Addr × Obj)} {o : Obj} {kvs : List (K × Value)} {pl : Sem Bool} {Q : Value × List Value → Shared → Prop} (N : News h₀ L s.heap news) (hp : (d, o) ∈ news) (hd : o.IsDictOf knd kvs) (h : Q (.builtin "dict.copy", [.ref d]) s) : wpAny (model prog w) A (getMethod (.ref d) "copy" pl) Q E s :=
  have hD := kda_dict N hp hd
  getMethod_builtin hD.typeIs PySem.F.plainAttrs_dict PySem.F.slot_dict_copy PySem.F.type_dict_copy hD.mapOf.noDict h
theorem Off.nil {AA AS : Addr} {cs : List Dc} : Off AA AS cs [] := fun _ h => nomatch h
theorem Off.cons {AA AS : Addr} {cs : List Dc} {a : Addr} {o : Obj} {l : List (Addr × Obj)} (h : a ≠ AA ∧ a ≠ AS ∧ a ∉ ads cs) (hl : Off AA AS cs l) : Off AA AS cs ((a, o) :: l) := List.forall_mem_cons.mpr ⟨h, hl⟩
theorem Off.app {AA AS : Addr} {cs : List Dc} {l1 l2 : List (Addr × Obj)} (h1 : Off AA AS cs l1) (h2 : Off AA AS cs l2) : Off AA AS cs (l1 ++ l2) := fun p hp => (List.mem_append.mp hp).elim (h1 p) (h2 p)
theorem off_new {w : World} {AA AS : Addr} {nm : Nat → Str} {cs : List Dc} {ds : List Ds} {av : List (Str × Value)} {sols : List Asg} {S dyn : List (Addr × Obj)} {oa : Obj} {k : Nat} {a : Addr} (R : RbSt w nm AA AS cs av sols ds oa S k dyn)
    (h : ∀ p ∈ rbL AA AS oa S k dyn, p.1 ≠ a) : a ≠ AA ∧ a ≠ AS ∧ a ∉ ads cs :=
  ⟨fun e => h _ (.head _) e.symm, fun e => h _ (.tail _ (.head _)) e.symm, R.d.notin fun q hq => h q (.tail _ (.tail _ (List.mem_append_right _ hq)))⟩
theorem valueAt_none {K : Type} [DecidableEq K] {kvs : List (K × Value)} {k : K} (h : valueAt kvs k = none) : ∀ p ∈ kvs, p.1 ≠ k := by
  intro p hp e
  unfold valueAt at h
  rw [Option.map_eq_none_iff, List.find?_eq_none] at h
  exact h p hp (by simp [e])
theorem stored_new {K : Type} [DecidableEq K] {kvs : List (K × Value)} {k : K} {v : Value} (h : valueAt kvs k = none) : stored kvs k v = kvs ++ [(k, v)] := by
  unfold stored
  rw [if_neg]
  simp only [List.any_eq_true, decide_eq_true_eq, not_exists, not_and]
  exact fun p hp => valueAt_none h p hp
theorem stored_last {K : Type} [DecidableEq K] {kvs : List (K × Value)} {k : K} {u v : Value} (h : valueAt kvs k = none) : stored (kvs ++ [(k, u)]) k v = kvs ++ [(k, v)] := by
  unfold stored
  rw [if_pos (by simp)]
  rw [List.map_append]
  congr 1
  · conv => rhs; rw [← List.map_id kvs]
    exact List.map_congr_left fun p hp => by rw [if_neg (valueAt_none h p hp)]; rfl
  · simp
theorem without_last {K : Type} [DecidableEq K] {kvs : List (K × Value)} {k : K} {u : Value} (h : valueAt kvs k = none) : without (kvs ++ [(k, u)]) k = kvs := by
  unfold without
  rw [List.filter_append]
  have h1 : kvs.filter (fun kv => decide (kv.1 ≠ k)) = kvs := List.filter_eq_self.mpr fun p hp => by simpa using valueAt_none h p hp
  have h2 : ([(k, u)] : List (K × Value)).filter (fun kv => decide (kv.1 ≠ k)) = [] := by simp
  rw [h1, h2, List.append_nil]
theorem valueAt_last {K : Type} [DecidableEq K] {kvs : List (K × Value)} {k : K} {u : Value} (h : valueAt kvs k = none) : valueAt (kvs ++ [(k, u)]) k = some u := by
  unfold valueAt at *
  rw [Option.map_eq_none_iff] at h
  rw [List.find?_append, h]
  simp
theorem valueAt_other {K : Type} [DecidableEq K] {kvs : List (K × Value)} {k k' : K} {u : Value} (h : k ≠ k') : valueAt (kvs ++ [(k, u)]) k' = valueAt kvs k' := by
  unfold valueAt
  rw [List.find?_append]
  cases hf : kvs.find? (fun kv => decide (kv.1 = k')) with
  | some p => rfl
  | none => simp [h]
/-- a Domain's address as a value -/
def xr (cs : List Dc) (v : Nat) : Value := .ref ((cs[v]?.map (·.x)).getD 0)
theorem xr_at {cs : List Dc} {v : Nat} {c : Dc} (h : cs[v]? = some c) : xr cs v = .ref c.x := by unfold xr; rw [h]; rfl
/-- what pushdomains stands for -/
def PvOk (cs : List Dc) (extra : List (Addr × Obj)) (pv : Value) (push : List Nat) : Prop := (pv = .none ∧ push = []) ∨ ∃ PL kk, pv = .ref PL ∧ (PL, listOf (push.map (xr cs)).toArray kk) ∈ extra ∧ push.length ≤ 6
theorem others_succ (asg : Asg) (v i : Nat) : others (i + 1) asg v = others i asg v ++ (if (lk asg i).isNone && i != v then [i] else []) := by
  unfold others
  rw [List.range_succ, List.filter_append]
  congr 1
  cases h : ((lk asg i).isNone && i != v) <;> simp [h]
theorem others_len (n : Nat) (asg : Asg) (v : Nat) : (others n asg v).length ≤ n := by
  unfold others
  exact Nat.le_trans (List.length_filter_le _ _) (by rw [List.length_range]; exact Nat.le_refl _)
theorem others_lt {n : Nat} {asg : Asg} {v : Nat} : ∀ i ∈ others n asg v, i < n := fun _ hi => List.mem_range.mp (List.mem_filter.mp hi).1
theorem pv_truthy {w : World} {A : Around} {E : Value → Shared → Prop} {s : Shared} {h₀ : Heap} {L : Addr} {extra news : List (Addr × Obj)} {cs : List Dc} {pv : Value} {push : List Nat} {Q : Bool → Shared → Prop} (N : News h₀ L s.heap news) (hp : PvOk cs extra pv push) (hs : ∀ p ∈ extra, p ∈ news) (h : ∀ tk', Q (!push.isEmpty) { s with toks := tk' }) : wpAny (model PW w) A (truthy pv) Q E s := by
  rcases hp with ⟨rfl, rfl⟩ | ⟨PL, kk, rfl, hm, hl⟩
  · exact wpAny_of_eq (a := false) rfl (h s.toks)
  · refine wpAny_truthy_list (items := (push.map (xr cs)).toArray) ⟨_, (N _ (hs _ hm)).1, rfl, _, rfl⟩ (by simp; omega) ?_
    have e : (!(push.map (xr cs)).toArray.isEmpty) = !push.isEmpty := by simp
    rw [e]; exact h _
theorem PvOk.fc {cs : List Dc} {extra : List (Addr × Obj)} {pv : Value} {push : List Nat} (h : PvOk cs extra pv push) : FcOk extra pv (!push.isEmpty) := by
  rcases h with ⟨rfl, rfl⟩ | ⟨PL, kk, rfl, hm, hl⟩
  · exact .inl ⟨rfl, rfl⟩
  · exact .inr (.inr ⟨PL, _, kk, rfl, hm, by simp; omega, by simp⟩)
theorem PvOk.list {cs : List Dc} {extra : List (Addr × Obj)} {pv : Value} {push : List Nat} (h : PvOk cs extra pv push) (hne : push.isEmpty = false) : ∃ PL kk, pv = .ref PL ∧ (PL, listOf (push.map (xr cs)).toArray kk) ∈ extra := by
  rcases h with ⟨rfl, rfl⟩ | ⟨PL, kk, rfl, hm, hl⟩
  · cases hne
  · exact ⟨PL, kk, rfl, hm⟩
theorem ForThen.mono {M : Model} {A : Around} {target : Expr} {body orelse : List Stmt} {env : Env} {Q Q' : Flow → Shared → Prop} {E : Value → Shared → Prop} {x : Value} {s : Shared} (h : ForThen M A target body orelse env Q' E x s) (hq : ∀ f s', Q' f s' → Q f s') : ForThen M A target body orelse env Q E x s := by
  unfold ForThen at h ⊢
  refine wpAny_mono h (fun it s₂ h₂ => codeAny_mono h₂ fun r s' hr => ?_) fun _ _ e => e
  cases r with
  | ok f => exact hq f s' hr
  | error e => exact hr
theorem go_tuple {w : World} {A : Around} {elts : List Expr} {k1} {pos : Pos} {I l : Addr} : GoFree (model PW w) A (.Tuple elts k1 pos) I l := by
  intro s i v Q E hit h
  cases v with
  | ref T => exact wpAny_letOwnedTupleGo_listiter hit h
  | _ => exact wpAny_of_eq rfl h
/-- an if that stops behind its test -/
def IfThen (M : Model) (A : Around) (body orelse : List Stmt) (env : Env) (Q : Flow → Shared → Prop) (E : Value → Shared → Prop) (b : Bool) (s : Shared) : Prop := wpAny M A (if b = true then execs body env else execs orelse env) Q E s
theorem If_ {M : Model} {A : Around} {E : Value → Shared → Prop} {s : Shared} {env : Env} {test : Expr} {body orelse : List Stmt} {pos : Pos} {Q : Flow → Shared → Prop}
    (h : wpAny M A (isTrue test env (eval test env)) (fun b s₁ => IfThen M A body orelse env Q E b s₁) E s) : wpAny M A (exec (.If test body orelse pos) env) Q E s := by
  refine wpAny_If (wpAny_mono h (fun b s₁ h₁ => ?_) fun _ _ e => e)
  unfold IfThen at h₁
  cases b <;> exact h₁
def Hold (P : Prop) : Prop := P
theorem Hold.mk {P : Prop} (h : P) : Hold P := h
theorem IfThen.join {M : Model} {A : Around} {E : Value → Shared → Prop} {s : Shared} {env : Env} {body orelse : List Stmt} {Q : Flow → Shared → Prop} {b : Bool} (Inv : Shared → Prop)
    (h : wpAny M A (if b = true then execs body env else execs orelse env) (fun f s' => Hold (f = .next ∧ Inv s')) E s) (k : ∀ s', Inv s' → Q .next s') : IfThen M A body orelse env Q E b s :=
  wpAny_mono h (fun f s' hh => by obtain ⟨hf, hi⟩ := hh; exact hf ▸ k s' hi) fun _ _ e => e
theorem IfThen.mk {M : Model} {A : Around} {E : Value → Shared → Prop} {s : Shared} {env : Env} {body orelse : List Stmt} {Q : Flow → Shared → Prop} {b : Bool}
    (h : wpAny M A (if b = true then execs body env else execs orelse env) Q E s) : IfThen M A body orelse env Q E b s := h
end Mine
end
section
open PySem PySem.W PySem.W.X PyProof.Rows PySem.Calls PySem.Spec
set_option Elab.async false
set_option maxRecDepth 100000
set_option maxHeartbeats 8000000
namespace Mine
theorem filled23 : PySem.Challenge.rw_aw5017_04 = PySem.Challenge.rw_aw5017_04 ∧ hd.heap_39 = hd.heap_39 := by k_fill; exact ⟨rfl, rfl⟩
local macro_rules | `(tactic| k_all) => `(tactic| assumption)
local macro_rules | `(tactic| ktr_room) => `(tactic| (simp only [depth_under_make, depth_under_kw, depth_in1, depth_deeper, depth_caller, recursionLimit] at *; omega))
local macro_rules | `(tactic| walk_at "getAttr ref") => `(tactic| (k_here; (with_reducible show wpAny _ _ (getAttr (Value.ref _) (PySem.Str.ofString "_hidden") _) _ _ _); k_dflt (refine' hidden_K ?k1 ?k2 ?k3 ?k4 ?_; (case k1 => k_in); (case k2 => k_asm); (case k3 => k_mem); (case k4 => k_mem); k_whole)))
local macro_rules | `(tactic| walk_at "getAttr ref") => `(tactic| (k_here; (with_reducible show wpAny _ _ (getAttr (Value.ref _) (PySem.Str.ofString "_states") _) _ _ _); k_dflt (refine' states_K ?k1 ?k2 ?k3 ?k4 ?_; (case k1 => k_in); (case k2 => k_asm); (case k3 => k_mem); (case k4 => k_mem); k_whole)))
local macro_rules | `(tactic| walk_at "getMethod ref") => `(tactic| (k_here; k_dflt (refine' meth_K ?k1 ?k2 ?k3 ?k4 ?k5 ?k6 ?k7 ?k8 ?_; (case k1 => k_in); (case k2 => k_asm); (case k3 => k_mem); (case k4 => k_mem); (case k5 => k_is); (case k6 => first | (intro M h X; exact looks_typeIn X (by k_is)) | (intro M h X; exact Looks.of_pure (by first | exact PySem.F.type_list_remove | exact PySem.F.type_list_extend))); (case k7 => decide); (case k8 => first | rfl | decide +kernel); k_whole)))
local macro_rules | `(tactic| walk_at "call builtin:list.remove") => `(tactic| (k_here; k_dflt (refine' remove_K ?k1 ?k2 ?k3 ?k4 ?k5 ?k6 ?_; (case k1 => k_in); (case k2 => k_asm); (case k3 => k_asm); (case k4 => k_upd); (case k5 => assumption); (case k6 => assumption); k_whole; intro h' F' N'; (try k_sweep))))
local macro_rules | `(tactic| walk_at "call builtin:list.append") => `(tactic| (k_here; k_dflt (refine' append_iv ?k1 ?k2 ?k3 ?k4 ?_; (case k1 => k_asm); (case k2 => k_asm); (case k3 => k_upd); (case k4 => assumption); k_whole; intro h' F' N'; (try k_sweep))))
local macro_rules | `(tactic| walk_at "call builtin:list.pop") => `(tactic| (k_here; (with_reducible show wpAny _ _ (call (Value.builtin _) [Value.ref _]) _ _ _); k_dflt (refine' pop_iv ?k1 ?k2 ?k3 ?k4 ?_; (case k1 => k_asm); (case k2 => k_asm); (case k3 => k_upd); (case k4 => assumption); k_whole; intro h' F' N'; (try k_sweep))))
local macro_rules | `(tactic| walk_at "call builtin:list.pop") => `(tactic| (dsimp only; fail_if_success (with_reducible show wpAny _ _ (call (Value.builtin _) (Prod.snd _)) _ _ _)))
local macro_rules | `(tactic| walk_at "call builtin:len") => `(tactic| (k_here; (with_reducible show wpAny _ _ (call (Value.builtin "len") [Value.ref _]) _ _ _); k_dflt (refine' len_iv ?k1 ?k2 ?k3 ?k4 ?_; (case k1 => k_in); (case k2 => k_asm); (case k3 => k_mem); (case k4 => assumption); k_whole); intro u' tk'))
local macro_rules | `(tactic| walk_at "truthy ref") => `(tactic| (k_here; k_dflt (refine' truthy_iv ?k1 ?k2 ?k3 ?k4 ?_; (case k1 => k_in); (case k2 => k_asm); (case k3 => k_mem); (case k4 => assumption); k_whole); intro tk'))
local macro_rules | `(tactic| walk_at "eval Subscript") => `(tactic| (k_here; (with_reducible show wpAny _ _ (eval (PySem.Expr.Subscript _ (PySem.Expr.Slice _ _ none _) _) _) _ _ _); refine SubSlice_ ?_))
local macro_rules | `(tactic| walk_at "delete Subscript") => `(tactic| (k_here; (with_reducible show wpAny _ _ (delete (PySem.Expr.Subscript _ (PySem.Expr.Slice _ none none _) _) _) _ _ _); refine DelSlice_ ?_))
local macro_rules | `(tactic| walk_at "call builtin:list.extend") => `(tactic| (k_here; k_dflt (refine' extend_iv ?k1 ?k2 ?k3 ?k4 ?k5 ?k6 ?k7 ?_; (case k1 => k_in); (case k2 => k_asm); (case k3 => k_asm); (case k4 => (intro o9; k_upd)); (case k5 => k_mem); (case k6 => first | assumption | omega); (case k7 => ((try simp only [List.length_drop, List.length_take]); omega)); k_whole; intro h' e' F' N'; (try k_sweep))))
local macro_rules | `(tactic| ktr_enter) => `(tactic| (refine' code_def ?k1 ?k2 ?k3 ?k4 ?k5 ?kA ?kF ?kK ?k6 ?k7 ?k8 ?k9 ?kB ?_ ?c2 ?c3 ?c4 ?c5; (case kA => first | assumption | exact fr_in (by assumption) | exact rfl); (case kF => first | assumption | exact rfl); (case kK => first | assumption | exact rfl); (case k1 => k_asm); (case k2 => k_asm); (case k3 => k_asm); (case k4 => k_asm); (case k5 => k_asm); (case k6 => k_is); (case k7 => k_is); (case k8 => ktr_room); (case k9 => first | exact BindsTo.of_eq rfl | exact binds_K (by k_in) rfl (by k_is) rfl rfl rfl); (case c5 => decide); (case kB => exact locs rfl); (case c2 => exact rfl); (case c3 => exact rfl); (case c4 => exact rfl); k_whole; intro g' L' h' FG' F' N' B' X' T'; (try dsimp only); (try k_fold)))
local macro_rules | `(tactic| k_mem) => `(tactic| (first | assumption | (refine List.mem_append_left _ ?_; assumption) | (refine List.mem_append_right _ ?_; assumption) | (refine List.mem_append_right _ ?_; k_mem)))
local macro_rules | `(tactic| walk_at "exec For Name Name cons nil") => `(tactic| (k_here; refine For_ ?_))
local macro_rules | `(tactic| walk_at "exec For Name Subscript cons nil") => `(tactic| (k_here; refine For_ ?_))
local macro_rules | `(tactic| walk_at "call ref") => `(tactic| (k_here; (with_reducible show wpAny _ _ (call (Value.ref 300) _) _ _ _); refine Stop.intro ?_))
local macro_rules | `(tactic| walk_at "compareOp In str ref") => `(tactic| (k_here; k_dflt (first
  | (refine' kin_t (knd := PySem.strKind _ _) ?k1 ?k2 ?k3 ?k4 (strKind_is _ _ _ _) ?k5 ?_; (case k1 => k_asm); (case k2 => k_mem); (case k3 => assumption); (case k4 => assumption); (case k5 => assumption); k_whole)
  | (refine' kin_f (knd := PySem.strKind _ _) ?k1 ?k2 ?k3 ?k4 (strKind_is _ _ _ _) ?k5 ?_; (case k1 => k_asm); (case k2 => k_mem); (case k3 => assumption); (case k4 => assumption); (case k5 => assumption); k_whole))))
local macro_rules | `(tactic| walk_at "compareOp NotIn str ref") => `(tactic| (k_here; k_dflt (first
  | (refine' knin_t (knd := PySem.strKind _ _) ?k1 ?k2 ?k3 ?k4 (strKind_is _ _ _ _) ?k5 ?_; (case k1 => k_asm); (case k2 => k_mem); (case k3 => assumption); (case k4 => assumption); (case k5 => assumption); k_whole)
  | (refine' knin_f (knd := PySem.strKind _ _) ?k1 ?k2 ?k3 ?k4 (strKind_is _ _ _ _) ?k5 ?_; (case k1 => k_asm); (case k2 => k_mem); (case k3 => assumption); (case k4 => assumption); (case k5 => assumption); k_whole))))
local macro_rules | `(tactic| walk_at "subscriptTail") => `(tactic| (k_here; k_dflt (refine' kda_item (knd := PySem.strKind _ _) ?k1 ?k2 ?k3 (strKind_is _ _ _ _) ?k5 ?_; (case k1 => k_asm); (case k2 => k_mem); (case k3 => assumption); (case k5 => assumption); k_whole)))
local macro_rules | `(tactic| walk_at "call builtin:list.remove") => `(tactic| (k_here; (with_reducible show wpAny _ _ (call _ _) _ _ _); refine Stop.intro ?_))
local macro_rules | `(tactic| walk_at "call ref") => `(tactic| (k_here; (with_reducible show wpAny _ _ (call (Value.ref 336) _) _ _ _); k_dflt (refine wpAny_call ?_; ktr_enter)))
local macro_rules | `(tactic| walk_at "exec Assign cons ListComp") => `(tactic| (k_here; k_dflt (refine Assign_ListComp_C (by with_unfolding_all rfl) (by with_unfolding_all rfl) (by rfl) (by decide) ?_)))
local macro_rules | `(tactic| walk_at "call builtin:list.sort") => `(tactic| (k_here; (with_reducible show wpAny _ _ (call _ _) _ _ _); refine Stop.intro ?_))
local macro_rules | `(tactic| walk_at "exec For Name Name cons cons") => `(tactic| (k_here; refine For_ ?_))
local macro_rules | `(tactic| walk_at "exec For Tuple Subscript cons cons") => `(tactic| (k_here; refine For_ ?_))
local macro_rules | `(tactic| walk_at "exec If") => `(tactic| (k_here; (with_reducible show wpAny _ _ (exec (Stmt.If (Expr.Name _ _) _ _ _) _) _ _ _); refine If_ ?_))
local macro_rules | `(tactic| walk_at "setItem ref str") => `(tactic| (k_here; (with_reducible show wpAny _ _ (setItem _ _ _) _ _ _); refine Stop.intro ?_))
local macro_rules | `(tactic| walk_at "delItem ref str") => `(tactic| (k_here; (with_reducible show wpAny _ _ (delItem _ _) _ _ _); refine Stop.intro ?_))
local macro_rules | `(tactic| walk_at "call builtin:dict.copy") => `(tactic| (k_here; (with_reducible show wpAny _ _ (call _ _) _ _ _); refine Stop.intro ?_))
local macro_rules | `(tactic| walk_at "call builtin:list.append") => `(tactic| (k_here; (with_reducible show wpAny _ _ (call _ _) _ _ _); refine Stop.intro ?_))
local macro_rules | `(tactic| walk_at "call ref") => `(tactic| (k_here; (with_reducible show wpAny _ _ (call (Value.ref 286) _) _ _ _); refine Stop.intro ?_))
local macro_rules | `(tactic| walk_at "call ref") => `(tactic| (k_here; (with_reducible show wpAny _ _ (call (Value.ref 293) _) _ _ _); refine Stop.intro ?_))
local macro_rules | `(tactic| walk_at "call ref") => `(tactic| (k_here; (with_reducible show wpAny _ _ (call (Value.ref 208) _) _ _ _); refine Stop.intro ?_))
local macro_rules | `(tactic| walk_at "call ref") => `(tactic| (k_here; (with_reducible show wpAny _ _ (call (Value.ref (Cn.c _)) _) _ _ _); refine Stop.intro ?_))
local macro_rules | `(tactic| walk_at "getMethod ref") => `(tactic| (k_here; (with_reducible show wpAny _ _ (getMethod (Value.ref _) (PySem.Str.ofString "copy") _) _ _ _); k_dflt (refine' copy_method (knd := PySem.strKind PW _) ?k1 ?k2 ?k3 ?_; (case k1 => k_asm); (case k2 => k_mem); (case k3 => assumption); k_whole)))
local macro_rules | `(tactic| walk_at "assign Tuple") => `(tactic| (k_here; (with_reducible show wpAny _ _ (assign (Expr.Tuple _ _ _) _ (Value.ref _)) _ _ _); k_dflt (refine' unpackN_ ?k1 ?k2 ?k3 ?k4 ?k5 ?k6 ?_; (case k1 => k_asm); (case k2 => k_asm); (case k3 => (refine News.isTup (by k_asm) (by k_mem))); (case k4 => first | assumption | exact rfl); (case k5 => exact rfl); (case k6 => exact rfl); k_whole); intro h' F' N'; (try k_sweep)))
open PyProof.Rows.LCg
local macro_rules | `(tactic| walk_at "call builtin:len") => `(tactic| (k_here; (with_reducible show wpAny _ _ (call (Value.builtin "len") [Value.ref _]) _ _ _); k_dflt (refine' len_map ?k2 ?k3 ?k4 ?_; (case k2 => k_asm); (case k3 => k_mem); (case k4 => assumption); k_whole); intro u' tk'))
/-- the dict of a RecursiveBacktrackingSolver -/
abbrev rbtD (P : Params) (t : Tok) (b : Bool) (e : Nat) : Obj := dictOf [⟨PyData.keyHash P "_forwardcheck", .str "_forwardcheck" t, .bool b⟩] e
def RbTells (w : World) (p : Program) (loose : List Str) (mean : ExcName → Option Value) (mg mb : Str → Option Value) (nm : Nat → Str) (x xdx AS AD AV AA : Addr) (od ov : Obj) (cs : List Dc) (vls : List Addr) (vcs : List (List Cn)) (fcOn single : Bool) (t0 : Tok) (e0 f : Nat) : Prop :=
  ∀ (A : Around) (env : Env) (outer : List Env) (A₀ : Around) (base h₀ : Heap) (L : Addr) (m : Str → Option Value) (s : Shared) (Q E : Value → Shared → Prop) (Lo news dyn S : List (Addr × Obj)) (oa : Obj) (k : Nat) (ds ds' : List Ds) (asg : Asg) (sols sols' : List Asg),
    Cx w p loose mean mg mb A (780 - 4 * f) (7800 - 20 * f) env outer A₀ base h₀ L → Fr h₀ L s.heap m → News h₀ L s.heap news → Cut (rbL AA AS oa S k dyn) news Lo → RbSt w nm AA AS cs (asgKv nm asg) sols ds oa S k dyn → Off AA AS cs Lo →
    PbOk w nm Lo AD AV od ov cs vls vcs → (x, instObj 225 xdx) ∈ Lo → (xdx, rbtD w.params t0 fcOn e0) ∈ Lo → (AA == sysModules) = false → rbM cs.length vcs fcOn single f sols asg ds = some (sols', ds') →
    (∀ h' tk' oa' S' k' dyn' av', Fr h₀ L h' m → News h₀ L h' (Lo ++ rbL AA AS oa' S' k' dyn') → RbSt w nm AA AS cs av' sols' ds' oa' S' k' dyn' → (av' = asgKv nm asg ∨ (single = true ∧ sols' ≠ [])) → Q (.ref AS) { s with heap := h', toks := tk' }) →
    wpAny (model PW w) A (call (.ref 208) [.ref x, .ref AS, .ref AD, .ref AV, .ref AA, .bool single]) Q E s
theorem rbt_c {w : World} {p : Program} {loose : List Str} {mean : ExcName → Option Value} {mg mb : Str → Option Value} {nm : Nat → Str} {x xdx AS AD AV AA : Addr} {od ov : Obj} {cs : List Dc} {vls : List Addr} {vcs : List (List Cn)} {fcOn single : Bool} {t0 : Tok} {e0 : Nat} :
    ∀ f, f ≤ 100 → RbTells w p loose mean mg mb nm x xdx AS AD AV AA od ov cs vls vcs fcOn single t0 e0 f
  | 0, _ => by
    intro A env outer A₀ base h₀ L m s Q E Lo news dyn S oa k ds ds' asg sols sols' cx F N C R off P hx hxd loA hm
    cases hm
  | f + 1, hf100 => by
    have IH := rbt_c (w := w) (p := p) (loose := loose) (mean := mean) (mg := mg) (mb := mb) (nm := nm) (x := x) (xdx := xdx) (AS := AS) (AD := AD) (AV := AV) (AA := AA) (od := od) (ov := ov) (cs := cs) (vls := vls) (vcs := vcs) (fcOn := fcOn) (single := single) (t0 := t0) (e0 := e0) f (by omega)
    intro A env outer A₀ base h₀ L m s Q E Lo news dyn S oa k ds ds' asg sols sols' cx F N C R off P hx hxd loA hm ret
    obtain ⟨B, X, T, hk, hf, hd, hu, hfr, hhd⟩ := cx
    obtain rfl := C.eq
    have hAD := P.hAD
    have hod := P.hod
    have hAV := P.hAV
    have hov := P.hov
    have loD := P.loD
    have loV := P.loV
    have D := R.d
    have hoa := R.a
    have hl2 := D.len
    unfold rbM at hm
    split at hm
    case isFalse => cases hm
    rename_i hchk
    simp only [Bool.and_eq_true, decide_eq_true_eq, List.all_eq_true] at hchk
    obtain ⟨⟨hsm, hasl⟩, hsol⟩ := hchk
    have hmemAA : (AA, oa) ∈ rbL AA AS oa S k dyn := .head _
    refine wpAny_call ?_
    k_dflt (refine' code_defC ?k1 ?k2 ?k3 ?k4 ?k5 ?kA ?kF ?kK ?k6 ?k7 ?k8 ?k9 ?kB ?kD ?_ ?c2 ?c3 ?c4; (case kA => first | assumption | exact fr_in (by assumption) | exact rfl); (case kF => first | assumption | exact rfl); (case kK => first | assumption | exact rfl); (case k1 => k_asm); (case k2 => k_asm); (case k3 => k_asm); (case k4 => k_asm); (case k5 => k_asm); (case k6 => k_is); (case k7 => k_is); (case k8 => ktr_room); (case k9 => first | exact BindsTo.of_eq rfl | exact binds_K (by k_in) rfl (by k_is) rfl rfl rfl); (case kB => exact rfl); (case kD => decide +kernel); (case c2 => exact rfl); (case c3 => exact rfl); (case c4 => exact rfl); k_whole; intro g9 L9 h9 tk9 cells9 FG F1 N1 Y9 B9 X9 T9 l1; k_cells Y9; (try simp only [List.cons_append, List.nil_append] at N1); (try dsimp only); (try k_fold))
    rename_i o1 o2 o3 d1 d2 d3
    replace d1 : o1.data = Data.cell (some (.ref AA)) := d1
    replace d2 : o2.data = Data.cell (some (.ref AV)) := d2
    replace d3 : o3.data = Data.cell (some (.ref AD)) := d3
    refine Fr.abs [("self", .ref x), ("solutions", .ref AS), ("single", .bool single)] F1 (by (intros; repeat (first | exact Locs.nil | refine Locs.cons rfl ?_))) (fun m1 H1 F2 => ?_)
    clear F1
    have F1 := H1.fr F2
    simp only [nest] at F1
    k_steps
    refine' compSt_dictA (knd := PySem.strKind PW w) (fun i ys nw => ∃ T : List (Addr × Obj), T.length = i ∧ nw = T ++ ((L9 + 1 + 1 + 1, o1) :: (L9 + 1 + 1, o2) :: (L9 + 1, o3) :: (Lo ++ rbL AA AS oa S k dyn)) ∧ ys = refs T ∧ ∀ (j : Nat) (p : Addr × Obj), T[j]? = some p → TupAt (vkey vcs ds j).1 (vkey vcs ds j).2 (nm j) p.2)
      ?e1 ?e2 ?e3 ?eh ?eF ?eN ?e0 hod loD ?ez ?e4 ?e5 ?e6 ?hJd ?hJ ?turn ?fin
    case eh => exact hhd
    case eF => exact F1
    case eN => exact N1
    case e0 => k_mem
    case ez => rw [List.length_mapIdx, sizeLine_eq]; have := P.n6; omega
    case e1 => rfl
    case e2 => rfl
    case e3 => rfl
    case e4 => decide
    case e5 => rfl
    case e6 => rfl
    case hJd => rintro i ys nw ⟨T, _, rfl, _⟩; exact List.mem_append_right _ (by k_mem)
    case hJ => exact ⟨[], rfl, rfl, rfl, fun j p h => by simp at h⟩
    case turn =>
      rintro I i k u t oI C oC D2 m₂ h tk ys nw E' s₂ hki hkey ⟨T, hTl, rfl, rfl, hT⟩ hC hxv F' N' off' ne'
      rw [List.getElem?_mapIdx] at hki
      obtain ⟨c₁, hc₁⟩ : ∃ c₁, cs[i]? = some c₁ := by cases e : cs[i]? with | none => rw [e] at hki; cases hki | some c₁ => exact ⟨_, rfl⟩
      rw [hc₁] at hki
      cases hki
      obtain ⟨tt, rfl⟩ := Value.isStrOf_shape hkey
      refine wpAny_tests_nil ?_
      simp only [if_true]
      obtain ⟨d, hd1⟩ := get_same hl2.symm hc₁
      obtain ⟨va, hva⟩ := get_same P.l1 hc₁
      obtain ⟨vl, hvl⟩ := get_same P.l2 hc₁
      have hvd := P.dom _ _ hc₁
      have hvv := P.vc _ _ hva
      obtain ⟨kk, hmv⟩ := P.hvl _ _ _ hva hvl
      have hlv : vl.length ≤ 1000 := by have := P.hsz vl (List.mem_of_getElem? hvl); omega
      have hld : d.vs.length ≤ 1000 := by have := hsm d (List.mem_of_getElem? hd1); omega
      obtain ⟨e₁, hx₁', hdx₁'⟩ := D.there hc₁ hd1
      have hx₁ : (c₁.x, domO c₁.dx (iv d.vs).toArray e₁) ∈ rbL AA AS oa S k dyn := List.Mem.tail _ (List.Mem.tail _ (List.mem_append_right _ hx₁'))
      k_steps
      rename News _ _ _ _ => N8
      rename _ < _ ∧ _ < _ ∧ _ < _ ∧ AllLt _ _ => lt8
      refine out_snoc (by k_asm) N8 lt8 off' ⟨T ++ [_], by simp [hTl], rfl, by simp [refs], fun j p hj => ?_⟩
      rcases Nat.lt_trichotomy j T.length with hjl | hjl | hjl
      · rw [List.getElem?_append_left hjl] at hj; exact hT j p hj
      · rw [hjl, List.getElem?_concat_length] at hj
        cases hj
        rw [hjl, hTl]
        rw [show vkey vcs ds i = (-(vl.length : Int), (d.vs.length : Int)) by simp only [vkey, List.getD_eq_getElem?_getD, hvl, hd1, Option.getD_some, Option.map_some]]
        exact ⟨_, _, _, rfl⟩
      · rw [List.getElem?_eq_none (by simp; omega)] at hj; cases hj
    case fin =>
      rintro D3 h tk ys nw F3 N3 hD3 ⟨T, hTl, rfl, rfl, hT⟩
      rw [List.length_mapIdx] at hTl
      k_steps
      refine' sort_tups (T := T) (key := vkey vcs ds) (nm := nm) (n := cs.length) ?F ?N hD3 (fun p hp => List.mem_append_left _ hp) hT hTl P.n2 P.n6 P.inj P.ord ?_
      case F => k_asm
      case N => exact N3
      intro h' tk' c' perm F4 N4 hp1 hp2
      k_steps
      rename Fr _ _ _ _ => F5
      rename News _ _ _ _ => N5
      rw [← hp2] at hm
      refine Fr.abs [("self", .ref x), ("solutions", .ref AS), ("single", .bool single)] F5 (by (intros; repeat (first | exact Locs.nil | refine Locs.cons rfl ?_))) (fun m6 H6 F6 => ?_)
      have offT : Off AA AS cs T := fun p hp => by
        obtain ⟨j, hj⟩ := List.mem_iff_getElem?.mp hp
        obtain ⟨_, _, _, ho⟩ := hT j p hj
        exact rb_off_cls R (news_sub N3 fun q hq => by simp only [List.mem_cons, List.mem_append] at hq ⊢; grind) (N3 p (.tail _ (List.mem_append_left _ hp))).1 (.inl (by rw [ho]))
      have offC : ∀ a, L9 ≤ a → a ≠ AA ∧ a ≠ AS ∧ a ∉ ads cs := fun a ha => off_new R fun p hp => Nat.ne_of_lt (Nat.lt_of_lt_of_le (l1 p (List.mem_append_right _ hp)) ha)
      have offL : Off AA AS cs ((L9 + 1 + 1 + 1, o1) :: (L9 + 1 + 1, o2) :: (L9 + 1, o3) :: Lo) := .cons (offC _ (Nat.le_add_right L9 3)) (.cons (offC _ (Nat.le_add_right L9 2)) (.cons (offC _ (Nat.le_add_right L9 1)) off))
      have offD : D3 ≠ AA ∧ D3 ≠ AS ∧ D3 ∉ ads cs := off_new R fun p hp => hD3 p (List.mem_append_right _ (.tail _ (.tail _ (.tail _ (List.mem_append_right _ hp)))))
      refine iter_list (o := default) F6 N5 (N5 _ (.head _)).1 (fun I h' F7 N7 hI hk => ?_)
      refine loop_list (I := I) (l := D3) perm.length (fun i m₁ news₁ => news₁ = (D3, listOf (List.map (fun i => (refs T).getD i Value.none) perm).toArray c') :: (T ++ (L9 + 1 + 1 + 1, o1) :: (L9 + 1 + 1, o2) :: (L9 + 1, o3) :: (Lo ++ rbL AA AS oa S k dyn)) ∧ perm.find? (fun i => (lk asg i).isNone) = (perm.drop i).find? (fun i => (lk asg i).isNone) ∧
        Locs m₁ [("self", .ref x), ("solutions", .ref AS), ("single", .bool single)]) go_name ?hE hhd F7 N7 ?h0 ?h1 ?h2
      case hE => passes_own
      case h0 => exact ⟨rfl, rfl, H6⟩
      case h1 => rintro i m news h ⟨rfl, _⟩ _; exact hI
      case h2 =>
        rintro i m₁ news₁ h₁ tk₁ ⟨rfl, hfind, H₁⟩ F₁ N₁
        refine ⟨List.map (fun i => (refs T).getD i Value.none) perm, ⟨_, _, (N₁ _ (.tail _ (.head _))).1, rfl⟩, ?_⟩
        rw [List.getElem?_map]
        cases hi : perm[i]? with
        | none =>
          dsimp only [Option.map]
          intro h₂ F₂ N₂
          have F₂ := H₁.fr F₂
          simp only [nest] at F₂
          rw [drop_none hi] at hfind
          rw [hfind] at hm
          simp only [List.find?_nil, Option.some.injEq, Prod.mk.injEq] at hm
          obtain ⟨rfl, rfl⟩ := hm
          k_steps
          rename Fr _ _ _ _ => F8
          rename News _ _ _ _ => N8
          k_dflt (refine' dict_copy F8 N8 ?kc1 hoa loA ?kc2 ?_; (case kc1 => k_mem); (case kc2 => (rw [List.length_map]; omega)))
          intro a8 o8 h8 F9 N9 ho8 hlt8
          k_steps
          refine' rb_append (Lo := (D3, listOf (List.map (fun i => (refs T).getD i Value.none) perm).toArray c') :: (T ++ ((L9 + 1 + 1 + 1, o1) :: (L9 + 1 + 1, o2) :: (L9 + 1, o3) :: Lo))) F9 (by simpa only [List.cons_append, List.append_assoc] using N9) R (.cons offD (.app offT offL)) ho8 (by simpa only [List.cons_append, List.append_assoc] using hlt8) ?_ ?_
          · have := Paired.length R.s; omega
          · intro h' S' k' F10 N10 R10
            k_steps
            rename News _ _ _ _ => N11
            refine' ret _ _ _ _ _ _ _ ?_ (news_sub N11 ?_) R10 (.inl rfl)
            · k_asm
            · intro p hp; simp only [List.cons_append, List.mem_cons, List.mem_append] at hp ⊢; grind
        | some q =>
          dsimp only [Option.map]
          obtain ⟨hlt, hdr⟩ := drop_some hi
          refine ⟨hlt, fun h₂ F₂ N₂ => ?_⟩
          have F₂ := H₁.fr F₂
          simp only [nest] at F₂
          rw [hdr] at hfind
          have hqn := hp1 q (List.mem_of_getElem? hi)
          obtain ⟨pq, hpq⟩ : ∃ pq, T[q]? = some pq := ⟨T[q]'(by omega), List.getElem?_eq_getElem _⟩
          rw [refs_get hpq]
          obtain ⟨aq, oq⟩ := pq
          obtain ⟨tq, uq, vq, hoq⟩ := hT q _ hpq
          dsimp only at hoq ⊢
          have hmq : (aq, ({ cls := .type "tuple", data := .seq #[.int (vkey vcs ds q).1 tq, .int (vkey vcs ds q).2 uq, .str (nm q) vq] } : Obj)) ∈ T := hoq ▸ List.mem_of_getElem? hpq
          have hva := valueAt_asg P.inj q asg
          cases hlk : lk asg q with
          | some y =>
            rw [hlk] at hva
            dsimp only [Option.map] at hva
            rw [List.find?_cons_of_neg (by rw [hlk]; simp)] at hfind
            k_steps
            exact ⟨_, _, _, _, rfl, by k_asm, by k_asm, rfl, hfind, by (intros; repeat (first | exact Locs.nil | refine Locs.cons rfl ?_))⟩
          | none =>
            rw [hlk] at hva
            dsimp only [Option.map] at hva
            rw [List.find?_cons_of_pos (by rw [hlk]; rfl)] at hfind
            rw [hfind] at hm
            dsimp only at hm
            k_steps
            dsimp only [Out]
            k_steps
            rename Fr _ _ _ _ => F8
            rename News _ _ _ _ => N8
            have N8 := news_sub (l' := ((L9 + 1 + 1 + 1, o1) :: (L9 + 1 + 1, o2) :: (L9 + 1, o3) :: Lo) ++ rbL AA AS oa S k dyn) N8 (by intro p hp; simp only [List.cons_append, List.mem_cons, List.mem_append] at hp ⊢; grind)
            refine' rb_set F8 N8 (.base _) R offL ?_ ?_
            · rw [List.length_map]; omega
            intro h8 oa1 tk8 F9 N9 R9
            rw [stored_new hva] at R9
            simp only [List.cons_append] at N9
            k_steps
            refine IfThen.join (fun s' => ∃ h tk m' pv extra, s' = { s with heap := h, toks := tk } ∧ Fr g9 L9 h m' ∧ News g9 L9 h (extra ++ ((L9 + 1 + 1 + 1, o1) :: (L9 + 1 + 1, o2) :: (L9 + 1, o3) :: (Lo ++ rbL AA AS oa1 S k dyn))) ∧ Off AA AS cs extra ∧
              Locs m' [("self", .ref x), ("solutions", .ref AS), ("single", .bool single), ("variable", .str (nm q) vq), ("pushdomains", pv)] ∧ PvOk cs extra pv (if fcOn then others cs.length asg q else [])) ?hb ?hk
            case hb =>
              cases fcOn with
              | false =>
                rw [if_neg (by simp)]
                k_steps
                refine Hold.mk ⟨rfl, _, _, _, .none, [], rfl, by k_asm, by k_asm, Off.nil, by (intros; repeat (first | exact Locs.nil | refine Locs.cons rfl ?_)), Or.inl ⟨rfl, rfl⟩⟩
              | true =>
                rw [if_pos rfl]
                k_steps
                rename Fr _ _ _ _ => F10
                rename News _ _ _ _ => N10
                refine Fr.abs [("self", .ref x), ("solutions", .ref AS), ("single", .bool single), ("variable", .str (nm q) vq)] F10 (by (intros; repeat (first | exact Locs.nil | refine Locs.cons rfl ?_))) (fun m10 H10 F11 => ?_)
                clear F10
                have F11 := H10.fr F11
                simp only [nest] at F11
                refine' compSt_dictA (knd := PySem.strKind PW w) (fun i ys nw => nw = ((L9 + 1 + 1 + 1, o1) :: (L9 + 1 + 1, o2) :: (L9 + 1, o3) :: (Lo ++ rbL AA AS oa1 S k dyn)) ∧ ys = (others i asg q).map (xr cs))
                  ?e1 ?e2 ?e3 ?eh ?eF ?eN ?e0 hod loD ?ez ?e4 ?e5 ?e6 ?hJd ?hJ ?turn ?fin
                case eh => exact hhd
                case eF => exact F11
                case eN => exact N10
                case e0 => k_mem
                case ez => rw [List.length_mapIdx, sizeLine_eq]; have := P.n6; omega
                case e1 => rfl
                case e2 => rfl
                case e3 => rfl
                case e4 => decide
                case e5 => rfl
                case e6 => rfl
                case hJd => rintro i ys nw ⟨rfl, _⟩; k_mem
                case hJ => exact ⟨rfl, rfl⟩
                case turn =>
                  rintro I i k u t oI C oC D2 m₂ h tk ys nw E' s₂ hki hkey ⟨rfl, rfl⟩ hC hxv F' N' off' ne'
                  rw [List.getElem?_mapIdx] at hki
                  obtain ⟨c₁, hc₁⟩ : ∃ c₁, cs[i]? = some c₁ := by cases e : cs[i]? with | none => rw [e] at hki; cases hki | some c₁ => exact ⟨_, rfl⟩
                  rw [hc₁] at hki
                  cases hki
                  obtain ⟨tt, rfl⟩ := Value.isStrOf_shape hkey
                  have hvd := P.dom _ _ hc₁
                  have hoa1 := R9.a
                  rw [others_succ]
                  refine wpAny_tests_one ?_
                  by_cases hiq : i = q
                  · subst hiq
                    have hv1 : valueAt (asgKv nm asg ++ [(nm i, .none)]) (nm i) = some .none := valueAt_last hva
                    k_steps
                    exact ⟨_, _, _, rfl, by k_asm, by k_asm, off', rfl, by simp⟩
                  · have hv0 := valueAt_asg P.inj i asg
                    have hv1 : valueAt (asgKv nm asg ++ [(nm q, .none)]) (nm i) = valueAt (asgKv nm asg) (nm i) := valueAt_other fun e => hiq (P.inj e).symm
                    rw [hv0] at hv1
                    cases hlk2 : lk asg i with
                    | some y =>
                      rw [hlk2] at hv1
                      dsimp only [Option.map] at hv1
                      k_steps
                      exact ⟨_, _, _, rfl, by k_asm, by k_asm, off', rfl, by simp [hlk2]⟩
                    | none =>
                      rw [hlk2] at hv1
                      dsimp only [Option.map] at hv1
                      k_steps
                      exact ⟨_, _, _, rfl, by k_asm, by k_asm, off', rfl, by simp [hlk2, hiq, xr_at hc₁]⟩
                case fin =>
                  rintro D4 h tk ys nw F12 N12 hD4 ⟨rfl, rfl⟩
                  rw [List.length_mapIdx] at N12
                  k_steps
                  refine Hold.mk ⟨rfl, _, _, _, .ref D4, [(D4, _)], rfl, by k_asm, N12, .cons (off_new R9 fun p hp => hD4 p (List.Mem.tail _ (List.Mem.tail _ (List.Mem.tail _ (List.mem_append_right _ hp))))) Off.nil, by (intros; repeat (first | exact Locs.nil | refine Locs.cons rfl ?_)), Or.inr ⟨D4, _, rfl, List.Mem.head _, ?_⟩⟩
                  rw [if_pos rfl]
                  have := others_len cs.length asg q; have := P.n6; omega
            case hk =>
              rintro s' ⟨h, tk, m', pv, extra, rfl, F10, N10, offE, H10, hpv⟩
              have F10 := H10.fr F10
              simp only [nest] at F10
              dsimp only
              obtain ⟨cq, hcq⟩ : ∃ cq, cs[q]? = some cq := ⟨cs[q]'hqn, List.getElem?_eq_getElem _⟩
              have hvq := P.dom q cq hcq
              obtain ⟨dq, hdq⟩ := get_same hl2.symm hcq
              obtain ⟨eq, hxq', _⟩ := R9.d.there hcq hdq
              have hxq : (cq.x, domO cq.dx (iv dq.vs).toArray eq) ∈ rbL AA AS oa1 S k dyn := List.Mem.tail _ (List.Mem.tail _ (List.mem_append_right _ hxq'))
              obtain ⟨va, hva2⟩ := get_same P.l1 hcq
              obtain ⟨vl, hvl2⟩ := get_same P.l2 hcq
              have hvv := P.vc _ _ hva2
              obtain ⟨kk, hmv⟩ := P.hvl _ _ _ hva2 hvl2
              have hvcg : vcs.getD q [] = vl := by rw [List.getD_eq_getElem?_getD, hvl2]; rfl
              rw [hvcg] at hm
              generalize hpush : (if fcOn then others cs.length asg q else []) = push at hpv hm
              have hfcb : (fcOn && !(others cs.length asg q).isEmpty) = !push.isEmpty := by rw [← hpush]; cases fcOn <;> simp
              rw [hfcb] at hm
              have hpl : ∀ v ∈ push, ∃ c, cs[v]? = some c := by
                intro v hv
                rw [← hpush] at hv
                have : v < cs.length := by
                  cases fcOn with
                  | false => simp at hv
                  | true => exact others_lt v (by simpa using hv)
                exact ⟨cs[v], List.getElem?_eq_getElem this⟩
              cases hloop : rbLoop (rbM cs.length vcs fcOn single f) single (!push.isEmpty) push vl q asg 60 0 sols ds with
              | none => rw [hloop] at hm; cases hm
              | some res =>
              obtain ⟨early, solsF, dsF⟩ := res
              rw [hloop] at hm
              simp only [Option.some.injEq, Prod.mk.injEq] at hm
              obtain ⟨rfl, rfl⟩ := hm
              have offX : Off AA AS cs (extra ++ ((L9 + 1 + 1 + 1, o1) :: (L9 + 1 + 1, o2) :: (L9 + 1, o3) :: Lo)) := offE.app offL
              generalize hLoX : extra ++ ((L9 + 1 + 1 + 1, o1) :: (L9 + 1 + 1, o2) :: (L9 + 1, o3) :: Lo) = LoX at offX
              have hLo : ∀ p ∈ Lo, p ∈ LoX := fun p hp => by rw [← hLoX]; exact List.mem_append_right _ (.tail _ (.tail _ (.tail _ hp)))
              have hEx : ∀ p ∈ extra, p ∈ LoX := fun p hp => by rw [← hLoX]; exact List.mem_append_left _ hp
              have PX := P.mono hLo fun p hp => (offX p hp).2.2
              have hc1 : (L9 + 1 + 1 + 1, o1) ∈ LoX := by rw [← hLoX]; exact List.mem_append_right _ (.head _)
              have hc2 : (L9 + 1 + 1, o2) ∈ LoX := by rw [← hLoX]; exact List.mem_append_right _ (.tail _ (.head _))
              have hc3 : (L9 + 1, o3) ∈ LoX := by rw [← hLoX]; exact List.mem_append_right _ (.tail _ (.tail _ (.head _)))
              have N10 : News g9 L9 h (LoX ++ rbL AA AS oa1 S k dyn) := by rw [← hLoX]; simpa only [List.cons_append, List.append_assoc] using N10
              have hADX := hLo _ hAD
              have hAVX := hLo _ hAV
              have hxX := hLo _ hx
              have hxdX := hLo _ hxd
              have hmvX := hLo _ hmv
              clear hLoX
              k_steps
              rename Fr _ _ _ _ => F11
              rename News _ _ _ _ => N11
              refine Fr.abs [("self", .ref x), ("solutions", .ref AS), ("single", .bool single), ("variable", .str (nm q) vq), ("pushdomains", pv)] F11 (by (intros; repeat (first | exact Locs.nil | refine Locs.cons rfl ?_))) (fun m11 H11 F12 => ?_)
              k_dflt (refine' iter_dom ?kX F12 N11 (N11 _ (List.mem_append_right _ hxq)).1 ?_; (case kX => k_in))
              intro I2 h' F13 N13 hI2 hk2
              have offI2 : I2 ≠ AA ∧ I2 ≠ AS ∧ I2 ∉ ads cs := off_new R9 fun p hp => hI2 p (List.mem_append_right _ hp)
              refine loop_list (I := I2) (l := cq.x) 60 (fun i m₁ news₁ => ∃ oa2 S2 k2 dyn2 sols2 ds2 u, news₁ = LoX ++ rbL AA AS oa2 S2 k2 dyn2 ∧ RbSt w nm AA AS cs (asgKv nm asg ++ [(nm q, u)]) sols2 ds2 oa2 S2 k2 dyn2 ∧
                rbLoop (rbM cs.length vcs fcOn single f) single (!push.isEmpty) push vl q asg (60 - i) i sols2 ds2 = some (early, solsF, dsF) ∧ Locs m₁ [("self", .ref x), ("solutions", .ref AS), ("single", .bool single), ("variable", .str (nm q) vq), ("pushdomains", pv)]) go_name ?hE hhd F13 N13 ?h0 ?h1 ?h2
              case hE => passes_own
              case h0 => exact ⟨_, _, _, _, _, _, _, rfl, R9, hloop, H11⟩
              case h1 =>
                rintro i m news h ⟨oa2, S2, k2, dyn2, sols2, ds2, u, rfl, R2, _⟩ Nn
                have hne := rb_ne_cls R2 (news_sub Nn fun p hp => List.mem_cons_of_mem _ (List.mem_append_right _ hp)) (Nn _ (.head _)).1 (.inr rfl)
                exact ne_app (fun p hp => hI2 p (List.mem_append_left _ hp)) hne
              case h2 =>
                rintro i m₁ news₁ h₁ tk₁ ⟨oa2, S2, k2, dyn2, sols2, ds2, u, rfl, R2, hlp, H₁⟩ F₁ N₁
                obtain ⟨d2, hd2⟩ := get_same R2.d.len.symm hcq
                obtain ⟨e2, hx2', _⟩ := R2.d.there hcq hd2
                refine ⟨iv d2.vs, ⟨_, _, (N₁ _ (.tail _ (List.mem_append_right _ (.tail _ (.tail _ (List.mem_append_right _ hx2')))))).1, rfl⟩, ?_⟩
                obtain ⟨t, ht⟩ : ∃ t, 60 - i = t + 1 := by
                  cases h60 : 60 - i with
                  | zero => rw [h60] at hlp; cases hlp
                  | succ t => exact ⟨t, rfl⟩
                rw [ht] at hlp
                unfold rbLoop at hlp
                rw [hd2] at hlp
                dsimp only at hlp
                rw [iv_get]
                cases hv : d2.vs[i]? with
                | none =>
                  rw [hv] at hlp
                  dsimp only at hlp
                  cases hlp
                  dsimp only [Option.map]
                  intro h₂ F₂ N₂
                  have F₂ := H₁.fr F₂
                  simp only [nest] at F₂
                  k_steps
                  rename Fr _ _ _ _ => F14
                  rename News _ _ _ _ => N14
                  refine' rb_del F14 N14 (.base _) R2 offX ?_ ?_ ?_
                  · simp; omega
                  · rw [valueAt_last hva]; rfl
                  intro h9 oaC tk9' F15 N15 R15
                  rw [without_last hva] at R15
                  k_steps
                  rename News _ _ _ _ => N16
                  refine' ret _ _ _ _ _ _ _ ?_ (news_sub N16 ?_) R15 (.inl rfl)
                  · k_asm
                  · intro p hp
                    rcases List.mem_append.mp hp with hp | hp
                    · exact List.mem_append_left _ (hLo p hp)
                    · exact List.mem_append_right _ hp
                | some xv =>
                  rw [hv] at hlp
                  dsimp only at hlp
                  dsimp only [Option.map]
                  refine ⟨by omega, fun h₂ F₂ N₂ => ?_⟩
                  have F₂ := H₁.fr F₂
                  simp only [nest] at F₂
                  cases hpa : pushAll push ds2 with
                  | none => rw [hpa] at hlp; cases hlp
                  | some ds3 =>
                  rw [hpa] at hlp
                  dsimp only at hlp
                  k_steps
                  rename Fr _ _ _ _ => F14
                  rename News _ _ _ _ => N14
                  refine' rb_set (Lo := (I2, itO cq.x (i + 1)) :: LoX) F14 N14 (.cons _ (.base _)) R2 (.cons offI2 offX) ?_ ?_
                  · simp; omega
                  intro h9 oaC tk9' F15 N15 R15
                  rw [stored_last hva, show asgKv nm asg ++ [(nm q, .int xv.1 xv.2)] = asgKv nm (asg ++ [(q, xv)]) by simp [asgKv]] at R15
                  simp only [List.cons_append] at N15
                  generalize havC : asgKv nm (asg ++ [(q, xv)]) = avC at R15
                  obtain ⟨SC, hSC⟩ : ∃ SC, SC = S2 := ⟨_, rfl⟩
                  obtain ⟨kC, hkC⟩ : ∃ kC, kC = k2 := ⟨_, rfl⟩
                  obtain ⟨solsC, hsolsC⟩ : ∃ solsC, solsC = sols2 := ⟨_, rfl⟩
                  rw [← hSC, ← hkC] at N15
                  rw [← hSC, ← hkC, ← hsolsC] at R15
                  k_steps
                  refine pv_truthy (by k_asm) hpv (fun p hp => List.mem_cons_of_mem _ (List.mem_append_left _ (hEx p hp))) (fun tk' => ?_)
                  refine IfThen.join (fun s' => ∃ h tk m' dyn3, s' = { s with heap := h, toks := tk } ∧ Fr g9 L9 h m' ∧ News g9 L9 h ((I2, itO cq.x (i + 1)) :: (LoX ++ rbL AA AS oaC SC kC dyn3)) ∧ RbSt w nm AA AS cs avC solsC ds3 oaC SC kC dyn3 ∧ Locs m' [("self", .ref x), ("solutions", .ref AS), ("single", .bool single), ("variable", .str (nm q) vq), ("pushdomains", pv)]) ?hb ?hk
                  case hb =>
                    cases hpe : push.isEmpty with
                    | true =>
                      have hpn : push = [] := by simpa using hpe
                      rw [hpn] at hpa
                      simp only [pushAll, Option.some.injEq] at hpa
                      rw [if_neg (by simp)]
                      k_steps
                      exact Hold.mk ⟨rfl, _, _, _, _, rfl, by k_asm, by k_asm, hpa ▸ R15, by (intros; repeat (first | exact Locs.nil | refine Locs.cons rfl ?_))⟩
                    | false =>
                      obtain ⟨PL, kPL, hpvr, hPL⟩ := hpv.list hpe
                      have hPLX := hEx _ hPL
                      rw [if_pos (by simp)]
                      k_steps
                      rename Fr _ _ _ _ => F20
                      rename News _ _ _ _ => N20
                      refine Fr.abs [("self", .ref x), ("solutions", .ref AS), ("single", .bool single), ("variable", .str (nm q) vq), ("pushdomains", pv)] F20 (by (intros; repeat (first | exact Locs.nil | refine Locs.cons rfl ?_))) (fun m20 H20 F21 => ?_)
                      rw [hpvr]
                      refine iter_list (o := default) F21 N20 (N20 _ (List.Mem.tail _ (List.mem_append_left _ hPLX))).1 (fun I4 h' F22 N22 hI4 hk4 => ?_)
                      refine loop_list (I := I4) (l := PL) push.length (fun j m₂ news₂ => ∃ dyn4 ds4, news₂ = (I2, itO cq.x (i + 1)) :: (LoX ++ rbL AA AS oaC SC kC dyn4) ∧ RbSt w nm AA AS cs avC solsC ds4 oaC SC kC dyn4 ∧ pushAll (push.drop j) ds4 = some ds3 ∧
                        Locs m₂ [("self", .ref x), ("solutions", .ref AS), ("single", .bool single), ("variable", .str (nm q) vq), ("pushdomains", pv)]) go_name ?hE hhd F22 N22 ?h0 ?h1 ?h2
                      case hE => passes_own
                      case h0 => exact ⟨_, _, rfl, R15, hpa, H20⟩
                      case h1 =>
                        rintro j m₂ news₂ h ⟨dyn4, ds4, rfl, R4, _⟩ N4
                        have hne := rb_ne_cls R4 (news_sub N4 fun p hp => List.mem_cons_of_mem _ (List.mem_cons_of_mem _ (List.mem_append_right _ hp))) (N4 _ (.head _)).1 (.inr rfl)
                        refine List.forall_mem_cons.mpr ⟨hI4 _ (.head _), ne_app (fun p hp => hI4 p (.tail _ (List.mem_append_left _ hp))) hne⟩
                      case h2 =>
                        rintro j m₂ news₂ h₂ tk₂ ⟨dyn4, ds4, rfl, R4, hS4, H4⟩ F4 N4
                        refine ⟨push.map (xr cs), ⟨_, _, (N4 _ (.tail _ (.tail _ (List.mem_append_left _ hPLX)))).1, rfl⟩, ?_⟩
                        rw [List.getElem?_map]
                        cases hj : push[j]? with
                        | none =>
                          dsimp only [Option.map]
                          intro h₃ F5 N5
                          have F5 := H4.fr F5
                          simp only [nest] at F5
                          rw [drop_none hj] at hS4
                          simp only [pushAll, Option.some.injEq] at hS4
                          k_steps
                          exact Hold.mk ⟨rfl, _, _, _, _, rfl, by k_asm, by k_asm, hS4 ▸ R4, by ((try rw [← hpvr]); (intros; repeat (first | exact Locs.nil | refine Locs.cons rfl ?_)))⟩
                        | some v =>
                          dsimp only [Option.map]
                          obtain ⟨hltj, hdrj⟩ := drop_some hj
                          refine ⟨hltj, fun h₃ F5 N5 => ?_⟩
                          have F5 := H4.fr F5
                          simp only [nest] at F5
                          rw [hdrj] at hS4
                          simp only [pushAll] at hS4
                          obtain ⟨c5, hc5⟩ := hpl v (List.mem_of_getElem? hj)
                          obtain ⟨d5, hd5⟩ := get_same R4.d.len.symm hc5
                          rw [hd5] at hS4
                          dsimp only at hS4
                          cases hpu : d5.push with
                          | none => rw [hpu] at hS4; cases hS4
                          | some d6 =>
                          rw [hpu] at hS4
                          dsimp only at hS4
                          rw [xr_at hc5]
                          obtain ⟨e5, hx5', hdx5'⟩ := R4.d.there hc5 hd5
                          have hx5 : (c5.x, domO c5.dx (iv d5.vs).toArray e5) ∈ rbL AA AS oaC SC kC dyn4 := List.Mem.tail _ (List.Mem.tail _ (List.mem_append_right _ hx5'))
                          have hdx5 : (c5.dx, domD w.params c5.t1 c5.t2 c5.hd c5.st c5.e2) ∈ rbL AA AS oaC SC kC dyn4 := List.Mem.tail _ (List.Mem.tail _ (List.mem_append_right _ hdx5'))
                          have offI4 : I4 ≠ AA ∧ I4 ≠ AS ∧ I4 ∉ ads cs := rb_off_cls R4 (news_sub N5 fun p hp => List.mem_cons_of_mem _ (List.mem_cons_of_mem _ (List.mem_append_right _ hp))) (N5 _ (.head _)).1 (.inr rfl)
                          k_steps
                          rename Fr _ _ _ _ => F6
                          rename News _ _ _ _ => N6
                          refine rb_push (Lo := (I4, itO PL (j + 1)) :: (I2, itO cq.x (i + 1)) :: LoX) (by (refine' Cx.mk ?cxB ?cxX ?cxT ?cxk ?cxf ?cxd ?cxu ?cxfr ?cxhh; (case cxfr => exact fr_in (by assumption)); (case cxhh => assumption); (case cxB => assumption); (case cxX => assumption); (case cxT => assumption); (case cxk => exact rfl); (case cxf => exact rfl); (case cxd => (simp only [depth_in1, depth_deeper] at *; omega)); (case cxu => (simp only [units_in1, units_deeper] at *; omega)))) F6 N6 (.cons _ (.cons _ (.base _))) R4 (.cons offI4 (.cons offI2 offX)) P.nd hc5 hd5 hpu ?_
                          intro h' tk' dyn7 F7 N7 R7
                          simp only [List.cons_append] at N7
                          k_steps
                          exact ⟨_, _, _, _, rfl, by k_asm, by k_asm, _, _, rfl, R7, hS4, by (intros; repeat (first | exact Locs.nil | refine Locs.cons rfl ?_))⟩

                  case hk =>
                    rintro s' ⟨h, tk, m', dyn3, rfl, F16, N16, R16, H16⟩
                    have F16 := H16.fr F16
                    simp only [nest] at F16
                    dsimp only
                    k_steps
                    rename Fr _ _ _ _ => F17
                    rename News _ _ _ _ => N17
                    refine Fr.abs [("self", .ref x), ("solutions", .ref AS), ("single", .bool single), ("variable", .str (nm q) vq), ("pushdomains", pv)] F17 (by (intros; repeat (first | exact Locs.nil | refine Locs.cons rfl ?_))) (fun m17 H17 F18 => ?_)
                    cases hcm : conM (asg ++ [(q, xv)]) (!push.isEmpty) vl ds3 with
                    | none => rw [hcm] at hlp; cases hlp
                    | some cres =>
                    obtain ⟨cok, ds4⟩ := cres
                    rw [hcm] at hlp
                    -- behind the for: either all is restored up to the pop, or the search is over
                    refine ForThen.mono (Q' := fun fl s' => Hold (match fl with
                      | .next => ∃ h tk m' oa5 S5 k5 dyn5 sols5 ds5 ds6, s' = { s with heap := h, toks := tk } ∧ Fr g9 L9 h m' ∧ News g9 L9 h ((I2, itO cq.x (i + 1)) :: (LoX ++ rbL AA AS oa5 S5 k5 dyn5)) ∧ RbSt w nm AA AS cs avC sols5 ds5 oa5 S5 k5 dyn5 ∧ popAll push ds5 = some ds6 ∧
                          rbLoop (rbM cs.length vcs fcOn single f) single (!push.isEmpty) push vl q asg t (i + 1) sols5 ds6 = some (early, solsF, dsF) ∧ Locs m' [("self", .ref x), ("solutions", .ref AS), ("single", .bool single), ("variable", .str (nm q) vq), ("pushdomains", pv)]
                      | .ret v => v = .ref AS ∧ ∃ h tk m' oa5 S5 k5 dyn5 av5, s' = { s with heap := h, toks := tk } ∧ Fr g9 L9 h m' ∧ News g9 L9 h (LoX ++ rbL AA AS oa5 S5 k5 dyn5) ∧ RbSt w nm AA AS cs av5 solsF dsF oa5 S5 k5 dyn5 ∧ single = true ∧ solsF ≠ []
                      | _ => False)) ?hfor ?hend
                    case hend =>
                      intro fl s' hq
                      cases fl with
                      | brk => exact hq.elim
                      | cont => exact hq.elim
                      | next =>
                        obtain ⟨h, tk, m', oaC, SC, kC, dyn5, solsC, ds5, ds6, rfl, F19, N19, R19, hpo, hlp5, H19⟩ := hq
                        have F19 := H19.fr F19
                        simp only [nest] at F19
                        dsimp only
                        k_steps
                        refine pv_truthy (by k_asm) hpv (fun p hp => List.mem_cons_of_mem _ (List.mem_append_left _ (hEx p hp))) (fun tk' => ?_)
                        refine IfThen.join (fun s' => ∃ h tk m' dyn3, s' = { s with heap := h, toks := tk } ∧ Fr g9 L9 h m' ∧ News g9 L9 h ((I2, itO cq.x (i + 1)) :: (LoX ++ rbL AA AS oaC SC kC dyn3)) ∧ RbSt w nm AA AS cs avC solsC ds6 oaC SC kC dyn3 ∧ Locs m' [("self", .ref x), ("solutions", .ref AS), ("single", .bool single), ("variable", .str (nm q) vq), ("pushdomains", pv)]) ?hb ?hk
                        case hb =>
                          cases hpe : push.isEmpty with
                          | true =>
                            have hpn : push = [] := by simpa using hpe
                            rw [hpn] at hpo
                            simp only [popAll, Option.some.injEq] at hpo
                            rw [if_neg (by simp)]
                            k_steps
                            exact Hold.mk ⟨rfl, _, _, _, _, rfl, by k_asm, by k_asm, hpo ▸ R19, by (intros; repeat (first | exact Locs.nil | refine Locs.cons rfl ?_))⟩
                          | false =>
                            obtain ⟨PL, kPL, hpvr, hPL⟩ := hpv.list hpe
                            have hPLX := hEx _ hPL
                            rw [if_pos (by simp)]
                            k_steps
                            rename Fr _ _ _ _ => F20
                            rename News _ _ _ _ => N20
                            refine Fr.abs [("self", .ref x), ("solutions", .ref AS), ("single", .bool single), ("variable", .str (nm q) vq), ("pushdomains", pv)] F20 (by (intros; repeat (first | exact Locs.nil | refine Locs.cons rfl ?_))) (fun m20 H20 F21 => ?_)
                            rw [hpvr]
                            refine iter_list (o := default) F21 N20 (N20 _ (List.Mem.tail _ (List.mem_append_left _ hPLX))).1 (fun I4 h' F22 N22 hI4 hk4 => ?_)
                            refine loop_list (I := I4) (l := PL) push.length (fun j m₂ news₂ => ∃ dyn4 ds4, news₂ = (I2, itO cq.x (i + 1)) :: (LoX ++ rbL AA AS oaC SC kC dyn4) ∧ RbSt w nm AA AS cs avC solsC ds4 oaC SC kC dyn4 ∧ popAll (push.drop j) ds4 = some ds6 ∧
                              Locs m₂ [("self", .ref x), ("solutions", .ref AS), ("single", .bool single), ("variable", .str (nm q) vq), ("pushdomains", pv)]) go_name ?hE hhd F22 N22 ?h0 ?h1 ?h2
                            case hE => passes_own
                            case h0 => exact ⟨_, _, rfl, R19, hpo, H20⟩
                            case h1 =>
                              rintro j m₂ news₂ h ⟨dyn4, ds4, rfl, R4, _⟩ N4
                              have hne := rb_ne_cls R4 (news_sub N4 fun p hp => List.mem_cons_of_mem _ (List.mem_cons_of_mem _ (List.mem_append_right _ hp))) (N4 _ (.head _)).1 (.inr rfl)
                              refine List.forall_mem_cons.mpr ⟨hI4 _ (.head _), ne_app (fun p hp => hI4 p (.tail _ (List.mem_append_left _ hp))) hne⟩
                            case h2 =>
                              rintro j m₂ news₂ h₂ tk₂ ⟨dyn4, ds4, rfl, R4, hS4, H4⟩ F4 N4
                              refine ⟨push.map (xr cs), ⟨_, _, (N4 _ (.tail _ (.tail _ (List.mem_append_left _ hPLX)))).1, rfl⟩, ?_⟩
                              rw [List.getElem?_map]
                              cases hj : push[j]? with
                              | none =>
                                dsimp only [Option.map]
                                intro h₃ F5 N5
                                have F5 := H4.fr F5
                                simp only [nest] at F5
                                rw [drop_none hj] at hS4
                                simp only [popAll, Option.some.injEq] at hS4
                                k_steps
                                exact Hold.mk ⟨rfl, _, _, _, _, rfl, by k_asm, by k_asm, hS4 ▸ R4, by ((try rw [← hpvr]); (intros; repeat (first | exact Locs.nil | refine Locs.cons rfl ?_)))⟩
                              | some v =>
                                dsimp only [Option.map]
                                obtain ⟨hltj, hdrj⟩ := drop_some hj
                                refine ⟨hltj, fun h₃ F5 N5 => ?_⟩
                                have F5 := H4.fr F5
                                simp only [nest] at F5
                                rw [hdrj] at hS4
                                simp only [popAll] at hS4
                                obtain ⟨c5, hc5⟩ := hpl v (List.mem_of_getElem? hj)
                                obtain ⟨d5, hd5⟩ := get_same R4.d.len.symm hc5
                                rw [hd5] at hS4
                                dsimp only at hS4
                                cases hpu : d5.pop with
                                | none => rw [hpu] at hS4; cases hS4
                                | some d6 =>
                                rw [hpu] at hS4
                                dsimp only at hS4
                                rw [xr_at hc5]
                                obtain ⟨e5, hx5', hdx5'⟩ := R4.d.there hc5 hd5
                                have hx5 : (c5.x, domO c5.dx (iv d5.vs).toArray e5) ∈ rbL AA AS oaC SC kC dyn4 := List.Mem.tail _ (List.Mem.tail _ (List.mem_append_right _ hx5'))
                                have hdx5 : (c5.dx, domD w.params c5.t1 c5.t2 c5.hd c5.st c5.e2) ∈ rbL AA AS oaC SC kC dyn4 := List.Mem.tail _ (List.Mem.tail _ (List.mem_append_right _ hdx5'))
                                have offI4 : I4 ≠ AA ∧ I4 ≠ AS ∧ I4 ∉ ads cs := rb_off_cls R4 (news_sub N5 fun p hp => List.mem_cons_of_mem _ (List.mem_cons_of_mem _ (List.mem_append_right _ hp))) (N5 _ (.head _)).1 (.inr rfl)
                                k_steps
                                rename Fr _ _ _ _ => F6
                                rename News _ _ _ _ => N6
                                refine rb_pop (Lo := (I4, itO PL (j + 1)) :: (I2, itO cq.x (i + 1)) :: LoX) (by (refine' Cx.mk ?cxB ?cxX ?cxT ?cxk ?cxf ?cxd ?cxu ?cxfr ?cxhh; (case cxfr => exact fr_in (by assumption)); (case cxhh => assumption); (case cxB => assumption); (case cxX => assumption); (case cxT => assumption); (case cxk => exact rfl); (case cxf => exact rfl); (case cxd => (simp only [depth_in1, depth_deeper] at *; omega)); (case cxu => (simp only [units_in1, units_deeper] at *; omega)))) F6 N6 (.cons _ (.cons _ (.base _))) R4 (.cons offI4 (.cons offI2 offX)) P.nd hc5 hd5 hpu ?_
                                intro h' tk' dyn7 F7 N7 R7
                                simp only [List.cons_append] at N7
                                k_steps
                                exact ⟨_, _, _, _, rfl, by k_asm, by k_asm, _, _, rfl, R7, hS4, by (intros; repeat (first | exact Locs.nil | refine Locs.cons rfl ?_))⟩
                        case hk =>
                          rintro s' ⟨h, tk, m', dyn3, rfl, F26, N26, R26, H26⟩
                          have F26 := H26.fr F26
                          simp only [nest] at F26
                          dsimp only
                          k_steps
                          rw [← havC, show asgKv nm (asg ++ [(q, xv)]) = asgKv nm asg ++ [(nm q, .int xv.1 xv.2)] by simp [asgKv]] at R26
                          have ht' : 60 - (i + 1) = t := by omega
                          exact ⟨_, _, _, _, rfl, by k_asm, by k_asm, _, _, _, _, _, _, _, rfl, R26, ht'.symm ▸ hlp5, by (intros; repeat (first | exact Locs.nil | refine Locs.cons rfl ?_))⟩
                      | ret v =>
                        obtain ⟨rfl, h, tk, m', oa5, S5, k5, dyn5, av5, rfl, F19, N19, R19, hsg, hne⟩ := hq
                        dsimp only
                        k_steps
                        dsimp only [Out]
                        k_steps
                        rename News _ _ _ _ => N20
                        refine' ret _ _ _ _ _ _ _ ?_ (news_sub N20 ?_) R19 (.inr ⟨hsg, hne⟩)
                        · k_asm
                        · intro p hp
                          rcases List.mem_append.mp hp with hp | hp
                          · exact List.mem_append_left _ (hLo p hp)
                          · exact List.mem_append_right _ hp
                    case hfor =>
                      have F18 := H17.fr F18
                      simp only [nest] at F18
                      refine iter_list (o := default) F18 N17 (N17 _ (List.Mem.tail _ (List.mem_append_left _ hmvX))).1 (fun I6 h' F22 N22 hI6 hk6 => ?_)
                      refine loop_list (I := I6) (l := va) vl.length (fun j m₂ news₂ => ∃ dyn5 ds5, news₂ = (I2, itO cq.x (i + 1)) :: (LoX ++ rbL AA AS oaC SC kC dyn5) ∧ RbSt w nm AA AS cs avC solsC ds5 oaC SC kC dyn5 ∧ conM (asg ++ [(q, xv)]) (!push.isEmpty) (vl.drop j) ds5 = some (cok, ds4) ∧
                        Locs m₂ [("self", .ref x), ("solutions", .ref AS), ("single", .bool single), ("variable", .str (nm q) vq), ("pushdomains", pv)]) go_tuple ?hE hhd F22 N22 ?h0 ?h1 ?h2
                      case hE => passes_own
                      case h0 => exact ⟨_, _, rfl, R16, hcm, by (intros; repeat (first | exact Locs.nil | refine Locs.cons rfl ?_))⟩
                      case h1 =>
                        rintro j m₂ news₂ h ⟨dyn5, ds5, rfl, R5, _⟩ N5
                        have hne := rb_ne_cls R5 (news_sub N5 fun p hp => List.mem_cons_of_mem _ (List.mem_cons_of_mem _ (List.mem_append_right _ hp))) (N5 _ (.head _)).1 (.inr rfl)
                        refine List.forall_mem_cons.mpr ⟨hI6 _ (.head _), ne_app (fun p hp => hI6 p (.tail _ (List.mem_append_left _ hp))) hne⟩
                      case h2 =>
                        rintro j m₂ news₂ h₂ tk₂ ⟨dyn5, ds5, rfl, R5, hS5, H5⟩ F5 N5
                        refine ⟨vl.map (fun cn => Value.ref cn.tp), ⟨_, _, (N5 _ (.tail _ (.tail _ (List.mem_append_left _ hmvX)))).1, rfl⟩, ?_⟩
                        rw [List.getElem?_map]
                        cases hj : vl[j]? with
                        | none =>
                          dsimp only [Option.map]
                          intro h₃ F6 N6
                          have F6 := H5.fr F6
                          simp only [nest] at F6
                          rw [drop_none hj] at hS5
                          simp only [conM, Option.some.injEq, Prod.mk.injEq] at hS5
                          obtain ⟨rfl, rfl⟩ := hS5
                          rw [← hsolsC] at hlp
                          dsimp only at hlp
                          cases hrec : rbM cs.length vcs fcOn single f solsC (asg ++ [(q, xv)]) ds5 with
                          | none => rw [hrec] at hlp; cases hlp
                          | some rr =>
                          obtain ⟨solsR, dsR⟩ := rr
                          rw [hrec] at hlp
                          dsimp only at hlp
                          split at hlp
                          case isFalse => cases hlp
                          rename_i hl1000
                          k_steps
                          rename Fr _ _ _ _ => F7
                          rename News _ _ _ _ => N7
                          have offI2x : Off AA AS cs ((I2, itO cq.x (i + 1)) :: LoX) := .cons offI2 offX
                          refine IH _ _ _ _ _ _ _ _ _ _ _ ((I2, itO cq.x (i + 1)) :: LoX) _ dyn5 SC oaC kC ds5 dsR (asg ++ [(q, xv)]) solsC solsR (by (refine' Cx.mk ?cxB ?cxX ?cxT ?cxk ?cxf ?cxd ?cxu ?cxfr ?cxhh; (case cxfr => exact fr_in (by assumption)); (case cxhh => assumption); (case cxB => assumption); (case cxX => assumption); (case cxT => assumption); (case cxk => exact rfl); (case cxf => exact rfl); (case cxd => (simp only [depth_in1, depth_deeper] at *; omega)); (case cxu => (simp only [units_in1, units_deeper] at *; omega)))) F7 N7 (.cons _ (.base _)) (by rw [havC]; exact R5) offI2x
                            (PX.mono (fun p hp => .tail _ hp) fun p hp => (offI2x p hp).2.2) (.tail _ hxX) (.tail _ hxdX) loA hrec ?_
                          intro h' tk' oa6 S6 k6 dyn6 av6 F8 N8 R8 hav
                          simp only [List.cons_append] at N8
                          have hlenS := Paired.length R8.s
                          have hemp : (!(refs S6).toArray.isEmpty) = !solsR.isEmpty := by
                            cases S6 with
                            | nil => cases solsR with | nil => rfl | cons _ _ => simp at hlenS
                            | cons _ _ => cases solsR with | nil => simp at hlenS | cons _ _ => rfl
                          k_steps
                          rename News _ _ _ _ => N9
                          refine wpAny_truthy_list (items := (refs S6).toArray) ⟨_, (N9 _ (List.Mem.tail _ (List.mem_append_right _ (List.Mem.tail _ (List.Mem.head _))))).1, rfl, _, rfl⟩ ?hz ?_
                          case hz => simp only [List.size_toArray, List.length_map]; omega
                          rw [hemp]
                          have done : ∀ (hcond : (single && !solsR.isEmpty) = false), ∃ ds7, popAll push dsR = some ds7 ∧ rbLoop (rbM cs.length vcs fcOn single f) single (!push.isEmpty) push vl q asg t (i + 1) solsR ds7 = some (early, solsF, dsF) ∧ av6 = avC := by
                            intro hcond
                            rw [hcond] at hlp
                            simp only [Bool.false_eq_true, if_false] at hlp
                            cases hpo : popAll push dsR with
                            | none => rw [hpo] at hlp; cases hlp
                            | some ds7 =>
                              rw [hpo] at hlp
                              refine ⟨ds7, rfl, hlp, ?_⟩
                              rcases hav with h | ⟨h1, h2⟩
                              · rw [h, havC]
                              · exfalso; cases solsR with
                                | nil => exact h2 rfl
                                | cons _ _ => rw [h1] at hcond; cases hcond
                          cases hse : solsR.isEmpty with
                          | true =>
                            obtain ⟨ds7, hpo, hlp5, rfl⟩ := done (by rw [hse]; simp)
                            k_steps
                            exact Hold.mk ⟨_, _, _, _, _, _, _, _, _, _, rfl, by k_asm, by k_asm, R8, hpo, hlp5, by (intros; repeat (first | exact Locs.nil | refine Locs.cons rfl ?_))⟩
                          | false =>
                            cases single with
                            | false =>
                              obtain ⟨ds7, hpo, hlp5, rfl⟩ := done (by simp)
                              k_steps
                              exact Hold.mk ⟨_, _, _, _, _, _, _, _, _, _, rfl, by k_asm, by k_asm, R8, hpo, hlp5, by (intros; repeat (first | exact Locs.nil | refine Locs.cons rfl ?_))⟩
                            | true =>
                              rw [hse] at hlp
                              simp only [Bool.not_false, Bool.and_true, Bool.true_and, if_true, Option.some.injEq, Prod.mk.injEq] at hlp
                              obtain ⟨rfl, rfl, rfl⟩ := hlp
                              k_steps
                              dsimp only
                              k_steps
                              rename News _ _ _ _ => N10
                              exact Hold.mk ⟨rfl, _, _, _, _, _, _, _, _, rfl, by k_asm, news_tl N10, R8, rfl, by rintro rfl; cases hse⟩
                        | some cn =>
                          dsimp only [Option.map]
                          obtain ⟨hltj, hdrj⟩ := drop_some hj
                          refine ⟨hltj, fun h₃ F6 N6 => ?_⟩
                          have F6 := H5.fr F6
                          simp only [nest] at F6
                          rw [hdrj] at hS5
                          simp only [conM] at hS5
                          have hcn := PX.hcn vl (List.mem_of_getElem? hvl2) cn (List.mem_of_getElem? hj)
                          have hcn1 := hcn.tp
                          have hcn2 := hcn.c
                          have hcn3 := hcn.cd
                          cases hes : escM cn.es cn.ff (asg ++ [(q, xv)]) (!push.isEmpty) ds5 with
                          | none => rw [hes] at hS5; cases hS5
                          | some er =>
                          obtain ⟨eb, ds6⟩ := er
                          rw [hes] at hS5
                          k_steps
                          rename Fr _ _ _ _ => F7
                          rename News _ _ _ _ => N7
                          have offI6 : I6 ≠ AA ∧ I6 ≠ AS ∧ I6 ∉ ads cs := rb_off_cls R5 (news_sub N7 fun p hp => List.mem_cons_of_mem _ (List.mem_cons_of_mem _ (List.mem_append_right _ hp))) (N7 _ (.head _)).1 (.inr rfl)
                          have offI62 : Off AA AS cs ((I6, itO va (j + 1)) :: (I2, itO cq.x (i + 1)) :: LoX) := .cons offI6 (.cons offI2 offX)
                          refine rb_esc (Lo := (I6, itO va (j + 1)) :: (I2, itO cq.x (i + 1)) :: LoX) (by (refine' Cx.mk ?cxB ?cxX ?cxT ?cxk ?cxf ?cxd ?cxu ?cxfr ?cxhh; (case cxfr => exact fr_in (by assumption)); (case cxhh => assumption); (case cxB => assumption); (case cxX => assumption); (case cxT => assumption); (case cxk => exact rfl); (case cxf => exact rfl); (case cxd => (simp only [depth_in1, depth_deeper] at *; omega)); (case cxu => (simp only [units_in1, units_deeper] at *; omega)))) F7 N7 (.cons _ (.cons _ (.base _))) (by rw [havC]; exact R5) offI62
                            (PX.mono (fun p hp => .tail _ (.tail _ hp)) fun p hp => (offI62 p hp).2.2) (hcn.mono fun p hp => .tail _ (.tail _ hp)) loA (hpv.fc.mono fun p hp => .tail _ (.tail _ (hEx p hp))) hes ?_
                          intro h' tk' dyn6 F8 N8 R8
                          rw [havC] at R8
                          simp only [List.cons_append] at N8
                          cases eb with
                          | true =>
                            dsimp only at hS5
                            k_steps
                            exact ⟨_, _, _, _, rfl, by k_asm, by k_asm, _, _, rfl, R8, hS5, by (intros; repeat (first | exact Locs.nil | refine Locs.cons rfl ?_))⟩
                          | false =>
                            dsimp only at hS5
                            simp only [Option.some.injEq, Prod.mk.injEq] at hS5
                            obtain ⟨rfl, rfl⟩ := hS5
                            dsimp only at hlp
                            cases hpo : popAll push ds6 with
                            | none => rw [hpo] at hlp; cases hlp
                            | some ds7 =>
                            rw [hpo] at hlp
                            dsimp only at hlp
                            rw [← hsolsC] at hlp
                            k_steps
                            dsimp only [Out]
                            k_steps
                            rename News _ _ _ _ => N9
                            exact Hold.mk ⟨_, _, _, _, _, _, _, _, _, _, rfl, by k_asm, news_tl N9, R8, hpo, hlp, by (intros; repeat (first | exact Locs.nil | refine Locs.cons rfl ?_))⟩
end Mine
end
section
open PySem PySem.W PySem.W.X PyProof.Rows PySem.Calls PySem.Spec
set_option Elab.async false
set_option maxRecDepth 100000
set_option maxHeartbeats 8000000
namespace Mine
theorem filled24 : PySem.Challenge.rw_aw5017_04 = PySem.Challenge.rw_aw5017_04 ∧ hd.heap_39 = hd.heap_39 := by k_fill; exact ⟨rfl, rfl⟩
local macro_rules | `(tactic| k_all) => `(tactic| assumption)
local macro_rules | `(tactic| ktr_room) => `(tactic| (simp only [depth_under_make, depth_under_kw, depth_in1, depth_deeper, depth_caller, recursionLimit] at *; omega))
local macro_rules | `(tactic| walk_at "getAttr ref") => `(tactic| (k_here; (with_reducible show wpAny _ _ (getAttr (Value.ref _) (PySem.Str.ofString "_hidden") _) _ _ _); k_dflt (refine' hidden_K ?k1 ?k2 ?k3 ?k4 ?_; (case k1 => k_in); (case k2 => k_asm); (case k3 => k_mem); (case k4 => k_mem); k_whole)))
local macro_rules | `(tactic| walk_at "getAttr ref") => `(tactic| (k_here; (with_reducible show wpAny _ _ (getAttr (Value.ref _) (PySem.Str.ofString "_states") _) _ _ _); k_dflt (refine' states_K ?k1 ?k2 ?k3 ?k4 ?_; (case k1 => k_in); (case k2 => k_asm); (case k3 => k_mem); (case k4 => k_mem); k_whole)))
local macro_rules | `(tactic| walk_at "getMethod ref") => `(tactic| (k_here; k_dflt (refine' meth_K ?k1 ?k2 ?k3 ?k4 ?k5 ?k6 ?k7 ?k8 ?_; (case k1 => k_in); (case k2 => k_asm); (case k3 => k_mem); (case k4 => k_mem); (case k5 => k_is); (case k6 => first | (intro M h X; exact looks_typeIn X (by k_is)) | (intro M h X; exact Looks.of_pure (by first | exact PySem.F.type_list_remove | exact PySem.F.type_list_extend))); (case k7 => decide); (case k8 => first | rfl | decide +kernel); k_whole)))
local macro_rules | `(tactic| walk_at "call builtin:list.remove") => `(tactic| (k_here; k_dflt (refine' remove_K ?k1 ?k2 ?k3 ?k4 ?k5 ?k6 ?_; (case k1 => k_in); (case k2 => k_asm); (case k3 => k_asm); (case k4 => k_upd); (case k5 => assumption); (case k6 => assumption); k_whole; intro h' F' N'; (try k_sweep))))
local macro_rules | `(tactic| walk_at "call builtin:list.append") => `(tactic| (k_here; k_dflt (refine' append_iv ?k1 ?k2 ?k3 ?k4 ?_; (case k1 => k_asm); (case k2 => k_asm); (case k3 => k_upd); (case k4 => assumption); k_whole; intro h' F' N'; (try k_sweep))))
local macro_rules | `(tactic| walk_at "call builtin:list.pop") => `(tactic| (k_here; (with_reducible show wpAny _ _ (call (Value.builtin _) [Value.ref _]) _ _ _); k_dflt (refine' pop_iv ?k1 ?k2 ?k3 ?k4 ?_; (case k1 => k_asm); (case k2 => k_asm); (case k3 => k_upd); (case k4 => assumption); k_whole; intro h' F' N'; (try k_sweep))))
local macro_rules | `(tactic| walk_at "call builtin:list.pop") => `(tactic| (dsimp only; fail_if_success (with_reducible show wpAny _ _ (call (Value.builtin _) (Prod.snd _)) _ _ _)))
local macro_rules | `(tactic| walk_at "call builtin:len") => `(tactic| (k_here; (with_reducible show wpAny _ _ (call (Value.builtin "len") [Value.ref _]) _ _ _); k_dflt (refine' len_iv ?k1 ?k2 ?k3 ?k4 ?_; (case k1 => k_in); (case k2 => k_asm); (case k3 => k_mem); (case k4 => assumption); k_whole); intro u' tk'))
local macro_rules | `(tactic| walk_at "truthy ref") => `(tactic| (k_here; k_dflt (refine' truthy_iv ?k1 ?k2 ?k3 ?k4 ?_; (case k1 => k_in); (case k2 => k_asm); (case k3 => k_mem); (case k4 => assumption); k_whole); intro tk'))
local macro_rules | `(tactic| walk_at "eval Subscript") => `(tactic| (k_here; (with_reducible show wpAny _ _ (eval (PySem.Expr.Subscript _ (PySem.Expr.Slice _ _ none _) _) _) _ _ _); refine SubSlice_ ?_))
local macro_rules | `(tactic| walk_at "delete Subscript") => `(tactic| (k_here; (with_reducible show wpAny _ _ (delete (PySem.Expr.Subscript _ (PySem.Expr.Slice _ none none _) _) _) _ _ _); refine DelSlice_ ?_))
local macro_rules | `(tactic| walk_at "call builtin:list.extend") => `(tactic| (k_here; k_dflt (refine' extend_iv ?k1 ?k2 ?k3 ?k4 ?k5 ?k6 ?k7 ?_; (case k1 => k_in); (case k2 => k_asm); (case k3 => k_asm); (case k4 => (intro o9; k_upd)); (case k5 => k_mem); (case k6 => first | assumption | omega); (case k7 => ((try simp only [List.length_drop, List.length_take]); omega)); k_whole; intro h' e' F' N'; (try k_sweep))))
local macro_rules | `(tactic| ktr_enter) => `(tactic| (refine' code_def ?k1 ?k2 ?k3 ?k4 ?k5 ?kA ?kF ?kK ?k6 ?k7 ?k8 ?k9 ?kB ?_ ?c2 ?c3 ?c4 ?c5; (case kA => first | assumption | exact fr_in (by assumption) | exact rfl); (case kF => first | assumption | exact rfl); (case kK => first | assumption | exact rfl); (case k1 => k_asm); (case k2 => k_asm); (case k3 => k_asm); (case k4 => k_asm); (case k5 => k_asm); (case k6 => k_is); (case k7 => k_is); (case k8 => ktr_room); (case k9 => first | exact BindsTo.of_eq rfl | exact binds_K (by k_in) rfl (by k_is) rfl rfl rfl); (case c5 => decide); (case kB => exact locs rfl); (case c2 => exact rfl); (case c3 => exact rfl); (case c4 => exact rfl); k_whole; intro g' L' h' FG' F' N' B' X' T'; (try dsimp only); (try k_fold)))
local macro_rules | `(tactic| k_mem) => `(tactic| (first | (refine List.mem_append_left _ ?_; assumption) | (refine List.mem_append_right _ ?_; assumption) | (refine List.mem_append_right _ ?_; k_mem)))
local macro_rules | `(tactic| walk_at "exec For Name Name cons nil") => `(tactic| (k_here; refine For_ ?_))
local macro_rules | `(tactic| walk_at "exec For Name Subscript cons nil") => `(tactic| (k_here; refine For_ ?_))
local macro_rules | `(tactic| walk_at "call ref") => `(tactic| (k_here; (with_reducible show wpAny _ _ (call (Value.ref 300) _) _ _ _); refine Stop.intro ?_))
local macro_rules | `(tactic| walk_at "compareOp In str ref") => `(tactic| (k_here; k_dflt (first
  | (refine' kin_t (knd := PySem.strKind _ _) ?k1 ?k2 ?k3 ?k4 (strKind_is _ _ _ _) ?k5 ?_; (case k1 => k_asm); (case k2 => k_mem); (case k3 => assumption); (case k4 => assumption); (case k5 => assumption); k_whole)
  | (refine' kin_f (knd := PySem.strKind _ _) ?k1 ?k2 ?k3 ?k4 (strKind_is _ _ _ _) ?k5 ?_; (case k1 => k_asm); (case k2 => k_mem); (case k3 => assumption); (case k4 => assumption); (case k5 => assumption); k_whole))))
local macro_rules | `(tactic| walk_at "compareOp NotIn str ref") => `(tactic| (k_here; k_dflt (first
  | (refine' knin_t (knd := PySem.strKind _ _) ?k1 ?k2 ?k3 ?k4 (strKind_is _ _ _ _) ?k5 ?_; (case k1 => k_asm); (case k2 => k_mem); (case k3 => assumption); (case k4 => assumption); (case k5 => assumption); k_whole)
  | (refine' knin_f (knd := PySem.strKind _ _) ?k1 ?k2 ?k3 ?k4 (strKind_is _ _ _ _) ?k5 ?_; (case k1 => k_asm); (case k2 => k_mem); (case k3 => assumption); (case k4 => assumption); (case k5 => assumption); k_whole))))
local macro_rules | `(tactic| walk_at "subscriptTail") => `(tactic| (k_here; k_dflt (refine' kda_item (knd := PySem.strKind _ _) ?k1 ?k2 ?k3 (strKind_is _ _ _ _) ?k5 ?_; (case k1 => k_asm); (case k2 => k_mem); (case k3 => assumption); (case k5 => assumption); k_whole)))
local macro_rules | `(tactic| walk_at "call builtin:list.remove") => `(tactic| (k_here; (with_reducible show wpAny _ _ (call _ _) _ _ _); refine Stop.intro ?_))
local macro_rules | `(tactic| walk_at "call ref") => `(tactic| (k_here; (with_reducible show wpAny _ _ (call (Value.ref 336) _) _ _ _); k_dflt (refine wpAny_call ?_; ktr_enter)))
local macro_rules | `(tactic| walk_at "exec For Name Name cons cons") => `(tactic| (k_here; refine For_ ?_))
local macro_rules | `(tactic| walk_at "exec For Tuple Subscript cons cons") => `(tactic| (k_here; refine For_ ?_))
local macro_rules | `(tactic| walk_at "exec If") => `(tactic| (k_here; (with_reducible show wpAny _ _ (exec (Stmt.If (Expr.Name _ _) _ _ _) _) _ _ _); refine If_ ?_))
local macro_rules | `(tactic| walk_at "setItem ref str") => `(tactic| (k_here; (with_reducible show wpAny _ _ (setItem _ _ _) _ _ _); refine Stop.intro ?_))
local macro_rules | `(tactic| walk_at "delItem ref str") => `(tactic| (k_here; (with_reducible show wpAny _ _ (delItem _ _) _ _ _); refine Stop.intro ?_))
local macro_rules | `(tactic| walk_at "call builtin:dict.copy") => `(tactic| (k_here; (with_reducible show wpAny _ _ (call _ _) _ _ _); refine Stop.intro ?_))
local macro_rules | `(tactic| walk_at "call builtin:list.append") => `(tactic| (k_here; (with_reducible show wpAny _ _ (call _ _) _ _ _); refine Stop.intro ?_))
local macro_rules | `(tactic| walk_at "call ref") => `(tactic| (k_here; (with_reducible show wpAny _ _ (call (Value.ref 286) _) _ _ _); refine Stop.intro ?_))
local macro_rules | `(tactic| walk_at "call ref") => `(tactic| (k_here; (with_reducible show wpAny _ _ (call (Value.ref 293) _) _ _ _); refine Stop.intro ?_))
local macro_rules | `(tactic| walk_at "call ref") => `(tactic| (k_here; (with_reducible show wpAny _ _ (call (Value.ref 208) _) _ _ _); refine Stop.intro ?_))
local macro_rules | `(tactic| walk_at "call ref") => `(tactic| (k_here; (with_reducible show wpAny _ _ (call (Value.ref (Cn.c _)) _) _ _ _); refine Stop.intro ?_))
local macro_rules | `(tactic| walk_at "getMethod ref") => `(tactic| (k_here; (with_reducible show wpAny _ _ (getMethod (Value.ref _) (PySem.Str.ofString "copy") _) _ _ _); k_dflt (refine' copy_method (knd := PySem.strKind PW _) ?k1 ?k2 ?k3 ?_; (case k1 => k_asm); (case k2 => k_mem); (case k3 => assumption); k_whole)))
local macro_rules | `(tactic| walk_at "assign Tuple") => `(tactic| (k_here; (with_reducible show wpAny _ _ (assign (Expr.Tuple _ _ _) _ (Value.ref _)) _ _ _); k_dflt (refine' unpackN_ ?k1 ?k2 ?k3 ?k4 ?k5 ?k6 ?_; (case k1 => k_asm); (case k2 => k_asm); (case k3 => (refine News.isTup (by k_asm) (by k_mem))); (case k4 => first | assumption | exact rfl); (case k5 => exact rfl); (case k6 => exact rfl); k_whole); intro h' F' N'; (try k_sweep)))
theorem empty_dict {w : World} : (dictOf [] 0 : Obj).IsDictOf (PySem.strKind PW w) [] := ⟨#[], 0, ⟨rfl, rfl, rfl⟩, rfl, fun _ h => by simp at h, .nil, List.nodup_nil⟩
theorem up_low {a b c : Addr} (h : a < b) (h1 : (b == sysModules) = false) (h2 : @LT.lt Nat _ b c) : (c == sysModules) = false := by
  refine beq_eq_false_iff_ne.mpr fun e => ?_
  have e' : c = (1 : Nat) := e
  have h3 : @LT.lt Nat _ a b := h
  rw [e'] at h2
  omega
theorem s1_mem {h₀ h : Heap} {L AA AS : Addr} {oa : Obj} {p1 : Addr × Obj} {R S2 dyn : List (Addr × Obj)} {k : Nat} (_ : News h₀ L h (R ++ rbL AA AS oa (p1 :: S2) k dyn)) : p1 ∈ R ++ rbL AA AS oa (p1 :: S2) k dyn := List.mem_append_right _ (.tail _ (.tail _ (.head _)))
theorem gs_perm {h₀ h : Heap} {L AA AS : Addr} {oa : Obj} {R dyn : List (Addr × Obj)} (N : News h₀ L h ((AA, oa) :: (AS, listOf #[] 0) :: (R ++ dyn))) : News h₀ L h (R ++ rbL AA AS oa [] 0 dyn) :=
  news_sub N (by intro p hp; simp only [List.mem_append, List.mem_cons, List.nil_append, List.map_nil] at hp ⊢; grind)
section
variable {w : World} {p : Program} {loose : List Str} {mean : ExcName → Option Value} {mg mb : Str → Option Value} {A : Around} {env : Env} {outer : List Env} {A₀ : Around} {base h₀ : Heap} {L : Addr} {m : Str → Option Value} {s : Shared} {Q E : Value → Shared → Prop}
  {R dyn news : List (Addr × Obj)} {cs : List Dc} {ds ds' : List Ds}
theorem rgs_c {x xdx AD AV AC : Addr} {nm : Nat → Str} {od ov : Obj} {vls : List Addr} {vcs : List (List Cn)} {fcOn : Bool} {t0 : Tok} {e0 : Nat} {sols' : List Asg} (cx : Cx w p loose mean mg mb A 500 5000 env outer A₀ base h₀ L) (F : Fr h₀ L s.heap m)
    (N : News h₀ L s.heap news) (C : Cut dyn news R) (P : PbOk w nm R AD AV od ov cs vls vcs) (hx : (x, instObj 225 xdx) ∈ R) (hxd : (xdx, rbtD w.params t0 fcOn e0) ∈ R) (D : Dyn w.params cs ds dyn) (hm : rbM cs.length vcs fcOn false 40 [] [] ds = some (sols', ds'))
    (ret : ∀ h' tk' AS S' k' dyn', Fr h₀ L h' m → News h₀ L h' (R ++ ((AS, listOf (refs S').toArray k') :: (S' ++ dyn'))) → Paired (fun (g : Asg) (p : Addr × Obj) => p.2.IsDictOf (PySem.strKind PW w) (asgKv nm g)) sols' S' → Dyn w.params cs ds' dyn' → Q (.ref AS) { s with heap := h', toks := tk' }) :
    wpAny (model PW w) A (call (.ref 222) [.ref x, .ref AD, .ref AC, .ref AV]) Q E s := by
  obtain ⟨B, X, T, hk, hf, hd, hu, hfr, hhd⟩ := cx
  obtain rfl := C.eq
  refine wpAny_call ?_
  k_dflt ktr_enter
  rename Fr h₀ L _ m => FG
  k_steps
  rename _ < _ ∧ AllLt _ _ => lt2
  rename Obj.IsDictOf (PySem.strKind PW w) _ [] => hd0
  rename (_ == sysModules) = false => lo0
  rename Fr _ _ _ _ => F1
  rename News _ _ _ _ => N1
  rename ∀ p ∈ R ++ dyn, _ => lt1
  have lt3 := allLt_mem lt2.2
  have N2 := gs_perm N1
  refine rbt_c 40 (by omega) _ _ _ _ _ _ _ _ _ _ _ R _ dyn [] _ 0 ds ds' [] [] sols' (by (refine' Cx.mk ?cxB ?cxX ?cxT ?cxk ?cxf ?cxd ?cxu ?cxfr ?cxhh; (case cxfr => exact fr_in (by assumption)); (case cxhh => assumption); (case cxB => assumption); (case cxX => assumption); (case cxT => assumption); (case cxk => exact rfl); (case cxf => exact rfl); (case cxd => (simp only [depth_in1, depth_deeper] at *; omega)); (case cxu => (simp only [units_in1, units_deeper] at *; omega)))) F1 N2 (.base _) ⟨hd0, .nil, D, Nat.ne_of_gt lt2.1, D.notin fun p hp => Nat.ne_of_lt (lt3 p (List.mem_append_right _ hp)), D.notin fun p hp => Nat.ne_of_lt (lt1 p (List.mem_append_right _ hp)), fun _ h => (nomatch h), fun _ h => (nomatch h)⟩
    (fun p hp => ⟨Nat.ne_of_lt (lt3 p (List.mem_append_left _ hp)), Nat.ne_of_lt (lt1 p (List.mem_append_left _ hp)), P.hR p hp⟩) P hx hxd lo0 hm ?_
  intro h' tk' oa' S' k' dyn' av' F3 N3 R3 _
  k_steps
  rename News _ _ _ _ => N4
  refine' ret _ _ _ S' k' dyn' ?_ (news_sub N4 ?_) R3.s R3.d
  · k_asm
  · intro p hp; simp only [List.mem_append, List.mem_cons] at hp ⊢; grind
theorem rgs1_c {x xdx AD AV AC : Addr} {nm : Nat → Str} {od ov : Obj} {vls : List Addr} {vcs : List (List Cn)} {fcOn : Bool} {t0 : Tok} {e0 : Nat} {sols' : List Asg} (cx : Cx w p loose mean mg mb A 500 5000 env outer A₀ base h₀ L) (F : Fr h₀ L s.heap m)
    (N : News h₀ L s.heap news) (C : Cut dyn news R) (P : PbOk w nm R AD AV od ov cs vls vcs) (hx : (x, instObj 225 xdx) ∈ R) (hxd : (xdx, rbtD w.params t0 fcOn e0) ∈ R) (D : Dyn w.params cs ds dyn) (hm : rbM cs.length vcs fcOn true 40 [] [] ds = some (sols', ds'))
    (hlen : sols'.length ≤ 1000) (hg0 : ∀ g ∈ sols', g ≠ [] ∧ g.length ≤ 1000) (ret0 : sols' = [] → ∀ h' tk', Fr h₀ L h' m → News h₀ L h' R → Q .none { s with heap := h', toks := tk' })
    (ret1 : ∀ g r, sols' = g :: r → ∀ h' tk' a o, Fr h₀ L h' m → News h₀ L h' ((a, o) :: R) → o.IsDictOf (PySem.strKind PW w) (asgKv nm g) → Q (.ref a) { s with heap := h', toks := tk' }) :
    wpAny (model PW w) A (call (.ref 215) [.ref x, .ref AD, .ref AC, .ref AV]) Q E s := by
  obtain ⟨B, X, T, hk, hf, hd, hu, hfr, hhd⟩ := cx
  obtain rfl := C.eq
  refine wpAny_call ?_
  k_dflt ktr_enter
  rename Fr h₀ L _ m => FG
  k_steps
  rename _ < _ ∧ AllLt _ _ => lt2
  rename Obj.IsDictOf (PySem.strKind PW w) _ [] => hd0
  rename (_ == sysModules) = false => lo0
  rename Fr _ _ _ _ => F1
  rename News _ _ _ _ => N1
  rename ∀ p ∈ R ++ dyn, _ => lt1
  have lt3 := allLt_mem lt2.2
  have N2 := gs_perm N1
  refine rbt_c 40 (by omega) _ _ _ _ _ _ _ _ _ _ _ R _ dyn [] _ 0 ds ds' [] [] sols' (by (refine' Cx.mk ?cxB ?cxX ?cxT ?cxk ?cxf ?cxd ?cxu ?cxfr ?cxhh; (case cxfr => exact fr_in (by assumption)); (case cxhh => assumption); (case cxB => assumption); (case cxX => assumption); (case cxT => assumption); (case cxk => exact rfl); (case cxf => exact rfl); (case cxd => (simp only [depth_in1, depth_deeper] at *; omega)); (case cxu => (simp only [units_in1, units_deeper] at *; omega)))) F1 N2 (.base _) ⟨hd0, .nil, D, Nat.ne_of_gt lt2.1, D.notin fun p hp => Nat.ne_of_lt (lt3 p (List.mem_append_right _ hp)), D.notin fun p hp => Nat.ne_of_lt (lt1 p (List.mem_append_right _ hp)), fun _ h => (nomatch h), fun _ h => (nomatch h)⟩
    (fun p hp => ⟨Nat.ne_of_lt (lt3 p (List.mem_append_left _ hp)), Nat.ne_of_lt (lt1 p (List.mem_append_left _ hp)), P.hR p hp⟩) P hx hxd lo0 hm ?_
  intro h' tk' oa' S' k' dyn' av' F3 N3 R3 _
  have hlenS := Paired.length R3.s
  k_steps
  rename News _ _ _ _ => N4
  refine wpAny_truthy_list (items := (refs S').toArray) ⟨_, (N4 _ (List.mem_append_right _ (.tail _ (.head _)))).1, rfl, _, rfl⟩ (by simp only [List.size_toArray, List.length_map]; omega) ?_
  cases S' with
  | nil =>
    have hs0 : sols' = [] := List.eq_nil_of_length_eq_zero (by simpa using hlenS)
    rw [show (!(refs ([] : List (Addr × Obj))).toArray.isEmpty) = false from rfl]
    k_steps
    rename News _ _ _ _ => N5
    refine wpAny_truthy_list (items := (refs ([] : List (Addr × Obj))).toArray) ⟨_, (N5 _ (List.mem_append_right _ (.tail _ (.head _)))).1, rfl, _, rfl⟩ (by decide) ?_
    rw [show (!(refs ([] : List (Addr × Obj))).toArray.isEmpty) = false from rfl]
    k_steps
    rename News _ _ _ _ => N6
    refine' ret0 hs0 _ _ ?_ (news_sub N6 fun p hp => List.mem_append_left _ hp)
    k_asm
  | cons p1 S2 =>
    have hp1 := R3.s
    obtain ⟨g, r, rfl⟩ : ∃ g r, sols' = g :: r := by
      cases sols' with
      | nil => simp at hlenS
      | cons g r => exact ⟨g, r, rfl⟩
    rw [show (!(refs (p1 :: S2)).toArray.isEmpty) = true from rfl]
    obtain ⟨hg0, hgl⟩ := hg0 g (.head _)
    have hg : p1.2.IsDictOf (PySem.strKind PW w) (asgKv nm g) := by cases hp1 with | cons a b => exact a
    k_steps
    rename News _ _ _ _ => N5
    refine subscriptTail_builtin (T := "list") ⟨_, (N5 _ (List.mem_append_right _ (.tail _ (.head _)))).1, rfl⟩ slot_list_getitem.lookup (wpAny_getItem_list (items := (refs (p1 :: S2)).toArray) (x := .ref p1.1) ⟨_, (N5 _ (List.mem_append_right _ (.tail _ (.head _)))).1, rfl, _, rfl⟩ (by decide) (by decide) rfl ?_)
    k_steps
    rename News _ _ _ _ => N6
    have hpm := s1_mem N6
    have hlop : (p1.1 == sysModules) = false := by
      exact up_low lt2.1 lo0 (R3.up p1 (.head _))
    refine wpAny_truthy_dict (knd := PySem.strKind PW w) hlop (kda_dict N6 hpm hg) ?hfit ?hq
    case hfit => have := hgl; rw [List.length_map]; omega
    case hq =>
      cases g with
      | nil => exact absurd rfl hg0
      | cons g0 g1 =>
        show _
        rw [show (!(asgKv nm (g0 :: g1)).isEmpty) = true from rfl]
        k_steps
        rename News _ _ _ _ => N7
        refine' ret1 _ _ rfl _ _ p1.1 p1.2 ?_ (news_sub N7 ?_) hg
        · k_asm
        · intro p hp
          rcases List.mem_cons.mp hp with rfl | hp
          · exact hpm
          · exact List.mem_append_left _ hp
end
end Mine
end
section
open PySem PySem.W PySem.W.X PyProof.Rows PySem.Calls PySem.Spec
set_option Elab.async false
set_option maxRecDepth 100000
set_option maxHeartbeats 8000000
namespace Mine
theorem filled25 : PySem.Challenge.rw_aw5017_04 = PySem.Challenge.rw_aw5017_04 ∧ hd.heap_39 = hd.heap_39 := by k_fill; exact ⟨rfl, rfl⟩
def HasQ (hp : Heap) (g : Array GenState) (d : Drawn) (os : OsState) (Q : Value → Shared → Prop) : Prop := ∀ h' tk', (∀ b o, hp.get? b = some o → h'.get? b = some o) → Q (.bool true) ⟨h', g, d, tk', os⟩
theorem HasQ.use {hp h : Heap} {g : Array GenState} {d : Drawn} {os : OsState} {Q : Value → Shared → Prop} {news : List (Addr × Obj)} {tk : Nat} (H : HasQ hp g d os Q) (D : Mem hp h [] news) : Q (.bool true) ⟨h, g, d, tk, os⟩ := H h tk fun b o e => D.keep b o e (by simp [away])
local macro_rules | `(tactic| x_close) => `(tactic| (exact HasQ.use (by assumption) (by assumption)))
theorem hasattr_getitem {w : World} {A : Around} {E : Value → Shared → Prop} {s : Shared} {dl : Addr} {xs : Array Value} {k : Nat} {t : Tok} {Q : Value → Shared → Prop} (X : (hd.heap_39 w.params).In s.heap) (h : s.heap.get? dl = some (listOf xs k))
    (hq : ∀ h' tk', (∀ b o, s.heap.get? b = some o → h'.get? b = some o) → Q (.bool true) { s with heap := h', toks := tk' }) : wpAny (model PW w) A (call (.builtin "hasattr") [.ref dl, .str "__getitem__" t]) Q E s := by
  obtain ⟨hp, g, d, tt, os⟩ := s
  dsimp only at X h hq
  have hq' : HasQ hp g d os Q := hq
  have h' : hp.get? dl = some ⟨.type "list", none, .seq xs k, #[]⟩ := h
  clear h hq
  x_run
theorem hasattr_K {w : World} {A : Around} {E : Value → Shared → Prop} {s : Shared} {h₀ : Heap} {L dl : Addr} {m : Str → Option Value} {news : List (Addr × Obj)} {xs : Array Value} {k : Nat} {t : Tok} {Q : Value → Shared → Prop} (X : (hd.heap_39 w.params).In s.heap) (F : Fr h₀ L s.heap m) (N : News h₀ L s.heap news) (hl : (dl, listOf xs k) ∈ news)
    (h : ∀ h' tk', Fr h₀ L h' m → News h₀ L h' news → Q (.bool true) { s with heap := h', toks := tk' }) : wpAny (model PW w) A (call (.builtin "hasattr") [.ref dl, .str "__getitem__" t]) Q E s :=
  hasattr_getitem X (N _ hl).1 fun h' tk' up => h h' tk' (F.keeps up) (N.grown up)
end Mine
end
section
open PySem PySem.W PySem.W.X PyProof.Rows PySem.Calls PySem.Spec
set_option Elab.async false
set_option maxRecDepth 100000
set_option maxHeartbeats 8000000
namespace Mine
theorem filled26 : PySem.Challenge.rw_aw5017_04 = PySem.Challenge.rw_aw5017_04 ∧ hd.heap_39 = hd.heap_39 := by k_fill; exact ⟨rfl, rfl⟩
def NewQ (hp : Heap) (g : Array GenState) (d : Drawn) (os : OsState) (Q : Value → Shared → Prop) : Prop := ∀ h' tk' x dx, hp.get? x = none → hp.get? dx = none → x ≠ dx → (∀ b o, hp.get? b = some o → h'.get? b = some o) → h'.get? x = some (domO dx #[] 0) → h'.get? dx = some (dictOf [] 0) → Q (.ref x) ⟨h', g, d, tk', os⟩
theorem NewQ.use {hp h : Heap} {g : Array GenState} {d : Drawn} {os : OsState} {Q : Value → Shared → Prop} {x dx : Addr} {tk : Nat} (H : NewQ hp g d os Q) (D : Mem hp h [] [(x, domO dx #[] 0), (dx, dictOf [] 0)]) : Q (.ref x) ⟨h, g, d, tk, os⟩ :=
  H h tk x dx (D.nw _ (.head _)).2 (D.nw _ (.tail _ (.head _))).2 (by have := D.ord; simp at this; exact Nat.ne_of_gt this) (fun b o e => D.keep b o e (by simp [away])) (D.nw _ (.head _)).1 (D.nw _ (.tail _ (.head _))).1
local macro_rules | `(tactic| x_close) => `(tactic| (exact NewQ.use (by assumption) (by assumption)))
theorem list_new {w : World} {A : Around} {E : Value → Shared → Prop} {s : Shared} {dl : Addr} {xs : Array Value} {k : Nat} {Q : Value → Shared → Prop} (X : (hd.heap_39 w.params).In s.heap) (h : s.heap.get? dl = some (listOf xs k))
    (hq : ∀ h' tk' x dx, s.heap.get? x = none → s.heap.get? dx = none → x ≠ dx → (∀ b o, s.heap.get? b = some o → h'.get? b = some o) → h'.get? x = some (domO dx #[] 0) → h'.get? dx = some (dictOf [] 0) → Q (.ref x) { s with heap := h', toks := tk' }) : wpAny (model PW w) A (call (.builtin "list.__new__") [.ref 303, .ref dl]) Q E s := by
  obtain ⟨hp, g, d, tt, os⟩ := s
  dsimp only at X h hq
  have hq' : NewQ hp g d os Q := hq
  have h' : hp.get? dl = some ⟨.type "list", none, .seq xs k, #[]⟩ := h
  clear h hq
  x_run
end Mine
end
section
open PySem PySem.W PySem.W.X PyProof.Rows PySem.Calls PySem.Spec
open Sem (wp)
set_option Elab.async false
set_option maxRecDepth 100000
set_option maxHeartbeats 8000000
namespace Mine
/-- one stretch of a generator: it runs to an end that is as said -/
def Sg (M : Model) (A : Around) (Φ : End → Shared → Prop) (c : Code) (t : Sem Fin) (fs : List Frame) (s : Shared) : Prop :=
  ∀ (Γ : PySem.Ctx) (p : Pos), Γ.code = c → Γ.Woken A → ∃ e s', Runs M Γ p t fs s e s' ∧ Φ e s'
abbrev NoE : Value → Shared → Prop := fun _ _ => False
section
variable {M : Model} {A : Around} {Φ : End → Shared → Prop} {c : Code} {fs : List Frame} {s : Shared} {env : Env}
theorem sg_wrap {α : Type} {m : Sem α} {K : α → Sem Fin} {H : Value → Sem Fin} {gd lv}
    (h : wpAny M (A.over c fs) m (fun a s' => Sg M A Φ c (K a) fs s') NoE s) : Sg M A Φ c (m.wrap K H gd lv) fs s := by
  rintro Γ p rfl hΓ
  exact runs_wrap_of_wp K H gd lv m (h (Γ.over fs) p (hΓ.over fs)) (fun a p' s' h' => h' Γ p' rfl hΓ) (fun _ _ _ h' => h'.elim)
theorem sg_bindw {α β : Type} {m : Sem α} {K : α → Sem β} {K' : β → Sem Fin} {H' : Value → Sem Fin} {gd lv}
    (h : wpAny M (A.over c fs) m (fun a s' => Sg M A Φ c ((K a).wrap K' H' gd lv) fs s') NoE s) : Sg M A Φ c ((m >>= K).wrap K' H' gd lv) fs s := by
  rw [Sem.bind_eq_wrap', Sem.wrap_wrap]; exact sg_wrap h
theorem sg_at {p' : Pos} {k : Unit → Sem Fin} (h : Sg M A Φ c (k ()) fs s) : Sg M A Φ c (.at p' k) fs s :=
  sg_wrap (m := standAt p') (K := k) (H := .raise) (gd := id) (lv := id) (wpAny_standAt h)
theorem sg_point {l : List Value} {k : Unit → Sem Fin} (h : Sg M A Φ c (k ()) fs s) : Sg M A Φ c (.point l k) fs s :=
  sg_wrap (m := point) (K := k) (H := .raise) (gd := id) (lv := fun _ => l) (wpAny_point h)
theorem sg_call {c' : Code} {h g l} {k : Result → Sem Fin} (hc : ∀ p, Sg M A Φ c' (M.den c') (.ret k h g l c p [] :: fs) s) : Sg M A Φ c (.call c' h g l k) fs s := by
  rintro Γ p rfl hΓ
  obtain ⟨e, s', hr, he⟩ := hc p (Γ.goto c') p rfl (hΓ.goto c')
  exact ⟨e, s', runs_call_seg hr, he⟩
theorem sg_leaf {k h g l c₁ p₁ kp} (r : Result) (hk : Sg M A Φ c₁ (k r) fs s) : Sg M A Φ c (leafOf r) (.ret k h g l c₁ p₁ kp :: fs) s := by
  rintro Γ p rfl hΓ
  obtain ⟨e, s', hr, he⟩ := hk (Γ.goto c₁) p₁ rfl (hΓ.goto c₁)
  exact ⟨e, s', Runs.pop r hr, he⟩
theorem sg_again {c' : Code} (hq : c'.quiet = true) (hc : Sg M A Φ c' (M.den c') fs s) : Sg M A Φ c (.pure (.again c')) fs s := by
  rintro Γ p rfl hΓ
  obtain ⟨e, s', hr, he⟩ := hc (Γ.goto c') p rfl (hΓ.goto c')
  exact ⟨e, s', Runs.head (c₁ := c') (fun _ _ x => .again hq x) hr, he⟩
theorem sg_end (r : Result) (h : Φ (.ret r) s) : Sg M A Φ c (leafOf r) [] s := by
  rintro Γ p rfl _
  exact ⟨.ret r, s, Runs.leaf r, h⟩
theorem sg_yield {v g l} {k : Resume → Sem Fin} (hfs : splitAtGen fs = none) (h : ∀ p, Φ (.susp v g l k c p fs) s) : Sg M A Φ c (.yield v g l k) fs s := by
  rintro Γ p rfl _
  exact ⟨_, s, Runs.yield' fs hfs, h p⟩
variable {K : Flow → Sem Fin} {H : Value → Sem Fin} {gd : Bool → Bool} {lv : List Value → List Value}
theorem sg_nil (h : Sg M A Φ c (K .next) fs s) : Sg M A Φ c ((execs [] env).wrap K H gd lv) fs s := h
theorem sg_cons {st : Stmt} {rest : List Stmt}
    (h : Sg M A Φ c ((exec st env).wrap (fun f => match f with | .next => (execs rest env).wrap K H gd lv | f => K f) H gd lv) fs s) :
    Sg M A Φ c ((execs (st :: rest) env).wrap K H gd lv) fs s := by rw [execs_cons_wrap]; exact h
/-- a statement without a yield -/
theorem sg_stmt {st : Stmt} (h : wpAny M (A.over c fs) (exec st env) (fun f s' => Sg M A Φ c (K f) fs s') NoE s) : Sg M A Φ c ((exec st env).wrap K H gd lv) fs s := sg_wrap h
theorem sg_Yield {e : Expr} {ypos pos : Pos} (hfs : splitAtGen fs = none)
    (h : wpAny M (A.over c fs) (eval e env) (fun v s' => ∀ p l (k : Resume → Sem Fin), (∀ x, (∀ a, x ≠ .ref a) → ∀ Φ' s'' A', Sg M A' Φ' c (K .next) fs s'' → Sg M A' Φ' c (k (.send x)) fs s'') → Φ (.susp v (gd false) l k c p fs) s') NoE s)
    (hco : env.scope.isCoroutine = false := by rfl) (hi : interactive env = false := by rfl) :
    Sg M A Φ c ((exec (.Expr (.Yield (some e) ypos) pos) env).wrap K H gd lv) fs s := by
  rw [exec_Expr env _ pos hi rfl]
  show Sg M A Φ c (.at pos fun _ => ((eval e env >>= fun v => (standAt ypos >>= fun _ => yieldOut env v)) >>= fun x =>
    dropValue (.Yield (some e) ypos) pos x).wrap K H gd lv) fs s
  have hy : ∀ v, yieldOut env v = yieldValue v := fun v => by simp only [yieldOut, hco, Bool.false_eq_true, if_false]
  simp only [hy]
  refine sg_at ?_
  rw [Sem.bind_eq_wrap', Sem.bind_eq_wrap', Sem.wrap_wrap, Sem.wrap_wrap]
  refine sg_wrap (wpAny_mono h (fun v s' h' => ?_) fun _ _ x => x)
  refine sg_at (sg_yield hfs fun p => h' _ _ _ fun x hx Φ' s'' A' hh => ?_)
  cases x <;> first | exact hh | exact absurd rfl (hx _)
theorem sg_While {test : Expr} {body orelse : List Stmt} {pos : Pos}
    (h : ∀ p k, (∀ f Φ' s' A', Sg M A' Φ' c (K f) fs s' → Sg M A' Φ' c (k (.ok f)) fs s') → Sg M A Φ (.whileLoop test body orelse env) (M.den (.whileLoop test body orelse env)) (.ret k none (gd false) (lv []) c p [] :: fs) s) :
    Sg M A Φ c ((exec (.While test body orelse pos) env).wrap K H gd lv) fs s :=
  sg_at (sg_call fun p => h p _ fun _ _ _ _ hk => hk)
theorem sg_For {target iter : Expr} {body orelse : List Stmt} {pos : Pos}
    (h : wpAny M (A.over c fs) (eval iter env) (fun x s₁ => wpAny M (A.over c fs) (pyIter x) (fun it s₂ => ∀ p k, (∀ f Φ' s' A', Sg M A' Φ' c (K f) fs s' → Sg M A' Φ' c (k (.ok f)) fs s') →
      Sg M A Φ (.forLoop target it body orelse env) (M.den (.forLoop target it body orelse env)) (.ret k none (gd false) (lv []) c p [] :: fs) s₂) NoE s₁) NoE s) (hs : ∀ x, foldedSetIterable iter env x = pure x := by intro _; rfl) :
    Sg M A Φ c ((exec (.For target iter body orelse pos) env).wrap K H gd lv) fs s := by
  rw [exec_For]
  refine sg_bindw (wpAny_standAt (sg_bindw (wpAny_mono h (fun x s₁ h₁ => ?_) fun _ _ e => e)))
  refine sg_bindw (wpAny_of_eq (hs x) (sg_bindw (wpAny_standAt ?_)))
  refine sg_bindw (wpAny_holding (wpAny_mono h₁ (fun it s₂ h₂ => ?_) fun _ _ e => e))
  exact sg_call fun p => h₂ p _ fun _ _ _ _ hk => hk
end
section
variable {prog : Program} {w : World} {A : Around} {Φ : End → Shared → Prop} {c : Code} {fs : List Frame} {s : Shared} {env : Env}
/-- out of a turn of a loop -/
def turnK (c : Code) : Flow → Sem Fin
  | .next => .pure (.again c)
  | .cont => .pure (.again c)
  | .brk => .pure (.done .next)
  | .ret v => .pure (.done (.ret v))
theorem sg_whileLoop {test : Expr} {body orelse : List Stmt}
    (h : wpAny (model prog w) (A.over (.whileLoop test body orelse env) fs) (isTrue test env (eval test env)) (fun b s' => ∀ H gd lv, gd false = false → lv [] = [] →
        if b = true then Sg (model prog w) A Φ (.whileLoop test body orelse env) ((execs body env).wrap (turnK (.whileLoop test body orelse env)) H gd lv) fs s'
        else Sg (model prog w) A Φ (.whileLoop test body orelse env) ((execs orelse env).wrap (fun f => .pure (.done f)) H gd lv) fs s') NoE s) :
    Sg (model prog w) A Φ (.whileLoop test body orelse env) ((model prog w).den (.whileLoop test body orelse env)) fs s := by
  show Sg _ A Φ _ ((whileTurn test body orelse env).onRaise (fun x => do noteFrame x env; theTreesLotGoes x)) fs s
  unfold whileTurn
  rw [Sem.onRaise_eq_wrap, Sem.bind_eq_wrap', Sem.wrap_wrap]
  refine sg_wrap (wpAny_mono h (fun b s' hb => ?_) fun x s' hx => hx)
  cases b with
  | true =>
    have hb := hb (fun e => (do noteFrame e env; theTreesLotGoes e : Sem Unit).wrap (fun _ => .raise e) .raise id id) id id rfl rfl
    rw [if_pos rfl] at hb
    show Sg _ A Φ _ (Sem.wrap _ _ _ _ (if true = true then _ else _)) fs s'
    rw [if_pos rfl, Sem.bind_eq_wrap', Sem.wrap_wrap]
    rw [Sem.wrap_congr (execs body env) _ _ (K' := turnK (.whileLoop test body orelse env)) (H' := (fun e => (do noteFrame e env; theTreesLotGoes e : Sem Unit).wrap (fun _ => .raise e) .raise id id))
      (fun f => by cases f <;> rfl)
      (fun e => by first | exact Sem.bind_eq_wrap _ _ | (show (do noteFrame e env; theTreesLotGoes e : Sem Unit).bind (fun _ => .raise e) = _; rw [Sem.bind_eq_wrap]))]
    exact hb
  | false =>
    have hb := hb (fun e => (do noteFrame e env; theTreesLotGoes e : Sem Unit).wrap (fun _ => .raise e) .raise id id) id id rfl rfl
    rw [if_neg Bool.false_ne_true] at hb
    show Sg _ A Φ _ (Sem.wrap _ _ _ _ (if false = true then _ else _)) fs s'
    rw [if_neg Bool.false_ne_true, Sem.bind_eq_wrap', Sem.wrap_wrap]
    rw [Sem.wrap_congr (execs orelse env) _ _ (K' := fun f => (.pure (.done f) : Sem Fin)) (H' := (fun e => (do noteFrame e env; theTreesLotGoes e : Sem Unit).wrap (fun _ => .raise e) .raise id id))
      (fun f => by rfl)
      (fun e => by first | exact Sem.bind_eq_wrap _ _ | (show (do noteFrame e env; theTreesLotGoes e : Sem Unit).bind (fun _ => .raise e) = _; rw [Sem.bind_eq_wrap]))]
    exact hb
theorem sg_func {body : List Stmt}
    (h : ∀ H, Sg (model prog w) A Φ (.func body env) ((execs body env).wrap (fun f => .pure (.done (.ret (match f with | .ret v => v | _ => .none)))) H id id) fs s) :
    Sg (model prog w) A Φ (.func body env) ((model prog w).den (.func body env)) fs s := by
  show Sg _ A Φ _ (.point [] fun _ => ((execs body env).onRaise (leaving env)) >>= _) fs s
  refine sg_point ?_
  rw [Sem.onRaise_eq_wrap, Sem.bind_eq_wrap', Sem.wrap_wrap]
  rw [Sem.wrap_congr (execs body env) _ _ (K' := fun f => .pure (.done (.ret (match f with | .ret v => v | _ => .none))))
    (H' := fun e => (leaving env e).wrap (fun _ => .raise e) .raise id id) (fun f => by cases f <;> rfl)
    (fun e => by rw [Sem.bind_eq_wrap, Sem.wrap_wrap]; rfl)]
  exact h _
theorem sg_block {body : List Stmt}
    (h : ∀ H, Sg (model prog w) A Φ (.block body env) ((execs body env).wrap (fun f => .pure (.done f)) H id id) fs s) :
    Sg (model prog w) A Φ (.block body env) ((model prog w).den (.block body env)) fs s := by
  show Sg _ A Φ _ (((execs body env).onRaise (fun x => do noteFrame x env; theTreesLotGoes x)) >>= fun f => pure (.done f)) fs s
  rw [Sem.onRaise_eq_wrap, Sem.bind_eq_wrap', Sem.wrap_wrap]
  rw [Sem.wrap_congr (execs body env) _ _ (K' := fun f => (.pure (.done f) : Sem Fin)) (H' := fun e => ((do noteFrame e env; theTreesLotGoes e : Sem Unit).bind fun _ => .raise e).wrap (fun f => pure (.done f)) .raise id id)
    (fun f => by rfl) (fun e => by rfl)]
  exact h _
theorem sg_forTurn {target it : _} {body orelse : List Stmt}
    (h : wpAny (model prog w) (A.over (.forLoop target it body orelse env) fs) (pyNext it) (fun r s₁ => match r with
      | none => Sg (model prog w) A Φ (.block orelse env) ((model prog w).den (.block orelse env)) fs s₁
      | some v => wpAny (model prog w) (A.over (.forLoop target it body orelse env) fs) (letOwnedTupleGo target it v) (fun _ s₁' => wpAny (model prog w) (A.over (.forLoop target it body orelse env) fs) (assign target env v) (fun _ s₂ =>
          wpAny (model prog w) (A.over (.forLoop target it body orelse env) fs) (execs body env) (fun f s₃ => Sg (model prog w) A Φ (.forLoop target it body orelse env) (turnK (.forLoop target it body orelse env) f) fs s₃) NoE s₂) NoE s₁') NoE s₁) NoE s) :
    Sg (model prog w) A Φ (.forLoop target it body orelse env) ((model prog w).den (.forLoop target it body orelse env)) fs s := by
  show Sg _ A Φ _ ((forTurn target it body orelse env).onRaise (fun x => do noteFrame x env; theTreesLotGoes x)) fs s
  rw [Sem.onRaise_eq_wrap]
  unfold forTurn
  refine sg_bindw (wpAny_standAt (sg_bindw ?_))
  refine wpAny_onRaise (wpAny_mono h (fun r s₁ h₁ => ?_) fun _ _ e => e.elim)
  cases r with
  | none => exact sg_again rfl h₁
  | some v =>
    refine sg_bindw (wpAny_mono h₁ (fun _ s₂ h₂ => ?_) fun _ _ e => e)
    refine sg_bindw (wpAny_mono h₂ (fun _ s₃ h₃ => ?_) fun _ _ e => e)
    refine sg_bindw (wpAny_mono h₃ (fun f s₄ h₄ => ?_) fun _ _ e => e)
    cases f <;> exact h₄
end
/-- a generator ready to be woken -/
def GenGo (M : Model) (A : Around) (Φ : End → Shared → Prop) (gs : GenState) (r : Resume) (s : Shared) : Prop :=
  match gs with
  | .fresh c => r = .send .none ∧ Sg M A Φ c (M.den c) [] s
  | .suspended k _ c _ fs _ => Sg M A Φ c (k r) fs s
  | _ => False
theorem wpAny_resume1 {M : Model} {A : Around} {Φ : End → Shared → Prop} {E : Value → Shared → Prop} {s : Shared} {g : Nat} {gs : GenState}
    {r : Resume} {l : List Value} {α : Type} {k : GenResult → Sem α} {Q : α → Shared → Prop} (hg : s.gens[g]? = some gs)
    (hgo : GenGo M A Φ gs r (s.setGen g .running))
    (hR : ∀ e s₁, Φ e s₁ → e.quiet = true ∧ wpAny M A (k e.result) Q E (s₁.setGen g e.genState)) :
    wpAny M A (.resume g r l k) Q E s := by
  intro Γ p hΓ
  rw [Sem.wp_resume]
  have hB : ∀ c, (Γ.wake c p).Woken A := fun c => hΓ.wake c p
  cases gs with
  | fresh c =>
    obtain ⟨rfl, hs⟩ := hgo
    obtain ⟨e₁, s₁, hr, he⟩ := hs (Γ.wake c p) p rfl (hB c)
    exact ⟨_, _, by unfold Wakes; rw [hg]; exact ⟨e₁, s₁, hr, (hR e₁ s₁ he).1, rfl, rfl⟩, (hR e₁ s₁ he).2 Γ p hΓ⟩
  | suspended k₀ l₀ c₀ p₀ fs₀ cl =>
    obtain ⟨e₁, s₁, hr, he⟩ := hgo (Γ.wake c₀ p) p₀ rfl (hB c₀)
    exact ⟨_, _, by unfold Wakes; rw [hg]; exact ⟨e₁, s₁, hr, (hR e₁ s₁ he).1, rfl, rfl⟩, (hR e₁ s₁ he).2 Γ p hΓ⟩
  | running => exact hgo.elim
  | finished => exact hgo.elim
theorem wpAny_next1 {prog : Program} {w : World} {A : Around} {E : Value → Shared → Prop} {s : Shared} {a : Addr} {g : Nat} {gs : GenState} {Φ : End → Shared → Prop} {Q : Option Value → Shared → Prop} (hh : A.handled = none)
    (hl : s.heap.NoLimit) (hroom : A.depth < recursionLimit) (hg : s.heap.IsGen a g) (hgs : s.gens[g]? = some gs)
    (hgo : GenGo (model prog w) A.in1 Φ gs (.send .none) (s.setGen g .running))
    (hR : ∀ e s₁, Φ e s₁ → e.quiet = true ∧ match e with
      | .susp v .. => Q (some v) (s₁.setGen g e.genState)
      | .ret r => r = .ok (.ret .none) ∧ ∀ h', (∀ b o, s₁.heap.get? b = some o → h'.get? b = some o) → Q none { s₁.setGen g .finished with heap := h' }) :
    wpAny (model prog w) A (pyNext (.ref a)) Q E s := by
  unfold pyNext
  refine wpAny_bind (wpAny_attempt (wpAny_callSpecial?_slot (name := Str.ofString "__next__") hg.typeIs slot_gen_next
    (wpAny_call_entry slot_gen_next hg.typeIs entry_gen_next ?_ (args_gen_next _))))
  show wpAny _ _ (Builtin.Generator.genWake (.ref a) (.send .none)) _ _ s
  unfold Builtin.Generator.genWake
  refine wpAny_bind (wpAny_holding (wpAny_genNumber hg (wpAny_bind (wpAny_genState hgs ?_))))
  have key : ∀ (cont : GenResult → Sem Fin), True := fun _ => trivial
  cases gs with
  | running => exact hgo.elim
  | finished => exact hgo.elim
  | _ =>
    refine wpAny_bind (wpAny_roomToWake hl hroom ?_)
    show wpAny _ _ (.resume g (.send .none) [] _) _ _ s
    refine wpAny_resume1 hgs hgo (fun e s₁ he => ⟨(hR e s₁ he).1, ?_⟩)
    obtain ⟨_, hq⟩ := hR e s₁ he
    cases e with
    | ret r =>
      obtain ⟨rfl, hp⟩ := hq
      show wpAny _ _ (newExc (.type "StopIteration") [] >>= _) _ _ _
      refine wpAny_bind ?_
      simp only [newExc, newTuple]
      refine wpAny_bind (wpAny_newObj_type ?_ (by size_fits))
      refine wpAny_bind (m := firstArgMember _ _) (wpAny_of_eq (a := Value.none) (by first | rfl | (simp only [firstArgMember]; rfl)) ?_)
      refine wpAny_newObj_type ?_ (by size_fits)
      simp only [raiseNew]
      refine wpAny_bind (wpAny_bind (wpAny_handled ?_))
      rw [show A.in1.handled = none from hh]
      refine wpAny_throw ?_
      refine wpAny_bind (wpAny_isInstance (T := "StopIteration") (b := true) ⟨_, Heap.get?_push_size _ rfl, rfl⟩ isSubtype_stop ?_)
      exact wpAny_pure (hp _ fun b o hb => Heap.get?_push_of_some _ (Heap.get?_push_of_some _ hb))
    | susp v g₀ l₀ k₀ c₀ p₀ fs₀ => exact wpAny_pure ⟨v, rfl, wpAny_pure hq⟩
end Mine
end
section
open PySem PySem.W PySem.W.X PyProof.Rows PySem.Calls PySem.Spec
set_option Elab.async false
set_option maxRecDepth 100000
set_option maxHeartbeats 8000000
namespace Mine
theorem filledG2 : PySem.Challenge.rw_aw5017_04 = PySem.Challenge.rw_aw5017_04 ∧ hd.heap_39 = hd.heap_39 := by k_fill; exact ⟨rfl, rfl⟩
local macro_rules | `(tactic| k_all) => `(tactic| assumption)
local macro_rules | `(tactic| ktr_room) => `(tactic| (simp only [depth_under_make, depth_under_kw, depth_in1, depth_deeper, depth_caller, recursionLimit] at *; omega))
local macro_rules | `(tactic| walk_at "getAttr ref") => `(tactic| (k_here; (with_reducible show wpAny _ _ (getAttr (Value.ref _) (PySem.Str.ofString "_hidden") _) _ _ _); k_dflt (refine' hidden_K ?k1 ?k2 ?k3 ?k4 ?_; (case k1 => k_in); (case k2 => k_asm); (case k3 => k_mem); (case k4 => k_mem); k_whole)))
local macro_rules | `(tactic| walk_at "getAttr ref") => `(tactic| (k_here; (with_reducible show wpAny _ _ (getAttr (Value.ref _) (PySem.Str.ofString "_states") _) _ _ _); k_dflt (refine' states_K ?k1 ?k2 ?k3 ?k4 ?_; (case k1 => k_in); (case k2 => k_asm); (case k3 => k_mem); (case k4 => k_mem); k_whole)))
local macro_rules | `(tactic| walk_at "getMethod ref") => `(tactic| (k_here; k_dflt (refine' meth_K ?k1 ?k2 ?k3 ?k4 ?k5 ?k6 ?k7 ?k8 ?_; (case k1 => k_in); (case k2 => k_asm); (case k3 => k_mem); (case k4 => k_mem); (case k5 => k_is); (case k6 => first | (intro M h X; exact looks_typeIn X (by k_is)) | (intro M h X; exact Looks.of_pure (by first | exact PySem.F.type_list_remove | exact PySem.F.type_list_extend))); (case k7 => decide); (case k8 => first | rfl | decide +kernel); k_whole)))
local macro_rules | `(tactic| walk_at "call builtin:list.remove") => `(tactic| (k_here; k_dflt (refine' remove_K ?k1 ?k2 ?k3 ?k4 ?k5 ?k6 ?_; (case k1 => k_in); (case k2 => k_asm); (case k3 => k_asm); (case k4 => k_upd); (case k5 => assumption); (case k6 => assumption); k_whole; intro h' F' N'; (try k_sweep))))
local macro_rules | `(tactic| walk_at "call builtin:list.append") => `(tactic| (k_here; k_dflt (refine' append_iv ?k1 ?k2 ?k3 ?k4 ?_; (case k1 => k_asm); (case k2 => k_asm); (case k3 => k_upd); (case k4 => assumption); k_whole; intro h' F' N'; (try k_sweep))))
local macro_rules | `(tactic| walk_at "call builtin:list.pop") => `(tactic| (k_here; (with_reducible show wpAny _ _ (call (Value.builtin _) [Value.ref _]) _ _ _); k_dflt (refine' pop_iv ?k1 ?k2 ?k3 ?k4 ?_; (case k1 => k_asm); (case k2 => k_asm); (case k3 => k_upd); (case k4 => assumption); k_whole; intro h' F' N'; (try k_sweep))))
local macro_rules | `(tactic| walk_at "call builtin:list.pop") => `(tactic| (dsimp only; fail_if_success (with_reducible show wpAny _ _ (call (Value.builtin _) (Prod.snd _)) _ _ _)))
local macro_rules | `(tactic| walk_at "call builtin:len") => `(tactic| (k_here; (with_reducible show wpAny _ _ (call (Value.builtin "len") [Value.ref _]) _ _ _); k_dflt (refine' len_iv ?k1 ?k2 ?k3 ?k4 ?_; (case k1 => k_in); (case k2 => k_asm); (case k3 => k_mem); (case k4 => assumption); k_whole); intro u' tk'))
local macro_rules | `(tactic| walk_at "truthy ref") => `(tactic| (k_here; k_dflt (refine' truthy_iv ?k1 ?k2 ?k3 ?k4 ?_; (case k1 => k_in); (case k2 => k_asm); (case k3 => k_mem); (case k4 => assumption); k_whole); intro tk'))
local macro_rules | `(tactic| walk_at "eval Subscript") => `(tactic| (k_here; (with_reducible show wpAny _ _ (eval (PySem.Expr.Subscript _ (PySem.Expr.Slice _ _ none _) _) _) _ _ _); refine SubSlice_ ?_))
local macro_rules | `(tactic| walk_at "delete Subscript") => `(tactic| (k_here; (with_reducible show wpAny _ _ (delete (PySem.Expr.Subscript _ (PySem.Expr.Slice _ none none _) _) _) _ _ _); refine DelSlice_ ?_))
local macro_rules | `(tactic| walk_at "call builtin:list.extend") => `(tactic| (k_here; k_dflt (refine' extend_iv ?k1 ?k2 ?k3 ?k4 ?k5 ?k6 ?k7 ?_; (case k1 => k_in); (case k2 => k_asm); (case k3 => k_asm); (case k4 => (intro o9; k_upd)); (case k5 => k_mem); (case k6 => first | assumption | omega); (case k7 => ((try simp only [List.length_drop, List.length_take]); omega)); k_whole; intro h' e' F' N'; (try k_sweep))))
local macro_rules | `(tactic| ktr_enter) => `(tactic| (refine' code_def ?k1 ?k2 ?k3 ?k4 ?k5 ?kA ?kF ?kK ?k6 ?k7 ?k8 ?k9 ?kB ?_ ?c2 ?c3 ?c4 ?c5; (case kA => first | assumption | exact fr_in (by assumption) | exact rfl); (case kF => first | assumption | exact rfl); (case kK => first | assumption | exact rfl); (case k1 => k_asm); (case k2 => k_asm); (case k3 => k_asm); (case k4 => k_asm); (case k5 => k_asm); (case k6 => k_is); (case k7 => k_is); (case k8 => ktr_room); (case k9 => first | exact BindsTo.of_eq rfl | exact binds_K (by k_in) rfl (by k_is) rfl rfl rfl); (case c5 => decide); (case kB => exact locs rfl); (case c2 => exact rfl); (case c3 => exact rfl); (case c4 => exact rfl); k_whole; intro g' L' h' FG' F' N' B' X' T'; (try dsimp only); (try k_fold)))
local macro_rules | `(tactic| k_mem) => `(tactic| (first | assumption | (refine List.mem_append_left _ ?_; assumption) | (refine List.mem_append_right _ ?_; assumption) | (refine List.mem_append_right _ ?_; k_mem)))
local macro_rules | `(tactic| walk_at "exec For Name Name cons nil") => `(tactic| (k_here; refine For_ ?_))
local macro_rules | `(tactic| walk_at "exec For Name Subscript cons nil") => `(tactic| (k_here; refine For_ ?_))
local macro_rules | `(tactic| walk_at "call ref") => `(tactic| (k_here; (with_reducible show wpAny _ _ (call (Value.ref 300) _) _ _ _); refine Stop.intro ?_))
local macro_rules | `(tactic| walk_at "compareOp In str ref") => `(tactic| (k_here; k_dflt (first
  | (refine' kin_t (knd := PySem.strKind _ _) ?k1 ?k2 ?k3 ?k4 (strKind_is _ _ _ _) ?k5 ?_; (case k1 => k_asm); (case k2 => k_mem); (case k3 => assumption); (case k4 => assumption); (case k5 => assumption); k_whole)
  | (refine' kin_f (knd := PySem.strKind _ _) ?k1 ?k2 ?k3 ?k4 (strKind_is _ _ _ _) ?k5 ?_; (case k1 => k_asm); (case k2 => k_mem); (case k3 => assumption); (case k4 => assumption); (case k5 => assumption); k_whole))))
local macro_rules | `(tactic| walk_at "compareOp NotIn str ref") => `(tactic| (k_here; k_dflt (first
  | (refine' knin_t (knd := PySem.strKind _ _) ?k1 ?k2 ?k3 ?k4 (strKind_is _ _ _ _) ?k5 ?_; (case k1 => k_asm); (case k2 => k_mem); (case k3 => assumption); (case k4 => assumption); (case k5 => assumption); k_whole)
  | (refine' knin_f (knd := PySem.strKind _ _) ?k1 ?k2 ?k3 ?k4 (strKind_is _ _ _ _) ?k5 ?_; (case k1 => k_asm); (case k2 => k_mem); (case k3 => assumption); (case k4 => assumption); (case k5 => assumption); k_whole))))
local macro_rules | `(tactic| walk_at "subscriptTail") => `(tactic| (k_here; k_dflt (refine' kda_item (knd := PySem.strKind _ _) ?k1 ?k2 ?k3 (strKind_is _ _ _ _) ?k5 ?_; (case k1 => k_asm); (case k2 => k_mem); (case k3 => assumption); (case k5 => assumption); k_whole)))
local macro_rules | `(tactic| walk_at "call builtin:list.remove") => `(tactic| (k_here; (with_reducible show wpAny _ _ (call _ _) _ _ _); refine Stop.intro ?_))
local macro_rules | `(tactic| walk_at "call ref") => `(tactic| (k_here; (with_reducible show wpAny _ _ (call (Value.ref 336) _) _ _ _); k_dflt (refine wpAny_call ?_; ktr_enter)))
local macro_rules | `(tactic| walk_at "exec For Name Name cons cons") => `(tactic| (k_here; refine For_ ?_))
local macro_rules | `(tactic| walk_at "exec For Tuple Subscript cons cons") => `(tactic| (k_here; refine For_ ?_))
local macro_rules | `(tactic| walk_at "exec If") => `(tactic| (k_here; (with_reducible show wpAny _ _ (exec (Stmt.If (Expr.Name _ _) _ _ _) _) _ _ _); refine If_ ?_))
local macro_rules | `(tactic| walk_at "setItem ref str") => `(tactic| (k_here; (with_reducible show wpAny _ _ (setItem _ _ _) _ _ _); refine Stop.intro ?_))
local macro_rules | `(tactic| walk_at "delItem ref str") => `(tactic| (k_here; (with_reducible show wpAny _ _ (delItem _ _) _ _ _); refine Stop.intro ?_))
local macro_rules | `(tactic| walk_at "call builtin:dict.copy") => `(tactic| (k_here; (with_reducible show wpAny _ _ (call _ _) _ _ _); refine Stop.intro ?_))
local macro_rules | `(tactic| walk_at "call builtin:list.append") => `(tactic| (k_here; (with_reducible show wpAny _ _ (call _ _) _ _ _); refine Stop.intro ?_))
local macro_rules | `(tactic| walk_at "call ref") => `(tactic| (k_here; (with_reducible show wpAny _ _ (call (Value.ref 286) _) _ _ _); refine Stop.intro ?_))
local macro_rules | `(tactic| walk_at "call ref") => `(tactic| (k_here; (with_reducible show wpAny _ _ (call (Value.ref 293) _) _ _ _); refine Stop.intro ?_))
local macro_rules | `(tactic| walk_at "call ref") => `(tactic| (k_here; (with_reducible show wpAny _ _ (call (Value.ref 208) _) _ _ _); refine Stop.intro ?_))
local macro_rules | `(tactic| walk_at "call ref") => `(tactic| (k_here; (with_reducible show wpAny _ _ (call (Value.ref (Cn.c _)) _) _ _ _); refine Stop.intro ?_))
local macro_rules | `(tactic| walk_at "getMethod ref") => `(tactic| (k_here; (with_reducible show wpAny _ _ (getMethod (Value.ref _) (PySem.Str.ofString "copy") _) _ _ _); k_dflt (refine' copy_method (knd := PySem.strKind PW _) ?k1 ?k2 ?k3 ?_; (case k1 => k_asm); (case k2 => k_mem); (case k3 => assumption); k_whole)))
local macro_rules | `(tactic| walk_at "assign Tuple") => `(tactic| (k_here; (with_reducible show wpAny _ _ (assign (Expr.Tuple _ _ _) _ (Value.ref _)) _ _ _); k_dflt (refine' unpackN_ ?k1 ?k2 ?k3 ?k4 ?k5 ?k6 ?_; (case k1 => k_asm); (case k2 => k_asm); (case k3 => (refine News.isTup (by k_asm) (by k_mem))); (case k4 => first | assumption | exact rfl); (case k5 => exact rfl); (case k6 => exact rfl); k_whole); intro h' F' N'; (try k_sweep)))
theorem eval_call0 {x name : Str} {px apos pos : Pos} {env : Env} (hpos : (apos.endLine == pos.line) = true) : eval (.Call (.Attribute (.Name x px) name apos) [] [] pos) env = (do
      let ov ← eval (.Name x px) env
      standAt apos.atName
      let (f, first) ← holding [ov] (getMethod ov name (do return (← importBound (.Name x px) env).getD true))
      callWith pos f first (backTo pos (starEach [] env)) (backToKw pos (keywordEach [] env))) := by
  show (do let ov ← eval (.Name x px) env; standAt apos.atName; methodCall (.Name x px) name apos pos env ov 0 (backTo pos (starEach [] env)) (backToKw pos (keywordEach [] env))) = _
  have e : ∀ few, methodCallPos few (.Name x px) env apos pos = pure pos := fun few => by unfold methodCallPos; rw [if_pos (by rw [hpos]; simp)]
  unfold methodCall
  simp only [e]
  rfl
def opAll (f : Ds → Option Ds) : List Nat → List Ds → Option (List Ds)
  | [], ds => some ds
  | v :: r, ds => match ds[v]? with
    | none => none
    | some d => match f d with
      | none => none
      | some d' => opAll f r (ds.set v d')
theorem pushAll_eq : ∀ (l : List Nat) (ds : List Ds), pushAll l ds = opAll Ds.push l ds
  | [], _ => rfl
  | v :: r, ds => by
    unfold pushAll opAll
    cases ds[v]? with
    | none => rfl
    | some d => dsimp only; cases d.push with
      | none => rfl
      | some d' => exact pushAll_eq r _
theorem popAll_eq : ∀ (l : List Nat) (ds : List Ds), popAll l ds = opAll Ds.pop l ds
  | [], _ => rfl
  | v :: r, ds => by
    unfold popAll opAll
    cases ds[v]? with
    | none => rfl
    | some d => dsimp only; cases d.pop with
      | none => rfl
      | some d' => exact popAll_eq r _
section
variable {w : World} {p : Program} {loose : List Str} {mean : ExcName → Option Value} {mg mb : Str → Option Value} {A : Around} {env : Env} {outer : List Env} {A₀ : Around} {base h₀ : Heap} {L : Addr} {m : Str → Option Value} {s : Shared} {E : Value → Shared → Prop}
  {R dyn news : List (Addr × Obj)} {cs : List Dc} {ds ds' : List Ds} {push : List Nat} {pv : Value}
/-- if pushdomains: for domain in pushdomains: domain.pushState() (popState()) -/
theorem dom_loop {mn : Str} {fn : Addr} {f : Ds → Option Ds} {p1 p2 p3 p4 p5 p6 p7 p8 p9 : Pos} {Q : Flow → Shared → Prop} (cx : Cx w p loose mean mg mb A 890 8900 env outer A₀ base h₀ L) (hlc : env.locals = L) (hkd : env.kindOf "domain" = some .local) (hkp : env.kindOf "pushdomains" = some .local)
    (hpos : (p5.endLine == p6.line) = true) (hE : PassesOwn (model PW w) A env E) (F : Fr h₀ L s.heap m) (N : News h₀ L s.heap (R ++ dyn)) (D : Dyn w.params cs ds dyn) (nd : (ads cs).Nodup) (hR : ∀ p ∈ R, p.1 ∉ ads cs)
    (hpv : PvOk cs R pv push) (hmp : m "pushdomains" = some pv) (hm : opAll f push ds = some ds') (hpl : ∀ v ∈ push, ∃ c, cs[v]? = some c)
    (hop : (mn = "pushState" ∧ fn = 286 ∧ f = Ds.push) ∨ (mn = "popState" ∧ fn = 293 ∧ f = Ds.pop))
    (ret : ∀ h' tk' m' dyn', Fr h₀ L h' m' → (∀ y : Str, y ≠ "domain" → m' y = m y) → News h₀ L h' (R ++ dyn') → Dyn w.params cs ds' dyn' → Q .next { s with heap := h', toks := tk' }) :
    wpAny (model PW w) A (exec (.If (.Name "pushdomains" p1) [.For (.Name "domain" p2) (.Name "pushdomains" p3) [.Expr (.Call (.Attribute (.Name "domain" p4) mn p5) [] [] p6) p7] [] p8] [] p9) env) Q E s := by
  subst hlc
  obtain ⟨B, X, T, hk, hf, hd, hu, hfr, hhd⟩ := cx
  have hbind : (env.scope.kind == .class || (env.scope.kind == .module && env.locals != env.globals)) = false := by rw [hk]; rfl
  refine If_ ?_
  refine isTrue_plain (wpAny_Name (wpAny_loadName_local hk hkp F.ns hmp ?_))
  refine pv_truthy N hpv (fun p hp => List.mem_append_left _ hp) (fun tk' => ?_)
  unfold IfThen
  cases hpe : push.isEmpty with
  | true =>
    have hpn : push = [] := by simpa using hpe
    rw [hpn] at hm
    simp only [opAll, Option.some.injEq] at hm
    subst hm
    rw [if_neg (by simp)]
    exact wpAny_execs_nil (ret _ _ _ _ F (fun _ _ => rfl) N D)
  | false =>
    obtain ⟨PL, kPL, rfl, hPL⟩ := hpv.list hpe
    rw [if_pos (by simp)]
    refine wpAny_execs_cons ?_
    refine For_ (wpAny_Name (wpAny_loadName_local hk hkp F.ns hmp ?_))
    refine iter_list (o := default) F N (N _ (List.mem_append_left _ hPL)).1 (fun I4 h' F22 N22 hI4 hk4 => ?_)
    have hDn := (hR : ∀ p ∈ R, p.1 ∉ ads cs)
    refine loop_list (I := I4) (l := PL) push.length (fun j m₂ news₂ => ∃ dyn4 ds4, news₂ = R ++ dyn4 ∧ Dyn w.params cs ds4 dyn4 ∧ opAll f (push.drop j) ds4 = some ds' ∧ ∀ y : Str, y ≠ "domain" → m₂ y = m y) go_name ?hE hhd F22 N22 ?h0 ?h1 ?h2
    case hE => exact hE
    case h0 => exact ⟨_, _, rfl, D, hm, fun _ _ => rfl⟩
    case h1 =>
      rintro j m₂ news₂ h ⟨dyn4, ds4, rfl, D4, _⟩ N4
      exact ne_app (fun p hp => hI4 p (List.mem_append_left _ hp)) (D4.ne (D.notin fun q hq => hI4 q (List.mem_append_right _ hq)))
    case h2 =>
      rintro j m₂ news₂ h₂ tk₂ ⟨dyn4, ds4, rfl, D4, hS4, H4⟩ F4 N4
      refine ⟨push.map (xr cs), ⟨_, _, (N4 _ (.tail _ (List.mem_append_left _ hPL))).1, rfl⟩, ?_⟩
      rw [List.getElem?_map]
      cases hj : push[j]? with
      | none =>
        dsimp only [Option.map]
        intro h₃ F5 N5
        rw [drop_none hj] at hS4
        simp only [opAll, Option.some.injEq] at hS4
        subst hS4
        refine wpAny_execs_nil (wpAny_execs_nil ?_)
        exact ret _ _ _ _ F5 H4 N5 D4
      | some v =>
        dsimp only [Option.map]
        obtain ⟨hltj, hdrj⟩ := drop_some hj
        refine ⟨hltj, fun h₃ F5 N5 => ?_⟩
        rw [hdrj] at hS4
        simp only [opAll] at hS4
        obtain ⟨c5, hc5⟩ := hpl v (List.mem_of_getElem? hj)
        obtain ⟨d5, hd5⟩ := get_same D4.len.symm hc5
        rw [hd5] at hS4
        dsimp only at hS4
        cases hpu : f d5 with
        | none => rw [hpu] at hS4; cases hS4
        | some d6 =>
        rw [hpu] at hS4
        dsimp only at hS4
        rw [xr_at hc5]
        obtain ⟨e5, hx5', hdx5'⟩ := D4.there hc5 hd5
        have hIn : I4 ∉ ads cs := D.notin fun q hq => hI4 q (List.mem_append_right _ hq)
        refine wpAny_assign_Name (wpAny_storeName_local hkd F5.ns (fun h6 hn6 hs6 => ?_) hbind)
        have F6 := F5.set hn6 hs6
        have N6 := N5.set hs6
        have hx5 : (c5.x, domO c5.dx (iv d5.vs).toArray e5) ∈ R ++ dyn4 := List.mem_append_right _ hx5'
        have hdx5 : (c5.dx, domD w.params c5.t1 c5.t2 c5.hd c5.st c5.e2) ∈ R ++ dyn4 := List.mem_append_right _ hdx5'
        have fin : ∀ h' tk' dyn', Fr h₀ env.locals h' (fun x => if x = "domain" then some (.ref c5.x) else m₂ x) → News h₀ env.locals h' (((I4, itO PL (j + 1)) :: R) ++ dyn') → Dyn w.params cs (ds4.set v d6) dyn' →
            Out (At h₀ env.locals { s with toks := tk' } (I4, itO PL (j + 1)) (fun m₂ news₂ => ∃ dyn4 ds4, news₂ = R ++ dyn4 ∧ Dyn w.params cs ds4 dyn4 ∧ opAll f (push.drop (j + 1)) ds4 = some ds' ∧ ∀ y : Str, y ≠ "domain" → m₂ y = m y)) (fun f s' => match f with | .next => wpAny (model PW w) A (execs [] env) Q E s' | f => Q f s') .next { s with heap := h', toks := tk' } := fun h' tk' dyn' F7 N7 D7 =>
          ⟨_, _, _, _, rfl, F7, N7, _, _, rfl, D7, hS4, fun y hy => (if_neg hy).trans (H4 y hy)⟩
        rcases hop with ⟨rfl, rfl, rfl⟩ | ⟨rfl, rfl, rfl⟩
        · refine wpAny_execs_cons (wpAny_Expr_any (methodCall_KW (wpAny_Name (wpAny_loadName_local hk hkd F6.ns (v := .ref c5.x) (by simp) ?_)) (he := eval_call0 hpos)) (by simp [interactive, hk]))
          k_steps
          refine push_D (i := v) ⟨B, X, T, hk, hf, by omega, by omega, hfr, hhd⟩ F6 N6 (.cons _ (.base _)) D4 nd (List.forall_mem_cons.mpr ⟨hIn, hR⟩) hc5 hd5 hpu (fun h' tk' dyn7 F7 N7 D7 => ?_)
          k_steps
          exact fin _ _ _ F7 N7 D7
        · refine wpAny_execs_cons (wpAny_Expr_any (methodCall_KW (wpAny_Name (wpAny_loadName_local hk hkd F6.ns (v := .ref c5.x) (by simp) ?_)) (he := eval_call0 hpos)) (by simp [interactive, hk]))
          k_steps
          refine pop_D (i := v) ⟨B, X, T, hk, hf, by omega, by omega, hfr, hhd⟩ F6 N6 (.cons _ (.base _)) D4 nd (List.forall_mem_cons.mpr ⟨hIn, hR⟩) hc5 hd5 hpu (fun h' tk' dyn7 F7 N7 D7 => ?_)
          k_steps
          exact fin _ _ _ F7 N7 D7
end
end Mine
end
section
open PySem PySem.W PySem.W.X PyProof.Rows PySem.Calls PySem.Spec
set_option Elab.async false
set_option maxRecDepth 100000
set_option maxHeartbeats 8000000
namespace Mine
/-- BacktrackingSolver.getSolutionIter, in plain Lean -/
structure QE where
  v : Nat
  vals : List (Int × Tok)
  push : List Nat
def setA (asg : Asg) (v : Nat) (x : Int × Tok) : Asg := if (lk asg v).isSome then asg.map (fun p => if p.1 = v then (v, x) else p) else asg ++ [(v, x)]
def delA (asg : Asg) (v : Nat) : Asg := asg.filter fun p => decide (p.1 ≠ v)
def btBack : List QE → Asg → List Ds → Option (Option (QE × List QE × Asg × List Ds))
  | [], _, _ => some none
  | e :: q, asg, ds => match popAll e.push ds with
    | none => none
    | some ds' => if e.vals.isEmpty then (if (lk asg e.v).isSome then btBack q (delA asg e.v) ds' else none) else some (some (e, q, asg, ds'))
def btFill (cur : QE) (q : List QE) (asg : Asg) (ds : List Ds) : Option (Option (QE × List QE × Asg × List Ds)) :=
  if cur.vals.isEmpty then (if (lk asg cur.v).isSome then btBack q (delA asg cur.v) ds else none) else some (some (cur, q, asg, ds))
abbrev BtS := QE × List QE × Asg × List Ds
abbrev ConF := Asg → Bool → Nat → List Ds → Option (Bool × List Ds)
/-- a value tried -/
def btTry (con : ConF) (rec : BtS → Option (Option BtS)) (cur : QE) (q : List QE) (asg : Asg) (ds : List Ds) : Option (Option BtS) := match cur.vals.getLast? with
  | none => none
  | some x => if cur.vals.length ≤ 400 then match pushAll cur.push ds with
    | none => none
    | some ds1 => match con (setA asg cur.v x) (!cur.push.isEmpty) cur.v ds1 with
      | none => none
      | some (true, ds2) => some (some ({ cur with vals := cur.vals.dropLast }, q, setA asg cur.v x, ds2))
      | some (false, ds2) => match popAll cur.push ds2 with
        | none => none
        | some ds3 => rec ({ cur with vals := cur.vals.dropLast }, q, setA asg cur.v x, ds3) else none
/-- the inner loop -/
def btIn (con : ConF) : Nat → BtS → Option (Option BtS)
  | 0, _ => none
  | f + 1, (cur, q, asg, ds) => if asg.length ≤ 400 ∧ q.length ≤ 400 then match btFill cur q asg ds with
    | none => none
    | some none => some none
    | some (some (cur, q, asg, ds)) => btTry con (btIn con f) cur q asg ds else none
/-- the outer loop: what is yielded -/
def btOut (n : Nat) (con : ConF) (key : List Ds → Nat → Int × Int) (fcOn : Bool) : Nat → List QE → Asg → List Ds → Option (List Asg)
  | 0, _, _, _ => none
  | f + 1, q, asg, ds => if ds.all (fun d => decide (d.vs.length ≤ 500)) && decide (asg.length ≤ 400) && decide (q.length ≤ 400) then
      match least (keyLt (key ds)) (fun i => (lk asg i).isNone) (List.range n) with
      | some v => (match btIn con 400 (⟨v, (ds[v]?.map (·.vs)).getD [], if fcOn then others n asg v else []⟩, q, asg, ds) with
        | none => none
        | some none => some []
        | some (some (cur, q, asg, ds)) => btOut n con key fcOn f (cur :: q) asg ds)
      | none => (match q with
        | [] => some [asg]
        | e :: q => match popAll e.push ds with
          | none => none
          | some ds' => match btIn con 400 (e, q, asg, ds') with
            | none => none
            | some none => some [asg]
            | some (some (cur, q, asg', ds)) => (btOut n con key fcOn f (cur :: q) asg' ds).map (asg :: ·))
    else none
/-- a queue's entry and where it lies -/
structure QX where
  e : QE
  T : Addr
  VL : Addr
  t : Tok
  k : Nat
  pv : Value
def QX.ve (x : QX) : Addr × Obj := (x.VL, listOf (iv x.e.vals).toArray x.k)
abbrev btA (AA AQ : Addr) (cs : List Dc) (l : List QX) : List Addr := AA :: AQ :: (l.map QX.VL ++ ads cs)
abbrev btY (AA AQ : Addr) (oa : Obj) (kq : Nat) (qx cur : List QX) : List (Addr × Obj) := (AA, oa) :: (AQ, listOf (qx.reverse.map fun e => Value.ref e.T).toArray kq) :: (cur ++ qx).map QX.ve
/-- the objects of a search -/
structure BtX (w : World) (nm : Nat → Str) (AA AQ : Addr) (cs : List Dc) (asg : Asg) (qx cur : List QX) (ds : List Ds) (oa : Obj) (kq : Nat) (dyn : List (Addr × Obj)) : Prop where
  a : oa.IsDictOf (PySem.strKind PW w) (asgKv nm asg)
  d : Dyn w.params cs ds dyn
  nd : (btA AA AQ cs (cur ++ qx)).Nodup
/-- what is not of them -/
def OffL (Lo : List (Addr × Obj)) (as : List Addr) : Prop := ∀ p ∈ Lo, p.1 ∉ as
/-- an entry's tuple and its Domains -/
structure QOk (nm : Nat → Str) (cs : List Dc) (Lo : List (Addr × Obj)) (x : QX) : Prop where
  tp : (x.T, ({ cls := .type "tuple", data := .seq #[.str (nm x.e.v) x.t, .ref x.VL, x.pv] } : Obj)) ∈ Lo
  pv : PvOk cs Lo x.pv x.e.push
  pl : ∀ i ∈ x.e.push, ∃ c, cs[i]? = some c
  vl : x.e.v < cs.length
theorem PvOk.mono {cs : List Dc} {l l' : List (Addr × Obj)} {pv : Value} {push : List Nat} (h : PvOk cs l pv push) (hs : ∀ p ∈ l, p ∈ l') : PvOk cs l' pv push := by
  rcases h with h | ⟨a, b, c, d, e⟩
  · exact .inl h
  · exact .inr ⟨a, b, c, hs _ d, e⟩
theorem QOk.mono {nm : Nat → Str} {cs : List Dc} {l l' : List (Addr × Obj)} {x : QX} (h : QOk nm cs l x) (hs : ∀ p ∈ l, p ∈ l') : QOk nm cs l' x := ⟨hs _ h.tp, h.pv.mono hs, h.pl, h.vl⟩
theorem stored_asg {nm : Nat → Str} (inj : Function.Injective nm) (asg : Asg) (v : Nat) (x : Int × Tok) : stored (asgKv nm asg) (nm v) (.int x.1 x.2) = asgKv nm (setA asg v x) := by
  unfold setA
  have hv := valueAt_asg inj v asg
  cases h : lk asg v with
  | none =>
    rw [h] at hv
    rw [stored_new hv, if_neg (by simp)]
    simp [asgKv]
  | some y =>
    rw [h] at hv
    rw [if_pos (by simp)]
    unfold stored
    rw [if_pos]
    · simp only [asgKv, List.map_map]
      refine List.map_congr_left fun p _ => ?_
      simp only [Function.comp]
      by_cases hp : p.1 = v
      · rw [if_pos (by rw [hp]), if_pos hp, hp]
      · rw [if_neg (fun e => hp (inj e)), if_neg hp]
    · simp only [List.any_eq_true, decide_eq_true_eq]
      unfold valueAt at hv
      cases hf : (asgKv nm asg).find? (fun kv => decide (kv.1 = nm v)) with
      | none => rw [hf] at hv; cases hv
      | some q => exact ⟨q, List.mem_of_find?_eq_some hf, by simpa using List.find?_some hf⟩
theorem without_asg {nm : Nat → Str} (inj : Function.Injective nm) (asg : Asg) (v : Nat) : without (asgKv nm asg) (nm v) = asgKv nm (delA asg v) := by
  unfold without delA asgKv
  rw [List.filter_map]
  congr 1
  refine List.filter_congr fun p _ => ?_
  simp only [Function.comp, ne_eq, decide_not]
  congr 1
  exact decide_eq_decide.mpr ⟨fun e => inj e, fun e => by rw [e]⟩
section
variable {w : World} {A : Around} {E : Value → Shared → Prop} {s : Shared} {h₀ : Heap} {L AA AQ : Addr} {m : Str → Option Value} {nm : Nat → Str} {cs : List Dc} {ds ds' : List Ds} {asg : Asg} {qx cur : List QX} {Lo dyn : List (Addr × Obj)} {oa : Obj} {kq : Nat}
theorem ve_fst (l : List QX) : (l.map QX.ve).map (·.1) = l.map QX.VL := by rw [List.map_map]; rfl
theorem bt_fst (B : BtX w nm AA AQ cs asg qx cur ds oa kq dyn) : (btY AA AQ oa kq qx cur ++ dyn).map (·.1) = btA AA AQ cs (cur ++ qx) := by
  rw [List.map_append, B.d.fst]
  show AA :: AQ :: _ ++ _ = _
  rw [ve_fst]; simp [btA]
/-- an entry taken out of the ledger -/
theorem bt_out {h : Heap} {p : Addr × Obj} {X pre post : List (Addr × Obj)} (N : News h₀ L h (Lo ++ X)) (hX : X = pre ++ p :: post) (nd : (X.map (·.1)).Nodup) (off : ∀ q ∈ Lo, q.1 ∉ X.map (·.1)) :
    News h₀ L h (p :: (Lo ++ (pre ++ post))) ∧ (∀ q ∈ Lo ++ (pre ++ post), q.1 ≠ p.1) := by
  subst hX
  refine ⟨news_sub N fun q hq => by simp only [List.mem_cons, List.mem_append] at hq ⊢; grind, fun q hq e => ?_⟩
  rcases List.mem_append.mp hq with hq | hq
  · exact off q hq (by rw [e]; simp)
  · rw [List.map_append, List.map_cons] at nd
    have n2 := List.nodup_append.mp nd
    have n3 := List.nodup_cons.mp n2.2.1
    rcases List.mem_append.mp hq with hq | hq
    · exact n2.2.2 _ (List.mem_map_of_mem hq) _ (.head _) e
    · exact n3.1 (e ▸ List.mem_map_of_mem hq)
theorem bt_back {h : Heap} {p : Addr × Obj} {pre post : List (Addr × Obj)} (N : News h₀ L h (p :: (Lo ++ (pre ++ post)))) : News h₀ L h (Lo ++ (pre ++ p :: post)) :=
  news_sub N fun q hq => by simp only [List.mem_cons, List.mem_append] at hq ⊢; grind
theorem bt_off' (B : BtX w nm AA AQ cs asg qx cur ds oa kq dyn) (off : OffL Lo (btA AA AQ cs (cur ++ qx))) : ∀ q ∈ Lo, q.1 ∉ (btY AA AQ oa kq qx cur ++ dyn).map (·.1) := by rw [bt_fst B]; exact off
theorem bt_nd' (B : BtX w nm AA AQ cs asg qx cur ds oa kq dyn) : ((btY AA AQ oa kq qx cur ++ dyn).map (·.1)).Nodup := by rw [bt_fst B]; exact B.nd
theorem bt_set {t : Tok} {i : Nat} {x : Int × Tok} {Q : Unit → Shared → Prop} (inj : Function.Injective nm) (F : Fr h₀ L s.heap m) (N : News h₀ L s.heap (Lo ++ (btY AA AQ oa kq qx cur ++ dyn))) (B : BtX w nm AA AQ cs asg qx cur ds oa kq dyn) (off : OffL Lo (btA AA AQ cs (cur ++ qx))) (hsz : asg.length ≤ 500)
    (h : ∀ h' oa' tk', Fr h₀ L h' m → News h₀ L h' (Lo ++ (btY AA AQ oa' kq qx cur ++ dyn)) → BtX w nm AA AQ cs (setA asg i x) qx cur ds oa' kq dyn → Q () { s with heap := h', toks := tk' }) :
    wpAny (model PW w) A (setItem (.ref AA) (.str (nm i) t) (.int x.1 x.2)) Q E s := by
  obtain ⟨N1, ne1⟩ := bt_out (pre := []) N rfl (bt_nd' B) (bt_off' B off)
  refine kda_set (knd := PySem.strKind PW w) F N1 (.head ne1) B.a (strKind_is _ _ _ _) (by rw [sizeLine_eq, List.length_map]; omega) fun h' o' F' N' hd => ?_
  rw [stored_asg inj] at hd
  exact h h' o' _ F' (bt_back (pre := []) N') { B with a := hd }
theorem bt_del {t : Tok} {i : Nat} {Q : Unit → Shared → Prop} (inj : Function.Injective nm) (F : Fr h₀ L s.heap m) (N : News h₀ L s.heap (Lo ++ (btY AA AQ oa kq qx cur ++ dyn))) (B : BtX w nm AA AQ cs asg qx cur ds oa kq dyn) (off : OffL Lo (btA AA AQ cs (cur ++ qx))) (hsz : asg.length ≤ 500) (hl : (lk asg i).isSome = true)
    (h : ∀ h' oa' tk', Fr h₀ L h' m → News h₀ L h' (Lo ++ (btY AA AQ oa' kq qx cur ++ dyn)) → BtX w nm AA AQ cs (delA asg i) qx cur ds oa' kq dyn → Q () { s with heap := h', toks := tk' }) :
    wpAny (model PW w) A (delItem (.ref AA) (.str (nm i) t)) Q E s := by
  obtain ⟨N1, ne1⟩ := bt_out (pre := []) N rfl (bt_nd' B) (bt_off' B off)
  refine kob_del (knd := PySem.strKind PW w) F N1 (.head ne1) B.a (strKind_is _ _ _ _) (by rw [valueAt_asg inj]; simpa using hl) (by rw [sizeLine_eq, List.length_map]; omega) fun h' o' F' N' hd => ?_
  rw [without_asg inj] at hd
  exact h h' o' _ F' (bt_back (pre := []) N') { B with a := hd }
/-- values.pop() -/
theorem bt_vpop {x : QX} {l : List (Int × Tok)} {y : Int × Tok} {Q : Value → Shared → Prop} (F : Fr h₀ L s.heap m) (N : News h₀ L s.heap (Lo ++ (btY AA AQ oa kq qx [x] ++ dyn))) (B : BtX w nm AA AQ cs asg qx [x] ds oa kq dyn) (off : OffL Lo (btA AA AQ cs ([x] ++ qx))) (hl : x.e.vals = l ++ [y]) (hsz : l.length ≤ 500)
    (h : ∀ h', Fr h₀ L h' m → News h₀ L h' (Lo ++ (btY AA AQ oa kq qx [{ x with e := { x.e with vals := l }, k := x.k + 1 }] ++ dyn)) → BtX w nm AA AQ cs asg qx [{ x with e := { x.e with vals := l }, k := x.k + 1 }] ds oa kq dyn → Q (.int y.1 y.2) { s with heap := h' }) :
    wpAny (model PW w) A (call (.builtin "list.pop") [.ref x.VL]) Q E s := by
  obtain ⟨N1, ne1⟩ := bt_out (pre := [(AA, oa), (AQ, _)]) (p := x.ve) (post := qx.map QX.ve ++ dyn) N rfl (bt_nd' B) (bt_off' B off)
  have e1 : x.ve = (x.VL, listOf (iv (l ++ [(y.1, y.2)])).toArray x.k) := by unfold QX.ve; rw [hl]
  rw [e1] at N1
  refine pop_iv F N1 (.head ne1) (by omega) fun h' F' N' => ?_
  exact h h' F' (bt_back (pre := [(AA, oa), (AQ, _)]) N') { B with nd := B.nd }
/-- queue.pop() -/
theorem bt_qpop {x : QX} {Q : Value → Shared → Prop} (F : Fr h₀ L s.heap m) (N : News h₀ L s.heap (Lo ++ (btY AA AQ oa kq (x :: qx) [] ++ dyn))) (B : BtX w nm AA AQ cs asg (x :: qx) [] ds oa kq dyn) (off : OffL Lo (btA AA AQ cs ([] ++ x :: qx))) (hsz : qx.length ≤ 500)
    (h : ∀ h', Fr h₀ L h' m → News h₀ L h' (Lo ++ (btY AA AQ oa (kq + 1) qx [x] ++ dyn)) → BtX w nm AA AQ cs asg qx [x] ds oa (kq + 1) dyn → Q (.ref x.T) { s with heap := h' }) :
    wpAny (model PW w) A (call (.builtin "list.pop") [.ref AQ]) Q E s := by
  obtain ⟨N1, ne1⟩ := bt_out (pre := [(AA, oa)]) (p := (AQ, _)) (post := (x :: qx).map QX.ve ++ dyn) N rfl (bt_nd' B) (bt_off' B off)
  refine kl_pop (p := qx.reverse.map fun e => Value.ref e.T) (y := .ref x.T) F N1 (by simp only [List.reverse_cons, List.map_append, List.map_cons, List.map_nil]; exact kpa_last _ _) (.head ne1) (by simp; rw [sizeLine_eq]; omega) fun h' F' N' => ?_
  exact h h' F' (bt_back (pre := [(AA, oa)]) N') { B with nd := B.nd }
/-- queue.append(..) -/
theorem bt_qapp {x : QX} {T : Addr} {t : Tok} {Q : Value → Shared → Prop} (F : Fr h₀ L s.heap m) (N : News h₀ L s.heap (Lo ++ (btY AA AQ oa kq qx [x] ++ dyn))) (B : BtX w nm AA AQ cs asg qx [x] ds oa kq dyn) (off : OffL Lo (btA AA AQ cs ([x] ++ qx))) (hsz : qx.length ≤ 500)
    (h : ∀ h', Fr h₀ L h' m → News h₀ L h' (Lo ++ (btY AA AQ oa (kq + 1) ({ x with T := T, t := t } :: qx) [] ++ dyn)) → BtX w nm AA AQ cs asg ({ x with T := T, t := t } :: qx) [] ds oa (kq + 1) dyn → Q .none { s with heap := h' }) :
    wpAny (model PW w) A (call (.builtin "list.append") [.ref AQ, .ref T]) Q E s := by
  obtain ⟨N1, ne1⟩ := bt_out (pre := [(AA, oa)]) (p := (AQ, _)) (post := ([x] ++ qx).map QX.ve ++ dyn) N rfl (bt_nd' B) (bt_off' B off)
  refine append_K F N1 (.head ne1) (fun h' F' N' => ?_) (by simp; rw [sizeLine_eq]; omega)
  refine h h' F' (news_sub (bt_back (pre := [(AA, oa)]) N') fun p hp => ?_) { B with nd := B.nd }
  have e : ((qx.reverse.map fun e => Value.ref e.T).toArray.push (.ref T)) = ((({ x with T := T, t := t } : QX) :: qx).reverse.map fun e => Value.ref e.T).toArray := by simp
  rw [e]
  exact hp
end
end Mine
end
section
open PySem PySem.W PySem.W.X PyProof.Rows PySem.Calls PySem.Spec
set_option Elab.async false
set_option maxRecDepth 100000
set_option maxHeartbeats 8000000
namespace Mine
open PyProof.Rows.LCg
theorem cells_above {cm : Str → Option Value} {L : Addr} : ∀ {cs : List (Str × Addr)} {cells : List (Addr × Obj)}, CellsAre cm cs cells → (∀ n c, (n, c) ∈ cs → L < c) → ∀ p ∈ cells, L < p.1
  | _, _, .nil, _, _, h => nomatch h
  | _, _, .cons _ X, H, p, h => by
    rcases List.mem_cons.mp h with rfl | h
    · exact H _ _ (.head _)
    · exact cells_above X (fun n c hm => H n c (.tail _ hm)) p h
/-- a generator's object -/
abbrev genO (gi : Nat) (name qual : Str) (t1 t2 : Tok) : Obj := { cls := .type "generator", data := .fields #[.int gi 0, .str name t1, .str qual t2] }
section
variable {prog : Program} {w : World} {A A₀ : Around} {s : Shared} {K : Frag} {L : Addr} {h₀ base : Heap} {m mg mb : Str → Option Value} {news : List (Addr × Obj)} {p : Program} {loose : List Str} {mean : ExcName → Option Value}
theorem code_genC {R : Result → Shared → Prop} {name qual : Str} {params : Arguments} {body : List Stmt} {scope : Scope} {dV kV doc pm cdv ct oc : Value} {an od : Option Addr} {osl : Array (Option Value)} {f : Addr} {args : Args} {binds : List (Str × Value)}
    (F : Fr h₀ L s.heap m) (X₀ : K.In h₀) (N : News h₀ L s.heap news) (T : Top p loose mean mg mb h₀)
    (ho : K.lookup f = some ⟨oc, od, .func (fnOf name qual params body scope dV kV doc pm an cdv ct), osl⟩) (hcd : codeIn K cdv qual = true) (hroom : A.depth < recursionLimit)
    (hbind : BindsTo s (fnOf name qual params body scope dV kV doc pm an cdv ct) args binds) (hkind : (binds.all fun y => scope.names.lookup y.1 == some .local || scope.names.lookup y.1 == some .cell) = true)
    (hnd : ((cellsFrom 0 scope.names []).map (·.1)).Nodup)
    (h : ∀ Lg AG h₁ tk oF cells t1 t2, NsObj oF (bindL (envOfC qual scope Lg f cdv).kindOf binds fun _ => none) → Fr h₀ L h₁ m → News h₀ L h₁ ((AG, genO s.gens.size name qual t1 t2) :: (Lg, oF) :: (cells ++ news)) →
      CellsAre (bindC (envOfC qual scope Lg f cdv).kindOf binds fun _ => none) (cellsFrom (Lg + 1) scope.names []) cells → (∀ p ∈ news, p.1 < Lg) → (∀ p ∈ (Lg, oF) :: (cells ++ news), p.1 < AG) → @LT.lt Nat _ L Lg → (∀ p ∈ cells, @LT.lt Nat _ Lg p.1) →
      R (.ok (.ret (.ref AG))) { s with gens := s.gens.push (.fresh (.func body (envOfC qual scope Lg f cdv))), heap := h₁, toks := tk })
    (hco : scope.isCoroutine = false) (hgen : scope.isGenerator = true) (hk : scope.kind = .function) : codeAny (model prog w) A (.call (.ref f) args) R s := by
  have hlim : h₀.NoLimit := T.nolimit
  refine codeAny_call_generator (fd := fnOf name qual params body scope dV kV doc pm an cdv ct) hroom ((X₀.keeps F.keep) _ _ ho) rfl hco hgen rfl (codeRec_of (X₀.keeps F.keep) hcd) (hbind _ _ _ _ ?_)
  refine wpAny_newFunctionEnv_cells hk (kindsX hkind _) fun env' he s' x => ?_
  subst he
  refine ⟨(hlim.keeps F.keep).keeps x.toInCall.keep, ?_⟩
  obtain ⟨h₁, tk, rfl, _⟩ := x.done
  have hk₁ := x.toInCall.keep
  obtain ⟨cells, NC, Y⟩ := Cl.news (h₀ := s.heap) (Nat.le_refl _) fun n c hm => ⟨x.cell n c (lookup_of_mem_nodup (cellsFrom_names scope.names 0 (s.heap.objs.size + 1) [] [] rfl ▸ hnd) hm), x.above n c hm⟩
  obtain ⟨oF, hoF, nsF⟩ := ns_obj x.toInCall.ns
  have F1 : Fr h₀ L h₁ m := F.keeps hk₁
  have hLlt : L < s.heap.objs.size := F.ns.lt
  have fresh : ∀ a, s.heap.objs.size ≤ a → h₀.get? a = none := fun a ha => Heap.get?_none_of_le (Nat.le_trans F.above (Nat.le_trans (Nat.le_of_lt hLlt) ha))
  have NC' : ∀ p ∈ cells, @LT.lt Nat _ s.heap.objs.size p.1 := fun p hp => cells_above (L := s.heap.objs.size) Y (fun n c hm => x.above n c hm) p hp
  have N1 : News h₀ L h₁ ((s.heap.objs.size, oF) :: (cells ++ news)) := by
    intro p hp
    rcases List.mem_cons.mp hp with rfl | hp
    · exact ⟨hoF, Nat.ne_of_gt hLlt, fresh _ (Nat.le_refl _)⟩
    rcases List.mem_append.mp hp with hp | hp
    · exact ⟨(NC p hp).1, Nat.ne_of_gt (Nat.lt_trans hLlt (NC' p hp)), fresh _ (Nat.le_of_lt (NC' p hp))⟩
    · exact ⟨hk₁ _ _ (N p hp).1, (N p hp).2⟩
  have N2 := N1.push F1 (genO s.gens.size name qual tk (tk + 1))
  refine h s.heap.objs.size h₁.objs.size _ _ oF cells _ _ nsF (F1.push _) N2 Y (fun p hp => Heap.lt_size (N p hp).1) (fun p hp => Heap.lt_size (N1 p hp).1) hLlt NC'
end
end Mine
end
section
open PySem PySem.W PySem.W.X PyProof.Rows PySem.Calls PySem.Spec
set_option Elab.async false
set_option maxRecDepth 100000
set_option maxHeartbeats 8000000
namespace Mine
open PyProof.Rows.LCg
def freedO : Obj := { cls := .type "object", data := .freed }
def putAt (h : Heap) (L : Addr) (o : Obj) : Heap := { h with objs := (Array.range (L + 1)).map fun (i : Nat) => if i = (L : Nat) then o else ((h.objs[i]?).getD freedO) }
theorem putAt_size (h : Heap) (L : Addr) (o : Obj) : (putAt h L o).objs.size = L + 1 := by simp [putAt]
theorem get?_eq {h : Heap} {b : Addr} : h.get? b = match h.objs[b]? with | some ⟨_, _, .freed, _⟩ => none | o => o := rfl
theorem putAt_self {h h' : Heap} {L : Addr} {o : Obj} (e : h'.get? L = some o) : (putAt h L o).get? L = some o := by
  have hlt : (L : Nat) < L + 1 := Nat.lt_succ_self _
  have e1 : (putAt h L o).objs[(L : Nat)]? = some o := by simp [putAt]
  rw [get?_eq] at e ⊢
  have e1 : (putAt h L o).objs[L]? = some o := e1
  rw [e1]
  cases hq : h'.objs[L]? with
  | none => rw [hq] at e; cases e
  | some q =>
    rw [hq] at e
    obtain ⟨c, d, dt, sl⟩ := q
    cases dt <;> simp at e <;> subst e <;> rfl
theorem putAt_ne {h : Heap} {L b : Addr} {o : Obj} (hs : h.objs.size ≤ L) (hb : b ≠ L) : (putAt h L o).get? b = h.get? b := by
  rw [get?_eq, get?_eq]
  rcases Nat.lt_or_ge b (L + 1) with hlt | hge
  · have e1 : (putAt h L o).objs[b]? = some ((h.objs[b]?).getD freedO) := by
      have hlt' : @LT.lt Nat _ b (L + 1) := hlt
      have hb' : ¬ @Eq Nat b L := hb
      simp only [putAt, Array.getElem?_map, Array.getElem?_range, hlt', if_true, Option.map_some, hb', if_false]
    rw [e1]
    cases h.objs[b]? with
    | none => rfl
    | some q => rfl
  · have e1 : (putAt h L o).objs[b]? = none := Array.getElem?_eq_none (by rw [putAt_size]; exact hge)
    have e2 : h.objs[b]? = none := Array.getElem?_eq_none (Nat.le_trans hs (Nat.le_of_lt (Nat.lt_of_succ_le hge)))
    rw [e1, e2]
theorem groundG {A A₀ : Around} {base h₀ h : Heap} {outer : List Env} {env : Env} {L : Addr} {m : Str → Option Value} (B : Below A₀ base outer h₀) (F : Fr h₀ L h m) (hA : A.frames = some (env :: outer)) (hf : env.frame = some L) (hke : env.scope.kind = .function) :
    ∃ g, Fr h₀ L g m ∧ Below A base (env :: outer) g ∧ h₀.StaysIn g ∧ g.objs.size = L + 1 ∧ (∀ b o, g.get? b = some o → h.get? b = some o) ∧ (∀ b, b ≠ L → g.get? b = h₀.get? b) := by
  obtain ⟨oL, es, ep, hL, hLd, hLk, hLf⟩ := F.ns
  have z := putAt_self (h := h₀) hL
  have ne : ∀ b, b ≠ L → (putAt h₀ L oL).get? b = h₀.get? b := fun b hb => putAt_ne F.above hb
  have st : h₀.StaysIn (putAt h₀ L oL) := fun b o e => (ne b fun q => by rw [q, Heap.get?_none_of_le F.above] at e; cases e).trans e
  have FG : Fr h₀ L (putAt h₀ L oL) m := ⟨⟨oL, es, ep, z, hLd, hLk, hLf⟩, st, F.above⟩
  have B₁ := pushX B FG hf hke
  refine ⟨putAt h₀ L oL, FG, ⟨hA, fun b o e => st b o (B.stays b o e), B₁.frames⟩, st, putAt_size .., fun b o e => ?_, ne⟩
  by_cases hb : b = L
  · subst hb; rw [z] at e; cases e; exact hL
  · rw [ne b hb] at e; exact F.keep b o e
/-- what a woken generator stands on -/
structure GCx (w : World) (p : Program) (loose : List Str) (mean : ExcName → Option Value) (mg mb : Str → Option Value) (A : Around) (g : Heap) : Prop where
  B : ∃ base outer, Below A base outer g
  X : (hd.heap_39 w.params).In g
  T : Top p loose mean mg mb g
  hh : A.handled = none
  d : A.depth ≤ 700
  u : A.units ≤ 7000
/-- a generator that is still to yield these -/
def GRdy (w : World) (p : Program) (loose : List Str) (mean : ExcName → Option Value) (mg mb : Str → Option Value) (nm : Nat → Str) (R₀ : List (Addr × Obj)) (Lg : Addr) : List Asg → (Str → Option Value) → List (Addr × Obj) → GenState → Prop
  | [], m, own, gs => ∀ (A : Around) (g : Heap) (rest : List (Addr × Obj)) (s : Shared) (Φ : End → Shared → Prop), GCx w p loose mean mg mb A g → Fr g Lg s.heap m → News g Lg s.heap (own ++ rest) → (∀ q ∈ rest, q.1 ∉ own.map (·.1)) → (∀ q ∈ R₀, q ∈ rest) →
      (∀ h' tk' m', Fr g Lg h' m' → News g Lg h' rest → Φ (.ret (.ok (.ret .none))) { s with heap := h', toks := tk' }) → GenGo (model PW w) A Φ gs (.send .none) s
  | y :: ys, m, own, gs => ∀ (A : Around) (g : Heap) (rest : List (Addr × Obj)) (s : Shared) (Φ : End → Shared → Prop), GCx w p loose mean mg mb A g → Fr g Lg s.heap m → News g Lg s.heap (own ++ rest) → (∀ q ∈ rest, q.1 ∉ own.map (·.1)) → (∀ q ∈ R₀, q ∈ rest) →
      (∀ h' tk' m' own' a o e, Fr g Lg h' m' → News g Lg h' ((a, o) :: (own' ++ rest)) → (∀ q ∈ (a, o) :: rest, q.1 ∉ own'.map (·.1)) → (∀ q ∈ rest, @LT.lt Nat _ q.1 a) → o.IsDictOf (PySem.strKind PW w) (asgKv nm y) → e.quiet = true → (∃ gd l k c p fs, e = .susp (.ref a) gd l k c p fs) →
        GRdy w p loose mean mg mb nm R₀ Lg ys m' own' e.genState → Φ e { s with heap := h', toks := tk' }) → GenGo (model PW w) A Φ gs (.send .none) s
def GPost (w : World) (p : Program) (loose : List Str) (mean : ExcName → Option Value) (mg mb : Str → Option Value) (nm : Nat → Str) (R₀ : List (Addr × Obj)) (Lg : Addr) (ys : List Asg) (g : Heap) (rest : List (Addr × Obj)) (Φ : End → Shared → Prop) (s : Shared) : Prop := match ys with
  | [] => ∀ h' tk' m', Fr g Lg h' m' → News g Lg h' rest → Φ (.ret (.ok (.ret .none))) { s with heap := h', toks := tk' }
  | y :: ys => ∀ h' tk' m' own' a o e, Fr g Lg h' m' → News g Lg h' ((a, o) :: (own' ++ rest)) → (∀ q ∈ (a, o) :: rest, q.1 ∉ own'.map (·.1)) → (∀ q ∈ rest, @LT.lt Nat _ q.1 a) → o.IsDictOf (PySem.strKind PW w) (asgKv nm y) → e.quiet = true → (∃ gd l k c p fs, e = .susp (.ref a) gd l k c p fs) →
        GRdy w p loose mean mg mb nm R₀ Lg ys m' own' e.genState → Φ e { s with heap := h', toks := tk' }
theorem grdy_mk {w : World} {p : Program} {loose : List Str} {mean : ExcName → Option Value} {mg mb : Str → Option Value} {nm : Nat → Str} {R₀ : List (Addr × Obj)} {Lg : Addr} {m : Str → Option Value} {own : List (Addr × Obj)} {gs : GenState} {ys : List Asg}
    (h : ∀ (A : Around) (g : Heap) (rest : List (Addr × Obj)) (s : Shared) (Φ : End → Shared → Prop), GCx w p loose mean mg mb A g → Fr g Lg s.heap m → News g Lg s.heap (own ++ rest) → (∀ q ∈ rest, q.1 ∉ own.map (·.1)) → (∀ q ∈ R₀, q ∈ rest) → GPost w p loose mean mg mb nm R₀ Lg ys g rest Φ s → GenGo (model PW w) A Φ gs (.send .none) s) :
    GRdy w p loose mean mg mb nm R₀ Lg ys m own gs := by
  cases ys with
  | nil => exact h
  | cons y ys => exact h
end Mine
end
section
open PySem PySem.W PySem.W.X PyProof.Rows PySem.Calls PySem.Spec
set_option Elab.async false
set_option maxRecDepth 100000
set_option maxHeartbeats 8000000
namespace Mine
open PyProof.Rows.LCg
structure OverOk (A A' : Around) (env : Env) (outer : List Env) : Prop where
  fr : A'.frames = some (env :: outer)
  hh : A'.handled = none
  d : A'.depth ≤ A.depth + 2
  u : A'.units ≤ A.units + 12
/-- codes that are no frame of their own -/
inductive Inner : Code → Env → Prop
  | whl {t b o env} : Inner (.whileLoop t b o env) env
  | frl {t i b o env} : Inner (.forLoop t i b o env) env
  | blk {b env} : Inner (.block b env) env
theorem Inner.facts {c : Code} {env : Env} (h : Inner c env) : c.envs = [] ∧ c.isFrame = false ∧ c.weight = 0 ∧ c.cUnits = 0 := by
  cases h <;> exact ⟨rfl, rfl, rfl, rfl⟩
section
variable {A : Around} {env : Env} {outer : List Env} {b : List Stmt} {k0 k1 : Result → Sem Fin} {g0 g1 : Bool} {l0 l1 kp0 kp1 : List Value} {p0 p1 : Pos} {c c1 : Code}
theorem over_func (hfr : A.frames = some outer) (hh : A.handled = none) : OverOk A (A.over (.func b env) []) env outer := by
  have e : (Code.func b env).isFrame = true := rfl
  refine ⟨?_, ?_, ?_, ?_⟩
  · simp [Around.over, Code.envs, e, Code.env?, envsOf, pushEnvs, hfr]
  · simpa [Around.over, marksOver] using hh
  · simp [Around.over, frameCount, Code.weight, Code.frames, Code.isCreation, Code.isGuard, Code.isCaller, e]
  · simp [Around.over, unitsOf, Code.cUnits, Code.frames, e]
theorem over_one (hfr : A.frames = some outer) (hh : A.handled = none) (hc : Inner c env) : OverOk A (A.over c [.ret k0 none g0 l0 (.func b env) p0 kp0]) env outer := by
  have e : (Code.func b env).isFrame = true := rfl
  have w1 : (Code.func b env).weight ≤ 2 := by simp [Code.weight, Code.frames, Code.isCreation, Code.isGuard, Code.isCaller, e]
  have w2 : (Code.func b env).cUnits ≤ 12 := by simp [Code.cUnits, Code.frames, e]
  obtain ⟨h1, h2, h3, h4⟩ := hc.facts
  refine ⟨?_, ?_, ?_, ?_⟩
  · simp [Around.over, h1, e, Code.env?, envsOf, pushEnvs, hfr, Frame.where_]
  · simpa [Around.over, marksOver, Frame.marks, markOver] using hh
  · show A.depth + frameCount [(.func b env, p0)] + c.weight ≤ _
    rw [frameCount_cons, h3, show frameCount [] = 0 from rfl]; omega
  · show A.units + unitsOf [(.func b env, p0)] + c.cUnits ≤ _
    rw [h4, show unitsOf [(Code.func b env, p0)] = (Code.func b env).cUnits + 0 from rfl]; omega
theorem over_two (hfr : A.frames = some outer) (hh : A.handled = none) (hc : Inner c env) (hc1 : Inner c1 env) : OverOk A (A.over c [.ret k1 none g1 l1 c1 p1 kp1, .ret k0 none g0 l0 (.func b env) p0 kp0]) env outer := by
  have e : (Code.func b env).isFrame = true := rfl
  have w1 : (Code.func b env).weight ≤ 2 := by simp [Code.weight, Code.frames, Code.isCreation, Code.isGuard, Code.isCaller, e]
  have w2 : (Code.func b env).cUnits ≤ 12 := by simp [Code.cUnits, Code.frames, e]
  obtain ⟨h1, h2, h3, h4⟩ := hc.facts
  obtain ⟨i1, i2, i3, i4⟩ := hc1.facts
  refine ⟨?_, ?_, ?_, ?_⟩
  · simp [Around.over, h1, i2, e, Code.env?, envsOf, pushEnvs, hfr, Frame.where_]
  · simpa [Around.over, marksOver, Frame.marks, markOver] using hh
  · show A.depth + frameCount [(c1, p1), (.func b env, p0)] + c.weight ≤ _
    rw [frameCount_cons, frameCount_cons, h3, i3, show frameCount [] = 0 from rfl]; omega
  · show A.units + unitsOf [(c1, p1), (.func b env, p0)] + c.cUnits ≤ _
    rw [h4, show unitsOf [(c1, p1), (Code.func b env, p0)] = c1.cUnits + ((Code.func b env).cUnits + 0) from rfl, i4]; omega
theorem over_two' {A' : Around} (hA : A' = A.over c [.ret k1 none g1 l1 c1 p1 kp1, .ret k0 none g0 l0 (.func b env) p0 kp0]) (hfr : A.frames = some outer) (hh : A.handled = none) (hc : Inner c env) (hc1 : Inner c1 env) : OverOk A A' env outer := hA ▸ over_two hfr hh hc hc1
theorem OverOk.cx {w : World} {p : Program} {loose : List Str} {mean : ExcName → Option Value} {mg mb : Str → Option Value} {A' A₁ : Around} {base g : Heap} {L : Addr} (o : OverOk A A' env outer) (B : Below A₁ base outer g) (X : (hd.heap_39 w.params).In g) (T : Top p loose mean mg mb g) (hk : env.scope.kind = .function) (hf : env.frame = some L) (hd : A.depth ≤ 700) (hu : A.units ≤ 7000) :
    Cx w p loose mean mg mb A' 702 7012 env outer A₁ base g L := ⟨B, X, T, hk, hf, Nat.le_trans o.d (by omega), Nat.le_trans o.u (by omega), o.fr, o.hh⟩
end
section
variable {M : Model} {A : Around} {Φ : End → Shared → Prop} {s : Shared} {env : Env} {outer : List Env} {b : List Stmt} {k0 k1 : Result → Sem Fin} {g0 g1 : Bool} {l0 l1 kp0 kp1 : List Value} {p0 p1 : Pos} {c c1 : Code} {K : Flow → Sem Fin} {H : Value → Sem Fin} {gd : Bool → Bool} {lv : List Value → List Value} {st : Stmt}
theorem sg_stmt0 (hfr : A.frames = some outer) (hh : A.handled = none) (h : ∀ A', OverOk A A' env outer → wpAny M A' (exec st env) (fun f s' => Sg M A Φ (.func b env) (K f) [] s') NoE s) :
    Sg M A Φ (.func b env) ((exec st env).wrap K H gd lv) [] s := sg_stmt (h _ (over_func hfr hh))
theorem sg_stmt1 (hfr : A.frames = some outer) (hh : A.handled = none) (hc : Inner c env) (h : ∀ A', OverOk A A' env outer → wpAny M A' (exec st env) (fun f s' => Sg M A Φ c (K f) [.ret k0 none g0 l0 (.func b env) p0 kp0] s') NoE s) :
    Sg M A Φ c ((exec st env).wrap K H gd lv) [.ret k0 none g0 l0 (.func b env) p0 kp0] s := sg_stmt (h _ (over_one hfr hh hc))
theorem sg_stmt2 (hfr : A.frames = some outer) (hh : A.handled = none) (hc : Inner c env) (hc1 : Inner c1 env) (h : ∀ A', OverOk A A' env outer → wpAny M A' (exec st env) (fun f s' => Sg M A Φ c (K f) [.ret k1 none g1 l1 c1 p1 kp1, .ret k0 none g0 l0 (.func b env) p0 kp0] s') NoE s) :
    Sg M A Φ c ((exec st env).wrap K H gd lv) [.ret k1 none g1 l1 c1 p1 kp1, .ret k0 none g0 l0 (.func b env) p0 kp0] s := sg_stmt (h _ (over_two hfr hh hc hc1))
end
section
variable {w : World} {A : Around} {Φ : End → Shared → Prop} {fs : List Frame} {s : Shared} {l I : Addr} {h₀ : Heap} {m : Str → Option Value} {news : List (Addr × Obj)} {env : Env} {prog : Program}
/-- a for over a list, whose else may yield -/
theorem sg_loop_list {target : Expr} {body orelse : List Stmt} (N : Nat) (J : Nat → (Str → Option Value) → List (Addr × Obj) → Prop) (hgo : GoFree (model prog w) (A.over (.forLoop target (.ref I) body orelse env) fs) target I l) (hh : (A.over (.forLoop target (.ref I) body orelse env) fs).handled = none)
    (F : Fr h₀ env.locals s.heap m) (NN : News h₀ env.locals s.heap ((I, itO l 0) :: news)) (h0 : J 0 m news)
    (hI : ∀ i m news h, J i m news → News h₀ env.locals h ((I, itO l i) :: news) → ∀ p ∈ news, p.1 ≠ I)
    (step : ∀ i m₁ news₁ h₁ tk₁, J i m₁ news₁ → Fr h₀ env.locals h₁ m₁ → News h₀ env.locals h₁ ((I, itO l i) :: news₁) → ∃ vs, SeqAt h₁ l vs ∧ match vs[i]? with
      | none => ∀ h₂, Fr h₀ env.locals h₂ m₁ → News h₀ env.locals h₂ news₁ → Sg (model prog w) A Φ (.block orelse env) ((model prog w).den (.block orelse env)) fs { s with heap := h₂, toks := tk₁ }
      | some v => i < N ∧ ∀ A', A' = A.over (.forLoop target (.ref I) body orelse env) fs → ∀ h₂, Fr h₀ env.locals h₂ m₁ → News h₀ env.locals h₂ ((I, itO l (i + 1)) :: news₁) →
          wpAny (model prog w) A' (assign target env v) (fun _ s₂ => wpAny (model prog w) A' (execs body env) (fun f s' => match f with
            | .next => At h₀ env.locals s (I, itO l (i + 1)) (J (i + 1)) s'
            | .cont => At h₀ env.locals s (I, itO l (i + 1)) (J (i + 1)) s'
            | .brk => Sg (model prog w) A Φ (.forLoop target (.ref I) body orelse env) (leafOf (.ok .next)) fs s'
            | .ret v => Sg (model prog w) A Φ (.forLoop target (.ref I) body orelse env) (leafOf (.ok (.ret v))) fs s') NoE s₂) NoE { s with heap := h₂, toks := tk₁ }) :
    Sg (model prog w) A Φ (.forLoop target (.ref I) body orelse env) ((model prog w).den (.forLoop target (.ref I) body orelse env)) fs s := by
  suffices key : ∀ n i s', At h₀ env.locals s (I, itO l i) (J i) s' → i ≤ N → n = N + 1 - i → Sg (model prog w) A Φ (.forLoop target (.ref I) body orelse env) ((model prog w).den (.forLoop target (.ref I) body orelse env)) fs s' from
    key (N + 1) 0 s ⟨s.heap, s.toks, m, news, rfl, F, NN, h0⟩ (Nat.zero_le _) rfl
  intro n
  induction n with
  | zero => intro i s' _ hi hn; omega
  | succ n ih =>
    rintro i s' ⟨h', tk, m', news', rfl, F', N', hJ⟩ hi hn
    obtain ⟨vs, hvs, hst⟩ := step i m' news' h' tk hJ F' N'
    have hne := hI i m' news' h' hJ N'
    refine sg_forTurn ?_
    cases hv : vs[i]? with
    | none =>
      rw [hv] at hst
      exact next_end hh F' N' hne hvs hv fun h₂ F₂ N₂ => hst h₂ F₂ N₂
    | some v =>
      rw [hv] at hst
      obtain ⟨hlt, hst⟩ := hst
      refine next_item F' N' hne hvs hv fun h₂ F₂ N₂ => ?_
      refine hgo _ (i + 1) _ _ _ ⟨_, (N₂ _ (.head _)).1, rfl, rfl⟩ ?_
      refine wpAny_mono (hst _ rfl h₂ F₂ N₂) (fun _ s₂ z => ?_) fun _ _ z => z
      refine wpAny_mono z (fun f s₃ z => ?_) fun _ _ z => z
      cases f with
      | next => exact sg_again rfl (ih (i + 1) s₃ z hlt (by omega))
      | cont => exact sg_again rfl (ih (i + 1) s₃ z hlt (by omega))
      | brk => exact z
      | ret v => exact z
end
end Mine
end
section
open PySem PySem.W PySem.W.X PyProof.Rows PySem.Calls PySem.Spec
set_option Elab.async false
set_option maxRecDepth 100000
set_option maxHeartbeats 8000000
namespace Mine
open PyProof.Rows.LCg
abbrev btConM (vcs : List (List Cn)) : ConF := fun asg fc v ds => conM asg fc (vcs.getD v []) ds
abbrev btD (P : Params) (t : Tok) (b : Bool) (e : Nat) : Obj := dictOf [⟨PyData.keyHash P "_forwardcheck", .str "_forwardcheck" t, .bool b⟩] e
/-- not one of the generator's cells -/
def NotCell (Lg a : Addr) : Prop := a ≠ Lg + 1 + 1 + 1 + 1 ∧ a ≠ Lg + 1 + 1 + 1 ∧ a ≠ Lg + 1 + 1 ∧ a ≠ Lg + 1
abbrev cellL (Lg : Addr) (o1 o2 o3 o4 : Obj) (l : List (Addr × Obj)) : List (Addr × Obj) := (Lg + 1 + 1 + 1 + 1, o1) :: (Lg + 1 + 1 + 1, o2) :: (Lg + 1 + 1, o3) :: (Lg + 1, o4) :: l
/-- what the generator's frame and objects hold -/
structure BtM (w : World) (nm : Nat → Str) (Lg x AD AV AA AQ : Addr) (cs : List Dc) (fcOn : Bool) (g : Heap) (rest : List (Addr × Obj)) (asg : Asg) (qx cur : List QX) (ds : List Ds)
    (h : Heap) (m : Str → Option Value) (oa : Obj) (kq : Nat) (dyn Pers : List (Addr × Obj)) (o1 o2 o3 o4 : Obj) : Prop where
  F : Fr g Lg h m
  N : News g Lg h (cellL Lg o1 o2 o3 o4 ((Pers ++ rest) ++ (btY AA AQ oa kq qx cur ++ dyn)))
  H : Locs m [("self", .ref x), ("forwardcheck", .bool fcOn), ("queue", .ref AQ)]
  B : BtX w nm AA AQ cs asg qx cur ds oa kq dyn
  off : OffL (Pers ++ rest) (btA AA AQ cs (cur ++ qx))
  c1 : ∀ q ∈ Pers ++ rest, NotCell Lg q.1
  c2 : ∀ a ∈ btA AA AQ cs (cur ++ qx), NotCell Lg a
  d1 : ∃ v, o1.data = .cell v
  d2 : o2.data = .cell (some (.ref AA))
  d3 : o3.data = .cell (some (.ref AV))
  d4 : o4.data = .cell (some (.ref AD))
  q : ∀ e ∈ qx, QOk nm cs Pers e
  pr : ∀ q ∈ rest, q.1 ∉ Pers.map (·.1)
/-- the entry in hand -/
structure QCur (nm : Nat → Str) (cs : List Dc) (Pers : List (Addr × Obj)) (m : Str → Option Value) (o1 : Obj) (x : QX) : Prop where
  pv : PvOk cs Pers x.pv x.e.push
  pl : ∀ i ∈ x.e.push, ∃ c, cs[i]? = some c
  vl : x.e.v < cs.length
  H : Locs m [("values", .ref x.VL), ("pushdomains", x.pv)]
  d1 : ∃ t, o1.data = .cell (some (.str (nm x.e.v) t))
section
variable {w : World} {nm : Nat → Str} {Lg x AD AV AA AQ : Addr} {cs : List Dc} {fcOn : Bool} {g : Heap} {rest : List (Addr × Obj)} {asg : Asg} {qx cur : List QX} {ds : List Ds} {h : Heap} {m : Str → Option Value} {oa : Obj} {kq : Nat} {dyn Pers : List (Addr × Obj)} {o1 o2 o3 o4 : Obj}
theorem BtM.cells (M : BtM w nm Lg x AD AV AA AQ cs fcOn g rest asg qx cur ds h m oa kq dyn Pers o1 o2 o3 o4) : ∀ q ∈ (Pers ++ rest) ++ (btY AA AQ oa kq qx cur ++ dyn), NotCell Lg q.1 := by
  intro q hq
  rcases List.mem_append.mp hq with hq | hq
  · exact M.c1 q hq
  · refine M.c2 _ ?_
    rw [← bt_fst M.B]
    exact List.mem_map_of_mem hq
theorem BtM.cell1 (M : BtM w nm Lg x AD AV AA AQ cs fcOn g rest asg qx cur ds h m oa kq dyn Pers o1 o2 o3 o4) : ∀ q ∈ (Pers ++ rest) ++ (btY AA AQ oa kq qx cur ++ dyn), q.1 ≠ Lg + 1 + 1 + 1 + 1 := fun q hq => (M.cells q hq).1
/-- the cells go with what is not of the search -/
theorem BtM.offC (M : BtM w nm Lg x AD AV AA AQ cs fcOn g rest asg qx cur ds h m oa kq dyn Pers o1 o2 o3 o4) : OffL (cellL Lg o1 o2 o3 o4 (Pers ++ rest)) (btA AA AQ cs (cur ++ qx)) := by
  intro q hq hm
  have z := M.c2 _ hm
  rcases List.mem_cons.mp hq with rfl | hq
  · exact z.1 rfl
  rcases List.mem_cons.mp hq with rfl | hq
  · exact z.2.1 rfl
  rcases List.mem_cons.mp hq with rfl | hq
  · exact z.2.2.1 rfl
  rcases List.mem_cons.mp hq with rfl | hq
  · exact z.2.2.2 rfl
  · exact M.off q hq hm
/-- all but the Domains -/
abbrev btR (Lg AA AQ : Addr) (oa : Obj) (kq : Nat) (qx cur : List QX) (Pers rest : List (Addr × Obj)) (o1 o2 o3 o4 : Obj) : List (Addr × Obj) := cellL Lg o1 o2 o3 o4 ((Pers ++ rest) ++ btY AA AQ oa kq qx cur)
theorem btR_news {L : Addr} : News g L h (cellL Lg o1 o2 o3 o4 ((Pers ++ rest) ++ (btY AA AQ oa kq qx cur ++ dyn))) ↔ News g L h (btR Lg AA AQ oa kq qx cur Pers rest o1 o2 o3 o4 ++ dyn) := by
  have e : cellL Lg o1 o2 o3 o4 ((Pers ++ rest) ++ (btY AA AQ oa kq qx cur ++ dyn)) = btR Lg AA AQ oa kq qx cur Pers rest o1 o2 o3 o4 ++ dyn := by simp [btR, cellL]
  rw [e]
theorem btR_newsI {L : Addr} {a : Addr × Obj} : News g L h (a :: cellL Lg o1 o2 o3 o4 ((Pers ++ rest) ++ (btY AA AQ oa kq qx cur ++ dyn))) ↔ News g L h ((a :: btR Lg AA AQ oa kq qx cur Pers rest o1 o2 o3 o4) ++ dyn) := by
  have e : a :: cellL Lg o1 o2 o3 o4 ((Pers ++ rest) ++ (btY AA AQ oa kq qx cur ++ dyn)) = (a :: btR Lg AA AQ oa kq qx cur Pers rest o1 o2 o3 o4) ++ dyn := by simp [btR, cellL]
  rw [e]
theorem BtM.hR (M : BtM w nm Lg x AD AV AA AQ cs fcOn g rest asg qx cur ds h m oa kq dyn Pers o1 o2 o3 o4) : ∀ q ∈ btR Lg AA AQ oa kq qx cur Pers rest o1 o2 o3 o4, q.1 ∉ ads cs := by
  have up : ∀ a ∈ ads cs, a ∈ btA AA AQ cs (cur ++ qx) := fun a ha => .tail _ (.tail _ (List.mem_append_right _ ha))
  intro q hq hm
  have e : btR Lg AA AQ oa kq qx cur Pers rest o1 o2 o3 o4 = cellL Lg o1 o2 o3 o4 (Pers ++ rest) ++ btY AA AQ oa kq qx cur := by simp [btR, cellL]
  rw [e] at hq
  rcases List.mem_append.mp hq with hq | hq
  · exact M.offC q hq (up _ hm)
  · have nd := M.B.nd
    have h1 : q.1 ∈ AA :: AQ :: (cur ++ qx).map QX.VL := by
      have e2 : (btY AA AQ oa kq qx cur).map (·.1) = AA :: AQ :: (cur ++ qx).map QX.VL := by
        show AA :: AQ :: _ = _
        rw [ve_fst]
      rw [← e2]
      exact List.mem_map_of_mem hq
    have nd2 : ((AA :: AQ :: (cur ++ qx).map QX.VL) ++ ads cs).Nodup := nd
    exact (List.nodup_append.mp nd2).2.2 _ h1 _ hm rfl
theorem BtM.drop {xq : QX} (M : BtM w nm Lg x AD AV AA AQ cs fcOn g rest asg qx [xq] ds h m oa kq dyn Pers o1 o2 o3 o4) : BtM w nm Lg x AD AV AA AQ cs fcOn g rest asg qx [] ds h m oa kq dyn Pers o1 o2 o3 o4 where
  F := M.F
  N := news_sub M.N fun p hp => by simp only [cellL, btY, List.mem_cons, List.mem_append, List.nil_append, List.cons_append, List.map_cons] at hp ⊢; grind
  H := M.H
  B := by
    have nd := M.B.nd
    simp only [btA, List.cons_append, List.nil_append, List.map_cons, List.nodup_cons, List.mem_cons, not_or] at nd
    refine ⟨M.B.a, M.B.d, ?_⟩
    simp only [btA, List.nil_append, List.nodup_cons, List.mem_cons, not_or]
    exact ⟨⟨nd.1.1, nd.1.2.2⟩, nd.2.1.2, nd.2.2.2⟩
  off := fun q hq hm => M.off q hq (by simp only [btA, List.cons_append, List.nil_append, List.map_cons, List.mem_cons] at hm ⊢; grind)
  c1 := M.c1
  c2 := fun a ha => M.c2 a (by simp only [btA, List.cons_append, List.nil_append, List.map_cons, List.mem_cons] at ha ⊢; grind)
  d1 := M.d1
  d2 := M.d2
  d3 := M.d3
  d4 := M.d4
  q := M.q
  pr := M.pr
theorem in_rest {o1 o2 o3 o4 : Obj} {rest Y : List (Addr × Obj)} : ∀ p ∈ rest, p ∈ cellL Lg o1 o2 o3 o4 ((Pers ++ rest) ++ Y) := fun _ hp => .tail _ (.tail _ (.tail _ (.tail _ (List.mem_append_left _ (List.mem_append_right _ hp)))))
/-- behind a loop over Domains -/
theorem BtM.doms {ds' : List Ds} {h' : Heap} {m' : Str → Option Value} {dyn' : List (Addr × Obj)} (M : BtM w nm Lg x AD AV AA AQ cs fcOn g rest asg qx cur ds h m oa kq dyn Pers o1 o2 o3 o4) (F' : Fr g Lg h' m') (hm : ∀ y : Str, y ≠ "domain" → m' y = m y) (N' : News g Lg h' (btR Lg AA AQ oa kq qx cur Pers rest o1 o2 o3 o4 ++ dyn')) (D' : Dyn w.params cs ds' dyn') :
    BtM w nm Lg x AD AV AA AQ cs fcOn g rest asg qx cur ds' h' m' oa kq dyn' Pers o1 o2 o3 o4 :=
  { M with F := F', N := btR_news.mpr N', H := (fun p hp => (hm p.1 (by simp only [List.mem_cons, List.not_mem_nil, or_false] at hp; rcases hp with rfl | rfl | rfl <;> (dsimp only; decide))).trans (M.H p hp)), B := { M.B with d := D' } }
theorem QCur.doms {x : QX} {m' : Str → Option Value} (Q : QCur nm cs Pers m o1 x) (hm : ∀ y : Str, y ≠ "domain" → m' y = m y) : QCur nm cs Pers m' o1 x :=
  { Q with H := (fun p hp => (hm p.1 (by simp only [List.mem_cons, List.not_mem_nil, or_false] at hp; rcases hp with rfl | rfl <;> (dsimp only; decide))).trans (Q.H p hp)) }
theorem QCur.of {y : QX} (_ : Fr g Lg h m) (k : QOk nm cs Pers y) (d1 : ∃ t, o1.data = .cell (some (.str (nm y.e.v) t))) (H : Locs m [("values", .ref y.VL), ("pushdomains", y.pv)]) : QCur nm cs Pers m o1 y := ⟨k.pv, k.pl, k.vl, H, d1⟩
/-- a new object kept for good -/
theorem BtM.addP {T : Addr} {o : Obj} {h' : Heap} {m' : Str → Option Value} (M : BtM w nm Lg x AD AV AA AQ cs fcOn g rest asg qx cur ds h m oa kq dyn Pers o1 o2 o3 o4) (F' : Fr g Lg h' m') (H' : Locs m' [("self", .ref x), ("forwardcheck", .bool fcOn), ("queue", .ref AQ)])
    (N' : News g Lg h' ((T, o) :: cellL Lg o1 o2 o3 o4 ((Pers ++ rest) ++ (btY AA AQ oa kq qx cur ++ dyn)))) (hne : ∀ p ∈ cellL Lg o1 o2 o3 o4 ((Pers ++ rest) ++ (btY AA AQ oa kq qx cur ++ dyn)), p.1 ≠ T) :
    BtM w nm Lg x AD AV AA AQ cs fcOn g rest asg qx cur ds h' m' oa kq dyn ((T, o) :: Pers) o1 o2 o3 o4 where
  F := F'
  N := news_sub N' fun p hp => by simp only [cellL, List.cons_append, List.mem_cons, List.mem_append] at hp ⊢; grind
  H := H'
  B := M.B
  off := List.forall_mem_cons.mpr ⟨fun hm => by
    rw [← bt_fst M.B] at hm
    obtain ⟨p, hp, e⟩ := List.mem_map.mp hm
    exact hne p (.tail _ (.tail _ (.tail _ (.tail _ (List.mem_append_right _ hp))))) e, M.off⟩
  c1 := List.forall_mem_cons.mpr ⟨⟨Ne.symm (hne _ (.head _)), Ne.symm (hne _ (.tail _ (.head _))), Ne.symm (hne _ (.tail _ (.tail _ (.head _)))), Ne.symm (hne _ (.tail _ (.tail _ (.tail _ (.head _)))))⟩, M.c1⟩
  c2 := M.c2
  d1 := M.d1
  d2 := M.d2
  d3 := M.d3
  d4 := M.d4
  q := fun e he => (M.q e he).mono fun _ hp => .tail _ hp
  pr := fun q hq hm => by
    rcases List.mem_cons.mp hm with e | hm
    · exact hne q (.tail _ (.tail _ (.tail _ (.tail _ (List.mem_append_left _ (List.mem_append_right _ hq)))))) e
    · exact M.pr q hq hm
/-- a new list of values in hand -/
theorem BtM.addV {xq : QX} {o1' : Obj} {h' : Heap} {m' : Str → Option Value} (M : BtM w nm Lg x AD AV AA AQ cs fcOn g rest asg qx [] ds h m oa kq dyn Pers o1 o2 o3 o4) (F' : Fr g Lg h' m') (H' : Locs m' [("self", .ref x), ("forwardcheck", .bool fcOn), ("queue", .ref AQ)]) (d1' : ∃ v, o1'.data = .cell v)
    (N' : News g Lg h' (xq.ve :: cellL Lg o1' o2 o3 o4 ((Pers ++ rest) ++ (btY AA AQ oa kq qx [] ++ dyn)))) (hlt : ∀ p ∈ cellL Lg o1' o2 o3 o4 ((Pers ++ rest) ++ (btY AA AQ oa kq qx [] ++ dyn)), @LT.lt Nat _ p.1 xq.VL) :
    BtM w nm Lg x AD AV AA AQ cs fcOn g rest asg qx [xq] ds h' m' oa kq dyn Pers o1' o2 o3 o4 := by
  have hA : ∀ a ∈ btA AA AQ cs ([] ++ qx), @LT.lt Nat _ a xq.VL := fun a ha => by
    rw [← bt_fst M.B] at ha
    obtain ⟨p, hp, e⟩ := List.mem_map.mp ha
    have z := hlt p (.tail _ (.tail _ (.tail _ (.tail _ (List.mem_append_right _ hp)))))
    rw [e] at z; exact z
  have sp : ∀ a, a ∈ btA AA AQ cs ([xq] ++ qx) ↔ a = xq.VL ∨ a ∈ btA AA AQ cs ([] ++ qx) := fun a => by
    simp only [btA, List.cons_append, List.nil_append, List.map_cons, List.mem_cons]
    grind
  refine ⟨F', news_sub N' fun p hp => by simp only [cellL, btY, QX.ve, List.nil_append, List.cons_append, List.map_cons, List.mem_cons, List.mem_append] at hp ⊢; grind, H', ⟨M.B.a, M.B.d, ?_⟩, ?_, M.c1, ?_, d1', M.d2, M.d3, M.d4, M.q, M.pr⟩
  · have nd := M.B.nd
    simp only [btA, List.nil_append, List.nodup_cons, List.mem_cons, not_or] at nd hA
    simp only [btA, List.cons_append, List.nil_append, List.map_cons, List.nodup_cons, List.mem_cons, not_or]
    exact ⟨⟨nd.1.1, Nat.ne_of_lt (hA _ (.inl rfl)), nd.1.2⟩, ⟨Nat.ne_of_lt (hA _ (.inr (.inl rfl))), nd.2.1⟩, fun hm => absurd rfl (Nat.ne_of_lt (hA _ (.inr (.inr hm)))), nd.2.2⟩
  · intro q hq hm
    rcases (sp _).mp hm with e | hm
    · exact absurd e (Nat.ne_of_lt (hlt q (.tail _ (.tail _ (.tail _ (.tail _ (List.mem_append_left _ hq)))))))
    · exact M.off q hq hm
  · intro a ha
    rcases (sp _).mp ha with rfl | ha
    · exact ⟨Nat.ne_of_gt (hlt _ (.head _)), Nat.ne_of_gt (hlt _ (.tail _ (.head _))), Nat.ne_of_gt (hlt _ (.tail _ (.tail _ (.head _)))), Nat.ne_of_gt (hlt _ (.tail _ (.tail _ (.tail _ (.head _)))))⟩
    · exact M.c2 a ha
theorem Locs.fix {L : Addr} {l : List (Str × Value)} (_ : Fr g L h m) (H : Locs m l) : Locs m l := H
theorem Locs.agree {m' : Str → Option Value} {l : List (Str × Value)} {d : Str} (H : Locs m l) (hm : ∀ y : Str, y ≠ d → m' y = m y) (hl : ∀ p ∈ l, p.1 ≠ d) : Locs m' l := fun p hp => (hm p.1 (hl p hp)).trans (H p hp)
theorem Locs.app {l l' : List (Str × Value)} (H : Locs m l) (H' : Locs m l') : Locs m (l ++ l') := fun p hp => (List.mem_append.mp hp).elim (H p) (H' p)
theorem Locs.left {l l' : List (Str × Value)} (H : Locs m (l ++ l')) : Locs m l := fun p hp => H p (List.mem_append_left _ hp)
theorem Locs.right {l l' : List (Str × Value)} (H : Locs m (l ++ l')) : Locs m l' := fun p hp => H p (List.mem_append_right _ hp)
end
section
variable {prog : Program} {w : World} {A : Around} {E : Value → Shared → Prop} {s : Shared} {env : Env}
theorem IfThen.mono {M : Model} {body orelse : List Stmt} {Q Q' : Flow → Shared → Prop} {b : Bool} (h : wpAny M A (if b = true then execs body env else execs orelse env) Q' E s) (hq : ∀ f s', Q' f s' → Q f s') : IfThen M A body orelse env Q E b s := wpAny_mono h hq fun _ _ e => e
theorem truthy_lst {h₀ : Heap} {L a : Addr} {k : Nat} {l : List Value} {news : List (Addr × Obj)} {Q : Bool → Shared → Prop} (N : News h₀ L s.heap news) (hm : (a, listOf l.toArray k) ∈ news) (hz : l.length ≤ 1000) (h : ∀ tk', Q (!l.isEmpty) { s with toks := tk' }) : wpAny (model prog w) A (truthy (.ref a)) Q E s := by
  refine wpAny_truthy_list (items := l.toArray) ⟨_, (N _ hm).1, rfl, _, rfl⟩ (by simp; omega) ?_
  have e : (!l.toArray.isEmpty) = !l.isEmpty := by simp
  rw [e]; exact h _
theorem btTry_len {con : ConF} {rec : BtS → Option (Option BtS)} {c : QE} {q : List QE} {asg : Asg} {ds : List Ds} {r : Option BtS} (h : btTry con rec c q asg ds = some r) : c.vals.length ≤ 400 := by
  unfold btTry at h
  split at h
  · cases h
  · split at h
    · assumption
    · cases h
theorem btOut_len {n : Nat} {con : ConF} {key : List Ds → Nat → Int × Int} {fc : Bool} {f : Nat} {q : List QE} {asg : Asg} {ds : List Ds} {ys : List Asg} (h : btOut n con key fc f q asg ds = some ys) : q.length ≤ 400 := by
  cases f with
  | zero => cases h
  | succ f =>
    unfold btOut at h
    split at h
    · rename_i hc
      simp only [Bool.and_eq_true, decide_eq_true_eq] at hc
      exact hc.2
    · cases h
theorem delA_len (asg : Asg) (v : Nat) : (delA asg v).length ≤ asg.length := List.length_filter_le _ _
theorem noE_passes : PassesOwn (model prog w) A env NoE := fun _ _ h => h.elim
theorem while_turns {test : Expr} {body orelse : List Stmt} {pos : Pos} {Q : Flow → Shared → Prop} (I : Nat → Shared → Prop)
    (turn : ∀ n s, I n s → wpAny (model prog w) A (isTrue test env (eval test env)) (fun b s₂ => if b then wpAny (model prog w) A (execs body env) (fun f s₃ => match f with
        | .next | .cont => Hold (∃ m, m < n ∧ I m s₃)
        | .brk => Q .next s₃
        | .ret v => Q (.ret v) s₃) NoE s₂ else wpAny (model prog w) A (execs orelse env) Q NoE s₂) NoE s)
    (n : Nat) (h : I n s) : wpAny (model prog w) A (exec (.While test body orelse pos) env) Q NoE s := by
  refine wpAny_While (codeAny_whileLoop I (fun n s hI => ?_) n h)
  refine wpAny_mono (turn n s hI) (fun b s₂ hb => ?_) fun _ _ e => e.elim
  cases b with
  | true =>
    rw [if_pos rfl] at hb ⊢
    exact wpAny_mono hb (fun f s₃ hf => by cases f <;> exact hf) fun _ _ e => e.elim
  | false =>
    rw [if_neg Bool.false_ne_true] at hb ⊢
    exact wpAny_mono hb (fun f s₃ hf => hf) fun _ _ e => e.elim
theorem sg_For1 {M : Model} {A : Around} {Φ : End → Shared → Prop} {s : Shared} {env : Env} {outer : List Env} {b : List Stmt} {k0 : Result → Sem Fin} {g0 : Bool} {l0 kp0 : List Value} {p0 : Pos} {c : Code} {K : Flow → Sem Fin} {H : Value → Sem Fin} {gd : Bool → Bool} {lv : List Value → List Value} {target iter : Expr} {body orelse : List Stmt} {pos : Pos}
    (hfr : A.frames = some outer) (hh : A.handled = none) (hc : Inner c env) (h : ∀ A', OverOk A A' env outer → wpAny M A' (eval iter env) (fun x s₁ => wpAny M A' (pyIter x) (fun it s₂ => ∀ p k, (∀ f Φ' s' A', Sg M A' Φ' c (K f) [.ret k0 none g0 l0 (.func b env) p0 kp0] s' → Sg M A' Φ' c (k (.ok f)) [.ret k0 none g0 l0 (.func b env) p0 kp0] s') →
      Sg M A Φ (.forLoop target it body orelse env) (M.den (.forLoop target it body orelse env)) [.ret k none (gd false) (lv []) c p [], .ret k0 none g0 l0 (.func b env) p0 kp0] s₂) NoE s₁) NoE s) (hs : ∀ x, foldedSetIterable iter env x = pure x := by intro _; rfl) :
    Sg M A Φ c ((exec (.For target iter body orelse pos) env).wrap K H gd lv) [.ret k0 none g0 l0 (.func b env) p0 kp0] s := sg_For (h _ (over_one hfr hh hc)) hs
theorem sg_Yield2 {M : Model} {A : Around} {Φ : End → Shared → Prop} {s : Shared} {env : Env} {outer : List Env} {b : List Stmt} {k0 k1 : Result → Sem Fin} {g0 g1 : Bool} {l0 l1 kp0 kp1 : List Value} {p0 p1 : Pos} {c c1 : Code} {K : Flow → Sem Fin} {H : Value → Sem Fin} {gd : Bool → Bool} {lv : List Value → List Value} {e : Expr} {ypos pos : Pos}
    (hfr : A.frames = some outer) (hh : A.handled = none) (hc : Inner c env) (hc1 : Inner c1 env)
    (h : ∀ A', OverOk A A' env outer → wpAny M A' (eval e env) (fun v s' => ∀ p l (k : Resume → Sem Fin), (∀ x, (∀ a, x ≠ .ref a) → ∀ Φ' s'' A', Sg M A' Φ' c (K .next) [.ret k1 none g1 l1 c1 p1 kp1, .ret k0 none g0 l0 (.func b env) p0 kp0] s'' → Sg M A' Φ' c (k (.send x)) [.ret k1 none g1 l1 c1 p1 kp1, .ret k0 none g0 l0 (.func b env) p0 kp0] s'') →
      Φ (.susp v (gd false) l k c p [.ret k1 none g1 l1 c1 p1 kp1, .ret k0 none g0 l0 (.func b env) p0 kp0]) s') NoE s)
    (hco : env.scope.isCoroutine = false := by rfl) (hi : interactive env = false := by rfl) :
    Sg M A Φ c ((exec (.Expr (.Yield (some e) ypos) pos) env).wrap K H gd lv) [.ret k1 none g1 l1 c1 p1 kp1, .ret k0 none g0 l0 (.func b env) p0 kp0] s := sg_Yield rfl (h _ (over_two hfr hh hc hc1)) hco hi
theorem sg_consT {M : Model} {A : Around} {Φ : End → Shared → Prop} {c : Code} {fs : List Frame} {s : Shared} {K : Flow → Sem Fin} {H : Value → Sem Fin} {gd : Bool → Bool} {lv : List Value → List Value} {st : Stmt} {rest : List Stmt} (P : Around → (End → Shared → Prop) → Shared → Prop)
    (tail : ∀ A Φ s, P A Φ s → Sg M A Φ c ((execs rest env).wrap K H gd lv) fs s)
    (hd : (∀ A Φ s, P A Φ s → Sg M A Φ c ((execs rest env).wrap K H gd lv) fs s) → Sg M A Φ c ((exec st env).wrap (fun f => match f with | .next => (execs rest env).wrap K H gd lv | f => K f) H gd lv) fs s) :
    Sg M A Φ c ((execs (st :: rest) env).wrap K H gd lv) fs s := sg_cons (hd tail)
theorem sg_ind {M : Model} {c : Code} {fs : List Frame} (I : Around → (End → Shared → Prop) → Nat → Shared → Prop) (h0 : ∀ A Φ s, ¬ I A Φ 0 s)
    (step : ∀ f, (∀ A Φ s, I A Φ f s → Sg M A Φ c (M.den c) fs s) → ∀ A Φ s, I A Φ (f + 1) s → Sg M A Φ c (M.den c) fs s) : ∀ f A Φ s, I A Φ f s → Sg M A Φ c (M.den c) fs s
  | 0, A, Φ, s, h => absurd h (h0 A Φ s)
  | f + 1, A, Φ, s, h => step f (sg_ind I h0 step f) A Φ s h
end
end Mine
end
section
open PySem PySem.W PySem.W.X PyProof.Rows PySem.Calls PySem.Spec
set_option Elab.async false
set_option maxRecDepth 100000
set_option maxHeartbeats 8000000
namespace Mine
theorem filledG7 : PySem.Challenge.rw_aw5017_04 = PySem.Challenge.rw_aw5017_04 ∧ hd.heap_39 = hd.heap_39 := by k_fill; exact ⟨rfl, rfl⟩
local macro_rules | `(tactic| k_all) => `(tactic| assumption)
local macro_rules | `(tactic| ktr_room) => `(tactic| (simp only [depth_under_make, depth_under_kw, depth_in1, depth_deeper, depth_caller, recursionLimit] at *; omega))
local macro_rules | `(tactic| walk_at "getAttr ref") => `(tactic| (k_here; (with_reducible show wpAny _ _ (getAttr (Value.ref _) (PySem.Str.ofString "_hidden") _) _ _ _); k_dflt (refine' hidden_K ?k1 ?k2 ?k3 ?k4 ?_; (case k1 => k_in); (case k2 => k_asm); (case k3 => k_mem); (case k4 => k_mem); k_whole)))
local macro_rules | `(tactic| walk_at "getAttr ref") => `(tactic| (k_here; (with_reducible show wpAny _ _ (getAttr (Value.ref _) (PySem.Str.ofString "_states") _) _ _ _); k_dflt (refine' states_K ?k1 ?k2 ?k3 ?k4 ?_; (case k1 => k_in); (case k2 => k_asm); (case k3 => k_mem); (case k4 => k_mem); k_whole)))
local macro_rules | `(tactic| walk_at "getMethod ref") => `(tactic| (k_here; k_dflt (refine' meth_K ?k1 ?k2 ?k3 ?k4 ?k5 ?k6 ?k7 ?k8 ?_; (case k1 => k_in); (case k2 => k_asm); (case k3 => k_mem); (case k4 => k_mem); (case k5 => k_is); (case k6 => first | (intro M h X; exact looks_typeIn X (by k_is)) | (intro M h X; exact Looks.of_pure (by first | exact PySem.F.type_list_remove | exact PySem.F.type_list_extend))); (case k7 => decide); (case k8 => first | rfl | decide +kernel); k_whole)))
local macro_rules | `(tactic| walk_at "call builtin:list.remove") => `(tactic| (k_here; k_dflt (refine' remove_K ?k1 ?k2 ?k3 ?k4 ?k5 ?k6 ?_; (case k1 => k_in); (case k2 => k_asm); (case k3 => k_asm); (case k4 => k_upd); (case k5 => assumption); (case k6 => assumption); k_whole; intro h' F' N'; (try k_sweep))))
local macro_rules | `(tactic| walk_at "call builtin:list.append") => `(tactic| (k_here; k_dflt (refine' append_iv ?k1 ?k2 ?k3 ?k4 ?_; (case k1 => k_asm); (case k2 => k_asm); (case k3 => k_upd); (case k4 => assumption); k_whole; intro h' F' N'; (try k_sweep))))
local macro_rules | `(tactic| walk_at "call builtin:list.pop") => `(tactic| (k_here; (with_reducible show wpAny _ _ (call (Value.builtin _) [Value.ref _]) _ _ _); k_dflt (refine' pop_iv ?k1 ?k2 ?k3 ?k4 ?_; (case k1 => k_asm); (case k2 => k_asm); (case k3 => k_upd); (case k4 => assumption); k_whole; intro h' F' N'; (try k_sweep))))
local macro_rules | `(tactic| walk_at "call builtin:list.pop") => `(tactic| (dsimp only; fail_if_success (with_reducible show wpAny _ _ (call (Value.builtin _) (Prod.snd _)) _ _ _)))
local macro_rules | `(tactic| walk_at "call builtin:len") => `(tactic| (k_here; (with_reducible show wpAny _ _ (call (Value.builtin "len") [Value.ref _]) _ _ _); k_dflt (refine' len_iv ?k1 ?k2 ?k3 ?k4 ?_; (case k1 => k_in); (case k2 => k_asm); (case k3 => k_mem); (case k4 => assumption); k_whole); intro u' tk'))
local macro_rules | `(tactic| walk_at "truthy ref") => `(tactic| (k_here; k_dflt (refine' truthy_iv ?k1 ?k2 ?k3 ?k4 ?_; (case k1 => k_in); (case k2 => k_asm); (case k3 => k_mem); (case k4 => assumption); k_whole); intro tk'))
local macro_rules | `(tactic| walk_at "eval Subscript") => `(tactic| (k_here; (with_reducible show wpAny _ _ (eval (PySem.Expr.Subscript _ (PySem.Expr.Slice _ _ none _) _) _) _ _ _); refine SubSlice_ ?_))
local macro_rules | `(tactic| walk_at "delete Subscript") => `(tactic| (k_here; (with_reducible show wpAny _ _ (delete (PySem.Expr.Subscript _ (PySem.Expr.Slice _ none none _) _) _) _ _ _); refine DelSlice_ ?_))
local macro_rules | `(tactic| walk_at "call builtin:list.extend") => `(tactic| (k_here; k_dflt (refine' extend_iv ?k1 ?k2 ?k3 ?k4 ?k5 ?k6 ?k7 ?_; (case k1 => k_in); (case k2 => k_asm); (case k3 => k_asm); (case k4 => (intro o9; k_upd)); (case k5 => k_mem); (case k6 => first | assumption | omega); (case k7 => ((try simp only [List.length_drop, List.length_take]); omega)); k_whole; intro h' e' F' N'; (try k_sweep))))
local macro_rules | `(tactic| ktr_enter) => `(tactic| (refine' code_def ?k1 ?k2 ?k3 ?k4 ?k5 ?kA ?kF ?kK ?k6 ?k7 ?k8 ?k9 ?kB ?_ ?c2 ?c3 ?c4 ?c5; (case kA => first | assumption | exact fr_in (by assumption) | exact rfl); (case kF => first | assumption | exact rfl); (case kK => first | assumption | exact rfl); (case k1 => k_asm); (case k2 => k_asm); (case k3 => k_asm); (case k4 => k_asm); (case k5 => k_asm); (case k6 => k_is); (case k7 => k_is); (case k8 => ktr_room); (case k9 => first | exact BindsTo.of_eq rfl | exact binds_K (by k_in) rfl (by k_is) rfl rfl rfl); (case c5 => decide); (case kB => exact locs rfl); (case c2 => exact rfl); (case c3 => exact rfl); (case c4 => exact rfl); k_whole; intro g' L' h' FG' F' N' B' X' T'; (try dsimp only); (try k_fold)))
local macro_rules | `(tactic| k_mem) => `(tactic| (first | assumption | (refine List.mem_append_left _ ?_; assumption) | (refine List.mem_append_right _ ?_; assumption) | (refine List.mem_append_right _ ?_; k_mem)))
local macro_rules | `(tactic| walk_at "exec For Name Name cons nil") => `(tactic| (k_here; refine For_ ?_))
local macro_rules | `(tactic| walk_at "exec For Name Subscript cons nil") => `(tactic| (k_here; refine For_ ?_))
local macro_rules | `(tactic| walk_at "call ref") => `(tactic| (k_here; (with_reducible show wpAny _ _ (call (Value.ref 300) _) _ _ _); refine Stop.intro ?_))
local macro_rules | `(tactic| walk_at "compareOp In str ref") => `(tactic| (k_here; k_dflt (first
  | (refine' kin_t (knd := PySem.strKind _ _) ?k1 ?k2 ?k3 ?k4 (strKind_is _ _ _ _) ?k5 ?_; (case k1 => k_asm); (case k2 => k_mem); (case k3 => assumption); (case k4 => assumption); (case k5 => assumption); k_whole)
  | (refine' kin_f (knd := PySem.strKind _ _) ?k1 ?k2 ?k3 ?k4 (strKind_is _ _ _ _) ?k5 ?_; (case k1 => k_asm); (case k2 => k_mem); (case k3 => assumption); (case k4 => assumption); (case k5 => assumption); k_whole))))
local macro_rules | `(tactic| walk_at "compareOp NotIn str ref") => `(tactic| (k_here; k_dflt (first
  | (refine' knin_t (knd := PySem.strKind _ _) ?k1 ?k2 ?k3 ?k4 (strKind_is _ _ _ _) ?k5 ?_; (case k1 => k_asm); (case k2 => k_mem); (case k3 => assumption); (case k4 => assumption); (case k5 => assumption); k_whole)
  | (refine' knin_f (knd := PySem.strKind _ _) ?k1 ?k2 ?k3 ?k4 (strKind_is _ _ _ _) ?k5 ?_; (case k1 => k_asm); (case k2 => k_mem); (case k3 => assumption); (case k4 => assumption); (case k5 => assumption); k_whole))))
local macro_rules | `(tactic| walk_at "subscriptTail") => `(tactic| (k_here; k_dflt (refine' kda_item (knd := PySem.strKind _ _) ?k1 ?k2 ?k3 (strKind_is _ _ _ _) ?k5 ?_; (case k1 => k_asm); (case k2 => k_mem); (case k3 => assumption); (case k5 => assumption); k_whole)))
local macro_rules | `(tactic| walk_at "call builtin:list.remove") => `(tactic| (k_here; (with_reducible show wpAny _ _ (call _ _) _ _ _); refine Stop.intro ?_))
local macro_rules | `(tactic| walk_at "call ref") => `(tactic| (k_here; (with_reducible show wpAny _ _ (call (Value.ref 336) _) _ _ _); k_dflt (refine wpAny_call ?_; ktr_enter)))
local macro_rules | `(tactic| walk_at "exec Assign cons ListComp") => `(tactic| (k_here; k_dflt (refine Assign_ListComp_C (by with_unfolding_all rfl) (by with_unfolding_all rfl) (by rfl) (by decide) ?_)))
local macro_rules | `(tactic| walk_at "call builtin:list.sort") => `(tactic| (k_here; (with_reducible show wpAny _ _ (call _ _) _ _ _); refine Stop.intro ?_))
local macro_rules | `(tactic| walk_at "exec For Name Name cons cons") => `(tactic| (k_here; refine For_ ?_))
local macro_rules | `(tactic| walk_at "exec For Tuple Subscript cons cons") => `(tactic| (k_here; refine For_ ?_))
local macro_rules | `(tactic| walk_at "exec If") => `(tactic| (k_here; (with_reducible show wpAny _ _ (exec (Stmt.If (Expr.Name _ _) _ _ _) _) _ _ _); refine If_ ?_))
local macro_rules | `(tactic| walk_at "setItem ref str") => `(tactic| (k_here; (with_reducible show wpAny _ _ (setItem _ _ _) _ _ _); refine Stop.intro ?_))
local macro_rules | `(tactic| walk_at "delItem ref str") => `(tactic| (k_here; (with_reducible show wpAny _ _ (delItem _ _) _ _ _); refine Stop.intro ?_))
local macro_rules | `(tactic| walk_at "call builtin:dict.copy") => `(tactic| (k_here; (with_reducible show wpAny _ _ (call _ _) _ _ _); refine Stop.intro ?_))
local macro_rules | `(tactic| walk_at "call builtin:list.append") => `(tactic| (k_here; (with_reducible show wpAny _ _ (call _ _) _ _ _); refine Stop.intro ?_))
local macro_rules | `(tactic| walk_at "call ref") => `(tactic| (k_here; (with_reducible show wpAny _ _ (call (Value.ref 286) _) _ _ _); refine Stop.intro ?_))
local macro_rules | `(tactic| walk_at "call ref") => `(tactic| (k_here; (with_reducible show wpAny _ _ (call (Value.ref 293) _) _ _ _); refine Stop.intro ?_))
local macro_rules | `(tactic| walk_at "call ref") => `(tactic| (k_here; (with_reducible show wpAny _ _ (call (Value.ref 208) _) _ _ _); refine Stop.intro ?_))
local macro_rules | `(tactic| walk_at "call ref") => `(tactic| (k_here; (with_reducible show wpAny _ _ (call (Value.ref (Cn.c _)) _) _ _ _); refine Stop.intro ?_))
local macro_rules | `(tactic| walk_at "getMethod ref") => `(tactic| (k_here; (with_reducible show wpAny _ _ (getMethod (Value.ref _) (PySem.Str.ofString "copy") _) _ _ _); k_dflt (refine' copy_method (knd := PySem.strKind PW _) ?k1 ?k2 ?k3 ?_; (case k1 => k_asm); (case k2 => k_mem); (case k3 => assumption); k_whole)))
local macro_rules | `(tactic| walk_at "assign Tuple") => `(tactic| (k_here; (with_reducible show wpAny _ _ (assign (Expr.Tuple _ _ _) _ (Value.ref _)) _ _ _); k_dflt (refine' unpackN_ ?k1 ?k2 ?k3 ?k4 ?k5 ?k6 ?_; (case k1 => k_asm); (case k2 => k_asm); (case k3 => (refine News.isTup (by k_asm) (by k_mem))); (case k4 => first | assumption | exact rfl); (case k5 => exact rfl); (case k6 => exact rfl); k_whole); intro h' F' N'; (try k_sweep)))
local macro_rules | `(tactic| walk_at "call builtin:hasattr") => `(tactic| (k_here; (with_reducible show wpAny _ _ (call (Value.builtin "hasattr") [Value.ref _, Value.str _ _]) _ _ _); k_dflt (refine' hasattr_K ?k1 ?k2 ?k3 ?k4 ?_; (case k1 => k_in); (case k2 => k_asm); (case k3 => k_asm); (case k4 => k_mem); k_whole); intro h' tk' F' N'; (try k_sweep)))
open PyProof.Rows.LCg
local macro_rules | `(tactic| walk_at "call builtin:len") => `(tactic| (k_here; (with_reducible show wpAny _ _ (call (Value.builtin "len") [Value.ref _]) _ _ _); k_dflt (refine' len_map ?k2 ?k3 ?k4 ?_; (case k2 => k_asm); (case k3 => k_mem); (case k4 => assumption); k_whole); intro u' tk'))
local macro_rules | `(tactic| walk_at "exec If") => `(tactic| (k_here; (with_reducible show wpAny _ _ (exec (Stmt.If (Expr.Name _ _) [Stmt.For _ _ _ _ _] _ _) _) _ _ _); refine Stop.intro ?_))
local macro_rules | `(tactic| walk_at "exec If") => `(tactic| (k_here; (with_reducible show wpAny _ _ (exec (Stmt.If (Expr.UnaryOp _ (Expr.Name _ _) _) _ _ _) _) _ _ _); refine If_ ?_))
local macro_rules | `(tactic| walk_at "truthy ref") => `(tactic| (k_here; (with_reducible show wpAny _ _ (truthy _) _ _ _); refine Stop.intro ?_))
local macro_rules | `(tactic| walk_at "call builtin:list.pop") => `(tactic| (k_here; (with_reducible show wpAny _ _ (call (Value.builtin _) [Value.ref _]) _ _ _); refine Stop.intro ?_))
local macro_rules | `(tactic| walk_at "exec While Name cons cons") => `(tactic| (k_here; (with_reducible show wpAny _ _ (exec _ _) _ _ _); refine Stop.intro ?_))
local macro_rules | `(tactic| walk_at "exec For Tuple Subscript cons cons") => `(tactic| (k_here; refine For_ ?_))
local macro_rules | `(tactic| walk_at "pyIter ref") => `(tactic| (k_here; (with_reducible show wpAny _ _ (pyIter _) _ _ _); refine Stop.intro ?_))
/-- at the head of the outer loop -/
def BtI (w : World) (p : Program) (loose : List Str) (mean : ExcName → Option Value) (mg mb : Str → Option Value) (nm : Nat → Str) (R : List (Addr × Obj)) (Lg x AD AV AA AQ : Addr) (cs : List Dc) (vcs : List (List Cn)) (fcOn : Bool) (A2 : Around) (Φ : End → Shared → Prop) (f : Nat) (s' : Shared) : Prop :=
  ∃ g rest s2 ys qx asg ds h tk m oa kq dyn Pers o1 o2 o3 o4, s' = { s2 with heap := h, toks := tk } ∧ GCx w p loose mean mg mb A2 g ∧ (∀ q ∈ R, q ∈ rest) ∧ GPost w p loose mean mg mb nm R Lg ys g rest Φ s2 ∧
    btOut cs.length (btConM vcs) (vkey vcs) fcOn f (qx.map QX.e) asg ds = some ys ∧ BtM w nm Lg x AD AV AA AQ cs fcOn g rest asg qx [] ds h m oa kq dyn Pers o1 o2 o3 o4
/-- at the head of the inner loop -/
def BtT (w : World) (p : Program) (loose : List Str) (mean : ExcName → Option Value) (mg mb : Str → Option Value) (nm : Nat → Str) (R : List (Addr × Obj)) (Lg x AD AV AA AQ : Addr) (cs : List Dc) (vcs : List (List Cn)) (fcOn : Bool) (f : Nat) (A2 : Around) (Φ : End → Shared → Prop) (s' : Shared) : Prop :=
  ∃ g rest s2 ys qx xq asg ds h tk m oa kq dyn Pers o1 o2 o3 o4, s' = { s2 with heap := h, toks := tk } ∧ GCx w p loose mean mg mb A2 g ∧ (∀ q ∈ R, q ∈ rest) ∧ GPost w p loose mean mg mb nm R Lg ys g rest Φ s2 ∧
    (match btIn (btConM vcs) 400 (xq.e, qx.map QX.e, asg, ds) with | none => False | some none => ys = [] | some (some (c, q, a, d)) => btOut cs.length (btConM vcs) (vkey vcs) fcOn f (c :: q) a d = some ys) ∧
    BtM w nm Lg x AD AV AA AQ cs fcOn g rest asg qx [xq] ds h m oa kq dyn Pers o1 o2 o3 o4 ∧ QCur nm cs Pers m o1 xq
/-- in the inner loop -/
def BtN (w : World) (nm : Nat → Str) (Lg x AD AV AA AQ : Addr) (cs : List Dc) (fcOn : Bool) (g : Heap) (rest : List (Addr × Obj)) (s2 : Shared) (C : BtS → Prop) (s' : Shared) : Prop :=
  ∃ qx xq asg ds h tk m oa kq dyn Pers o1 o2 o3 o4, s' = { s2 with heap := h, toks := tk } ∧ C (xq.e, qx.map QX.e, asg, ds) ∧
    BtM w nm Lg x AD AV AA AQ cs fcOn g rest asg qx [xq] ds h m oa kq dyn Pers o1 o2 o3 o4 ∧ QCur nm cs Pers m o1 xq
/-- the entry in hand has a value left, or the search is over -/
def FillP (w : World) (nm : Nat → Str) (Lg x AD AV AA AQ : Addr) (cs : List Dc) (vcs : List (List Cn)) (fcOn : Bool) (g : Heap) (rest : List (Addr × Obj)) (s2 : Shared) (n : Nat) (res : Option BtS) (fl : Flow) (s' : Shared) : Prop := match fl with
  | .next => BtN w nm Lg x AD AV AA AQ cs fcOn g rest s2 (fun S => S.1.vals.isEmpty = false ∧ S.2.2.1.length ≤ 400 ∧ btTry (btConM vcs) (btIn (btConM vcs) n) S.1 S.2.1 S.2.2.1 S.2.2.2 = some res) s'
  | .ret v => v = .none ∧ res = none ∧ ∃ h tk m', s' = { s2 with heap := h, toks := tk } ∧ Fr g Lg h m' ∧ News g Lg h rest
  | _ => False
section
variable {w : World} {p : Program} {loose : List Str} {mean : ExcName → Option Value} {mg mb : Str → Option Value} {A : Around} {env : Env} {outer : List Env} {A₀ : Around} {base h₀ : Heap} {L : Addr} {m : Str → Option Value} {s : Shared} {Q E : Value → Shared → Prop}
  {R dyn news : List (Addr × Obj)} {cs : List Dc} {ds ds' : List Ds}
theorem bt_gen {x xdx AD AV AC : Addr} {nm : Nat → Str} {od ov : Obj} {vls : List Addr} {vcs : List (List Cn)} {fcOn : Bool} {t0 : Tok} {e0 f : Nat} {ys : List Asg} (cx : Cx w p loose mean mg mb A 500 5000 env outer A₀ base h₀ L) (F : Fr h₀ L s.heap m)
    (N : News h₀ L s.heap news) (C : Cut dyn news R) (P : PbOk w nm R AD AV od ov cs vls vcs) (hx : (x, instObj 186 xdx) ∈ R) (hxd : (xdx, btD w.params t0 fcOn e0) ∈ R) (D : Dyn w.params cs ds dyn) (hm : btOut cs.length (btConM vcs) (vkey vcs) fcOn f [] [] ds = some ys)
    (ret : ∀ Lg AG h' tk oF m' own t1 t2 gs name qual, NsObj oF m' → Fr h₀ L h' m → News h₀ L h' ((AG, genO s.gens.size name qual t1 t2) :: (Lg, oF) :: (own ++ R)) → (∀ q ∈ R, q.1 ∉ own.map (·.1)) → (∀ q ∈ (Lg, oF) :: (own ++ R), q.1 < AG) → @LT.lt Nat _ L Lg → (∀ q ∈ own ++ R, q.1 ≠ Lg) → gs.bare = true →
      GRdy w p loose mean mg mb nm R Lg ys m' own gs → Q (.ref AG) { s with gens := s.gens.push gs, heap := h', toks := tk }) :
    wpAny (model PW w) A (call (.ref 169) [.ref x, .ref AD, .ref AC, .ref AV]) Q E s := by
  obtain ⟨B, X, T, hk, hf, hd, hu, hfr, hhd⟩ := cx
  obtain rfl := C.eq
  refine wpAny_call ?_
  k_dflt (refine' code_genC ?kF ?kX ?kN ?kT ?k6 ?k7 ?k8 ?k9 ?kB ?kD ?_ ?c2 ?c3 ?c4; (case kF => k_asm); (case kX => k_asm); (case kN => k_asm); (case kT => k_asm); (case k6 => k_is); (case k7 => k_is); (case k8 => ktr_room); (case k9 => first | exact BindsTo.of_eq rfl | exact binds_K (by k_in) rfl (by k_is) rfl rfl rfl); (case kB => exact rfl); (case kD => decide +kernel); (case c2 => exact rfl); (case c3 => exact rfl); (case c4 => exact rfl))
  intro Lg AG h₁ tk oF cells t1 t2 nsF F1 N1 Y l1 l2 l3 l4
  obtain ⟨o1, o2, o3, o4, rfl, d1, d2, d3, d4⟩ := CellsAre.four Y
  clear Y
  replace d1 : o1.data = Data.cell none := d1
  replace d2 : o2.data = Data.cell none := d2
  replace d3 : o3.data = Data.cell (some (.ref AV)) := d3
  replace d4 : o4.data = Data.cell (some (.ref AD)) := d4
  have hdynlt : ∀ q ∈ R ++ dyn, @LT.lt Nat _ q.1 Lg := l1
  refine ret Lg AG h₁ tk oF _ ([(Lg + 1 + 1 + 1 + 1, o1), (Lg + 1 + 1 + 1, o2), (Lg + 1 + 1, o3), (Lg + 1, o4)] ++ dyn) t1 t2 _ "getSolutionIter" "BacktrackingSolver.getSolutionIter" nsF F1 (news_sub N1 ?_) ?_ ?_ l3 ?_ rfl ?_
  · intro q hq; simp only [List.mem_cons, List.mem_append, List.not_mem_nil, or_false] at hq ⊢; grind
  · intro q hq hm
    have z : @LT.lt Nat _ q.1 Lg := l1 q (List.mem_append_left _ hq)
    rw [List.map_append, List.mem_append, D.fst] at hm
    rcases hm with hm | hm
    · simp only [List.map_cons, List.map_nil, List.mem_cons, List.not_mem_nil, or_false] at hm
      rcases hm with h | h | h | h <;> (rw [h] at z; omega)
    · exact P.hR q hq hm
  · intro q hq; exact l2 q (by simp only [List.mem_cons, List.mem_append, List.not_mem_nil, or_false] at hq ⊢; grind)
  · intro q hq
    rcases List.mem_append.mp hq with hq | hq
    · rcases List.mem_append.mp hq with hq | hq
      · exact Nat.ne_of_gt (l4 q hq)
      · exact Nat.ne_of_lt (l1 q (List.mem_append_right _ hq))
    · exact Nat.ne_of_lt (l1 q (List.mem_append_left _ hq))
  · clear F1 N1 ret l2 F N C
    refine grdy_mk ?_
    intro A2 g2 rest s2 Φ gcx F2 N2 off2 hR2 post
    obtain ⟨⟨base2, outer2, B2⟩, X2, T2, hh2, hd2, hu2⟩ := gcx
    refine ⟨rfl, sg_func fun H => ?_⟩
    clear B X T hk hf hd hu hfr hhd
    refine Fr.abs [("self", .ref x)] F2 (by (intros; repeat (first | exact Locs.nil | refine Locs.cons rfl ?_))) (fun m2 H2 F2 => ?_)
    clear nsF
    have F2 := H2.fr F2
    simp only [nest] at F2
    -- what lies behind the cells
    generalize hTL : dyn ++ rest = TL
    have N2 : News g2 Lg s2.heap ((Lg + 1 + 1 + 1 + 1, o1) :: (Lg + 1 + 1 + 1, o2) :: (Lg + 1 + 1, o3) :: (Lg + 1, o4) :: TL) := by rw [← hTL]; simpa only [List.cons_append, List.nil_append, List.append_assoc] using N2
    have offT : ∀ q ∈ TL, q.1 ≠ Lg + 1 + 1 + 1 + 1 ∧ q.1 ≠ Lg + 1 + 1 + 1 ∧ q.1 ≠ Lg + 1 + 1 ∧ q.1 ≠ Lg + 1 := by
      rw [← hTL]
      intro q hq
      rcases List.mem_append.mp hq with hq | hq
      · have z : @LT.lt Nat _ q.1 Lg := l1 q (List.mem_append_right _ hq)
        exact ⟨fun e => by rw [e] at z; omega, fun e => by rw [e] at z; omega, fun e => by rw [e] at z; omega, fun e => by rw [e] at z; omega⟩
      · have z := off2 q hq
        rw [List.map_append, List.mem_append, not_or] at z
        simpa only [List.map_cons, List.map_nil, List.mem_cons, List.not_mem_nil, or_false, not_or] using z.1
    have T1 : ∀ q ∈ TL, q.1 ≠ Lg + 1 + 1 + 1 + 1 := fun q hq => (offT q hq).1
    have T2' : ∀ q ∈ TL, q.1 ≠ Lg + 1 + 1 + 1 := fun q hq => (offT q hq).2.1
    have hxT : (x, instObj 186 xdx) ∈ TL := by rw [← hTL]; exact List.mem_append_right _ (hR2 _ hx)
    have hxdT : (xdx, btD w.params t0 fcOn e0) ∈ TL := by rw [← hTL]; exact List.mem_append_right _ (hR2 _ hxd)
    refine sg_cons (sg_stmt0 B2.stack hh2 fun A3 ov => ?_)
    obtain ⟨hfr3, hh3, hd3, hu3⟩ := ov
    have hd3 : A3.depth ≤ 702 := by omega
    have hu3 : A3.units ≤ 7012 := by omega
    k_steps
    refine sg_cons (sg_stmt0 B2.stack hh2 fun A4 ov => ?_)
    obtain ⟨hfr4, hh4, hd4, hu4⟩ := ov
    have hd4 : A4.depth ≤ 702 := by omega
    have hu4 : A4.units ≤ 7012 := by omega
    k_steps
    rename Addr => AA
    refine sg_cons (sg_stmt0 B2.stack hh2 fun A5 ov => ?_)
    obtain ⟨hfr5, hh5, hd5, hu5⟩ := ov
    have hd5 : A5.depth ≤ 702 := by omega
    have hu5 : A5.units ≤ 7012 := by omega
    k_steps
    rename (AA == sysModules) = false => loA
    rename Addr => AQ
    rename PyProof.V.FlatPairs PyData.int _ _ => fx1
    rename PyProof.V.FlatPairs PyData.str _ _ => fx2
    clear fx1 fx2
    refine sg_cons (sg_While fun p0 k0 hk0 => ?_)
    rename News g2 Lg _ _ => N6
    rename Fr g2 Lg _ _ => F6
    refine sg_ind (BtI w p loose mean mg mb nm R Lg x AD AV AA AQ cs vcs fcOn) ?h0 ?step f A2 Φ _ ?init
    case h0 =>
      rintro A' Φ' s' ⟨g, rest', s2', ys', qx, asg, ds', h, tk', m, oa, kq, dyn', Pers, q1, q2, q3, q4, rfl, gc, hR', po, hb, M⟩
      cases hb
    case init =>
      rename _ < _ ∧ _ < _ ∧ _ < _ ∧ _ < _ ∧ _ < _ ∧ AllLt AQ TL => ltQ
      rename _ < _ ∧ _ < _ ∧ _ < _ ∧ _ < _ ∧ AllLt AA TL => ltA
      rename Obj.IsDictOf (PySem.strKind PW w) _ [] => hd0
      rename _ = Data.cell (some (Value.ref AA)) => dA
      have tA := allLt_mem ltA.2.2.2.2
      have tQ := allLt_mem ltQ.2.2.2.2.2
      have inD : ∀ q ∈ dyn, q ∈ TL := fun q hq => by rw [← hTL]; exact List.mem_append_left _ hq
      have inR : ∀ q ∈ rest, q ∈ TL := fun q hq => by rw [← hTL]; exact List.mem_append_right _ hq
      have nA : AA ∉ ads cs := D.notin fun q hq => Nat.ne_of_lt (tA q (inD q hq))
      have nQ : AQ ∉ ads cs := D.notin fun q hq => Nat.ne_of_lt (tQ q (inD q hq))
      refine ⟨g2, rest, s2, ys, [], [], ds, _, _, _, _, 0, dyn, [], o1, _, o3, o4, rfl, ⟨⟨base2, outer2, B2⟩, X2, T2, hh2, hd2, hu2⟩, hR2, post, hm, ⟨F6, news_sub N6 ?mem, by (intros; repeat (first | exact Locs.nil | refine Locs.cons rfl ?_)), ⟨hd0, D, ?nd⟩, ?off, ?c1, ?c2, ⟨_, d1⟩, dA, d3, d4, (fun _ h => nomatch h), fun _ _ h => nomatch h⟩⟩
      case mem => rw [← hTL]; intro q hq; simp only [cellL, btY, List.nil_append, List.reverse_nil, List.map_nil, List.append_nil, List.cons_append, List.mem_cons, List.mem_append] at hq ⊢; grind
      case nd =>
        show (AA :: AQ :: ads cs).Nodup
        exact List.nodup_cons.mpr ⟨by simp only [List.mem_cons, not_or]; exact ⟨Nat.ne_of_lt ltQ.1, nA⟩, List.nodup_cons.mpr ⟨nQ, P.nd⟩⟩
      case off =>
        intro q hq hm2
        rcases List.mem_cons.mp hm2 with e | hm2
        · exact Nat.ne_of_lt (tA q (inR q hq)) e
        rcases List.mem_cons.mp hm2 with e | hm2
        · exact Nat.ne_of_lt (tQ q (inR q hq)) e
        · refine off2 q hq ?_
          rw [List.map_append, List.mem_append, D.fst]
          exact .inr (by simpa using hm2)
      case c1 => exact fun q hq => offT q (inR q hq)
      case c2 =>
        intro a ha
        rcases List.mem_cons.mp ha with rfl | ha
        · exact ⟨Nat.ne_of_gt ltA.1, Nat.ne_of_gt ltA.2.1, Nat.ne_of_gt ltA.2.2.1, Nat.ne_of_gt ltA.2.2.2.1⟩
        rcases List.mem_cons.mp ha with rfl | ha
        · exact ⟨Nat.ne_of_gt ltQ.2.1, Nat.ne_of_gt ltQ.2.2.1, Nat.ne_of_gt ltQ.2.2.2.1, Nat.ne_of_gt ltQ.2.2.2.2.1⟩
        · have ha : a ∈ ads cs := by simpa using ha
          rw [← D.fst] at ha
          obtain ⟨q, hq, rfl⟩ := List.mem_map.mp ha
          exact offT q (inD q hq)
    case step =>
      intro f' IH A' Φ' s' hI
      refine sg_whileLoop (isTrue_plain (Constant_bool (wpAny_truthy_bool ?_)))
      intro H gd lv hgd hlv
      rw [if_pos rfl]
      obtain ⟨g, rest', s2', ys', qx, asg, ds', h, tk', m, oa, kq, dyn', Pers, q1, q2, q3, q4, rfl, gc, hR', po, hb, M⟩ := hI
      obtain ⟨⟨base', outer', B'⟩, X', T', hh', hd', hu'⟩ := id gc
      clear hfr3 hfr4 hfr5
      have hAD := P.hAD
      have hod := P.hod
      have hAV := P.hAV
      have hov := P.hov
      have loD := P.loD
      have loV := P.loV
      have D' := M.B.d
      have hoa := M.B.a
      have hl2 := D'.len
      have d2' := M.d2
      have d3' := M.d3
      have d4' := M.d4
      have up0 : ∀ p ∈ R, p ∈ (Pers ++ rest') ++ (btY AA AQ oa kq qx [] ++ dyn') := fun p hp => List.mem_append_left _ (List.mem_append_right _ (hR' p hp))
      unfold btOut at hb
      split at hb
      case isFalse => cases hb
      rename_i hchk
      simp only [Bool.and_eq_true, decide_eq_true_eq, List.all_eq_true] at hchk
      obtain ⟨⟨hsm, hasl⟩, hql⟩ := hchk
      refine sg_cons (sg_stmt1 B'.stack hh' .whl fun A3 ov => ?_)
      obtain ⟨hfr3, hh3, hd3, hu3⟩ := ov
      have hd3 : A3.depth ≤ 702 := by omega
      have hu3 : A3.units ≤ 7012 := by omega
      have F7 := M.H.fr M.F
      simp only [nest] at F7
      have N7 := M.N
      have hmAD := up0 _ hAD
      have hmAV := up0 _ hAV
      have upR : ∀ p ∈ R, p ∈ (Pers ++ rest') ++ (btY AA AQ oa kq qx [] ++ dyn') := up0
      have upD : ∀ p ∈ dyn', p ∈ (Pers ++ rest') ++ (btY AA AQ oa kq qx [] ++ dyn') := fun p hp => List.mem_append_right _ (List.mem_append_right _ hp)
      generalize hTLd : (Pers ++ rest') ++ (btY AA AQ oa kq qx [] ++ dyn') = TL2 at N7 hmAD hmAV upR upD
      k_steps
      refine' compSt_dictA (knd := PySem.strKind PW w) (fun i ys nw => ∃ T : List (Addr × Obj), T.length = i ∧ nw = T ++ cellL Lg q1 q2 q3 q4 TL2 ∧ ys = refs T ∧ ∀ (j : Nat) (p : Addr × Obj), T[j]? = some p → TupAt (vkey vcs ds' j).1 (vkey vcs ds' j).2 (nm j) p.2)
        ?e1 ?e2 ?e3 ?eh ?eF ?eN ?e0 hod loD ?ez ?e4 ?e5 ?e6 ?hJd ?hJ ?turn ?fin
      case eh => exact hh3
      case eF => exact F7
      case eN => exact N7
      case e0 => k_mem
      case ez => rw [List.length_mapIdx, sizeLine_eq]; have := P.n6; omega
      case e1 => rfl
      case e2 => rfl
      case e3 => rfl
      case e4 => decide
      case e5 => rfl
      case e6 => rfl
      case hJd => rintro i ys nw ⟨T, _, rfl, _⟩; exact List.mem_append_right _ (by k_mem)
      case hJ => exact ⟨[], rfl, rfl, rfl, fun j p h => by simp at h⟩
      case turn =>
        -- BEGIN turn
        rintro I i k u t oI C oC D2 m₂ h tk ys nw E' s₂ hki hkey ⟨T, hTl, rfl, rfl, hT⟩ hC hxv F' N' off' ne'
        rw [List.getElem?_mapIdx] at hki
        obtain ⟨c₁, hc₁⟩ : ∃ c₁, cs[i]? = some c₁ := by cases e : cs[i]? with | none => rw [e] at hki; cases hki | some c₁ => exact ⟨_, rfl⟩
        rw [hc₁] at hki
        cases hki
        obtain ⟨tt, rfl⟩ := Value.isStrOf_shape hkey
        refine wpAny_tests_nil ?_
        simp only [if_true]
        obtain ⟨d, hd1⟩ := get_same hl2.symm hc₁
        obtain ⟨va, hva⟩ := get_same P.l1 hc₁
        obtain ⟨vl, hvl⟩ := get_same P.l2 hc₁
        have hvd := P.dom _ _ hc₁
        have hvv := P.vc _ _ hva
        obtain ⟨kk, hmv⟩ := P.hvl _ _ _ hva hvl
        have hmv' := upR _ hmv
        have hlv : vl.length ≤ 1000 := by have := P.hsz vl (List.mem_of_getElem? hvl); omega
        have hld : d.vs.length ≤ 1000 := by have := hsm d (List.mem_of_getElem? hd1); omega
        obtain ⟨e₁, hx₁', hdx₁'⟩ := D'.there hc₁ hd1
        have hx₁ := upD _ hx₁'
        k_steps
        rename News _ _ _ _ => N8
        rename _ < _ ∧ _ < _ ∧ _ < _ ∧ AllLt _ _ => lt8
        refine out_snoc (by k_asm) N8 lt8 off' ⟨T ++ [_], by simp [hTl], rfl, by simp [refs], fun j p hj => ?_⟩
        rcases Nat.lt_trichotomy j T.length with hjl | hjl | hjl
        · rw [List.getElem?_append_left hjl] at hj; exact hT j p hj
        · rw [hjl, List.getElem?_concat_length] at hj
          cases hj
          rw [hjl, hTl]
          rw [show vkey vcs ds' i = (-(vl.length : Int), (d.vs.length : Int)) by simp only [vkey, List.getD_eq_getElem?_getD, hvl, hd1, Option.getD_some, Option.map_some]]
          exact ⟨_, _, _, rfl⟩
        · rw [List.getElem?_eq_none (by simp; omega)] at hj; cases hj
        -- END turn
      case fin =>
        rintro D3 h tk ys nw F8 N8 hD3 ⟨T, hTl, rfl, rfl, hT⟩
        rw [List.length_mapIdx] at hTl
        dsimp only
        refine sg_cons (sg_stmt1 B'.stack hh' .whl fun A4 ov => ?_)
        obtain ⟨hfr4, hh4, hd4, hu4⟩ := ov
        have hd4 : A4.depth ≤ 702 := by omega
        have hu4 : A4.units ≤ 7012 := by omega
        k_steps
        refine' sort_tups (T := T) (key := vkey vcs ds') (nm := nm) (n := cs.length) ?F ?N hD3 (fun p hp => List.mem_append_left _ hp) hT hTl P.n2 P.n6 P.inj P.ord ?_
        case F => k_asm
        case N => exact N8
        intro h' tk' c' perm F9 N9 hp1 hp2
        k_steps
        refine sg_consT (BtT w p loose mean mg mb nm R Lg x AD AV AA AQ cs vcs fcOn f') ?tl9 (fun TAIL => ?_)
        case tl9 =>
          clear hfr3 hfr4 F7 N7 F8 N8 F9 N9 hT
          clear po hb M B' gc
          rintro A5 Φ5 s5 ⟨g5, rest5, s6, ys5, qx5, xq5, asg5, ds5, h5, tk5, m5, oa5, kq5, dyn5, Pers5, r1, r2, r3, r4, rfl, gc5, hR5, po5, hb5, M5, Q5⟩
          obtain ⟨⟨base5, outer5, B5⟩, X5, T5, hh5', hd5', hu5'⟩ := id gc5
          cases hres : btIn (btConM vcs) 400 (xq5.e, qx5.map QX.e, asg5, ds5) with
          | none => rw [hres] at hb5; exact hb5.elim
          | some res =>
          rw [hres] at hb5
          try dsimp only at hb5
          refine sg_cons (sg_stmt1 B5.stack hh5' .whl fun A6 ov => ?_)
          obtain ⟨hfr6, hh6, hd6, hu6⟩ := ov
          have hd6 : A6.depth ≤ 702 := by omega
          have hu6 : A6.units ≤ 7012 := by omega
          refine wpAny_mono (Q := fun fl s' => Hold (match fl with
            | .next => ∃ st, res = some st ∧ BtN w nm Lg x AD AV AA AQ cs fcOn g5 rest5 s6 (fun S => S = st) s'
            | .ret v => v = .none ∧ res = none ∧ ∃ h tk m', s' = { s6 with heap := h, toks := tk } ∧ Fr g5 Lg h m' ∧ News g5 Lg h rest5
            | _ => False)) ?whl ?thn (fun _ _ e => e)
          case thn =>
            intro fl s' hq
            cases fl with
            | brk => exact hq.elim
            | cont => exact hq.elim
            | ret v =>
              obtain ⟨rfl, rfl, h, tk, m', rfl, F8, N8⟩ := hq
              dsimp only at hb5
              subst hb5
              refine sg_leaf (.ok (.ret .none)) (hk0 _ _ _ _ ?_)
              exact sg_end (.ok (.ret .none)) (po5 _ _ _ F8 N8)
            | next =>
              obtain ⟨st, rfl, qx, xq, asg, ds, h, tk, m, oa, kq, dyn, Pers, u1, u2, u3, u4, rfl, rfl, M, Qc⟩ := hq
              dsimp only at hb5 ⊢
              refine sg_cons (sg_stmt1 B5.stack hh5' .whl fun A7 ov => ?_)
              obtain ⟨hfr7, hh7, hd7, hu7⟩ := ov
              have hd7 : A7.depth ≤ 702 := by omega
              have hu7 : A7.units ≤ 7012 := by omega
              have F7 := (M.H.app Qc.H).fr M.F
              simp only [nest, List.cons_append, List.nil_append] at F7
              have N7 := M.N
              simp only [cellL] at N7
              obtain ⟨tv, hd1⟩ := Qc.d1
              k_steps
              rename Fr g5 Lg _ _ => F8
              rename News g5 Lg _ _ => N8
              rename _ < _ ∧ _ < _ ∧ _ < _ ∧ _ < _ ∧ AllLt _ _ => lt8
              rename Addr => T8
              have M8 := M.addP F8 (by (intros; repeat (first | exact Locs.nil | refine Locs.cons rfl ?_))) N8 (fun p hp => Nat.ne_of_lt (allLt_mem (l := cellL Lg u1 u2 u3 u4 ((Pers ++ rest5) ++ (btY AA AQ oa kq qx [xq] ++ dyn))) lt8 p hp))
              have N9 := M8.N
              refine bt_qapp (x := xq) (T := T8) (t := tv) (Lo := cellL Lg u1 u2 u3 u4 (_ :: Pers ++ rest5)) F8 N9 M8.B M8.offC ?hql (fun h10 F10 N10 B10 => ?_)
              case hql => have := btOut_len hb5; simp at this; omega
              dsimp only
              refine sg_again rfl (IH A5 Φ5 _ ⟨g5, rest5, s6, ys5, { xq with T := T8, t := tv } :: qx, asg, ds, _, _, _, oa, kq + 1, dyn, _, u1, u2, u3, u4, rfl, gc5, hR5, po5, hb5, { M8 with F := F10, N := N10, B := B10, q := ?hqq }⟩)
              case hqq => exact List.forall_mem_cons.mpr ⟨⟨.head _, Qc.pv.mono fun _ hp => .tail _ hp, Qc.pl, Qc.vl⟩, M8.q⟩
          case whl =>
            -- BEGIN whl
            refine while_turns (fun n s' => BtN w nm Lg x AD AV AA AQ cs fcOn g5 rest5 s6 (fun S => btIn (btConM vcs) n S = some res) s') ?turn 400 ⟨_, _, _, _, _, _, _, _, _, _, _, _, _, _, _, rfl, hres, M5, Q5⟩
            case turn =>
              rintro n s' ⟨qx, xq, asg, ds, h, tk, m, oa, kq, dyn, Pers, u1, u2, u3, u4, rfl, hC, M, Qc⟩
              cases n with
              | zero => cases hC
              | succ n =>
              unfold btIn at hC
              split at hC
              case isFalse => cases hC
              rename_i hlen
              refine isTrue_plain (Constant_bool (wpAny_truthy_bool ?_))
              rw [if_pos rfl]
              have F7 := (M.H.app Qc.H).fr M.F
              simp only [nest, List.cons_append, List.nil_append] at F7
              have N7 := M.N
              have hd2 := M.d2
              have hVL : (xq.VL, listOf (iv xq.e.vals).toArray xq.k) ∈ (Pers ++ rest5) ++ (btY AA AQ oa kq qx [xq] ++ dyn) := List.mem_append_right _ (.tail _ (.tail _ (.head _)))
              k_steps
              refine truthy_lst (l := iv xq.e.vals) N7 (by k_mem) ?hz (fun tk1 => ?_)
              case hz =>
                rw [iv_len]
                cases hv : xq.e.vals.isEmpty with
                | true => rw [List.isEmpty_iff.mp hv]; decide
                | false => unfold btFill at hC; rw [hv] at hC; have := btTry_len hC; omega
              refine IfThen.mono (Q' := FillP w nm Lg x AD AV AA AQ cs vcs fcOn g5 rest5 s6 n res) ?fill ?tryv
              case fill =>
                cases hv : xq.e.vals.isEmpty with
                | false =>
                  unfold btFill at hC
                  rw [hv] at hC
                  rw [if_neg (by simp [iv]; intro e; rw [e] at hv; cases hv)]
                  exact wpAny_execs_nil ⟨_, _, _, _, _, _, _, _, _, _, _, _, _, _, _, rfl, ⟨hv, hlen.1, hC⟩, M, Qc⟩
                | true =>
                  unfold btFill at hC
                  rw [hv, if_pos rfl] at hC
                  rw [if_pos (by simp [iv, List.isEmpty_iff.mp hv])]
                  cases hlk : (lk asg xq.e.v).isSome with
                  | false => rw [hlk] at hC; cases hC
                  | true =>
                  rw [hlk, if_pos rfl] at hC
                  obtain ⟨tv, hd1⟩ := Qc.d1
                  k_steps
                  rename News g5 Lg _ _ => N8
                  refine' bt_del (nm := nm) (i := xq.e.v) (Lo := cellL Lg u1 u2 u3 u4 (Pers ++ rest5)) P.inj ?f1 N8 M.B M.offC ?f2 hlk ?f3
                  case f1 => k_asm
                  case f2 => omega
                  case f3 =>
                    intro h8 oa8 tk8 F9 N9 B9
                    k_steps
                    have M9 : BtM w nm Lg x AD AV AA AQ cs fcOn g5 rest5 (delA asg xq.e.v) qx [] ds h8 _ oa8 kq dyn Pers u1 u2 u3 u4 := BtM.drop (xq := xq) { M with F := F9, N := N9, B := B9, H := by (intros; repeat (first | exact Locs.nil | refine Locs.cons rfl ?_)) }
                    refine wpAny_mono (Q := FillP w nm Lg x AD AV AA AQ cs vcs fcOn g5 rest5 s6 n res) ?w (fun fl s' hq => by cases fl <;> first | exact wpAny_execs_nil hq | exact hq) (fun _ _ e => e)
                    refine while_turns (fun k s' => ∃ qx asg ds h tk m oa kq dyn Pers u1 u2 u3 u4, s' = { s6 with heap := h, toks := tk } ∧ k = qx.length ∧ asg.length ≤ 400 ∧ qx.length ≤ 400 ∧ BtM w nm Lg x AD AV AA AQ cs fcOn g5 rest5 asg qx [] ds h m oa kq dyn Pers u1 u2 u3 u4 ∧
                      (match btBack (qx.map QX.e) asg ds with | none => False | some none => res = none | some (some (c, q, a, d)) => btTry (btConM vcs) (btIn (btConM vcs) n) c q a d = some res)) ?turn2 qx.length ⟨_, _, _, _, _, _, _, _, _, _, _, _, _, _, rfl, rfl, ?ha, ?hq, M9, ?hbk⟩
                    case ha => exact Nat.le_trans (delA_len _ _) hlen.1
                    case hq => simpa using hlen.2
                    case hbk =>
                      cases hbk : btBack (qx.map QX.e) (delA asg xq.e.v) ds with
                      | none => rw [hbk] at hC; cases hC
                      | some r =>
                        rw [hbk] at hC
                        cases r with
                        | none => cases hC; rfl
                        | some st => exact hC
                    case turn2 =>
                      clear N9 B9 M9 M Qc hd1 hlen hC hlk hv
                      rintro k s' ⟨qx, asg, ds, h, tk, m, oa, kq, dyn, Pers, u1, u2, u3, u4, rfl, rfl, hla, hlq, M, hC⟩
                      have F7 := M.H.fr M.F
                      simp only [nest] at F7
                      have N7 := M.N
                      have hAQ : (AQ, listOf (qx.reverse.map fun e => Value.ref e.T).toArray kq) ∈ (Pers ++ rest5) ++ (btY AA AQ oa kq qx [] ++ dyn) := List.mem_append_right _ (.tail _ (.head _))
                      have hc1 := M.cell1
                      have hd2 := M.d2
                      k_steps
                      refine truthy_lst (l := qx.reverse.map fun e => Value.ref e.T) M.N (by k_mem) (by simp; omega) (fun tk1 => ?_)
                      cases qx with
                      | nil =>
                        rw [if_neg (by simp)]
                        k_steps
                        rename Fr g5 Lg _ _ => F8
                        rename News g5 Lg _ _ => N8
                        exact ⟨rfl, hC, _, _, _, rfl, F8, news_sub N8 in_rest⟩
                      | cons e qx =>
                        rw [if_pos (by simp)]
                        simp only [List.map_cons, btBack] at hC
                        cases hpop : popAll e.e.push ds with
                        | none => rw [hpop] at hC; exact hC.elim
                        | some ds1 =>
                        rw [hpop] at hC
                        dsimp only at hC
                        have hqe := M.q e (.head _)
                        k_steps
                        rename Fr g5 Lg _ _ => F8
                        rename News g5 Lg _ _ => N8
                        refine bt_qpop (x := e) (Lo := cellL Lg u1 u2 u3 u4 (Pers ++ rest5)) F8 N8 M.B M.offC (by simp at hlq; omega) (fun h8 F9 N9 B9 => ?_)
                        have M9 : BtM w nm Lg x AD AV AA AQ cs fcOn g5 rest5 asg qx [e] ds h8 _ oa (kq + 1) dyn Pers u1 u2 u3 u4 := { M with F := F9, N := N9, B := B9, H := by (intros; repeat (first | exact Locs.nil | refine Locs.cons rfl ?_)), q := fun y hy => M.q y (.tail _ hy) }
                        have hT9 : (e.T, ({ cls := .type "tuple", data := .seq #[.str (nm e.e.v) e.t, .ref e.VL, e.pv] } : Obj)) ∈ (Pers ++ rest5) ++ (btY AA AQ oa (kq + 1) qx [e] ++ dyn) := List.mem_append_left _ (List.mem_append_left _ hqe.tp)
                        have hc9 := M9.cell1
                        clear hc1 hAQ
                        obtain ⟨v1, hd1⟩ := M.d1
                        simp only [cellL, List.cons_append] at N9
                        k_steps
                        rename Fr g5 Lg _ _ => F10
                        rename News g5 Lg _ _ => N10
                        rename _ = Data.cell (some (Value.str _ _)) => d10
                        have M10 : BtM w nm Lg x AD AV AA AQ cs fcOn g5 rest5 asg qx [e] ds _ _ oa (kq + 1) dyn Pers _ u2 u3 u4 := { M9 with F := F10, N := N10, H := by (intros; repeat (first | exact Locs.nil | refine Locs.cons rfl ?_)), d1 := ⟨_, d10⟩ }
                        have Q10 := QCur.of F10 hqe ⟨_, d10⟩ (by (intros; repeat (first | exact Locs.nil | refine Locs.cons rfl ?_)))
                        have hm10 := (popAll_eq e.e.push ds).symm.trans hpop
                        refine dom_loop (f := Ds.pop) (fn := 293) (push := e.e.push) (pv := e.pv) ⟨B5, X5, T5, rfl, rfl, by omega, by omega, hfr6, hh6⟩ rfl rfl rfl rfl noE_passes F10 (btR_news.mp N10) M10.B.d P.nd M10.hR (hqe.pv.mono ?mr) (by rfl) hm10 hqe.pl (.inr ⟨rfl, rfl, rfl⟩) (fun h11 tk11 m11 dyn11 F11 hm11 N11 D11 => ?_)
                        case mr => exact fun p hp => List.Mem.tail _ (.tail _ (.tail _ (.tail _ (List.mem_append_left _ (List.mem_append_left _ hp)))))
                        have M11 := M10.doms F11 hm11 N11 D11
                        have Q11 := Q10.doms hm11
                        dsimp only
                        have F12 := (M11.H.app Q11.H).fr M11.F
                        simp only [nest, List.cons_append, List.nil_append] at F12
                        have N12 := M11.N
                        obtain ⟨tv, hd11⟩ := Q11.d1
                        have hVL : (e.VL, listOf (iv e.e.vals).toArray e.k) ∈ (Pers ++ rest5) ++ (btY AA AQ oa (kq + 1) qx [e] ++ dyn11) := List.mem_append_right _ (.tail _ (.tail _ (.head _)))
                        clear F10 N10 M10 Q10 M9 hc9 hT9
                        k_steps
                        refine truthy_lst (l := iv e.e.vals) N12 (by k_mem) ?hz2 (fun tk1 => ?_)
                        case hz2 =>
                          rw [iv_len]
                          cases hv : e.e.vals.isEmpty with
                          | true => rw [List.isEmpty_iff.mp hv]; decide
                          | false => rw [hv] at hC; have := btTry_len hC; omega
                        refine IfThen.mk ?_
                        cases hv : e.e.vals.isEmpty with
                        | false =>
                          rw [hv] at hC
                          rw [if_pos (by simp [iv]; intro e; rw [e] at hv; cases hv)]
                          k_steps
                          exact ⟨_, _, _, _, _, _, _, _, _, _, _, _, _, _, _, rfl, ⟨hv, hla, hC⟩, M11, Q11⟩
                        | true =>
                          rw [hv, if_pos rfl] at hC
                          rw [if_neg (by simp [iv, List.isEmpty_iff.mp hv])]
                          cases hlk2 : (lk asg e.e.v).isSome with
                          | false => rw [hlk2] at hC; exact hC.elim
                          | true =>
                          rw [hlk2, if_pos rfl] at hC
                          have hd22 := M11.d2
                          k_steps
                          rename Fr g5 Lg _ _ => F13
                          rename News g5 Lg _ _ => N13
                          refine' bt_del (nm := nm) (i := e.e.v) (Lo := cellL Lg _ u2 u3 u4 (Pers ++ rest5)) P.inj F13 N13 M11.B M11.offC ?f2 hlk2 ?f3
                          case f2 => omega
                          case f3 =>
                            intro h14 oa14 tk14 F14 N14 B14
                            k_steps
                            refine Hold.mk ⟨qx.length, by simp, qx, delA asg e.e.v, _, _, _, _, _, _, _, _, _, _, _, _, rfl, rfl, Nat.le_trans (delA_len _ _) hla, by simp at hlq; omega, BtM.drop (xq := e) { M11 with F := F14, N := N14, B := B14, H := by (intros; repeat (first | exact Locs.nil | refine Locs.cons rfl ?_)) }, hC⟩
              case tryv =>
                intro fl s' hq
                cases fl with
                | brk => exact hq.elim
                | cont => exact hq.elim
                | ret v =>
                  obtain ⟨rfl, hr, h, tk, m', rfl, F8, N8⟩ := hq
                  exact Hold.mk ⟨rfl, hr, _, _, _, rfl, F8, N8⟩
                | next =>
                  clear hC hVL M Qc hlen
                  obtain ⟨qx, xq, asg, ds, h, tk, m, oa, kq, dyn, Pers, u1, u2, u3, u4, rfl, ⟨hne, hla, hC⟩, M, Qc⟩ := hq
                  dsimp only at hne hla hC ⊢
                  have hC0 := hC
                  unfold btTry at hC
                  cases hgl : xq.e.vals.getLast? with
                  | none => rw [hgl] at hC; cases hC
                  | some y =>
                  rw [hgl] at hC
                  dsimp only at hC
                  split at hC
                  case isFalse => cases hC
                  rename_i hvl4
                  cases hpu : pushAll xq.e.push ds with
                  | none => rw [hpu] at hC; cases hC
                  | some ds1 =>
                  rw [hpu] at hC
                  dsimp only at hC
                  obtain ⟨l, hl⟩ : ∃ l, xq.e.vals = l ++ [y] := ⟨xq.e.vals.dropLast, by
                    have hnn : xq.e.vals ≠ [] := by intro e; rw [e] at hgl; cases hgl
                    rw [List.getLast?_eq_some_getLast hnn] at hgl
                    rw [← Option.some.inj hgl]
                    exact (List.dropLast_concat_getLast hnn).symm⟩
                  have hdl : xq.e.vals.dropLast = l := by rw [hl]; simp
                  have F7 := (M.H.app Qc.H).fr M.F
                  simp only [nest, List.cons_append, List.nil_append] at F7
                  have N7 := M.N
                  have hd2 := M.d2
                  have hd3 := M.d3
                  have hd4 := M.d4
                  obtain ⟨tv, hd1⟩ := Qc.d1
                  have hVL : (xq.VL, listOf (iv xq.e.vals).toArray xq.k) ∈ (Pers ++ rest5) ++ (btY AA AQ oa kq qx [xq] ++ dyn) := List.mem_append_right _ (.tail _ (.tail _ (.head _)))
                  k_steps
                  rename Fr g5 Lg _ _ => F8
                  rename News g5 Lg _ _ => N8
                  refine bt_vpop (x := xq) (l := l) (y := y) (Lo := cellL Lg u1 u2 u3 u4 (Pers ++ rest5)) F8 N8 M.B M.offC hl (by rw [hl] at hvl4; simp at hvl4; omega) (fun h9 F9 N9 B9 => ?_)
                  simp only [cellL, List.cons_append] at N9
                  generalize hxq9 : ({ xq with e := { xq.e with vals := l }, k := xq.k + 1 } : QX) = xq9 at N9 B9
                  have e9v : xq9.VL = xq.VL := by rw [← hxq9]
                  have e9p : xq9.pv = xq.pv := by rw [← hxq9]
                  have e9e : xq9.e = { xq.e with vals := l } := by rw [← hxq9]
                  k_steps
                  rename Fr g5 Lg _ _ => F10
                  rename News g5 Lg _ _ => N10
                  refine bt_set (nm := nm) (i := xq.e.v) (x := y) (Lo := cellL Lg u1 u2 u3 u4 (Pers ++ rest5)) P.inj F10 N10 B9 (by rw [show btA AA AQ cs ([xq9] ++ qx) = btA AA AQ cs ([xq] ++ qx) by simp [btA, e9v]]; exact M.offC) (by omega) (fun h11 oa11 tk11 F11 N11 B11 => ?_)
                  simp only [cellL, List.cons_append] at N11
                  have M11 : BtM w nm Lg x AD AV AA AQ cs fcOn g5 rest5 (setA asg xq.e.v y) qx [xq9] ds h11 _ oa11 kq dyn Pers u1 u2 u3 u4 := { M with F := F11, N := N11, B := B11, H := by (intros; repeat (first | exact Locs.nil | refine Locs.cons rfl ?_)), off := by (rw [show btA AA AQ cs ([xq9] ++ qx) = btA AA AQ cs ([xq] ++ qx) by simp [btA, e9v]]; exact M.off), c2 := by (rw [show btA AA AQ cs ([xq9] ++ qx) = btA AA AQ cs ([xq] ++ qx) by simp [btA, e9v]]; exact M.c2) }
                  have Q11 := QCur.mk (m := _) (x := xq9) (o1 := u1) (Pers := Pers) (nm := nm) (cs := cs) (by rw [e9p, e9e]; exact Qc.pv) (by rw [e9e]; exact Qc.pl) (by rw [e9e]; exact Qc.vl) (Locs.fix F11 (by rw [e9v, e9p]; (intros; repeat (first | exact Locs.nil | refine Locs.cons rfl ?_)))) (by rw [e9e]; exact Qc.d1)
                  k_steps
                  rename Fr g5 Lg _ _ => F12
                  rename News g5 Lg _ _ => N12
                  have hm12 := (pushAll_eq xq.e.push ds).symm.trans hpu
                  refine dom_loop (f := Ds.push) (fn := 286) (push := xq.e.push) (pv := xq.pv) ⟨B5, X5, T5, rfl, rfl, by omega, by omega, hfr6, hh6⟩ rfl rfl rfl rfl noE_passes F12 (btR_news.mp N12) M11.B.d P.nd M11.hR (Qc.pv.mono ?mr3) (by rfl) hm12 Qc.pl (.inl ⟨rfl, rfl, rfl⟩) (fun h13 tk13 m13 dyn13 F13 hm13 N13 D13 => ?_)
                  case mr3 => exact fun p hp => List.Mem.tail _ (.tail _ (.tail _ (.tail _ (List.mem_append_left _ (List.mem_append_left _ hp)))))
                  have M13 := M11.doms F13 hm13 N13 D13
                  have Q13 := Q11.doms hm13
                  dsimp only
                  clear N12 F12 M11 Q11 F13 N13 D13
                  cases hcon : btConM vcs (setA asg xq.e.v y) (!xq.e.push.isEmpty) xq.e.v ds1 with
                  | none => rw [hcon] at hC; cases hC
                  | some cres =>
                  obtain ⟨cok, ds2⟩ := cres
                  rw [hcon] at hC
                  obtain ⟨cq, hcq⟩ : ∃ cq, cs[xq.e.v]? = some cq := ⟨cs[xq.e.v]'Qc.vl, List.getElem?_eq_getElem _⟩
                  obtain ⟨va, hva2⟩ := get_same P.l1 hcq
                  obtain ⟨vl, hvl2⟩ := get_same P.l2 hcq
                  have hvv := P.vc _ _ hva2
                  obtain ⟨kk, hmv⟩ := P.hvl _ _ _ hva2 hvl2
                  have hvcg : vcs.getD xq.e.v [] = vl := by rw [List.getD_eq_getElem?_getD, hvl2]; rfl
                  simp only [btConM, hvcg] at hcon
                  have up13 : ∀ p ∈ R, p ∈ (Pers ++ rest5) ++ (btY AA AQ oa11 kq qx [xq9] ++ dyn13) := fun p hp => List.mem_append_left _ (List.mem_append_right _ (hR5 p hp))
                  have hmAV13 := up13 _ hAV
                  have F14 := (M13.H.app Q13.H).fr M13.F
                  simp only [nest, List.cons_append, List.nil_append] at F14
                  have N14 := M13.N
                  simp only [cellL] at N14
                  k_steps
                  rename Fr g5 Lg _ _ => F15
                  rename News g5 Lg _ _ => N15
                  refine ForThen.mono (Q' := fun fl s' => Hold (match fl with
                    | .brk => cok = true ∧ BtN w nm Lg x AD AV AA AQ cs fcOn g5 rest5 s6 (fun S => S = ({ xq.e with vals := l }, qx.map QX.e, setA asg xq.e.v y, ds2)) s'
                    | .next => cok = false ∧ ∃ h tk m dyn, s' = { s6 with heap := h, toks := tk } ∧ BtM w nm Lg x AD AV AA AQ cs fcOn g5 rest5 (setA asg xq.e.v y) qx [xq9] ds2 h m oa11 kq dyn Pers u1 u2 u3 u4 ∧ QCur nm cs Pers m u1 xq9
                    | _ => False)) ?hfor ?hend
                  case hfor =>
                    have hmv13 := up13 _ hmv
                    have hAD13 := up13 _ hAD
                    refine iter_list (o := default) F15 N15 (N15 _ (.tail _ (.tail _ (.tail _ (.tail _ hmv13))))).1 (fun I6 h' F22 N22 hI6 hk6 => ?_)
                    refine loop_list (I := I6) (l := va) vl.length (fun j m₂ news₂ => ∃ dyn5 ds5, news₂ = cellL Lg u1 u2 u3 u4 ((Pers ++ rest5) ++ (btY AA AQ oa11 kq qx [xq9] ++ dyn5)) ∧ Dyn w.params cs ds5 dyn5 ∧ conM (setA asg xq.e.v y) (!xq.e.push.isEmpty) (vl.drop j) ds5 = some (cok, ds2) ∧
                      Locs m₂ [("self", .ref x), ("forwardcheck", .bool fcOn), ("queue", .ref AQ), ("values", .ref xq9.VL), ("pushdomains", xq9.pv)]) go_tuple noE_passes hh6 F22 N22 ?h0 ?h1 ?h2
                    case h0 => exact ⟨_, _, rfl, M13.B.d, hcon, by (intros; repeat (first | exact Locs.nil | refine Locs.cons rfl ?_))⟩
                    case h1 =>
                      rintro j m₂ news₂ h ⟨dyn5, ds5, rfl, D5, _⟩ N5
                      have hIn : I6 ∉ ads cs := M13.B.d.notin fun q hq => hI6 q (.tail _ (.tail _ (.tail _ (.tail _ (List.mem_append_right _ (List.mem_append_right _ hq))))))
                      intro p hp
                      have hp' : p ∈ btR Lg AA AQ oa11 kq qx [xq9] Pers rest5 u1 u2 u3 u4 ++ dyn5 := by simpa [btR, cellL] using hp
                      rcases List.mem_append.mp hp' with hp' | hp'
                      · exact hI6 p (by simp only [btR, cellL, List.mem_cons, List.mem_append] at hp' ⊢; grind)
                      · exact D5.ne hIn p hp'
                    case h2 =>
                      rintro j m₂ news₂ h₂ tk₂ ⟨dyn5, ds5, rfl, D5, hS5, H5⟩ F5 N5
                      refine ⟨vl.map (fun cn => Value.ref cn.tp), ⟨_, _, (N5 _ (.tail _ (.tail _ (.tail _ (.tail _ (.tail _ (List.mem_append_left _ (List.mem_append_right _ (hR5 _ hmv)))))))) ).1, rfl⟩, ?_⟩
                      rw [List.getElem?_map]
                      cases hj : vl[j]? with
                      | none =>
                        dsimp only [Option.map]
                        intro h₃ F6 N6
                        have F6 := H5.fr F6
                        simp only [nest] at F6
                        rw [drop_none hj] at hS5
                        simp only [conM, Option.some.injEq, Prod.mk.injEq] at hS5
                        obtain ⟨rfl, rfl⟩ := hS5
                        k_steps
                        dsimp only
                        exact Hold.mk ⟨rfl, qx, xq9, setA asg xq.e.v y, ds5, _, _, _, oa11, kq, dyn5, Pers, u1, u2, u3, u4, rfl, by rw [e9e], { M13 with F := F6, N := N6, B := { M13.B with d := D5 }, H := by (intros; repeat (first | exact Locs.nil | refine Locs.cons rfl ?_)) }, { Q13 with H := by (intros; repeat (first | exact Locs.nil | refine Locs.cons rfl ?_)) }⟩
                      | some cn =>
                        dsimp only [Option.map]
                        obtain ⟨hltj, hdrj⟩ := drop_some hj
                        refine ⟨hltj, fun h₃ F6 N6 => ?_⟩
                        have F6 := H5.fr F6
                        simp only [nest] at F6
                        rw [hdrj] at hS5
                        simp only [conM] at hS5
                        have hcn := P.hcn vl (List.mem_of_getElem? hvl2) cn (List.mem_of_getElem? hj)
                        have upX : ∀ p ∈ R, p ∈ (Pers ++ rest5) ++ (btY AA AQ oa11 kq qx [xq9] ++ dyn5) := fun p hp => List.mem_append_left _ (List.mem_append_right _ (hR5 p hp))
                        have hcn1 := upX _ hcn.tp
                        have hcn2 := upX _ hcn.c
                        have hcn3 := upX _ hcn.cd
                        cases hes : escM cn.es cn.ff (setA asg xq.e.v y) (!xq.e.push.isEmpty) ds5 with
                        | none => rw [hes] at hS5; cases hS5
                        | some er =>
                        obtain ⟨eb, ds6⟩ := er
                        rw [hes] at hS5
                        k_steps
                        rename Fr g5 Lg _ _ => F7
                        rename News g5 Lg _ _ => N7
                        have hIn : I6 ∉ ads cs := M13.B.d.notin fun q hq => hI6 q (.tail _ (.tail _ (.tail _ (.tail _ (List.mem_append_right _ (List.mem_append_right _ hq))))))
                        have hRX : ∀ p ∈ (I6, itO va (j + 1)) :: btR Lg AA AQ oa11 kq qx [xq9] Pers rest5 u1 u2 u3 u4, p.1 ∉ ads cs := List.forall_mem_cons.mpr ⟨hIn, M13.hR⟩
                        have upZ : ∀ p ∈ R, p ∈ (I6, itO va (j + 1)) :: btR Lg AA AQ oa11 kq qx [xq9] Pers rest5 u1 u2 u3 u4 := fun p hp => .tail _ (.tail _ (.tail _ (.tail _ (.tail _ (List.mem_append_left _ (List.mem_append_right _ (hR5 p hp)))))))
                        refine con_code (R := (I6, itO va (j + 1)) :: btR Lg AA AQ oa11 kq qx [xq9] Pers rest5 u1 u2 u3 u4) ⟨B5, X5, T5, rfl, rfl, by omega, by omega, hfr6, hh6⟩ F7 (btR_newsI.mp N7) (.base _) D5 (P.mono upZ hRX) (hcn.mono upZ)
                          (.tail _ (.tail _ (.tail _ (.tail _ (.tail _ (List.mem_append_right _ (.head _))))))) M13.B.a loA ?hfc hes (fun h' tk' dyn6 F8 N8 D8 => ?_)
                        case hfc =>
                          rw [e9p]
                          exact (Qc.pv.fc).mono fun p hp => .tail _ (.tail _ (.tail _ (.tail _ (.tail _ (List.mem_append_left _ (List.mem_append_left _ hp))))))
                        have N8 := btR_newsI.mpr N8
                        simp only [cellL] at N8
                        cases eb with
                        | true =>
                          dsimp only at hS5
                          k_steps
                          exact ⟨_, _, _, _, rfl, by k_asm, by k_asm, _, _, rfl, D8, hS5, by (intros; repeat (first | exact Locs.nil | refine Locs.cons rfl ?_))⟩
                        | false =>
                          dsimp only at hS5
                          simp only [Option.some.injEq, Prod.mk.injEq] at hS5
                          obtain ⟨rfl, rfl⟩ := hS5
                          k_steps
                          dsimp only [Out]
                          k_steps
                          rename Fr g5 Lg _ _ => F9
                          rename News g5 Lg _ _ => N9
                          exact Hold.mk ⟨rfl, _, _, _, dyn6, rfl, { M13 with F := F9, N := news_tl N9, B := { M13.B with d := D8 }, H := by (intros; repeat (first | exact Locs.nil | refine Locs.cons rfl ?_)) }, { Q13 with H := by (intros; repeat (first | exact Locs.nil | refine Locs.cons rfl ?_)) }⟩
                  case hend =>
                    intro fl s' hq
                    cases fl with
                    | cont => exact hq.elim
                    | ret v => exact hq.elim
                    | brk =>
                      obtain ⟨rfl, hb⟩ := hq
                      dsimp only at hC ⊢
                      cases hC
                      rw [hdl]
                      exact Hold.mk ⟨_, rfl, hb⟩
                    | next =>
                      obtain ⟨rfl, h, tk, m, dyn, rfl, M15, Q15⟩ := hq
                      dsimp only at hC ⊢
                      cases hpo : popAll xq.e.push ds2 with
                      | none => rw [hpo] at hC; cases hC
                      | some ds3 =>
                      rw [hpo] at hC
                      dsimp only at hC
                      have F16 := (M15.H.app Q15.H).fr M15.F
                      simp only [nest, List.cons_append, List.nil_append] at F16
                      have N16 := M15.N
                      simp only [cellL] at N16
                      k_steps
                      rename Fr g5 Lg _ _ => F17
                      rename News g5 Lg _ _ => N17
                      have hm17 := (popAll_eq xq.e.push ds2).symm.trans hpo
                      refine dom_loop (f := Ds.pop) (fn := 293) (push := xq.e.push) (pv := xq9.pv) ⟨B5, X5, T5, rfl, rfl, by omega, by omega, hfr6, hh6⟩ rfl rfl rfl rfl noE_passes F17 (btR_news.mp N17) M15.B.d P.nd M15.hR ?mr4 (by rfl) hm17 Qc.pl (.inr ⟨rfl, rfl, rfl⟩) (fun h18 tk18 m18 dyn18 F18 hm18 N18 D18 => ?_)
                      case mr4 => rw [e9p]; exact Qc.pv.mono fun p hp => List.Mem.tail _ (.tail _ (.tail _ (.tail _ (List.mem_append_left _ (List.mem_append_left _ hp)))))
                      have hm18' : ∀ y : Str, y ≠ "domain" → m18 y = m y := fun y hy => (hm18 y hy).trans (congrFun (nest_eq (M15.H.app Q15.H)) y)
                      have M18 := M15.doms F18 hm18' N18 D18
                      have Q18 := Q15.doms hm18'
                      rw [hdl] at hC
                      exact wpAny_execs_nil (Hold.mk ⟨n, Nat.lt_succ_self n, qx, xq9, setA asg xq.e.v y, ds3, _, _, _, oa11, kq, dyn18, Pers, u1, u2, u3, u4, rfl, by rw [e9e]; exact hC, M18, Q18⟩)
            -- END whl
        refine sg_For1 B'.stack hh' .whl fun A5 ov => ?_
        obtain ⟨hfr5, hh5, hd5, hu5⟩ := ov
        have hd5 : A5.depth ≤ 702 := by omega
        have hu5 : A5.units ≤ 7012 := by omega
        k_steps
        rename Fr g Lg _ _ => F10
        rename News g Lg _ _ => N10
        refine Fr.abs [("self", .ref x), ("forwardcheck", .bool fcOn), ("queue", .ref AQ)] F10 (by (intros; repeat (first | exact Locs.nil | refine Locs.cons rfl ?_))) (fun m11 H11 F11 => ?_)
        refine iter_list (o := default) F11 N10 (N10 _ (.head _)).1 (fun I h' F12 N12 hI hk => ?_)
        intro p1 k1 hk1
        clear hfr3 hfr4 hfr5
        refine sg_loop_list (I := I) (l := D3) perm.length (fun i m₁ news₁ => news₁ = (D3, listOf (List.map (fun i => (refs T).getD i Value.none) perm).toArray c') :: (T ++ cellL Lg q1 q2 q3 q4 TL2) ∧ perm.find? (fun i => (lk asg i).isNone) = (perm.drop i).find? (fun i => (lk asg i).isNone) ∧
          Locs m₁ [("self", .ref x), ("forwardcheck", .bool fcOn), ("queue", .ref AQ)]) go_name (over_two B'.stack hh' .frl .whl).hh F12 N12 ⟨rfl, rfl, H11⟩ ?h1 ?h2
        case h1 => rintro i m news h ⟨rfl, _⟩ _; exact hI
        case h2 =>
          rintro i m₁ news₁ h₁ tk₁ ⟨rfl, hfind, H₁⟩ F₁ N₁
          refine ⟨List.map (fun i => (refs T).getD i Value.none) perm, ⟨_, _, (N₁ _ (.tail _ (.head _))).1, rfl⟩, ?_⟩
          rw [List.getElem?_map]
          rw [← hp2] at hb
          cases hi : perm[i]? with
          | none =>
            dsimp only [Option.map]
            intro h₂ F₂ N₂
            have F₂ := H₁.fr F₂
            simp only [nest] at F₂
            rw [drop_none hi] at hfind
            rw [hfind] at hb
            simp only [List.find?_nil] at hb
            refine sg_block fun H2 => ?_
            refine sg_cons (sg_Yield2 B'.stack hh' .blk .whl fun A6 ov => ?_)
            obtain ⟨hfr6, hh6, hd6, hu6⟩ := ov
            have hd6 : A6.depth ≤ 702 := by omega
            have hu6 : A6.units ≤ 7012 := by omega
            have hoaT : (AA, oa) ∈ TL2 := by rw [← hTLd]; exact List.mem_append_right _ (.head _)
            k_steps
            rename Fr g Lg _ _ => F8
            rename News g Lg _ _ => N8
            k_dflt (refine' dict_copy F8 N8 ?kc1 hoa loA ?kc2 ?_; (case kc1 => k_mem); (case kc2 => (rw [List.length_map]; omega)))
            intro a8 o8 h8 F9 N9 ho8 hlt8
            intro py ly ky hky
            obtain ⟨ysr, rfl, hys⟩ : ∃ ysr, ys' = asg :: ysr ∧ (match qx with
              | [] => ysr = []
              | e :: r => ∃ ds1, popAll e.e.push ds' = some ds1 ∧ (match btIn (btConM vcs) 400 (e.e, r.map QX.e, asg, ds1) with | none => False | some none => ysr = [] | some (some (c, q, a, d)) => btOut cs.length (btConM vcs) (vkey vcs) fcOn f' (c :: q) a d = some ysr)) := by
              cases qx with
              | nil => cases hb; exact ⟨[], rfl, rfl⟩
              | cons e r =>
                rw [List.map_cons] at hb
                dsimp only at hb ⊢
                cases hpop : popAll e.e.push ds' with
                | none => rw [hpop] at hb; cases hb
                | some ds1 =>
                rw [hpop] at hb
                dsimp only at hb
                cases hbi : btIn (btConM vcs) 400 (e.e, r.map QX.e, asg, ds1) with
                | none => rw [hbi] at hb; cases hb
                | some res =>
                rw [hbi] at hb
                cases res with
                | none => cases hb; exact ⟨[], rfl, _, rfl, by rw [hbi]⟩
                | some st =>
                  obtain ⟨c, q, a, d⟩ := st
                  dsimp only at hb
                  obtain ⟨ysr, hy, rfl⟩ := Option.map_eq_some_iff.mp hb
                  exact ⟨ysr, rfl, _, rfl, by rw [hbi]; exact hy⟩
            have inT : ∀ q ∈ cellL Lg q1 q2 q3 q4 ((Pers ++ rest') ++ (btY AA AQ oa kq qx [] ++ dyn')), q ∈ (a8, o8) :: (D3, listOf (List.map (fun i => (refs T).getD i Value.none) perm).toArray c') :: (T ++ cellL Lg q1 q2 q3 q4 TL2) := fun q hq => by rw [hTLd] at hq; exact .tail _ (.tail _ (List.mem_append_right _ hq))
            have hltA : ∀ q ∈ cellL Lg q1 q2 q3 q4 ((Pers ++ rest') ++ (btY AA AQ oa kq qx [] ++ dyn')), @LT.lt Nat _ q.1 a8 := fun q hq => by rw [hTLd] at hq; exact hlt8 q (.tail _ (List.mem_append_right _ hq))
            refine po h8 _ _ (cellL Lg q1 q2 q3 q4 (Pers ++ (btY AA AQ oa kq qx [] ++ dyn'))) a8 o8 _ F9 (news_sub N9 ?y1) ?y2 ?y3 ho8 ?y4 ⟨_, _, _, _, _, _, rfl⟩ ?y5
            case y1 =>
              intro q hq
              rcases List.mem_cons.mp hq with rfl | hq
              · exact .head _
              · exact inT q (by simp only [cellL, List.cons_append, List.mem_cons, List.mem_append] at hq ⊢; grind)
            case y2 =>
              have key : ∀ q ∈ rest', q.1 ∉ (cellL Lg q1 q2 q3 q4 (Pers ++ (btY AA AQ oa kq qx [] ++ dyn'))).map (·.1) := by
                intro q hq hm2
                have nc := M.c1 q (List.mem_append_right _ hq)
                simp only [cellL, List.map_cons, List.mem_cons] at hm2
                rcases hm2 with e | e | e | e | hm2
                · exact nc.1 e
                · exact nc.2.1 e
                · exact nc.2.2.1 e
                · exact nc.2.2.2 e
                · rw [List.map_append, List.mem_append] at hm2
                  rcases hm2 with hm2 | hm2
                  · exact M.pr q hq hm2
                  · rw [bt_fst M.B] at hm2
                    exact M.off q (List.mem_append_right _ hq) hm2
              refine List.forall_mem_cons.mpr ⟨fun hm2 => ?_, key⟩
              obtain ⟨q, hq, e⟩ := List.mem_map.mp hm2
              refine absurd e (Nat.ne_of_lt (hltA q ?_))
              simp only [cellL, List.cons_append, List.mem_cons, List.mem_append] at hq ⊢; grind
            case y3 => exact fun q hq => hltA q (in_rest q hq)
            case y4 => simp [End.quiet, hgd, Frame.guarded]
            case y5 =>
              refine grdy_mk ?_
              intro A8 g8 rest8 s8 Φ8 gc8 F13 N13 off8 hR8 post8
              obtain ⟨⟨base8, outer8, B8⟩, X8, T8, hh8', hd8', hu8'⟩ := id gc8
              refine hky .none (by intro a e; cases e) Φ8 _ A8 ?_
              have M8 : BtM w nm Lg x AD AV AA AQ cs fcOn g8 rest8 asg qx [] ds' s8.heap _ oa kq dyn' Pers q1 q2 q3 q4 := { M with F := F13, N := news_sub N13 ?z1, H := by (intros; repeat (first | exact Locs.nil | refine Locs.cons rfl ?_)), off := ?z2, c1 := ?z3, pr := ?z4 }
              case z1 => intro q hq; simp only [cellL, List.cons_append, List.mem_cons, List.mem_append] at hq ⊢; grind
              case z2 =>
                intro q hq hm2
                rcases List.mem_append.mp hq with hq | hq
                · exact M.off q (List.mem_append_left _ hq) hm2
                · refine off8 q hq ?_
                  simp only [cellL, List.map_cons, List.mem_cons]
                  rw [List.map_append, List.mem_append, bt_fst M.B]
                  exact .inr (.inr (.inr (.inr (.inr hm2))))
              case z3 =>
                intro q hq
                rcases List.mem_append.mp hq with hq | hq
                · exact M.c1 q (List.mem_append_left _ hq)
                · have z := off8 q hq
                  simp only [cellL, List.map_cons, List.mem_cons, not_or] at z
                  exact ⟨z.1, z.2.1, z.2.2.1, z.2.2.2.1⟩
              case z4 =>
                intro q hq hm2
                refine off8 q hq ?_
                simp only [cellL, List.map_cons, List.mem_cons]
                rw [List.map_append, List.mem_append]
                exact .inr (.inr (.inr (.inr (.inl hm2))))
              clear N13 F13
              refine sg_cons (sg_stmt2 B8.stack hh8' .blk .whl fun A9 ov => ?_)
              obtain ⟨hfr9, hh9, hd9, hu9⟩ := ov
              have hd9 : A9.depth ≤ 702 := by omega
              have hu9 : A9.units ≤ 7012 := by omega
              have F14 := M8.H.fr M8.F
              simp only [nest] at F14
              have N14 := M8.N
              simp only [cellL] at N14
              have hAQ : (AQ, listOf (qx.reverse.map fun e => Value.ref e.T).toArray kq) ∈ (Pers ++ rest8) ++ (btY AA AQ oa kq qx [] ++ dyn') := List.mem_append_right _ (.tail _ (.head _))
              k_steps
              refine truthy_lst (l := qx.reverse.map fun e => Value.ref e.T) M8.N (by k_mem) (by simp at hql ⊢; omega) (fun tk1 => ?_)
              refine IfThen.mk ?_
              cases qx with
              | nil =>
                rw [if_pos (by simp)]
                dsimp only at hys
                subst hys
                k_steps
                rename Fr g8 Lg _ _ => F15
                rename News g8 Lg _ _ => N15
                exact sg_leaf (.ok (.ret .none)) (hk1 _ _ _ _ (sg_leaf (.ok (.ret .none)) (hk0 _ _ _ _ (sg_end (.ok (.ret .none)) (post8 _ _ _ F15 (news_sub N15 in_rest))))))
              | cons e r =>
                obtain ⟨ds1, hpop, hys⟩ := hys
                rw [if_neg (by simp)]
                have hqe := M8.q e (.head _)
                k_steps
                refine sg_cons (sg_stmt2 B8.stack hh8' .blk .whl fun A10 ov => ?_)
                obtain ⟨hfr10, hh10, hd10, hu10⟩ := ov
                have hd10 : A10.depth ≤ 702 := by omega
                have hu10 : A10.units ≤ 7012 := by omega
                k_steps
                rename Fr g8 Lg _ _ => F15
                rename News g8 Lg _ _ => N15
                refine bt_qpop (x := e) (Lo := cellL Lg q1 q2 q3 q4 (Pers ++ rest8)) F15 N15 M8.B M8.offC (by simp at hql; omega) (fun h16 F16 N16 B16 => ?_)
                have M16 : BtM w nm Lg x AD AV AA AQ cs fcOn g8 rest8 asg r [e] ds' h16 _ oa (kq + 1) dyn' Pers q1 q2 q3 q4 := { M8 with F := F16, N := N16, B := B16, H := by (intros; repeat (first | exact Locs.nil | refine Locs.cons rfl ?_)), q := fun y hy => M8.q y (.tail _ hy) }
                have hT16 : (e.T, ({ cls := .type "tuple", data := .seq #[.str (nm e.e.v) e.t, .ref e.VL, e.pv] } : Obj)) ∈ (Pers ++ rest8) ++ (btY AA AQ oa (kq + 1) r [e] ++ dyn') := List.mem_append_left _ (List.mem_append_left _ hqe.tp)
                have hc16 := M16.cell1
                obtain ⟨v1, hd1⟩ := M8.d1
                simp only [cellL, List.cons_append] at N16
                k_steps
                rename Fr g8 Lg _ _ => F17
                rename News g8 Lg _ _ => N17
                rename _ = Data.cell (some (Value.str _ _)) => d17
                have M17 : BtM w nm Lg x AD AV AA AQ cs fcOn g8 rest8 asg r [e] ds' _ _ oa (kq + 1) dyn' Pers _ q2 q3 q4 := { M16 with F := F17, N := N17, H := by (intros; repeat (first | exact Locs.nil | refine Locs.cons rfl ?_)), d1 := ⟨_, d17⟩ }
                have Q17 := QCur.of F17 hqe ⟨_, d17⟩ (by (intros; repeat (first | exact Locs.nil | refine Locs.cons rfl ?_)))
                have hm17 := (popAll_eq e.e.push ds').symm.trans hpop
                refine sg_cons (sg_stmt2 B8.stack hh8' .blk .whl fun A11 ov => ?_)
                obtain ⟨hfr11, hh11, hd11, hu11⟩ := ov
                have hd11 : A11.depth ≤ 702 := by omega
                have hu11 : A11.units ≤ 7012 := by omega
                refine dom_loop (f := Ds.pop) (fn := 293) (push := e.e.push) (pv := e.pv) ⟨B8, X8, T8, rfl, rfl, by omega, by omega, hfr11, hh11⟩ rfl rfl rfl rfl noE_passes F17 (btR_news.mp N17) M17.B.d P.nd M17.hR (hqe.pv.mono ?mr) (by rfl) hm17 hqe.pl (.inr ⟨rfl, rfl, rfl⟩) (fun h18 tk18 m18 dyn18 F18 hm18 N18 D18 => ?_)
                case mr => exact fun p hp => List.Mem.tail _ (.tail _ (.tail _ (.tail _ (List.mem_append_left _ (List.mem_append_left _ hp)))))
                have M18 := M17.doms F18 hm18 N18 D18
                have Q18 := Q17.doms hm18
                refine sg_nil (sg_leaf (.ok .next) (hk1 .next _ _ _ (TAIL A8 Φ8 _ ⟨g8, rest8, s8, ysr, r, e, asg, ds1, _, _, _, _, _, _, _, _, _, _, _, rfl, gc8, hR8, post8, hys, M18, Q18⟩)))
          | some q =>
            dsimp only [Option.map]
            obtain ⟨hlt, hdr⟩ := drop_some hi
            refine ⟨hlt, fun A6 hA6 h₂ F₂ N₂ => ?_⟩
            obtain ⟨hfr6, hh6, hd6, hu6⟩ := over_two' hA6 B'.stack hh' .frl .whl
            clear hA6
            have hd6 : A6.depth ≤ 702 := by omega
            have hu6 : A6.units ≤ 7012 := by omega
            have F₂ := H₁.fr F₂
            simp only [nest] at F₂
            rw [hdr] at hfind
            have hqn := hp1 q (List.mem_of_getElem? hi)
            obtain ⟨pq, hpq⟩ : ∃ pq, T[q]? = some pq := ⟨T[q]'(by omega), List.getElem?_eq_getElem _⟩
            rw [refs_get hpq]
            obtain ⟨aq, oq⟩ := pq
            obtain ⟨tq, uq, vq, hoq⟩ := hT q _ hpq
            dsimp only at hoq ⊢
            have hmq : (aq, ({ cls := .type "tuple", data := .seq #[.int (vkey vcs ds' q).1 tq, .int (vkey vcs ds' q).2 uq, .str (nm q) vq] } : Obj)) ∈ T := hoq ▸ List.mem_of_getElem? hpq
            have hva := valueAt_asg P.inj q asg
            have hoaT : (AA, oa) ∈ TL2 := by rw [← hTLd]; exact List.mem_append_right _ (.head _)
            cases hlk : lk asg q with
            | some y =>
              rw [hlk] at hva
              dsimp only [Option.map] at hva
              rw [List.find?_cons_of_neg (by rw [hlk]; simp)] at hfind
              k_steps
              rename Fr g Lg _ _ => F8
              rename News g Lg _ _ => N8
              exact ⟨_, _, _, _, rfl, F8, N8, rfl, hfind, by (intros; repeat (first | exact Locs.nil | refine Locs.cons rfl ?_))⟩
            | none =>
              rw [hlk] at hva
              dsimp only [Option.map] at hva
              rw [List.find?_cons_of_pos (by rw [hlk]; rfl)] at hfind
              rw [hfind] at hb
              dsimp only at hb
              obtain ⟨v1, hd1⟩ := M.d1
              have N₂ : News g Lg h₂ ((aq, ({ cls := .type "tuple", data := .seq #[.int (vkey vcs ds' q).1 tq, .int (vkey vcs ds' q).2 uq, .str (nm q) vq] } : Obj)) :: cellL Lg q1 q2 q3 q4 TL2) := news_sub N₂ fun p hp => by
                rcases List.mem_cons.mp hp with rfl | hp
                · exact .tail _ (.tail _ (List.mem_append_left _ hmq))
                · exact .tail _ (.tail _ (List.mem_append_right _ hp))
              have haq : @Ne Nat aq (Lg + 1 + 1 + 1 + 1) := fun e => by
                have z1 := (N₂ _ (.head _)).1
                have z2 := (N₂ _ (.tail _ (.head _))).1
                dsimp only at z1 z2
                have e' : aq = Lg + 1 + 1 + 1 + 1 := e
                rw [e', z2] at z1
                cases z1
                cases hd1
              have hcT : ∀ q ∈ TL2, q.1 ≠ Lg + 1 + 1 + 1 + 1 := by rw [← hTLd]; exact M.cell1
              simp only [cellL] at N₂
              obtain ⟨cq, hcq⟩ : ∃ cq, cs[q]? = some cq := ⟨cs[q]'hqn, List.getElem?_eq_getElem _⟩
              have hvq := P.dom q cq hcq
              obtain ⟨dq, hdq⟩ := get_same hl2.symm hcq
              obtain ⟨eq, hxq', _⟩ := D'.there hcq hdq
              have hxq := upD _ hxq'
              k_steps
              have hld : dq.vs.length ≤ 1000 := by have := hsm dq (List.mem_of_getElem? hdq); omega
              rename Fr g Lg _ _ => F8
              rename News g Lg _ _ => N8
              rename Obj => oc
              rename _ = Data.cell (some (Value.str (nm q) vq)) => d8
              k_dflt (refine' sliceAll_K (o := domO cq.dx (iv dq.vs).toArray eq) (l' := dq.vs) ?k1 F8 N8 ?k4 (.inl rfl) hld ?_; (case k1 => k_in); (case k4 => k_mem))
              intro VL h9 F9 N9 lt9
              have lt9' : ∀ p ∈ cellL Lg oc q2 q3 q4 TL2, @LT.lt Nat _ p.1 VL := fun p hp => lt9 p (.tail _ hp)
              replace N9 := news_sub (l' := (VL, listOf (iv dq.vs).toArray 0)  :: cellL Lg oc q2 q3 q4 TL2) N9 fun p hp => by
                rcases List.mem_cons.mp hp with rfl | hp
                · exact .head _
                · exact .tail _ (.tail _ hp)
              clear lt9
              simp only [cellL] at N9
              k_steps
              rename Fr g Lg _ _ => F10
              rename News g Lg _ _ => N10
              rw [← hTLd] at N10 lt9'
              refine IfThen.join (fun s' => ∃ h tk m' Pers' o1' pv, s' = { s2' with heap := h, toks := tk } ∧ BtM w nm Lg x AD AV AA AQ cs fcOn g rest' asg qx [⟨⟨q, dq.vs, if fcOn then others cs.length asg q else []⟩, 0, VL, vq, 0, pv⟩] ds' h m' oa kq dyn' Pers' o1' q2 q3 q4 ∧
                QCur nm cs Pers' m' o1' ⟨⟨q, dq.vs, if fcOn then others cs.length asg q else []⟩, 0, VL, vq, 0, pv⟩) ?hb ?hk
              case hk =>
                rintro s' ⟨h, tk, m', Pers', o1', pv, rfl, M20, Q20⟩
                dsimp only
                k_steps
                dsimp only
                refine sg_leaf (.ok .next) (hk1 .next _ _ _ (TAIL A' Φ' _ ⟨g, rest', s2', ys', qx, _, asg, ds', _, _, _, _, _, _, _, _, _, _, _, rfl, gc, hR', po, ?hbt, M20, Q20⟩))
                have e1 : (ds'[q]?.map (·.vs)).getD [] = dq.vs := by rw [hdq]; rfl
                rw [e1] at hb
                dsimp only
                cases hbi : btIn (btConM vcs) 400 (⟨q, dq.vs, if fcOn then others cs.length asg q else []⟩, qx.map QX.e, asg, ds') with
                | none => rw [hbi] at hb; cases hb
                | some res =>
                  rw [hbi] at hb
                  cases res with
                  | none => cases hb; rfl
                  | some st => exact hb
              case hb =>
                cases fcOn with
                | false =>
                  rw [if_neg (by simp)]
                  k_steps
                  rename Fr g Lg _ _ => F11
                  rename News g Lg _ _ => N11
                  refine Hold.mk ⟨rfl, _, _, _, Pers, _, .none, rfl, M.addV (xq := ⟨⟨q, dq.vs, []⟩, 0, VL, vq, 0, .none⟩) F11 (by (intros; repeat (first | exact Locs.nil | refine Locs.cons rfl ?_))) ⟨_, d8⟩ N11 lt9', ⟨.inl ⟨rfl, rfl⟩, (fun _ h => nomatch h), hqn, by (intros; repeat (first | exact Locs.nil | refine Locs.cons rfl ?_)), ⟨_, d8⟩⟩⟩
                | true =>
                  rw [if_pos rfl]
                  rw [hTLd] at N10
                  k_steps
                  refine Fr.abs [("self", .ref x), ("forwardcheck", .bool true), ("queue", .ref AQ), ("values", .ref VL)] F10 (by (intros; repeat (first | exact Locs.nil | refine Locs.cons rfl ?_))) (fun m12 H12 F12 => ?_)
                  have F12 := H12.fr F12
                  simp only [nest] at F12
                  refine' compSt_dictA (knd := PySem.strKind PW w) (fun i ys nw => nw = (VL, listOf (iv dq.vs).toArray 0) :: cellL Lg oc q2 q3 q4 TL2 ∧ ys = (others i asg q).map (xr cs))
                    ?e1 ?e2 ?e3 ?eh ?eF ?eN ?e0 hod loD ?ez ?e4 ?e5 ?e6 ?hJd ?hJ ?turn3 ?fin3
                  case eh => exact hh6
                  case eF => exact F12
                  case eN => exact N10
                  case e0 => k_mem
                  case ez => rw [List.length_mapIdx, sizeLine_eq]; have := P.n6; omega
                  case e1 => rfl
                  case e2 => rfl
                  case e3 => rfl
                  case e4 => decide
                  case e5 => rfl
                  case e6 => rfl
                  case hJd => rintro i ys nw ⟨rfl, _⟩; k_mem
                  case hJ => exact ⟨rfl, rfl⟩
                  case turn3 =>
                    rintro I i k u t oI C oC D2 m₂ h tk ys nw E' s₂ hki hkey ⟨rfl, rfl⟩ hC hxv F' N' off' ne'
                    rw [List.getElem?_mapIdx] at hki
                    obtain ⟨c₁, hc₁⟩ : ∃ c₁, cs[i]? = some c₁ := by cases e : cs[i]? with | none => rw [e] at hki; cases hki | some c₁ => exact ⟨_, rfl⟩
                    rw [hc₁] at hki
                    cases hki
                    obtain ⟨tt, rfl⟩ := Value.isStrOf_shape hkey
                    have hvd := P.dom _ _ hc₁
                    rw [others_succ]
                    refine wpAny_tests_one ?_
                    have hv0 := valueAt_asg P.inj i asg
                    cases hlk2 : lk asg i with
                    | some y =>
                      rw [hlk2] at hv0
                      dsimp only [Option.map] at hv0
                      k_steps
                      rename Fr g Lg _ _ => F13
                      rename News g Lg _ _ => N13
                      exact ⟨_, _, _, rfl, F13, N13, off', rfl, by simp⟩
                    | none =>
                      rw [hlk2] at hv0
                      dsimp only [Option.map] at hv0
                      k_steps
                      · rename (nm i != nm q) = true => hne
                        rename Fr g Lg _ _ => F13
                        rename News g Lg _ _ => N13
                        have hiq : (i != q) = true := by simp only [bne_iff_ne, ne_eq] at hne ⊢; exact fun e => hne (by rw [e])
                        exact ⟨_, _, _, rfl, F13, N13, off', rfl, by simp [hiq, xr_at hc₁]⟩
                      · rename (nm i != nm q) = false => heq
                        rename Fr g Lg _ _ => F13
                        rename News g Lg _ _ => N13
                        have hiq : (i != q) = false := by simp only [bne_eq_false_iff_eq] at heq ⊢; exact P.inj heq
                        exact ⟨_, _, _, rfl, F13, N13, off', rfl, by simp [hiq]⟩
                  case fin3 =>
                    rintro D4 h tk ys nw F13 N13 hD4 ⟨rfl, rfl⟩
                    rw [List.length_mapIdx] at N13
                    k_steps
                    rename Fr g Lg _ _ => F14
                    rename News g Lg _ _ => N14
                    rw [← hTLd] at N14 hD4
                    have M20 := M.addV (xq := ⟨⟨q, dq.vs, others cs.length asg q⟩, 0, VL, vq, 0, .ref D4⟩) F14 (by (intros; repeat (first | exact Locs.nil | refine Locs.cons rfl ?_))) ⟨_, d8⟩ (news_tl N14) lt9'
                    have M21 := M20.addP (T := D4) (o := lst ((others cs.length asg q).map (xr cs))) F14 (by (intros; repeat (first | exact Locs.nil | refine Locs.cons rfl ?_))) (news_sub N14 ?y6) ?y7
                    case y6 => intro p hp; simp only [cellL, btY, QX.ve, List.nil_append, List.cons_append, List.map_cons, List.mem_cons, List.mem_append] at hp ⊢; grind
                    case y7 => intro p hp; refine hD4 p ?_; simp only [cellL, btY, QX.ve, List.nil_append, List.cons_append, List.map_cons, List.mem_cons, List.mem_append] at hp ⊢; grind
                    refine Hold.mk ⟨rfl, _, _, _, _, _, .ref D4, rfl, M21, ⟨.inr ⟨D4, _, rfl, .head _, ?y8⟩, ?y9, hqn, by (intros; repeat (first | exact Locs.nil | refine Locs.cons rfl ?_)), ⟨_, d8⟩⟩⟩
                    case y8 => exact Nat.le_trans (others_len cs.length asg q) P.n6
                    case y9 =>
                      rw [if_pos rfl]
                      exact fun i hi => ⟨cs[i]'(others_lt i hi), List.getElem?_eq_getElem _⟩
end
end Mine
end
section
open PySem PySem.W PySem.W.X PyProof.Rows PySem.Calls PySem.Spec
set_option Elab.async false
set_option maxRecDepth 100000
set_option maxHeartbeats 8000000
namespace Mine
open PyProof.Rows.LCg
/-- a generator in the hands of who collects: the caller's frame L, the generator's frame Lg -/
structure GHeld (w : World) (p : Program) (loose : List Str) (mean : ExcName → Option Value) (mg mb : Str → Option Value) (nm : Nat → Str) (R : List (Addr × Obj)) (h₀ : Heap) (L Lg AG : Addr) (m : Str → Option Value) (gi : Nat) (ys : List Asg) (rest : List (Addr × Obj)) (s : Shared) : Prop where
  F : Fr h₀ L s.heap m
  lt : @LT.lt Nat _ L Lg
  gs : ∃ gs oF m' own name qual t1 t2, s.gens[gi]? = some gs ∧ NsObj oF m' ∧ News h₀ L s.heap ((AG, genO gi name qual t1 t2) :: (Lg, oF) :: (own ++ rest)) ∧ (∀ q ∈ own ++ rest, q.1 ≠ Lg) ∧ (∀ q ∈ (AG, genO gi name qual t1 t2) :: rest, q.1 ∉ own.map (·.1)) ∧ AG ≠ Lg ∧ GRdy w p loose mean mg mb nm R Lg ys m' own gs
  hR : ∀ q ∈ R, q ∈ rest
section
variable {w : World} {p : Program} {loose : List Str} {mean : ExcName → Option Value} {mg mb : Str → Option Value} {A : Around} {env : Env} {outer : List Env} {A₀ : Around} {base h₀ : Heap} {L Lg AG : Addr} {m : Str → Option Value} {s : Shared} {E : Value → Shared → Prop} {nm : Nat → Str} {R rest : List (Addr × Obj)} {gi : Nat} {ys : List Asg}
theorem setGen_at {s : Shared} {g : Nat} {gs x : GenState} (h : s.gens[g]? = some gs) : (s.setGen g x).gens[g]? = some x := setGen_self h
theorem mem_ne_of {a : Addr} {l : List (Addr × Obj)} (h : a ∉ l.map (·.1)) : ∀ q ∈ l, q.1 ≠ a := fun q hq e => h (e ▸ List.mem_map_of_mem hq)
/-- back from a stretch of the generator -/
theorem back_G {g h' : Heap} {m' : Str → Option Value} {l : List (Addr × Obj)} (FG : Fr h₀ L g m) (st : h₀.StaysIn g) (ne : ∀ b, b ≠ L → g.get? b = h₀.get? b) (F' : Fr g Lg h' m') (N' : News g Lg h' l) : Fr h₀ L h' m ∧ News h₀ L h' l := by
  refine ⟨FG.keeps F'.keep, fun q hq => ?_⟩
  obtain ⟨z1, z2, z3⟩ := N' q hq
  have hL : q.1 ≠ L := fun e => by
    obtain ⟨oL, _, _, hL, _⟩ := FG.ns
    rw [e, hL] at z3; cases z3
  exact ⟨z1, hL, by rw [← ne _ hL]; exact z3⟩
theorem next_gen {y : Asg} {Q : Option Value → Shared → Prop} (cx : Cx w p loose mean mg mb A 600 6000 env outer A₀ base h₀ L) (H : GHeld w p loose mean mg mb nm R h₀ L Lg AG m gi (y :: ys) rest s)
    (hQ : ∀ h' tk' gs' a o, GHeld w p loose mean mg mb nm R h₀ L Lg AG m gi ys ((a, o) :: rest) { s with heap := h', toks := tk', gens := (s.setGen gi .running |>.setGen gi gs').gens } → o.IsDictOf (PySem.strKind PW w) (asgKv nm y) → (∀ q ∈ rest, @LT.lt Nat _ q.1 a) → gs'.bare = true → Q (some (.ref a)) { s with heap := h', toks := tk', gens := (s.setGen gi .running |>.setGen gi gs').gens }) :
    wpAny (model PW w) A (pyNext (.ref AG)) Q E s := by
  obtain ⟨B, X, T, hk, hf, hd, hu, hfr, hhd⟩ := cx
  obtain ⟨F, hlt, ⟨gs, oF, m', own, name, qual, t1, t2, hgs, nsF, N, hLg, off, hAL, G⟩, hR⟩ := H
  obtain ⟨g, FG, BG, st, gsz, gsub, gne⟩ := groundG B F hfr hf hk
  have toG : ∀ (h : Heap) (l : List (Addr × Obj)), News h₀ L h l → (∀ q ∈ l, q.1 ≠ Lg) → News g Lg h l := fun h l Nl hl q hq => ⟨(Nl q hq).1, hl q hq, by rw [gne _ (Nl q hq).2.1]; exact (Nl q hq).2.2⟩
  have hF : s.heap.get? Lg = some oF := (N _ (.tail _ (.head _))).1
  have FgL : Fr g Lg s.heap m' := ⟨nsF.ns hF, gsub, by rw [gsz]; exact hlt⟩
  have h₀Lg : h₀.get? Lg = none := Heap.get?_none_of_le (Nat.le_trans F.above (Nat.le_of_lt hlt))
  have hne : Lg ≠ L := Nat.ne_of_gt hlt
  refine wpAny_next1 (Φ := fun e s₁ => e.quiet = true ∧ ∃ h' tk' m'' own' a o, (∃ gd l k c p fs, e = .susp (.ref a) gd l k c p fs) ∧ s₁ = { s with heap := h', toks := tk', gens := (s.setGen gi .running).gens } ∧ Fr g Lg h' m'' ∧ News g Lg h' ((a, o) :: (own' ++ (AG, genO gi name qual t1 t2) :: rest)) ∧ (∀ q ∈ (a, o) :: (AG, genO gi name qual t1 t2) :: rest, q.1 ∉ own'.map (·.1)) ∧
    (∀ q ∈ (AG, genO gi name qual t1 t2) :: rest, @LT.lt Nat _ q.1 a) ∧ o.IsDictOf (PySem.strKind PW w) (asgKv nm y) ∧ GRdy w p loose mean mg mb nm R Lg ys m'' own' e.genState) hhd ((T.nolimit).keeps F.keep) (by rw [recursionLimit]; omega) ⟨_, _, _, (N _ (.head _)).1, rfl, rfl, rfl⟩ hgs ?go ?fin
  case go =>
    refine G A.in1 g ((AG, genO gi name qual t1 t2) :: rest) (s.setGen gi .running) _ ⟨⟨base, _, ⟨BG.stack, BG.stays, BG.frames⟩⟩, X.keeps st, T.keeps st, hhd, by rw [depth_in1]; omega, by rw [units_in1]; omega⟩ FgL (toG _ _ (news_sub N ?s1) ?s2) off (fun q hq => .tail _ (hR q hq)) ?post
    case s1 => intro q hq; simp only [List.mem_cons, List.mem_append] at hq ⊢; grind
    case s2 =>
      intro q hq
      rcases List.mem_append.mp hq with hq | hq
      · exact hLg q (List.mem_append_left _ hq)
      · rcases List.mem_cons.mp hq with rfl | hq
        · exact hAL
        · exact hLg q (List.mem_append_right _ hq)
    case post =>
      intro h' tk' m'' own' a o e F' N' off' lt' ho hq hsusp G'
      exact ⟨hq, h', tk', m'', own', a, o, hsusp, rfl, F', N', off', lt', ho, G'⟩
  case fin =>
    rintro e s₁ ⟨hq, h', tk', m'', own', a, o, ⟨gd, l, k, c, p, fs, rfl⟩, rfl, F', N', off', lt', ho, G'⟩
    refine ⟨hq, ?_⟩
    obtain ⟨F2, N2⟩ := back_G FG st gne F' N'
    obtain ⟨oF', hoF', nsF'⟩ := ns_obj F'.ns
    refine hQ h' tk' _ a o ⟨F2, hlt, ⟨_, oF', m'', own', name, qual, t1, t2, setGen_at (gs := .running) (setGen_at hgs), nsF', ?n1, ?n2, ?n3, hAL, G'⟩, fun q hq => .tail _ (hR q hq)⟩ ho (fun q hq => lt' q (.tail _ hq)) (End.bare_of_quiet hq)
    case n1 =>
      intro q hq
      rcases List.mem_cons.mp hq with rfl | hq
      · exact N2 _ (by simp)
      rcases List.mem_cons.mp hq with rfl | hq
      · exact ⟨hoF', hne, h₀Lg⟩
      · exact N2 q (by simp only [List.mem_cons, List.mem_append] at hq ⊢; grind)
    case n2 => intro q hq; exact (N' q (by simp only [List.mem_cons, List.mem_append] at hq ⊢; grind)).2.1
    case n3 => intro q hq; exact off' q (by simp only [List.mem_cons] at hq ⊢; grind)
theorem done_gen {Q : Option Value → Shared → Prop} (cx : Cx w p loose mean mg mb A 600 6000 env outer A₀ base h₀ L) (H : GHeld w p loose mean mg mb nm R h₀ L Lg AG m gi [] rest s)
    (hQ : ∀ h' tk', Fr h₀ L h' m → News h₀ L h' rest → Q none { s with heap := h', toks := tk', gens := (s.setGen gi .running |>.setGen gi .finished).gens }) :
    wpAny (model PW w) A (pyNext (.ref AG)) Q E s := by
  obtain ⟨B, X, T, hk, hf, hd, hu, hfr, hhd⟩ := cx
  obtain ⟨F, hlt, ⟨gs, oF, m', own, name, qual, t1, t2, hgs, nsF, N, hLg, off, hAL, G⟩, hR⟩ := H
  obtain ⟨g, FG, BG, st, gsz, gsub, gne⟩ := groundG B F hfr hf hk
  have toG : ∀ (h : Heap) (l : List (Addr × Obj)), News h₀ L h l → (∀ q ∈ l, q.1 ≠ Lg) → News g Lg h l := fun h l Nl hl q hq => ⟨(Nl q hq).1, hl q hq, by rw [gne _ (Nl q hq).2.1]; exact (Nl q hq).2.2⟩
  have hF : s.heap.get? Lg = some oF := (N _ (.tail _ (.head _))).1
  have FgL : Fr g Lg s.heap m' := ⟨nsF.ns hF, gsub, by rw [gsz]; exact hlt⟩
  refine wpAny_next1 (Φ := fun e s₁ => e = .ret (.ok (.ret .none)) ∧ ∃ h' tk' m'', s₁ = { s with heap := h', toks := tk', gens := (s.setGen gi .running).gens } ∧ Fr g Lg h' m'' ∧ News g Lg h' rest) hhd ((T.nolimit).keeps F.keep) (by rw [recursionLimit]; omega) ⟨_, _, _, (N _ (.head _)).1, rfl, rfl, rfl⟩ hgs ?go ?fin
  case go =>
    refine G A.in1 g rest (s.setGen gi .running) _ ⟨⟨base, _, ⟨BG.stack, BG.stays, BG.frames⟩⟩, X.keeps st, T.keeps st, hhd, by rw [depth_in1]; omega, by rw [units_in1]; omega⟩ FgL (toG _ _ (news_sub N ?s1) hLg) (fun q hq => off q (.tail _ hq)) hR ?post
    case s1 => intro q hq; exact .tail _ (.tail _ hq)
    case post => exact fun h' tk' m'' F' N' => ⟨rfl, h', tk', m'', rfl, F', N'⟩
  case fin =>
    rintro e s₁ ⟨rfl, h', tk', m'', rfl, F', N'⟩
    refine ⟨rfl, rfl, fun h2 up => ?_⟩
    obtain ⟨F2, N2⟩ := back_G FG st gne F' N'
    exact hQ h2 tk' (F2.keeps up) (N2.grown up)
theorem bare_set {a : Array GenState} {g : Nat} {x : GenState} (h : AllBare a) (hx : x.bare = true) : AllBare (a.setIfInBounds g x) := by
  intro y hy
  rw [Array.mem_iff_getElem?] at hy
  obtain ⟨i, hi⟩ := hy
  rw [Array.getElem?_setIfInBounds] at hi
  split at hi
  · split at hi
    · cases hi; exact hx
    · cases hi
  · exact h y (Array.mem_of_getElem? hi)
theorem bare_two {s : Shared} {g : Nat} {x : GenState} (h : AllBare s.gens) (hx : x.bare = true) : AllBare (s.setGen g .running |>.setGen g x).gens := bare_set (bare_set h rfl) hx
/-- an object of the collector changed -/
theorem GHeld.upd {S : Addr} {o o' : Obj} {r : List (Addr × Obj)} {h' : Heap} {tk' : Nat} (H : GHeld w p loose mean mg mb nm R h₀ L Lg AG m gi ys ((S, o) :: r) s) (hr : ∀ q ∈ r, q.1 ≠ S) (hc : o.cls ≠ .type "generator") (hRS : ∀ q ∈ R, q.1 ≠ S) (hs : Heap.SameBut S s.heap h') (ho : h'.get? S = some o') :
    GHeld w p loose mean mg mb nm R h₀ L Lg AG m gi ys ((S, o') :: r) { s with heap := h', toks := tk' } := by
  obtain ⟨F, hlt, ⟨gs, oF, m', own, name, qual, t1, t2, hgs, nsF, N, hLg, off, hAL, G⟩, hR⟩ := H
  have zS := N (S, o) (by simp)
  have hSA : AG ≠ S := fun e => by
    have z := (N _ (.head _)).1
    rw [e, zS.1] at z
    cases z; exact hc rfl
  have hSL : S ≠ Lg := hLg (S, o) (by simp)
  have hSo : ∀ q ∈ own, q.1 ≠ S := mem_ne_of (off (S, o) (by simp))
  refine ⟨F.change hs zS.2.1 zS.2.2, hlt, ⟨gs, oF, m', own, name, qual, t1, t2, hgs, nsF, ?_, ?_, ?_, hAL, G⟩, ?_⟩
  · intro q hq
    by_cases e : q.1 = S
    · have : q = (S, o') := by
        rcases List.mem_cons.mp hq with rfl | hq
        · exact absurd e hSA
        rcases List.mem_cons.mp hq with rfl | hq
        · exact absurd e.symm hSL
        rcases List.mem_append.mp hq with hq | hq
        · exact absurd e (hSo q hq)
        rcases List.mem_cons.mp hq with rfl | hq
        · rfl
        · exact absurd e (hr q hq)
      subst this
      exact ⟨ho, zS.2⟩
    · have hq' : q ∈ (AG, genO gi name qual t1 t2) :: (Lg, oF) :: (own ++ (S, o) :: r) := by
        simp only [List.mem_cons, List.mem_append] at hq ⊢
        rcases hq with h | h | h | h | h
        · exact .inl h
        · exact .inr (.inl h)
        · exact .inr (.inr (.inl h))
        · exact absurd (by rw [h]) e
        · exact .inr (.inr (.inr (.inr h)))
      have z := N q hq'
      exact ⟨hs.extBut _ _ e z.1, z.2⟩
  · intro q hq
    rcases List.mem_append.mp hq with hq | hq
    · exact hLg q (List.mem_append_left _ hq)
    rcases List.mem_cons.mp hq with rfl | hq
    · exact hSL
    · exact hLg q (List.mem_append_right _ (.tail _ hq))
  · intro q hq
    rcases List.mem_cons.mp hq with rfl | hq
    · exact off _ (.head _)
    rcases List.mem_cons.mp hq with rfl | hq
    · exact off (S, o) (by simp)
    · exact off q (.tail _ (.tail _ hq))
  · intro q hq
    rcases List.mem_cons.mp (hR q hq) with rfl | h
    · exact absurd rfl (hRS _ hq)
    · exact .tail _ h
theorem GHeld.perm {rest' : List (Addr × Obj)} (H : GHeld w p loose mean mg mb nm R h₀ L Lg AG m gi ys rest s) (h : ∀ q, q ∈ rest' ↔ q ∈ rest) : GHeld w p loose mean mg mb nm R h₀ L Lg AG m gi ys rest' s := by
  obtain ⟨F, hlt, ⟨gs, oF, m', own, name, qual, t1, t2, hgs, nsF, N, hLg, off, hAL, G⟩, hR⟩ := H
  refine ⟨F, hlt, ⟨gs, oF, m', own, name, qual, t1, t2, hgs, nsF, news_sub N ?_, ?_, ?_, hAL, G⟩, fun q hq => (h q).mpr (hR q hq)⟩
  · intro q hq; simp only [List.mem_cons, List.mem_append, h] at hq ⊢; exact hq
  · intro q hq; exact hLg q (by simp only [List.mem_append, h] at hq ⊢; exact hq)
  · intro q hq; exact off q (by simp only [List.mem_cons, h] at hq ⊢; exact hq)
/-- list.extend over the generator -/
theorem ext_gen {S : Addr} {res : Value} {R0 : Result → Shared → Prop} (cx : Cx w p loose mean mg mb A 590 5900 env outer A₀ base h₀ L) (hSR : ∀ q ∈ R, q.1 ≠ S) : ∀ (ys sols : List Asg) (cp : List (Addr × Obj)) (k : Nat) (s : Shared), GHeld w p loose mean mg mb nm R h₀ L Lg AG m gi ys ((S, listOf (refs cp).toArray k) :: (cp ++ R)) s → (∀ q ∈ cp, q.1 ≠ S) →
    Paired (fun (g : Asg) (p : Addr × Obj) => p.2.IsDictOf (PySem.strKind PW w) (asgKv nm g)) sols cp → cp.length + ys.length ≤ 400 → AllBare s.gens →
    (∀ h' tk' gens' cp' k', Fr h₀ L h' m → News h₀ L h' ((S, listOf (refs cp').toArray k') :: (cp' ++ R)) → (∀ q ∈ cp', q.1 ≠ S) → Paired (fun (g : Asg) (p : Addr × Obj) => p.2.IsDictOf (PySem.strKind PW w) (asgKv nm g)) (sols ++ ys) cp' → AllBare gens' → R0 (.ok (.ret res)) { s with heap := h', toks := tk', gens := gens' }) →
    codeAny (model PW w) A (.builtin "list.extend.loop" ⟨[.ref S, .ref AG, res], []⟩) R0 s
  | [], sols, cp, k, s, H, hcp, hP, hlen, hb, hR0 => by
    refine codeAny_builtin F.entry_extend_loop ?_
    rw [Around.under_plainId F.plain_extend_loop _]
    show wpAny _ A.in1 (pyNext (.ref AG) >>= _) _ _ s
    refine wpAny_bind (done_gen (A := A.in1) ⟨cx.B, cx.X, cx.T, cx.k, cx.f, by have := cx.d; rw [depth_in1]; omega, by have := cx.u; rw [units_in1]; omega, cx.fr, cx.hh⟩ H fun h' tk' F' N' => wpAny_pure ?_)
    exact hR0 h' tk' _ cp k F' N' hcp (by rw [List.append_nil]; exact hP) (bare_two hb rfl)
  | y :: ys, sols, cp, k, s, H, hcp, hP, hlen, hb, hR0 => by
    refine codeAny_builtin F.entry_extend_loop ?_
    rw [Around.under_plainId F.plain_extend_loop _]
    show wpAny _ A.in1 (pyNext (.ref AG) >>= _) _ _ s
    refine wpAny_bind (next_gen (A := A.in1) ⟨cx.B, cx.X, cx.T, cx.k, cx.f, by have := cx.d; rw [depth_in1]; omega, by have := cx.u; rw [units_in1]; omega, cx.fr, cx.hh⟩ H fun h' tk' gs' a o H' ho hlt hgb => ?_)
    have hS' : h'.get? S = some (listOf (refs cp).toArray k) := by
      obtain ⟨_, _, ⟨_, _, _, own, _, _, _, _, _, _, N, _⟩, _⟩ := H'
      exact (N (S, _) (by simp)).1
    have haS : S < a := hlt (S, _) (.head _)
    have hlen' : cp.length + 1 + ys.length ≤ 400 := by simp only [List.length_cons] at hlen; omega
    show wpAny _ A.in1 (updateSeq S (·.push (.ref a)) >>= _) _ _ _
    refine wpAny_bind (wpAny_updateSeq hS' rfl (wpAny_pure ⟨plainId_quiet F.plain_extend_loop _, ?_⟩) (by simp; rw [sizeLine_eq]; omega) (by simp; rw [sizeLine_eq]; omega))
    have e1 : ((refs cp).toArray.push (.ref a)) = (refs (cp ++ [(a, o)])).toArray := by simp [refs]
    have hup := Heap.get?_update_self (Obj.mapSeq (·.push (.ref a))) hS' rfl
    have H2 : GHeld w p loose mean mg mb nm R h₀ L Lg AG m gi ys ((S, listOf (refs cp).toArray k) :: ((cp ++ [(a, o)]) ++ R)) { s with heap := h', toks := tk', gens := (s.setGen gi .running |>.setGen gi gs').gens } := H'.perm fun q => by simp only [List.mem_cons, List.mem_append, List.not_mem_nil, or_false]; grind
    have hcp2 : ∀ q ∈ cp ++ [(a, o)], q.1 ≠ S := by
      intro q hq
      rcases List.mem_append.mp hq with hq | hq
      · exact hcp q hq
      · rw [List.mem_singleton.mp hq]; exact Nat.ne_of_gt haS
    have H3 := H2.upd (h' := h'.update S (Obj.mapSeq (·.push (.ref a)))) (tk' := tk') (o' := listOf (refs (cp ++ [(a, o)])).toArray (k + 1)) (fun q hq => (List.mem_append.mp hq).elim (hcp2 q) (hSR q)) (by show Value.type "list" ≠ Value.type "generator"; decide) hSR (Heap.SameBut.update ..) (by rw [hup, ← e1]; simp [Obj.mapSeq])
    refine ext_gen cx hSR ys (sols ++ [y]) (cp ++ [(a, o)]) (k + 1) _ H3 hcp2 (hP.snoc ho) (by simp; omega) (bare_two hb hgb) fun h'' tk'' gens'' cp'' k'' F'' N'' hc'' hP'' hb'' => ?_
    exact hR0 h'' tk'' gens'' cp'' k'' F'' N'' hc'' (by simpa using hP'') hb''
/-- list(self.getSolutionIter(..)) -/
theorem list_gen {Q : Value → Shared → Prop} (cx : Cx w p loose mean mg mb A 580 5800 env outer A₀ base h₀ L) (H : GHeld w p loose mean mg mb nm R h₀ L Lg AG m gi ys R s) (hlen : ys.length ≤ 400) (hb : AllBare s.gens)
    (ret : ∀ S h' tk' gens' cp' k', Fr h₀ L h' m → News h₀ L h' ((S, listOf (refs cp').toArray k') :: (cp' ++ R)) → (∀ q ∈ cp' ++ R, q.1 ≠ S) → Paired (fun (g : Asg) (p : Addr × Obj) => p.2.IsDictOf (PySem.strKind PW w) (asgKv nm g)) ys cp' → AllBare gens' → Q (.ref S) { s with heap := h', toks := tk', gens := gens' }) :
    wpAny (model PW w) A (call (.type "list") [.ref AG]) Q E s := by
  have cx2 : Cx w p loose mean mg mb A.in1 590 5900 env outer A₀ base h₀ L := ⟨cx.B, cx.X, cx.T, cx.k, cx.f, by have := cx.d; rw [depth_in1]; omega, by have := cx.u; rw [units_in1]; omega, cx.fr, cx.hh⟩
  have hgen : ∀ s' : Shared, (∃ rest, GHeld w p loose mean mg mb nm R h₀ L Lg AG m gi ys rest s') → s'.TypeIs (.ref AG) "generator" := by
    rintro s' ⟨rest, _, _, ⟨_, _, _, own, _, _, _, _, _, _, N, _⟩, _⟩
    exact ⟨_, (N _ (.head _)).1, rfl⟩
  have hisg : s.heap.IsGen AG gi := by
    obtain ⟨_, _, ⟨_, _, _, own, _, _, _, _, _, _, N, _⟩, _⟩ := H
    exact ⟨_, _, _, (N _ (.head _)).1, rfl, rfl, rfl⟩
  have hNs := H.gs
  -- the new list
  have H1 : GHeld w p loose mean mg mb nm R h₀ L Lg AG m gi ys ((s.heap.objs.size, listOf (refs []).toArray 0) :: ([] ++ R)) { s with heap := s.heap.push { cls := .type "list", data := .seq #[] } } := by
    obtain ⟨F, hlt, ⟨gs, oF, m', own, name, qual, t1, t2, hgs, nsF, N, hLg, off, hAL, G⟩, hR⟩ := H
    have N1 := N.push F { cls := .type "list", data := .seq #[] }
    have new : ∀ q ∈ (AG, genO gi name qual t1 t2) :: (Lg, oF) :: (own ++ R), q.1 ≠ s.heap.objs.size := fun q hq => Nat.ne_of_lt (Heap.lt_size (N q hq).1)
    refine ⟨F.push _, hlt, ⟨gs, oF, m', own, name, qual, t1, t2, hgs, nsF, news_sub N1 ?_, ?_, ?_, hAL, G⟩, fun q hq => .tail _ hq⟩
    · intro q hq
      have e : (listOf (refs []).toArray 0 : Obj) = { cls := .type "list", data := .seq #[] } := rfl
      simp only [List.mem_cons, List.mem_append, e, List.not_mem_nil, false_or] at hq ⊢; grind
    · intro q hq
      rcases List.mem_append.mp hq with hq | hq
      · exact hLg q (List.mem_append_left _ hq)
      rcases List.mem_cons.mp hq with rfl | hq
      · exact Ne.symm (new (Lg, oF) (.tail _ (.head _)))
      · exact hLg q (List.mem_append_right _ hq)
    · intro q hq
      rcases List.mem_cons.mp hq with rfl | hq
      · exact off _ (.head _)
      rcases List.mem_cons.mp hq with rfl | hq
      · intro hm
        obtain ⟨q2, hq2, e⟩ := List.mem_map.mp hm
        exact new q2 (.tail _ (.tail _ (List.mem_append_left _ hq2))) e
      · exact off q (.tail _ hq)
  have hSR : ∀ q ∈ R, q.1 ≠ s.heap.objs.size := fun q hq => by
    obtain ⟨_, _, ⟨_, _, _, own, _, _, _, _, _, _, N, _⟩, _⟩ := H
    exact Nat.ne_of_lt (Heap.lt_size (N q (.tail _ (.tail _ (List.mem_append_right _ hq)))).1)
  have hSA : s.heap.objs.size ≠ AG := fun e => by
    obtain ⟨_, _, ⟨_, _, _, own, _, _, _, _, _, _, N, _⟩, _⟩ := H
    exact absurd e.symm (Nat.ne_of_lt (Heap.lt_size (N _ (.head _)).1))
  refine callType_codes (Q₁ := fun obj s₁ => obj = .ref s.heap.objs.size ∧ s₁ = { s with heap := s.heap.push { cls := .type "list", data := .seq #[] } }) F.called_list (F.typeCall_list_1 _) F.entry_list_init (code_list_new _ ⟨rfl, rfl⟩) fun obj s₁ h₁ => ?_
  obtain ⟨rfl, rfl⟩ := h₁
  have hS : (s.heap.push { cls := .type "list", data := .seq #[] }).get? s.heap.objs.size = some { cls := .type "list", data := .seq #[] } := Heap.get?_push_size _ rfl
  refine ⟨⟨_, hS, rfl⟩, F.args_list_init_2 _ _, ?_⟩
  show wpAny _ A.in1.in1 (do let old ← Builtin.List.listItems (.ref s.heap.objs.size); Builtin.List.listUpdate (.ref s.heap.objs.size) (fun _ => #[]); letGo old.toList.reverse; Builtin.List.listExtendWith (.ref s.heap.objs.size) (.ref AG) .none) _ _ _
  refine wpAny_bind ?_
  unfold Builtin.List.listItems
  refine wpAny_bind (wpAny_seqItems hS rfl (wpAny_pure ?_))
  show wpAny _ A.in1.in1 (updateSeq s.heap.objs.size (fun _ => #[]) >>= fun _ => letGo (#[] : Array Value).toList.reverse >>= fun _ => Builtin.List.listExtendWith (.ref s.heap.objs.size) (.ref AG) .none) _ _ _
  refine wpAny_bind (wpAny_updateSeq hS rfl ?_)
  have hS₂ := Heap.get?_update_self (Obj.mapSeq (fun _ => (#[] : Array Value))) hS rfl
  have H2 := H1.upd (tk' := s.toks) (o' := listOf (refs []).toArray 0) (fun q hq => hSR q (by simpa using hq)) (by show Value.type "list" ≠ Value.type "generator"; decide) hSR (Heap.SameBut.update ..) (hS₂.trans (by rfl))
  refine wpAny_bind (wpAny_letGo ?_)
  unfold Builtin.List.listExtendWith
  refine wpAny_bind (wpAny_typeOf (hgen _ ⟨_, H2⟩) ?_)
  have h1 : Builtin.List.listSameRef (.ref s.heap.objs.size) (.ref AG) = false := by simp [Builtin.List.listSameRef, hSA]
  have h2 : (Value.type "generator" == Value.type "list") = false := by decide
  have h3 : (Value.type "generator" == Value.type "tuple") = false := by decide
  simp only [h1, h2, h3, Bool.or_false, Bool.false_eq_true, if_false]
  have hisg2 : ∀ s' : Shared, (∃ rest, GHeld w p loose mean mg mb nm R h₀ L Lg AG m gi ys rest s') → s'.heap.IsGen AG gi := by
    rintro s' ⟨rest, _, _, ⟨_, _, _, own, _, _, _, _, _, _, N, _⟩, _⟩
    exact ⟨_, _, _, (N _ (.head _)).1, rfl, rfl, rfl⟩
  refine wpAny_bind (wpAny_pyIter_gen (hisg2 _ ⟨_, H2⟩) ?_)
  refine wpAny_bind (wpAny_holding ?_)
  unfold Builtin.List.listLengthHint
  refine wpAny_bind (wpAny_specialOf (hgen _ ⟨_, H2⟩) F.gen_no_len ?_)
  show wpAny _ A.in1.in1 (specialOf (Value.ref AG) (Str.ofString "__length_hint__") >>= _) _ _ _
  refine wpAny_bind (wpAny_specialOf (hgen _ ⟨_, H2⟩) F.gen_no_hint ?_)
  refine wpAny_pure ?_
  show wpAny _ A.in1.in1 (rule "list.extend.makes-room" >>= fun _ => Builtin.List.listTouch (.ref s.heap.objs.size) >>= fun _ =>
    again (.builtin "list.extend.loop" ⟨[.ref s.heap.objs.size, .ref AG, .none], []⟩)) _ _ _
  refine wpAny_bind (wpAny_rule ?_)
  refine wpAny_bind ?_
  show wpAny _ A.in1.in1 (updateSeq s.heap.objs.size (·.push .none) >>= fun _ => updateSeq s.heap.objs.size (·.pop)) _ _ _
  refine wpAny_bind (wpAny_updateSeq hS₂ rfl ?_)
  have hS₃ := Heap.get?_update_self (Obj.mapSeq (·.push Value.none)) hS₂ rfl
  have H3 := H2.upd (tk' := s.toks) (fun q hq => hSR q (by simpa using hq)) (by show Value.type "list" ≠ Value.type "generator"; decide) hSR (Heap.SameBut.update ..) hS₃
  refine wpAny_updateSeq (hz := by seq_fits) hS₃ rfl ?_
  have hS₄ := Heap.get?_update_self (Obj.mapSeq (·.pop)) hS₃ rfl
  have H4 := H3.upd (tk' := s.toks) (o' := listOf (refs []).toArray 2) (fun q hq => hSR q (by simpa using hq)) (by show Value.type "list" ≠ Value.type "generator"; decide) hSR (Heap.SameBut.update ..) (hS₄.trans (by rfl))
  refine wpAny_pure ⟨plainId_quiet F.plain_extend_loop _, ?_⟩
  refine ext_gen cx2 hSR ys [] [] 2 _ H4 (fun _ h => nomatch h) .nil (by simpa using hlen) hb fun h' tk' gens' cp' k' F' N' hc' hP' hb' => ?_
  exact ⟨rfl, ret _ h' tk' gens' cp' k' F' N' (fun q hq => (List.mem_append.mp hq).elim (hc' q) (hSR q)) (by simpa using hP') hb'⟩
end
end Mine
end
section
open PySem PySem.W PySem.W.X PyProof.Rows PySem.Calls PySem.Spec
set_option Elab.async false
set_option maxRecDepth 100000
set_option maxHeartbeats 8000000
namespace Mine
theorem filledG10 : PySem.Challenge.rw_aw5017_04 = PySem.Challenge.rw_aw5017_04 ∧ hd.heap_39 = hd.heap_39 := by k_fill; exact ⟨rfl, rfl⟩
local macro_rules | `(tactic| k_all) => `(tactic| assumption)
local macro_rules | `(tactic| ktr_room) => `(tactic| (simp only [depth_under_make, depth_under_kw, depth_in1, depth_deeper, depth_caller, recursionLimit] at *; omega))
local macro_rules | `(tactic| walk_at "getAttr ref") => `(tactic| (k_here; (with_reducible show wpAny _ _ (getAttr (Value.ref _) (PySem.Str.ofString "_hidden") _) _ _ _); k_dflt (refine' hidden_K ?k1 ?k2 ?k3 ?k4 ?_; (case k1 => k_in); (case k2 => k_asm); (case k3 => k_mem); (case k4 => k_mem); k_whole)))
local macro_rules | `(tactic| walk_at "getAttr ref") => `(tactic| (k_here; (with_reducible show wpAny _ _ (getAttr (Value.ref _) (PySem.Str.ofString "_states") _) _ _ _); k_dflt (refine' states_K ?k1 ?k2 ?k3 ?k4 ?_; (case k1 => k_in); (case k2 => k_asm); (case k3 => k_mem); (case k4 => k_mem); k_whole)))
local macro_rules | `(tactic| walk_at "getMethod ref") => `(tactic| (k_here; k_dflt (refine' meth_K ?k1 ?k2 ?k3 ?k4 ?k5 ?k6 ?k7 ?k8 ?_; (case k1 => k_in); (case k2 => k_asm); (case k3 => k_mem); (case k4 => k_mem); (case k5 => k_is); (case k6 => first | (intro M h X; exact looks_typeIn X (by k_is)) | (intro M h X; exact Looks.of_pure (by first | exact PySem.F.type_list_remove | exact PySem.F.type_list_extend))); (case k7 => decide); (case k8 => first | rfl | decide +kernel); k_whole)))
local macro_rules | `(tactic| walk_at "call builtin:list.remove") => `(tactic| (k_here; k_dflt (refine' remove_K ?k1 ?k2 ?k3 ?k4 ?k5 ?k6 ?_; (case k1 => k_in); (case k2 => k_asm); (case k3 => k_asm); (case k4 => k_upd); (case k5 => assumption); (case k6 => assumption); k_whole; intro h' F' N'; (try k_sweep))))
local macro_rules | `(tactic| walk_at "call builtin:list.append") => `(tactic| (k_here; k_dflt (refine' append_iv ?k1 ?k2 ?k3 ?k4 ?_; (case k1 => k_asm); (case k2 => k_asm); (case k3 => k_upd); (case k4 => assumption); k_whole; intro h' F' N'; (try k_sweep))))
local macro_rules | `(tactic| walk_at "call builtin:list.pop") => `(tactic| (k_here; (with_reducible show wpAny _ _ (call (Value.builtin _) [Value.ref _]) _ _ _); k_dflt (refine' pop_iv ?k1 ?k2 ?k3 ?k4 ?_; (case k1 => k_asm); (case k2 => k_asm); (case k3 => k_upd); (case k4 => assumption); k_whole; intro h' F' N'; (try k_sweep))))
local macro_rules | `(tactic| walk_at "call builtin:list.pop") => `(tactic| (dsimp only; fail_if_success (with_reducible show wpAny _ _ (call (Value.builtin _) (Prod.snd _)) _ _ _)))
local macro_rules | `(tactic| walk_at "call builtin:len") => `(tactic| (k_here; (with_reducible show wpAny _ _ (call (Value.builtin "len") [Value.ref _]) _ _ _); k_dflt (refine' len_iv ?k1 ?k2 ?k3 ?k4 ?_; (case k1 => k_in); (case k2 => k_asm); (case k3 => k_mem); (case k4 => assumption); k_whole); intro u' tk'))
local macro_rules | `(tactic| walk_at "truthy ref") => `(tactic| (k_here; k_dflt (refine' truthy_iv ?k1 ?k2 ?k3 ?k4 ?_; (case k1 => k_in); (case k2 => k_asm); (case k3 => k_mem); (case k4 => assumption); k_whole); intro tk'))
local macro_rules | `(tactic| walk_at "eval Subscript") => `(tactic| (k_here; (with_reducible show wpAny _ _ (eval (PySem.Expr.Subscript _ (PySem.Expr.Slice _ _ none _) _) _) _ _ _); refine SubSlice_ ?_))
local macro_rules | `(tactic| walk_at "delete Subscript") => `(tactic| (k_here; (with_reducible show wpAny _ _ (delete (PySem.Expr.Subscript _ (PySem.Expr.Slice _ none none _) _) _) _ _ _); refine DelSlice_ ?_))
local macro_rules | `(tactic| walk_at "call builtin:list.extend") => `(tactic| (k_here; k_dflt (refine' extend_iv ?k1 ?k2 ?k3 ?k4 ?k5 ?k6 ?k7 ?_; (case k1 => k_in); (case k2 => k_asm); (case k3 => k_asm); (case k4 => (intro o9; k_upd)); (case k5 => k_mem); (case k6 => first | assumption | omega); (case k7 => ((try simp only [List.length_drop, List.length_take]); omega)); k_whole; intro h' e' F' N'; (try k_sweep))))
local macro_rules | `(tactic| ktr_enter) => `(tactic| (refine' code_def ?k1 ?k2 ?k3 ?k4 ?k5 ?kA ?kF ?kK ?k6 ?k7 ?k8 ?k9 ?kB ?_ ?c2 ?c3 ?c4 ?c5; (case kA => first | assumption | exact fr_in (by assumption) | exact rfl); (case kF => first | assumption | exact rfl); (case kK => first | assumption | exact rfl); (case k1 => k_asm); (case k2 => k_asm); (case k3 => k_asm); (case k4 => k_asm); (case k5 => k_asm); (case k6 => k_is); (case k7 => k_is); (case k8 => ktr_room); (case k9 => first | exact BindsTo.of_eq rfl | exact binds_K (by k_in) rfl (by k_is) rfl rfl rfl); (case c5 => decide); (case kB => exact locs rfl); (case c2 => exact rfl); (case c3 => exact rfl); (case c4 => exact rfl); k_whole; intro g' L' h' FG' F' N' B' X' T'; (try dsimp only); (try k_fold)))
local macro_rules | `(tactic| k_mem) => `(tactic| (first | assumption | (refine List.mem_append_left _ ?_; assumption) | (refine List.mem_append_right _ ?_; assumption) | (refine List.mem_append_right _ ?_; k_mem)))
local macro_rules | `(tactic| walk_at "exec For Name Name cons nil") => `(tactic| (k_here; refine For_ ?_))
local macro_rules | `(tactic| walk_at "exec For Name Subscript cons nil") => `(tactic| (k_here; refine For_ ?_))
local macro_rules | `(tactic| walk_at "call ref") => `(tactic| (k_here; (with_reducible show wpAny _ _ (call (Value.ref 300) _) _ _ _); refine Stop.intro ?_))
local macro_rules | `(tactic| walk_at "compareOp In str ref") => `(tactic| (k_here; k_dflt (first
  | (refine' kin_t (knd := PySem.strKind _ _) ?k1 ?k2 ?k3 ?k4 (strKind_is _ _ _ _) ?k5 ?_; (case k1 => k_asm); (case k2 => k_mem); (case k3 => assumption); (case k4 => assumption); (case k5 => assumption); k_whole)
  | (refine' kin_f (knd := PySem.strKind _ _) ?k1 ?k2 ?k3 ?k4 (strKind_is _ _ _ _) ?k5 ?_; (case k1 => k_asm); (case k2 => k_mem); (case k3 => assumption); (case k4 => assumption); (case k5 => assumption); k_whole))))
local macro_rules | `(tactic| walk_at "compareOp NotIn str ref") => `(tactic| (k_here; k_dflt (first
  | (refine' knin_t (knd := PySem.strKind _ _) ?k1 ?k2 ?k3 ?k4 (strKind_is _ _ _ _) ?k5 ?_; (case k1 => k_asm); (case k2 => k_mem); (case k3 => assumption); (case k4 => assumption); (case k5 => assumption); k_whole)
  | (refine' knin_f (knd := PySem.strKind _ _) ?k1 ?k2 ?k3 ?k4 (strKind_is _ _ _ _) ?k5 ?_; (case k1 => k_asm); (case k2 => k_mem); (case k3 => assumption); (case k4 => assumption); (case k5 => assumption); k_whole))))
local macro_rules | `(tactic| walk_at "subscriptTail") => `(tactic| (k_here; k_dflt (refine' kda_item (knd := PySem.strKind _ _) ?k1 ?k2 ?k3 (strKind_is _ _ _ _) ?k5 ?_; (case k1 => k_asm); (case k2 => k_mem); (case k3 => assumption); (case k5 => assumption); k_whole)))
local macro_rules | `(tactic| walk_at "call builtin:list.remove") => `(tactic| (k_here; (with_reducible show wpAny _ _ (call _ _) _ _ _); refine Stop.intro ?_))
local macro_rules | `(tactic| walk_at "call ref") => `(tactic| (k_here; (with_reducible show wpAny _ _ (call (Value.ref 336) _) _ _ _); k_dflt (refine wpAny_call ?_; ktr_enter)))
local macro_rules | `(tactic| walk_at "exec For Name Name cons cons") => `(tactic| (k_here; refine For_ ?_))
local macro_rules | `(tactic| walk_at "exec For Tuple Subscript cons cons") => `(tactic| (k_here; refine For_ ?_))
local macro_rules | `(tactic| walk_at "exec If") => `(tactic| (k_here; (with_reducible show wpAny _ _ (exec (Stmt.If (Expr.Name _ _) _ _ _) _) _ _ _); refine If_ ?_))
local macro_rules | `(tactic| walk_at "setItem ref str") => `(tactic| (k_here; (with_reducible show wpAny _ _ (setItem _ _ _) _ _ _); refine Stop.intro ?_))
local macro_rules | `(tactic| walk_at "delItem ref str") => `(tactic| (k_here; (with_reducible show wpAny _ _ (delItem _ _) _ _ _); refine Stop.intro ?_))
local macro_rules | `(tactic| walk_at "call builtin:dict.copy") => `(tactic| (k_here; (with_reducible show wpAny _ _ (call _ _) _ _ _); refine Stop.intro ?_))
local macro_rules | `(tactic| walk_at "call builtin:list.append") => `(tactic| (k_here; (with_reducible show wpAny _ _ (call _ _) _ _ _); refine Stop.intro ?_))
local macro_rules | `(tactic| walk_at "call ref") => `(tactic| (k_here; (with_reducible show wpAny _ _ (call (Value.ref 286) _) _ _ _); refine Stop.intro ?_))
local macro_rules | `(tactic| walk_at "call ref") => `(tactic| (k_here; (with_reducible show wpAny _ _ (call (Value.ref 293) _) _ _ _); refine Stop.intro ?_))
local macro_rules | `(tactic| walk_at "call ref") => `(tactic| (k_here; (with_reducible show wpAny _ _ (call (Value.ref 208) _) _ _ _); refine Stop.intro ?_))
local macro_rules | `(tactic| walk_at "call ref") => `(tactic| (k_here; (with_reducible show wpAny _ _ (call (Value.ref (Cn.c _)) _) _ _ _); refine Stop.intro ?_))
local macro_rules | `(tactic| walk_at "getMethod ref") => `(tactic| (k_here; (with_reducible show wpAny _ _ (getMethod (Value.ref _) (PySem.Str.ofString "copy") _) _ _ _); k_dflt (refine' copy_method (knd := PySem.strKind PW _) ?k1 ?k2 ?k3 ?_; (case k1 => k_asm); (case k2 => k_mem); (case k3 => assumption); k_whole)))
local macro_rules | `(tactic| walk_at "assign Tuple") => `(tactic| (k_here; (with_reducible show wpAny _ _ (assign (Expr.Tuple _ _ _) _ (Value.ref _)) _ _ _); k_dflt (refine' unpackN_ ?k1 ?k2 ?k3 ?k4 ?k5 ?k6 ?_; (case k1 => k_asm); (case k2 => k_asm); (case k3 => (refine News.isTup (by k_asm) (by k_mem))); (case k4 => first | assumption | exact rfl); (case k5 => exact rfl); (case k6 => exact rfl); k_whole); intro h' F' N'; (try k_sweep)))
open PyProof.Rows.LCg
local macro_rules | `(tactic| walk_at "call ref") => `(tactic| (k_here; (with_reducible show wpAny _ _ (call (Value.ref 169) _) _ _ _); refine Stop.intro ?_))
local macro_rules | `(tactic| walk_at "call type:list") => `(tactic| (k_here; (with_reducible show wpAny _ _ (call (Value.type "list") [Value.ref _]) _ _ _); refine Stop.intro ?_))
section
variable {w : World} {p : Program} {loose : List Str} {mean : ExcName → Option Value} {mg mb : Str → Option Value} {A : Around} {env : Env} {outer : List Env} {A₀ : Around} {base h₀ : Heap} {L : Addr} {m : Str → Option Value} {s : Shared} {Q E : Value → Shared → Prop}
  {R dyn news : List (Addr × Obj)} {cs : List Dc} {ds ds' : List Ds}
theorem bgs_c {x xdx AD AV AC : Addr} {nm : Nat → Str} {od ov : Obj} {vls : List Addr} {vcs : List (List Cn)} {fcOn : Bool} {t0 : Tok} {e0 f : Nat} {ys : List Asg} (cx : Cx w p loose mean mg mb A 450 4500 env outer A₀ base h₀ L) (F : Fr h₀ L s.heap m)
    (N : News h₀ L s.heap news) (C : Cut dyn news R) (P : PbOk w nm R AD AV od ov cs vls vcs) (hx : (x, instObj 186 xdx) ∈ R) (hxd : (xdx, btD w.params t0 fcOn e0) ∈ R) (D : Dyn w.params cs ds dyn) (hm : btOut cs.length (btConM vcs) (vkey vcs) fcOn f [] [] ds = some ys) (hlen : ys.length ≤ 400) (hb : AllBare s.gens)
    (ret : ∀ h' tk' gens' S cp k', Fr h₀ L h' m → News h₀ L h' ((S, listOf (refs cp).toArray k') :: (cp ++ R)) → Paired (fun (g : Asg) (p : Addr × Obj) => p.2.IsDictOf (PySem.strKind PW w) (asgKv nm g)) ys cp → AllBare gens' → Q (.ref S) { s with heap := h', toks := tk', gens := gens' }) :
    wpAny (model PW w) A (call (.ref 183) [.ref x, .ref AD, .ref AC, .ref AV]) Q E s := by
  obtain ⟨B, X, T, hk, hf, hd, hu, hfr, hhd⟩ := cx
  obtain rfl := C.eq
  refine wpAny_call ?_
  k_dflt ktr_enter
  rename Fr h₀ L _ m => FG
  k_steps
  rename Fr _ _ _ _ => F1
  rename News _ _ _ _ => N1
  refine bt_gen (by (refine' Cx.mk ?cxB ?cxX ?cxT ?cxk ?cxf ?cxd ?cxu ?cxfr ?cxhh; (case cxfr => exact fr_in (by assumption)); (case cxhh => assumption); (case cxB => assumption); (case cxX => assumption); (case cxT => assumption); (case cxk => exact rfl); (case cxf => exact rfl); (case cxd => (simp only [depth_in1, depth_deeper] at *; omega)); (case cxu => (simp only [units_in1, units_deeper] at *; omega)))) F1 N1 (.base _) P hx hxd D hm ?_
  intro Lg AG h' tk oF m' own t1 t2 gs name qual nsF F2 N2 off lt hlt hLg hbare G
  k_steps
  rename Fr _ _ _ _ => F3
  rename News _ _ _ _ => N3
  refine list_gen (Lg := Lg) (gi := s.gens.size) (by (refine' Cx.mk ?cxB ?cxX ?cxT ?cxk ?cxf ?cxd ?cxu ?cxfr ?cxhh; (case cxfr => exact fr_in (by assumption)); (case cxhh => assumption); (case cxB => assumption); (case cxX => assumption); (case cxT => assumption); (case cxk => exact rfl); (case cxf => exact rfl); (case cxd => (simp only [depth_in1, depth_deeper] at *; omega)); (case cxu => (simp only [units_in1, units_deeper] at *; omega)))) ⟨F3, hlt, ⟨gs, oF, m', own, name, qual, t1, t2, Array.getElem?_push_size .., nsF, N3, hLg, ?_, Nat.ne_of_gt (lt _ (.head _)), G⟩, fun _ h => h⟩ hlen (hb.push hbare) ?_
  · intro q hq
    rcases List.mem_cons.mp hq with rfl | hq
    · intro hm2
      obtain ⟨q2, hq2, e⟩ := List.mem_map.mp hm2
      exact absurd e (Nat.ne_of_lt (lt q2 (.tail _ (List.mem_append_left _ hq2))))
    · exact off q hq
  · intro S h4 tk4 gens4 cp k4 F4 N4 hS hP hb4
    k_steps
    rename News h₀ L _ _ => N5
    refine' ret _ _ _ S cp k4 ?_ N5 hP hb4
    k_asm
end
end Mine
end
section
open PySem PySem.W PySem.W.X PyProof.Rows PySem.Calls PySem.Spec
set_option Elab.async false
set_option maxRecDepth 100000
set_option maxHeartbeats 8000000
namespace Mine
theorem filled27 : PySem.Challenge.rw_aw5017_04 = PySem.Challenge.rw_aw5017_04 ∧ hd.heap_39 = hd.heap_39 := by k_fill; exact ⟨rfl, rfl⟩
theorem look303 (P : Params) : ∃ oc od cd sl, (hd.heap_39 P).lookup 303 = some ⟨oc, od, .cls cd, sl⟩ ∧ cd.abstract = false ∧ cd.hasDel = false ∧ cd.mro = [.ref 303, .type "list", .type "object"] ∧ (sl.toList[4]?).join = some (.builtin "list.__new__") := by
  refine ⟨_, _, _, _, by k_is, ?_, ?_, ?_, ?_⟩
  · rfl
  · rfl
  · rfl
  · rfl
section
variable {w : World} {A : Around} {E : Value → Shared → Prop} {s : Shared} {h₀ : Heap} {L dl : Addr} {m : Str → Option Value} {news : List (Addr × Obj)} {xs : Array Value} {k : Nat} {Q : Value → Shared → Prop}
theorem made303 {h : Heap} (X : (hd.heap_39 w.params).In h) : Looks (model PW w) h (Bind.madeBy (.ref 303)) (some "list.__new__") := by
  obtain ⟨oc, od, cd, sl, ho, e1, e2, hl, e3⟩ := look303 w.params
  have hc : clsIn (hd.heap_39 w.params) 303 = some cd := by unfold clsIn; rw [ho]
  have hm : Looks (model PW w) h (mroOf (.ref 303)) cd.mro := (looks_clsIn X hc).andThen .now
  intro A Q E s k q
  unfold Bind.madeBy
  refine wpAny_bind (hm A _ E s k ?_)
  rw [hl, List.forIn_cons]
  refine wpAny_bind (wpAny_bind (wpAny_bind (wpAny_bind (wpAny_loadPart (k _ _ (X _ _ ho)) (wpAny_pure ?_)))))
  dsimp only
  rw [← Array.getElem?_toList, e3]
  exact wpAny_pure (wpAny_pure (wpAny_pure q))
theorem dom_make (X : (hd.heap_39 w.params).In s.heap) (F : Fr h₀ L s.heap m) (N : News h₀ L s.heap news) (hdl : (dl, listOf xs k) ∈ news)
    (hq : ∀ x dx h' tk', Fr h₀ L h' m → News h₀ L h' ((x, domO dx #[] 0) :: (dx, dictOf [] 0) :: news) → (∀ p ∈ news, p.1 ≠ x ∧ p.1 ≠ dx) → @Ne Nat x dx →
      wpAny (model PW w) (A.under (.builtin "type.__call__" ⟨[.ref 303, .ref dl], []⟩)) (call (.ref 272) [.ref x, .ref dl]) (fun v s' => v = .none ∧ Q (.ref x) s') E { s with heap := h', toks := tk' }) :
    wpAny (model PW w) A (call (.ref 303) [.ref dl]) Q E s := by
  obtain ⟨oc, od, cd, sl, ho, e1, e2, hl, e3⟩ := look303 w.params
  have hC := X _ _ ho
  have hc : clsIn (hd.heap_39 w.params) 303 = some cd := by unfold clsIn; rw [ho]
  have call : Looks (model PW w) s.heap (specialOf (.ref 303) "__call__") (some (.builtin "type.__call__")) := looks_specialIn X (by k_is)
  have typ : Looks (model PW w) s.heap (isInstance (.ref 303) (.type "type")) true := looks_instIn X (by k_is)
  have hm : Looks (model PW w) s.heap (mroOf (.ref 303)) cd.mro := (looks_clsIn X hc).andThen .now
  have e4 : cd.mro.isEmpty = false := by rw [hl]; rfl
  have made := made303 X
  have hi := looks_findIn (M := model PW w) X (show findIn (hd.heap_39 w.params) (.ref 303) "__init__" = some (some (.ref 272)) by k_is)
  have hb : ∀ self, Looks (model PW w) s.heap (bindSpecial (.ref 272) self) (.ref 272, [self]) := fun self => bind_fn X self (by k_is)
  have self : Looks (model PW w) s.heap (isSubtype (.ref 303) (.ref 303)) true := looks_mroIn X (by k_is)
  refine wpAny_call (codeAny_of_tree ?_)
  show wpAny _ _ (callAny (.ref 303) _) _ _ _
  obtain ⟨hp, g, d, tt, os⟩ := s
  refine nd_load hC ?_
  show wpAny _ _ (callAny.viaDunder (.ref 303) _) _ _ _
  unfold callAny.viaDunder
  refine wpAny_bind (call.at ?_)
  dsimp only
  rw [tc_bind]
  refine wpAny_bind (wpAny_pure (wpAny_bind (wpAny_pure ?_)))
  refine wpAny_pure (a := Fin.again (.call (.builtin "type.__call__") ⟨[.ref 303, .ref dl], []⟩)) (And.intro rfl ?_)
  refine codeAny_call_builtin_at (Code.quiet_builtin _ (by decide +kernel)) entry_typeCall (check_slot tc_kind tc_split typ (tc_args _ _ _) ?_)
  unfold Builtin.«type.__call__»
  iterate 5 lk
  rw [if_neg (by rw [e4]; decide)]
  iterate 7 lk
  refine list_new (s := ⟨hp, g, d, tt, os⟩) X (N _ hdl).1 ?_
  intro h' tk' x dx hx0 hdx0 hne up hx hdx
  have k : ∀ b o, hp.get? b = some o → h'.get? b = some o := up
  have t1 : Looks (model PW w) h' (typeOf (.ref x)) (.ref 303) := (Looks.ld hx).andThen .now
  have s1 := self.keeps k
  refine wpAny_bind ?_
  unfold isInstance
  refine wpAny_bind (t1.here (s1.here ?_))
  rw [if_neg (by decide)]
  refine wpAny_bind (wpAny_holding ?_)
  have I : InstAt h' x (domO dx #[] 0) 303 (some (dictOf [] 0)) := ⟨hx, rfl, rfl, hdx⟩
  have F1 := F.keeps k
  have N1 := N.grown k
  have hL0 : ∀ a, hp.get? a = none → a ≠ L ∧ h₀.get? a = none := fun a ha => ⟨fun e => (by obtain ⟨oL, _, _, hL, _⟩ := F.ns; rw [e, hL] at ha; cases ha), (by cases q : h₀.get? a with | none => rfl | some o => rw [F.keep a o q] at ha; cases ha)⟩
  refine special_fn (K := hd.heap_39 w.params) (f := 272) (X.keeps k) I (by k_is) (by k_is) (wpAny_mono (hq x dx h' tk' F1 ?n1 ?n2 hne) (fun v s' z => ?_) fun _ _ e => e)
  case n1 =>
    intro p hp2
    rcases List.mem_cons.mp hp2 with rfl | hp2
    · exact ⟨hx, hL0 _ hx0⟩
    rcases List.mem_cons.mp hp2 with rfl | hp2
    · exact ⟨hdx, hL0 _ hdx0⟩
    · exact N1 p hp2
  case n2 =>
    intro p hp2
    have z := (N p hp2).1
    exact ⟨fun e => (by rw [e] at z; rw [hx0] at z; cases z), fun e => (by rw [e] at z; rw [hdx0] at z; cases z)⟩
  obtain ⟨rfl, z⟩ := z
  dsimp only
  rw [if_neg (by decide)]
  exact wpAny_pure z
end
end Mine
end
section
open PySem PySem.W PySem.W.X PyProof.Rows PySem.Calls PySem.Spec
set_option Elab.async false
set_option maxRecDepth 100000
set_option maxHeartbeats 8000000
namespace Mine
theorem filled28 : PySem.Challenge.rw_aw5017_04 = PySem.Challenge.rw_aw5017_04 ∧ hd.heap_39 = hd.heap_39 := by k_fill; exact ⟨rfl, rfl⟩
section
variable {w : World} {A : Around} {E : Value → Shared → Prop} {s : Shared} {h₀ : Heap} {L : Addr} {m : Str → Option Value}
theorem meth_listinit {pl : Sem Bool} {Q : Value × List Value → Shared → Prop} (F : Fr h₀ L s.heap m) (X : (hd.heap_39 w.params).In h₀) (h : Q (.builtin "list.__init__", []) { s with toks := s.toks + 1 }) :
    wpAny (model PW w) A (getMethod (.type "list") "__init__" pl) Q E s := by
  refine method_type (K := hd.heap_39 w.params) (T := "list") (name := "__init__") (v := .builtin "list.__init__") F X ?_ ?_ ?_ ?_ h
  · first | rfl | kernel_rfl
  · decide +kernel
  · rfl
  · rfl
open PySem.Builtin.List (listItems listUpdate listExtendWith listSameRef listTooLong)
theorem li_plain : plainId "list.__init__" = true := by decide +kernel
theorem li_split : splitId "list.__init__" = some ("list", "__init__") := by decide +kernel
theorem li_kind : (Manifest.find? "list").bind (·.attrs.lookup "__init__") = some .slot := by decide +kernel

theorem list_init {x dx dl : Addr} {xs : Array Value} {k : Nat} {Q : Value → Shared → Prop} (X : (hd.heap_39 w.params).In s.heap) (hx : s.heap.get? x = some (domO dx #[] 0)) (hdl : s.heap.get? dl = some (listOf xs k)) (hne : dl ≠ x) (hz : xs.size ≤ 500)
    (hq : ∀ h' e, Heap.SameBut x s.heap h' → h'.get? x = some (domO dx xs e) → Q .none { s with heap := h' }) : wpAny (model PW w) A (call (.builtin "list.__init__") [.ref x, .ref dl]) Q E s := by
  refine call_dom (n := "__init__") (k := .slot) X hx li_plain F.entry_list_init li_split li_kind (.inl rfl) (F.args_list_init_2 _ _) ?_
  show wpAny _ _ (do let old ← listItems (.ref x); listUpdate (.ref x) (fun _ => #[]); letGo old.toList.reverse; listExtendWith (.ref x) (.ref dl) .none) _ _ s
  refine wpAny_bind (wpAny_listItems hx rfl ?_)
  refine wpAny_bind (wpAny_updateSeq (f := fun _ => #[]) hx rfl ?_)
  have h1 := Heap.get?_update_self (Obj.mapSeq fun _ => (#[] : Array Value)) hx rfl
  have b1 : Heap.SameBut x s.heap (s.heap.update x (Obj.mapSeq fun _ => #[])) := Heap.SameBut.update ..
  refine wpAny_bind (wpAny_letGo ?_)
  have hdl2 := b1.extBut dl _ hne hdl
  have h1' : (s.heap.update x (Obj.mapSeq fun _ => #[])).get? x = some (domO dx #[] 0) := h1
  unfold listExtendWith
  refine wpAny_bind (wpAny_typeOf (T := "list") ⟨_, hdl2, rfl⟩ ?_)
  rw [if_pos (by simp)]
  refine wpAny_bind (wpAny_listItems hdl2 rfl (wpAny_bind (wpAny_listItems h1' rfl ?_)))
  rw [if_neg (by simp)]
  refine wpAny_bind (wpAny_updateSeq (f := fun zs => zs ++ xs) h1' rfl ?_ (by simp) (by simp; rw [sizeLine_eq]; omega))
  refine wpAny_pure (hq _ _ (b1.trans (Heap.SameBut.update ..)) (by rw [Heap.get?_update_self _ h1' rfl]; simp [Obj.mapSeq]; rfl))
end
end Mine
end
section
open PySem PySem.W PySem.W.X PyProof.Rows PySem.Calls PySem.Spec
set_option Elab.async false
set_option maxRecDepth 100000
set_option maxHeartbeats 8000000
namespace Mine
theorem filled29 : PySem.Challenge.rw_aw5017_04 = PySem.Challenge.rw_aw5017_04 ∧ hd.heap_39 = hd.heap_39 := by k_fill; exact ⟨rfl, rfl⟩
local macro_rules | `(tactic| k_all) => `(tactic| assumption)
local macro_rules | `(tactic| ktr_room) => `(tactic| (simp only [depth_under_make, depth_under_kw, depth_in1, depth_deeper, depth_caller, recursionLimit] at *; omega))
local macro_rules | `(tactic| walk_at "getAttr ref") => `(tactic| (k_here; (with_reducible show wpAny _ _ (getAttr (Value.ref _) (PySem.Str.ofString "_hidden") _) _ _ _); k_dflt (refine' hidden_K ?k1 ?k2 ?k3 ?k4 ?_; (case k1 => k_in); (case k2 => k_asm); (case k3 => k_mem); (case k4 => k_mem); k_whole)))
local macro_rules | `(tactic| walk_at "getAttr ref") => `(tactic| (k_here; (with_reducible show wpAny _ _ (getAttr (Value.ref _) (PySem.Str.ofString "_states") _) _ _ _); k_dflt (refine' states_K ?k1 ?k2 ?k3 ?k4 ?_; (case k1 => k_in); (case k2 => k_asm); (case k3 => k_mem); (case k4 => k_mem); k_whole)))
local macro_rules | `(tactic| walk_at "getMethod ref") => `(tactic| (k_here; k_dflt (refine' meth_K ?k1 ?k2 ?k3 ?k4 ?k5 ?k6 ?k7 ?k8 ?_; (case k1 => k_in); (case k2 => k_asm); (case k3 => k_mem); (case k4 => k_mem); (case k5 => k_is); (case k6 => first | (intro M h X; exact looks_typeIn X (by k_is)) | (intro M h X; exact Looks.of_pure (by first | exact PySem.F.type_list_remove | exact PySem.F.type_list_extend))); (case k7 => decide); (case k8 => first | rfl | decide +kernel); k_whole)))
local macro_rules | `(tactic| walk_at "call builtin:list.remove") => `(tactic| (k_here; k_dflt (refine' remove_K ?k1 ?k2 ?k3 ?k4 ?k5 ?k6 ?_; (case k1 => k_in); (case k2 => k_asm); (case k3 => k_asm); (case k4 => k_upd); (case k5 => assumption); (case k6 => assumption); k_whole; intro h' F' N'; (try k_sweep))))
local macro_rules | `(tactic| walk_at "call builtin:list.append") => `(tactic| (k_here; k_dflt (refine' append_iv ?k1 ?k2 ?k3 ?k4 ?_; (case k1 => k_asm); (case k2 => k_asm); (case k3 => k_upd); (case k4 => assumption); k_whole; intro h' F' N'; (try k_sweep))))
local macro_rules | `(tactic| walk_at "call builtin:list.pop") => `(tactic| (k_here; (with_reducible show wpAny _ _ (call (Value.builtin _) [Value.ref _]) _ _ _); k_dflt (refine' pop_iv ?k1 ?k2 ?k3 ?k4 ?_; (case k1 => k_asm); (case k2 => k_asm); (case k3 => k_upd); (case k4 => assumption); k_whole; intro h' F' N'; (try k_sweep))))
local macro_rules | `(tactic| walk_at "call builtin:list.pop") => `(tactic| (dsimp only; fail_if_success (with_reducible show wpAny _ _ (call (Value.builtin _) (Prod.snd _)) _ _ _)))
local macro_rules | `(tactic| walk_at "call builtin:len") => `(tactic| (k_here; (with_reducible show wpAny _ _ (call (Value.builtin "len") [Value.ref _]) _ _ _); k_dflt (refine' len_iv ?k1 ?k2 ?k3 ?k4 ?_; (case k1 => k_in); (case k2 => k_asm); (case k3 => k_mem); (case k4 => assumption); k_whole); intro u' tk'))
local macro_rules | `(tactic| walk_at "truthy ref") => `(tactic| (k_here; k_dflt (refine' truthy_iv ?k1 ?k2 ?k3 ?k4 ?_; (case k1 => k_in); (case k2 => k_asm); (case k3 => k_mem); (case k4 => assumption); k_whole); intro tk'))
local macro_rules | `(tactic| walk_at "eval Subscript") => `(tactic| (k_here; (with_reducible show wpAny _ _ (eval (PySem.Expr.Subscript _ (PySem.Expr.Slice _ _ none _) _) _) _ _ _); refine SubSlice_ ?_))
local macro_rules | `(tactic| walk_at "delete Subscript") => `(tactic| (k_here; (with_reducible show wpAny _ _ (delete (PySem.Expr.Subscript _ (PySem.Expr.Slice _ none none _) _) _) _ _ _); refine DelSlice_ ?_))
local macro_rules | `(tactic| walk_at "call builtin:list.extend") => `(tactic| (k_here; k_dflt (refine' extend_iv ?k1 ?k2 ?k3 ?k4 ?k5 ?k6 ?k7 ?_; (case k1 => k_in); (case k2 => k_asm); (case k3 => k_asm); (case k4 => (intro o9; k_upd)); (case k5 => k_mem); (case k6 => first | assumption | omega); (case k7 => ((try simp only [List.length_drop, List.length_take]); omega)); k_whole; intro h' e' F' N'; (try k_sweep))))
local macro_rules | `(tactic| ktr_enter) => `(tactic| (refine' code_def ?k1 ?k2 ?k3 ?k4 ?k5 ?kA ?kF ?kK ?k6 ?k7 ?k8 ?k9 ?kB ?_ ?c2 ?c3 ?c4 ?c5; (case kA => first | assumption | exact fr_in (by assumption) | exact rfl); (case kF => first | assumption | exact rfl); (case kK => first | assumption | exact rfl); (case k1 => k_asm); (case k2 => k_asm); (case k3 => k_asm); (case k4 => k_asm); (case k5 => k_asm); (case k6 => k_is); (case k7 => k_is); (case k8 => ktr_room); (case k9 => first | exact BindsTo.of_eq rfl | exact binds_K (by k_in) rfl (by k_is) rfl rfl rfl); (case c5 => decide); (case kB => exact locs rfl); (case c2 => exact rfl); (case c3 => exact rfl); (case c4 => exact rfl); k_whole; intro g' L' h' FG' F' N' B' X' T'; (try dsimp only); (try k_fold)))
local macro_rules | `(tactic| k_mem) => `(tactic| (first | assumption | (refine List.mem_append_left _ ?_; assumption) | (refine List.mem_append_right _ ?_; assumption) | (refine List.mem_append_right _ ?_; k_mem)))
local macro_rules | `(tactic| walk_at "exec For Name Name cons nil") => `(tactic| (k_here; refine For_ ?_))
local macro_rules | `(tactic| walk_at "exec For Name Subscript cons nil") => `(tactic| (k_here; refine For_ ?_))
local macro_rules | `(tactic| walk_at "call ref") => `(tactic| (k_here; (with_reducible show wpAny _ _ (call (Value.ref 300) _) _ _ _); refine Stop.intro ?_))
local macro_rules | `(tactic| walk_at "compareOp In str ref") => `(tactic| (k_here; k_dflt (first
  | (refine' kin_t (knd := PySem.strKind _ _) ?k1 ?k2 ?k3 ?k4 (strKind_is _ _ _ _) ?k5 ?_; (case k1 => k_asm); (case k2 => k_mem); (case k3 => assumption); (case k4 => assumption); (case k5 => assumption); k_whole)
  | (refine' kin_f (knd := PySem.strKind _ _) ?k1 ?k2 ?k3 ?k4 (strKind_is _ _ _ _) ?k5 ?_; (case k1 => k_asm); (case k2 => k_mem); (case k3 => assumption); (case k4 => assumption); (case k5 => assumption); k_whole))))
local macro_rules | `(tactic| walk_at "compareOp NotIn str ref") => `(tactic| (k_here; k_dflt (first
  | (refine' knin_t (knd := PySem.strKind _ _) ?k1 ?k2 ?k3 ?k4 (strKind_is _ _ _ _) ?k5 ?_; (case k1 => k_asm); (case k2 => k_mem); (case k3 => assumption); (case k4 => assumption); (case k5 => assumption); k_whole)
  | (refine' knin_f (knd := PySem.strKind _ _) ?k1 ?k2 ?k3 ?k4 (strKind_is _ _ _ _) ?k5 ?_; (case k1 => k_asm); (case k2 => k_mem); (case k3 => assumption); (case k4 => assumption); (case k5 => assumption); k_whole))))
local macro_rules | `(tactic| walk_at "subscriptTail") => `(tactic| (k_here; k_dflt (refine' kda_item (knd := PySem.strKind _ _) ?k1 ?k2 ?k3 (strKind_is _ _ _ _) ?k5 ?_; (case k1 => k_asm); (case k2 => k_mem); (case k3 => assumption); (case k5 => assumption); k_whole)))
local macro_rules | `(tactic| walk_at "call builtin:list.remove") => `(tactic| (k_here; (with_reducible show wpAny _ _ (call _ _) _ _ _); refine Stop.intro ?_))
local macro_rules | `(tactic| walk_at "call ref") => `(tactic| (k_here; (with_reducible show wpAny _ _ (call (Value.ref 336) _) _ _ _); k_dflt (refine wpAny_call ?_; ktr_enter)))
local macro_rules | `(tactic| walk_at "exec For Name Name cons cons") => `(tactic| (k_here; refine For_ ?_))
local macro_rules | `(tactic| walk_at "exec For Tuple Subscript cons cons") => `(tactic| (k_here; refine For_ ?_))
local macro_rules | `(tactic| walk_at "exec If") => `(tactic| (k_here; (with_reducible show wpAny _ _ (exec (Stmt.If (Expr.Name _ _) _ _ _) _) _ _ _); refine If_ ?_))
local macro_rules | `(tactic| walk_at "setItem ref str") => `(tactic| (k_here; (with_reducible show wpAny _ _ (setItem _ _ _) _ _ _); refine Stop.intro ?_))
local macro_rules | `(tactic| walk_at "delItem ref str") => `(tactic| (k_here; (with_reducible show wpAny _ _ (delItem _ _) _ _ _); refine Stop.intro ?_))
local macro_rules | `(tactic| walk_at "call builtin:dict.copy") => `(tactic| (k_here; (with_reducible show wpAny _ _ (call _ _) _ _ _); refine Stop.intro ?_))
local macro_rules | `(tactic| walk_at "call builtin:list.append") => `(tactic| (k_here; (with_reducible show wpAny _ _ (call _ _) _ _ _); refine Stop.intro ?_))
local macro_rules | `(tactic| walk_at "call ref") => `(tactic| (k_here; (with_reducible show wpAny _ _ (call (Value.ref 286) _) _ _ _); refine Stop.intro ?_))
local macro_rules | `(tactic| walk_at "call ref") => `(tactic| (k_here; (with_reducible show wpAny _ _ (call (Value.ref 293) _) _ _ _); refine Stop.intro ?_))
local macro_rules | `(tactic| walk_at "call ref") => `(tactic| (k_here; (with_reducible show wpAny _ _ (call (Value.ref 208) _) _ _ _); refine Stop.intro ?_))
local macro_rules | `(tactic| walk_at "call ref") => `(tactic| (k_here; (with_reducible show wpAny _ _ (call (Value.ref (Cn.c _)) _) _ _ _); refine Stop.intro ?_))
local macro_rules | `(tactic| walk_at "getMethod ref") => `(tactic| (k_here; (with_reducible show wpAny _ _ (getMethod (Value.ref _) (PySem.Str.ofString "copy") _) _ _ _); k_dflt (refine' copy_method (knd := PySem.strKind PW _) ?k1 ?k2 ?k3 ?_; (case k1 => k_asm); (case k2 => k_mem); (case k3 => assumption); k_whole)))
local macro_rules | `(tactic| walk_at "assign Tuple") => `(tactic| (k_here; (with_reducible show wpAny _ _ (assign (Expr.Tuple _ _ _) _ (Value.ref _)) _ _ _); k_dflt (refine' unpackN_ ?k1 ?k2 ?k3 ?k4 ?k5 ?k6 ?_; (case k1 => k_asm); (case k2 => k_asm); (case k3 => (refine News.isTup (by k_asm) (by k_mem))); (case k4 => first | assumption | exact rfl); (case k5 => exact rfl); (case k6 => exact rfl); k_whole); intro h' F' N'; (try k_sweep)))
theorem refuse_dom (self : Value) : refuseLoop self "__setattr__" [.ref 303, .type "list", .type "object"] = pure () := by
  rw [refuseLoop_ref]; kernel_rfl
section
variable {w : World} {A : Around} {E : Value → Shared → Prop} {s : Shared} {h₀ : Heap} {L : Addr} {m : Str → Option Value}
theorem osa_dom {x dx : Addr} {xs : Array Value} {e n n' : Nat} {es es' : List DictEntry} {name : Str} {tk : Tok} {v : Value} {pre post : List (Addr × Obj)} {R : Result → Shared → Prop} (X : (hd.heap_39 w.params).In s.heap) (F : Fr h₀ L s.heap m) (N : News h₀ L s.heap (pre ++ (dx, dictOf es n) :: post))
    (hxg : s.heap.get? x = some (domO dx xs e)) (ha : findIn (hd.heap_39 w.params) (.ref 303) name = some none) (hrk : es.any (·.refKey) = false) (h1 : ∀ p ∈ pre, p.1 ≠ dx) (h2 : ∀ p ∈ post, p.1 ≠ dx)
    (he : (putL name (PyData.keyHash w.params name) (.str name s.toks) v es, putN name es n) = (es', n')) (hz : es'.length ≤ 1000)
    (h : ∀ h', Fr h₀ L h' m → News h₀ L h' (pre ++ (dx, dictOf es' n') :: post) → R (.ok (.ret .none)) { s with heap := h', toks := s.toks + 1 }) :
    codeAny (model PW w) A (.call (.builtin "object.__setattr__") ⟨[.ref x, .str name tk, v], []⟩) R s := by
  obtain ⟨e1, e2⟩ := Prod.mk.inj he
  have D := (N (dx, dictOf es n) (by simp)).1
  have I : InstAt s.heap x (domO dx xs e) 303 (some (dictOf es n)) := ⟨hxg, rfl, rfl, D⟩
  obtain ⟨oc, od, cd, sl, ho, q1, q2, hmro, q3⟩ := look303 w.params
  have hc : clsIn (hd.heap_39 w.params) 303 = some cd := by unfold clsIn; rw [ho]
  have hdict : hasDictIn (hd.heap_39 w.params) 303 = true := by k_is
  unfold hasDictIn at hdict
  rw [hc] at hdict
  have hd' : cd.hasDict = true := hdict
  have SF := PySem.F.store_object
  have sub : Looks (model PW w) s.heap (isInstance (.ref x) (.type "object")) true := I.type.andThen (looks_mroIn X (by unfold mroIn; rw [hc, Option.bind_some, hmro]; rfl))
  refine codeAny_call_builtin SF.slot.plain SF.entry (@check_slot (model PW w) _ _ s "object.__setattr__" "object" "__setattr__" (.ref x) [.str name tk, v] [] _ SF.kind SF.split sub (SF.args (.ref x) (.str name tk) v) ?_)
  have hm : Looks (model PW w) s.heap (mroOf (.ref 303)) cd.mro := (looks_clsIn X hc).andThen .now
  rw [osa_eq, refuse_eq]
  refine wpAny_bind (wpAny_bind (I.type.here (wpAny_bind (hm.here ?_))))
  rw [hmro, refuse_dom]
  refine wpAny_pure (wpAny_bind (I.type.here (wpAny_bind ((looks_findIn X ha).here (wpAny_bind (wpAny_pure ?_))))))
  obtain ⟨U1, U2⟩ := news_upd (f := Obj.putName name (PyData.keyHash w.params name) (.str name s.toks) v) (o' := dictOf es' n') F N h1 h2 (by rw [putName_dict, e1, e2]) rfl
  have D' := (U2 (dx, dictOf es' n') (by simp)).1
  refine wpAny_bind (wpAny_pure (wpAny_bind (wpAny_bind (wpAny_loadPart hxg (wpAny_bind ((looks_clsIn X hc).here ?_))))))
  rw [hd']
  refine wpAny_pure (a := some dx) (wpAny_bind (wpAny_pure (wpAny_bind ?_)))
  unfold nsSet
  refine wpAny_bind (wpAny_bind (wpAny_askSetting (wpAny_pure (wpAny_bind (wpAny_mkText (wpAny_bind (wpAny_loadPart D ?_)))))))
  dsimp only
  have c : (!es.toArray.any (·.key.isStr name) && es.toArray.any (·.refKey)) = false := by rw [List.any_toArray, List.any_toArray, hrk, Bool.and_false]
  rw [aRefKeyMayBeTheName_at, c]
  refine wpAny_updatePart D ?_
  refine wpAny_bind (wpAny_lookBehind D' (pastItsLine_dict (by rw [List.size_toArray, sizeLine_eq]; omega)) ?_)
  exact wpAny_pure (h _ U1 U2)
/-- self.name = v, self a Domain -/
theorem set_dom {x dx : Addr} {xs : Array Value} {e n n' : Nat} {es es' : List DictEntry} {name : Str} {v : Value} {news news' : List (Addr × Obj)} {Q : Unit → Shared → Prop} (F : Fr h₀ L s.heap m) (X₀ : (hd.heap_39 w.params).In h₀) (N : News h₀ L s.heap news)
    (hx : (x, domO dx xs e) ∈ news) (_hdx : (dx, dictOf es n) ∈ news) (ha : findIn (hd.heap_39 w.params) (.ref 303) name = some none) (hrk : es.any (·.refKey) = false)
    (he : (putL name (PyData.keyHash w.params name) (.str name (s.toks + 1)) v es, putN name es n) = (es', n')) (U : Upd dx (dictOf es n) (dictOf es' n') news news') (hz : es'.length ≤ 1000)
    (h : ∀ h', Fr h₀ L h' m → News h₀ L h' news' → Q () { s with heap := h', toks := s.toks + 2 }) :
    wpAny (model PW w) A (setAttr (.ref x) name v) Q E s := by
  have X := X₀.keeps F.keep
  have hdx := upd_mem U
  obtain ⟨pre, post, rfl, rfl, h1, h2⟩ := U.split
  have I : InstAt s.heap x (domO dx xs e) 303 (some (dictOf es n)) := ⟨(N _ hx).1, rfl, rfl, (N _ hdx).1⟩
  refine set_plain X I (by k_is) ?_
  exact osa_dom (s := { s with toks := s.toks + 1 }) X F N (N _ hx).1 ha hrk h1 h2 he hz h
end
local macro_rules | `(tactic| walk_at "getMethod type:list") => `(tactic| (k_here; (with_reducible show wpAny _ _ (getMethod (Value.type "list") (PySem.Str.ofString "__init__") _) _ _ _); k_dflt (refine' meth_listinit ?k1 ?k2 ?_; (case k1 => k_asm); (case k2 => k_asm); k_whole)))
local macro_rules | `(tactic| walk_at "call builtin:list.__init__") => `(tactic| (k_here; (with_reducible show wpAny _ _ (call _ _) _ _ _); refine Stop.intro ?_))
section
variable {w : World} {p : Program} {loose : List Str} {mean : ExcName → Option Value} {mg mb : Str → Option Value} {A : Around} {env : Env} {outer : List Env} {A₀ : Around} {base h₀ : Heap} {L : Addr} {m : Str → Option Value} {s : Shared} {Q E : Value → Shared → Prop}
theorem init_perm {h : Heap} {a b c d : Addr × Obj} {R : List (Addr × Obj)} (N : News h₀ L h (a :: b :: c :: d :: R)) : News h₀ L h (a :: c :: d :: b :: R) := news_sub N fun q hq => by simp only [List.mem_cons] at hq ⊢; grind
theorem dominit_c {x dx dl : Addr} {l : List (Int × Tok)} {k : Nat} {R : List (Addr × Obj)} (cx : Cx w p loose mean mg mb A 500 5000 env outer A₀ base h₀ L) (F : Fr h₀ L s.heap m)
    (N : News h₀ L s.heap ((x, domO dx #[] 0) :: (dx, dictOf [] 0) :: R)) (hdl : (dl, listOf (iv l).toArray k) ∈ R) (hR : ∀ p ∈ R, p.1 ≠ x) (hR2 : ∀ p ∈ R, p.1 ≠ dx) (hxd : @Ne Nat x dx) (hl : l.length ≤ 500)
    (ret : ∀ h' tk' e t1 t2 hdA st e2, Fr h₀ L h' m → News h₀ L h' ((st, listOf (iv []).toArray 0) :: (x, domO dx (iv l).toArray e) :: (dx, domD w.params t1 t2 hdA st e2) :: (hdA, listOf (iv []).toArray 0) :: R) → (∀ p ∈ R, @LT.lt Nat _ p.1 hdA) → (∀ p ∈ R, @LT.lt Nat _ p.1 st) → @LT.lt Nat _ hdA st → @LT.lt Nat _ x hdA → @LT.lt Nat _ dx hdA → @LT.lt Nat _ x st → @LT.lt Nat _ dx st → Q .none { s with heap := h', toks := tk' }) :
    wpAny (model PW w) A (call (.ref 272) [.ref x, .ref dl]) Q E s := by
  obtain ⟨B, X, T, hk, hf, hd, hu, hfr, hhd⟩ := cx
  refine wpAny_call ?_
  k_dflt ktr_enter
  rename Fr h₀ L _ m => FG
  k_steps
  rename Fr _ _ _ _ => F1
  rename News _ _ _ _ => N1
  refine list_init (by k_in) (N1 _ (.head _)).1 (N1 _ (.tail _ (.tail _ hdl))).1 (hR _ hdl) (by simp [iv]; omega) (fun h' e hs ho => ?_)
  obtain ⟨F2, N2⟩ := upd_at F1 N1 (.head (List.forall_mem_cons.mpr ⟨fun e => hxd e.symm, hR⟩)) hs ho
  clear N1 F1
  k_steps
  k_dflt (refine' set_dom (x := x) (dx := dx) ?k1 ?k2 ?k3 ?k4 ?k5 ?k6 ?k7 ?k8 ?k9 ?k10 ?_; (case k1 => k_asm); (case k2 => k_asm); (case k3 => k_asm); (case k4 => k_mem); (case k5 => k_mem); (case k6 => k_is); (case k7 => exact rfl); (case k8 => k_put); (case k9 => k_upd); (case k10 => exact Nat.le_of_ble_eq_true rfl))
  intro h3 F3 N3
  k_steps
  k_dflt (refine' set_dom (x := x) (dx := dx) ?k1 ?k2 ?k3 ?k4 ?k5 ?k6 ?k7 ?k8 ?k9 ?k10 ?_; (case k1 => k_asm); (case k2 => k_asm); (case k3 => k_asm); (case k4 => k_mem); (case k5 => k_mem); (case k6 => k_is); (case k7 => exact rfl); (case k8 => k_put); (case k9 => k_upd); (case k10 => exact Nat.le_of_ble_eq_true rfl))
  intro h4 F4 N4
  k_steps
  rename Fr h₀ L _ _ => F5
  rename News h₀ L _ _ => N5
  rename _ < _ ∧ _ < _ ∧ _ < _ ∧ AllLt _ R => lt2
  rename _ < _ ∧ _ < _ ∧ AllLt _ R => lt1
  refine ret h4 _ e _ _ _ _ 2 F5 (init_perm N5) (allLt_mem lt1.2.2) (allLt_mem lt2.2.2.2) lt2.1 lt1.1 lt1.2.1 lt2.2.1 lt2.2.2.1
/-- Domain(values) -/
theorem dom_c {dl : Addr} {l : List (Int × Tok)} {k : Nat} {news : List (Addr × Obj)} (cx : Cx w p loose mean mg mb A 450 4500 env outer A₀ base h₀ L) (F : Fr h₀ L s.heap m) (N : News h₀ L s.heap news) (hdl : (dl, listOf (iv l).toArray k) ∈ news) (hl : l.length ≤ 500)
    (ret : ∀ (c : Dc) h' tk' lD, Fr h₀ L h' m → News h₀ L h' (lD ++ news) → Dt w.params c ⟨l, [], []⟩ lD → c.ads.Nodup → (∀ q ∈ news, q.1 ∉ c.ads) → Q (.ref c.x) { s with heap := h', toks := tk' }) :
    wpAny (model PW w) A (call (.ref 303) [.ref dl]) Q E s := by
  refine dom_make (cx.X.keeps F.keep) F N hdl fun x dx h' tk' F1 N1 hne hxd => ?_
  have cx2 : Cx w p loose mean mg mb (A.under (.builtin "type.__call__" ⟨[.ref 303, .ref dl], []⟩)) 500 5000 env outer A₀ base h₀ L := ⟨cx.B, cx.X, cx.T, cx.k, cx.f, by have := cx.d; simp only [depth_under_make]; omega, ?u, cx.fr, cx.hh⟩
  case u => have := cx.u; simp [Around.under, Code.cUnits, Code.frames, Code.isFrame]; omega
  refine dominit_c cx2 F1 N1 hdl (fun q hq => (hne q hq).1) (fun q hq => (hne q hq).2) hxd hl fun h2 tk2 e t1 t2 hdA st e2 F2 N2 z1 z2 z3 z4 z5 z6 z7 => ⟨rfl, ?_⟩
  refine ret ⟨x, dx, hdA, st, t1, t2, e2⟩ h2 tk2 [(x, domO dx (iv l).toArray e), (dx, domD w.params t1 t2 hdA st e2), (hdA, listOf (iv []).toArray 0), (st, listOf (iv []).toArray 0)] F2 (news_sub N2 ?_) ⟨e, 0, 0, [], rfl, rfl⟩ ?_ ?_
  · intro q hq; simp only [List.cons_append, List.nil_append, List.mem_cons] at hq ⊢; grind
  · simp only [Dc.ads, List.nodup_cons, List.mem_cons, List.not_mem_nil, or_false, not_or, not_false_eq_true, List.nodup_nil, and_true]
    exact ⟨⟨hxd, Nat.ne_of_lt z4, Nat.ne_of_lt z6⟩, ⟨Nat.ne_of_lt z5, Nat.ne_of_lt z7⟩, Nat.ne_of_lt z3⟩
  · intro q hq hm
    simp only [Dc.ads, List.mem_cons, List.not_mem_nil, or_false] at hm
    rcases hm with h | h | h | h
    · exact (hne q hq).1 h
    · exact (hne q hq).2 h
    · exact Nat.ne_of_lt (z1 q hq) h
    · exact Nat.ne_of_lt (z2 q hq) h
end
end Mine
end
section
open PySem PySem.W PySem.W.X PyProof.Rows PySem.Calls PySem.Spec
set_option Elab.async false
set_option maxRecDepth 100000
set_option maxHeartbeats 8000000
namespace Mine
theorem filled30 : PySem.Challenge.rw_aw5017_04 = PySem.Challenge.rw_aw5017_04 ∧ hd.heap_39 = hd.heap_39 := by k_fill; exact ⟨rfl, rfl⟩
local macro_rules | `(tactic| k_all) => `(tactic| assumption)
local macro_rules | `(tactic| ktr_room) => `(tactic| (simp only [depth_under_make, depth_under_kw, depth_in1, depth_deeper, depth_caller, recursionLimit] at *; omega))
local macro_rules | `(tactic| walk_at "getAttr ref") => `(tactic| (k_here; (with_reducible show wpAny _ _ (getAttr (Value.ref _) (PySem.Str.ofString "_hidden") _) _ _ _); k_dflt (refine' hidden_K ?k1 ?k2 ?k3 ?k4 ?_; (case k1 => k_in); (case k2 => k_asm); (case k3 => k_mem); (case k4 => k_mem); k_whole)))
local macro_rules | `(tactic| walk_at "getAttr ref") => `(tactic| (k_here; (with_reducible show wpAny _ _ (getAttr (Value.ref _) (PySem.Str.ofString "_states") _) _ _ _); k_dflt (refine' states_K ?k1 ?k2 ?k3 ?k4 ?_; (case k1 => k_in); (case k2 => k_asm); (case k3 => k_mem); (case k4 => k_mem); k_whole)))
local macro_rules | `(tactic| walk_at "getMethod ref") => `(tactic| (k_here; k_dflt (refine' meth_K ?k1 ?k2 ?k3 ?k4 ?k5 ?k6 ?k7 ?k8 ?_; (case k1 => k_in); (case k2 => k_asm); (case k3 => k_mem); (case k4 => k_mem); (case k5 => k_is); (case k6 => first | (intro M h X; exact looks_typeIn X (by k_is)) | (intro M h X; exact Looks.of_pure (by first | exact PySem.F.type_list_remove | exact PySem.F.type_list_extend))); (case k7 => decide); (case k8 => first | rfl | decide +kernel); k_whole)))
local macro_rules | `(tactic| walk_at "call builtin:list.remove") => `(tactic| (k_here; k_dflt (refine' remove_K ?k1 ?k2 ?k3 ?k4 ?k5 ?k6 ?_; (case k1 => k_in); (case k2 => k_asm); (case k3 => k_asm); (case k4 => k_upd); (case k5 => assumption); (case k6 => assumption); k_whole; intro h' F' N'; (try k_sweep))))
local macro_rules | `(tactic| walk_at "call builtin:list.append") => `(tactic| (k_here; k_dflt (refine' append_iv ?k1 ?k2 ?k3 ?k4 ?_; (case k1 => k_asm); (case k2 => k_asm); (case k3 => k_upd); (case k4 => assumption); k_whole; intro h' F' N'; (try k_sweep))))
local macro_rules | `(tactic| walk_at "call builtin:list.pop") => `(tactic| (k_here; (with_reducible show wpAny _ _ (call (Value.builtin _) [Value.ref _]) _ _ _); k_dflt (refine' pop_iv ?k1 ?k2 ?k3 ?k4 ?_; (case k1 => k_asm); (case k2 => k_asm); (case k3 => k_upd); (case k4 => assumption); k_whole; intro h' F' N'; (try k_sweep))))
local macro_rules | `(tactic| walk_at "call builtin:list.pop") => `(tactic| (dsimp only; fail_if_success (with_reducible show wpAny _ _ (call (Value.builtin _) (Prod.snd _)) _ _ _)))
local macro_rules | `(tactic| walk_at "call builtin:len") => `(tactic| (k_here; (with_reducible show wpAny _ _ (call (Value.builtin "len") [Value.ref _]) _ _ _); k_dflt (refine' len_iv ?k1 ?k2 ?k3 ?k4 ?_; (case k1 => k_in); (case k2 => k_asm); (case k3 => k_mem); (case k4 => assumption); k_whole); intro u' tk'))
local macro_rules | `(tactic| walk_at "truthy ref") => `(tactic| (k_here; k_dflt (refine' truthy_iv ?k1 ?k2 ?k3 ?k4 ?_; (case k1 => k_in); (case k2 => k_asm); (case k3 => k_mem); (case k4 => assumption); k_whole); intro tk'))
local macro_rules | `(tactic| walk_at "eval Subscript") => `(tactic| (k_here; (with_reducible show wpAny _ _ (eval (PySem.Expr.Subscript _ (PySem.Expr.Slice _ _ none _) _) _) _ _ _); refine SubSlice_ ?_))
local macro_rules | `(tactic| walk_at "delete Subscript") => `(tactic| (k_here; (with_reducible show wpAny _ _ (delete (PySem.Expr.Subscript _ (PySem.Expr.Slice _ none none _) _) _) _ _ _); refine DelSlice_ ?_))
local macro_rules | `(tactic| walk_at "call builtin:list.extend") => `(tactic| (k_here; k_dflt (refine' extend_iv ?k1 ?k2 ?k3 ?k4 ?k5 ?k6 ?k7 ?_; (case k1 => k_in); (case k2 => k_asm); (case k3 => k_asm); (case k4 => (intro o9; k_upd)); (case k5 => k_mem); (case k6 => first | assumption | omega); (case k7 => ((try simp only [List.length_drop, List.length_take]); omega)); k_whole; intro h' e' F' N'; (try k_sweep))))
local macro_rules | `(tactic| ktr_enter) => `(tactic| (refine' code_def ?k1 ?k2 ?k3 ?k4 ?k5 ?kA ?kF ?kK ?k6 ?k7 ?k8 ?k9 ?kB ?_ ?c2 ?c3 ?c4 ?c5; (case kA => first | assumption | exact fr_in (by assumption) | exact rfl); (case kF => first | assumption | exact rfl); (case kK => first | assumption | exact rfl); (case k1 => k_asm); (case k2 => k_asm); (case k3 => k_asm); (case k4 => k_asm); (case k5 => k_asm); (case k6 => k_is); (case k7 => k_is); (case k8 => ktr_room); (case k9 => first | exact BindsTo.of_eq rfl | exact binds_K (by k_in) rfl (by k_is) rfl rfl rfl); (case c5 => decide); (case kB => exact locs rfl); (case c2 => exact rfl); (case c3 => exact rfl); (case c4 => exact rfl); k_whole; intro g' L' h' FG' F' N' B' X' T'; (try dsimp only); (try k_fold)))
local macro_rules | `(tactic| k_mem) => `(tactic| (first | assumption | (refine List.mem_append_left _ ?_; assumption) | (refine List.mem_append_right _ ?_; assumption) | (refine List.mem_append_right _ ?_; k_mem)))
local macro_rules | `(tactic| walk_at "exec For Name Name cons nil") => `(tactic| (k_here; refine For_ ?_))
local macro_rules | `(tactic| walk_at "exec For Name Subscript cons nil") => `(tactic| (k_here; refine For_ ?_))
local macro_rules | `(tactic| walk_at "call ref") => `(tactic| (k_here; (with_reducible show wpAny _ _ (call (Value.ref 300) _) _ _ _); refine Stop.intro ?_))
local macro_rules | `(tactic| walk_at "compareOp In str ref") => `(tactic| (k_here; k_dflt (first
  | (refine' kin_t (knd := PySem.strKind _ _) ?k1 ?k2 ?k3 ?k4 (strKind_is _ _ _ _) ?k5 ?_; (case k1 => k_asm); (case k2 => k_mem); (case k3 => assumption); (case k4 => assumption); (case k5 => assumption); k_whole)
  | (refine' kin_f (knd := PySem.strKind _ _) ?k1 ?k2 ?k3 ?k4 (strKind_is _ _ _ _) ?k5 ?_; (case k1 => k_asm); (case k2 => k_mem); (case k3 => assumption); (case k4 => assumption); (case k5 => assumption); k_whole))))
local macro_rules | `(tactic| walk_at "compareOp NotIn str ref") => `(tactic| (k_here; k_dflt (first
  | (refine' knin_t (knd := PySem.strKind _ _) ?k1 ?k2 ?k3 ?k4 (strKind_is _ _ _ _) ?k5 ?_; (case k1 => k_asm); (case k2 => k_mem); (case k3 => assumption); (case k4 => assumption); (case k5 => assumption); k_whole)
  | (refine' knin_f (knd := PySem.strKind _ _) ?k1 ?k2 ?k3 ?k4 (strKind_is _ _ _ _) ?k5 ?_; (case k1 => k_asm); (case k2 => k_mem); (case k3 => assumption); (case k4 => assumption); (case k5 => assumption); k_whole))))
local macro_rules | `(tactic| walk_at "subscriptTail") => `(tactic| (k_here; k_dflt (refine' kda_item (knd := PySem.strKind _ _) ?k1 ?k2 ?k3 (strKind_is _ _ _ _) ?k5 ?_; (case k1 => k_asm); (case k2 => k_mem); (case k3 => assumption); (case k5 => assumption); k_whole)))
local macro_rules | `(tactic| walk_at "call builtin:list.remove") => `(tactic| (k_here; (with_reducible show wpAny _ _ (call _ _) _ _ _); refine Stop.intro ?_))
local macro_rules | `(tactic| walk_at "call ref") => `(tactic| (k_here; (with_reducible show wpAny _ _ (call (Value.ref 336) _) _ _ _); k_dflt (refine wpAny_call ?_; ktr_enter)))
local macro_rules | `(tactic| walk_at "exec Assign cons ListComp") => `(tactic| (k_here; k_dflt (refine Assign_ListComp_C (by with_unfolding_all rfl) (by with_unfolding_all rfl) (by rfl) (by decide) ?_)))
local macro_rules | `(tactic| walk_at "call builtin:list.sort") => `(tactic| (k_here; (with_reducible show wpAny _ _ (call _ _) _ _ _); refine Stop.intro ?_))
local macro_rules | `(tactic| walk_at "exec For Name Name cons cons") => `(tactic| (k_here; refine For_ ?_))
local macro_rules | `(tactic| walk_at "exec For Tuple Subscript cons cons") => `(tactic| (k_here; refine For_ ?_))
local macro_rules | `(tactic| walk_at "exec If") => `(tactic| (k_here; (with_reducible show wpAny _ _ (exec (Stmt.If (Expr.Name _ _) _ _ _) _) _ _ _); refine If_ ?_))
local macro_rules | `(tactic| walk_at "setItem ref str") => `(tactic| (k_here; (with_reducible show wpAny _ _ (setItem _ _ _) _ _ _); refine Stop.intro ?_))
local macro_rules | `(tactic| walk_at "delItem ref str") => `(tactic| (k_here; (with_reducible show wpAny _ _ (delItem _ _) _ _ _); refine Stop.intro ?_))
local macro_rules | `(tactic| walk_at "call builtin:dict.copy") => `(tactic| (k_here; (with_reducible show wpAny _ _ (call _ _) _ _ _); refine Stop.intro ?_))
local macro_rules | `(tactic| walk_at "call builtin:list.append") => `(tactic| (k_here; (with_reducible show wpAny _ _ (call _ _) _ _ _); refine Stop.intro ?_))
local macro_rules | `(tactic| walk_at "call ref") => `(tactic| (k_here; (with_reducible show wpAny _ _ (call (Value.ref 286) _) _ _ _); refine Stop.intro ?_))
local macro_rules | `(tactic| walk_at "call ref") => `(tactic| (k_here; (with_reducible show wpAny _ _ (call (Value.ref 293) _) _ _ _); refine Stop.intro ?_))
local macro_rules | `(tactic| walk_at "call ref") => `(tactic| (k_here; (with_reducible show wpAny _ _ (call (Value.ref 208) _) _ _ _); refine Stop.intro ?_))
local macro_rules | `(tactic| walk_at "call ref") => `(tactic| (k_here; (with_reducible show wpAny _ _ (call (Value.ref (Cn.c _)) _) _ _ _); refine Stop.intro ?_))
local macro_rules | `(tactic| walk_at "getMethod ref") => `(tactic| (k_here; (with_reducible show wpAny _ _ (getMethod (Value.ref _) (PySem.Str.ofString "copy") _) _ _ _); k_dflt (refine' copy_method (knd := PySem.strKind PW _) ?k1 ?k2 ?k3 ?_; (case k1 => k_asm); (case k2 => k_mem); (case k3 => assumption); k_whole)))
local macro_rules | `(tactic| walk_at "assign Tuple") => `(tactic| (k_here; (with_reducible show wpAny _ _ (assign (Expr.Tuple _ _ _) _ (Value.ref _)) _ _ _); k_dflt (refine' unpackN_ ?k1 ?k2 ?k3 ?k4 ?k5 ?k6 ?_; (case k1 => k_asm); (case k2 => k_asm); (case k3 => (refine News.isTup (by k_asm) (by k_mem))); (case k4 => first | assumption | exact rfl); (case k5 => exact rfl); (case k6 => exact rfl); k_whole); intro h' F' N'; (try k_sweep)))
local macro_rules | `(tactic| walk_at "call builtin:hasattr") => `(tactic| (k_here; (with_reducible show wpAny _ _ (call (Value.builtin "hasattr") [Value.ref _, Value.str _ _]) _ _ _); k_dflt (refine' hasattr_K ?k1 ?k2 ?k3 ?k4 ?_; (case k1 => k_in); (case k2 => k_asm); (case k3 => k_asm); (case k4 => k_mem); k_whole); intro h' tk' F' N'; (try k_sweep)))
local macro_rules | `(tactic| walk_at "call ref") => `(tactic| (k_here; (with_reducible show wpAny _ _ (call (Value.ref 303) _) _ _ _); refine Stop.intro ?_))
section
variable {w : World} {p : Program} {loose : List Str} {mean : ExcName → Option Value} {mg mb : Str → Option Value} {A : Around} {env : Env} {outer : List Env} {A₀ : Around} {base h₀ : Heap} {L : Addr} {m : Str → Option Value} {s : Shared} {Q E : Value → Shared → Prop}
/-- the dict of a Problem -/
abbrev probD (P : Params) (t1 t2 t3 : Tok) (so co va : Addr) (e : Nat) : Obj := dictOf [⟨PyData.keyHash P "_solver", .str "_solver" t1, .ref so⟩, ⟨PyData.keyHash P "_constraints", .str "_constraints" t2, .ref co⟩, ⟨PyData.keyHash P "_variables", .str "_variables" t3, .ref va⟩] e
theorem domKv_snoc {nm : Nat → Str} {cs : List Dc} {c : Dc} : domKv nm (cs ++ [c]) = domKv nm cs ++ [(nm cs.length, .ref c.x)] := by simp [domKv, List.mapIdx_append]
theorem domKv_new {nm : Nat → Str} (inj : Function.Injective nm) (cs : List Dc) : valueAt (domKv nm cs) (nm cs.length) = none := by
  unfold valueAt
  rw [Option.map_eq_none_iff, List.find?_eq_none]
  intro q hq
  obtain ⟨i, hi, rfl⟩ := List.mem_mapIdx.mp hq
  simp only [decide_eq_true_eq]
  exact fun e => absurd (inj e) (Nat.ne_of_lt hi)
theorem Dyn.snoc {P : Params} : ∀ {cs : List Dc} {ds : List Ds} {dyn l : List (Addr × Obj)} {c : Dc} {d : Ds}, Dyn P cs ds dyn → Dt P c d l → Dyn P (cs ++ [c]) (ds ++ [d]) (dyn ++ l)
  | [], [], _, l, _, _, h, ht => by cases (h : _ = []); exact ⟨l, [], by simp, ht, rfl⟩
  | c :: cs, d :: ds, _, _, _, _, ⟨l1, l2, h, h1, h2⟩, ht => by subst h; exact ⟨l1, l2 ++ _, by simp, h1, Dyn.snoc h2 ht⟩
  | [], _ :: _, _, _, _, _, h, _ => h.elim
  | _ :: _, [], _, _, _, _, h, _ => h.elim
theorem addv_c {x xdx so co va dl : Addr} {t1 t2 t3 tv : Tok} {e k : Nat} {R dyn : List (Addr × Obj)} {ov : Obj} {nm : Nat → Str} {cs : List Dc} {ds : List Ds} {l : List (Int × Tok)} (cx : Cx w p loose mean mg mb A 400 4000 env outer A₀ base h₀ L) (F : Fr h₀ L s.heap m)
    (N : News h₀ L s.heap ((va, ov) :: (R ++ dyn))) (inj : Function.Injective nm) (hx : (x, instObj 110 xdx) ∈ R) (hxd : (xdx, probD w.params t1 t2 t3 so co va e) ∈ R) (hov : ov.IsDictOf (PySem.strKind PW w) (domKv nm cs)) (lov : (va == sysModules) = false) (hdl : (dl, listOf (iv l).toArray k) ∈ R) (hl : l.length ≤ 500) (hl0 : l ≠ []) (hcs : cs.length ≤ 100)
    (D : Dyn w.params cs ds dyn) (nd : (ads cs).Nodup) (hR : ∀ q ∈ R, q.1 ∉ ads cs) (hva : ∀ q ∈ R ++ dyn, q.1 ≠ va)
    (ret : ∀ h' tk' ov' c dyn', Fr h₀ L h' m → News h₀ L h' ((va, ov') :: (R ++ dyn')) → ov'.IsDictOf (PySem.strKind PW w) (domKv nm (cs ++ [c])) → Dyn w.params (cs ++ [c]) (ds ++ [⟨l, [], []⟩]) dyn' → (ads (cs ++ [c])).Nodup → (∀ q ∈ R, q.1 ∉ ads (cs ++ [c])) → (∀ q ∈ R ++ dyn', q.1 ≠ va) → Q .none { s with heap := h', toks := tk' }) :
    wpAny (model PW w) A (call (.ref 64) [.ref x, .str (nm cs.length) tv, .ref dl]) Q E s := by
  obtain ⟨B, X, T, hk, hf, hd, hu, hfr, hhd⟩ := cx
  have hnew := domKv_new inj cs
  have hl1 : l.length ≤ 1000 := by omega
  have hl2 : (l.length != 0) = true := by cases l with | nil => exact absurd rfl hl0 | cons _ _ => rfl
  refine wpAny_call ?_
  k_dflt ktr_enter
  rename Fr h₀ L _ m => FG
  k_steps
  rename Fr _ _ _ _ => F1
  rename News _ _ _ _ => N1
  refine dom_c (by (refine' Cx.mk ?cxB ?cxX ?cxT ?cxk ?cxf ?cxd ?cxu ?cxfr ?cxhh; (case cxfr => exact fr_in (by assumption)); (case cxhh => assumption); (case cxB => assumption); (case cxX => assumption); (case cxT => assumption); (case cxk => exact rfl); (case cxf => exact rfl); (case cxd => (simp only [depth_in1, depth_deeper] at *; omega)); (case cxu => (simp only [units_in1, units_deeper] at *; omega)))) F1 N1 (List.Mem.tail _ (List.mem_append_left _ hdl)) hl (fun c h2 tk2 lD F2 N2 ht ndc hnc => ?_)
  obtain ⟨e9, f9, g9, ss9, rfl, hss9⟩ := id ht
  simp only [List.cons_append, List.nil_append] at N2
  k_steps
  rename Fr _ _ _ _ => F3
  rename News _ _ _ _ => N3
  have hvc : va ∉ c.ads := hnc (va, ov) (.head _)
  have hfst := ht.fst
  generalize hlD : [(c.x, domO c.dx (iv l).toArray e9), (c.dx, domD w.params c.t1 c.t2 c.hd c.st c.e2), (c.hd, listOf (iv []).toArray f9), (c.st, listOf (iv ss9).toArray g9)] = lD at ht hfst
  have hne : ∀ q ∈ R ++ (dyn ++ lD), q.1 ≠ va := by
    intro q hq
    rcases List.mem_append.mp hq with hq | hq
    · exact hva q (List.mem_append_left _ hq)
    rcases List.mem_append.mp hq with hq | hq
    · exact hva q (List.mem_append_right _ hq)
    · intro e; exact hvc (e ▸ hfst ▸ List.mem_map_of_mem hq)
  refine kda_set (knd := PySem.strKind PW w) F3 (news_sub (l' := (va, ov) :: (R ++ (dyn ++ lD))) N3 ?n1) (.head hne) hov (strKind_is _ _ _ _) (by rw [sizeLine_eq, List.length_mapIdx]; omega) fun h4 ov4 F4 N4 hov4 => ?_
  case n1 =>
    intro q hq
    rw [← hlD] at hq
    simp only [List.mem_cons, List.mem_append, List.not_mem_nil, or_false] at hq ⊢
    grind
  rw [stored_new hnew, ← domKv_snoc] at hov4
  k_steps
  rename Fr h₀ L _ _ => F5
  rename News h₀ L _ _ => N5
  have hads : ads (cs ++ [c]) = ads cs ++ c.ads := by simp [ads]
  refine ret _ _ ov4 c (dyn ++ lD) F5 N5 hov4 (D.snoc ht) ?_ ?_ hne
  · rw [hads]
    refine List.nodup_append.mpr ⟨nd, ndc, fun a ha b hb e => ?_⟩
    subst e
    rw [← D.fst] at ha
    obtain ⟨q, hq, rfl⟩ := List.mem_map.mp ha
    exact hnc q (.tail _ (List.mem_append_right _ hq)) hb
  · intro q hq hm
    rw [hads] at hm
    rcases List.mem_append.mp hm with hm | hm
    · exact hR q hq hm
    · exact hnc q (.tail _ (List.mem_append_left _ hq)) hm
end
end Mine
end
section
open PySem PySem.W PySem.W.X PyProof.Rows PySem.Calls PySem.Spec
set_option Elab.async false
set_option maxRecDepth 100000
set_option maxHeartbeats 8000000
namespace Mine
open PyProof.Rows.LCg
/-- the state at the head of a loop over an iterator -/
def AtW (h₀ : Heap) (L : Addr) (base : Shared) (I : Addr) (It : Obj → Prop) (J : (Str → Option Value) → List (Addr × Obj) → Prop) (s : Shared) : Prop :=
  ∃ h tk m news oI, s = { base with heap := h, toks := tk } ∧ Fr h₀ L h m ∧ News h₀ L h ((I, oI) :: news) ∧ It oI ∧ J m news
section
variable {prog : Program} {w : World} {A : Around} {E : Value → Shared → Prop} {s : Shared} {I : Addr} {h₀ : Heap} {m : Str → Option Value} {news : List (Addr × Obj)} {env : Env}
theorem loop_walks {target : Expr} {body orelse : List Stmt} {Q : Flow → Shared → Prop} {fp : List Addr} {n : Nat} {P : Nat → Value → Prop} {St : Nat → Heap → Prop} {It : Nat → Obj → Prop} {oI₀ : Obj} (J : Nat → (Str → Option Value) → List (Addr × Obj) → Prop)
    (W : Walks prog w A.in1 I fp [I] n P St) (hgo : ∀ (s : Shared) (v : Value) (Q : Unit → Shared → Prop) (E : Value → Shared → Prop), Q () s → wpAny (model prog w) A (letOwnedTupleGo target (.ref I) v) Q E s) (hE : PassesOwn (model prog w) A env E)
    (hSt : ∀ i h oI m news, It i oI → News h₀ env.locals h ((I, oI) :: news) → J i m news → St i h)
    (hIt : ∀ i h, St i h → ∃ oI, h.get? I = some oI ∧ It i oI)
    (F : Fr h₀ env.locals s.heap m) (NN : News h₀ env.locals s.heap ((I, oI₀) :: news)) (hi0 : It 0 oI₀) (h0 : J 0 m news)
    (hI : ∀ i m news h oI, J i m news → News h₀ env.locals h ((I, oI) :: news) → ∀ p ∈ news, p.1 ≠ I)
    (step : ∀ i m₁ news₁ h₁ tk₁ v oI, i < n → P i v → J i m₁ news₁ → It (i + 1) oI → Fr h₀ env.locals h₁ m₁ → News h₀ env.locals h₁ ((I, oI) :: news₁) →
      wpAny (model prog w) A (assign target env v) (fun _ s₂ => wpAny (model prog w) A (execs body env) (Out (AtW h₀ env.locals s I (It (i + 1)) (J (i + 1))) Q) E s₂) E { s with heap := h₁, toks := tk₁ })
    (fin : ∀ m₁ news₁ h₁ tk₁, J n m₁ news₁ → Fr h₀ env.locals h₁ m₁ → News h₀ env.locals h₁ news₁ → wpAny (model prog w) A (execs orelse env) Q E { s with heap := h₁, toks := tk₁ }) :
    codeAny (model prog w) A (.forLoop target (.ref I) body orelse env) (fun r s' => match r with | .ok f => Q f s' | .error e => cameBackBy (model prog w) A env E e s') s := by
  refine codeAny_forLoop_any (R := fun r s' => match r with | .ok f => Q f s' | .error e => cameBackBy (model prog w) A env E e s')
    (fun k s' => ∃ i, AtW h₀ env.locals s I (It i) (J i) s' ∧ i ≤ n ∧ k = n + 1 - i) ?_ (n + 1) ⟨0, ⟨s.heap, s.toks, m, news, oI₀, rfl, F, NN, hi0, h0⟩, Nat.zero_le _, rfl⟩
  rintro k s' ⟨i, ⟨h', tk, m', news', oI, rfl, F', N', hit, hJ⟩, hi, rfl⟩
  have hne := hI i m' news' h' oI hJ N'
  have hst := hSt i h' oI m' news' hit N' hJ
  have hIL := (N' _ (.head _)).2.1
  have hI₀ := (N' _ (.head _)).2.2
  by_cases hlt : i < n
  · refine wpAny_passesOwn hE (wpAny_of_in1 (W.item i _ _ _ hlt hst fun v h₂ tk₂ hP hst₂ hk => ?_))
    obtain ⟨oI₂, hg₂, hit₂⟩ := hIt _ _ hst₂
    have F₂ : Fr h₀ env.locals h₂ m' := fr_but F' hk (Ne.symm hIL) hI₀
    have N₂ : News h₀ env.locals h₂ ((I, oI₂) :: news') := List.forall_mem_cons.mpr ⟨⟨hg₂, hIL, hI₀⟩, fun p hp => news_but (fun q hq => N' q (.tail _ hq)) hk hne p hp⟩
    refine wpAny_passesOwn hE (hgo _ _ _ _ ?_)
    refine wpAny_passesOwn hE (wpAny_mono (step i _ _ _ _ v oI₂ hlt hP hJ hit₂ F₂ N₂) (fun _ s₂ z => ?_) fun _ _ z => z)
    refine wpAny_passesOwn hE (wpAny_mono z (fun f s₃ z => ?_) fun _ _ z => z)
    cases f with
    | next => exact ⟨n + 1 - (i + 1), by omega, i + 1, z, hlt, rfl⟩
    | cont => exact ⟨n + 1 - (i + 1), by omega, i + 1, z, hlt, rfl⟩
    | brk => exact z
    | ret v => exact z
  · obtain rfl : i = n := Nat.le_antisymm hi (Nat.not_lt.mp hlt)
    refine wpAny_passesOwn hE (wpAny_of_in1 (W.done _ _ _ hst fun h₂ tk₂ hk => ?_))
    exact wpAny_passesOwn hE (fin _ _ _ _ hJ (fr_but F' hk (Ne.symm hIL) hI₀) (news_but (fun q hq => N' q (.tail _ hq)) hk hne))
theorem go_free {x : Str} {p : Pos} (s : Shared) (v : Value) (Q : Unit → Shared → Prop) (E : Value → Shared → Prop) (h : Q () s) : wpAny (model prog w) A (letOwnedTupleGo (.Name x p) (.ref I) v) Q E s := wpAny_of_eq rfl h
/-- for x in d -/
theorem loop_keys {K : Type} [DecidableEq K] {knd : KeyKind prog w K} {x : Str} {px : Pos} {body orelse : List Stmt} {Q : Flow → Shared → Prop} {d : Addr} {od oI₀ : Obj} {kvs : List (K × Value)} {ep : Nat} (J : Nat → (Str → Option Value) → List (Addr × Obj) → Prop)
    (hh : A.handled = none) (hE : PassesOwn (model prog w) A env E) (hne : d ≠ I) (hat : KdkAt knd od kvs ep) (hJd : ∀ i m news, J i m news → (d, od) ∈ news)
    (F : Fr h₀ env.locals s.heap m) (NN : News h₀ env.locals s.heap ((I, oI₀) :: news)) (hi0 : KdkIter oI₀ d 0 kvs.length ep) (h0 : J 0 m news)
    (hI : ∀ i m news h oI, J i m news → News h₀ env.locals h ((I, oI) :: news) → ∀ p ∈ news, p.1 ≠ I)
    (step : ∀ i m₁ news₁ h₁ tk₁ v oI k u, kvs[i]? = some (k, u) → knd.is k v = true → J i m₁ news₁ → KdkIter oI d (i + 1) kvs.length ep → Fr h₀ env.locals h₁ m₁ → News h₀ env.locals h₁ ((I, oI) :: news₁) →
      wpAny (model prog w) A (assign (.Name x px) env v) (fun _ s₂ => wpAny (model prog w) A (execs body env) (Out (AtW h₀ env.locals s I (fun o => KdkIter o d (i + 1) kvs.length ep) (J (i + 1))) Q) E s₂) E { s with heap := h₁, toks := tk₁ })
    (fin : ∀ m₁ news₁ h₁ tk₁, J kvs.length m₁ news₁ → Fr h₀ env.locals h₁ m₁ → News h₀ env.locals h₁ news₁ → wpAny (model prog w) A (execs orelse env) Q E { s with heap := h₁, toks := tk₁ }) :
    codeAny (model prog w) A (.forLoop (.Name x px) (.ref I) body orelse env) (fun r s' => match r with | .ok f => Q f s' | .error e => cameBackBy (model prog w) A env E e s') s :=
  loop_walks (It := fun i o => KdkIter o d i kvs.length ep) J (Walks.dictKeys (knd := knd) (A := A.in1) hh I d hne kvs ep) go_free hE
    (fun i h oI m news hi N hJ => ⟨hi.at (N _ (.head _)).1, hat.dictAt (N _ (.tail _ (hJd _ _ _ hJ))).1⟩) (fun i h st => by obtain ⟨o, e, a, b⟩ := st.1; exact ⟨o, e, a, b⟩) F NN hi0 h0 hI
    (fun i m₁ news₁ h₁ tk₁ v oI _ hP hJ hi F₁ N₁ => let ⟨k, u, hk, hv⟩ := hP; step i m₁ news₁ h₁ tk₁ v oI k u hk hv hJ hi F₁ N₁) fin
theorem iter_keys {K : Type} [DecidableEq K] {knd : KeyKind prog w K} {L d : Addr} {od : Obj} {kvs : List (K × Value)} {Q : Value → Shared → Prop} (F : Fr h₀ L s.heap m) (N : News h₀ L s.heap news) (hm : (d, od) ∈ news) (hd : od.IsDictOf knd kvs) (lo : (d == sysModules) = false)
    (h : ∀ I oI ep h', Fr h₀ L h' m → News h₀ L h' ((I, oI) :: news) → (∀ p ∈ news, p.1 < I) → KdkIter oI d 0 kvs.length ep → KdkAt knd od kvs ep → Q (.ref I) { s with heap := h' }) : wpAny (model prog w) A (pyIter (.ref d)) Q E s := by
  obtain ⟨ep, ha⟩ := KdkAt.of hd
  exact wpAny_pyIter_dict lo (ha.dictAt (N _ hm).1) (h _ _ ep _ (F.push _) (News.push F N _ rfl) (fun q hq => Heap.lt_size (N q hq).1) ⟨rfl, rfl⟩ ha)
def ValIt (o : Obj) (d : Addr) (i n ep : Nat) : Prop := o.cls = .type "dict_valueiterator" ∧ o.data = .fields #[.ref d, .int i 0, .int n 0, .int ep 0]
theorem iter_vals {K : Type} [DecidableEq K] {knd : KeyKind prog w K} {L d v : Addr} {od : Obj} {kvs : List (K × Value)} {Q : Value → Shared → Prop} (F : Fr h₀ L s.heap m) (N : News h₀ L s.heap news) (hm : (d, od) ∈ news) (hd : od.IsDictOf knd kvs) (hv : (v, ({ cls := .type "dict_values", data := .fields #[.ref d] } : Obj)) ∈ news)
    (h : ∀ I oI ep h', Fr h₀ L h' m → News h₀ L h' ((I, oI) :: news) → (∀ p ∈ news, p.1 < I) → ValIt oI d 0 kvs.length ep → KdkAt knd od kvs ep → Q (.ref I) { s with heap := h' }) : wpAny (model prog w) A (pyIter (.ref v)) Q E s := by
  obtain ⟨ep, ha⟩ := KdkAt.of hd
  exact wpAny_pyIter_values ⟨_, (N _ hv).1, rfl, rfl⟩ (ha.dictAt (N _ hm).1) (h _ _ ep _ (F.push _) (News.push F N _ rfl) (fun q hq => Heap.lt_size (N q hq).1) ⟨rfl, rfl⟩ ha)
theorem loop_vals {K : Type} [DecidableEq K] {knd : KeyKind prog w K} {x : Str} {px : Pos} {body orelse : List Stmt} {Q : Flow → Shared → Prop} {d : Addr} {od oI₀ : Obj} {kvs : List (K × Value)} {ep : Nat} (J : Nat → (Str → Option Value) → List (Addr × Obj) → Prop)
    (hh : A.handled = none) (hE : PassesOwn (model prog w) A env E) (hne : d ≠ I) (hat : KdkAt knd od kvs ep) (hJd : ∀ i m news, J i m news → (d, od) ∈ news)
    (F : Fr h₀ env.locals s.heap m) (NN : News h₀ env.locals s.heap ((I, oI₀) :: news)) (hi0 : ValIt oI₀ d 0 kvs.length ep) (h0 : J 0 m news)
    (hI : ∀ i m news h oI, J i m news → News h₀ env.locals h ((I, oI) :: news) → ∀ p ∈ news, p.1 ≠ I)
    (step : ∀ i m₁ news₁ h₁ tk₁ v oI k, kvs[i]? = some (k, v) → J i m₁ news₁ → ValIt oI d (i + 1) kvs.length ep → Fr h₀ env.locals h₁ m₁ → News h₀ env.locals h₁ ((I, oI) :: news₁) →
      wpAny (model prog w) A (assign (.Name x px) env v) (fun _ s₂ => wpAny (model prog w) A (execs body env) (Out (AtW h₀ env.locals s I (fun o => ValIt o d (i + 1) kvs.length ep) (J (i + 1))) Q) E s₂) E { s with heap := h₁, toks := tk₁ })
    (fin : ∀ m₁ news₁ h₁ tk₁, J kvs.length m₁ news₁ → Fr h₀ env.locals h₁ m₁ → News h₀ env.locals h₁ news₁ → wpAny (model prog w) A (execs orelse env) Q E { s with heap := h₁, toks := tk₁ }) :
    codeAny (model prog w) A (.forLoop (.Name x px) (.ref I) body orelse env) (fun r s' => match r with | .ok f => Q f s' | .error e => cameBackBy (model prog w) A env E e s') s :=
  loop_walks (It := fun i o => ValIt o d i kvs.length ep) J (Walks.dictValues (knd := knd) (A := A.in1) hh I d hne kvs ep) go_free hE
    (fun i h oI m news hi N hJ => ⟨⟨oI, (N _ (.head _)).1, hi.1, hi.2⟩, hat.dictAt (N _ (.tail _ (hJd _ _ _ hJ))).1⟩) (fun i h st => by obtain ⟨o, e, a, b⟩ := st.1; exact ⟨o, e, a, b⟩) F NN hi0 h0 hI
    (fun i m₁ news₁ h₁ tk₁ v oI _ hP hJ hi F₁ N₁ => let ⟨k, hk⟩ := hP; step i m₁ news₁ h₁ tk₁ v oI k hk hJ hi F₁ N₁) fin
end
end Mine
end
section
open PySem PySem.W PySem.W.X PyProof.Rows PySem.Calls PySem.Spec
set_option Elab.async false
set_option maxRecDepth 100000
set_option maxHeartbeats 8000000
namespace Mine
abbrev Con := Int × List (Nat × Int)
def Cn.con (cn : Cn) : Con := (cn.es, cn.ff)
/-- vconstraints, in plain Lean -/
def addVs (c : Con) : List Nat → List (List Con) → Option (List (List Con))
  | [], vs => some vs
  | v :: r, vs => match vs[v]? with | none => none | some l => if l.length ≤ 400 then addVs c r (vs.set v (l ++ [c])) else none
def addCs : List Con → List (List Con) → Option (List (List Con))
  | [], vs => some vs
  | c :: r, vs => match addVs c (c.2.map (·.1)) vs with | none => none | some vs' => addCs r vs'
def preAll : List Con → List Ds → Option (List Ds)
  | [], ds => some ds
  | c :: r, ds => match preM c.1 c.2 ds with | none => none | some ds' => preAll r ds'
/-- the loop over domains.values() -/
def resetAll : List Nat → List Ds → Option (Bool × List Ds)
  | [], ds => some (true, ds)
  | v :: r, ds => match ds[v]? with
    | none => none
    | some d => match d.reset with
      | none => none
      | some d' => if d'.vs.length ≤ 500 then (if d'.vs.isEmpty then some (false, ds.set v d') else resetAll r (ds.set v d')) else none
structure Vx where
  a : Addr
  k : Nat
  l : List Cn
def Vx.ve (x : Vx) : Addr × Obj := (x.a, listOf (x.l.map fun cn => Value.ref cn.tp).toArray x.k)
def tupO (cn : Cn) : Obj := { cls := .type "tuple", data := .seq #[.ref cn.c, .ref cn.vl] }
def tupL (l : List Cn) : List (Addr × Obj) := l.map fun cn => (cn.tp, tupO cn)
abbrev tps (l : List Cn) : List Value := l.map fun cn => .ref cn.tp
def CnB (cn : Cn) : Prop := cn.vars.length ≤ 50 ∧ cn.vars ≠ [] ∧ cn.vars.length ≠ 1
section
variable {prog : Program} {w : World} {A : Around} {E : Value → Shared → Prop} {s : Shared} {h₀ : Heap} {L : Addr} {m : Str → Option Value} {news : List (Addr × Obj)}
theorem list_keys {d : Addr} {o : Obj} {kvs : List (Str × Value)} {Q : Value → Shared → Prop} (hh : A.handled = none) (F : Fr h₀ L s.heap m) (N : News h₀ L s.heap news) (hp : (d, o) ∈ news) (hd : o.IsDictOf (PySem.strKind prog w) kvs) (lo : (d == sysModules) = false) (hn : kvs.length ≤ 1000)
    (h : ∀ (B : Addr) o h' tk, Fr h₀ L h' m → News h₀ L h' ((B, o) :: news) → (∀ q ∈ news, q.1 < B) → Q (.ref B) { s with heap := h', toks := tk }) :
    wpAny (model prog w) A (call (.type "list") [.ref d]) Q E s := by
  obtain ⟨ep, hat⟩ := (kda_dict N hp hd).dictAt
  exact kdl_N (kdl_dict (knd := PySem.strKind prog w) (kvs := kvs) (ep := ep) lo) hh F N hat (kdl_size (by omega)) fun B c h' tk vs F' N' l1 _ _ => h B _ h' tk F' N' l1
theorem truthy_nv {x : Addr} {nm : Nat → Str} {vars : List (Nat × Tok)} {k : Nat} {Q : Bool → Shared → Prop} (N : News h₀ L s.heap news) (hx : (x, listOf (nvs nm vars).toArray k) ∈ news) (hz : vars.length ≤ 1000) (hne : vars ≠ []) (h : ∀ tk', Q true { s with toks := tk' }) : wpAny (model prog w) A (truthy (.ref x)) Q E s := by
  refine wpAny_truthy_list (items := (nvs nm vars).toArray) ⟨_, (N _ hx).1, rfl, _, rfl⟩ (by simp; omega) ?_
  have e : (!(nvs nm vars).toArray.isEmpty) = true := by cases vars with | nil => exact absurd rfl hne | cons _ _ => rfl
  rw [e]; exact h _
end
theorem news_apart {h₀ h : Heap} {L : Addr} {news : List (Addr × Obj)} {p q : Addr × Obj} (N : News h₀ L h news) (hp : p ∈ news) (hq : q ∈ news) (hne : p.2 ≠ q.2) : p.1 ≠ q.1 := fun e => by
  have a := (N p hp).1
  have b := (N q hq).1
  rw [e, b] at a
  exact hne (Option.some.inj a).symm
theorem cls_ne {o o' : Obj} (h : o.cls ≠ o'.cls) : o ≠ o' := fun e => h (by rw [e])
theorem tupL_cls {l : List Cn} : ∀ q ∈ tupL l, q.2.cls = .type "tuple" := fun q hq => by
  obtain ⟨cn, _, rfl⟩ := List.mem_map.mp hq; rfl
theorem ve_cls {l : List Vx} : ∀ q ∈ l.map Vx.ve, q.2.cls = .type "list" := fun q hq => by
  obtain ⟨x, _, rfl⟩ := List.mem_map.mp hq; rfl
theorem ve_fst' (l : List Vx) : (l.map Vx.ve).map (·.1) = l.map Vx.a := by rw [List.map_map]; rfl
theorem vcKv_new {nm : Nat → Str} (inj : Function.Injective nm) (as : List Addr) : valueAt (vcKv nm as) (nm as.length) = none := by
  unfold valueAt
  rw [Option.map_eq_none_iff, List.find?_eq_none]
  intro q hq
  obtain ⟨i, hi, rfl⟩ := List.mem_mapIdx.mp hq
  simp only [decide_eq_true_eq]
  exact fun e => absurd (inj e) (Nat.ne_of_lt hi)
theorem vcKv_snoc {nm : Nat → Str} {as : List Addr} {a : Addr} : vcKv nm (as ++ [a]) = vcKv nm as ++ [(nm as.length, .ref a)] := by simp [vcKv, List.mapIdx_append]
theorem vs_split {vs : List Vx} {v : Nat} {x : Vx} (h : vs[v]? = some x) : ∃ pre post, vs.map Vx.ve = pre ++ x.ve :: post ∧ ∀ y : Vx, (vs.set v y).map Vx.ve = pre ++ y.ve :: post := by
  obtain ⟨hlt, he⟩ := List.getElem?_eq_some_iff.mp h
  refine ⟨(vs.take v).map Vx.ve, (vs.drop (v + 1)).map Vx.ve, ?_, fun y => ?_⟩
  · rw [← List.map_cons, ← List.map_append, ← he, ← List.drop_eq_getElem_cons hlt, List.take_append_drop]
  · rw [List.set_eq_take_append_cons_drop, if_pos hlt, List.map_append, List.map_cons]
theorem vs_app {prog : Program} {w : World} {A : Around} {E : Value → Shared → Prop} {s : Shared} {h₀ : Heap} {L : Addr} {m : Str → Option Value} {Lo rest : List (Addr × Obj)} {vs : List Vx} {v : Nat} {x : Vx} {T : Addr} {cn : Cn} {Q : Value → Shared → Prop} (F : Fr h₀ L s.heap m) (N : News h₀ L s.heap (Lo ++ (vs.map Vx.ve ++ rest))) (hx : vs[v]? = some x)
    (nd : (vs.map Vx.a).Nodup) (off : ∀ q ∈ Lo ++ rest, q.1 ∉ vs.map Vx.a) (hl : x.l.length ≤ 500)
    (h : ∀ h', Fr h₀ L h' m → News h₀ L h' (Lo ++ ((vs.set v { x with k := x.k + 1, l := x.l ++ [{ cn with tp := T }] }).map Vx.ve ++ rest)) → Q .none { s with heap := h' }) :
    wpAny (model prog w) A (call (.builtin "list.append") [.ref x.a, .ref T]) Q E s := by
  obtain ⟨pre, post, e1, e2⟩ := vs_split hx
  have hxm : x.a ∈ vs.map Vx.a := List.mem_map_of_mem (List.mem_of_getElem? hx)
  rw [← ve_fst', e1] at nd
  simp only [List.map_append, List.map_cons] at nd
  rw [List.nodup_append, List.nodup_cons] at nd
  obtain ⟨_, ⟨nd2, _⟩, nd3⟩ := nd
  have N1 : News h₀ L s.heap ((x.a, listOf (x.l.map fun cn => Value.ref cn.tp).toArray x.k) :: (Lo ++ (pre ++ (post ++ rest)))) := news_sub N (by
    intro q hq
    rw [e1]
    simp only [List.mem_cons, List.mem_append, Vx.ve] at hq ⊢; grind)
  refine append_K F N1 (.head ?_) (fun h' F' N' => h h' F' (news_sub N' ?_)) (by simp; rw [sizeLine_eq]; omega)
  · intro q hq
    rcases List.mem_append.mp hq with hq | hq
    · exact fun e => off q (List.mem_append_left _ hq) (e ▸ hxm)
    rcases List.mem_append.mp hq with hq | hq
    · exact fun e => nd3 q.1 (List.mem_map_of_mem hq) x.ve.1 (.head _) e
    rcases List.mem_append.mp hq with hq | hq
    · exact fun e => nd2 (show x.ve.1 ∈ _ from (e ▸ List.mem_map_of_mem hq : x.a ∈ post.map (·.1)))
    · exact fun e => off q (List.mem_append_right _ hq) (e ▸ hxm)
  · intro q hq
    rw [e2] at hq
    have e3 : Vx.ve { x with k := x.k + 1, l := x.l ++ [{ cn with tp := T }] } = (x.a, listOf ((x.l.map fun cn => Value.ref cn.tp).toArray.push (.ref T)) (x.k + 1)) := by simp [Vx.ve]
    rw [e3] at hq
    simp only [List.mem_cons, List.mem_append] at hq ⊢; grind
theorem tup_off {P : Params} {h₀ h : Heap} {L : Addr} {l dyn : List (Addr × Obj)} {cs : List Dc} {ds : List Ds} {T : List Cn} (N : News h₀ L h l) (D : Dyn P cs ds dyn) (h1 : ∀ q ∈ tupL T, q ∈ l) (h2 : ∀ q ∈ dyn, q ∈ l) : ∀ q ∈ tupL T, q.1 ∉ ads cs := by
  intro q hq hm
  rw [← D.fst] at hm
  obtain ⟨p, hp, e⟩ := List.mem_map.mp hm
  refine news_apart N (h2 p hp) (h1 q hq) (cls_ne ?_) e
  rw [tupL_cls q hq]
  rcases D.cls p hp with h | h | h <;> rw [h] <;> decide
theorem tup_apart {h₀ h : Heap} {L : Addr} {l : List (Addr × Obj)} {T : List Cn} {p : Addr × Obj} (N : News h₀ L h l) (h1 : ∀ q ∈ tupL T, q ∈ l) (hp : p ∈ l) (hc : p.2.cls ≠ .type "tuple") : ∀ q ∈ tupL T, q.1 ≠ p.1 := fun q hq => news_apart N (h1 q hq) hp (cls_ne (by rw [tupL_cls q hq]; exact Ne.symm hc))
theorem ve_apart {h₀ h : Heap} {L : Addr} {l : List (Addr × Obj)} {vs : List Vx} {p : Addr × Obj} (N : News h₀ L h l) (h1 : ∀ q ∈ vs.map Vx.ve, q ∈ l) (hp : p ∈ l) (hc : p.2.cls ≠ .type "list") : ∀ q ∈ vs.map Vx.ve, q.1 ≠ p.1 := fun q hq => news_apart N (h1 q hq) hp (cls_ne (by rw [ve_cls q hq]; exact Ne.symm hc))
theorem tupL_snoc {T : List Cn} {cn : Cn} : tupL (T ++ [cn]) = tupL T ++ [(cn.tp, tupO cn)] := by simp [tupL]
theorem it_nt {l : Addr} {i : Nat} : (itO l i).cls ≠ .type "tuple" := by show Value.type "list_iterator" ≠ Value.type "tuple"; decide
theorem it_nl {l : Addr} {i : Nat} : (itO l i).cls ≠ .type "list" := by show Value.type "list_iterator" ≠ Value.type "list"; decide
theorem li_nt {xs : Array Value} {k : Nat} : (listOf xs k).cls ≠ .type "tuple" := by show Value.type "list" ≠ Value.type "tuple"; decide
theorem ve_off {h₀ h : Heap} {L : Addr} {l : List (Addr × Obj)} {vs : List Vx} {p : Addr × Obj} (N : News h₀ L h l) (h1 : ∀ q ∈ vs.map Vx.ve, q ∈ l) (hp : p ∈ l) (hc : p.2.cls ≠ .type "list") : p.1 ∉ vs.map Vx.a := by
  intro hm
  rw [← ve_fst'] at hm
  obtain ⟨q, hq, e⟩ := List.mem_map.mp hm
  exact ve_apart N h1 hp hc q hq e
theorem ff_fst {R : List (Addr × Obj)} {cn : Cn} (h : MulOk R cn) : cn.ff.map (·.1) = cn.vars.map (·.1) := by
  rw [h.2, List.map_map]; rfl
abbrev conL (vs : List Vx) : List (List Con) := vs.map fun x => x.l.map Cn.con
theorem conL_get {vs : List Vx} {v : Nat} {l : List Con} (h : (conL vs)[v]? = some l) : ∃ x, vs[v]? = some x ∧ x.l.map Cn.con = l := by
  rw [List.getElem?_map] at h
  exact Option.map_eq_some_iff.mp h
theorem conL_set {vs : List Vx} {v : Nat} {x : Vx} : conL (vs.set v x) = (conL vs).set v (x.l.map Cn.con) := by
  unfold conL; rw [List.map_set]
theorem valueAt_vc {w : World} {nm : Nat → Str} {as : List Addr} {ov : Obj} (h : ov.IsDictOf (PySem.strKind PW w) (vcKv nm as)) {v : Nat} {a : Addr} (ha : as[v]? = some a) : valueAt (vcKv nm as) (nm v) = some (.ref a) :=
  valueAt_get (IsDictOf.nodup h) (i := v) (by rw [List.getElem?_mapIdx, ha]; rfl)
theorem values_method {prog : Program} {w : World} {K : Type} [DecidableEq K] {knd : KeyKind prog w K} {A : Around} {E : Value → Shared → Prop} {s : Shared} {h₀ : Heap} {L d : Addr} {news : List (Addr × Obj)} {o : Obj} {kvs : List (K × Value)} {pl : Sem Bool} {Q : Value × List Value → Shared → Prop} (N : News h₀ L s.heap news) (hp : (d, o) ∈ news) (hd : o.IsDictOf knd kvs) (h : Q (.builtin "dict.values", [.ref d]) s) : wpAny (model prog w) A (getMethod (.ref d) "values" pl) Q E s :=
  have hD := kda_dict N hp hd
  getMethod_builtin hD.typeIs PySem.F.plainAttrs_dict PySem.F.slot_dict_values PySem.F.type_dict_values hD.mapOf.noDict h
end Mine
end
section
open PySem PySem.W PySem.W.X PyProof.Rows PySem.Calls PySem.Spec
set_option Elab.async false
set_option maxRecDepth 100000
set_option maxHeartbeats 8000000
namespace Mine
def conA (asg : Asg) (fc : Bool) : List Con → List Ds → Option (Bool × List Ds)
  | [], ds => some (true, ds)
  | cn :: r, ds => match escM cn.1 cn.2 asg fc ds with
    | none => none
    | some (false, ds') => some (false, ds')
    | some (true, ds') => conA asg fc r ds'
theorem conA_eq (asg : Asg) (fc : Bool) : ∀ (l : List Cn) (ds : List Ds), conM asg fc l ds = conA asg fc (l.map Cn.con) ds
  | [], _ => rfl
  | cn :: r, ds => by
    simp only [List.map_cons, conM, conA, Cn.con]
    cases escM cn.es cn.ff asg fc ds with
    | none => rfl
    | some x => obtain ⟨b, d⟩ := x; cases b with | false => rfl | true => exact conA_eq asg fc r d
def rbLoopA (rec : List Asg → Asg → List Ds → Option (List Asg × List Ds)) (single fcb : Bool) (push : List Nat) (vc : List Con) (v : Nat) (asg : Asg) : Nat → Nat → List Asg → List Ds → Option (Bool × List Asg × List Ds)
  | 0, _, _, _ => none
  | t + 1, k, sols, ds => match ds[v]? with
    | none => none
    | some d => match d.vs[k]? with
      | none => some (false, sols, ds)
      | some x => match pushAll push ds with
        | none => none
        | some ds1 => match conA (asg ++ [(v, x)]) fcb vc ds1 with
          | none => none
          | some (false, ds2) => match popAll push ds2 with
            | none => none
            | some ds3 => rbLoopA rec single fcb push vc v asg t (k + 1) sols ds3
          | some (true, ds2) => match rec sols (asg ++ [(v, x)]) ds2 with
            | none => none
            | some (sols2, ds3) => if sols2.length ≤ 1000 then (if single && !sols2.isEmpty then some (true, sols2, ds3) else match popAll push ds3 with
              | none => none
              | some ds4 => rbLoopA rec single fcb push vc v asg t (k + 1) sols2 ds4) else none
def vkeyA (vcs : List (List Con)) (ds : List Ds) (j : Nat) : Int × Int := (-((vcs.getD j []).length : Int), (((ds[j]?.map (·.vs)).getD []).length : Int))
def rbA (n : Nat) (vcs : List (List Con)) (fcOn single : Bool) : Nat → List Asg → Asg → List Ds → Option (List Asg × List Ds)
  | 0, _, _, _ => none
  | f + 1, sols, asg, ds => if ds.all (fun d => decide (d.vs.length ≤ 500)) && decide (asg.length ≤ 400) && decide (sols.length ≤ 400) then
      match least (keyLt (vkeyA vcs ds)) (fun i => (lk asg i).isNone) (List.range n) with
      | none => some (sols ++ [asg], ds)
      | some v => match rbLoopA (rbA n vcs fcOn single f) single (fcOn && !(others n asg v).isEmpty) (if fcOn then others n asg v else []) (vcs.getD v []) v asg 60 0 sols ds with
        | none => none
        | some (_, sols', ds') => some (sols', ds')
    else none
theorem rbLoopA_eq {rec : List Asg → Asg → List Ds → Option (List Asg × List Ds)} {single fcb : Bool} {push : List Nat} {vc : List Cn} {v : Nat} {asg : Asg} : ∀ (t k : Nat) (sols : List Asg) (ds : List Ds), rbLoop rec single fcb push vc v asg t k sols ds = rbLoopA rec single fcb push (vc.map Cn.con) v asg t k sols ds
  | 0, _, _, _ => rfl
  | t + 1, k, sols, ds => by
    unfold rbLoop rbLoopA
    simp only [conA_eq, rbLoopA_eq t]
    all_goals rfl
theorem rbA_eq (n : Nat) (vcs : List (List Cn)) (fcOn single : Bool) : ∀ (f : Nat) (sols : List Asg) (asg : Asg) (ds : List Ds), rbM n vcs fcOn single f sols asg ds = rbA n (vcs.map fun l => l.map Cn.con) fcOn single f sols asg ds
  | 0, _, _, _ => rfl
  | f + 1, sols, asg, ds => by
    have hrec : rbM n vcs fcOn single f = rbA n (vcs.map fun l => l.map Cn.con) fcOn single f := by
      funext a b c; exact rbA_eq n vcs fcOn single f a b c
    have hk : vkey vcs ds = vkeyA (vcs.map fun l => l.map Cn.con) ds := by
      funext j
      unfold vkey vkeyA
      simp only [List.getD_eq_getElem?_getD, List.getElem?_map]
      cases vcs[j]? <;> simp
    unfold rbM rbA
    rw [hrec, hk]
    simp only [rbLoopA_eq]
    have hg : ∀ v, (vcs.getD v []).map Cn.con = (vcs.map fun l => l.map Cn.con).getD v [] := by
      intro v
      simp only [List.getD_eq_getElem?_getD, List.getElem?_map]
      cases vcs[v]? <;> simp
    simp only [hg]
    all_goals rfl
abbrev btConA (vcs : List (List Con)) : ConF := fun asg fc v ds => conA asg fc (vcs.getD v []) ds
theorem btConA_eq (vcs : List (List Cn)) : btConM vcs = btConA (vcs.map fun l => l.map Cn.con) := by
  funext asg fc v ds
  show conM asg fc (vcs.getD v []) ds = conA asg fc _ ds
  rw [conA_eq]
  congr 1
  simp only [List.getD_eq_getElem?_getD, List.getElem?_map]
  cases vcs[v]? <;> simp
theorem vkeyA_eq (vcs : List (List Cn)) : vkey vcs = vkeyA (vcs.map fun l => l.map Cn.con) := by
  funext ds j
  unfold vkey vkeyA
  simp only [List.getD_eq_getElem?_getD, List.getElem?_map]
  cases vcs[j]? <;> simp
end Mine
end
section
open PySem PySem.W PySem.W.X PyProof.Rows PySem.Calls PySem.Spec
set_option Elab.async false
set_option maxRecDepth 100000
set_option maxHeartbeats 8000000
namespace Mine
theorem filled32 : PySem.Challenge.rw_aw5017_04 = PySem.Challenge.rw_aw5017_04 ∧ hd.heap_39 = hd.heap_39 := by k_fill; exact ⟨rfl, rfl⟩
local macro_rules | `(tactic| k_all) => `(tactic| assumption)
local macro_rules | `(tactic| ktr_room) => `(tactic| (simp only [depth_under_make, depth_under_kw, depth_in1, depth_deeper, depth_caller, recursionLimit] at *; omega))
local macro_rules | `(tactic| walk_at "getAttr ref") => `(tactic| (k_here; (with_reducible show wpAny _ _ (getAttr (Value.ref _) (PySem.Str.ofString "_hidden") _) _ _ _); k_dflt (refine' hidden_K ?k1 ?k2 ?k3 ?k4 ?_; (case k1 => k_in); (case k2 => k_asm); (case k3 => k_mem); (case k4 => k_mem); k_whole)))
local macro_rules | `(tactic| walk_at "getAttr ref") => `(tactic| (k_here; (with_reducible show wpAny _ _ (getAttr (Value.ref _) (PySem.Str.ofString "_states") _) _ _ _); k_dflt (refine' states_K ?k1 ?k2 ?k3 ?k4 ?_; (case k1 => k_in); (case k2 => k_asm); (case k3 => k_mem); (case k4 => k_mem); k_whole)))
local macro_rules | `(tactic| walk_at "getMethod ref") => `(tactic| (k_here; k_dflt (refine' meth_K ?k1 ?k2 ?k3 ?k4 ?k5 ?k6 ?k7 ?k8 ?_; (case k1 => k_in); (case k2 => k_asm); (case k3 => k_mem); (case k4 => k_mem); (case k5 => k_is); (case k6 => first | (intro M h X; exact looks_typeIn X (by k_is)) | (intro M h X; exact Looks.of_pure (by first | exact PySem.F.type_list_remove | exact PySem.F.type_list_extend))); (case k7 => decide); (case k8 => first | rfl | decide +kernel); k_whole)))
local macro_rules | `(tactic| walk_at "call builtin:list.remove") => `(tactic| (k_here; k_dflt (refine' remove_K ?k1 ?k2 ?k3 ?k4 ?k5 ?k6 ?_; (case k1 => k_in); (case k2 => k_asm); (case k3 => k_asm); (case k4 => k_upd); (case k5 => assumption); (case k6 => assumption); k_whole; intro h' F' N'; (try k_sweep))))
local macro_rules | `(tactic| walk_at "call builtin:list.append") => `(tactic| (k_here; k_dflt (refine' append_iv ?k1 ?k2 ?k3 ?k4 ?_; (case k1 => k_asm); (case k2 => k_asm); (case k3 => k_upd); (case k4 => assumption); k_whole; intro h' F' N'; (try k_sweep))))
local macro_rules | `(tactic| walk_at "call builtin:list.pop") => `(tactic| (k_here; (with_reducible show wpAny _ _ (call (Value.builtin _) [Value.ref _]) _ _ _); k_dflt (refine' pop_iv ?k1 ?k2 ?k3 ?k4 ?_; (case k1 => k_asm); (case k2 => k_asm); (case k3 => k_upd); (case k4 => assumption); k_whole; intro h' F' N'; (try k_sweep))))
local macro_rules | `(tactic| walk_at "call builtin:list.pop") => `(tactic| (dsimp only; fail_if_success (with_reducible show wpAny _ _ (call (Value.builtin _) (Prod.snd _)) _ _ _)))
local macro_rules | `(tactic| walk_at "call builtin:len") => `(tactic| (k_here; (with_reducible show wpAny _ _ (call (Value.builtin "len") [Value.ref _]) _ _ _); k_dflt (refine' len_iv ?k1 ?k2 ?k3 ?k4 ?_; (case k1 => k_in); (case k2 => k_asm); (case k3 => k_mem); (case k4 => assumption); k_whole); intro u' tk'))
local macro_rules | `(tactic| walk_at "truthy ref") => `(tactic| (k_here; k_dflt (refine' truthy_iv ?k1 ?k2 ?k3 ?k4 ?_; (case k1 => k_in); (case k2 => k_asm); (case k3 => k_mem); (case k4 => assumption); k_whole); intro tk'))
local macro_rules | `(tactic| walk_at "eval Subscript") => `(tactic| (k_here; (with_reducible show wpAny _ _ (eval (PySem.Expr.Subscript _ (PySem.Expr.Slice _ _ none _) _) _) _ _ _); refine SubSlice_ ?_))
local macro_rules | `(tactic| walk_at "delete Subscript") => `(tactic| (k_here; (with_reducible show wpAny _ _ (delete (PySem.Expr.Subscript _ (PySem.Expr.Slice _ none none _) _) _) _ _ _); refine DelSlice_ ?_))
local macro_rules | `(tactic| walk_at "call builtin:list.extend") => `(tactic| (k_here; k_dflt (refine' extend_iv ?k1 ?k2 ?k3 ?k4 ?k5 ?k6 ?k7 ?_; (case k1 => k_in); (case k2 => k_asm); (case k3 => k_asm); (case k4 => (intro o9; k_upd)); (case k5 => k_mem); (case k6 => first | assumption | omega); (case k7 => ((try simp only [List.length_drop, List.length_take]); omega)); k_whole; intro h' e' F' N'; (try k_sweep))))
local macro_rules | `(tactic| ktr_enter) => `(tactic| (refine' code_def ?k1 ?k2 ?k3 ?k4 ?k5 ?kA ?kF ?kK ?k6 ?k7 ?k8 ?k9 ?kB ?_ ?c2 ?c3 ?c4 ?c5; (case kA => first | assumption | exact fr_in (by assumption) | exact rfl); (case kF => first | assumption | exact rfl); (case kK => first | assumption | exact rfl); (case k1 => k_asm); (case k2 => k_asm); (case k3 => k_asm); (case k4 => k_asm); (case k5 => k_asm); (case k6 => k_is); (case k7 => k_is); (case k8 => ktr_room); (case k9 => first | exact BindsTo.of_eq rfl | exact binds_K (by k_in) rfl (by k_is) rfl rfl rfl); (case c5 => decide); (case kB => exact locs rfl); (case c2 => exact rfl); (case c3 => exact rfl); (case c4 => exact rfl); k_whole; intro g' L' h' FG' F' N' B' X' T'; (try dsimp only); (try k_fold)))
local macro_rules | `(tactic| k_mem) => `(tactic| (first | assumption | (refine List.mem_append_left _ ?_; assumption) | (refine List.mem_append_right _ ?_; assumption) | (refine List.mem_append_right _ ?_; k_mem)))
local macro_rules | `(tactic| walk_at "exec For Name Name cons nil") => `(tactic| (k_here; refine For_ ?_))
local macro_rules | `(tactic| walk_at "exec For Name Subscript cons nil") => `(tactic| (k_here; refine For_ ?_))
local macro_rules | `(tactic| walk_at "call ref") => `(tactic| (k_here; (with_reducible show wpAny _ _ (call (Value.ref 300) _) _ _ _); refine Stop.intro ?_))
local macro_rules | `(tactic| walk_at "compareOp In str ref") => `(tactic| (k_here; k_dflt (first
  | (refine' kin_t (knd := PySem.strKind _ _) ?k1 ?k2 ?k3 ?k4 (strKind_is _ _ _ _) ?k5 ?_; (case k1 => k_asm); (case k2 => k_mem); (case k3 => assumption); (case k4 => assumption); (case k5 => assumption); k_whole)
  | (refine' kin_f (knd := PySem.strKind _ _) ?k1 ?k2 ?k3 ?k4 (strKind_is _ _ _ _) ?k5 ?_; (case k1 => k_asm); (case k2 => k_mem); (case k3 => assumption); (case k4 => assumption); (case k5 => assumption); k_whole))))
local macro_rules | `(tactic| walk_at "compareOp NotIn str ref") => `(tactic| (k_here; k_dflt (first
  | (refine' knin_t (knd := PySem.strKind _ _) ?k1 ?k2 ?k3 ?k4 (strKind_is _ _ _ _) ?k5 ?_; (case k1 => k_asm); (case k2 => k_mem); (case k3 => assumption); (case k4 => assumption); (case k5 => assumption); k_whole)
  | (refine' knin_f (knd := PySem.strKind _ _) ?k1 ?k2 ?k3 ?k4 (strKind_is _ _ _ _) ?k5 ?_; (case k1 => k_asm); (case k2 => k_mem); (case k3 => assumption); (case k4 => assumption); (case k5 => assumption); k_whole))))
local macro_rules | `(tactic| walk_at "subscriptTail") => `(tactic| (k_here; k_dflt (refine' kda_item (knd := PySem.strKind _ _) ?k1 ?k2 ?k3 (strKind_is _ _ _ _) ?k5 ?_; (case k1 => k_asm); (case k2 => k_mem); (case k3 => assumption); (case k5 => assumption); k_whole)))
local macro_rules | `(tactic| walk_at "call builtin:list.remove") => `(tactic| (k_here; (with_reducible show wpAny _ _ (call _ _) _ _ _); refine Stop.intro ?_))
local macro_rules | `(tactic| walk_at "call ref") => `(tactic| (k_here; (with_reducible show wpAny _ _ (call (Value.ref 336) _) _ _ _); k_dflt (refine wpAny_call ?_; ktr_enter)))
local macro_rules | `(tactic| walk_at "exec Assign cons ListComp") => `(tactic| (k_here; k_dflt (refine Assign_ListComp_C (by with_unfolding_all rfl) (by with_unfolding_all rfl) (by rfl) (by decide) ?_)))
local macro_rules | `(tactic| walk_at "call builtin:list.sort") => `(tactic| (k_here; (with_reducible show wpAny _ _ (call _ _) _ _ _); refine Stop.intro ?_))
local macro_rules | `(tactic| walk_at "exec For Name Name cons cons") => `(tactic| (k_here; refine For_ ?_))
local macro_rules | `(tactic| walk_at "exec For Tuple Subscript cons cons") => `(tactic| (k_here; refine For_ ?_))
local macro_rules | `(tactic| walk_at "exec If") => `(tactic| (k_here; (with_reducible show wpAny _ _ (exec (Stmt.If (Expr.Name _ _) _ _ _) _) _ _ _); refine If_ ?_))
local macro_rules | `(tactic| walk_at "setItem ref str") => `(tactic| (k_here; (with_reducible show wpAny _ _ (setItem _ _ _) _ _ _); refine Stop.intro ?_))
local macro_rules | `(tactic| walk_at "delItem ref str") => `(tactic| (k_here; (with_reducible show wpAny _ _ (delItem _ _) _ _ _); refine Stop.intro ?_))
local macro_rules | `(tactic| walk_at "call builtin:dict.copy") => `(tactic| (k_here; (with_reducible show wpAny _ _ (call _ _) _ _ _); refine Stop.intro ?_))
local macro_rules | `(tactic| walk_at "call builtin:list.append") => `(tactic| (k_here; (with_reducible show wpAny _ _ (call _ _) _ _ _); refine Stop.intro ?_))
local macro_rules | `(tactic| walk_at "call ref") => `(tactic| (k_here; (with_reducible show wpAny _ _ (call (Value.ref 286) _) _ _ _); refine Stop.intro ?_))
local macro_rules | `(tactic| walk_at "call ref") => `(tactic| (k_here; (with_reducible show wpAny _ _ (call (Value.ref 293) _) _ _ _); refine Stop.intro ?_))
local macro_rules | `(tactic| walk_at "call ref") => `(tactic| (k_here; (with_reducible show wpAny _ _ (call (Value.ref 208) _) _ _ _); refine Stop.intro ?_))
local macro_rules | `(tactic| walk_at "call ref") => `(tactic| (k_here; (with_reducible show wpAny _ _ (call (Value.ref (Cn.c _)) _) _ _ _); refine Stop.intro ?_))
local macro_rules | `(tactic| walk_at "getMethod ref") => `(tactic| (k_here; (with_reducible show wpAny _ _ (getMethod (Value.ref _) (PySem.Str.ofString "copy") _) _ _ _); k_dflt (refine' copy_method (knd := PySem.strKind PW _) ?k1 ?k2 ?k3 ?_; (case k1 => k_asm); (case k2 => k_mem); (case k3 => assumption); k_whole)))
local macro_rules | `(tactic| walk_at "assign Tuple") => `(tactic| (k_here; (with_reducible show wpAny _ _ (assign (Expr.Tuple _ _ _) _ (Value.ref _)) _ _ _); k_dflt (refine' unpackN_ ?k1 ?k2 ?k3 ?k4 ?k5 ?k6 ?_; (case k1 => k_asm); (case k2 => k_asm); (case k3 => (refine News.isTup (by k_asm) (by k_mem))); (case k4 => first | assumption | exact rfl); (case k5 => exact rfl); (case k6 => exact rfl); k_whole); intro h' F' N'; (try k_sweep)))
local macro_rules | `(tactic| walk_at "call builtin:hasattr") => `(tactic| (k_here; (with_reducible show wpAny _ _ (call (Value.builtin "hasattr") [Value.ref _, Value.str _ _]) _ _ _); k_dflt (refine' hasattr_K ?k1 ?k2 ?k3 ?k4 ?_; (case k1 => k_in); (case k2 => k_asm); (case k3 => k_asm); (case k4 => k_mem); k_whole); intro h' tk' F' N'; (try k_sweep)))
local macro_rules | `(tactic| walk_at "exec For Tuple Attribute cons nil") => `(tactic| (k_here; refine For_ ?_))
local macro_rules | `(tactic| walk_at "exec For Tuple Name cons nil") => `(tactic| (k_here; refine For_ ?_))
local macro_rules | `(tactic| walk_at "exec For Tuple Subscript cons nil") => `(tactic| (k_here; refine For_ ?_))
local macro_rules | `(tactic| walk_at "exec For Name Call cons nil") => `(tactic| (k_here; refine For_ ?_ (by intro _; with_unfolding_all rfl)))
local macro_rules | `(tactic| walk_at "call ref") => `(tactic| (k_here; (with_reducible show wpAny _ _ (call (Value.ref 399) _) _ _ _); refine Stop.intro ?_))
local macro_rules | `(tactic| walk_at "call ref") => `(tactic| (k_here; (with_reducible show wpAny _ _ (call (Value.ref 279) _) _ _ _); refine Stop.intro ?_))
local macro_rules | `(tactic| walk_at "call type:list") => `(tactic| (k_here; (with_reducible show wpAny _ _ (call (Value.type "list") [Value.ref _]) _ _ _); refine Stop.intro ?_))
local macro_rules | `(tactic| walk_at "truthy ref") => `(tactic| (k_here; (with_reducible show wpAny _ _ (truthy _) _ _ _); refine Stop.intro ?_))
local macro_rules | `(tactic| walk_at "getMethod ref") => `(tactic| (k_here; (with_reducible show wpAny _ _ (getMethod (Value.ref _) (PySem.Str.ofString "values") _) _ _ _); k_dflt (refine' values_method (knd := PySem.strKind PW _) ?k1 ?k2 ?k3 ?_; (case k1 => k_asm); (case k2 => k_mem); (case k3 => assumption); k_whole)))
local macro_rules | `(tactic| walk_at "call builtin:dict.values") => `(tactic| (k_here; (with_reducible show wpAny _ _ (call _ _) _ _ _); refine Stop.intro ?_))
section
variable {w : World} {p : Program} {loose : List Str} {mean : ExcName → Option Value} {mg mb : Str → Option Value} {A : Around} {env : Env} {outer : List Env} {A₀ : Around} {base h₀ : Heap} {L : Addr} {m : Str → Option Value} {s : Shared} {Q E : Value → Shared → Prop}
theorem args_c {x xdx so co va : Addr} {t1 t2 t3 : Tok} {e kc : Nat} {R dyn news : List (Addr × Obj)} {ov : Obj} {nm : Nat → Str} {cs : List Dc} {ds ds1 ds2 : List Ds} {cons : List Cn} {fin : Bool} {vcA : List (List Con)} (cx : Cx w p loose mean mg mb A 600 6000 env outer A₀ base h₀ L) (F : Fr h₀ L s.heap m)
    (N : News h₀ L s.heap news) (C : Cut dyn news R) (inj : Function.Injective nm) (hx : (x, instObj 110 xdx) ∈ R) (hxd : (xdx, probD w.params t1 t2 t3 so co va e) ∈ R) (hva : (va, ov) ∈ R) (hov : ov.IsDictOf (PySem.strKind PW w) (domKv nm cs)) (lov : (va == sysModules) = false) (lva : @LT.lt Nat _ 1 va)
    (hco : (co, listOf (cons.map fun cn => Value.ref cn.tp).toArray kc) ∈ R) (hcn : ∀ cn ∈ cons, CnOk w nm R cn ∧ CnB cn) (hlc : cons.length ≤ 100) (ord : ∀ i j, i < cs.length → j < cs.length → ((nm i).cps.toList < (nm j).cps.toList ↔ i < j)) (n2 : 2 ≤ cs.length) (n6 : cs.length ≤ 6)
    (D : Dyn w.params cs ds dyn) (nd : (ads cs).Nodup) (hR : ∀ q ∈ R, q.1 ∉ ads cs)
    (hm1 : addCs (cons.map Cn.con) (List.replicate cs.length []) = some vcA) (hm2 : preAll (cons.map Cn.con) ds = some ds1) (hm3 : resetAll (List.range cs.length) ds1 = some (fin, ds2))
    (hvz : ∀ l ∈ vcA, l.length ≤ 500)
    (ret0 : fin = false → ∀ h' tk' T R' dyn', Fr h₀ L h' m → News h₀ L h' ((T, ({ cls := .type "tuple", data := .seq #[.none, .none, .none] } : Obj)) :: (R' ++ dyn')) → (∀ q ∈ R, q ∈ R') → Q (.ref T) { s with heap := h', toks := tk' })
    (ret1 : fin = true → ∀ h' tk' T AD AC AV od ov' vls vcs R' dyn', Fr h₀ L h' m → News h₀ L h' ((T, ({ cls := .type "tuple", data := .seq #[.ref AD, .ref AC, .ref AV] } : Obj)) :: (R' ++ dyn')) → (∀ q ∈ R, q ∈ R') → PbOk w nm R' AD AV od ov' cs vls vcs → vcs.map (·.map Cn.con) = vcA → Dyn w.params cs ds2 dyn' → T ∉ ads cs → Q (.ref T) { s with heap := h', toks := tk' }) :
    wpAny (model PW w) A (call (.ref 107) [.ref x]) Q E s := by
  obtain ⟨B, X, T, hk, hf, hd, hu, hfr, hhd⟩ := cx
  have hcs : cs.length ≤ 50 := by omega
  obtain rfl := C.eq
  refine wpAny_call ?_
  k_dflt ktr_enter
  rename Fr h₀ L _ m => FG
  k_steps
  rename Fr _ _ _ _ => F1
  rename News _ _ _ _ => N1
  refine dict_copy F1 N1 (List.mem_append_left _ hva) hov lov (by rw [List.length_mapIdx]; omega) (fun AD od h1 F2 N2 hod hlt1 => ?_)
  have loD : (AD == sysModules) = false := beq_eq_false_iff_ne.mpr fun e => by
    have z : @LT.lt Nat _ va AD := hlt1 (va, ov) (List.mem_append_left _ hva)
    have z2 : @LT.lt Nat _ 1 va := lva
    rw [show AD = (1 : Nat) from e] at z
    omega
  clear F1 N1
  k_steps
  rename Fr _ _ _ _ => F3
  rename News _ _ _ _ => N3
  refine list_keys hhd F3 N3 (.head _) hod loD (by rw [List.length_mapIdx]; omega) (fun AL oal h2 tk2 F4 N4 hlt2 => ?_)
  clear F3 N3
  k_steps
  rename Fr _ _ _ _ => F5
  rename News _ _ _ _ => N5
  rename _ < _ ∧ _ < _ ∧ AllLt _ _ => hlt3
  rename_i CL hx1 hx2
  refine Fr.abs [("self", .ref x), ("domains", .ref AD), ("allvariables", .ref AL), ("constraints", .ref CL)] F5 (by (intros; repeat (first | exact Locs.nil | refine Locs.cons rfl ?_))) (fun m1 H1 F6 => ?_)
  clear F5
  have L3 := allLt_mem hlt3.2.2
  refine iter_list (o := default) F6 N5 (N5 _ (.tail _ (.tail _ (.tail _ (List.mem_append_left _ hco))))).1 (fun I1 h3 F7 N7 hI1 hk1 => ?_)
  clear F6 N5
  have cnt : ∀ cn ∈ cons, CnOk w nm ((AL, oal) :: (AD, od) :: R) cn ∧ CnB cn := fun cn h => ⟨(hcn cn h).1.mono fun q hq => .tail _ (.tail _ hq), (hcn cn h).2⟩
  generalize hR1 : (AL, oal) :: (AD, od) :: R = R1 at cnt
  have sub1 : ∀ q ∈ R, q ∈ R1 := fun q hq => hR1 ▸ .tail _ (.tail _ hq)
  have hAD1 : (AD, od) ∈ R1 := hR1 ▸ .tail _ (.head _)
  have hne1 : ∀ q ∈ R1, q.1 ∉ ads cs := by
    rw [← hR1]
    refine List.forall_mem_cons.mpr ⟨D.notin fun q hq => Nat.ne_of_lt (hlt2 q (.tail _ (List.mem_append_right _ hq))), List.forall_mem_cons.mpr ⟨D.notin fun q hq => Nat.ne_of_lt (hlt1 q (List.mem_append_right _ hq)), hR⟩⟩
  have L3' : ∀ q ∈ (AL, oal) :: (AD, od) :: (R ++ dyn), @LT.lt Nat _ q.1 CL := List.forall_mem_cons.mpr ⟨hlt3.1, List.forall_mem_cons.mpr ⟨hlt3.2.1, L3⟩⟩
  rw [show (AL, oal) :: (AD, od) :: (R ++ dyn) = R1 ++ dyn by rw [← hR1]; rfl] at N7 hI1 L3'
  rename News _ _ _ _ => N8
  refine loop_list (I := I1) (l := co) cons.length (fun i m₁ news₁ => ∃ T1 k, news₁ = (CL, listOf (tps T1).toArray k) :: (tupL T1 ++ (R1 ++ dyn)) ∧ (T1.map Cn.con = (cons.take i).map Cn.con) ∧ (∀ cn ∈ T1, CnOk w nm (tupL T1 ++ R1) cn ∧ CnB cn) ∧
    Locs m₁ [("self", .ref x), ("domains", .ref AD), ("allvariables", .ref AL), ("constraints", .ref CL)]) go_tuple ?hE hhd F7 N8 ?h0 ?h1 ?h2
  case hE => passes_own
  case h0 => exact ⟨[], _, rfl, rfl, (fun q h => by cases h), H1⟩
  case h1 =>
    rintro i m₂ news₂ h ⟨T1, k, rfl, _, _, _⟩ N4
    refine List.forall_mem_cons.mpr ⟨(hI1 (CL, listOf #[] 0) (.head _) : CL ≠ I1), ne_app (tup_apart (p := (I1, itO co i)) N4 (fun q hq => .tail _ (.tail _ (List.mem_append_left _ hq))) (.head _) it_nt) (fun q hq => hI1 q (.tail _ hq))⟩
  case h2 =>
    rintro i m₁ news₁ h₁ tk₁ ⟨T1, k, rfl, hT1, hT2, H₁⟩ F₁ N₁
    refine ⟨tps cons, ⟨_, _, (N₁ _ (.tail _ (.tail _ (List.mem_append_right _ (List.mem_append_left _ (sub1 _ hco)))))).1, rfl⟩, ?_⟩
    rw [List.getElem?_map]
    cases hi : cons[i]? with
    | some cn =>
      dsimp only [Option.map]
      obtain ⟨hlt, hdr⟩ := drop_some hi
      refine ⟨hlt, fun h₂ F₂ N₂ => ?_⟩
      -- BEGIN A
      have F₂ := H₁.fr F₂
      simp only [nest] at F₂
      obtain ⟨hok, hb⟩ := cnt cn (List.mem_of_getElem? hi)
      have htp := hok.tp
      obtain ⟨kvl, hvl⟩ := hok.vl
      k_steps
      rename News _ _ _ _ => N9
      refine truthy_nv N9 (.tail _ (.tail _ (List.mem_append_right _ (List.mem_append_left _ hvl)))) (by have := hb.1; omega) hb.2.1 (fun tk9 => ?_)
      k_steps
      rename News _ _ _ _ => N10
      rename Fr _ _ _ _ => F10
      rename _ < _ ∧ _ < _ ∧ AllLt _ _ => l10
      obtain ⟨l10a, l10b, l10c⟩ := l10
      have hT1l : T1.length ≤ 100 := by
        have z := congrArg List.length hT1
        simp only [List.length_map, List.length_take] at z
        omega
      rename_i T10 _
      refine append_K (D := CL) (n := k) (its := (tps T1).toArray) F10 (news_sub (l' := (CL, listOf (tps T1).toArray k) :: (T10, tupO cn) :: (I1, itO co (i + 1)) :: (tupL T1 ++ (R1 ++ dyn))) N10 ?a1) (.head ?a2) (fun h11 F11 N11 => ?a3) (by simp; rw [sizeLine_eq]; omega)
      case a1 => intro q hq; simp only [List.mem_cons, List.mem_append, tupO] at hq ⊢; grind
      case a2 =>
        refine List.forall_mem_cons.mpr ⟨Nat.ne_of_gt l10b, List.forall_mem_cons.mpr ⟨Ne.symm (hI1 (CL, listOf #[] 0) (.head _) : CL ≠ I1), ne_app (tup_apart (p := (CL, listOf (tps T1).toArray k)) N10 (fun q hq => .tail _ (.tail _ (.tail _ (List.mem_append_left _ hq)))) (by simp) li_nt) (fun q hq => Nat.ne_of_lt (L3' q hq))⟩⟩
      case a3 =>
        k_steps
        rename News _ _ _ _ => N12
        refine ⟨_, _, _, _, rfl, by k_asm, news_sub N12 ?b1, T1 ++ [{ cn with tp := T10 }], k + 1, rfl, ?b2, ?b3, by (intros; repeat (first | exact Locs.nil | refine Locs.cons rfl ?_))⟩
        case b1 =>
          intro q hq
          rw [tupL_snoc] at hq
          simp only [tps, List.map_append, List.map_cons, List.map_nil, List.mem_cons, List.mem_append, tupO, List.not_mem_nil, or_false, List.push_toArray] at hq ⊢
          grind
        case b2 =>
          rw [List.map_append, hT1, List.take_add_one, hi, List.map_append]
          rfl
        case b3 =>
          intro c9 hc9
          rw [tupL_snoc]
          rcases List.mem_append.mp hc9 with hc9 | hc9
          · exact ⟨(hT2 c9 hc9).1.mono fun q hq => by simp only [List.mem_append] at hq ⊢; grind, (hT2 c9 hc9).2⟩
          · obtain rfl := List.mem_singleton.mp hc9
            refine ⟨?_, hb⟩
            have z := hok.mono (R' := tupL T1 ++ [(T10, tupO { cn with tp := T10 })] ++ R1) (fun q hq => List.mem_append_right _ hq)
            exact ⟨by simp [tupO], z.c, z.cd, z.mul, z.vl⟩
      -- END A
    | none =>
      dsimp only [Option.map]
      intro h₂ F₂ N₂
      have F₂ := H₁.fr F₂
      simp only [nest] at F₂
      have hfull : cons.take i = cons := List.take_of_length_le (List.getElem?_eq_none_iff.mp hi)
      rw [hfull] at hT1
      k_steps
      rename Fr _ _ _ _ => F13
      rename News _ _ _ _ => N13
      rename (_ == sysModules) = false => loV
      rename Obj.IsDictOf (PySem.strKind PW w) _ [] => hov0
      rename _ < _ ∧ AllLt _ _ => l13
      rename_i AV hx13 oav Fx13 Nx13 fs13 hi13 fi13 h13
      clear fs13 hi13 fi13 Fx13 Nx13
      have l13' : ∀ q ∈ (CL, listOf (tps T1).toArray k) :: (tupL T1 ++ (R1 ++ dyn)), @LT.lt Nat _ q.1 AV := List.forall_mem_cons.mpr ⟨l13.1, allLt_mem l13.2⟩
      generalize hlc : listOf (tps T1).toArray k = lc at N13
      generalize hR2 : (CL, lc) :: (tupL T1 ++ R1) = R2
      rw [show (CL, lc) :: (tupL T1 ++ (R1 ++ dyn)) = R2 ++ dyn by rw [← hR2]; simp] at N13
      have hAD2 : (AD, od) ∈ R2 := by rw [← hR2]; exact .tail _ (List.mem_append_right _ hAD1)
      have hCL2 : (CL, lc) ∈ R2 := by rw [← hR2]; exact .head _
      have l14 : ∀ q ∈ R2 ++ dyn, @LT.lt Nat _ q.1 AV := by rw [← hR2]; intro q hq; exact l13' q (by simp only [List.cons_append, List.mem_cons, List.mem_append] at hq ⊢; grind)
      have off2 : ∀ q ∈ R2, q.1 ∉ ads cs := by
        rw [← hR2]
        refine List.forall_mem_cons.mpr ⟨D.notin fun q hq => Nat.ne_of_lt (L3' q (List.mem_append_right _ hq)), fun q hq => (List.mem_append.mp hq).elim (tup_off N13 D (fun q hq => .tail _ (List.mem_append_left _ (hR2 ▸ .tail _ (List.mem_append_left _ hq)))) (fun q hq => .tail _ (List.mem_append_right _ hq)) q) (hne1 q)⟩
      have T2ok : ∀ cn ∈ T1, CnOk w nm R2 cn ∧ CnB cn := fun cn h => ⟨(hT2 cn h).1.mono fun q hq => hR2 ▸ .tail _ hq, (hT2 cn h).2⟩
      refine Fr.abs [("self", .ref x), ("domains", .ref AD), ("allvariables", .ref AL), ("constraints", .ref CL), ("vconstraints", .ref AV)] F13 (by (intros; repeat (first | exact Locs.nil | refine Locs.cons rfl ?_))) (fun m13 H13 F14 => ?_)
      clear F13
      refine iter_keys (knd := PySem.strKind PW w) F14 N13 (.tail _ (List.mem_append_left _ hAD2)) hod loD (fun I2 oI2 ep2 h14 F15 N15 l15 it15 at15 => ?_)
      refine loop_keys (knd := PySem.strKind PW w) (fun i m₁ news₁ => ∃ (vs : List Vx) (oav' : Obj), news₁ = (AV, oav') :: (vs.map Vx.ve ++ (R2 ++ dyn)) ∧ vs.length = i ∧ oav'.IsDictOf (PySem.strKind PW w) (vcKv nm (vs.map Vx.a)) ∧ vs.map Vx.l = List.replicate i [] ∧ (vs.map Vx.a).Nodup ∧ (∀ a ∈ vs.map Vx.a, a ∉ ads cs ∧ a ≠ AV ∧ a ≠ I2 ∧ ∀ q ∈ R2, q.1 ≠ a) ∧
        Locs m₁ [("self", .ref x), ("domains", .ref AD), ("allvariables", .ref AL), ("constraints", .ref CL), ("vconstraints", .ref AV)]) hhd ?hE (Nat.ne_of_lt (l15 (AD, od) (.tail _ (List.mem_append_left _ hAD2)))) at15 ?hJd F15 N15 it15 ?h0 ?hI ?step ?fin
      case hE => passes_own
      case hJd =>
        rintro i m news ⟨vs, oav', rfl, _⟩
        exact .tail _ (List.mem_append_right _ (List.mem_append_left _ hAD2))
      case h0 => exact ⟨[], oav, rfl, rfl, hov0, rfl, .nil, (fun a ha => by cases ha), H13⟩
      case hI =>
        rintro i m news h oI ⟨vs, oav', rfl, _, _, _, _, ha, _⟩ _
        refine List.forall_mem_cons.mpr ⟨Nat.ne_of_lt (l15 (AV, oav) (.head _)), ne_app (fun q hq => ?_) (fun q hq => Nat.ne_of_lt (l15 q (.tail _ hq)))⟩
        exact (ha q.1 (ve_fst' vs ▸ List.mem_map_of_mem hq)).2.2.1
      case step =>
        rintro i m₁ news₁ h₁ tk₁ v oI kk u hkk hkv ⟨vs, oav', rfl, hvl, hvd, hve, hvn, hva', H₁⟩ hit F₁ N₁
        obtain ⟨tv, rfl⟩ := Value.isStrOf_shape hkv
        -- BEGIN B
        have F₁ := H₁.fr F₁
        simp only [nest] at F₁
        have hkk' : kk = nm vs.length := by
          rw [List.getElem?_mapIdx] at hkk
          obtain ⟨c9, _, hc9⟩ := Option.map_eq_some_iff.mp hkk
          rw [hvl]; exact (Prod.mk.inj hc9).1.symm
        subst hkk'
        k_steps
        rename Fr _ _ _ _ => F20
        rename News _ _ _ _ => N20
        rename _ < _ ∧ _ < _ ∧ AllLt _ _ => l20
        rename_i a21 h21
        have l21 := allLt_mem l20.2.2
        refine kda_set (knd := PySem.strKind PW w) (news := (AV, oav') :: (a21, listOf #[] 0) :: (I2, oI) :: (vs.map Vx.ve ++ (R2 ++ dyn))) F20 (news_sub N20 fun q hq => by simp only [List.mem_cons, List.mem_append] at hq ⊢; grind) (.head ?c1) hvd (strKind_is _ _ _ _) (by rw [sizeLine_eq, List.length_mapIdx, List.length_map]; have := (List.getElem?_eq_some_iff.mp hkk).1; rw [List.length_mapIdx] at this; omega) fun h22 o22 F22 N22 hd22 => ?c2
        case c1 =>
          refine List.forall_mem_cons.mpr ⟨Nat.ne_of_gt l20.2.1, List.forall_mem_cons.mpr ⟨Nat.ne_of_gt (l15 (AV, oav) (.head _)), ne_app (fun q hq => ?_) (fun q hq => Nat.ne_of_lt (l14 q hq))⟩⟩
          exact (hva' q.1 (ve_fst' vs ▸ List.mem_map_of_mem hq)).2.1
        case c2 =>
          rw [stored_new (by have z := vcKv_new inj (vs.map Vx.a); rw [List.length_map] at z; exact z)] at hd22
          have e22 : vcKv nm (vs.map Vx.a) ++ [(nm vs.length, .ref a21)] = vcKv nm ((vs ++ [({ a := a21, k := 0, l := [] } : Vx)]).map Vx.a) := by
            rw [List.map_append, List.map_cons, List.map_nil, vcKv_snoc, List.length_map]
          rw [e22] at hd22
          k_steps
          rename News _ _ _ _ => N23
          refine ⟨_, _, _, _, oI, rfl, by k_asm, news_sub N23 ?d1, hit, vs ++ [⟨a21, 0, []⟩], o22, rfl, by simp [hvl], hd22, ?d2, ?d3, ?d4, by (intros; repeat (first | exact Locs.nil | refine Locs.cons rfl ?_))⟩
          case d1 =>
            intro q hq
            simp only [List.map_append, List.map_cons, List.map_nil, List.mem_cons, List.mem_append, List.not_mem_nil, or_false, Vx.ve] at hq ⊢
            grind
          case d2 => rw [List.map_append, hve, List.map_cons, List.map_nil, List.replicate_succ']
          case d3 =>
            rw [List.map_append]
            refine List.nodup_append.mpr ⟨hvn, by simp, fun a ha b hb => ?_⟩
            simp only [List.map_cons, List.map_nil, List.mem_singleton] at hb
            subst hb
            rw [← ve_fst'] at ha
            obtain ⟨q, hq, rfl⟩ := List.mem_map.mp ha
            exact Nat.ne_of_lt (l21 q (List.mem_append_left _ hq))
          case d4 =>
            intro a ha
            rw [List.map_append] at ha
            rcases List.mem_append.mp ha with ha | ha
            · exact hva' a ha
            · simp only [List.map_cons, List.map_nil, List.mem_singleton] at ha
              subst ha
              exact ⟨D.notin fun q hq => Nat.ne_of_lt (l21 q (List.mem_append_right _ (List.mem_append_right _ hq))), Nat.ne_of_gt l20.2.1, Nat.ne_of_gt l20.1, fun q hq => Nat.ne_of_lt (l21 q (List.mem_append_right _ (List.mem_append_left _ hq)))⟩
        -- END B
      case fin =>
        rintro m₁ news₁ h₁ tk₁ ⟨vs, oav', rfl, hvl, hvd, hve, hvn, hva', H₁⟩ F₁ N₁
        have F₁ := H₁.fr F₁
        simp only [nest] at F₁
        k_steps
        rename Fr _ _ _ _ => F24
        rename News _ _ _ _ => N24
        refine Fr.abs [("domains", .ref AD), ("constraints", .ref CL), ("vconstraints", .ref AV)] F24 (by (intros; repeat (first | exact Locs.nil | refine Locs.cons rfl ?_))) (fun m24 H24 F25 => ?_)
        clear F24
        generalize hR3 : (AV, oav') :: R2 = R3
        have N25 := news_sub (l' := vs.map Vx.ve ++ (R3 ++ dyn)) N24 (by intro q hq; rw [← hR3] at hq; simp only [List.cons_append, List.mem_cons, List.mem_append] at hq ⊢; grind)
        clear N24
        have hCL3 : (CL, listOf (tps T1).toArray k) ∈ R3 := by rw [← hR3, hlc]; exact .tail _ hCL2
        have hAV3 : (AV, oav') ∈ R3 := by rw [← hR3]; exact .head _
        have hAD3 : (AD, od) ∈ R3 := by rw [← hR3]; exact .tail _ hAD2
        have off3 : ∀ q ∈ R3, q.1 ∉ ads cs := by
          rw [← hR3]
          exact List.forall_mem_cons.mpr ⟨D.notin fun q hq => Nat.ne_of_lt (l14 q (List.mem_append_right _ hq)), off2⟩
        have T3ok : ∀ cn ∈ T1, CnOk w nm R3 cn ∧ CnB cn := fun cn h => ⟨(T2ok cn h).1.mono fun q hq => hR3 ▸ .tail _ hq, (T2ok cn h).2⟩
        have asoff : ∀ q ∈ R3 ++ dyn, q.1 ∉ vs.map Vx.a := by
          rw [← hR3]
          intro q hq hm
          have z := hva' _ hm
          rcases List.mem_append.mp hq with hq | hq
          · rcases List.mem_cons.mp hq with rfl | hq
            · exact z.2.1 rfl
            · exact z.2.2.2 q hq rfl
          · exact z.1 (D.fst ▸ List.mem_map_of_mem hq)
        have hcl0 : conL vs = List.replicate cs.length [] := by
          have z : conL vs = (vs.map Vx.l).map (·.map Cn.con) := by simp [conL]
          rw [z, hve, List.map_replicate, List.length_mapIdx]; rfl
        have hvlc : vs.length = cs.length := by rw [hvl, List.length_mapIdx]
        generalize has : vs.map Vx.a = as at hvd hvn asoff
        refine iter_list (o := default) F25 N25 (N25 _ (List.mem_append_right _ (List.mem_append_left _ hCL3))).1 (fun I3 h26 F26 N26 hI3 hk3 => ?_)
        have hm1' : addCs (T1.map Cn.con) (conL vs) = some vcA := by rw [hT1, hcl0]; exact hm1
        refine loop_list (I := I3) (l := CL) T1.length (fun i m₁ news₁ => ∃ (vs : List Vx) (P : List Cn), news₁ = vs.map Vx.ve ++ (tupL P ++ (R3 ++ dyn)) ∧ vs.map Vx.a = as ∧ addCs ((T1.drop i).map Cn.con) (conL vs) = some vcA ∧ (∀ x ∈ vs, ∀ cn ∈ x.l, CnOk w nm (tupL P ++ R3) cn) ∧
          Locs m₁ [("domains", .ref AD), ("constraints", .ref CL), ("vconstraints", .ref AV)]) go_tuple ?hE hhd F26 N26 ?h0 ?h1 ?h2
        case hE => passes_own
        case h0 =>
          refine ⟨vs, [], rfl, has, hm1', fun x hx cn hc => ?_, H24⟩
          have z : x.l ∈ vs.map Vx.l := List.mem_map_of_mem hx
          rw [hve] at z
          rw [List.eq_of_mem_replicate z] at hc
          cases hc
        case h1 =>
          rintro i m₂ news₂ h ⟨vs₂, P, rfl, _⟩ N4
          exact ne_app (ve_apart (p := (I3, itO CL i)) N4 (fun q hq => .tail _ (List.mem_append_left _ hq)) (.head _) it_nl) (ne_app (tup_apart (p := (I3, itO CL i)) N4 (fun q hq => .tail _ (List.mem_append_right _ (List.mem_append_left _ hq))) (.head _) it_nt) (fun q hq => hI3 q (List.mem_append_right _ hq)))
        case h2 =>
          rintro i m₁ news₁ h₁ tk₁ ⟨vs₁, P, rfl, has₁, had, hok₁, H₁⟩ F₁ N₁
          refine ⟨tps T1, ⟨_, _, (N₁ _ (.tail _ (List.mem_append_right _ (List.mem_append_right _ (List.mem_append_left _ hCL3))))).1, rfl⟩, ?_⟩
          rw [List.getElem?_map]
          cases hi : T1[i]? with
          | some cn =>
            dsimp only [Option.map]
            obtain ⟨hlt, hdr⟩ := drop_some hi
            refine ⟨hlt, fun h₂ F₂ N₂ => ?_⟩
            have F₂ := H₁.fr F₂
            simp only [nest] at F₂
            obtain ⟨hok, hb⟩ := T3ok cn (List.mem_of_getElem? hi)
            have htp := hok.tp
            obtain ⟨kvl, hvlx⟩ := hok.vl
            rw [hdr, List.map_cons] at had
            simp only [addCs] at had
            cases hmid : addVs cn.con (cn.con.2.map (·.1)) (conL vs₁) with
            | none => rw [hmid] at had; cases had
            | some mid =>
            rw [hmid] at had
            dsimp only at had
            rw [show cn.con.2.map (·.1) = cn.vars.map (·.1) from ff_fst hok.mul] at hmid
            k_steps
            rename Fr _ _ _ _ => F30
            rename News _ _ _ _ => N30
            refine Fr.abs [("domains", .ref AD), ("constraints", .ref CL), ("vconstraints", .ref AV), ("constraint", .ref cn.c), ("variables", .ref cn.vl)] F30 (by (intros; repeat (first | exact Locs.nil | refine Locs.cons rfl ?_))) (fun m30 H30 F31 => ?_)
            clear F30
            refine iter_list (o := default) F31 N30 (N30 _ (.tail _ (List.mem_append_right _ (List.mem_append_right _ (List.mem_append_left _ hvlx))))).1 (fun I4 h32 F32 N32 hI4 hk4 => ?_)
            refine loop_list (I := I4) (l := cn.vl) cn.vars.length (fun j m₂ news₂ => ∃ (vs₂ : List Vx) (P₂ : List Cn), news₂ = (I3, itO CL (i + 1)) :: (vs₂.map Vx.ve ++ (tupL P₂ ++ (R3 ++ dyn))) ∧ vs₂.map Vx.a = as ∧ addVs cn.con ((cn.vars.drop j).map (·.1)) (conL vs₂) = some mid ∧ (∀ x ∈ vs₂, ∀ cn ∈ x.l, CnOk w nm (tupL P₂ ++ R3) cn) ∧
              Locs m₂ [("domains", .ref AD), ("constraints", .ref CL), ("vconstraints", .ref AV), ("constraint", .ref cn.c), ("variables", .ref cn.vl)]) go_name ?hE hhd F32 N32 ?h0 ?h1 ?h2
            case hE => passes_own
            case h0 => exact ⟨vs₁, P, rfl, has₁, hmid, hok₁, H30⟩
            case h1 =>
              rintro j m₂ news₂ h ⟨vs₂, P₂, rfl, _⟩ N4
              exact List.forall_mem_cons.mpr ⟨(hI4 (I3, itO CL (i + 1)) (.head _) : I3 ≠ I4), ne_app (ve_apart (p := (I4, itO cn.vl j)) N4 (fun q hq => .tail _ (.tail _ (List.mem_append_left _ hq))) (.head _) it_nl) (ne_app (tup_apart (p := (I4, itO cn.vl j)) N4 (fun q hq => .tail _ (.tail _ (List.mem_append_right _ (List.mem_append_left _ hq)))) (.head _) it_nt) (fun q hq => hI4 q (.tail _ (List.mem_append_right _ (List.mem_append_right _ hq)))))⟩
            case h2 =>
              rintro j m₂ news₂ h₂ tk₂ ⟨vs₂, P₂, rfl, has₂, hav, hok₂, H₂⟩ F₂ N₂
              refine ⟨nvs nm cn.vars, ⟨_, _, (N₂ _ (.tail _ (.tail _ (List.mem_append_right _ (List.mem_append_right _ (List.mem_append_left _ hvlx)))))).1, rfl⟩, ?_⟩
              rw [List.getElem?_map]
              cases hj : cn.vars[j]? with
              | some q =>
                dsimp only [Option.map]
                obtain ⟨hltj, hdrj⟩ := drop_some hj
                refine ⟨hltj, fun h₃ F₃ N₃ => ?_⟩
                have F₃ := H₂.fr F₃
                simp only [nest] at F₃
                rw [hdrj, List.map_cons] at hav
                simp only [addVs] at hav
                cases hl : (conL vs₂)[q.1]? with
                | none => rw [hl] at hav; cases hav
                | some l9 =>
                rw [hl] at hav
                dsimp only at hav
                split at hav
                case isFalse => cases hav
                rename_i hl9
                obtain ⟨x9, hx9, hxl9⟩ := conL_get hl
                have hxa : valueAt (vcKv nm as) (nm q.1) = some (.ref x9.a) := valueAt_vc hvd (by rw [← has₂, List.getElem?_map, hx9]; rfl)
                have hx9m : (x9.a, listOf (x9.l.map fun cn => Value.ref cn.tp).toArray x9.k) ∈ vs₂.map Vx.ve := List.mem_map_of_mem (List.mem_of_getElem? hx9)
                -- BEGIN C
                k_steps
                rename Fr _ _ _ _ => F40
                rename News _ _ _ _ => N40
                rename _ < _ ∧ _ < _ ∧ AllLt _ _ => l40
                rename_i T40 h40
                have hl40 : x9.l.length ≤ 500 := by
                  have z := congrArg List.length hxl9
                  rw [List.length_map] at z; omega
                refine vs_app (cn := cn) (Lo := [(T40, tupO cn), (I4, itO cn.vl (j + 1)), (I3, itO CL (i + 1))]) (vs := vs₂) (v := q.1) (rest := tupL P₂ ++ (R3 ++ dyn)) F40 N40 hx9 (has₂ ▸ hvn) ?e1 hl40 (fun h41 F41 N41 => ?e2)
                case e1 =>
                  have sb : ∀ q ∈ vs₂.map Vx.ve, q ∈ (T40, tupO cn) :: (I4, itO cn.vl (j + 1)) :: (I3, itO CL (i + 1)) :: (vs₂.map Vx.ve ++ (tupL P₂ ++ (R3 ++ dyn))) := fun q hq => .tail _ (.tail _ (.tail _ (List.mem_append_left _ hq)))
                  intro q8 hq8
                  simp only [List.cons_append, List.nil_append, List.mem_cons, List.mem_append] at hq8
                  rcases hq8 with rfl | rfl | rfl | hq8 | hq8
                  · exact ve_off (p := (T40, tupO cn)) N40 sb (.head _) (by show Value.type "tuple" ≠ Value.type "list"; decide)
                  · exact ve_off (p := (I4, itO cn.vl (j + 1))) N40 sb (.tail _ (.head _)) it_nl
                  · exact ve_off (p := (I3, itO CL (i + 1))) N40 sb (.tail _ (.tail _ (.head _))) it_nl
                  · exact ve_off (p := q8) N40 sb (.tail _ (.tail _ (.tail _ (List.mem_append_right _ (List.mem_append_left _ hq8))))) (by rw [tupL_cls q8 hq8]; decide)
                  · rw [has₂]; exact asoff q8 (by simpa using hq8)
                case e2 =>
                  k_steps
                  rename News _ _ _ _ => N42
                  refine ⟨_, _, _, _, rfl, by k_asm, news_sub N42 ?f1, vs₂.set q.1 { x9 with k := x9.k + 1, l := x9.l ++ [{ cn with tp := T40 }] }, P₂ ++ [{ cn with tp := T40 }], rfl, ?f2, ?f3, ?f4, by (intros; repeat (first | exact Locs.nil | refine Locs.cons rfl ?_))⟩
                  case f1 =>
                    intro p hp
                    rw [tupL_snoc] at hp
                    simp only [List.cons_append, List.nil_append, List.mem_cons, List.mem_append, tupO, List.not_mem_nil, or_false] at hp ⊢
                    grind
                  case f2 =>
                    rw [List.map_set, ← has₂]
                    obtain ⟨hlt9, he9⟩ := List.getElem?_eq_some_iff.mp hx9
                    refine List.ext_getElem? fun n9 => ?_
                    rw [List.getElem?_set]
                    split
                    · rename_i e9
                      subst e9
                      rw [if_pos (by rw [List.length_map]; exact hlt9), List.getElem?_map, hx9]; rfl
                    · rfl
                  case f3 =>
                    rw [conL_set, List.map_append, List.map_cons, List.map_nil, hxl9]
                    exact hav
                  case f4 =>
                    have up : ∀ r ∈ tupL P₂ ++ R3, r ∈ tupL (P₂ ++ [{ cn with tp := T40 }]) ++ R3 := fun r hr => by rw [tupL_snoc]; simp only [List.mem_append] at hr ⊢; grind
                    intro y hy c8 hc8
                    rcases List.mem_or_eq_of_mem_set hy with hy | rfl
                    · exact (hok₂ y hy c8 hc8).mono up
                    · rcases List.mem_append.mp hc8 with hc8 | hc8
                      · exact (hok₂ x9 (List.mem_of_getElem? hx9) c8 hc8).mono up
                      · obtain rfl := List.mem_singleton.mp hc8
                        have z := hok.mono (R' := tupL (P₂ ++ [{ cn with tp := T40 }]) ++ R3) (fun r hr => List.mem_append_right _ hr)
                        exact ⟨by rw [tupL_snoc]; simp [tupO], z.c, z.cd, z.mul, z.vl⟩
                -- END C
              | none =>
                dsimp only [Option.map]
                intro h₃ F₃ N₃
                have F₃ := H₂.fr F₃
                simp only [nest] at F₃
                rw [drop_none hj, List.map_nil] at hav
                simp only [addVs, Option.some.injEq] at hav
                subst hav
                k_steps
                rename News _ _ _ _ => N43
                exact ⟨_, _, _, _, rfl, by k_asm, N43, vs₂, P₂, rfl, has₂, had, hok₂, by (intros; repeat (first | exact Locs.nil | refine Locs.cons rfl ?_))⟩
          | none =>
            dsimp only [Option.map]
            intro h₂ F₂ N₂
            have F₂ := H₁.fr F₂
            simp only [nest] at F₂
            rw [drop_none hi, List.map_nil] at had
            simp only [addCs, Option.some.injEq] at had
            k_steps
            rename Fr _ _ _ _ => F50
            rename News _ _ _ _ => N50
            subst had
            generalize hR4 : vs₁.map Vx.ve ++ (tupL P ++ R3) = R4
            rw [show vs₁.map Vx.ve ++ (tupL P ++ (R3 ++ dyn)) = R4 ++ dyn by rw [← hR4]; simp] at N50
            have h34 : ∀ q ∈ R3, q ∈ R4 := fun q hq => hR4 ▸ List.mem_append_right _ (List.mem_append_right _ hq)
            have off4 : ∀ q ∈ R4, q.1 ∉ ads cs := by
              have tps0 := fun q hq => tup_off (T := P) N50 D (fun q hq => List.mem_append_left _ (hR4 ▸ List.mem_append_right _ (List.mem_append_left _ hq))) (fun q hq => List.mem_append_right _ hq) q hq
              rw [← hR4]
              intro q hq
              rcases List.mem_append.mp hq with hq | hq
              · intro hm
                have z : q.1 ∈ as := by rw [← has₁, ← ve_fst']; exact List.mem_map_of_mem hq
                rw [← D.fst] at hm
                obtain ⟨p9, hp9, e9⟩ := List.mem_map.mp hm
                exact asoff p9 (List.mem_append_right _ hp9) (e9 ▸ z)
              rcases List.mem_append.mp hq with hq | hq
              · exact tps0 q hq
              · exact off3 q hq
            have T4ok : ∀ cn ∈ T1, CnOk w nm R4 cn ∧ CnB cn := fun cn h => ⟨(T3ok cn h).1.mono h34, (T3ok cn h).2⟩
            have hAD4 := h34 _ hAD3
            have hlT1 : (tps T1).toArray.size ≤ 1000 := by
              have z := congrArg List.length hT1
              simp only [List.length_map] at z
              simp only [List.size_toArray, List.length_map]
              omega
            k_dflt (refine' sliceThen_K (dx := 0) ?k1 F50 N50 (List.mem_append_left _ (h34 _ hCL3)) (.inr rfl) .none .none hlT1 ?_; (case k1 => k_in))
            intro SL h51 F51 N51 hlt51
            rw [slicePick_all] at N51
            refine Fr.abs [("domains", .ref AD), ("constraints", .ref CL), ("vconstraints", .ref AV)] F51 (by (intros; repeat (first | exact Locs.nil | refine Locs.cons rfl ?_))) (fun m51 H51 F52 => ?_)
            refine iter_list (o := default) F52 N51 (N51 _ (.head _)).1 (fun I5 h52 F53 N53 hI5 hk5 => ?_)
            have nI5 : I5 ∉ ads cs := D.notin fun q hq => hI5 q (.tail _ (List.mem_append_right _ hq))
            have nSL : SL ∉ ads cs := D.notin fun q hq => Nat.ne_of_lt (hlt51 q (List.mem_append_right _ hq))
            refine loop_list (I := I5) (l := SL) T1.length (fun i m₁ news₁ => ∃ (dyn₁ : List (Addr × Obj)) (dsA : List Ds), news₁ = (SL, listOf (tps T1).toArray 0) :: (R4 ++ dyn₁) ∧ Dyn w.params cs dsA dyn₁ ∧ preAll ((T1.drop i).map Cn.con) dsA = some ds1 ∧
              Locs m₁ [("domains", .ref AD), ("constraints", .ref CL), ("vconstraints", .ref AV)]) go_tuple ?hE hhd F53 N53 ?h0 ?h1 ?h2
            case hE => passes_own
            case h0 => exact ⟨dyn, ds, rfl, D, by rw [List.drop_zero, hT1]; exact hm2, H51⟩
            case h1 =>
              rintro i m₂ news₂ h ⟨dyn₁, dsA, rfl, D₁, _⟩ _
              exact List.forall_mem_cons.mpr ⟨hI5 _ (.head _), ne_app (fun q hq => hI5 q (.tail _ (List.mem_append_left _ hq))) (D₁.ne nI5)⟩
            case h2 =>
              rintro i m₁ news₁ h₁ tk₁ ⟨dyn₁, dsA, rfl, D₁, hpr, H₁⟩ F₁ N₁
              refine ⟨tps T1, ⟨_, _, (N₁ _ (.tail _ (.head _))).1, rfl⟩, ?_⟩
              rw [List.getElem?_map]
              cases hi : T1[i]? with
              | some cn =>
                dsimp only [Option.map]
                obtain ⟨hlt, hdr⟩ := drop_some hi
                refine ⟨hlt, fun h₂ F₂ N₂ => ?_⟩
                -- BEGIN D
                have F₂ := H₁.fr F₂
                simp only [nest] at F₂
                obtain ⟨hok, hb⟩ := T4ok cn (List.mem_of_getElem? hi)
                have htp := hok.tp
                have hcc := hok.c
                have hccd := hok.cd
                obtain ⟨kvl, hvlx⟩ := hok.vl
                rw [hdr, List.map_cons] at hpr
                simp only [preAll] at hpr
                cases hpm : preM cn.con.1 cn.con.2 dsA with
                | none => rw [hpm] at hpr; cases hpr
                | some dsB =>
                rw [hpm] at hpr
                dsimp only at hpr
                k_steps
                rename Fr _ _ _ _ => F54
                rename News _ _ _ _ => N54
                refine pre_c (R := (I5, itO SL (i + 1)) :: (SL, listOf (tps T1).toArray 0) :: R4) (ds := dsA) (ds' := dsB) (by (refine' Cx.mk ?cxB ?cxX ?cxT ?cxk ?cxf ?cxd ?cxu ?cxfr ?cxhh; (case cxfr => exact fr_in (by assumption)); (case cxhh => assumption); (case cxB => assumption); (case cxX => assumption); (case cxT => assumption); (case cxk => exact rfl); (case cxf => exact rfl); (case cxd => (simp only [depth_in1, depth_deeper] at *; omega)); (case cxu => (simp only [units_in1, units_deeper] at *; omega)))) F54 N54 (.cons _ (.cons _ (.base _))) (.tail _ (.tail _ hcc)) (.tail _ (.tail _ (hok.mul.1 ▸ hccd))) (.tail _ (.tail _ hvlx)) (.tail _ (.tail _ hAD4)) hod
                  (fun v c hc => valueAt_get (IsDictOf.nodup hod) (i := v) (by rw [List.getElem?_mapIdx, hc]; rfl)) (by have := hb.1; omega) hb.2.2 D₁ nd (List.forall_mem_cons.mpr ⟨nI5, List.forall_mem_cons.mpr ⟨nSL, off4⟩⟩) (by rw [← hpm]; show preM cn.es _ dsA = preM cn.es cn.ff dsA; rw [hok.mul.2]) (fun h55 tk55 dyn55 F55 N55 D55 => ?_)
                k_steps
                exact ⟨_, _, _, _, rfl, by k_asm, by k_asm, dyn55, dsB, rfl, D55, hpr, by (intros; repeat (first | exact Locs.nil | refine Locs.cons rfl ?_))⟩
                -- END D
              | none =>
                dsimp only [Option.map]
                intro h₂ F₂ N₂
                have F₂ := H₁.fr F₂
                simp only [nest] at F₂
                rw [drop_none hi, List.map_nil] at hpr
                simp only [preAll, Option.some.injEq] at hpr
                subst hpr
                have N₂ := news_tl N₂
                k_steps
                rename Fr _ _ _ _ => F60
                rename News _ _ _ _ => N60
                refine kdl_view_values (knd := PySem.strKind PW w) F60 N60 (List.mem_append_left _ hAD4) hod loD (fun V9 h61 F61 N61 hlt61 => ?_)
                refine iter_vals (knd := PySem.strKind PW w) F61 N61 (.tail _ (List.mem_append_left _ hAD4)) hod (.head _) (fun I6 oI6 ep6 h62 F62 N62 l62 it62 at62 => ?_)
                refine Fr.abs [("domains", .ref AD), ("constraints", .ref CL), ("vconstraints", .ref AV)] F62 (by (intros; repeat (first | exact Locs.nil | refine Locs.cons rfl ?_))) (fun m62 H62 F63 => ?_)
                have nI6 : I6 ∉ ads cs := D₁.notin fun q hq => Nat.ne_of_lt (l62 q (.tail _ (List.mem_append_right _ hq)))
                have N63 := news_sub (l' := (I6, oI6) :: (R4 ++ dyn₁)) N62 (by intro q hq; simp only [List.mem_cons, List.mem_append] at hq ⊢; grind)
                refine loop_vals (knd := PySem.strKind PW w) (fun i m₁ news₁ => ∃ (dyn₂ : List (Addr × Obj)) (dsB : List Ds), news₁ = R4 ++ dyn₂ ∧ Dyn w.params cs dsB dyn₂ ∧ resetAll ((List.range cs.length).drop i) dsB = some (fin, ds2) ∧
                  Locs m₁ [("domains", .ref AD), ("constraints", .ref CL), ("vconstraints", .ref AV)]) hhd ?hE (Nat.ne_of_lt (l62 (AD, od) (.tail _ (List.mem_append_left _ hAD4)))) at62 ?hJd F63 N63 it62 ?h0 ?hI ?step ?fin
                case hE => passes_own
                case hJd =>
                  rintro i m news ⟨dyn₂, dsB, rfl, _⟩
                  exact List.mem_append_left _ hAD4
                case h0 => exact ⟨dyn₁, dsA, rfl, D₁, hm3, H62⟩
                case hI =>
                  rintro i m news h oI ⟨dyn₂, dsB, rfl, D₂, _⟩ _
                  exact ne_app (fun q hq => Nat.ne_of_lt (l62 q (.tail _ (List.mem_append_left _ hq)))) (D₂.ne nI6)
                case step =>
                  rintro i m₁ news₁ h₁ tk₁ v oI kk hkk ⟨dyn₂, dsB, rfl, D₂, hrs, H₁⟩ hit F₁ N₁
                  -- BEGIN F
                  have F₁ := H₁.fr F₁
                  simp only [nest] at F₁
                  rw [List.getElem?_mapIdx] at hkk
                  obtain ⟨c9, hc9, hkv⟩ := Option.map_eq_some_iff.mp hkk
                  obtain ⟨rfl, rfl⟩ := Prod.mk.inj hkv
                  have hilt := (List.getElem?_eq_some_iff.mp hc9).1
                  have hdr : (List.range cs.length).drop i = i :: (List.range cs.length).drop (i + 1) := by
                    have z := (drop_some (l := List.range cs.length) (i := i) (q := i) (by rw [List.getElem?_range hilt])).2
                    exact z
                  rw [hdr] at hrs
                  simp only [resetAll] at hrs
                  obtain ⟨d9, hd9⟩ := get_same D₂.len.symm hc9
                  rw [hd9] at hrs
                  dsimp only at hrs
                  cases hre : d9.reset with
                  | none => rw [hre] at hrs; cases hrs
                  | some d10 =>
                  rw [hre] at hrs
                  dsimp only at hrs
                  split at hrs
                  case isFalse => cases hrs
                  rename_i hl10
                  obtain ⟨e9, hx9', hdx9'⟩ := D₂.there hc9 hd9
                  k_steps
                  rename Fr _ _ _ _ => F64
                  rename News _ _ _ _ => N64
                  refine reset_D (R := (I6, oI) :: R4) (i := i) (by (refine' Cx.mk ?cxB ?cxX ?cxT ?cxk ?cxf ?cxd ?cxu ?cxfr ?cxhh; (case cxfr => exact fr_in (by assumption)); (case cxhh => assumption); (case cxB => assumption); (case cxX => assumption); (case cxT => assumption); (case cxk => exact rfl); (case cxf => exact rfl); (case cxd => (simp only [depth_in1, depth_deeper] at *; omega)); (case cxu => (simp only [units_in1, units_deeper] at *; omega)))) F64 N64 (.cons _ (.base _)) D₂ nd (List.forall_mem_cons.mpr ⟨nI6, off4⟩) hc9 hd9 hre (fun h65 tk65 dyn65 F65 N65 D65 => ?_)
                  have hd10 : (dsB.set i d10)[i]? = some d10 := List.getElem?_set_self (List.getElem?_eq_some_iff.mp hd9).1
                  obtain ⟨e10, hx10, hdx10⟩ := D65.there hc9 hd10
                  k_steps
                  rename News _ _ _ _ => N66
                  k_dflt (refine' truthy_iv ?k1 N66 (.tail _ (List.mem_append_right _ hx10)) (by omega) (fun tk66 => ?_); (case k1 => k_in))
                  have hzero : (d10.vs.length != 0) = !d10.vs.isEmpty := by cases d10.vs <;> rfl
                  rw [hzero]
                  cases hem : d10.vs.isEmpty with
                  | true =>
                    rw [hem] at hrs
                    simp only [if_true, Option.some.injEq, Prod.mk.injEq] at hrs
                    rw [show (!true) = false from rfl]
                    k_steps
                    dsimp only [Out]
                    k_steps
                    rename News h₀ L _ _ => N68
                    refine ret0 hrs.1.symm _ _ _ ((I6, oI) :: R4) dyn65 ?_ N68 (fun q hq => ?_)
                    · k_asm
                    · exact .tail _ (h34 q (hR3 ▸ .tail _ (hR2 ▸ .tail _ (List.mem_append_right _ (sub1 q hq)))))
                  | false =>
                    rw [hem] at hrs
                    simp only [Bool.false_eq_true, if_false] at hrs
                    rw [show (!false) = true from rfl]
                    k_steps
                    rename News _ _ _ _ => N67
                    exact ⟨_, _, _, _, oI, rfl, by k_asm, N67, hit, dyn65, _, rfl, D65, hrs, by (intros; repeat (first | exact Locs.nil | refine Locs.cons rfl ?_))⟩
                  -- END F
                case fin =>
                  rintro m₁ news₁ h₁ tk₁ ⟨dyn₂, dsB, rfl, D₂, hrs, H₁⟩ F₁ N₁
                  have F₁ := H₁.fr F₁
                  simp only [nest] at F₁
                  rw [List.drop_eq_nil_of_le (by rw [List.length_range, List.length_mapIdx]; exact Nat.le_refl _)] at hrs
                  simp only [resetAll, Option.some.injEq, Prod.mk.injEq] at hrs
                  k_steps
                  rename News h₀ L _ _ => N69
                  rename ∀ (p : Addr × Obj), p ∈ R4 ++ dyn₂ → p.1 < _ => hlt69
                  refine ret1 hrs.1.symm _ _ _ AD CL AV od oav' as (vs₁.map Vx.l) R4 dyn₂ ?_ N69 (fun q hq => h34 q (hR3 ▸ .tail _ (hR2 ▸ .tail _ (List.mem_append_right _ (sub1 q hq))))) ?pb ?vc (hrs.2 ▸ D₂) (D₂.notin fun q hq => Nat.ne_of_lt (hlt69 q (List.mem_append_right _ hq)))
                  · k_asm
                  case vc => rw [List.map_map]; rfl
                  case pb =>
                    have hasl : as.length = cs.length := by rw [← has, List.length_map]; exact hvlc
                    have hvl1 : vs₁.length = cs.length := by rw [← hasl, ← has₁, List.length_map]
                    refine { inj := inj, ord := ord, n2 := n2, n6 := n6, hAD := hAD4, hod := hod, hAV := h34 _ hAV3, hov := hvd, l1 := hasl, l2 := by rw [List.length_map]; exact hvl1, hvl := ?_, hcn := ?_, hsz := ?_, nd := nd, hR := off4, loD := loD, loV := loV }
                    · intro v a l ha hl
                      rw [← has₁, List.getElem?_map] at ha
                      rw [List.getElem?_map] at hl
                      obtain ⟨y, hy, rfl⟩ := Option.map_eq_some_iff.mp ha
                      rw [hy] at hl
                      obtain rfl := Option.some.inj hl
                      exact ⟨y.k, hR4 ▸ List.mem_append_left _ (List.mem_map_of_mem (List.mem_of_getElem? hy) : y.ve ∈ vs₁.map Vx.ve)⟩
                    · intro l hl cn hcn'
                      obtain ⟨y, hy, rfl⟩ := List.mem_map.mp hl
                      exact (hok₁ y hy cn hcn').mono fun q hq => hR4 ▸ List.mem_append_right _ hq
                    · intro l hl
                      obtain ⟨y, hy, rfl⟩ := List.mem_map.mp hl
                      have z := hvz (y.l.map Cn.con) (List.mem_map_of_mem (f := fun x : Vx => x.l.map Cn.con) hy)
                      rw [List.length_map] at z
                      exact z
end
end Mine
end
section
open PySem PySem.W PySem.W.X PyProof.Rows PySem.Calls PySem.Spec
set_option Elab.async false
set_option maxRecDepth 100000
set_option maxHeartbeats 8000000
namespace Mine
theorem filled36 : PySem.Challenge.rw_aw5017_04 = PySem.Challenge.rw_aw5017_04 ∧ hd.heap_39 = hd.heap_39 := by k_fill; exact ⟨rfl, rfl⟩
local macro_rules | `(tactic| k_all) => `(tactic| assumption)
local macro_rules | `(tactic| ktr_room) => `(tactic| (simp only [depth_under_make, depth_under_kw, depth_in1, depth_deeper, depth_caller, recursionLimit] at *; omega))
local macro_rules | `(tactic| walk_at "getAttr ref") => `(tactic| (k_here; (with_reducible show wpAny _ _ (getAttr (Value.ref _) (PySem.Str.ofString "_hidden") _) _ _ _); k_dflt (refine' hidden_K ?k1 ?k2 ?k3 ?k4 ?_; (case k1 => k_in); (case k2 => k_asm); (case k3 => k_mem); (case k4 => k_mem); k_whole)))
local macro_rules | `(tactic| walk_at "getAttr ref") => `(tactic| (k_here; (with_reducible show wpAny _ _ (getAttr (Value.ref _) (PySem.Str.ofString "_states") _) _ _ _); k_dflt (refine' states_K ?k1 ?k2 ?k3 ?k4 ?_; (case k1 => k_in); (case k2 => k_asm); (case k3 => k_mem); (case k4 => k_mem); k_whole)))
local macro_rules | `(tactic| walk_at "getMethod ref") => `(tactic| (k_here; k_dflt (refine' meth_K ?k1 ?k2 ?k3 ?k4 ?k5 ?k6 ?k7 ?k8 ?_; (case k1 => k_in); (case k2 => k_asm); (case k3 => k_mem); (case k4 => k_mem); (case k5 => k_is); (case k6 => first | (intro M h X; exact looks_typeIn X (by k_is)) | (intro M h X; exact Looks.of_pure (by first | exact PySem.F.type_list_remove | exact PySem.F.type_list_extend))); (case k7 => decide); (case k8 => first | rfl | decide +kernel); k_whole)))
local macro_rules | `(tactic| walk_at "call builtin:list.remove") => `(tactic| (k_here; k_dflt (refine' remove_K ?k1 ?k2 ?k3 ?k4 ?k5 ?k6 ?_; (case k1 => k_in); (case k2 => k_asm); (case k3 => k_asm); (case k4 => k_upd); (case k5 => assumption); (case k6 => assumption); k_whole; intro h' F' N'; (try k_sweep))))
local macro_rules | `(tactic| walk_at "call builtin:list.append") => `(tactic| (k_here; k_dflt (refine' append_iv ?k1 ?k2 ?k3 ?k4 ?_; (case k1 => k_asm); (case k2 => k_asm); (case k3 => k_upd); (case k4 => assumption); k_whole; intro h' F' N'; (try k_sweep))))
local macro_rules | `(tactic| walk_at "call builtin:list.pop") => `(tactic| (k_here; (with_reducible show wpAny _ _ (call (Value.builtin _) [Value.ref _]) _ _ _); k_dflt (refine' pop_iv ?k1 ?k2 ?k3 ?k4 ?_; (case k1 => k_asm); (case k2 => k_asm); (case k3 => k_upd); (case k4 => assumption); k_whole; intro h' F' N'; (try k_sweep))))
local macro_rules | `(tactic| walk_at "call builtin:list.pop") => `(tactic| (dsimp only; fail_if_success (with_reducible show wpAny _ _ (call (Value.builtin _) (Prod.snd _)) _ _ _)))
local macro_rules | `(tactic| walk_at "call builtin:len") => `(tactic| (k_here; (with_reducible show wpAny _ _ (call (Value.builtin "len") [Value.ref _]) _ _ _); k_dflt (refine' len_iv ?k1 ?k2 ?k3 ?k4 ?_; (case k1 => k_in); (case k2 => k_asm); (case k3 => k_mem); (case k4 => assumption); k_whole); intro u' tk'))
local macro_rules | `(tactic| walk_at "truthy ref") => `(tactic| (k_here; k_dflt (refine' truthy_iv ?k1 ?k2 ?k3 ?k4 ?_; (case k1 => k_in); (case k2 => k_asm); (case k3 => k_mem); (case k4 => assumption); k_whole); intro tk'))
local macro_rules | `(tactic| walk_at "eval Subscript") => `(tactic| (k_here; (with_reducible show wpAny _ _ (eval (PySem.Expr.Subscript _ (PySem.Expr.Slice _ _ none _) _) _) _ _ _); refine SubSlice_ ?_))
local macro_rules | `(tactic| walk_at "delete Subscript") => `(tactic| (k_here; (with_reducible show wpAny _ _ (delete (PySem.Expr.Subscript _ (PySem.Expr.Slice _ none none _) _) _) _ _ _); refine DelSlice_ ?_))
local macro_rules | `(tactic| walk_at "call builtin:list.extend") => `(tactic| (k_here; k_dflt (refine' extend_iv ?k1 ?k2 ?k3 ?k4 ?k5 ?k6 ?k7 ?_; (case k1 => k_in); (case k2 => k_asm); (case k3 => k_asm); (case k4 => (intro o9; k_upd)); (case k5 => k_mem); (case k6 => first | assumption | omega); (case k7 => ((try simp only [List.length_drop, List.length_take]); omega)); k_whole; intro h' e' F' N'; (try k_sweep))))
local macro_rules | `(tactic| ktr_enter) => `(tactic| (refine' code_def ?k1 ?k2 ?k3 ?k4 ?k5 ?kA ?kF ?kK ?k6 ?k7 ?k8 ?k9 ?kB ?_ ?c2 ?c3 ?c4 ?c5; (case kA => first | assumption | exact fr_in (by assumption) | exact rfl); (case kF => first | assumption | exact rfl); (case kK => first | assumption | exact rfl); (case k1 => k_asm); (case k2 => k_asm); (case k3 => k_asm); (case k4 => k_asm); (case k5 => k_asm); (case k6 => k_is); (case k7 => k_is); (case k8 => ktr_room); (case k9 => first | exact BindsTo.of_eq rfl | exact binds_K (by k_in) rfl (by k_is) rfl rfl rfl); (case c5 => decide); (case kB => exact locs rfl); (case c2 => exact rfl); (case c3 => exact rfl); (case c4 => exact rfl); k_whole; intro g' L' h' FG' F' N' B' X' T'; (try dsimp only); (try k_fold)))
local macro_rules | `(tactic| k_mem) => `(tactic| (first | assumption | (refine List.mem_append_left _ ?_; assumption) | (refine List.mem_append_right _ ?_; assumption) | (refine List.mem_append_right _ ?_; k_mem)))
local macro_rules | `(tactic| walk_at "exec For Name Name cons nil") => `(tactic| (k_here; refine For_ ?_))
local macro_rules | `(tactic| walk_at "exec For Name Subscript cons nil") => `(tactic| (k_here; refine For_ ?_))
local macro_rules | `(tactic| walk_at "call ref") => `(tactic| (k_here; (with_reducible show wpAny _ _ (call (Value.ref 300) _) _ _ _); refine Stop.intro ?_))
local macro_rules | `(tactic| walk_at "compareOp In str ref") => `(tactic| (k_here; k_dflt (first
  | (refine' kin_t (knd := PySem.strKind _ _) ?k1 ?k2 ?k3 ?k4 (strKind_is _ _ _ _) ?k5 ?_; (case k1 => k_asm); (case k2 => k_mem); (case k3 => assumption); (case k4 => assumption); (case k5 => assumption); k_whole)
  | (refine' kin_f (knd := PySem.strKind _ _) ?k1 ?k2 ?k3 ?k4 (strKind_is _ _ _ _) ?k5 ?_; (case k1 => k_asm); (case k2 => k_mem); (case k3 => assumption); (case k4 => assumption); (case k5 => assumption); k_whole))))
local macro_rules | `(tactic| walk_at "compareOp NotIn str ref") => `(tactic| (k_here; k_dflt (first
  | (refine' knin_t (knd := PySem.strKind _ _) ?k1 ?k2 ?k3 ?k4 (strKind_is _ _ _ _) ?k5 ?_; (case k1 => k_asm); (case k2 => k_mem); (case k3 => assumption); (case k4 => assumption); (case k5 => assumption); k_whole)
  | (refine' knin_f (knd := PySem.strKind _ _) ?k1 ?k2 ?k3 ?k4 (strKind_is _ _ _ _) ?k5 ?_; (case k1 => k_asm); (case k2 => k_mem); (case k3 => assumption); (case k4 => assumption); (case k5 => assumption); k_whole))))
local macro_rules | `(tactic| walk_at "subscriptTail") => `(tactic| (k_here; k_dflt (refine' kda_item (knd := PySem.strKind _ _) ?k1 ?k2 ?k3 (strKind_is _ _ _ _) ?k5 ?_; (case k1 => k_asm); (case k2 => k_mem); (case k3 => assumption); (case k5 => assumption); k_whole)))
local macro_rules | `(tactic| walk_at "call builtin:list.remove") => `(tactic| (k_here; (with_reducible show wpAny _ _ (call _ _) _ _ _); refine Stop.intro ?_))
local macro_rules | `(tactic| walk_at "call ref") => `(tactic| (k_here; (with_reducible show wpAny _ _ (call (Value.ref 336) _) _ _ _); k_dflt (refine wpAny_call ?_; ktr_enter)))
local macro_rules | `(tactic| walk_at "exec Assign cons ListComp") => `(tactic| (k_here; k_dflt (refine Assign_ListComp_C (by with_unfolding_all rfl) (by with_unfolding_all rfl) (by rfl) (by decide) ?_)))
local macro_rules | `(tactic| walk_at "call builtin:list.sort") => `(tactic| (k_here; (with_reducible show wpAny _ _ (call _ _) _ _ _); refine Stop.intro ?_))
local macro_rules | `(tactic| walk_at "exec For Name Name cons cons") => `(tactic| (k_here; refine For_ ?_))
local macro_rules | `(tactic| walk_at "exec For Tuple Subscript cons cons") => `(tactic| (k_here; refine For_ ?_))
local macro_rules | `(tactic| walk_at "exec If") => `(tactic| (k_here; (with_reducible show wpAny _ _ (exec (Stmt.If (Expr.Name _ _) _ _ _) _) _ _ _); refine If_ ?_))
local macro_rules | `(tactic| walk_at "setItem ref str") => `(tactic| (k_here; (with_reducible show wpAny _ _ (setItem _ _ _) _ _ _); refine Stop.intro ?_))
local macro_rules | `(tactic| walk_at "delItem ref str") => `(tactic| (k_here; (with_reducible show wpAny _ _ (delItem _ _) _ _ _); refine Stop.intro ?_))
local macro_rules | `(tactic| walk_at "call builtin:dict.copy") => `(tactic| (k_here; (with_reducible show wpAny _ _ (call _ _) _ _ _); refine Stop.intro ?_))
local macro_rules | `(tactic| walk_at "call builtin:list.append") => `(tactic| (k_here; (with_reducible show wpAny _ _ (call _ _) _ _ _); refine Stop.intro ?_))
local macro_rules | `(tactic| walk_at "call ref") => `(tactic| (k_here; (with_reducible show wpAny _ _ (call (Value.ref 286) _) _ _ _); refine Stop.intro ?_))
local macro_rules | `(tactic| walk_at "call ref") => `(tactic| (k_here; (with_reducible show wpAny _ _ (call (Value.ref 293) _) _ _ _); refine Stop.intro ?_))
local macro_rules | `(tactic| walk_at "call ref") => `(tactic| (k_here; (with_reducible show wpAny _ _ (call (Value.ref 208) _) _ _ _); refine Stop.intro ?_))
local macro_rules | `(tactic| walk_at "call ref") => `(tactic| (k_here; (with_reducible show wpAny _ _ (call (Value.ref (Cn.c _)) _) _ _ _); refine Stop.intro ?_))
local macro_rules | `(tactic| walk_at "getMethod ref") => `(tactic| (k_here; (with_reducible show wpAny _ _ (getMethod (Value.ref _) (PySem.Str.ofString "copy") _) _ _ _); k_dflt (refine' copy_method (knd := PySem.strKind PW _) ?k1 ?k2 ?k3 ?_; (case k1 => k_asm); (case k2 => k_mem); (case k3 => assumption); k_whole)))
local macro_rules | `(tactic| walk_at "assign Tuple") => `(tactic| (k_here; (with_reducible show wpAny _ _ (assign (Expr.Tuple _ _ _) _ (Value.ref _)) _ _ _); k_dflt (refine' unpackN_ ?k1 ?k2 ?k3 ?k4 ?k5 ?k6 ?_; (case k1 => k_asm); (case k2 => k_asm); (case k3 => (refine News.isTup (by k_asm) (by k_mem))); (case k4 => first | assumption | exact rfl); (case k5 => exact rfl); (case k6 => exact rfl); k_whole); intro h' F' N'; (try k_sweep)))
local macro_rules | `(tactic| walk_at "call builtin:hasattr") => `(tactic| (k_here; (with_reducible show wpAny _ _ (call (Value.builtin "hasattr") [Value.ref _, Value.str _ _]) _ _ _); k_dflt (refine' hasattr_K ?k1 ?k2 ?k3 ?k4 ?_; (case k1 => k_in); (case k2 => k_asm); (case k3 => k_asm); (case k4 => k_mem); k_whole); intro h' tk' F' N'; (try k_sweep)))
local macro_rules | `(tactic| walk_at "exec For Tuple Attribute cons nil") => `(tactic| (k_here; refine For_ ?_))
local macro_rules | `(tactic| walk_at "exec For Tuple Name cons nil") => `(tactic| (k_here; refine For_ ?_))
local macro_rules | `(tactic| walk_at "exec For Tuple Subscript cons nil") => `(tactic| (k_here; refine For_ ?_))
local macro_rules | `(tactic| walk_at "exec For Name Call cons nil") => `(tactic| (k_here; refine For_ ?_ (by intro _; with_unfolding_all rfl)))
local macro_rules | `(tactic| walk_at "call ref") => `(tactic| (k_here; (with_reducible show wpAny _ _ (call (Value.ref 399) _) _ _ _); refine Stop.intro ?_))
local macro_rules | `(tactic| walk_at "call ref") => `(tactic| (k_here; (with_reducible show wpAny _ _ (call (Value.ref 279) _) _ _ _); refine Stop.intro ?_))
local macro_rules | `(tactic| walk_at "call type:list") => `(tactic| (k_here; (with_reducible show wpAny _ _ (call (Value.type "list") [Value.ref _]) _ _ _); refine Stop.intro ?_))
local macro_rules | `(tactic| walk_at "truthy ref") => `(tactic| (k_here; (with_reducible show wpAny _ _ (truthy _) _ _ _); refine Stop.intro ?_))
local macro_rules | `(tactic| walk_at "getMethod ref") => `(tactic| (k_here; (with_reducible show wpAny _ _ (getMethod (Value.ref _) (PySem.Str.ofString "values") _) _ _ _); k_dflt (refine' values_method (knd := PySem.strKind PW _) ?k1 ?k2 ?k3 ?_; (case k1 => k_asm); (case k2 => k_mem); (case k3 => assumption); k_whole)))
local macro_rules | `(tactic| walk_at "call builtin:dict.values") => `(tactic| (k_here; (with_reducible show wpAny _ _ (call _ _) _ _ _); refine Stop.intro ?_))
local macro_rules | `(tactic| walk_at "call ref") => `(tactic| (k_here; (with_reducible show wpAny _ _ (call (Value.ref 64) _) _ _ _); refine Stop.intro ?_))
local macro_rules | `(tactic| walk_at "call ref") => `(tactic| (k_here; (with_reducible show wpAny _ _ (call (Value.ref 107) _) _ _ _); refine Stop.intro ?_))
local macro_rules | `(tactic| walk_at "call ref") => `(tactic| (k_here; (with_reducible show wpAny _ _ (call (Value.ref 183) _) _ _ _); refine Stop.intro ?_))
local macro_rules | `(tactic| walk_at "call ref") => `(tactic| (k_here; (with_reducible show wpAny _ _ (call (Value.ref 222) _) _ _ _); refine Stop.intro ?_))
section
variable {w : World} {p : Program} {loose : List Str} {mean : ExcName → Option Value} {mg mb : Str → Option Value} {A : Around} {env : Env} {outer : List Env} {A₀ : Around} {base h₀ : Heap} {L : Addr} {m : Str → Option Value} {s : Shared} {Q E : Value → Shared → Prop}
theorem gets_c {x xdx so sdx sc co va : Addr} {t0 t1 t2 t3 : Tok} {e e0 kc f : Nat} {fc : Bool} {R dyn news : List (Addr × Obj)} {ov : Obj} {nm : Nat → Str} {cs : List Dc} {ds ds1 ds2 : List Ds} {cons : List Cn} {fin : Bool} {vcA : List (List Con)} {ys : List Asg} (cx : Cx w p loose mean mg mb A 400 4000 env outer A₀ base h₀ L) (F : Fr h₀ L s.heap m)
    (N : News h₀ L s.heap news) (C : Cut dyn news R) (inj : Function.Injective nm) (hx : (x, instObj 110 xdx) ∈ R) (hxd : (xdx, probD w.params t1 t2 t3 so co va e) ∈ R) (hso : (so, instObj sc sdx) ∈ R) (hsd : (sdx, btD w.params t0 fc e0) ∈ R) (hsc : sc = 186 ∨ sc = 225) (hva : (va, ov) ∈ R) (hov : ov.IsDictOf (PySem.strKind PW w) (domKv nm cs)) (lov : (va == sysModules) = false) (lva : @LT.lt Nat _ 1 va)
    (hco : (co, listOf (cons.map fun cn => Value.ref cn.tp).toArray kc) ∈ R) (hcn : ∀ cn ∈ cons, CnOk w nm R cn ∧ CnB cn) (hlc : cons.length ≤ 100) (ord : ∀ i j, i < cs.length → j < cs.length → ((nm i).cps.toList < (nm j).cps.toList ↔ i < j)) (n2 : 2 ≤ cs.length) (n6 : cs.length ≤ 6)
    (D : Dyn w.params cs ds dyn) (nd : (ads cs).Nodup) (hR : ∀ q ∈ R, q.1 ∉ ads cs)
    (hm1 : addCs (cons.map Cn.con) (List.replicate cs.length []) = some vcA) (hm2 : preAll (cons.map Cn.con) ds = some ds1) (hm3 : resetAll (List.range cs.length) ds1 = some (fin, ds2)) (hvz : ∀ l ∈ vcA, l.length ≤ 500)
    (hb : AllBare s.gens) (hlen : ys.length ≤ 400) (hy0 : fin = false → ys = []) (hyB : fin = true → sc = 186 → btOut cs.length (btConA vcA) (vkeyA vcA) fc f [] [] ds2 = some ys) (hyR : fin = true → sc = 225 → ∃ ds3, rbA cs.length vcA fc false 40 [] [] ds2 = some (ys, ds3))
    (ret : ∀ h' tk' gens' S k' cp R', Fr h₀ L h' m → News h₀ L h' ((S, listOf (refs cp).toArray k') :: (cp ++ R')) → (∀ q ∈ R, q ∈ R') → Paired (fun (g : Asg) (p : Addr × Obj) => p.2.IsDictOf (PySem.strKind PW w) (asgKv nm g)) ys cp → AllBare gens' → Q (.ref S) { s with heap := h', toks := tk', gens := gens' }) :
    wpAny (model PW w) A (call (.ref 93) [.ref x]) Q E s := by
  obtain ⟨B, X, T, hk, hf, hd, hu, hfr, hhd⟩ := cx
  obtain rfl := C.eq
  refine wpAny_call ?_
  k_dflt ktr_enter
  rename Fr h₀ L _ m => FG
  k_steps
  rename Fr _ _ _ _ => F1
  rename News _ _ _ _ => N1
  refine args_c (by (refine' Cx.mk ?cxB ?cxX ?cxT ?cxk ?cxf ?cxd ?cxu ?cxfr ?cxhh; (case cxfr => exact fr_in (by assumption)); (case cxhh => assumption); (case cxB => assumption); (case cxX => assumption); (case cxT => assumption); (case cxk => exact rfl); (case cxf => exact rfl); (case cxd => (simp only [depth_in1, depth_deeper] at *; omega)); (case cxu => (simp only [units_in1, units_deeper] at *; omega)))) F1 N1 (.base _) inj hx hxd hva hov lov lva hco hcn hlc ord n2 n6 D nd hR hm1 hm2 hm3 hvz ?r0 ?r1
  case r0 =>
    intro hfin h2 tk2 T2 R2 dyn2 F2 N2 hs2
    have hy := hy0 hfin
    subst hy
    k_steps
    rename News h₀ L (Shared.heap _) _ => N3
    rename Fr h₀ L (Shared.heap _) _ => F3
    exact ret _ _ _ _ 0 [] ((T2, _) :: (R2 ++ dyn2)) F3 N3 (fun q hq => .tail _ (List.mem_append_left _ (hs2 q hq))) .nil hb
  case r1 =>
    intro hfin h2 tk2 T2 AD AC AV od ov2 vls vcs R2 dyn2 F2 N2 hs2 P hvc D2 hT2
    have hx2 := hs2 _ hx
    have hxd2 := hs2 _ hxd
    have hso2 := hs2 _ hso
    have hsd2 := hs2 _ hsd
    k_steps
    rename Fr _ _ _ _ => F3
    rename News _ _ _ _ => N3
    refine wpAny_truthy_dict (knd := PySem.strKind PW w) P.loD (kda_dict N3 (.tail _ (List.mem_append_left _ P.hAD)) P.hod) (by rw [List.length_mapIdx]; exact Int.lt_of_le_of_lt (by omega : (cs.length : Int) ≤ 6) (by decide)) ?_
    have hne : (!(domKv nm cs).isEmpty) = true := by
      cases hcs : cs with
      | nil => rw [hcs] at n2; simp at n2
      | cons a b => simp [domKv, List.mapIdx_cons]
    rw [hne]
    have P2 := P.mono (R' := (T2, ({ cls := .type "tuple", data := .seq #[.ref AD, .ref AC, .ref AV] } : Obj)) :: R2) (fun q hq => .tail _ hq) (List.forall_mem_cons.mpr ⟨hT2, P.hR⟩)
    rcases hsc with rfl | rfl
    · have hm5 := hyB hfin rfl
      rw [← hvc, ← btConA_eq, ← vkeyA_eq] at hm5
      k_steps
      rename Fr _ _ _ _ => F5
      rename News _ _ _ _ => N5
      refine bgs_c (R := (T2, ({ cls := .type "tuple", data := .seq #[.ref AD, .ref AC, .ref AV] } : Obj)) :: R2) (by (refine' Cx.mk ?cxB ?cxX ?cxT ?cxk ?cxf ?cxd ?cxu ?cxfr ?cxhh; (case cxfr => exact fr_in (by assumption)); (case cxhh => assumption); (case cxB => assumption); (case cxX => assumption); (case cxT => assumption); (case cxk => exact rfl); (case cxf => exact rfl); (case cxd => (simp only [depth_in1, depth_deeper] at *; omega)); (case cxu => (simp only [units_in1, units_deeper] at *; omega)))) F5 N5 (.cons _ (.base _)) P2 (.tail _ hso2) (.tail _ hsd2) D2 hm5 hlen hb ?_
      intro h6 tk6 gens6 S6 cp6 k6 F6 N6 hp6 hb6
      k_steps
      rename News h₀ L (Shared.heap _) _ => N7
      rename Fr h₀ L (Shared.heap _) _ => F7
      exact ret _ _ _ _ _ _ _ F7 N7 (fun q hq => .tail _ (hs2 q hq)) hp6 hb6
    · obtain ⟨ds3, hm5⟩ := hyR hfin rfl
      rw [← hvc, ← rbA_eq] at hm5
      k_steps
      rename Fr _ _ _ _ => F5
      rename News _ _ _ _ => N5
      refine rgs_c (R := (T2, ({ cls := .type "tuple", data := .seq #[.ref AD, .ref AC, .ref AV] } : Obj)) :: R2) (by (refine' Cx.mk ?cxB ?cxX ?cxT ?cxk ?cxf ?cxd ?cxu ?cxfr ?cxhh; (case cxfr => exact fr_in (by assumption)); (case cxhh => assumption); (case cxB => assumption); (case cxX => assumption); (case cxT => assumption); (case cxk => exact rfl); (case cxf => exact rfl); (case cxd => (simp only [depth_in1, depth_deeper] at *; omega)); (case cxu => (simp only [units_in1, units_deeper] at *; omega)))) F5 N5 (.cons _ (.base _)) P2 (.tail _ hso2) (.tail _ hsd2) D2 hm5 ?_
      intro h6 tk6 AS6 S6 k6 dyn6 F6 N6 hp6 D6
      k_steps
      rename News h₀ L (Shared.heap _) _ => N7
      rename Fr h₀ L (Shared.heap _) _ => F7
      refine ret _ _ _ AS6 k6 S6 (((T2, ({ cls := .type "tuple", data := .seq #[.ref AD, .ref AC, .ref AV] } : Obj)) :: R2) ++ dyn6) F7 (news_sub N7 ?_) (fun q hq => List.mem_append_left _ (.tail _ (hs2 q hq))) hp6 hb
      intro q hq
      simp only [List.cons_append, List.mem_cons, List.mem_append] at hq ⊢
      grind
end
end Mine
end
section
open PySem PySem.W PySem.W.X PyProof.Rows PySem.Calls PySem.Spec
set_option Elab.async false
set_option maxRecDepth 100000
set_option maxHeartbeats 8000000
namespace Mine
open PyProof.Rows.LCg
section
variable {prog : Program} {w : World} {A : Around} {E : Value → Shared → Prop} {s : Shared} {h₀ : Heap} {L : Addr} {m : Str → Option Value} {env : Env}
theorem comp_mono {s₁ s₂ : Shared} {I C D : Addr} {oI oC oD : Obj} {S : List (Addr × Obj) → Prop} {rest rest' : Value → List (Addr × Obj) → Prop} {y : Value} (h : CompEnd h₀ L m s₁ I oI C oC D oD S rest y s₂) (hr : ∀ y l, rest y l → rest' y l) : CompEnd h₀ L m s₁ I oI C oC D oD S rest' y s₂ :=
  let ⟨h', tk, nw, a, b, c, d, e, f⟩ := h; ⟨h', tk, nw, a, b, c, d, e, hr _ _ f⟩
/-- a comprehension of any length -/
theorem comp_loop {elt : Expr} {x : Str} {scope : Scope} {cl : List (Str × Addr)} {s : Shared} {S : List (Addr × Obj) → Prop} {P : Nat → Value → Prop} {Fin : List Value → List (Addr × Obj) → Prop} {n : Nat} (J : Nat → List Value → List (Addr × Obj) → Prop)
    (turn : ∀ i ys news v I oI C oC D m₂ h tk (E' : Value → Shared → Prop), i < n → P i v → J i ys news → NsObj oC m₂ → m₂ x = some v → Fr h₀ L h m → News h₀ L h ((I, oI) :: (C, oC) :: (D, lst ys) :: news) → Off3 I C D news → ((@Ne Nat I C) ∧ (@Ne Nat I D) ∧ (@Ne Nat C D)) →
      wpAny (model prog w) A (eval elt (compEnvC scope cl C env)) (CompEnd h₀ L m { s with heap := h, toks := tk } I oI C oC D (lst ys) S (fun y news' => J (i + 1) (ys ++ [y]) news')) E' { s with heap := h, toks := tk })
    (fin : ∀ ys news, J n ys news → Fin ys news) : ∀ (k i : Nat) (ys : List Value) (news : List (Addr × Obj)), i + k = n → J i ys news → CompRest prog w A h₀ L m env elt x scope cl s S P Fin k i ys news
  | 0, i, ys, news, hk, hJ => CompRest.zero (fin ys news (by rw [← hk]; exact hJ))
  | k + 1, i, ys, news, hk, hJ => CompRest.succ fun v I oI C oC D m₂ h tk E' hP hC hx F N off ne =>
      wpAny_mono (turn i ys news v I oI C oC D m₂ h tk E' (by omega) hP hJ hC hx F N off ne) (fun y s' z => comp_mono z fun y l hl => comp_loop J turn fin k (i + 1) _ _ (by omega) hl) fun _ _ e => e
end
/-- a tuple of ints -/
def RowAt (r : List Int) (p : Addr × Obj) : Prop := ∃ vs n, p.2 = { cls := .type "tuple", data := .seq vs.toArray n } ∧ IntsAre vs r
theorem dat_ints {news : List (Addr × Obj)} : ∀ {vs : List Value} {r : List Int}, IntsAre vs r → DatAll news vs (r.map Dat.int)
  | _, _, .nil => .nil
  | _, _, .cons n t h => .cons (.int n t) (dat_ints h)
theorem dat_rows {news : List (Addr × Obj)} : ∀ {rows : List (List Int)} {T : List (Addr × Obj)}, Paired RowAt rows T → (∀ p ∈ T, p ∈ news) → DatAll news (refs T) (rows.map fun r => Dat.tuple (r.map Dat.int))
  | _, _, .nil, _ => .nil
  | _, _, .cons (b := p) ⟨vs, n, e, hi⟩ h, hT => by
    have z := hT p (.head _)
    obtain ⟨a, o⟩ := p
    dsimp only at e
    subst e
    exact .cons (.tuple z (dat_ints hi)) (dat_rows h fun q hq => hT q (.tail _ hq))
theorem rows_ok (rows : List (List Int)) : ∀ d ∈ rows.map (fun r => Dat.tuple (r.map Dat.int)), kqdOk 8 d = true := by
  intro d hd
  obtain ⟨r, _, rfl⟩ := List.mem_map.mp hd
  simp only [kqdOk, List.all_map, List.all_eq_true]
  intro x _
  rfl
theorem rows_inj {a b : List (List Int)} (h : a.map (fun r => Dat.tuple (r.map Dat.int)) = b.map (fun r => Dat.tuple (r.map Dat.int))) : a = b := by
  refine (List.map_inj_right (fun r r' e => ?_)).mp h
  have e' : r.map Dat.int = r'.map Dat.int := by injection e
  exact (List.map_inj_right (fun x y e => by injection e)).mp e'
end Mine
end
section
open PySem PySem.W PySem.W.X PyProof.Rows PySem.Calls PySem.Spec
set_option Elab.async false
set_option maxRecDepth 100000
set_option maxHeartbeats 8000000
namespace Mine
open PyProof.Rows.LCg
section
variable {prog : Program} {w : World} {A : Around} {E : Value → Shared → Prop} {s : Shared} {h₀ : Heap} {L a : Addr} {m : Str → Option Value} {news : List (Addr × Obj)} {vs : List Value}
theorem few_sort {n : Nat} {P : PySem.Fin → Shared → Prop} (F : Fr h₀ L s.heap m) (N : News h₀ L s.heap news) (ho : s.heap.get? a = some (seqObj "list" vs.toArray n)) (haL : a ≠ L) (ha0 : h₀.get? a = none) (hna : ∀ p ∈ news, p.1 ≠ a)
    (h2 : vs.length < 2) (h : ∀ h' c, Fr h₀ L h' m → News h₀ L h' ((a, listOf vs.toArray c) :: news) → P (.done (.ret .none)) { s with heap := h' }) :
    wpAny (model prog w) A (Builtin.«list.sort» ⟨[.ref a], []⟩) P E s := by
  have ha : a < s.heap.objs.size := Heap.lt_size ho
  have s1 := Heap.SameBut.update s.heap a (Obj.mapSeq fun _ => (#[] : Array Value))
  obtain ⟨e1, ho1⟩ : ∃ e1, (s.heap.update a (Obj.mapSeq fun _ => (#[] : Array Value))).get? a = some (seqObj "list" #[] e1) := ⟨_, get?_update_seq ho fun _ => #[]⟩
  have F3 : Fr h₀ L (((s.heap.update a (Obj.mapSeq fun _ => (#[] : Array Value))).push (seqObj "tuple" vs.toArray 0)).push (seqObj "list" #[] 0)) m := ((kas_fr F s1 haL ha0).push _).push _
  have N2 : News h₀ L (((s.heap.update a (Obj.mapSeq fun _ => (#[] : Array Value))).push (seqObj "tuple" vs.toArray 0)).push (seqObj "list" #[] 0)) news :=
    (kas_news N s1 hna).grown fun b x e => Heap.get?_push_of_some _ (Heap.get?_push_of_some _ e)
  have N3 : News h₀ L (((s.heap.update a (Obj.mapSeq fun _ => (#[] : Array Value))).push (seqObj "tuple" vs.toArray 0)).push (seqObj "list" #[] 0)) ((a, seqObj "list" #[] e1) :: news) := fun p hp => by
    rcases List.mem_cons.mp hp with rfl | hp
    · exact ⟨Heap.get?_push_of_some _ (Heap.get?_push_of_some _ ho1), haL, ha0⟩
    · exact N2 p hp
  rw [list_sort_plain]
  refine wpAny_bind (listItems_at ho rfl ?_)
  refine wpAny_bind (listUpdate_at ho rfl ?_ (by rw [List.size_toArray, sizeLine_eq]; omega) (Nat.zero_le _))
  refine wpAny_bind (seqEpoch_at ho1 rfl ?_)
  refine wpAny_bind (wpAny_newTuple ?_ (by show vs.length ≤ _; rw [sizeLine_eq]; omega))
  refine wpAny_bind (wpAny_newList ?_ (Nat.zero_le _))
  refine wpAny_holding ?_
  show wpAny (model prog w) A _ P E { s with heap := ((s.heap.update a (Obj.mapSeq fun _ => (#[] : Array Value))).push (seqObj "tuple" vs.toArray 0)).push (seqObj "list" #[] 0) }
  generalize hH : ((s.heap.update a (Obj.mapSeq fun _ => (#[] : Array Value))).push (seqObj "tuple" vs.toArray 0)).push (seqObj "list" #[] 0) = H at F3 N3 ⊢
  dsimp only
  have hn2 : vs.toArray.size < 2 := by rw [List.size_toArray]; omega
  rw [if_pos hn2, if_pos hn2]
  refine wpAny_bind (wpAny_pure ?_)
  refine wpAny_bind (wpAny_pure (a := ((), SortSt.mk' general' (vs.toArray.zip vs.toArray) #[] 7 none)) ?_)
  have na := N3 (a, seqObj "list" #[] e1) (.head _)
  have hout : (arrOf (SortSt.mk' general' (vs.toArray.zip vs.toArray) #[] 7 none)).map (·.2) = vs.toArray := by
    show (vs.toArray.zip vs.toArray).map (·.2) = vs.toArray
    apply Array.toList_inj.mp
    rw [Array.toList_map, Array.toList_zip]
    exact List.map_snd_zip (Nat.le_refl _)
  have s2 := Heap.SameBut.update H a (Obj.mapSeq fun _ => vs.toArray)
  obtain ⟨c2, hc2⟩ : ∃ c2, (H.update a (Obj.mapSeq fun _ => vs.toArray)).get? a = some (seqObj "list" vs.toArray c2) := ⟨_, get?_update_seq na.1 fun _ => vs.toArray⟩
  dsimp only
  rw [hout]
  refine wpAny_bind (seqEpoch_at na.1 rfl ?_)
  refine wpAny_bind (listUpdate_at na.1 rfl ?_ (Nat.zero_le _) (by rw [List.size_toArray, sizeLine_eq]; omega))
  simp only [bne_self_eq_false, Bool.false_eq_true, if_false]
  refine wpAny_pure (h _ c2 (kas_fr F3 s2 na.2.1 na.2.2) ?_)
  exact news_set (pre := []) N3 (fun _ h => nomatch h) hna s2 hc2
theorem few_sorted {l : Addr} {Q : Value → Shared → Prop} (F : Fr h₀ L s.heap m) (N : News h₀ L s.heap news) (hl : s.heap.IsList l vs.toArray) (h2 : vs.length < 2)
    (h : ∀ D c h', Fr h₀ L h' m → News h₀ L h' ((D, listOf vs.toArray c) :: news) → Q (.ref D) { s with heap := h' }) :
    wpAny (model prog w) A (call (.builtin "sorted") [.ref l]) Q E s := by
  refine Calls.call_function_entry kind_sorted plain_sorted entry_sorted (args_sorted1 _) ?_
  unfold Builtin.«sorted»
  refine wpAny_bind (m := checkCount "sorted" 1 1 _) (wpAny_pure ?_)
  refine wpAny_bind (collect_list hl ?_ (by rw [sizeLine_eq]; omega))
  refine wpAny_bind (wpAny_newList ?_ (by rw [sizeLine_eq]; omega))
  have hsz : ((s.heap.push (seqObj "list" #[] 0)).update s.heap.objs.size (Obj.mapSeq (· ++ vs.toArray))).objs.size = s.heap.objs.size + 1 := by
    rw [Heap.size_update, size_push']
  have hoL : (((s.heap.push (seqObj "list" #[] 0)).update s.heap.objs.size (Obj.mapSeq (· ++ vs.toArray))).push (seqObj "list" vs.toArray 0)).get? (s.heap.objs.size + 1) = some (seqObj "list" vs.toArray 0) := by
    rw [← hsz]; exact Heap.get?_push_size _ rfl
  have keep : ∀ b o, s.heap.get? b = some o → (((s.heap.push (seqObj "list" #[] 0)).update s.heap.objs.size (Obj.mapSeq (· ++ vs.toArray))).push (seqObj "list" vs.toArray 0)).get? b = some o := fun b o q => by
    have hlt : b < s.heap.objs.size := Heap.lt_size q
    rw [Heap.get?_push_ne _ _ _ (by rw [hsz]; exact Nat.ne_of_lt (Nat.lt_succ_of_lt hlt)), Heap.get?_update_ne _ _ _ _ (Nat.ne_of_lt hlt), Heap.get?_push_ne _ _ _ (Nat.ne_of_lt hlt)]
    exact q
  have hL : L < s.heap.objs.size := F.ns.lt
  show wpAny _ _ _ _ _ { s with heap := ((s.heap.push (seqObj "list" #[] 0)).update s.heap.objs.size (Obj.mapSeq (· ++ vs.toArray))).push (seqObj "list" vs.toArray 0) }
  rw [hsz]
  refine wpAny_bind (wpAny_holding (wpAny_call_entry slot_list_sort ⟨_, hoL, rfl⟩ entry_list_sort ?body (args_list_sort _)))
  case body =>
    refine few_sort (s := { s with heap := ((s.heap.push (seqObj "list" #[] 0)).update s.heap.objs.size (Obj.mapSeq (· ++ vs.toArray))).push (seqObj "list" vs.toArray 0) })
      (F.kept keep) (N.grown keep) hoL (Nat.ne_of_gt (Nat.lt_succ_of_lt hL)) (Heap.get?_none_of_le (Nat.le_trans F.above (Nat.le_succ_of_le (Nat.le_of_lt hL))))
      (fun p hp => Nat.ne_of_lt (Nat.lt_succ_of_lt (Heap.lt_size (N p hp).1))) h2 fun h' c F' N' => ?_
    exact ⟨_, rfl, wpAny_pure ⟨_, rfl, h _ c h' F' N'⟩⟩
end
end Mine
end
section
open PySem PySem.W PySem.W.X PyProof.Rows PySem.Calls PySem.Spec
set_option Elab.async false
set_option maxRecDepth 100000
set_option maxHeartbeats 8000000
namespace Mine
def solveP (rec fc : Bool) (n : Nat) (vcA : List (List Con)) (ds : List Ds) : Option (List Asg) := if rec then (rbA n vcA fc false 40 [] [] ds).map (·.1) else btOut n (btConA vcA) (vkeyA vcA) fc 400 [] [] ds
/-- what Problem.getSolutions tells -/
def runP (rec fc : Bool) (cons : List Con) (n : Nat) (ds : List Ds) : Option (List Asg) :=
  match addCs cons (List.replicate n []) with
  | none => none
  | some vcA => if vcA.all (fun l => decide (l.length ≤ 500)) then (match preAll cons ds with
    | none => none
    | some ds1 => match resetAll (List.range n) ds1 with
      | none => none
      | some (false, _) => some []
      | some (true, ds2) => match solveP rec fc n vcA ds2 with
        | none => none
        | some ys => if ys.length ≤ 400 then some ys else none) else none
theorem runP_spec {rec fc : Bool} {cons : List Con} {n : Nat} {ds : List Ds} {ys : List Asg} (h : runP rec fc cons n ds = some ys) :
    ∃ vcA ds1 fin ds2, addCs cons (List.replicate n []) = some vcA ∧ (∀ l ∈ vcA, l.length ≤ 500) ∧ preAll cons ds = some ds1 ∧ resetAll (List.range n) ds1 = some (fin, ds2) ∧ ys.length ≤ 400 ∧ (fin = false → ys = []) ∧ (fin = true → solveP rec fc n vcA ds2 = some ys) := by
  unfold runP at h
  split at h
  · cases h
  rename_i vcA h1
  split at h
  case isFalse => cases h
  rename_i h2
  split at h
  · cases h
  rename_i ds1 h3
  split at h
  · cases h
  · rename_i ds2 h4
    cases h
    exact ⟨vcA, ds1, false, ds2, h1, fun l hl => by simpa using List.all_eq_true.mp h2 l hl, h3, h4, Nat.zero_le _, fun _ => rfl, fun e => by cases e⟩
  · rename_i ds2 h4
    split at h
    · cases h
    · rename_i ys' h5
      split at h
      case isFalse => cases h
      rename_i h6
      cases h
      exact ⟨vcA, ds1, true, ds2, h1, fun l hl => by simpa using List.all_eq_true.mp h2 l hl, h3, h4, h6, (fun e => by cases e), fun _ => h5⟩
theorem solveP_bt {fc : Bool} {n : Nat} {vcA : List (List Con)} {ds : List Ds} {ys : List Asg} (h : solveP false fc n vcA ds = some ys) : btOut n (btConA vcA) (vkeyA vcA) fc 400 [] [] ds = some ys := h
theorem solveP_rb {fc : Bool} {n : Nat} {vcA : List (List Con)} {ds : List Ds} {ys : List Asg} (h : solveP true fc n vcA ds = some ys) : ∃ ds3, rbA n vcA fc false 40 [] [] ds = some (ys, ds3) := by
  have h' : (rbA n vcA fc false 40 [] [] ds).map (·.1) = some ys := h
  obtain ⟨⟨a, b⟩, h1, h2⟩ := Option.map_eq_some_iff.mp h'
  cases h2
  exact ⟨b, h1⟩
def rowOf (n : Nat) (g : Asg) : List Int := (List.range n).map fun i => ((lk g i).map (·.1)).getD 0
def keysOk (n : Nat) (ys : List Asg) : Bool := ys.all fun g => (List.range n).all fun i => (lk g i).isSome
def lexLt : List Int → List Int → Bool
  | [], [] => false
  | [], _ :: _ => true
  | _ :: _, [] => false
  | x :: xs, y :: ys => if x = y then lexLt xs ys else decide (x < y)
def incr : List (List Int) → Bool
  | [] => true
  | [_] => true
  | a :: b :: l => lexLt a b && incr (b :: l)
def nodupB : List (List Int) → Bool
  | [] => true
  | a :: l => !l.contains a && nodupB l
def okRows (rows want : List (List Int)) : Bool := rows.all (fun r => want.contains r) && want.all (fun r => rows.contains r) && nodupB rows && incr want && decide (rows.length ≤ 6)
def dT (t0 t1 t2 t3 t4 : Tok) : Ds := ⟨[(0, t0), (1, t1), (2, t2), (3, t3), (4, t4)], [], []⟩
def cons4 (a b c d : Int) : List Con := [(a, [(0,1),(1,1)]), (b, [(2,1),(3,1)]), (c, [(0,1),(2,1)]), (d, [(1,1),(3,1)])]
def want4 (one other left right : Int) : List (List Int) :=
  if one + other ≠ left + right then [] else
    (List.range ((if one < left then one else left) + 1 - (if one - right < 0 then 0 else one - right)).toNat).map fun (i : Nat) => let x : Int := (if one - right < 0 then 0 else one - right) + (i : Int); [x, one - x, left - x, other - left + x]
def ok4 (rec fc : Bool) (t0 t1 t2 t3 t4 : Tok) (a b c d : Int) : Bool := match runP rec fc (cons4 a b c d) 4 [dT t0 t1 t2 t3 t4, dT t0 t1 t2 t3 t4, dT t0 t1 t2 t3 t4, dT t0 t1 t2 t3 t4] with
  | none => false
  | some ys => keysOk 4 ys && okRows (ys.map (rowOf 4)) (want4 a b c d)
def all4 (rec fc : Bool) (t0 t1 t2 t3 t4 : Tok) (a : Nat) : Bool := (List.range 5).all fun b => (List.range 5).all fun c => (List.range 5).all fun d => ok4 rec fc t0 t1 t2 t3 t4 a b c d
end Mine
end
section
open PySem PySem.W PySem.W.X PyProof.Rows PySem.Calls PySem.Spec
set_option Elab.async false
set_option maxRecDepth 100000
set_option maxHeartbeats 8000000
namespace Mine
open PyProof.Rows.LCg
theorem lex_irr : ∀ r, lexLt r r = false
  | [] => rfl
  | x :: r => by show (if x = x then lexLt r r else _) = false; rw [if_pos rfl]; exact lex_irr r
theorem lex_asym : ∀ {a b}, lexLt a b = true → lexLt b a = false
  | [], [], h => by cases h
  | [], _ :: _, _ => rfl
  | _ :: _, [], h => by cases h
  | x :: a, y :: b, h => by
    unfold lexLt at h ⊢
    split at h
    · rename_i e; rw [if_pos e.symm]; exact lex_asym h
    · rename_i e; rw [if_neg (fun e' => e e'.symm)]; simp only [decide_eq_true_eq, decide_eq_false_iff_not] at h ⊢; omega
theorem lex_tr : ∀ {a b c}, lexLt a b = true → lexLt b c = true → lexLt a c = true
  | [], [], _, _, h2 => h2
  | [], _ :: _, [], _, h2 => by cases h2
  | [], _ :: _, _ :: _, _, _ => rfl
  | _ :: _, [], _, h1, _ => by cases h1
  | _ :: _, _ :: _, [], _, h2 => by cases h2
  | x :: a, y :: b, z :: c, h1, h2 => by
    unfold lexLt at h1 h2 ⊢
    split at h1 <;> split at h2 <;> (try simp only [decide_eq_true_eq] at h1 h2)
    · rename_i e1 e2; rw [if_pos (e1.trans e2)]; exact lex_tr h1 h2
    · rename_i e1 e2; rw [if_neg (fun e => e2 (e1 ▸ e))]; simp only [decide_eq_true_eq]; omega
    · rename_i e1 e2; rw [if_neg (by omega)]; simp only [decide_eq_true_eq]; omega
    · rw [if_neg (by omega)]; simp only [decide_eq_true_eq]; omega
theorem lex_tot : ∀ {a b}, a ≠ b → lexLt a b = true ∨ lexLt b a = true
  | [], [], h => absurd rfl h
  | [], _ :: _, _ => .inl rfl
  | _ :: _, [], _ => .inr rfl
  | x :: a, y :: b, h => by
    unfold lexLt
    by_cases e : x = y
    · rw [if_pos e, if_pos e.symm]; exact lex_tot fun e' => h (by rw [e, e'])
    · rw [if_neg e, if_neg (fun e' => e e'.symm)]; simp only [decide_eq_true_eq]; omega
theorem lex_uniq : ∀ {l1 l2 : List (List Int)}, l1.Pairwise (fun a b => lexLt a b = true) → l2.Pairwise (fun a b => lexLt a b = true) → (∀ r, r ∈ l1 ↔ r ∈ l2) → l1 = l2
  | [], [], _, _, _ => rfl
  | [], b :: _, _, _, h => absurd ((h b).mpr (.head _)) (by simp)
  | a :: _, [], _, _, h => absurd ((h a).mp (.head _)) (by simp)
  | a :: t1, b :: t2, h1, h2, h => by
    rw [List.pairwise_cons] at h1 h2
    have hab : a = b := by
      rcases List.mem_cons.mp ((h a).mp (.head _)) with e | ha
      · exact e
      rcases List.mem_cons.mp ((h b).mpr (.head _)) with e | hb
      · exact e.symm
      have z1 := h2.1 a ha
      have z2 := h1.1 b hb
      rw [lex_asym z1] at z2; cases z2
    subst hab
    rw [lex_uniq h1.2 h2.2 fun r => ?_]
    constructor
    · intro hr
      rcases List.mem_cons.mp ((h r).mp (.tail _ hr)) with e | e
      · have z := h1.1 r hr; rw [e, lex_irr] at z; cases z
      · exact e
    · intro hr
      rcases List.mem_cons.mp ((h r).mpr (.tail _ hr)) with e | e
      · have z := h2.1 r hr; rw [e, lex_irr] at z; cases z
      · exact e
theorem incr_pairs : ∀ {l : List (List Int)}, incr l = true → l.Pairwise (fun a b => lexLt a b = true)
  | [], _ => .nil
  | [_], _ => List.pairwise_singleton _ _
  | a :: b :: l, h => by
    have h' : (lexLt a b && incr (b :: l)) = true := h
    rw [Bool.and_eq_true] at h'
    have ih := incr_pairs h'.2
    refine List.pairwise_cons.mpr ⟨fun c hc => ?_, ih⟩
    rcases List.mem_cons.mp hc with rfl | hc
    · exact h'.1
    · exact lex_tr h'.1 ((List.pairwise_cons.mp ih).1 c hc)
theorem nodup_of : ∀ {l : List (List Int)}, nodupB l = true → l.Nodup
  | [], _ => .nil
  | a :: l, h => by
    have h' : (!l.contains a && nodupB l) = true := h
    rw [Bool.and_eq_true] at h'
    refine List.nodup_cons.mpr ⟨fun hm => ?_, nodup_of h'.2⟩
    have z := List.contains_iff_mem.mpr hm
    rw [z] at h'; cases h'.1
theorem paired_at {α β : Type} {F : α → β → Prop} : ∀ {l₁ : List α} {l₂ : List β}, Paired F l₁ l₂ → ∀ (i : Nat) (a : α), l₁[i]? = some a → ∃ b, l₂[i]? = some b ∧ F a b
  | _, _, .nil, i, a, h => by simp at h
  | _, _, .cons (b := b) h t, 0, a, ha => by simp only [List.getElem?_cons_zero, Option.some.injEq] at ha; subst ha; exact ⟨b, rfl, h⟩
  | _, _, .cons h t, i + 1, a, ha => by simp only [List.getElem?_cons_succ] at ha ⊢; exact paired_at t i a ha
section
variable {prog : Program} {w : World} {A : Around} {E : Value → Shared → Prop} {s : Shared} {h₀ : Heap} {L : Addr} {m : Str → Option Value} {news : List (Addr × Obj)}
theorem lex_tail {b : Bool} {Q : Bool → Shared → Prop} {s₀ : Shared} : ∀ {xs ys : List Value} {r r' : List Int}, IntsAre xs r → IntsAre ys r' → r.length = r'.length → ∀ (i tk : Nat), 1 ≤ i → (∀ tk', Q (lexLt r r') { s₀ with toks := tk' }) → KatLex prog w A b false Q (xs.zip ys) i { s₀ with toks := tk }
  | _, _, _, _, .nil, .nil, _, i, tk, _, h => kat_nil (h tk)
  | _, _, _, _, .nil, .cons _ _ _, hl, _, _, _, _ => by simp at hl
  | _, _, _, _, .cons _ _ _, .nil, hl, _, _, _, _ => by simp at hl
  | _, _, _, _, .cons a t (vs := xs) (ns := r) hx, .cons a' t' (vs := ys) (ns := r') hy, hl, i, tk, hi, h => by
    have hl' : r.length = r'.length := by simpa using hl
    show KatLex prog w A b false Q ((_, _) :: (xs.zip ys)) i _
    refine kat_cons (wpAny_eqBool_int ?_)
    refine kat_go (fun he => kat_yes ?_) (fun he => kat_no ?_)
    · have he' : a = a' := by simpa using he
      refine lex_tail hx hy hl' (i + 1) tk (by omega) fun tk' => ?_
      have z := h tk'
      unfold lexLt at z
      rw [if_pos he'] at z
      exact z
    · have he' : a ≠ a' := by simpa using he
      have hb : (b && i == 0) = false := by rw [show (i == 0) = false by simp; omega]; simp
      rw [hb]
      have z := fun tk' => h tk'
      unfold lexLt at z
      rw [if_neg he'] at z
      exact kat_one _ _ (wpAny_lt_int (z tk))
theorem lex_head {Q : Bool → Shared → Prop} {s₀ : Shared} {xs ys : List Value} {r r' : List Int} (hx : IntsAre xs r) (hy : IntsAre ys r') (hl : r.length = r'.length) (tk : Nat) (h : ∀ tk', Q (lexLt r r') { s₀ with toks := tk' }) : KatLex prog w A true false Q (xs.zip ys) 0 { s₀ with toks := tk } := by
  cases hx with
  | nil => cases hy with
    | nil => exact kat_nil (h tk)
    | cons => simp at hl
  | cons a t hx => cases hy with
    | nil => simp at hl
    | cons a' t' hy =>
      have hl' := Nat.succ.inj hl
      refine kat_cons (wpAny_eqBool_int ?_)
      refine kat_go (fun he => kat_yes ?_) (fun he => kat_no ?_)
      · have he' : a = a' := by simpa using he
        refine lex_tail hx hy hl' 1 tk (Nat.le_refl _) fun tk' => ?_
        have z := h tk'
        unfold lexLt at z
        rw [if_pos he'] at z
        exact z
      · have he' : a ≠ a' := by simpa using he
        have z := fun tk' => h tk'
        unfold lexLt at z
        rw [if_neg he'] at z
        exact oneLt_int (z tk)
theorem rows_firsts {h : Heap} : ∀ {rows : List (List Int)} {T : List (Addr × Obj)}, Paired RowAt rows T → (∀ p ∈ T, h.get? p.1 = some p.2) → (∀ r ∈ rows, r ≠ []) → ∃ fs, KatTups h (refs T) fs ∧ fs.length = T.length ∧ ∀ v ∈ fs, ∃ x t, v = .int x t
  | _, _, .nil, _, _ => ⟨[], .nil, rfl, fun _ h => nomatch h⟩
  | _, _, .cons (b := p) ⟨vs, n, e, hi⟩ ht, hh, hne => by
    obtain ⟨fs, h1, h2, h3⟩ := rows_firsts ht (fun q hq => hh q (.tail _ hq)) (fun q hq => hne q (.tail _ hq))
    cases hi with
    | nil => exact absurd rfl (hne _ (.head _))
    | cons a t hi => exact ⟨.int a t :: fs, .cons (hh p (.head _)) (by rw [e]) (by rw [e]) rfl h1, by simp [h2], List.forall_mem_cons.mpr ⟨⟨_, _, rfl⟩, h3⟩⟩
theorem sorted_rows {l : Addr} {T : List (Addr × Obj)} {rows want : List (List Int)} {c kk : Nat} {Q : Value → Shared → Prop} (F : Fr h₀ L s.heap m) (N : News h₀ L s.heap news) (hl : (l, listOf (refs T).toArray c) ∈ news) (hT : ∀ p ∈ T, p ∈ news) (hr : Paired RowAt rows T) (hok : okRows rows want = true) (hk : ∀ r ∈ rows, r.length = kk) (hk0 : 1 ≤ kk)
    (h : ∀ h' tk' S c' T', Fr h₀ L h' m → News h₀ L h' ((S, listOf (refs T').toArray c') :: news) → Paired RowAt want T' → (∀ p ∈ T', p ∈ news) → Q (.ref S) { s with heap := h', toks := tk' }) :
    wpAny (model prog w) A (call (.builtin "sorted") [.ref l]) Q E s := by
  unfold okRows at hok
  simp only [Bool.and_eq_true, decide_eq_true_eq, List.all_eq_true, List.contains_iff_mem] at hok
  obtain ⟨⟨⟨⟨hA, hB⟩, hnd⟩, hinc⟩, hsz⟩ := hok
  have hnd' := nodup_of hnd
  have hpw := incr_pairs hinc
  have hlen : T.length = rows.length := (Paired.length hr).symm
  have hls : s.heap.IsList l (refs T).toArray := ⟨_, (N _ hl).1, rfl, _, rfl⟩
  by_cases h2 : T.length < 2
  · have hrw : rows = want := lex_uniq (by
      match rows, hlen with
      | [], _ => exact .nil
      | [a], _ => exact List.pairwise_singleton _ _
      | a :: b :: t, e => simp at e; omega) hpw fun r => ⟨hA r, hB r⟩
    refine few_sorted F N hls (by simpa using h2) fun D c' h' F' N' => h h' s.toks D c' T F' N' (hrw ▸ hr) hT
  · have h6 : T.length ≤ 6 := by omega
    let lt : Nat → Nat → Bool := fun i j => lexLt (rows.getD i []) (rows.getD j [])
    have hget : ∀ i, i < T.length → rows[i]? = some (rows.getD i []) := fun i hi => by
      rw [List.getD_eq_getElem?_getD, List.getElem?_eq_getElem (by omega)]; rfl
    have hS : Strict T.length lt := ⟨fun i _ => lex_irr _, fun i j hi hj hij => lex_tot fun e => hij (by
        have a := hget i hi
        have b := hget j hj
        rw [← e] at b
        exact (List.getElem?_inj (i := i) (j := j) (by omega) hnd').mp (a.trans b.symm)), fun i j k _ _ _ => lex_tr⟩
    obtain ⟨p, hp, hp1, hp2, hp3⟩ := sort_ok (by omega) h6 hS
    have hvl : (refs T).length = T.length := by simp
    refine kat_sorted (vs := refs T) F N hls (by omega) (by omega) fun D e1 h' F' N' hlt => ?_
    have hat : ∀ p ∈ T, h'.get? p.1 = some p.2 := fun p hp => (N' p (.tail _ (hT p hp))).1
    obtain ⟨fs, hfs, hfl, hfi⟩ := rows_firsts (h := h') hr hat (fun r hr' e => by have := hk r hr'; rw [e] at this; simp at this; omega)
    refine kat_kind (T := .type "int") hfs (by omega) (fun v hv => ?_) rfl ?_
    · obtain ⟨x, t, rfl⟩ := hfi v hv; exact .now
    rw [hvl]
    refine kas_pure (s := { s with heap := h' }) (lt := lt) (n := T.length) ?_ (kas_sort T.length) p s.toks hp ?_
    · intro i j C tk hi hj hC
      obtain ⟨pi, hpi, ri⟩ := paired_at hr i _ (hget i hi)
      obtain ⟨pj, hpj, rj⟩ := paired_at hr j _ (hget j hj)
      obtain ⟨vi, ni, ei, ii⟩ := ri
      obtain ⟨vj, nj, ej, ij⟩ := rj
      have hki := hk _ (List.mem_of_getElem? (hget i hi))
      have hkj := hk _ (List.mem_of_getElem? (hget j hj))
      have di : pi.2.data = .seq vi.toArray ni := by rw [ei]
      have dj : pj.2.data = .seq vj.toArray nj := by rw [ej]
      unfold kas_ask
      rw [refs_get hpi, refs_get hpj]
      refine kat_lt (s := { s with heap := h', toks := tk }) (hat pi (List.mem_of_getElem? hpi)) di (hat pj (List.mem_of_getElem? hpj)) dj ?_
      have hsz2 : decide (vi.toArray.size < vj.toArray.size) = false := by
        rw [List.size_toArray, List.size_toArray, IntsAre.length ii, IntsAre.length ij, hki, hkj]; simp
      rw [hsz2]
      exact lex_head (s₀ := { s with heap := h' }) ii ij (by rw [hki, hkj]) tk hC
    · intro tk'
      refine KasFin.intro F' N' (.head fun q hq => Nat.ne_of_lt (hlt q hq)) fun h2' c2 F2 N2 => ?_
      have hTp : (p.toList.map fun i => (refs T).getD i Value.none) = refs (p.toList.map fun i => T.getD i (0, default)) := by
        unfold refs
        rw [List.map_map (l := p.toList)]
        refine List.map_congr_left fun i hi => ?_
        have hi' := hp1 i hi
        simp only [Function.comp, List.getD_eq_getElem?_getD, List.getElem?_map, List.getElem?_eq_getElem hi', Option.map_some, Option.getD_some]
      rw [hTp] at N2
      have hq : p.toList.map (fun i => rows.getD i []) = want := by
        refine lex_uniq ?_ hpw fun r => ?_
        · exact List.pairwise_map.mpr hp3
        · constructor
          · intro hr'
            obtain ⟨i, hi, rfl⟩ := List.mem_map.mp hr'
            exact hA _ (List.mem_of_getElem? (hget i (hp1 i hi)))
          · intro hr'
            obtain ⟨i, hi⟩ := List.mem_iff_getElem?.mp (hB r hr')
            have hilt := (List.getElem?_eq_some_iff.mp hi).1
            refine List.mem_map.mpr ⟨i, hp2 i (by omega), ?_⟩
            rw [List.getD_eq_getElem?_getD, hi]; rfl
      refine h h2' tk' D c2 (p.toList.map fun i => T.getD i (0, default)) F2 N2 ?_ ?_
      · rw [← hq]
        clear hTp hq N2 hp hp3 hp2
        generalize p.toList = pl at hp1
        induction pl with
        | nil => exact .nil
        | cons i t ih =>
          obtain ⟨pi, hpi, ri⟩ := paired_at hr i _ (hget i (hp1 i (.head _)))
          refine .cons ?_ (ih fun j hj => hp1 j (.tail _ hj))
          show RowAt (rows.getD i []) (T.getD i (0, default))
          rw [List.getD_eq_getElem?_getD (l := T), hpi]
          exact ri
      · intro q hq'
        obtain ⟨i, hi, rfl⟩ := List.mem_map.mp hq'
        rw [List.getD_eq_getElem?_getD, List.getElem?_eq_getElem (hp1 i hi)]
        exact hT _ (List.getElem_mem _)
end
end Mine
end
section
open PySem PySem.W PySem.W.X PyProof.Rows PySem.Calls PySem.Spec
set_option Elab.async false
set_option maxRecDepth 100000
set_option maxHeartbeats 8000000
namespace Mine
open PyProof.Rows.LCg
/-- how one turn goes out, the variable being a cell -/
def CompK (h₀ : Heap) (L : Addr) (m : Str → Option Value) (s₁ : Shared) (I : Addr) (oI : Obj) (C : Addr) (oC : Obj) (K : Addr) (oK : Obj) (D : Addr) (ys : List Value) (J : List (Addr × Obj) → Prop) (s₂ : Shared) : Prop :=
  ∃ h' tk news', s₂ = { s₁ with heap := h', toks := tk } ∧ Fr h₀ L h' m ∧ News h₀ L h' ((I, oI) :: (C, oC) :: (K, oK) :: (D, lst ys) :: news') ∧ (∀ p ∈ news', p.1 ≠ I ∧ p.1 ≠ C ∧ p.1 ≠ K ∧ p.1 ≠ D) ∧ J news'
section
variable {prog : Program} {w : World} {A : Around} {E : Value → Shared → Prop} {s : Shared} {h₀ : Heap} {L : Addr} {m : Str → Option Value} {env : Env}
theorem block_K {elt iter : Expr} {x : Str} {px : Pos} {scope : Scope} {cl : List (Str × Addr)} {pos : Pos} {s₂ : Shared} {I : Addr} {fp : List Addr} {n : Nat} {P : Nat → Value → Prop} {St : Nat → Heap → Prop} {news : List (Addr × Obj)}
    {RR : Value → Addr → Result → Shared → Prop} (J : Nat → List Value → List (Addr × Obj) → Prop)
    (W : Walks prog w A I fp [I] n P St) (hsz : n ≤ sizeLine) (hIo : ∀ i h, St i h → ∃ o, h.get? I = some o)
    (hSt : ∀ i h h' o nw ys, St i h → h.get? I = some o → h'.get? I = some o → (∀ b o, h₀.get? b = some o → h'.get? b = some o) → News h₀ L h' nw → J i ys nw → St i h')
    (hcf : ∀ n, cellsFrom n scope.names cl = (x, n) :: cl) (hpc : ∀ H : Heap, pushCells H scope.names = H.push { cls := .type "cell", data := .cell none }) (hkind : scope.kind = .function) (hx : ∀ C K, Env.kindOf (compEnvC scope ((x, K) :: cl) C env) x = some .cell) (hst : St 0 s₂.heap) (hfp : ∀ b ∈ fp, b < s₂.heap.objs.size)
    (F : Fr h₀ L s₂.heap m) (N : News h₀ L s₂.heap news) (hIL : L ≠ I) (hI₀ : h₀.get? I = none) (off : ∀ p ∈ news, p.1 ≠ I) (hJ : J 0 [] news)
    (turn : ∀ i v oI C oC K oK D h tk ys nw (E' : Value → Shared → Prop), i < n → P i v → J i ys nw → ys.length ≤ i → oK.data = .cell (some v) → Fr h₀ L h m → News h₀ L h ((I, oI) :: (C, oC) :: (K, oK) :: (D, lst ys) :: nw) → (∀ p ∈ nw, p.1 ≠ I ∧ p.1 ≠ C ∧ p.1 ≠ K ∧ p.1 ≠ D) → ((@Ne Nat I C) ∧ (@Ne Nat I K) ∧ (@Ne Nat I D) ∧ (@Ne Nat C K) ∧ (@Ne Nat C D) ∧ (@Ne Nat K D)) →
      wpAny (model prog w) A (eval elt (compEnvC scope ((x, K) :: cl) C env)) (fun y s₄ => CompK h₀ L m s₂ I oI C oC K oK D ys (J (i + 1) (ys ++ [y])) s₄) E' { s₂ with heap := h, toks := tk })
    (hRR : ∀ D C h tk m' ys news', Fr h₀ L h m → News h₀ L h ((D, lst ys) :: news') → (∀ p ∈ news', p.1 ≠ D) → h.Ns C m' → h₀.get? C = none → h₀.get? D = none → C ≠ L → D ≠ L → C ≠ D → (∀ p ∈ news', p.1 ≠ C) → J n ys news' → RR (.ref D) C (.ok .next) { s₂ with heap := h, toks := tk }) :
    wpAny (model prog w) A (newList []) (fun acc s₃ => wpAny (model prog w) A (newFunctionEnv scope env.globals cl [] env.qual none .none (some env)) (fun cenv s₄ =>
      codeAny (model prog w) A (.compStart (.ListComp elt [⟨.Name x px, iter, [], 0⟩] scope pos) 0 (.ref I) acc { cenv with scope := relabel scope env }) (RR acc cenv.locals) s₄) E s₃) E s₂ := by
  refine wpAny_newObj_type ?_
  generalize hH2 : s₂.heap.push { cls := .type "list", dict := none, data := .seq ([] : List Value).toArray } = H2
  simp only [newFunctionEnv, Option.isSome_some, if_true]
  refine wpAny_bind (wpAny_alloc ?_)
  refine wpAny_bind (wpAny_layCells _ (fun name kind cells => by cases hkc : kind == NameKind.cell <;> simp [hkc]) _ _ _ _ ?_)
  rw [hcf, hpc]
  refine wpAny_bind (wpAny_pure ?_)
  refine wpAny_pure ?_
  dsimp only
  have hC : H2.objs.size = s₂.heap.objs.size + 1 := by rw [← hH2, Heap.size_push]
  have hK : (H2.push { cls := .type "dict", data := .dict #[] }).objs.size = s₂.heap.objs.size + 1 + 1 := by rw [Heap.size_push, hC]
  generalize hh1 : (H2.push { cls := .type "dict", data := .dict #[] }).push { cls := .type "cell", data := .cell none } = h₁
  rw [hK, hC]
  have lt0 : ∀ b, b < s₂.heap.objs.size → b ≠ s₂.heap.objs.size ∧ b ≠ s₂.heap.objs.size + 1 ∧ b ≠ s₂.heap.objs.size + 1 + 1 := fun b hb => ⟨Nat.ne_of_lt hb, Nat.ne_of_lt (Nat.lt_succ_of_lt hb), Nat.ne_of_lt (Nat.lt_succ_of_lt (Nat.lt_succ_of_lt hb))⟩
  have nDC : s₂.heap.objs.size ≠ s₂.heap.objs.size + 1 := Nat.ne_of_lt (Nat.lt_succ_self _)
  have nDK : s₂.heap.objs.size ≠ s₂.heap.objs.size + 1 + 1 := Nat.ne_of_lt (Nat.lt_succ_of_lt (Nat.lt_succ_self _))
  have nCK : s₂.heap.objs.size + 1 ≠ s₂.heap.objs.size + 1 + 1 := Nat.ne_of_lt (Nat.lt_succ_self _)
  have old : ∀ b o, s₂.heap.get? b = some o → h₁.get? b = some o := fun b o e => hh1 ▸ Heap.get?_push_of_some _ (Heap.get?_push_of_some _ (hH2 ▸ Heap.get?_push_of_some _ e))
  have gD : h₁.get? s₂.heap.objs.size = some (lst []) := hh1 ▸ Heap.get?_push_of_some _ (Heap.get?_push_of_some _ (hH2 ▸ Heap.get?_push_size _ rfl))
  have gC : h₁.get? (s₂.heap.objs.size + 1) = some { cls := .type "dict", data := .dict #[] } := by
    rw [← hh1, ← hC]; exact Heap.get?_push_of_some _ (Heap.get?_push_size _ rfl)
  have gK : h₁.get? (s₂.heap.objs.size + 1 + 1) = some { cls := .type "cell", data := .cell none } := by
    rw [← hh1, ← hK]; exact Heap.get?_push_size _ rfl
  have nsC : h₁.Ns (s₂.heap.objs.size + 1) (fun _ => none) := by
    rw [← hh1, ← hC]; exact (Heap.Ns.new H2 (.type "dict")).keeps fun b o e => Heap.get?_push_of_some _ e
  have hDf : s₂.heap.objs.size ∉ fp := fun hm => Nat.lt_irrefl _ (hfp _ hm)
  have hCf : s₂.heap.objs.size + 1 ∉ fp := fun hm => Nat.lt_irrefl _ (Nat.lt_of_succ_lt (hfp _ hm))
  have hKf : s₂.heap.objs.size + 1 + 1 ∉ fp := fun hm => Nat.lt_irrefl _ (Nat.lt_of_succ_lt (Nat.lt_of_succ_lt (hfp _ hm)))
  have hIf : I ∈ fp := W.sub I (List.mem_singleton.mpr rfl)
  have hIlt : I < s₂.heap.objs.size := hfp I hIf
  obtain ⟨nID, nIC, nIK⟩ := lt0 I hIlt
  have hst₁ : St 0 h₁ := W.frame _ _ _ hst fun b _ o e => old b o e
  have fresh₀ : ∀ a, s₂.heap.objs.size ≤ a → h₀.get? a = none := fun a ha => by
    cases e : h₀.get? a with
    | none => rfl
    | some o' =>
      have := F.keep a o' e
      exact absurd (Heap.lt_size this) (Nat.not_lt.mpr ha)
  have hD₀ := fresh₀ _ (Nat.le_refl _)
  have hC₀ := fresh₀ _ (Nat.le_succ s₂.heap.objs.size)
  have hK₀ := fresh₀ _ (Nat.le_succ_of_le (Nat.le_succ s₂.heap.objs.size))
  have hLlt : L < s₂.heap.objs.size := F.ns.lt
  obtain ⟨nLD, nLC, nLK⟩ := lt0 L hLlt
  have off₀ : ∀ p ∈ news, p.1 ≠ I ∧ p.1 ≠ s₂.heap.objs.size + 1 ∧ p.1 ≠ s₂.heap.objs.size + 1 + 1 ∧ p.1 ≠ s₂.heap.objs.size := fun p hp => by
    have z := lt0 _ (Heap.lt_size (N p hp).1)
    exact ⟨off p hp, z.2.1, z.2.2, z.1⟩
  have loop : ∀ s₃ : Shared, s₃.gens = s₂.gens → s₃.drawn = s₂.drawn → s₃.os = s₂.os → s₃.heap = h₁ →
      codeAny (model prog w) A (.compLoop (.ListComp elt [⟨.Name x px, iter, [], 0⟩] scope pos) 0 (.ref I) (.ref s₂.heap.objs.size) (compEnvC scope ((x, s₂.heap.objs.size + 1 + 1) :: cl) (s₂.heap.objs.size + 1) env))
        (RR (.ref s₂.heap.objs.size) (s₂.heap.objs.size + 1)) s₃ := by
    rintro ⟨hp3, g3, d3, t3, o3⟩ e1 e2 e3 e4
    dsimp only at e1 e2 e3 e4
    subst e1; subst e2; subst e3; subst e4
    refine codeAny_compLoop_tests
      (fun k s' => ∃ h' tk i ys v news', s' = { s₂ with heap := h', toks := tk } ∧ i ≤ n ∧ k = n + 1 - i ∧ ys.length ≤ i ∧ St i h' ∧ Fr h₀ L h' m ∧ h'.Ns (s₂.heap.objs.size + 1) (fun _ => none) ∧ h'.IsCell (s₂.heap.objs.size + 1 + 1) v ∧ News h₀ L h' ((s₂.heap.objs.size, lst ys) :: news') ∧
        (∀ p ∈ news', p.1 ≠ I ∧ p.1 ≠ s₂.heap.objs.size + 1 ∧ p.1 ≠ s₂.heap.objs.size + 1 + 1 ∧ p.1 ≠ s₂.heap.objs.size) ∧ J i ys news') ?_ (n + 1)
      ⟨_, _, 0, [], none, news, rfl, Nat.zero_le _, rfl, Nat.le_refl _, hst₁, F.keeps old, nsC, ⟨_, gK, rfl⟩, fun p hp => ?_, off₀, hJ⟩
    · rintro k s' ⟨h', tk, i, ys, v₀, news', rfl, hi, rfl, hyl, hst', F', hn', hcell', N', off', hJ'⟩
      by_cases hlt : i < n
      · refine W.item i _ _ _ hlt hst' fun v h₂ tk₂ hPv hst₂ hk₂ => ?_
        have cell₂ : h₂.IsCell (s₂.heap.objs.size + 1 + 1) v₀ := by obtain ⟨o, e, d⟩ := hcell'; exact ⟨o, hk₂ _ o (by simpa using Ne.symm nIK) e, d⟩
        refine wpAny_assign_Name (wpAny_storeName_cell (v₀ := v₀) (c := s₂.heap.objs.size + 1 + 1) hkind (hx _ _) (by simp [compEnvC]) cell₂ fun h₃ hc₃ hs₃ => ?_)
        have hst₃ : St (i + 1) h₃ := W.frame _ _ _ hst₂ fun b hb o e => hs₃.extBut b o (fun q => hKf (by have q' : b = s₂.heap.objs.size + 1 + 1 := q; rw [← q']; exact hb)) e
        obtain ⟨oI, heI⟩ := hIo _ _ hst₃
        have hn₂ : h₂.Ns (s₂.heap.objs.size + 1) (fun _ => none) := hn'.at' fun o e => hk₂ _ o (by simpa using Ne.symm nIC) e
        have hn₃ : h₃.Ns (s₂.heap.objs.size + 1) (fun _ => none) := hn₂.at' fun o e => hs₃.extBut _ _ nCK e
        obtain ⟨oC, heC, hoC⟩ := ns_obj hn₃
        obtain ⟨oK, heK, hoK⟩ := hc₃
        have F₃ : Fr h₀ L h₃ m := (fr_but F' hk₂ hIL hI₀).change hs₃ (Ne.symm nLK) hK₀
        have N₂ : News h₀ L h₂ ((s₂.heap.objs.size, lst ys) :: news') := news_but N' hk₂ fun p hp => by
          rcases List.mem_cons.mp hp with rfl | hp
          · exact Ne.symm nID
          · exact (off' p hp).1
        have N₃ : News h₀ L h₃ ((I, oI) :: (s₂.heap.objs.size + 1, oC) :: (s₂.heap.objs.size + 1 + 1, oK) :: (s₂.heap.objs.size, lst ys) :: news') := fun p hp => by
          rcases List.mem_cons.mp hp with rfl | hp
          · exact ⟨heI, Ne.symm hIL, hI₀⟩
          rcases List.mem_cons.mp hp with rfl | hp
          · exact ⟨heC, Ne.symm nLC, hC₀⟩
          rcases List.mem_cons.mp hp with rfl | hp
          · exact ⟨heK, Ne.symm nLK, hK₀⟩
          · have z := N₂ p hp
            refine ⟨hs₃.extBut _ _ ?_ z.1, z.2⟩
            rcases List.mem_cons.mp hp with rfl | hp
            · exact nDK
            · exact (off' p hp).2.2.1
        rw [List.forIn_nil]
        refine wpAny_pure ?_
        dsimp only
        rw [if_pos rfl]
        refine wpAny_mono (turn i v oI (s₂.heap.objs.size + 1) oC (s₂.heap.objs.size + 1 + 1) oK s₂.heap.objs.size h₃ _ ys news' _ hlt hPv hJ' hyl hoK F₃ N₃ off' ⟨nIC, nIK, nID, nCK, Ne.symm nDC, Ne.symm nDK⟩) (fun y s₅ h₅ => ?_) fun _ _ e => e
        obtain ⟨h₄, tk₄, news₄, rfl, F₄, N₄, off₄, hJ₄⟩ := h₅
        have zI := (N₄ (I, oI) (by simp)).1
        have zC := (N₄ (s₂.heap.objs.size + 1, oC) (by simp)).1
        have zK := (N₄ (s₂.heap.objs.size + 1 + 1, oK) (by simp)).1
        have zD := (N₄ (s₂.heap.objs.size, lst ys) (by simp)).1
        have N₄' : News h₀ L h₄ news₄ := fun p hp => N₄ p (.tail _ (.tail _ (.tail _ (.tail _ hp))))
        have hst₄ : St (i + 1) h₄ := hSt _ _ _ _ _ _ hst₃ heI zI F₄.keep N₄' hJ₄
        refine append_at (hsz := by show ys.toArray.size ≤ sizeLine; rw [List.size_toArray]; omega) zD fun h₅ hs₅ hD₅ => ?_
        refine ⟨n + 1 - (i + 1), by omega, h₅, tk₄, i + 1, ys ++ [y], some v, news₄, rfl, hlt, rfl, by rw [List.length_append, List.length_singleton]; omega, W.frame _ _ _ hst₄ fun b hb o e => hs₅.extBut b o (fun q => hDf (q ▸ hb)) e, F₄.change hs₅ (Ne.symm nLD) hD₀,
          (hoC.ns zC).sameBut hs₅ (Ne.symm nDC), ⟨oK, hs₅.extBut _ _ (Ne.symm nDK) zK, hoK⟩, fun p hp => ?_, off₄, hJ₄⟩
        rcases List.mem_cons.mp hp with rfl | hp
        · exact ⟨hD₅.trans (congrArg some (lst_snoc ys y)), Ne.symm nLD, hD₀⟩
        · exact ⟨hs₅.extBut _ _ (off₄ p hp).2.2.2 (N₄' p hp).1, (N₄' p hp).2⟩
      · obtain rfl : i = n := Nat.le_antisymm hi (Nat.not_lt.mp hlt)
        refine W.done _ _ _ hst' fun h₂ tk₂ hk₂ => ?_
        exact hRR _ _ h₂ tk₂ _ ys news' (fr_but F' hk₂ hIL hI₀) (news_but N' hk₂ fun p hp => by
          rcases List.mem_cons.mp hp with rfl | hp
          · exact Ne.symm nID
          · exact (off' p hp).1) (fun p hp => (off' p hp).2.2.2) (hn'.at' fun o e => hk₂ _ o (by simpa using Ne.symm nIC) e) hC₀ hD₀ (Ne.symm nLC) (Ne.symm nLD) (Ne.symm nDC) (fun p hp => (off' p hp).2.1) hJ'
    · rcases List.mem_cons.mp hp with rfl | hp
      · exact ⟨gD, Ne.symm nLD, hD₀⟩
      · exact ⟨old _ _ (N p hp).1, (N p hp).2⟩
  exact codeAny_compStart_list (loop _ rfl rfl rfl rfl) (W.self 0 _ _ _ hst₁ (loop _ rfl rfl rfl rfl))
end
end Mine
end
section
open PySem PySem.W PySem.W.X PyProof.Rows PySem.Calls PySem.Spec
set_option Elab.async false
set_option maxRecDepth 100000
set_option maxHeartbeats 8000000
namespace Mine
open PyProof.Rows.LCg
section
variable {prog : Program} {w : World} {A : Around} {E : Value → Shared → Prop} {s : Shared} {h₀ : Heap} {L : Addr} {m : Str → Option Value} {env : Env}
theorem compSt_listK {elt iter : Expr} {x : Str} {px : Pos} {scope : Scope} {cl : List (Str × Addr)} {pos : Pos} {news : List (Addr × Obj)} {ax : Addr} {its : Array Value} {k : Nat} {Q : Value → Shared → Prop}
    (J : Nat → List Value → List (Addr × Obj) → Prop) (hh : A.handled = none) (F : Fr h₀ L s.heap m) (N : News h₀ L s.heap news) (hm : (ax, listOf its k) ∈ news) (hsz : its.size ≤ sizeLine)
    (hcf : ∀ n, cellsFrom n scope.names cl = (x, n) :: cl) (hpc : ∀ H : Heap, pushCells H scope.names = H.push { cls := .type "cell", data := .cell none }) (hkind : scope.kind = .function) (hx : ∀ C K, Env.kindOf (compEnvC scope ((x, K) :: cl) C env) x = some .cell)
    (hJl : ∀ i ys nw, J i ys nw → (ax, listOf its k) ∈ nw) (hJ : J 0 [] news)
    (turn : ∀ I i v oI C oC K oK D h tk ys nw (E' : Value → Shared → Prop) (s₂ : Shared), s₂.gens = s.gens → its[i]? = some v → J i ys nw → oK.data = .cell (some v) → Fr h₀ L h m → News h₀ L h ((I, oI) :: (C, oC) :: (K, oK) :: (D, lst ys) :: nw) → (∀ p ∈ nw, p.1 ≠ I ∧ p.1 ≠ C ∧ p.1 ≠ K ∧ p.1 ≠ D) → ((@Ne Nat I C) ∧ (@Ne Nat I K) ∧ (@Ne Nat I D) ∧ (@Ne Nat C K) ∧ (@Ne Nat C D) ∧ (@Ne Nat K D)) →
      wpAny (model prog w) A (eval elt (compEnvC scope ((x, K) :: cl) C env)) (fun y s₄ => CompK h₀ L m s₂ I oI C oC K oK D ys (J (i + 1) (ys ++ [y])) s₄) E' { s₂ with heap := h, toks := tk })
    (fin : ∀ D h tk ys nw, Fr h₀ L h m → News h₀ L h ((D, lst ys) :: nw) → (∀ p ∈ nw, p.1 ≠ D) → J its.size ys nw → Q (.ref D) { s with heap := h, toks := tk }) :
    CompSt (model prog w) A none elt iter x px [] scope pos cl env Q E (.ref ax) s := by
  have hlt : ax < s.heap.objs.size := Heap.lt_size (N _ hm).1
  unfold CompSt
  refine wpAny_pyIter_list (items := its) ⟨_, (N _ hm).1, rfl, _, rfl⟩ ?_
  have up : ∀ b o, s.heap.get? b = some o → (s.heap.push (itO ax 0)).get? b = some o := fun b o e => Heap.get?_push_of_some _ e
  refine block_K J (Walks.list hh s.heap.objs.size ax (Nat.ne_of_lt hlt) its) hsz (fun i h st => by obtain ⟨o, e, _⟩ := st.1; exact ⟨o, e⟩) ?_ hcf hpc hkind hx ⟨⟨_, Heap.get?_push_size _ rfl, rfl, rfl⟩, ⟨_, up _ _ (N _ hm).1, rfl, _, rfl⟩⟩ ?_
    (F.keeps up) (N.grown up) (Nat.ne_of_lt F.ns.lt) (next_is_new F) (fun p hp => Nat.ne_of_lt (Heap.lt_size (N p hp).1)) hJ ?_ ?_
  · intro i h h' o nw ys st e e' _ N' hj
    refine ⟨?_, ⟨_, (N' _ (hJl _ _ _ hj)).1, rfl, _, rfl⟩⟩
    obtain ⟨o', q, r⟩ := st.1
    rw [e] at q; cases q; exact ⟨o, e', r⟩
  · intro b hb
    show b < (s.heap.push _).objs.size
    rw [Heap.size_push]
    rcases List.mem_cons.mp hb with rfl | hb
    · exact Nat.lt_succ_self _
    · rw [List.mem_singleton.mp hb]; exact Nat.lt_succ_of_lt hlt
  · rintro i v oI C oC K oK D h tk ys nw E' hi hP hj _ hK F' N' off' ne'
    exact turn _ i v oI C oC K oK D h tk ys nw E' _ rfl hP hj hK F' N' off' ne'
  · intro D C h tk m' ys nw F' N' o1 hn hC₀ hD₀ hCL hDL hCD offC hj
    refine ⟨m', hn, fun h'' hs'' => ?_⟩
    refine fin D h'' tk ys nw (F'.change hs'' hCL hC₀) (fun p hp => ⟨hs''.extBut _ _ ?_ (N' p hp).1, (N' p hp).2⟩) o1 hj
    rcases List.mem_cons.mp hp with rfl | hp
    · exact Ne.symm hCD
    · exact offC p hp
theorem compSt_listJ {elt iter : Expr} {x : Str} {px : Pos} {scope : Scope} {cl : List (Str × Addr)} {pos : Pos} {news : List (Addr × Obj)} {ax : Addr} {its : Array Value} {k : Nat} {Q : Value → Shared → Prop}
    (J : Nat → List Value → List (Addr × Obj) → Prop) (hh : A.handled = none) (F : Fr h₀ L s.heap m) (N : News h₀ L s.heap news) (hm : (ax, listOf its k) ∈ news) (hsz : its.size ≤ sizeLine)
    (hcell : ∀ y ∈ scope.names, y.2 ≠ .cell) (hkind : scope.kind = .function) (hx : scope.names.lookup x = some .local)
    (hJl : ∀ i ys nw, J i ys nw → (ax, listOf its k) ∈ nw) (hJ : J 0 [] news)
    (turn : ∀ I i v oI C oC D m₂ h tk ys nw (E' : Value → Shared → Prop) (s₂ : Shared), s₂.gens = s.gens → its[i]? = some v → J i ys nw → NsObj oC m₂ → m₂ x = some v → Fr h₀ L h m → News h₀ L h ((I, oI) :: (C, oC) :: (D, lst ys) :: nw) → (∀ p ∈ nw, p.1 ≠ I ∧ p.1 ≠ C ∧ p.1 ≠ D) → ((@Ne Nat I C) ∧ (@Ne Nat I D) ∧ (@Ne Nat C D)) →
      wpAny (model prog w) A (eval elt (compEnvC scope cl C env)) (fun y s₄ => CompOut h₀ L m s₂ I oI C oC D ys (J (i + 1) (ys ++ [y])) s₄) E' { s₂ with heap := h, toks := tk })
    (fin : ∀ D h tk ys nw, Fr h₀ L h m → News h₀ L h ((D, lst ys) :: nw) → (∀ p ∈ nw, p.1 ≠ D) → J its.size ys nw → Q (.ref D) { s with heap := h, toks := tk }) :
    CompSt (model prog w) A none elt iter x px [] scope pos cl env Q E (.ref ax) s := by
  have hlt : ax < s.heap.objs.size := Heap.lt_size (N _ hm).1
  unfold CompSt
  refine wpAny_pyIter_list (items := its) ⟨_, (N _ hm).1, rfl, _, rfl⟩ ?_
  have up : ∀ b o, s.heap.get? b = some o → (s.heap.push (itO ax 0)).get? b = some o := fun b o e => Heap.get?_push_of_some _ e
  refine block_J J (Walks.list hh s.heap.objs.size ax (Nat.ne_of_lt hlt) its) hsz (fun i h st => by obtain ⟨o, e, _⟩ := st.1; exact ⟨o, e⟩) ?_ hcell hkind hx ⟨⟨_, Heap.get?_push_size _ rfl, rfl, rfl⟩, ⟨_, up _ _ (N _ hm).1, rfl, _, rfl⟩⟩ ?_
    (F.keeps up) (N.grown up) (Nat.ne_of_lt F.ns.lt) (next_is_new F) (fun p hp => Nat.ne_of_lt (Heap.lt_size (N p hp).1)) hJ ?_ ?_
  · intro i h h' o nw ys st e e' _ N' hj
    refine ⟨?_, ⟨_, (N' _ (hJl _ _ _ hj)).1, rfl, _, rfl⟩⟩
    obtain ⟨o', q, r⟩ := st.1
    rw [e] at q; cases q; exact ⟨o, e', r⟩
  · intro b hb
    show b < (s.heap.push _).objs.size
    rw [Heap.size_push]
    rcases List.mem_cons.mp hb with rfl | hb
    · exact Nat.lt_succ_self _
    · rw [List.mem_singleton.mp hb]; exact Nat.lt_succ_of_lt hlt
  · rintro i v oI C oC D m₂ h tk ys nw E' hi hP hj _ hC hx' F' N' off' ne'
    rw [List.forIn_nil]
    refine wpAny_pure ?_
    dsimp only
    rw [if_pos rfl]
    exact turn _ i v oI C oC D m₂ h tk ys nw E' _ rfl hP hj hC hx' F' N' off' ne'
  · intro D C h tk m' ys nw F' N' o1 hn hC₀ hD₀ hCL hDL hCD offC hj
    refine ⟨m', hn, fun h'' hs'' => ?_⟩
    refine fin D h'' tk ys nw (F'.change hs'' hCL hC₀) (fun p hp => ⟨hs''.extBut _ _ ?_ (N' p hp).1, (N' p hp).2⟩) o1 hj
    rcases List.mem_cons.mp hp with rfl | hp
    · exact Ne.symm hCD
    · exact offC p hp
end
theorem paired_snoc {α β : Type} {F : α → β → Prop} {a : α} {b : β} (hab : F a b) : ∀ {l₁ : List α} {l₂ : List β}, Paired F l₁ l₂ → Paired F (l₁ ++ [a]) (l₂ ++ [b])
  | _, _, .nil => .cons hab .nil
  | _, _, .cons h t => .cons h (paired_snoc hab t)
theorem ints_snoc {n : Int} {t : Tok} : ∀ {vs : List Value} {ns : List Int}, IntsAre vs ns → IntsAre (vs ++ [.int n t]) (ns ++ [n])
  | _, _, .nil => .cons n t .nil
  | _, _, .cons a u h => .cons a u (ints_snoc h)
end Mine
end
section
open PySem PySem.W PySem.W.X PyProof.Rows PySem.Calls PySem.Spec
set_option Elab.async false
set_option maxRecDepth 100000
set_option maxHeartbeats 8000000
namespace Mine
theorem filled38 : PySem.Challenge.rw_aw5017_04 = PySem.Challenge.rw_aw5017_04 ∧ hd.heap_39 = hd.heap_39 := by k_fill; exact ⟨rfl, rfl⟩
local macro_rules | `(tactic| k_all) => `(tactic| assumption)
local macro_rules | `(tactic| ktr_room) => `(tactic| (simp only [depth_under_make, depth_under_kw, depth_in1, depth_deeper, depth_caller, recursionLimit] at *; omega))
local macro_rules | `(tactic| walk_at "getAttr ref") => `(tactic| (k_here; (with_reducible show wpAny _ _ (getAttr (Value.ref _) (PySem.Str.ofString "_hidden") _) _ _ _); k_dflt (refine' hidden_K ?k1 ?k2 ?k3 ?k4 ?_; (case k1 => k_in); (case k2 => k_asm); (case k3 => k_mem); (case k4 => k_mem); k_whole)))
local macro_rules | `(tactic| walk_at "getAttr ref") => `(tactic| (k_here; (with_reducible show wpAny _ _ (getAttr (Value.ref _) (PySem.Str.ofString "_states") _) _ _ _); k_dflt (refine' states_K ?k1 ?k2 ?k3 ?k4 ?_; (case k1 => k_in); (case k2 => k_asm); (case k3 => k_mem); (case k4 => k_mem); k_whole)))
local macro_rules | `(tactic| walk_at "getMethod ref") => `(tactic| (k_here; k_dflt (refine' meth_K ?k1 ?k2 ?k3 ?k4 ?k5 ?k6 ?k7 ?k8 ?_; (case k1 => k_in); (case k2 => k_asm); (case k3 => k_mem); (case k4 => k_mem); (case k5 => k_is); (case k6 => first | (intro M h X; exact looks_typeIn X (by k_is)) | (intro M h X; exact Looks.of_pure (by first | exact PySem.F.type_list_remove | exact PySem.F.type_list_extend))); (case k7 => decide); (case k8 => first | rfl | decide +kernel); k_whole)))
local macro_rules | `(tactic| walk_at "call builtin:list.remove") => `(tactic| (k_here; k_dflt (refine' remove_K ?k1 ?k2 ?k3 ?k4 ?k5 ?k6 ?_; (case k1 => k_in); (case k2 => k_asm); (case k3 => k_asm); (case k4 => k_upd); (case k5 => assumption); (case k6 => assumption); k_whole; intro h' F' N'; (try k_sweep))))
local macro_rules | `(tactic| walk_at "call builtin:list.append") => `(tactic| (k_here; k_dflt (refine' append_iv ?k1 ?k2 ?k3 ?k4 ?_; (case k1 => k_asm); (case k2 => k_asm); (case k3 => k_upd); (case k4 => assumption); k_whole; intro h' F' N'; (try k_sweep))))
local macro_rules | `(tactic| walk_at "call builtin:list.pop") => `(tactic| (k_here; (with_reducible show wpAny _ _ (call (Value.builtin _) [Value.ref _]) _ _ _); k_dflt (refine' pop_iv ?k1 ?k2 ?k3 ?k4 ?_; (case k1 => k_asm); (case k2 => k_asm); (case k3 => k_upd); (case k4 => assumption); k_whole; intro h' F' N'; (try k_sweep))))
local macro_rules | `(tactic| walk_at "call builtin:list.pop") => `(tactic| (dsimp only; fail_if_success (with_reducible show wpAny _ _ (call (Value.builtin _) (Prod.snd _)) _ _ _)))
local macro_rules | `(tactic| walk_at "call builtin:len") => `(tactic| (k_here; (with_reducible show wpAny _ _ (call (Value.builtin "len") [Value.ref _]) _ _ _); k_dflt (refine' len_iv ?k1 ?k2 ?k3 ?k4 ?_; (case k1 => k_in); (case k2 => k_asm); (case k3 => k_mem); (case k4 => assumption); k_whole); intro u' tk'))
local macro_rules | `(tactic| walk_at "truthy ref") => `(tactic| (k_here; k_dflt (refine' truthy_iv ?k1 ?k2 ?k3 ?k4 ?_; (case k1 => k_in); (case k2 => k_asm); (case k3 => k_mem); (case k4 => assumption); k_whole); intro tk'))
local macro_rules | `(tactic| walk_at "eval Subscript") => `(tactic| (k_here; (with_reducible show wpAny _ _ (eval (PySem.Expr.Subscript _ (PySem.Expr.Slice _ _ none _) _) _) _ _ _); refine SubSlice_ ?_))
local macro_rules | `(tactic| walk_at "delete Subscript") => `(tactic| (k_here; (with_reducible show wpAny _ _ (delete (PySem.Expr.Subscript _ (PySem.Expr.Slice _ none none _) _) _) _ _ _); refine DelSlice_ ?_))
local macro_rules | `(tactic| walk_at "call builtin:list.extend") => `(tactic| (k_here; k_dflt (refine' extend_iv ?k1 ?k2 ?k3 ?k4 ?k5 ?k6 ?k7 ?_; (case k1 => k_in); (case k2 => k_asm); (case k3 => k_asm); (case k4 => (intro o9; k_upd)); (case k5 => k_mem); (case k6 => first | assumption | omega); (case k7 => ((try simp only [List.length_drop, List.length_take]); omega)); k_whole; intro h' e' F' N'; (try k_sweep))))
local macro_rules | `(tactic| ktr_enter) => `(tactic| (refine' code_def ?k1 ?k2 ?k3 ?k4 ?k5 ?kA ?kF ?kK ?k6 ?k7 ?k8 ?k9 ?kB ?_ ?c2 ?c3 ?c4 ?c5; (case kA => first | assumption | exact fr_in (by assumption) | exact rfl); (case kF => first | assumption | exact rfl); (case kK => first | assumption | exact rfl); (case k1 => k_asm); (case k2 => k_asm); (case k3 => k_asm); (case k4 => k_asm); (case k5 => k_asm); (case k6 => k_is); (case k7 => k_is); (case k8 => ktr_room); (case k9 => first | exact BindsTo.of_eq rfl | exact binds_K (by k_in) rfl (by k_is) rfl rfl rfl); (case c5 => decide); (case kB => exact locs rfl); (case c2 => exact rfl); (case c3 => exact rfl); (case c4 => exact rfl); k_whole; intro g' L' h' FG' F' N' B' X' T'; (try dsimp only); (try k_fold)))
local macro_rules | `(tactic| k_mem) => `(tactic| (first | assumption | (refine List.mem_append_left _ ?_; assumption) | (refine List.mem_append_right _ ?_; assumption) | (refine List.mem_append_right _ ?_; k_mem)))
local macro_rules | `(tactic| walk_at "exec For Name Name cons nil") => `(tactic| (k_here; refine For_ ?_))
local macro_rules | `(tactic| walk_at "exec For Name Subscript cons nil") => `(tactic| (k_here; refine For_ ?_))
local macro_rules | `(tactic| walk_at "call ref") => `(tactic| (k_here; (with_reducible show wpAny _ _ (call (Value.ref 300) _) _ _ _); refine Stop.intro ?_))
local macro_rules | `(tactic| walk_at "compareOp In str ref") => `(tactic| (k_here; k_dflt (first
  | (refine' kin_t (knd := PySem.strKind _ _) ?k1 ?k2 ?k3 ?k4 (strKind_is _ _ _ _) ?k5 ?_; (case k1 => k_asm); (case k2 => k_mem); (case k3 => assumption); (case k4 => assumption); (case k5 => assumption); k_whole)
  | (refine' kin_f (knd := PySem.strKind _ _) ?k1 ?k2 ?k3 ?k4 (strKind_is _ _ _ _) ?k5 ?_; (case k1 => k_asm); (case k2 => k_mem); (case k3 => assumption); (case k4 => assumption); (case k5 => assumption); k_whole))))
local macro_rules | `(tactic| walk_at "compareOp NotIn str ref") => `(tactic| (k_here; k_dflt (first
  | (refine' knin_t (knd := PySem.strKind _ _) ?k1 ?k2 ?k3 ?k4 (strKind_is _ _ _ _) ?k5 ?_; (case k1 => k_asm); (case k2 => k_mem); (case k3 => assumption); (case k4 => assumption); (case k5 => assumption); k_whole)
  | (refine' knin_f (knd := PySem.strKind _ _) ?k1 ?k2 ?k3 ?k4 (strKind_is _ _ _ _) ?k5 ?_; (case k1 => k_asm); (case k2 => k_mem); (case k3 => assumption); (case k4 => assumption); (case k5 => assumption); k_whole))))
local macro_rules | `(tactic| walk_at "subscriptTail") => `(tactic| (k_here; k_dflt (refine' kda_item (knd := PySem.strKind _ _) ?k1 ?k2 ?k3 (strKind_is _ _ _ _) ?k5 ?_; (case k1 => k_asm); (case k2 => k_mem); (case k3 => assumption); (case k5 => assumption); k_whole)))
local macro_rules | `(tactic| walk_at "call builtin:list.remove") => `(tactic| (k_here; (with_reducible show wpAny _ _ (call _ _) _ _ _); refine Stop.intro ?_))
local macro_rules | `(tactic| walk_at "call ref") => `(tactic| (k_here; (with_reducible show wpAny _ _ (call (Value.ref 336) _) _ _ _); k_dflt (refine wpAny_call ?_; ktr_enter)))
open PyProof.Rows.LCg
local macro_rules | `(tactic| walk_at "call ref") => `(tactic| (k_here; (with_reducible show wpAny _ _ (call (Value.ref 93) _) _ _ _); refine Stop.intro ?_))
local macro_rules | `(tactic| walk_at "eval ListComp") => `(tactic| (k_here; k_dflt (refine ListComp_C (by with_unfolding_all rfl) (by rfl) (by decide) ?_)))
local macro_rules | `(tactic| walk_at "call type:tuple") => `(tactic| (k_here; (with_reducible show wpAny _ _ (call (Value.type "tuple") [Value.ref _]) _ _ _); refine Stop.intro ?_))
local macro_rules | `(tactic| walk_at "call builtin:sorted") => `(tactic| (k_here; (with_reducible show wpAny _ _ (call _ _) _ _ _); refine Stop.intro ?_))
section
variable {w : World} {p : Program} {loose : List Str} {mean : ExcName → Option Value} {mg mb : Str → Option Value} {A : Around} {env : Env} {outer : List Env} {A₀ : Around} {base h₀ : Heap} {L : Addr} {m : Str → Option Value} {s : Shared} {Q E : Value → Shared → Prop}
theorem rows_c {x xdx so sdx sc co va nl : Addr} {t0 t1 t2 t3 : Tok} {e e0 kc kn f : Nat} {fc : Bool} {R dyn news : List (Addr × Obj)} {ov : Obj} {nm : Nat → Str} {cs : List Dc} {ds ds1 ds2 : List Ds} {cons : List Cn} {fin : Bool} {vcA : List (List Con)} {ys : List Asg} {toks : List Tok} {want : List (List Int)} (cx : Cx w p loose mean mg mb A 350 3500 env outer A₀ base h₀ L) (F : Fr h₀ L s.heap m)
    (N : News h₀ L s.heap news) (C : Cut dyn news R) (inj : Function.Injective nm) (hx : (x, instObj 110 xdx) ∈ R) (hxd : (xdx, probD w.params t1 t2 t3 so co va e) ∈ R) (hso : (so, instObj sc sdx) ∈ R) (hsd : (sdx, btD w.params t0 fc e0) ∈ R) (hsc : sc = 186 ∨ sc = 225) (hva : (va, ov) ∈ R) (hov : ov.IsDictOf (PySem.strKind PW w) (domKv nm cs)) (lov : (va == sysModules) = false) (lva : @LT.lt Nat _ 1 va)
    (hco : (co, listOf (cons.map fun cn => Value.ref cn.tp).toArray kc) ∈ R) (hcn : ∀ cn ∈ cons, CnOk w nm R cn ∧ CnB cn) (hlc : cons.length ≤ 100) (ord : ∀ i j, i < cs.length → j < cs.length → ((nm i).cps.toList < (nm j).cps.toList ↔ i < j)) (n2 : 2 ≤ cs.length) (n6 : cs.length ≤ 6)
    (D : Dyn w.params cs ds dyn) (nd : (ads cs).Nodup) (hR : ∀ q ∈ R, q.1 ∉ ads cs)
    (hm1 : addCs (cons.map Cn.con) (List.replicate cs.length []) = some vcA) (hm2 : preAll (cons.map Cn.con) ds = some ds1) (hm3 : resetAll (List.range cs.length) ds1 = some (fin, ds2)) (hvz : ∀ l ∈ vcA, l.length ≤ 500)
    (hb : AllBare s.gens) (hlen : ys.length ≤ 400) (hy0 : fin = false → ys = []) (hyB : fin = true → sc = 186 → btOut cs.length (btConA vcA) (vkeyA vcA) fc f [] [] ds2 = some ys) (hyR : fin = true → sc = 225 → ∃ ds3, rbA cs.length vcA fc false 40 [] [] ds2 = some (ys, ds3))
    (hnl : (nl, listOf (toks.mapIdx fun i t => Value.str (nm i) t).toArray kn) ∈ R) (htl : toks.length = cs.length) (hky : keysOk cs.length ys = true) (hok : okRows (ys.map (rowOf cs.length)) want = true)
    (ret : ∀ h' tk' gens' S k' T R', Fr h₀ L h' m → News h₀ L h' ((S, listOf (refs T).toArray k') :: R') → (∀ q ∈ R, q ∈ R') → Paired RowAt want T → (∀ q ∈ T, q ∈ R') → AllBare gens' → Q (.ref S) { s with heap := h', toks := tk', gens := gens' }) :
    wpAny (model PW w) A (call (.ref 431) [.ref x, .ref nl]) Q E s := by
  obtain ⟨B, X, T, hk, hf, hd, hu, hfr, hhd⟩ := cx
  obtain rfl := C.eq
  refine wpAny_call ?_
  k_dflt (refine' code_defC ?k1 ?k2 ?k3 ?k4 ?k5 ?kA ?kF ?kK ?k6 ?k7 ?k8 ?k9 ?kB ?kD ?_ ?c2 ?c3 ?c4; (case kA => first | assumption | exact fr_in (by assumption) | exact rfl); (case kF => first | assumption | exact rfl); (case kK => first | assumption | exact rfl); (case k1 => k_asm); (case k2 => k_asm); (case k3 => k_asm); (case k4 => k_asm); (case k5 => k_asm); (case k6 => k_is); (case k7 => k_is); (case k8 => ktr_room); (case k9 => first | exact BindsTo.of_eq rfl | exact binds_K (by k_in) rfl (by k_is) rfl rfl rfl); (case kB => exact rfl); (case kD => decide +kernel); (case c2 => exact rfl); (case c3 => exact rfl); (case c4 => exact rfl); k_whole; intro g9 L9 h9 tk9 cells9 FG F1 N1 Y9 B9 X9 T9 l1; k_cells Y9; (try simp only [List.cons_append, List.nil_append] at N1); (try dsimp only); (try k_fold))
  rename_i oNm dNm
  replace dNm : oNm.data = Data.cell (some (.ref nl)) := dNm
  k_steps
  refine Stop.intro ?_
  unfold Stop
  rename Fr _ _ _ _ => F2
  rename News _ _ _ _ => N2
  refine gets_c (R := (L9 + 1, oNm) :: R) (by (refine' Cx.mk ?cxB ?cxX ?cxT ?cxk ?cxf ?cxd ?cxu ?cxfr ?cxhh; (case cxfr => exact fr_in (by assumption)); (case cxhh => assumption); (case cxB => assumption); (case cxX => assumption); (case cxT => assumption); (case cxk => exact rfl); (case cxf => exact rfl); (case cxd => (simp only [depth_in1, depth_deeper] at *; omega)); (case cxu => (simp only [units_in1, units_deeper] at *; omega)))) F2 N2 (.cons _ (.base _)) inj (.tail _ hx) (.tail _ hxd) (.tail _ hso) (.tail _ hsd) hsc (.tail _ hva) hov lov lva (.tail _ hco) (fun cn h => ⟨(hcn cn h).1.mono fun q hq => .tail _ hq, (hcn cn h).2⟩) hlc ord n2 n6 D nd ?hR2 hm1 hm2 hm3 hvz hb hlen hy0 hyB hyR ?_
  case hR2 => exact List.forall_mem_cons.mpr ⟨D.notin fun q hq => Nat.ne_of_lt (Nat.lt_succ_of_lt (l1 q (List.mem_append_right _ hq))), hR⟩
  intro h3 tk3 gens3 S k3 cp R3 F3 N3 hs3 hp3 hb3
  k_steps
  rename Fr _ _ _ _ => F4
  rename News _ _ _ _ => N4
  have hlen2 : cp.length = ys.length := (Paired.length hp3).symm
  have hnl3 := hs3 _ (List.mem_cons_of_mem _ hnl)
  have hnm3 := hs3 _ (List.mem_cons_self)
  refine compSt_listK (fun i yv nw => ∃ T : List (Addr × Obj), nw = T ++ ((S, listOf (refs cp).toArray k3) :: (cp ++ R3)) ∧ yv = refs T ∧ Paired RowAt ((ys.take i).map (rowOf cs.length)) T) hhd F4 N4 (.head _) ?hsz ?hcf ?hpc ?hkind ?hx ?hJl ?hJ ?turn ?fin
  case hsz => rw [List.size_toArray, List.length_map, sizeLine_eq]; omega
  case hcf => intro n; rfl
  case hpc => intro H; rfl
  case hkind => rfl
  case hx => intro C K; rfl
  case hJl =>
    rintro i yv nw ⟨T, rfl, _⟩
    exact List.mem_append_right _ (.head _)
  case hJ => exact ⟨[], rfl, rfl, .nil⟩
  case turn =>
    rintro I i v oI C5 oC K oK D5 h5 tk5 yv nw E' s₂ hgens hv ⟨T6, rfl, rfl, hT6⟩ hK F5 N5 off5 ne5
    have hilt : i < ys.length := by
      rw [← hlen2]
      have z := (Array.getElem?_eq_some_iff.mp hv).1
      simpa using z
    obtain ⟨pr, hpr, hgd⟩ := paired_at hp3 i _ (List.getElem?_eq_getElem hilt)
    have hv' : v = .ref pr.1 := by
      rw [List.getElem?_toArray, List.getElem?_map, hpr] at hv
      exact (Option.some.inj hv).symm
    subst hv'
    have hgm : ys[i] ∈ ys := List.getElem_mem hilt
    generalize hg : ys[i] = g at hgd hgm
    have hkeys : ∀ j, j < cs.length → ∃ x, lk g j = some x := fun j hj => by
      have z := List.all_eq_true.mp (List.all_eq_true.mp hky g hgm) j (List.mem_range.mpr hj)
      exact Option.isSome_iff_exists.mp z
    have hprm : (pr.1, pr.2) ∈ cp := List.mem_of_getElem? hpr
    obtain ⟨n1, n2', n3, n4, n5, n6'⟩ := ne5
    k_steps
    rename Fr _ _ _ _ => F6
    rename News _ _ _ _ => N6
    refine compSt_listJ (fun j yi nw => nw = (I, oI) :: (C5, oC) :: (K, oK) :: (D5, lst (refs T6)) :: (T6 ++ ((S, listOf (refs cp).toArray k3) :: (cp ++ R3))) ∧ IntsAre yi (rowOf j g)) hhd F6 N6 (.tail _ (.tail _ (.tail _ (.tail _ (List.mem_append_right _ (.tail _ (List.mem_append_right _ hnl3))))))) ?jsz ?jcell ?jkind ?jx ?jl ?j0 ?jturn ?jfin
    case jsz => rw [List.size_toArray, List.length_mapIdx, sizeLine_eq]; omega
    case jcell => decide
    case jkind => rfl
    case jx => rfl
    case jl =>
      rintro j yi nw ⟨rfl, _⟩
      exact .tail _ (.tail _ (.tail _ (.tail _ (List.mem_append_right _ (.tail _ (List.mem_append_right _ hnl3))))))
    case j0 => exact ⟨rfl, .nil⟩
    case jturn =>
      rintro I7 j v oI7 C7 oC7 D7 m7 h7 tk7 yi nw E7 s7 hg7 hv7 ⟨rfl, hi7⟩ hC7 hx7 F7 N7 off7 ne7
      rw [List.getElem?_toArray, List.getElem?_mapIdx] at hv7
      obtain ⟨t7, ht7, hv7⟩ := Option.map_eq_some_iff.mp hv7
      subst hv7
      have hjlt : j < cs.length := by rw [← htl]; exact (List.getElem?_eq_some_iff.mp ht7).1
      obtain ⟨x7, hx7'⟩ := hkeys j hjlt
      have hval : valueAt (asgKv nm g) (nm j) = some (.int x7.1 x7.2) := by rw [valueAt_asg inj, hx7']; rfl
      k_steps
      rename Fr _ _ _ _ => F9
      rename News _ _ _ _ => N9
      exact ⟨_, _, _, rfl, F9, N9, off7, rfl, by rw [show rowOf (j + 1) g = rowOf j g ++ [x7.1] by simp [rowOf, List.range_succ, hx7']]; exact ints_snoc hi7⟩
    case jfin =>
      rintro D8 h8 tk8 yi nw F8 N8 o8 ⟨rfl, hi8⟩
      k_steps
      refine Stop.intro ?_
      unfold Stop
      rename Fr _ _ _ _ => F11
      rename News _ _ _ _ => N11
      have hsz8 : yi.length = toks.length := by
        have z := IntsAre.length hi8
        rw [z]; simp [rowOf]
      refine kde_tupleOf F11 N11 ⟨_, (N11 _ (.head _)).1, rfl, _, rfl⟩ (by rw [List.size_toArray]; omega) rfl (fun T8 h12 F12 N12 lt12 => ?_)
      k_steps
      rename Fr _ _ _ _ => F13
      rename News _ _ _ _ => N13
      refine ⟨_, _, (T6 ++ [(T8, ({ cls := .type "tuple", data := .seq yi.toArray } : Obj))]) ++ ((S, listOf (refs cp).toArray k3) :: (cp ++ R3)), rfl, F13, news_sub N13 ?p1, ?p2, T6 ++ [(T8, ({ cls := .type "tuple", data := .seq yi.toArray } : Obj))], rfl, by simp [refs], ?p3⟩
      case p1 =>
        intro q hq
        simp only [List.cons_append, List.append_assoc, List.nil_append, List.mem_cons, List.mem_append] at hq ⊢
        grind
      case p2 =>
        intro q hq
        rcases List.mem_append.mp hq with hq | hq
        · rcases List.mem_append.mp hq with hq | hq
          · exact off5 q (List.mem_append_left _ hq)
          · obtain rfl := List.mem_singleton.mp hq
            exact ⟨Nat.ne_of_gt (lt12 (I, oI) (.tail _ (.head _))), Nat.ne_of_gt (lt12 (C5, oC) (.tail _ (.tail _ (.head _)))), Nat.ne_of_gt (lt12 (K, oK) (.tail _ (.tail _ (.tail _ (.head _))))), Nat.ne_of_gt (lt12 (D5, lst (refs T6)) (.tail _ (.tail _ (.tail _ (.tail _ (.head _))))))⟩
        · exact off5 q (List.mem_append_right _ hq)
      case p3 =>
        rw [List.take_add_one, List.getElem?_eq_getElem hilt, hg, List.map_append]
        exact paired_snoc ⟨yi, 0, rfl, by rw [List.size_toArray, List.length_mapIdx, htl] at hi8; exact hi8⟩ hT6
  case fin =>
    rintro D9 h9' tk9' yv nw F9 N9 o9 ⟨T, rfl, rfl, hT⟩
    have htake : (ys.take (refs cp).toArray.size).map (rowOf cs.length) = ys.map (rowOf cs.length) := by
      rw [List.take_of_length_le (by rw [List.size_toArray, List.length_map, hlen2]; exact Nat.le_refl _)]
    rw [htake] at hT
    k_steps
    refine Stop.intro ?_
    unfold Stop
    rename Fr _ _ _ _ => F10
    rename News _ _ _ _ => N10
    refine sorted_rows (kk := cs.length) (want := want) F10 N10 (.head _) (fun q hq => .tail _ (List.mem_append_left _ hq)) hT hok ?hk (by omega) ?_
    case hk =>
      intro r hr
      obtain ⟨g, _, rfl⟩ := List.mem_map.mp hr
      simp [rowOf]
    intro h11 tk11 S11 c11 T11 F11 N11 hT11 hm11
    k_steps
    rename News h₀ L (Shared.heap _) _ => N12
    rename Fr h₀ L (Shared.heap _) _ => F12
    exact ret _ _ _ S11 c11 T11 _ F12 N12 (fun q hq => .tail _ (List.mem_append_right _ (.tail _ (List.mem_append_right _ (hs3 q (.tail _ hq)))))) hT11 hm11 hb3
end
end Mine
end
section
open PySem PySem.W PySem.W.X PyProof.Rows PySem.Calls PySem.Spec
set_option Elab.async false
set_option maxRecDepth 100000
set_option maxHeartbeats 8000000
namespace Mine
open PyProof.Rows.LCg
section
variable {prog : Program} {w : World} {A : Around} {E : Value → Shared → Prop} {s : Shared} {h₀ : Heap} {L : Addr} {m : Str → Option Value} {env : Env}
theorem compSt_rangeJ {elt iter : Expr} {x : Str} {px : Pos} {scope : Scope} {cl : List (Str × Addr)} {pos : Pos} {news : List (Addr × Obj)} {r : Addr} {a b : Int} {t u v : Tok} {n : Nat} {Q : Value → Shared → Prop}
    (J : Nat → List Value → List (Addr × Obj) → Prop) (hh : A.handled = none) (F : Fr h₀ L s.heap m) (N : News h₀ L s.heap news) (hr : IsRange s.heap r a b 1 t u v) (hsm : Builtin.Range.small a b 1 = true) (hn : Builtin.Range.rangeSize a b 1 = ((n : Nat) : Int)) (hsz : n ≤ sizeLine)
    (hcell : ∀ y ∈ scope.names, y.2 ≠ .cell) (hkind : scope.kind = .function) (hx : scope.names.lookup x = some .local) (hJ : J 0 [] news)
    (turn : ∀ I i t oI C oC D m₂ h tk ys nw (E' : Value → Shared → Prop) (s₂ : Shared), s₂.gens = s.gens → i < n → J i ys nw → NsObj oC m₂ → m₂ x = some (.int (a + (i : Int)) t) → Fr h₀ L h m → News h₀ L h ((I, oI) :: (C, oC) :: (D, lst ys) :: nw) → (∀ p ∈ nw, p.1 ≠ I ∧ p.1 ≠ C ∧ p.1 ≠ D) → ((@Ne Nat I C) ∧ (@Ne Nat I D) ∧ (@Ne Nat C D)) →
      wpAny (model prog w) A (eval elt (compEnvC scope cl C env)) (fun y s₄ => CompOut h₀ L m s₂ I oI C oC D ys (J (i + 1) (ys ++ [y])) s₄) E' { s₂ with heap := h, toks := tk })
    (fin : ∀ D h tk ys nw, Fr h₀ L h m → News h₀ L h ((D, lst ys) :: nw) → (∀ p ∈ nw, p.1 ≠ D) → J n ys nw → Q (.ref D) { s with heap := h, toks := tk }) :
    CompSt (model prog w) A none elt iter x px [] scope pos cl env Q E (.ref r) s := by
  unfold CompSt
  refine wpAny_pyIter_range hr hsm ?_
  refine block_J J (range_walks hh a n) hsz (fun i h st => ⟨_, st⟩) (fun i h h' o nw ys st e e' k N _ => by
      have st' : h.get? s.heap.objs.size = some _ := st
      show h'.get? s.heap.objs.size = some _
      rw [e', ← e]; exact st') hcell hkind hx (by show IsRangeIter _ _ _ _ _; rw [hn]; simpa using Heap.get?_push_size _ rfl) (fun b hb => ?_)
    (F.keeps fun _ _ e => Heap.get?_push_of_some _ e) (N.grown fun _ _ e => Heap.get?_push_of_some _ e) (Nat.ne_of_lt F.ns.lt) (next_is_new F) (fun p hp => Nat.ne_of_lt (Heap.lt_size (N p hp).1)) hJ ?_ ?_
  · rw [List.mem_singleton.mp hb]
    show s.heap.objs.size < (s.heap.push _).objs.size
    rw [Heap.size_push]; exact Nat.lt_succ_self _
  · rintro i v oI C oC D m₂ h tk ys nw E' hi ⟨t', rfl⟩ hj _ hC hx' F' N' off' ne'
    rw [List.forIn_nil]
    refine wpAny_pure ?_
    dsimp only
    rw [if_pos rfl]
    exact turn _ i t' oI C oC D m₂ h tk ys nw E' _ rfl hi hj hC hx' F' N' off' ne'
  · intro D C h tk m' ys nw F' N' o1 hn hC₀ hD₀ hCL hDL hCD offC hj
    refine ⟨m', hn, fun h'' hs'' => ?_⟩
    refine fin D h'' tk ys nw (F'.change hs'' hCL hC₀) (fun p hp => ⟨hs''.extBut _ _ ?_ (N' p hp).1, (N' p hp).2⟩) o1 hj
    rcases List.mem_cons.mp hp with rfl | hp
    · exact Ne.symm hCD
    · exact offC p hp
end
end Mine
end
section
open PySem PySem.W PySem.W.X PyProof.Rows PySem.Calls PySem.Spec
set_option Elab.async false
set_option maxRecDepth 100000
set_option maxHeartbeats 8000000
namespace Mine
open PyProof.Rows.LCg
theorem turn_out {h₀ h : Heap} {L I C D T8 : Addr} {m : Str → Option Value} {s : Shared} {oI oC o : Obj} {tk : Nat} {T base : List (Addr × Obj)} {rows rows' : List (List Int)} {r : List Int} (F : Fr h₀ L h m) (N : News h₀ L h ((T8, o) :: (I, oI) :: (C, oC) :: (D, lst (refs T)) :: (T ++ base)))
    (l : I < T8 ∧ C < T8 ∧ D < T8 ∧ AllLt T8 (T ++ base)) (off : ∀ p ∈ T ++ base, p.1 ≠ I ∧ p.1 ≠ C ∧ p.1 ≠ D) (hT : Paired RowAt rows T) (hrow : RowAt r (T8, o)) (hrr : rows' = rows ++ [r]) :
    CompOut h₀ L m s I oI C oC D (refs T) (fun nw => ∃ T' : List (Addr × Obj), nw = T' ++ base ∧ refs T ++ [Value.ref T8] = refs T' ∧ Paired RowAt rows' T') { s with heap := h, toks := tk } := by
  refine ⟨_, _, (T ++ [(T8, o)]) ++ base, rfl, F, news_sub N ?_, ?_, T ++ [(T8, o)], rfl, by simp [refs], hrr ▸ paired_snoc hrow hT⟩
  · intro q hq
    simp only [List.append_assoc, List.cons_append, List.nil_append, List.mem_cons, List.mem_append] at hq ⊢
    grind
  · intro q hq
    rcases List.mem_append.mp hq with hq | hq
    · rcases List.mem_append.mp hq with hq | hq
      · exact off q (List.mem_append_left _ hq)
      · obtain rfl := List.mem_singleton.mp hq
        exact ⟨Nat.ne_of_gt l.1, Nat.ne_of_gt l.2.1, Nat.ne_of_gt l.2.2.1⟩
    · exact off q (List.mem_append_right _ hq)
end Mine
end
section
open PySem PySem.W PySem.W.X PyProof.Rows PySem.Calls PySem.Spec
set_option Elab.async false
set_option maxRecDepth 100000
set_option maxHeartbeats 8000000
namespace Mine
theorem k4_falsetrue_0 (t0 t1 t2 t3 t4 : Tok) : all4 false true t0 t1 t2 t3 t4 0 = true := by kernel_rfl
theorem k4_falsetrue_1 (t0 t1 t2 t3 t4 : Tok) : all4 false true t0 t1 t2 t3 t4 1 = true := by kernel_rfl
theorem k4_falsetrue_2 (t0 t1 t2 t3 t4 : Tok) : all4 false true t0 t1 t2 t3 t4 2 = true := by kernel_rfl
theorem k4_falsetrue_3 (t0 t1 t2 t3 t4 : Tok) : all4 false true t0 t1 t2 t3 t4 3 = true := by kernel_rfl
theorem k4_falsetrue_4 (t0 t1 t2 t3 t4 : Tok) : all4 false true t0 t1 t2 t3 t4 4 = true := by kernel_rfl
theorem k4_falsefalse_0 (t0 t1 t2 t3 t4 : Tok) : all4 false false t0 t1 t2 t3 t4 0 = true := by kernel_rfl
theorem k4_falsefalse_1 (t0 t1 t2 t3 t4 : Tok) : all4 false false t0 t1 t2 t3 t4 1 = true := by kernel_rfl
theorem k4_falsefalse_2 (t0 t1 t2 t3 t4 : Tok) : all4 false false t0 t1 t2 t3 t4 2 = true := by kernel_rfl
theorem k4_falsefalse_3 (t0 t1 t2 t3 t4 : Tok) : all4 false false t0 t1 t2 t3 t4 3 = true := by kernel_rfl
theorem k4_falsefalse_4 (t0 t1 t2 t3 t4 : Tok) : all4 false false t0 t1 t2 t3 t4 4 = true := by kernel_rfl
theorem k4_truetrue_0 (t0 t1 t2 t3 t4 : Tok) : all4 true true t0 t1 t2 t3 t4 0 = true := by kernel_rfl
theorem k4_truetrue_1 (t0 t1 t2 t3 t4 : Tok) : all4 true true t0 t1 t2 t3 t4 1 = true := by kernel_rfl
theorem k4_truetrue_2 (t0 t1 t2 t3 t4 : Tok) : all4 true true t0 t1 t2 t3 t4 2 = true := by kernel_rfl
theorem k4_truetrue_3 (t0 t1 t2 t3 t4 : Tok) : all4 true true t0 t1 t2 t3 t4 3 = true := by kernel_rfl
theorem k4_truetrue_4 (t0 t1 t2 t3 t4 : Tok) : all4 true true t0 t1 t2 t3 t4 4 = true := by kernel_rfl
theorem k4_truefalse_0 (t0 t1 t2 t3 t4 : Tok) : all4 true false t0 t1 t2 t3 t4 0 = true := by kernel_rfl
theorem k4_truefalse_1 (t0 t1 t2 t3 t4 : Tok) : all4 true false t0 t1 t2 t3 t4 1 = true := by kernel_rfl
theorem k4_truefalse_2 (t0 t1 t2 t3 t4 : Tok) : all4 true false t0 t1 t2 t3 t4 2 = true := by kernel_rfl
theorem k4_truefalse_3 (t0 t1 t2 t3 t4 : Tok) : all4 true false t0 t1 t2 t3 t4 3 = true := by kernel_rfl
theorem k4_truefalse_4 (t0 t1 t2 t3 t4 : Tok) : all4 true false t0 t1 t2 t3 t4 4 = true := by kernel_rfl
end Mine
end
section
open PySem PySem.W PySem.W.X PyProof.Rows PySem.Calls PySem.Spec
set_option Elab.async false
set_option maxRecDepth 100000
set_option maxHeartbeats 8000000
namespace Mine
theorem all4_of (rec fc : Bool) (t0 t1 t2 t3 t4 : Tok) (a : Nat) (ha : a < 5) : all4 rec fc t0 t1 t2 t3 t4 a = true := by
  have e : a = 0 ∨ a = 1 ∨ a = 2 ∨ a = 3 ∨ a = 4 := by omega
  cases rec <;> cases fc <;> rcases e with rfl | rfl | rfl | rfl | rfl
  · exact k4_falsefalse_0 ..
  · exact k4_falsefalse_1 ..
  · exact k4_falsefalse_2 ..
  · exact k4_falsefalse_3 ..
  · exact k4_falsefalse_4 ..
  · exact k4_falsetrue_0 ..
  · exact k4_falsetrue_1 ..
  · exact k4_falsetrue_2 ..
  · exact k4_falsetrue_3 ..
  · exact k4_falsetrue_4 ..
  · exact k4_truefalse_0 ..
  · exact k4_truefalse_1 ..
  · exact k4_truefalse_2 ..
  · exact k4_truefalse_3 ..
  · exact k4_truefalse_4 ..
  · exact k4_truetrue_0 ..
  · exact k4_truetrue_1 ..
  · exact k4_truetrue_2 ..
  · exact k4_truetrue_3 ..
  · exact k4_truetrue_4 ..
theorem pure4 (rec fc : Bool) (t0 t1 t2 t3 t4 : Tok) (a b c d : Int) (ha : 0 ≤ a ∧ a < 5) (hb : 0 ≤ b ∧ b < 5) (hc : 0 ≤ c ∧ c < 5) (hd : 0 ≤ d ∧ d < 5) :
    ∃ ys, runP rec fc (cons4 a b c d) 4 (List.replicate 4 (dT t0 t1 t2 t3 t4)) = some ys ∧ keysOk 4 ys = true ∧ okRows (ys.map (rowOf 4)) (want4 a b c d) = true := by
  obtain ⟨na, rfl⟩ : ∃ n : Nat, a = n := ⟨a.toNat, by omega⟩
  obtain ⟨nb, rfl⟩ : ∃ n : Nat, b = n := ⟨b.toNat, by omega⟩
  obtain ⟨nc, rfl⟩ : ∃ n : Nat, c = n := ⟨c.toNat, by omega⟩
  obtain ⟨nd, rfl⟩ : ∃ n : Nat, d = n := ⟨d.toNat, by omega⟩
  have h1 := all4_of rec fc t0 t1 t2 t3 t4 na (by omega)
  have h2 := List.all_eq_true.mp h1 nb (List.mem_range.mpr (by omega))
  have h3 := List.all_eq_true.mp h2 nc (List.mem_range.mpr (by omega))
  have h4 := List.all_eq_true.mp h3 nd (List.mem_range.mpr (by omega))
  unfold ok4 at h4
  split at h4
  · cases h4
  · rename_i ys hys
    rw [Bool.and_eq_true] at h4
    exact ⟨ys, hys, h4.1, h4.2⟩
end Mine
end
section
open PySem PySem.W PySem.W.X PyProof.Rows PySem.Calls PySem.Spec
set_option Elab.async false
set_option maxRecDepth 100000
set_option maxHeartbeats 8000000
namespace Mine
theorem filled34 : PySem.Challenge.rw_aw5017_04 = PySem.Challenge.rw_aw5017_04 ∧ hd.heap_39 = hd.heap_39 := by k_fill; exact ⟨rfl, rfl⟩
local macro_rules | `(tactic| k_all) => `(tactic| assumption)
local macro_rules | `(tactic| ktr_room) => `(tactic| (simp only [depth_under_make, depth_under_kw, depth_in1, depth_deeper, depth_caller, recursionLimit] at *; omega))
local macro_rules | `(tactic| walk_at "getAttr ref") => `(tactic| (k_here; (with_reducible show wpAny _ _ (getAttr (Value.ref _) (PySem.Str.ofString "_hidden") _) _ _ _); k_dflt (refine' hidden_K ?k1 ?k2 ?k3 ?k4 ?_; (case k1 => k_in); (case k2 => k_asm); (case k3 => k_mem); (case k4 => k_mem); k_whole)))
local macro_rules | `(tactic| walk_at "getAttr ref") => `(tactic| (k_here; (with_reducible show wpAny _ _ (getAttr (Value.ref _) (PySem.Str.ofString "_states") _) _ _ _); k_dflt (refine' states_K ?k1 ?k2 ?k3 ?k4 ?_; (case k1 => k_in); (case k2 => k_asm); (case k3 => k_mem); (case k4 => k_mem); k_whole)))
local macro_rules | `(tactic| walk_at "getMethod ref") => `(tactic| (k_here; k_dflt (refine' meth_K ?k1 ?k2 ?k3 ?k4 ?k5 ?k6 ?k7 ?k8 ?_; (case k1 => k_in); (case k2 => k_asm); (case k3 => k_mem); (case k4 => k_mem); (case k5 => k_is); (case k6 => first | (intro M h X; exact looks_typeIn X (by k_is)) | (intro M h X; exact Looks.of_pure (by first | exact PySem.F.type_list_remove | exact PySem.F.type_list_extend))); (case k7 => decide); (case k8 => first | rfl | decide +kernel); k_whole)))
local macro_rules | `(tactic| walk_at "call builtin:list.remove") => `(tactic| (k_here; k_dflt (refine' remove_K ?k1 ?k2 ?k3 ?k4 ?k5 ?k6 ?_; (case k1 => k_in); (case k2 => k_asm); (case k3 => k_asm); (case k4 => k_upd); (case k5 => assumption); (case k6 => assumption); k_whole; intro h' F' N'; (try k_sweep))))
local macro_rules | `(tactic| walk_at "call builtin:list.append") => `(tactic| (k_here; k_dflt (refine' append_iv ?k1 ?k2 ?k3 ?k4 ?_; (case k1 => k_asm); (case k2 => k_asm); (case k3 => k_upd); (case k4 => assumption); k_whole; intro h' F' N'; (try k_sweep))))
local macro_rules | `(tactic| walk_at "call builtin:list.pop") => `(tactic| (k_here; (with_reducible show wpAny _ _ (call (Value.builtin _) [Value.ref _]) _ _ _); k_dflt (refine' pop_iv ?k1 ?k2 ?k3 ?k4 ?_; (case k1 => k_asm); (case k2 => k_asm); (case k3 => k_upd); (case k4 => assumption); k_whole; intro h' F' N'; (try k_sweep))))
local macro_rules | `(tactic| walk_at "call builtin:list.pop") => `(tactic| (dsimp only; fail_if_success (with_reducible show wpAny _ _ (call (Value.builtin _) (Prod.snd _)) _ _ _)))
local macro_rules | `(tactic| walk_at "call builtin:len") => `(tactic| (k_here; (with_reducible show wpAny _ _ (call (Value.builtin "len") [Value.ref _]) _ _ _); k_dflt (refine' len_iv ?k1 ?k2 ?k3 ?k4 ?_; (case k1 => k_in); (case k2 => k_asm); (case k3 => k_mem); (case k4 => assumption); k_whole); intro u' tk'))
local macro_rules | `(tactic| walk_at "truthy ref") => `(tactic| (k_here; k_dflt (refine' truthy_iv ?k1 ?k2 ?k3 ?k4 ?_; (case k1 => k_in); (case k2 => k_asm); (case k3 => k_mem); (case k4 => assumption); k_whole); intro tk'))
local macro_rules | `(tactic| walk_at "eval Subscript") => `(tactic| (k_here; (with_reducible show wpAny _ _ (eval (PySem.Expr.Subscript _ (PySem.Expr.Slice _ _ none _) _) _) _ _ _); refine SubSlice_ ?_))
local macro_rules | `(tactic| walk_at "delete Subscript") => `(tactic| (k_here; (with_reducible show wpAny _ _ (delete (PySem.Expr.Subscript _ (PySem.Expr.Slice _ none none _) _) _) _ _ _); refine DelSlice_ ?_))
local macro_rules | `(tactic| walk_at "call builtin:list.extend") => `(tactic| (k_here; k_dflt (refine' extend_iv ?k1 ?k2 ?k3 ?k4 ?k5 ?k6 ?k7 ?_; (case k1 => k_in); (case k2 => k_asm); (case k3 => k_asm); (case k4 => (intro o9; k_upd)); (case k5 => k_mem); (case k6 => first | assumption | omega); (case k7 => ((try simp only [List.length_drop, List.length_take]); omega)); k_whole; intro h' e' F' N'; (try k_sweep))))
local macro_rules | `(tactic| ktr_enter) => `(tactic| (refine' code_def ?k1 ?k2 ?k3 ?k4 ?k5 ?kA ?kF ?kK ?k6 ?k7 ?k8 ?k9 ?kB ?_ ?c2 ?c3 ?c4 ?c5; (case kA => first | assumption | exact fr_in (by assumption) | exact rfl); (case kF => first | assumption | exact rfl); (case kK => first | assumption | exact rfl); (case k1 => k_asm); (case k2 => k_asm); (case k3 => k_asm); (case k4 => k_asm); (case k5 => k_asm); (case k6 => k_is); (case k7 => k_is); (case k8 => ktr_room); (case k9 => first | exact BindsTo.of_eq rfl | exact binds_K (by k_in) rfl (by k_is) rfl rfl rfl); (case c5 => decide); (case kB => exact locs rfl); (case c2 => exact rfl); (case c3 => exact rfl); (case c4 => exact rfl); k_whole; intro g' L' h' FG' F' N' B' X' T'; (try dsimp only); (try k_fold)))
local macro_rules | `(tactic| k_mem) => `(tactic| (first | assumption | (refine List.mem_append_left _ ?_; assumption) | (refine List.mem_append_right _ ?_; assumption) | (refine List.mem_append_right _ ?_; k_mem)))
local macro_rules | `(tactic| walk_at "exec For Name Name cons nil") => `(tactic| (k_here; refine For_ ?_))
local macro_rules | `(tactic| walk_at "exec For Name Subscript cons nil") => `(tactic| (k_here; refine For_ ?_))
local macro_rules | `(tactic| walk_at "call ref") => `(tactic| (k_here; (with_reducible show wpAny _ _ (call (Value.ref 300) _) _ _ _); refine Stop.intro ?_))
local macro_rules | `(tactic| walk_at "compareOp In str ref") => `(tactic| (k_here; k_dflt (first
  | (refine' kin_t (knd := PySem.strKind _ _) ?k1 ?k2 ?k3 ?k4 (strKind_is _ _ _ _) ?k5 ?_; (case k1 => k_asm); (case k2 => k_mem); (case k3 => assumption); (case k4 => assumption); (case k5 => assumption); k_whole)
  | (refine' kin_f (knd := PySem.strKind _ _) ?k1 ?k2 ?k3 ?k4 (strKind_is _ _ _ _) ?k5 ?_; (case k1 => k_asm); (case k2 => k_mem); (case k3 => assumption); (case k4 => assumption); (case k5 => assumption); k_whole))))
local macro_rules | `(tactic| walk_at "compareOp NotIn str ref") => `(tactic| (k_here; k_dflt (first
  | (refine' knin_t (knd := PySem.strKind _ _) ?k1 ?k2 ?k3 ?k4 (strKind_is _ _ _ _) ?k5 ?_; (case k1 => k_asm); (case k2 => k_mem); (case k3 => assumption); (case k4 => assumption); (case k5 => assumption); k_whole)
  | (refine' knin_f (knd := PySem.strKind _ _) ?k1 ?k2 ?k3 ?k4 (strKind_is _ _ _ _) ?k5 ?_; (case k1 => k_asm); (case k2 => k_mem); (case k3 => assumption); (case k4 => assumption); (case k5 => assumption); k_whole))))
local macro_rules | `(tactic| walk_at "subscriptTail") => `(tactic| (k_here; k_dflt (refine' kda_item (knd := PySem.strKind _ _) ?k1 ?k2 ?k3 (strKind_is _ _ _ _) ?k5 ?_; (case k1 => k_asm); (case k2 => k_mem); (case k3 => assumption); (case k5 => assumption); k_whole)))
local macro_rules | `(tactic| walk_at "call builtin:list.remove") => `(tactic| (k_here; (with_reducible show wpAny _ _ (call _ _) _ _ _); refine Stop.intro ?_))
local macro_rules | `(tactic| walk_at "call ref") => `(tactic| (k_here; (with_reducible show wpAny _ _ (call (Value.ref 336) _) _ _ _); k_dflt (refine wpAny_call ?_; ktr_enter)))
local macro_rules | `(tactic| walk_at "exec Assign cons ListComp") => `(tactic| (k_here; k_dflt (refine Assign_ListComp_C (by with_unfolding_all rfl) (by with_unfolding_all rfl) (by rfl) (by decide) ?_)))
local macro_rules | `(tactic| walk_at "call builtin:list.sort") => `(tactic| (k_here; (with_reducible show wpAny _ _ (call _ _) _ _ _); refine Stop.intro ?_))
local macro_rules | `(tactic| walk_at "exec For Name Name cons cons") => `(tactic| (k_here; refine For_ ?_))
local macro_rules | `(tactic| walk_at "exec For Tuple Subscript cons cons") => `(tactic| (k_here; refine For_ ?_))
local macro_rules | `(tactic| walk_at "exec If") => `(tactic| (k_here; (with_reducible show wpAny _ _ (exec (Stmt.If (Expr.Name _ _) _ _ _) _) _ _ _); refine If_ ?_))
local macro_rules | `(tactic| walk_at "setItem ref str") => `(tactic| (k_here; (with_reducible show wpAny _ _ (setItem _ _ _) _ _ _); refine Stop.intro ?_))
local macro_rules | `(tactic| walk_at "delItem ref str") => `(tactic| (k_here; (with_reducible show wpAny _ _ (delItem _ _) _ _ _); refine Stop.intro ?_))
local macro_rules | `(tactic| walk_at "call builtin:dict.copy") => `(tactic| (k_here; (with_reducible show wpAny _ _ (call _ _) _ _ _); refine Stop.intro ?_))
local macro_rules | `(tactic| walk_at "call builtin:list.append") => `(tactic| (k_here; (with_reducible show wpAny _ _ (call _ _) _ _ _); refine Stop.intro ?_))
local macro_rules | `(tactic| walk_at "call ref") => `(tactic| (k_here; (with_reducible show wpAny _ _ (call (Value.ref 286) _) _ _ _); refine Stop.intro ?_))
local macro_rules | `(tactic| walk_at "call ref") => `(tactic| (k_here; (with_reducible show wpAny _ _ (call (Value.ref 293) _) _ _ _); refine Stop.intro ?_))
local macro_rules | `(tactic| walk_at "call ref") => `(tactic| (k_here; (with_reducible show wpAny _ _ (call (Value.ref 208) _) _ _ _); refine Stop.intro ?_))
local macro_rules | `(tactic| walk_at "call ref") => `(tactic| (k_here; (with_reducible show wpAny _ _ (call (Value.ref (Cn.c _)) _) _ _ _); refine Stop.intro ?_))
local macro_rules | `(tactic| walk_at "getMethod ref") => `(tactic| (k_here; (with_reducible show wpAny _ _ (getMethod (Value.ref _) (PySem.Str.ofString "copy") _) _ _ _); k_dflt (refine' copy_method (knd := PySem.strKind PW _) ?k1 ?k2 ?k3 ?_; (case k1 => k_asm); (case k2 => k_mem); (case k3 => assumption); k_whole)))
local macro_rules | `(tactic| walk_at "assign Tuple") => `(tactic| (k_here; (with_reducible show wpAny _ _ (assign (Expr.Tuple _ _ _) _ (Value.ref _)) _ _ _); k_dflt (refine' unpackN_ ?k1 ?k2 ?k3 ?k4 ?k5 ?k6 ?_; (case k1 => k_asm); (case k2 => k_asm); (case k3 => (refine News.isTup (by k_asm) (by k_mem))); (case k4 => first | assumption | exact rfl); (case k5 => exact rfl); (case k6 => exact rfl); k_whole); intro h' F' N'; (try k_sweep)))
local macro_rules | `(tactic| walk_at "call builtin:hasattr") => `(tactic| (k_here; (with_reducible show wpAny _ _ (call (Value.builtin "hasattr") [Value.ref _, Value.str _ _]) _ _ _); k_dflt (refine' hasattr_K ?k1 ?k2 ?k3 ?k4 ?_; (case k1 => k_in); (case k2 => k_asm); (case k3 => k_asm); (case k4 => k_mem); k_whole); intro h' tk' F' N'; (try k_sweep)))
local macro_rules | `(tactic| walk_at "exec For Tuple Attribute cons nil") => `(tactic| (k_here; refine For_ ?_))
local macro_rules | `(tactic| walk_at "exec For Tuple Name cons nil") => `(tactic| (k_here; refine For_ ?_))
local macro_rules | `(tactic| walk_at "exec For Tuple Subscript cons nil") => `(tactic| (k_here; refine For_ ?_))
local macro_rules | `(tactic| walk_at "exec For Name Call cons nil") => `(tactic| (k_here; refine For_ ?_ (by intro _; with_unfolding_all rfl)))
local macro_rules | `(tactic| walk_at "call ref") => `(tactic| (k_here; (with_reducible show wpAny _ _ (call (Value.ref 399) _) _ _ _); refine Stop.intro ?_))
local macro_rules | `(tactic| walk_at "call ref") => `(tactic| (k_here; (with_reducible show wpAny _ _ (call (Value.ref 279) _) _ _ _); refine Stop.intro ?_))
local macro_rules | `(tactic| walk_at "call type:list") => `(tactic| (k_here; (with_reducible show wpAny _ _ (call (Value.type "list") [Value.ref _]) _ _ _); refine Stop.intro ?_))
local macro_rules | `(tactic| walk_at "truthy ref") => `(tactic| (k_here; (with_reducible show wpAny _ _ (truthy _) _ _ _); refine Stop.intro ?_))
local macro_rules | `(tactic| walk_at "getMethod ref") => `(tactic| (k_here; (with_reducible show wpAny _ _ (getMethod (Value.ref _) (PySem.Str.ofString "values") _) _ _ _); k_dflt (refine' values_method (knd := PySem.strKind PW _) ?k1 ?k2 ?k3 ?_; (case k1 => k_asm); (case k2 => k_mem); (case k3 => assumption); k_whole)))
local macro_rules | `(tactic| walk_at "call builtin:dict.values") => `(tactic| (k_here; (with_reducible show wpAny _ _ (call _ _) _ _ _); refine Stop.intro ?_))
local macro_rules | `(tactic| walk_at "call ref") => `(tactic| (k_here; (with_reducible show wpAny _ _ (call (Value.ref 64) _) _ _ _); refine Stop.intro ?_))
local macro_rules | `(tactic| walk_at "call ref") => `(tactic| (k_here; (with_reducible show wpAny _ _ (call (Value.ref 107) _) _ _ _); refine Stop.intro ?_))
local macro_rules | `(tactic| walk_at "call ref") => `(tactic| (k_here; (with_reducible show wpAny _ _ (call (Value.ref 183) _) _ _ _); refine Stop.intro ?_))
local macro_rules | `(tactic| walk_at "call ref") => `(tactic| (k_here; (with_reducible show wpAny _ _ (call (Value.ref 222) _) _ _ _); refine Stop.intro ?_))
section
variable {w : World} {p : Program} {loose : List Str} {mean : ExcName → Option Value} {mg mb : Str → Option Value} {A : Around} {env : Env} {outer : List Env} {A₀ : Around} {base h₀ : Heap} {L : Addr} {m : Str → Option Value} {s : Shared} {Q E : Value → Shared → Prop}
theorem esc_new {es : Int} {te : Tok} {R : List (Addr × Obj)} (cx : Cx w p loose mean mg mb A 350 3500 env outer A₀ base h₀ L) (F : Fr h₀ L s.heap m)
    (N : News h₀ L s.heap R) (ret : ∀ h' tk' c cdx t1 t2 ep, Fr h₀ L h' m → News h₀ L h' ((c, instObj 410 cdx) :: (cdx, escD w.params t1 t2 es te .none ep) :: R) → (∀ q ∈ R, @LT.lt Nat _ q.1 c ∧ @LT.lt Nat _ q.1 cdx) → @Ne Nat c cdx → Q (.ref c) { s with heap := h', toks := tk' }) :
    wpAny (model PW w) A (call (.ref 410) [.int es te]) Q E s := by
  obtain ⟨B, X, T, hk, hf, hd, hu, hfr, hhd⟩ := cx
  k_dflt (refine' call_cls (K := _root_.Mine.hd.heap_39 w.params) (fI := 392) F X N ?k4 ?k5 ?k6 ?_; (case k4 => k_is); (case k5 => k_is); (case k6 => k_is); k_whole; intro x' d' h' F' N' l1 l2; have hlt : ∀ q ∈ R, @LT.lt Nat _ q.1 d' := l1; have hlt2 : @LT.lt Nat _ d' x' := l2; (try k_lt l1); (try k_lt2 l2); (try k_sweep); ktr_enter)
  rename Fr h₀ L _ m => FG
  k_steps
  rename News h₀ L (Shared.heap _) _ => N9
  refine ret _ _ x' d' _ _ _ ?_ N9 (fun q hq => ?_) (Nat.ne_of_gt hlt2)
  · k_asm
  · have z := hlt q hq
    exact ⟨Nat.lt_trans z hlt2, z⟩
theorem addc_c {x xdx so co va c cdx vl : Addr} {t1 t2 t3 t4 t5 te : Tok} {es : Int} {e kc ep : Nat} {R : List (Addr × Obj)} {xs : List Value} (cx : Cx w p loose mean mg mb A 350 3500 env outer A₀ base h₀ L) (F : Fr h₀ L s.heap m)
    (N : News h₀ L s.heap ((co, listOf xs.toArray kc) :: R)) (hx : (x, instObj 110 xdx) ∈ R) (hxd : (xdx, probD w.params t1 t2 t3 so co va e) ∈ R) (hc : (c, instObj 410 cdx) ∈ R) (hcd : (cdx, escD w.params t4 t5 es te .none ep) ∈ R) (hlen : xs.length ≤ 500) (hco : ∀ q ∈ R, q.1 ≠ co)
    (ret : ∀ h' tk' T, Fr h₀ L h' m → News h₀ L h' ((co, listOf (xs ++ [Value.ref T]).toArray (kc + 1)) :: (T, ({ cls := .type "tuple", data := .seq #[.ref c, .ref vl] } : Obj)) :: R) → (∀ q ∈ R, @LT.lt Nat _ q.1 T) → @Ne Nat T co → Q .none { s with heap := h', toks := tk' }) :
    wpAny (model PW w) A (call (.ref 79) [.ref x, .ref c, .ref vl]) Q E s := by
  obtain ⟨B, X, T, hk, hf, hd, hu, hfr, hhd⟩ := cx
  refine wpAny_call ?_
  k_dflt ktr_enter
  rename Fr h₀ L _ m => FG
  k_steps
  rename Fr _ _ _ _ => F1
  rename News _ _ _ _ => N1
  rename _ < _ ∧ AllLt _ _ => l1
  rename_i T1 _
  have l2 := allLt_mem l1.2
  refine append_K (D := co) (n := kc) (its := xs.toArray) F1 (news_sub (l' := (co, listOf xs.toArray kc) :: (T1, ({ cls := .type "tuple", data := .seq #[.ref c, .ref vl] } : Obj)) :: R) N1 ?a1) (.head ?a2) (fun h2 F2 N2 => ?a3) (by simp; rw [sizeLine_eq]; omega)
  case a1 => intro q hq; simp only [List.mem_cons] at hq ⊢; grind
  case a2 => exact List.forall_mem_cons.mpr ⟨Nat.ne_of_gt l1.1, hco⟩
  case a3 =>
    k_steps
    rename News h₀ L _ _ => N3
    refine ret _ _ T1 ?_ (news_sub N3 ?_) l2 (Nat.ne_of_gt l1.1)
    · k_asm
    · intro q hq; simp only [List.push_toArray, List.mem_cons] at hq ⊢; grind
end
end Mine
end
section
open PySem PySem.W PySem.W.X PyProof.Rows PySem.Calls PySem.Spec
set_option Elab.async false
set_option maxRecDepth 100000
set_option maxHeartbeats 8000000
namespace Mine
theorem filled35 : PySem.Challenge.rw_aw5017_04 = PySem.Challenge.rw_aw5017_04 ∧ hd.heap_39 = hd.heap_39 := by k_fill; exact ⟨rfl, rfl⟩
local macro_rules | `(tactic| k_all) => `(tactic| assumption)
local macro_rules | `(tactic| ktr_room) => `(tactic| (simp only [depth_under_make, depth_under_kw, depth_in1, depth_deeper, depth_caller, recursionLimit] at *; omega))
local macro_rules | `(tactic| walk_at "getAttr ref") => `(tactic| (k_here; (with_reducible show wpAny _ _ (getAttr (Value.ref _) (PySem.Str.ofString "_hidden") _) _ _ _); k_dflt (refine' hidden_K ?k1 ?k2 ?k3 ?k4 ?_; (case k1 => k_in); (case k2 => k_asm); (case k3 => k_mem); (case k4 => k_mem); k_whole)))
local macro_rules | `(tactic| walk_at "getAttr ref") => `(tactic| (k_here; (with_reducible show wpAny _ _ (getAttr (Value.ref _) (PySem.Str.ofString "_states") _) _ _ _); k_dflt (refine' states_K ?k1 ?k2 ?k3 ?k4 ?_; (case k1 => k_in); (case k2 => k_asm); (case k3 => k_mem); (case k4 => k_mem); k_whole)))
local macro_rules | `(tactic| walk_at "getMethod ref") => `(tactic| (k_here; k_dflt (refine' meth_K ?k1 ?k2 ?k3 ?k4 ?k5 ?k6 ?k7 ?k8 ?_; (case k1 => k_in); (case k2 => k_asm); (case k3 => k_mem); (case k4 => k_mem); (case k5 => k_is); (case k6 => first | (intro M h X; exact looks_typeIn X (by k_is)) | (intro M h X; exact Looks.of_pure (by first | exact PySem.F.type_list_remove | exact PySem.F.type_list_extend))); (case k7 => decide); (case k8 => first | rfl | decide +kernel); k_whole)))
local macro_rules | `(tactic| walk_at "call builtin:list.remove") => `(tactic| (k_here; k_dflt (refine' remove_K ?k1 ?k2 ?k3 ?k4 ?k5 ?k6 ?_; (case k1 => k_in); (case k2 => k_asm); (case k3 => k_asm); (case k4 => k_upd); (case k5 => assumption); (case k6 => assumption); k_whole; intro h' F' N'; (try k_sweep))))
local macro_rules | `(tactic| walk_at "call builtin:list.append") => `(tactic| (k_here; k_dflt (refine' append_iv ?k1 ?k2 ?k3 ?k4 ?_; (case k1 => k_asm); (case k2 => k_asm); (case k3 => k_upd); (case k4 => assumption); k_whole; intro h' F' N'; (try k_sweep))))
local macro_rules | `(tactic| walk_at "call builtin:list.pop") => `(tactic| (k_here; (with_reducible show wpAny _ _ (call (Value.builtin _) [Value.ref _]) _ _ _); k_dflt (refine' pop_iv ?k1 ?k2 ?k3 ?k4 ?_; (case k1 => k_asm); (case k2 => k_asm); (case k3 => k_upd); (case k4 => assumption); k_whole; intro h' F' N'; (try k_sweep))))
local macro_rules | `(tactic| walk_at "call builtin:list.pop") => `(tactic| (dsimp only; fail_if_success (with_reducible show wpAny _ _ (call (Value.builtin _) (Prod.snd _)) _ _ _)))
local macro_rules | `(tactic| walk_at "call builtin:len") => `(tactic| (k_here; (with_reducible show wpAny _ _ (call (Value.builtin "len") [Value.ref _]) _ _ _); k_dflt (refine' len_iv ?k1 ?k2 ?k3 ?k4 ?_; (case k1 => k_in); (case k2 => k_asm); (case k3 => k_mem); (case k4 => assumption); k_whole); intro u' tk'))
local macro_rules | `(tactic| walk_at "truthy ref") => `(tactic| (k_here; k_dflt (refine' truthy_iv ?k1 ?k2 ?k3 ?k4 ?_; (case k1 => k_in); (case k2 => k_asm); (case k3 => k_mem); (case k4 => assumption); k_whole); intro tk'))
local macro_rules | `(tactic| walk_at "eval Subscript") => `(tactic| (k_here; (with_reducible show wpAny _ _ (eval (PySem.Expr.Subscript _ (PySem.Expr.Slice _ _ none _) _) _) _ _ _); refine SubSlice_ ?_))
local macro_rules | `(tactic| walk_at "delete Subscript") => `(tactic| (k_here; (with_reducible show wpAny _ _ (delete (PySem.Expr.Subscript _ (PySem.Expr.Slice _ none none _) _) _) _ _ _); refine DelSlice_ ?_))
local macro_rules | `(tactic| walk_at "call builtin:list.extend") => `(tactic| (k_here; k_dflt (refine' extend_iv ?k1 ?k2 ?k3 ?k4 ?k5 ?k6 ?k7 ?_; (case k1 => k_in); (case k2 => k_asm); (case k3 => k_asm); (case k4 => (intro o9; k_upd)); (case k5 => k_mem); (case k6 => first | assumption | omega); (case k7 => ((try simp only [List.length_drop, List.length_take]); omega)); k_whole; intro h' e' F' N'; (try k_sweep))))
local macro_rules | `(tactic| ktr_enter) => `(tactic| (refine' code_def ?k1 ?k2 ?k3 ?k4 ?k5 ?kA ?kF ?kK ?k6 ?k7 ?k8 ?k9 ?kB ?_ ?c2 ?c3 ?c4 ?c5; (case kA => first | assumption | exact fr_in (by assumption) | exact rfl); (case kF => first | assumption | exact rfl); (case kK => first | assumption | exact rfl); (case k1 => k_asm); (case k2 => k_asm); (case k3 => k_asm); (case k4 => k_asm); (case k5 => k_asm); (case k6 => k_is); (case k7 => k_is); (case k8 => ktr_room); (case k9 => first | exact BindsTo.of_eq rfl | exact binds_K (by k_in) rfl (by k_is) rfl rfl rfl); (case c5 => decide); (case kB => exact locs rfl); (case c2 => exact rfl); (case c3 => exact rfl); (case c4 => exact rfl); k_whole; intro g' L' h' FG' F' N' B' X' T'; (try dsimp only); (try k_fold)))
local macro_rules | `(tactic| k_mem) => `(tactic| (first | assumption | (refine List.mem_append_left _ ?_; assumption) | (refine List.mem_append_right _ ?_; assumption) | (refine List.mem_append_right _ ?_; k_mem)))
local macro_rules | `(tactic| walk_at "exec For Name Name cons nil") => `(tactic| (k_here; refine For_ ?_))
local macro_rules | `(tactic| walk_at "exec For Name Subscript cons nil") => `(tactic| (k_here; refine For_ ?_))
local macro_rules | `(tactic| walk_at "call ref") => `(tactic| (k_here; (with_reducible show wpAny _ _ (call (Value.ref 300) _) _ _ _); refine Stop.intro ?_))
local macro_rules | `(tactic| walk_at "compareOp In str ref") => `(tactic| (k_here; k_dflt (first
  | (refine' kin_t (knd := PySem.strKind _ _) ?k1 ?k2 ?k3 ?k4 (strKind_is _ _ _ _) ?k5 ?_; (case k1 => k_asm); (case k2 => k_mem); (case k3 => assumption); (case k4 => assumption); (case k5 => assumption); k_whole)
  | (refine' kin_f (knd := PySem.strKind _ _) ?k1 ?k2 ?k3 ?k4 (strKind_is _ _ _ _) ?k5 ?_; (case k1 => k_asm); (case k2 => k_mem); (case k3 => assumption); (case k4 => assumption); (case k5 => assumption); k_whole))))
local macro_rules | `(tactic| walk_at "compareOp NotIn str ref") => `(tactic| (k_here; k_dflt (first
  | (refine' knin_t (knd := PySem.strKind _ _) ?k1 ?k2 ?k3 ?k4 (strKind_is _ _ _ _) ?k5 ?_; (case k1 => k_asm); (case k2 => k_mem); (case k3 => assumption); (case k4 => assumption); (case k5 => assumption); k_whole)
  | (refine' knin_f (knd := PySem.strKind _ _) ?k1 ?k2 ?k3 ?k4 (strKind_is _ _ _ _) ?k5 ?_; (case k1 => k_asm); (case k2 => k_mem); (case k3 => assumption); (case k4 => assumption); (case k5 => assumption); k_whole))))
local macro_rules | `(tactic| walk_at "subscriptTail") => `(tactic| (k_here; k_dflt (refine' kda_item (knd := PySem.strKind _ _) ?k1 ?k2 ?k3 (strKind_is _ _ _ _) ?k5 ?_; (case k1 => k_asm); (case k2 => k_mem); (case k3 => assumption); (case k5 => assumption); k_whole)))
theorem fr_in2 {A : Around} {e1 e2 env : Env} {outer : List Env} (h : A.frames = some (env :: outer)) : Option.map (e2 :: ·) (Option.map (e1 :: ·) A.frames) = some (e2 :: e1 :: env :: outer) := by rw [h]; rfl
local macro_rules | `(tactic| ktr_enter) => `(tactic| (refine' code_def ?k1 ?k2 ?k3 ?k4 ?k5 ?kA ?kF ?kK ?k6 ?k7 ?k8 ?k9 ?kB ?_ ?c2 ?c3 ?c4 ?c5; (case kA => first | assumption | exact fr_in (by assumption) | exact fr_in2 (by assumption) | exact rfl); (case kF => first | assumption | exact rfl); (case kK => first | assumption | exact rfl); (case k1 => k_asm); (case k2 => k_asm); (case k3 => k_asm); (case k4 => k_asm); (case k5 => k_asm); (case k6 => k_is); (case k7 => k_is); (case k8 => ktr_room); (case k9 => first | exact BindsTo.of_eq rfl | exact binds_K (by k_in) rfl (by k_is) rfl rfl rfl); (case c5 => decide); (case kB => exact locs rfl); (case c2 => exact rfl); (case c3 => exact rfl); (case c4 => exact rfl); k_whole; intro g' L' h' FG' F' N' B' X' T'; (try dsimp only); (try k_fold)))
local macro_rules | `(tactic| k_enter) => `(tactic| ktr_enter)
theorem swap_in {h₀ h : Heap} {L : Addr} {a b c d e f : Addr × Obj} {R : List (Addr × Obj)} (N : News h₀ L h (a :: b :: c :: d :: e :: f :: R)) : News h₀ L h (a :: b :: e :: f :: c :: d :: R) := news_sub N (by intro q hq; simp only [List.mem_cons] at hq ⊢; grind)
section
variable {w : World} {p : Program} {loose : List Str} {mean : ExcName → Option Value} {mg mb : Str → Option Value} {A : Around} {env : Env} {outer : List Env} {A₀ : Around} {base h₀ : Heap} {L : Addr} {m : Str → Option Value} {s : Shared} {Q E : Value → Shared → Prop}
theorem prob_c {k : Int} {tk : Tok} {R : List (Addr × Obj)} (cx : Cx w p loose mean mg mb A 350 3500 env outer A₀ base h₀ L) (F : Fr h₀ L s.heap m)
    (N : News h₀ L s.heap R)
    (ret : ∀ h' tk' x xdx so sdx co va sc fc ov t1 t2 t3 t0 e e0, Fr h₀ L h' m → News h₀ L h' ((va, ov) :: (co, listOf #[] 0) :: (x, instObj 110 xdx) :: (xdx, probD w.params t1 t2 t3 so co va e) :: (so, instObj sc sdx) :: (sdx, btD w.params t0 fc e0) :: R) → ov.IsDictOf (PySem.strKind PW w) [] → (sc = 186 ∨ sc = 225) →
      (∀ q ∈ (co, listOf #[] 0) :: (x, instObj 110 xdx) :: (xdx, probD w.params t1 t2 t3 so co va e) :: (so, instObj sc sdx) :: (sdx, btD w.params t0 fc e0) :: R, @LT.lt Nat _ q.1 va) → (∀ q ∈ (x, instObj 110 xdx) :: (xdx, probD w.params t1 t2 t3 so co va e) :: (so, instObj sc sdx) :: (sdx, btD w.params t0 fc e0) :: R, @LT.lt Nat _ q.1 co) → Q (.ref x) { s with heap := h', toks := tk' }) :
    wpAny (model PW w) A (call (.ref 426) [.int k tk]) Q E s := by
  obtain ⟨B, X, T, hk, hf, hd, hu, hfr, hhd⟩ := cx
  refine wpAny_call ?_
  k_dflt ktr_enter
  rename Fr h₀ L _ m => FG
  k_steps
  · rename _ < _ ∧ _ < _ ∧ _ < _ ∧ _ < _ ∧ _ < _ ∧ AllLt _ _ => lv
    rename _ < _ ∧ _ < _ ∧ _ < _ ∧ _ < _ ∧ AllLt _ _ => lc
    rename News h₀ L (Shared.heap _) _ => N9
    rename Fr h₀ L (Shared.heap _) _ => F9
    rename Obj.IsDictOf (PySem.strKind PW w) _ [] => hd9
    exact ret _ _ _ _ _ _ _ _ 186 true _ _ _ _ _ _ _ F9 (swap_in N9) hd9 (.inl rfl) (List.forall_mem_cons.mpr ⟨lv.1, List.forall_mem_cons.mpr ⟨lv.2.2.2.1, List.forall_mem_cons.mpr ⟨lv.2.2.2.2.1, List.forall_mem_cons.mpr ⟨lv.2.1, List.forall_mem_cons.mpr ⟨lv.2.2.1, allLt_mem lv.2.2.2.2.2⟩⟩⟩⟩⟩) (List.forall_mem_cons.mpr ⟨lc.2.2.1, List.forall_mem_cons.mpr ⟨lc.2.2.2.1, List.forall_mem_cons.mpr ⟨lc.1, List.forall_mem_cons.mpr ⟨lc.2.1, allLt_mem lc.2.2.2.2⟩⟩⟩⟩)
  · rename _ < _ ∧ _ < _ ∧ _ < _ ∧ _ < _ ∧ _ < _ ∧ AllLt _ _ => lv
    rename _ < _ ∧ _ < _ ∧ _ < _ ∧ _ < _ ∧ AllLt _ _ => lc
    rename News h₀ L (Shared.heap _) _ => N9
    rename Fr h₀ L (Shared.heap _) _ => F9
    rename Obj.IsDictOf (PySem.strKind PW w) _ [] => hd9
    exact ret _ _ _ _ _ _ _ _ 186 false _ _ _ _ _ _ _ F9 N9 hd9 (.inl rfl) (List.forall_mem_cons.mpr ⟨lv.1, List.forall_mem_cons.mpr ⟨lv.2.1, List.forall_mem_cons.mpr ⟨lv.2.2.1, List.forall_mem_cons.mpr ⟨lv.2.2.2.1, List.forall_mem_cons.mpr ⟨lv.2.2.2.2.1, allLt_mem lv.2.2.2.2.2⟩⟩⟩⟩⟩) (List.forall_mem_cons.mpr ⟨lc.1, List.forall_mem_cons.mpr ⟨lc.2.1, List.forall_mem_cons.mpr ⟨lc.2.2.1, List.forall_mem_cons.mpr ⟨lc.2.2.2.1, allLt_mem lc.2.2.2.2⟩⟩⟩⟩)
  · rename _ < _ ∧ _ < _ ∧ _ < _ ∧ _ < _ ∧ _ < _ ∧ AllLt _ _ => lv
    rename _ < _ ∧ _ < _ ∧ _ < _ ∧ _ < _ ∧ AllLt _ _ => lc
    rename News h₀ L (Shared.heap _) _ => N9
    rename Fr h₀ L (Shared.heap _) _ => F9
    rename Obj.IsDictOf (PySem.strKind PW w) _ [] => hd9
    exact ret _ _ _ _ _ _ _ _ 225 _ _ _ _ _ _ _ _ F9 N9 hd9 (.inr rfl) (List.forall_mem_cons.mpr ⟨lv.1, List.forall_mem_cons.mpr ⟨lv.2.1, List.forall_mem_cons.mpr ⟨lv.2.2.1, List.forall_mem_cons.mpr ⟨lv.2.2.2.1, List.forall_mem_cons.mpr ⟨lv.2.2.2.2.1, allLt_mem lv.2.2.2.2.2⟩⟩⟩⟩⟩) (List.forall_mem_cons.mpr ⟨lc.1, List.forall_mem_cons.mpr ⟨lc.2.1, List.forall_mem_cons.mpr ⟨lc.2.2.1, List.forall_mem_cons.mpr ⟨lc.2.2.2.1, allLt_mem lc.2.2.2.2⟩⟩⟩⟩)
end
end Mine
end
section
open PySem PySem.W PySem.W.X PyProof.Rows PySem.Calls PySem.Spec
set_option Elab.async false
set_option maxRecDepth 100000
set_option maxHeartbeats 8000000
namespace Mine
theorem filled33 : PySem.Challenge.rw_aw5017_04 = PySem.Challenge.rw_aw5017_04 ∧ hd.heap_39 = hd.heap_39 := by k_fill; exact ⟨rfl, rfl⟩
local macro_rules | `(tactic| k_all) => `(tactic| assumption)
local macro_rules | `(tactic| ktr_room) => `(tactic| (simp only [depth_under_make, depth_under_kw, depth_in1, depth_deeper, depth_caller, recursionLimit] at *; omega))
local macro_rules | `(tactic| walk_at "getAttr ref") => `(tactic| (k_here; (with_reducible show wpAny _ _ (getAttr (Value.ref _) (PySem.Str.ofString "_hidden") _) _ _ _); k_dflt (refine' hidden_K ?k1 ?k2 ?k3 ?k4 ?_; (case k1 => k_in); (case k2 => k_asm); (case k3 => k_mem); (case k4 => k_mem); k_whole)))
local macro_rules | `(tactic| walk_at "getAttr ref") => `(tactic| (k_here; (with_reducible show wpAny _ _ (getAttr (Value.ref _) (PySem.Str.ofString "_states") _) _ _ _); k_dflt (refine' states_K ?k1 ?k2 ?k3 ?k4 ?_; (case k1 => k_in); (case k2 => k_asm); (case k3 => k_mem); (case k4 => k_mem); k_whole)))
local macro_rules | `(tactic| walk_at "getMethod ref") => `(tactic| (k_here; k_dflt (refine' meth_K ?k1 ?k2 ?k3 ?k4 ?k5 ?k6 ?k7 ?k8 ?_; (case k1 => k_in); (case k2 => k_asm); (case k3 => k_mem); (case k4 => k_mem); (case k5 => k_is); (case k6 => first | (intro M h X; exact looks_typeIn X (by k_is)) | (intro M h X; exact Looks.of_pure (by first | exact PySem.F.type_list_remove | exact PySem.F.type_list_extend))); (case k7 => decide); (case k8 => first | rfl | decide +kernel); k_whole)))
local macro_rules | `(tactic| walk_at "call builtin:list.remove") => `(tactic| (k_here; k_dflt (refine' remove_K ?k1 ?k2 ?k3 ?k4 ?k5 ?k6 ?_; (case k1 => k_in); (case k2 => k_asm); (case k3 => k_asm); (case k4 => k_upd); (case k5 => assumption); (case k6 => assumption); k_whole; intro h' F' N'; (try k_sweep))))
local macro_rules | `(tactic| walk_at "call builtin:list.append") => `(tactic| (k_here; k_dflt (refine' append_iv ?k1 ?k2 ?k3 ?k4 ?_; (case k1 => k_asm); (case k2 => k_asm); (case k3 => k_upd); (case k4 => assumption); k_whole; intro h' F' N'; (try k_sweep))))
local macro_rules | `(tactic| walk_at "call builtin:list.pop") => `(tactic| (k_here; (with_reducible show wpAny _ _ (call (Value.builtin _) [Value.ref _]) _ _ _); k_dflt (refine' pop_iv ?k1 ?k2 ?k3 ?k4 ?_; (case k1 => k_asm); (case k2 => k_asm); (case k3 => k_upd); (case k4 => assumption); k_whole; intro h' F' N'; (try k_sweep))))
local macro_rules | `(tactic| walk_at "call builtin:list.pop") => `(tactic| (dsimp only; fail_if_success (with_reducible show wpAny _ _ (call (Value.builtin _) (Prod.snd _)) _ _ _)))
local macro_rules | `(tactic| walk_at "call builtin:len") => `(tactic| (k_here; (with_reducible show wpAny _ _ (call (Value.builtin "len") [Value.ref _]) _ _ _); k_dflt (refine' len_iv ?k1 ?k2 ?k3 ?k4 ?_; (case k1 => k_in); (case k2 => k_asm); (case k3 => k_mem); (case k4 => assumption); k_whole); intro u' tk'))
local macro_rules | `(tactic| walk_at "truthy ref") => `(tactic| (k_here; k_dflt (refine' truthy_iv ?k1 ?k2 ?k3 ?k4 ?_; (case k1 => k_in); (case k2 => k_asm); (case k3 => k_mem); (case k4 => assumption); k_whole); intro tk'))
local macro_rules | `(tactic| walk_at "eval Subscript") => `(tactic| (k_here; (with_reducible show wpAny _ _ (eval (PySem.Expr.Subscript _ (PySem.Expr.Slice _ _ none _) _) _) _ _ _); refine SubSlice_ ?_))
local macro_rules | `(tactic| walk_at "delete Subscript") => `(tactic| (k_here; (with_reducible show wpAny _ _ (delete (PySem.Expr.Subscript _ (PySem.Expr.Slice _ none none _) _) _) _ _ _); refine DelSlice_ ?_))
local macro_rules | `(tactic| walk_at "call builtin:list.extend") => `(tactic| (k_here; k_dflt (refine' extend_iv ?k1 ?k2 ?k3 ?k4 ?k5 ?k6 ?k7 ?_; (case k1 => k_in); (case k2 => k_asm); (case k3 => k_asm); (case k4 => (intro o9; k_upd)); (case k5 => k_mem); (case k6 => first | assumption | omega); (case k7 => ((try simp only [List.length_drop, List.length_take]); omega)); k_whole; intro h' e' F' N'; (try k_sweep))))
local macro_rules | `(tactic| ktr_enter) => `(tactic| (refine' code_def ?k1 ?k2 ?k3 ?k4 ?k5 ?kA ?kF ?kK ?k6 ?k7 ?k8 ?k9 ?kB ?_ ?c2 ?c3 ?c4 ?c5; (case kA => first | assumption | exact fr_in (by assumption) | exact rfl); (case kF => first | assumption | exact rfl); (case kK => first | assumption | exact rfl); (case k1 => k_asm); (case k2 => k_asm); (case k3 => k_asm); (case k4 => k_asm); (case k5 => k_asm); (case k6 => k_is); (case k7 => k_is); (case k8 => ktr_room); (case k9 => first | exact BindsTo.of_eq rfl | exact binds_K (by k_in) rfl (by k_is) rfl rfl rfl); (case c5 => decide); (case kB => exact locs rfl); (case c2 => exact rfl); (case c3 => exact rfl); (case c4 => exact rfl); k_whole; intro g' L' h' FG' F' N' B' X' T'; (try dsimp only); (try k_fold)))
local macro_rules | `(tactic| k_mem) => `(tactic| (first | assumption | (refine List.mem_append_left _ ?_; assumption) | (refine List.mem_append_right _ ?_; assumption) | (refine List.mem_append_right _ ?_; k_mem)))
local macro_rules | `(tactic| walk_at "exec For Name Name cons nil") => `(tactic| (k_here; refine For_ ?_))
local macro_rules | `(tactic| walk_at "exec For Name Subscript cons nil") => `(tactic| (k_here; refine For_ ?_))
local macro_rules | `(tactic| walk_at "call ref") => `(tactic| (k_here; (with_reducible show wpAny _ _ (call (Value.ref 300) _) _ _ _); refine Stop.intro ?_))
local macro_rules | `(tactic| walk_at "compareOp In str ref") => `(tactic| (k_here; k_dflt (first
  | (refine' kin_t (knd := PySem.strKind _ _) ?k1 ?k2 ?k3 ?k4 (strKind_is _ _ _ _) ?k5 ?_; (case k1 => k_asm); (case k2 => k_mem); (case k3 => assumption); (case k4 => assumption); (case k5 => assumption); k_whole)
  | (refine' kin_f (knd := PySem.strKind _ _) ?k1 ?k2 ?k3 ?k4 (strKind_is _ _ _ _) ?k5 ?_; (case k1 => k_asm); (case k2 => k_mem); (case k3 => assumption); (case k4 => assumption); (case k5 => assumption); k_whole))))
local macro_rules | `(tactic| walk_at "compareOp NotIn str ref") => `(tactic| (k_here; k_dflt (first
  | (refine' knin_t (knd := PySem.strKind _ _) ?k1 ?k2 ?k3 ?k4 (strKind_is _ _ _ _) ?k5 ?_; (case k1 => k_asm); (case k2 => k_mem); (case k3 => assumption); (case k4 => assumption); (case k5 => assumption); k_whole)
  | (refine' knin_f (knd := PySem.strKind _ _) ?k1 ?k2 ?k3 ?k4 (strKind_is _ _ _ _) ?k5 ?_; (case k1 => k_asm); (case k2 => k_mem); (case k3 => assumption); (case k4 => assumption); (case k5 => assumption); k_whole))))
local macro_rules | `(tactic| walk_at "subscriptTail") => `(tactic| (k_here; k_dflt (refine' kda_item (knd := PySem.strKind _ _) ?k1 ?k2 ?k3 (strKind_is _ _ _ _) ?k5 ?_; (case k1 => k_asm); (case k2 => k_mem); (case k3 => assumption); (case k5 => assumption); k_whole)))
local macro_rules | `(tactic| walk_at "call builtin:list.remove") => `(tactic| (k_here; (with_reducible show wpAny _ _ (call _ _) _ _ _); refine Stop.intro ?_))
local macro_rules | `(tactic| walk_at "call ref") => `(tactic| (k_here; (with_reducible show wpAny _ _ (call (Value.ref 336) _) _ _ _); k_dflt (refine wpAny_call ?_; ktr_enter)))
local macro_rules | `(tactic| walk_at "exec Assign cons ListComp") => `(tactic| (k_here; k_dflt (refine Assign_ListComp_C (by with_unfolding_all rfl) (by with_unfolding_all rfl) (by rfl) (by decide) ?_)))
local macro_rules | `(tactic| walk_at "call builtin:list.sort") => `(tactic| (k_here; (with_reducible show wpAny _ _ (call _ _) _ _ _); refine Stop.intro ?_))
local macro_rules | `(tactic| walk_at "exec For Name Name cons cons") => `(tactic| (k_here; refine For_ ?_))
local macro_rules | `(tactic| walk_at "exec For Tuple Subscript cons cons") => `(tactic| (k_here; refine For_ ?_))
local macro_rules | `(tactic| walk_at "exec If") => `(tactic| (k_here; (with_reducible show wpAny _ _ (exec (Stmt.If (Expr.Name _ _) _ _ _) _) _ _ _); refine If_ ?_))
local macro_rules | `(tactic| walk_at "setItem ref str") => `(tactic| (k_here; (with_reducible show wpAny _ _ (setItem _ _ _) _ _ _); refine Stop.intro ?_))
local macro_rules | `(tactic| walk_at "delItem ref str") => `(tactic| (k_here; (with_reducible show wpAny _ _ (delItem _ _) _ _ _); refine Stop.intro ?_))
local macro_rules | `(tactic| walk_at "call builtin:dict.copy") => `(tactic| (k_here; (with_reducible show wpAny _ _ (call _ _) _ _ _); refine Stop.intro ?_))
local macro_rules | `(tactic| walk_at "call builtin:list.append") => `(tactic| (k_here; (with_reducible show wpAny _ _ (call _ _) _ _ _); refine Stop.intro ?_))
local macro_rules | `(tactic| walk_at "call ref") => `(tactic| (k_here; (with_reducible show wpAny _ _ (call (Value.ref 286) _) _ _ _); refine Stop.intro ?_))
local macro_rules | `(tactic| walk_at "call ref") => `(tactic| (k_here; (with_reducible show wpAny _ _ (call (Value.ref 293) _) _ _ _); refine Stop.intro ?_))
local macro_rules | `(tactic| walk_at "call ref") => `(tactic| (k_here; (with_reducible show wpAny _ _ (call (Value.ref 208) _) _ _ _); refine Stop.intro ?_))
local macro_rules | `(tactic| walk_at "call ref") => `(tactic| (k_here; (with_reducible show wpAny _ _ (call (Value.ref (Cn.c _)) _) _ _ _); refine Stop.intro ?_))
local macro_rules | `(tactic| walk_at "getMethod ref") => `(tactic| (k_here; (with_reducible show wpAny _ _ (getMethod (Value.ref _) (PySem.Str.ofString "copy") _) _ _ _); k_dflt (refine' copy_method (knd := PySem.strKind PW _) ?k1 ?k2 ?k3 ?_; (case k1 => k_asm); (case k2 => k_mem); (case k3 => assumption); k_whole)))
local macro_rules | `(tactic| walk_at "assign Tuple") => `(tactic| (k_here; (with_reducible show wpAny _ _ (assign (Expr.Tuple _ _ _) _ (Value.ref _)) _ _ _); k_dflt (refine' unpackN_ ?k1 ?k2 ?k3 ?k4 ?k5 ?k6 ?_; (case k1 => k_asm); (case k2 => k_asm); (case k3 => (refine News.isTup (by k_asm) (by k_mem))); (case k4 => first | assumption | exact rfl); (case k5 => exact rfl); (case k6 => exact rfl); k_whole); intro h' F' N'; (try k_sweep)))
local macro_rules | `(tactic| walk_at "call builtin:hasattr") => `(tactic| (k_here; (with_reducible show wpAny _ _ (call (Value.builtin "hasattr") [Value.ref _, Value.str _ _]) _ _ _); k_dflt (refine' hasattr_K ?k1 ?k2 ?k3 ?k4 ?_; (case k1 => k_in); (case k2 => k_asm); (case k3 => k_asm); (case k4 => k_mem); k_whole); intro h' tk' F' N'; (try k_sweep)))
local macro_rules | `(tactic| walk_at "exec For Tuple Attribute cons nil") => `(tactic| (k_here; refine For_ ?_))
local macro_rules | `(tactic| walk_at "exec For Tuple Name cons nil") => `(tactic| (k_here; refine For_ ?_))
local macro_rules | `(tactic| walk_at "exec For Tuple Subscript cons nil") => `(tactic| (k_here; refine For_ ?_))
local macro_rules | `(tactic| walk_at "exec For Name Call cons nil") => `(tactic| (k_here; refine For_ ?_ (by intro _; with_unfolding_all rfl)))
local macro_rules | `(tactic| walk_at "call ref") => `(tactic| (k_here; (with_reducible show wpAny _ _ (call (Value.ref 399) _) _ _ _); refine Stop.intro ?_))
local macro_rules | `(tactic| walk_at "call ref") => `(tactic| (k_here; (with_reducible show wpAny _ _ (call (Value.ref 279) _) _ _ _); refine Stop.intro ?_))
local macro_rules | `(tactic| walk_at "call type:list") => `(tactic| (k_here; (with_reducible show wpAny _ _ (call (Value.type "list") [Value.ref _]) _ _ _); refine Stop.intro ?_))
local macro_rules | `(tactic| walk_at "truthy ref") => `(tactic| (k_here; (with_reducible show wpAny _ _ (truthy _) _ _ _); refine Stop.intro ?_))
local macro_rules | `(tactic| walk_at "getMethod ref") => `(tactic| (k_here; (with_reducible show wpAny _ _ (getMethod (Value.ref _) (PySem.Str.ofString "values") _) _ _ _); k_dflt (refine' values_method (knd := PySem.strKind PW _) ?k1 ?k2 ?k3 ?_; (case k1 => k_asm); (case k2 => k_mem); (case k3 => assumption); k_whole)))
local macro_rules | `(tactic| walk_at "call builtin:dict.values") => `(tactic| (k_here; (with_reducible show wpAny _ _ (call _ _) _ _ _); refine Stop.intro ?_))
local macro_rules | `(tactic| walk_at "call ref") => `(tactic| (k_here; (with_reducible show wpAny _ _ (call (Value.ref 64) _) _ _ _); refine Stop.intro ?_))
local macro_rules | `(tactic| walk_at "call ref") => `(tactic| (k_here; (with_reducible show wpAny _ _ (call (Value.ref 107) _) _ _ _); refine Stop.intro ?_))
local macro_rules | `(tactic| walk_at "call ref") => `(tactic| (k_here; (with_reducible show wpAny _ _ (call (Value.ref 183) _) _ _ _); refine Stop.intro ?_))
local macro_rules | `(tactic| walk_at "call ref") => `(tactic| (k_here; (with_reducible show wpAny _ _ (call (Value.ref 222) _) _ _ _); refine Stop.intro ?_))
section
variable {w : World} {p : Program} {loose : List Str} {mean : ExcName → Option Value} {mg mb : Str → Option Value} {A : Around} {env : Env} {outer : List Env} {A₀ : Around} {base h₀ : Heap} {L : Addr} {m : Str → Option Value} {s : Shared} {Q E : Value → Shared → Prop}
theorem addvs_c {x xdx so co va dl nl : Addr} {t1 t2 t3 : Tok} {e k kn : Nat} {R : List (Addr × Obj)} {ov : Obj} {nm : Nat → Str} {l : List (Int × Tok)} {toks : List Tok} (cx : Cx w p loose mean mg mb A 350 3500 env outer A₀ base h₀ L) (F : Fr h₀ L s.heap m)
    (N : News h₀ L s.heap ((va, ov) :: R)) (inj : Function.Injective nm) (hx : (x, instObj 110 xdx) ∈ R) (hxd : (xdx, probD w.params t1 t2 t3 so co va e) ∈ R) (hov : ov.IsDictOf (PySem.strKind PW w) []) (lov : (va == sysModules) = false) (hdl : (dl, listOf (iv l).toArray k) ∈ R) (hl : l.length ≤ 500) (hl0 : l ≠ [])
    (hnl : (nl, listOf (toks.mapIdx fun i t => Value.str (nm i) t).toArray kn) ∈ R) (htl : toks.length ≤ 50) (hva : ∀ q ∈ R, q.1 ≠ va)
    (ret : ∀ h' tk' ov' cs dyn', Fr h₀ L h' m → News h₀ L h' ((va, ov') :: (R ++ dyn')) → cs.length = toks.length → ov'.IsDictOf (PySem.strKind PW w) (domKv nm cs) → Dyn w.params cs (List.replicate toks.length ⟨l, [], []⟩) dyn' → (ads cs).Nodup → (∀ q ∈ R, q.1 ∉ ads cs) → (∀ q ∈ R ++ dyn', q.1 ≠ va) → Q .none { s with heap := h', toks := tk' }) :
    wpAny (model PW w) A (call (.ref 71) [.ref x, .ref nl, .ref dl]) Q E s := by
  obtain ⟨B, X, T, hk, hf, hd, hu, hfr, hhd⟩ := cx
  refine wpAny_call ?_
  k_dflt ktr_enter
  rename Fr h₀ L _ m => FG
  k_steps
  rename Fr _ _ _ _ => F1
  rename News _ _ _ _ => N1
  refine Fr.abs [("self", .ref x), ("domain", .ref dl)] F1 (by (intros; repeat (first | exact Locs.nil | refine Locs.cons rfl ?_))) (fun m1 H1 F3 => ?_)
  clear F1
  refine iter_list (o := default) F3 N1 (N1 _ (.tail _ hnl)).1 (fun I1 h2 F2 N2 hI1 hk1 => ?_)
  refine loop_list (I := I1) (l := nl) toks.length (fun i m₁ news₁ => ∃ (cs : List Dc) (dyn : List (Addr × Obj)) (ov' : Obj), news₁ = (va, ov') :: (R ++ dyn) ∧ (cs.length = i ∧ i ≤ toks.length) ∧ ov'.IsDictOf (PySem.strKind PW w) (domKv nm cs) ∧ Dyn w.params cs (List.replicate i ⟨l, [], []⟩) dyn ∧ (ads cs).Nodup ∧ (∀ q ∈ R, q.1 ∉ ads cs) ∧ (∀ q ∈ R ++ dyn, q.1 ≠ va) ∧ (∀ q ∈ dyn, q.1 ≠ I1) ∧
    Locs m₁ [("self", .ref x), ("domain", .ref dl)]) go_name ?hE hhd F2 N2 ?h0 ?h1 ?h2
  case hE => passes_own
  case h0 => exact ⟨[], [], ov, by rw [List.append_nil], ⟨rfl, Nat.zero_le _⟩, hov, rfl, .nil, (fun q hq hm => by cases hm), by rw [List.append_nil]; exact hva, (fun q hq => by cases hq), H1⟩
  case h1 =>
    rintro i m₂ news₂ h ⟨cs, dyn, ov', rfl, _, _, _, _, _, _, hd1, _⟩ _
    exact List.forall_mem_cons.mpr ⟨(hI1 (va, ov) (.head _) : va ≠ I1), ne_app (fun q hq => hI1 q (.tail _ hq)) hd1⟩
  case h2 =>
    rintro i m₁ news₁ h₁ tk₁ ⟨cs, dyn, ov', rfl, ⟨hcl, hil⟩, hod, D, nd, hR, hva', hd1, H₁⟩ F₁ N₁
    refine ⟨toks.mapIdx fun i t => Value.str (nm i) t, ⟨_, _, (N₁ _ (.tail _ (.tail _ (List.mem_append_left _ hnl)))).1, rfl⟩, ?_⟩
    rw [List.getElem?_mapIdx]
    cases hi : toks[i]? with
    | none =>
      dsimp only [Option.map]
      intro h₂ F₂ N₂
      have F₂ := H₁.fr F₂
      simp only [nest] at F₂
      have hif : i = toks.length := Nat.le_antisymm hil (List.getElem?_eq_none_iff.mp hi)
      subst hif
      k_steps
      rename News _ _ _ _ => N3
      refine ret _ _ ov' cs dyn ?_ N3 hcl hod D nd hR hva'
      k_asm
    | some t =>
      dsimp only [Option.map]
      obtain ⟨hlt, hdr⟩ := drop_some hi
      refine ⟨hlt, fun h₂ F₂ N₂ => ?_⟩
      have F₂ := H₁.fr F₂
      simp only [nest] at F₂
      subst hcl
      k_steps
      rename Fr _ _ _ _ => F4
      rename News _ _ _ _ => N4
      have nI1 : I1 ∉ ads cs := D.notin hd1
      refine addv_c (R := (I1, itO nl (cs.length + 1)) :: R) (by (refine' Cx.mk ?cxB ?cxX ?cxT ?cxk ?cxf ?cxd ?cxu ?cxfr ?cxhh; (case cxfr => exact fr_in (by assumption)); (case cxhh => assumption); (case cxB => assumption); (case cxX => assumption); (case cxT => assumption); (case cxk => exact rfl); (case cxf => exact rfl); (case cxd => (simp only [depth_in1, depth_deeper] at *; omega)); (case cxu => (simp only [units_in1, units_deeper] at *; omega)))) F4 (news_sub N4 ?_) inj (.tail _ hx) (.tail _ hxd) hod lov (.tail _ hdl) hl hl0 (by omega) D nd (List.forall_mem_cons.mpr ⟨nI1, hR⟩) (List.forall_mem_cons.mpr ⟨Ne.symm (hI1 (va, ov) (.head _) : va ≠ I1), hva'⟩) (fun h5 tk5 ov5 c5 dyn5 F5 N5 hod5 D5 nd5 hR5 hva5 => ?_)
      · intro q hq; simp only [List.cons_append, List.mem_cons, List.mem_append] at hq ⊢; grind
      · k_steps
        rename News _ _ _ _ => N6
        have hr := List.forall_mem_cons.mp hR5
        have hv5 := List.forall_mem_cons.mp hva5
        refine ⟨_, _, _, _, rfl, by k_asm, news_sub N6 ?_, cs ++ [c5], dyn5, ov5, rfl, ⟨by simp, hlt⟩, hod5, ?_, nd5, hr.2, hv5.2, D5.ne hr.1, by (intros; repeat (first | exact Locs.nil | refine Locs.cons rfl ?_))⟩
        · intro q hq; simp only [List.cons_append, List.mem_cons, List.mem_append] at hq ⊢; grind
        · rw [List.replicate_succ']; exact D5
end
end Mine
end
section
open PySem PySem.W PySem.W.X PyProof.Rows PySem.Calls PySem.Spec
set_option Elab.async false
set_option maxRecDepth 100000
set_option maxHeartbeats 8000000
namespace Mine
theorem bits_lt {n : Int} {W : Nat} (h : Builtin.Int.intBits n ≤ W) : n.natAbs < 2 ^ W := by
  unfold Builtin.Int.intBits at h
  by_cases h0 : n = 0
  · subst h0; exact Nat.two_pow_pos W
  · rw [if_neg (by simpa using h0)] at h
    exact Nat.lt_of_lt_of_le (Nat.lt_log2_self) (Nat.pow_le_pow_right (by decide) h)
theorem bits_le {a : Int} {k : Nat} (h : a.natAbs < 2 ^ k) : Builtin.Int.intBits a ≤ k := by
  unfold Builtin.Int.intBits
  split
  · exact Nat.zero_le _
  · rename_i h0
    have hne : a.natAbs ≠ 0 := by simpa using h0
    have := (Nat.log2_lt hne).mpr h
    omega
theorem pow3_fit {n : Int} {W : Nat} (h : Builtin.Int.intBits n ≤ W) (hW : W ≤ 2 ^ 20) : ((Builtin.Int.intBits (n * 6364136223846793005 + (0 + 1) * 1442695040888963407) : Nat) : Int) * 3 ≤ 2 ^ 27 := by
  have h1 := bits_lt h
  have h2 : (n * 6364136223846793005 + (0 + 1) * 1442695040888963407).natAbs < 2 ^ (W + 64) := by
    rw [Nat.pow_add]
    generalize 2 ^ W = P at *
    have e : (2 : Nat) ^ 64 = 18446744073709551616 := by decide
    rw [e]
    omega
  have h3 := bits_le h2
  have e : (2 : Nat) ^ 20 = 1048576 := by decide
  have e' : (2 : Int) ^ 27 = 134217728 := by decide
  rw [e'] ; rw [e] at hW
  omega
theorem item_bits {ws : List Int} (hL : (PyData.list (ws.map PyData.int)).layable0 = true) (i : Nat) : Builtin.Int.intBits (ws.getD i 0) ≤ 2 ^ 20 := by
  have h1 := PyData.weightAll_of_list hL
  rw [List.getD_eq_getElem?_getD]
  cases h : ws[i]? with
  | none => show Builtin.Int.intBits 0 ≤ _; exact Nat.zero_le _
  | some n =>
    have hm : PyData.int n ∈ ws.map PyData.int := List.mem_map_of_mem (List.mem_of_getElem? h)
    have h2 := PyData.weight_le_weightAll _ _ hm
    exact Nat.le_trans h2 h1
section
variable {prog : Program} {w : World} {A : Around} {E : Value → Shared → Prop} {s : Shared} {t u : Tok} {Q : Value → Shared → Prop}
theorem pow_item {ws : List Int} {i : Nat} (hL : (PyData.list (ws.map PyData.int)).layable0 = true) (h : ∀ v, Q (.int v s.toks) { s with toks := s.toks + 1 }) : wpAny (model prog w) A (binaryOp .Pow (.int (ws.getD i 0 * 6364136223846793005 + (0 + 1) * 1442695040888963407) t) (.int 3 u)) Q E s :=
  pow_int (by decide) (pow3_fit (item_bits hL i) (Nat.le_refl _)) (h _)
theorem pow_nought (h : ∀ v, Q (.int v s.toks) { s with toks := s.toks + 1 }) : wpAny (model prog w) A (binaryOp .Pow (.int (0 * 6364136223846793005 + (0 + 1) * 1442695040888963407) t) (.int 3 u)) Q E s :=
  pow_int (by decide) (pow3_fit (W := 0) (Nat.le_refl 0) (Nat.zero_le _)) (h _)
theorem pow_40 (h : Q (.int 1099511627776 s.toks) { s with toks := s.toks + 1 }) : wpAny (model prog w) A (binaryOp .Pow (.int 2 t) (.int 40 u)) Q E s :=
  pow_int (by decide) (by decide +kernel) (by have e : (2 : Int) ^ (40 : Int).toNat = 1099511627776 := by decide +kernel
                                              rw [e]; exact h)
theorem pow_190 (h : Q (.int 1569275433846670190958947355801916604025588861116008628224 s.toks) { s with toks := s.toks + 1 }) : wpAny (model prog w) A (binaryOp .Pow (.int 2 t) (.int 190 u)) Q E s :=
  pow_int (by decide) (by decide +kernel) (by have e : (2 : Int) ^ (190 : Int).toNat = 1569275433846670190958947355801916604025588861116008628224 := by decide +kernel
                                              rw [e]; exact h)
end
end Mine
end
section
open PySem PySem.W PySem.W.X PyProof.Rows PySem.Calls PySem.Spec
set_option Elab.async false
set_option maxRecDepth 100000
set_option maxHeartbeats 8000000
namespace Mine
theorem three_of {ys : List Value} {n : Int} (h : IntsAre ys (List.map (fun k' => if ¬ (5 : Int) ^ k'.toNat = 0 then (n.fdiv (5 ^ k'.toNat)).fmod 5 else k') (rangeKs 0 (3 - 0 : Int).toNat))) :
    ∃ a b c ta tb tc, ys = [.int a ta, .int b tb, .int c tc] ∧ (0 ≤ a ∧ a < 5) ∧ (0 ≤ b ∧ b < 5) ∧ (0 ≤ c ∧ c < 5) := by
  have e : rangeKs 0 (3 - 0 : Int).toNat = [0, 1, 2] := by decide
  rw [e] at h
  have hp : ∀ k : Nat, ¬ (5 : Int) ^ k = 0 := fun k => Int.ne_of_gt (pow_pos_of (by decide) k)
  simp only [List.map_cons, List.map_nil, hp, not_false_eq_true, if_true] at h
  have bd : ∀ x : Int, 0 ≤ x.fmod 5 ∧ x.fmod 5 < 5 := fun x => ⟨Int.fmod_nonneg_of_pos x (by decide), Int.fmod_lt_of_pos x (by decide)⟩
  cases h with
  | cons a ta h =>
    cases h with
    | cons b tb h =>
      cases h with
      | cons c tc h =>
        cases h
        exact ⟨_, _, _, _, _, _, rfl, bd _, bd _, bd _⟩
theorem five_of {ys : List Value} (h : IntsAre ys (rangeKs 0 5)) : ∃ t0 t1 t2 t3 t4, ys = [.int 0 t0, .int 1 t1, .int 2 t2, .int 3 t3, .int 4 t4] := by
  have e : rangeKs 0 5 = [0, 1, 2, 3, 4] := by decide
  rw [e] at h
  cases h with
  | cons _ t0 h => cases h with
    | cons _ t1 h => cases h with
      | cons _ t2 h => cases h with
        | cons _ t3 h => cases h with
          | cons _ t4 h => cases h; exact ⟨_, _, _, _, _, rfl⟩
theorem news_pull {h₀ h : Heap} {L : Addr} {l1 l2 : List (Addr × Obj)} {p : Addr × Obj} (N : News h₀ L h (l1 ++ p :: l2)) : News h₀ L h (p :: (l1 ++ l2)) := fun q hq => N q (by
  rcases List.mem_cons.mp hq with rfl | hq
  · exact List.mem_append_right _ (.head _)
  · rcases List.mem_append.mp hq with hq | hq
    · exact List.mem_append_left _ hq
    · exact List.mem_append_right _ (.tail _ hq))
/-- the variables' names -/
def nmA : Nat → Str
  | 0 => "a"
  | 1 => "b"
  | 2 => "c"
  | 3 => "d"
  | n + 4 => ⟨#[101 + n]⟩
theorem nmA_eq : ∀ i, nmA i = ⟨#[97 + i]⟩
  | 0 => by decide +kernel
  | 1 => by decide +kernel
  | 2 => by decide +kernel
  | 3 => by decide +kernel
  | n + 4 => by show (⟨#[101 + n]⟩ : Str) = ⟨#[97 + (n + 4)]⟩; rw [show 101 + n = 97 + (n + 4) by omega]
theorem nmA_inj : Function.Injective nmA := fun i j h => by
  rw [nmA_eq, nmA_eq] at h
  have h' : (#[97 + i] : Array Nat) = #[97 + j] := congrArg Str.cps h
  simp at h'; exact h'
theorem nmA_ord (i j : Nat) : (nmA i).cps.toList < (nmA j).cps.toList ↔ i < j := by
  rw [nmA_eq, nmA_eq]
  show List.Lex (· < ·) ([97 + i] : List Nat) [97 + j] ↔ i < j
  generalize hi : 97 + i = a
  generalize hj : 97 + j = b
  constructor
  · intro h
    cases h with
    | rel h => omega
    | cons h => cases h
  · exact fun h => .rel (by omega)
theorem law_split {h₀ h : Heap} {L : Addr} {a1 a2 a3 a4 a5 a6 a7 a8 a9 a10 a11 a12 p b1 b2 b3 b4 b5 b6 b7 b8 b9 : Addr × Obj} {dyn : List (Addr × Obj)} {P : Prop} (N : News h₀ L h (a1 :: a2 :: a3 :: a4 :: a5 :: a6 :: a7 :: a8 :: a9 :: a10 :: a11 :: a12 :: p :: b1 :: b2 :: b3 :: b4 :: b5 :: b6 :: b7 :: b8 :: b9 :: dyn))
    (k : ∀ S0, S0 = [a1, a2, a3, a4, a5, a6, a7, a8, a9, a10, a11, a12, b1, b2, b3, b4, b5, b6, b7, b8, b9] → News h₀ L h (p :: (S0 ++ dyn)) → P) : P :=
  k _ rfl (news_pull (l1 := [a1, a2, a3, a4, a5, a6, a7, a8, a9, a10, a11, a12]) N)
theorem nvs2 {i j : Nat} {u v : Tok} : (nvs nmA [(i, u), (j, v)]) = [.str (nmA i) u, .str (nmA j) v] := rfl
/-- a constraint to be made -/
structure ItC where
  es : Int
  te : Tok
  T : Addr
  nl : Addr
  vars : List (Nat × Tok)
def ItC.con (it : ItC) : Con := (it.es, it.vars.map fun p => (p.1, 1))
def items4 (one other left right : Int) (a b c d : Tok) (T1 T2 T3 T4 n1 n2 n3 n4 : Addr) (u1 u2 u3 u4 u5 u6 u7 u8 : Tok) : List ItC := [⟨one, a, T1, n1, [(0, u1), (1, u2)]⟩, ⟨other, b, T2, n2, [(2, u3), (3, u4)]⟩, ⟨left, c, T3, n3, [(0, u5), (2, u6)]⟩, ⟨right, d, T4, n4, [(1, u7), (3, u8)]⟩]
theorem news_assoc {h₀ h : Heap} {L : Addr} {a b : Addr × Obj} {l1 l2 l3 : List (Addr × Obj)} (N : News h₀ L h (a :: b :: (l1 ++ (l2 ++ l3)))) : News h₀ L h (a :: b :: ((l1 ++ l2) ++ l3)) := by rw [List.append_assoc]; exact N
theorem dec_true {p : Prop} {i : Decidable p} (h : p) : @decide p i = true := decide_eq_true h
end Mine
end
section
open PySem PySem.W PySem.W.X PyProof.Rows PySem.Calls PySem.Spec
set_option Elab.async false
set_option maxRecDepth 100000
set_option maxHeartbeats 8000000
namespace Mine
inductive Inside : Prop | mk
local macro_rules | `(tactic| walk_at "call ref") => `(tactic| (k_here; (fail_if_success (with_reducible rename Inside => hIns)); refine Stop.intro ?_))
def MixOut (h₀ : Heap) (L : Addr) (m : Str → Option Value) (s : Shared) (news : List (Addr × Obj)) (v : Value) (s' : Shared) : Prop := ∃ n t h' tk', v = .int n t ∧ s' = { s with heap := h', toks := tk' } ∧ Fr h₀ L h' m ∧ News h₀ L h' news
theorem mix_join {M : Model} {A : Around} {E : Value → Shared → Prop} {s : Shared} {h₀ : Heap} {L : Addr} {m : Str → Option Value} {news : List (Addr × Obj)} {Q : Value → Shared → Prop} {a : Addr} {l : List Value} (_F : Fr h₀ L s.heap m) (_N : News h₀ L s.heap news)
    (h : wpAny M A (call (.ref a) l) (fun v s' => Hold (MixOut h₀ L m s news v s')) E s) (k : ∀ h' tk' n t, Fr h₀ L h' m → News h₀ L h' news → Q (.int n t) { s with heap := h', toks := tk' }) : wpAny M A (call (.ref a) l) Q E s := by
  refine wpAny_mono h (fun v s' z => ?_) fun _ _ e => e
  obtain ⟨n, t, h', tk', rfl, rfl, F', N'⟩ := z
  exact k h' tk' n t F' N'
local macro_rules | `(tactic| walk_at "binaryOp Pow int int") => `(tactic| (k_here; (with_reducible show wpAny _ _ (binaryOp Operator.Pow (Value.int (HAdd.hAdd _ _) _) (Value.int 3 _)) _ _ _); (with_reducible refine pow_item (by with_reducible assumption) ?_); intro pv))
local macro_rules | `(tactic| walk_at "binaryOp Pow int int") => `(tactic| (k_here; (with_reducible show wpAny _ _ (binaryOp Operator.Pow (Value.int (HAdd.hAdd _ _) _) (Value.int 3 _)) _ _ _); (with_reducible refine pow_nought ?_); intro pv))
local macro_rules | `(tactic| walk_at "binaryOp Pow int int") => `(tactic| (k_here; (with_reducible show wpAny _ _ (binaryOp Operator.Pow (Value.int 2 _) (Value.int 40 _)) _ _ _); (with_reducible refine pow_40 ?_)))
local macro_rules | `(tactic| walk_at "binaryOp Pow int int") => `(tactic| (k_here; (with_reducible show wpAny _ _ (binaryOp Operator.Pow (Value.int 2 _) (Value.int 190 _)) _ _ _); (with_reducible refine pow_190 ?_)))
local macro_rules | `(tactic| walk_at "exec If") => `(tactic| (k_here; (with_reducible show wpAny _ _ (exec (Stmt.If (Expr.BoolOp _ _ _) _ _ _) _) _ _ _); (fail_if_success (with_reducible rename Inside => hIns)); refine Stop.intro ?_))
theorem right_join {M : Model} {A : Around} {E : Value → Shared → Prop} {s : Shared} {h₀ : Heap} {L : Addr} {m : Str → Option Value} {news : List (Addr × Obj)} {Q : Flow → Shared → Prop} {st : Stmt} {env : Env} (_F : Fr h₀ L s.heap m) (_N : News h₀ L s.heap news)
    (h : wpAny M A (exec st env) (fun f s' => Hold (f = .next ∧ ∃ h' tk' m' r t, s' = { s with heap := h', toks := tk' } ∧ Fr h₀ L h' m' ∧ News h₀ L h' news ∧ m' "right" = some (.int r t) ∧ 0 ≤ r ∧ r ≤ 4)) E s)
    (k : ∀ h' tk' m' r t, Fr h₀ L h' m' → News h₀ L h' news → Locs m' [("right", .int r t)] → 0 ≤ r → r ≤ 4 → Q .next { s with heap := h', toks := tk' }) : wpAny M A (exec st env) Q E s := by
  refine wpAny_mono h (fun v s' z => ?_) fun _ _ e => e
  obtain ⟨rfl, h', tk', m', r, t, rfl, F', N', hr, h0, h4⟩ := z
  exact k h' tk' m' r t F' N' (.cons hr .nil) h0 h4
local macro_rules | `(tactic| walk_at "call type:list") => `(tactic| (k_here; (with_reducible show wpAny _ _ (call (Value.type "list") [Value.ref _]) _ _ _); (fail_if_success (with_reducible rename Inside => hIns)); refine Stop.intro ?_))
local macro_rules | `(tactic| walk_at "exec For Tuple List cons nil") => `(tactic| (k_here; refine For_ ?_ (by intro _; with_unfolding_all rfl)))
local macro_rules | `(tactic| k_mem) => `(tactic| (first | assumption | (refine List.mem_append_left _ ?_; assumption) | (refine List.mem_append_right _ ?_; assumption) | (refine List.mem_append_right _ ?_; k_mem)))
local macro_rules | `(tactic| walk_at "assign Tuple") => `(tactic| (k_here; (with_reducible show wpAny _ _ (assign (Expr.Tuple _ _ _) _ (Value.ref _)) _ _ _); k_dflt (refine' unpackN_ ?k1 ?k2 ?k3 ?k4 ?k5 ?k6 ?_; (case k1 => k_asm); (case k2 => k_asm); (case k3 => (refine News.isTup (by k_asm) (by k_mem))); (case k4 => first | assumption | exact rfl); (case k5 => exact rfl); (case k6 => exact rfl); k_whole); intro h' F' N'; (try k_sweep)))
local macro_rules | `(tactic| walk_at "call builtin:list.append") => `(tactic| (k_here; (with_reducible show wpAny _ _ (call _ _) _ _ _); refine Stop.intro ?_))
local macro_rules | `(tactic| walk_at "compareOp Eq ref") => `(tactic| (k_here; (with_reducible show wpAny _ _ (compareOp CmpOp.Eq (Value.ref _) (Value.ref _)) _ _ _); refine Stop.intro ?_))
inductive RowsMark : Prop | mk
local macro_rules | `(tactic| walk_at "eval ListComp") => `(tactic| (k_here; (with_reducible rename RowsMark => hRM); k_dflt (refine ListComp_C (by with_unfolding_all rfl) (by rfl) (by decide) ?_)))
local macro_rules | `(tactic| walk_at "compareOp Eq ref ref") => `(tactic| (k_here; (with_reducible show wpAny _ _ (compareOp CmpOp.Eq (Value.ref _) (Value.ref _)) _ _ _); refine Stop.intro ?_))
theorem lawT : PySem.Challenge.rw_aw5017_04.Holds := hd (by
  k_fill
  intro w s₀ s₁ mg mb G Y fa o pm cd doc dV kV ho hd hcd hD hmg hg args vals as hpre hlay hrd hwl hlo
  have KX := kIn_of Y
  have X := (Ground.X G).1
  have V := (Ground.X G).2
  try w_nolog (first | (have GL := glob_more (Ground.glob G (by first | k_qdec | decide +kernel) (by first | k_qdec | decide +kernel)) V) | (have GL := glob_more (Ground.glob G (by decide +kernel) (by decide +kernel)) V))
  refine Ground.open G ?_
  intro T B D TE TW
  try (refine guard_noD D (by decide +kernel) ?_; clear D)
  obtain ⟨_, _, M⟩ := bmod_of_top T
  have TA := at_of_top T
  try (obtain ⟨_, _, he, B0⟩ := based_of_top T rfl hmg ho hd; have he' : cd = _ := he; subst he'; clear he)
  clear hmg
  wrow_args hpre hlay hrd hwl hlo
  all_goals (
    first | refine callC_kw (enter_call ?_) | refine enter_call ?_ | refine callC_kw (enter_callW ?_) | refine enter_callW ?_ | w_how
    w_top on
    have K0 := below_caller (Top.heap T)
    w_call any ho hd hcd hD T F
    clear hd TA
    k_drop
    skip)
  all_goals try k_fold
  k_steps
  refine Stop.intro ?_
  unfold Stop
  rename Fr _ _ _ _ => F1
  rename News _ _ _ _ => N1
  refine mix_join F1 N1 ?_ ?_
  · -- BEGIN A
    have hIns := Inside.mk
    k_steps
    all_goals exact ⟨_, _, _, _, rfl, rfl, by k_asm, by k_asm⟩
    -- END A
  clear F1 N1
  intro h' tk' n t F' N'
  k_steps
  · exfalso
    rename _ = (0 : Int) => hz
    exact (Int.ne_of_gt (pow_pos_of (by decide) _)) hz
  rename IntsAre ys _ => hI8
  obtain ⟨one, other, left, t1', t2', t3', rfl, h1, h2, h3⟩ := three_of hI8
  clear hI8
  k_steps
  refine Stop.intro ?_
  unfold Stop
  rename Fr _ _ _ _ => F2
  rename News _ _ _ _ => N2
  refine right_join F2 N2 ?_ ?_
  · -- BEGIN B
    have hIns := Inside.mk
    k_steps
    all_goals (refine ⟨rfl, _, _, _, _, _, rfl, by k_asm, by k_asm, rfl, ?_, ?_⟩)
    all_goals (first | omega | exact Int.fmod_nonneg_of_pos _ (by decide) | exact Int.le_of_lt_add_one (Int.fmod_lt_of_pos _ (by decide)))
    -- END B
  clear F2 N2
  intro h' tk' m' right tr F' N' H' hr0 hr4
  have F' := H'.fr F'
  simp only [nest] at F'
  k_steps
  refine Stop.intro ?_
  unfold Stop
  rename Fr _ _ _ _ => F3
  rename News _ _ _ _ => N3
  refine prob_c (Cx.mk K0 KX T rfl rfl ?d1 ?u1 rfl rfl) F3 N3 ?_
  case d1 => simp only [depth_deeper, depth_caller]; decide
  case u1 => simp only [units_deeper]; decide
  intro h4 tk4 x xdx so sdx co va sc fc ov t1 t2 t3 t0 e e0 F4 N4 hov hsc hlv hlc
  clear F3 N3
  k_steps
  refine Stop.intro ?_
  unfold Stop
  rename News _ _ _ _ => N5
  rename Fr _ _ _ _ => F5
  rename IsRange _ _ _ _ _ _ _ _ => hr5
  refine kll_range (n := 5) rfl F5 N5 hr5 (by decide +kernel) rfl (by decide) ?_
  intro dl us c6 h6 tk6 F6 N6 hlt6 hI6
  obtain ⟨r0, r1, r2, r3, r4, rfl⟩ := five_of hI6
  clear F5 N5 hr5
  k_steps
  refine Stop.intro ?_
  unfold Stop
  rename News _ _ _ _ => N7
  rename Fr _ _ _ _ => F7
  dsimp only at N7
  have N8 := news_pull (l1 := [_, _]) N7
  have lva : @LT.lt Nat _ 1 va := by
    have a : @LT.lt Nat _ co va := hlv (co, _) (.head _)
    have b : @LT.lt Nat _ x co := hlc (x, _) (.head _)
    omega
  have lov : (va == sysModules) = false := beq_eq_false_iff_ne.mpr fun e => by
    have z := lva
    rw [show va = (1 : Nat) from e] at z
    omega
  refine addvs_c (nm := nmA) (l := [(0, r0), (1, r1), (2, r2), (3, r3), (4, r4)]) (toks := [_, _, _, _]) (Cx.mk K0 KX T rfl rfl ?d1 ?u1 rfl rfl) F7 N8 nmA_inj (.tail _ (.tail _ (.tail _ (.head _)))) (.tail _ (.tail _ (.tail _ (.tail _ (.head _))))) hov lov (.head _) (by simp) (by simp) (.tail _ (.head _)) (by simp) ?hva8 ?_
  case d1 => simp only [depth_deeper, depth_caller]; decide
  case u1 => simp only [units_deeper]; decide
  case hva8 =>
    refine List.forall_mem_cons.mpr ⟨Nat.ne_of_gt (hlt6 (va, ov) (.tail _ (.head _))), List.forall_mem_cons.mpr ⟨news_apart N7 (.tail _ (.head _)) (.tail _ (.tail _ (.head _))) (cls_ne ?_), fun q hq => Nat.ne_of_lt (hlv q hq)⟩⟩
    show Value.type "list" ≠ ov.cls
    rw [IsDictOf.cls hov]; decide
  intro h8 tk8 ov8 cs dyn F8 N9 hcl hod8 D8 nd8 hR8 hva8
  simp only [List.cons_append, List.nil_append] at N9
  clear F7 N7 N8
  k_steps
  rename News _ _ _ _ => N10
  rename Fr _ _ _ _ => F10
  rename _ < _ ∧ _ < _ ∧ _ < _ ∧ _ < _ ∧ _ < _ ∧ _ < _ ∧ _ < _ ∧ _ < _ ∧ va < _ ∧ _ => l10
  dsimp only at N10
  dsimp only
  rename_i nl hh9 ll9 ee9 hb9 hh10 tk9 q1 q2 q3 q4 n1 hh1 ll1 T1 hh2 ll2 n2 hh3 ll3 T2 hh4 ll4 n3 hh5 ll5 T3 hh6 ll6 n4 hh7 ll7 T4 hh8 ll8 FL h10
  clear hh1 hh2 hh3 hh4 hh5 hh6 hh7 hh8
  refine law_split N10 ?_
  intro S0 hS0 N11
  clear N10
  have e1 : @LT.lt Nat _ co n1 := by have z := ll1; repeat (first | exact z.1 | replace z := z.2)
  have e2 : @LT.lt Nat _ co n2 := by have z := ll3; repeat (first | exact z.1 | replace z := z.2)
  have e3 : @LT.lt Nat _ co n3 := by have z := ll5; repeat (first | exact z.1 | replace z := z.2)
  have e4 : @LT.lt Nat _ co n4 := by have z := ll7; repeat (first | exact z.1 | replace z := z.2)
  have e5 : @LT.lt Nat _ co FL := by have z := l10; repeat (first | exact z.1 | replace z := z.2)
  have e6 : @LT.lt Nat _ co T1 := by have z := ll2; repeat (first | exact z.1 | replace z := z.2)
  have e7 : @LT.lt Nat _ co T2 := by have z := ll4; repeat (first | exact z.1 | replace z := z.2)
  have e8 : @LT.lt Nat _ co T3 := by have z := ll6; repeat (first | exact z.1 | replace z := z.2)
  have e9 : @LT.lt Nat _ co T4 := by have z := ll8; repeat (first | exact z.1 | replace z := z.2)
  have e10 : @LT.lt Nat _ co nl := by have z := ll9; repeat (first | exact z.1 | replace z := z.2)
  have e11 : @LT.lt Nat _ co dl := hlt6 (co, listOf #[] 0) (by simp)
  have e12 : @LT.lt Nat _ co va := hlv (co, listOf #[] 0) (.head _)
  have d1 : AllLt n1 dyn := by have z := ll1; repeat (first | exact z | replace z := z.2)
  have d2 : AllLt n2 dyn := by have z := ll3; repeat (first | exact z | replace z := z.2)
  have d3 : AllLt n3 dyn := by have z := ll5; repeat (first | exact z | replace z := z.2)
  have d4 : AllLt n4 dyn := by have z := ll7; repeat (first | exact z | replace z := z.2)
  have d5 : AllLt FL dyn := by have z := l10; repeat (first | exact z | replace z := z.2)
  have d6 : AllLt T1 dyn := by have z := ll2; repeat (first | exact z | replace z := z.2)
  have d7 : AllLt T2 dyn := by have z := ll4; repeat (first | exact z | replace z := z.2)
  have d8 : AllLt T3 dyn := by have z := ll6; repeat (first | exact z | replace z := z.2)
  have d9 : AllLt T4 dyn := by have z := ll8; repeat (first | exact z | replace z := z.2)
  clear ll1 ll2 ll3 ll4 ll5 ll6 ll7 ll8 ll9 l10
  have nin : ∀ {a : Addr}, AllLt a dyn → a ∉ ads cs := fun h => D8.notin fun q hq => Nat.ne_of_lt (allLt_mem h q hq)
  have offS : ∀ q ∈ S0, q.1 ∉ ads cs := by
    have z1 := List.forall_mem_cons.mp hR8
    have z2 := List.forall_mem_cons.mp z1.2
    have z3 := List.forall_mem_cons.mp z2.2
    rw [hS0]
    exact List.forall_mem_cons.mpr ⟨nin d5, List.forall_mem_cons.mpr ⟨nin d9, List.forall_mem_cons.mpr ⟨nin d4, List.forall_mem_cons.mpr ⟨nin d8, List.forall_mem_cons.mpr ⟨nin d3, List.forall_mem_cons.mpr ⟨nin d7, List.forall_mem_cons.mpr ⟨nin d2, List.forall_mem_cons.mpr ⟨nin d6, List.forall_mem_cons.mpr ⟨nin d1,
      List.forall_mem_cons.mpr ⟨D8.notin fun q hq => hva8 q (List.mem_append_right _ hq), List.forall_mem_cons.mpr ⟨z1.1, List.forall_mem_cons.mpr ⟨z2.1, z3.2⟩⟩⟩⟩⟩⟩⟩⟩⟩⟩⟩⟩
  have coads : co ∉ ads cs := hR8 (co, listOf #[] 0) (by simp)
  have coS : ∀ q ∈ S0 ++ dyn, q.1 ≠ co := by
    refine ne_app ?_ (D8.ne coads)
    rw [hS0]
    exact List.forall_mem_cons.mpr ⟨Nat.ne_of_gt e5, List.forall_mem_cons.mpr ⟨Nat.ne_of_gt e9, List.forall_mem_cons.mpr ⟨Nat.ne_of_gt e4, List.forall_mem_cons.mpr ⟨Nat.ne_of_gt e8, List.forall_mem_cons.mpr ⟨Nat.ne_of_gt e3, List.forall_mem_cons.mpr ⟨Nat.ne_of_gt e7, List.forall_mem_cons.mpr ⟨Nat.ne_of_gt e2, List.forall_mem_cons.mpr ⟨Nat.ne_of_gt e6, List.forall_mem_cons.mpr ⟨Nat.ne_of_gt e1,
      List.forall_mem_cons.mpr ⟨Nat.ne_of_gt e12, List.forall_mem_cons.mpr ⟨Nat.ne_of_gt e11, List.forall_mem_cons.mpr ⟨Nat.ne_of_gt e10, fun q hq => Nat.ne_of_lt (hlc q hq)⟩⟩⟩⟩⟩⟩⟩⟩⟩⟩⟩⟩
  clear e1 e2 e3 e4 e5 e6 e7 e8 e9 e10 e11 d1 d2 d3 d4 d5 d6 d7 d8 d9
  have mFL : (FL, listOf #[.ref T1, .ref T2, .ref T3, .ref T4] 0) ∈ S0 := by rw [hS0]; simp
  have mx : (x, instObj 110 xdx) ∈ S0 := by rw [hS0]; simp
  have mxd : (xdx, probD w.params t1 t2 t3 so co va e) ∈ S0 := by rw [hS0]; simp
  have mso : (so, instObj sc sdx) ∈ S0 := by rw [hS0]; simp
  have msd : (sdx, btD w.params t0 fc e0) ∈ S0 := by rw [hS0]; simp
  have mva : (va, ov8) ∈ S0 := by rw [hS0]; simp
  obtain ⟨u1, u2, u3, u4, u5, u6, u7, u8, mT1, mn1, mT2, mn2, mT3, mn3, mT4, mn4⟩ : ∃ u1 u2 u3 u4 u5 u6 u7 u8, (T1, ({ cls := .type "tuple", data := .seq #[.int one t1', .ref n1] } : Obj)) ∈ S0 ∧ (n1, listOf (nvs nmA [(0, u1), (1, u2)]).toArray 0) ∈ S0 ∧ (T2, ({ cls := .type "tuple", data := .seq #[.int other t2', .ref n2] } : Obj)) ∈ S0 ∧ (n2, listOf (nvs nmA [(2, u3), (3, u4)]).toArray 0) ∈ S0 ∧
      (T3, ({ cls := .type "tuple", data := .seq #[.int left t3', .ref n3] } : Obj)) ∈ S0 ∧ (n3, listOf (nvs nmA [(0, u5), (2, u6)]).toArray 0) ∈ S0 ∧ (T4, ({ cls := .type "tuple", data := .seq #[.int right tr, .ref n4] } : Obj)) ∈ S0 ∧ (n4, listOf (nvs nmA [(1, u7), (3, u8)]).toArray 0) ∈ S0 := by
    refine ⟨tk8, tk8 + 1, tk8 + 1 + 1, tk8 + 1 + 1 + 1, tk8 + 1 + 1 + 1 + 1, tk8 + 1 + 1 + 1 + 1 + 1, tk8 + 1 + 1 + 1 + 1 + 1 + 1, tk8 + 1 + 1 + 1 + 1 + 1 + 1 + 1, ?_⟩
    rw [hS0]
    exact ⟨.tail _ (.tail _ (.tail _ (.tail _ (.tail _ (.tail _ (.tail _ (.head _))))))), .tail _ (.tail _ (.tail _ (.tail _ (.tail _ (.tail _ (.tail _ (.tail _ (.head _)))))))), .tail _ (.tail _ (.tail _ (.tail _ (.tail _ (.head _))))), .tail _ (.tail _ (.tail _ (.tail _ (.tail _ (.tail _ (.head _)))))),
      .tail _ (.tail _ (.tail _ (.head _))), .tail _ (.tail _ (.tail _ (.tail _ (.head _)))), .tail _ (.head _), .tail _ (.tail _ (.head _))⟩
  refine Fr.abs [("right", .int right tr), ("problem", .ref x)] F10 (by (intros; repeat (first | exact Locs.nil | refine Locs.cons rfl ?_))) (fun m10 H10 F11 => ?_)
  clear F10
  refine iter_list (o := default) F11 N11 (N11 _ (.tail _ (List.mem_append_left _ mFL))).1 (fun I1 h12 F12 N12 hI1 hk1 => ?_)
  have nI1 : I1 ∉ ads cs := D8.notin fun q hq => hI1 q (.tail _ (List.mem_append_right _ hq))
  have hitm : ∀ it ∈ items4 one other left right t1' t2' t3' tr T1 T2 T3 T4 n1 n2 n3 n4 u1 u2 u3 u4 u5 u6 u7 u8, (it.T, ({ cls := .type "tuple", data := .seq #[.int it.es it.te, .ref it.nl] } : Obj)) ∈ S0 ∧ (it.nl, listOf (nvs nmA it.vars).toArray 0) ∈ S0 ∧ it.vars.length = 2 := by
    intro it hit
    simp only [items4, List.mem_cons, List.not_mem_nil, or_false] at hit
    rcases hit with rfl | rfl | rfl | rfl
    · exact ⟨mT1, mn1, rfl⟩
    · exact ⟨mT2, mn2, rfl⟩
    · exact ⟨mT3, mn3, rfl⟩
    · exact ⟨mT4, mn4, rfl⟩
  have hitv : (items4 one other left right t1' t2' t3' tr T1 T2 T3 T4 n1 n2 n3 n4 u1 u2 u3 u4 u5 u6 u7 u8).map (fun it => Value.ref it.T) = [.ref T1, .ref T2, .ref T3, .ref T4] := rfl
  have hitc : (items4 one other left right t1' t2' t3' tr T1 T2 T3 T4 n1 n2 n3 n4 u1 u2 u3 u4 u5 u6 u7 u8).map ItC.con = cons4 one other left right := rfl
  generalize items4 one other left right t1' t2' t3' tr T1 T2 T3 T4 n1 n2 n3 n4 u1 u2 u3 u4 u5 u6 u7 u8 = items at hitm hitv hitc
  have mFL' : (FL, listOf (items.map fun it => Value.ref it.T).toArray 0) ∈ S0 := by rw [hitv]; exact mFL
  refine loop_list (I := I1) (l := FL) items.length (fun i m₁ news₁ => ∃ (cons : List Cn) (k : Nat) (own : List (Addr × Obj)), news₁ = (co, listOf (tps cons).toArray k) :: (own ++ (S0 ++ dyn)) ∧ cons.map Cn.con = (items.map ItC.con).take i ∧ cons.length ≤ 10 ∧ i ≤ items.length ∧ (∀ cn ∈ cons, CnOk w nmA (own ++ S0) cn ∧ CnB cn) ∧ (∀ q ∈ own, q.1 ≠ co ∧ q.1 ≠ I1 ∧ q.1 ∉ ads cs) ∧
    Locs m₁ [("right", .int right tr), ("problem", .ref x)]) go_tuple ?hE rfl F12 N12 ?h0 ?h1 ?h2
  case hE => passes_own
  case h0 => exact ⟨[], 0, [], rfl, by simp, by simp, Nat.zero_le _, (fun q h => by cases h), (fun q h => by cases h), H10⟩
  case h1 =>
    rintro i m₂ news₂ h ⟨cons, k, own, rfl, _, _, _, _, ho, _⟩ N4
    exact List.forall_mem_cons.mpr ⟨(hI1 (co, listOf #[] 0) (.head _) : co ≠ I1), ne_app (fun q hq => (ho q hq).2.1) (fun q hq => hI1 q (.tail _ hq))⟩
  case h2 =>
    rintro i m₁ news₁ h₁ tk₁ ⟨cons, k, own, rfl, hcon, hcl10, hil, hcok, ho, H₁⟩ F₁ N₁
    refine ⟨items.map fun it => Value.ref it.T, ⟨_, _, (N₁ _ (.tail _ (.tail _ (List.mem_append_right _ (List.mem_append_left _ mFL'))))).1, rfl⟩, ?_⟩
    rw [List.getElem?_map]
    cases hi : items[i]? with
    | some it =>
      dsimp only [Option.map]
      obtain ⟨hlt, hdr⟩ := drop_some hi
      refine ⟨hlt, fun h₂ F₂ N₂ => ?_⟩
      have F₂ := H₁.fr F₂
      simp only [nest] at F₂
      obtain ⟨mT, mn, mv⟩ := hitm it (List.mem_of_getElem? hi)
      k_steps
      refine Stop.intro ?_
      unfold Stop
      rename Fr _ _ _ _ => F20
      rename News _ _ _ _ => N20
      refine esc_new (Cx.mk K0 KX T rfl rfl ?d1 ?u1 rfl rfl) F20 N20 ?_
      case d1 => simp only [depth_deeper, depth_caller]; decide
      case u1 => simp only [units_deeper]; decide
      intro h21 tk21 c21 cdx21 s1 s2 ep21 F21 N21 lt21 ne21
      clear F20 N20
      k_steps
      refine Stop.intro ?_
      unfold Stop
      rename Fr _ _ _ _ => F22
      rename News _ _ _ _ => N22
      have hco22 : ∀ q ∈ [(c21, instObj 410 cdx21), (cdx21, escD w.params s1 s2 it.es it.te .none ep21), (I1, itO FL (i + 1))] ++ (own ++ (S0 ++ dyn)), q.1 ≠ co := by
        have z := lt21 (co, listOf (tps cons).toArray k) (.tail _ (.head _))
        refine List.forall_mem_cons.mpr ⟨Nat.ne_of_gt z.1, List.forall_mem_cons.mpr ⟨Nat.ne_of_gt z.2, List.forall_mem_cons.mpr ⟨Ne.symm (hI1 (co, listOf #[] 0) (.head _) : co ≠ I1), ne_app (l1 := own) (l2 := S0 ++ dyn) (fun q hq => (ho q hq).1) coS⟩⟩⟩
      refine addc_c (c := c21) (cdx := cdx21) (Cx.mk K0 KX T rfl rfl ?d2 ?u2 rfl rfl) F22 (news_pull (l1 := [_, _, _]) N22) (List.mem_append_right _ (List.mem_append_right _ (List.mem_append_left _ mx))) (List.mem_append_right _ (List.mem_append_right _ (List.mem_append_left _ mxd))) (.head _) (.tail _ (.head _)) (by rw [List.length_map]; omega) hco22 ?_
      case d2 => simp only [depth_deeper, depth_caller]; decide
      case u2 => simp only [units_deeper]; decide
      intro h23 tk23 T23 F23 N23 lt23 ne23
      clear F22 N22
      k_steps
      rename Fr _ _ _ _ => F24
      rename News _ _ _ _ => N24
      have hT23 : T23 ∉ ads cs := D8.notin fun q hq => Nat.ne_of_lt (lt23 q (List.mem_append_right _ (List.mem_append_right _ (List.mem_append_right _ hq))))
      have hc21 : c21 ∉ ads cs := D8.notin fun q hq => Nat.ne_of_lt (lt21 q (.tail _ (.tail _ (List.mem_append_right _ (List.mem_append_right _ hq))))).1
      have hcd21 : cdx21 ∉ ads cs := D8.notin fun q hq => Nat.ne_of_lt (lt21 q (.tail _ (.tail _ (List.mem_append_right _ (List.mem_append_right _ hq))))).2
      have hI21 := lt21 (I1, itO FL (i + 1)) (.head _)
      have hI23 := lt23 (I1, itO FL (i + 1)) (List.mem_append_left _ (.tail _ (.tail _ (.head _))))
      have hnew := ({ tp := T23, c := c21, cdx := cdx21, vl := it.nl, es := it.es, te := it.te, t1 := s1, t2 := s2, ep := ep21, mu := .none, ff := it.vars.map fun p => (p.1, 1), vars := it.vars } : Cn)
      refine ⟨_, _, _, _, rfl, by k_asm, news_sub N24 ?g1, cons ++ [{ tp := T23, c := c21, cdx := cdx21, vl := it.nl, es := it.es, te := it.te, t1 := s1, t2 := s2, ep := ep21, mu := .none, ff := it.vars.map fun p => (p.1, 1), vars := it.vars }], k + 1, (T23, ({ cls := .type "tuple", data := .seq #[.ref c21, .ref it.nl] } : Obj)) :: (c21, instObj 410 cdx21) :: (cdx21, escD w.params s1 s2 it.es it.te .none ep21) :: own, rfl, ?g2, ?g3, hlt, ?g4, ?g5, by (intros; repeat (first | exact Locs.nil | refine Locs.cons rfl ?_))⟩
      case g1 =>
        intro q hq
        simp only [tps, List.map_append, List.map_cons, List.map_nil, List.cons_append, List.nil_append, List.mem_cons, List.mem_append] at hq ⊢
        grind
      case g2 =>
        rw [List.map_append, hcon, List.take_add_one, List.getElem?_map, hi]
        rfl
      case g3 =>
        have z := congrArg List.length hcon
        have z4 := congrArg List.length hitc
        simp only [List.length_map, List.length_take, cons4, List.length_cons, List.length_nil] at z z4
        rw [List.length_append, List.length_singleton]; omega
      case g4 =>
        intro c8 hc8
        rcases List.mem_append.mp hc8 with hc8 | hc8
        · exact ⟨(hcok c8 hc8).1.mono fun q hq => .tail _ (.tail _ (.tail _ hq)), (hcok c8 hc8).2⟩
        · obtain rfl := List.mem_singleton.mp hc8
          exact ⟨⟨.head _, .tail _ (.head _), .tail _ (.tail _ (.head _)), ⟨rfl, rfl⟩, ⟨0, .tail _ (.tail _ (.tail _ (List.mem_append_right _ mn)))⟩⟩, by show it.vars.length ≤ 50; omega, (fun e => by rw [show it.vars = [] from e] at mv; cases mv), by show it.vars.length ≠ 1; omega⟩
      case g5 =>
        exact List.forall_mem_cons.mpr ⟨⟨ne23, Nat.ne_of_gt hI23, hT23⟩, List.forall_mem_cons.mpr ⟨⟨hco22 _ (.head _), Nat.ne_of_gt hI21.1, hc21⟩, List.forall_mem_cons.mpr ⟨⟨hco22 _ (.tail _ (.head _)), Nat.ne_of_gt hI21.2, hcd21⟩, ho⟩⟩⟩
    | none =>
      dsimp only [Option.map]
      intro h₂ F₂ N₂
      have F₂ := H₁.fr F₂
      simp only [nest] at F₂
      have hall : (items.map ItC.con).take i = items.map ItC.con := List.take_of_length_le (by rw [List.length_map]; exact List.getElem?_eq_none_iff.mp hi)
      rw [hall, hitc] at hcon
      k_steps
      refine Stop.intro ?_
      unfold Stop
      rename Fr _ _ _ _ => F30
      rename News _ _ _ _ => N30
      rename _ < _ ∧ AllLt _ _ => l30
      (try dsimp only at N30)
      (try dsimp only)
      have hb0 : AllBare s₁.gens := by rw [hg]; exact AllBare.empty
      have hcl4 : cs.length = 4 := by simpa using hcl
      obtain ⟨ys, hrun, hkey, hokr⟩ := pure4 (sc == 225) fc r0 r1 r2 r3 r4 one other left right h1 h2 h3 ⟨hr0, by omega⟩
      obtain ⟨vcA, ds1, fin, ds2, ha1, ha2, ha3, ha4, ha5, ha6, ha7⟩ := runP_spec hrun
      have l30' := allLt_mem l30.2
      have N31 := news_assoc N30
      refine rows_c (dyn := dyn) (ds := List.replicate 4 (dT r0 r1 r2 r3 r4)) (nm := nmA) (toks := [_, _, _, _]) (kn := 0) (want := want4 one other left right) (f := 400) (Cx.mk K0 KX T rfl rfl ?d1 ?u1 rfl rfl) F30 N31 (.cons _ (.cons _ (.base _))) nmA_inj (.tail _ (.tail _ (List.mem_append_right _ mx))) (.tail _ (.tail _ (List.mem_append_right _ mxd))) (.tail _ (.tail _ (List.mem_append_right _ mso))) (.tail _ (.tail _ (List.mem_append_right _ msd))) hsc (.tail _ (.tail _ (List.mem_append_right _ mva))) hod8 lov lva
        (.tail _ (.head _)) (fun cn h => ⟨(hcok cn h).1.mono fun q hq => .tail _ (.tail _ hq), (hcok cn h).2⟩) (by omega) (fun i j _ _ => nmA_ord i j) (by omega) (by omega) D8 nd8 ?hR30 (by rw [hcon, hcl4]; exact ha1) (by rw [hcon]; exact ha3) (by rw [hcl4]; exact ha4) ha2 hb0 ha5 ha6 ?hyB ?hyR (.head _) (by rw [hcl4]; rfl) (by rw [hcl4]; exact hkey) (by rw [hcl4]; exact hokr) ?_
      case d1 => simp only [depth_deeper, depth_caller]; decide
      case u1 => simp only [units_deeper]; decide
      case hR30 =>
        exact List.forall_mem_cons.mpr ⟨D8.notin fun q hq => Nat.ne_of_lt (l30' q (List.mem_append_right _ (List.mem_append_right _ hq))), List.forall_mem_cons.mpr ⟨coads, fun q hq => (List.mem_append.mp hq).elim (fun h => (ho q h).2.2) (offS q)⟩⟩
      case hyB =>
        intro hf hs
        have z := ha7 hf
        rw [show (sc == 225) = false by rw [hs]; decide] at z
        rw [hcl4]
        exact solveP_bt z
      case hyR =>
        intro hf hs
        have z := ha7 hf
        rw [show (sc == 225) = true by rw [hs]; decide] at z
        rw [hcl4]
        exact solveP_rb z
      intro h31 tk31 gens31 S31 k31 T31 R31 F31 N31' hs31 hT31 hm31 hb31
      have hin : ∀ q ∈ S0, q ∈ R31 := fun q hq => hs31 q (.tail _ (.tail _ (List.mem_append_right _ hq)))
      rw [hS0] at hin
      simp only [List.forall_mem_cons] at hin
      obtain ⟨_, _, _, _, _, _, _, _, _, _, _, _, _, _, _, _, _, mc4, mc3, mc2, mc1, _⟩ := hin
      clear N30 N31 F30
      have hRM := RowsMark.mk
      k_steps
      · refine Stop.intro ?_
        unfold Stop
        rename Fr _ _ _ _ => F40
        rename News _ _ _ _ => N40
        rename one + other ≠ left + right => hne40
        have hw : want4 one other left right = [] := by unfold want4; rw [if_pos hne40]
        refine kqd_eq N40 (.tail _ (.head _)) rfl rfl (dat_rows hT31 hm31) (fun q hq => .tail _ (.tail _ hq)) (.head _) rfl rfl .nil (fun q hq => hq) (rows_ok _) (by intro d hd; cases hd) (by simp only [units_deeper]; decide) ?_
        rw [dec_true (by rw [hw]; rfl)]
        k_steps
        show GoodWG _ _ _ _ _ _ _
        exact ⟨.inl ⟨.bool true, .bool true, [], rfl, (law_raises _), ReadsW.bool true, (law_post _), fun _ => ⟨List.nodup_nil, fun _ hm => (nomatch hm)⟩⟩, .of_keep F40.keep, rfl, hb31⟩
      · rename Fr _ _ _ _ => F40
        rename News _ _ _ _ => N40
        rename IsRange _ _ _ _ _ _ _ _ => hr40
        rename one + other = left + right => heq40
        have hA0 : ∃ a0 b0 : Int, a0 = (if one - right > 0 then one - right else 0) ∧ b0 = ((if left < one then left else one) + 1) := ⟨_, _, rfl, rfl⟩
        obtain ⟨a0, b0, ea0, eb0⟩ := hA0
        rw [← ea0, ← eb0] at hr40
        have ha0 : 0 ≤ a0 ∧ a0 ≤ 10 := by rw [ea0]; split <;> omega
        have hb0' : 0 ≤ b0 ∧ b0 ≤ 10 := by rw [eb0]; split <;> omega
        have hwant : want4 one other left right = (List.range (b0 - a0).toNat).map fun (j : Nat) => [a0 + (j : Int), one - (a0 + (j : Int)), left - (a0 + (j : Int)), other - left + (a0 + (j : Int))] := by
          have e1 : (if one - right < 0 then 0 else one - right) = a0 := by rw [ea0]; split <;> split <;> omega
          have e2 : (if one < left then one else left) + 1 = b0 := by rw [eb0]; split <;> split <;> omega
          unfold want4
          rw [if_neg (by omega), e1, e2]
        refine compSt_rangeJ (n := (b0 - a0).toNat) (fun i yv nw => ∃ T : List (Addr × Obj), nw = T ++ ((S31, listOf (refs T31).toArray k31) :: R31) ∧ yv = refs T ∧ Paired RowAt ((List.range i).map fun (j : Nat) => [a0 + (j : Int), one - (a0 + (j : Int)), left - (a0 + (j : Int)), other - left + (a0 + (j : Int))]) T) rfl F40 N40 hr40 (small_one (by omega) (by omega) (by omega) (by omega)) (rangeSize_nat _ _) (by rw [sizeLine_eq]; omega) ?zc ?zk ?zx ⟨[], rfl, rfl, .nil⟩ ?zt ?zf
        case zc => decide
        case zk => rfl
        case zx => rfl
        case zt =>
          rintro I50 i50 t50 oI50 C50 oC50 D50 m50 h50 tk50 yv50 nw50 E50 s50 hg50 hi50 ⟨T50, rfl, rfl, hT50⟩ hC50 hx50 F50 N50 off50 ne50
          k_steps
          (try dsimp only)
          rename Fr _ _ _ _ => F51
          rename News _ _ _ _ => N51
          rename _ < _ ∧ _ < _ ∧ _ < _ ∧ AllLt _ _ => l51
          (try dsimp only at N51)
          refine turn_out F51 N51 l51 off50 hT50 (r := [a0 + (i50 : Int), one - (a0 + (i50 : Int)), left - (a0 + (i50 : Int)), other - left + (a0 + (i50 : Int))]) ⟨[_, _, _, _], 0, rfl, .cons _ _ (.cons _ _ (.cons _ _ (.cons _ _ .nil)))⟩ (by rw [List.range_succ, List.map_append]; rfl)
        case zf =>
          rintro D60 h60 tk60 yv60 nw60 F60 N60 o60 ⟨T60, rfl, rfl, hT60⟩
          k_steps
          refine Stop.intro ?_
          unfold Stop
          rename Fr _ _ _ _ => F61
          rename News _ _ _ _ => N61
          refine kqd_eq N61 (.tail _ (List.mem_append_right _ (.head _))) rfl rfl (dat_rows hT31 hm31) (fun q hq => .tail _ (List.mem_append_right _ (.tail _ hq))) (.head _) rfl rfl (dat_rows hT60 (fun q hq => hq)) (fun q hq => .tail _ (List.mem_append_left _ hq)) (rows_ok _) (rows_ok _) (by simp only [units_deeper]; decide) ?_
          rw [dec_true (by rw [hwant])]
          k_steps
          show GoodWG _ _ _ _ _ _ _
          exact ⟨.inl ⟨.bool true, .bool true, [], rfl, (law_raises _), ReadsW.bool true, (law_post _), fun _ => ⟨List.nodup_nil, fun _ hm => (nomatch hm)⟩⟩, .of_keep F61.keep, rfl, hb31⟩
  )
end Mine
end
theorem PySem.Challenge.cw_aw5017_04_holds : PySem.Challenge.rw_aw5017_04.Holds :=
  Mine.lawT
