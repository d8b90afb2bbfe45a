import PyProof.Rows.All
import Wide.All
import OpenK.AllK
import Wide.FinOn
import Lean
import PySem.Challenge.RW_dn0018_12
set_option Elab.async false

section
namespace C3
/- classes by number; the way up and the bases of each -/
def way : Nat → List Nat
  | 0 => [0] | 1 => [1, 0] | 2 => [2, 1, 0] | 3 => [3, 0] | 4 => [4, 0] | 5 => [5, 0] | 6 => [6, 5, 0] | 7 => [7, 6, 5, 0] | 8 => [8, 7, 6, 5, 0] | 9 => [9, 6, 5, 0]
  | 10 => [10, 9, 6, 5, 0] | 11 => [11, 6, 5, 0] | 12 => [12, 11, 6, 5, 0] | 13 => [13, 5, 0] | 14 => [14, 13, 6, 5, 0] | _ => []
def bases : Nat → List Nat
  | 0 => [] | 1 => [0] | 2 => [1] | 3 => [0] | 4 => [0] | 5 => [0] | 6 => [5] | 7 => [6] | 8 => [7] | 9 => [6] | 10 => [9] | 11 => [6] | 12 => [11] | 13 => [5] | 14 => [13, 6] | _ => []
/-- a merge: the first head that stands in no tail -/
def cand (all : List (List Nat)) : List (List Nat) → Option Nat
  | [] => none
  | [] :: r => cand all r
  | (c :: _) :: r => if all.any (fun t => t.tail.contains c) then cand all r else some c
def drop1 (c : Nat) (t : List Nat) : List Nat := match t with
  | [] => []
  | x :: r => if x = c then r else x :: r
def full (ss : List (List Nat)) : List (List Nat) := ss.filter fun s => !s.isEmpty
def merge : Nat → List (List Nat) → List Nat → Option (List Nat)
  | 0, _, _ => none
  | n + 1, ss, res => if full ss = [] then some res else match cand (full ss) (full ss) with
    | none => none
    | some c => merge n ((full ss).map (drop1 c)) (res ++ [c])
def total (ss : List (List Nat)) : Nat := (ss.map List.length).sum
theorem total_full (ss : List (List Nat)) : total (full ss) = total ss := by
  induction ss with
  | nil => rfl
  | cons s r ih =>
    unfold full total at *
    cases s with
    | nil => simpa using ih
    | cons x t => simp only [List.filter_cons, List.isEmpty_cons, Bool.not_false, if_true, List.map_cons, List.sum_cons, ih]
theorem drop1_le (c : Nat) (t : List Nat) : (drop1 c t).length ≤ t.length := by
  cases t with
  | nil => exact Nat.le_refl _
  | cons x r => unfold drop1; dsimp only; split <;> simp
theorem total_drop_le (c : Nat) : ∀ ss : List (List Nat), total (ss.map (drop1 c)) ≤ total ss
  | [] => Nat.le_refl _
  | s :: r => by
    have h1 := total_drop_le c r
    have h2 := drop1_le c s
    unfold total at *
    simp only [List.map_cons, List.sum_cons]
    omega
theorem cand_mem {all : List (List Nat)} {c : Nat} : ∀ {ss : List (List Nat)}, cand all ss = some c → ∃ t, (c :: t) ∈ ss
  | [], h => by cases h
  | [] :: r, h => by obtain ⟨t, ht⟩ := cand_mem (ss := r) h; exact ⟨t, .tail _ ht⟩
  | (x :: t) :: r, h => by
    unfold cand at h
    split at h
    · obtain ⟨t', ht⟩ := cand_mem (ss := r) h; exact ⟨t', .tail _ ht⟩
    · cases h; exact ⟨t, .head _⟩
theorem total_drop_lt {c : Nat} {t : List Nat} : ∀ {ss : List (List Nat)}, (c :: t) ∈ ss → total (ss.map (drop1 c)) < total ss
  | _ :: r, .head _ => by
    have h1 := total_drop_le c r
    unfold total at *
    simp only [List.map_cons, List.sum_cons, drop1, if_true, List.length_cons]
    omega
  | s :: r, .tail _ h => by
    have h1 := total_drop_lt (ss := r) h
    have h2 := drop1_le c s
    unfold total at *
    simp only [List.map_cons, List.sum_cons]
    omega
/-- the lists that _c3_mro lays before _c3_merge: k the class, m how often it stands in the list -/
def seqs (k m : Nat) : List (List Nat) := [[k]] ++ (List.replicate m (way k) ++ ((bases k).map way ++ ([[]] ++ ([List.replicate m k] ++ [bases k]))))
theorem merge_lt2 : ∀ k < 15, ∀ m < 2, merge 40 (seqs k m) [] = some (way k) := by decide +kernel
theorem total_lt2 : ∀ k < 15, ∀ m < 2, total (seqs k m) < 40 := by decide +kernel
theorem merge_mono : ∀ (n : Nat) (ss : List (List Nat)) (res : List Nat), total ss < n → ∀ n', total ss < n' → merge n ss res = merge n' ss res
  | 0, _, _, h, _, _ => absurd h (Nat.not_lt_zero _)
  | n + 1, _, _, _, 0, h' => absurd h' (Nat.not_lt_zero _)
  | n + 1, ss, res, h, n' + 1, h' => by
    unfold merge
    split
    · rfl
    · cases hc : cand (full ss) (full ss) with
      | none => rfl
      | some c =>
        obtain ⟨t, ht⟩ := cand_mem hc
        have h1 := total_drop_lt ht
        rw [total_full] at h1
        exact merge_mono n _ _ (by omega) n' (by omega)
/-- where the class stands twice or more every head is refused -/
theorem cand_none {all : List (List Nat)} : ∀ {ss : List (List Nat)}, (∀ c t, (c :: t) ∈ ss → all.any (fun t => t.tail.contains c) = true) → cand all ss = none
  | [], _ => rfl
  | [] :: r, h => cand_none (ss := r) fun c t m => h c t (.tail _ m)
  | (x :: t) :: r, h => by
    unfold cand
    rw [if_pos (h x t (.head _))]
    exact cand_none (ss := r) fun c t m => h c t (.tail _ m)
theorem way_cons : ∀ k < 15, way k = k :: (way k).tail := by decide +kernel
theorem base_in_way : ∀ k < 15, ∀ b ∈ bases k, b < 15 ∧ b < k ∧ (way k).tail.contains b = true := by decide +kernel
theorem way_lt : ∀ k < 15, ∀ b ∈ way k, b < 15 := by decide +kernel
theorem merge_many {k m n : Nat} (hk : k < 15) (hm : 2 ≤ m) (hn : 0 < n) : merge n (seqs k m) [] = none := by
  obtain ⟨n, rfl⟩ : ∃ j, n = j + 1 := ⟨n - 1, by omega⟩
  have hw := way_cons k hk
  have mem1 : List.replicate m k ∈ full (seqs k m) := by
    unfold full seqs
    rw [List.mem_filter]
    refine ⟨by simp, ?_⟩
    obtain ⟨j, rfl⟩ : ∃ j, m = j + 1 := ⟨m - 1, by omega⟩
    rfl
  have mem2 : way k ∈ full (seqs k m) := by
    unfold full seqs
    rw [List.mem_filter]
    refine ⟨?_, by rw [hw]; rfl⟩
    simp only [List.mem_append]
    refine .inr (.inl ?_)
    exact List.mem_replicate.mpr ⟨by omega, rfl⟩
  have t1 : (List.replicate m k).tail.contains k = true := by
    obtain ⟨j, rfl⟩ : ∃ j, m = j + 2 := ⟨m - 2, by omega⟩
    simp [List.replicate_succ]
  have own : (full (seqs k m)).any (fun t => t.tail.contains k) = true := List.any_eq_true.mpr ⟨_, mem1, t1⟩
  have up : ∀ b ∈ bases k, (full (seqs k m)).any (fun t => t.tail.contains b) = true := fun b hb => List.any_eq_true.mpr ⟨_, mem2, (base_in_way k hk b hb).2.2⟩
  have none_ : cand (full (seqs k m)) (full (seqs k m)) = none := by
    refine cand_none fun c t hm' => ?_
    have hm2 := (List.mem_filter.mp hm').1
    unfold seqs at hm2
    simp only [List.mem_append, List.mem_cons, List.not_mem_nil, or_false, List.mem_replicate, List.mem_map] at hm2
    rcases hm2 with h | ⟨_, h⟩ | ⟨b, hb, h⟩ | h | h | h
    · cases h; exact own
    · rw [hw] at h; cases h; exact own
    · have hb' := base_in_way k hk b hb
      rw [way_cons b hb'.1] at h
      cases h; exact up _ hb
    · cases h
    · have : c ∈ List.replicate m k := by rw [← h]; exact .head _
      rw [List.eq_of_mem_replicate this]; exact own
    · have : c ∈ bases k := by rw [← h]; exact .head _
      exact up c this
  unfold merge
  rw [if_neg (fun e => by rw [e] at mem1; cases mem1), none_]
theorem merge_seqs {k m n : Nat} (hk : k < 15) (hn : total (seqs k m) < n) : merge n (seqs k m) [] = if m < 2 then some (way k) else none := by
  by_cases hm : m < 2
  · rw [if_pos hm, merge_mono n _ _ hn 40 (total_lt2 k hk m hm)]
    exact merge_lt2 k hk m hm
  · rw [if_neg hm]
    exact merge_many hk (by omega) (by omega)
end C3
end

section
open PySem PySem.W PyProof.Rows
set_option maxRecDepth 100000
namespace C3
/- the classes as values -/
def nm : Nat → String
  | 0 => "object" | 1 => "int" | 2 => "bool" | 3 => "str" | 4 => "list" | 5 => "BaseException" | 6 => "Exception" | 7 => "ArithmeticError" | 8 => "ZeroDivisionError" | 9 => "LookupError"
  | 10 => "KeyError" | 11 => "ValueError" | 12 => "UnicodeError" | 13 => "BaseExceptionGroup" | _ => "ExceptionGroup"
def cv (k : Nat) : Value := .type (nm k)
def cvs (l : List Nat) : List Value := l.map cv
def bkey (k : Nat) : Str := Str.ofString ("type.__bases__:" ++ nm k)
theorem nm_inj : ∀ i < 15, ∀ j < 15, nm i = nm j → i = j := by decide +kernel
theorem bkey_inj : ∀ i < 15, ∀ j < 15, bkey i = bkey j → i = j := by decide +kernel
theorem bkey_limit : ∀ i < 15, bkey i ≠ Str.ofString "sys.recursionlimit" := by decide +kernel
theorem bkey_first : ∀ i < 15, firstUseKey (bkey i) = true := by decide +kernel
theorem cv_eq {i j : Nat} (hi : i < 15) (hj : j < 15) : (cv i == cv j) = (i == j) := by
  by_cases h : i = j
  · subst h; simp
  · have : cv i ≠ cv j := fun e => h (nm_inj i hi j hj (by unfold cv at e; injection e))
    rw [beq_eq_false_iff_ne.mpr this, beq_eq_false_iff_ne.mpr h]
/- the table of the code of _c3_mro: the one generator expression at most -/
def tabP : Addr := 22
def Spec (b : Addr) : Prop := b = cStatics ∨ b = tabP
def TabOk (ps : Array Value) : Prop := ps = #[] ∨ ∃ c : Addr, ps = #[rawInt 34, rawInt 46, .ref c]
def Tab (h : Heap) : Prop := ∃ ps, h.get? tabP = some { cls := .none, data := .fields ps } ∧ TabOk ps
/- the statics: only the tuples of bases -/
def Stat (h : Heap) : Prop := ∃ o es n, h.get? cStatics = some o ∧ o.cls = .none ∧ o.data = .dict es n ∧ StrKeys es ∧
  (∀ key v, nsFind es key = some v → ∃ k t, k < 15 ∧ key = bkey k ∧ v = .ref t ∧ IsTup h t (cvs (bases k)).toArray) ∧ Tab h
theorem Stat.ns {h : Heap} (S : Stat h) : ∃ mc, h.Ns cStatics mc ∧ ∀ key v, mc key = some v → ∃ k t, k < 15 ∧ key = bkey k ∧ v = .ref t ∧ IsTup h t (cvs (bases k)).toArray :=
  let ⟨o, es, n, ho, _, hd, hk, hf, _⟩ := S; ⟨_, ⟨o, es, n, ho, hd, hk, fun _ => rfl⟩, hf⟩
theorem Stat.noLimit {h : Heap} (S : Stat h) : h.NoLimit := by
  obtain ⟨mc, hn, hf⟩ := S.ns
  refine ⟨mc, hn, ?_⟩
  cases e : mc "sys.recursionlimit" with
  | none => rfl
  | some v =>
    obtain ⟨k, t, hk, hkey, _⟩ := hf _ _ e
    exact absurd hkey.symm (bkey_limit k hk)
theorem Stat.tab {h : Heap} (S : Stat h) : Tab h := let ⟨_, _, _, _, _, _, _, _, t⟩ := S; t
theorem Stat.specs {h : Heap} (S : Stat h) {b : Addr} (hb : Spec b) : ∃ o, h.get? b = some o := by
  obtain ⟨o, es, n, ho, _, _, _, _, ps, hp, _⟩ := S
  rcases hb with e | e
  · exact ⟨o, by rw [e]; exact ho⟩
  · exact ⟨_, by rw [e]; exact hp⟩
theorem Stat.step {h h' : Heap} (S : Stat h) (hx : ∀ b o, Spec b → h.get? b = some o → h'.get? b = some o) (ht : ∀ t its, IsTup h t its → IsTup h' t its) : Stat h' :=
  let ⟨o, es, n, ho, hc, hd, hk, hf, ps, hp, hps⟩ := S
  ⟨o, es, n, hx _ _ (.inl rfl) ho, hc, hd, hk, fun key v e => let ⟨k, t, a, b, c, d⟩ := hf key v e; ⟨k, t, a, b, c, ht t _ d⟩, ps, hx _ _ (.inr rfl) hp, hps⟩
structure Gl (B h : Heap) : Prop where
  stays : B.StaysIn h
  stat : Stat h
/- what is known at an address -/
inductive Cell where
  | ns (kv : List (Str × Value))
  | cell (v : Option Value)
  | list (xs : List Value)
  | iter (l : Addr) (i : Nat)
  | other (P : Option Obj → Prop)
def Cell.At (h : Heap) (a : Addr) : Cell → Prop
  | .ns kv => (∃ m, h.Ns a m ∧ ∀ p ∈ kv, m p.1 = some p.2) ∧ (kv.map (·.1)).Nodup
  | .cell v => h.IsCell a v
  | .list xs => h.PlainList a xs.toArray
  | .iter l i => h.IsListIter a l i
  | .other P => P (h.get? a) ∧ ∃ o, h.get? a = some o ∧ o.cls ≠ .type "tuple"
theorem Cell.at_congr {h h' : Heap} {a : Addr} (e : h'.get? a = h.get? a) (c : Cell) (x : c.At h a) : c.At h' a := by
  cases c with
  | ns kv => obtain ⟨⟨m, ⟨o, es, n, ho, r⟩, hm⟩, hd⟩ := x; exact ⟨⟨m, ⟨o, es, n, e.trans ho, r⟩, hm⟩, hd⟩
  | cell v => obtain ⟨o, ho, r⟩ := x; exact ⟨o, e.trans ho, r⟩
  | list xs => obtain ⟨n, ho⟩ := x; exact ⟨n, e.trans ho⟩
  | iter l i => obtain ⟨o, ho, r⟩ := x; exact ⟨o, e.trans ho, r⟩
  | other P => obtain ⟨p, o, ho, r⟩ := x; exact ⟨by rw [e]; exact p, o, e.trans ho, r⟩
theorem Cell.there {h : Heap} {a : Addr} (c : Cell) (x : c.At h a) : ∃ o, h.get? a = some o := by
  cases c with
  | ns kv => obtain ⟨⟨m, ⟨o, es, n, ho, r⟩, hm⟩, hd⟩ := x; exact ⟨o, ho⟩
  | cell v => obtain ⟨o, ho, r⟩ := x; exact ⟨o, ho⟩
  | list xs => obtain ⟨n, ho⟩ := x; exact ⟨_, ho⟩
  | iter l i => obtain ⟨o, ho, r⟩ := x; exact ⟨o, ho⟩
  | other P => obtain ⟨p, o, ho, r⟩ := x; exact ⟨o, ho⟩
theorem Cell.notTup {h : Heap} {a : Addr} {its : Array Value} (c : Cell) (x : c.At h a) (t : IsTup h a its) : False := by
  obtain ⟨ot, hot, hct, nt, hdt⟩ := t
  cases c with
  | ns kv => obtain ⟨⟨m, ⟨o, es, n, ho, hd, _⟩, hm⟩, _⟩ := x; rw [ho] at hot; cases hot; rw [hd] at hdt; cases hdt
  | cell v => obtain ⟨o, ho, hd⟩ := x; rw [ho] at hot; cases hot; rw [hd] at hdt; cases hdt
  | list xs => obtain ⟨n, ho⟩ := x; rw [ho] at hot; cases hot; exact absurd hct (show Value.type "list" ≠ Value.type "tuple" by decide)
  | iter l i => obtain ⟨o, ho, hc, hd⟩ := x; rw [ho] at hot; cases hot; rw [hc] at hct; exact absurd hct (by decide)
  | other P => obtain ⟨p, o, ho, hc⟩ := x; rw [ho] at hot; cases hot; exact hc hct
/- the ledger of a call: h₀ the heap it was entered with, W what it may change of that heap -/
structure OwnH (B h₀ : Heap) (W : List Addr) (h : Heap) (C : List (Addr × Cell)) : Prop where
  gl : Gl B h
  at' : ∀ p ∈ C, p.2.At h p.1
  nd : (C.map (·.1)).Nodup
  keep : ∀ b o, h₀.get? b = some o → b ∉ W → ¬ Spec b → h.get? b = some o
  fresh : ∀ p ∈ C, (p.1 ∈ W ∨ h₀.get? p.1 = none) ∧ B.get? p.1 = none ∧ ¬ Spec p.1
  alive : ∀ a ∈ W, ∃ o, h.get? a = some o
section
variable {B h₀ h h' : Heap} {W : List Addr} {C : List (Addr × Cell)} {a : Addr} {c c' : Cell} {i : Nat}
theorem OwnH.get (O : OwnH B h₀ W h C) (i : Nat) (hi : C[i]? = some (a, c)) : c.At h a := O.at' _ (List.mem_of_getElem? hi)
theorem set_fst {C : List (Addr × Cell)} {i : Nat} (hi : C[i]? = some (a, c)) (c' : Cell) : (C.set i (a, c')).map (·.1) = C.map (·.1) := by
  rw [List.map_set]
  obtain ⟨hl, he⟩ := List.getElem?_eq_some_iff.mp hi
  refine List.ext_getElem? fun j => ?_
  by_cases hj : i = j
  · subst hj
    rw [List.getElem?_set_self (by simpa using hl)]
    simp [hi]
  · rw [List.getElem?_set_ne hj]
theorem ne_of_other {C : List (Addr × Cell)} {i j : Nat} {b : Addr} {d : Cell} (nd : (C.map (·.1)).Nodup) (hi : C[i]? = some (a, c)) (hj : C[j]? = some (b, d)) (hij : i ≠ j) : b ≠ a := by
  intro e
  subst e
  have h1 : (C.map (·.1))[i]? = some b := by rw [List.getElem?_map, hi]; rfl
  have h2 : (C.map (·.1))[j]? = some b := by rw [List.getElem?_map, hj]; rfl
  obtain ⟨l1, e1⟩ := List.getElem?_eq_some_iff.mp h1
  obtain ⟨l2, e2⟩ := List.getElem?_eq_some_iff.mp h2
  have pw := List.pairwise_iff_getElem.mp nd
  rcases Nat.lt_trichotomy i j with q | q | q
  · exact pw i j l1 l2 q (e1.trans e2.symm)
  · exact hij q
  · exact pw j i l2 l1 q (e2.trans e1.symm)
/-- the objects of the base and the tuples of the statics stay where one of the ledger's is changed -/
theorem OwnH.gl_but (O : OwnH B h₀ W h C) (i : Nat) (hi : C[i]? = some (a, c)) (hx : ∀ b o, b ≠ a → h.get? b = some o → h'.get? b = some o) : Gl B h' := by
  have z := O.fresh _ (List.mem_of_getElem? hi)
  have y := O.get i hi
  refine ⟨fun b o e => hx b o (fun q => by rw [q, z.2.1] at e; cases e) (O.gl.stays b o e), O.gl.stat.step (fun b o hb e => hx b o (fun q => z.2.2 (q ▸ hb)) e) fun t its q => ?_⟩
  obtain ⟨ot, hot, rt⟩ := q
  exact ⟨ot, hx t ot (fun e => by subst e; exact c.notTup y ⟨ot, hot, rt⟩) hot, rt⟩
theorem OwnH.keep_but (O : OwnH B h₀ W h C) (i : Nat) (hi : C[i]? = some (a, c)) (hx : ∀ b o, b ≠ a → h.get? b = some o → h'.get? b = some o) :
    ∀ b o, h₀.get? b = some o → b ∉ W → ¬ Spec b → h'.get? b = some o := fun b o e hW h2 => by
  refine hx b o (fun q => ?_) (O.keep b o e hW h2)
  subst q
  rcases (O.fresh _ (List.mem_of_getElem? hi)).1 with z | z
  · exact hW z
  · rw [z] at e; cases e
theorem OwnH.set (O : OwnH B h₀ W h C) (i : Nat) (hi : C[i]? = some (a, c)) (hx : Heap.ExtBut a h h') (h1 : c'.At h' a) : OwnH B h₀ W h' (C.set i (a, c')) := by
  refine ⟨O.gl_but i hi hx, fun p hp => ?_, by rw [set_fst hi]; exact O.nd, O.keep_but i hi hx, fun p hp => ?_, fun b hb => ?_⟩
  · obtain ⟨j, hj⟩ := List.mem_iff_getElem?.mp hp
    by_cases hij : i = j
    · subst hij
      rw [List.getElem?_set_self (List.getElem?_eq_some_iff.mp hi).1] at hj
      cases hj; exact h1
    · rw [List.getElem?_set_ne hij] at hj
      have y := O.get j (a := p.1) (c := p.2) hj
      obtain ⟨o, ho⟩ := p.2.there y
      exact p.2.at_congr ((hx _ _ (ne_of_other O.nd hi (b := p.1) (d := p.2) hj hij) ho).trans ho.symm) y
  · have : p.1 ∈ C.map (·.1) := by rw [← set_fst hi c']; exact List.mem_map_of_mem hp
    obtain ⟨q, hq, e⟩ := List.mem_map.mp this
    rw [← e]; exact O.fresh q hq
  · obtain ⟨o, ho⟩ := O.alive b hb
    by_cases e : b = a
    · subst e; exact c'.there h1
    · exact ⟨o, hx b o e ho⟩
theorem OwnH.weak (O : OwnH B h₀ W h C) (i : Nat) (hi : C[i]? = some (a, c)) (h1 : c.At h a → c'.At h a) : OwnH B h₀ W h (C.set i (a, c')) :=
  O.set i hi (Heap.ExtBut.refl a h) (h1 (O.get i hi))
theorem OwnH.sub {C' : List (Addr × Cell)} (O : OwnH B h₀ W h C) (hs : C'.Sublist C) : OwnH B h₀ W h C' :=
  ⟨O.gl, fun p hp => O.at' p (hs.subset hp), O.nd.sublist (hs.map _), O.keep, fun p hp => O.fresh p (hs.subset hp), O.alive⟩
theorem OwnH.perm {C' : List (Addr × Cell)} (O : OwnH B h₀ W h C) (hs : C.Perm C') : OwnH B h₀ W h C' :=
  ⟨O.gl, fun p hp => O.at' p (hs.symm.subset hp), (hs.map _).nodup_iff.mp O.nd, O.keep, fun p hp => O.fresh p (hs.symm.subset hp), O.alive⟩
theorem OwnH.grow (O : OwnH B h₀ W h C) (hk : ∀ b o, h.get? b = some o → h'.get? b = some o) : OwnH B h₀ W h' C := by
  refine ⟨⟨fun b o e => hk b o (O.gl.stays b o e), O.gl.stat.step (fun b o _ e => hk b o e) fun t its q => q.keeps hk⟩, fun p hp => ?_, O.nd, fun b o e x y => hk b o (O.keep b o e x y), O.fresh, fun b hb => ?_⟩
  · obtain ⟨o, ho⟩ := p.2.there (O.at' p hp)
    exact p.2.at_congr ((hk _ _ ho).trans ho.symm) (O.at' p hp)
  · obtain ⟨o, ho⟩ := O.alive b hb; exact ⟨o, hk b o ho⟩
theorem OwnH.none_of (O : OwnH B h₀ W h C) (ha : h.get? a = none) : (∀ p ∈ C, p.1 ≠ a) ∧ h₀.get? a = none ∧ B.get? a = none ∧ ¬ Spec a ∧ a ∉ W := by
  have h2 : ¬ Spec a := fun e => by obtain ⟨o2, ho⟩ := O.gl.stat.specs e; rw [ho] at ha; cases ha
  have hW : a ∉ W := fun e => by obtain ⟨o, ho⟩ := O.alive a e; rw [ho] at ha; cases ha
  refine ⟨fun p hp e => ?_, ?_, ?_, h2, hW⟩
  · obtain ⟨o, ho⟩ := p.2.there (O.at' p hp)
    rw [e, ha] at ho; cases ho
  · cases q : h₀.get? a with
    | none => rfl
    | some o => have := O.keep a o q hW h2; rw [ha] at this; cases this
  · cases q : B.get? a with
    | none => rfl
    | some o => have := O.gl.stays a o q; rw [ha] at this; cases this
/-- a new object -/
theorem OwnH.add (O : OwnH B h₀ W h C) (hk : ∀ b o, h.get? b = some o → h'.get? b = some o) (ha : h.get? a = none) (h1 : c.At h' a) : OwnH B h₀ W h' ((a, c) :: C) := by
  have z := O.none_of ha
  have O' := O.grow hk
  refine ⟨O'.gl, fun p hp => ?_, ?_, O'.keep, fun p hp => ?_, O'.alive⟩
  · rcases List.mem_cons.mp hp with q | q
    · rw [q]; exact h1
    · exact O'.at' p q
  · rw [List.map_cons, List.nodup_cons]
    refine ⟨fun hx => ?_, O.nd⟩
    obtain ⟨p, hp, e⟩ := List.mem_map.mp hx
    exact z.1 p hp e
  · rcases List.mem_cons.mp hp with q | q
    · rw [q]; exact ⟨.inr z.2.1, z.2.2.1, z.2.2.2.1⟩
    · exact O.fresh p q
theorem get_size_none (h : Heap) : h.get? h.objs.size = none := Heap.get?_none_of_le (Nat.le_refl _)
theorem OwnH.push (O : OwnH B h₀ W h C) {o : Obj} (h1 : c.At (h.push o) h.objs.size) : OwnH B h₀ W (h.push o) ((h.objs.size, c) :: C) :=
  O.add (fun _ _ e => Heap.get?_push_of_some _ e) (get_size_none h) h1
theorem OwnH.pushList (O : OwnH B h₀ W h C) (xs : List Value) : OwnH B h₀ W (h.push { cls := .type "list", data := .seq xs.toArray }) ((h.objs.size, .list xs) :: C) :=
  O.push ⟨0, Heap.get?_push_size _ rfl⟩
theorem OwnH.pushIter (O : OwnH B h₀ W h C) (l : Addr) : OwnH B h₀ W (h.push { cls := .type "list_iterator", data := .fields #[.ref l, .int 0 0] }) ((h.objs.size, .iter l 0) :: C) :=
  O.push ⟨_, Heap.get?_push_size _ rfl, rfl, rfl⟩
theorem OwnH.pushAny (O : OwnH B h₀ W h C) (o : Obj) : OwnH B h₀ W (h.push o) C := O.grow fun _ _ e => Heap.get?_push_of_some _ e
/-- the start: what is handed in to be changed -/
theorem OwnH.start (G : Gl B h) (hC : ∀ p ∈ C, p.2.At h p.1) (nd : (C.map (·.1)).Nodup) (hf : ∀ p ∈ C, B.get? p.1 = none ∧ ¬ Spec p.1) : OwnH B h (C.map (·.1)) h C := by
  refine ⟨G, hC, nd, fun _ _ e _ _ => e, fun p hp => ⟨.inl (List.mem_map_of_mem hp), hf p hp⟩, fun a ha => ?_⟩
  obtain ⟨p, hp, rfl⟩ := List.mem_map.mp ha
  exact p.2.there (hC p hp)
/-- behind a call that may change what stands in V -/
theorem OwnH.after {V : List Addr} {C' : List (Addr × Cell)} (O : OwnH B h₀ W h C) (gl : Gl B h') (keep : ∀ b o, h.get? b = some o → b ∉ V → ¬ Spec b → h'.get? b = some o) (hV : ∀ a ∈ V, a ∈ C.map (·.1))
    (hn : C'.map (·.1) = C.map (·.1)) (hat : ∀ p ∈ C', (p ∈ C ∧ p.1 ∉ V) ∨ p.2.At h' p.1) : OwnH B h₀ W h' C' := by
  have old : ∀ p ∈ C', ∃ c, (p.1, c) ∈ C := fun p hp => by
    have : p.1 ∈ C.map (·.1) := by rw [← hn]; exact List.mem_map_of_mem hp
    obtain ⟨q, hq, e⟩ := List.mem_map.mp this
    exact ⟨q.2, by rw [← e]; exact hq⟩
  have now : ∀ p ∈ C', p.2.At h' p.1 := fun p hp => by
    rcases hat p hp with ⟨q, z⟩ | q
    · obtain ⟨o, ho⟩ := p.2.there (O.at' p q)
      exact p.2.at_congr ((keep _ _ ho z (O.fresh p q).2.2).trans ho.symm) (O.at' p q)
    · exact q
  refine ⟨gl, now, by rw [hn]; exact O.nd, fun b o e x y => keep b o (O.keep b o e x y) (fun z => ?_) y, fun p hp => ?_, fun a ha => ?_⟩
  · obtain ⟨q, hq, rfl⟩ := List.mem_map.mp (hV b z)
    rcases (O.fresh q hq).1 with t | t
    · exact x t
    · rw [t] at e; cases e
  · obtain ⟨c, hc⟩ := old p hp
    exact O.fresh (p.1, c) hc
  · obtain ⟨o, ho⟩ := O.alive a ha
    by_cases z : a ∈ V
    · have : a ∈ C'.map (·.1) := by rw [hn]; exact hV a z
      obtain ⟨p, hp, rfl⟩ := List.mem_map.mp this
      exact p.2.there (now p hp)
    · by_cases q : Spec a
      · exact gl.stat.specs q
      · exact ⟨o, keep a o ho z q⟩
end
/- the states -/
structure Sim (s s' : Shared) : Prop where
  os : s'.os = s.os
  bare : AllBare s.gens → AllBare s'.gens
theorem Sim.refl (s : Shared) : Sim s s := ⟨rfl, id⟩
theorem Sim.trans {a b c : Shared} (x : Sim a b) (y : Sim b c) : Sim a c := ⟨y.os.trans x.os, fun h => y.bare (x.bare h)⟩
structure Own (B : Heap) (s₀ : Shared) (W : List Addr) (s : Shared) (C : List (Addr × Cell)) : Prop where
  h : OwnH B s₀.heap W s.heap C
  sim : Sim s₀ s
theorem Own.to {B : Heap} {s₀ s s' : Shared} {W : List Addr} {C C' : List (Addr × Cell)} (O : Own B s₀ W s C) (H : OwnH B s₀.heap W s'.heap C') (hos : s'.os = s.os := by rfl) (hg : s'.gens = s.gens := by rfl) : Own B s₀ W s' C' :=
  ⟨H, ⟨hos.trans O.sim.os, fun b => by rw [hg]; exact O.sim.bare b⟩⟩
theorem Own.same {B : Heap} {s₀ s s' : Shared} {W : List Addr} {C : List (Addr × Cell)} (O : Own B s₀ W s C) (hh : s'.heap = s.heap := by rfl) (hos : s'.os = s.os := by rfl) (hg : s'.gens = s.gens := by rfl) : Own B s₀ W s' C :=
  O.to (by rw [hh]; exact O.h) hos hg
end C3
end

section
open PySem PySem.W PyProof.Rows
set_option maxRecDepth 100000
namespace C3
section
variable {prog : Program} {w : World} {A : Around} {E : Value → Shared → Prop} {s₀ s : Shared} {B : Heap} {W : List Addr} {C : List (Addr × Cell)} {env : Env}
/- names -/
theorem Cell.ns_get {h : Heap} {a : Addr} {kv : List (Str × Value)} {j : Nat} {x : Str} {v : Value} (H : Cell.At h a (.ns kv)) (hj : kv[j]? = some (x, v)) : ∃ m, h.Ns a m ∧ m x = some v :=
  let ⟨⟨m, hn, hm⟩, _⟩ := H; ⟨m, hn, hm _ (List.mem_of_getElem? hj)⟩
theorem nameL {x : Str} {pos : Pos} {v : Value} {kv : List (Str × Value)} {Q : Value → Shared → Prop} (O : Own B s₀ W s C) (i j : Nat) (hi : C[i]? = some (env.locals, .ns kv)) (hj : kv[j]? = some (x, v))
    (hk : env.scope.kind = .function) (hl : env.kindOf x = some .local) (h : Q v s) (hd : (x == ("__debug__" : Str)) = false := by decide +kernel) : wpAny (model prog w) A (eval (.Name x pos) env) Q E s :=
  let ⟨_, hn, hm⟩ := Cell.ns_get (O.h.get i hi) hj
  wpAny_Name (wpAny_loadName_local hk hl hn hm h) hd
theorem nameC {x : Str} {pos : Pos} {v : Value} {c : Addr} {Q : Value → Shared → Prop} (O : Own B s₀ W s C) (i : Nat) (hi : C[i]? = some (c, .cell (some v))) (hc : env.cells.lookup x = some c)
    (hk : env.scope.kind = .function) (hl : env.kindOf x = some .cell) (h : Q v s) (hd : (x == ("__debug__" : Str)) = false := by decide +kernel) : wpAny (model prog w) A (eval (.Name x pos) env) Q E s :=
  wpAny_Name (wpAny_loadName_cell hk hl hc (O.h.get i hi) h) hd
theorem ns_update {h' : Heap} {a : Addr} {m : Str → Option Value} {kv kv' : List (Str × Value)} {x : Str} {v : Value} (hn : h'.Ns a (fun y => if y = x then some v else m y)) (hm : ∀ p ∈ kv, m p.1 = some p.2)
    (hkv : ∀ p ∈ kv', p = (x, v) ∨ (p ∈ kv ∧ p.1 ≠ x)) (hd : (kv'.map (·.1)).Nodup) : Cell.At h' a (.ns kv') :=
  ⟨⟨_, hn, fun p hp => by
    rcases hkv p hp with rfl | ⟨q, z⟩
    · simp
    · rw [if_neg z]; exact hm p q⟩, hd⟩
theorem storeL_old {x : Str} {v v₀ : Value} {kv : List (Str × Value)} {Q : Unit → Shared → Prop} (O : Own B s₀ W s C) (i j : Nat) (hi : C[i]? = some (env.locals, .ns kv)) (hj : kv[j]? = some (x, v₀))
    (hk : env.scope.kind = .function) (hl : env.kindOf x = some .local) (h : ∀ s', Own B s₀ W s' (C.set i (env.locals, .ns (kv.set j (x, v)))) → Q () s') :
    wpAny (model prog w) A (storeName env x v) Q E s := by
  obtain ⟨⟨m, hn, hm⟩, hd⟩ := O.h.get i hi
  have hx : (kv.set j (x, v)).map (·.1) = kv.map (·.1) := by
    rw [List.map_set]
    refine List.ext_getElem? fun l => ?_
    by_cases hl : j = l
    · subst hl
      rw [List.getElem?_set_self (by simpa using (List.getElem?_eq_some_iff.mp hj).1)]
      simp [hj]
    · rw [List.getElem?_set_ne hl]
  refine wpAny_storeName_local hl hn (fun h' hn' hs' => h _ (O.to (O.h.set i hi hs'.extBut (ns_update (kv := kv) hn' hm (fun p hp => ?_) (by rw [hx]; exact hd))))) (by rw [hk]; rfl)
  obtain ⟨l, hl'⟩ := List.mem_iff_getElem?.mp hp
  by_cases e : j = l
  · subst e
    rw [List.getElem?_set_self (List.getElem?_eq_some_iff.mp hj).1] at hl'
    exact .inl (Option.some.inj hl').symm
  · rw [List.getElem?_set_ne e] at hl'
    refine .inr ⟨List.mem_of_getElem? hl', fun q => ?_⟩
    have pw := List.pairwise_iff_getElem.mp hd
    have h1 : (kv.map (·.1))[j]? = some x := by rw [List.getElem?_map, hj]; rfl
    have h2 : (kv.map (·.1))[l]? = some x := by rw [List.getElem?_map, hl', ← q]; rfl
    obtain ⟨l1, e1⟩ := List.getElem?_eq_some_iff.mp h1
    obtain ⟨l2, e2⟩ := List.getElem?_eq_some_iff.mp h2
    rcases Nat.lt_trichotomy j l with t | t | t
    · exact pw j l l1 l2 t (e1.trans e2.symm)
    · exact e t
    · exact pw l j l2 l1 t (e2.trans e1.symm)
theorem storeL_new {x : Str} {v : Value} {kv : List (Str × Value)} {Q : Unit → Shared → Prop} (O : Own B s₀ W s C) (i : Nat) (hi : C[i]? = some (env.locals, .ns kv)) (hx : x ∉ kv.map (·.1))
    (hk : env.scope.kind = .function) (hl : env.kindOf x = some .local) (h : ∀ s', Own B s₀ W s' (C.set i (env.locals, .ns (kv ++ [(x, v)]))) → Q () s') :
    wpAny (model prog w) A (storeName env x v) Q E s := by
  obtain ⟨⟨m, hn, hm⟩, hd⟩ := O.h.get i hi
  refine wpAny_storeName_local hl hn (fun h' hn' hs' => h _ (O.to (O.h.set i hi hs'.extBut (ns_update (kv := kv) hn' hm (fun p hp => ?_) ?_)))) (by rw [hk]; rfl)
  · rcases List.mem_append.mp hp with q | q
    · exact .inr ⟨q, fun e => hx (e ▸ List.mem_map_of_mem q)⟩
    · exact .inl (List.mem_singleton.mp q)
  · rw [List.map_append, List.nodup_append]
    refine ⟨hd, by simp, fun y hy z hz e => hx ?_⟩
    simp only [List.map_cons, List.map_nil, List.mem_singleton] at hz
    subst hz; rw [← e]; exact hy
theorem storeC {x : Str} {v : Value} {v₀ : Option Value} {c : Addr} {Q : Unit → Shared → Prop} (O : Own B s₀ W s C) (i : Nat) (hi : C[i]? = some (c, .cell v₀)) (hc : env.cells.lookup x = some c)
    (hk : env.scope.kind = .function) (hl : env.kindOf x = some .cell) (h : ∀ s', Own B s₀ W s' (C.set i (c, .cell (some v))) → Q () s') : wpAny (model prog w) A (storeName env x v) Q E s :=
  wpAny_storeName_cell hk hl hc (O.h.get i hi) fun h' hc' hs' => h _ (O.to (O.h.set i hi hs'.extBut hc'))
/- lists -/
theorem emptyList {pos : Pos} {Q : Value → Shared → Prop} (O : Own B s₀ W s C) (h : ∀ s' l, Own B s₀ W s' ((l, .list []) :: C) → Q (.ref l) s') : wpAny (model prog w) A (eval (.List [] pos) env) Q E s :=
  wpAny_List (wpAny_items_nil ⟨by size_fits, h _ _ (O.to (O.h.pushList []))⟩)
theorem newListO {vs : List Value} {Q : Value → Shared → Prop} (O : Own B s₀ W s C) (hz : vs.length ≤ sizeLine) (h : ∀ s' l, Own B s₀ W s' ((l, .list vs) :: C) → Q (.ref l) s') : wpAny (model prog w) A (newList vs) Q E s :=
  wpAny_newObj_type (h _ _ (O.to (O.h.pushList vs))) (by show vs.toArray.size ≤ sizeLine; rw [List.size_toArray]; exact hz)
theorem appendO {l : Addr} {xs : List Value} {x : Value} {Q : Value → Shared → Prop} (O : Own B s₀ W s C) (i : Nat) (hi : C[i]? = some (l, .list xs)) (hz : xs.length ≤ sizeLine)
    (h : ∀ s', Own B s₀ W s' (C.set i (l, .list (xs ++ [x]))) → Q .none s') : wpAny (model prog w) A (call (.builtin "list.append") [.ref l, x]) Q E s :=
  wpAny_list_append_plain (O.h.get i hi) (fun h' hl' hs' => h _ (O.to (O.h.set i hi hs'.extBut (show h'.PlainList l (xs ++ [x]).toArray by simpa using hl')))) (by simpa using hz)
theorem iterO {l : Addr} {xs : List Value} {Q : Value → Shared → Prop} (O : Own B s₀ W s C) (i : Nat) (hi : C[i]? = some (l, .list xs))
    (h : ∀ s' it, it ∉ W → Own B s₀ W s' ((it, .iter l 0) :: C) → Q (.ref it) s') : wpAny (model prog w) A (pyIter (.ref l)) Q E s :=
  wpAny_pyIter_list (Heap.PlainList.isList (O.h.get i hi)) (h _ _ (O.h.none_of (get_size_none _)).2.2.2.2 (O.to (O.h.pushIter l)))
theorem nextO {it l : Addr} {k : Nat} {xs : List Value} {v : Value} {Q : Option Value → Shared → Prop} (O : Own B s₀ W s C) (i j : Nat) (hi : C[i]? = some (it, .iter l k)) (hj : C[j]? = some (l, .list xs)) (hv : xs[k]? = some v)
    (h : ∀ s', Own B s₀ W s' (C.set i (it, .iter l (k + 1))) → Q (some v) s') : wpAny (model prog w) A (pyNext (.ref it)) Q E s :=
  wpAny_pyNext_list_item (O.h.get i hi) (Heap.PlainList.isList (O.h.get j hj)) (by simpa using hv) fun h' hit hs => h _ (O.to (O.h.set i hi hs.extBut hit))
theorem OwnH.lose {h h' : Heap} {h₀ : Heap} {a : Addr} {c : Cell} (O : OwnH B h₀ W h C) (i : Nat) (hi : C[i]? = some (a, c)) (hW : a ∉ W) (hx : Heap.ExtBut a h h') : OwnH B h₀ W h' (C.eraseIdx i) := by
  have ne : ∀ p ∈ C.eraseIdx i, p ∈ C ∧ p.1 ≠ a := fun p hp => by
    rw [List.mem_eraseIdx_iff_getElem?] at hp
    obtain ⟨j, hj, e⟩ := hp
    exact ⟨List.mem_of_getElem? e, ne_of_other O.nd hi (b := p.1) (d := p.2) e (Ne.symm hj)⟩
  refine ⟨O.gl_but i hi hx, fun p hp => ?_, O.nd.sublist ((List.eraseIdx_sublist ..).map _), O.keep_but i hi hx, fun p hp => O.fresh p (ne p hp).1, fun b hb => ?_⟩
  · obtain ⟨o, ho⟩ := p.2.there (O.at' p (ne p hp).1)
    exact p.2.at_congr ((hx _ _ (ne p hp).2 ho).trans ho.symm) (O.at' p (ne p hp).1)
  · obtain ⟨o, ho⟩ := O.alive b hb
    exact ⟨o, hx b o (fun e => hW (e ▸ hb)) ho⟩
theorem nextEnd {it l : Addr} {k : Nat} {xs : List Value} {Q : Option Value → Shared → Prop} (O : Own B s₀ W s C) (hh : A.handled = none) (i j : Nat) (hi : C[i]? = some (it, .iter l k)) (hj : C[j]? = some (l, .list xs)) (hW : it ∉ W) (hv : xs[k]? = none)
    (h : ∀ s', Own B s₀ W s' (C.eraseIdx i) → Q none s') : wpAny (model prog w) A (pyNext (.ref it)) Q E s :=
  wpAny_pyNext_list_end hh (O.h.get i hi) (Heap.PlainList.isList (O.h.get j hj)) (by simpa using hv) fun h' hx => h _ (O.to (O.h.lose i hi hW hx))
theorem truthyO {l : Addr} {xs : List Value} {Q : Bool → Shared → Prop} (O : Own B s₀ W s C) (i : Nat) (hi : C[i]? = some (l, .list xs)) (hz : (xs.length : Int) < 2 ^ 63)
    (h : ∀ s', Own B s₀ W s' C → Q (!xs.isEmpty) s') : wpAny (model prog w) A (truthy (.ref l)) Q E s :=
  wpAny_truthy_list (Heap.PlainList.isList (O.h.get i hi)) (by simpa using hz) (by
    have e : (!xs.toArray.isEmpty) = !xs.isEmpty := by cases xs <;> rfl
    rw [e]; exact h _ O.same)
end
end C3
end

section
open PySem PySem.W PyProof.Rows PySem.SeqAt
set_option maxRecDepth 100000
set_option linter.unusedVariables false
namespace C3
theorem meta_cv : ∀ k < 15, ∀ s' : Shared, s'.TypeIs (cv k) "type" := by
  intro k hk s'
  rcases k with _ | _ | _ | _ | _ | _ | _ | _ | _ | _ | _ | _ | _ | _ | _ | k
  all_goals first | (show typeOf _ = _; kernel_rfl) | omega
section
variable {prog : Program} {w : World} {A : Around} {E : Value → Shared → Prop} {s₀ s : Shared} {B : Heap} {W : List Addr} {C : List (Addr × Cell)} {env : Env}
theorem eqCls {i j : Nat} {Q : Value → Shared → Prop} (hi : i < 15) (hj : j < 15) (h : Q (.bool (i == j)) s) : wpAny (model prog w) A (compareOp .Eq (cv i) (cv j)) Q E s := by
  by_cases e : i = j
  · subst e
    rw [beq_self_eq_true] at h
    exact TypeEq.eq_type_same (meta_cv i hi) h
  · have e' : (i == j) = false := beq_eq_false_iff_ne.mpr e
    rw [e'] at h
    exact TypeEq.eq_type_other (meta_cv i hi) (meta_cv j hj) ((cv_eq hi hj).trans e') h
theorem eqAtCls {i j : Nat} (hi : i < 15) (hj : j < 15) : EqAt A s (cv i) (cv j) (i == j) := by
  by_cases e : i = j
  · subst e
    rw [beq_self_eq_true]; exact EqAt.same _
  · have e' : (i == j) = false := beq_eq_false_iff_ne.mpr e
    rw [e']
    intro prog w E Q hq
    unfold eqBool
    refine wpAny_holding ?_
    rw [if_neg (by rw [cv_eq hi hj, e']; exact Bool.false_ne_true)]
    show wpAny _ _ (do truthOfDropped (← richCompare .Eq (cv i) (cv j))) _ _ _
    exact wpAny_bind (eqCls hi hj (by rw [e']; exact wpAny_truthy_bool hq))
theorem inCls {l : Addr} {c : Nat} {ks : List Nat} {Q : Value → Shared → Prop} (O : Own B s₀ W s C) (i : Nat) (hi : C[i]? = some (l, .list (cvs ks))) (hc : c < 15) (hks : ∀ k ∈ ks, k < 15)
    (h : Q (.bool (ks.contains c)) s) : wpAny (model prog w) A (compareOp .In (cv c) (.ref l)) Q E s := by
  refine in_listAt (fun v => v == cv c) (Heap.PlainList.isList (O.h.get i hi)) (fun y hy => ?_) ?_
  · obtain ⟨k, hk, rfl⟩ : ∃ k ∈ ks, cv k = y := by simpa [cvs] using hy
    show EqAt _ _ _ _ (cv k == cv c)
    rw [cv_eq (hks k hk) hc]
    exact eqAtCls (hks k hk) hc
  · have e : (cvs ks).toArray.any (fun v => v == cv c) = ks.contains c := by
      rw [List.any_toArray]
      unfold cvs
      rw [List.any_map]
      rw [Bool.eq_iff_iff, List.any_eq_true, List.contains_iff_mem]
      constructor
      · rintro ⟨k, hk, e⟩
        have : (cv k == cv c) = true := e
        rw [cv_eq (hks k hk) hc, beq_iff_eq] at this
        exact this ▸ hk
      · intro hm
        exact ⟨c, hm, by simp⟩
    rw [e]; exact h
/-- what is read without a turn of the state -/
def Reads1 (prog : Program) (w : World) (A : Around) (s : Shared) (t : Sem Value) (v : Value) : Prop := ∀ (Q E : Value → Shared → Prop), Q v s → wpAny (model prog w) A t Q E s
theorem readL {x : Str} {pos : Pos} {v : Value} {kv : List (Str × Value)} (O : Own B s₀ W s C) (i j : Nat) (hi : C[i]? = some (env.locals, .ns kv)) (hj : kv[j]? = some (x, v))
    (hk : env.scope.kind = .function) (hl : env.kindOf x = some .local) (hd : (x == ("__debug__" : Str)) = false := by decide +kernel) : Reads1 prog w A s (eval (.Name x pos) env) v :=
  fun Q E h => nameL O i j hi hj hk hl h hd
theorem readC {x : Str} {pos : Pos} {v : Value} {c : Addr} (O : Own B s₀ W s C) (i : Nat) (hi : C[i]? = some (c, .cell (some v))) (hc : env.cells.lookup x = some c)
    (hk : env.scope.kind = .function) (hl : env.kindOf x = some .cell) (hd : (x == ("__debug__" : Str)) = false := by decide +kernel) : Reads1 prog w A s (eval (.Name x pos) env) v :=
  fun Q E h => nameC O i hi hc hk hl h hd
/-- xs[0] -/
theorem item0 {x : Str} {p p2 pos : Pos} {kd : Nat} {l : Addr} {v : Value} {xs : List Value} {Q : Value → Shared → Prop} (O : Own B s₀ W s C) (i : Nat) (hi : C[i]? = some (l, .list (v :: xs)))
    (hn : Reads1 prog w A s (eval (.Name x p) env) (.ref l)) (h : ∀ s', Own B s₀ W s' C → Q v s') :
    wpAny (model prog w) A (eval (.Subscript (.Name x p) (.Constant (.int 0) kd p2) pos) env) Q E s := by
  refine wpAny_Subscript_Constant_late (hn _ _ (wpAny_Constant_int ?_))
  have hl := Heap.PlainList.isList (O.h.get i hi)
  exact ⟨"list", _, list_getitem_lookup, hl.typeIs, wpAny_getItem_list (s := { s with toks := s.toks + 1 }) hl (by decide) (by decide) (by simp) (h _ O.same)⟩
/-- xs[1:] -/
theorem slice1 {x : Str} {p p2 p3 pos : Pos} {kd : Nat} {l : Addr} {xs : List Value} {Q : Value → Shared → Prop} (O : Own B s₀ W s C) (i : Nat) (hi : C[i]? = some (l, .list xs)) (h1 : 1 ≤ xs.length) (hz : xs.length ≤ sizeLine)
    (hn : Reads1 prog w A s (eval (.Name x p) env) (.ref l)) (h : ∀ s' l', Own B s₀ W s' ((l', .list xs.tail) :: C) → Q (.ref l') s') :
    wpAny (model prog w) A (eval (.Subscript (.Name x p) (.Slice (some (.Constant (.int 1) kd p2)) none none p3) pos) env) Q E s := by
  refine wpAny_Subscript_list_slice (hn _ _ ?_)
  show wpAny _ _ (eval (.Constant (.int 1) kd p2) env) _ _ s
  refine wpAny_Constant_int ?_
  refine wpAny_pure ⟨l, xs.toArray, some 1, none, rfl, Heap.PlainList.isList (O.h.get i hi), by simpa using hz, .int _ _, .none, ?_⟩
  have e := slicePick_from xs.toArray 1 (by simpa using h1)
  have e2 : (xs.toArray.toList.drop 1).toArray = xs.tail.toArray := by simp
  rw [e2] at e
  have e3 : slicePick xs.toArray (some 1) none none = xs.tail.toArray := e
  rw [e3]
  refine h _ _ (O.to ?_)
  have O1 := O.h.pushAny { cls := .type "slice", data := .fields #[.int 1 s.toks, .none, .none] }
  have O2 := O1.pushList xs.tail
  rwa [Heap.size_push] at O2
/-- del xs[0] -/
theorem del0 {l : Addr} {v : Value} {xs : List Value} {u : Tok} {Q : Unit → Shared → Prop} (O : Own B s₀ W s C) (i : Nat) (hi : C[i]? = some (l, .list (v :: xs))) (hz : xs.length < sizeLine)
    (h : ∀ s', Own B s₀ W s' (C.set i (l, .list xs)) → Q () s') : wpAny (model prog w) A (delItem (.ref l) (.int 0 u)) Q E s := by
  refine wpAny_delItem_plain (k := 0) (O.h.get i hi) (by decide) (by simp [seqIndex?]) (fun h' hl hs => h _ (O.to (O.h.set i hi hs.extBut ?_))) (by simp; omega)
  have e : (v :: xs).toArray.eraseIdxIfInBounds 0 = xs.toArray := by simp [Array.eraseIdxIfInBounds]
  rw [e] at hl; exact hl
end
end C3
end

section
open PySem PySem.W PyProof.Rows
set_option maxRecDepth 100000
set_option linter.unusedVariables false
namespace C3
/- an exception on its way: what stays is told up to the slots of what is no record -/
structure KeepX (h h' : Heap) : Prop where
  k : ∀ b o, h.get? b = some o → (∀ vs, o.data ≠ .fields vs) → ∃ sl, h'.get? b = some { o with slots := sl }
  t : ∀ b ps, h.get? b = some { cls := .none, data := .fields ps } → h'.get? b = some { cls := .none, data := .fields ps }
theorem KeepX.refl (h : Heap) : KeepX h h := ⟨fun b o e _ => ⟨o.slots, e⟩, fun _ _ e => e⟩
theorem KeepX.trans {a b c : Heap} (x : KeepX a b) (y : KeepX b c) : KeepX a c := ⟨fun q o e n => by
  obtain ⟨sl, z⟩ := x.k q o e n
  obtain ⟨sl2, u⟩ := y.k q _ z n
  exact ⟨sl2, u⟩, fun q ps e => y.t q ps (x.t q ps e)⟩
theorem KeepX.of_keeps {h h' : Heap} (hk : ∀ b o, h.get? b = some o → h'.get? b = some o) : KeepX h h' := ⟨fun b o e _ => ⟨o.slots, hk b o e⟩, fun b ps e => hk b _ e⟩
theorem Stat.stepX {h h' : Heap} (S : Stat h) (k : KeepX h h') : Stat h' := by
  obtain ⟨o, es, n, ho, hc, hd, hk, hf, ps, hp, hps⟩ := S
  obtain ⟨sl, z⟩ := k.k _ _ ho (fun vs q => by rw [hd] at q; cases q)
  refine ⟨_, es, n, z, hc, hd, hk, fun key v e => ?_, ps, k.t _ _ hp, hps⟩
  obtain ⟨i, t, a, b, c, ot, hot, hct, nt, hdt⟩ := hf key v e
  obtain ⟨sl2, z2⟩ := k.k _ _ hot (fun vs q => by rw [hdt] at q; cases q)
  exact ⟨i, t, a, b, c, _, z2, hct, nt, hdt⟩
theorem KeepX.frames {B h h' : Heap} (k : KeepX h h') {l : List Env} (F : h.FunFrames B l) : h'.FunFrames B l :=
  F.of_keeps fun b o e n => by obtain ⟨sl, z⟩ := k.k b o e n; exact ⟨_, z, rfl⟩
structure Fly (B : Heap) (l : List Env) (e : Addr) (fl : Value) (h : Heap) : Prop where
  stays : B.StaysIn h
  stat : Stat h
  new : B.get? e = none
  frames : h.FunFrames B l
  ex : ∃ oe vs T oT ts, h.get? e = some oe ∧ oe.cls = .type "RuntimeError" ∧ oe.data = .fields vs ∧ vs[1]? = some (.ref T) ∧ B.get? T = none ∧ T ≠ e ∧ h.get? T = some oT ∧ oT.cls = .type "traceback" ∧ oT.data = .fields ts ∧ ts[3]? = some fl ∧ vs[2]? = some .none
/-- before the first note -/
structure Raw (B : Heap) (l : List Env) (e : Addr) (h : Heap) : Prop where
  stays : B.StaysIn h
  stat : Stat h
  new : B.get? e = none
  frames : h.FunFrames B l
  ex : ∃ oe vs, h.get? e = some oe ∧ oe.cls = .type "RuntimeError" ∧ oe.data = .fields vs ∧ vs[1]? = some .none ∧ vs[2]? = some .none
section
variable {M : Model} {A : Around} {E : Value → Shared → Prop} {s : Shared} {B : Heap} {env env₀ : Env} {outer l : List Env} {L e : Addr}
theorem frameOf_at {Q : Value → Shared → Prop} (hfr : A.frames = some (env₀ :: outer)) (hl : s.heap.FunFrames B (env₀ :: outer)) (hf0 : env₀.frame = some L) (hf : env.frame = some L)
    (h : ∀ h', Heap.SlotsOnly ((env₀ :: outer).filterMap (·.frame)) s.heap h' → Q (.ref L) { s with heap := h' }) : wpAny M A (PySem.frameOf env) Q E s := by
  unfold PySem.frameOf
  refine wpAny_bind (wpAny_frameEnvs hfr ?_)
  have hdw : ((env₀ :: outer).dropWhile fun x => x.frame != env.frame) = env₀ :: outer := by simp [List.dropWhile, hf0, hf]
  rw [hdw]
  unfold frameObject
  refine wpAny_bind (wpAny_bind (wpAny_readyFrames_fun hl fun h₁ hs₁ => wpAny_pure ?_))
  rw [hf0]
  exact wpAny_pure (h h₁ hs₁)
theorem newEntry_at {oe : Obj} {vs : Array Value} {head : Value} {hadNext : Bool} {Q : Unit → Shared → Prop} (hfr : A.frames = some (env₀ :: outer)) (hl : s.heap.FunFrames B (env₀ :: outer)) (hf0 : env₀.frame = some L) (hf : env.frame = some L)
    (he : s.heap.get? e = some oe) (hkb : B.StaysIn s.heap) (hst : Stat s.heap) (hen : B.get? e = none) (hc : oe.cls = .type "RuntimeError") (hd : oe.data = .fields vs) (hsz : 1 < vs.size) (h2 : vs[2]? = some .none)
    (h : ∀ h', Fly B (env₀ :: outer) e (rawInt L) h' → KeepX s.heap h' → Q () { s with heap := h' }) :
    wpAny M A (do let a ← PySem.frameOf env; let pl ← entryPlaceOf L hadNext; let b ← EntryCells.newEntry head a .none (rawInt L) .none pl; setField (.ref e) 1 b) Q E s := by
  have hene : e ∉ (env₀ :: outer).filterMap (·.frame) := fun hm => by
    obtain ⟨_, o, ho, hnf⟩ := hl.mem hm
    rw [he] at ho; injection ho with ho; subst ho; exact hnf vs hd
  refine wpAny_bind (frameOf_at hfr hl hf0 hf fun h₁ hs₁ => ?_)
  refine wpAny_bind (wpAny_entryPlaceOf fun pl hpl => ?_)
  unfold EntryCells.newEntry newFields
  refine wpAny_bind (wpAny_newObj_type ?_ (hpl.sizeOk5 _ _ _ _ _))
  have he₁ : h₁.get? e = some oe := (hs₁.2.1 e hene).trans he
  have kb₁ : B.StaysIn h₁ := fun b o hbo => (hs₁.2.1 b fun hm => by rw [(hl.mem hm).1] at hbo; cases hbo).trans (hkb b o hbo)
  have he₂ := Heap.get?_push_of_some (h := h₁) { cls := .type "traceback", dict := none, data := .fields ([head, .ref L, .none, rawInt L, .none] ++ (if pl.isEmpty then List.replicate 6 Value.none else pl)).toArray } he₁
  refine wpAny_setField he₂ hd hsz ?_
  have hTe : h₁.objs.size ≠ e := Nat.ne_of_gt (Heap.lt_size he₁)
  have hd₃ := Obj.data_mapFields hd (·.setIfInBounds 1 (Value.ref h₁.objs.size))
  have he₃ := Heap.get?_update_self (Obj.mapFields (·.setIfInBounds 1 (Value.ref h₁.objs.size))) he₂ (Obj.isFreed_of_fields hd₃)
  have hT₃ := (Heap.get?_update_other (h₁.push { cls := .type "traceback", dict := none, data := .fields ([head, .ref L, .none, rawInt L, .none] ++ (if pl.isEmpty then List.replicate 6 Value.none else pl)).toArray })
    (Obj.mapFields (·.setIfInBounds 1 (Value.ref h₁.objs.size))) (Ne.symm hTe)).trans (Heap.get?_push_size h₁ rfl)
  have keep : ∀ b o, b ≠ e → h₁.get? b = some o →
      ((h₁.push { cls := .type "traceback", dict := none, data := .fields ([head, .ref L, .none, rawInt L, .none] ++ (if pl.isEmpty then List.replicate 6 Value.none else pl)).toArray }).update e (Obj.mapFields (·.setIfInBounds 1 (Value.ref h₁.objs.size)))).get? b = some o := fun b o hbe hb => by
    rw [Heap.get?_update_other _ _ (Ne.symm hbe)]
    exact Heap.get?_push_of_some _ hb
  have kx : KeepX s.heap ((h₁.push { cls := .type "traceback", dict := none, data := .fields ([head, .ref L, .none, rawInt L, .none] ++ (if pl.isEmpty then List.replicate 6 Value.none else pl)).toArray }).update e (Obj.mapFields (·.setIfInBounds 1 (Value.ref h₁.objs.size)))) := by
    refine ⟨fun b o hb hnf => ?_, fun b ps hb => ?_⟩
    · obtain ⟨sl, hs⟩ := hs₁.2.2 b o hb
      exact ⟨sl, keep b _ (fun q => by rw [q, he] at hb; injection hb with hb; subst hb; exact hnf vs hd) hs⟩
    · have hbe : b ≠ e := fun q => by rw [q, he] at hb; injection hb with hb; rw [hb] at hc; cases hc
      have hbf : b ∉ (env₀ :: outer).filterMap (·.frame) := fun hm => by
        obtain ⟨_, o, ho, hnf⟩ := hl.mem hm
        rw [hb] at ho; injection ho with ho; subst ho; exact hnf ps rfl
      exact keep b _ hbe ((hs₁.2.1 b hbf).trans hb)
  refine h _ ⟨fun b o hbo => keep b o (fun q => by rw [q, hen] at hbo; cases hbo) (kb₁ b o hbo), hst.stepX kx, hen, kx.frames hl, _, _, h₁.objs.size, _, _, he₃, (Obj.cls_mapFields _ _).trans hc, hd₃, by simp [hsz], ?_, hTe, hT₃, rfl, rfl, by simp, by rw [Array.getElem?_setIfInBounds_ne (by decide)]; exact h2⟩ kx
  cases q : B.get? h₁.objs.size with
  | none => rfl
  | some o => exact absurd (Heap.lt_size (kb₁ _ o q)) (Nat.lt_irrefl _)
theorem note_raw {Q : Unit → Shared → Prop} (hfr : A.frames = some (env₀ :: outer)) (hf0 : env₀.frame = some L) (hf : env.frame = some L) (X : Raw B (env₀ :: outer) e s.heap)
    (h : ∀ h', Fly B (env₀ :: outer) e (rawInt L) h' → KeepX s.heap h' → Q () { s with heap := h' }) : wpAny M A (noteFrame (.ref e) env) Q E s := by
  obtain ⟨x1, x2, x3, x4, oe, vs, he, hc, hd, h1, h2⟩ := X
  unfold noteFrame
  simp only [hf]
  refine wpAny_bind (wpAny_field he hd h1 ?_)
  rw [if_neg (by decide)]
  exact newEntry_at hfr x4 hf0 hf he x1 x2 x3 hc hd (Array.getElem?_eq_some_iff.mp h1).1 h2 h
theorem note_again {Q : Unit → Shared → Prop} (hf : env.frame = some L) (X : Fly B l e (rawInt L) s.heap) (h : Q () s) : wpAny M A (noteFrame (.ref e) env) Q E s := by
  obtain ⟨x1, x2, x3, x4, oe, vs, T, oT, ts, he, hc, hd, h1, hnT, hTe, hT, hcT, hdT, h3, h2⟩ := X
  unfold noteFrame
  simp only [hf]
  refine wpAny_bind (wpAny_field he hd h1 ?_)
  rw [if_pos (show (Value.ref T != Value.none) = true from by simp)]
  refine wpAny_bind (wpAny_field hT hdT h3 ?_)
  rw [if_pos (show (rawInt L == rawInt L) = true from beq_self_eq_true _)]
  exact wpAny_pure h
theorem note_next {fl : Value} {Q : Unit → Shared → Prop} (hfr : A.frames = some (env₀ :: outer)) (hf0 : env₀.frame = some L) (hf : env.frame = some L) (X : Fly B (env₀ :: outer) e fl s.heap) (hne : ¬ ((fl == rawInt L) = true))
    (h : ∀ h', Fly B (env₀ :: outer) e (rawInt L) h' → KeepX s.heap h' → Q () { s with heap := h' }) : wpAny M A (noteFrame (.ref e) env) Q E s := by
  obtain ⟨x1, x2, x3, x4, oe, vs, T, oT, ts, he, hc, hd, h1, hnT, hTe, hT, hcT, hdT, h3, h2⟩ := X
  unfold noteFrame
  simp only [hf]
  refine wpAny_bind (wpAny_field he hd h1 ?_)
  rw [if_pos (show (Value.ref T != Value.none) = true from by simp)]
  refine wpAny_bind (wpAny_field hT hdT h3 ?_)
  rw [if_neg hne]
  refine wpAny_bind (wpAny_setField hT hdT (Array.getElem?_eq_some_iff.mp h3).1 ?_)
  have other : ∀ b, b ≠ T → (s.heap.update T (Obj.mapFields (·.setIfInBounds 3 Value.none))).get? b = s.heap.get? b := fun b hb => Heap.get?_update_other _ _ (Ne.symm hb)
  have kx : KeepX s.heap (s.heap.update T (Obj.mapFields (·.setIfInBounds 3 Value.none))) :=
    ⟨fun b o hb hnf => ⟨o.slots, (other b fun q => by rw [q, hT] at hb; injection hb with hb; subst hb; exact hnf ts hdT).trans hb⟩,
     fun b ps hb => (other b fun q => by rw [q, hT] at hb; injection hb with hb; rw [hb] at hcT; cases hcT).trans hb⟩
  exact newEntry_at (s := { s with heap := s.heap.update T (Obj.mapFields (·.setIfInBounds 3 Value.none)) }) hfr (kx.frames x4) hf0 hf ((other e (Ne.symm hTe)).trans he)
    (fun b o hbo => (other b fun q => by rw [q, hnT] at hbo; cases hbo).trans (x1 b o hbo)) (x2.stepX kx) x3 hc hd (Array.getElem?_eq_some_iff.mp h1).1 h2 fun h' f k => h h' f (kx.trans k)
theorem note_any {fl : Value} {Q : Unit → Shared → Prop} (hfr : A.frames = some (env₀ :: outer)) (hf0 : env₀.frame = some L) (hf : env.frame = some L) (X : Fly B (env₀ :: outer) e fl s.heap)
    (h : ∀ h', Fly B (env₀ :: outer) e (rawInt L) h' → KeepX s.heap h' → Q () { s with heap := h' }) : wpAny M A (noteFrame (.ref e) env) Q E s := by
  by_cases q : (fl == rawInt L) = true
  · have : fl = rawInt L := by simpa using q
    subst this
    exact note_again hf X (h s.heap X (KeepX.refl _))
  · exact note_next hfr hf0 hf X q h
theorem flight {fl : Value} {f : Option Addr} {Q : Unit → Shared → Prop} (X : Fly B l e fl s.heap)
    (h : ∀ h', Fly B l e (f.elim .none fun f => rawInt f) h' → KeepX s.heap h' → Q () { s with heap := h' }) : wpAny M A (setFlight (.ref e) f) Q E s := by
  obtain ⟨x1, x2, x3, x4, oe, vs, T, oT, ts, he, hc, hd, h1, hnT, hTe, hT, hcT, hdT, h3, h2⟩ := X
  have h3sz := (Array.getElem?_eq_some_iff.mp h3).1
  unfold setFlight
  refine wpAny_bind (wpAny_field he hd h1 ?_)
  rw [if_pos (show (Value.ref T != Value.none) = true from by simp)]
  refine wpAny_setField hT hdT h3sz ?_
  have other : ∀ b, b ≠ T → (s.heap.update T (Obj.mapFields (·.setIfInBounds 3 (f.elim .none fun f => rawInt f)))).get? b = s.heap.get? b := fun b hb => Heap.get?_update_other _ _ (Ne.symm hb)
  have kx : KeepX s.heap (s.heap.update T (Obj.mapFields (·.setIfInBounds 3 (f.elim .none fun f => rawInt f)))) :=
    ⟨fun b o hb hnf => ⟨o.slots, (other b fun q => by rw [q, hT] at hb; injection hb with hb; subst hb; exact hnf ts hdT).trans hb⟩,
     fun b ps hb => (other b fun q => by rw [q, hT] at hb; injection hb with hb; rw [hb] at hcT; cases hcT).trans hb⟩
  have hd₃ := Obj.data_mapFields hdT (·.setIfInBounds 3 (f.elim .none fun f => rawInt f))
  exact h _ ⟨fun b o hbo => (other b fun q => by rw [q, hnT] at hbo; cases hbo).trans (x1 b o hbo), x2.stepX kx, x3, kx.frames x4, oe, vs, T, _, _, (other e (Ne.symm hTe)).trans he, hc, hd, h1, hnT, hTe,
      Heap.get?_update_self _ hT (Obj.isFreed_of_fields hd₃), (Obj.cls_mapFields _ _).trans hcT, hd₃, by simp [h3sz], h2⟩ kx
theorem field1 {fl : Value} {Q : Value → Shared → Prop} (X : Fly B l e fl s.heap) (h : ∀ T, Q (.ref T) s) : wpAny M A (field (.ref e) 1) Q E s := by
  obtain ⟨x1, x2, x3, x4, oe, vs, T, oT, ts, he, hc, hd, h1, hnT, hTe, hT, hcT, hdT, h3, h2⟩ := X
  exact wpAny_field he hd h1 (h T)
/-- behind a code of the frame's own -/
theorem cameBack {fl : Value} (hf : env.frame = some L) (X : Fly B l e fl s.heap) (h : ∀ h', Fly B l e (rawInt L) h' → KeepX s.heap h' → E (.ref e) { s with heap := h' }) : cameBackBy M A env E (.ref e) s := by
  unfold cameBackBy
  refine wpAny_bind (field1 X fun T => ?_)
  rw [if_neg (show ¬ ((Value.ref T == Value.none) = true) from by simp)]
  exact flight X fun h' f k => h h' (by rw [hf] at f; exact f) k
theorem passing {α : Type} {what : String} {fl : Value} {Q : α → Shared → Prop} (hf : env.frame = some L) (X : Fly B l e fl s.heap) (h : ∀ h', Fly B l e (rawInt L) h' → KeepX s.heap h' → E (.ref e) { s with heap := h' }) :
    wpAny M A (PySem.passOn what (.ref e) env : Sem α) Q E s := by
  unfold PySem.passOn
  refine wpAny_bind (field1 X fun T => ?_)
  rw [if_neg (show ¬ ((Value.ref T == Value.none) = true) from by simp)]
  exact wpAny_bind (flight X fun h' f k => wpAny_throw (h h' (by rw [hf] at f; exact f) k))
theorem passingAny {α : Type} {what : String} {fl : Value} {Q : α → Shared → Prop} (X : Fly B l e fl s.heap) (h : ∀ h' fl', Fly B l e fl' h' → KeepX s.heap h' → E (.ref e) { s with heap := h' }) :
    wpAny M A (PySem.passOn what (.ref e) env : Sem α) Q E s := by
  unfold PySem.passOn
  refine wpAny_bind (field1 X fun T => ?_)
  rw [if_neg (show ¬ ((Value.ref T == Value.none) = true) from by simp)]
  exact wpAny_bind (flight X fun h' f k => wpAny_throw (h h' _ f k))
theorem cameBackAny {fl : Value} (X : Fly B l e fl s.heap) (h : ∀ h' fl', Fly B l e fl' h' → KeepX s.heap h' → E (.ref e) { s with heap := h' }) : cameBackBy M A env E (.ref e) s := by
  unfold cameBackBy
  refine wpAny_bind (field1 X fun T => ?_)
  rw [if_neg (show ¬ ((Value.ref T == Value.none) = true) from by simp)]
  exact flight X fun h' f k => h h' _ f k
theorem Fly.drop {fl : Value} {h : Heap} (X : Fly B (env₀ :: outer) e fl h) : Fly B outer e fl h := ⟨X.stays, X.stat, X.new, X.frames.2.2, X.ex⟩
/-- out of the frame -/
theorem leaves {Q : Unit → Shared → Prop} (hf : env.frame = some L) (X : Fly B (env₀ :: outer) e (rawInt L) s.heap) (h : ∀ h', Fly B outer e .none h' → KeepX s.heap h' → Q () { s with heap := h' }) :
    wpAny M A (leaving env (.ref e)) Q E s := by
  unfold leaving
  exact wpAny_bind (note_again hf X (flight X fun h' f k => h h' f.drop k))
theorem leavesAny {fl : Value} {Q : Unit → Shared → Prop} (hfr : A.frames = some (env :: outer)) (hf : env.frame = some L) (X : Fly B (env :: outer) e fl s.heap) (h : ∀ h', Fly B outer e .none h' → KeepX s.heap h' → Q () { s with heap := h' }) :
    wpAny M A (leaving env (.ref e)) Q E s := by
  unfold leaving
  exact wpAny_bind (note_any hfr hf hf X fun h1 f1 k1 => flight (s := { s with heap := h1 }) f1 fun h' f k => h h' f.drop (k1.trans k))
theorem frames_but {h h' : Heap} {C : Addr} (hs : Heap.SameBut C h h') : ∀ {l : List Env}, h.FunFrames B l → C ∉ l.filterMap (·.frame) → h'.FunFrames B l
  | [], _, _ => trivial
  | env :: r, ⟨hk, ⟨L, o, hf, hb, ho, hnd⟩, hr⟩, hl => by
    have hl' : C ∉ L :: r.filterMap (·.frame) := by
      have e : (env :: r).filterMap (·.frame) = L :: r.filterMap (·.frame) := by simp [List.filterMap_cons, hf]
      rw [← e]; exact hl
    exact ⟨hk, ⟨L, o, hf, hb, (hs.2 L (fun z => hl' (by rw [z]; exact .head _))).trans ho, hnd⟩, frames_but hs hr (fun z => hl' (.tail _ z))⟩
/-- an object that the exception does not know is changed -/
theorem Fly.but {fl : Value} {h h' : Heap} {C : Addr} {m : Str → Option Value} (X : Fly B l e fl h) (hn : h.Ns C m) (hs : Heap.SameBut C h h') (hB : B.get? C = none) (hC : ¬ Spec C) (hl : C ∉ l.filterMap (·.frame)) : Fly B l e fl h' := by
  obtain ⟨x1, x2, x3, x4, oe, vs, T, oT, ts, he, hc, hd, h1, hnT, hTe, hT, hcT, hdT, h3, h2⟩ := X
  obtain ⟨oC, es, n, hoC, hdC, _⟩ := hn
  have neF : ∀ b o vs, h.get? b = some o → o.data = .fields vs → h'.get? b = some o := fun b o vs hb hd => (hs.2 b (fun q => by rw [q, hoC] at hb; cases hb; rw [hdC] at hd; cases hd)).trans hb
  refine ⟨fun b o q => (hs.2 b (fun z => by rw [z, hB] at q; cases q)).trans (x1 b o q), x2.step (fun b o hb q => (hs.2 b (fun z => hC (z ▸ hb))).trans q) (fun t its ⟨ot, hot, rt⟩ => ⟨ot, (hs.2 t (fun z => ?_)).trans hot, rt⟩), x3, ?_,
    oe, vs, T, oT, ts, neF _ _ _ he hd, hc, hd, h1, hnT, hTe, neF _ _ _ hT hdT, hcT, hdT, h3, h2⟩
  · rw [z, hoC] at hot; cases hot
    obtain ⟨_, _, r⟩ := rt
    rw [hdC] at r; cases r
  · exact frames_but hs x4 hl
end
/- the end by an exception -/
structure Bad (B : Heap) (s₀ : Shared) (W : List Addr) (l : List Env) (e : Addr) (fl : Value) (s' : Shared) : Prop where
  fly : Fly B l e fl s'.heap
  keep : ∀ b o, s₀.heap.get? b = some o → b ∉ W → ¬ Spec b → (∀ vs, o.data ≠ .fields vs) → ∃ sl, s'.heap.get? b = some { o with slots := sl }
  sim : Sim s₀ s'
section
variable {B : Heap} {s₀ s s' : Shared} {W : List Addr} {l outer : List Env} {e : Addr} {fl fl' : Value} {C : List (Addr × Cell)} {env : Env}
theorem Bad.step {l' : List Env} (X : Bad B s₀ W l e fl s) (f : Fly B l' e fl' s'.heap) (k : KeepX s.heap s'.heap) (hos : s'.os = s.os := by rfl) (hg : s'.gens = s.gens := by rfl) : Bad B s₀ W l' e fl' s' :=
  ⟨f, fun b o h1 h2 h3 h4 => by
    obtain ⟨sl, z⟩ := X.keep b o h1 h2 h3 h4
    obtain ⟨sl', z'⟩ := k.k b _ z h4
    exact ⟨sl', z'⟩, ⟨hos.trans X.sim.os, fun h => by rw [hg]; exact X.sim.bare h⟩⟩
theorem Own.bad (O : Own B s₀ W s C) (f : Fly B l e fl s'.heap) (k : KeepX s.heap s'.heap) (hos : s'.os = s.os := by rfl) (hg : s'.gens = s.gens := by rfl) : Bad B s₀ W l e fl s' :=
  ⟨f, fun b o h1 h2 h3 h4 => k.k b o (O.h.keep b o h1 h2 h3) h4, ⟨hos.trans O.sim.os, fun h => by rw [hg]; exact O.sim.bare h⟩⟩
theorem frames_keep {h h' : Heap} {W : List Addr} (keep : ∀ b o, h.get? b = some o → b ∉ W → ¬ Spec b → h'.get? b = some o) : ∀ {l : List Env}, h.FunFrames B l → (∀ env ∈ l, ∀ a, env.frame = some a → a ∉ W ∧ ¬ Spec a) → h'.FunFrames B l
  | [], _, _ => trivial
  | env :: r, ⟨hk, ⟨L, o, hf, hn, ho, hd⟩, hr⟩, hW => ⟨hk, ⟨L, o, hf, hn, keep L o ho (hW env (.head _) L hf).1 (hW env (.head _) L hf).2, hd⟩, frames_keep keep hr fun e he => hW e (.tail _ he)⟩
/-- the frames of a call, where it stands -/
theorem Own.frames {kv : List (Str × Value)} (O : Own B s₀ W s C) (i : Nat) (hi : C[i]? = some (env.locals, .ns kv)) (hk : env.scope.kind = .function) (hf : env.frame = some env.locals) (hl : s₀.heap.FunFrames B outer)
    (hW : ∀ env ∈ outer, ∀ a, env.frame = some a → a ∉ W ∧ ¬ Spec a) : s.heap.FunFrames B (env :: outer) := by
  obtain ⟨⟨m, ⟨o, es, n, ho, hd, _⟩, _⟩, _⟩ := O.h.get i hi
  exact ⟨by rw [hk]; decide, ⟨env.locals, o, hf, (O.h.fresh _ (List.mem_of_getElem? hi)).2.1, ho, fun vs q => by rw [hd] at q; cases q⟩, frames_keep O.h.keep hl hW⟩
end
end C3
end

section
open PySem PySem.W PyProof.Rows
set_option maxRecDepth 100000
set_option linter.unusedVariables false
namespace C3
section
variable {prog : Program} {w : World} {A : Around} {E : Value → Shared → Prop} {s₀ s : Shared} {B : Heap} {W : List Addr} {C : List (Addr × Cell)} {env : Env}
/-- a name's new value in a frame's names -/
structure Puts (kv kv' : List (Str × Value)) (y : Str) (v : Value) : Prop where
  each : ∀ p ∈ kv', p = (y, v) ∨ (p ∈ kv ∧ p.1 ≠ y)
  nd : (kv.map (·.1)).Nodup → (kv'.map (·.1)).Nodup
theorem puts_old {kv : List (Str × Value)} {j : Nat} {y : Str} {v₀ v : Value} (nd : (kv.map (·.1)).Nodup) (hj : kv[j]? = some (y, v₀)) : Puts kv (kv.set j (y, v)) y v := by
  have hx : (kv.set j (y, v)).map (·.1) = kv.map (·.1) := by
    rw [List.map_set]
    refine List.ext_getElem? fun l => ?_
    by_cases hl : j = l
    · subst hl
      rw [List.getElem?_set_self (by simpa using (List.getElem?_eq_some_iff.mp hj).1)]
      simp [hj]
    · rw [List.getElem?_set_ne hl]
  refine ⟨fun p hp => ?_, fun h => by rw [hx]; exact h⟩
  obtain ⟨l, hl'⟩ := List.mem_iff_getElem?.mp hp
  by_cases e : j = l
  · subst e
    rw [List.getElem?_set_self (List.getElem?_eq_some_iff.mp hj).1] at hl'
    exact .inl (Option.some.inj hl').symm
  · rw [List.getElem?_set_ne e] at hl'
    refine .inr ⟨List.mem_of_getElem? hl', fun q => ?_⟩
    have pw := List.pairwise_iff_getElem.mp nd
    have h1 : (kv.map (·.1))[j]? = some y := by rw [List.getElem?_map, hj]; rfl
    have h2 : (kv.map (·.1))[l]? = some y := by rw [List.getElem?_map, hl', ← q]; rfl
    obtain ⟨l1, e1⟩ := List.getElem?_eq_some_iff.mp h1
    obtain ⟨l2, e2⟩ := List.getElem?_eq_some_iff.mp h2
    rcases Nat.lt_trichotomy j l with t | t | t
    · exact pw j l l1 l2 t (e1.trans e2.symm)
    · exact e t
    · exact pw l j l2 l1 t (e2.trans e1.symm)
theorem puts_new {kv : List (Str × Value)} {y : Str} {v : Value} (hx : y ∉ kv.map (·.1)) : Puts kv (kv ++ [(y, v)]) y v := by
  refine ⟨fun p hp => ?_, fun hd => ?_⟩
  · rcases List.mem_append.mp hp with q | q
    · exact .inr ⟨q, fun e => hx (e ▸ List.mem_map_of_mem q)⟩
    · exact .inl (List.mem_singleton.mp q)
  · rw [List.map_append, List.nodup_append]
    refine ⟨hd, by simp, fun y hy z hz e => hx ?_⟩
    simp only [List.map_cons, List.map_nil, List.mem_singleton] at hz
    subst hz; rw [← e]; exact hy
theorem Own.names {kv : List (Str × Value)} {a : Addr} (O : Own B s₀ W s C) (i : Nat) (hi : C[i]? = some (a, .ns kv)) : (kv.map (·.1)).Nodup := (O.h.get i hi).2
theorem swaps_true {elt : Expr} {gens : List Comprehension} {scope : Scope} {pos px : Pos} {x : Str} {line : Nat} (hk : env.scope.kind = .function) (hl : env.kindOf x = some .local)
    (h : (px.line == pos.line && !(scope.names.any fun (n, k) => n == x && (k == .local || k == .cell))) = true) : swapsWith (.ListComp elt gens scope pos) (some (.Name x px)) line env = pure true := by
  have e : (Expr.ListComp elt gens scope pos).pos = pos := rfl
  show (pure (env.blockKind == .function && env.kindOf x == some .local && px.line == (Expr.ListComp elt gens scope pos).pos.line && !(scope.names.any fun (n, k) => n == x && (k == .local || k == .cell))) : Sem Bool) = pure true
  rw [e]
  have e1 : env.blockKind = .function := by unfold Env.blockKind; rw [hk]; rfl
  rw [e1, hl]
  congr 1
abbrev testsOf (ifs : List Expr) (cenv : Env) : Sem Bool := forIn ifs true fun c r => if r = true then do let ok ← isTrue c cenv (eval c cenv); pure (ForInStep.yield ok) else pure (ForInStep.yield r)
/-- [elt for x in l if ..] stored into a name, nothing else turned -/
theorem compSet {elt : Expr} {x y it : Str} {px py pit : Pos} {ifs : List Expr} {scope : Scope} {cl : List (Str × Addr)} {pos spos : Pos} {l : Addr} {xs : List Value} {kv : List (Str × Value)} {kv' : Addr → List (Str × Value)} {Q : Flow → Shared → Prop}
    (O : Own B s₀ W s C) (hA : A.handled = none) (i j : Nat) (hi : C[i]? = some (env.locals, .ns kv)) (hj : C[j]? = some (l, .list xs)) (hz : xs.length ≤ sizeLine) (hit : Reads1 prog w A s (eval (.Name it pit) env) (.ref l))
    (hkv : ∀ D, Puts kv (kv' D) y (.ref D)) (p : Value → Bool) (f : Value → Value)
    (hsw : swapsWith (.ListComp elt [⟨.Name x px, .Name it pit, ifs, 0⟩] scope pos) (some (.Name y py)) spos.line env = pure true)
    (hclos : closureFor scope env = pure cl) (hcell : ∀ z ∈ scope.names, z.2 ≠ .cell) (hkind : scope.kind = .function)
    (hnames : ∀ z ∈ scope.names, z.2 = .local → scope.names.lookup z.1 = some .local) (hx : scope.names.lookup x = some .local)
    (hk : env.scope.kind = .function) (hy : env.kindOf y = some .local)
    (tests : ∀ Cc v s₃ m₃ E', v ∈ xs → s₃.heap.Ns Cc m₃ → m₃ x = some v → (∀ b o, s.heap.get? b = some o → s₃.heap.get? b = some o) → s.heap.objs.size ≤ Cc →
      wpAny (model prog w) A (testsOf ifs (compEnvC scope cl Cc env)) (fun ok s₄ => ok = p v ∧ Keeps s₃ s₄) E' s₃)
    (eltq : ∀ Cc v s₃ m₃ E', v ∈ xs → p v = true → s₃.heap.Ns Cc m₃ → m₃ x = some v → (∀ b o, s.heap.get? b = some o → s₃.heap.get? b = some o) → s.heap.objs.size ≤ Cc →
      wpAny (model prog w) A (eval elt (compEnvC scope cl Cc env)) (fun y s₄ => y = f v ∧ Keeps s₃ s₄) E' s₃)
    (h : ∀ s' D, Own B s₀ W s' ((D, .list ((xs.filter p).map f)) :: C.set i (env.locals, .ns (kv' D))) → Q .next s') :
    wpAny (model prog w) A (exec (.Assign [.Name y py] (.ListComp elt [⟨.Name x px, .Name it pit, ifs, 0⟩] scope pos) spos) env) Q E s := by
  refine wpAny_Assign_ListComp_free p (fun v y => y = f v) hsw hclos hcell hkind hnames hx hy (by rw [hk]; rfl) (hit _ _ ?_)
  refine wpAny_pyIter_list (Heap.PlainList.isList (O.h.get j hj)) ?_
  have O2 := O.h.pushIter l
  have hlt : l < s.heap.objs.size := by obtain ⟨n, ho⟩ := O.h.get j hj; exact Heap.lt_size ho
  obtain ⟨⟨m, hn, hm⟩, hd⟩ := O.h.get i hi
  have hLne : env.locals ≠ s.heap.objs.size := Nat.ne_of_lt hn.lt
  have up : ∀ b o, s.heap.get? b = some o → b ∉ [s.heap.objs.size] ∧ (s.heap.push { cls := .type "list_iterator", data := .fields #[.ref l, .int 0 0] }).get? b = some o := fun b o e =>
    ⟨fun q => Nat.ne_of_lt (Heap.lt_size e) (List.mem_singleton.mp q), Heap.get?_push_of_some _ e⟩
  refine ⟨s.heap.objs.size, _, _, _, _, _, m, rfl, Walks.list hA s.heap.objs.size l (Nat.ne_of_lt hlt) xs.toArray, by simpa using hz,
    ⟨⟨_, Heap.get?_push_size _ rfl, rfl, rfl⟩, (Heap.PlainList.isList (O.h.get j hj)).push _⟩, fun b hb => ?_, ?_, hn.push _, ⟨?_, ?_⟩, ?_⟩
  · rw [Heap.size_push]
    simp only [List.mem_cons, List.not_mem_nil, or_false] at hb
    rcases hb with e | e
    · rw [e]; exact Nat.lt_succ_self _
    · rw [e]; exact Nat.lt_succ_of_lt hlt
  · simpa using hLne
  · intro Cc k v s₃ m₃ E' hC hv hn₃ hm₃ hk₃ _
    rw [Heap.size_push] at hC
    exact tests Cc v s₃ m₃ E' (by
      have : xs[k]? = some v := by simpa using hv
      exact List.mem_of_getElem? this) hn₃ hm₃ (fun b o e => hk₃ b o (up b o e).1 (up b o e).2) (by omega)
  · intro Cc k v s₃ m₃ E' hC hv hp hn₃ hm₃ hk₃ _
    rw [Heap.size_push] at hC
    exact eltq Cc v s₃ m₃ E' (by
      have : xs[k]? = some v := by simpa using hv
      exact List.mem_of_getElem? this) hp hn₃ hm₃ (fun b o e => hk₃ b o (up b o e).1 (up b o e).2) (by omega)
  · intro D h' tk ys vs hD hl hpl hlen hP hF hn' hkeep
    have hvs : vs = xs := by
      refine List.ext_getElem? fun k => ?_
      have hlen' : vs.length = xs.length := by simpa using hlen
      cases e : vs[k]? with
      | some v => have := hP k v e; simpa using this.symm
      | none =>
        rw [List.getElem?_eq_none_iff] at e
        rw [eq_comm, List.getElem?_eq_none_iff]; omega
    subst hvs
    have hys : ys.toList = (vs.filter p).map f := by
      clear hl hpl hkeep hn'
      have aux : ∀ {a : List Value} {b : List Value}, Paired (fun v y => y = f v) a b → b = a.map f := fun z => by
        induction z with
        | nil => rfl
        | cons e _ ih => rw [List.map_cons, ← ih, e]
      exact aux hF
    have Dn : s.heap.get? D = none := by
      cases q : s.heap.get? D with
      | none => rfl
      | some o => rw [(up D o q).2] at hD; cases hD
    have step : ∀ b o, b ≠ env.locals → s.heap.get? b = some o → h'.get? b = some o := fun b o hb e => hkeep b o hb (up b o e).1 (up b o e).2
    have H1 : OwnH B s₀.heap W h' (C.set i (env.locals, .ns (kv' D))) := O.h.set i hi (h' := h') step (ns_update (kv := kv) hn' hm (hkv D).each ((hkv D).nd hd))
    have H2 : OwnH B s₀.heap W h' ((D, .list ((vs.filter p).map f)) :: C.set i (env.locals, .ns (kv' D))) := by
      have z := O.h.none_of Dn
      refine ⟨H1.gl, fun q hq => ?_, ?_, H1.keep, fun q hq => ?_, H1.alive⟩
      · rcases List.mem_cons.mp hq with t | t
        · rw [t]
          show h'.PlainList D _
          rw [← hys]; simpa using hpl
        · exact H1.at' q t
      · rw [List.map_cons, set_fst hi, List.nodup_cons]
        refine ⟨fun ha => ?_, O.h.nd⟩
        obtain ⟨q, hq, e⟩ := List.mem_map.mp ha
        exact z.1 q hq e
      · rcases List.mem_cons.mp hq with t | t
        · rw [t]; exact ⟨.inr z.2.1, z.2.2.1, z.2.2.2.1⟩
        · exact H1.fresh q t
    exact h _ D (O.to H2)
end
end C3
end

section
open PySem PySem.W PyProof.Rows
set_option maxRecDepth 100000
namespace C3
/- the pieces of the text, by their places -/
abbrev pw : Program := PySem.Challenge.pw_dn0018_12
def nth (l : List Stmt) (i : Nat) : Stmt := l.getD i (.Pass default)
def bodyOf : Stmt → List Stmt
  | .FunctionDef _ _ b _ _ _ _ _ _ _ => b | .For _ _ b _ _ => b | .While _ b _ _ => b | .If _ b _ _ => b | .Try b _ _ _ _ => b | _ => []
def elseOf : Stmt → List Stmt
  | .For _ _ _ o _ => o | .While _ _ o _ => o | .If _ _ o _ => o | .Try _ _ o _ _ => o | _ => []
def testOf : Stmt → Expr
  | .While t _ _ _ => t | .If t _ _ _ => t | _ => .Constant .none 0 default
def valuesOf : Expr → List Expr
  | .BoolOp _ vs _ => vs | _ => []
def operandOf : Expr → Expr
  | .UnaryOp _ e _ => e | e => e
def targetOf : Stmt → Expr
  | .For t _ _ _ _ => t | _ => .Constant .none 0 default
def scopeOf : Stmt → Scope
  | .FunctionDef _ _ _ _ _ _ s _ _ _ => s | _ => default
def paramsOf : Stmt → Arguments
  | .FunctionDef _ a _ _ _ _ _ _ _ _ => a | _ => ⟨[], [], none, [], [], none, []⟩
def fnAt (i : Nat) : Stmt := nth pw.main.body i
def mergeFn : Stmt := fnAt 1
def mergeBody : List Stmt := bodyOf mergeFn
def mWhile : Stmt := nth mergeBody 1
def mTurn : List Stmt := bodyOf mWhile
def mFor1 : Stmt := nth mTurn 2
def mFor2 : Stmt := nth (bodyOf mFor1) 1
def mFor3 : Stmt := nth mTurn 5
structure Fenv (env : Env) : Prop where
  fn : env.scope.kind = .function
  g : env.globals = mainGlobals
  b : env.builtins = builtinsNs
  fr : env.frame = some env.locals
/-- the base: the text's own names and objects -/
structure Bas (B : Heap) (mg mb : Str → Option Value) : Prop where
  g : B.Ns mainGlobals mg
  b : B.Ns builtinsNs mb
  boot : ∀ x : Str, x ≠ "__name__" → mb x = bootBuiltins x
  no : ∀ x ∈ (["enumerate", "reversed", "hasattr", "len", "list", "issubclass", "any", "RuntimeError", "object", "int", "bool", "str", "BaseException", "Exception", "ArithmeticError", "ZeroDivisionError", "LookupError", "KeyError", "ValueError", "UnicodeError", "BaseExceptionGroup", "ExceptionGroup"] : List Str), mg x = none
  gm : mg "_c3_merge" = some (.ref 19)
  gr : mg "_c3_mro" = some (.ref 25)
  gc : mg "_law_classes" = some (.ref 32)
  gw : mg "_law_way" = some (.ref 39)
  st : ∀ b, Spec b → B.get? b = none
  code : ∀ (h : Heap) (ps : Array Value), B.StaysIn h → h.get? tabP = some { cls := .none, data := .fields ps } → TriplesOk ps.toList → h.IsCode 24 tabP ps
  ctab : ∃ o vs, B.get? 24 = some o ∧ o.cls = .type "code" ∧ o.data = .fields vs ∧ vs[11]? = some (.ref tabP)
  bi : ∀ (M : Model) (A : Around) (s : Shared) (Q : Addr → Shared → Prop) (E : Value → Shared → Prop), B.StaysIn s.heap → Q builtinsNs s → wpAny M A (builtinsFor mainGlobals builtinsNs) Q E s
section
variable {prog : Program} {w : World} {A : Around} {E : Value → Shared → Prop} {s₀ s : Shared} {B : Heap} {W : List Addr} {C : List (Addr × Cell)} {env : Env} {mg mb : Str → Option Value}
theorem readB {x : Str} {pos : Pos} {v : Value} (Bs : Bas B mg mb) (O : Own B s₀ W s C) (F : Fenv env) (hl : env.kindOf x = some .globalImplicit) (hno : mg x = none) (hv : bootBuiltins x = some v)
    (hn : x ≠ "__name__" := by decide +kernel) (hd : (x == ("__debug__" : Str)) = false := by decide +kernel) : Reads1 prog w A s (eval (.Name x pos) env) v := fun Q E h =>
  Calls.Name_function_global F.fn hl (Calls.loadGlobal_builtin (by rw [F.g]; exact Bs.g.keeps O.h.gl.stays) hno (by rw [F.b]; exact Bs.b.keeps O.h.gl.stays) ((Bs.boot x hn).trans hv) h) hd
theorem readG {x : Str} {pos : Pos} {v : Value} (Bs : Bas B mg mb) (O : Own B s₀ W s C) (F : Fenv env) (hl : env.kindOf x = some .globalImplicit) (hv : mg x = some v)
    (hd : (x == ("__debug__" : Str)) = false := by decide +kernel) : Reads1 prog w A s (eval (.Name x pos) env) v := fun Q E h =>
  Calls.Name_function_global F.fn hl (Calls.loadGlobal_global (by rw [F.g]; exact Bs.g.keeps O.h.gl.stays) hv h) hd
theorem nameB {x : Str} {pos : Pos} {v : Value} {Q : Value → Shared → Prop} (Bs : Bas B mg mb) (O : Own B s₀ W s C) (F : Fenv env) (hl : env.kindOf x = some .globalImplicit) (hno : mg x = none) (hv : bootBuiltins x = some v) (h : Q v s)
    (hn : x ≠ "__name__" := by decide +kernel) (hd : (x == ("__debug__" : Str)) = false := by decide +kernel) : wpAny (model prog w) A (eval (.Name x pos) env) Q E s := readB Bs O F hl hno hv hn hd _ _ h
theorem nameG {x : Str} {pos : Pos} {v : Value} {Q : Value → Shared → Prop} (Bs : Bas B mg mb) (O : Own B s₀ W s C) (F : Fenv env) (hl : env.kindOf x = some .globalImplicit) (hv : mg x = some v) (h : Q v s)
    (hd : (x == ("__debug__" : Str)) = false := by decide +kernel) : wpAny (model prog w) A (eval (.Name x pos) env) Q E s := readG Bs O F hl hv hd _ _ h
end
end C3
end

section
open PySem PySem.W PyProof.Rows
set_option maxRecDepth 100000
set_option linter.unusedVariables false
namespace C3
structure MergeEnv (env : Env) : Prop extends Fenv env where
  seqs : env.kindOf "sequences" = some .local
  res : env.kindOf "result" = some .local
  s1 : env.kindOf "s1" = some .local
  s2 : env.kindOf "s2" = some .local
  cand : env.kindOf "candidate" = some .local
  seq : env.kindOf "seq" = some .local
  err : env.kindOf "RuntimeError" = some .globalImplicit
abbrev Pack := List (Addr × List Nat)
def cells (ps : Pack) : List (Addr × Cell) := ps.map fun p => (p.1, .list (cvs p.2))
def refs (ps : Pack) : List Value := ps.map fun p => .ref p.1
theorem cells_get {ps : Pack} {k : Nat} {p : Addr × List Nat} (h : ps[k]? = some p) : (cells ps)[k]? = some (p.1, .list (cvs p.2)) := by unfold cells; rw [List.getElem?_map, h]; rfl
theorem refs_get {ps : Pack} {k : Nat} {p : Addr × List Nat} (h : ps[k]? = some p) : (refs ps)[k]? = some (.ref p.1) := by unfold refs; rw [List.getElem?_map, h]; rfl
theorem refs_none {ps : Pack} {k : Nat} (h : ps[k]? = none) : (refs ps)[k]? = none := by unfold refs; rw [List.getElem?_map, h]; rfl
/-- lists fit for the merge -/
structure Fit (ps : Pack) : Prop where
  full : ∀ p ∈ ps, p.2 ≠ []
  small : ∀ p ∈ ps, p.2.length < 1000
  cls : ∀ p ∈ ps, ∀ k ∈ p.2, k < 15
theorem small_line {n : Nat} (h : n < 1000) : n + 10 ≤ sizeLine := by rw [sizeLine_eq]; omega
theorem tail_cvs (l : List Nat) : (cvs l).tail = cvs l.tail := by cases l <;> rfl
section
variable {prog : Program} {w : World} {A : Around} {E : Value → Shared → Prop} {s₀ s : Shared} {B : Heap} {W : List Addr} {env : Env} {mg mb : Str → Option Value} {R : Result → Shared → Prop}
theorem for2 (hA : A.handled = none) (M : MergeEnv env) {ps : Pack} {c : Nat} {it2 : Addr} {T : List (Addr × Cell)} {kv : List (Str × Value)} {cur : Addr} (F : Fit ps) (hc : c < 15) (h2W : it2 ∉ W)
    (O : Own B s₀ W s ((it2, .iter cur 0) :: (env.locals, .ns (("candidate", cv c) :: kv)) :: (cur, .list (refs ps)) :: (cells ps ++ T))) (hkv : ("s2" : Str) ∉ ("candidate" : Str) :: kv.map (·.1))
    (h1 : (ps.map (·.2)).any (fun t => t.tail.contains c) = true → ∀ s', Own B s₀ W s' ((env.locals, .ns (("candidate", .none) :: kv)) :: (cur, .list (refs ps)) :: (cells ps ++ T)) → R (.ok .next) s')
    (h2 : (ps.map (·.2)).any (fun t => t.tail.contains c) = false → ∀ s', Own B s₀ W s' ((env.locals, .ns (("candidate", cv c) :: kv)) :: (cur, .list (refs ps)) :: (cells ps ++ T)) → R (.ok .brk) s') :
    codeAny (model prog w) A (.forLoop (targetOf mFor2) (.ref it2) (bodyOf mFor2) (elseOf mFor2) env) R s := by
  refine codeAny_forLoop (fun n s' => ∃ k, k ≤ ps.length ∧ n = ps.length - k ∧ ((ps.take k).map (·.2)).any (fun t => t.tail.contains c) = false ∧
    Own B s₀ W s' ((it2, .iter cur k) :: (env.locals, .ns (("candidate", cv c) :: kv)) :: (cur, .list (refs ps)) :: (cells ps ++ T))) ?_ ps.length ⟨0, Nat.zero_le _, rfl, rfl, O⟩ (by intro _; rfl)
  rintro n s' ⟨k, hk, rfl, hno, O⟩
  cases hp : ps[k]? with
  | none =>
    have hk' : ps.length ≤ k := List.getElem?_eq_none_iff.mp hp
    refine nextEnd O hA 0 2 rfl rfl h2W (refs_none hp) fun s1 O1 => ?_
    refine wpAny_execs_cons (wpAny_Break ?_)
    refine h2 ?_ s1 O1
    rwa [List.take_of_length_le hk'] at hno
  | some p =>
    have hlt : k < ps.length := (List.getElem?_eq_some_iff.mp hp).1
    have hm : p ∈ ps := List.mem_of_getElem? hp
    refine nextO O 0 2 rfl rfl (refs_get hp) fun s1 O1 => ?_
    refine wpAny_assign_Name (storeL_new O1 1 rfl hkv M.fn M.s2 fun s2 O2 => ?_)
    refine wpAny_execs_cons (wpAny_If (wpAny_isTrue_Compare1 (nameL O2 1 0 rfl rfl M.fn M.cand ?_)))
    have hidx : (cells ps ++ T)[k]? = some (p.1, .list (cvs p.2)) := by
      rw [List.getElem?_append_left (by unfold cells; simpa using hlt)]; exact cells_get hp
    have hne := F.full p hm
    have hlen : (cvs p.2).length = p.2.length := by unfold cvs; simp
    refine slice1 O2 (k + 3) hidx (by rw [hlen]; exact List.length_pos_iff.mpr hne) (by rw [hlen]; have := small_line (F.small p hm); omega)
      (readL O2 1 (kv.length + 1) rfl (by simp) M.fn M.s2) fun s3 l3 O3 => ?_
    rw [tail_cvs] at O3
    refine inCls O3 0 rfl hc (fun q hq => F.cls p hm q (List.mem_of_mem_tail hq)) ?_
    refine wpAny_truthy_bool ?_
    have O4 : Own B s₀ W s3 ((it2, .iter cur (k + 1)) :: (env.locals, .ns (("candidate", cv c) :: kv)) :: (cur, .list (refs ps)) :: (cells ps ++ T)) := by
      refine O3.to ?_
      have z := O3.h.sub (List.sublist_cons_self _ _)
      exact z.weak 1 rfl (c' := .ns (("candidate", cv c) :: kv)) (fun x => by
        refine ⟨⟨x.1.choose, x.1.choose_spec.1, fun q hq => x.1.choose_spec.2 q ?_⟩, ?_⟩
        · exact List.mem_append_left _ hq
        · exact x.2.sublist (by rw [List.map_append]; exact List.sublist_append_left _ _))
    cases hb : p.2.tail.contains c with
    | true =>
      show wpAny _ _ (execs _ env) _ _ s3
      refine wpAny_execs_cons (wpAny_Assign_Name (wpAny_Constant_none (storeL_old O4 1 0 rfl rfl M.fn M.cand fun s5 O5 => ?_)))
      refine wpAny_execs_cons (wpAny_Break ?_)
      refine h1 ?_ s5 (O5.to (O5.h.sub (List.sublist_cons_self _ _)))
      exact List.any_eq_true.mpr ⟨p.2, List.mem_map_of_mem hm, hb⟩
    | false =>
      show wpAny _ _ (execs _ env) _ _ s3
      refine wpAny_execs_nil ?_
      refine wpAny_execs_nil ?_
      refine ⟨ps.length - (k + 1), by omega, k + 1, hlt, rfl, ?_, O4⟩
      rw [List.take_add_one, hp, List.map_append, List.any_append, hno]
      simpa using hb
theorem ns_weak {h : Heap} {a : Addr} {kv kv' : List (Str × Value)} (hs : ∀ p ∈ kv', p ∈ kv) (hd : (kv'.map (·.1)).Nodup) (x : Cell.At h a (.ns kv)) : Cell.At h a (.ns kv') :=
  let ⟨⟨m, hn, hm⟩, _⟩ := x; ⟨⟨m, hn, fun p hp => hm p (hs p hp)⟩, hd⟩
def candV (ps : Pack) : Value := match cand (ps.map (·.2)) (ps.map (·.2)) with | some c => cv c | none => .none
theorem for1 (hA : A.handled = none) (M : MergeEnv env) {ps : Pack} {it1 : Addr} {T : List (Addr × Cell)} {kv : List (Str × Value)} {cur : Addr} (F : Fit ps) (hne : ps ≠ []) (hit : it1 ∉ W)
    (O : Own B s₀ W s ((it1, .iter cur 0) :: (env.locals, .ns (("sequences", .ref cur) :: kv)) :: (cur, .list (refs ps)) :: (cells ps ++ T)))
    (hkv : ∀ x ∈ (["s1", "s2", "candidate"] : List Str), x ∉ ("sequences" : Str) :: kv.map (·.1))
    (h : ∀ s', Own B s₀ W s' ((env.locals, .ns (("candidate", candV ps) :: ("sequences", .ref cur) :: kv)) :: (cur, .list (refs ps)) :: (cells ps ++ T)) → R (.ok .next) s') :
    codeAny (model prog w) A (.forLoop (targetOf mFor1) (.ref it1) (bodyOf mFor1) (elseOf mFor1) env) R s := by
  have hnd0 := O.names 1 rfl
  have hnd1 : ∀ v : Value, (((("candidate" : Str), v) :: ("sequences", .ref cur) :: kv).map (·.1)).Nodup := fun v => List.nodup_cons.mpr ⟨hkv _ (by simp), hnd0⟩
  refine codeAny_forLoop (fun n s' => ∃ k, k ≤ ps.length ∧ n = ps.length - k ∧ cand (ps.map (·.2)) ((ps.drop k).map (·.2)) = cand (ps.map (·.2)) (ps.map (·.2)) ∧
    Own B s₀ W s' ((it1, .iter cur k) :: (env.locals, .ns (if k = 0 then ("sequences", .ref cur) :: kv else ("candidate", .none) :: ("sequences", .ref cur) :: kv)) :: (cur, .list (refs ps)) :: (cells ps ++ T))) ?_ ps.length
    ⟨0, Nat.zero_le _, rfl, rfl, O⟩ (by intro _; rfl)
  rintro n s' ⟨k, hk, rfl, hcd, O⟩
  cases hp : ps[k]? with
  | none =>
    have hk' : ps.length ≤ k := List.getElem?_eq_none_iff.mp hp
    refine nextEnd O hA 0 2 rfl rfl hit (refs_none hp) fun s1 O1 => wpAny_execs_nil (h s1 ?_)
    have k0 : k ≠ 0 := fun e => hne (List.eq_nil_of_length_eq_zero (by omega))
    have e : candV ps = .none := by
      unfold candV
      rw [← hcd, List.drop_of_length_le hk']
      rfl
    rw [e]
    rw [if_neg k0] at O1
    exact O1
  | some p =>
    have hlt : k < ps.length := (List.getElem?_eq_some_iff.mp hp).1
    have hm : p ∈ ps := List.mem_of_getElem? hp
    refine nextO O 0 2 rfl rfl (refs_get hp) fun s1 O1 => ?_
    have O1' : Own B s₀ W s1 ((it1, .iter cur (k + 1)) :: (env.locals, .ns (("sequences", .ref cur) :: kv)) :: (cur, .list (refs ps)) :: (cells ps ++ T)) := by
      refine O1.to (O1.h.weak 1 rfl (c' := .ns (("sequences", .ref cur) :: kv)) (ns_weak (fun q hq => ?_) hnd0))
      split
      · exact hq
      · exact .tail _ hq
    refine wpAny_assign_Name (storeL_new O1' 1 rfl (hkv _ (by simp)) M.fn M.s1 fun s2 O2 => ?_)
    obtain ⟨c, t, hct⟩ : ∃ c t, p.2 = c :: t := by
      cases e : p.2 with
      | nil => exact absurd e (F.full p hm)
      | cons c t => exact ⟨c, t, rfl⟩
    have hc : c < 15 := F.cls p hm c (by rw [hct]; exact .head _)
    have hidx : (cells ps ++ T)[k]? = some (p.1, .list (cv c :: cvs t)) := by
      rw [List.getElem?_append_left (by unfold cells; simpa using hlt), cells_get hp, hct]; rfl
    refine wpAny_execs_cons (wpAny_Assign_Name (item0 O2 (k + 3) hidx (readL O2 1 (kv.length + 1) rfl (by simp) M.fn M.s1) fun s3 O3 => ?_))
    refine storeL_new O3 1 rfl (x := "candidate") ?_ M.fn M.cand fun s4 O4 => ?_
    · simp only [List.map_append, List.map_cons, List.map_nil, List.mem_append, List.mem_singleton, not_or]
      exact ⟨hkv _ (by simp), by decide +kernel⟩
    have O5 : Own B s₀ W s4 ((it1, .iter cur (k + 1)) :: (env.locals, .ns (("candidate", cv c) :: ("sequences", .ref cur) :: kv)) :: (cur, .list (refs ps)) :: (cells ps ++ T)) := by
      refine O4.to (O4.h.weak 1 rfl (c' := .ns (("candidate", cv c) :: ("sequences", .ref cur) :: kv)) (ns_weak (fun q hq => ?_) (hnd1 _)))
      rcases List.mem_cons.mp hq with e | e
      · rw [e]; simp
      · exact List.mem_append_left _ (List.mem_append_left _ e)
    refine wpAny_execs_cons (wpAny_For (nameL O5 1 1 rfl rfl M.fn M.seqs (iterO O5 2 rfl fun s6 it2 hi2 O6 => ?_)))
    have O7 : Own B s₀ W s6 ((it2, .iter cur 0) :: (env.locals, .ns (("candidate", cv c) :: ("sequences", .ref cur) :: kv)) :: (cur, .list (refs ps)) :: (cells ps ++ ((it1, .iter cur (k + 1)) :: T))) := O6.to (O6.h.perm (by
      refine List.Perm.cons _ ?_
      refine (List.Perm.swap _ _ _).trans (List.Perm.cons _ ((List.Perm.swap _ _ _).trans (List.Perm.cons _ ?_)))
      exact List.perm_middle.symm))
    have back : ∀ {s' : Shared} {v : Value}, Own B s₀ W s' ((env.locals, .ns (("candidate", v) :: ("sequences", .ref cur) :: kv)) :: (cur, .list (refs ps)) :: (cells ps ++ ((it1, .iter cur (k + 1)) :: T))) →
        Own B s₀ W s' ((it1, .iter cur (k + 1)) :: (env.locals, .ns (("candidate", v) :: ("sequences", .ref cur) :: kv)) :: (cur, .list (refs ps)) :: (cells ps ++ T)) := fun O' => O'.to (O'.h.perm (by
      refine List.Perm.symm ((List.Perm.swap _ _ _).trans (List.Perm.cons _ ((List.Perm.swap _ _ _).trans (List.Perm.cons _ ?_))))
      exact List.perm_middle.symm))
    have hd1 : (ps.drop k).map (·.2) = p.2 :: (ps.drop (k + 1)).map (·.2) := by
      rw [List.drop_eq_getElem_cons hlt, List.map_cons]
      rw [show ps[k] = p from (List.getElem?_eq_some_iff.mp hp).2]
    rw [hd1, hct] at hcd
    refine for2 hA M F hc hi2 O7 ?_ (fun hf s8 O8 => ?_) (fun hf s8 O8 => ?_)
    · have := hkv "s2" (by simp)
      simp only [List.map_cons, List.mem_cons, not_or] at this ⊢
      exact ⟨by decide +kernel, this.1, this.2⟩
    · refine wpAny_execs_nil ⟨ps.length - (k + 1), by omega, k + 1, hlt, rfl, ?_, back O8⟩
      rw [cand, if_pos hf] at hcd
      exact hcd
    · have e : candV ps = cv c := by
        unfold candV
        rw [cand, if_neg (by rw [hf]; exact Bool.false_ne_true)] at hcd
        rw [← hcd]
      refine h s8 ?_
      rw [e]
      exact (back O8).to ((back O8).h.sub (List.sublist_cons_self _ _))
def cut (c : Nat) (p : Addr × List Nat) : Addr × List Nat := (p.1, drop1 c p.2)
theorem refs_cut (c : Nat) (ps : Pack) : refs (ps.map (cut c)) = refs ps := by unfold refs; rw [List.map_map]; rfl
theorem cells_set {ps : Pack} {k : Nat} {a : Addr} {l l' : List Nat} (h : ps[k]? = some (a, l)) : (cells ps).set k (a, .list (cvs l')) = cells (ps.set k (a, l')) := by
  unfold cells; rw [List.map_set]
theorem for3 (hA : A.handled = none) (M : MergeEnv env) {ps : Pack} {c : Nat} {it : Addr} {T : List (Addr × Cell)} {kv : List (Str × Value)} {cur : Addr} (F : Fit ps) (hc : c < 15) (hit : it ∉ W)
    (O : Own B s₀ W s ((it, .iter cur 0) :: (env.locals, .ns (("candidate", cv c) :: kv)) :: (cur, .list (refs ps)) :: (cells ps ++ T))) (hkv : ("seq" : Str) ∉ ("candidate" : Str) :: kv.map (·.1))
    (h : ∀ s', Own B s₀ W s' ((env.locals, .ns (("candidate", cv c) :: kv)) :: (cur, .list (refs ps)) :: (cells (ps.map (cut c)) ++ T)) → R (.ok .next) s') :
    codeAny (model prog w) A (.forLoop (targetOf mFor3) (.ref it) (bodyOf mFor3) (elseOf mFor3) env) R s := by
  have hnd := O.names 1 rfl
  refine codeAny_forLoop (fun n s' => ∃ k, k ≤ ps.length ∧ n = ps.length - k ∧
    Own B s₀ W s' ((it, .iter cur k) :: (env.locals, .ns (("candidate", cv c) :: kv)) :: (cur, .list (refs ps)) :: (cells ((ps.take k).map (cut c) ++ ps.drop k) ++ T))) ?_ ps.length
    ⟨0, Nat.zero_le _, rfl, O⟩ (by intro _; rfl)
  rintro n s' ⟨k, hk, rfl, O⟩
  cases hp : ps[k]? with
  | none =>
    have hk' : ps.length ≤ k := List.getElem?_eq_none_iff.mp hp
    refine nextEnd O hA 0 2 rfl rfl hit (refs_none hp) fun s1 O1 => wpAny_execs_nil (h s1 ?_)
    rw [List.take_of_length_le hk', List.drop_of_length_le hk', List.append_nil] at O1
    exact O1
  | some p =>
    have hlt : k < ps.length := (List.getElem?_eq_some_iff.mp hp).1
    have hm : p ∈ ps := List.mem_of_getElem? hp
    obtain ⟨a, l⟩ := p
    refine nextO O 0 2 rfl rfl (refs_get hp) fun s1 O1 => ?_
    refine wpAny_assign_Name (storeL_new O1 1 rfl hkv M.fn M.seq fun s2 O2 => ?_)
    obtain ⟨x, t, hct⟩ : ∃ x t, l = x :: t := by
      cases e : l with
      | nil => exact absurd e (F.full _ hm)
      | cons x t => exact ⟨x, t, rfl⟩
    subst hct
    have hx : x < 15 := F.cls _ hm x (.head _)
    have hmid : ((ps.take k).map (cut c) ++ ps.drop k)[k]? = some (a, x :: t) := by
      rw [List.getElem?_append_right (by simp; omega)]
      simp only [List.length_map, List.length_take, Nat.min_eq_left hk, Nat.sub_self]
      rw [List.getElem?_drop, Nat.add_zero]; exact hp
    have hlen : k < (cells ((ps.take k).map (cut c) ++ ps.drop k)).length := by unfold cells; simp; omega
    have hidx : (cells ((ps.take k).map (cut c) ++ ps.drop k) ++ T)[k]? = some (a, .list (cv x :: cvs t)) := by
      rw [List.getElem?_append_left hlen, cells_get hmid]; rfl
    have next : ((ps.take k).map (cut c) ++ ps.drop k).set k (a, drop1 c (x :: t)) = (ps.take (k + 1)).map (cut c) ++ ps.drop (k + 1) := by
      rw [List.take_add_one, hp, List.map_append, List.drop_eq_getElem_cons hlt]
      rw [List.set_append_right _ _ (by simp; omega)]
      simp only [List.length_map, List.length_take, Nat.min_eq_left hk, Nat.sub_self, List.set_cons_zero]
      simp [cut]
    have forget : ∀ {s' : Shared} {D : List (Addr × Cell)}, Own B s₀ W s' ((it, .iter cur (k + 1)) :: (env.locals, .ns (((("candidate" : Str), cv c) :: kv) ++ [(("seq" : Str), Value.ref a)])) :: D) →
        Own B s₀ W s' ((it, .iter cur (k + 1)) :: (env.locals, .ns (("candidate", cv c) :: kv)) :: D) := fun O' =>
      O'.to (O'.h.weak 1 rfl (c' := .ns (("candidate", cv c) :: kv)) (ns_weak (fun q hq => List.mem_append_left _ hq) hnd))
    refine wpAny_execs_cons (wpAny_If (wpAny_isTrue_Compare1 (item0 O2 (k + 3) hidx (readL O2 1 (kv.length + 1) rfl (by simp) M.fn M.seq) fun s3 O3 => ?_)))
    refine nameL O3 1 0 rfl rfl M.fn M.cand (eqCls hx hc (wpAny_truthy_bool ?_))
    by_cases e : x = c
    · rw [if_pos (by simpa using e)]
      refine wpAny_execs_cons (wpAny_Delete (wpAny_deleteEach_cons (wpAny_delete_Subscript (nameL (v := .ref a) O3 1 (kv.length + 1) rfl (by simp) M.fn M.seq (wpAny_Constant_int ?_)))))
      have O4 : Own B s₀ W { s3 with toks := s3.toks + 1 } _ := O3.same
      refine del0 O4 (k + 3) hidx ?_ fun s5 O5 => wpAny_deleteEach_nil (wpAny_execs_nil (wpAny_execs_nil ?_))
      · have h1 := F.small _ hm
        have := small_line h1
        unfold cvs; simp only [List.length_map]
        simp only [List.length_cons] at h1 this
        omega
      · refine ⟨ps.length - (k + 1), by omega, k + 1, hlt, rfl, ?_⟩
        have O6 : Own B s₀ W s5 ((it, .iter cur (k + 1)) :: (env.locals, .ns (("candidate", cv c) :: kv)) :: (cur, .list (refs ps)) :: ((cells ((ps.take k).map (cut c) ++ ps.drop k) ++ T).set k (a, .list (cvs t)))) := forget O5
        have e2 : (cells ((ps.take k).map (cut c) ++ ps.drop k) ++ T).set k (a, .list (cvs t)) = cells ((ps.take (k + 1)).map (cut c) ++ ps.drop (k + 1)) ++ T := by
          rw [List.set_append_left _ _ hlen, cells_set hmid, ← next]
          simp only [drop1, e, if_true]
        rw [e2] at O6
        exact O6
    · rw [if_neg (by simpa using e)]
      refine wpAny_execs_nil (wpAny_execs_nil ?_)
      refine ⟨ps.length - (k + 1), by omega, k + 1, hlt, rfl, ?_⟩
      have O6 := forget O3
      have e2 : (ps.take k).map (cut c) ++ ps.drop k = (ps.take (k + 1)).map (cut c) ++ ps.drop (k + 1) := by
        rw [← next]
        simp only [drop1, e, if_false]
        refine (List.ext_getElem? fun j => ?_).symm
        by_cases hj : k = j
        · subst hj; rw [List.getElem?_set_self (by simpa [cells] using hlen), hmid]
        · rw [List.getElem?_set_ne hj]
      rw [e2] at O6
      exact O6
def packP (ps : Pack) (v : Value) : Bool := ps.any fun q => v == .ref q.1 && !q.2.isEmpty
theorem packP_of {ps : Pack} (nd : (ps.map (·.1)).Nodup) {q : Addr × List Nat} (hq : q ∈ ps) : packP ps (.ref q.1) = !q.2.isEmpty := by
  unfold packP
  cases e : q.2.isEmpty with
  | false => exact List.any_eq_true.mpr ⟨q, hq, by simp [e]⟩
  | true =>
    rw [Bool.not_true, List.any_eq_false]
    intro p hp
    by_cases h : p.1 = q.1
    · have : p = q := by
        obtain ⟨i, hi⟩ := List.mem_iff_getElem?.mp hp
        obtain ⟨j, hj⟩ := List.mem_iff_getElem?.mp hq
        have h1 : (ps.map (·.1))[i]? = some q.1 := by rw [List.getElem?_map, hi]; simp [h]
        have h2 : (ps.map (·.1))[j]? = some q.1 := by rw [List.getElem?_map, hj]; rfl
        obtain ⟨l1, e1⟩ := List.getElem?_eq_some_iff.mp h1
        obtain ⟨l2, e2⟩ := List.getElem?_eq_some_iff.mp h2
        have pw := List.pairwise_iff_getElem.mp nd
        have hij : i = j := by
          rcases Nat.lt_trichotomy i j with t | t | t
          · exact absurd (e1.trans e2.symm) (pw i j l1 l2 t)
          · exact t
          · exact absurd (e2.trans e1.symm) (pw j i l2 l1 t)
        subst hij
        exact Option.some.inj (hi.symm.trans hj)
      subst this
      simp [e]
    · simp [Ne.symm h]
theorem pack_filter {ps : Pack} (nd : (ps.map (·.1)).Nodup) : ((refs ps).filter (packP ps)).map id = refs (ps.filter fun q => !q.2.isEmpty) := by
  rw [List.map_id]
  unfold refs
  rw [List.filter_map]
  congr 1
  refine List.filter_congr fun q hq => ?_
  exact packP_of nd hq
theorem full_pack (ps : Pack) : (ps.filter fun q => !q.2.isEmpty).map (·.2) = full (ps.map (·.2)) := by
  unfold full
  rw [List.filter_map]
  rfl
theorem cells_sub {ps ps' : Pack} (h : ps'.Sublist ps) : (cells ps').Sublist (cells ps) := h.map _
theorem cells_fst (ps : Pack) : (cells ps).map (·.1) = ps.map (·.1) := by unfold cells; rw [List.map_map]; rfl
/-- the lists that are not empty -/
theorem sift (hA : A.handled = none) (M : MergeEnv env) {ps : Pack} {T : List (Addr × Cell)} {kv : List (Str × Value)} {cur : Addr} {Q : Flow → Shared → Prop} (hz : ps.length < 1000) (hs : ∀ p ∈ ps, p.2.length < 1000)
    (O : Own B s₀ W s ((env.locals, .ns (("sequences", .ref cur) :: kv)) :: (cur, .list (refs ps)) :: (cells ps ++ T)))
    (h : ∀ s' D, Own B s₀ W s' ((env.locals, .ns (("sequences", .ref D) :: kv)) :: (D, .list (refs (ps.filter fun q => !q.2.isEmpty))) :: (cells (ps.filter fun q => !q.2.isEmpty) ++ T)) → Q .next s') :
    wpAny (model prog w) A (exec (nth mTurn 0) env) Q E s := by
  have hnd : (ps.map (·.1)).Nodup := by
    have := O.h.nd
    rw [← cells_fst]
    exact this.sublist (List.Sublist.map _ (((List.sublist_append_left (cells ps) T).cons _).cons _))
  have nd := O.names 0 rfl
  refine compSet (cl := []) (kv' := fun D => ("sequences", .ref D) :: kv) O hA 0 1 rfl rfl (by have := small_line hz; unfold refs; rw [List.length_map]; omega) (readL O 0 0 rfl rfl M.fn M.seqs)
    (fun D => puts_old (j := 0) nd rfl) (packP ps) id (swaps_true M.fn M.seqs (by decide +kernel)) (closureFor_none (by decide)) (by decide) rfl (by decide +kernel) (by decide +kernel) M.fn M.seqs ?_ ?_ fun s' D O' => ?_
  · intro Cc v s₃ m₃ E' hv hn hm hk hC
    unfold testsOf
    simp only [List.forIn_cons, List.forIn_nil, if_true, bind_assoc, pure_bind]
    obtain ⟨q, hq, rfl⟩ : ∃ q ∈ ps, Value.ref q.1 = v := by simpa [refs] using hv
    obtain ⟨i, hi⟩ := List.mem_iff_getElem?.mp hq
    have hl : Cell.At s.heap q.1 (.list (cvs q.2)) := O.h.get (i + 2) (by
      show (cells ps ++ T)[i]? = _
      rw [List.getElem?_append_left (by unfold cells; simpa using (List.getElem?_eq_some_iff.mp hi).1)]; exact cells_get hi)
    have hl3 : s₃.heap.PlainList q.1 (cvs q.2).toArray := Heap.PlainList.at hl fun o e => hk _ o e
    refine wpAny_bind (wpAny_isTrue_value (wpAny_Name (wpAny_loadName_local rfl (lookup_relabel_local (by decide +kernel)) hn hm ?_) (by decide +kernel)))
    have hlen : (cvs q.2).length = q.2.length := by unfold cvs; simp
    refine wpAny_truthy_list hl3.isList (by have := hs q hq; simp only [List.size_toArray, hlen]; omega) (wpAny_pure ⟨?_, s₃.heap, _, rfl, fun _ _ e => e⟩)
    rw [packP_of hnd hq]
    cases q.2 <;> rfl
  · intro Cc v s₃ m₃ E' hv hp hn hm hk hC
    exact wpAny_Name (wpAny_loadName_local rfl (lookup_relabel_local (by decide +kernel)) hn hm ⟨rfl, s₃.heap, s₃.toks, rfl, fun _ _ e => e⟩) (by decide +kernel)
  · rw [pack_filter hnd] at O'
    refine h s' D (O'.to ?_)
    have z := O'.h.perm (List.Perm.swap _ _ _)
    exact z.sub (((((cells_sub List.filter_sublist).append (List.Sublist.refl T)).cons _).cons_cons _).cons_cons _)
end
end C3
end

section
open PySem PySem.W PyProof.Rows
set_option maxRecDepth 100000
set_option linter.unusedVariables false
namespace C3
theorem fitOf {ps : Pack} (hs : ∀ p ∈ ps, p.2.length < 1000) (hc : ∀ p ∈ ps, ∀ k ∈ p.2, k < 15) : Fit (ps.filter fun q => !q.2.isEmpty) :=
  ⟨fun p hp e => absurd (List.mem_filter.mp hp).2 (by rw [e]; exact Bool.false_ne_true), fun p hp => hs p (List.mem_filter.mp hp).1, fun p hp => hc p (List.mem_filter.mp hp).1⟩
theorem drop1_sub (c : Nat) (t : List Nat) : (drop1 c t).Sublist t := by
  cases t with
  | nil => exact List.Sublist.refl _
  | cons x r =>
    unfold drop1; dsimp only; split
    · exact List.sublist_cons_self _ _
    · exact List.Sublist.refl _
theorem cand_lt {all ss : List (List Nat)} {c : Nat} (h : cand all ss = some c) (hc : ∀ t ∈ ss, ∀ k ∈ t, k < 15) : c < 15 := by
  obtain ⟨t, ht⟩ := cand_mem h
  exact hc _ ht c (.head _)
theorem le_total {t : List Nat} : ∀ {ss : List (List Nat)}, t ∈ ss → t.length ≤ total ss
  | _ :: r, .head _ => by unfold total; simp
  | s :: r, .tail _ h => by
    have := le_total h
    unfold total at *
    simp only [List.map_cons, List.sum_cons]
    omega
theorem cut_snd (c : Nat) (ps : Pack) : (ps.map (cut c)).map (·.2) = (ps.map (·.2)).map (drop1 c) := by
  rw [List.map_map, List.map_map]; rfl
theorem inter {env : Env} (h : env.scope.kind = .function) : interactive env = false := by unfold interactive; rw [h]; rfl
section
variable {prog : Program} {w : World} {A : Around} {E : Value → Shared → Prop} {s₀ s : Shared} {B : Heap} {W : List Addr} {env : Env} {mg mb : Str → Option Value} {R : Result → Shared → Prop} {outer : List Env}
theorem raw_of {e : Addr} {h h' : Heap} {l : List Env} {args : List Value} (G : Gl B h) (F : h.FunFrames B l) (X : Heap.MadeExc h h' e "RuntimeError" args) : Raw B l e h' ∧ KeepX h h' := by
  have k := KeepX.of_keeps X.keeps
  obtain ⟨t, ht, _⟩ := X.there
  refine ⟨⟨fun b o q => X.keeps b o (G.stays b o q), G.stat.stepX k, ?_, k.frames F, ⟨_, _, ht, rfl, rfl, rfl, rfl⟩⟩, k⟩
  cases q : B.get? e with
  | none => rfl
  | some o => have := G.stays _ _ q; rw [X.new] at this; cases this
theorem whileM (hA : A.handled = none) (hfr : A.frames = some (env :: outer)) (Bs : Bas B mg mb) (M : MergeEnv env) (hl : s₀.heap.FunFrames B outer) (hW : ∀ env ∈ outer, ∀ a, env.frame = some a → a ∉ W ∧ ¬ Spec a)
    {ps : Pack} {cur r : Addr} {res : List Nat} {target : Option (List Nat)}
    (ht : merge (total (ps.map (·.2)) + 1) (ps.map (·.2)) res = target) (hn : ps.length < 1000) (hs : res.length + total (ps.map (·.2)) < 1000) (hc : ∀ p ∈ ps, ∀ k ∈ p.2, k < 15)
    (O : Own B s₀ W s ((env.locals, .ns [("sequences", .ref cur), ("result", .ref r)]) :: (cur, .list (refs ps)) :: (cells ps ++ [(r, .list (cvs res))])))
    (hok : ∀ s' ys, target = some ys → Own B s₀ W s' [(r, .list (cvs ys))] → R (.ok (.ret (.ref r))) s')
    (hbad : ∀ s' e, target = none → Bad B s₀ W (env :: outer) e (rawInt env.locals) s' → R (.error (.ref e)) s') :
    codeAny (model prog w) A (.whileLoop (testOf mWhile) (bodyOf mWhile) (elseOf mWhile) env) R s := by
  refine codeAny_whileLoop (fun n s' => ∃ ps cur res, n = total (ps.map (·.2)) ∧ merge (n + 1) (ps.map (·.2)) res = target ∧ ps.length < 1000 ∧ res.length + n < 1000 ∧ (∀ p ∈ ps, ∀ k ∈ p.2, k < 15) ∧
    Own B s₀ W s' ((env.locals, .ns [("sequences", .ref cur), ("result", .ref r)]) :: (cur, .list (refs ps)) :: (cells ps ++ [(r, .list (cvs res))]))) ?_ _ ⟨ps, cur, res, rfl, ht, hn, hs, hc, O⟩
  clear O hs hn ht hc
  rintro n s' ⟨ps, cur, res, rfl, ht, hn, hs, hc, O⟩
  refine wpAny_isTrue_value (wpAny_Constant_bool (wpAny_truthy_bool ?_))
  rw [if_pos rfl]
  have hs1 : ∀ p ∈ ps, p.2.length < 1000 := fun p hp => by
    have := le_total (List.mem_map_of_mem (f := (·.2)) hp)
    omega
  refine wpAny_execs_cons (sift hA M hn hs1 O fun s1 D O1 => ?_)
  have F := fitOf hs1 hc
  have hfp := full_pack ps
  have hlen : (ps.filter fun q => !q.2.isEmpty).length < 1000 := Nat.lt_of_le_of_lt (List.length_filter_le _ _) hn
  generalize hq : (ps.filter fun q => !q.2.isEmpty) = qs at *
  refine wpAny_execs_cons (wpAny_If (wpAny_isTrue_Not (wpAny_isTrue_value (nameL O1 0 0 rfl rfl M.fn M.seqs (truthyO O1 1 rfl ?_ fun s2 O2 => ?_)))))
  · unfold refs; rw [List.length_map]; omega
  have e1 : (!(!(refs qs).isEmpty)) = qs.isEmpty := by unfold refs; cases qs <;> rfl
  rw [e1]
  unfold merge at ht
  rw [← hfp] at ht
  cases hqe : qs with
  | nil =>
    subst hqe
    rw [if_pos (show ([] : Pack).isEmpty = true from rfl)]
    refine wpAny_execs_cons (wpAny_Return_some (nameL O2 0 1 rfl rfl M.fn M.res ?_))
    exact hok _ res ht.symm (O2.to (O2.h.sub (((List.sublist_append_right _ _).cons _).cons _)))
  | cons q0 qr =>
    rw [← hqe]
    have hqn : qs ≠ [] := by rw [hqe]; exact List.cons_ne_nil _ _
    have e2 : qs.isEmpty = false := by rw [hqe]; rfl
    rw [e2, if_neg Bool.false_ne_true]
    rw [if_neg (by simpa using hqn)] at ht
    refine wpAny_execs_nil ?_
    refine wpAny_execs_cons (wpAny_For (nameL O2 0 0 rfl rfl M.fn M.seqs (iterO O2 1 rfl fun s3 it hit O3 => ?_)))
    refine for1 hA M F hqn hit O3 (by simp only [List.map_cons, List.map_nil]; decide +kernel) fun s4 O4 => ?_
    show wpAny _ _ (execs _ env) _ _ s4
    refine wpAny_execs_cons (wpAny_If (wpAny_isTrue_Compare1 (nameL O4 0 0 rfl rfl M.fn M.cand (wpAny_Constant_none (is_none (wpAny_truthy_bool ?_))))))
    unfold candV
    cases hcd : cand (qs.map (·.2)) (qs.map (·.2)) with
    | none =>
      rw [hcd] at ht
      rw [if_pos (by rfl)]
      refine wpAny_execs_cons (wpAny_Raise_call PySem.F.excCall_RuntimeError PySem.F.excRaise_RuntimeError hA (by rfl) (nameB Bs O4 M.toFenv M.err (Bs.no _ (by decide)) PyProof.Rows.Boot.«RuntimeError» ⟨rfl, ?_⟩))
      refine Calls.evalArgs_plain (Calls.spliced_cons ?_)
      refine wpAny_Constant_str (k := 0) (pos := default) (Calls.spliced_nil ⟨rfl, by size_fits, fun h' e X => ?_⟩)
      obtain ⟨raw, k⟩ := raw_of O4.h.gl (O4.frames 0 rfl M.fn M.fr hl hW) X
      refine note_raw hfr M.fr M.fr raw fun h'' f k2 => hbad _ e ht.symm (O4.bad f (k.trans k2))
    | some c =>
      rw [hcd] at ht
      have hc15 : c < 15 := cand_lt hcd fun t ht => by
        obtain ⟨p, hp, rfl⟩ := List.mem_map.mp ht
        exact F.cls p hp
      dsimp only
      rw [if_neg (by simp [cv])]
      refine wpAny_execs_nil ?_
      have e3 : candV qs = cv c := by unfold candV; rw [hcd]
      rw [e3] at O4
      refine wpAny_execs_cons (wpAny_Expr (wpAny_Call_append (by rfl) (by rfl) (by rfl) (by rfl) (nameL O4 0 2 rfl rfl M.fn M.res ?_)) (inter M.fn))
      have hr : ((env.locals, Cell.ns [("candidate", cv c), ("sequences", .ref D), ("result", .ref r)]) :: (D, .list (refs qs)) :: (cells qs ++ [(r, .list (cvs res))]))[qs.length + 2]? = some (r, .list (cvs res)) := by
        have e : (cells qs).length = qs.length := by unfold cells; simp
        show (cells qs ++ [(r, Cell.list (cvs res))])[qs.length]? = _
        rw [List.getElem?_append_right (by omega), e, Nat.sub_self]; rfl
      refine ⟨r, (cvs res).toArray, rfl, ?_, ?_⟩
      · obtain ⟨n, ho⟩ := O4.h.get _ hr
        exact ⟨_, n, ho, rfl, rfl, rfl⟩
      refine nameL O4 0 0 rfl rfl M.fn M.cand (appendO O4 _ hr ?_ fun s5 O5 => ?_)
      · unfold cvs; rw [List.length_map, sizeLine_eq]; omega
      have O6 : Own B s₀ W s5 ((env.locals, Cell.ns [("candidate", cv c), ("sequences", .ref D), ("result", .ref r)]) :: (D, .list (refs qs)) :: (cells qs ++ [(r, .list (cvs (res ++ [c])))])) := by
        have e : (cells qs).length = qs.length := by unfold cells; simp
        have e2 : (cells qs ++ [(r, Cell.list (cvs res))]).set qs.length (r, .list (cvs res ++ [cv c])) = cells qs ++ [(r, .list (cvs (res ++ [c])))] := by
          rw [List.set_append_right _ _ (by omega), e, Nat.sub_self]
          unfold cvs; rw [List.map_append]; rfl
        rw [← e2]; exact O5
      show wpAny _ _ (execs _ env) _ _ s5
      refine wpAny_execs_cons (wpAny_For (nameL O6 0 1 rfl rfl M.fn M.seqs (iterO O6 1 rfl fun s7 it hit O7 => ?_)))
      refine for3 hA M F hc15 hit O7 (by simp only [List.map_cons, List.map_nil]; decide +kernel) fun s8 O8 => ?_
      refine wpAny_execs_nil ?_
      obtain ⟨t, hct⟩ := cand_mem hcd
      have hlt := total_drop_lt hct
      rw [hfp] at hlt
      rw [total_full] at hlt
      rw [← hfp, ← cut_snd] at hlt
      refine ⟨total ((qs.map (cut c)).map (·.2)), hlt, qs.map (cut c), D, res ++ [c], rfl, ?_, by rw [List.length_map]; exact hlen, by rw [List.length_append]; simp only [List.length_cons, List.length_nil]; omega, ?_, ?_⟩
      · rw [← ht]
        show _ = merge _ ((qs.map (·.2)).map (drop1 c)) _
        rw [← cut_snd]
        exact merge_mono _ _ _ (Nat.lt_succ_self _) _ hlt
      · intro p hp k hk
        obtain ⟨q, hq, rfl⟩ := List.mem_map.mp hp
        exact F.cls q hq k ((drop1_sub _ _).subset hk)
      · rw [refs_cut]
        exact O8.to (O8.h.weak 0 rfl (c' := .ns [("sequences", .ref D), ("result", .ref r)]) (ns_weak (fun q hq => .tail _ hq) (by simp only [List.map_cons, List.map_nil]; decide +kernel)))
end
end C3
end

section
open PySem PySem.W PyProof.Rows
set_option maxRecDepth 100000
set_option linter.unusedVariables false
namespace C3
structure FnAt (B : Heap) (a : Addr) (i : Nat) (o : Obj) (fd : FuncData) : Prop where
  at' : B.get? a = some o
  data : o.data = .func fd
  scope : fd.scope = scopeOf (fnAt i)
  body : fd.body = .stmts (bodyOf (fnAt i))
  g : fd.globals = mainGlobals
  b : fd.builtins = builtinsNs
  clo : fd.closure = []
  code : B.CodeRec fd.code fd.qualname
/-- around a call -/
structure Ctx (A : Around) (B h : Heap) (W : List Addr) (outer : List Env) : Prop where
  hd : A.handled = none
  fr : A.frames = some outer
  fs : h.FunFrames B outer
  out : ∀ env ∈ outer, ∀ a, env.frame = some a → a ∉ W ∧ ¬ Spec a
theorem frames_there {h B : Heap} {l : List Env} (F : h.FunFrames B l) : ∀ env ∈ l, ∀ a, env.frame = some a → ∃ o, h.get? a = some o := by
  induction l with
  | nil => intro _ hm; cases hm
  | cons x r ih =>
    intro env hm a e
    obtain ⟨_, ⟨L, o, hf, _, ho, _⟩, hr⟩ := F
    rcases List.mem_cons.mp hm with q | q
    · rw [q, hf] at e; cases e; exact ⟨o, ho⟩
    · exact ih hr env q a e
section
variable {prog : Program} {w : World} {A : Around} {E : Value → Shared → Prop} {s₀ s s' : Shared} {B : Heap} {W V : List Addr} {env : Env} {mg mb : Str → Option Value} {R : Result → Shared → Prop} {outer : List Env} {C D : List (Addr × Cell)}
/-- the callee's surroundings, where the caller stands -/
theorem Ctx.call {kv : List (Str × Value)} (X : Ctx A B s₀.heap W outer) (O : Own B s₀ W s C) (i : Nat) (hi : C[i]? = some (env.locals, .ns kv)) (hk : env.scope.kind = .function) (hf : env.frame = some env.locals)
    (hVW : ∀ a ∈ V, a ∉ W) (hV : ∀ a ∈ V, a ∈ C.map (·.1)) (hL : env.locals ∉ V) : Ctx (A.deeper env) B s.heap V (env :: outer) := by
  refine ⟨X.hd, by show A.frames.map _ = _; rw [X.fr]; rfl, O.frames i hi hk hf X.fs X.out, fun e he a ha => ?_⟩
  rcases List.mem_cons.mp he with q | q
  · subst q; rw [hf] at ha; cases ha
    exact ⟨hL, (O.h.fresh _ (List.mem_of_getElem? hi)).2.2⟩
  · obtain ⟨o, ho⟩ := frames_there X.fs e q a ha
    refine ⟨fun hv => ?_, (X.out e q a ha).2⟩
    obtain ⟨p, hp, hpa⟩ := List.mem_map.mp (hV a hv)
    rcases (O.h.fresh p hp).1 with z | z
    · exact hVW a hv (hpa ▸ z)
    · rw [hpa] at z; rw [z] at ho; cases ho
/-- behind a call -/
theorem Own.called (O : Own B s₀ W s C) (O' : Own B s V s' D) (hVW : ∀ a ∈ V, a ∉ W) (hV : ∀ a ∈ V, a ∈ C.map (·.1)) (hD : ∀ p ∈ D, p.1 ∉ V) {C' : List (Addr × Cell)} (hC : C'.Sublist C) (hC' : ∀ p ∈ C', p.1 ∉ V) :
    Own B s₀ W s' (D ++ C') := by
  have hC0 := hC
  have old : ∀ p ∈ C, ∃ o, s.heap.get? p.1 = some o := fun p hp => p.2.there (O.h.at' p hp)
  have new : ∀ p ∈ D, s.heap.get? p.1 = none := fun p hp => ((O'.h.fresh p hp).1).resolve_left (hD p hp)
  have V0 : ∀ a ∈ V, s₀.heap.get? a = none := fun a ha => by
    obtain ⟨p, hp, e⟩ := List.mem_map.mp (hV a ha)
    have := ((O.h.fresh p hp).1).resolve_left (e ▸ hVW a ha)
    rw [e] at this; exact this
  refine ⟨⟨O'.h.gl, fun p hp => ?_, ?_, fun b o e x y => ?_, fun p hp => ?_, fun a ha => ?_⟩, O.sim.trans O'.sim⟩
  · rcases List.mem_append.mp hp with q | q
    · exact O'.h.at' p q
    · obtain ⟨o, ho⟩ := old p (hC.subset q)
      exact p.2.at_congr ((O'.h.keep _ _ ho (hC' p q) (O.h.fresh p (hC.subset q)).2.2).trans ho.symm) (O.h.at' p (hC.subset q))
  · rw [List.map_append, List.nodup_append]
    refine ⟨O'.h.nd, O.h.nd.sublist (hC.map _), fun a ha b hb e => ?_⟩
    obtain ⟨p, hp, rfl⟩ := List.mem_map.mp ha
    obtain ⟨q, hq, rfl⟩ := List.mem_map.mp hb
    obtain ⟨o, ho⟩ := old q (hC.subset hq)
    rw [← e, new p hp] at ho; cases ho
  · have z := O.h.keep b o e x y
    exact O'.h.keep b o z (fun hv => by rw [V0 b hv] at e; cases e) y
  · rcases List.mem_append.mp hp with q | q
    · refine ⟨.inr ?_, (O'.h.fresh p q).2⟩
      cases e : s₀.heap.get? p.1 with
      | none => rfl
      | some o =>
        by_cases hw : p.1 ∈ W
        · obtain ⟨o', ho'⟩ := O.h.alive _ hw
          rw [new p q] at ho'; cases ho'
        · have := O.h.keep _ o e hw (O'.h.fresh p q).2.2
          rw [new p q] at this; cases this
    · exact O.h.fresh p (hC.subset q)
  · obtain ⟨o, ho⟩ := O.h.alive a ha
    by_cases q : Spec a
    · exact O'.h.gl.stat.specs q
    · exact ⟨o, O'.h.keep a o ho (fun hv => hVW a hv ha) q⟩
theorem Own.badCall {l : List Env} {e : Addr} {fl : Value} (O : Own B s₀ W s C) (Z : Bad B s V l e fl s') (hVW : ∀ a ∈ V, a ∉ W) (hV : ∀ a ∈ V, a ∈ C.map (·.1)) : Bad B s₀ W l e fl s' := by
  refine ⟨Z.fly, fun b o h1 h2 h3 h4 => ?_, O.sim.trans Z.sim⟩
  refine Z.keep b o (O.h.keep b o h1 h2 h3) (fun hv => ?_) h3 h4
  obtain ⟨p, hp, q⟩ := List.mem_map.mp (hV b hv)
  have := ((O.h.fresh p hp).1).resolve_left (q ▸ hVW b hv)
  rw [q, h1] at this; cases this
theorem mergeEnv_of {o : Obj} {fd : FuncData} {L : Addr} (Fa : FnAt B 19 1 o fd) : MergeEnv (callEnv fd L 19) := by
  have hk : (callEnv fd L 19).scope = scopeOf (fnAt 1) := Fa.scope
  refine ⟨⟨by rw [hk]; rfl, Fa.g, Fa.b, rfl⟩, ?_, ?_, ?_, ?_, ?_, ?_, ?_⟩ <;> (show (callEnv fd L 19).scope.names.lookup _ = _; rw [hk]; decide +kernel)
/-- a call of the merge -/
theorem callMerge (X : Ctx A B s.heap W outer) (hroom : A.depth < recursionLimit) (Bs : Bas B mg mb) {o : Obj} {fd : FuncData} (Fa : FnAt B 19 1 o fd) {l : Addr} {ps : Pack}
    (bind : BindsTo s fd ⟨[.ref l], []⟩ [("sequences", .ref l)]) (hn : ps.length < 1000) (hs : total (ps.map (·.2)) < 1000) (hc : ∀ p ∈ ps, ∀ k ∈ p.2, k < 15)
    (hW : W = l :: ps.map (·.1)) (O : Own B s W s ((l, .list (refs ps)) :: cells ps))
    (hok : ∀ s' r ys, merge (total (ps.map (·.2)) + 1) (ps.map (·.2)) [] = some ys → r ∉ W → Own B s W s' [(r, .list (cvs ys))] → R (.ok (.ret (.ref r))) s')
    (hbad : ∀ s' e, merge (total (ps.map (·.2)) + 1) (ps.map (·.2)) [] = none → Bad B s W outer e .none s' → R (.error (.ref e)) s') :
    codeAny (model prog w) A (.call (.ref 19) ⟨[.ref l], []⟩) R s := by
  have M : MergeEnv (callEnv fd s.heap.objs.size 19) := mergeEnv_of Fa
  refine codeAny_call_def hroom (O.h.gl.stays _ _ Fa.at') Fa.data O.h.gl.stat.noLimit (Fa.code.keeps O.h.gl.stays) Fa.body bind (by rw [Fa.scope]; decide +kernel) (fun x hx => by rw [List.mem_singleton.mp hx, Fa.scope]; show (scopeOf (fnAt 1)).names.lookup (Str.ofString "sequences") = _; decide +kernel) (fun h₀ hn₀ hk₀ => ?_) (by rw [Fa.scope]; rfl) (by rw [Fa.scope]; rfl) (by rw [Fa.scope]; rfl)
  have O1 : Own B s W { s with heap := h₀, toks := s.toks + 1 } (((callEnv fd s.heap.objs.size 19).locals, .ns [("sequences", .ref l)]) :: (l, .list (refs ps)) :: cells ps) :=
    O.to (O.h.add hk₀ (get_size_none _) ⟨⟨_, hn₀, fun p hp => by rw [List.mem_singleton.mp hp]; rfl⟩, by simp⟩)
  generalize hE : callEnv fd s.heap.objs.size 19 = env at *
  refine wpAny_execs_cons (wpAny_Assign_Name (emptyList O1 fun s2 r O2 => ?_))
  have hrW : r ∉ W := by
    have := O2.h.nd
    simp only [List.map_cons, List.nodup_cons, cells_fst] at this
    rw [hW]
    exact fun hm => this.1 (.tail _ hm)
  refine storeL_new O2 1 rfl (by simp only [List.map_cons, List.map_nil]; decide +kernel) M.fn M.res fun s3 O3 => ?_
  refine wpAny_execs_cons (wpAny_While ?_)
  have O4 : Own B s W s3 ((env.locals, .ns [("sequences", .ref l), ("result", .ref r)]) :: (l, .list (refs ps)) :: (cells ps ++ [(r, .list (cvs []))])) := O3.to (O3.h.perm (by
    refine (List.Perm.swap _ _ _).trans (List.Perm.cons _ ((List.Perm.swap _ _ _).trans (List.Perm.cons _ ?_)))
    exact (List.perm_append_singleton _ _).symm))
  refine whileM (W := W) (outer := outer) (mg := mg) (mb := mb) X.hd (by show A.frames.map _ = _; rw [X.fr]; rfl) Bs M X.fs X.out rfl hn (by simpa using hs) hc O4 (fun s' ys ht Oy => ?_) (fun s' e ht Z => ?_)
  · exact hok s' r ys ht hrW Oy
  · refine cameBack M.fr Z.fly fun h' f k => ?_
    have Z1 := Z.step (s' := { s' with heap := h' }) f k
    refine leaves M.fr f fun h'' f2 k2 => ?_
    exact hbad _ e ht (Z1.step (s' := { s' with heap := h'' }) f2 k2)
end
end C3
end

section
open PySem PySem.W PyProof.Rows
set_option maxRecDepth 100000
set_option linter.unusedVariables false
namespace C3
theorem putName_cls (name : Str) (h : Int) (key v : Value) (o : Obj) : (Obj.putName name h key v o).cls = o.cls := by
  obtain ⟨c, d, dt, sl⟩ := o
  rw [Obj.putName_eq]
  cases dt <;> first | rfl | (unfold Obj.putNameByArray; dsimp only; split <;> rfl)
/-- a name's write keeps the kind of the object -/
theorem nsSetC {M : Model} {A : Around} {E : Value → Shared → Prop} {s : Shared} {a : Addr} {m} {name : Str} {v : Value} {Q : Unit → Shared → Prop} {o : Obj} (hn : s.heap.Ns a m) (ho : s.heap.get? a = some o)
    (h : ∀ h' o', h'.Ns a (fun x => if x = name then some v else m x) → Heap.SameBut a s.heap h' → h'.get? a = some o' → o'.cls = o.cls → Q () { s with heap := h', toks := s.toks + 1 }) : wpAny M A (nsSet a name v) Q E s := fun Γ p hΓ => by
  have hn0 := hn
  obtain ⟨o1, es, ep, ho1, hd, hk, hm⟩ := hn0
  rw [ho] at ho1; cases ho1
  have hany : es.any (·.refKey) = false := by
    rw [Array.any_eq_false']; intro e he; obtain ⟨n, t, q⟩ := hk e he; simp [DictEntry.refKey, q]
  have key := Sem.wp_nsSet M Γ (fun e _ s' => E e s') p s hn name v (fun _ _ s' => s'.heap.Ns a (fun x => if x = name then some v else m x)) (fun h' x _ => x)
  simp only [nsSet, strHash, Sem.wp_bind', Sem.wp_cmd_ask, Sem.wp_pure', Sem.wp_cmd_mkText] at key ⊢
  rw [Sem.wp_loadPart_of M Γ (fun e _ s' => E e s') p { s with toks := s.toks + 1 } (o := o) _ ho] at key ⊢
  simp only [hd, aRefKeyMayBeTheName_eq, aRefKeyMayBeTheNameByArray, hany, Bool.and_false, Bool.false_eq_true, if_false, Sem.wp_cmd_updatePart] at key ⊢
  refine ⟨key.1, ?_⟩
  have hn' := key.2
  obtain ⟨o', es', ep', ho', hd', _⟩ := id hn'
  refine h _ o' hn' (Heap.SameBut.update ..) ho' ?_
  obtain ⟨e1, _⟩ := Heap.get?_some_iff.mp ho'
  obtain ⟨e2, _⟩ := Heap.get?_some_iff.mp ho
  simp only [Heap.update, Array.getElem?_modify, if_true] at e1
  rw [e2] at e1
  simp only [Option.map_some, Option.some.injEq] at e1
  rw [← e1]
  exact putName_cls _ _ _ _ _
end C3
end

section
open PySem PySem.W PyProof.Rows PySem.Calls Builtin Builtin.ObjectAttr Builtin.Getset_descriptor
set_option maxRecDepth 100000
set_option linter.unusedVariables false
namespace C3
section
variable {prog : Program} {w : World} {A : Around} {E : Value → Shared → Prop} {s₀ s : Shared} {B : Heap} {W : List Addr} {C : List (Addr × Cell)} {env : Env} {mg mb : Str → Option Value}
theorem OwnH.special {h₀ h h' : Heap} (O : OwnH B h₀ W h C) (hB : ∀ b, Spec b → B.get? b = none) (hx : ∀ b o, ¬ Spec b → h.get? b = some o → h'.get? b = some o) (st : Stat h') : OwnH B h₀ W h' C := by
  refine ⟨⟨fun b o e => hx b o (fun q => by rw [hB b q] at e; cases e) (O.gl.stays b o e), st⟩, fun p hp => ?_, O.nd, fun b o e x y => hx b o y (O.keep b o e x y), O.fresh, fun a ha => ?_⟩
  · obtain ⟨o, ho⟩ := p.2.there (O.at' p hp)
    exact p.2.at_congr ((hx _ _ (O.fresh p hp).2.2 ho).trans ho.symm) (O.at' p hp)
  · obtain ⟨o, ho⟩ := O.alive a ha
    by_cases q : Spec a
    · exact st.specs q
    · exact ⟨o, hx a o q ho⟩
theorem bases_find : ∀ k < 15, ((Manifest.find? (nm k)).elim [] (·.bases)).map Value.type = cvs (bases k) := by
  intro k hk
  rw [find?_eq_fast]
  rcases k with _ | _ | _ | _ | _ | _ | _ | _ | _ | _ | _ | _ | _ | _ | _ | k
  all_goals first | (exfalso; omega) | kernel_rfl
theorem bases_small : ∀ k < 15, (cvs (bases k)).length ≤ sizeLine := by
  intro k hk
  have : ∀ k < 15, (cvs (bases k)).length ≤ 2 := by decide +kernel
  have := this k hk
  rw [sizeLine_eq]; omega
theorem key_bases : ∀ k < 15, Str.ofString (toString "type." ++ toString "__bases__" ++ toString ":" ++ toString (nm k)) = bkey k := by
  intro k hk
  rcases k with _ | _ | _ | _ | _ | _ | _ | _ | _ | _ | _ | _ | _ | _ | _ | k
  all_goals first | (exfalso; omega) | kernel_rfl
theorem kept (Bs : Bas B mg mb) {k : Nat} (hk : k < 15) {Q : Fin → Shared → Prop} (O : Own B s₀ W s C) (h : ∀ s' t, Own B s₀ W s' C → IsTup s'.heap t (cvs (bases k)).toArray → Q (.done (.ret (.ref t))) s') :
    wpAny (model prog w) A (Builtin.«type.__bases__» ⟨[cv k], []⟩) Q E s := by
  obtain ⟨o, es, n, ho, hc, hd, hks, hf, ps, hp, hps⟩ := O.h.gl.stat
  have hn : s.heap.Ns cStatics (fun x => nsFind es x) := ⟨o, es, n, ho, hd, hks, fun _ => rfl⟩
  have hkey := key_bases k hk
  show wpAny _ _ (do
    if let some v ← nsGet cStatics (Str.ofString (toString "type." ++ toString "__bases__" ++ toString ":" ++ toString (nm k))) then return ← ret v
    let v ← newTuple (((Manifest.find? (nm k)).elim [] (·.bases)).map .type)
    nsSet cStatics (Str.ofString (toString "type." ++ toString "__bases__" ++ toString ":" ++ toString (nm k))) v
    ret v) Q E s
  rw [hkey, bases_find k hk]
  refine wpAny_bind (wpAny_nsGet hn ?_)
  cases e : nsFind es (bkey k) with
  | some v =>
    obtain ⟨j, t, hj, hkj, rfl, ht⟩ := hf _ _ e
    have : k = j := bkey_inj k hk j hj hkj
    subst this
    exact wpAny_bind (wpAny_pure (wpAny_pure (h s t O ht)))
  | none =>
    dsimp only
    refine wpAny_bind (wpAny_newTuple ?_ (bases_small k hk))
    have ht1 : IsTup (s.heap.push { cls := .type "tuple", data := .seq (cvs (bases k)).toArray }) s.heap.objs.size (cvs (bases k)).toArray := ⟨_, Heap.get?_push_size _ rfl, rfl, _, rfl⟩
    have O1 := O.h.pushAny { cls := .type "tuple", data := .seq (cvs (bases k)).toArray }
    have ho1 := Heap.get?_push_of_some { cls := .type "tuple", data := .seq (cvs (bases k)).toArray } ho
    refine wpAny_bind (nsSetC (s := { s with heap := s.heap.push { cls := .type "tuple", data := .seq (cvs (bases k)).toArray } }) (hn.push _) ho1 fun h' o' hn' hs' ho' hc' => wpAny_pure ?_)
    have tup : ∀ t its, IsTup (s.heap.push { cls := .type "tuple", data := .seq (cvs (bases k)).toArray }) t its → IsTup h' t its := fun t its ⟨ot, hot, r⟩ => by
      refine ⟨ot, hs'.extBut t ot (fun q => ?_) hot, r⟩
      subst q
      rw [ho1] at hot; cases hot
      obtain ⟨_, _, r2⟩ := r
      rw [hd] at r2; cases r2
    refine h _ _ (O.to (O1.special Bs.st (fun b o hb e => hs'.extBut b o (fun q => hb (.inl q)) e) ?_)) (tup _ _ ht1)
    obtain ⟨o2, es2, n2, ho2, hd2, hks2, hf2⟩ := hn'
    rw [ho'] at ho2; cases ho2
    refine ⟨_, es2, n2, ho', hc'.trans hc, hd2, hks2, fun key v e2 => ?_, ps, hs'.extBut _ _ (by decide) (Heap.get?_push_of_some _ hp), hps⟩
    rw [hf2] at e2
    dsimp only at e2
    split at e2
    · rename_i q
      cases e2
      exact ⟨k, _, hk, q, rfl, tup _ _ ht1⟩
    · obtain ⟨j, t, a, b, c, d⟩ := hf _ _ e2
      exact ⟨j, t, a, b, c, tup _ _ (d.push _)⟩
theorem bs_entry : entryFor table "type.__bases__" = some Builtin.«type.__bases__» := entryFor_of_tree (by kernel_rfl)
theorem bs_type : typeOf (.builtin "type.__bases__") = pure (.type "getset_descriptor") := by show builtinType _ = _; rw [builtinType_eq_fast]; kernel_rfl
theorem bs_owner : descrOwnerAndName "type.__bases__" = ("type", "__bases__") := by decide +kernel
theorem type_cv : ∀ k < 15, typeOf (cv k) = pure (.type "type") := by
  intro k hk
  rcases k with _ | _ | _ | _ | _ | _ | _ | _ | _ | _ | _ | _ | _ | _ | _ | k
  all_goals first | (exfalso; omega) | kernel_rfl
theorem bs_get (Bs : Bas B mg mb) {k : Nat} (hk : k < 15) {R : Result → Shared → Prop} (O : Own B s₀ W s C) (h : ∀ s' t, Own B s₀ W s' C → IsTup s'.heap t (cvs (bases k)).toArray → R (.ok (.ret (.ref t))) s') :
    codeAny (model prog w) A (.call (.builtin "getset_descriptor.__get__") ⟨[.builtin "type.__bases__", cv k, .type "type"], []⟩) R s := by
  have dga : descrGetArgs ⟨[.builtin "type.__bases__", cv k, .type "type"], []⟩ = pure (.builtin "type.__bases__", some (cv k), some (.type "type")) := by kernel_rfl
  have goal2 : ∀ A', wpAny (model prog w) A' (Builtin.«type.__bases__» ⟨[cv k], []⟩) (fun fin s' => match fin with | .done f => R (.ok f) s' | .again c' => c'.quiet = true ∧ codeAny (model prog w) A c' R s') (fun e s' => R (.error e) s') s :=
    fun A' => kept Bs hk O h
  obtain ⟨hh, g, dr, t, os⟩ := s
  have L0 : Looks (model prog w) hh (typeOf (cv k)) (.type "type") := Looks.of_pure (type_cv k hk)
  have L1 : Looks (model prog w) hh (isSubtype (.type "type") (.type "type")) true := Looks.of_pure (by rw [isSubtype_type]; kernel_rfl)
  refine codeAny_call_builtin KF.slot_gs.plain KF.entry_gs (KF.slot_gs.check _ _ _ _ _ _ _ _ bs_type (KF.args_gs _ _ _) ?_)
  unfold Builtin.«getset_descriptor.__get__» descrGet
  rw [dga]
  refine wpAny_bind (wpAny_pure ?_)
  unfold descrGetter descrCheckInstance descrNameAndClass isInstance
  simp only [bs_owner]
  repeat lk
  exact ⟨Code.quiet_builtin _ (by decide +kernel), codeAny_builtin bs_entry (goal2 _)⟩
theorem in_nil {h : Heap} : Frag.In [] h := fun _ _ e => by cases e
theorem find_bases : ∀ k < 15, findCls [] (cv k) (.type "type") "__bases__" = some (.get (.builtin "getset_descriptor.__get__") (.builtin "type.__bases__") (cv k) (.type "type")) := by
  intro k hk
  rcases k with _ | _ | _ | _ | _ | _ | _ | _ | _ | _ | _ | _ | _ | _ | _ | k
  all_goals first | (exfalso; omega) | kernel_rfl
theorem stub_cv : ∀ k < 15, Manifest.isStub (nm k) = false := by
  intro k hk
  rcases k with _ | _ | _ | _ | _ | _ | _ | _ | _ | _ | _ | _ | _ | _ | _ | k
  all_goals first | (exfalso; omega) | kernel_rfl | decide +kernel
/-- cls.__bases__ -/
theorem basesAttr (Bs : Bas B mg mb) {k : Nat} (hk : k < 15) {expr : Bool} {Q : Value → Shared → Prop} (O : Own B s₀ W s C) (h : ∀ s' t, Own B s₀ W s' C → IsTup s'.heap t (cvs (bases k)).toArray → Q (.ref t) s') :
    wpAny (model prog w) A (getAttr (cv k) "__bases__" expr) Q E s := by
  have hstub : opaqueClassAbove (cv k) = pure none := by unfold opaqueClassAbove cv; dsimp only; rw [stub_cv k hk]; rfl
  have L0 : Looks (model prog w) s.heap (typeOf (cv k)) (.type "type") := Looks.of_pure (type_cv k hk)
  have LO : Looks (model prog w) s.heap (opaqueClassAbove (cv k)) none := Looks.of_pure hstub
  have hg : findIn [] (.type "type") "__getattribute__" = some (some (.builtin "type.__getattribute__")) := type_tga
  refine cls_open in_nil LO L0 hg (looks_hook in_nil (r := none) (by rfl)) (by show subIn [] _ _ = _; rfl) (find_bases k hk) ?_
  show wpAny _ _ (do ret (← holding [Value.builtin "type.__bases__"] (call (.builtin "getset_descriptor.__get__") [.builtin "type.__bases__", cv k, .type "type"]))) _ _ _
  have O1 : Own B s₀ W { s with toks := s.toks + 1 } C := O.same
  refine wpAny_bind (wpAny_holding (wpAny_call (bs_get Bs hk O1 fun s' t O' ht => ?_)))
  exact wpAny_pure (handed_on rfl (h _ _ O' ht))
end
end C3
end

section
open PySem PySem.W PyProof.Rows PySem.W.X PySem.W.XRun
set_option maxRecDepth 100000
set_option maxHeartbeats 4000000
set_option linter.unusedVariables false
namespace C3
/- reversed(a tuple) -/
theorem owner_rev : Manifest.owners.lookup (String.ofList ['d', 'e', 's', 'r', 'e', 'v', 'e', 'r'].reverse) = some Manifest.sig_reversed := by kernel_rfl
theorem slot_rev_next : Slot "reversed" "__next__" "reversed.__next__" :=
  .of (owner := "reversed") (n := "__next__") (by rw [typeLookup_type, builtinLookup_eq_fast]; kernel_rfl) (by decide +kernel) (by decide +kernel) (by decide +kernel)
    (by first | exact .inl (by decide +kernel) | exact .inr (by decide +kernel)) (by rw [isSubtype_type]; kernel_rfl)
theorem entry_rev_next : entryFor table "reversed.__next__" = some Builtin.«reversed.__next__» := entryFor_of_tree (by kernel_rfl)
theorem args_rev_next (a : Value) : argsOk "reversed.__next__" ⟨[a], []⟩ := by
  first
    | (unfold argsOk; rw [signature?_of (id := "reversed.__next__") (n := ['_', '_', 't', 'x', 'e', 'n', '_', '_']) (o := ['d', 'e', 's', 'r', 'e', 'v', 'e', 'r']) (by kernel_rfl) owner_rev]; kernel_rfl)
    | (unfold argsOk; kernel_rfl)
def IsRev (h : Heap) (it t : Addr) (j : Int) : Prop := h.get? it = some { cls := .type "reversed", data := .fields #[.ref t, .int j 0] }
section
variable {prog : Program} {w : World} {A : Around} {E : Value → Shared → Prop} {s : Shared}
theorem rev_item {it t : Addr} {its : Array Value} {j : Nat} {v : Value} {Q : Value → Shared → Prop} (hr : IsRev s.heap it t j) (ht : IsTup s.heap t its) (hj : its[j]? = some v) (hsz : its.size ≤ 2)
    (h : ∀ h' tk, IsRev h' it t ((j : Int) - 1) → Heap.SameBut it s.heap h' → Q v { s with heap := h', toks := tk }) : wpAny (model prog w) A (Builtin.SmallTypes.nextOf (.ref it)) Q E s := by
  have hT : s.TypeIs (.ref it) "reversed" := ⟨_, hr, rfl⟩
  have hlt : j < its.size := (Array.getElem?_eq_some_iff.mp hj).1
  unfold Builtin.SmallTypes.nextOf
  refine wpAny_bind (wpAny_callSpecial?_slot (name := Str.ofString "__next__") hT slot_rev_next (wpAny_call_entry slot_rev_next hT entry_rev_next ?_ (args_rev_next _)))
  show wpAny _ _ (field (.ref it) 0 >>= _) _ _ s
  refine wpAny_bind (wpAny_field hr rfl (x := .ref t) rfl ?_)
  show wpAny _ _ (field (.ref it) 1 >>= _) _ _ s
  refine wpAny_bind (wpAny_field hr rfl (x := .int j 0) rfl ?_)
  dsimp only
  rw [if_neg (by omega)]
  refine wpAny_bind (wpAny_specialOf ht.typeIs F.slot_tuple_getitem.lookup ?_)
  show wpAny _ _ (mkInt j >>= _) _ _ s
  refine wpAny_bind (wpAny_mkInt ?_)
  refine wpAny_bind (wpAny_attempt (getItem_tuple (k := j) (x := v) (j := j) ht (by omega) (by omega) ?_ ?_ ?_))
  · unfold seqIndex?
    simp; omega
  · exact hj
  refine wpAny_bind (wpAny_field (s := { s with toks := s.toks + 1 }) hr rfl (x := .int j 0) rfl ?_)
  refine wpAny_bind (wpAny_setField_rec (s := { s with toks := s.toks + 1 }) hr (by simp) fun h' hr' hs' => ?_)
  exact wpAny_pure ⟨_, rfl, wpAny_pure (h h' _ hr' hs')⟩
theorem rev_end {it t : Addr} {Q : Value → Shared → Prop} (hh : A.handled = none) (hr : IsRev s.heap it t (-1))
    (hE : ∀ h' e, Heap.ExtBut it s.heap h' → (∃ o, h'.get? e = some o ∧ o.cls = .type "StopIteration") → E (.ref e) { s with heap := h' }) : wpAny (model prog w) A (Builtin.SmallTypes.nextOf (.ref it)) Q E s := by
  have hT : s.TypeIs (.ref it) "reversed" := ⟨_, hr, rfl⟩
  unfold Builtin.SmallTypes.nextOf
  refine wpAny_bind (wpAny_callSpecial?_slot (name := Str.ofString "__next__") hT slot_rev_next (wpAny_call_entry slot_rev_next hT entry_rev_next ?_ (args_rev_next _)))
  show wpAny _ _ (field (.ref it) 0 >>= _) _ _ s
  refine wpAny_bind (wpAny_field hr rfl (x := .ref t) rfl ?_)
  show wpAny _ _ (field (.ref it) 1 >>= _) _ _ s
  refine wpAny_bind (wpAny_field hr rfl (x := .int (-1) 0) rfl ?_)
  dsimp only
  rw [if_pos (by omega)]
  refine wpAny_bind (wpAny_rule ?_)
  show wpAny _ _ ((do setField (.ref it) 1 (rawInt (-1)); setField (.ref it) 0 .none) >>= _) _ _ s
  refine wpAny_bind (wpAny_bind (wpAny_setField_rec hr (by simp) fun h1 hr1 hs1 => wpAny_setField_rec hr1 (by simp) fun h2 hr2 hs2 => ?_))
  unfold Builtin.SmallTypes.stopIteration
  refine wpAny_bind (wpAny_bind ?_)
  simp only [newExc, newTuple]
  refine wpAny_bind (wpAny_newObj_type ?_ (by size_fits))
  refine wpAny_bind (m := firstArgMember _ _) (wpAny_of_eq (a := Value.none) (by first | rfl | (simp only [firstArgMember]; rfl)) ?_)
  refine wpAny_newObj_type ?_ (by size_fits)
  simp only [raiseNew]
  refine wpAny_bind (wpAny_handled ?_)
  first | rw [show A.in1.handled = none from hh] | rw [hh]
  refine wpAny_bind (wpAny_pure (wpAny_throw ?_))
  exact hE _ _ (((hs1.trans hs2).extBut.push _).push _) ⟨_, Heap.get?_push_size _ rfl, rfl⟩
/-- what enumerate draws from reversed(a tuple) -/
theorem revDraws (hh : A.handled = none) (it t : Addr) (its : Array Value) (hsz : its.size ≤ 2) (hne : it ≠ t) :
    Draws prog w A it [it, t] its.size (fun i v => its[its.size - 1 - i]? = some v) (fun i h => IsRev h it t ((its.size : Int) - 1 - i) ∧ IsTup h t its) where
  live := fun i h st => ⟨_, st.1⟩
  frame := fun i h h' st hk => ⟨hk it (by simp) _ st.1, let ⟨o, ho, r⟩ := st.2; ⟨o, hk t (by simp) o ho, r⟩⟩
  item := fun i s Q E hi st hQ => by
    have hlt : its.size - 1 - i < its.size := by omega
    obtain ⟨hr, ht⟩ := st
    have e : (its.size : Int) - 1 - i = ((its.size - 1 - i : Nat) : Int) := by omega
    rw [e] at hr
    refine rev_item hr ht (Array.getElem?_eq_getElem hlt) hsz fun h' tk hr' hs' => hQ _ h' tk (Array.getElem?_eq_getElem hlt) ⟨?_, ?_⟩ hs'
    · have e2 : (its.size : Int) - 1 - (i + 1 : Nat) = ((its.size - 1 - i : Nat) : Int) - 1 := by omega
      rw [e2]; exact hr'
    · obtain ⟨o, ho, r⟩ := ht
      exact ⟨o, (hs'.2 t (Ne.symm hne)).trans ho, r⟩
  done := fun s Q E st hE => by
    obtain ⟨hr, ht⟩ := st
    have e : (its.size : Int) - 1 - its.size = -1 := by omega
    rw [e] at hr
    exact rev_end hh hr hE
end
end C3
end

section
open PySem PySem.W PyProof.Rows PySem.W.X PySem.W.XRun
set_option maxRecDepth 100000
set_option maxHeartbeats 4000000
set_option linter.unusedVariables false
namespace C3
/- built-in calls that make one object or none -/
theorem mem_keep {h0 h : Heap} {news : List (Addr × Obj)} (D : Mem h0 h [] news) : ∀ b o, h0.get? b = some o → h.get? b = some o := fun b o e => D.keep b o e (by simp [away])
def MadeOne (s : Shared) (P : Addr → Obj → Prop) (v : Value) (s' : Shared) : Prop :=
  ∃ a o, v = .ref a ∧ s'.heap.get? a = some o ∧ P a o ∧ s.heap.get? a = none ∧ (∀ b o, s.heap.get? b = some o → s'.heap.get? b = some o) ∧ s'.os = s.os ∧ s'.gens = s.gens
theorem madeOne {s : Shared} {P : Addr → Obj → Prop} {a : Addr} {o : Obj} {h : Heap} {tk : Nat} {d : Drawn} {rest : List (Addr × Obj)} (D : Mem s.heap h [] ((a, o) :: rest)) (p : P a o) : MadeOne s P (.ref a) { heap := h, gens := s.gens, drawn := d, toks := tk, os := s.os } :=
  ⟨a, o, rfl, (D.nw _ (.head _)).1, p, (D.nw _ (.head _)).2, mem_keep D, rfl, rfl⟩
def MadeNone (s : Shared) (r v : Value) (s' : Shared) : Prop := v = r ∧ (∀ b o, s.heap.get? b = some o → s'.heap.get? b = some o) ∧ s'.os = s.os ∧ s'.gens = s.gens
theorem madeNone {s : Shared} {r : Value} {h : Heap} {tk : Nat} {d : Drawn} {news : List (Addr × Obj)} (D : Mem s.heap h [] news) : MadeNone s r r { heap := h, gens := s.gens, drawn := d, toks := tk, os := s.os } :=
  ⟨rfl, mem_keep D, rfl, rfl⟩
theorem madeNone0 {s : Shared} {r : Value} {tk : Nat} {d : Drawn} : MadeNone s r r { heap := s.heap, gens := s.gens, drawn := d, toks := tk, os := s.os } := ⟨rfl, fun _ _ e => e, rfl, rfl⟩
local macro_rules | `(tactic| x_close) => `(tactic| first
  | exact madeNone0 | exact madeNone (by assumption) | exact madeOne (by assumption) rfl | exact madeOne (by assumption) ⟨rfl, rfl⟩
  | (trace_state; fail "open_x stops: an end that is not True"))
section
variable {prog : Program} {w : World} {E : Value → Shared → Prop} {s : Shared} {d u : Nat} {fr : Option (List Env)} {g : Option (List Code)}
theorem revX {t : Addr} {its : Array Value} {di n sl} (hsz : its.size ≤ 2) (ht : s.heap.get? t = some ⟨.type "tuple", di, .seq its n, sl⟩) :
    wpAny (model prog w) ⟨none, d, fr, g, u⟩ (call (.type "reversed") [.ref t]) (MadeOne s fun _ o => o = { cls := .type "reversed", data := .fields #[.ref t, .int ((its.size : Int) - 1) 0] }) E s := by
  x_run
theorem enumX {r : Addr} {x y : Value} (hr : s.heap.get? r = some { cls := .type "reversed", data := .fields #[x, y] }) :
    wpAny (model prog w) ⟨none, d, fr, g, u⟩ (call (.type "enumerate") [.ref r]) (MadeOne s fun _ o => o = { cls := .type "enumerate", data := .fields #[.none, .bool false, .ref r, .int 0 0, .none, .none] }) E s := by
  x_run
end
section
variable {prog : Program} {w : World} {E : Value → Shared → Prop} {s : Shared} {d u : Nat} {fr : Option (List Env)} {g : Option (List Code)}
theorem hasX (k : Nat) (hk : k < 15) (t : Tok) : wpAny (model prog w) ⟨none, d, fr, g, u⟩ (call (.builtin "hasattr") [cv k, .str "__abstractmethods__" t]) (MadeNone s (.bool false)) E s := by
  rcases k with _ | _ | _ | _ | _ | _ | _ | _ | _ | _ | _ | _ | _ | _ | _ | k
  all_goals first | (exfalso; omega) | skip
  all_goals (unfold cv nm; x_run)
end
end C3
end

section
open PySem PySem.W PyProof.Rows
set_option maxRecDepth 100000
set_option maxHeartbeats 4000000
set_option linter.unusedVariables false
namespace C3
theorem kind_isub : builtinKind "issubclass" = none := by decide +kernel
theorem plain_isub : plainId "issubclass" = true := by decide +kernel
theorem entry_isub : entryFor table "issubclass" = some Builtin.«issubclass» := entryFor_of_tree (by kernel_rfl)
theorem entry_isub_nested : entryFor table "issubclass.nested" = some Builtin.«issubclass.nested» := entryFor_of_tree (by kernel_rfl)
theorem args_isub (a b : Value) : argsOk "issubclass" ⟨[a, b], []⟩ := by unfold argsOk; kernel_rfl
theorem mro_nm : ∀ k < 15, fastBuiltinMro (nm k) = some (cvs (way k)) := by
  intro k hk
  rcases k with _ | _ | _ | _ | _ | _ | _ | _ | _ | _ | _ | _ | _ | _ | _ | k
  all_goals first | (exfalso; omega) | kernel_rfl
theorem cvs_contains {c : Nat} (hc : c < 15) {ks : List Nat} (hks : ∀ k ∈ ks, k < 15) : (cvs ks).contains (cv c) = ks.contains c := by
  rw [Bool.eq_iff_iff, List.contains_iff_mem, List.contains_iff_mem]
  unfold cvs
  rw [List.mem_map]
  constructor
  · rintro ⟨k, hk, e⟩
    have : (cv k == cv c) = true := by rw [e]; simp
    rw [cv_eq (hks k hk) hc, beq_iff_eq] at this
    exact this ▸ hk
  · intro h; exact ⟨c, h, rfl⟩
theorem sub_cv {i j : Nat} (hi : i < 15) (hj : j < 15) : isSubtype (cv i) (cv j) = pure ((way i).contains j) := by
  unfold cv
  rw [isSubtype_type, mro_nm i hi]
  show pure ((cvs (way i)).contains (cv j)) = _
  rw [cvs_contains hj (way_lt i hi)]
section
variable {prog : Program} {w : World} {A : Around} {E : Value → Shared → Prop} {s : Shared}
theorem isub_nested {i j : Nat} (hi : i < 15) (hj : j < 15) {Q : Fin → Shared → Prop} {tk : Tok} (hq : Q (.done (.ret (.bool ((way i).contains j)))) s) : wpAny (model prog w) A (Builtin.«issubclass.nested» ⟨[cv i, cv j, .int 0 tk], []⟩) Q E s := by
  obtain ⟨h, g, d, t, os⟩ := s
  have h1 := type_cv i hi
  have h2 := type_cv j hj
  have h3 := sub_cv hi hj
  have L1 : Looks (model prog w) h (typeOf (cv i)) (.type "type") := Looks.of_pure h1
  have L2 : Looks (model prog w) h (typeOf (cv j)) (.type "type") := Looks.of_pure h2
  have L3 : Looks (model prog w) h (isSubtype (cv i) (cv j)) ((way i).contains j) := Looks.of_pure h3
  have L4 : Looks (model prog w) h (isSubtype (.type "type") (.type "type")) true := Looks.of_pure (by rw [isSubtype_type]; kernel_rfl)
  unfold Builtin.«issubclass.nested»
  refine wpAny_bind (L2.at ?_)
  rw [if_pos (by decide)]
  repeat lk
  exact hq
theorem isub {i j : Nat} (hi : i < 15) (hj : j < 15) {Q : Value → Shared → Prop} (hq : Q (.bool ((way i).contains j)) s) : wpAny (model prog w) A (call (.builtin "issubclass") [cv i, cv j]) Q E s := by
  refine call_function_meets kind_isub plain_isub entry_isub (args_isub _ _) (S := fun A R s => R (.ok (.ret (.bool ((way i).contains j)))) s) (fun prog w A R s hs => ?_) hq
  obtain ⟨h, g, d, t, os⟩ := s
  unfold Builtin.«issubclass»
  repeat lk
  exact ⟨Code.quiet_builtin _ (by decide +kernel), codeAny_builtin entry_isub_nested (isub_nested hi hj hs)⟩
end
end C3
end

section
open PySem PySem.W PyProof.Rows
set_option maxRecDepth 100000
set_option linter.unusedVariables false
namespace C3
section
variable {prog : Program} {w : World} {A : Around} {E : Value → Shared → Prop} {s : Shared} {env : Env}
theorem sub_go {value slice : Expr} {o i : Value} {T id : String} {ops : List Value} {Q : Value → Shared → Prop} (hT : s.TypeIs o T) (hl : typeLookup (.type T) "__getitem__" = pure (some (.builtin id)))
    (h : wpAny (model prog w) A (getItem o i) Q E s) (hs : subscripted slice false o i = operate ops (getItem o i)) : wpAny (model prog w) A (subscriptTail value slice o i) Q E s := by
  unfold subscriptTail
  refine wpAny_bind ?_
  rw [getitemInPython_of_ne hT.not_modules]
  refine wpAny_bind (wpAny_specialOf hT hl ?_)
  have fin : wpAny (model prog w) A (subscripted slice false o i) (fun r s₃ => wpAny (model prog w) A (letTemporaryGo value o r >>= fun _ => pure r) Q E s₃) E s := by
    rw [hs]
    exact wpAny_operating (wpAny_mono h (fun r s₃ h₃ => wpAny_bind (wpAny_letTemporaryGo (wpAny_pure h₃))) fun _ _ x => x)
  first
    | exact wpAny_pure (wpAny_bind fin)
    | exact wpAny_bind (wpAny_pure (wpAny_bind fin))
    | exact wpAny_bind fin
/-- a part of a tuple: the answer's items, known by what the slice says -/
theorem tupPart {t sl : Addr} {its : Array Value} {vl vu : Value} {lo : Int} {c : Nat} {Q : Value → Shared → Prop} (ht : IsTup s.heap t its) (hs : s.heap.IsSliceOf sl vl vu .none) (hsz : its.size ≤ 2)
    (happ : ∀ A (Q : Int × Int × Nat → Shared → Prop) E, Q (lo, 1, c) s → wpAny (model prog w) A (Builtin.Slice.sliceApplied (.ref sl) (pure (its.size : Int))) Q E s)
    {out : List Value} (hout : ((List.range c).filterMap fun (k : Nat) => its[(lo + (k : Int) * 1).toNat]?) = out) (hsame : lo = 0 → c = its.size → out.toArray = its) (hlen : out.length ≤ 2)
    (h : ∀ h' a, IsTup h' a out.toArray → (∀ b o, s.heap.get? b = some o → h'.get? b = some o) → Q (.ref a) { s with heap := h' }) : wpAny (model prog w) A (getItem (.ref t) (.ref sl)) Q E s := by
  obtain ⟨os, hos, hcs, hds⟩ := id hs
  have hTs : s.TypeIs (.ref sl) "slice" := ⟨os, hos, hcs⟩
  unfold getItem
  try with_reducible refine wpAny_holding ?_
  first | refine wpAny_bind (wpAny_pure ?_) | skip
  refine wpAny_bind (wpAny_sequenceKey ht.typeIs (by decide) ?_)
  refine wpAny_bind (wpAny_callSpecial?_slot (name := Str.ofString "__getitem__") ht.typeIs F.slot_tuple_getitem (wpAny_call_entry F.slot_tuple_getitem ht.typeIs F.entry_tuple_getitem ?_ (F.args_tuple_getitem_2 _ _)))
  show wpAny _ _ (Builtin.Tuple.tupleItemsOf (.ref t) >>= _) _ _ s
  refine wpAny_bind (tupleItemsOf_ ht ?_)
  refine wpAny_bind (wpAny_typeOf hTs ?_)
  rw [if_pos (by decide)]
  refine wpAny_bind (happ _ _ _ ?_)
  dsimp only
  by_cases q : (lo == 0 && (1 : Int) == 1 && c == its.size) = true
  · rw [if_pos q]
    simp only [Bool.and_eq_true, beq_iff_eq] at q
    have := hsame q.1.1 q.2
    obtain ⟨ot, hot, hct, nt, hdt⟩ := id ht
    unfold Builtin.Tuple.tupleIsExact
    refine wpAny_bind (wpAny_bind (wpAny_typeOf ht.typeIs (wpAny_pure ?_)))
    rw [if_pos (by decide)]
    refine wpAny_bind (wpAny_rule ?_)
    have fin := h s.heap t (by rw [this]; exact ht) fun _ _ e => e
    first
      | exact wpAny_bind (wpAny_pure (wpAny_pure ⟨_, rfl, wpAny_pure fin⟩))
      | exact wpAny_bind (wpAny_pure ⟨_, rfl, wpAny_pure fin⟩)
      | exact wpAny_pure ⟨_, rfl, wpAny_pure fin⟩
  · rw [if_neg q, hout]
    have hz : sizeOk (.seq out.toArray) := by
      show out.toArray.size ≤ sizeLine
      rw [List.size_toArray, sizeLine_eq]; omega
    have fin := h (s.heap.push { cls := .type "tuple", data := .seq out.toArray }) s.heap.objs.size ⟨_, Heap.get?_push_size _ rfl, rfl, _, rfl⟩ fun b o e => Heap.get?_push_of_some _ e
    first
      | exact wpAny_bind (m := Builtin.Tuple.tupleExact _) (wpAny_newObj_type (wpAny_pure ⟨_, rfl, wpAny_pure fin⟩) hz)
      | exact wpAny_bind (m := Builtin.Tuple.tupleExact _) (wpAny_newObj_type (wpAny_bind (wpAny_pure (wpAny_pure ⟨_, rfl, wpAny_pure fin⟩))) hz)
      | exact wpAny_bind (wpAny_bind (m := Builtin.Tuple.tupleExact _) (wpAny_newObj_type (wpAny_pure (wpAny_pure ⟨_, rfl, wpAny_pure fin⟩)) hz))
      | exact wpAny_bind (wpAny_bind (m := Builtin.Tuple.tupleExact _) (wpAny_newObj_type (wpAny_pure ⟨_, rfl, wpAny_pure fin⟩) hz))
theorem part_adj {sl : Addr} {vl vu : Value} {a b : Option Int} {n : Nat} {lo hi : Int} {Q : Int × Int × Nat → Shared → Prop} (hs : s.heap.IsSliceOf sl vl vu .none)
    (hl : ∀ (Q : Option Int → Shared → Prop), Q a s → wpAny (model prog w) A (Builtin.Slice.slicePartIndex vl) Q E s) (hu : ∀ (Q : Option Int → Shared → Prop), Q b s → wpAny (model prog w) A (Builtin.Slice.slicePartIndex vu) Q E s)
    (hadj : Builtin.Slice.sliceAdjust a b 1 (n : Int) = (lo, hi)) (h : Q (lo, 1, Builtin.Slice.slicePlaces lo hi 1) s) : wpAny (model prog w) A (Builtin.Slice.sliceApplied (.ref sl) (pure (n : Int))) Q E s := by
  obtain ⟨os, hos, hcs, hds⟩ := id hs
  unfold Builtin.Slice.sliceApplied Builtin.Slice.sliceFields
  refine wpAny_bind (wpAny_bind (wpAny_field hos hds (x := vl) rfl (wpAny_bind (wpAny_field hos hds (x := vu) rfl (wpAny_bind (wpAny_field hos hds (x := .none) rfl (wpAny_pure ?_)))))))
  refine wpAny_bind (slicePart_none ?_)
  show wpAny _ _ (if ((1 : Int) == 0) = true then _ else _) _ _ s
  rw [if_neg (by decide)]
  refine wpAny_bind (hl _ (wpAny_bind (hu _ (wpAny_bind (wpAny_pure ?_)))))
  show wpAny _ _ (match Builtin.Slice.sliceAdjust a b 1 (n : Int) with | (lo, hi) => pure (lo, (1 : Int), Builtin.Slice.slicePlaces lo hi 1)) _ _ s
  rw [hadj]
  exact wpAny_pure h
/-- t[:0] -/
theorem tupTo0 {t sl : Addr} {its : Array Value} {u : Tok} {Q : Value → Shared → Prop} (ht : IsTup s.heap t its) (hs : s.heap.IsSliceOf sl .none (.int 0 u) .none) (hsz : its.size ≤ 2)
    (h : ∀ h' a, IsTup h' a #[] → (∀ b o, s.heap.get? b = some o → h'.get? b = some o) → Q (.ref a) { s with heap := h' }) : wpAny (model prog w) A (getItem (.ref t) (.ref sl)) Q E s := by
  refine tupPart (lo := 0) (c := 0) (out := []) ht hs hsz (fun A Q E hq => part_adj hs (a := none) (b := some 0) (hi := 0) (fun Q hq => slicePart_none hq) (fun Q hq => slicePart_int hq) ?_ hq) rfl (fun _ e => ?_) (by simp) h
  · unfold Builtin.Slice.sliceAdjust
    simp only [show ¬ ((1 : Int) < 0) from by omega, show ¬ ((0 : Int) < 0) from by omega, if_false]
    congr 1
  · exact (Array.eq_empty_of_size_eq_zero e.symm).symm
/-- t[0:] -/
theorem tupFrom0 {t sl : Addr} {its : Array Value} {u : Tok} {Q : Value → Shared → Prop} (ht : IsTup s.heap t its) (hs : s.heap.IsSliceOf sl (.int 0 u) .none .none) (hsz : its.size ≤ 2)
    (h : ∀ h' a, IsTup h' a its → (∀ b o, s.heap.get? b = some o → h'.get? b = some o) → Q (.ref a) { s with heap := h' }) : wpAny (model prog w) A (getItem (.ref t) (.ref sl)) Q E s := by
  have hpl : Builtin.Slice.slicePlaces 0 (its.size : Int) 1 = its.size := by
    unfold Builtin.Slice.slicePlaces
    simp only [show (1 : Int) > 0 from by omega, if_true, Int.ediv_one]
    split <;> omega
  have e : ((List.range its.size).filterMap fun (k : Nat) => its[((0 : Int) + (k : Int) * 1).toNat]?) = its.toList := by
    have e1 : (fun (k : Nat) => its[((0 : Int) + (k : Int) * 1).toNat]?) = fun k => its[k]? := by
      funext k
      have : ((0 : Int) + (k : Int) * 1).toNat = k := by omega
      rw [this]
    rw [e1]
    have := pick_run its 0 its.size
    rw [List.filterMap_map] at this
    have e2 : ((fun x => its[x]?) ∘ fun x => 0 + x) = fun k => its[k]? := by funext k; simp
    rw [e2] at this
    rw [this, List.drop_zero]; exact List.take_of_length_le (by simp)
  refine tupPart (lo := 0) (c := its.size) (out := its.toList) ht hs hsz (fun A Q E hq => part_adj hs (a := some 0) (b := none) (hi := its.size) (fun Q hq => slicePart_int hq) (fun Q hq => slicePart_none hq) ?_ (by rw [hpl]; exact hq)) e
    (fun _ _ => by simp) (by simpa using hsz) (by simpa using h)
  unfold Builtin.Slice.sliceAdjust
  simp only [show ¬ ((1 : Int) < 0) from by omega, show ¬ ((0 : Int) < 0) from by omega, if_false]
  congr 1
end
end C3
end

section
open PySem PySem.W PyProof.Rows
set_option maxRecDepth 100000
set_option linter.unusedVariables false
namespace C3
def mroFn : Stmt := fnAt 2
def mroBody : List Stmt := bodyOf mroFn
def rFor1 : Stmt := nth mroBody 0
def rFor2 : Stmt := nth mroBody 5
def rFor3 : Stmt := nth mroBody 6
structure MroEnv (env : Env) (cA cB : Addr) : Prop extends Fenv env where
  loc : ∀ x ∈ (["cls", "i", "boundary", "explicit_bases", "abstract_bases", "other_bases", "explicit_c3_mros", "abstract_c3_mros", "other_c3_mros"] : List Str), env.kindOf x = some .local
  glo : ∀ x ∈ (["enumerate", "reversed", "hasattr", "len", "list", "issubclass", "any", "_c3_merge"] : List Str), env.kindOf x = some .globalImplicit
  abcs : env.kindOf "abcs" = some .cell
  base : env.kindOf "base" = some .cell
  ca : env.cells.lookup (Str.ofString "abcs") = some cA
  cb : env.cells.lookup (Str.ofString "base") = some cB
section
variable {prog : Program} {w : World} {A : Around} {E : Value → Shared → Prop} {s₀ s s' : Shared} {B : Heap} {W : List Addr} {C D : List (Addr × Cell)} {env : Env} {mg mb : Str → Option Value} {R : Result → Shared → Prop} {cA cB : Addr}
/-- some of the ledger's objects changed at once -/
theorem OwnH.change {h₀ h h' : Heap} {V : List Addr} {C' : List (Addr × Cell)} (O : OwnH B h₀ W h C) (hV : ∀ a ∈ V, a ∈ C.map (·.1)) (hx : ∀ b o, b ∉ V → h.get? b = some o → h'.get? b = some o)
    (hn : C'.map (·.1) = C.map (·.1)) (hat : ∀ p ∈ C', (p ∈ C ∧ p.1 ∉ V) ∨ p.2.At h' p.1) : OwnH B h₀ W h' C' := by
  have inC : ∀ a ∈ V, ∃ c, (a, c) ∈ C := fun a ha => by obtain ⟨p, hp, rfl⟩ := List.mem_map.mp (hV a ha); exact ⟨p.2, hp⟩
  have nV2 : ∀ b, Spec b → b ∉ V := fun b hb z => by obtain ⟨c, hc⟩ := inC _ z; exact (O.fresh _ hc).2.2 hb
  refine O.after (V := V) ⟨fun b o e => hx b o (fun z => ?_) (O.gl.stays b o e), O.gl.stat.step (fun b o hb e => hx b o (nV2 b hb) e) fun t its q => ?_⟩ (fun b o e x y => hx b o x e) hV hn hat
  · obtain ⟨c, hc⟩ := inC _ z
    rw [(O.fresh _ hc).2.1] at e; cases e
  · obtain ⟨ot, hot, rt⟩ := q
    refine ⟨ot, hx t ot (fun z => ?_) hot, rt⟩
    obtain ⟨c, hc⟩ := inC _ z
    exact c.notTup (O.at' _ hc) ⟨ot, hot, rt⟩
theorem Own.restart (O : Own B s₀ W s C) : Own B s (C.map (·.1)) s C := ⟨OwnH.start O.h.gl O.h.at' O.h.nd fun p hp => (O.h.fresh p hp).2, Sim.refl s⟩
theorem Own.compose (O : Own B s₀ W s C) (O' : Own B s (C.map (·.1)) s' D) : Own B s₀ W s' D := by
  refine ⟨⟨O'.h.gl, O'.h.at', O'.h.nd, fun b o e x y => O'.h.keep b o (O.h.keep b o e x y) (fun z => ?_) y, fun p hp => ?_, fun a ha => ?_⟩, O.sim.trans O'.sim⟩
  · obtain ⟨p, hp, rfl⟩ := List.mem_map.mp z
    rcases (O.h.fresh p hp).1 with q | q
    · exact x q
    · rw [q] at e; cases e
  · rcases (O'.h.fresh p hp).1 with q | q
    · obtain ⟨p', hp', e⟩ := List.mem_map.mp q
      rw [← e]; exact O.h.fresh p' hp'
    · have z := O.h.none_of q
      exact ⟨.inr z.2.1, z.2.2.1, z.2.2.2.1⟩
  · obtain ⟨o, ho⟩ := O.h.alive a ha
    by_cases z : a ∈ C.map (·.1)
    · exact O'.h.alive a z
    · by_cases q : Spec a
      · exact O'.h.gl.stat.specs q
      · exact ⟨o, O'.h.keep a o ho z q⟩
/-- a tuple that stood when the ledger was begun stands on -/
theorem Own.tup {t : Addr} {its : Array Value} (O : Own B s₀ W s C) (h0 : ∀ a ∈ W, ∃ c, Cell.At s₀.heap a c) (hst : Stat s₀.heap) (ht : IsTup s₀.heap t its) : IsTup s.heap t its := by
  obtain ⟨ot, hot, rt⟩ := ht
  refine ⟨ot, O.h.keep t ot hot (fun z => ?_) (fun z => ?_), rt⟩
  · obtain ⟨c, hc⟩ := h0 t z
    exact c.notTup hc ⟨ot, hot, rt⟩
  · obtain ⟨o2, es, n, ho2, _, hd, _, _, ps, hp, _⟩ := hst
    rcases z with z | z
    · rw [z, ho2] at hot; cases hot
      obtain ⟨_, _, r⟩ := rt
      rw [hd] at r; cases r
    · rw [z, hp] at hot; cases hot
      exact absurd (show Value.none = Value.type "tuple" from rt.1) (by decide)
theorem rev_ne : Value.type "reversed" ≠ Value.type "tuple" := by decide
theorem enum_ne : Value.type "enumerate" ≠ Value.type "tuple" := by decide
def enumAt (it : Addr) (i : Nat) : Cell := .other fun o => ∃ old, o = some { cls := .type "enumerate", dict := none, data := .fields #[.none, .bool false, .ref it, rawInt i, .none, old], slots := #[] }
def revAt (t : Addr) (j : Int) : Cell := .other fun o => o = some { cls := .type "reversed", data := .fields #[.ref t, .int j 0] }
theorem newRev {t : Addr} {its : Array Value} {Q : Value → Shared → Prop} (hh : A.handled = none) (O : Own B s₀ W s C) (ht : IsTup s.heap t its) (hsz : its.size ≤ 2)
    (h : ∀ s' r, r ∉ W → Own B s₀ W s' ((r, revAt t ((its.size : Int) - 1)) :: C) → (∀ b o, s.heap.get? b = some o → s'.heap.get? b = some o) → Q (.ref r) s') : wpAny (model prog w) A (call (.type "reversed") [.ref t]) Q E s := by
  obtain ⟨hd, dd, fr, g, u⟩ := A
  cases hh
  obtain ⟨⟨c, di, dt, sl⟩, hot, hct, n, hdt⟩ := ht
  dsimp only at hct hdt
  subst hct hdt
  refine wpAny_mono (revX hsz hot) (fun v s' hm => ?_) fun _ _ e => e
  obtain ⟨a, o, rfl, ha, ho, hn, hk, hos, hg⟩ := hm
  subst ho
  exact h s' a (O.h.none_of hn).2.2.2.2 (O.to (O.h.add hk hn ⟨ha, _, ha, rev_ne⟩) hos hg) hk
theorem newEnum {t r : Addr} {j : Int} {Q : Value → Shared → Prop} (hh : A.handled = none) (O : Own B s₀ W s C) (i : Nat) (hi : C[i]? = some (r, revAt t j))
    (h : ∀ s' e, e ∉ W → Own B s₀ W s' ((e, enumAt r 0) :: C) → (∀ b o, s.heap.get? b = some o → s'.heap.get? b = some o) → Q (.ref e) s') : wpAny (model prog w) A (call (.type "enumerate") [.ref r]) Q E s := by
  obtain ⟨hd, dd, fr, g, u⟩ := A
  cases hh
  have hr := (O.h.get i hi).1
  refine wpAny_mono (enumX hr) (fun v s' hm => ?_) fun _ _ e => e
  obtain ⟨a, o, rfl, ha, ho, hn, hk, hos, hg⟩ := hm
  subst ho
  exact h s' a (O.h.none_of hn).2.2.2.2 (O.to (O.h.add hk hn ⟨⟨.none, ha⟩, _, ha, enum_ne⟩) hos hg) hk
theorem hasCls {k : Nat} (hk : k < 15) {u : Tok} {Q : Value → Shared → Prop} (hh : A.handled = none) (O : Own B s₀ W s C) (h : ∀ s', Own B s₀ W s' C → Q (.bool false) s') :
    wpAny (model prog w) A (call (.builtin "hasattr") [cv k, .str "__abstractmethods__" u]) Q E s := by
  obtain ⟨hd, dd, fr, g, un⟩ := A
  cases hh
  refine wpAny_mono (hasX k hk u) (fun v s' hm => ?_) fun _ _ e => e
  obtain ⟨rfl, hk', hos, hg⟩ := hm
  exact h s' (O.to (O.h.grow hk') hos hg)
theorem loop1 (hh : A.handled = none) (Bs : Bas B mg mb) (M : MroEnv env cA cB) {k : Nat} (hk : k < 15) {e r t : Addr} {its : Array Value} (hits : its = (cvs (bases k)).toArray) (heW : e ∉ W) (hrW : r ∉ W) {va : Option Value} {T : List (Addr × Cell)}
    (O : Own B s₀ W s ((e, enumAt r 0) :: (r, revAt t ((its.size : Int) - 1)) :: (env.locals, .ns [("cls", cv k)]) :: (cA, .cell va) :: (cB, .cell none) :: T)) (ht : IsTup s.heap t its)
    (h : ∀ s' u vb, Own B s₀ W s' ((env.locals, .ns [("cls", cv k), ("boundary", .int 0 u)]) :: (cA, .cell va) :: (cB, .cell vb) :: T) → R (.ok .next) s') :
    codeAny (model prog w) A (.forLoop (targetOf rFor1) (.ref e) (bodyOf rFor1) (elseOf rFor1) env) R s := by
  have hsz : its.size ≤ 2 := by
    have : ∀ k < 15, (cvs (bases k)).length ≤ 2 := by decide +kernel
    rw [hits, List.size_toArray]; exact this k hk
  refine codeAny_forLoop_any (fun n s' => ∃ i vb, i ≤ its.size ∧ n = its.size - i ∧ IsTup s'.heap t its ∧
    Own B s₀ W s' ((e, enumAt r i) :: (r, revAt t ((its.size : Int) - 1 - i)) :: (env.locals, .ns [("cls", cv k)]) :: (cA, .cell va) :: (cB, .cell vb) :: T)) ?_ its.size
    ⟨0, none, Nat.zero_le _, rfl, ht, by simpa using O⟩
  clear O ht
  rintro n s' ⟨i, vb, hi, rfl, ht, O⟩
  obtain ⟨old, he⟩ := (O.h.get 0 rfl).1
  have hr := (O.h.get 1 rfl).1
  have hne : e ≠ r := fun q => ne_of_other O.h.nd (i := 1) (j := 0) rfl rfl (by decide) q
  have het : e ≠ t := fun q => Cell.notTup _ (O.h.get 0 rfl) (by rw [q]; exact ht)
  have hrt : r ≠ t := fun q => Cell.notTup _ (O.h.get 1 rfl) (by rw [q]; exact ht)
  have hef : e ∉ [r, t] := by simp [hne, het]
  have D : Draws prog w A.in1 r [r, t] its.size (fun i v => its[its.size - 1 - i]? = some v) (fun i h => IsRev h r t ((its.size : Int) - 1 - i) ∧ IsTup h t its) := revDraws (A := A.in1) hh r t its hsz hrt
  by_cases hlt : i < its.size
  · refine wpAny_pyNext_enum_itemD D he ⟨hr, ht⟩ hlt hne hef fun x h1 tk hPx heo hst1 hT1 hz1 hk1 => ?_
    refine wpAny_letOwnedTupleGo_enum heo fun h2 he2 hs2 => ?_
    replace hs2 : Heap.SameBut e h1 h2 := hs2
    have heH : e < s'.heap.objs.size := Heap.lt_size he
    have hT2 : h2.IsTuple s'.heap.objs.size #[.int i tk, x] := ⟨_, (hs2.2 _ (Nat.ne_of_gt heH)).trans hT1, rfl, _, rfl⟩
    have hz2 : h2.objs.size = s'.heap.objs.size + 1 := hs2.1.trans hz1
    refine wpAny_assign_Tuple hh hT2 rfl rfl fun h3 hx3 => ?_
    replace hx3 : Heap.ExtBut h2.objs.size h2 h3 := hx3
    have up2 : ∀ b o, b < s'.heap.objs.size → h2.get? b = some o → h3.get? b = some o := fun b o hb q => hx3 b o (Nat.ne_of_lt (by rw [hz2]; exact Nat.lt_succ_of_lt hb)) q
    have up : ∀ b o, b ∉ [e, r] → s'.heap.get? b = some o → h3.get? b = some o := fun b o hb q => by
      simp only [List.mem_cons, List.not_mem_nil, or_false, not_or] at hb
      exact up2 b o (Heap.lt_size q) (hs2.extBut b o hb.1 (hk1 b o hb.1 hb.2 q))
    have hrH : r < s'.heap.objs.size := Heap.lt_size hr
    have ht3 : IsTup h3 t its := by
      obtain ⟨ot, hot, rt⟩ := ht
      exact ⟨ot, up t ot (by simp [Ne.symm het, Ne.symm hrt]) hot, rt⟩
    have hr3 := up2 r _ hrH (hs2.extBut r _ (Ne.symm hne) hst1.1)
    have he3 := up2 e _ heH he2
    have O3 : Own B s₀ W { s' with heap := h3, toks := tk + 1 } ((e, enumAt r (i + 1)) :: (r, revAt t ((its.size : Int) - 1 - (i + 1 : Nat))) :: (env.locals, .ns [("cls", cv k)]) :: (cA, .cell va) :: (cB, .cell vb) :: T) := by
      refine O.to (O.h.change (V := [e, r]) (by simp) up rfl fun p hp => ?_)
      rcases List.mem_cons.mp hp with q | q
      · subst q
        refine .inr ⟨⟨x, ?_⟩, _, he3, enum_ne⟩
        have e1 : ((i + 1 : Nat) : Int) = (i : Int) + 1 := by push_cast; rfl
        rw [e1]; exact he3
      · rcases List.mem_cons.mp q with q | q
        · subst q; exact .inr ⟨hr3, _, hr3, rev_ne⟩
        · refine .inl ⟨.tail _ (.tail _ q), fun z => ?_⟩
          have nd := O.h.nd
          simp only [List.map_cons, List.nodup_cons, List.mem_cons, not_or] at nd
          simp only [List.mem_cons, List.not_mem_nil, or_false] at z
          have pm : p.1 ∈ env.locals :: cA :: cB :: T.map (·.1) := by
            have := List.mem_map_of_mem (f := (·.1)) q
            simpa using this
          simp only [List.mem_cons] at pm
          rcases z with z | z
          · rw [z] at pm; exact absurd pm (by simpa [not_or] using nd.1.2)
          · rw [z] at pm; exact absurd pm (by simpa [not_or] using nd.2.1)
    obtain ⟨b, hb, rfl⟩ : ∃ b ∈ bases k, cv b = x := by
      have := Array.mem_of_getElem? hPx
      rw [hits] at this
      simpa [cvs] using this
    have hb15 := (base_in_way k hk b hb).1
    have R3 := O3.restart
    show wpAny _ A (do holding [_] (assign (.Name _ _) env (.int i tk)); do holding [] (assign (.Name _ _) env (cv b)); pure ()) _ _ _
    refine wpAny_bind (wpAny_holding (wpAny_assign_Name (storeL_new R3 2 rfl (by simp only [List.map_cons, List.map_nil]; decide +kernel) M.fn (M.loc _ (by simp)) fun s4 O4 => ?_)))
    refine wpAny_bind (wpAny_holding (wpAny_assign_Name (storeC O4 4 rfl M.cb M.fn M.base fun s5 O5 => wpAny_pure ?_)))
    refine wpAny_execs_cons (wpAny_If (wpAny_isTrue_value (wpAny_Call_ofName (nameB Bs O5 M.toFenv (M.glo _ (by simp)) (Bs.no _ (by simp)) PyProof.Rows.Boot.«hasattr» ?_))))
    refine Calls.callWith_builtin rfl (Calls.evalArgs_plain (Calls.spliced_cons ?_))
    refine nameC O5 4 rfl M.cb M.fn M.base (Calls.spliced_cons ?_)
    refine wpAny_Constant_str (k := 0) (pos := default) (Calls.spliced_nil ?_)
    have O6 : Own B _ _ { s5 with toks := s5.toks + 1 } _ := O5.same
    refine hasCls hb15 hh O6 fun s7 O7 => wpAny_truthy_bool ?_
    refine wpAny_execs_nil (wpAny_execs_nil ?_)
    have O8 := O3.compose O7
    refine ⟨its.size - (i + 1), by omega, i + 1, some (cv b), hlt, rfl, ?_, ?_⟩
    · exact O7.tup (fun a ha => by
        obtain ⟨p, hp, rfl⟩ := List.mem_map.mp ha
        exact ⟨p.2, O3.h.at' p hp⟩) O3.h.gl.stat ht3
    · exact O8.to (O8.h.weak 2 rfl (c' := .ns [("cls", cv k)]) (ns_weak (fun q hq => List.mem_append_left _ hq) (by simp only [List.map_cons, List.map_nil]; decide +kernel)))
  · have hie : i = its.size := by omega
    subst hie
    refine wpAny_pyNext_enum_endD D he ⟨hr, ht⟩ fun h1 hx1 => ?_
    have O1 : Own B s₀ W { s' with heap := h1 } _ := O.to (O.h.lose 1 rfl hrW hx1)
    have O2 := O1.to (O1.h.sub (List.sublist_cons_self _ _))
    refine wpAny_execs_cons (wpAny_Assign_Name (wpAny_Constant_int ?_))
    have O3 : Own B s₀ W { s' with heap := h1, toks := s'.toks + 1 } ((env.locals, .ns [("cls", cv k)]) :: (cA, .cell va) :: (cB, .cell vb) :: T) := O2.same
    refine storeL_new O3 0 rfl (by simp only [List.map_cons, List.map_nil]; decide +kernel) M.fn (M.loc _ (by simp)) fun s4 O4 => wpAny_execs_nil ?_
    exact h s4 _ vb O4
end
end C3
end

section
open PySem PySem.W PyProof.Rows
set_option maxRecDepth 100000
set_option linter.unusedVariables false
namespace C3
section
variable {prog : Program} {w : World} {A : Around} {E : Value → Shared → Prop} {s₀ s s' : Shared} {B : Heap} {W : List Addr} {C D : List (Addr × Cell)} {env : Env} {mg mb : Str → Option Value} {R : Result → Shared → Prop} {cA cB : Addr} {T : List (Addr × Cell)}
theorem bases_size {k : Nat} (hk : k < 15) : (cvs (bases k)).toArray.size ≤ 2 := by
  have : ∀ k < 15, (cvs (bases k)).length ≤ 2 := by decide +kernel
  rw [List.size_toArray]; exact this k hk
theorem stmt0 (hh : A.handled = none) (Bs : Bas B mg mb) (M : MroEnv env cA cB) {k : Nat} (hk : k < 15) {va : Option Value} {Q : Flow → Shared → Prop}
    (O : Own B s₀ W s ((env.locals, .ns [("cls", cv k)]) :: (cA, .cell va) :: (cB, .cell none) :: T))
    (h : ∀ s' u vb, Own B s₀ W s' ((env.locals, .ns [("cls", cv k), ("boundary", .int 0 u)]) :: (cA, .cell va) :: (cB, .cell vb) :: T) → Q .next s') :
    wpAny (model prog w) A (exec rFor1 env) Q E s := by
  refine wpAny_For (wpAny_Call_ofName (nameB Bs O M.toFenv (M.glo _ (by simp)) (Bs.no _ (by simp)) PyProof.Rows.Boot.«enumerate» ?_))
  refine callWith_excType rfl (Calls.evalArgs_plain (Calls.spliced_cons ?_))
  refine wpAny_Call_ofName (nameB Bs O M.toFenv (M.glo _ (by simp)) (Bs.no _ (by simp)) PyProof.Rows.Boot.«reversed» ?_)
  refine callWith_excType rfl (Calls.evalArgs_plain (Calls.spliced_cons ?_))
  refine Attribute_name (nameL O 0 0 rfl rfl M.fn (M.loc _ (by simp)) (basesAttr Bs hk O fun s1 t O1 ht => ?_))
  refine Calls.spliced_nil (newRev hh O1 ht (bases_size hk) fun s2 r hrW O2 k2 => ?_)
  refine Calls.spliced_nil (newEnum hh O2 0 rfl fun s3 e heW O3 k3 => ?_)
  obtain ⟨old, he⟩ := (O3.h.get 0 rfl).1
  refine wpAny_pyIter_enum he ?_
  refine loop1 hh Bs M hk rfl heW hrW O3 ((ht.keeps k2).keeps k3) fun s4 u vb O4 => ?_
  exact h s4 u vb O4
theorem listOf {it : Addr} {T : String} {o : Obj} {xs : List Value} {n : Nat} {Q : Value → Shared → Prop} (O : Own B s₀ W s C) (hT : T = "list" ∨ T = "tuple") (ho : s.heap.get? it = some o) (hc : o.cls = .type T) (hd : o.data = .seq xs.toArray n) (hz : xs.length ≤ sizeLine)
    (h : ∀ s' a, Own B s₀ W s' ((a, .list xs) :: C) → (∀ b o, s.heap.get? b = some o → s'.heap.get? b = some o) → Q (.ref a) s') : wpAny (model prog w) A (call (.type "list") [.ref it]) Q E s :=
  call_list_seq (hsz := by simpa using hz) it hT ho hc hd fun h' c' hk hn => h _ _ (O.to (O.h.add (h' := h') hk (get_size_none _) ⟨c', hn⟩)) hk
/-- what stands for abcs -/
def Abcs (h : Heap) (va : Value) (ks : List Nat) : Prop := (va = .none ∧ ks = []) ∨ ∃ l, va = .ref l ∧ h.PlainList l (cvs ks).toArray
theorem stmt1 (Bs : Bas B mg mb) (M : MroEnv env cA cB) {kv : List (Str × Value)} {va : Value} {ks : List Nat} {vb : Option Value} {Q : Flow → Shared → Prop} (hva : Abcs s.heap va ks) (hz : ks.length < 1000)
    (O : Own B s₀ W s ((env.locals, .ns kv) :: (cA, .cell (some va)) :: (cB, .cell vb) :: T))
    (h : ∀ s' a, Own B s₀ W s' ((a, .list (cvs ks)) :: (env.locals, .ns kv) :: (cA, .cell (some (.ref a))) :: (cB, .cell vb) :: T) → Q .next s') :
    wpAny (model prog w) A (exec (nth mroBody 1) env) Q E s := by
  have hz2 : (cvs ks).length = ks.length := by unfold cvs; simp
  have hz3 := small_line hz
  refine wpAny_Assign_Name (wpAny_IfExp (wpAny_isTrue_value (nameC O 1 rfl M.ca M.fn M.abcs ?_)))
  rcases hva with ⟨rfl, rfl⟩ | ⟨l, rfl, hl⟩
  · refine truthy_none ?_
    rw [if_neg Bool.false_ne_true]
    refine emptyList O fun s1 a O1 => ?_
    refine storeC O1 2 rfl M.ca M.fn M.abcs fun s2 O2 => ?_
    exact h s2 a O2
  · refine wpAny_truthy_list hl.isList (by simp only [List.size_toArray, hz2]; omega) ?_
    have e : (!(cvs ks).toArray.isEmpty) = !ks.isEmpty := by cases ks <;> rfl
    rw [e]
    replace O : Own B s₀ W { s with toks := s.toks + 1 + 1 } _ := O.same
    cases hks : ks with
    | nil =>
      subst hks
      rw [if_neg (by simp)]
      refine emptyList O fun s1 a O1 => ?_
      refine storeC O1 2 rfl M.ca M.fn M.abcs fun s2 O2 => ?_
      exact h s2 a O2
    | cons k0 kr =>
      rw [← hks]
      rw [if_pos (by rw [hks]; rfl)]
      refine wpAny_Call_ofName (nameB Bs O M.toFenv (M.glo _ (by simp)) (Bs.no _ (by simp)) PyProof.Rows.Boot.«list» ?_)
      refine callWith_excType rfl (Calls.evalArgs_plain (Calls.spliced_cons (nameC O 1 rfl M.ca M.fn M.abcs (Calls.spliced_nil ?_))))
      obtain ⟨n, ho⟩ := hl
      refine listOf O (.inl rfl) ho rfl rfl (by omega) fun s1 a O1 _ => ?_
      refine storeC O1 2 rfl M.ca M.fn M.abcs fun s2 O2 => ?_
      exact h s2 a O2
/-- list(cls.__bases__[:boundary]), boundary 0 -/
theorem stmt2 (Bs : Bas B mg mb) (M : MroEnv env cA cB) {k : Nat} (hk : k < 15) {u : Tok} {Q : Flow → Shared → Prop} {a : Addr} {xs : List Value}
    (O : Own B s₀ W s ((a, .list xs) :: (env.locals, .ns [("cls", cv k), ("boundary", .int 0 u)]) :: T))
    (h : ∀ s' b, Own B s₀ W s' ((b, .list []) :: (a, .list xs) :: (env.locals, .ns [("cls", cv k), ("boundary", .int 0 u), ("explicit_bases", .ref b)]) :: T) → Q .next s') :
    wpAny (model prog w) A (exec (nth mroBody 2) env) Q E s := by
  refine wpAny_Assign_Name (wpAny_Call_ofName (nameB Bs O M.toFenv (M.glo _ (by simp)) (Bs.no _ (by simp)) PyProof.Rows.Boot.«list» ?_))
  refine callWith_excType rfl (Calls.evalArgs_plain (Calls.spliced_cons ?_))
  refine Subscript_ (Attribute_name (nameL O 1 0 rfl rfl M.fn (M.loc _ (by simp)) (basesAttr Bs hk O fun s1 t O1 ht => ?_)))
  refine wpAny_Slice ?_
  rw [evalPart_none]
  refine wpAny_pure ?_
  show wpAny _ _ (eval (.Name _ _) env) _ _ s1
  refine nameL O1 1 1 rfl rfl M.fn (M.loc _ (by simp)) ?_
  refine wpAny_pure ?_
  have O2 : Own B s₀ W { s1 with heap := s1.heap.push { cls := .type "slice", data := .fields #[.none, .int 0 u, .none] } } _ := O1.to (O1.h.pushAny _)
  have ht2 : IsTup (s1.heap.push { cls := .type "slice", data := .fields #[.none, .int 0 u, .none] }) t (cvs (bases k)).toArray := ht.push _
  refine sub_go (s := { s1 with heap := s1.heap.push { cls := .type "slice", data := .fields #[.none, .int 0 u, .none] } }) ht2.typeIs F.slot_tuple_getitem.lookup (tupTo0 ht2 (Heap.IsSliceOf.new ..) (bases_size hk) fun h3 p hp hk3 => Calls.spliced_nil ?_) (ops := [.ref s1.heap.objs.size, .ref t]) (by with_unfolding_all rfl)
  have O3 : Own B s₀ W { s1 with heap := h3 } _ := O2.to (O2.h.grow hk3)
  obtain ⟨op, hop, hct, n, hdt⟩ := hp
  refine listOf O3 (.inr rfl) hop hct (xs := []) hdt (Nat.zero_le _) fun s4 b O4 _ => ?_
  refine storeL_new O4 2 rfl (by simp only [List.map_cons, List.map_nil]; decide +kernel) M.fn (M.loc _ (by simp)) fun s5 O5 => ?_
  exact h s5 b O5
theorem stmt3 (M : MroEnv env cA cB) {kv : List (Str × Value)} {Q : Flow → Shared → Prop} {a b : Addr} {xs ys : List Value} (hkv : ("abstract_bases" : Str) ∉ kv.map (·.1))
    (O : Own B s₀ W s ((b, .list ys) :: (a, .list xs) :: (env.locals, .ns kv) :: T))
    (h : ∀ s' c, Own B s₀ W s' ((c, .list []) :: (b, .list ys) :: (a, .list xs) :: (env.locals, .ns (kv ++ [(("abstract_bases" : Str), Value.ref c)])) :: T) → Q .next s') :
    wpAny (model prog w) A (exec (nth mroBody 3) env) Q E s := by
  refine wpAny_Assign_Name (emptyList O fun s1 c O1 => ?_)
  exact storeL_new O1 3 rfl hkv M.fn (M.loc _ (by simp)) fun s2 O2 => h s2 c O2
theorem stmt4 (Bs : Bas B mg mb) (M : MroEnv env cA cB) {k : Nat} (hk : k < 15) {u : Tok} {Q : Flow → Shared → Prop} {a b c : Addr} {xs ys zs : List Value} {kv : List (Str × Value)} (hkv : ("other_bases" : Str) ∉ (("cls" : Str) :: "boundary" :: kv.map (·.1)))
    (O : Own B s₀ W s ((c, .list zs) :: (b, .list ys) :: (a, .list xs) :: (env.locals, .ns ((("cls" : Str), cv k) :: (("boundary" : Str), Value.int 0 u) :: kv)) :: T))
    (h : ∀ s' d, Own B s₀ W s' ((d, .list (cvs (bases k))) :: (c, .list zs) :: (b, .list ys) :: (a, .list xs) :: (env.locals, .ns ((("cls" : Str), cv k) :: (("boundary" : Str), Value.int 0 u) :: kv ++ [(("other_bases" : Str), Value.ref d)])) :: T) → Q .next s') :
    wpAny (model prog w) A (exec (nth mroBody 4) env) Q E s := by
  refine wpAny_Assign_Name (wpAny_Call_ofName (nameB Bs O M.toFenv (M.glo _ (by simp)) (Bs.no _ (by simp)) PyProof.Rows.Boot.«list» ?_))
  refine callWith_excType rfl (Calls.evalArgs_plain (Calls.spliced_cons ?_))
  refine Subscript_ (Attribute_name (nameL O 3 0 rfl rfl M.fn (M.loc _ (by simp)) (basesAttr Bs hk O fun s1 t O1 ht => ?_)))
  refine wpAny_Slice ?_
  show wpAny _ _ (eval (.Name _ _) env) _ _ s1
  refine nameL O1 3 1 rfl rfl M.fn (M.loc _ (by simp)) ?_
  rw [evalPart_none]
  refine wpAny_pure ?_
  refine wpAny_pure ?_
  have O2 : Own B s₀ W { s1 with heap := s1.heap.push { cls := .type "slice", data := .fields #[.int 0 u, .none, .none] } } _ := O1.to (O1.h.pushAny _)
  have ht2 : IsTup (s1.heap.push { cls := .type "slice", data := .fields #[.int 0 u, .none, .none] }) t (cvs (bases k)).toArray := ht.push _
  refine sub_go (s := { s1 with heap := s1.heap.push { cls := .type "slice", data := .fields #[.int 0 u, .none, .none] } }) ht2.typeIs F.slot_tuple_getitem.lookup (tupFrom0 ht2 (Heap.IsSliceOf.new ..) (bases_size hk) fun h3 p hp hk3 => Calls.spliced_nil ?_) (ops := [.ref s1.heap.objs.size, .ref t]) (by with_unfolding_all rfl)
  have O3 : Own B s₀ W { s1 with heap := h3 } _ := O2.to (O2.h.grow hk3)
  obtain ⟨op, hop, hct, n, hdt⟩ := hp
  refine listOf O3 (.inr rfl) hop hct (xs := cvs (bases k)) hdt (bases_small k hk) fun s4 d O4 _ => ?_
  exact storeL_new O4 4 rfl (by simpa using hkv) M.fn (M.loc _ (by simp)) fun s5 O5 => h s5 d O5
end
end C3
end

section
open PySem PySem.W PyProof.Rows
set_option maxRecDepth 100000
set_option linter.unusedVariables false
namespace C3
def anyE : Expr := operandOf ((valuesOf (testOf (nth (bodyOf rFor2) 0))).getD 1 (.Constant .none 0 default))
section
variable {prog : Program} {w : World} {A : Around} {E : Value → Shared → Prop} {s₀ s s' : Shared} {B : Heap} {W : List Addr} {C D : List (Addr × Cell)} {env : Env} {mg mb : Str → Option Value} {R : Result → Shared → Prop} {cA cB : Addr} {T : List (Addr × Cell)}
/-- the code of the generator expression: the table grows at most once -/
theorem genCode (Bs : Bas B mg mb) (hc : env.code = .ref 24) {pos : Pos} (hl : pos.line = 34) (hcol : pos.col = 46) {q : Str} {scope : Scope} {Q : Value → Shared → Prop} (O : Own B s₀ W s C)
    (h : ∀ s' c, Own B s₀ W s' C → (∀ b o, ¬ Spec b → s.heap.get? b = some o → s'.heap.get? b = some o) → Q c s') : wpAny (model prog w) A (genexprCode env pos q scope) Q E s := by
  obtain ⟨ps, hp, hps⟩ := O.h.gl.stat.tab
  rcases hps with rfl | ⟨c, rfl⟩
  · have hok := Bs.code s.heap #[] O.h.gl.stays hp trivial
    have htab : s.heap.TableAt 24 tabP #[] := by
      obtain ⟨o, vs, a, b, c, d⟩ := Bs.ctab
      exact ⟨⟨o, vs, O.h.gl.stays _ _ a, b, c, d⟩, hp⟩
    refine wpAny_genexprCodeX hc hok htab rfl fun c' h' tk hx _ _ _ _ htab' _ => ?_
    have hp' := htab'.2
    have hx2 : ∀ b o, ¬ Spec b → s.heap.get? b = some o → h'.get? b = some o := fun b o hb e => hx b o (fun z => hb (.inr z)) e
    refine h { s with heap := h', toks := tk } _ (O.to (O.h.special (h' := h') Bs.st hx2 ?_)) hx2
    obtain ⟨o, es, n, ho, hcl, hd, hk, hf, _⟩ := O.h.gl.stat
    refine ⟨o, es, n, hx _ _ (by decide) ho, hcl, hd, hk, fun key v e => ?_, _, hp', .inr ⟨c', ?_⟩⟩
    · obtain ⟨k, t, a, b, c, ot, hot, rt⟩ := hf key v e
      refine ⟨k, t, a, b, c, ot, hx _ _ (fun z => ?_) hot, rt⟩
      rw [z, hp] at hot; cases hot
      exact absurd (show Value.none = Value.type "tuple" from rt.1) (by decide)
    · rw [hl, hcol]; rfl
  · have hok := Bs.code s.heap _ O.h.gl.stays hp (by trivial)
    refine wpAny_genexprCode_hit hc hok (c' := .ref c) ?_ (h s _ O fun _ _ _ e => e)
    show codeAmong pos [rawInt 34, rawInt 46, .ref c] = _
    simp [codeAmong, rawInt, hl, hcol]
theorem range_any (bs : List Nat) (q : Nat → Bool) : (List.range bs.length).any (fun i => match bs[i]? with | some b => q b | none => false) = bs.any q := by
  rw [Bool.eq_iff_iff, List.any_eq_true, List.any_eq_true]
  constructor
  · rintro ⟨i, hi, e⟩
    rw [List.mem_range] at hi
    rw [List.getElem?_eq_getElem hi] at e
    exact ⟨_, List.getElem_mem hi, e⟩
  · rintro ⟨b, hb, e⟩
    obtain ⟨i, hi, rfl⟩ := List.mem_iff_getElem.mp hb
    refine ⟨i, List.mem_range.mpr hi, ?_⟩
    rw [List.getElem?_eq_getElem hi]; exact e
theorem passing_all (n : Nat) : PySem.passing (fun _ => true) n 0 = List.range n := by
  unfold PySem.passing; simp
theorem titer_ne : Value.type "tuple_iterator" ≠ Value.type "tuple" := by decide
theorem anyBases (hh : A.handled = none) (hroom : A.depth < recursionLimit) (Bs : Bas B mg mb) (M : MroEnv env cA cB) (hcode : env.code = .ref 24) {k j : Nat} (hk : k < 15) (hj : j < 15) {kv : List (Str × Value)}
    (O : Own B s₀ W s C) (iL j0 iB : Nat) (hL : C[iL]? = some (env.locals, .ns kv)) (hkv : kv[j0]? = some (("cls" : Str), cv k)) (hB : C[iB]? = some (cB, .cell (some (cv j)))) {Q : Value → Shared → Prop}
    (h : ∀ s', Own B s₀ W s' C → Q (.bool ((bases k).any fun b => (way b).contains j)) s') : wpAny (model prog w) A (eval anyE env) Q E s := by
  refine wpAny_Call_ofName (nameB Bs O M.toFenv (M.glo _ (by simp)) (Bs.no _ (by simp)) PyProof.Rows.Boot.«any» ?_)
  refine Calls.callWith_builtin rfl (Calls.evalArgs_plain (Calls.spliced_cons ?_))
  have hclos : closureFor { kind := ScopeKind.function, names := [(Str.ofString ".0", NameKind.local), (Str.ofString "b", NameKind.local), (Str.ofString "base", NameKind.free), (Str.ofString "issubclass", NameKind.globalImplicit)], isGenerator := true, isCoroutine := false, more := [] } env = pure [(Str.ofString "base", cB)] := by
    simp [closureFor, cellOf, M.cb]
  refine wpAny_GeneratorExp_walksQ (cl := [(Str.ofString "base", cB)]) hh rfl hclos (by decide) (by decide +kernel) (by decide +kernel) rfl hroom ?_ (fun _ => rfl)
  refine Attribute_name (nameL O iL j0 hL hkv M.fn (M.loc _ (by simp)) (basesAttr Bs hk O fun s1 t O1 ht => ?_))
  refine wpAny_pyIter_tuple ht ?_
  have ht2 : IsTup (s1.heap.push { cls := .type "tuple_iterator", data := .fields #[.ref t, .int 0 0] }) t (cvs (bases k)).toArray := ht.push _
  have O2 : Own B s₀ W { s1 with heap := s1.heap.push { cls := .type "tuple_iterator", data := .fields #[.ref t, .int 0 0] } } ((s1.heap.objs.size, .other fun o => o = some { cls := .type "tuple_iterator", data := .fields #[.ref t, .int 0 0] }) :: C) :=
    O1.to (O1.h.push ⟨Heap.get?_push_size _ rfl, _, Heap.get?_push_size _ rfl, titer_ne⟩)
  have hIW : s1.heap.objs.size ∉ W := (O1.h.none_of (get_size_none _)).2.2.2.2
  generalize hI : s1.heap.objs.size = I at *
  generalize hs2 : ({ s1 with heap := s1.heap.push { cls := .type "tuple_iterator", data := .fields #[.ref t, .int 0 0] } } : Shared) = s2 at *
  refine ⟨O2.h.gl.stat.noLimit, genCode Bs hcode (by rfl) (by rfl) O2 fun s3 code O3 k3 => ?_⟩
  have ht3 : IsTup s3.heap t (cvs (bases k)).toArray := by
    have ht2' : IsTup s2.heap t (cvs (bases k)).toArray := by rw [← hs2]; exact ht2
    obtain ⟨ot, hot, rt⟩ := ht2'
    refine ⟨ot, k3 t ot (fun z => ?_) hot, rt⟩
    obtain ⟨o2, es, n, ho2, _, hd, _, _, ps, hp, _⟩ := O2.h.gl.stat
    rcases z with z | z
    · rw [z, ho2] at hot; cases hot
      obtain ⟨_, _, r⟩ := rt
      rw [hd] at r; cases r
    · rw [z, hp] at hot; cases hot
      exact absurd (show Value.none = Value.type "tuple" from rt.1) (by decide)
  have hIt : s3.heap.get? I = some { cls := .type "tuple_iterator", data := .fields #[.ref t, .int 0 0] } := (O3.h.get 0 rfl).1
  have hIne : t ≠ I := fun q => by
    obtain ⟨ot, hot, rt⟩ := ht3
    rw [q, hIt] at hot; cases hot
    exact absurd (show Value.type "tuple_iterator" = Value.type "tuple" from rt.1) (by decide)
  rw [M.g, M.b]
  refine Bs.bi _ _ _ _ _ O3.h.gl.stays ?_
  have hsize : (cvs (bases k)).toArray.size = (bases k).length := by unfold cvs; simp
  have hilt : I < s3.heap.objs.size := Heap.lt_size hIt
  have htlt : t < s3.heap.objs.size := by obtain ⟨ot, hot, _⟩ := ht3; exact Heap.lt_size hot
  have hIs : I ≠ cStatics := fun q => (O3.h.fresh _ (.head _)).2.2 (.inl q)
  refine ⟨I, [I, t], [I], (cvs (bases k)).toArray.size, _, _, (fun _ => true), (fun i y => ∃ b, (bases k)[i]? = some b ∧ y = .bool ((way b).contains j)), rfl, fun A' hA' => Walks.tuple hA' I t hIne _, ⟨⟨_, hIt, rfl, rfl⟩, ht3⟩, ?_, O3.h.gl.stat.noLimit, by simpa using Ne.symm hIs, fun href hhref => ⟨?_, ?_⟩, ?_⟩
  · intro b hb
    simp only [List.mem_cons, List.not_mem_nil, or_false] at hb
    rcases hb with e | e
    · rw [e]; exact hilt
    · rw [e]; exact htlt
  · intro A' E' i v s₂ m₂ hA' hP hn hm hkeep
    simp only [List.forIn_nil]
    exact wpAny_pure ⟨rfl, s₂.heap, s₂.toks, rfl, fun _ _ e => e⟩
  · intro A' E' i v s₂ m₂ hA' hP _ hn hm hkeep
    have up : ∀ b o, b ≠ I → s3.heap.get? b = some o → s₂.heap.get? b = some o := fun b o hb e => hkeep b (List.mem_range.mpr (Heap.lt_size e)) (by simpa using hb) o (hhref b o e)
    have stays : B.StaysIn s₂.heap := fun b o e => up b o (fun q => by
      have := (O3.h.fresh _ (.head _)).2.1
      rw [q] at e; rw [this] at e; cases e) (O3.h.gl.stays b o e)
    obtain ⟨b, hb, rfl⟩ : ∃ b, (bases k)[i]? = some b ∧ cv b = v := by
      have := hP
      unfold cvs at this
      simpa using this
    have hb15 := (base_in_way k hk b (List.mem_of_getElem? hb)).1
    refine wpAny_Call_ofName (Calls.Name_function_global rfl (by kernel_rfl) (Calls.loadGlobal_builtin (by show s₂.heap.Ns env.globals mg; rw [M.g]; exact Bs.g.keeps stays) (Bs.no _ (by simp)) (Bs.b.keeps stays) ((Bs.boot _ (by decide +kernel)).trans PyProof.Rows.Boot.«issubclass») ?_) (by decide +kernel))
    refine Calls.callWith_builtin rfl (Calls.evalArgs_plain (Calls.spliced_cons ?_))
    refine wpAny_Name (wpAny_loadName_local rfl (by kernel_rfl) hn hm ?_) (by decide +kernel)
    refine Calls.spliced_cons ?_
    have hcell : s₂.heap.IsCell cB (some (cv j)) := by
      have hBc : Cell.At s3.heap cB (.cell (some (cv j))) := O3.h.get (iB + 1) hB
      obtain ⟨o, ho, r⟩ := hBc
      refine ⟨o, up cB o (fun q => ?_) ho, r⟩
      exact ne_of_other O3.h.nd (i := 0) (j := iB + 1) rfl hB (by omega) q
    refine wpAny_Name (wpAny_loadName_free rfl (by kernel_rfl) (c := cB) (by kernel_rfl) hcell ?_) (by decide +kernel)
    refine Calls.spliced_nil (isub hb15 hj ?_)
    exact ⟨⟨b, hb, rfl⟩, s₂.heap, s₂.toks, rfl, fun _ _ e => e⟩
  · intro a h5 tk gs hgb ha5 hz5 hk5 WS hat
    rw [hsize] at WS hat
    rw [passing_all, List.length_range] at WS
    refine Calls.spliced_nil ?_
    refine call_any_walkS (WS.in4_1.self 0 _ _ _ hat ?_)
    refine ⟨a, _, _, _, _, _, _, (fun i => match (bases k)[i]? with | some b => (way b).contains j | none => false), rfl, WS.in4_1, hat, ?_, fun s6 hm => ?_⟩
    · rintro i v s Q' E' ⟨i', hi', b, hb, rfl⟩ hQ'
      obtain ⟨hlt, e⟩ := List.getElem?_eq_some_iff.mp hi'
      rw [List.getElem_range] at e
      subst e
      simp only [hb] at hQ'
      exact wpAny_truthy_bool hQ'
    · rw [range_any]
      have up : ∀ b o, b ≠ I → s3.heap.get? b = some o → s6.heap.get? b = some o := fun b o hb e =>
        hm.heap b o (by simp only [List.mem_cons, List.not_mem_nil, or_false, not_or]; exact ⟨Nat.ne_of_lt (Heap.lt_size e), hb⟩) (hk5 b o e)
      have H := O3.h.lose 0 rfl hIW (h' := s6.heap) up
      refine h s6 ⟨H, hm.os.trans O3.sim.os, fun hb => ?_⟩
      exact AllBare.moved (AllBare.push (O3.sim.bare hb) hgb) hm.gens
end
end C3
end

section
open PySem PySem.W PyProof.Rows
set_option maxRecDepth 100000
set_option linter.unusedVariables false
namespace C3
theorem own_only : ∀ k < 15, ∀ j < 15, ((way k).contains j && !((bases k).any fun b => (way b).contains j)) = (j == k) := by decide +kernel
def rm1 (k : Nat) : List Nat → List Nat
  | [] => []
  | x :: r => if x = k then r else x :: rm1 k r
def rms (k : Nat) : Nat → List Nat → List Nat
  | 0, l => l
  | n + 1, l => rm1 k (rms k n l)
theorem rm1_spec {k : Nat} : ∀ {l : List Nat}, k ∈ l → ∃ j, ∃ hj : j < l.length, l[j] = k ∧ (∀ m (hm : m < l.length), m < j → l[m] ≠ k) ∧ l.eraseIdx j = rm1 k l
  | x :: r, h => by
    by_cases e : x = k
    · exact ⟨0, by simp, by simpa using e, fun m _ h => absurd h (Nat.not_lt_zero _), by simp [rm1, e]⟩
    · have h' : k ∈ r := by
        rcases List.mem_cons.mp h with q | q
        · exact absurd q.symm e
        · exact q
      obtain ⟨j, hj, h1, h2, h3⟩ := rm1_spec h'
      refine ⟨j + 1, by simpa using hj, by simpa using h1, fun m hm hlt => ?_, by simp [rm1, e, h3]⟩
      cases m with
      | zero => simpa using e
      | succ m => simpa using h2 m (by simpa using hm) (by omega)
theorem rm1_count (k : Nat) : ∀ l : List Nat, (rm1 k l).count k = l.count k - 1
  | [] => rfl
  | x :: r => by
    unfold rm1
    by_cases e : x = k
    · simp [e]
    · simp [e, rm1_count k r]
theorem rm1_filter (k : Nat) : ∀ l : List Nat, (rm1 k l).filter (· != k) = l.filter (· != k)
  | [] => rfl
  | x :: r => by
    unfold rm1
    by_cases e : x = k
    · simp [e]
    · simp [e, rm1_filter k r]
theorem rm1_sub (k : Nat) : ∀ l : List Nat, (rm1 k l).Sublist l
  | [] => List.Sublist.refl _
  | x :: r => by
    unfold rm1
    by_cases e : x = k
    · rw [if_pos e]; exact List.sublist_cons_self _ _
    · rw [if_neg e]; exact (rm1_sub k r).cons_cons x
theorem rms_count (k : Nat) (l : List Nat) : ∀ n, (rms k n l).count k = l.count k - n
  | 0 => rfl
  | n + 1 => by rw [rms, rm1_count, rms_count k l n]; omega
theorem rms_filter (k : Nat) (l : List Nat) : ∀ n, (rms k n l).filter (· != k) = l.filter (· != k)
  | 0 => rfl
  | n + 1 => by rw [rms, rm1_filter, rms_filter k l n]
theorem rms_sub (k : Nat) (l : List Nat) : ∀ n, (rms k n l).Sublist l
  | 0 => List.Sublist.refl _
  | n + 1 => (rm1_sub k _).trans (rms_sub k l n)
theorem rms_all (k : Nat) (l : List Nat) : rms k (l.count k) l = l.filter (· != k) := by
  rw [← rms_filter k l (l.count k)]
  refine (List.filter_eq_self.mpr fun x hx => ?_).symm
  have := rms_count k l (l.count k)
  rw [Nat.sub_self, List.count_eq_zero] at this
  simp only [bne_iff_ne, ne_eq]
  intro e; exact this (e ▸ hx)
theorem eraseIdx_cvs : ∀ (l : List Nat) (j : Nat), (cvs l).eraseIdx j = cvs (l.eraseIdx j)
  | [], _ => rfl
  | _ :: _, 0 => rfl
  | x :: r, j + 1 => by
    show cv x :: (cvs r).eraseIdx j = cv x :: cvs (r.eraseIdx j)
    rw [eraseIdx_cvs r j]
theorem filter_own (k : Nat) (l : List Nat) : l.filter (· == k) = List.replicate (l.count k) k := by
  rw [List.filter_beq]
theorem eqGives {i j : Nat} (hi : i < 15) (hj : j < 15) : MeetsSeq.EqGives (cv i) (cv j) (i == j) := fun prog w A E s Q h => eqAtCls (A := A) (s := s) hi hj prog w E Q h
section
variable {prog : Program} {w : World} {A : Around} {E : Value → Shared → Prop} {s₀ s s' : Shared} {B : Heap} {W : List Addr} {C D : List (Addr × Cell)} {env : Env} {mg mb : Str → Option Value} {R : Result → Shared → Prop} {cA cB : Addr} {T : List (Addr × Cell)}
abbrev kv4 (k : Nat) (u : Tok) (b c d : Addr) : List (Str × Value) := [("cls", cv k), ("boundary", .int 0 u), ("explicit_bases", .ref b), ("abstract_bases", .ref c), ("other_bases", .ref d)]
theorem stmt5 (hh : A.handled = none) (hroom : A.depth < recursionLimit) (Bs : Bas B mg mb) (M : MroEnv env cA cB) (hcode : env.code = .ref 24) {k : Nat} (hk : k < 15) {ks : List Nat} (hks : ∀ j ∈ ks, j < 15) (hz : ks.length < 1000) {u : Tok} {a b c d : Addr} {vb : Option Value} {Q : Flow → Shared → Prop}
    (O : Own B s₀ W s ((d, .list (cvs (bases k))) :: (c, .list []) :: (b, .list []) :: (a, .list (cvs ks)) :: (env.locals, .ns (kv4 k u b c d)) :: (cA, .cell (some (.ref a))) :: (cB, .cell vb) :: T))
    (h : ∀ s' vb, Own B s₀ W s' ((d, .list (cvs (bases k))) :: (c, .list (cvs (List.replicate (ks.count k) k))) :: (b, .list []) :: (a, .list (cvs ks)) :: (env.locals, .ns (kv4 k u b c d)) :: (cA, .cell (some (.ref a))) :: (cB, .cell vb) :: T) → Q .next s') :
    wpAny (model prog w) A (exec rFor2 env) Q E s := by
  refine wpAny_For (nameC O 5 rfl M.ca M.fn M.abcs (iterO O 3 rfl fun s1 it hitW O1 => ?_))
  refine codeAny_forLoop (fun n s' => ∃ i vb, i ≤ ks.length ∧ n = ks.length - i ∧
    Own B s₀ W s' ((it, .iter a i) :: (d, .list (cvs (bases k))) :: (c, .list (cvs ((ks.take i).filter (· == k)))) :: (b, .list []) :: (a, .list (cvs ks)) :: (env.locals, .ns (kv4 k u b c d)) :: (cA, .cell (some (.ref a))) :: (cB, .cell vb) :: T)) ?_ ks.length
    ⟨0, vb, Nat.zero_le _, rfl, O1⟩ (by intro _; rfl)
  clear O O1
  rintro n s' ⟨i, vb, hi, rfl, O⟩
  cases hp : ks[i]? with
  | none =>
    have hi' : ks.length ≤ i := List.getElem?_eq_none_iff.mp hp
    refine nextEnd O hh 0 4 rfl rfl hitW (by unfold cvs; rw [List.getElem?_map, hp]; rfl) fun s2 O2 => wpAny_execs_nil ?_
    rw [List.take_of_length_le hi', filter_own] at O2
    exact h s2 vb O2
  | some j =>
    have hlt : i < ks.length := (List.getElem?_eq_some_iff.mp hp).1
    have hj : j < 15 := hks j (List.mem_of_getElem? hp)
    refine nextO O 0 4 rfl rfl (by unfold cvs; rw [List.getElem?_map, hp]; rfl) fun s2 O2 => ?_
    refine wpAny_assign_Name (storeC O2 7 rfl M.cb M.fn M.base fun s3 O3 => ?_)
    have step : ∀ {s' : Shared}, Own B s₀ W s' ((it, .iter a (i + 1)) :: (d, .list (cvs (bases k))) :: (c, .list (cvs ((ks.take (i + 1)).filter (· == k)))) :: (b, .list []) :: (a, .list (cvs ks)) :: (env.locals, .ns (kv4 k u b c d)) :: (cA, .cell (some (.ref a))) :: (cB, .cell (some (cv j))) :: T) →
        ∃ m, m < ks.length - i ∧ ∃ i vb, i ≤ ks.length ∧ m = ks.length - i ∧ Own B s₀ W s' ((it, .iter a i) :: (d, .list (cvs (bases k))) :: (c, .list (cvs ((ks.take i).filter (· == k)))) :: (b, .list []) :: (a, .list (cvs ks)) :: (env.locals, .ns (kv4 k u b c d)) :: (cA, .cell (some (.ref a))) :: (cB, .cell vb) :: T) :=
      fun O' => ⟨ks.length - (i + 1), by omega, i + 1, some (cv j), hlt, rfl, O'⟩
    have htake : (ks.take (i + 1)).filter (· == k) = (ks.take i).filter (· == k) ++ (if j == k then [j] else []) := by
      rw [List.take_add_one, hp, List.filter_append]
      simp [List.filter_cons]
    have hown := own_only k hk j hj
    refine wpAny_execs_cons (wpAny_If (wpAny_isTrue_BoolOp (wpAny_allTrue_And_cons (wpAny_isTrue_value ?_))))
    refine wpAny_Call_ofName (nameB Bs O3 M.toFenv (M.glo _ (by simp)) (Bs.no _ (by simp)) PyProof.Rows.Boot.«issubclass» ?_)
    refine Calls.callWith_builtin rfl (Calls.evalArgs_plain (Calls.spliced_cons ?_))
    refine nameL O3 5 0 rfl rfl M.fn (M.loc _ (by simp)) (Calls.spliced_cons ?_)
    refine nameC O3 7 rfl M.cb M.fn M.base (Calls.spliced_nil (isub hk hj (wpAny_truthy_bool ?_)))
    cases hw : (way k).contains j with
    | false =>
      rw [hw, Bool.false_and] at hown
      rw [← hown, if_neg Bool.false_ne_true, List.append_nil] at htake
      rw [if_neg Bool.false_ne_true]
      refine wpAny_execs_nil (wpAny_execs_nil (step ?_))
      rw [htake]; exact O3
    | true =>
      rw [hw, Bool.true_and] at hown
      rw [if_pos rfl]
      refine wpAny_allTrue_And_cons (wpAny_isTrue_Not (wpAny_isTrue_value (anyBases hh hroom Bs M hcode hk hj O3 5 0 7 rfl rfl rfl fun s4 O4 => wpAny_truthy_bool ?_)))
      cases ha : (bases k).any (fun b => (way b).contains j) with
      | true =>
        rw [ha] at hown
        rw [← hown] at htake
        simp only [Bool.not_true, Bool.false_eq_true, if_false, List.append_nil] at htake ⊢
        refine wpAny_execs_nil (wpAny_execs_nil (step ?_))
        rw [htake]; exact O4
      | false =>
        rw [ha] at hown
        rw [← hown] at htake
        simp only [Bool.not_false, if_true] at htake ⊢
        refine wpAny_allTrue_And_nil ?_
        rw [if_pos rfl]
        refine wpAny_execs_cons (wpAny_Expr (wpAny_Call_append (by rfl) (by rfl) (by rfl) (by rfl) (nameL O4 5 3 rfl rfl M.fn (M.loc _ (by simp)) ?_)) (inter M.fn))
        refine ⟨c, (cvs ((ks.take i).filter (· == k))).toArray, rfl, ?_, ?_⟩
        · obtain ⟨n, ho⟩ := O4.h.get 2 rfl
          exact ⟨_, n, ho, rfl, rfl, rfl⟩
        refine nameC O4 7 rfl M.cb M.fn M.base (appendO O4 2 rfl ?_ fun s5 O5 => ?_)
        · have : ((ks.take i).filter (· == k)).length ≤ ks.length := Nat.le_trans (List.length_filter_le _ _) (List.length_take_le' _ _)
          unfold cvs; rw [List.length_map, sizeLine_eq]; omega
        refine wpAny_execs_nil (wpAny_execs_nil (step ?_))
        rw [htake]
        have e : cvs ((ks.take i).filter (· == k) ++ [j]) = cvs ((ks.take i).filter (· == k)) ++ [cv j] := by unfold cvs; rw [List.map_append]; rfl
        rw [e]; exact O5
theorem stmt6 (hh : A.handled = none) (M : MroEnv env cA cB) {k : Nat} (hk : k < 15) {ks : List Nat} (hks : ∀ j ∈ ks, j < 15) (hz : ks.length < 1000) {u : Tok} {a b c d : Addr} {vb : Option Value} {Q : Flow → Shared → Prop}
    (O : Own B s₀ W s ((d, .list (cvs (bases k))) :: (c, .list (cvs (List.replicate (ks.count k) k))) :: (b, .list []) :: (a, .list (cvs ks)) :: (env.locals, .ns (kv4 k u b c d)) :: (cA, .cell (some (.ref a))) :: (cB, .cell vb) :: T))
    (h : ∀ s' vb, Own B s₀ W s' ((d, .list (cvs (bases k))) :: (c, .list (cvs (List.replicate (ks.count k) k))) :: (b, .list []) :: (a, .list (cvs (ks.filter (· != k)))) :: (env.locals, .ns (kv4 k u b c d)) :: (cA, .cell (some (.ref a))) :: (cB, .cell vb) :: T) → Q .next s') :
    wpAny (model prog w) A (exec rFor3 env) Q E s := by
  refine wpAny_For (nameL O 4 3 rfl rfl M.fn (M.loc _ (by simp)) (iterO O 1 rfl fun s1 it hitW O1 => ?_))
  refine codeAny_forLoop (fun n s' => ∃ i vb, i ≤ ks.count k ∧ n = ks.count k - i ∧
    Own B s₀ W s' ((it, .iter c i) :: (d, .list (cvs (bases k))) :: (c, .list (cvs (List.replicate (ks.count k) k))) :: (b, .list []) :: (a, .list (cvs (rms k i ks))) :: (env.locals, .ns (kv4 k u b c d)) :: (cA, .cell (some (.ref a))) :: (cB, .cell vb) :: T)) ?_ (ks.count k)
    ⟨0, vb, Nat.zero_le _, rfl, O1⟩ (by intro _; rfl)
  clear O O1
  rintro n s' ⟨i, vb, hi, rfl, O⟩
  by_cases hlt : i < ks.count k
  · have hv : (cvs (List.replicate (ks.count k) k))[i]? = some (cv k) := by unfold cvs; rw [List.map_replicate, List.getElem?_replicate, if_pos hlt]
    refine nextO O 0 2 rfl rfl hv fun s2 O2 => ?_
    refine wpAny_assign_Name (storeC O2 7 rfl M.cb M.fn M.base fun s3 O3 => ?_)
    have hmem : k ∈ rms k i ks := by
      rw [← List.count_pos_iff, rms_count]; omega
    obtain ⟨j, hj, h1, h2, h3⟩ := rm1_spec hmem
    have hlen : (rms k i ks).length ≤ ks.length := (rms_sub k ks i).length_le
    have hcl : ∀ x ∈ rms k i ks, x < 15 := fun x hx => hks x ((rms_sub k ks i).subset hx)
    have hl2 : (cvs (rms k i ks)).length = (rms k i ks).length := by unfold cvs; simp
    refine wpAny_execs_cons (wpAny_Expr (wpAny_Call_method_lateS (by rfl) (by rfl) (by rfl) (nameC O3 6 rfl M.ca M.fn M.abcs ?_)) (inter M.fn))
    obtain ⟨n, ho⟩ := O3.h.get 4 rfl
    refine ⟨"list", "list.remove", F.plainAttrs_list, F.slot_list_remove, F.type_list_remove, ⟨_, ho, rfl⟩, fun x e => by injection e with e; subst e; exact ⟨_, ho, rfl⟩, P.remove_list ?_⟩
    refine nameC O3 7 rfl M.cb M.fn M.base ?_
    refine ⟨(cvs (rms k i ks)).toArray, n, (fun v => v == cv k), j, by rw [List.size_toArray, hl2]; exact hj, by rw [List.size_toArray, hl2, sizeLine_eq]; omega, ho, fun y hy => ?_, ?_, fun m hm hlt' => ?_, ?_⟩
    · obtain ⟨x, hx, rfl⟩ : ∃ x ∈ rms k i ks, cv x = y := by simpa [cvs] using hy
      show MeetsSeq.EqGives _ _ (cv x == cv k)
      rw [cv_eq (hcl x hx) hk]
      exact eqGives (hcl x hx) hk
    · simp only [cvs, List.getElem_toArray, List.getElem_map, h1, beq_self_eq_true]
    · have hm' : m < (rms k i ks).length := by rw [List.size_toArray, hl2] at hm; exact hm
      have := h2 m hm' hlt'
      simp only [cvs, List.getElem_toArray, List.getElem_map]
      rw [cv_eq (hcl _ (List.getElem_mem hm')) hk]
      simpa using this
    have e3 : (cvs (rms k i ks)).toArray.eraseIdxIfInBounds j = (cvs (rm1 k (rms k i ks))).toArray := by
      apply Array.toList_inj.mp
      rw [Array.toList_eraseIdxIfInBounds]
      show (cvs (rms k i ks)).eraseIdx j = cvs (rm1 k (rms k i ks))
      rw [← h3, eraseIdx_cvs]
    have O4 : Own B s₀ W { s3 with heap := s3.heap.update a (Obj.mapSeq fun xs => xs.eraseIdxIfInBounds j) } ((it, .iter c (i + 1)) :: (d, .list (cvs (bases k))) :: (c, .list (cvs (List.replicate (ks.count k) k))) :: (b, .list []) :: (a, .list (cvs (rms k (i + 1) ks))) :: (env.locals, .ns (kv4 k u b c d)) :: (cA, .cell (some (.ref a))) :: (cB, .cell (some (cv k))) :: T) := by
      refine O3.to (O3.h.set 4 rfl (c' := .list (cvs (rms k (i + 1) ks))) (Heap.SameBut.update ..).extBut ?_)
      have := Heap.get?_update_self (Obj.mapSeq fun xs => xs.eraseIdxIfInBounds j) ho rfl
      show Heap.PlainList _ a (cvs (rms k (i + 1) ks)).toArray
      rw [rms, ← e3]
      exact ⟨_, this⟩
    exact wpAny_execs_nil ⟨ks.count k - (i + 1), by omega, i + 1, some (cv k), hlt, rfl, O4⟩
  · have hie : i = ks.count k := by omega
    subst hie
    refine nextEnd O hh 0 2 rfl rfl hitW (by unfold cvs; rw [List.map_replicate, List.getElem?_replicate, if_neg (Nat.lt_irrefl _)]) fun s2 O2 => wpAny_execs_nil ?_
    rw [rms_all] at O2
    exact h s2 vb O2
end
end C3
end

section
open PySem PySem.W PyProof.Rows
set_option maxRecDepth 100000
set_option linter.unusedVariables false
namespace C3
/-- how the call ends -/
def Good (k : Nat) (ks : List Nat) : Prop := ∀ j ∈ way k, ks.count j < 2
abbrev binds (k : Nat) (va : Value) : List (Str × Value) := [("cls", cv k), ("abcs", va)]
/-- the contract of _c3_mro -/
def MroC (prog : Program) (w : World) (B : Heap) (fd : FuncData) (A : Around) (k : Nat) (ks : List Nat) : Prop :=
  ∀ (outer : List Env) (s : Shared) (va : Value) (args : Args) (R : Result → Shared → Prop), Ctx A B s.heap [] outer → Gl B s.heap → Abcs s.heap va ks → BindsTo s fd args (binds k va) →
    (∀ s' r, Good k ks → Own B s [] s' [(r, .list (cvs (way k)))] → R (.ok (.ret (.ref r))) s') →
    (∀ s' e, ¬ Good k ks → Bad B s [] outer e .none s' → R (.error (.ref e)) s') → codeAny (model prog w) A (.call (.ref 25) args) R s
abbrev scopeM : Scope := { kind := ScopeKind.function, names := [(Str.ofString ".0", NameKind.local), (Str.ofString "base", NameKind.local), (Str.ofString "_c3_mro", NameKind.globalImplicit), (Str.ofString "abcs", NameKind.free)], isGenerator := false, isCoroutine := false, more := [] }
abbrev eltM (p1 p2 p3 p4 p5 : Pos) : Expr := .Call (.Name "_c3_mro" p1) [.Name "base" p2] [⟨some "abcs", .Name "abcs" p3, p4⟩] p5
theorem map_way (l : List (Addr × List Nat)) (ws : List Nat) (i : Nat) (b : Nat) (r : Addr) (h : l.map (·.2) = (ws.take i).map way) (hb : ws[i]? = some b) : (l ++ [(r, way b)]).map (·.2) = (ws.take (i + 1)).map way := by
  rw [List.take_add_one, hb, List.map_append, List.map_append, h]; rfl
section
variable {prog : Program} {w : World} {A : Around} {E : Value → Shared → Prop} {s₀ s s' : Shared} {B : Heap} {W : List Addr} {C D : List (Addr × Cell)} {env : Env} {mg mb : Str → Option Value} {R : Result → Shared → Prop} {cA cB : Addr} {T : List (Addr × Cell)} {outer : List Env} {fd : FuncData} {o : Obj}
theorem idx2 {p q : Addr × Cell} {ps : Pack} {C : List (Addr × Cell)} (j : Nat) : (p :: q :: (cells ps ++ C))[ps.length + j + 2]? = C[j]? := by
  have e : (cells ps).length = ps.length := by unfold cells; simp
  show (cells ps ++ C)[ps.length + j]? = _
  rw [List.getElem?_append_right (by omega), e, Nat.add_sub_cancel_left]
theorem idx3 {p q r : Addr × Cell} {ps : Pack} {C : List (Addr × Cell)} (j : Nat) : (p :: q :: r :: (cells ps ++ C))[ps.length + j + 3]? = C[j]? := by
  show (q :: r :: (cells ps ++ C))[ps.length + j + 2]? = _
  exact idx2 j
theorem set2 {p q : Addr × Cell} {ps : Pack} {C : List (Addr × Cell)} (j : Nat) (x : Addr × Cell) : (p :: q :: (cells ps ++ C)).set (ps.length + j + 2) x = p :: q :: (cells ps ++ C.set j x) := by
  have e : (cells ps).length = ps.length := by unfold cells; simp
  show p :: q :: (cells ps ++ C).set (ps.length + j) x = _
  rw [List.set_append_right _ _ (by omega), e, Nat.add_sub_cancel_left]
theorem Ns.slots {h h' : Heap} {a : Addr} {m : Str → Option Value} (hn : h.Ns a m) (hk : ∀ o, h.get? a = some o → (∀ vs, o.data ≠ .fields vs) → ∃ sl, h'.get? a = some { o with slots := sl }) : h'.Ns a m := by
  obtain ⟨o, es, n, ho, hd, r⟩ := hn
  obtain ⟨sl, z⟩ := hk o ho (fun vs q => by rw [hd] at q; cases q)
  exact ⟨_, es, n, z, hd, r⟩
theorem Bad.but {l : List Env} {e : Addr} {fl : Value} {C : Addr} {m : Str → Option Value} (Z : Bad B s₀ W l e fl s) (hn : s.heap.Ns C m) (hs : Heap.SameBut C s.heap s'.heap) (hB : B.get? C = none) (hC : ¬ Spec C) (hl : C ∉ l.filterMap (·.frame))
    (h0 : C ∈ W ∨ s₀.heap.get? C = none) (hos : s'.os = s.os := by rfl) (hg : s'.gens = s.gens := by rfl) : Bad B s₀ W l e fl s' := by
  refine ⟨Z.fly.but hn hs hB hC hl, fun b o h1 h2 h3 h4 => ?_, ⟨hos.trans Z.sim.os, fun h => by rw [hg]; exact Z.sim.bare h⟩⟩
  obtain ⟨sl, z⟩ := Z.keep b o h1 h2 h3 h4
  refine ⟨sl, (hs.2 b (fun q => ?_)).trans z⟩
  rw [q] at h1 h2
  rcases h0 with t | t
  · exact h2 t
  · rw [t] at h1; cases h1
theorem closM (M : MroEnv env cA cB) : closureFor scopeM env = pure [(Str.ofString "abcs", cA)] := by
  simp [closureFor, cellOf, M.ca]
/-- y = [_c3_mro(base, abcs=abcs) for base in it] -/
theorem compRec (hh : A.handled = none) (hfr : A.frames = some (env :: outer)) (Bs : Bas B mg mb) (M : MroEnv env cA cB) (Fa : FnAt B 25 2 o fd)
    (bkw : ∀ s b va, B.StaysIn s.heap → BindsTo s fd ⟨[cv b], [("abcs", va)]⟩ (binds b va))
    (hctx : ∀ (s : Shared) (C : List (Addr × Cell)) (i : Nat) (kv : List (Str × Value)), Own B s₀ W s C → C[i]? = some (env.locals, .ns kv) → Ctx A B s.heap [] (env :: outer))
    {y it : Str} {p1 p2 p3 p4 p5 px py pit pos spos : Pos} {kv : List (Str × Value)} {l a : Addr} {ws ks : List Nat} (hws : ∀ b ∈ ws, b < 15) (hzw : ws.length < 1000) (hks : ∀ j ∈ ks, j < 15)
    (hrec : ∀ b ∈ ws, MroC prog w B fd A b ks)
    (O : Own B s₀ W s C) (iL jt il ia iA : Nat) (hL : C[iL]? = some (env.locals, .ns kv)) (hkv : kv[jt]? = some (it, .ref l)) (hl : C[il]? = some (l, .list (cvs ws))) (ha : C[ia]? = some (a, .list (cvs ks))) (hA : C[iA]? = some (cA, .cell (some (.ref a))))
    (hyk : env.kindOf y = some .local) (hik : env.kindOf it = some .local) (hyn : y ∉ kv.map (·.1)) (hdi : (it == ("__debug__" : Str)) = false)
    (hsw : swapsWith (.ListComp (eltM p1 p2 p3 p4 p5) [⟨.Name "base" px, .Name it pit, [], 0⟩] scopeM pos) (some (.Name y py)) spos.line env = pure true) {Q : Flow → Shared → Prop}
    (hok : ∀ s' D ps, (∀ b ∈ ws, Good b ks) → ps.map (·.2) = ws.map way → Own B s₀ W s' ((D, .list (refs ps)) :: (cells ps ++ C.set iL (env.locals, .ns (kv ++ [(y, .ref D)])))) → Q .next s')
    (hbad : ∀ s' e fl, ¬ (∀ b ∈ ws, Good b ks) → Bad B s₀ W (env :: outer) e fl s' → E (.ref e) s') :
    wpAny (model prog w) A (exec (.Assign [.Name y py] (.ListComp (eltM p1 p2 p3 p4 p5) [⟨.Name "base" px, .Name it pit, [], 0⟩] scopeM pos) spos) env) Q E s := by
  rw [exec_Assign_Name_used _ _ _ _ hsw]
  refine wpAny_bind (wpAny_standAt (wpAny_bind ?_))
  show wpAny _ A (do let _ ← comprehension (.ListComp (eltM p1 p2 p3 p4 p5) [⟨.Name "base" px, .Name it pit, [], 0⟩] scopeM pos) scopeM env _ (newList []) false (eval (.Name it pit) env) (some (assign (.Name y py) env))) _ _ s
  refine wpAny_bind (wpAny_mono (wpAny_comprehension_free (use := some (assign (.Name y py) env)) (Q := fun _ s' => Q .next s') rfl (fun _ => rfl) (closM M) rfl (by decide +kernel) ?_) (fun _ s' hq => wpAny_pure (wpAny_pure hq)) fun _ _ e => e)
  refine nameL O iL jt hL hkv M.fn hik ?_ hdi
  refine iterO O il hl fun s1 I hIW O1 => ?_
  refine newListO O1 (Nat.zero_le _) fun s2 D O2 => ?_
  refine wpAny_newFunctionEnv (by decide) (by intro z hz; cases hz) (fun h3 hn3 hs3 => ?_) rfl
  have hCsz := (O2.h.none_of (get_size_none _))
  have O3 : Own B s₀ W { s2 with heap := h3, toks := s2.toks + ([] : List (Str × Value)).length } ((s2.heap.objs.size, .ns []) :: (D, .list []) :: (I, .iter l 0) :: C) :=
    O2.to (O2.h.add (fun b o e => hs3.extBut b o (Nat.ne_of_lt (Heap.lt_size e)) (Heap.get?_push_of_some _ e)) (get_size_none _) ⟨⟨_, hn3, fun p hp => by cases hp⟩, by simp⟩)
  generalize hCc : s2.heap.objs.size = Cc at *
  generalize hs3' : ({ s2 with heap := h3, toks := s2.toks + ([] : List (Str × Value)).length } : Shared) = s3 at *
  have hCW : Cc ∉ W := hCsz.2.2.2.2
  show codeAny _ A (.compStart _ 0 (.ref I) (.ref D) (compEnvC scopeM [(Str.ofString "abcs", cA)] Cc env)) (compPost (model prog w) A E (some (assign (.Name y py) env)) (fun _ s' => Q .next s') (.ref D) Cc) s3
  generalize hcE : compEnvC scopeM [(Str.ofString "abcs", cA)] Cc env = cenv
  have cl : cenv.locals = Cc := by rw [← hcE]; rfl
  have ck : cenv.scope.kind = .function := by rw [← hcE]; rfl
  have cg : cenv.globals = mainGlobals := by rw [← hcE]; exact M.g
  have cfr : cenv.frame = some env.locals := by rw [← hcE]; exact M.fr
  have ckb : cenv.kindOf "base" = some .local := by rw [← hcE]; exact lookup_relabel_local (env := env) (names := scopeM.names) (by decide +kernel)
  have ma : List.lookup (Str.ofString "abcs") env.scope.names = some .cell := M.abcs
  have ckm : cenv.kindOf "_c3_mro" = some .globalImplicit := by rw [← hcE]; simp [compEnvC, relabel, Env.kindOf, M.fn, ma]; decide +kernel
  have cka : cenv.kindOf "abcs" = some .cell := by rw [← hcE]; simp [compEnvC, relabel, Env.kindOf, M.fn, ma]; decide +kernel
  have cca : cenv.cells.lookup (Str.ofString "abcs") = some cA := by rw [← hcE]; simp [compEnvC]
  have X2 := hctx s2 _ (iL + 2) kv O2 hL
  have hCf : Cc ∉ (env :: outer).filterMap (·.frame) := fun hm => by
    obtain ⟨env', he', hfe⟩ := List.mem_filterMap.mp hm
    obtain ⟨o', ho'⟩ := frames_there X2.fs env' he' Cc hfe
    rw [← hCc, get_size_none] at ho'; cases ho'
  have loop : codeAny (model prog w) A (.compLoop (.ListComp (eltM p1 p2 p3 p4 p5) [⟨.Name "base" px, .Name it pit, [], 0⟩] scopeM pos) 0 (.ref I) (.ref D) cenv) (compPost (model prog w) A E (some (assign (.Name y py) env)) (fun _ s' => Q .next s') (.ref D) Cc) s3 := by
    refine codeAny_compLoop_list (fun n s' => ∃ i ps, i ≤ ws.length ∧ n = ws.length - i ∧ (∀ b ∈ ws.take i, Good b ks) ∧ ps.map (·.2) = (ws.take i).map way ∧
      Own B s₀ W s' ((Cc, .ns []) :: (D, .list (refs ps)) :: (I, .iter l i) :: (cells ps ++ C))) ?_ ws.length ⟨0, [], Nat.zero_le _, rfl, by simp, rfl, O3⟩ (by intro _; rfl)
    clear O O1 O2 O3 hCsz
    rintro n s' ⟨i, ps, hi, rfl, hgood, hps, O⟩
    have hlps : (ps.map (·.2)).length = ps.length := by simp
    have hpl : ps.length = i := by
      rw [← hlps, hps, List.length_map, List.length_take, Nat.min_eq_left hi]
    cases hb : ws[i]? with
    | none =>
      have hi' : ws.length ≤ i := List.getElem?_eq_none_iff.mp hb
      rw [List.take_of_length_le hi'] at hgood hps
      refine nextEnd O hh 2 (ps.length + il + 3) rfl ((idx3 il).trans hl) hIW (by unfold cvs; rw [List.getElem?_map, hb]; rfl) fun s4 O4 => ?_
      replace O4 : Own B s₀ W s4 ((Cc, .ns []) :: (D, .list (refs ps)) :: (cells ps ++ C)) := O4
      show wpAny _ A (assign (.Name y py) env (.ref D)) _ E s4
      refine wpAny_assign_Name (storeL_new O4 (ps.length + iL + 2) ((idx2 iL).trans hL) hyn M.fn hyk fun s5 O5 => ?_)
      rw [set2] at O5
      obtain ⟨⟨m, hn, _⟩, _⟩ := O5.h.get 0 rfl
      exact ⟨m, hn, fun h' hs => hok _ D ps hgood hps (O5.to (O5.h.lose (h' := h') 0 rfl hCW hs.extBut))⟩
    | some b =>
      have hlt : i < ws.length := (List.getElem?_eq_some_iff.mp hb).1
      have hbm : b ∈ ws := List.mem_of_getElem? hb
      refine nextO O 2 (ps.length + il + 3) rfl ((idx3 il).trans hl) (by unfold cvs; rw [List.getElem?_map, hb]; rfl) fun s4 O4 => ?_
      replace O4 : Own B s₀ W s4 ((Cc, .ns []) :: (D, .list (refs ps)) :: (I, .iter l (i + 1)) :: (cells ps ++ C)) := O4
      refine wpAny_assign_Name (storeL_new (env := cenv) O4 0 (by rw [cl]; rfl) (by simp) ck ckb fun s5 O5 => ?_)
      replace O5 : Own B s₀ W s5 ((cenv.locals, .ns [("base", cv b)]) :: (D, .list (refs ps)) :: (I, .iter l (i + 1)) :: (cells ps ++ C)) := O5
      refine wpAny_Call_Name_kw (Calls.Name_function_global ck ckm (Calls.loadGlobal_global (by rw [cg]; exact Bs.g.keeps O5.h.gl.stays) Bs.gr ?_) (by decide +kernel))
      refine callWith_function_kw (o := o) (fd := fd) (evalArgs_kw rfl (Calls.spliced_cons (nameL O5 0 0 rfl rfl ck ckb (Calls.spliced_nil (wpAny_evalAll_cons ?_)))))
      refine wpAny_bind (nameC O5 (ps.length + iA + 3) ((idx3 iA).trans hA) cca ck cka (wpAny_bind (wpAny_standAt (wpAny_pure (wpAny_evalAll_nil ?_)))))
      refine ⟨⟨O5.h.gl.stays _ _ Fa.at', Fa.data⟩, ?_⟩
      show wpAny _ A (call (.ref 25) [cv b] [("abcs", .ref a)]) _ _ s5
      refine wpAny_call (hrec b hbm (env :: outer) s5 (.ref a) _ _ (hctx s5 _ (ps.length + iL + 3) kv O5 ((idx3 iL).trans hL)) O5.h.gl (.inr ⟨a, rfl, O5.h.get (ps.length + ia + 3) ((idx3 ia).trans ha)⟩) (bkw s5 b _ O5.h.gl.stays) (fun s6 r hg O6 => ?_) (fun s6 e hg Z => ?_))
      · have O7 := O5.called O6 (V := []) (by simp) (by simp) (by simp) (List.Sublist.refl _) (by simp)
        replace O7 : Own B s₀ W s6 ((r, .list (cvs (way b))) :: (cenv.locals, .ns [("base", cv b)]) :: (D, .list (refs ps)) :: (I, .iter l (i + 1)) :: (cells ps ++ C)) := O7
        refine appendO O7 2 rfl (by unfold refs; rw [List.length_map, sizeLine_eq]; omega) fun s7 O8 => ?_
        refine ⟨ws.length - (i + 1), by omega, i + 1, ps ++ [(r, way b)], hlt, rfl, ?_, map_way ps ws i b r hps hb, ?_⟩
        · intro b' hb'
          rw [List.take_add_one, hb] at hb'
          rcases List.mem_append.mp hb' with q | q
          · exact hgood b' q
          · have : b' = b := by simpa using q
            rw [this]; exact hg
        · have e1 : refs (ps ++ [(r, way b)]) = refs ps ++ [.ref r] := by unfold refs; rw [List.map_append]; rfl
          have e2 : cells (ps ++ [(r, way b)]) = cells ps ++ [(r, .list (cvs (way b)))] := by unfold cells; rw [List.map_append]; rfl
          rw [e1, e2, ← cl]
          have O9 : Own B s₀ W s7 ((r, .list (cvs (way b))) :: (cenv.locals, .ns [("base", cv b)]) :: (D, .list (refs ps ++ [.ref r])) :: (I, .iter l (i + 1)) :: (cells ps ++ C)) := O8
          have O10 := O9.to (O9.h.weak 1 rfl (c' := .ns []) (ns_weak (fun q hq => by cases hq) (by simp)))
          refine O10.to (O10.h.perm ?_)
          refine (List.Perm.swap _ _ _).trans (List.Perm.cons _ ((List.Perm.swap _ _ _).trans (List.Perm.cons _ ((List.Perm.swap _ _ _).trans (List.Perm.cons _ ?_)))))
          rw [List.append_assoc]
          exact List.perm_middle.symm
      · have hCc5 : (Cc : Addr) = cenv.locals := cl.symm
        obtain ⟨⟨m, hn, _⟩, _⟩ := O5.h.get 0 rfl
        have hfresh := O5.h.fresh _ (.head _)
        have hn6 : s6.heap.Ns cenv.locals m := Ns.slots hn fun o' ho' hnf => Z.keep _ o' ho' (by simp) hfresh.2.2 hnf
        have Z2 := O5.badCall Z (by simp) (by simp)
        refine note_any hfr M.fr cfr Z.fly fun h' f k => ?_
        have Z3 := Z2.step (s' := { s6 with heap := h' }) f k
        have hn7 : h'.Ns cenv.locals m := Ns.slots hn6 fun o' ho' hnf => k.k _ o' ho' hnf
        refine ⟨m, by rw [hCc5]; exact hn7, fun h'' hs cenv' hcl => ?_⟩
        rw [hCc5] at hs hCf
        have Z4 := Z3.but (s' := { s6 with heap := h'' }) hn7 hs hfresh.2.1 hfresh.2.2 hCf hfresh.1
        refine passingAny (s := { s6 with heap := h'' }) Z4.fly fun h3 fl' f3 k3 => ?_
        exact hbad _ e fl' (fun hall => hg (hall b hbm)) (Z4.step (s' := { s6 with heap := h3 }) f3 k3)
  refine codeAny_compStart_list loop ?_
  exact wpAny_pyIter_listiter (O3.h.get 2 rfl) loop
end
end C3
end

section
open PySem PySem.W PyProof.Rows
set_option maxRecDepth 100000
set_option linter.unusedVariables false
namespace C3
theorem way_up : ∀ k < 15, ∀ b ∈ bases k, ∀ j ∈ way b, j ∈ way k ∧ j ≠ k := by decide +kernel
theorem way_down : ∀ k < 15, ∀ j ∈ way k, j = k ∨ ∃ b ∈ bases k, j ∈ way b := by decide +kernel
theorem way_self : ∀ k < 15, k ∈ way k := by decide +kernel
theorem count_less {k j : Nat} (ks : List Nat) (h : j ≠ k) : (ks.filter (· != k)).count j = ks.count j := by
  rw [List.count_filter]
  simpa using h
theorem count_own {k : Nat} (ks : List Nat) : (ks.filter (· != k)).count k = 0 := by
  rw [List.count_eq_zero, List.mem_filter]
  simp
/-- the plain law of the recursion -/
theorem good_own {k : Nat} (hk : k < 15) {ks : List Nat} (h : Good k ks) : (∀ b ∈ List.replicate (ks.count k) k, Good b (ks.filter (· != k))) ∧ (∀ b ∈ bases k, Good b (ks.filter (· != k))) ∧ ks.count k < 2 := by
  refine ⟨fun b hb j hj => ?_, fun b hb j hj => ?_, h k (way_self k hk)⟩
  · rw [List.eq_of_mem_replicate hb] at hj
    by_cases e : j = k
    · rw [e, count_own]; omega
    · rw [count_less ks e]; exact h j hj
  · have := way_up k hk b hb j hj
    rw [count_less ks this.2]; exact h j this.1
theorem good_of {k : Nat} (hk : k < 15) {ks : List Nat} (h2 : ∀ b ∈ bases k, Good b (ks.filter (· != k))) (h3 : ks.count k < 2) : Good k ks := fun j hj => by
  rcases way_down k hk j hj with e | ⟨b, hb, hjb⟩
  · rw [e]; exact h3
  · have := way_up k hk b hb j hjb
    rw [← count_less ks this.2]; exact h2 b hb j hjb
theorem seqs_total {k m : Nat} (hk : k < 15) (hm : m ≤ 100) : total (seqs k m) < 1000 := by
  have h1 : ∀ k < 15, (way k).length ≤ 5 := by decide +kernel
  have h2 : ∀ k < 15, total ((bases k).map way) ≤ 10 := by decide +kernel
  have h3 : ∀ k < 15, (bases k).length ≤ 2 := by decide +kernel
  have e : total (seqs k m) = 1 + (m * (way k).length + (total ((bases k).map way) + (0 + (m + (bases k).length)))) := by
    unfold seqs total
    simp only [List.map_append, List.sum_append, List.map_cons, List.map_nil, List.sum_cons, List.sum_nil, List.length_cons, List.length_nil, List.map_replicate, List.sum_replicate_nat, List.length_replicate]
    omega
  have a1 := h1 k hk
  have a2 := h2 k hk
  have a3 := h3 k hk
  have a4 : m * (way k).length ≤ 100 * 5 := Nat.mul_le_mul hm a1
  omega
theorem seqs_cls {k m : Nat} (hk : k < 15) : ∀ t ∈ seqs k m, ∀ j ∈ t, j < 15 := by
  intro t ht j hj
  unfold seqs at ht
  simp only [List.mem_append, List.mem_cons, List.not_mem_nil, or_false, List.mem_replicate, List.mem_map] at ht
  rcases ht with rfl | ⟨_, rfl⟩ | ⟨b, hb, rfl⟩ | rfl | rfl | rfl
  · rw [List.mem_singleton.mp hj]; exact hk
  · exact way_lt k hk j hj
  · exact way_lt b (base_in_way k hk b hb).1 j hj
  · cases hj
  · rw [List.eq_of_mem_replicate hj]; exact hk
  · exact (base_in_way k hk j hj).1
section
variable {prog : Program} {w : World} {A : Around} {E : Value → Shared → Prop} {s₀ s s' : Shared} {B : Heap} {W : List Addr} {C D : List (Addr × Cell)} {env : Env} {mg mb : Str → Option Value} {R : Result → Shared → Prop} {cA cB : Addr} {T : List (Addr × Cell)} {outer : List Env} {fd : FuncData} {o : Obj}
theorem addO {l b : Addr} {xs ys : List Value} {Q : Value → Shared → Prop} (O : Own B s₀ W s C) (i j : Nat) (hi : C[i]? = some (l, .list xs)) (hj : C[j]? = some (b, .list ys)) (hz : xs.length + ys.length ≤ sizeLine)
    (h : ∀ s' a, Own B s₀ W s' ((a, .list (xs ++ ys)) :: C) → Q (.ref a) s') : wpAny (model prog w) A (binaryOp .Add (.ref l) (.ref b)) Q E s := by
  obtain ⟨n, hl⟩ := O.h.get i hi
  obtain ⟨n2, hb⟩ := O.h.get j hj
  refine P.add_list hl hb (h _ _ (O.to ?_)) (by simpa using hz)
  have := O.h.pushList (xs ++ ys)
  have e : xs.toArray ++ ys.toArray = (xs ++ ys).toArray := by simp
  rw [e]; exact this
/-- [e] -/
theorem listOne {e : Expr} {pos : Pos} {v : Value} {Q : Value → Shared → Prop} (O : Own B s₀ W s C) (he : Reads1 prog w A s (eval e env) v) (hs : starEach [e] env = (false, eval e env) :: starEach [] env)
    (h : ∀ s' a, Own B s₀ W s' ((a, .list [v]) :: C) → Q (.ref a) s') : wpAny (model prog w) A (eval (.List [e] pos) env) Q E s :=
  wpAny_List (wpAny_items_cons (he _ _ (wpAny_items_nil ⟨by size_fits, h _ _ (O.to (O.h.pushList [v]))⟩)) hs)
end
end C3
end

section
open PySem PySem.W PyProof.Rows
set_option maxRecDepth 100000
set_option linter.unusedVariables false
set_option maxHeartbeats 2000000
namespace C3
section
variable {prog : Program} {w : World} {A : Around} {E : Value → Shared → Prop} {s₀ s s' : Shared} {B : Heap} {W : List Addr} {C D : List (Addr × Cell)} {env : Env} {mg mb : Str → Option Value} {R : Result → Shared → Prop} {cA cB : Addr} {T : List (Addr × Cell)} {outer : List Env} {fd fdm : FuncData} {o om : Obj}
abbrev kv9 (k : Nat) (u : Tok) (b c d D1 D2 D3 : Addr) : List (Str × Value) := kv4 k u b c d ++ [(("explicit_c3_mros" : Str), Value.ref D1)] ++ [(("abstract_c3_mros" : Str), Value.ref D2)] ++ [(("other_c3_mros" : Str), Value.ref D3)]
theorem OwnH.addMany {h₀ h h' : Heap} (O : OwnH B h₀ W h C) (hk : ∀ b o, h.get? b = some o → h'.get? b = some o) {D : List (Addr × Cell)} (hD : ∀ p ∈ D, h.get? p.1 = none ∧ p.2.At h' p.1) (nd : (D.map (·.1)).Nodup) : OwnH B h₀ W h' (D ++ C) := by
  have O' := O.grow hk
  refine ⟨O'.gl, fun p hp => ?_, ?_, O'.keep, fun p hp => ?_, O'.alive⟩
  · rcases List.mem_append.mp hp with q | q
    · exact (hD p q).2
    · exact O'.at' p q
  · rw [List.map_append, List.nodup_append]
    refine ⟨nd, O.nd, fun a ha b hb e => ?_⟩
    obtain ⟨p, hp, rfl⟩ := List.mem_map.mp ha
    obtain ⟨q, hq, rfl⟩ := List.mem_map.mp hb
    exact (O.none_of (hD p hp).1).1 q hq e.symm
  · rcases List.mem_append.mp hp with q | q
    · have z := O.none_of (hD p q).1
      exact ⟨.inr z.2.1, z.2.2.1, z.2.2.2.1⟩
    · exact O.fresh p q
theorem Ctx.call2 {V : List Addr} {C2 : List (Addr × Cell)} {kv : List (Str × Value)} (X : Ctx A B s₀.heap W outer) (O : Own B s₀ W s C) (i : Nat) (hi : C[i]? = some (env.locals, .ns kv)) (hk : env.scope.kind = .function) (hf : env.frame = some env.locals)
    (O2 : Own B s₀ W s C2) (hVW : ∀ a ∈ V, a ∉ W) (hV : ∀ a ∈ V, a ∈ C2.map (·.1)) (hL : env.locals ∉ V) : Ctx (A.deeper env) B s.heap V (env :: outer) := by
  refine ⟨X.hd, by show A.frames.map _ = _; rw [X.fr]; rfl, O.frames i hi hk hf X.fs X.out, fun e he a ha => ?_⟩
  rcases List.mem_cons.mp he with q | q
  · subst q; rw [hf] at ha; cases ha
    exact ⟨hL, (O.h.fresh _ (List.mem_of_getElem? hi)).2.2⟩
  · obtain ⟨o, ho⟩ := frames_there X.fs e q a ha
    refine ⟨fun hv => ?_, (X.out e q a ha).2⟩
    obtain ⟨p, hp, hpa⟩ := List.mem_map.mp (hV a hv)
    rcases (O2.h.fresh p hp).1 with z | z
    · exact hVW a hv (hpa ▸ z)
    · rw [hpa] at z; rw [z] at ho; cases ho
theorem mroEnv_of (Fa : FnAt B 25 2 o fd) {L : Addr} (he : env = newEnv fd.scope L fd.globals (cellsFrom (L + 1) fd.scope.names []) (fd.qualname ++ ".<locals>.") (some 25) fd.code none fd.builtins) : MroEnv env (L + 1) (L + 2) := by
  have hs : env.scope = scopeOf (fnAt 2) := by rw [he]; exact Fa.scope
  have hc : env.cells = cellsFrom (L + 1) (scopeOf (fnAt 2)).names [] := by rw [he]; show cellsFrom (L + 1) fd.scope.names [] = _; rw [Fa.scope]
  have hc2 : env.cells = [(Str.ofString "base", L + 2), (Str.ofString "abcs", L + 1)] := by rw [hc]; rfl
  refine ⟨⟨by rw [hs]; rfl, by rw [he]; exact Fa.g, by rw [he]; exact Fa.b, by rw [he]; rfl⟩, ?_, ?_, ?_, ?_, ?_, ?_⟩
  · show ∀ x ∈ _, env.scope.names.lookup x = _
    rw [hs]; decide +kernel
  · show ∀ x ∈ _, env.scope.names.lookup x = _
    rw [hs]; decide +kernel
  · show env.scope.names.lookup _ = _
    rw [hs]; decide +kernel
  · show env.scope.names.lookup _ = _
    rw [hs]; decide +kernel
  · rw [hc2]; rfl
  · rw [hc2]; rfl
/-- the last statement -/
theorem stmt10 (X : Ctx A B s₀.heap [] outer) (hroom : A.depth + 1 < recursionLimit) (Bs : Bas B mg mb) (M : MroEnv env cA cB) (Fm : FnAt B 19 1 om fdm) (bm : ∀ s v, BindsTo s fdm ⟨[v], []⟩ [("sequences", v)])
    {k m : Nat} (hk : k < 15) (hm : m ≤ 100) {u : Tok} {a b c d D1 D2 D3 : Addr} {ps2 ps3 : Pack} {ks : List Nat} {vb : Option Value} {va : Option Value} (h2 : ps2.map (·.2) = List.replicate m (way k)) (h3 : ps3.map (·.2) = (bases k).map way)
    (O : Own B s₀ [] s ((D3, .list (refs ps3)) :: (D2, .list (refs ps2)) :: (D1, .list []) :: (d, .list (cvs (bases k))) :: (c, .list (cvs (List.replicate m k))) :: (b, .list []) :: (a, .list (cvs ks)) ::
      (env.locals, .ns (kv9 k u b c d D1 D2 D3)) :: (cA, .cell va) :: (cB, .cell vb) :: (cells ps2 ++ cells ps3))) {Q : Flow → Shared → Prop}
    (hok : ∀ s' r, m < 2 → Own B s₀ [] s' [(r, .list (cvs (way k)))] → Q (.ret (.ref r)) s')
    (hbad : ∀ s' e fl, ¬ m < 2 → Bad B s₀ [] (env :: outer) e fl s' → E (.ref e) s') :
    wpAny (model prog w) (A.deeper env) (execs [nth mroBody 10] env) (fun f s' => Q f s') E s := by
  have l2 : ps2.length ≤ 100 := by
    have := congrArg List.length h2
    simp at this; omega
  have l3 : ps3.length ≤ 2 := by
    have := congrArg List.length h3
    have h5 : ∀ k < 15, (bases k).length ≤ 2 := by decide +kernel
    have := h5 k hk
    simp at *; omega
  have zl : ∀ n : Nat, n ≤ 200 → n ≤ sizeLine := fun n hn => by rw [sizeLine_eq]; omega
  have e2 : (refs ps2).length ≤ 100 := by unfold refs; simpa using l2
  have e3 : (refs ps3).length ≤ 2 := by unfold refs; simpa using l3
  refine wpAny_execs_cons (wpAny_Return_some (wpAny_Call_ofName (nameG Bs O M.toFenv (M.glo _ (by simp)) Bs.gm ?_)))
  refine Calls.callWith_function (o := om) (fd := fdm) (Calls.evalArgs_plain (Calls.spliced_cons ?_))
  refine wpAny_BinOp (wpAny_BinOp (wpAny_BinOp (wpAny_BinOp (wpAny_BinOp (wpAny_BinOp ?_)))))
  refine wpAny_List (wpAny_items_cons (listOne O (readL O 7 0 rfl rfl M.fn (M.loc _ (by simp))) rfl fun s1 x1 O1 => wpAny_items_nil ⟨by size_fits, ?_⟩))
  have O2 : Own B s₀ [] { s1 with heap := s1.heap.push { cls := .type "list", data := .seq [Value.ref x1].toArray } } _ := O1.to (O1.h.pushList [.ref x1])
  generalize s1.heap.objs.size = x2 at *
  generalize ({ s1 with heap := s1.heap.push { cls := .type "list", data := .seq [Value.ref x1].toArray } } : Shared) = s2 at *
  refine nameL O2 9 5 rfl rfl M.fn (M.loc _ (by simp)) (addO O2 0 4 rfl rfl (by simp; exact zl _ (by omega)) fun s3 y1 O3 => ?_)
  refine nameL O3 10 6 rfl rfl M.fn (M.loc _ (by simp)) (addO O3 0 4 rfl rfl (by simp only [List.length_append, List.length_cons, List.length_nil]; exact zl _ (by omega)) fun s4 y2 O4 => ?_)
  refine nameL O4 11 7 rfl rfl M.fn (M.loc _ (by simp)) (addO O4 0 4 rfl rfl (by simp only [List.length_append, List.length_cons, List.length_nil]; exact zl _ (by omega)) fun s5 y3 O5 => ?_)
  refine listOne O5 (readL O5 12 2 rfl rfl M.fn (M.loc _ (by simp))) rfl fun s6 z1 O6 => ?_
  refine addO O6 1 0 rfl rfl (by simp only [List.length_append, List.length_cons, List.length_nil]; exact zl _ (by omega)) fun s7 y4 O7 => ?_
  refine listOne O7 (readL O7 14 3 rfl rfl M.fn (M.loc _ (by simp))) rfl fun s8 z2 O8 => ?_
  refine addO O8 1 0 rfl rfl (by simp only [List.length_append, List.length_cons, List.length_nil]; exact zl _ (by omega)) fun s9 y5 O9 => ?_
  refine listOne O9 (readL O9 16 4 rfl rfl M.fn (M.loc _ (by simp))) rfl fun s10 z3 O10 => ?_
  refine addO O10 1 0 rfl rfl (by simp only [List.length_append, List.length_cons, List.length_nil]; exact zl _ (by omega)) fun s11 y6 O11 => ?_
  refine Calls.spliced_nil ⟨⟨O11.h.gl.stays _ _ Fm.at', Fm.data⟩, ?_⟩
  show wpAny _ _ (call (.ref 19) [.ref y6] []) _ _ s11
  have hPS : ∃ PS : Pack, PS = (x1, [k]) :: (ps2 ++ (ps3 ++ [(b, []), (c, List.replicate m k), (d, bases k)])) := ⟨_, rfl⟩
  obtain ⟨PS, hPS⟩ := hPS
  have hrefs : refs PS = (((((([Value.ref x1] ++ []) ++ refs ps2) ++ refs ps3) ++ [Value.ref b]) ++ [Value.ref c]) ++ [Value.ref d]) := by
    rw [hPS]; unfold refs; simp
  have hsnd : PS.map (·.2) = seqs k m := by
    rw [hPS]
    simp only [List.map_cons, List.map_append, List.map_nil, h2, h3]
    rfl
  have Osub : Own B s₀ [] s11 ((y6, .list (refs PS)) :: cells PS) := by
    rw [hrefs]
    have O12 : Own B s₀ [] s11 ((y6, Cell.list (((((([Value.ref x1] ++ []) ++ refs ps2) ++ refs ps3) ++ [Value.ref b]) ++ [Value.ref c]) ++ [Value.ref d])) :: (x1, .list [cv k]) :: (d, .list (cvs (bases k))) :: (c, .list (cvs (List.replicate m k))) :: (b, .list []) :: (cells ps2 ++ cells ps3)) := by
      refine O11.to (O11.h.sub ?_)
      refine .cons_cons _ (.cons _ (.cons _ (.cons _ (.cons _ (.cons _ (.cons _ (.cons _ (.cons _ (.cons _ (.cons_cons _ ?_))))))))))
      refine .cons _ (.cons _ (.cons _ (.cons_cons _ (.cons_cons _ (.cons_cons _ (.cons _ (.cons _ (.cons _ (.cons _ (List.Sublist.refl _))))))))))
    refine O12.to (O12.h.perm (List.Perm.cons _ ?_))
    rw [hPS]
    unfold cells
    rw [List.map_cons]
    refine List.Perm.cons _ ?_
    simp only [List.map_append, List.map_cons, List.map_nil]
    rw [← List.append_assoc]
    refine (List.perm_append_comm (l₁ := [(d, Cell.list (cvs (bases k))), (c, .list (cvs (List.replicate m k))), (b, .list [])])).trans ?_
    exact List.Perm.append_left _ (List.reverse_perm [(b, Cell.list []), (c, .list (cvs (List.replicate m k))), (d, .list (cvs (bases k)))])
  have R := Osub.restart
  have hV : ((y6, Cell.list (refs PS)) :: cells PS).map (·.1) = y6 :: PS.map (·.1) := by rw [List.map_cons, cells_fst]
  have hsubV : ∀ a' ∈ y6 :: PS.map (·.1), a' ∈ ((y6, Cell.list (refs PS)) :: cells PS).map (·.1) := fun a' h => by rw [hV]; exact h
  have X2 : Ctx (A.deeper env) B s11.heap (y6 :: PS.map (·.1)) (env :: outer) := by
    refine Ctx.call2 X O11 18 rfl M.fn M.fr Osub (fun a' _ h => by cases h) hsubV fun hm => ?_
    obtain ⟨p, hp, hpe⟩ := List.mem_map.mp (hsubV _ hm)
    obtain ⟨xs, hxs⟩ : ∃ xs, p.2 = .list xs := by
      rcases List.mem_cons.mp hp with q | q
      · exact ⟨_, by rw [q]⟩
      · obtain ⟨r, _, rfl⟩ := List.mem_map.mp q
        exact ⟨_, rfl⟩
    have h1 := Osub.h.at' p hp
    rw [hxs, hpe] at h1
    obtain ⟨n1, ho1⟩ := h1
    obtain ⟨⟨mm, ⟨o2, es, n, ho2, hd2, _⟩, _⟩, _⟩ := O11.h.get 18 rfl
    rw [ho1] at ho2; cases ho2; cases hd2
  rw [hV] at R
  refine wpAny_call (callMerge (mg := mg) (mb := mb) (ps := PS) (W := y6 :: PS.map (·.1)) (outer := env :: outer) X2 hroom Bs Fm (bm _ _) ?_ ?_ ?_ rfl R (fun s12 r ys hmg hr O13 => ?_) (fun s12 e hmg Z => ?_))
  · have := congrArg List.length hPS
    simp at this; omega
  · rw [hsnd]; exact seqs_total hk hm
  · intro p hp j hj
    exact seqs_cls hk p.2 (by rw [← hsnd]; exact List.mem_map_of_mem hp) j hj
  · rw [hsnd, merge_seqs hk (Nat.lt_succ_self _)] at hmg
    by_cases hm2 : m < 2
    · rw [if_pos hm2] at hmg
      cases hmg
      have := Osub.called O13 (fun a' _ h => by cases h) hsubV (fun p hp => by rw [List.mem_singleton.mp hp]; exact hr) (List.nil_sublist _) (fun p hp => by cases hp)
      exact hok s12 r hm2 this
    · rw [if_neg hm2] at hmg; cases hmg
  · rw [hsnd, merge_seqs hk (Nat.lt_succ_self _)] at hmg
    by_cases hm2 : m < 2
    · rw [if_pos hm2] at hmg; cases hmg
    · exact hbad s12 e .none hm2 (Osub.badCall Z (fun a' _ h => by cases h) hsubV)
end
end C3
end

section
open PySem PySem.W PyProof.Rows
set_option maxRecDepth 100000
set_option linter.unusedVariables false
set_option maxHeartbeats 2000000
namespace C3
section
variable {prog : Program} {w : World} {A : Around} {E : Value → Shared → Prop} {s₀ s s' : Shared} {B : Heap} {W : List Addr} {C D : List (Addr × Cell)} {env : Env} {mg mb : Str → Option Value} {R : Result → Shared → Prop} {cA cB : Addr} {T : List (Addr × Cell)} {outer : List Env} {fd fdm : FuncData} {o om : Obj}
theorem own_nil (G : Gl B s.heap) : Own B s [] s [] := by
  have := OwnH.start (B := B) (h := s.heap) (C := []) G (by intro p hp; cases hp) List.nodup_nil (by intro p hp; cases hp)
  exact ⟨this, Sim.refl s⟩
theorem notSpec_list {h : Heap} (S : Stat h) {l : Addr} {x : Obj} (hl : h.get? l = some x) (hc : x.cls = .type "list") : ¬ Spec l := by
  obtain ⟨o2, es, n2, ho2, hcl, hd, _, _, ps, hp, _⟩ := S
  rintro (z | z)
  · rw [z, ho2] at hl; cases hl
    rw [hcl] at hc; cases hc
  · rw [z, hp] at hl; cases hl
    cases hc
/-- the body of _c3_mro -/
theorem mroBodyOk (X : Ctx A B s₀.heap [] outer) (hroom : A.depth + 1 < recursionLimit) (Bs : Bas B mg mb) (M : MroEnv env cA cB) (hcode : env.code = .ref 24) (Fa : FnAt B 25 2 o fd) (Fm : FnAt B 19 1 om fdm)
    (bkw : ∀ s b va, B.StaysIn s.heap → BindsTo s fd ⟨[cv b], [("abcs", va)]⟩ (binds b va)) (bm : ∀ s v, BindsTo s fdm ⟨[v], []⟩ [("sequences", v)])
    {k : Nat} (hk : k < 15) {ks : List Nat} (hks : ∀ j ∈ ks, j < 15) (hz : ks.length ≤ 100)
    (hrec1 : k ∈ ks → MroC prog w B fd (A.deeper env) k (ks.filter (· != k))) (hrec2 : ∀ b ∈ bases k, MroC prog w B fd (A.deeper env) b (ks.filter (· != k)))
    {va : Value} (G : Gl B s₀.heap) (hva2 : Abcs s₀.heap va ks)
    (O : Own B s₀ [] s [(env.locals, .ns [("cls", cv k)]), (cA, .cell (some va)), (cB, .cell none)]) {Q : Flow → Shared → Prop}
    (hok : ∀ s' r, Good k ks → Own B s₀ [] s' [(r, .list (cvs (way k)))] → Q (.ret (.ref r)) s')
    (hbad : ∀ s' e fl, ¬ Good k ks → Bad B s₀ [] (env :: outer) e fl s' → E (.ref e) s') :
    wpAny (model prog w) (A.deeper env) (execs mroBody env) Q E s := by
  have hh : (A.deeper env).handled = none := X.hd
  have hfr : (A.deeper env).frames = some (env :: outer) := by show A.frames.map _ = _; rw [X.fr]; rfl
  have hctx : ∀ (s : Shared) (C : List (Addr × Cell)) (i : Nat) (kv : List (Str × Value)), Own B s₀ [] s C → C[i]? = some (env.locals, .ns kv) → Ctx (A.deeper env) B s.heap [] (env :: outer) :=
    fun s C i kv O hi => X.call O i hi M.fn M.fr (by simp) (by simp) (by simp)
  have hkeep : ∀ {s' : Shared} {C : List (Addr × Cell)}, Own B s₀ [] s' C → Abcs s'.heap va ks := fun {s'} {C} O' => by
    rcases hva2 with ⟨e1, e2⟩ | ⟨l, e1, n, ho⟩
    · exact .inl ⟨e1, e2⟩
    · exact .inr ⟨l, e1, n, O'.h.keep l _ ho (by simp) (notSpec_list G.stat ho rfl)⟩
  have hz2 : ks.length < 1000 := by omega
  have hfl : ∀ j ∈ ks.filter (· != k), j < 15 := fun j hj => hks j (List.mem_filter.mp hj).1
  have hcnt : ks.count k ≤ 100 := Nat.le_trans List.count_le_length hz
  have hrec1' : ∀ b ∈ List.replicate (ks.count k) k, MroC prog w B fd (A.deeper env) b (ks.filter (· != k)) := fun b hb => by
    obtain ⟨h0, rfl⟩ := List.mem_replicate.mp hb
    exact hrec1 (List.count_pos_iff.mp (Nat.pos_of_ne_zero h0))
  have hlb : (bases k).length < 1000 := by
    have h5 : ∀ k < 15, (bases k).length ≤ 2 := by decide +kernel
    have := h5 k hk
    omega
  refine wpAny_execs_cons (stmt0 hh Bs M hk O fun s1 u vb O1 => ?_)
  refine wpAny_execs_cons (stmt1 Bs M (hkeep O1) hz2 O1 fun s2 a O2 => ?_)
  refine wpAny_execs_cons (stmt2 Bs M hk O2 fun s3 b O3 => ?_)
  refine wpAny_execs_cons (stmt3 M (by simp only [List.map_cons, List.map_nil]; decide +kernel) O3 fun s4 c O4 => ?_)
  refine wpAny_execs_cons (stmt4 (kv := [("explicit_bases", .ref b), ("abstract_bases", .ref c)]) Bs M hk (by simp only [List.map_cons, List.map_nil]; decide +kernel) O4 fun s5 d O5 => ?_)
  refine wpAny_execs_cons (stmt5 hh hroom Bs M hcode hk hks hz2 O5 fun s6 vb6 O6 => ?_)
  refine wpAny_execs_cons (stmt6 hh M hk hks hz2 O6 fun s7 vb7 O7 => ?_)
  refine wpAny_execs_cons (compRec (y := "explicit_c3_mros") (it := "explicit_bases") (ws := []) (ks := ks.filter (· != k)) hh hfr Bs M Fa bkw hctx (by intro b hb; cases hb) (by simp) hfl (by intro b hb; cases hb) O7 4 2 2 3 5 rfl rfl rfl rfl rfl
    (M.loc _ (by simp)) (M.loc _ (by simp)) (by simp only [List.map_cons, List.map_nil]; decide +kernel) (by decide +kernel) (swaps_true M.fn (M.loc _ (by simp)) (by decide +kernel)) (fun s8 D1 ps1 _ hps1 O8 => ?_) (fun s8 e fl hg Z => absurd (fun b hb => by cases hb) hg))
  obtain rfl : ps1 = [] := List.map_eq_nil_iff.mp hps1
  refine wpAny_execs_cons (compRec (y := "abstract_c3_mros") (it := "abstract_bases") (ws := List.replicate (ks.count k) k) (ks := ks.filter (· != k)) hh hfr Bs M Fa bkw hctx (fun b hb => by rw [List.eq_of_mem_replicate hb]; exact hk) (by rw [List.length_replicate]; omega) hfl
    hrec1' O8 5 3 2 4 6 rfl rfl rfl rfl rfl
    (M.loc _ (by simp)) (M.loc _ (by simp)) (by simp only [List.map_append, List.map_cons, List.map_nil]; decide +kernel) (by decide +kernel) (swaps_true M.fn (M.loc _ (by simp)) (by decide +kernel)) (fun s9 D2 ps2 hg2 hps2 O9 => ?_) (fun s9 e fl hg Z => hbad s9 e fl (fun hG => hg (good_own hk hG).1) Z))
  have O9' : Own B s₀ [] s9 ((D2, .list (refs ps2)) :: (D1, .list []) :: (d, .list (cvs (bases k))) :: (c, .list (cvs (List.replicate (ks.count k) k))) :: (b, .list []) :: (a, .list (cvs (ks.filter (· != k)))) ::
      (env.locals, .ns (kv4 k u b c d ++ [(("explicit_c3_mros" : Str), Value.ref D1)] ++ [(("abstract_c3_mros" : Str), Value.ref D2)])) :: (cA, .cell (some (.ref a))) :: (cB, .cell vb7) :: cells ps2) :=
    O9.to (O9.h.perm (List.Perm.cons _ List.perm_append_comm))
  refine wpAny_execs_cons (compRec (y := "other_c3_mros") (it := "other_bases") (ws := bases k) (ks := ks.filter (· != k)) hh hfr Bs M Fa bkw hctx (fun b hb => (base_in_way k hk b hb).1) hlb hfl hrec2 O9' 6 4 2 5 7 rfl rfl rfl rfl rfl
    (M.loc _ (by simp)) (M.loc _ (by simp)) (by simp only [List.map_append, List.map_cons, List.map_nil]; decide +kernel) (by decide +kernel) (swaps_true M.fn (M.loc _ (by simp)) (by decide +kernel)) (fun s10 D3 ps3 hg3 hps3 O10 => ?_) (fun s10 e fl hg Z => hbad s10 e fl (fun hG => hg (good_own hk hG).2.1) Z))
  have O10' : Own B s₀ [] s10 ((D3, .list (refs ps3)) :: (D2, .list (refs ps2)) :: (D1, .list []) :: (d, .list (cvs (bases k))) :: (c, .list (cvs (List.replicate (ks.count k) k))) :: (b, .list []) :: (a, .list (cvs (ks.filter (· != k)))) ::
      (env.locals, .ns (kv9 k u b c d D1 D2 D3)) :: (cA, .cell (some (.ref a))) :: (cB, .cell vb7) :: (cells ps2 ++ cells ps3)) :=
    O10.to (O10.h.perm (List.Perm.cons _ List.perm_append_comm))
  rw [List.map_replicate] at hps2
  refine stmt10 (m := ks.count k) X hroom Bs M Fm bm hk hcnt hps2 hps3 O10' (fun s11 r hm O11 => hok s11 r (good_of hk hg3 hm) O11) (fun s11 e fl hm Z => hbad s11 e fl (fun hG => hm (good_own hk hG).2.2) Z)
end
end C3
end

section
open PySem PySem.W PyProof.Rows
set_option maxRecDepth 100000
set_option linter.unusedVariables false
set_option maxHeartbeats 2000000
namespace C3
def rank (k : Nat) (ks : List Nat) : Nat := 2 * (way k).length + (if k ∈ ks then 1 else 0)
theorem way_less : ∀ k < 15, ∀ b ∈ bases k, (way b).length < (way k).length := by decide +kernel
theorem rank_own {k : Nat} {ks : List Nat} (h : k ∈ ks) : rank k (ks.filter (· != k)) < rank k ks := by
  unfold rank
  rw [if_pos h, if_neg (by simp)]
  omega
theorem rank_base {k b : Nat} (hk : k < 15) (hb : b ∈ bases k) (ks ks' : List Nat) : rank b ks' < rank k ks := by
  have := way_less k hk b hb
  unfold rank
  split <;> split <;> omega
section
variable {prog : Program} {w : World} {B : Heap} {mg mb : Str → Option Value} {fd fdm : FuncData} {o om : Obj}
theorem mroOk (Bs : Bas B mg mb) (hcode : fd.code = .ref 24) (Fa : FnAt B 25 2 o fd) (Fm : FnAt B 19 1 om fdm) (bkw : ∀ s b va, B.StaysIn s.heap → BindsTo s fd ⟨[cv b], [("abcs", va)]⟩ (binds b va)) (bm : ∀ s v, BindsTo s fdm ⟨[v], []⟩ [("sequences", v)]) :
    ∀ (n k : Nat) (ks : List Nat) (A : Around), k < 15 → (∀ j ∈ ks, j < 15) → ks.length ≤ 100 → rank k ks < n → A.depth + n + 2 < recursionLimit → MroC prog w B fd A k ks
  | 0, _, _, _, _, _, _, h, _ => absurd h (Nat.not_lt_zero _)
  | n + 1, k, ks, A, hk, hks, hz, hr, hd => by
    intro outer s va args R X G hva hb hok hbad
    have hf1 : ∀ j ∈ ks.filter (· != k), j < 15 := fun j hj => hks j (List.mem_filter.mp hj).1
    have hf2 : (ks.filter (· != k)).length ≤ 100 := Nat.le_trans (List.length_filter_le _ _) hz
    refine codeAny_call_function (by omega) (G.stays _ _ Fa.at') Fa.data (by rw [Fa.scope]; rfl) (by rw [Fa.scope]; rfl) Fa.body (Fa.code.keeps G.stays) (hb _ _ _ _ ?_)
    rw [Fa.clo]
    refine wpAny_newFunctionEnv_cells (by rw [Fa.scope]; rfl) ?_ fun env he s' x => ?_
    · intro p hp
      simp only [List.mem_cons, List.not_mem_nil, or_false] at hp
      rcases hp with rfl | rfl
      · left
        show fd.scope.names.lookup (Str.ofString "cls") = _
        rw [Fa.scope]; decide +kernel
      · right
        refine ⟨?_, ?_⟩
        · show fd.scope.names.lookup (Str.ofString "abcs") = _
          rw [Fa.scope]; decide +kernel
        · show ((cellsFrom _ fd.scope.names []).lookup (Str.ofString "abcs")).isSome = true
          rw [Fa.scope]; rfl
    have M := mroEnv_of Fa he
    have hL : env.locals = s.heap.objs.size := by rw [he]; rfl
    have hc : env.code = .ref 24 := by rw [he]; exact hcode
    refine ⟨(own_nil G).h.gl.stat.noLimit.keeps x.toInCall.keep, codeAny_func ?_⟩
    have O : Own B s [] s' [(env.locals, .ns [("cls", cv k)]), (s.heap.objs.size + 1, .cell (some va)), (s.heap.objs.size + 2, .cell none)] := by
      obtain ⟨h', tk, rfl⟩ := x.toInCall.same
      have hno : ∀ a, s.heap.objs.size ≤ a → s.heap.get? a = none := fun a ha => Heap.get?_none_of_le ha
      have k1 : env.kindOf (Str.ofString "cls") = some .local := M.loc _ (by simp)
      have k2 : env.kindOf (Str.ofString "abcs") = some .cell := M.abcs
      have hns := x.toInCall.ns
      have c1 := x.cell _ _ M.ca
      have c2 := x.cell _ _ M.cb
      simp only [bindL, bindC, k1, k2, if_true] at hns c1 c2
      rw [if_neg (by decide)] at hns c1 c2
      have O0 := own_nil (s := s) G
      have := O0.h.addMany (h' := h') x.toInCall.keep (D := [(env.locals, .ns [("cls", cv k)]), (s.heap.objs.size + 1, .cell (some va)), (s.heap.objs.size + 2, .cell none)]) ?_ ?_
      · exact O0.to this
      · intro p hp
        simp only [List.mem_cons, List.not_mem_nil, or_false] at hp
        rcases hp with rfl | rfl | rfl
        · refine ⟨hno _ (by rw [hL]; exact Nat.le_refl _), ⟨_, hns, fun q hq => ?_⟩, by simp⟩
          rw [List.mem_singleton.mp hq]
          exact if_pos rfl
        · exact ⟨hno _ (by omega), by rw [if_pos rfl] at c1; exact c1⟩
        · exact ⟨hno _ (by omega), by rw [if_neg (by decide +kernel)] at c2; exact c2⟩
      · rw [hL]
        simp
    refine mroBodyOk X (by omega) Bs M hc Fa Fm bkw bm hk hks hz (fun hm => mroOk Bs hcode Fa Fm bkw bm n k _ _ hk hf1 hf2 (by have := rank_own hm; omega) (by show A.depth + 1 + n + 2 < _; omega))
      (fun b hb => mroOk Bs hcode Fa Fm bkw bm n b _ _ (base_in_way k hk b hb).1 hf1 hf2 (by have := rank_base hk hb ks (ks.filter (· != k)); omega) (by show A.depth + 1 + n + 2 < _; omega)) G hva O
      (fun s'' r hg Or => hok s'' r hg Or) (fun s'' e fl hg Z => ?_)
    have hfr : (A.deeper env).frames = some (env :: outer) := by show A.frames.map _ = _; rw [X.fr]; rfl
    exact leavesAny hfr M.fr Z.fly fun h' f k => hbad _ e hg (Z.step (s' := { s'' with heap := h' }) f k)
end
end C3
end

section
open PySem PySem.W PyProof.Rows
set_option maxRecDepth 100000
set_option linter.unusedVariables false
namespace C3
/-- what is handled: nothing, or an exception without a context -/
def ExcOk (A : Around) (h : Heap) : Prop := A.handled = none ∨ ∃ x ox vs, A.handled = some (.ref x) ∧ h.get? x = some ox ∧ ox.data = .fields vs ∧ vs[2]? = some .none
def excAt (A : Around) : List Addr := match A.handled with | some (.ref x) => [x] | _ => []
theorem ExcOk.at' {A : Around} {h h' : Heap} (X : ExcOk A h) (hk : ∀ x ∈ excAt A, ∀ o, h.get? x = some o → h'.get? x = some o) : ExcOk A h' := by
  rcases X with e | ⟨x, ox, vs, e, hx, r⟩
  · exact .inl e
  · exact .inr ⟨x, ox, vs, e, hk x (by unfold excAt; rw [e]; simp) _ hx, r⟩
theorem entry_unchain : entryFor table "proto.unchain" = some Builtin.«proto.unchain» := entryFor_of_fast (by kernel_rfl)
section
variable {prog : Program} {w : World} {A : Around} {E : Value → Shared → Prop} {s : Shared}
/-- a new exception is raised -/
theorem raiseNewH {α : Type} {e : Addr} {Q : α → Shared → Prop} {oe : Obj} (X : ExcOk A s.heap) {ve : Array Value} (he : s.heap.get? e = some oe) (hde : oe.data = .fields ve) (hsz : 2 < ve.size) (hne : ∀ x ∈ excAt A, x ≠ e) (h : ∀ h', Heap.SameBut e s.heap h' → (∃ o, h'.get? e = some o ∧ o.cls = oe.cls) → E (.ref e) { s with heap := h' }) :
    wpAny (model prog w) A (raiseNew (.ref e) : Sem α) Q E s := by
  unfold raiseNew
  refine wpAny_bind (wpAny_handled ?_)
  rcases X with q | ⟨x, ox, vs, q, hx, hd, h2⟩
  · rw [q]
    refine wpAny_bind (wpAny_pure (wpAny_throw ?_))
    exact h s.heap (Heap.SameBut.refl _ _) ⟨_, he, rfl⟩
  · rw [q]
    have hxe : x ≠ e := hne x (by unfold excAt; rw [q]; simp)
    dsimp only
    rw [if_pos (by simpa using hxe)]
    refine wpAny_bind (wpAny_holding (wpAny_runValue (codeAny_builtin entry_unchain ?_)))
    show wpAny _ _ (field (.ref x) 2 >>= _) _ _ s
    refine wpAny_bind (wpAny_field hx hd h2 ?_)
    rw [if_pos (by decide)]
    refine wpAny_pure ?_
    show wpAny _ _ (setField (.ref e) 2 (.ref x) >>= fun _ => throw (.ref e)) _ _ s
    refine wpAny_bind (wpAny_setField he hde hsz (wpAny_throw (h _ (Heap.SameBut.update ..) ⟨_, Heap.get?_update_self _ he (Obj.isFreed_of_fields (Obj.data_mapFields hde _)), Obj.cls_mapFields ..⟩)))
theorem listEndH {it l : Addr} {i : Nat} {items : Array Value} {Q : Option Value → Shared → Prop} (X : ExcOk A s.heap) (hit : s.heap.IsListIter it l i) (hl : s.heap.IsList l items) (hx : items[i]? = none)
    (hQ : ∀ h', Heap.ExtBut it s.heap h' → Q none { s with heap := h' }) : wpAny (model prog w) A (pyNext (.ref it)) Q E s := by
  obtain ⟨o, ho, hc, hd⟩ := id hit
  obtain ⟨ol, hol, _, nl, hdl⟩ := hl
  unfold pyNext
  refine wpAny_bind (wpAny_attempt (wpAny_callSpecial?_slot (name := Str.ofString "__next__") hit.typeIs slot_listiter_next
    (wpAny_call_entry slot_listiter_next hit.typeIs entry_listiter_next ?_ (args_listiter_next _))))
  show wpAny _ _ (field (.ref it) 0 >>= _) _ _ s
  refine wpAny_bind (wpAny_field ho hd (x := .ref l) rfl ?_)
  show wpAny _ _ (if (Value.ref l == Value.none) = true then _ else _) _ _ s
  rw [if_neg (show ¬ ((Value.ref l == Value.none) = true) from Bool.false_ne_true)]
  show wpAny _ _ (field (.ref it) 1 >>= _) _ _ s
  refine wpAny_bind (wpAny_field ho hd (x := .int i 0) rfl ?_)
  show wpAny _ _ (seqItems? (.ref l) >>= _) _ _ s
  refine wpAny_bind (wpAny_seqItems hol hdl ?_)
  simp only [Int.toNat_natCast, hx]
  refine wpAny_bind (wpAny_rule (wpAny_bind (wpAny_setField ho hd (by simp) ?_)))
  have X1 : ExcOk A.in1 (s.heap.update it (Obj.mapFields (·.setIfInBounds 0 Value.none))) := by
    rcases X with q | ⟨x, ox, vs, q, hx, hdx, h2⟩
    · exact .inl q
    · refine .inr ⟨x, ox, vs, q, (Heap.get?_update_other _ _ (fun z => ?_)).trans hx, hdx, h2⟩
      rw [← z, ho] at hx
      cases hx
      rw [hd] at hdx
      cases hdx
      cases h2
  show wpAny _ _ (newExc (.type "StopIteration") [] >>= _) _ _ _
  refine wpAny_bind ?_
  simp only [newExc, newTuple]
  refine wpAny_bind (wpAny_newObj_type ?_ (by size_fits))
  refine wpAny_bind (m := firstArgMember _ _) (wpAny_of_eq (a := Value.none) (by first | rfl | (simp only [firstArgMember]; rfl)) ?_)
  refine wpAny_newObj_type ?_ (by size_fits)
  have up : ∀ (h : Heap) (o1 o2 : Obj) b o, h.get? b = some o → ((h.push o1).push o2).get? b = some o := fun h o1 o2 b o e => Heap.get?_push_of_some _ (Heap.get?_push_of_some _ e)
  refine raiseNewH (A := A.in1) (X1.at' fun x _ o e => up _ _ _ _ _ e) (Heap.get?_push_size _ rfl) rfl (by simp; omega) (fun x hx q => ?_) fun h' hs' ho' => ?_
  · rcases X1 with z | ⟨x', ox, vs, z, hx', _⟩
    · unfold excAt at hx; rw [z] at hx; cases hx
    · unfold excAt at hx; rw [z] at hx
      have : x = x' := by simpa using hx
      have h1 := Heap.lt_size hx'
      rw [← this, q] at h1
      dsimp only at h1
      rw [Heap.size_push] at h1
      exact Nat.not_lt.mpr (Nat.le_succ _) h1
  · obtain ⟨o1, ho1, hc1⟩ := ho'
    refine wpAny_bind (wpAny_isInstance (T := "StopIteration") (b := true) ⟨o1, ho1, hc1⟩ isSubtype_stop ?_)
    refine wpAny_pure (hQ _ fun b o hb e => ?_)
    have e1 := (Heap.SameBut.update s.heap it (Obj.mapFields (·.setIfInBounds 0 Value.none))).extBut b o hb e
    refine (hs'.2 b (fun z => ?_)).trans (up _ _ _ _ _ e1)
    have h1 := Heap.lt_size e1
    rw [z] at h1
    dsimp only at h1
    rw [Heap.size_push] at h1
    exact Nat.not_lt.mpr (Nat.le_succ _) h1
/-- the walk over a list, whatever is handled -/
theorem walksH (I ax : Addr) (hne : ax ≠ I) (items : Array Value) (hI : I ∉ excAt A) :
    Walks prog w A I (I :: ax :: excAt A) [I] items.size (fun i v => items[i]? = some v) (fun i h => h.IsListIter I ax i ∧ h.IsList ax items ∧ ExcOk A h) where
  sub := fun b hb => by simp at hb; simp [hb]
  frame := fun _ _ _ st hk => ⟨st.1.at fun o e => hk I (by simp) o e, st.2.1.at fun o e => hk ax (by simp) o e, st.2.2.at' fun x hx o e => hk x (by simp [hx]) o e⟩
  item := fun i s Q E hi st hQ => by
    refine wpAny_pyNext_list_item st.1 st.2.1 (x := items[i]) (by simp [hi]) fun h' hit' hs' => ?_
    exact hQ _ h' s.toks (by simp [hi]) ⟨hit', st.2.1.extBut hs'.extBut hne, st.2.2.at' fun x hx o e => hs'.extBut x o (fun q => hI (q ▸ hx)) e⟩ fun b o hb e => hs'.extBut b o (fun h => hb (by simp [h])) e
  done := fun s Q E st hQ => listEndH st.2.2 st.1 st.2.1 (by simp) fun h' he' => hQ h' s.toks fun b o hb e => he' b o (fun h => hb (by simp [h])) e
  self := fun _ _ _ _ st hQ => wpAny_pyIter_listiter st.1 hQ
end
end C3
end

section
open PySem PySem.W PyProof.Rows
set_option maxRecDepth 100000
set_option linter.unusedVariables false
namespace C3
section
variable {prog : Program} {w : World} {A : Around} {E : Value → Shared → Prop} {s₀ s : Shared} {B : Heap} {W : List Addr} {C : List (Addr × Cell)} {env : Env}
/-- what the comprehension does with an item -/
structure CompBy (prog : Program) (w : World) (A : Around) (env : Env) (scope : Scope) (cl : List (Str × Addr)) (x : Str) (ifs : List Expr) (elt : Expr) (xs : List Value) (p : Value → Bool) (F : Value → Value → Prop) (s : Shared) : Prop where
  tests : ∀ Cc v s₃ m₃ E', v ∈ xs → s₃.heap.Ns Cc m₃ → m₃ x = some v → (∀ b o, s.heap.get? b = some o → s₃.heap.get? b = some o) → s.heap.objs.size ≤ Cc →
      wpAny (model prog w) A (testsOf ifs (compEnvC scope cl Cc env)) (fun ok s₄ => ok = p v ∧ Keeps s₃ s₄) E' s₃
  elt : ∀ Cc v s₃ m₃ E', v ∈ xs → p v = true → s₃.heap.Ns Cc m₃ → m₃ x = some v → (∀ b o, s.heap.get? b = some o → s₃.heap.get? b = some o) → s.heap.objs.size ≤ Cc →
      wpAny (model prog w) A (eval elt (compEnvC scope cl Cc env)) (fun y s₄ => F v y ∧ Keeps s₃ s₄) E' s₃
theorem excAt_lt {h : Heap} (X : ExcOk A h) : ∀ x ∈ excAt A, x < h.objs.size := fun x hx => by
  unfold excAt at hx
  rcases X with q | ⟨y, ox, vs, q, hy, _⟩
  · rw [q] at hx; cases hx
  · rw [q] at hx
    have : x = y := by simpa using hx
    rw [this]; exact Heap.lt_size hy
/-- [elt for x in iter if ..], quiet -/
theorem compEval {elt iter : Expr} {x : Str} {px : Pos} {ifs : List Expr} {scope : Scope} {cl : List (Str × Addr)} {pos : Pos} {Q : Value → Shared → Prop} (p : Value → Bool) (F : Value → Value → Prop)
    (hclos : closureFor scope env = pure cl) (hcell : ∀ z ∈ scope.names, z.2 ≠ .cell) (hkind : scope.kind = .function)
    (hnames : ∀ z ∈ scope.names, z.2 = .local → scope.names.lookup z.1 = some .local) (hx : scope.names.lookup x = some .local)
    (h : wpAny (model prog w) A (eval iter env) (fun xv s₁ => ∃ l xs C₁, xv = .ref l ∧ Own B s₀ W s₁ C₁ ∧ s₁.heap.IsList l xs.toArray ∧ xs.length ≤ sizeLine ∧ ExcOk A s₁.heap ∧ CompBy prog w A env scope cl x ifs elt xs p F s₁ ∧
      ∀ s' D ys, Paired F (xs.filter p) ys → Own B s₀ W s' ((D, .list ys) :: C₁) → (∀ b o, s₁.heap.get? b = some o → s'.heap.get? b = some o) → Q (.ref D) s') E s)
    (hs : ∀ x, foldedSetIterable iter env x = pure x := by intro _; rfl) :
    wpAny (model prog w) A (eval (.ListComp elt [⟨.Name x px, iter, ifs, 0⟩] scope pos) env) Q E s := by
  refine wpAny_ListComp_free p F hclos hcell hkind hnames hx (wpAny_mono h (fun xv s₁ h₁ => ?_) fun _ _ e => e) hs
  obtain ⟨l, xs, C₁, rfl, O, hl, hz, X, K, hQ⟩ := h₁
  refine wpAny_pyIter_list hl ?_
  have hlt : l < s₁.heap.objs.size := by obtain ⟨o, ho, _⟩ := hl; exact Heap.lt_size ho
  have up : ∀ b o, s₁.heap.get? b = some o → b ∉ [s₁.heap.objs.size] ∧ (s₁.heap.push { cls := .type "list_iterator", data := .fields #[.ref l, .int 0 0] }).get? b = some o := fun b o e =>
    ⟨fun q => Nat.ne_of_lt (Heap.lt_size e) (List.mem_singleton.mp q), Heap.get?_push_of_some _ e⟩
  have hIx : s₁.heap.objs.size ∉ excAt A := fun q => Nat.lt_irrefl _ (excAt_lt X _ q)
  refine ⟨s₁.heap.objs.size, _, _, _, _, _, rfl, walksH s₁.heap.objs.size l (Nat.ne_of_lt hlt) xs.toArray hIx, by simpa using hz,
    ⟨⟨_, Heap.get?_push_size _ rfl, rfl, rfl⟩, hl.push _, X.at' fun x _ o e => Heap.get?_push_of_some _ e⟩, fun b hb => ?_, ⟨?_, ?_⟩, ?_⟩
  · rw [Heap.size_push]
    simp only [List.mem_cons] at hb
    rcases hb with e | e | e
    · rw [e]; exact Nat.lt_succ_self _
    · rw [e]; exact Nat.lt_succ_of_lt hlt
    · exact Nat.lt_succ_of_lt (excAt_lt X _ e)
  · intro Cc k v s₃ m₃ E' hC hv hn₃ hm₃ hk₃ _
    rw [Heap.size_push] at hC
    exact K.tests Cc v s₃ m₃ E' (by
      have : xs[k]? = some v := by simpa using hv
      exact List.mem_of_getElem? this) hn₃ hm₃ (fun b o e => hk₃ b o (up b o e).1 (up b o e).2) (Nat.le_of_succ_le hC)
  · intro Cc k v s₃ m₃ E' hC hv hp hn₃ hm₃ hk₃ _
    rw [Heap.size_push] at hC
    exact K.elt Cc v s₃ m₃ E' (by
      have : xs[k]? = some v := by simpa using hv
      exact List.mem_of_getElem? this) hp hn₃ hm₃ (fun b o e => hk₃ b o (up b o e).1 (up b o e).2) (Nat.le_of_succ_le hC)
  · intro D h' tk ys vs hD hl' hpl hlen hP hF hkeep
    have hvs : vs = xs := by
      refine List.ext_getElem? fun k => ?_
      have hlen' : vs.length = xs.length := by simpa using hlen
      cases e : vs[k]? with
      | some v => have := hP k v e; simpa using this.symm
      | none =>
        rw [List.getElem?_eq_none_iff] at e
        rw [eq_comm, List.getElem?_eq_none_iff]; omega
    subst hvs
    have Dn : s₁.heap.get? D = none := by
      cases q : s₁.heap.get? D with
      | none => rfl
      | some o => rw [(up D o q).2] at hD; cases hD
    have step : ∀ b o, s₁.heap.get? b = some o → h'.get? b = some o := fun b o e => hkeep b o (up b o e).1 (up b o e).2
    refine hQ _ D ys.toList hF (O.to (O.h.add (h' := h') step Dn ?_)) step
    show h'.PlainList D _
    simpa using hpl
/-- y = [elt for x in iter if ..] into a local name, quiet -/
theorem compPut {elt iter : Expr} {x y : Str} {px py : Pos} {ifs : List Expr} {scope : Scope} {cl : List (Str × Addr)} {pos spos : Pos} {Q : Flow → Shared → Prop} (p : Value → Bool) (F : Value → Value → Prop)
    (hsw : swapsWith (.ListComp elt [⟨.Name x px, iter, ifs, 0⟩] scope pos) (some (.Name y py)) spos.line env = pure true)
    (hclos : closureFor scope env = pure cl) (hcell : ∀ z ∈ scope.names, z.2 ≠ .cell) (hkind : scope.kind = .function)
    (hnames : ∀ z ∈ scope.names, z.2 = .local → scope.names.lookup z.1 = some .local) (hx : scope.names.lookup x = some .local)
    (hk : env.scope.kind = .function) (hy : env.kindOf y = some .local)
    (h : wpAny (model prog w) A (eval iter env) (fun xv s₁ => ∃ l xs C₁ i kv, xv = .ref l ∧ Own B s₀ W s₁ C₁ ∧ s₁.heap.IsList l xs.toArray ∧ xs.length ≤ sizeLine ∧ ExcOk A s₁.heap ∧ CompBy prog w A env scope cl x ifs elt xs p F s₁ ∧
      C₁[i]? = some (env.locals, .ns kv) ∧ y ∉ kv.map (·.1) ∧ ∀ s' D ys, Paired F (xs.filter p) ys → Own B s₀ W s' ((D, .list ys) :: C₁.set i (env.locals, .ns (kv ++ [(y, .ref D)]))) → Q .next s') E s)
    (hs : ∀ x, foldedSetIterable iter env x = pure x := by intro _; rfl) :
    wpAny (model prog w) A (exec (.Assign [.Name y py] (.ListComp elt [⟨.Name x px, iter, ifs, 0⟩] scope pos) spos) env) Q E s := by
  refine wpAny_Assign_ListComp_free p F hsw hclos hcell hkind hnames hx hy (by rw [hk]; rfl) (wpAny_mono h (fun xv s₁ h₁ => ?_) fun _ _ e => e) hs
  obtain ⟨l, xs, C₁, i, kv, rfl, O, hl, hz, X, K, hi, hyn, hQ⟩ := h₁
  refine wpAny_pyIter_list hl ?_
  have hlt : l < s₁.heap.objs.size := by obtain ⟨o, ho, _⟩ := hl; exact Heap.lt_size ho
  have up : ∀ b o, s₁.heap.get? b = some o → b ∉ [s₁.heap.objs.size] ∧ (s₁.heap.push { cls := .type "list_iterator", data := .fields #[.ref l, .int 0 0] }).get? b = some o := fun b o e =>
    ⟨fun q => Nat.ne_of_lt (Heap.lt_size e) (List.mem_singleton.mp q), Heap.get?_push_of_some _ e⟩
  have hIx : s₁.heap.objs.size ∉ excAt A := fun q => Nat.lt_irrefl _ (excAt_lt X _ q)
  obtain ⟨⟨m, hn, hm⟩, hd⟩ := O.h.get i hi
  refine ⟨s₁.heap.objs.size, _, _, _, _, _, m, rfl, walksH s₁.heap.objs.size l (Nat.ne_of_lt hlt) xs.toArray hIx, by simpa using hz,
    ⟨⟨_, Heap.get?_push_size _ rfl, rfl, rfl⟩, hl.push _, X.at' fun x _ o e => Heap.get?_push_of_some _ e⟩, fun b hb => ?_, by simpa using Nat.ne_of_lt hn.lt, hn.push _, ⟨?_, ?_⟩, ?_⟩
  · rw [Heap.size_push]
    simp only [List.mem_cons] at hb
    rcases hb with e | e | e
    · rw [e]; exact Nat.lt_succ_self _
    · rw [e]; exact Nat.lt_succ_of_lt hlt
    · exact Nat.lt_succ_of_lt (excAt_lt X _ e)
  · intro Cc k v s₃ m₃ E' hC hv hn₃ hm₃ hk₃ _
    rw [Heap.size_push] at hC
    exact K.tests Cc v s₃ m₃ E' (by
      have : xs[k]? = some v := by simpa using hv
      exact List.mem_of_getElem? this) hn₃ hm₃ (fun b o e => hk₃ b o (up b o e).1 (up b o e).2) (Nat.le_of_succ_le hC)
  · intro Cc k v s₃ m₃ E' hC hv hp hn₃ hm₃ hk₃ _
    rw [Heap.size_push] at hC
    exact K.elt Cc v s₃ m₃ E' (by
      have : xs[k]? = some v := by simpa using hv
      exact List.mem_of_getElem? this) hp hn₃ hm₃ (fun b o e => hk₃ b o (up b o e).1 (up b o e).2) (Nat.le_of_succ_le hC)
  · intro D h' tk ys vs hD hl' hpl hlen hP hF hn' hkeep
    have hvs : vs = xs := by
      refine List.ext_getElem? fun k => ?_
      have hlen' : vs.length = xs.length := by simpa using hlen
      cases e : vs[k]? with
      | some v => have := hP k v e; simpa using this.symm
      | none =>
        rw [List.getElem?_eq_none_iff] at e
        rw [eq_comm, List.getElem?_eq_none_iff]; omega
    subst hvs
    have Dn : s₁.heap.get? D = none := by
      cases q : s₁.heap.get? D with
      | none => rfl
      | some o => rw [(up D o q).2] at hD; cases hD
    have step : ∀ b o, b ≠ env.locals → s₁.heap.get? b = some o → h'.get? b = some o := fun b o hb e => hkeep b o hb (up b o e).1 (up b o e).2
    have P := puts_new (v := .ref D) hyn
    have H1 : OwnH B s₀.heap W h' (C₁.set i (env.locals, .ns (kv ++ [(y, .ref D)]))) := O.h.set i hi (h' := h') step (ns_update (kv := kv) hn' hm P.each (P.nd hd))
    refine hQ _ D ys.toList hF (O.to ⟨H1.gl, fun q hq => ?_, ?_, H1.keep, fun q hq => ?_, H1.alive⟩)
    · rcases List.mem_cons.mp hq with t | t
      · rw [t]
        show h'.PlainList D _
        simpa using hpl
      · exact H1.at' q t
    · have z := O.h.none_of Dn
      rw [List.map_cons, set_fst hi, List.nodup_cons]
      refine ⟨fun ha => ?_, O.h.nd⟩
      obtain ⟨q, hq, e⟩ := List.mem_map.mp ha
      exact z.1 q hq e
    · have z := O.h.none_of Dn
      rcases List.mem_cons.mp hq with t | t
      · rw [t]; exact ⟨.inr z.2.1, z.2.2.1, z.2.2.2.1⟩
      · exact H1.fresh q t
end
end C3
end

section
open PySem PySem.W PyProof.Rows
set_option maxRecDepth 100000
set_option linter.unusedVariables false
set_option maxHeartbeats 2000000
namespace C3
def clsFn : Stmt := fnAt 4
def wayFn : Stmt := fnAt 5
def lawFn : Stmt := fnAt 6
def clsBody : List Stmt := bodyOf clsFn
def wayBody : List Stmt := bodyOf wayFn
def lawBody : List Stmt := bodyOf lawFn
def allCls : List Nat := List.range 15
section
variable {prog : Program} {w : World} {A : Around} {E : Value → Shared → Prop} {s₀ s s' : Shared} {B : Heap} {W : List Addr} {C D : List (Addr × Cell)} {env : Env} {mg mb : Str → Option Value} {R : Result → Shared → Prop} {outer : List Env} {fd : FuncData} {o : Obj}
/-- _law_classes() -/
theorem clsCall (X : Ctx A B s.heap [] outer) (G : Gl B s.heap) (hroom : A.depth < recursionLimit) (Bs : Bas B mg mb) (Fa : FnAt B 32 4 o fd) (bind : BindsTo s fd ⟨[], []⟩ [])
    (hok : ∀ s' r, Own B s [] s' [(r, .list (cvs allCls))] → R (.ok (.ret (.ref r))) s') : codeAny (model prog w) A (.call (.ref 32) ⟨[], []⟩) R s := by
  refine codeAny_call_def hroom (G.stays _ _ Fa.at') Fa.data G.stat.noLimit (Fa.code.keeps G.stays) Fa.body bind (by rw [Fa.scope]; decide +kernel) (fun x hx => by cases hx) (fun h₀ hn₀ hk₀ => ?_) (by rw [Fa.scope]; rfl) (by rw [Fa.scope]; rfl) (by rw [Fa.scope]; rfl)
  have O0 := own_nil (s := s) G
  have O1 : Own B s [] { s with heap := h₀, toks := s.toks + ([] : List (Str × Value)).length } [((callEnv fd s.heap.objs.size 32).locals, .ns [])] :=
    O0.to (O0.h.add (h' := h₀) hk₀ (get_size_none _) ⟨⟨_, hn₀, fun p hp => by cases hp⟩, by simp⟩)
  have hs : (callEnv fd s.heap.objs.size 32).scope = scopeOf (fnAt 4) := Fa.scope
  have F : Fenv (callEnv fd s.heap.objs.size 32) := ⟨by rw [hs]; rfl, Fa.g, Fa.b, rfl⟩
  have kl : (callEnv fd s.heap.objs.size 32).kindOf "errors" = some .local := by
    show (callEnv fd s.heap.objs.size 32).scope.names.lookup _ = _
    rw [hs]; decide +kernel
  have kg : ∀ x ∈ (["object", "int", "bool", "str", "list", "BaseException", "Exception", "ArithmeticError", "ZeroDivisionError", "LookupError", "KeyError", "ValueError", "UnicodeError", "BaseExceptionGroup", "ExceptionGroup"] : List Str), (callEnv fd s.heap.objs.size 32).kindOf x = some .globalImplicit := by
    show ∀ x ∈ _, (callEnv fd s.heap.objs.size 32).scope.names.lookup x = _
    rw [hs]; decide +kernel
  generalize callEnv fd s.heap.objs.size 32 = env at *
  generalize ({ s with heap := h₀, toks := s.toks + ([] : List (Str × Value)).length } : Shared) = s1 at *
  refine wpAny_execs_cons (wpAny_Assign_Name (wpAny_List ?_))
  refine wpAny_items_cons (nameB Bs O1 F (kg _ (by simp)) (Bs.no _ (by simp)) PyProof.Rows.Boot.«BaseException» ?_)
  refine wpAny_items_cons (nameB Bs O1 F (kg _ (by simp)) (Bs.no _ (by simp)) PyProof.Rows.Boot.«Exception» ?_)
  refine wpAny_items_cons (nameB Bs O1 F (kg _ (by simp)) (Bs.no _ (by simp)) PyProof.Rows.Boot.«ArithmeticError» ?_)
  refine wpAny_items_cons (nameB Bs O1 F (kg _ (by simp)) (Bs.no _ (by simp)) PyProof.Rows.Boot.«ZeroDivisionError» ?_)
  refine wpAny_items_cons (nameB Bs O1 F (kg _ (by simp)) (Bs.no _ (by simp)) PyProof.Rows.Boot.«LookupError» ?_)
  refine wpAny_items_cons (nameB Bs O1 F (kg _ (by simp)) (Bs.no _ (by simp)) PyProof.Rows.Boot.«KeyError» ?_)
  refine wpAny_items_cons (nameB Bs O1 F (kg _ (by simp)) (Bs.no _ (by simp)) PyProof.Rows.Boot.«ValueError» ?_)
  refine wpAny_items_cons (nameB Bs O1 F (kg _ (by simp)) (Bs.no _ (by simp)) PyProof.Rows.Boot.«UnicodeError» ?_)
  refine wpAny_items_nil ⟨by size_fits, ?_⟩
  have O2 := O1.to (s' := { s1 with heap := s1.heap.push { cls := .type "list", data := .seq (cvs [5, 6, 7, 8, 9, 10, 11, 12]).toArray } }) (O1.h.pushList (cvs [5, 6, 7, 8, 9, 10, 11, 12]))
  refine storeL_new O2 1 rfl (by simp) F.fn kl fun s3 O3 => ?_
  refine wpAny_execs_cons (wpAny_Return_some (wpAny_BinOp (wpAny_BinOp (wpAny_List ?_))))
  refine wpAny_items_cons (nameB Bs O3 F (kg _ (by simp)) (Bs.no _ (by simp)) PyProof.Rows.Boot.«object» ?_)
  refine wpAny_items_cons (nameB Bs O3 F (kg _ (by simp)) (Bs.no _ (by simp)) PyProof.Rows.Boot.«int» ?_)
  refine wpAny_items_cons (nameB Bs O3 F (kg _ (by simp)) (Bs.no _ (by simp)) PyProof.Rows.Boot.«bool» ?_)
  refine wpAny_items_cons (nameB Bs O3 F (kg _ (by simp)) (Bs.no _ (by simp)) PyProof.Rows.Boot.«str» ?_)
  refine wpAny_items_cons (nameB Bs O3 F (kg _ (by simp)) (Bs.no _ (by simp)) PyProof.Rows.Boot.«list» ?_)
  refine wpAny_items_nil ⟨by size_fits, ?_⟩
  have O4 := O3.to (s' := { s3 with heap := s3.heap.push { cls := .type "list", data := .seq (cvs [0, 1, 2, 3, 4]).toArray } }) (O3.h.pushList (cvs [0, 1, 2, 3, 4]))
  refine nameL O4 2 0 rfl rfl F.fn kl (addO O4 0 1 rfl rfl (by rw [sizeLine_eq]; decide) fun s5 y1 O5 => ?_)
  refine wpAny_List ?_
  refine wpAny_items_cons (nameB Bs O5 F (kg _ (by simp)) (Bs.no _ (by simp)) PyProof.Rows.Boot.«BaseExceptionGroup» ?_)
  refine wpAny_items_cons (nameB Bs O5 F (kg _ (by simp)) (Bs.no _ (by simp)) PyProof.Rows.Boot.«ExceptionGroup» ?_)
  refine wpAny_items_nil ⟨by size_fits, ?_⟩
  have O6 := O5.to (s' := { s5 with heap := s5.heap.push { cls := .type "list", data := .seq (cvs [13, 14]).toArray } }) (O5.h.pushList (cvs [13, 14]))
  refine addO O6 1 0 rfl rfl (by rw [sizeLine_eq]; decide) fun s7 y2 O7 => ?_
  exact hok s7 y2 (O7.to (O7.h.sub (List.Sublist.cons_cons _ (List.nil_sublist _))))
end
end C3
end

section
open PySem PySem.W PyProof.Rows
set_option maxRecDepth 100000
set_option linter.unusedVariables false
set_option maxHeartbeats 400000
namespace C3
def intE : Expr → Option Int
  | .Constant (.int i) _ _ => some i
  | _ => none
def rowE : Expr → Option (List Int)
  | .List es _ => es.mapM intE
  | _ => none
def lcells (ps : List (Addr × List Value)) : List (Addr × Cell) := ps.map fun p => (p.1, .list p.2)
theorem paired_get {α β : Type} {F : α → β → Prop} : ∀ {l₁ : List α} {l₂ : List β}, Paired F l₁ l₂ → ∀ {k : Nat} {a : α} {b : β}, l₁[k]? = some a → l₂[k]? = some b → F a b
  | _, _, .cons h _, 0, _, _, e1, e2 => by cases e1; cases e2; exact h
  | _, _, .cons _ t, k + 1, _, _, e1, e2 => paired_get t (by simpa using e1) (by simpa using e2)
  | _, _, .nil, _, _, _, e1, _ => by simp at e1
section
variable {prog : Program} {w : World} {A : Around} {E : Value → Shared → Prop} {s₀ s s' : Shared} {B : Heap} {W : List Addr} {C D : List (Addr × Cell)} {env : Env} {mg mb : Str → Option Value} {R : Result → Shared → Prop} {outer : List Env} {fd : FuncData} {o : Obj}
theorem constsO {pos : Pos} : ∀ (es : List Expr) (ns : List Int) (s : Shared) (Q : List Value → Shared → Prop), es.mapM intE = some ns → (∀ vs tk, IntsAre vs ns → Q vs { s with toks := tk }) →
    wpAny (model prog w) A (spliced (backTo pos (starEach es env))) Q E s
  | [], ns, s, Q, h, hQ => by
    simp at h
    subst h
    exact wpAny_items_nil (hQ [] s.toks .nil)
  | e :: es, ns, s, Q, h, hQ => by
    simp only [List.mapM_cons] at h
    obtain ⟨i, h1, h2⟩ := Option.bind_eq_some_iff.mp h
    obtain ⟨r, h3, h4⟩ := Option.bind_eq_some_iff.mp h2
    simp at h4
    subst h4
    obtain ⟨k, p, rfl⟩ : ∃ k p, e = .Constant (.int i) k p := by
      unfold intE at h1
      split at h1
      · cases h1; exact ⟨_, _, rfl⟩
      · cases h1
    refine wpAny_items_cons (wpAny_Constant_int ?_)
    refine constsO es r _ _ h3 fun vs tk hv => ?_
    exact hQ _ tk (.cons i _ hv)
theorem rowsO {pos : Pos} : ∀ (es : List Expr) (nss : List (List Int)) (s : Shared) (C : List (Addr × Cell)) (Q : List Value → Shared → Prop), es.mapM rowE = some nss → (∀ ns ∈ nss, ns.length ≤ 100) → Own B s₀ W s C →
    (∀ s' ps, Paired (fun p ns => IntsAre p.2 ns) ps nss → Own B s₀ W s' (lcells ps ++ C) → Q (ps.map fun p => .ref p.1) s') → wpAny (model prog w) A (spliced (backTo pos (starEach es env))) Q E s
  | [], nss, s, C, Q, h, _, O, hQ => by
    simp at h
    subst h
    exact wpAny_items_nil (hQ s [] .nil O)
  | e :: es, nss, s, C, Q, h, hz, O, hQ => by
    simp only [List.mapM_cons] at h
    obtain ⟨ns, h1, h2⟩ := Option.bind_eq_some_iff.mp h
    obtain ⟨r, h3, h4⟩ := Option.bind_eq_some_iff.mp h2
    simp at h4
    subst h4
    obtain ⟨is, p, rfl⟩ : ∃ is p, e = .List is p := by
      unfold rowE at h1
      split at h1
      · exact ⟨_, _, rfl⟩
      · cases h1
    have h1' : is.mapM intE = some ns := h1
    refine wpAny_items_cons (wpAny_List (constsO is ns _ _ h1' fun vs tk hv => ⟨?_, ?_⟩))
    · have := hz ns (.head _)
      rw [hv.length, sizeLine_eq]; omega
    · have O1 : Own B s₀ W { s with toks := tk } C := O.same
      have O2 : Own B s₀ W { s with heap := s.heap.push { cls := .type "list", data := .seq vs.toArray }, toks := tk } ((s.heap.objs.size, .list vs) :: C) := O1.to (O1.h.pushList vs)
      refine rowsO es r _ _ _ h3 (fun ns h => hz ns (.tail _ h)) O2 fun s' ps hp O3 => ?_
      refine hQ s' ((s.heap.objs.size, vs) :: ps) (.cons hv hp) (O3.to (O3.h.perm ?_))
      exact List.perm_middle
theorem itemN {x y : Str} {p p2 pos : Pos} {l : Addr} {xs : List Value} {n : Nat} {t : Tok} {v : Value} {Q : Value → Shared → Prop} (hl : s.heap.IsList l xs.toArray) (hx : Reads1 prog w A s (eval (.Name x p) env) (.ref l)) (hy : Reads1 prog w A s (eval (.Name y p2) env) (.int n t))
    (hn : xs[n]? = some v) (hz : n < 1000) (h : Q v s) : wpAny (model prog w) A (eval (.Subscript (.Name x p) (.Name y p2) pos) env) Q E s := by
  refine wpAny_Subscript_Name_late (hx _ _ (hy _ _ ?_))
  have hlt := (List.getElem?_eq_some_iff.mp hn).1
  exact ⟨"list", _, list_getitem_lookup, hl.typeIs, wpAny_getItem_list hl (by omega) (by omega) (by simpa using hn) h⟩
def wayTab : List (List Int) := (List.range 15).map fun k => (way k).map Int.ofNat
theorem wayTab_get : ∀ k < 15, wayTab[k]? = some ((way k).map Int.ofNat) := by decide +kernel
def listOfE : Expr → List Expr
  | .List es _ => es
  | _ => []
def valueOf : Stmt → Expr
  | .Assign _ e _ => e | .Return (some e) _ => e | _ => .Constant .none 0 default
def rightOf : Expr → Expr
  | .BinOp _ _ r _ => r | e => e
theorem tab_small : ∀ ns ∈ wayTab, ns.length ≤ 100 := by decide +kernel
theorem paired_app {α β : Type} {F : α → β → Prop} : ∀ {l₁ : List α} {l₂ : List β} {m₁ : List α} {m₂ : List β}, Paired F l₁ l₂ → Paired F m₁ m₂ → Paired F (l₁ ++ m₁) (l₂ ++ m₂)
  | _, _, _, _, .nil, h => h
  | _, _, _, _, .cons e t, h => .cons e (paired_app t h)
theorem displayO {es : List Expr} {pos : Pos} {Q : Value → Shared → Prop}
    (h : wpAny (model prog w) A (spliced (backTo pos (starEach es env))) (fun vs s1 => vs.length ≤ sizeLine ∧ ∃ C1, Own B s₀ W s1 C1 ∧ ∀ s' a, Own B s₀ W s' ((a, .list vs) :: C1) → Q (.ref a) s') E s) : wpAny (model prog w) A (eval (.List es pos) env) Q E s := by
  refine wpAny_List (wpAny_mono h (fun vs s1 h1 => ?_) fun _ _ e => e)
  obtain ⟨hz, C1, O, hQ⟩ := h1
  exact ⟨hz, hQ _ _ (O.to (O.h.pushList vs))⟩
/-- a call of a plain function of the text -/
theorem callDef {a : Addr} {i : Nat} {args : Args} {binds : List (Str × Value)} {body : List Stmt} (G : Gl B s.heap) (hroom : A.depth < recursionLimit) (Fa : FnAt B a i o fd) (bind : BindsTo s fd args binds) (hb : bodyOf (fnAt i) = body)
    (hcell : ∀ x ∈ (scopeOf (fnAt i)).names, x.2 ≠ .cell) (hloc : ∀ x ∈ binds.map (·.1), (scopeOf (fnAt i)).names.lookup x = some .local) (nd : (binds.map (·.1)).Nodup)
    (hco : (scopeOf (fnAt i)).isCoroutine = false) (hgen : (scopeOf (fnAt i)).isGenerator = false) (hk : (scopeOf (fnAt i)).kind = .function)
    (h : ∀ env s1, env.scope = scopeOf (fnAt i) → Fenv env → env.code = fd.code → Own B s [] s1 [(env.locals, .ns binds)] →
      wpAny (model prog w) (A.deeper env) (execs body env) (fun f s' => R (.ok (.ret (match f with | .ret v => v | _ => .none))) s')
        (fun e s' => wpAny (model prog w) (A.deeper env) (leaving env e) (fun _ s'' => R (.error e) s'') (fun e' s'' => R (.error e') s'') s') s1) : codeAny (model prog w) A (.call (.ref a) args) R s := by
  subst hb
  refine codeAny_call_def hroom (G.stays _ _ Fa.at') Fa.data G.stat.noLimit (Fa.code.keeps G.stays) Fa.body bind (by rw [Fa.scope]; exact hcell) (fun x hx => by rw [Fa.scope]; exact hloc _ (List.mem_map_of_mem hx)) (fun h₀ hn₀ hk₀ => ?_) (by rw [Fa.scope]; exact hco) (by rw [Fa.scope]; exact hgen) (by rw [Fa.scope]; exact hk)
  have O0 := own_nil (s := s) G
  refine h _ _ Fa.scope ⟨by show fd.scope.kind = _; rw [Fa.scope]; exact hk, Fa.g, Fa.b, rfl⟩ rfl (O0.to (O0.h.add (h' := h₀) hk₀ (get_size_none _) ⟨⟨_, hn₀, fun p hp => ?_⟩, nd⟩))
  have : ∀ (l : List (Str × Value)), (l.map (·.1)).Nodup → ∀ p ∈ l, l.lookup p.1 = some p.2 := by
    intro l
    induction l with
    | nil => intro _ p hp; cases hp
    | cons q r ih =>
      intro hnd p hp
      rw [List.map_cons, List.nodup_cons] at hnd
      rcases List.mem_cons.mp hp with e | e
      · rw [e, List.lookup_cons]; simp
      · have hne : p.1 ≠ q.1 := fun z => hnd.1 (z ▸ List.mem_map_of_mem e)
        rw [List.lookup_cons, beq_eq_false_iff_ne.mpr hne]
        exact ih hnd.2 p e
  exact this binds.reverse (by rw [List.map_reverse]; exact ((List.reverse_perm _).nodup_iff).mpr nd) p (List.mem_reverse.mpr hp)
theorem wayText : ∃ es1 es2 p1 p2 p3 p4 p5 p6 p7 p8 p9 p10 p11 p12, wayBody = [.Assign [.Name "ways" p1] (.List es1 p2) p3, .Assign [.Name "ways" p4] (.BinOp (.Name "ways" p5) .Add (.List es2 p6) p7) p8, .Return (some (.Subscript (.Name "ways" p9) (.Name "k" p10) p11)) p12] ∧
    es1.mapM rowE = some (wayTab.take 10) ∧ es2.mapM rowE = some (wayTab.drop 10) :=
  ⟨_, _, _, _, _, _, _, _, _, _, _, _, _, _, rfl, by decide +kernel, by decide +kernel⟩
/-- _law_way(k) -/
theorem wayCall (G : Gl B s.heap) (hroom : A.depth < recursionLimit) (Bs : Bas B mg mb) (Fa : FnAt B 39 5 o fd) {k : Nat} (hk : k < 15) {t : Tok} (bind : BindsTo s fd ⟨[.int k t], []⟩ [("k", .int k t)])
    (hok : ∀ s' r vs, IntsAre vs ((way k).map Int.ofNat) → Own B s [] s' [(r, .list vs)] → R (.ok (.ret (.ref r))) s') : codeAny (model prog w) A (.call (.ref 39) ⟨[.int k t], []⟩) R s := by
  obtain ⟨es1, es2, p1, p2, p3, p4, p5, p6, p7, p8, p9, p10, p11, p12, hbody, he1, he2⟩ := wayText
  refine callDef G hroom Fa bind hbody (by decide +kernel) (by simp only [List.map_cons, List.map_nil]; decide +kernel) (by simp) (by decide +kernel) (by decide +kernel) (by decide +kernel) fun env s1 hs F _ O1 => ?_
  have k1 : env.kindOf "k" = some .local := by
    show env.scope.names.lookup _ = _
    rw [hs]; decide +kernel
  have k2 : env.kindOf "ways" = some .local := by
    show env.scope.names.lookup _ = _
    rw [hs]; decide +kernel
  have z1 : ∀ n : Nat, n ≤ 100 → n ≤ sizeLine := fun n hn => by rw [sizeLine_eq]; omega
  refine wpAny_execs_cons ?_
  refine wpAny_Assign_Name ?_
  refine displayO (B := B) (W := []) (s₀ := s) ?_
  refine rowsO es1 (wayTab.take 10) _ _ _ he1 (fun ns h => tab_small ns (List.mem_of_mem_take h)) O1 fun s2 ps1 hp1 O2 => ?_
  have l1 : ps1.length = 10 := by rw [hp1.length]; rfl
  refine ⟨z1 _ (by simp [l1]), _, O2, fun s3 y1 O3 => ?_⟩
  replace O3 : Own B s [] s3 ((env.locals, .ns [("k", .int k t)]) :: (y1, .list (ps1.map fun p => Value.ref p.1)) :: lcells ps1) := O3.to (O3.h.perm (by
    refine List.Perm.trans ?_ (List.Perm.swap _ _ _)
    exact List.Perm.cons _ List.perm_append_comm))
  refine storeL_new O3 0 rfl (by simp only [List.map_cons, List.map_nil]; decide +kernel) F.fn k2 fun s4 O4 => ?_
  refine wpAny_execs_cons ?_
  refine wpAny_Assign_Name ?_
  refine wpAny_BinOp ?_
  refine nameL O4 0 1 rfl rfl F.fn k2 ?_
  refine displayO (B := B) (W := []) (s₀ := s) ?_
  refine rowsO es2 (wayTab.drop 10) _ _ _ he2 (fun ns h => tab_small ns (List.mem_of_mem_drop h)) O4 fun s5 ps2 hp2 O5 => ?_
  have l2 : ps2.length = 5 := by rw [hp2.length]; rfl
  refine ⟨z1 _ (by simp [l2]), _, O5, fun s6 y2 O6 => ?_⟩
  replace O6 : Own B s [] s6 ((y2, .list (ps2.map fun p => Value.ref p.1)) :: (env.locals, .ns [("k", .int k t), ("ways", .ref y1)]) :: (y1, .list (ps1.map fun p => Value.ref p.1)) :: (lcells ps1 ++ lcells ps2)) := O6.to (O6.h.perm (List.Perm.cons _ List.perm_append_comm))
  refine addO O6 2 0 rfl rfl (by simp only [List.length_map, l1, l2]; exact z1 _ (by omega)) fun s7 y3 O7 => ?_
  refine storeL_old O7 2 1 rfl rfl F.fn k2 fun s8 O8 => ?_
  have hp := paired_app hp1 hp2
  rw [List.take_append_drop] at hp
  have hlen : (ps1 ++ ps2).length = 15 := by rw [List.length_append, l1, l2]
  obtain ⟨p, hpk⟩ : ∃ p, (ps1 ++ ps2)[k]? = some p := ⟨_, List.getElem?_eq_getElem (by omega)⟩
  have hv := paired_get hp hpk (wayTab_get k hk)
  have O8' : Own B s [] s8 ((y3, .list ((ps1 ++ ps2).map fun p => Value.ref p.1)) :: (y2, .list (ps2.map fun p => Value.ref p.1)) :: (env.locals, .ns [("k", .int k t), ("ways", .ref y3)]) :: (y1, .list (ps1.map fun p => Value.ref p.1)) :: (lcells ps1 ++ lcells ps2)) := by
    rw [List.map_append]; exact O8
  refine wpAny_execs_cons ?_
  refine wpAny_Return_some ?_
  refine (itemN (n := k) (v := .ref p.1) (Heap.PlainList.isList (O8'.h.get 0 rfl)) (readL O8' 2 1 rfl rfl F.fn k2) (readL O8' 2 0 rfl rfl F.fn k1) ?_ (by omega) ?_)
  · rw [List.getElem?_map, hpk]; rfl
  · refine hok s8 p.1 p.2 hv (O8'.to (O8'.h.sub ?_))
    refine .cons _ (.cons _ (.cons _ (.cons _ ?_)))
    have hm : (p.1, Cell.list p.2) ∈ lcells ps1 ++ lcells ps2 := by
      unfold lcells
      rw [← List.map_append]
      exact List.mem_map_of_mem (f := fun p => (p.1, Cell.list p.2)) (List.mem_of_getElem? hpk)
    exact List.singleton_sublist.mpr hm
end
end C3
end

section
open PySem PySem.W PyProof.Rows PySem.SeqAt
set_option maxRecDepth 100000
set_option linter.unusedVariables false
set_option maxHeartbeats 400000
namespace C3
structure LawEnv (env : Env) (cC cD : Addr) : Prop extends Fenv env where
  loc : ∀ x ∈ (["script", "own", "way", "more", "twice", "told"] : List Str), env.kindOf x = some .local
  glo : ∀ x ∈ (["_law_classes", "_law_way", "_c3_mro", "RuntimeError"] : List Str), env.kindOf x = some .globalImplicit
  classes : env.kindOf "classes" = some .cell
  drawn : env.kindOf "drawn" = some .cell
  cc : env.cells.lookup (Str.ofString "classes") = some cC
  cd : env.cells.lookup (Str.ofString "drawn") = some cD
def nats (ks : List Nat) : List Int := ks.map Int.ofNat
theorem ints_tail {vs : List Value} {ks : List Nat} (h : IntsAre vs (nats ks)) : IntsAre vs.tail (nats ks.tail) := by
  cases ks with
  | nil =>
    cases h
    exact .nil
  | cons k r =>
    cases h with
    | cons _ _ h => exact h
/-- the items of a list of numbers -/
theorem ints_mem {vs : List Value} {ks : List Nat} (h : IntsAre vs (nats ks)) {v : Value} (hv : v ∈ vs) : ∃ k t, k ∈ ks ∧ v = .int (k : Nat) t := by
  induction ks generalizing vs with
  | nil => cases h; cases hv
  | cons k r ih =>
    cases h with
    | cons _ t h =>
      rcases List.mem_cons.mp hv with e | e
      · exact ⟨k, t, .head _, e⟩
      · obtain ⟨k', t', hk, e'⟩ := ih h e
        exact ⟨k', t', .tail _ hk, e'⟩
/-- the law's numbers -/
def dn (ns : List Int) : List Nat := ns.map fun n => (n.fmod 15).toNat
theorem dn_lt (ns : List Int) : ∀ k ∈ dn ns, k < 15 := by
  intro k hk
  obtain ⟨n, _, rfl⟩ := List.mem_map.mp hk
  have e : n.fmod 15 = n % 15 := Int.fmod_eq_emod_of_nonneg n (by omega)
  rw [e]
  omega
theorem paired_mod {xs ys : List Value} {ns : List Int} (hi : IntsAre xs ns) (h : Paired (fun v y => ∃ n t t', v = .int n t ∧ y = .int (n.fmod 15) t') xs ys) : IntsAre ys (nats (dn ns)) := by
  induction hi generalizing ys with
  | nil => cases h; exact .nil
  | cons n t _ ih =>
    cases h with
    | cons e r =>
      obtain ⟨n', t1, t', e1, rfl⟩ := e
      injection e1 with e1 e2
      subst e1
      have e : n.fmod 15 = n % 15 := Int.fmod_eq_emod_of_nonneg n (by omega)
      have e3 : Int.ofNat (n.fmod 15).toNat = n.fmod 15 := by
        show (((n.fmod 15).toNat : Nat) : Int) = _
        omega
      show IntsAre _ (Int.ofNat (n.fmod 15).toNat :: _)
      rw [e3]
      exact .cons _ _ (ih r)
theorem paired_cls {xs ys : List Value} {ks : List Nat} (hi : IntsAre xs (nats ks)) (h : Paired (fun v y => ∃ (n : Nat) (t : Tok), v = .int n t ∧ y = cv n) xs ys) : ys = cvs ks := by
  induction ks generalizing xs ys with
  | nil => cases hi; cases h; rfl
  | cons k r ih =>
    cases hi with
    | cons _ t hi =>
      cases h with
      | cons e q =>
        obtain ⟨n, t', e1, rfl⟩ := e
        injection e1 with e1 e2
        have : k = n := Int.ofNat.inj e1
        subst this
        rw [ih hi q]; rfl
theorem paired_id {xs ys : List Value} (h : Paired (fun v y => y = v) xs ys) : ys = xs := by
  induction h with
  | nil => rfl
  | cons e _ ih => rw [e, ih]
theorem filter_tt {xs : List Value} : xs.filter (fun _ => true) = xs := by simp
section
variable {prog : Program} {w : World} {A : Around} {E : Value → Shared → Prop} {s₀ s s' : Shared} {B : Heap} {W : List Addr} {C D : List (Addr × Cell)} {env : Env} {mg mb : Str → Option Value} {R : Result → Shared → Prop} {cC cD : Addr}
theorem same_all {xs : List Nat} (hx : ∀ k ∈ xs, k < 15) : ∀ j (h1 : j < (cvs xs).toArray.size) (h2 : j < (cvs xs).toArray.size), EqAt A.in1 s (cvs xs).toArray[j] (cvs xs).toArray[j] true := fun j h1 h2 => by
  have hj : j < xs.length := by simpa [cvs] using h1
  have e : (cvs xs).toArray[j] = cv xs[j] := by simp [cvs]
  rw [e]
  have := eqAtCls (A := A.in1) (s := s) (hx _ (List.getElem_mem hj)) (hx _ (List.getElem_mem hj))
  rw [beq_self_eq_true] at this
  exact this
theorem all_true (n : Nat) : (List.range n).all (fun _ => true) = true := by simp
/-- equal lists of classes -/
theorem eqSame {l b : Addr} {xs : List Nat} {Q : Value → Shared → Prop} (O : Own B s₀ W s C) (i j : Nat) (hi : C[i]? = some (l, .list (cvs xs))) (hj : C[j]? = some (b, .list (cvs xs))) (hx : ∀ k ∈ xs, k < 15) (hu : A.units < cLine) (h : Q (.bool true) s) :
    wpAny (model prog w) A (compareOp .Eq (.ref l) (.ref b)) Q E s :=
  eq_listAt (e := fun _ => true) (Heap.PlainList.isList (O.h.get i hi)) (Heap.PlainList.isList (O.h.get j hj)) rfl hu (same_all hx) (by rw [all_true]; exact h)
theorem neSame {l b : Addr} {xs : List Nat} {Q : Value → Shared → Prop} (O : Own B s₀ W s C) (i j : Nat) (hi : C[i]? = some (l, .list (cvs xs))) (hj : C[j]? = some (b, .list (cvs xs))) (hx : ∀ k ∈ xs, k < 15) (hu : A.units < cLine) (h : Q (.bool false) s) :
    wpAny (model prog w) A (compareOp .NotEq (.ref l) (.ref b)) Q E s :=
  RcNeAt.lists (e := fun _ => true) (Heap.PlainList.isList (O.h.get i hi)) (Heap.PlainList.isList (O.h.get j hj)) rfl hu (same_all hx) prog w E Q (by rw [all_true]; exact h)
theorem eqEmpty {l b : Addr} {xs : List Value} {Q : Value → Shared → Prop} (O : Own B s₀ W s C) (i j : Nat) (hi : C[i]? = some (l, .list xs)) (hj : C[j]? = some (b, .list [])) (hu : A.units < cLine) (h : Q (.bool xs.isEmpty) s) :
    wpAny (model prog w) A (compareOp .Eq (.ref l) (.ref b)) Q E s := by
  cases xs with
  | nil => exact eq_listAt (e := fun _ => true) (Heap.PlainList.isList (O.h.get i hi)) (Heap.PlainList.isList (O.h.get j hj)) rfl hu (fun j h1 => absurd h1 (Nat.not_lt_zero _)) h
  | cons x r => exact eq_list_lengthsAt (Heap.PlainList.isList (O.h.get i hi)) (Heap.PlainList.isList (O.h.get j hj)) (by simp) hu h
theorem neEmpty {l b : Addr} {xs : List Value} {Q : Value → Shared → Prop} (O : Own B s₀ W s C) (i j : Nat) (hi : C[i]? = some (l, .list xs)) (hj : C[j]? = some (b, .list [])) (hu : A.units < cLine) (h : Q (.bool (!xs.isEmpty)) s) :
    wpAny (model prog w) A (compareOp .NotEq (.ref l) (.ref b)) Q E s := by
  cases xs with
  | nil => exact RcNeAt.lists (e := fun _ => true) (Heap.PlainList.isList (O.h.get i hi)) (Heap.PlainList.isList (O.h.get j hj)) rfl hu (fun j h1 => absurd h1 (Nat.not_lt_zero _)) prog w E Q h
  | cons x r => exact RcNeAt.lists_lengths (Heap.PlainList.isList (O.h.get i hi)) (Heap.PlainList.isList (O.h.get j hj)) (by simp) hu prog w E Q h
theorem slicePick1 (xs : List Value) : slicePick xs.toArray (some 1) none none = xs.tail.toArray := by
  cases xs with
  | nil => rfl
  | cons x r =>
    have e := slicePick_from (x :: r).toArray 1 (by simp)
    have e2 : ((x :: r).toArray.toList.drop 1).toArray = (x :: r).tail.toArray := by simp
    rw [e2] at e
    exact e
/-- xs[1:], in the ledger -/
theorem sliceL {x : Str} {p p2 p3 pos : Pos} {kd : Nat} {l : Addr} {xs : List Value} {Q : Value → Shared → Prop} (O : Own B s₀ W s C) (i : Nat) (hi : C[i]? = some (l, .list xs)) (hz : xs.length ≤ sizeLine)
    (hn : Reads1 prog w A s (eval (.Name x p) env) (.ref l)) (h : ∀ s' l', Own B s₀ W s' ((l', .list xs.tail) :: C) → (∀ b o, s.heap.get? b = some o → s'.heap.get? b = some o) → Q (.ref l') s') :
    wpAny (model prog w) A (eval (.Subscript (.Name x p) (.Slice (some (.Constant (.int 1) kd p2)) none none p3) pos) env) Q E s := by
  refine wpAny_Subscript_list_slice (hn _ _ ?_)
  show wpAny _ _ (eval (.Constant (.int 1) kd p2) env) _ _ s
  refine wpAny_Constant_int ?_
  refine wpAny_pure ⟨l, xs.toArray, some 1, none, rfl, Heap.PlainList.isList (O.h.get i hi), by simpa using hz, .int _ _, .none, ?_⟩
  rw [slicePick1]
  refine h _ _ (O.to ?_) fun b o e => Heap.get?_push_of_some _ (Heap.get?_push_of_some _ e)
  have O1 := O.h.pushAny { cls := .type "slice", data := .fields #[.int 1 s.toks, .none, .none] }
  have O2 := O1.pushList xs.tail
  rwa [Heap.size_push] at O2
end
end C3
end

section
open PySem PySem.W PyProof.Rows PySem.SeqAt
set_option maxRecDepth 100000
set_option linter.unusedVariables false
set_option maxHeartbeats 400000
namespace C3
abbrev scopeX : Scope := { kind := ScopeKind.function, names := [(Str.ofString ".0", NameKind.local), (Str.ofString "x", NameKind.local)], isGenerator := false, isCoroutine := false, more := [] }
abbrev scopeK : Scope := { kind := ScopeKind.function, names := [(Str.ofString ".0", NameKind.local), (Str.ofString "k", NameKind.local), (Str.ofString "classes", NameKind.free)], isGenerator := false, isCoroutine := false, more := [] }
abbrev scopeD : Scope := { kind := ScopeKind.function, names := [(Str.ofString ".0", NameKind.local), (Str.ofString "k", NameKind.local), (Str.ofString "drawn", NameKind.free)], isGenerator := false, isCoroutine := false, more := [] }
section
variable {prog : Program} {w : World} {A : Around} {E : Value → Shared → Prop} {s₀ s s' : Shared} {B : Heap} {W : List Addr} {C D : List (Addr × Cell)} {env : Env} {mg mb : Str → Option Value} {R : Result → Shared → Prop} {cC cD : Addr}
theorem closK (M : LawEnv env cC cD) : closureFor scopeK env = pure [(Str.ofString "classes", cC)] := by
  simp [closureFor, cellOf, M.cc]
theorem closD (M : LawEnv env cC cD) : closureFor scopeD env = pure [(Str.ofString "drawn", cD)] := by
  simp [closureFor, cellOf, M.cd]
theorem noTests {A' : Around} {cenv : Env} {s₃ : Shared} {E' : Value → Shared → Prop}  : wpAny (model prog w) A' (testsOf [] cenv) (fun ok s₄ => ok = true ∧ Keeps s₃ s₄) E' s₃ := by
  unfold testsOf
  simp only [List.forIn_nil]
  exact wpAny_pure ⟨rfl, s₃.heap, s₃.toks, rfl, fun _ _ e => e⟩
theorem byMod {xs : List Value} {ns : List Int} (hi : IntsAre xs ns) {p1 p2 p3 : Pos} {kd : Nat} : CompBy prog w A env scopeX [] "x" [] (.BinOp (.Name "x" p1) .Mod (.Constant (.int 15) kd p2) p3) xs (fun _ => true) (fun v y => ∃ n t t', v = .int n t ∧ y = .int (n.fmod 15) t') s where
  tests := fun _ _ _ _ _ _ _ _ _ _ => noTests
  elt := fun Cc v s₃ m₃ E' hv _ hn hm _ _ => by
    obtain ⟨n, t, rfl⟩ : ∃ n t, v = .int n t := by
      clear hm hn
      induction hi with
      | nil => cases hv
      | cons n t _ ih =>
        rcases List.mem_cons.mp hv with e | e
        · exact ⟨n, t, e⟩
        · exact ih e
    refine wpAny_BinOp (wpAny_Name (wpAny_loadName_local rfl (lookup_relabel_local (env := env) (names := scopeX.names) (by decide +kernel)) hn hm (wpAny_Constant_int ?_)) (by decide +kernel))
    refine AutoIntOps.mod_1 (by decide) ?_
    exact ⟨⟨n, t, _, rfl, rfl⟩, s₃.heap, _, rfl, fun _ _ e => e⟩
theorem kindK (M : LawEnv env cC cD) (cl : List (Str × Addr)) (Cc : Addr) : (compEnvC scopeK cl Cc env).kindOf "classes" = some .cell := by
  have ma : List.lookup (Str.ofString "classes") env.scope.names = some .cell := M.classes
  simp [compEnvC, relabel, Env.kindOf, M.fn, ma]
  decide +kernel
theorem kindD (M : LawEnv env cC cD) (cl : List (Str × Addr)) (Cc : Addr) : (compEnvC scopeD cl Cc env).kindOf "drawn" = some .cell := by
  have ma : List.lookup (Str.ofString "drawn") env.scope.names = some .cell := M.drawn
  simp [compEnvC, relabel, Env.kindOf, M.fn, ma]
  decide +kernel
theorem all_get {n : Nat} (h : n < 15) : (cvs allCls)[n]? = some (cv n) := by
  unfold cvs allCls
  rw [List.getElem?_map, List.getElem?_range h]; rfl
/-- classes[k] -/
theorem byClasses (M : LawEnv env cC cD) {xs : List Value} {ks : List Nat} (hi : IntsAre xs (nats ks)) (hks : ∀ k ∈ ks, k < 15) {a : Addr} (hc : s.heap.IsCell cC (some (.ref a))) (hl : s.heap.IsList a (cvs allCls).toArray) {p1 p2 p3 : Pos} :
    CompBy prog w A env scopeK [(Str.ofString "classes", cC)] "k" [] (.Subscript (.Name "classes" p1) (.Name "k" p2) p3) xs (fun _ => true) (fun v y => ∃ (n : Nat) (t : Tok), v = .int n t ∧ y = cv n) s where
  tests := fun _ _ _ _ _ _ _ _ _ _ => noTests
  elt := fun Cc v s₃ m₃ E' hv _ hn hm hk _ => by
    obtain ⟨k, t, hkm, rfl⟩ := ints_mem hi hv
    have hk15 := hks k hkm
    have hl3 : s₃.heap.IsList a (cvs allCls).toArray := hl.at fun o e => hk _ o e
    have hc3 : s₃.heap.IsCell cC (some (.ref a)) := hc.keeps hk
    refine itemN (n := k) (v := cv k) hl3 (fun Q E h => wpAny_Name (wpAny_loadName_cell rfl (kindK M _ _) rfl hc3 h) (by decide +kernel))
      (fun Q E h => wpAny_Name (wpAny_loadName_local rfl (lookup_relabel_local (env := env) (names := scopeK.names) (by decide +kernel)) hn hm h) (by decide +kernel)) (all_get hk15) (by omega) ?_
    exact ⟨⟨k, t, rfl, rfl⟩, s₃.heap, s₃.toks, rfl, fun _ _ e => e⟩
def moreThanOne (ds : List Nat) (v : Value) : Bool := match v with
  | .int n _ => decide (1 < ds.count n.toNat)
  | _ => false
theorem countP_ints {vs : List Value} {ks : List Nat} (h : IntsAre vs (nats ks)) (k : Nat) : vs.countP (fun v => match v with | .int n _ => n == (k : Int) | _ => false) = ks.count k := by
  induction ks generalizing vs with
  | nil => cases h; rfl
  | cons j r ih =>
    cases h with
    | cons _ t h =>
      rw [List.countP_cons, ih h, List.count_cons]
      congr 1
      by_cases e : j = k
      · subst e; simp
      · have : ¬ ((j : Int) = (k : Int)) := fun z => e (Int.ofNat.inj z)
        simp [e, this]
/-- [k for k in .. if drawn[1:].count(k) > 1] -/
theorem byCount (M : LawEnv env cC cD) {xs ds : List Value} {ks dks : List Nat} (hi : IntsAre xs (nats ks)) (hd : IntsAre ds (nats dks)) (hz : ds.length ≤ 100) {a : Addr} (hc : s.heap.IsCell cD (some (.ref a))) (hl : s.heap.PlainList a ds.toArray)
    {p1 p2 p3 p4 p5 p6 p7 p8 p9 p10 : Pos} {k1 k2 : Nat} (hline : (p5.endLine == p7.line) = true) :
    CompBy prog w A env scopeD [(Str.ofString "drawn", cD)] "k" [.Compare (.Call (.Attribute (.Subscript (.Name "drawn" p1) (.Slice (some (.Constant (.int 1) k1 p2)) none none p3) p4) "count" p5) [.Name "k" p6] [] p7) [.Gt] [.Constant (.int 1) k2 p8] p9] (.Name "k" p10) xs
      (moreThanOne dks.tail) (fun v y => y = v) s where
  tests := fun Cc v s₃ m₃ E' hv hn hm hk _ => by
    obtain ⟨k, t, hkm, rfl⟩ := ints_mem hi hv
    have hl3 : s₃.heap.PlainList a ds.toArray := Heap.PlainList.at hl fun o e => hk _ o e
    have hc3 : s₃.heap.IsCell cD (some (.ref a)) := hc.keeps hk
    unfold testsOf
    simp only [List.forIn_cons, List.forIn_nil, if_true, bind_assoc, pure_bind]
    refine wpAny_bind (wpAny_isTrue_Compare1 (wpAny_Call_method_lateS (by rfl) (by rfl) hline ?_))
    refine wpAny_Subscript_list_slice (wpAny_Name (wpAny_loadName_cell rfl (kindD M _ _) rfl hc3 ?_) (by decide +kernel))
    show wpAny _ _ (eval (.Constant (.int 1) k1 p2) _) _ _ s₃
    refine wpAny_Constant_int ?_
    refine wpAny_pure ⟨a, ds.toArray, some 1, none, rfl, hl3.isList, by simp; rw [sizeLine_eq]; omega, .int _ _, .none, ?_⟩
    rw [slicePick1]
    have hl' : ((s₃.heap.push { cls := .type "slice", data := .fields #[.int 1 s₃.toks, .none, .none] }).push { cls := .type "list", data := .seq ds.tail.toArray }).get? (s₃.heap.objs.size + 1) = some { cls := .type "list", data := .seq ds.tail.toArray } := by
      have := Heap.get?_push_size (s₃.heap.push { cls := .type "slice", data := .fields #[.int 1 s₃.toks, .none, .none] }) (o := { cls := .type "list", data := .seq ds.tail.toArray }) rfl
      rw [Heap.size_push] at this
      exact this
    have up : ∀ b o, s₃.heap.get? b = some o → ((s₃.heap.push { cls := .type "slice", data := .fields #[.int 1 s₃.toks, .none, .none] }).push { cls := .type "list", data := .seq ds.tail.toArray }).get? b = some o := fun b o e => Heap.get?_push_of_some _ (Heap.get?_push_of_some _ e)
    refine ⟨"list", "list.count", F.plainAttrs_list, F.slot_list_count, F.type_list_count, ⟨_, hl', rfl⟩, fun x e => by injection e with e; subst e; exact ⟨_, hl', rfl⟩, P.count_list ?_⟩
    refine wpAny_Name (wpAny_loadName_local rfl (lookup_relabel_local (env := env) (names := scopeD.names) (by decide +kernel)) (hn.keeps up) hm ?_) (by decide +kernel)
    refine ⟨ds.tail.toArray, 0, (fun v => match v with | .int n _ => n == (k : Int) | _ => false), hl', fun y hy => ?_, ?_⟩
    · obtain ⟨j, t', _, rfl⟩ := ints_mem (ints_tail hd) (by simpa using hy)
      exact MeetsSeq.EqGives.int _ _ _ _
    · refine wpAny_Constant_int (gt_int (wpAny_truthy_bool (wpAny_pure ⟨?_, _, _, rfl, up⟩)))
      show decide ((1 : Int) < ((ds.tail.toArray.toList.countP _ : Nat) : Int)) = decide (1 < dks.tail.count k)
      rw [List.toList_toArray, countP_ints (ints_tail hd)]
      by_cases q : 1 < dks.tail.count k
      · rw [decide_eq_true q, decide_eq_true (by omega)]
      · rw [decide_eq_false q, decide_eq_false (by omega)]
  elt := fun Cc v s₃ m₃ E' hv _ hn hm _ _ =>
    wpAny_Name (wpAny_loadName_local rfl (lookup_relabel_local (env := env) (names := scopeD.names) (by decide +kernel)) hn hm ⟨rfl, s₃.heap, s₃.toks, rfl, fun _ _ e => e⟩) (by decide +kernel)
end
end C3
end

section
open PySem PySem.W PyProof.Rows PySem.SeqAt
set_option maxRecDepth 100000
set_option linter.unusedVariables false
set_option maxHeartbeats 400000
namespace C3
/-- the functions of the text, in the base -/
structure Text (B : Heap) (fdM fdR fdC fdW : FuncData) (oM oR oC oW : Obj) : Prop where
  m : FnAt B 19 1 oM fdM
  r : FnAt B 25 2 oR fdR
  c : FnAt B 32 4 oC fdC
  w : FnAt B 39 5 oW fdW
  bm : ∀ s v, BindsTo s fdM ⟨[v], []⟩ [("sequences", v)]
  bkw : ∀ s b va, B.StaysIn s.heap → BindsTo s fdR ⟨[cv b], [("abcs", va)]⟩ (binds b va)
  bpos : ∀ s b, B.StaysIn s.heap → BindsTo s fdR ⟨[cv b], []⟩ (binds b .none)
  bc : ∀ s, BindsTo s fdC ⟨[], []⟩ []
  bw : ∀ s v, BindsTo s fdW ⟨[v], []⟩ [("k", v)]
  code : fdR.code = .ref 24
section
variable {prog : Program} {w : World} {A : Around} {E : Value → Shared → Prop} {s₀ s s' : Shared} {B : Heap} {W : List Addr} {C D T : List (Addr × Cell)} {env : Env} {mg mb : Str → Option Value} {R : Result → Shared → Prop} {cC cD : Addr} {outer : List Env}
  {fdM fdR fdC fdW : FuncData} {oM oR oC oW : Obj}
theorem swaps_cell {elt : Expr} {gens : List Comprehension} {scope : Scope} {pos px : Pos} {x : Str} {line : Nat} (hl : env.kindOf x = some .cell) : swapsWith (.ListComp elt gens scope pos) (some (.Name x px)) line env = pure false := by
  show (pure (env.blockKind == .function && env.kindOf x == some .local && px.line == (Expr.ListComp elt gens scope pos).pos.line && !(scope.names.any fun (n, k) => n == x && (k == .local || k == .cell))) : Sem Bool) = pure false
  rw [hl]
  have e : (some NameKind.cell == some NameKind.local) = false := by decide
  rw [e, Bool.and_false, Bool.false_and, Bool.false_and]
theorem lst0 (hctx : ∀ (s : Shared) (C : List (Addr × Cell)) (i : Nat) (kv : List (Str × Value)), Own B s₀ [] s C → C[i]? = some (env.locals, .ns kv) → Ctx A B s.heap [] outer) (hroom : A.depth < recursionLimit) (Bs : Bas B mg mb) (M : LawEnv env cC cD) (Tx : Text B fdM fdR fdC fdW oM oR oC oW) {kv : List (Str × Value)}
    (O : Own B s₀ [] s ((env.locals, .ns kv) :: (cC, .cell none) :: T)) {Q : Flow → Shared → Prop}
    (h : ∀ s' a, Own B s₀ [] s' ((a, .list (cvs allCls)) :: (env.locals, .ns kv) :: (cC, .cell (some (.ref a))) :: T) → Q .next s') : wpAny (model prog w) A (exec (nth lawBody 0) env) Q E s := by
  refine wpAny_Assign_Name ?_
  refine wpAny_Call_ofName (nameG Bs O M.toFenv (M.glo _ (by simp)) Bs.gc ?_)
  refine Calls.callWith_function (o := oC) (fd := fdC) (evalArgs_kw_nil rfl (wpAny_evalAll_nil ?_))
  refine ⟨⟨O.h.gl.stays _ _ Tx.c.at', Tx.c.data⟩, ?_⟩
  show wpAny _ _ (call (.ref 32) [] []) _ _ s
  refine wpAny_call (clsCall (hctx s _ 0 kv O rfl) O.h.gl hroom Bs Tx.c (Tx.bc s) fun s1 a O1 => ?_)
  have O2 := O.called O1 (V := []) (by simp) (by simp) (by simp) (List.Sublist.refl _) (by simp)
  exact storeC O2 2 rfl M.cc M.fn M.classes fun s3 O3 => h s3 a O3
theorem lst1 (hh : A.handled = none) (M : LawEnv env cC cD) {kv : List (Str × Value)} {sc a : Addr} {vs : List Value} {ns : List Int} (hsc : s.heap.IsList sc vs.toArray) (hi : IntsAre vs ns) (hz : ns.length ≤ 100)
    (O : Own B s₀ [] s ((a, .list (cvs allCls)) :: (env.locals, .ns (("script", .ref sc) :: kv)) :: (cC, .cell (some (.ref a))) :: (cD, .cell none) :: T)) {Q : Flow → Shared → Prop}
    (h : ∀ s' d ds, IntsAre ds (nats (dn ns)) → Own B s₀ [] s' ((d, .list ds) :: (a, .list (cvs allCls)) :: (env.locals, .ns (("script", .ref sc) :: kv)) :: (cC, .cell (some (.ref a))) :: (cD, .cell (some (.ref d))) :: T) → Q .next s') : wpAny (model prog w) A (exec (nth lawBody 1) env) Q E s := by
  refine wpAny_Assign_Name ?_ (swaps_cell M.drawn)
  refine compEval (B := B) (s₀ := s₀) (W := []) (cl := []) (fun _ => true) (fun v y => ∃ n t t', v = .int n t ∧ y = .int (n.fmod 15) t') (closureFor_none (by decide)) (by decide) rfl (by decide +kernel) (by decide +kernel) ?_
  refine nameL O 1 0 rfl rfl M.fn (M.loc _ (by simp)) ?_
  refine ⟨sc, vs, _, rfl, O, hsc, by rw [hi.length, sizeLine_eq]; omega, .inl hh, byMod hi, fun s1 d ds hp O1 _ => ?_⟩
  rw [filter_tt] at hp
  exact storeC O1 4 rfl M.cd M.fn M.drawn fun s2 O2 => h s2 d ds (paired_mod hi hp) O2
theorem lst2 (M : LawEnv env cC cD) {kv : List (Str × Value)} {d : Addr} {ds : List Value} {dks : List Nat} (hd : IntsAre ds (nats dks)) (hu : A.units < cLine) (i : Nat)
    (hkv : ("own" : Str) ∉ kv.map (·.1)) {T1 : List (Addr × Cell)}
    (O : Own B s₀ [] s ((d, .list ds) :: T1)) (hL : T1[i]? = some (env.locals, .ns kv)) (j : Nat) (hD : T1[j]? = some (cD, .cell (some (.ref d)))) {Q : Flow → Shared → Prop}
    (h : ∀ s' t, Own B s₀ [] s' ((d, .list ds) :: T1.set i (env.locals, .ns (kv ++ [(("own" : Str), Value.int (dks.headD 0 : Nat) t)]))) → Q .next s') : wpAny (model prog w) A (exec (nth lawBody 2) env) Q E s := by
  refine wpAny_Assign_Name (wpAny_IfExp (wpAny_isTrue_Compare1 (nameC O (j + 1) hD M.cd M.fn M.drawn (emptyList O fun s1 e O1 => ?_))))
  refine neEmpty O1 1 0 rfl rfl hu (wpAny_truthy_bool ?_)
  have O2 := O1.to (O1.h.sub (List.sublist_cons_self _ _))
  cases hdk : dks with
  | nil =>
    subst hdk
    cases hd
    rw [if_neg (by simp)]
    refine wpAny_Constant_int ?_
    have O3 : Own B s₀ [] { s1 with toks := s1.toks + 1 } ((d, .list []) :: T1) := O2.same
    exact storeL_new O3 (i + 1) hL hkv M.fn (M.loc _ (by simp)) fun s4 O4 => h s4 _ O4
  | cons k r =>
    subst hdk
    cases hd with
    | cons _ t hd =>
      rw [if_pos (by simp)]
      refine item0 O2 0 rfl (readC O2 (j + 1) hD M.cd M.fn M.drawn) fun s3 O3 => ?_
      exact storeL_new O3 (i + 1) hL hkv M.fn (M.loc _ (by simp)) fun s4 O4 => h s4 t O4
end
end C3
end

section
open PySem PySem.W PyProof.Rows PySem.SeqAt
set_option maxRecDepth 100000
set_option linter.unusedVariables false
set_option maxHeartbeats 400000
namespace C3
abbrev kvA (sc : Addr) (o : Nat) (t : Tok) : List (Str × Value) := [("script", .ref sc), ("own", .int o t)]
abbrev kvB (sc : Addr) (o : Nat) (t : Tok) (wy : Addr) : List (Str × Value) := kvA sc o t ++ [(("way" : Str), Value.ref wy)]
abbrev kvC (sc : Addr) (o : Nat) (t : Tok) (wy mo : Addr) : List (Str × Value) := kvB sc o t wy ++ [(("more" : Str), Value.ref mo)]
abbrev kvD (sc : Addr) (o : Nat) (t : Tok) (wy mo tw : Addr) : List (Str × Value) := kvC sc o t wy mo ++ [(("twice" : Str), Value.ref tw)]
theorem good_nil (k : Nat) : Good k [] := fun j _ => by simp
/-- the numbers of the way that stand more than once -/
def often (o : Nat) (ks : List Nat) : Bool := (way o).all fun j => decide (ks.count j < 2)
theorem often_good (o : Nat) (ks : List Nat) : often o ks = true ↔ Good o ks := by
  unfold often Good
  rw [List.all_eq_true]
  exact ⟨fun h j hj => by simpa using h j hj, fun h j hj => by simpa using h j hj⟩
theorem twice_empty {vs : List Value} {o : Nat} {ks : List Nat} (hi : IntsAre vs (nats (way o))) : (vs.filter (moreThanOne ks)).isEmpty = often o ks := by
  unfold often
  generalize way o = l at hi
  induction l generalizing vs with
  | nil => cases hi; rfl
  | cons k r ih =>
    cases hi with
    | cons _ t hi =>
      rw [List.all_cons, ← ih hi, List.filter_cons]
      have e : moreThanOne ks (.int (Int.ofNat k) t) = decide (1 < ks.count k) := rfl
      rw [e]
      by_cases q : 1 < ks.count k
      · rw [decide_eq_true q, if_pos rfl, decide_eq_false (by omega)]; rfl
      · rw [decide_eq_false q, if_neg Bool.false_ne_true, decide_eq_true (by omega), Bool.true_and]
section
variable {prog : Program} {w : World} {A : Around} {E : Value → Shared → Prop} {s₀ s s' : Shared} {B : Heap} {W : List Addr} {C D T : List (Addr × Cell)} {env : Env} {mg mb : Str → Option Value} {R : Result → Shared → Prop} {cC cD : Addr} {outer : List Env}
  {fdM fdR fdC fdW : FuncData} {oM oR oC oW : Obj} {sc a d wy mo tw : Addr} {o : Nat} {t : Tok} {ds : List Value} {dks : List Nat}
theorem lst3 (hh : A.handled = none) (hctx : ∀ (s : Shared) (C : List (Addr × Cell)) (i : Nat) (kv : List (Str × Value)), Own B s₀ [] s C → C[i]? = some (env.locals, .ns kv) → Ctx A B s.heap [] outer) (hroom : A.depth < recursionLimit) (Bs : Bas B mg mb) (M : LawEnv env cC cD) (Tx : Text B fdM fdR fdC fdW oM oR oC oW) (ho : o < 15)
    (O : Own B s₀ [] s ((d, .list ds) :: (a, .list (cvs allCls)) :: (env.locals, .ns (kvA sc o t)) :: (cC, .cell (some (.ref a))) :: (cD, .cell (some (.ref d))) :: T)) {Q : Flow → Shared → Prop}
    (h : ∀ s' wy, Own B s₀ [] s' ((wy, .list (cvs (way o))) :: (d, .list ds) :: (a, .list (cvs allCls)) :: (env.locals, .ns (kvB sc o t wy)) :: (cC, .cell (some (.ref a))) :: (cD, .cell (some (.ref d))) :: T) → Q .next s') : wpAny (model prog w) A (exec (nth lawBody 3) env) Q E s := by
  refine compPut (B := B) (s₀ := s₀) (W := []) (cl := [(Str.ofString "classes", cC)]) (fun _ => true) (fun v y => ∃ (n : Nat) (t : Tok), v = .int n t ∧ y = cv n) (swaps_true M.fn (M.loc _ (by simp)) (by decide +kernel)) (closK M) (by decide) rfl (by decide +kernel) (by decide +kernel) M.fn (M.loc _ (by simp)) ?_
  refine wpAny_Call_ofName (nameG Bs O M.toFenv (M.glo _ (by simp)) Bs.gw ?_)
  refine Calls.callWith_function (o := oW) (fd := fdW) (Calls.evalArgs_plain (Calls.spliced_cons (nameL O 2 1 rfl rfl M.fn (M.loc _ (by simp)) (Calls.spliced_nil ?_))))
  refine ⟨⟨O.h.gl.stays _ _ Tx.w.at', Tx.w.data⟩, ?_⟩
  show wpAny _ _ (call (.ref 39) [.int o t] []) _ _ s
  refine wpAny_call (wayCall O.h.gl hroom Bs Tx.w ho (Tx.bw s _) fun s1 r vs hv O1 => ?_)
  have O2 := O.called O1 (V := []) (by simp) (by simp) (by simp) (List.Sublist.refl _) (by simp)
  replace O2 : Own B s₀ [] s1 ((r, .list vs) :: (d, .list ds) :: (a, .list (cvs allCls)) :: (env.locals, .ns (kvA sc o t)) :: (cC, .cell (some (.ref a))) :: (cD, .cell (some (.ref d))) :: T) := O2
  refine ⟨r, vs, _, 3, kvA sc o t, rfl, O2, Heap.PlainList.isList (O2.h.get 0 rfl), ?_, .inl hh, byClasses M hv (way_lt o ho) (O2.h.get 4 rfl) (Heap.PlainList.isList (O2.h.get 2 rfl)), rfl, ?_, fun s3 D ys hp O3 => ?_⟩
  · rw [hv.length]
    have : ∀ k < 15, (way k).length ≤ 5 := by decide +kernel
    have := this o ho
    rw [List.length_map, sizeLine_eq]; omega
  · simp only [List.map_cons, List.map_nil]; decide +kernel
  · rw [filter_tt] at hp
    rw [paired_cls hv hp] at O3
    exact h s3 D (O3.to (O3.h.sub (.cons_cons _ (List.sublist_cons_self _ _))))
theorem lst4 (hctx : ∀ (s : Shared) (C : List (Addr × Cell)) (i : Nat) (kv : List (Str × Value)), Own B s₀ [] s C → C[i]? = some (env.locals, .ns kv) → Ctx A B s.heap [] outer) (hu : A.units < cLine) (Bs : Bas B mg mb) (M : LawEnv env cC cD) (Tx : Text B fdM fdR fdC fdW oM oR oC oW) (ho : o < 15)
    (hm : MroC prog w B fdR A o [])
    (O : Own B s₀ [] s ((wy, .list (cvs (way o))) :: (d, .list ds) :: (a, .list (cvs allCls)) :: (env.locals, .ns (kvB sc o t wy)) :: (cC, .cell (some (.ref a))) :: (cD, .cell (some (.ref d))) :: T)) {Q : Flow → Shared → Prop}
    (h : ∀ s', Own B s₀ [] s' ((wy, .list (cvs (way o))) :: (d, .list ds) :: (a, .list (cvs allCls)) :: (env.locals, .ns (kvB sc o t wy)) :: (cC, .cell (some (.ref a))) :: (cD, .cell (some (.ref d))) :: T) → Q .next s') : wpAny (model prog w) A (exec (nth lawBody 4) env) Q E s := by
  refine wpAny_If (wpAny_isTrue_Compare1 ?_)
  refine wpAny_Call_ofName (nameG Bs O M.toFenv (M.glo _ (by simp)) Bs.gr ?_)
  refine Calls.callWith_function (o := oR) (fd := fdR) (Calls.evalArgs_plain (Calls.spliced_cons ?_))
  refine itemN (n := o) (v := cv o) (Heap.PlainList.isList (O.h.get 2 rfl)) (readC O 4 rfl M.cc M.fn M.classes) (readL O 3 1 rfl rfl M.fn (M.loc _ (by simp))) (all_get ho) (by omega) (Calls.spliced_nil ?_)
  refine ⟨⟨O.h.gl.stays _ _ Tx.r.at', Tx.r.data⟩, ?_⟩
  show wpAny _ _ (call (.ref 25) [cv o] []) _ _ s
  refine wpAny_call (hm outer s .none _ _ (hctx s _ 3 _ O rfl) O.h.gl (.inl ⟨rfl, rfl⟩) (Tx.bpos s o O.h.gl.stays) (fun s1 r _ O1 => ?_) (fun s1 e hg _ => absurd (good_nil o) hg))
  have O2 := O.called O1 (V := []) (by simp) (by simp) (by simp) (List.Sublist.refl _) (by simp)
  replace O2 : Own B s₀ [] s1 ((r, .list (cvs (way o))) :: (wy, .list (cvs (way o))) :: (d, .list ds) :: (a, .list (cvs allCls)) :: (env.locals, .ns (kvB sc o t wy)) :: (cC, .cell (some (.ref a))) :: (cD, .cell (some (.ref d))) :: T) := O2
  refine nameL O2 4 2 rfl rfl M.fn (M.loc _ (by simp)) (neSame O2 0 1 rfl rfl (way_lt o ho) hu (wpAny_truthy_bool ?_))
  rw [if_neg Bool.false_ne_true]
  exact wpAny_execs_nil (h s1 (O2.to (O2.h.sub (List.sublist_cons_self _ _))))
theorem lst5 (hh : A.handled = none) (M : LawEnv env cC cD) (hd : IntsAre ds (nats dks)) (hdk : ∀ k ∈ dks, k < 15) (hz : dks.length ≤ 100)
    (O : Own B s₀ [] s ((wy, .list (cvs (way o))) :: (d, .list ds) :: (a, .list (cvs allCls)) :: (env.locals, .ns (kvB sc o t wy)) :: (cC, .cell (some (.ref a))) :: (cD, .cell (some (.ref d))) :: T)) {Q : Flow → Shared → Prop}
    (h : ∀ s' mo, Own B s₀ [] s' ((mo, .list (cvs dks.tail)) :: (wy, .list (cvs (way o))) :: (d, .list ds) :: (a, .list (cvs allCls)) :: (env.locals, .ns (kvC sc o t wy mo)) :: (cC, .cell (some (.ref a))) :: (cD, .cell (some (.ref d))) :: T) → Q .next s') : wpAny (model prog w) A (exec (nth lawBody 5) env) Q E s := by
  have hlen : ds.length = dks.length := by rw [hd.length]; unfold nats; simp
  refine compPut (B := B) (s₀ := s₀) (W := []) (cl := [(Str.ofString "classes", cC)]) (fun _ => true) (fun v y => ∃ (n : Nat) (t : Tok), v = .int n t ∧ y = cv n) (swaps_true M.fn (M.loc _ (by simp)) (by decide +kernel)) (closK M) (by decide) rfl (by decide +kernel) (by decide +kernel) M.fn (M.loc _ (by simp)) ?_
  refine sliceL O 1 rfl (by rw [hlen, sizeLine_eq]; omega) (readC O 5 rfl M.cd M.fn M.drawn) fun s1 l O1 _ => ?_
  refine ⟨l, ds.tail, _, 4, kvB sc o t wy, rfl, O1, Heap.PlainList.isList (O1.h.get 0 rfl), by rw [List.length_tail, hlen, sizeLine_eq]; omega, .inl hh, byClasses M (ints_tail hd) (fun k hk => hdk k (List.mem_of_mem_tail hk)) (O1.h.get 5 rfl) (Heap.PlainList.isList (O1.h.get 3 rfl)), rfl, ?_, fun s3 D ys hp O3 => ?_⟩
  · simp only [List.map_append, List.map_cons, List.map_nil]; decide +kernel
  · rw [filter_tt] at hp
    rw [paired_cls (ints_tail hd) hp] at O3
    exact h s3 D (O3.to (O3.h.sub (.cons_cons _ (List.sublist_cons_self _ _))))
theorem lst6 (hh : A.handled = none) (hroom : A.depth < recursionLimit) (Bs : Bas B mg mb) (M : LawEnv env cC cD) (Tx : Text B fdM fdR fdC fdW oM oR oC oW) (ho : o < 15) (hd : IntsAre ds (nats dks)) (hz : dks.length ≤ 100)
    (O : Own B s₀ [] s ((mo, .list (cvs dks.tail)) :: (wy, .list (cvs (way o))) :: (d, .list ds) :: (a, .list (cvs allCls)) :: (env.locals, .ns (kvC sc o t wy mo)) :: (cC, .cell (some (.ref a))) :: (cD, .cell (some (.ref d))) :: T)) {Q : Flow → Shared → Prop}
    (h : ∀ s' tw tws, tws.isEmpty = often o dks.tail → Own B s₀ [] s' ((tw, .list tws) :: (mo, .list (cvs dks.tail)) :: (wy, .list (cvs (way o))) :: (d, .list ds) :: (a, .list (cvs allCls)) :: (env.locals, .ns (kvD sc o t wy mo tw)) :: (cC, .cell (some (.ref a))) :: (cD, .cell (some (.ref d))) :: T) → Q .next s') : wpAny (model prog w) A (exec (nth lawBody 6) env) Q E s := by
  have hlen : ds.length = dks.length := by rw [hd.length]; unfold nats; simp
  refine compPut (B := B) (s₀ := s₀) (W := []) (cl := [(Str.ofString "drawn", cD)]) (moreThanOne dks.tail) (fun v y => y = v) (swaps_true M.fn (M.loc _ (by simp)) (by decide +kernel)) (closD M) (by decide) rfl (by decide +kernel) (by decide +kernel) M.fn (M.loc _ (by simp)) ?_
  refine wpAny_Call_ofName (nameG Bs O M.toFenv (M.glo _ (by simp)) Bs.gw ?_)
  refine Calls.callWith_function (o := oW) (fd := fdW) (Calls.evalArgs_plain (Calls.spliced_cons (nameL O 4 1 rfl rfl M.fn (M.loc _ (by simp)) (Calls.spliced_nil ?_))))
  refine ⟨⟨O.h.gl.stays _ _ Tx.w.at', Tx.w.data⟩, ?_⟩
  show wpAny _ _ (call (.ref 39) [.int o t] []) _ _ s
  refine wpAny_call (wayCall O.h.gl hroom Bs Tx.w ho (Tx.bw s _) fun s1 r vs hv O1 => ?_)
  have O2 := O.called O1 (V := []) (by simp) (by simp) (by simp) (List.Sublist.refl _) (by simp)
  replace O2 : Own B s₀ [] s1 ((r, .list vs) :: (mo, .list (cvs dks.tail)) :: (wy, .list (cvs (way o))) :: (d, .list ds) :: (a, .list (cvs allCls)) :: (env.locals, .ns (kvC sc o t wy mo)) :: (cC, .cell (some (.ref a))) :: (cD, .cell (some (.ref d))) :: T) := O2
  refine ⟨r, vs, _, 5, kvC sc o t wy mo, rfl, O2, Heap.PlainList.isList (O2.h.get 0 rfl), ?_, .inl hh, byCount M hv hd (by omega) (O2.h.get 7 rfl) (O2.h.get 3 rfl) (by rfl), rfl, ?_, fun s3 D ys hp O3 => ?_⟩
  · rw [hv.length]
    have : ∀ k < 15, (way k).length ≤ 5 := by decide +kernel
    have := this o ho
    rw [List.length_map, sizeLine_eq]; omega
  · simp only [List.map_append, List.map_cons, List.map_nil]; decide +kernel
  · refine h s3 D ys ?_ (O3.to (O3.h.sub (.cons_cons _ (List.sublist_cons_self _ _))))
    rw [paired_id hp, twice_empty hv]
end
end C3
end

section
open PySem PySem.W PyProof.Rows PySem.SeqAt
set_option maxRecDepth 100000
set_option linter.unusedVariables false
set_option maxHeartbeats 400000
namespace C3
/-- what the law's frame holds, whatever the slots -/
structure LawHeap (h : Heap) (L cC cD a d mo tw : Addr) (kv : List (Str × Value)) (ds : List Value) (dks : List Nat) (tws : List Value) : Prop where
  ns : (∃ m, h.Ns L m ∧ ∀ p ∈ kv, m p.1 = some p.2) ∧ (kv.map (·.1)).Nodup
  la : h.IsList a (cvs allCls).toArray
  ld : h.IsList d ds.toArray
  lmo : h.IsList mo (cvs dks.tail).toArray
  ltw : h.IsList tw tws.toArray
  cc : h.IsCell cC (some (.ref a))
  cd : h.IsCell cD (some (.ref d))
theorem IsList.slots {h h' : Heap} {a : Addr} {xs : Array Value} (x : h.IsList a xs) (k : ∀ b o, h.get? b = some o → b = a → (∀ vs, o.data ≠ .fields vs) → ∃ sl, h'.get? b = some { o with slots := sl }) : h'.IsList a xs := by
  obtain ⟨o, ho, hc, n, hd⟩ := x
  obtain ⟨sl, z⟩ := k a o ho rfl (fun vs q => by rw [hd] at q; cases q)
  exact ⟨_, z, hc, n, hd⟩
theorem IsCell.slots {h h' : Heap} {a : Addr} {v : Option Value} (x : h.IsCell a v) (k : ∀ b o, h.get? b = some o → b = a → (∀ vs, o.data ≠ .fields vs) → ∃ sl, h'.get? b = some { o with slots := sl }) : h'.IsCell a v := by
  obtain ⟨o, ho, hd⟩ := x
  obtain ⟨sl, z⟩ := k a o ho rfl (fun vs q => by rw [hd] at q; cases q)
  exact ⟨_, z, hd⟩
theorem LawHeap.step {h h' : Heap} {L cC cD a d mo tw : Addr} {kv : List (Str × Value)} {ds : List Value} {dks : List Nat} {tws : List Value} (X : LawHeap h L cC cD a d mo tw kv ds dks tws)
    (k : ∀ b o, h.get? b = some o → b ∈ [L, a, d, mo, tw, cC, cD] → (∀ vs, o.data ≠ .fields vs) → ∃ sl, h'.get? b = some { o with slots := sl }) : LawHeap h' L cC cD a d mo tw kv ds dks tws := by
  obtain ⟨⟨⟨m, hn, hm⟩, nd⟩, xa, xd, xmo, xtw, xcc, xcd⟩ := X
  refine ⟨⟨⟨m, Ns.slots hn fun o ho hf => k L o ho (by simp) hf, hm⟩, nd⟩, IsList.slots xa ?_, IsList.slots xd ?_, IsList.slots xmo ?_, IsList.slots xtw ?_, IsCell.slots xcc ?_, IsCell.slots xcd ?_⟩ <;>
  · intro b o ho e hf
    exact k b o ho (by rw [e]; simp) hf
theorem Fly.runtime {B h : Heap} {l : List Env} {e : Addr} {fl : Value} (X : Fly B l e fl h) : ∃ o, h.get? e = some o ∧ o.cls = .type "RuntimeError" := by
  obtain ⟨_, _, _, _, oe, vs, T, oT, ts, he, hc, _⟩ := X
  exact ⟨oe, he, hc⟩
theorem Fly.notSpec {B h : Heap} {l : List Env} {e : Addr} {fl : Value} (X : Fly B l e fl h) : ¬ Spec e := by
  obtain ⟨_, S, _, _, oe, vs, T, oT, ts, he, hc, _⟩ := X
  obtain ⟨o2, es, n2, ho2, hcl, hd, _, _, ps, hp, _⟩ := S
  rintro (z | z)
  · rw [z, ho2] at he; cases he
    rw [hcl] at hc; cases hc
  · rw [z, hp] at he; cases he
    cases hc
theorem Fly.excOk {B h h' : Heap} {A : Around} {l : List Env} {e : Addr} {fl : Value} (X : Fly B l e fl h) (hk : ∀ o, h.get? e = some o → h'.get? e = some o) : ExcOk (A.mark (some (.ref e))) h' := by
  obtain ⟨_, _, _, _, oe, vs, T, oT, ts, he, hc, hd, h1, hnT, hTe, hT, hcT, hdT, h3, h2⟩ := X
  exact .inr ⟨e, oe, vs, rfl, hk _ he, hd, h2⟩
section
variable {prog : Program} {w : World} {A : Around} {E : Value → Shared → Prop} {s₀ s s' : Shared} {B : Heap} {W : List Addr} {C D T : List (Addr × Cell)} {env : Env} {mg mb : Str → Option Value} {R : Result → Shared → Prop} {cC cD : Addr} {outer : List Env}
  {fdM fdR fdC fdW : FuncData} {oM oR oC oW : Obj} {sc a d wy mo tw : Addr} {o : Nat} {t : Tok} {ds tws : List Value} {dks : List Nat}
theorem sliceI {x : Str} {p p2 p3 pos : Pos} {kd : Nat} {l : Addr} {xs : List Value} {Q : Value → Shared → Prop} (O : Own B s₀ W s C) (hl : s.heap.IsList l xs.toArray) (hz : xs.length ≤ sizeLine)
    (hn : Reads1 prog w A s (eval (.Name x p) env) (.ref l)) (h : ∀ s' l', Own B s₀ W s' ((l', .list xs.tail) :: C) → (∀ b o, s.heap.get? b = some o → s'.heap.get? b = some o) → Q (.ref l') s') :
    wpAny (model prog w) A (eval (.Subscript (.Name x p) (.Slice (some (.Constant (.int 1) kd p2)) none none p3) pos) env) Q E s := by
  refine wpAny_Subscript_list_slice (hn _ _ ?_)
  show wpAny _ _ (eval (.Constant (.int 1) kd p2) env) _ _ s
  refine wpAny_Constant_int ?_
  refine wpAny_pure ⟨l, xs.toArray, some 1, none, rfl, hl, by simpa using hz, .int _ _, .none, ?_⟩
  rw [slicePick1]
  refine h _ _ (O.to ?_) fun b o e => Heap.get?_push_of_some _ (Heap.get?_push_of_some _ e)
  have O1 := O.h.pushAny { cls := .type "slice", data := .fields #[.int 1 s.toks, .none, .none] }
  have O2 := O1.pushList xs.tail
  rwa [Heap.size_push] at O2
theorem neEmptyI {l b : Addr} {xs : List Value} {Q : Value → Shared → Prop} (hi : s.heap.IsList l xs.toArray) (hj : s.heap.IsList b ([] : List Value).toArray) (hu : A.units < cLine) (h : Q (.bool (!xs.isEmpty)) s) :
    wpAny (model prog w) A (compareOp .NotEq (.ref l) (.ref b)) Q E s := by
  cases xs with
  | nil => exact RcNeAt.lists (e := fun _ => true) hi hj rfl hu (fun j h1 => absurd h1 (Nat.not_lt_zero _)) prog w E Q h
  | cons x r => exact RcNeAt.lists_lengths hi hj (by simp) hu prog w E Q h
/-- more == [classes[k] for k in drawn[1:]] -/
theorem moreSame {p1 p2 p3 p4 p5 p6 p7 p8 p9 p10 p11 : Pos} {kd : Nat} (M : LawEnv env cC cD) (O : Own B s₀ W s C) (X : ExcOk A s.heap) (hu : A.units < cLine) (hd : IntsAre ds (nats dks)) (hdk : ∀ k ∈ dks, k < 15) (hz : dks.length ≤ 100)
    (hmo : s.heap.IsList mo (cvs dks.tail).toArray) (hdl : s.heap.IsList d ds.toArray) (ha : s.heap.IsList a (cvs allCls).toArray) (hcC : s.heap.IsCell cC (some (.ref a))) (hcD : s.heap.IsCell cD (some (.ref d)))
    (hm : Reads1 prog w A s (eval (.Name "more" p1) env) (.ref mo)) {Q : Value → Shared → Prop} (h : ∀ s', Own B s₀ W s' C → Q (.bool true) s') :
    wpAny (model prog w) A (eval (.Compare (.Name "more" p1) [.Eq] [.ListComp (.Subscript (.Name "classes" p2) (.Name "k" p3) p4) [⟨.Name "k" p5, .Subscript (.Name "drawn" p6) (.Slice (some (.Constant (.int 1) kd p7)) none none p8) p9, [], 0⟩] scopeK p10] p11) env) Q E s := by
  have hlen : ds.length = dks.length := by rw [hd.length]; unfold nats; simp
  refine wpAny_Compare1 (hm _ _ ?_)
  refine compEval (B := B) (s₀ := s₀) (W := W) (cl := [(Str.ofString "classes", cC)]) (fun _ => true) (fun v y => ∃ (n : Nat) (t : Tok), v = .int n t ∧ y = cv n) (closK M) (by decide) rfl (by decide +kernel) (by decide +kernel) ?_
  refine sliceI O hdl (by rw [hlen, sizeLine_eq]; omega) (fun Q E h => wpAny_Name (wpAny_loadName_cell M.fn M.drawn M.cd hcD h) (by decide +kernel)) fun s1 l O1 k1 => ?_
  refine ⟨l, ds.tail, _, rfl, O1, Heap.PlainList.isList (O1.h.get 0 rfl), by rw [List.length_tail, hlen, sizeLine_eq]; omega, X.at' fun x _ o e => k1 x o e,
    byClasses M (ints_tail hd) (fun k hk => hdk k (List.mem_of_mem_tail hk)) (hcC.keeps k1) (ha.at fun o e => k1 _ o e), fun s2 D ys hp O2 k2 => ?_⟩
  rw [filter_tt] at hp
  rw [paired_cls (ints_tail hd) hp] at O2
  have hmo2 : s2.heap.IsList mo (cvs dks.tail).toArray := (hmo.at fun o e => k1 _ o e).at fun o e => k2 _ o e
  refine eq_listAt (e := fun _ => true) hmo2 (Heap.PlainList.isList (O2.h.get 0 rfl)) rfl hu (same_all fun k hk => hdk k (List.mem_of_mem_tail hk)) ?_
  rw [all_true]
  exact h s2 (O2.to (O2.h.sub (.cons _ (.cons _ (List.Sublist.refl _)))))
theorem lst7 (hh : A.handled = none) (hctx : ∀ (s : Shared) (C : List (Addr × Cell)) (i : Nat) (kv : List (Str × Value)), Own B s₀ [] s C → C[i]? = some (env.locals, .ns kv) → Ctx A B s.heap [] (env :: outer)) (hu : A.units < cLine)
    (Bs : Bas B mg mb) (M : LawEnv env cC cD) (Tx : Text B fdM fdR fdC fdW oM oR oC oW) (ho : o < 15) (hd : IntsAre ds (nats dks)) (hdk : ∀ k ∈ dks, k < 15) (hz : dks.length ≤ 100) (hm : MroC prog w B fdR A o dks.tail) (htw : tws.isEmpty = often o dks.tail)
    (O : Own B s₀ [] s ((tw, .list tws) :: (mo, .list (cvs dks.tail)) :: (wy, .list (cvs (way o))) :: (d, .list ds) :: (a, .list (cvs allCls)) :: (env.locals, .ns (kvD sc o t wy mo tw)) :: (cC, .cell (some (.ref a))) :: (cD, .cell (some (.ref d))) :: T)) {Q : Flow → Shared → Prop}
    (hnext : ∀ s' td, Good o dks.tail → Own B s₀ [] s' ((td, .list (cvs (way o))) :: (tw, .list tws) :: (mo, .list (cvs dks.tail)) :: (wy, .list (cvs (way o))) :: (d, .list ds) :: (a, .list (cvs allCls)) ::
      (env.locals, .ns (kvD sc o t wy mo tw ++ [(("told" : Str), Value.ref td)])) :: (cC, .cell (some (.ref a))) :: (cD, .cell (some (.ref d))) :: T) → Q .next s')
    (hret : ∀ s', Gl B s'.heap → Sim s₀ s' → Q (.ret (.bool true)) s') : wpAny (model prog w) A (exec (nth lawBody 7) env) Q E s := by
  refine wpAny_Try_except ?_
  refine wpAny_execs_cons ?_
  refine wpAny_Assign_Name ?_
  refine wpAny_Call_Name_kw (nameG Bs O M.toFenv (M.glo _ (by simp)) Bs.gr ?_)
  refine callWith_function_kw (o := oR) (fd := fdR) (evalArgs_kw rfl (Calls.spliced_cons ?_))
  refine itemN (n := o) (v := cv o) (Heap.PlainList.isList (O.h.get 4 rfl)) (readC O 6 rfl M.cc M.fn M.classes) (readL O 5 1 rfl rfl M.fn (M.loc _ (by simp))) (all_get ho) (by omega) (Calls.spliced_nil (wpAny_evalAll_cons ?_))
  refine wpAny_bind (nameL O 5 3 rfl rfl M.fn (M.loc _ (by simp)) (wpAny_bind (wpAny_standAt (wpAny_pure (wpAny_evalAll_nil ?_)))))
  refine ⟨⟨O.h.gl.stays _ _ Tx.r.at', Tx.r.data⟩, ?_⟩
  show wpAny _ _ (call (.ref 25) [cv o] [("abcs", .ref mo)]) _ _ s
  refine wpAny_call (hm (env :: outer) s (.ref mo) _ _ (hctx s _ 5 _ O rfl) O.h.gl (.inr ⟨mo, rfl, O.h.get 1 rfl⟩) (Tx.bkw s o _ O.h.gl.stays) (fun s1 r hg O1 => ?_) (fun s1 e hg Z => ?_))
  · have O2 := O.called O1 (V := []) (by simp) (by simp) (by simp) (List.Sublist.refl _) (by simp)
    replace O2 : Own B s₀ [] s1 ((r, .list (cvs (way o))) :: (tw, .list tws) :: (mo, .list (cvs dks.tail)) :: (wy, .list (cvs (way o))) :: (d, .list ds) :: (a, .list (cvs allCls)) :: (env.locals, .ns (kvD sc o t wy mo tw)) :: (cC, .cell (some (.ref a))) :: (cD, .cell (some (.ref d))) :: T) := O2
    refine storeL_new O2 6 rfl (by simp only [List.map_append, List.map_cons, List.map_nil]; decide +kernel) M.fn (M.loc _ (by simp)) fun s2 O3 => ?_
    refine wpAny_execs_nil (wpAny_execs_nil ?_)
    exact hnext s2 r hg O3
  · have LH0 : LawHeap s.heap env.locals cC cD a d mo tw (kvD sc o t wy mo tw) ds dks tws :=
      ⟨O.h.get 5 rfl, Heap.PlainList.isList (O.h.get 4 rfl), Heap.PlainList.isList (O.h.get 3 rfl), Heap.PlainList.isList (O.h.get 1 rfl), Heap.PlainList.isList (O.h.get 0 rfl), O.h.get 6 rfl, O.h.get 7 rfl⟩
    have fresh : ∀ b ∈ [env.locals, a, d, mo, tw, cC, cD], B.get? b = none ∧ ¬ Spec b := fun b hb => by
      simp only [List.mem_cons, List.not_mem_nil, or_false] at hb
      rcases hb with e | e | e | e | e | e | e <;> rw [e]
      · exact (O.h.fresh _ (List.mem_of_getElem? (i := 5) rfl)).2
      · exact (O.h.fresh _ (List.mem_of_getElem? (i := 4) rfl)).2
      · exact (O.h.fresh _ (List.mem_of_getElem? (i := 3) rfl)).2
      · exact (O.h.fresh _ (List.mem_of_getElem? (i := 1) rfl)).2
      · exact (O.h.fresh _ (List.mem_of_getElem? (i := 0) rfl)).2
      · exact (O.h.fresh _ (List.mem_of_getElem? (i := 6) rfl)).2
      · exact (O.h.fresh _ (List.mem_of_getElem? (i := 7) rfl)).2
    have LH1 : LawHeap s1.heap env.locals cC cD a d mo tw (kvD sc o t wy mo tw) ds dks tws := LH0.step fun b o hb hm hf => Z.keep b o hb (by simp) (fresh b hm).2 hf
    have hsim : Sim s₀ s1 := O.sim.trans Z.sim
    have hdis : ∀ b ∈ [a, d, mo, tw, cC, cD], b ≠ env.locals := fun b hb => by
      simp only [List.mem_cons, List.not_mem_nil, or_false] at hb
      rcases hb with e | e | e | e | e | e <;> rw [e]
      · exact ne_of_other O.h.nd (i := 5) (j := 4) rfl rfl (by decide)
      · exact ne_of_other O.h.nd (i := 5) (j := 3) rfl rfl (by decide)
      · exact ne_of_other O.h.nd (i := 5) (j := 1) rfl rfl (by decide)
      · exact ne_of_other O.h.nd (i := 5) (j := 0) rfl rfl (by decide)
      · exact ne_of_other O.h.nd (i := 5) (j := 6) rfl rfl (by decide)
      · exact ne_of_other O.h.nd (i := 5) (j := 7) rfl rfl (by decide)
    have hfr : A.frames = some (env :: outer) := (hctx s _ 5 _ O rfl).fr
    have hof : often o dks.tail = false := by
      rw [← Bool.not_eq_true, often_good]; exact hg
    clear O hnext hm
    refine note_any hfr M.fr M.fr Z.fly fun h2 f2 k2 => ?_
    refine flight (s := { s1 with heap := h2 }) f2 fun h3 f3 k3 => ?_
    have LH3 : LawHeap h3 env.locals cC cD a d mo tw (kvD sc o t wy mo tw) ds dks tws := (LH1.step fun b o hb hm hf => k2.k b o hb hf).step fun b o hb hm hf => k3.k b o hb hf
    have own : ∀ (s' : Shared) (fl : Value), LawHeap s'.heap env.locals cC cD a d mo tw (kvD sc o t wy mo tw) ds dks tws → Fly B (env :: outer) e fl s'.heap → Own B s' [env.locals] s' [(env.locals, .ns (kvD sc o t wy mo tw))] := fun s' fl LH f => by
      have := OwnH.start (B := B) (h := s'.heap) (C := [(env.locals, .ns (kvD sc o t wy mo tw))]) ⟨f.stays, f.stat⟩ (by
        intro p hp
        rw [List.mem_singleton.mp hp]
        exact LH.ns) (by simp) (by
        intro p hp
        rw [List.mem_singleton.mp hp]
        exact fresh _ (by simp))
      exact ⟨this, Sim.refl s'⟩
    refine wpAny_handleBy_builtin (X := "RuntimeError") (T := "RuntimeError") (b := true) ?_ ?_ ?_ ?_
    · exact F.isExc_RuntimeError
    · exact F.notTuple_RuntimeError
    · exact F.self_RuntimeError
    refine nameB Bs (own { s1 with heap := h3 } _ LH3 f3) M.toFenv (M.glo _ (by simp)) (Bs.no _ (by simp)) PyProof.Rows.Boot.«RuntimeError» ?_
    refine ⟨rfl, f3.runtime, ?_⟩
    rw [if_pos rfl]
    refine flight (s := { s1 with heap := h3 }) f3 fun h4 f4 k4 => ?_
    have LH4 : LawHeap h4 env.locals cC cD a d mo tw (kvD sc o t wy mo tw) ds dks tws := LH3.step fun b o hb hm hf => k4.k b o hb hf
    have O4 := own { s1 with heap := h4 } _ LH4 f4
    have sim4 : Sim s₀ { s1 with heap := h4 } := ⟨hsim.os, hsim.bare⟩
    generalize hs4 : ({ s1 with heap := h4 } : Shared) = s4 at *
    have hh4 : s4.heap = h4 := by rw [← hs4]
    rw [← hh4] at LH4 f4
    clear hs4 hh4 k4 k3 k2 f2 f3 LH3 LH1 LH0 Z own
    have keep : ∀ {s5 : Shared} {C : List (Addr × Cell)}, Own B s4 [env.locals] s5 C → ∀ b ∈ [a, d, mo, tw, cC, cD], ∀ o, s4.heap.get? b = some o → s5.heap.get? b = some o := fun {s5 C} O5 b hb o e =>
      O5.h.keep b o e (by simpa using hdis b hb) (fresh b (List.mem_cons_of_mem _ hb)).2
    have keepE : ∀ {s5 : Shared} {C : List (Addr × Cell)}, Own B s4 [env.locals] s5 C → ExcOk (A.mark (some (.ref e))) s5.heap := fun {s5 C} O5 => f4.excOk fun oe he => O5.h.keep e oe he (fun q => by
      have q : e = env.locals := by simpa using q
      obtain ⟨⟨m, ⟨oL, es, n, hoL, hdL, _⟩, _⟩, _⟩ := LH4.ns
      obtain ⟨_, _, _, _, oe', vs, T', oT, ts, he', hc', hd', _⟩ := f4
      rw [q, hoL] at he'; cases he'
      rw [hdL] at hd'; cases hd') f4.notSpec
    refine wpAny_execs_cons ?_
    refine wpAny_Return_some ?_
    refine BoolOp_and ?_
    refine wpAny_Compare1 (nameL O4 0 4 rfl rfl M.fn (M.loc _ (by simp)) (emptyList O4 fun s5 l O5 => ?_))
    refine neEmptyI (LH4.ltw.at fun o e => keep O5 _ (by simp) o e) (Heap.PlainList.isList (O5.h.get 0 rfl)) hu (wpAny_truthy_bool ?_)
    rw [htw, hof]
    rw [if_pos (show (!false) = true from rfl)]
    refine BoolOp_one ?_
    refine moreSame M O5 (keepE O5) hu hd hdk hz (LH4.lmo.at fun o e => keep O5 _ (by simp) o e) (LH4.ld.at fun o e => keep O5 _ (by simp) o e) (LH4.la.at fun o e => keep O5 _ (by simp) o e)
      (let ⟨oc, hoc, hdc⟩ := LH4.cc; ⟨oc, keep O5 _ (by simp) oc hoc, hdc⟩) (let ⟨oc, hoc, hdc⟩ := LH4.cd; ⟨oc, keep O5 _ (by simp) oc hoc, hdc⟩) (readL O5 1 3 rfl rfl M.fn (M.loc _ (by simp))) fun s6 O6 => ?_
    exact hret s6 O6.h.gl (sim4.trans O6.sim)
/-- the last line -/
theorem lst8 (hh : A.handled = none) (hu : A.units < cLine) (M : LawEnv env cC cD) (ho : o < 15) (hd : IntsAre ds (nats dks)) (hdk : ∀ k ∈ dks, k < 15) (hz : dks.length ≤ 100) (htw : tws.isEmpty = true) {td : Addr}
    (O : Own B s₀ [] s ((td, .list (cvs (way o))) :: (tw, .list tws) :: (mo, .list (cvs dks.tail)) :: (wy, .list (cvs (way o))) :: (d, .list ds) :: (a, .list (cvs allCls)) ::
      (env.locals, .ns (kvD sc o t wy mo tw ++ [(("told" : Str), Value.ref td)])) :: (cC, .cell (some (.ref a))) :: (cD, .cell (some (.ref d))) :: T)) {Q : Flow → Shared → Prop}
    (hret : ∀ s', Gl B s'.heap → Sim s₀ s' → Q (.ret (.bool true)) s') : wpAny (model prog w) A (exec (nth lawBody 8) env) Q E s := by
  refine wpAny_Return_some ?_
  refine BoolOp_and ?_
  refine wpAny_Compare1 (nameL O 6 4 rfl rfl M.fn (M.loc _ (by simp)) (emptyList O fun s1 l O1 => ?_))
  refine eqEmpty O1 2 0 rfl rfl hu (wpAny_truthy_bool ?_)
  rw [if_pos htw]
  refine BoolOp_and ?_
  refine wpAny_Compare1 (nameL O1 7 5 rfl rfl M.fn (M.loc _ (by simp)) (nameL O1 7 2 rfl rfl M.fn (M.loc _ (by simp)) ?_))
  refine eqSame O1 1 4 rfl rfl (way_lt o ho) hu (wpAny_truthy_bool ?_)
  rw [if_pos rfl]
  refine BoolOp_one ?_
  refine moreSame M O1 (.inl hh) hu hd hdk hz (Heap.PlainList.isList (O1.h.get 3 rfl)) (Heap.PlainList.isList (O1.h.get 5 rfl)) (Heap.PlainList.isList (O1.h.get 6 rfl)) (O1.h.get 8 rfl) (O1.h.get 9 rfl) (readL O1 7 3 rfl rfl M.fn (M.loc _ (by simp))) fun s6 O6 => ?_
  exact hret s6 O6.h.gl O6.sim
end
end C3
end

section
open PySem PySem.W PyProof.Rows PySem.SeqAt
set_option maxRecDepth 100000
set_option linter.unusedVariables false
set_option maxHeartbeats 400000
namespace C3
section
variable {prog : Program} {w : World} {A : Around} {E : Value → Shared → Prop} {s₀ s s' : Shared} {B : Heap} {W : List Addr} {C D T : List (Addr × Cell)} {env : Env} {mg mb : Str → Option Value} {R : Result → Shared → Prop} {cC cD : Addr} {outer : List Env}
  {fdM fdR fdC fdW fdL : FuncData} {oM oR oC oW oL : Obj} {sc aL : Addr} {vs : List Value} {ns : List Int}
theorem lawEnv_of (Fa : FnAt B aL 6 oL fdL) {L : Addr} (he : env = newEnv fdL.scope L fdL.globals (cellsFrom (L + 1) fdL.scope.names []) (fdL.qualname ++ ".<locals>.") (some aL) fdL.code none fdL.builtins) : LawEnv env (L + 1) (L + 2) := by
  have hs : env.scope = scopeOf (fnAt 6) := by rw [he]; exact Fa.scope
  have hc : env.cells = cellsFrom (L + 1) (scopeOf (fnAt 6)).names [] := by rw [he]; show cellsFrom (L + 1) fdL.scope.names [] = _; rw [Fa.scope]
  have hc2 : env.cells = [(Str.ofString "drawn", L + 2), (Str.ofString "classes", L + 1)] := by rw [hc]; rfl
  refine ⟨⟨by rw [hs]; rfl, by rw [he]; exact Fa.g, by rw [he]; exact Fa.b, by rw [he]; rfl⟩, ?_, ?_, ?_, ?_, ?_, ?_⟩
  · show ∀ x ∈ _, env.scope.names.lookup x = _
    rw [hs]; decide +kernel
  · show ∀ x ∈ _, env.scope.names.lookup x = _
    rw [hs]; decide +kernel
  · show env.scope.names.lookup _ = _
    rw [hs]; decide +kernel
  · show env.scope.names.lookup _ = _
    rw [hs]; decide +kernel
  · rw [hc2]; rfl
  · rw [hc2]; rfl
theorem rank_small : ∀ k < 15, ∀ ks, rank k ks < 12 := by
  intro k hk ks
  have h5 : ∀ k < 15, (way k).length ≤ 5 := by decide +kernel
  have := h5 k hk
  unfold rank
  split <;> omega
theorem lawBody_eq : lawBody = [nth lawBody 0, nth lawBody 1, nth lawBody 2, nth lawBody 3, nth lawBody 4, nth lawBody 5, nth lawBody 6, nth lawBody 7, nth lawBody 8] := rfl
theorem headD_lt {ks : List Nat} (h : ∀ k ∈ ks, k < 15) : ks.headD 0 < 15 := by
  cases ks with
  | nil => decide
  | cons k r => exact h k (.head _)
/-- the body of the law -/
theorem lawBodyOk (X : Ctx A B s₀.heap [] outer) (G : Gl B s₀.heap) (hroom : A.depth + 20 < recursionLimit) (hu : A.units + 3 < cLine) (Bs : Bas B mg mb) (M : LawEnv env cC cD) (Tx : Text B fdM fdR fdC fdW oM oR oC oW)
    (hsc : s₀.heap.IsList sc vs.toArray) (hi : IntsAre vs ns) (hz : ns.length ≤ 63)
    (O : Own B s₀ [] s [(env.locals, .ns [("script", .ref sc)]), (cC, .cell none), (cD, .cell none)]) {Q : Flow → Shared → Prop}
    (hret : ∀ s', Gl B s'.heap → Sim s₀ s' → Q (.ret (.bool true)) s') : wpAny (model prog w) (A.deeper env) (execs lawBody env) Q E s := by
  have hh : (A.deeper env).handled = none := X.hd
  have hu' : (A.deeper env).units < cLine := hu
  have hctx : ∀ (s : Shared) (C : List (Addr × Cell)) (i : Nat) (kv : List (Str × Value)), Own B s₀ [] s C → C[i]? = some (env.locals, .ns kv) → Ctx (A.deeper env) B s.heap [] (env :: outer) :=
    fun s C i kv O hi => X.call O i hi M.fn M.fr (by simp) (by simp) (by simp)
  have hr : (A.deeper env).depth < recursionLimit := by show A.depth + 1 < _; omega
  have hm : ∀ k ks, k < 15 → (∀ j ∈ ks, j < 15) → ks.length ≤ 100 → MroC prog w B fdR (A.deeper env) k ks := fun k ks hk hks hl =>
    mroOk Bs Tx.code Tx.r Tx.m Tx.bkw Tx.bm 12 k ks (A.deeper env) hk hks hl (rank_small k hk ks) (by show A.depth + 1 + 12 + 2 < _; omega)
  have hlist : ∀ {s' : Shared} {C : List (Addr × Cell)}, Own B s₀ [] s' C → s'.heap.IsList sc vs.toArray := fun {s' C} O' => hsc.at fun o e => by
    obtain ⟨o', ho', hc, _⟩ := hsc
    rw [ho'] at e; cases e
    exact O'.h.keep sc _ ho' (by simp) (notSpec_list G.stat ho' hc)
  have hdn := dn_lt ns
  have hln : (dn ns).length ≤ 100 := by unfold dn; rw [List.length_map]; omega
  have ho := headD_lt hdn
  have htl : ∀ j ∈ (dn ns).tail, j < 15 := fun j hj => hdn j (List.mem_of_mem_tail hj)
  have hlt : (dn ns).tail.length ≤ 100 := by rw [List.length_tail]; omega
  rw [lawBody_eq]
  refine wpAny_execs_cons (lst0 hctx hr Bs M Tx O fun s1 a O1 => ?_)
  refine wpAny_execs_cons (lst1 hh M (hlist O1) hi (by omega) O1 fun s2 d ds hd O2 => ?_)
  refine wpAny_execs_cons (lst2 M hd hu' 1 (by simp only [List.map_cons, List.map_nil]; decide +kernel) O2 rfl 3 rfl fun s3 t O3 => ?_)
  generalize hok : (dn ns).headD 0 = o at *
  refine wpAny_execs_cons (lst3 (sc := sc) (t := t) hh hctx hr Bs M Tx ho O3 fun s4 wy O4 => ?_)
  refine wpAny_execs_cons (lst4 hctx hu' Bs M Tx ho (hm o [] ho (by simp) (by simp)) O4 fun s5 O5 => ?_)
  refine wpAny_execs_cons (lst5 hh M hd hdn hln O5 fun s6 mo O6 => ?_)
  refine wpAny_execs_cons (lst6 hh hr Bs M Tx ho hd hln O6 fun s7 tw tws htw O7 => ?_)
  refine wpAny_execs_cons (lst7 hh hctx hu' Bs M Tx ho hd hdn hln (hm o _ ho htl hlt) htw O7 (fun s8 td hg O8 => ?_) hret)
  refine wpAny_execs_cons (lst8 hh hu' M ho hd hdn hln (by rw [htw, often_good]; exact hg) O8 hret)
/-- law(script) -/
theorem lawCall (X : Ctx A B s.heap [] outer) (G : Gl B s.heap) (hroom : A.depth + 20 < recursionLimit) (hu : A.units + 3 < cLine) (Bs : Bas B mg mb) (Tx : Text B fdM fdR fdC fdW oM oR oC oW) (Fa : FnAt B aL 6 oL fdL)
    (bind : BindsTo s fdL ⟨[.ref sc], []⟩ [("script", .ref sc)]) (hsc : s.heap.IsList sc vs.toArray) (hi : IntsAre vs ns) (hz : ns.length ≤ 63)
    (hok : ∀ s', Gl B s'.heap → Sim s s' → R (.ok (.ret (.bool true))) s') : codeAny (model prog w) A (.call (.ref aL) ⟨[.ref sc], []⟩) R s := by
  refine codeAny_call_function (by omega) (G.stays _ _ Fa.at') Fa.data (by rw [Fa.scope]; rfl) (by rw [Fa.scope]; rfl) Fa.body (Fa.code.keeps G.stays) (bind _ _ _ _ ?_)
  rw [Fa.clo]
  refine wpAny_newFunctionEnv_cells (by rw [Fa.scope]; rfl) ?_ fun env he s' x => ?_
  · intro p hp
    rw [List.mem_singleton.mp hp]
    left
    show fdL.scope.names.lookup (Str.ofString "script") = _
    rw [Fa.scope]; decide +kernel
  have M := lawEnv_of Fa he
  have hL : env.locals = s.heap.objs.size := by rw [he]; rfl
  refine ⟨(own_nil G).h.gl.stat.noLimit.keeps x.toInCall.keep, codeAny_func ?_⟩
  have O : Own B s [] s' [(env.locals, .ns [("script", .ref sc)]), (s.heap.objs.size + 1, .cell none), (s.heap.objs.size + 2, .cell none)] := by
    obtain ⟨h', tk, rfl⟩ := x.toInCall.same
    have hno : ∀ a, s.heap.objs.size ≤ a → s.heap.get? a = none := fun a ha => Heap.get?_none_of_le ha
    have k1 : env.kindOf (Str.ofString "script") = some .local := M.loc _ (by simp)
    have hns := x.toInCall.ns
    have c1 := x.cell _ _ M.cc
    have c2 := x.cell _ _ M.cd
    simp only [bindL, bindC, k1, if_true] at hns c1 c2
    have O0 := own_nil (s := s) G
    have := O0.h.addMany (h' := h') x.toInCall.keep (D := [(env.locals, .ns [("script", .ref sc)]), (s.heap.objs.size + 1, .cell none), (s.heap.objs.size + 2, .cell none)]) ?_ ?_
    · exact O0.to this
    · intro p hp
      simp only [List.mem_cons, List.not_mem_nil, or_false] at hp
      rcases hp with rfl | rfl | rfl
      · refine ⟨hno _ (by rw [hL]; exact Nat.le_refl _), ⟨_, hns, fun q hq => ?_⟩, by simp⟩
        rw [List.mem_singleton.mp hq]
        exact if_pos rfl
      · exact ⟨hno _ (by omega), c1⟩
      · exact ⟨hno _ (by omega), c2⟩
    · rw [hL]
      simp
  exact lawBodyOk X G hroom hu Bs M Tx hsc hi hz O fun s'' G' S' => hok s'' G' S'
end
end C3
end

section
open PySem PySem.W PyProof.Rows
set_option maxRecDepth 100000
set_option linter.unusedVariables false
namespace C3
/-- the start, without what the run may write -/
def base (h : Heap) : Heap := (h.hide cStatics).hide tabP
theorem base_get {h : Heap} {b : Addr} (h1 : b ≠ cStatics) (h2 : b ≠ tabP) : (base h).get? b = h.get? b := (Heap.hide_ne _ h2).trans (Heap.hide_ne _ h1)
theorem base_spec {h : Heap} {b : Addr} (hb : Spec b) : (base h).get? b = none := by
  rcases hb with e | e
  · rw [e]
    exact (Heap.hide_ne _ (by decide)).trans (Heap.hide_self _ _)
  · rw [e]; exact Heap.hide_self _ _
theorem base_stays (h : Heap) : (base h).StaysIn h := fun b o e => by
  have h1 : b ≠ cStatics := fun q => by rw [base_spec (.inl q)] at e; cases e
  have h2 : b ≠ tabP := fun q => by rw [base_spec (.inr q)] at e; cases e
  rw [base_get h1 h2] at e; exact e
theorem base_of {h : Heap} {b : Addr} {o : Obj} (e : h.get? b = some o) (h1 : b ≠ cStatics := by decide) (h2 : b ≠ tabP := by decide) : (base h).get? b = some o := (base_get h1 h2).trans e
theorem base_ns {h : Heap} {a : Addr} {m : Str → Option Value} (n : h.Ns a m) (h1 : a ≠ cStatics := by decide) (h2 : a ≠ tabP := by decide) : (base h).Ns a m :=
  let ⟨o, es, ep, ho, r⟩ := n; ⟨o, es, ep, base_of ho h1 h2, r⟩
theorem gl_start {h : Heap} (h2 : h.get? cStatics = some { cls := .none, data := .dict #[] }) (h22 : h.get? tabP = some { cls := .none, data := .fields #[] }) : Gl (base h) h :=
  ⟨base_stays h, ⟨_, _, _, h2, rfl, rfl, (by intro e he; simp at he), (fun key v q => by cases q), ⟨_, h22, .inl rfl⟩⟩⟩
theorem findBy_eq {es : Array DictEntry} {key : Str} : (es.find? (·.key.isStr key)).map (·.val) = nsFind es key := by
  unfold nsFind findBy
  first | rfl | simp
theorem oldK_end {h h' : Heap} (G : Gl (base h) h') (h2 : h.get? cStatics = some { cls := .none, data := .dict #[] }) (h22 : h.get? tabP = some { cls := .none, data := .fields #[] }) (hc : isCodeTable h tabP) : OldK h h' := by
  obtain ⟨o, es, n, ho, hcl, hd, hk, hf, ps, hp, hps⟩ := G.stat
  refine ⟨fun b ob e => ?_, fun b ob e => ?_⟩
  · by_cases q1 : b = cStatics
    · subst q1
      have : ob = { cls := .none, data := .dict #[] } := Option.some.inj (e.symm.trans h2)
      subst this
      refine .inr (.inr ⟨rfl, rfl, ⟨o, es, n, ho, hcl, hd, hk⟩, fun key => ?_⟩)
      have e1 : staticOf h key = none := by unfold staticOf; rw [h2]; rfl
      have e2 : staticOf h' key = nsFind es key := by unfold staticOf; rw [ho]; dsimp only; rw [hd]; exact findBy_eq
      cases q : nsFind es key with
      | none => exact .inl (by rw [e1, e2, q])
      | some v =>
        obtain ⟨k, t, hk15, rfl, _⟩ := hf key v q
        exact .inr ⟨bkey_first k hk15, e1⟩
    · by_cases q2 : b = tabP
      · subst q2
        have : ob = { cls := .none, data := .fields #[] } := Option.some.inj (e.symm.trans h22)
        subst this
        refine .inr (.inl ⟨hc, rfl, #[], ps, rfl, ?_⟩)
        rw [hp]; simp
      · exact .inl (G.stays b ob (base_of e q1 q2))
  · by_cases q1 : b = cStatics
    · exact ⟨o, by rw [q1]; exact ho⟩
    · by_cases q2 : b = tabP
      · exact ⟨_, by rw [q2]; exact hp⟩
      · exact ⟨ob, G.stays b ob (base_of e q1 q2)⟩
end C3
end

open PySem PySem.W PyProof.Rows
set_option maxRecDepth 100000 in
set_option maxHeartbeats 8000000 in
theorem PySem.Challenge.cw_dn0018_12_holds : PySem.Challenge.rw_dn0018_12.Holds := by
  w_on; o_law; x_head; (case hw => w_witness2)
  k_fill
  intro w s₀ s₁ mg mb G Y fa o pm cd doc dV kV ho hd hcd hD hmg hg args vals as hpre hlay hrd hwl hlo
  have KX := kIn_of Y
  refine Ground.open G ?_
  intro T B D TE TW
  wrow_args hpre hlay hrd hwl hlo
  rename_i ns _ _ _ _ _ _ _ sa vs _ hsl _ _ _ hint _ hlen _
  x_fa T KX hmg
  clear hd hcd hD B D TE TW
  have h2 : s₁.heap.get? cStatics = some { cls := .none, data := .dict #[] } := KX 2 _ rfl
  have h22 : s₁.heap.get? C3.tabP = some { cls := .none, data := .fields #[] } := KX 22 _ rfl
  have h24 := KX 24 _ rfl
  have h4 := KX 4 _ rfl
  have Bs : C3.Bas (C3.base s₁.heap) mg mb := by
    refine ⟨C3.base_ns T.g, C3.base_ns T.b, T.builtins, ?_, mg_of KX T.g (by kernel_rfl), mg_of KX T.g (by kernel_rfl), mg_of KX T.g (by kernel_rfl), mg_of KX T.g (by kernel_rfl), fun b hb => C3.base_spec hb, ?_, ?_, ?_⟩
    · intro x hx
      simp only [List.mem_cons, List.not_mem_nil, or_false] at hx
      rcases hx with rfl | rfl | rfl | rfl | rfl | rfl | rfl | rfl | rfl | rfl | rfl | rfl | rfl | rfl | rfl | rfl | rfl | rfl | rfl | rfl | rfl | rfl <;> exact mg_none_of KX T.g (by kernel_rfl)
    · intro h ps hst hp ht
      exact ⟨_, _, _, _, _, _, _, _, _, _, hst _ _ (C3.base_of h24), rfl, rfl, rfl, rfl, rfl, rfl, hp, rfl, ht, by decide⟩
    · exact ⟨_, _, C3.base_of h24, rfl, rfl, rfl⟩
    · intro M A s Q E hst hQ
      exact wpAny_builtinsFor ((C3.base_ns T.g).keeps hst) (bm := 4) (mg_of KX T.g (by kernel_rfl)) (by decide) (hst _ _ (C3.base_of h4)) rfl rfl rfl hQ
  have h18 := KX 18 _ rfl
  have h19 := KX 19 _ rfl
  have h20 := KX 20 _ rfl
  have h25 := KX 25 _ rfl
  have h31 := KX 31 _ rfl
  have h32 := KX 32 _ rfl
  have h38 := KX 38 _ rfl
  have h39 := KX 39 _ rfl
  have Fm : C3.FnAt (C3.base s₁.heap) 19 1 _ _ := ⟨C3.base_of h19, rfl, by kernel_rfl, by kernel_rfl, rfl, rfl, rfl, ⟨18, _, _, _, rfl, C3.base_of h18, rfl, rfl⟩⟩
  have Fr : C3.FnAt (C3.base s₁.heap) 25 2 _ _ := ⟨C3.base_of h25, rfl, by kernel_rfl, by kernel_rfl, rfl, rfl, rfl, ⟨24, _, _, _, rfl, C3.base_of h24, rfl, rfl⟩⟩
  have Fc : C3.FnAt (C3.base s₁.heap) 32 4 _ _ := ⟨C3.base_of h32, rfl, by kernel_rfl, by kernel_rfl, rfl, rfl, rfl, ⟨31, _, _, _, rfl, C3.base_of h31, rfl, rfl⟩⟩
  have Fw : C3.FnAt (C3.base s₁.heap) 39 5 _ _ := ⟨C3.base_of h39, rfl, by kernel_rfl, by kernel_rfl, rfl, rfl, rfl, ⟨38, _, _, _, rfl, C3.base_of h38, rfl, rfl⟩⟩
  have h43 := KX 43 _ rfl
  have h44 := KX 44 _ rfl
  have Fl : C3.FnAt (C3.base s₁.heap) 44 6 _ _ := ⟨C3.base_of h44, rfl, by kernel_rfl, by kernel_rfl, rfl, rfl, rfl, ⟨43, _, _, _, rfl, C3.base_of h43, rfl, rfl⟩⟩
  have Tx : C3.Text (C3.base s₁.heap) _ _ _ _ _ _ _ _ := ⟨Fm, Fr, Fc, Fw, fun s v => BindsTo.of_eq rfl, fun s b va hst => BindsTo.of_defaults rfl (hst _ _ (C3.base_of h20)) rfl rfl rfl, fun s b hst => BindsTo.of_defaults rfl (hst _ _ (C3.base_of h20)) rfl rfl rfl, fun s => BindsTo.of_eq rfl, fun s v => BindsTo.of_eq rfl, rfl⟩
  have hct : isCodeTable s₁.heap C3.tabP := ⟨24, _, _, h24, rfl, rfl, rfl⟩
  refine wpAny_call (C3.lawCall (outer := []) ⟨rfl, rfl, trivial, by simp⟩ (C3.gl_start h2 h22) (by decide) (by decide) Bs Tx Fl (BindsTo.of_eq rfl) hsl hint (by omega) fun s' G' S' => ?_)
  refine ⟨.inl ⟨_, _, [], rfl, fun _ => rfl, ReadsW.bool true, ?_, fun _ => ⟨List.nodup_nil, fun _ hm => (nomatch hm)⟩⟩, C3.oldK_end G' h2 h22 hct, S'.os, S'.bare (by rw [hg]; exact AllBare.empty)⟩
  first | rfl | wrow_post
