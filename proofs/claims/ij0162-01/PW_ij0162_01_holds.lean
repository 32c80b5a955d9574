import PyProof.Rows.All
import Wide.All
import OpenK.AllK
import Wide.FinOn
import KE.KDictOf
import KE.KItemsList
import KE.KListMore
import PyProof.AttrMissHeap
import PyProof.EqKinds
import PyProof.ListStr
import Lean
import PySem.Challenge.RW_ij0162_01
set_option Elab.async false
namespace Mine
section
open PySem PySem.W PyProof.Rows
set_option Elab.async false
set_option maxRecDepth 100000
set_option maxHeartbeats 8000000
open_top hd for PySem.Challenge.rw_ij0162_01
end
section
open PySem Builtin Builtin.Str
set_option maxRecDepth 100000

def S (l : List Nat) : Str := ⟨l.toArray⟩
theorem S_toList (l : List Nat) : (S l).cps.toList = l := by simp [S]
theorem S_length (l : List Nat) : (S l).length = l.length := by simp [S, Str.length]
theorem S_ext {x : Str} {l : List Nat} (h : x.cps.toList = l) : x = S l := StrLaws.mk_of_toList h
theorem S_inj {a b : List Nat} (h : S a = S b) : a = b := by rw [← S_toList a, h, S_toList]
theorem S_app (a b : List Nat) : S a ++ S b = S (a ++ b) := S_ext (by rw [Str.cps_append]; simp [S])

/-- the text with pat put for r, reading from the left -/
def rep (pat r : List Nat) : List Nat → Nat → List Nat
  | [], _ => []
  | a :: t, 0 => if pat.isPrefixOf (a :: t) then r ++ rep pat r t (pat.length - 1) else a :: rep pat r t 0
  | _ :: t, k + 1 => rep pat r t k
def scan (pat : List Nat) : List Nat → Nat → Nat → List Nat
  | [], _, _ => []
  | a :: t, pos, 0 => if pat.isPrefixOf (a :: t) then pos :: scan pat t (pos + 1) (pat.length - 1) else scan pat t (pos + 1) 0
  | _ :: t, pos, k + 1 => scan pat t (pos + 1) k

theorem prefix_iff (pat l : List Nat) : (l.take pat.length == pat) = pat.isPrefixOf l := by
  rw [Bool.eq_iff_iff, List.isPrefixOf_iff_prefix, beq_iff_eq]
  rw [List.prefix_iff_eq_take]
  exact eq_comm

theorem occ_scan (l pat : List Nat) (hp : pat ≠ []) (limit : Nat) (hl : l.length < limit) : ∀ (rest : List Nat) (pos : Nat), l.drop pos = rest → pos ≤ l.length → ∀ (arr : Array Nat) (free : Nat), arr.size ≤ pos →
    (forIn (List.range' pos (rest.length + 1)) (arr, free) (StrLaws.occBody (S l) (S pat) l.length limit)).run.fst.toList = arr.toList ++ scan pat rest pos (free - pos)
  | [], pos, hr, hpos, arr, free, ha => by
    have hpl : 0 < pat.length := List.length_pos_iff.mpr hp
    have hn : pos = l.length := by
      have := congrArg List.length hr; simp at this; omega
    simp only [List.length_nil, Nat.zero_add, List.range'_one, List.forIn_cons, List.forIn_nil]
    unfold StrLaws.occBody
    rw [if_neg (by rw [S_length]; omega)]
    simp [scan]
  | a :: t, pos, hr, hpos, arr, free, ha => by
    have hlt : pos < l.length := by
      have := congrArg List.length hr; simp at this; omega
    have ht : l.drop (pos + 1) = t := by
      rw [← List.drop_drop, hr]; rfl
    rw [List.length_cons, List.range'_succ, List.forIn_cons]
    unfold StrLaws.occBody
    have hsub : subAt (S l) (S pat) pos = pat.isPrefixOf (a :: t) := by
      rw [StrLaws.subAt_eq, S_toList, S_toList, S_length, hr, prefix_iff]
    by_cases hf : free ≤ pos
    · have h0 : free - pos = 0 := by omega
      by_cases hq : pat.isPrefixOf (a :: t) = true
      · have hle : pos + pat.length ≤ l.length := by
          have h1 := (List.isPrefixOf_iff_prefix.mp hq).length_le
          have h2 := congrArg List.length hr
          simp only [List.length_drop] at h2
          omega
        rw [if_pos ⟨⟨⟨by show arr.size < limit; omega, hf⟩, by rw [S_length]; exact hle⟩, by rw [hsub]; exact hq⟩]
        show (forIn (List.range' (pos + 1) (t.length + 1)) (arr.push pos, pos + (S pat).length) (StrLaws.occBody (S l) (S pat) l.length limit)).run.fst.toList = _
        rw [occ_scan l pat hp limit hl t (pos + 1) ht (by omega) _ _ (by simp; omega), h0]
        have e : pos + (S pat).length - (pos + 1) = pat.length - 1 := by rw [S_length]; omega
        rw [e]
        simp [scan, hq]
      · rw [if_neg (fun h => hq (by rw [← hsub]; exact h.2))]
        show (forIn (List.range' (pos + 1) (t.length + 1)) (arr, free) (StrLaws.occBody (S l) (S pat) l.length limit)).run.fst.toList = _
        rw [occ_scan l pat hp limit hl t (pos + 1) ht (by omega) _ _ (by omega), h0]
        have e : free - (pos + 1) = 0 := by omega
        rw [e]
        simp [scan, hq]
    · rw [if_neg (fun h => hf h.1.1.2)]
      show (forIn (List.range' (pos + 1) (t.length + 1)) (arr, free) (StrLaws.occBody (S l) (S pat) l.length limit)).run.fst.toList = _
      rw [occ_scan l pat hp limit hl t (pos + 1) ht (by omega) _ _ (by omega)]
      obtain ⟨k, hk⟩ : ∃ k, free - pos = k + 1 := ⟨free - pos - 1, by omega⟩
      have e : free - (pos + 1) = k := by omega
      rw [hk, e]
      simp [scan]

theorem join_cons2 (z p : Str) (w : Nat) (x : Str) (a : Nat) (cs : List Nat) : Str.join z (p :: StrLaws.partsFrom x w a cs) = p ++ z ++ Str.join z (StrLaws.partsFrom x w a cs) := by
  obtain ⟨q, r, e⟩ := StrLaws.partsFrom_ne x w a cs
  rw [e]; rfl

theorem join_scan (l pat r : List Nat) (hp : pat ≠ []) : ∀ (rest : List Nat) (pos : Nat), l.drop pos = rest → pos ≤ l.length →
    (∀ a, a ≤ pos → (Str.join (S r) (StrLaws.partsFrom (S l) pat.length a (scan pat rest pos 0))).cps.toList = (l.drop a).take (pos - a) ++ rep pat r rest 0) ∧
    ∀ k, k ≤ rest.length → (Str.join (S r) (StrLaws.partsFrom (S l) pat.length (pos + k) (scan pat rest pos k))).cps.toList = rep pat r rest k
  | [], pos, hr, hpos => by
    have hn : pos = l.length := by
      have := congrArg List.length hr; simp at this; omega
    have first : ∀ a, a ≤ pos → (Str.join (S r) (StrLaws.partsFrom (S l) pat.length a (scan pat [] pos 0))).cps.toList = (l.drop a).take (pos - a) ++ rep pat r [] 0 := by
      intro a ha
      show (strSub (S l) a (S l).length).cps.toList = _
      rw [StrLaws.strSub_toList, S_toList, S_length, hn]
      simp [rep]
    refine ⟨first, fun k hk => ?_⟩
    have : k = 0 := by simpa using hk
    subst this
    rw [Nat.add_zero, first pos (Nat.le_refl _)]
    simp
  | b :: t, pos, hr, hpos => by
    have hlt : pos < l.length := by
      have := congrArg List.length hr; simp at this; omega
    have ht : l.drop (pos + 1) = t := by
      rw [← List.drop_drop, hr]; rfl
    have hlen : (b :: t).length = l.length - pos := by rw [← hr]; simp
    obtain ⟨ih1, ih2⟩ := join_scan l pat r hp t (pos + 1) ht (by omega)
    have hpl : 0 < pat.length := List.length_pos_iff.mpr hp
    have first : ∀ a, a ≤ pos → (Str.join (S r) (StrLaws.partsFrom (S l) pat.length a (scan pat (b :: t) pos 0))).cps.toList = (l.drop a).take (pos - a) ++ rep pat r (b :: t) 0 := by
      intro a ha
      by_cases hq : pat.isPrefixOf (b :: t) = true
      · have h1 := (List.isPrefixOf_iff_prefix.mp hq).length_le
        simp only [scan, rep, hq, if_true]
        show (Str.join (S r) (strSub (S l) a pos :: StrLaws.partsFrom (S l) pat.length (pos + pat.length) _)).cps.toList = _
        rw [join_cons2, Str.cps_append, Str.cps_append]
        have e := ih2 (pat.length - 1) (by simp only [List.length_cons] at h1; omega)
        have e2 : pos + 1 + (pat.length - 1) = pos + pat.length := by omega
        rw [e2] at e
        simp only [Array.toList_append]
        rw [e, StrLaws.strSub_toList, S_toList, S_toList]
        simp
      · simp only [scan, rep, hq, if_false, Bool.false_eq_true]
        rw [ih1 a (by omega)]
        have e : pos + 1 - a = (pos - a) + 1 := by omega
        have e3 : (l.drop a)[pos - a]? = some b := by
          rw [List.getElem?_drop]
          have : a + (pos - a) = pos := by omega
          rw [this]
          have h2 : (l.drop pos)[0]? = some b := by rw [hr]; rfl
          simpa using h2
        rw [e, List.take_add_one, e3]
        simp
    refine ⟨first, fun k hk => ?_⟩
    cases k with
    | zero => rw [Nat.add_zero, first pos (Nat.le_refl _)]; simp
    | succ k =>
      have e : pos + (k + 1) = pos + 1 + k := by omega
      rw [e]
      exact ih2 k (by simp only [List.length_cons] at hk; omega)

theorem replace_rep (l pat r : List Nat) (hp : pat ≠ []) : Txt.replace (S l) (S pat) (S r) = S (rep pat r l 0) := by
  have hocc : occurrences (S l) (S pat) 0 (S l).length ((S l).length + 1) = scan pat l 0 0 := by
    rw [StrLaws.occ_eq]
    have := occ_scan l pat hp ((S l).length + 1) (by rw [S_length]; omega) l 0 (by simp) (Nat.zero_le _) #[] 0 (by simp)
    simp only [S_length] at this ⊢
    simpa using this
  have hj : (Str.join (S r) (StrLaws.partsFrom (S l) pat.length 0 (scan pat l 0 0))).cps.toList = rep pat r l 0 := by
    have := (join_scan l pat r hp l 0 (by simp) (Nat.zero_le _)).1 0 (Nat.le_refl _)
    simpa using this
  have hpl : 0 < pat.length := List.length_pos_iff.mpr hp
  unfold Txt.replace
  rw [hocc]
  split
  · rename_i h
    have h0 : ((S pat).length == 0) = false := by rw [S_length]; simp; exact hp
    rw [h0, Bool.false_and, Bool.or_false, List.isEmpty_iff] at h
    rw [h] at hj
    refine S_ext ?_
    rw [← hj]
    show _ = (strSub (S l) 0 (S l).length).cps.toList
    rw [StrLaws.sub_whole]
  · rw [StrLaws.glued_eq_join, StrLaws.partsBetween_eq, S_length]
    exact S_ext hj

theorem rep_one (c : Nat) (r : List Nat) : ∀ l : List Nat, rep [c] r l 0 = l.flatMap fun a => if a = c then r else [a]
  | [] => rfl
  | a :: t => by
    have ih := rep_one c r t
    by_cases h : a = c
    · subst h
      simp [rep, List.isPrefixOf, ih]
    · have h' : (c == a) = false := by simp; exact fun e => h e.symm
      simp [rep, List.isPrefixOf, ih, h, h']

/-- a reference: an ampersand, what is neither that nor a semicolon, a semicolon -/
def IsRef (t : List Nat) : Prop := ∃ b, t = 38 :: (b ++ [59]) ∧ 38 ∉ b ∧ 59 ∉ b
def IsTok (t : List Nat) : Prop := (∃ c, c ≠ 38 ∧ t = [c]) ∨ IsRef t

theorem rep_skip (pat r : List Nat) : ∀ (u rest : List Nat), rep pat r (u ++ rest) u.length = rep pat r rest 0
  | [], rest => rfl
  | a :: u, rest => by
    simp only [List.length_cons, List.cons_append, rep]
    exact rep_skip pat r u rest

theorem rep_pass (pat r : List Nat) (q : List Nat) (hq : pat = 38 :: q) : ∀ (u rest : List Nat), 38 ∉ u → rep pat r (u ++ rest) 0 = u ++ rep pat r rest 0
  | [], rest, _ => rfl
  | a :: u, rest, h => by
    have ha : (38 == a) = false := by simp only [List.mem_cons, not_or] at h; simp; exact h.1
    have hu : 38 ∉ u := fun e => h (.tail _ e)
    have ih := rep_pass pat r q hq u rest hu
    rw [List.cons_append, rep, if_neg (by rw [hq]; simp [List.isPrefixOf, ha]), ih, List.cons_append]

theorem ref_prefix : ∀ (b b' rest : List Nat), 59 ∉ b → 59 ∉ b' → (b ++ [59]) <+: (b' ++ [59] ++ rest) → b = b'
  | [], [], _, _, _, _ => rfl
  | [], c :: b', rest, _, h', hp => by
    have := (List.cons_prefix_cons.mp hp).1
    exact absurd (.head _) (this ▸ h')
  | c :: b, [], rest, h, _, hp => by
    have := (List.cons_prefix_cons.mp hp).1
    exact absurd (.head _) (this ▸ h)
  | c :: b, c' :: b', rest, h, h', hp => by
    obtain ⟨e, hp'⟩ := List.cons_prefix_cons.mp hp
    rw [e, ref_prefix b b' rest (fun q => h (.tail _ q)) (fun q => h' (.tail _ q)) hp']

theorem rep_toks (pat r : List Nat) (hpat : IsRef pat) : ∀ toks : List (List Nat), (∀ t ∈ toks, IsTok t) → rep pat r toks.flatten 0 = (toks.map fun t => if t = pat then r else t).flatten
  | [], _ => rfl
  | t :: ts, h => by
    have ih := rep_toks pat r hpat ts fun u hu => h u (.tail _ hu)
    obtain ⟨q, rfl, hq1, hq2⟩ := hpat
    rw [List.flatten_cons, List.map_cons, List.flatten_cons, ← ih]
    rcases h t (.head _) with ⟨c, hc, rfl⟩ | ⟨b, rfl, hb1, hb2⟩
    · have hne : ¬ ([c] = 38 :: (q ++ [59])) := by
        intro e; injection e with e1 e2; exact hc e1
      rw [if_neg hne]
      exact rep_pass _ _ _ rfl [c] _ (by simp; exact fun e => hc e.symm)
    · by_cases e : b = q
      · subst e
        rw [if_pos rfl]
        have hpre : (38 :: (b ++ [59])).isPrefixOf (38 :: (b ++ [59]) ++ ts.flatten) = true := List.isPrefixOf_iff_prefix.mpr (List.prefix_append _ _)
        rw [List.cons_append] at hpre ⊢
        rw [rep, if_pos hpre]
        have : (38 :: (b ++ [59])).length - 1 = (b ++ [59]).length := by simp
        rw [this, rep_skip]
      · have hne : ¬ (38 :: (b ++ [59]) = 38 :: (q ++ [59])) := by
          intro h'; injection h' with _ h2; exact e (List.append_cancel_right h2)
        rw [if_neg hne, List.cons_append, rep, if_neg]
        · rw [rep_pass _ _ _ rfl (b ++ [59]) _ (by simp [hb1]), List.cons_append]
        · intro hp
          have := (List.cons_prefix_cons.mp (List.isPrefixOf_iff_prefix.mp hp)).2
          exact e (ref_prefix q b ts.flatten hq2 hb2 this).symm

theorem lt_room {d n m : Nat} (h : d + n < m) : d < m := Nat.lt_of_le_of_lt (Nat.le_add_right _ _) h
/-- room under the recursion limit -/
theorem room {d k n m : Nat} (h : d + n < m) (hk : Nat.ble (1 + k) n = true := by rfl) : d + 1 + k < m :=
  Nat.lt_of_le_of_lt (Nat.le_trans (Nat.le_of_eq (Nat.add_assoc d 1 k)) (Nat.add_le_add_left (Nat.le_of_ble_eq_true hk) d)) h
section
variable {α : Type} {M : Model} {A : Around} {E : Value → Shared → Prop} {s : Shared}
/-- the goal's end, hidden behind a name -/
theorem hideQ {t : Sem α} {Q : α → Shared → Prop} (h : ∀ Q' : α → Shared → Prop, (∀ a s', Q a s' → Q' a s') → wpAny M A t Q' E s) : wpAny M A t Q E s := h Q fun _ _ x => x
end
end
section
open PySem PySem.W PySem.Calls PyProof.Rows
set_option maxRecDepth 100000

/-- an entry of a table of texts: the key, its token, the value, its token -/
abbrev TE := Str × Tok × Str × Tok
def entOf (w : World) (x : TE) : DictEntry := ⟨hashStr w x.1, .str x.1 x.2.1, .str x.2.2.1 x.2.2.2⟩
def TD (w : World) (h : Heap) (d : Addr) (xs : List TE) : Prop :=
  ∃ o ep, h.get? d = some o ∧ o.ExactDict ∧ o.data = .dict (xs.map (entOf w)).toArray ep ∧ (xs.map (·.1)).Nodup
def put (xs : List TE) (k : Str) (tk : Tok) (v : Str) (tv : Tok) : List TE :=
  if xs.any (fun e => e.1 = k) then xs.map (fun e => if e.1 = k then (e.1, e.2.1, v, tv) else e) else xs ++ [(k, tk, v, tv)]

theorem TD.keep {w : World} {h h' : Heap} {d : Addr} {xs : List TE} (x : TD w h d xs) (k : ∀ o, h.get? d = some o → h'.get? d = some o) : TD w h' d xs :=
  let ⟨o, ep, ho, r⟩ := x; ⟨o, ep, k o ho, r⟩
theorem TD.typeIs {w : World} {s : Shared} {d : Addr} {xs : List TE} (x : TD w s.heap d xs) : s.TypeIs (.ref d) "dict" :=
  let ⟨o, _, ho, hc, _⟩ := x; ⟨o, ho, hc.1⟩
theorem TD.lt {w : World} {h : Heap} {d : Addr} {xs : List TE} (x : TD w h d xs) : d < h.objs.size :=
  let ⟨_, _, ho, _⟩ := x; Heap.lt_size ho

section
variable {prog : Program} {w : World} {A : Around} {E : Value → Shared → Prop} {s : Shared}

theorem keysOf_td (xs : List TE) : KeysOf (PySem.strKind prog w) (xs.map (entOf w)).toArray := by
  intro e he
  obtain ⟨x, hx, rfl⟩ := List.mem_map.mp (List.mem_toArray.mp he)
  exact ⟨x.1, strKind_is prog w _ _, rfl⟩
theorem pairs_td : ∀ xs : List TE, Pairs (PySem.strKind prog w) (xs.map (entOf w)) (xs.map fun x => (x.1, Value.str x.2.2.1 x.2.2.2))
  | [] => .nil
  | x :: xs => .cons (strKind_is prog w _ _) rfl (pairs_td xs)
theorem TD.dictAt {h : Heap} {d : Addr} {xs : List TE} (x : TD w h d xs) : ∃ ep, h.DictAt (PySem.strKind prog w) d (xs.map fun x => (x.1, Value.str x.2.2.1 x.2.2.2)) ep :=
  let ⟨o, ep, ho, hc, hd, hn⟩ := x
  ⟨ep, o, _, ho, hc, hd, keysOf_td xs, by simpa using pairs_td xs, by rw [List.map_map]; exact hn⟩
theorem TD.dictOf {h : Heap} {d : Addr} {xs : List TE} (x : TD w h d xs) : h.DictOf (PySem.strKind prog w) d (xs.map fun x => (x.1, Value.str x.2.2.1 x.2.2.2)) :=
  let ⟨_, h⟩ := x.dictAt (prog := prog); h.dictOf

theorem findIdx_td (k : Str) : ∀ xs : List TE, (xs.map (entOf w)).findIdx? (fun e => (PySem.strKind prog w).is k e.key) = xs.findIdx? fun e => decide (e.1 = k)
  | [] => rfl
  | x :: xs => by
    have e : (PySem.strKind prog w).is k (entOf w x).key = decide (x.1 = k) := by
      show (x.1 == k) = _
      by_cases h : x.1 = k <;> simp [h]
    rw [List.map_cons, List.findIdx?_cons, List.findIdx?_cons, e, findIdx_td k xs]

theorem put_hit {xs : List TE} {k : Str} {i : Nat} (tk : Tok) (v : Str) (tv : Tok) (hn : (xs.map (·.1)).Nodup) (hi : (xs.findIdx? fun e => decide (e.1 = k)) = some i) :
    (xs.map (entOf w)).modify i (fun e => { e with val := .str v tv }) = (put xs k tk v tv).map (entOf w) := by
  have hany : xs.any (fun e => decide (e.1 = k)) = true := by
    obtain ⟨hlt, hp, _⟩ := List.findIdx?_eq_some_iff_getElem.mp hi
    exact List.any_eq_true.mpr ⟨_, List.getElem_mem hlt, hp⟩
  unfold put
  rw [if_pos hany]
  clear hany
  induction xs generalizing i with
  | nil => simp at hi
  | cons x xs ih =>
    rw [List.map_cons, List.nodup_cons] at hn
    rw [List.findIdx?_cons] at hi
    by_cases h : x.1 = k
    · simp only [h, decide_true, if_true, Option.some.injEq] at hi
      subst hi
      simp only [List.map_cons, List.modify_zero_cons, h, if_true]
      have e2 : xs.map (fun e => if e.1 = k then (e.1, e.2.1, v, tv) else e) = xs := by
        conv => rhs; rw [← List.map_id xs]
        refine List.map_congr_left fun y hy => ?_
        have : y.1 ≠ k := fun e => hn.1 (List.mem_map.mpr ⟨y, hy, by rw [e, h]⟩)
        simp [this]
      rw [e2]
      simp [entOf, h]
    · simp only [h, decide_false, Bool.false_eq_true, if_false, Option.map_eq_some_iff] at hi
      obtain ⟨j, hj, rfl⟩ := hi
      simp only [List.map_cons, List.modify_succ_cons, h, if_false]
      exact congrArg (List.cons _) (ih hn.2 hj)

theorem put_miss {xs : List TE} {k : Str} (tk : Tok) (v : Str) (tv : Tok) (hi : (xs.findIdx? fun e => decide (e.1 = k)) = none) : put xs k tk v tv = xs ++ [(k, tk, v, tv)] := by
  unfold put
  rw [if_neg]
  intro h
  rw [List.any_eq_true] at h
  obtain ⟨x, hx, he⟩ := h
  rw [List.findIdx?_eq_none_iff] at hi
  have := hi x hx
  rw [he] at this; cases this

theorem put_nodup {xs : List TE} {k : Str} {tk : Tok} {v : Str} {tv : Tok} (hn : (xs.map (·.1)).Nodup) : ((put xs k tk v tv).map (·.1)).Nodup := by
  unfold put
  split
  · have : (xs.map (fun e => if e.1 = k then (e.1, e.2.1, v, tv) else e)).map (·.1) = xs.map (·.1) := by
      rw [List.map_map]
      refine List.map_congr_left fun e _ => ?_
      by_cases h : e.1 = k <;> simp [h]
    rw [this]; exact hn
  · rename_i h
    rw [List.map_append, List.nodup_append]
    refine ⟨hn, by simp, ?_⟩
    intro a ha b hb
    simp only [List.map_cons, List.map_nil, List.mem_singleton] at hb
    subst hb
    intro e
    obtain ⟨x, hx, rfl⟩ := List.mem_map.mp ha
    exact h (List.any_eq_true.mpr ⟨x, hx, by simpa using e⟩)

theorem put_length (xs : List TE) (k : Str) (tk : Tok) (v : Str) (tv : Tok) : (put xs k tk v tv).length ≤ xs.length + 1 := by
  unfold put; split <;> simp

theorem td_find {d : Addr} {xs : List TE} {k : Str} {tk : Tok} {Q : Option Nat → Shared → Prop} (x : TD w s.heap d xs) (h : Q (xs.findIdx? fun e => decide (e.1 = k)) s) :
    wpAny (model prog w) A (dictFind d (.str k tk) (hashStr w k)) Q E s := by
  obtain ⟨o, ep, ho, hc, hd, hn⟩ := x
  refine wpAny_dictFind_of (knd := PySem.strKind prog w) (strKind_is prog w k tk) ho hd (keysOf_td xs) ?_
  rw [← findIdx_td (prog := prog) (w := w) k xs] at h
  simpa using h

theorem td_upd {d : Addr} {xs : List TE} {k : Str} {tk : Tok} {v : Str} {tv : Tok} {i : Nat} {Q : Unit → Shared → Prop} (x : TD w s.heap d xs) (hi : (xs.findIdx? fun e => decide (e.1 = k)) = some i)
    (h : ∀ h', TD w h' d (put xs k tk v tv) → Heap.SameBut d s.heap h' → Q () { s with heap := h' }) {part : Option Value} :
    wpAny (model prog w) A (updateDict d (·.modify i fun e => { e with val := .str v tv }) part) Q E s := by
  obtain ⟨o, ep, ho, hc, hd, hn⟩ := x
  refine wpAny_updateDict ho hd (h _ ⟨_, ep, Heap.get?_update_self _ ho (Obj.isFreed_of_dict (Obj.data_mapDict hd _)), hc.mapDict _, ?_, put_nodup hn⟩ (Heap.SameBut.update ..))
  rw [Obj.data_mapDict hd, List.modify_toArray, put_hit tk v tv hn hi]
theorem td_new {d : Addr} {xs : List TE} {k : Str} {tk : Tok} {v : Str} {tv : Tok} {Q : Unit → Shared → Prop} (x : TD w s.heap d xs) (hi : (xs.findIdx? fun e => decide (e.1 = k)) = none) (hz : xs.length ≤ 1000)
    (h : ∀ h', TD w h' d (put xs k tk v tv) → Heap.SameBut d s.heap h' → Q () { s with heap := h' }) {part : Option Value} :
    wpAny (model prog w) A (updateDictKeys d (·.push ⟨hashStr w k, .str k tk, .str v tv⟩) part) Q E s := by
  obtain ⟨o, ep, ho, hc, hd, hn⟩ := x
  refine wpAny_updateDictKeys (hz := by rw [sizeLine_eq]; simp; omega) ho hd (h _ ⟨_, ep + 1, Heap.get?_update_self _ ho (Obj.isFreed_of_dict (Obj.data_mapDictKeys hd _)), hc.mapDictKeys _, ?_, put_nodup hn⟩ (Heap.SameBut.update ..))
  rw [Obj.data_mapDictKeys hd, put_miss tk v tv hi]
  simp [entOf]

theorem td_setHashed {d : Addr} {xs : List TE} {k : Str} {tk : Tok} {v : Str} {tv : Tok} {Q : Unit → Shared → Prop} (x : TD w s.heap d xs) (hz : xs.length ≤ 1000)
    (h : ∀ h', TD w h' d (put xs k tk v tv) → Heap.SameBut d s.heap h' → Q () { s with heap := h' }) :
    wpAny (model prog w) A (dictSetHashed d (.str k tk) (hashStr w k) (.str v tv)) Q E s := by
  unfold dictSetHashed
  refine wpAny_holding ?_
  refine wpAny_bind (td_find x ?_)
  cases hi : xs.findIdx? fun e => decide (e.1 = k) with
  | some i => exact wpAny_bind (wpAny_rule (wpAny_bind (td_upd x hi fun h' x' hs => wpAny_point (h h' x' hs))))
  | none => exact wpAny_bind (wpAny_rule (td_new x hi hz h))
theorem td_put {d : Addr} {xs : List TE} {k : Str} {tk : Tok} {v : Str} {tv : Tok} {Q : Unit → Shared → Prop} (x : TD w s.heap d xs) (hz : xs.length ≤ 1000)
    (h : ∀ h', TD w h' d (put xs k tk v tv) → Heap.SameBut d s.heap h' → Q () { s with heap := h' }) :
    wpAny (model prog w) A (dictPut d (hashStr w k) (.str k tk) (.str v tv)) Q E s := by
  unfold dictPut
  refine wpAny_bind (td_find x ?_)
  cases hi : xs.findIdx? fun e => decide (e.1 = k) with
  | some i => exact td_upd x hi h
  | none => exact td_new x hi hz h
theorem td_set {d : Addr} {xs : List TE} {k : Str} {tk : Tok} {v : Str} {tv : Tok} {Q : Unit → Shared → Prop} (x : TD w s.heap d xs) (hz : xs.length ≤ 1000)
    (h : ∀ h', TD w h' d (put xs k tk v tv) → Heap.SameBut d s.heap h' → Q () { s with heap := h', toks := s.toks + 1 }) :
    wpAny (model prog w) A (dictSet d (.str k tk) (.str v tv)) Q E s := by
  unfold dictSet
  refine wpAny_holding (wpAny_bind (wpAny_pyHash_str ?_))
  exact td_setHashed (s := { s with toks := s.toks + 1 }) x hz h

def putAll (xs ys : List TE) : List TE := ys.foldl (fun a e => put a e.1 e.2.1 e.2.2.1 e.2.2.2) xs
theorem putAll_length (ys : List TE) : ∀ xs : List TE, (putAll xs ys).length ≤ xs.length + ys.length := by
  induction ys with
  | nil => intro xs; exact Nat.le_refl _
  | cons y ys ih =>
    intro xs
    have h1 := ih (put xs y.1 y.2.1 y.2.2.1 y.2.2.2)
    have h2 := put_length xs y.1 y.2.1 y.2.2.1 y.2.2.2
    simp only [putAll, List.foldl_cons, List.length_cons] at h1 ⊢
    omega
def valOf (e : TE) : Value × Value := (.str e.1 e.2.1, .str e.2.2.1 e.2.2.2)

theorem td_storeAll {d : Addr} : ∀ (ys xs : List TE) (s : Shared) (Q : PUnit → Shared → Prop), TD w s.heap d xs → xs.length + ys.length ≤ 1000 →
    (∀ h', TD w h' d (putAll xs ys) → Heap.SameBut d s.heap h' → Q PUnit.unit { s with heap := h', toks := s.toks + ys.length }) →
    wpAny (model prog w) A (forIn (ys.map valOf) PUnit.unit fun (x : Value × Value) (_ : PUnit) => (do dictSet d x.1 x.2; pure (ForInStep.yield PUnit.unit) : Sem (ForInStep PUnit))) Q E s
  | [], xs, s, Q, x, _, hQ => by
    rw [List.map_nil, List.forIn_nil]
    exact wpAny_pure (hQ s.heap x (Heap.SameBut.refl _ _))
  | y :: ys, xs, s, Q, x, hz, hQ => by
    rw [List.length_cons] at hz
    rw [List.map_cons, List.forIn_cons]
    refine wpAny_bind (wpAny_bind (td_set x (by omega) fun h₁ x₁ hs₁ => wpAny_pure ?_))
    refine td_storeAll ys _ _ Q x₁ (by have := put_length xs y.1 y.2.1 y.2.2.1 y.2.2.2; omega) fun h' x' hs' => ?_
    have := hQ h' x' (hs₁.trans hs')
    simpa [Nat.add_assoc, Nat.add_comm 1] using this
end
end
section
open PySem PySem.W PySem.Calls PyProof.Rows
set_option maxRecDepth 100000
section
variable {prog : Program} {w : World} {A : Around} {E : Value → Shared → Prop} {s : Shared}

theorem putAll_take_succ (xs ys : List TE) (i : Nat) (y : TE) (h : ys[i]? = some y) : putAll xs (ys.take (i + 1)) = put (putAll xs (ys.take i)) y.1 y.2.1 y.2.2.1 y.2.2.2 := by
  unfold putAll
  rw [List.take_add_one, h]
  simp

theorem td_merge {d a : Addr} {xs ys : List TE} {Q : Unit → Shared → Prop} (hda : d ≠ a) (hS : (a == sysModules) = false) (x : TD w s.heap d xs) (y : TD w s.heap a ys) (hz : xs.length + ys.length ≤ 1000)
    (h : ∀ h', TD w h' d (putAll xs ys) → Heap.SameBut d s.heap h' → Q () { s with heap := h' }) :
    wpAny (model prog w) A (mergeMapping d (.ref a) false) Q E s := by
  obtain ⟨od, epd, hod, hcd, hdd, hnd⟩ := id x
  obtain ⟨oa, epa, hoa, hca, hda', hna⟩ := id y
  unfold mergeMapping
  refine wpAny_bind (wpAny_isInstance y.typeIs isSubtype_dict_dict ?_)
  simp only [if_true]
  refine wpAny_bind (wpAny_specialOf y.typeIs F.slot_dict_iter.lookup ?_)
  refine wpAny_bind (wpAny_pure ?_)
  simp only [beq_self_eq_true]
  rw [if_neg (by rw [hS]; exact Bool.false_ne_true)]
  refine wpAny_bind (wpAny_dictEntries hod hdd ?_)
  split
  case' isTrue =>
    refine wpAny_bind (wpAny_dictEntries hoa hda' ?_)
    refine wpAny_bind ?_
    rw [← Array.forIn_toList]
    refine wpAny_forIn_list _ (fun l _ s' => s' = s ∧ ∀ e ∈ l, ∃ z, e = entOf w z) _ ?_ (fun b s' hs' => ?_) _ _ ⟨rfl, fun e he => by obtain ⟨z, _, rfl⟩ := List.mem_map.mp he; exact ⟨z, rfl⟩⟩
    · rintro e l b s' ⟨rfl, hl⟩
      obtain ⟨z, rfl⟩ := hl e (.head _)
      exact wpAny_pure ⟨rfl, fun e he => hl e (.tail _ he)⟩
    rw [hs'.1]
    clear hs' b s'
  all_goals
    refine wpAny_bind (wpAny_dictEntries hoa hda' ?_)
    refine wpAny_bind (wpAny_dictEpoch hoa hda' ?_)
    refine wpAny_bind ?_
    refine wpAny_forIn_list _ (fun rest _ s'' => ∃ h' i, s'' = { s with heap := h' } ∧ rest = List.range' i (ys.length - i) ∧ i ≤ ys.length ∧ TD w h' d (putAll xs (ys.take i)) ∧ h'.get? a = some oa ∧ Heap.SameBut d s.heap h') _ ?_ ?_ _ _
      ⟨s.heap, 0, rfl, by simp [List.range_eq_range'], Nat.zero_le _, by simpa [putAll] using x, hoa, Heap.SameBut.refl _ _⟩
    · rintro n rest b s'' ⟨h', i, rfl, hr, hi, hx', hoa', hs'⟩
      have hlt : i < ys.length := by
        rcases Nat.lt_or_ge i ys.length with h | h
        · exact h
        · rw [Nat.sub_eq_zero_of_le h] at hr; simp at hr
      obtain ⟨rfl, hrest⟩ : n = i ∧ rest = List.range' (i + 1) (ys.length - (i + 1)) := by
        have e : ys.length - i = (ys.length - (i + 1)) + 1 := by omega
        rw [e, List.range'_succ] at hr
        injection hr with h1 h2
        exact ⟨h1, h2⟩
      refine wpAny_bind (wpAny_dictEntries hoa' hda' ?_)
      have hg : (List.map (entOf w) ys).toArray[n]? = some (entOf w ys[n]) := by simp [hlt]
      rw [hg]
      have hzz : (putAll xs (ys.take n)).length ≤ 1000 := by
        have := putAll_length (ys.take n) xs
        have h2 : (ys.take n).length ≤ ys.length := by rw [List.length_take]; omega
        omega
      refine wpAny_bind (wpAny_holding ?_)
      rw [if_neg Bool.false_ne_true]
      refine td_put (s := { s with heap := h' }) hx' hzz fun h'' hx'' hs'' => ?_
      have hoa'' : h''.get? a = some oa := (hs''.2 a (Ne.symm hda)).trans hoa'
      refine wpAny_bind (wpAny_dictEpoch hoa'' hda' ?_)
      rw [if_neg (by simp)]
      exact wpAny_pure ⟨h'', n + 1, rfl, hrest, hlt, by rw [putAll_take_succ xs ys n ys[n] (by simp [hlt])]; exact hx'', hoa'', hs'.trans hs''⟩
    · rintro b s'' ⟨h', i, rfl, hr, hi, hx', hoa', hs'⟩
      have hin : i = ys.length := by
        rcases Nat.lt_or_ge i ys.length with h | h
        · have e : ys.length - i = (ys.length - (i + 1)) + 1 := by omega
          rw [e, List.range'_succ] at hr; exact nomatch hr
        · exact Nat.le_antisymm hi h
      rw [hin, List.take_length] at hx'
      exact wpAny_pure (h h' hx' hs')
end
end
section
open PySem PySem.W PySem.Calls PyProof.Rows
set_option maxRecDepth 100000
section
variable {prog : Program} {w : World} {A : Around} {E : Value → Shared → Prop} {s : Shared}

theorem putAll_nil {ys : List TE} (hn : (ys.map (·.1)).Nodup) : putAll [] ys = ys := by
  have key : ∀ (ys acc : List TE), ((acc ++ ys).map (·.1)).Nodup → putAll acc ys = acc ++ ys := by
    intro ys
    induction ys with
    | nil => intro acc _; simp [putAll]
    | cons y ys ih =>
      intro acc hn
      have hm : put acc y.1 y.2.1 y.2.2.1 y.2.2.2 = acc ++ [y] := by
        refine put_miss _ _ _ ?_
        rw [List.findIdx?_eq_none_iff]
        intro x hx
        rw [List.map_append, List.nodup_append] at hn
        simpa using hn.2.2 _ (List.mem_map_of_mem hx) _ (.head _)
      show putAll (put acc y.1 y.2.1 y.2.2.1 y.2.2.2) ys = _
      rw [hm, ih (acc ++ [y]) (by simpa using hn)]
      simp
  exact key ys [] (by simpa using hn)

theorem td_subDict {pairs : List (Sem Value × Sem Value)} {Q : Addr → Shared → Prop} {ys : List TE} (hlen : pairs.length ≤ 15)
    (h : wpAny (model prog w) A (evalPairs pairs) (fun vs s₁ => vs = ys.map valOf ∧ TD w s₁.heap s.heap.objs.size [] ∧ (ys.map (·.1)).Nodup ∧
      ∀ h' tk, TD w h' s.heap.objs.size ys → Heap.SameBut s.heap.objs.size s₁.heap h' → s₁.toks ≤ tk → Q s.heap.objs.size { s₁ with heap := h', toks := tk }) E
      { s with heap := s.heap.push { cls := .type "dict", data := .dict #[] } }) :
    wpAny (model prog w) A (subDict pairs) Q E s := by
  unfold subDict
  refine wpAny_bind (wpAny_alloc ?_)
  refine wpAny_bind (wpAny_holding ?_)
  rw [if_pos hlen]
  refine wpAny_bind (wpAny_mono (wpAny_evalPairs_len h) (fun vs s₁ h₁ => ?_) fun _ _ e => e)
  obtain ⟨hvl, rfl, hm, hn, hQ⟩ := h₁
  rw [List.length_map] at hvl
  refine wpAny_holding ?_
  refine wpAny_bind (td_storeAll ys [] s₁ _ hm (by simp; omega) fun h' hm' hs' => wpAny_pure (wpAny_pure (hQ h' _ ?_ hs' (by omega))))
  rw [putAll_nil hn] at hm'
  exact hm'

theorem td_empty (h : Heap) : TD w (h.push { cls := .type "dict", data := .dict #[] }) h.objs.size [] :=
  ⟨_, _, Heap.get?_push_size _ rfl, ⟨rfl, rfl, rfl⟩, rfl, by simp⟩

theorem pairs_cons {x y : Str} {p q pos : Pos} {i j : Nat} {env : Env} {rest : List (Sem Value × Sem Value)} {Q : List (Value × Value) → Shared → Prop}
    (h : wpAny (model prog w) A (evalPairs rest) (fun vs s₁ => Q ((Value.str x s.toks, Value.str y (s.toks + 1)) :: vs) s₁) E { s with toks := s.toks + 1 + 1 }) :
    wpAny (model prog w) A (evalPairs ((eval (.Constant (.str x) i p) env, (do let v ← eval (.Constant (.str y) j q) env; standAt pos; pure v)) :: rest)) Q E s := by
  rw [evalPairs]
  refine wpAny_bind (Constant_str ?_)
  refine wpAny_bind (wpAny_holding (wpAny_bind (Constant_str (wpAny_bind (wpAny_standAt (wpAny_pure ?_))))))
  refine wpAny_bind (wpAny_holding (wpAny_mono h (fun vs s₁ h₁ => wpAny_pure h₁) fun _ _ e => e))

theorem pairs3 {x1 y1 x2 y2 x3 y3 : Str} {pos p1 q1 p2 q2 p3 q3 : Pos} {i1 j1 i2 j2 i3 j3 : Nat} {env : Env} {Q : List (Value × Value) → Shared → Prop} {h : Heap} {g : Array GenState} {dr : Drawn} {tk : Nat} {os : _}
    (hq : Q [(.str x1 tk, .str y1 (tk + 1)), (.str x2 (tk + 1 + 1), .str y2 (tk + 1 + 1 + 1)), (.str x3 (tk + 1 + 1 + 1 + 1), .str y3 (tk + 1 + 1 + 1 + 1 + 1))] ⟨h, g, dr, tk + 1 + 1 + 1 + 1 + 1 + 1, os⟩) :
    wpAny (model prog w) A (evalPairs [(eval (.Constant (.str x1) i1 p1) env, (do let v ← eval (.Constant (.str y1) j1 q1) env; standAt pos; pure v)),
      (eval (.Constant (.str x2) i2 p2) env, (do let v ← eval (.Constant (.str y2) j2 q2) env; standAt pos; pure v)), (eval (.Constant (.str x3) i3 p3) env, (do let v ← eval (.Constant (.str y3) j3 q3) env; standAt pos; pure v))]) Q E ⟨h, g, dr, tk, os⟩ := by
  refine pairs_cons ?_
  dsimp only
  refine pairs_cons ?_
  dsimp only
  refine pairs_cons ?_
  exact evalPairs_nil hq

set_option maxHeartbeats 2000000 in
theorem star_dict {env : Env} {nm : Str} {np pos p1 q1 p2 q2 p3 q3 : Pos} {i1 j1 i2 j2 i3 j3 : Nat} {x1 y1 x2 y2 x3 y3 : Str} {a : Addr} {ys : List TE} {Q : Value → Shared → Prop}
    (hname : ∀ (s' : Shared) (Q' : Value → Shared → Prop), (∀ b o, s.heap.get? b = some o → s'.heap.get? b = some o) → Q' (.ref a) s' → wpAny (model prog w) A (eval (.Name nm np) env) Q' (fun _ _ => False) s')
    (hy : TD w s.heap a ys) (hS : (a == sysModules) = false) (hbig : sysModules < s.heap.objs.size) (hlen : ys.length ≤ 900) (hx : ([x1, x2, x3] : List Str).Nodup)
    (h : ∀ h' tk, TD w h' s.heap.objs.size (putAll ys [(x1, s.toks, y1, s.toks + 1), (x2, s.toks + 1 + 1, y2, s.toks + 1 + 1 + 1), (x3, s.toks + 1 + 1 + 1 + 1, y3, s.toks + 1 + 1 + 1 + 1 + 1)]) →
      (∀ b o, s.heap.get? b = some o → h'.get? b = some o) → s.toks + 6 ≤ tk → Q (.ref s.heap.objs.size) { s with heap := h', toks := tk }) :
    wpAny (model prog w) A (eval (.Dict [none, some (.Constant (.str x1) i1 p1), some (.Constant (.str x2) i2 p2), some (.Constant (.str x3) i3 p3)]
      [.Name nm np, .Constant (.str y1) j1 q1, .Constant (.str y2) j2 q2, .Constant (.str y3) j3 q3] pos) env) Q E s := by
  rw [arm_eval_Dict]
  refine wpAny_bind (wpAny_standAt ?_)
  show wpAny _ _ (dictDisplay [(none, do let x ← eval (.Name nm np) env; standAt pos; pure x), (some (eval (.Constant (.str x1) i1 p1) env), do let x ← eval (.Constant (.str y1) j1 q1) env; standAt pos; pure x),
    (some (eval (.Constant (.str x2) i2 p2) env), do let x ← eval (.Constant (.str y2) j2 q2) env; standAt pos; pure x), (some (eval (.Constant (.str x3) i3 p3) env), do let x ← eval (.Constant (.str y3) j3 q3) env; standAt pos; pure x)]) _ _ _
  unfold dictDisplay
  simp only [List.forIn_cons, List.forIn_nil, List.isEmpty_nil, if_true, pure_bind, bind_assoc]
  refine wpAny_bind (wpAny_alloc ?_)
  have hal : a < s.heap.objs.size := hy.lt
  have hdS : ((s.heap.objs.size : Addr) == sysModules) = false := by
    simp only [beq_eq_false_iff_ne]; exact Nat.ne_of_gt hbig
  refine wpAny_bind (wpAny_holding (wpAny_bind (wpAny_mono (hname { s with heap := s.heap.push { cls := .type "dict", data := .dict #[] } } _ (fun b o e => Heap.get?_push_of_some _ e) ?_) (fun _ _ e => e) fun _ _ e => e.elim)))
  refine wpAny_bind (wpAny_standAt (wpAny_pure ?_))
  refine wpAny_bind (wpAny_onRaise (wpAny_tryCatch (wpAny_onRaise (wpAny_holding (td_merge (s := { s with heap := s.heap.push { cls := .type "dict", data := .dict #[] } }) (Nat.ne_of_gt hal) hS (td_empty s.heap) (hy.keep fun o e => Heap.get?_push_of_some _ e) (by simp; omega) fun h₁ x₁ hs₁ => ?_)))))
  have hny : (ys.map (·.1)).Nodup := by obtain ⟨_, _, _, _, _, hn⟩ := hy; exact hn
  rw [putAll_nil hny] at x₁
  simp only [List.nil_append, List.cons_append, List.length_cons, List.length_nil, Nat.zero_add, Nat.reduceAdd, Nat.reduceBEq, Bool.false_eq_true, if_false, pure_bind, List.isEmpty_cons]
  have hz₁ : h₁.objs.size = s.heap.objs.size + 1 := by rw [hs₁.1]; exact Heap.size_push ..
  have k₁ : ∀ b o, s.heap.get? b = some o → h₁.get? b = some o := fun b o e => hs₁.extBut b o (Nat.ne_of_lt (Heap.lt_size e)) (Heap.get?_push_of_some _ e)
  refine wpAny_bind ?_
  refine wpAny_bind ?_
  refine wpAny_holding ?_
  refine td_subDict (ys := [(x1, s.toks, y1, s.toks + 1), (x2, s.toks + 1 + 1, y2, s.toks + 1 + 1 + 1), (x3, s.toks + 1 + 1 + 1 + 1, y3, s.toks + 1 + 1 + 1 + 1 + 1)]) (Nat.le_of_ble_eq_true rfl) ?_
  refine pairs3 ?_
  have ee : ∀ P : Prop, P → True ∧ P := fun _ p => ⟨trivial, p⟩
  refine And.intro ?_ ?_
  · exact rfl
  refine And.intro ?_ ?_
  · exact td_empty h₁
  refine And.intro ?_ ?_
  · simpa using hx
  intro h₂ tk y₂ hs₂ htk
  have k₂ : ∀ b o, h₁.get? b = some o → h₂.get? b = some o := fun b o e => hs₂.extBut b o (Nat.ne_of_lt (Heap.lt_size e)) (Heap.get?_push_of_some _ e)
  have hne : s.heap.objs.size ≠ h₁.objs.size := by rw [hz₁]; exact Nat.ne_of_lt (Nat.lt_succ_self _)
  have hS₂ : ((h₁.objs.size : Addr) == sysModules) = false := by
    simp only [beq_eq_false_iff_ne]; rw [hz₁]; exact Nat.ne_of_gt (Nat.lt_succ_of_lt hbig)
  refine wpAny_bind (wpAny_onRaise (wpAny_holding (td_merge (s := { s with heap := h₂, toks := tk }) hne hS₂ (x₁.keep fun o e => k₂ _ o e) y₂ (by simp; omega) fun h₃ x₃ hs₃ => ?_)))
  refine wpAny_pure (wpAny_pure (h h₃ tk x₃ (fun b o e => hs₃.extBut b o (Nat.ne_of_lt (Heap.lt_size e)) (k₂ b o (k₁ b o e))) htk))
end
end
section
open PySem PySem.W PySem.Calls PyProof.Rows
set_option maxRecDepth 100000
section
variable {prog : Program} {w : World} {A : Around} {E : Value → Shared → Prop} {s : Shared} {env : Env}

/-- one turn over a table's items: the very key and value -/
theorem td_next_item {it d : Addr} {i : Nat} {ys : List TE} {y : TE} {ok ov : Value} {od : Obj} {ep : Nat} {Q : Option Value → Shared → Prop}
    (hit : IsItemIter s.heap it d i ys.length ep ok ov) (hod : s.heap.get? d = some od) (hdd : od.data = .dict (ys.map (entOf w)).toArray ep) (hx : ys[i]? = some y)
    (hQ : ∀ h', IsItemIterOut h' it d (i + 1) ys.length ep (.str y.1 y.2.1) (.str y.2.2.1 y.2.2.2) s.heap.objs.size →
      h'.get? s.heap.objs.size = some { cls := .type "tuple", data := .seq #[.str y.1 y.2.1, .str y.2.2.1 y.2.2.2] } → h'.objs.size = s.heap.objs.size + 1 →
      (∀ b o, b ≠ it → s.heap.get? b = some o → h'.get? b = some o) → Q (some (.ref s.heap.objs.size)) { s with heap := h' }) :
    wpAny (model prog w) A (pyNext (.ref it)) Q E s := by
  obtain ⟨hp, g, dr, tk, os⟩ := s
  have hT : Shared.TypeIs ⟨hp, g, dr, tk, os⟩ (.ref it) "dict_itemiterator" := ⟨_, hit, rfl⟩
  have hlt : i < ys.length := (List.getElem?_eq_some_iff.mp hx).1
  have hey : (ys.map (entOf w)).toArray[i]? = some (entOf w y) := by simp [hx]
  have hown : Builtin.Dict_items.ownsTuple "dict_itemiterator" = true := by decide
  unfold pyNext
  refine wpAny_bind (wpAny_attempt (wpAny_callSpecial?_slot (name := Str.ofString "__next__") hT F.slot_dict_itemiterator_next
    (wpAny_call_entry F.slot_dict_itemiterator_next hT F.entry_dict_itemiterator_next ?_ (F.args_dict_itemiterator_next_1 _))))
  refine wpAny_bind (wpAny_pure ?_)
  refine wpAny_bind (wpAny_bind ?_)
  first | refine wpAny_bind (wpAny_typeNameOfWhole_itemiter hT (wpAny_pure ?_)) | refine wpAny_bind (wpAny_typeNameOf_itemiter hT (wpAny_pure ?_))
  refine wpAny_bind (wpAny_fieldsOf hit rfl ?_)
  simp only [hown, if_true]
  show wpAny _ _ (if (Value.ref d == Value.none) = true then _ else _) _ _ _
  rw [if_neg (show ¬ ((Value.ref d == Value.none) = true) from Bool.false_ne_true)]
  refine wpAny_bind (wpAny_pure ?_)
  refine wpAny_bind (wpAny_dictEntries hod hdd ?_)
  rw [if_neg (by simp)]
  refine wpAny_bind (wpAny_pure ?_)
  refine wpAny_bind (wpAny_dictEpoch hod hdd ?_)
  rw [if_neg (by simp)]
  refine wpAny_pure ?_
  simp only [show ¬ ((i : Int) < 0) from by omega, if_false, Int.toNat_natCast, hey]
  refine wpAny_bind ?_
  first | refine wpAny_bind (wpAny_typeNameOfWhole_itemiter hT (wpAny_pure ?_)) | refine wpAny_bind (wpAny_typeNameOf_itemiter hT (wpAny_pure ?_))
  refine wpAny_bind (wpAny_isOneOf_itemiter hT ?_)
  show wpAny _ _ (setField (.ref it) 3 (rawInt ((i : Int) + 1)) >>= _) _ _ ⟨hp, g, dr, tk, os⟩
  refine wpAny_bind (wpAny_setField_rec hit (by simp) fun h₁ he₁ hs₁ => ?_)
  replace hs₁ : Heap.SameBut it hp h₁ := hs₁
  replace he₁ : IsItemIter h₁ it d (i + 1) ys.length ep ok ov := by
    have e : ((i + 1 : Nat) : Int) = (i : Int) + 1 := by omega
    unfold IsItemIter; rw [e]; simpa [rawInt] using he₁
  have hT₁ : Shared.TypeIs ⟨h₁, g, dr, tk, os⟩ (.ref it) "dict_itemiterator" := ⟨_, he₁, rfl⟩
  refine wpAny_bind (wpAny_holding ?_)
  refine wpAny_bind (wpAny_isOneOf_itemiter hT₁ ?_)
  refine wpAny_bind (wpAny_isOneOf_itemiter hT₁ ?_)
  show wpAny _ _ (Builtin.Dict_items.pairFromOwner (.ref it) 6 (.str y.1 y.2.1) (.str y.2.2.1 y.2.2.2)) _ _ ⟨h₁, g, dr, tk, os⟩
  unfold Builtin.Dict_items.pairFromOwner
  refine wpAny_bind (wpAny_newTuple ?_)
  have he₂ : IsItemIter (h₁.push { cls := .type "tuple", data := .seq #[.str y.1 y.2.1, .str y.2.2.1 y.2.2.2] }) it d (i + 1) ys.length ep ok ov := Heap.get?_push_of_some _ he₁
  have hil : it < hp.objs.size := Heap.lt_size hit
  have hz₁ : h₁.objs.size = hp.objs.size := hs₁.1
  generalize hh₂ : h₁.push { cls := .type "tuple", data := .seq #[.str y.1 y.2.1, .str y.2.2.1 y.2.2.2] } = h₂ at he₂
  have ht₂ : h₂.get? hp.objs.size = some { cls := .type "tuple", data := .seq #[.str y.1 y.2.1, .str y.2.2.1 y.2.2.2] } := by rw [← hh₂, ← hz₁]; exact Heap.get?_push_size _ rfl
  have hz₂ : h₂.objs.size = hp.objs.size + 1 := by rw [← hh₂, Heap.size_push, hz₁]
  have hk₂ : ∀ b o, b ≠ it → hp.get? b = some o → h₂.get? b = some o := fun b o hb e => by rw [← hh₂]; exact Heap.get?_push_of_some _ (hs₁.extBut b o hb e)
  show wpAny _ _ (Builtin.Dict_items.ownedTupleIsFree (.ref it) >>= _) _ _ ⟨h₂, g, dr, tk, os⟩
  rw [hz₁]
  clear hh₂ he₁ hs₁ hT₁ hz₁ h₁
  refine wpAny_bind ?_
  unfold Builtin.Dict_items.ownedTupleIsFree
  refine wpAny_bind (wpAny_field he₂ rfl (x := .none) rfl (wpAny_pure ?_))
  simp only [if_true]
  refine wpAny_bind (wpAny_field he₂ rfl (x := ok) rfl ?_)
  refine wpAny_bind (wpAny_field he₂ rfl (x := ov) rfl ?_)
  refine wpAny_bind (wpAny_setField_rec he₂ (by simp) fun h₃ he₃ hs₃ => ?_)
  replace hs₃ : Heap.SameBut it h₂ h₃ := hs₃
  replace he₃ : IsItemIter h₃ it d (i + 1) ys.length ep (.str y.1 y.2.1) ov := he₃
  refine wpAny_bind (wpAny_setField_rec he₃ (by simp) fun h₄ he₄ hs₄ => ?_)
  replace hs₄ : Heap.SameBut it h₃ h₄ := hs₄
  replace he₄ : IsItemIter h₄ it d (i + 1) ys.length ep (.str y.1 y.2.1) (.str y.2.2.1 y.2.2.2) := he₄
  refine wpAny_bind (wpAny_setField_rec he₄ (by simp) fun h₅ he₅ hs₅ => ?_)
  replace hs₅ : Heap.SameBut it h₄ h₅ := hs₅
  replace he₅ : IsItemIterOut h₅ it d (i + 1) ys.length ep (.str y.1 y.2.1) (.str y.2.2.1 y.2.2.2) hp.objs.size := he₅
  refine wpAny_bind (wpAny_setField_rec he₅ (by simp) fun h₆ he₆ hs₆ => ?_)
  replace hs₆ : Heap.SameBut it h₅ h₆ := hs₆
  replace he₆ : IsItemIterOut h₆ it d (i + 1) ys.length ep (.str y.1 y.2.1) (.str y.2.2.1 y.2.2.2) hp.objs.size := he₆
  have S : Heap.SameBut it h₂ h₆ := ((hs₃.trans hs₄).trans hs₅).trans hs₆
  refine wpAny_bind (wpAny_letGo (wpAny_pure (wpAny_pure ⟨_, rfl, wpAny_pure (hQ h₆ he₆ (S.extBut _ _ (Nat.ne_of_gt hil) ht₂) ?_ fun b o hb e => S.extBut b o hb (hk₂ b o hb e))⟩)))
  show h₆.objs.size = hp.objs.size + 1
  rw [S.1, hz₂]

/-- a loop over a table's items that changes the frame's names alone -/
theorem td_items_loop {R : Result → Shared → Prop} {xk xv : Str} {pk pv pt : Pos} {x1} {body : List Stmt} {it d : Addr} {ys : List TE} {ep : Nat} {m : Str → Option Value} {od : Obj}
    (hh : A.handled = none) (hxk : env.kindOf xk = some .local) (hxv : env.kindOf xv = some .local)
    (hp : (env.scope.kind == .class || (env.scope.kind == .module && env.locals != env.globals)) = false)
    (hiL : it ≠ env.locals) (hdL : d ≠ env.locals) (hdi : d ≠ it)
    (hit : IsItemIter s.heap it d 0 ys.length ep .none .none) (hod : s.heap.get? d = some od) (hcd : od.ExactDict) (hdd : od.data = .dict (ys.map (entOf w)).toArray ep) (hnd : (ys.map (·.1)).Nodup) (hn : s.heap.Ns env.locals m)
    (J : Nat → (Str → Option Value) → Prop) (h0 : J 0 m)
    (step : ∀ i y m₁ s₁, ys[i]? = some y → J i m₁ → s.toks ≤ s₁.toks →
      s₁.heap.Ns env.locals (fun z => if z = xv then some (.str y.2.2.1 y.2.2.2) else if z = xk then some (.str y.1 y.2.1) else m₁ z) →
      wpAny (model prog w) A (execs body env) (fun f s₂ => f = .next ∧ OnlyLocals env.locals s₁ s₂ ∧ ∃ m₂, s₂.heap.Ns env.locals m₂ ∧ J (i + 1) m₂) (notedBy (model prog w) A env fun e s' => R (.error e) s') s₁)
    (hR : ∀ h' tk m', h'.Ns env.locals m' → J ys.length m' → (∀ b o, b ≠ env.locals → b ≠ it → s.heap.get? b = some o → h'.get? b = some o) → R (.ok .next) { s with heap := h', toks := tk }) :
    codeAny (model prog w) A (.forLoop (.Tuple [.Name xk pk, .Name xv pv] x1 pt) (.ref it) body [] env) R s := by
  refine codeAny_forLoop_any
    (fun n s' => ∃ h' tk m' i ok ov, s' = { s with heap := h', toks := tk } ∧ s.toks ≤ tk ∧ IsItemIter h' it d i ys.length ep ok ov ∧ h'.get? d = some od ∧ h'.Ns env.locals m' ∧ J i m' ∧ i ≤ ys.length ∧
      n = ys.length + 1 - i ∧ ∀ b o, b ≠ env.locals → b ≠ it → s.heap.get? b = some o → h'.get? b = some o) ?_ (ys.length + 1)
    ⟨s.heap, s.toks, m, 0, .none, .none, rfl, Nat.le_refl _, hit, hod, hn, h0, Nat.zero_le _, rfl, fun _ _ _ _ x => x⟩
  rintro n s' ⟨H, tk, m', i, ok, ov, rfl, htk, hit', hod', hn', hJ, hi, rfl, hk⟩
  cases hv : ys[i]? with
  | none =>
    have hsz : i = ys.length := Nat.le_antisymm hi (by simpa using hv)
    have hm' : H.DictAt (PySem.strKind prog w) d (ys.map fun x => (x.1, Value.str x.2.2.1 x.2.2.2)) ep :=
      ⟨od, _, hod', hcd, hdd, keysOf_td ys, by simpa using pairs_td ys, by rw [List.map_map]; exact hnd⟩
    have hit'' : IsItemIter H it d i (ys.map fun x => (x.1, Value.str x.2.2.1 x.2.2.2)).length ep ok ov := by rw [List.length_map]; exact hit'
    refine wpAny_pyNext_items_end hh hit'' hm' (by rw [List.getElem?_map, hv]; rfl) fun h₁ he₁ => wpAny_execs_nil ?_
    exact hR h₁ tk m' (hn'.extBut he₁ (Ne.symm hiL)) (hsz ▸ hJ) fun b o hbL hbi x => he₁ b o hbi (hk b o hbL hbi x)
  | some y =>
    have hlt : i < ys.length := (List.getElem?_eq_some_iff.mp hv).1
    have hiH : it < H.objs.size := Heap.lt_size hit'
    have hLH : env.locals < H.objs.size := hn'.lt
    have hdH : d < H.objs.size := Heap.lt_size hod'
    refine td_next_item hit' hod' hdd hv fun h₁ heo ht₁ hz₁ hk₁ => ?_
    refine wpAny_letOwnedTupleGo_items heo fun h₂ he₂ hs₂ => ?_
    replace hs₂ : Heap.SameBut it h₁ h₂ := hs₂
    have ht₂ : h₂.IsTuple H.objs.size #[.str y.1 y.2.1, .str y.2.2.1 y.2.2.2] := ⟨_, (hs₂.2 _ (Nat.ne_of_gt hiH)).trans ht₁, rfl, _, rfl⟩
    have hz₂ : h₂.objs.size = H.objs.size + 1 := hs₂.1.trans hz₁
    refine wpAny_assign_Tuple hh ht₂ rfl rfl fun h₃ hx₃ => ?_
    replace hx₃ : Heap.ExtBut h₂.objs.size h₂ h₃ := hx₃
    have old₃ : ∀ b o, b < H.objs.size → h₂.get? b = some o → h₃.get? b = some o := fun b o hb x => hx₃ b o (by rw [hz₂]; exact Nat.ne_of_lt (Nat.lt_succ_of_lt hb)) x
    have hn₃ : h₃.Ns env.locals m' := (hn'.at fun o x => hk₁ _ o (Ne.symm hiL) x).sameBut hs₂ (Ne.symm hiL) |>.at fun o x => old₃ _ o hLH x
    show wpAny _ _ (do holding [Value.str y.2.2.1 y.2.2.2] (assign (.Name xk pk) env (.str y.1 y.2.1)); do holding [] (assign (.Name xv pv) env (.str y.2.2.1 y.2.2.2)); pure ()) _ _ _
    refine wpAny_bind (wpAny_holding (wpAny_assign_Name (wpAny_storeName_local hxk hn₃ (fun h₄ hn₄ hs₄ => ?_) hp)))
    replace hs₄ : Heap.SameBut env.locals h₃ h₄ := hs₄
    refine wpAny_bind (wpAny_holding (wpAny_assign_Name (wpAny_storeName_local hxv hn₄ (fun h₅ hn₅ hs₅ => wpAny_pure ?_) hp)))
    replace hs₅ : Heap.SameBut env.locals h₄ h₅ := hs₅
    have up₅ : ∀ b o, b ≠ env.locals → b < H.objs.size → h₂.get? b = some o → h₅.get? b = some o := fun b o hbL hb x => hs₅.extBut b o hbL (hs₄.extBut b o hbL (old₃ b o hb x))
    refine wpAny_with_toks (n := s.toks) ?_ (wpAny_mono (step i y m' _ hv hJ ?_ hn₅) (fun f s₃ h₆ htk₃ => ?_) fun _ _ x _ => x)
    · show s.toks ≤ _; dsimp only; omega
    · show s.toks ≤ _; dsimp only; omega
    obtain ⟨rfl, ⟨h₆, tk₆, rfl, hs₆⟩, m₂, hn₆, hJ₆⟩ := h₆
    replace hs₆ : Heap.SameBut env.locals h₅ h₆ := hs₆
    have up : ∀ b o, b ≠ env.locals → b < H.objs.size → h₂.get? b = some o → h₆.get? b = some o := fun b o hbL hb x => hs₆.extBut b o hbL (up₅ b o hbL hb x)
    refine ⟨ys.length + 1 - (i + 1), by omega, h₆, tk₆, m₂, i + 1, _, _, rfl, htk₃, up it _ hiL hiH he₂, up d od hdL hdH (hs₂.extBut d od hdi (hk₁ d od hdi hod')), hn₆, hJ₆, hlt, rfl, fun b o hbL hbi x => ?_⟩
    have hbH : b < H.objs.size := Heap.lt_size (hk b o hbL hbi x)
    exact up b o hbL hbH (hs₂.extBut b o hbi (hk₁ b o hbi (hk b o hbL hbi x)))
end
end
section
open PySem PySem.W PySem.Calls PyProof.Rows
set_option Elab.async false
set_option maxRecDepth 100000
set_option maxHeartbeats 8000000
set_option pp.deepTerms false
set_option pp.deepTerms.threshold 6
set_option pp.maxSteps 20000
theorem fill_now : (PySem.Challenge.rw_ij0162_01.Holds → hd.heap_39 = hd.heap_39) := by
  k_fill
  intro _; rfl

theorem enter_fn {prog : Program} {w : World} {A : Around} {s : Shared} {K : Frag}
    {name qual : Str} {params : Arguments} {body : List Stmt} {scope : Scope} {dV kV doc pm cdv ct oc : Value} {an od : Option Addr} {osl : Array (Option Value)} {f : Addr}
    {pos : List Value} {kw : List (Str × Value)} {binds : List (Str × Value)} {Q E : Value → Shared → Prop}
    (X : K.In s.heap) (hlim : s.heap.NoLimit)
    (ho : K.lookup f = some ⟨oc, od, .func (fnOf name qual params body scope dV kV doc pm an cdv ct), osl⟩) (hcd : codeIn K cdv qual = true) (hroom : A.depth < recursionLimit)
    (hbind : BindsTo s (fnOf name qual params body scope dV kV doc pm an cdv ct) ⟨pos, kw⟩ binds) (hloc : ∀ y ∈ binds, scope.names.lookup y.1 = some .local)
    (h : ∀ L h₁, Fr s.heap L h₁ (fun y => binds.reverse.lookup y) → News s.heap L h₁ [] →
      wpAny (model prog w) (A.deeper (envOf qual scope L f cdv)) (execs body (envOf qual scope L f cdv))
        (fun fl s' => s.toks ≤ s'.toks → Q (match fl with | .ret v => v | _ => .none) s') (fun _ _ => False)
        { s with heap := h₁, toks := s.toks + binds.length })
    (hco : scope.isCoroutine = false) (hgen : scope.isGenerator = false) (hk : scope.kind = .function)
    (hcell : ∀ x ∈ scope.names, x.2 ≠ .cell) : wpAny (model prog w) A (call (.ref f) pos kw) Q E s := by
  refine wpAny_with_toks (Nat.le_refl s.toks) ?_
  refine wpAny_call ?_
  refine codeAny_call_def (fd := fnOf name qual params body scope dV kV doc pm an cdv ct) (body := body) (binds := binds) hroom (X _ _ ho) rfl hlim (codeRec_of X hcd) rfl hbind hcell hloc (fun h₁ hns hk₁ => ?_) hco hgen hk
  exact wpAny_mono (h s.heap.objs.size h₁ ⟨hns, hk₁, Nat.le_refl _⟩ News.nil) (fun _ _ x => x) (fun _ _ x => x.elim)

end
local macro_rules | `(tactic| walk_at "mine.enter") => `(tactic| (
  refine' Mine.enter_fn (by assumption) (PyProof.Rows.Top.nolimit (by assumption)) ?ho ?hcd ?hroom ?hbind ?hloc ?_ ?c1 ?c2 ?c3 ?c4;
  (case ho => k_is); (case hcd => k_is); (case hroom => exact Mine.lt_room (by assumption)); (case hbind => first | exact PySem.BindsTo.of_eq rfl | exact PySem.W.binds_K (by assumption) rfl (by k_is) rfl rfl rfl);
  (case hloc => exact PyProof.Rows.locs rfl); (case c1 => exact rfl); (case c2 => exact rfl); (case c3 => exact rfl); (case c4 => decide)))
section
open PySem PySem.W PySem.Calls PyProof.Rows
set_option Elab.async false
set_option maxRecDepth 100000
set_option maxHeartbeats 8000000
set_option pp.deepTerms false
set_option pp.deepTerms.threshold 6
set_option pp.maxSteps 20000

def replAll (x : Str) (ys : List TE) : Str := ys.foldl (fun a y => Txt.replace a y.1 y.2.2.1) x

theorem dict_replace_go {prog : Program} {w : World} {p : Program} {loose : List Str} {mean : ExcName → Option Value} {mg mb : Str → Option Value} {s : Shared} {Q E : Value → Shared → Prop}
    {dp un : Nat} {fr : Option (List Env)} {gd : Option (List Code)} {x : Str} {t : Tok} {d : Addr} {ys : List TE}
    (KX : (hd.heap_39 w.params).In s.heap) (T : Top p loose mean mg mb s.heap) (hdp : dp + 3 < recursionLimit)
    (hy : TD w s.heap d ys) (hS : (d == sysModules) = false)
    (hok : ∀ i y, ys[i]? = some y → (replAll x (ys.take i)).length ≤ 100000 ∧ y.2.2.1.length ≤ 100 ∧ (y.1 == y.2.2.1) = false ∧ y.2.1 ≠ 0 ∧ y.2.2.2 ≠ 0 ∧ y.2.1 ≠ y.2.2.2)
    (h : ∀ h' tk t', (∀ b o, s.heap.get? b = some o → h'.get? b = some o) → s.toks ≤ tk → Q (.str (replAll x ys) t') { s with heap := h', toks := tk }) :
    wpAny (model prog w) { handled := none, depth := dp, frames := fr, guards := gd, units := un } (call (.ref 21) [.str x t, .ref d]) Q E s := by
  walk_at "mine.enter"
  intro L h₁ F N
  (try dsimp only)
  refine wpAny_execs_cons ?_
  obtain ⟨od, ep, hod, hcd, hdd, hnd⟩ := id hy
  have hod₁ : h₁.get? d = some od := F.keep d od hod
  have hdL : d ≠ L := Nat.ne_of_lt (Nat.lt_of_lt_of_le hy.lt F.above)
  have hLn : L < h₁.objs.size := F.ns.lt
  have hm₁ : h₁.DictOf (PySem.strKind prog w) d (ys.map fun x => (x.1, Value.str x.2.2.1 x.2.2.2)) := (hy.keep fun o e => F.keep d o e).dictOf
  have hm₂ : h₁.DictAt (PySem.strKind prog w) d (ys.map fun x => (x.1, Value.str x.2.2.1 x.2.2.2)) ep :=
    ⟨od, _, hod₁, hcd, hdd, keysOf_td ys, by simpa using pairs_td ys, by rw [List.map_map]; exact hnd⟩
  refine wpAny_For (wpAny_Call_items (knd := PySem.strKind prog w) hS hm₁ rfl rfl (fun Q' hq => ld F rfl hq) ?_) (by intro _; rfl)
  refine wpAny_pyIter_items (knd := PySem.strKind prog w) (d := d) (ep := ep) ⟨_, Heap.get?_push_size _ rfl, rfl, rfl⟩ (hm₂.push _) ?_
  rw [List.length_map]
  have hsz : (h₁.push { cls := .type "dict_items", data := .fields #[.ref d] }).objs.size = h₁.objs.size + 1 := Heap.size_push ..
  refine td_items_loop (d := d) (ys := ys) (od := od) (ep := ep) (m := fun y => List.lookup y [(("d" : Str), Value.ref d), (("s" : Str), Value.str x t)]) rfl rfl rfl rfl ?_ hdL ?_
    (Heap.get?_push_size _ rfl) (Heap.get?_push_of_some _ (Heap.get?_push_of_some _ hod₁)) hcd hdd hnd ((F.ns.push _).push _) (fun i m' => ∃ t', m' "s" = some (.str (replAll x (ys.take i)) t')) ⟨t, rfl⟩ ?_ ?_
  · show (h₁.push _).objs.size ≠ L
    rw [hsz]; exact Nat.ne_of_gt (Nat.lt_succ_of_lt hLn)
  · show d ≠ (h₁.push _).objs.size
    rw [hsz]; exact Nat.ne_of_lt (Nat.lt_succ_of_lt (Heap.lt_size hod₁))
  · rintro i y m₁ s₁ hi ⟨t', hm'⟩ htk hns
    obtain ⟨b1, b2, b3, b4, b5, b6⟩ := hok i y hi
    refine wpAny_execs_cons (wpAny_Assign_Name ?_)
    refine MethodCall_ (wpAny_Name (wpAny_loadName_local rfl rfl hns (by exact hm') (GM.replace ?_)))
    dsimp only
    refine callWith_method1 ?_
    refine spliced_more (wpAny_Name (wpAny_loadName_local rfl rfl hns rfl ?_))
    refine spliced_more (wpAny_Name (wpAny_loadName_local rfl rfl hns rfl ?_))
    refine spliced_none ?_
    refine SC.replace b4 b5 b6 b3 ?_ ?_
    · have := Nat.mul_le_mul (Nat.succ_le_succ b1) b2
      simp only [Nat.succ_eq_add_one] at this
      omega
    · intro t2 k
      refine wpAny_storeName_local rfl hns (fun h' hn' hs' => ?_) rfl
      refine wpAny_execs_nil ⟨rfl, ⟨h', _, rfl, hs'⟩, _, hn', t2, ?_⟩
      rw [if_pos rfl]
      unfold replAll
      rw [List.take_add_one, hi]
      simp [replAll]
  · intro h' tk m' hns ⟨t', hm'⟩ hk
    rw [List.take_length] at hm'
    refine wpAny_execs_cons (wpAny_Return_some (wpAny_Name (wpAny_loadName_local rfl rfl hns hm' ?_)))
    intro htk
    refine h h' tk t' (fun b o e => hk b o ?_ ?_ (Heap.get?_push_of_some _ (Heap.get?_push_of_some _ (F.keep b o e)))) htk
    · exact Nat.ne_of_lt (Nat.lt_of_lt_of_le (Heap.lt_size e) F.above)
    · show b ≠ (h₁.push _).objs.size
      rw [hsz]; exact Nat.ne_of_lt (Nat.lt_succ_of_lt (Heap.lt_size (F.keep b o e)))
end
section
open PySem PySem.W PySem.Calls PyProof.Rows
set_option Elab.async false
set_option maxRecDepth 100000
set_option maxHeartbeats 8000000
set_option pp.deepTerms false
set_option pp.deepTerms.threshold 6
set_option pp.maxSteps 20000
theorem fill_now2 : (PySem.Challenge.rw_ij0162_01.Holds → hd.heap_39 = hd.heap_39) := by
  k_fill
  intro _; rfl

section
variable {prog : Program} {w : World} {A : Around} {E : Value → Shared → Prop} {s : Shared} {h₀ : Heap} {L a : Addr} {m : Str → Option Value} {name : Str} {scope : Scope} {cd : Value}

/-- x.replace(c1, c2) upon a text under a name -/
theorem eval_rep {x c1 c2 : Str} {l pat r : List Nat} {t : Tok} {p1 p2 p3 p4 p5 : Pos} {i j : Nat} {Q : Value → Shared → Prop} (F : Fr h₀ L s.heap m) (hm : m x = some (.str (S l) t)) (h0 : 0 < s.toks)
    (e1 : c1 = S pat) (e2 : c2 = S r) (hp : pat ≠ []) (hne : pat ≠ r) (hl : l.length ≤ 100000) (hr : r.length ≤ 100)
    (h : ∀ t' tk, s.toks ≤ tk → Q (.str (S (rep pat r l 0)) t') { s with toks := tk })
    (hk : scope.kind = .function := by rfl) (hx : (envOf name scope L a cd).kindOf x = some .local := by rfl) (hd : (x == ("__debug__" : Str)) = false := by decide)
    {pl : Sem Bool} (he : eval (.Call (.Attribute (.Name x p1) "replace" p2) [.Constant (.str c1) i p3, .Constant (.str c2) j p4] [] p5) (envOf name scope L a cd) = (do
      let ov ← eval (.Name x p1) (envOf name scope L a cd)
      standAt p2.atName
      let (f, first) ← holding [ov] (getMethod ov "replace" pl)
      callWith p5 f first (backTo p5 (starEach [.Constant (.str c1) i p3, .Constant (.str c2) j p4] (envOf name scope L a cd))) []) := by rfl) :
    wpAny (model prog w) A (eval (.Call (.Attribute (.Name x p1) "replace" p2) [.Constant (.str c1) i p3, .Constant (.str c2) j p4] [] p5) (envOf name scope L a cd)) Q E s := by
  refine wpAny_with_toks (Nat.le_refl s.toks) ?_
  refine MethodCall_ (ld F hm (GM.replace ?_) hk hx hd) he
  dsimp only
  refine callWith_method1 ?_
  refine spliced_more (Constant_str ?_)
  refine spliced_more (Constant_str ?_)
  refine spliced_none ?_
  subst e1 e2
  refine SC.replace (Nat.ne_of_gt h0) (Nat.succ_ne_zero _) (Nat.ne_of_lt (Nat.lt_succ_self _)) ?_ ?_ ?_
  · simp only [beq_eq_false_iff_ne, ne_eq]; exact fun e => hne (S_inj e)
  · rw [S_length, S_length]
    have := Nat.mul_le_mul (Nat.succ_le_succ hl) hr
    simp only [Nat.succ_eq_add_one] at this
    omega
  · intro t' k htk
    rw [replace_rep l pat r hp]
    exact h t' k htk

theorem store_N {x : Str} {v : Value} {Q : Unit → Shared → Prop} (F : Fr h₀ L s.heap m)
    (h : ∀ h', Fr h₀ L h' (fun y => if y = x then some v else m y) → (∀ b o, b ≠ L → s.heap.get? b = some o → h'.get? b = some o) → Q () { s with heap := h', toks := s.toks + 1 })
    (hk : scope.kind = .function := by rfl) (hl : (envOf name scope L a cd).kindOf x = some .local := by rfl) :
    wpAny (model prog w) A (storeName (envOf name scope L a cd) x v) Q E s :=
  wpAny_storeName_local hl F.ns (fun h' hn hs => h h' (F.set hn hs) fun b o hb e => hs.extBut b o hb e)
    (by show (scope.kind == .class || (scope.kind == .module && L != mainGlobals)) = false; rw [hk]; rfl)

/-- x = x.replace(c1, c2) -/
theorem assign_rep {x c1 c2 : Str} {l pat r : List Nat} {t : Tok} {p0 p1 p2 p3 p4 p5 p6 : Pos} {i j : Nat} {rest : List Stmt} {Q : Flow → Shared → Prop} (F : Fr h₀ L s.heap m) (hm : m x = some (.str (S l) t)) (h0 : 0 < s.toks)
    (e1 : c1 = S pat) (e2 : c2 = S r) (hp : pat ≠ []) (hne : pat ≠ r) (hl : l.length ≤ 100000) (hr : r.length ≤ 100)
    (h : ∀ t' tk h', Fr h₀ L h' (fun y => if y = x then some (.str (S (rep pat r l 0)) t') else m y) → 0 < tk → wpAny (model prog w) A (execs rest (envOf name scope L a cd)) Q E { s with heap := h', toks := tk })
    (hk : scope.kind = .function := by rfl) (hx : (envOf name scope L a cd).kindOf x = some .local := by rfl) (hd : (x == ("__debug__" : Str)) = false := by decide)
    (hs : swapsWith (.Call (.Attribute (.Name x p1) "replace" p2) [.Constant (.str c1) i p3, .Constant (.str c2) j p4] [] p5) (some (.Name x p0)) p6.line (envOf name scope L a cd) = pure false := by rfl)
    {pl : Sem Bool} (he : eval (.Call (.Attribute (.Name x p1) "replace" p2) [.Constant (.str c1) i p3, .Constant (.str c2) j p4] [] p5) (envOf name scope L a cd) = (do
      let ov ← eval (.Name x p1) (envOf name scope L a cd)
      standAt p2.atName
      let (f, first) ← holding [ov] (getMethod ov "replace" pl)
      callWith p5 f first (backTo p5 (starEach [.Constant (.str c1) i p3, .Constant (.str c2) j p4] (envOf name scope L a cd))) []) := by rfl) :
    wpAny (model prog w) A (execs (.Assign [.Name x p0] (.Call (.Attribute (.Name x p1) "replace" p2) [.Constant (.str c1) i p3, .Constant (.str c2) j p4] [] p5) p6 :: rest) (envOf name scope L a cd)) Q E s := by
  refine wpAny_execs_cons (wpAny_Assign_Name (eval_rep F hm h0 e1 e2 hp hne hl hr (fun t' tk htk => ?_) hk hx hd he) hs)
  exact store_N (s := { s with toks := tk }) F (fun h' F' _ => h t' _ h' F' (Nat.succ_pos _)) hk hx
end

def enc3 (a : Nat) : List Nat := if a = 38 then [38, 97, 109, 112, 59] else if a = 62 then [38, 103, 116, 59] else if a = 60 then [38, 108, 116, 59] else [a]
theorem enc3_len (a : Nat) : (enc3 a).length ≤ 5 := by unfold enc3; (repeat' split) <;> simp
theorem flatMap_len {f : Nat → List Nat} {k : Nat} (hf : ∀ a, (f a).length ≤ k) : ∀ l : List Nat, (l.flatMap f).length ≤ k * l.length
  | [] => by simp
  | a :: l => by
    have h1 := flatMap_len hf l
    have h2 := hf a
    rw [List.flatMap_cons, List.length_append, List.length_cons, Nat.mul_succ]
    omega
theorem rep_flat (c : Nat) (r : List Nat) (l : List Nat) : rep [c] r l 0 = l.flatMap fun a => if a = c then r else [a] := rep_one c r l
theorem flatMap_ext {f g : Nat → List Nat} (h : ∀ a, f a = g a) (l : List Nat) : l.flatMap f = l.flatMap g := by rw [funext h]
theorem enc3_eq (l : List Nat) : rep [60] [38, 108, 116, 59] (rep [62] [38, 103, 116, 59] (rep [38] [38, 97, 109, 112, 59] l 0) 0) 0 = l.flatMap enc3 := by
  rw [rep_one, rep_one, rep_one, List.flatMap_assoc, List.flatMap_assoc]
  refine flatMap_ext (fun a => ?_) l
  unfold enc3
  by_cases h1 : a = 38
  · subst h1; rfl
  · by_cases h2 : a = 62
    · subst h2; rfl
    · by_cases h3 : a = 60
      · subst h3; rfl
      · simp [h1, h2, h3]

theorem escape_go {prog : Program} {w : World} {p : Program} {loose : List Str} {mean : ExcName → Option Value} {mg mb : Str → Option Value} {s : Shared} {Q E : Value → Shared → Prop}
    {dp un : Nat} {fr : Option (List Env)} {gd : Option (List Code)} {l : List Nat} {t : Tok} {d : Addr} {ys : List TE}
    (KX : (hd.heap_39 w.params).In s.heap) (T : Top p loose mean mg mb s.heap) (hdp : dp + 10 < recursionLimit)
    (hl : l.length ≤ 1000) (hy : TD w s.heap d ys) (hS : (d == sysModules) = false) (hyl : ys.length ≤ 1000)
    (hok : ∀ i y, ys[i]? = some y → (replAll (S (l.flatMap enc3)) (ys.take i)).length ≤ 100000 ∧ y.2.2.1.length ≤ 100 ∧ (y.1 == y.2.2.1) = false ∧ y.2.1 ≠ 0 ∧ y.2.2.2 ≠ 0 ∧ y.2.1 ≠ y.2.2.2)
    (h : ∀ h' tk t', (∀ b o, s.heap.get? b = some o → h'.get? b = some o) → s.toks ≤ tk → Q (.str (replAll (S (l.flatMap enc3)) ys) t') { s with heap := h', toks := tk }) :
    wpAny (model prog w) { handled := none, depth := dp, frames := fr, guards := gd, units := un } (call (.ref 30) [.str (S l) t, .ref d]) Q E s := by
  walk_at "mine.enter"
  intro L h₁ F N
  have l1 : (rep [38] [38, 97, 109, 112, 59] l 0).length ≤ 5 * l.length := by
    rw [rep_one]; exact flatMap_len (fun a => by split <;> simp) l
  have l2 : (rep [62] [38, 103, 116, 59] (rep [38] [38, 97, 109, 112, 59] l 0) 0).length ≤ 4 * (5 * l.length) := by
    rw [rep_one]; exact Nat.le_trans (flatMap_len (k := 4) (fun a => by split <;> simp) _) (Nat.mul_le_mul_left _ l1)
  refine assign_rep (pat := [38]) (r := [38, 97, 109, 112, 59]) (l := l) (t := t) F rfl (Nat.succ_pos _) (by decide +kernel) (by decide +kernel) (by decide) (by decide) (by omega) (by decide) ?_
  intro t1 tk1 h2 F2 p1
  refine assign_rep (pat := [62]) (r := [38, 103, 116, 59]) F2 rfl p1 (by decide +kernel) (by decide +kernel) (by decide) (by decide) (by omega) (by decide) ?_
  intro t2 tk2 h3 F3 p2
  refine assign_rep (pat := [60]) (r := [38, 108, 116, 59]) F3 rfl p2 (by decide +kernel) (by decide +kernel) (by decide) (by decide) (by omega) (by decide) ?_
  intro t3 tk3 h4 F4 p3
  rw [enc3_eq] at F4
  dsimp only
  have hy4 : TD w h4 d ys := hy.keep fun o e => F4.keep d o e
  have TR := topRead_of T
  refine wpAny_execs_cons (wpAny_If (isTrue_plain (ld F4 rfl (wpAny_truthy_dict (knd := PySem.strKind prog w) hS hy4.dictOf (by rw [List.length_map]; omega) ?_))))
  cases ys with
  | nil =>
    simp only [List.map_nil, List.isEmpty_nil, Bool.not_true, Bool.false_eq_true, if_false]
    refine wpAny_execs_nil ?_
    refine wpAny_execs_cons (wpAny_Return_some (ld F4 rfl ?_))
    exact fun htk => h h4 _ t3 F4.keep htk
  | cons y0 ys =>
    simp only [List.map_cons, List.isEmpty_cons, Bool.not_false, if_true]
    refine wpAny_execs_cons (wpAny_Assign_Name (Call_ (name_K F4 KX TR (by k_is) (callWith_K KX (by k_is) (spliced_more (ld F4 rfl (spliced_more (ld F4 rfl (spliced_none ⟨KX.keeps F4.keep, ?_⟩)))))))))
    refine dict_replace_go (KX.keeps F4.keep) (T.keeps F4.keep) (by show dp + 1 + 3 < recursionLimit; exact room hdp) hy4 hS hok ?_
    intro h5 tk5 t5 k5 htk5
    have F5 : Fr s.heap L h5 _ := F4.keeps k5
    refine store_N F5 (fun h6 F6 _ => ?_)
    refine wpAny_execs_nil (wpAny_execs_cons (wpAny_Return_some (ld F6 rfl ?_)))
    exact fun htk => h h6 _ t5 F6.keep htk
end
section
open PySem PySem.W PySem.Calls PyProof.Rows
set_option Elab.async false
set_option maxRecDepth 100000
set_option maxHeartbeats 8000000
set_option pp.deepTerms false
set_option pp.deepTerms.threshold 8
set_option pp.maxSteps 20000
section
variable {prog : Program} {w : World} {A : Around} {E : Value → Shared → Prop} {s : Shared}
theorem fmt_dq {l : List Nat} {t u : Tok} {Q : Value → Shared → Prop} (hl : (S l).length ≤ 1000000) (h : ∀ t' k, Q (.str (S (34 :: (l ++ [34]))) t') { s with toks := k }) :
    wpAny (model prog w) A (binaryOp .Mod (.str "\"%s\"" t) (.str (S l) u)) Q E s := by
  have KX : Frag.In [] s.heap := fun _ _ e => nomatch e
  walk_at "binaryOp Mod str str"
  have e : Str.ofString "\"" = S [34] := by decide +kernel
  rw [e, S_app, S_app]
  exact h _ _
theorem fmt_sq {l : List Nat} {t u : Tok} {Q : Value → Shared → Prop} (hl : (S l).length ≤ 1000000) (h : ∀ t' k, Q (.str (S (39 :: (l ++ [39]))) t') { s with toks := k }) :
    wpAny (model prog w) A (binaryOp .Mod (.str "'%s'" t) (.str (S l) u)) Q E s := by
  have KX : Frag.In [] s.heap := fun _ _ e => nomatch e
  walk_at "binaryOp Mod str str"
  have e : Str.ofString "'" = S [39] := by decide +kernel
  rw [e, S_app, S_app]
  exact h _ _
end
end
section
open PySem PySem.W PySem.Calls PyProof.Rows
set_option Elab.async false
set_option maxRecDepth 100000
set_option maxHeartbeats 8000000
set_option pp.deepTerms false
set_option pp.deepTerms.threshold 8
set_option pp.maxSteps 20000
theorem fill_now3 : (PySem.Challenge.rw_ij0162_01.Holds → hd.heap_39 = hd.heap_39) := by
  k_fill
  intro _; rfl

/-- a table of single signs -/
abbrev KV := List (Nat × List Nat)
def repT (kvs : KV) (l : List Nat) : List Nat := kvs.foldl (fun a kv => rep [kv.1] kv.2 a 0) l
def Tells (ys : List TE) (kvs : KV) : Prop := ys.map (fun y => (y.1, y.2.2.1)) = kvs.map fun kv => (S [kv.1], S kv.2)
theorem tells_take {ys : List TE} {kvs : KV} (h : Tells ys kvs) (i : Nat) : Tells (ys.take i) (kvs.take i) := by
  unfold Tells at *
  rw [List.map_take, h, List.map_take]
theorem replAll_tells : ∀ {ys : List TE} {kvs : KV} (l : List Nat), Tells ys kvs → replAll (S l) ys = S (repT kvs l)
  | [], [], _, _ => rfl
  | [], _ :: _, _, h => by cases h
  | _ :: _, [], _, h => by cases h
  | y :: ys, kv :: kvs, l, h => by
    have h1 := congrArg List.head? h
    have h2 := congrArg List.tail h
    simp only [List.map_cons, List.head?_cons, Option.some.injEq, Prod.mk.injEq, List.tail_cons] at h1 h2
    show replAll (Txt.replace (S l) y.1 y.2.2.1) ys = S (repT kvs (rep [kv.1] kv.2 l 0))
    rw [h1.1, h1.2, replace_rep _ _ _ (by simp)]
    exact replAll_tells _ h2
theorem repT_flat : ∀ (kvs : KV) (f : Nat → List Nat) (l : List Nat), repT kvs (l.flatMap f) = l.flatMap fun a => repT kvs (f a)
  | [], _, _ => rfl
  | kv :: kvs, f, l => by
    show repT kvs (rep [kv.1] kv.2 (l.flatMap f) 0) = _
    rw [rep_one, List.flatMap_assoc, repT_flat kvs]
    refine flatMap_ext (fun a => ?_) l
    show _ = repT kvs (rep [kv.1] kv.2 (f a) 0)
    rw [rep_one]

/-- the tokens of a table: within bounds, and no entry's two are one -/
def TokOk (lo hi a b : Nat) : Prop := (lo ≤ a ∧ a < hi) ∧ (lo ≤ b ∧ b < hi) ∧ a ≠ b
def Toks (lo hi : Nat) (ys : List TE) : Prop := ∀ y ∈ ys, TokOk lo hi y.2.1 y.2.2.2
theorem toks_put {lo hi tk tv hi' : Nat} {ys : List TE} {k v : Str} (h : Toks lo hi ys) (h0 : lo ≤ hi) (h1 : hi ≤ tk) (h2 : tk < tv) (h3 : tv < hi') : Toks lo hi' (put ys k tk v tv) := by
  intro y hy
  unfold put at hy
  split at hy
  · obtain ⟨z, hz, rfl⟩ := List.mem_map.mp hy
    have := h z hz
    split
    · unfold TokOk at *; dsimp only; omega
    · unfold TokOk at *; omega
  · rcases List.mem_append.mp hy with hy | hy
    · have := h y hy; unfold TokOk at *; omega
    · rw [List.mem_singleton] at hy; subst hy; unfold TokOk; dsimp only; omega

def quoteT (d : List Nat) : List Nat := if 34 ∈ d then (if 39 ∈ d then 34 :: (rep [34] [38, 113, 117, 111, 116, 59] d 0 ++ [34]) else 39 :: (d ++ [39])) else 34 :: (d ++ [34])
def encK (kvs : KV) (a : Nat) : List Nat := repT kvs (enc3 a)

def extOf (k : Nat) : List TE := [("\n", k, "&#10;", k + 1), ("\u000d", k + 1 + 1, "&#13;", k + 1 + 1 + 1), ("\t", k + 1 + 1 + 1 + 1, "&#9;", k + 1 + 1 + 1 + 1 + 1)]

theorem tells_get {ys : List TE} {kvs : KV} (h : Tells ys kvs) {i : Nat} {y : TE} (e : ys[i]? = some y) : ∃ kv ∈ kvs, y.1 = S [kv.1] ∧ y.2.2.1 = S kv.2 := by
  have h1 := congrArg (fun l => l[i]?) h
  simp only [List.getElem?_map, e, Option.map_some] at h1
  cases hk : kvs[i]? with
  | none => rw [hk] at h1; cases h1
  | some kv =>
    rw [hk] at h1
    simp only [Option.map_some, Option.some.injEq, Prod.mk.injEq] at h1
    exact ⟨kv, List.mem_of_getElem? hk, h1.1, h1.2⟩
theorem toks_ext {ys : List TE} {k hi : Nat} (h : Toks 1 hi ys) (h0 : 1 ≤ hi) (hk : hi ≤ k) : Toks 1 (k + 6) (putAll ys (extOf k)) := by
  have a := toks_put (tk := k) (tv := k + 1) (hi' := k + 2) (k := ("\n" : Str)) (v := ("&#10;" : Str)) h h0 hk (by omega) (by omega)
  have b := toks_put (tk := k + 1 + 1) (tv := k + 1 + 1 + 1) (hi' := k + 4) (k := ("\u000d" : Str)) (v := ("&#13;" : Str)) a (by omega) (by omega) (by omega) (by omega)
  exact toks_put (tk := k + 1 + 1 + 1 + 1) (tv := k + 1 + 1 + 1 + 1 + 1) (hi' := k + 6) (k := ("\t" : Str)) (v := ("&#9;" : Str)) b (by omega) (by omega) (by omega) (by omega)
theorem in_one {l : List Nat} {c : Nat} {x : Str} (e : x = S [c]) : (!(Builtin.Str.occurrences (S l) x 0 (S l).length 1).isEmpty) = decide (c ∈ l) := by
  subst e
  have := StrLaws.found_one (S l) c
  rw [S_toList] at this
  exact this

theorem quoteattr_go {prog : Program} {w : World} {p : Program} {loose : List Str} {mean : ExcName → Option Value} {mg mb : Str → Option Value} {s : Shared} {Q E : Value → Shared → Prop}
    {dp un : Nat} {fr : Option (List Env)} {gd : Option (List Code)} {l : List Nat} {t : Tok} {d : Addr} {ys : List TE} {kvs : KV} {args : List Value}
    (KX : (hd.heap_39 w.params).In s.heap) (T : Top p loose mean mg mb s.heap) (hdp : dp + 20 < recursionLimit) (hbig : sysModules < s.heap.objs.size)
    (hl : l.length ≤ 1000) (hy : TD w s.heap d ys) (hS : (d == sysModules) = false) (hyl : ys.length ≤ 100) (ht : Toks 1 s.toks ys)
    (hargs : args = [.str (S l) t, .ref d] ∨ (args = [.str (S l) t] ∧ d = 40))
    (hk : ∀ k, Tells (putAll ys (extOf k)) kvs) (hkv : ∀ kv ∈ kvs, kv.2.length ≤ 10 ∧ [kv.1] ≠ kv.2) (hb : ∀ i a, (repT (kvs.take i) (enc3 a)).length ≤ 10)
    (h : ∀ h' tk t', (∀ b o, s.heap.get? b = some o → h'.get? b = some o) → s.toks ≤ tk → Q (.str (S (quoteT (l.flatMap (encK kvs)))) t') { s with heap := h', toks := tk }) :
    wpAny (model prog w) { handled := none, depth := dp, frames := fr, guards := gd, units := un } (call (.ref 48) args) Q E s := by
  have TR := topRead_of T
  refine' enter_fn (binds := [(("data" : Str), Value.str (S l) t), (("entities" : Str), Value.ref d)]) KX T.nolimit ?ho ?hcd ?hroom ?hbind ?hloc ?_ ?c1 ?c2 ?c3 ?c4
  case ho => k_is
  case hcd => k_is
  case hroom => exact lt_room hdp
  case hbind =>
    rcases hargs with rfl | ⟨rfl, rfl⟩
    · exact binds_K KX rfl (by k_is) rfl rfl rfl
    · exact binds_K KX rfl (by k_is) rfl rfl rfl
  case hloc => exact locs rfl
  case c1 => exact rfl
  case c2 => exact rfl
  case c3 => exact rfl
  case c4 => decide
  intro L h₁ F N
  have hL1 : L < h₁.objs.size := F.ns.lt
  refine wpAny_execs_cons (wpAny_Assign_Name ?_)
  refine star_dict (ys := ys) (fun s' Q' k' hq => ld (F.keeps k') rfl hq) (hy.keep fun o e => F.keep _ o e) hS (Nat.lt_of_lt_of_le hbig (Nat.le_of_lt (Nat.lt_of_le_of_lt F.above hL1))) (by omega) (by decide +kernel) ?_
  intro h2 tk2 x2 k2 htk2
  refine store_N (F.keeps k2) (fun h3 F3 k3 => ?_)
  have x3 := x2.keep fun o e => k3 _ o (Nat.ne_of_gt hL1) e
  generalize hkk : s.toks + _ = k at x3 htk2
  have hkge : s.toks ≤ k := by rw [← hkk]; exact Nat.le_add_right _ _
  change TD w h3 h₁.objs.size (putAll ys (extOf k)) at x3
  have hS3 : ((h₁.objs.size : Addr) == sysModules) = false := by
    simp only [beq_eq_false_iff_ne]; exact Nat.ne_of_gt (Nat.lt_trans (Nat.lt_of_lt_of_le hbig F.above) hL1)
  dsimp only at F3 htk2 ⊢
  have hkk1 : Toks 1 (k + 6) (putAll ys (extOf k)) := by
    rcases Nat.eq_zero_or_pos s.toks with e | e
    · have : ys = [] := by
        cases ys with
        | nil => rfl
        | cons y r => have := ht y (.head _); unfold TokOk at this; omega
      subst this
      exact toks_ext (hi := 1) (fun y hy => nomatch hy) (Nat.le_refl _) (by rw [← hkk, e]; exact Nat.le_add_left 1 _)
    · exact toks_ext ht e hkge
  have hzl : (putAll ys (extOf k)).length ≤ 1000 := by
    have := putAll_length (extOf k) ys
    exact Nat.le_trans this (Nat.le_trans (Nat.add_le_add_right hyl 3) (Nat.le_of_ble_eq_true rfl))
  have hd0 : (l.flatMap enc3).length ≤ 5 * l.length := flatMap_len enc3_len l
  have hres : replAll (S (l.flatMap enc3)) (putAll ys (extOf k)) = S (l.flatMap (encK kvs)) := by
    rw [replAll_tells _ (hk k), repT_flat]; rfl
  have hd1 : (l.flatMap (encK kvs)).length ≤ 10 * l.length := flatMap_len (fun a => by have := hb kvs.length a; rw [List.take_length] at this; exact this) l
  have hd2 : (l.flatMap (encK kvs)).length ≤ 10000 := Nat.le_trans hd1 (Nat.mul_le_mul_left 10 hl)
  refine wpAny_execs_cons (wpAny_Assign_Name (Call_ (name_K F3 KX TR (by k_is) (callWith_K KX (by k_is) (spliced_more (ld F3 rfl (spliced_more (ld F3 rfl (spliced_none ⟨KX.keeps F3.keep, ?_⟩)))))))))
  refine escape_go (KX.keeps F3.keep) (T.keeps F3.keep) (by show dp + 1 + 10 < recursionLimit; exact room hdp) hl x3 hS3 hzl ?_ ?_
  · intro i y hi
    obtain ⟨kv, hkv', e1, e2⟩ := tells_get (hk k) hi
    obtain ⟨b1, b2⟩ := hkv kv hkv'
    have b3 := hkk1 y (List.mem_of_getElem? hi)
    unfold TokOk at b3
    refine ⟨?_, ?_, ?_, Nat.ne_of_gt (Nat.lt_of_lt_of_le Nat.zero_lt_one b3.1.1), Nat.ne_of_gt (Nat.lt_of_lt_of_le Nat.zero_lt_one b3.2.1.1), b3.2.2⟩
    · rw [replAll_tells _ (tells_take (hk k) i), S_length, repT_flat]
      exact Nat.le_trans (flatMap_len (hb i) l) (Nat.le_trans (Nat.mul_le_mul_left 10 hl) (Nat.le_of_ble_eq_true rfl))
    · rw [e2, S_length]; exact Nat.le_trans b1 (Nat.le_of_ble_eq_true rfl)
    · rw [e1, e2]; simp only [beq_eq_false_iff_ne]; exact fun e => b2 (S_inj e)
  intro h4 tk4 t4 k4 htk4
  rw [hres]
  refine store_N (F3.keeps k4) (fun h5 F5 _ => ?_)
  dsimp only at F5 htk4 ⊢
  have p5 : 0 < tk4 + 1 := Nat.succ_pos _
  generalize tk4 + 1 = tk5 at p5 ⊢
  refine wpAny_execs_cons (wpAny_If (wpAny_isTrue_Compare1 (Constant_str (ld F5 rfl (in_str (wpAny_truthy_bool ?_))))))
  rw [in_one (c := 34) (by decide +kernel)]
  by_cases q1 : 34 ∈ l.flatMap (encK kvs)
  · simp only [q1, decide_true, if_true]
    refine wpAny_execs_cons (wpAny_If (wpAny_isTrue_Compare1 (Constant_str (ld F5 rfl (in_str (wpAny_truthy_bool ?_))))))
    rw [in_one (c := 39) (by decide +kernel)]
    by_cases q2 : 39 ∈ l.flatMap (encK kvs)
    · simp only [q2, decide_true, if_true]
      refine wpAny_execs_cons (wpAny_Assign_Name (wpAny_BinOp (Constant_str ?_)))
      refine eval_rep (pat := [34]) (r := [38, 113, 117, 111, 116, 59]) F5 rfl (Nat.succ_pos _) (by decide +kernel) (by decide +kernel) (by decide) (by decide) (Nat.le_trans hd2 (Nat.le_of_ble_eq_true rfl)) (by decide) ?_
      intro t6 tk6 htk6
      have l6 : (rep [34] [38, 113, 117, 111, 116, 59] (l.flatMap (encK kvs)) 0).length ≤ 6 * (l.flatMap (encK kvs)).length := by
        rw [rep_one]; exact flatMap_len (k := 6) (fun a => by split <;> simp) _
      refine fmt_dq (by rw [S_length]; exact Nat.le_trans (Nat.le_trans l6 (Nat.mul_le_mul_left 6 hd2)) (Nat.le_of_ble_eq_true rfl)) ?_
      intro t7 k7
      refine store_N F5 (fun h8 F8 _ => ?_)
      refine wpAny_execs_nil (wpAny_execs_nil (wpAny_execs_cons (wpAny_Return_some (ld F8 rfl ?_))))
      intro htk
      have := h h8 _ t7 F8.keep htk
      rw [quoteT, if_pos q1, if_pos q2] at this
      exact this
    · simp only [q2, decide_false, Bool.false_eq_true, if_false]
      refine wpAny_execs_cons (wpAny_Assign_Name (wpAny_BinOp (Constant_str (ld F5 rfl ?_))))
      refine fmt_sq (by rw [S_length]; exact Nat.le_trans hd2 (Nat.le_of_ble_eq_true rfl)) ?_
      intro t7 k7
      refine store_N F5 (fun h8 F8 _ => ?_)
      refine wpAny_execs_nil (wpAny_execs_nil (wpAny_execs_cons (wpAny_Return_some (ld F8 rfl ?_))))
      intro htk
      have := h h8 _ t7 F8.keep htk
      rw [quoteT, if_pos q1, if_neg q2] at this
      exact this
  · simp only [q1, decide_false, Bool.false_eq_true, if_false]
    refine wpAny_execs_cons (wpAny_Assign_Name (wpAny_BinOp (Constant_str (ld F5 rfl ?_))))
    refine fmt_dq (by rw [S_length]; exact Nat.le_trans hd2 (Nat.le_of_ble_eq_true rfl)) ?_
    intro t7 k7
    refine store_N F5 (fun h8 F8 _ => ?_)
    refine wpAny_execs_nil (wpAny_execs_cons (wpAny_Return_some (ld F8 rfl ?_)))
    intro htk
    have := h h8 _ t7 F8.keep htk
    rw [quoteT, if_neg q1] at this
    exact this
end
section
open PySem PySem.W PySem.Calls PyProof.Rows
set_option Elab.async false
set_option maxRecDepth 100000
set_option maxHeartbeats 8000000
set_option pp.deepTerms false
set_option pp.deepTerms.threshold 8
set_option pp.maxSteps 20000
theorem fill_now4 : (PySem.Challenge.rw_ij0162_01.Holds → hd.heap_39 = hd.heap_39) := by
  k_fill
  intro _; rfl

def rLt : List Nat := [38, 108, 116, 59]
def rGt : List Nat := [38, 103, 116, 59]
def rAmp : List Nat := [38, 97, 109, 112, 59]

theorem unescape_go {prog : Program} {w : World} {p : Program} {loose : List Str} {mean : ExcName → Option Value} {mg mb : Str → Option Value} {s : Shared} {Q E : Value → Shared → Prop}
    {dp un : Nat} {fr : Option (List Env)} {gd : Option (List Code)} {l d1 d2 : List Nat} {t : Tok} {d : Addr} {ys : List TE}
    (KX : (hd.heap_39 w.params).In s.heap) (T : Top p loose mean mg mb s.heap) (hdp : dp + 10 < recursionLimit)
    (hl : l.length ≤ 100000) (hy : TD w s.heap d ys) (hS : (d == sysModules) = false) (hyl : ys.length ≤ 1000) (hne : ys ≠ [])
    (h1 : (rep rLt [60] l 0).length ≤ 100000) (hd1 : rep rGt [62] (rep rLt [60] l 0) 0 = d1) (hd2 : replAll (S d1) ys = S d2) (h2 : d2.length ≤ 100000)
    (hok : ∀ i y, ys[i]? = some y → (replAll (S d1) (ys.take i)).length ≤ 100000 ∧ y.2.2.1.length ≤ 100 ∧ (y.1 == y.2.2.1) = false ∧ y.2.1 ≠ 0 ∧ y.2.2.2 ≠ 0 ∧ y.2.1 ≠ y.2.2.2)
    (h : ∀ h' tk t', (∀ b o, s.heap.get? b = some o → h'.get? b = some o) → s.toks ≤ tk → Q (.str (S (rep rAmp [38] d2 0)) t') { s with heap := h', toks := tk }) :
    wpAny (model prog w) { handled := none, depth := dp, frames := fr, guards := gd, units := un } (call (.ref 39) [.str (S l) t, .ref d]) Q E s := by
  have TR := topRead_of T
  walk_at "mine.enter"
  intro L h₁ F N
  refine assign_rep (pat := rLt) (r := [60]) (l := l) (t := t) F rfl (Nat.succ_pos _) (by decide +kernel) (by decide +kernel) (by decide) (by decide) (by omega) (by decide) ?_
  intro t1 tk1 h2' F2 p1
  refine assign_rep (pat := rGt) (r := [62]) F2 rfl p1 (by decide +kernel) (by decide +kernel) (by decide) (by decide) (by omega) (by decide) ?_
  intro t2 tk2 h3 F3 p2
  rw [hd1] at F3
  dsimp only
  have hy3 : TD w h3 d ys := hy.keep fun o e => F3.keep d o e
  refine wpAny_execs_cons (wpAny_If (isTrue_plain (ld F3 rfl (wpAny_truthy_dict (knd := PySem.strKind prog w) hS hy3.dictOf (by rw [List.length_map]; omega) ?_))))
  have hemp : (List.map (fun x => (x.1, Value.str x.2.2.1 x.2.2.2)) ys).isEmpty = false := by
    cases ys with
    | nil => exact absurd rfl hne
    | cons _ _ => rfl
  rw [hemp]
  simp only [Bool.not_false, if_true]
  refine wpAny_execs_cons (wpAny_Assign_Name (Call_ (name_K F3 KX TR (by k_is) (callWith_K KX (by k_is) (spliced_more (ld F3 rfl (spliced_more (ld F3 rfl (spliced_none ⟨KX.keeps F3.keep, ?_⟩)))))))))
  refine dict_replace_go (KX.keeps F3.keep) (T.keeps F3.keep) (by show dp + 1 + 3 < recursionLimit; exact room hdp) hy3 hS hok ?_
  intro h5 tk5 t5 k5 htk5
  rw [hd2]
  refine store_N (F3.keeps k5) (fun h6 F6 _ => ?_)
  dsimp only at F6 ⊢
  refine wpAny_execs_nil (wpAny_execs_cons (wpAny_Return_some ?_))
  refine eval_rep (pat := rAmp) (r := [38]) F6 rfl (Nat.succ_pos _) (by decide +kernel) (by decide +kernel) (by decide) (by decide) h2 (by decide) ?_
  intro t7 tk7 htk7 htk
  exact h h6 tk7 t7 F6.keep htk
end
section
open PySem PySem.W PySem.Calls PyProof.Rows
set_option Elab.async false
set_option maxRecDepth 100000
set_option maxHeartbeats 2000000
set_option pp.deepTerms false
set_option pp.deepTerms.threshold 6
set_option pp.maxSteps 20000

/-- what the reader hands out, from place p on -/
def escU : List Nat → Nat → Bool → List (Nat × List Nat)
  | [], p, b => if b then [(p - 1, [92])] else []
  | c :: t, p, true => (p, [92, c]) :: escU t (p + 1) false
  | c :: t, p, false => if c = 92 then escU t (p + 1) true else (p, [c]) :: escU t (p + 1) false

def GSince (fp : List Addr) (s₀ s : Shared) : Prop := ∃ h' tk, s = { s₀ with heap := h', toks := tk } ∧ ∀ b o, b ∉ fp → s₀.heap.get? b = some o → h'.get? b = some o
theorem GSince.refl (fp : List Addr) (s : Shared) : GSince fp s s := ⟨s.heap, s.toks, rfl, fun _ _ _ e => e⟩
theorem GSince.step {fp : List Addr} {s₀ s : Shared} (x : GSince fp s₀ s) {h' : Heap} {tk : Nat} (hk : ∀ b o, b ∉ fp → s.heap.get? b = some o → h'.get? b = some o) : GSince fp s₀ { s with heap := h', toks := tk } := by
  obtain ⟨h₁, tk₁, rfl, hk₁⟩ := x
  exact ⟨h', tk, rfl, fun b o hb e => hk b o hb (hk₁ b o hb e)⟩

def gProto (fp : List Addr) (items : List (Nat × List Nat)) : Protocol := fun m s₀ v s kap =>
  (∃ p u T tp tu, items[items.length - 1 - m]? = some (p, u) ∧ v = .ref T ∧ s.heap.IsTuple T #[.int (p : Int) tp, .str (S u) tu]) ∧ GSince fp s₀ s ∧
    ∀ s'' : Shared, (∀ b ∈ fp, ∀ o, s.heap.get? b = some o → s''.heap.get? b = some o) → kap (.send .none) s''
def gEnd (fp : List Addr) : GenEnd := fun n s₀ r s₁ => r = .ok (.ret .none) ∧ (n = 0 ∧ GSince fp s₀ s₁)

theorem draws_str {prog : Program} {w : World} {A : Around} (hh : A.handled = none) (it : Addr) (x : Str) (t : Tok) :
    Draws prog w A it [it] x.cps.size (fun i v => ∃ c u, x.cps[i]? = some c ∧ v = .str ⟨#[c]⟩ u) (fun i h => h.IsStrIter it (strIterType x) x t i) := by
  unfold strIterType
  cases ha : x.cps.all (· < 128)
  · simp only [Bool.false_eq_true, if_false]; exact Draws.strWide hh it x t
  · simp only [if_true]; exact Draws.strAscii hh it x t

section
variable {prog : Program} {w : World} {A : Around} {E : Value → Shared → Prop} {s : Shared} {env : Env}

theorem ldE {x : Str} {pos : Pos} {v : Value} {m : Str → Option Value} {Q : Value → Shared → Prop} (hn : s.heap.Ns env.locals m) (hv : m x = some v) (h : Q v s)
    (hk : env.scope.kind = .function) (hl : env.kindOf x = some .local) (hd : (x == ("__debug__" : Str)) = false := by decide) :
    wpAny (model prog w) A (eval (.Name x pos) env) Q E s := wpAny_Name (wpAny_loadName_local hk hl hn hv h) hd

theorem isTrue_bool {e : Expr} {b : Bool} {Q : Bool → Shared → Prop} (h : ∀ Q' : Value → Shared → Prop, Q' (.bool b) s → wpAny (model prog w) A (eval e env) Q' E s) (hq : Q b s)
    (he : PySem.isTrue e env (eval e env) = (do let v ← eval e env; standAt e.pos; holding [v] (truthy v)) := by rfl) :
    wpAny (model prog w) A (PySem.isTrue e env (eval e env)) Q E s := isTrue_plain (h _ (wpAny_truthy_bool hq)) he

/-- a pair of a place and a text, made -/
theorem eval_pair {e1 e2 : Expr} {pos : Pos} {k : Nat} {p : Int} {tp : Tok} {Q : Value → Shared → Prop}
    (h1 : ∀ Q' : Value → Shared → Prop, Q' (.int p tp) s → wpAny (model prog w) A (eval e1 env) Q' E s)
    {u : List Nat} (h2 : ∀ Q' : Value → Shared → Prop, (∀ tu tk, Q' (.str (S u) tu) { s with toks := tk }) → wpAny (model prog w) A (eval e2 env) Q' E s)
    (hQ : ∀ tu tk, Q (.ref s.heap.objs.size) { s with heap := s.heap.push { cls := .type "tuple", data := .seq #[.int p tp, .str (S u) tu] }, toks := tk })
    (hs1 : starEach [e1, e2] env = (false, eval e1 env) :: starEach [e2] env := by rfl) (hs2 : starEach [e2] env = (false, eval e2 env) :: starEach [] env := by rfl) :
    wpAny (model prog w) A (eval (.Tuple [e1, e2] k pos) env) Q E s := by
  refine Tuple_ (spliced_more (h1 _ (spliced_more (h2 _ fun tu tk => spliced_none ?_) hs2)) hs1)
  exact wpAny_newTuple (hQ tu tk) (by simp [sizeLine_eq])

/-- the loop of the reader -/
theorem seg_loop {pp pc pt q1 q2 q3 q4 q5 q6 q7 q8 q9 q10 q11 q12 q13 q14 q15 q16 q17 q18 q19 q20 q21 q22 q23 q24 : Pos} {x1 x2 x3 k1 k2 k3 k4 : Nat}
    (hh : A.handled = none) (hkd : env.scope.kind = .function) (hco : env.scope.isCoroutine = false) (hint : interactive env = false)
    (hpos : env.kindOf "pos" = some .local) (hch : env.kindOf "ch" = some .local) (hesc : env.kindOf "escape" = some .local)
    (e it : Addr) (hei : e ≠ it) (heL : e ≠ env.locals) (hiL : it ≠ env.locals) (l : List Nat) (t : Tok) (items : List (Nat × List Nat))
    (K0 : Result → Sem Fin) (c0 : Code) (p0 : Pos)
    (hover : ∀ c, (A.over c [.ret K0 none false [] c0 p0 []]).handled = none)
    (fin : ∀ (b : Bool) (done : List (Nat × List Nat)) (s₀ s : Shared) (m : Str → Option Value), items = done ++ escU [] l.length b → s.heap.Ns env.locals m → m "escape" = some (.bool b) →
      (b = true → 0 < l.length ∧ ∃ tp, m "pos" = some (.int ((l.length - 1 : Nat) : Int) tp)) → GSince [env.locals, it, e] s₀ s →
      Seg (model prog w) A (gEnd [env.locals, it, e]) (gProto [env.locals, it, e] items) (escU [] l.length b).length s₀ c0 (K0 (.ok .next)) [] s) :
    ∀ (k i : Nat) (b : Bool) (done : List (Nat × List Nat)) (s₀ s : Shared) (m : Str → Option Value), l.length - i = k → i ≤ l.length → items = done ++ escU (l.drop i) i b →
      (∃ old, IsEnum s.heap e it i old) → s.heap.IsStrIter it (strIterType (S l)) (S l) t i → s.heap.Ns env.locals m → m "escape" = some (.bool b) →
      (b = true → 0 < i ∧ ∃ tp, m "pos" = some (.int ((i - 1 : Nat) : Int) tp)) → GSince [env.locals, it, e] s₀ s →
      Seg (model prog w) A (gEnd [env.locals, it, e]) (gProto [env.locals, it, e] items) (escU (l.drop i) i b).length s₀
        (.forLoop (.Tuple [.Name "pos" pp, .Name "ch" pc] x1 pt) (.ref e)
          [.If (.Name "escape" q1) [.Expr (.Yield (some (.Tuple [.Name "pos" q2, .BinOp (.Constant (.str "\\") k1 q3) .Add (.Name "ch" q4) q5] x2 q6)) q7) q8, .Assign [.Name "escape" q9] (.Constant (.bool false) k2 q10) q11]
            [.If (.Compare (.Name "ch" q12) [.Eq] [.Constant (.str "\\") k3 q13] q14) [.Assign [.Name "escape" q15] (.Constant (.bool true) k4 q16) q17]
              [.Expr (.Yield (some (.Tuple [.Name "pos" q18, .Name "ch" q19] x3 q20)) q21) q22] q23] q24] [] env)
        ((model prog w).den (.forLoop (.Tuple [.Name "pos" pp, .Name "ch" pc] x1 pt) (.ref e)
          [.If (.Name "escape" q1) [.Expr (.Yield (some (.Tuple [.Name "pos" q2, .BinOp (.Constant (.str "\\") k1 q3) .Add (.Name "ch" q4) q5] x2 q6)) q7) q8, .Assign [.Name "escape" q9] (.Constant (.bool false) k2 q10) q11]
            [.If (.Compare (.Name "ch" q12) [.Eq] [.Constant (.str "\\") k3 q13] q14) [.Assign [.Name "escape" q15] (.Constant (.bool true) k4 q16) q17]
              [.Expr (.Yield (some (.Tuple [.Name "pos" q18, .Name "ch" q19] x3 q20)) q21) q22] q23] q24] [] env))
        [.ret K0 none false [] c0 p0 []] s := by
  have hp : (env.scope.kind == .class || (env.scope.kind == .module && env.locals != env.globals)) = false := by rw [hkd]; rfl
  have W := fun (A' : Around) (h : A'.handled = none) => WalksT.enumerateD (draws_str (prog := prog) (w := w) (A := A'.in1) h it (S l) t) e hei (by simpa using hei) (.head _)
  have hsz : (S l).cps.size = l.length := by simp [S]
  rw [hsz] at W
  intro k
  induction k with
  | zero =>
    intro i b done s₀ s m hk hi hit hen hsi hn hb hbp hsince
    have hin : i = l.length := by omega
    subst hin
    rw [List.drop_length] at hit ⊢
    show Seg _ A _ _ _ s₀ _ ((forTurn _ (.ref e) _ [] env).onRaise _) _ s
    simp only [forTurn]
    rw [Sem.onRaise_eq_wrap]
    refine seg_bind_wrap (wpAny_standAt ?_)
    refine seg_bind_wrap (wpAny_onRaise ((W _ (hover _)).done s _ _ ⟨hen, hsi⟩ fun h' tk hk' => ?_))
    dsimp only
    refine seg_again rfl ?_
    show Seg _ A _ _ _ s₀ _ (((execs [] env).onRaise _) >>= _) _ _
    rw [Sem.bind_eq_wrap', Sem.onRaise_eq_wrap, Sem.wrap_wrap]
    refine seg_execs_nil ?_
    have hne : ∀ b, b ∉ [e, it] → b ∉ [e, it] := fun _ h => h
    exact seg_leaf (.ok .next) (fin b done s₀ _ m hit (hn.at' fun o x => hk' _ o (by simp [Ne.symm heL, Ne.symm hiL]) x) hb (fun h => ⟨(hbp h).1, (hbp h).2⟩)
      (hsince.step fun b o hb' x => hk' b o (by simp at hb' ⊢; exact ⟨hb'.2.2, hb'.2.1⟩) x))
  | succ k ih =>
    intro i b done s₀ s m hk hi hit hen hsi hn hb hbp hsince
    have hlt : i < l.length := by omega
    show Seg _ A _ _ _ s₀ _ ((forTurn _ (.ref e) _ [] env).onRaise _) _ s
    simp only [forTurn]
    rw [Sem.onRaise_eq_wrap]
    refine seg_bind_wrap (wpAny_standAt ?_)
    refine seg_bind_wrap (wpAny_onRaise ((W _ (hover _)).item i s _ _ hlt ⟨hen, hsi⟩ fun T vals h₁ tk₁ hPv _ hT₁ hmid hk₁ => ?_))
    obtain ⟨ti, x, ⟨c, u, hc, rfl⟩, rfl⟩ := hPv
    dsimp only
    have hc' : l[i]? = some c := by simpa [S] using hc
    have hdrop : l.drop i = c :: l.drop (i + 1) := by
      rw [List.drop_eq_getElem_cons hlt]
      have : l[i] = c := by
        rw [List.getElem?_eq_getElem hlt] at hc'; exact Option.some.inj hc'
      rw [this]
    refine seg_bind_wrap ((W _ (hover _)).go _ _ _ i T _ _ _ hmid fun h₂ hst₂ hk₂ => ?_)
    obtain ⟨hen₂, hsi₂⟩ := hst₂
    obtain ⟨_, _, hTe, hTi⟩ := hmid
    have hT₂ : h₂.IsTuple T #[Value.int (i : Int) ti, Value.str ⟨#[c]⟩ u] := hT₁.at fun o x => hk₂ T o (by simp [hTe, hTi]) x
    have hLn : env.locals < s.heap.objs.size := hn.lt
    have up₂ : ∀ b o, b ∉ [e, it] → s.heap.get? b = some o → h₂.get? b = some o := fun b o hb x => hk₂ b o hb (hk₁ b o hb x)
    have hn₂ : h₂.Ns env.locals m := hn.at' fun o x => up₂ _ o (by simp [Ne.symm heL, Ne.symm hiL]) x
    have helt : e < h₂.objs.size := by obtain ⟨old, he⟩ := hen₂; exact Heap.lt_size he
    have hilt : it < h₂.objs.size := by obtain ⟨o, he, _⟩ := hsi₂; exact Heap.lt_size he
    refine seg_bind_wrap (wpAny_assign_Tuple (hover _) hT₂ rfl rfl fun h₃ hx₃ => ?_)
    replace hx₃ : Heap.ExtBut h₂.objs.size h₂ h₃ := hx₃
    show wpAny _ _ (do holding [Value.str ⟨#[c]⟩ u] (assign (.Name "pos" pp) env (.int (i : Int) ti)); do holding [] (assign (.Name "ch" pc) env (.str ⟨#[c]⟩ u)); pure ()) _ _ _
    refine wpAny_bind (wpAny_holding (wpAny_assign_Name (wpAny_storeName_local hpos (hn₂.at' fun o x => hx₃ _ o (Nat.ne_of_lt hn₂.lt) x) (fun h₄ hn₄ hs₄ => ?_) hp)))
    replace hs₄ : Heap.SameBut env.locals h₃ h₄ := hs₄
    refine wpAny_bind (wpAny_holding (wpAny_assign_Name (wpAny_storeName_local hch hn₄ (fun h₅ hn₅ hs₅ => wpAny_pure ?_) hp)))
    replace hs₅ : Heap.SameBut env.locals h₄ h₅ := hs₅
    dsimp only
    have up₅ : ∀ b o, b ≠ env.locals → b < h₂.objs.size → h₂.get? b = some o → h₅.get? b = some o := fun b o hbL hb x => hs₅.extBut b o hbL (hs₄.extBut b o hbL (hx₃ b o (Nat.ne_of_lt hb) x))
    have keep₅ : ∀ b o, b ∉ [env.locals, it, e] → s.heap.get? b = some o → h₅.get? b = some o := fun b o hb x => by
      simp only [List.mem_cons, List.not_mem_nil, or_false, not_or] at hb
      have y := up₂ b o (by simp [hb.2.1, hb.2.2]) x
      exact up₅ b o hb.1 (Heap.lt_size y) y
    have hen₅ : ∃ old, IsEnum h₅ e it ((i + 1 : Nat) : Int) old := by obtain ⟨old, he⟩ := hen₂; exact ⟨old, up₅ e _ heL helt he⟩
    have hsi₅ : h₅.IsStrIter it (strIterType (S l)) (S l) t (i + 1) := by obtain ⟨o, ho, r⟩ := hsi₂; exact ⟨o, up₅ it _ hiL hilt ho, r⟩
    rw [Sem.bind_eq_wrap', Sem.wrap_wrap]
    refine seg_execs_cons ?_
    rw [exec_If]
    refine seg_bind_wrap (wpAny_standAt ?_)
    refine seg_bind_wrap (isTrue_bool (b := b) (fun Q' hq => ldE hn₅ hb hq hkd hesc) ?_)
    -- behind a yield: the state that comes back stands on what the reader owns
    have back : ∀ (s₄ s'' : Shared) (h' : Heap), s₄.heap = h' → (∀ b ∈ [env.locals, it, e], ∀ o, h'.get? b = some o → s''.heap.get? b = some o) → (∀ b o, h₅.get? b = some o → h'.get? b = some o) →
        s''.heap.Ns env.locals (fun z => if z = "ch" then some (Value.str ⟨#[c]⟩ u) else if z = "pos" then some (Value.int (i : Int) ti) else m z) ∧ (∃ old, IsEnum s''.heap e it ((i + 1 : Nat) : Int) old) ∧ s''.heap.IsStrIter it (strIterType (S l)) (S l) t (i + 1) := by
      intro s₄ s'' h' _ hal hk'
      refine ⟨hn₅.at' fun o x => hal _ (by simp) o (hk' _ o x), ?_, ?_⟩
      · obtain ⟨old, he⟩ := hen₅; exact ⟨old, hal _ (by simp) _ (hk' _ _ he)⟩
      · obtain ⟨o, ho, r⟩ := hsi₅; exact ⟨o, hal _ (by simp) _ (hk' _ _ ho), r⟩
    have idx : ∀ (x : Nat × List Nat) (r : List (Nat × List Nat)), items = done ++ x :: r → items[items.length - 1 - r.length]? = some x := by
      intro x r hr
      rw [hr]
      have : (done ++ x :: r).length - 1 - r.length = done.length := by simp only [List.length_append, List.length_cons]; omega
      rw [this]; simp
    cases b with
    | true =>
      simp only [if_true]
      rw [hdrop] at hit ⊢
      rw [escU] at hit ⊢
      rw [List.length_cons]
      refine seg_execs_cons ?_
      refine seg_Expr_Yield rfl rfl rfl ?_ hco hint
      refine eval_pair (p := (i : Int)) (tp := ti) (u := [92, c]) (fun Q' hq => ldE hn₅ rfl hq hkd hpos) (fun Q' hq => wpAny_BinOp (Constant_str (ldE hn₅ rfl (add_str ?_) hkd hch))) (fun tu tk kap hkap => ?_)
      · have e9 : Str.ofString "\\" ++ (⟨#[c]⟩ : Str) = S [92, c] := by
          have : Str.ofString "\\" = S [92] := by decide +kernel
          rw [this]; exact S_app [92] [c]
        rw [e9]
        exact fun t' tk => hq t' tk
      · refine ⟨⟨i, [92, c], h₅.objs.size, ti, tu, idx _ _ hit, rfl, ⟨_, Heap.get?_push_size _ rfl, rfl, _, rfl⟩⟩, hsince.step (fun b o hb x => Heap.get?_push_of_some _ (keep₅ b o hb x)), fun s'' hal => hkap .none s'' ?_⟩
        obtain ⟨hn₆, hen₆, hsi₆⟩ := back _ s'' _ rfl hal (fun b o x => Heap.get?_push_of_some _ x)
        show Seg _ A _ _ _ s'' _ ((execs [.Assign [.Name "escape" q9] (.Constant (.bool false) k2 q10) q11] env).wrap _ _ _ _) _ s''
        refine seg_execs_cons (seg_wrap (wpAny_Assign_Name ?_))
        refine wpAny_Constant_bool ?_
        refine wpAny_storeName_local hesc hn₆ (fun h₇ hn₇ hs₇ => ?_) hp
        refine seg_execs_nil ?_
        refine seg_again rfl (ih (i + 1) false (done ++ [(i, [92, c])]) s'' _ _ (by omega) hlt (by rw [hit]; simp) ?_ ?_ hn₇ (by simp) (fun h => nomatch h) ?_)
        · obtain ⟨old, he⟩ := hen₆; exact ⟨old, hs₇.extBut _ _ heL he⟩
        · obtain ⟨o, ho, r⟩ := hsi₆; exact ⟨o, hs₇.extBut _ _ hiL ho, r⟩
        · exact (GSince.refl _ s'').step fun b o hb x => hs₇.extBut b o (by simp at hb; exact hb.1) x
    | false =>
      simp only [Bool.false_eq_true, if_false]
      rw [hdrop] at hit ⊢
      rw [escU] at hit ⊢
      refine seg_execs_cons ?_
      rw [exec_If]
      refine seg_bind_wrap (wpAny_standAt ?_)
      refine seg_bind_wrap (wpAny_isTrue_Compare1 (ldE hn₅ rfl (Constant_str (eq_str (wpAny_truthy_bool ?_))) hkd hch))
      have e92 : ((⟨#[c]⟩ : Str) == Str.ofString "\\") = decide (c = 92) := by
        have : Str.ofString "\\" = (⟨#[92]⟩ : Str) := by decide +kernel
        rw [this]
        by_cases h : c = 92
        · subst h; simp
        · have : (⟨#[c]⟩ : Str) ≠ ⟨#[92]⟩ := fun e => h (by injection e with e; simpa using e)
          simp [this, h]
      rw [e92]
      by_cases h92 : c = 92
      · simp only [h92, decide_true, if_true] at hit ⊢
        refine seg_execs_cons (seg_wrap (wpAny_Assign_Name ?_))
        refine wpAny_Constant_bool ?_
        refine wpAny_storeName_local hesc hn₅ (fun h₇ hn₇ hs₇ => ?_) hp
        refine seg_execs_nil (seg_execs_nil ?_)
        refine seg_again rfl (ih (i + 1) true done s₀ _ _ (by omega) hlt hit ?_ ?_ hn₇ (by simp) (fun _ => ⟨Nat.succ_pos _, ti, rfl⟩) ?_)
        · obtain ⟨old, he⟩ := hen₅; exact ⟨old, hs₇.extBut _ _ heL he⟩
        · obtain ⟨o, ho, r⟩ := hsi₅; exact ⟨o, hs₇.extBut _ _ hiL ho, r⟩
        · exact hsince.step fun b o hb x => hs₇.extBut b o (by simp at hb; exact hb.1) (keep₅ b o hb x)
      · simp only [h92, decide_false, Bool.false_eq_true, if_false] at hit ⊢
        rw [List.length_cons]
        refine seg_execs_cons ?_
        refine seg_Expr_Yield rfl rfl rfl ?_ hco hint
        refine eval_pair (p := (i : Int)) (tp := ti) (u := [c]) (fun Q' hq => ldE hn₅ rfl hq hkd hpos) (fun Q' hq => ldE hn₅ rfl (hq u _) hkd hch) (fun tu tk kap hkap => ?_)
        refine ⟨⟨i, [c], h₅.objs.size, ti, tu, idx _ _ hit, rfl, ⟨_, Heap.get?_push_size _ rfl, rfl, _, rfl⟩⟩, hsince.step (fun b o hb x => Heap.get?_push_of_some _ (keep₅ b o hb x)), fun s'' hal => hkap .none s'' ?_⟩
        obtain ⟨hn₆, hen₆, hsi₆⟩ := back _ s'' _ rfl hal (fun b o x => Heap.get?_push_of_some _ x)
        refine seg_execs_nil (seg_execs_nil ?_)
        exact seg_again rfl (ih (i + 1) false (done ++ [(i, [c])]) s'' _ _ (by omega) hlt (by rw [hit]; simp) hen₆ hsi₆ hn₆ hb (fun h => nomatch h) (GSince.refl _ s''))
end
end
section
open PySem PySem.W PySem.Calls PyProof.Rows
set_option Elab.async false
set_option maxRecDepth 100000
set_option maxHeartbeats 2000000
set_option pp.deepTerms false
set_option pp.deepTerms.threshold 6
set_option pp.maxSteps 20000
theorem fill_nowG2 : (PySem.Challenge.rw_ij0162_01.Holds → hd.heap_39 = hd.heap_39) := by
  k_fill
  intro _; rfl
section
variable {M : Model} {A : Around} {R : GenEnd} {Y : Protocol} {n : Nat} {s₀ : Shared} {c : Code} {fs : List Frame} {s : Shared} {env : Env}
  {K : Flow → Sem PySem.Fin} {H : Value → Sem PySem.Fin} {gd : Bool → Bool} {lv : List Value → List Value}
theorem seg_For {target iter : Expr} {body : List Stmt} {pos : Pos}
    (h : wpAny M (A.over c fs) (eval iter env) (fun xv s₁ => wpAny M (A.over c fs) (pyIter xv) (fun it s₂ => ∀ p, Seg M A R Y n s₀ (.forLoop target it body [] env) (M.den (.forLoop target it body [] env))
      (.ret (fun r => ((match r with | .ok f => (.pure f : Sem Flow) | .error e => .raise e).onRaise fun (x : Value) => do
        if (← field x 1) == Value.none then unsupported "frame.own-activation:exception-without-traceback"
        setFlight x env.frame).wrap K H gd lv) none (gd false) (lv []) c p [] :: fs) s₂) (fun x s' => Seg M A R Y n s₀ c (H x) fs s') s₁) (fun x s' => Seg M A R Y n s₀ c (H x) fs s') s)
    (hs : ∀ x, foldedSetIterable iter env x = pure x) :
    Seg M A R Y n s₀ c ((exec (.For target iter body [] pos) env).wrap K H gd lv) fs s := by
  rw [exec_For]
  refine seg_bind_wrap (wpAny_standAt ?_)
  refine seg_bind_wrap (wpAny_mono h (fun xv s₁ h₁ => ?_) fun _ _ x => x)
  refine seg_bind_wrap (wpAny_of_eq (hs xv) ?_)
  refine seg_bind_wrap (wpAny_standAt ?_)
  refine seg_bind_wrap (wpAny_holding (wpAny_mono h₁ (fun it s₂ h₂ => ?_) fun _ _ x => x))
  exact seg_call h₂
end

theorem over_one {A : Around} (hh : A.handled = none) (c : Code) (K0 : Result → Sem PySem.Fin) (c0 : Code) (p0 : Pos) : (A.over c [.ret K0 none false [] c0 p0 []]).handled = none := by
  simp [Around.over, marksOver, Frame.marks, markOver, hh]

section
variable {prog : Program} {w : World} {A : Around} {h₀ : Heap} {L a : Addr} {m : Str → Option Value} {name : Str} {scope : Scope} {cd : Value} {K : Frag} {p : Program} {loose : List Str} {mg mb : Str → Option Value} {s : Shared}

/-- the reader, from its first call on -/
theorem seg_reader {r1 r2 r3 r4 r5 r6 r7 r8 r9 r10 r11 r12 r13 r14 r15 r16 r17 pp pc pt q1 q2 q3 q4 q5 q6 q7 q8 q9 q10 q11 q12 q13 q14 q15 q16 q17 q18 q19 q20 q21 q22 q23 q24 : Pos} {x1 x2 x3 k1 k2 k3 k4 k5 k6 k7 k8 : Nat}
    (hh : A.handled = none) (hkd : scope.kind = .function) (hco : scope.isCoroutine = false) (hint : interactive (envOf name scope L a cd) = false)
    (hpos : (envOf name scope L a cd).kindOf "pos" = some .local) (hch : (envOf name scope L a cd).kindOf "ch" = some .local) (hesc : (envOf name scope L a cd).kindOf "escape" = some .local)
    (hadr : (envOf name scope L a cd).kindOf "addr" = some .local) (henu : (envOf name scope L a cd).kindOf "enumerate" = some .globalImplicit)
    (X : K.In h₀) (T : TopRead p loose mg mb h₀) (hn1 : nsIn K mainGlobals "enumerate" = some none) (l : List Nat) (t : Tok)
    (F : Fr h₀ L s.heap m) (hm : m "addr" = some (.str (S l) t)) :
    Seg (model prog w) A (gEnd [L, s.heap.objs.size, s.heap.objs.size + 1]) (gProto [L, s.heap.objs.size, s.heap.objs.size + 1] (escU l 0 false)) (escU l 0 false).length s
      (.func [.Assign [.Name "pos" r1] (.Constant (.int 0) k5 r2) r3, .Assign [.Name "escape" r4] (.Constant (.bool false) k6 r5) r6,
        .For (.Tuple [.Name "pos" pp, .Name "ch" pc] x1 pt) (.Call (.Name "enumerate" r7) [.Name "addr" r8] [] r9)
          [.If (.Name "escape" q1) [.Expr (.Yield (some (.Tuple [.Name "pos" q2, .BinOp (.Constant (.str "\\") k1 q3) .Add (.Name "ch" q4) q5] x2 q6)) q7) q8, .Assign [.Name "escape" q9] (.Constant (.bool false) k2 q10) q11]
            [.If (.Compare (.Name "ch" q12) [.Eq] [.Constant (.str "\\") k3 q13] q14) [.Assign [.Name "escape" q15] (.Constant (.bool true) k4 q16) q17]
              [.Expr (.Yield (some (.Tuple [.Name "pos" q18, .Name "ch" q19] x3 q20)) q21) q22] q23] q24] [] r10,
        .If (.Name "escape" r11) [.Expr (.Yield (some (.Tuple [.Name "pos" r12, .Constant (.str "\\") k7 r13] k8 r14)) r15) r16] [] r17] (envOf name scope L a cd))
      ((model prog w).den (.func [.Assign [.Name "pos" r1] (.Constant (.int 0) k5 r2) r3, .Assign [.Name "escape" r4] (.Constant (.bool false) k6 r5) r6,
        .For (.Tuple [.Name "pos" pp, .Name "ch" pc] x1 pt) (.Call (.Name "enumerate" r7) [.Name "addr" r8] [] r9)
          [.If (.Name "escape" q1) [.Expr (.Yield (some (.Tuple [.Name "pos" q2, .BinOp (.Constant (.str "\\") k1 q3) .Add (.Name "ch" q4) q5] x2 q6)) q7) q8, .Assign [.Name "escape" q9] (.Constant (.bool false) k2 q10) q11]
            [.If (.Compare (.Name "ch" q12) [.Eq] [.Constant (.str "\\") k3 q13] q14) [.Assign [.Name "escape" q15] (.Constant (.bool true) k4 q16) q17]
              [.Expr (.Yield (some (.Tuple [.Name "pos" q18, .Name "ch" q19] x3 q20)) q21) q22] q23] q24] [] r10,
        .If (.Name "escape" r11) [.Expr (.Yield (some (.Tuple [.Name "pos" r12, .Constant (.str "\\") k7 r13] k8 r14)) r15) r16] [] r17] (envOf name scope L a cd))) [] s := by
  have hp : ((envOf name scope L a cd).scope.kind == .class || ((envOf name scope L a cd).scope.kind == .module && (envOf name scope L a cd).locals != (envOf name scope L a cd).globals)) = false := by
    show (scope.kind == .class || (scope.kind == .module && _)) = false; rw [hkd]; rfl
  refine seg_func ?_
  refine seg_execs_cons (seg_wrap (wpAny_Assign_Name (wpAny_Constant_int ?_)))
  refine wpAny_storeName_local hpos F.ns (fun h₁ hn₁ hs₁ => ?_) hp
  refine seg_execs_cons (seg_wrap (wpAny_Assign_Name (wpAny_Constant_bool ?_)))
  refine wpAny_storeName_local hesc hn₁ (fun h₂ hn₂ hs₂ => ?_) hp
  dsimp only at hs₁ hs₂ ⊢
  have k₂ : ∀ b o, b ≠ L → s.heap.get? b = some o → h₂.get? b = some o := fun b o hb x => hs₂.extBut b o hb (hs₁.extBut b o hb x)
  have z₂ : h₂.objs.size = s.heap.objs.size := hs₂.1.trans hs₁.1
  have F₂ : Fr h₀ L h₂ _ := ⟨hn₂, fun b o x => k₂ b o (Nat.ne_of_lt (Nat.lt_of_lt_of_le (Heap.lt_size x) F.above)) (F.keep b o x), F.above⟩
  have hLs : L < s.heap.objs.size := F.ns.lt
  refine seg_execs_cons (seg_For ?_ (by intro _; rfl))
  refine Call_ (name_B F₂ X T hn1 boot_enumerate (by decide) (Pv.callWith_type1 (spliced_more (ld F₂ (by exact hm) (spliced_none ?_) hkd hadr))) hkd henu)
  refine call_enumerate_str fun h₃ he₃ hi₃ hz₃ hk₃ => ?_
  refine wpAny_pyIter_enum he₃ ?_
  intro p0
  dsimp only at he₃ hi₃ hz₃ hk₃ ⊢
  rw [z₂] at he₃ hi₃ ⊢
  have hGS : GSince [L, s.heap.objs.size, s.heap.objs.size + 1] s { heap := h₃, gens := s.gens, drawn := s.drawn, toks := s.toks + 1 + 1 + 1, os := s.os } :=
    ⟨h₃, _, rfl, fun b o hb x => hk₃ b o (k₂ b o (by simp at hb; exact hb.1) x)⟩
  refine seg_loop hh hkd hco hint hpos hch hesc _ _ (Nat.succ_ne_self _) (Nat.ne_of_gt (Nat.lt_succ_of_lt hLs)) (Nat.ne_of_gt hLs) l t (escU l 0 false) _ _ _ (fun c => over_one hh c _ _ _) ?_ l.length 0 false [] s _ _ (by omega) (Nat.zero_le _) (by simp) ⟨_, he₃⟩ hi₃ (hn₂.keeps hk₃) rfl (fun h => nomatch h) ?_
  · intro b done s₀ s' m' hit hn' hb hbp hsince
    show Seg _ A _ _ _ s₀ _ ((execs [.If (.Name "escape" r11) [.Expr (.Yield (some (.Tuple [.Name "pos" r12, .Constant (.str "\\") k7 r13] k8 r14)) r15) r16] [] r17] (envOf name scope L a cd)).wrap _ _ _ _) [] s'
    refine seg_execs_cons ?_
    rw [exec_If]
    refine seg_bind_wrap (wpAny_standAt ?_)
    refine seg_bind_wrap (isTrue_bool (b := b) (fun Q' hq => ldE hn' hb hq hkd hesc) ?_)
    cases b with
    | false =>
      simp only [Bool.false_eq_true, if_false]
      refine seg_execs_nil (seg_execs_nil ?_)
      exact seg_end (.ok (.ret .none)) ⟨rfl, rfl, hsince⟩
    | true =>
      obtain ⟨hl0, tp, hmp⟩ := hbp rfl
      simp only [if_true]
      refine seg_execs_cons ?_
      refine seg_Expr_Yield rfl rfl rfl ?_ hco hint
      refine eval_pair (p := ((l.length - 1 : Nat) : Int)) (tp := tp) (u := [92]) (fun Q' hq => ldE hn' hmp hq hkd hpos) (fun Q' hq => Constant_str ?_) (fun tu tk kap hkap => ?_)
      · have e9 : Str.ofString "\\" = S [92] := by decide +kernel
        rw [e9]; exact hq _ _
      · refine ⟨⟨l.length - 1, [92], _, tp, tu, ?_, rfl, ⟨_, Heap.get?_push_size _ rfl, rfl, _, rfl⟩⟩, hsince.step (fun b o hb x => Heap.get?_push_of_some _ x), fun s'' hal => hkap .none s'' ?_⟩
        · rw [hit]
          have : (done ++ escU [] l.length true).length - 1 - 0 = done.length := by simp [escU]
          show (done ++ escU [] l.length true)[(done ++ escU [] l.length true).length - 1 - 0]? = _
          rw [this]; simp [escU]
        · refine seg_execs_nil (seg_execs_nil ?_)
          exact seg_end (.ok (.ret .none)) ⟨rfl, rfl, GSince.refl _ _⟩
  · exact hGS
end
end
section
open PySem PySem.W PySem.Calls PyProof.Rows
set_option Elab.async false
set_option maxRecDepth 100000
set_option maxHeartbeats 2000000
set_option pp.deepTerms false
set_option pp.deepTerms.threshold 6
set_option pp.maxSteps 20000
section
variable {prog : Program} {w : World} {A : Around} {E : Value → Shared → Prop} {s : Shared} {env : Env}

/-- one call of next upon a reader -/
theorem next_reader {a : Addr} {g n : Nat} {gs : GenState} {fp : List Addr} {items : List (Nat × List Nat)} {Q : Option Value → Shared → Prop} (hh : A.handled = none)
    (hl : s.heap.NoLimit) (hroom : A.depth < recursionLimit)
    (hg : s.heap.IsGen a g) (hgs : s.gens[g]? = some gs)
    (hgo : gs.Goes (model prog w) A.in1 (gEnd fp) (gProto fp items) n (.send .none) (s.setGen g .running))
    (hY : ∀ v s₁ gs', gs'.bare = true → gProto fp items (n - 1) (s.setGen g .running) v s₁ (fun r' s'' => match n with
        | 0 => False
        | k + 1 => gs'.Goes (model prog w) A.in1 (gEnd fp) (gProto fp items) k r' s'') → Q (some v) (s₁.setGen g gs'))
    (hP : ∀ s₁, n = 0 ∧ GSince fp (s.setGen g .running) s₁ → ∀ h', (∀ b o, s₁.heap.get? b = some o → h'.get? b = some o) → Q none { s₁.setGen g .finished with heap := h' }) :
    wpAny (model prog w) A (pyNext (.ref a)) Q E s := by
  unfold pyNext
  refine wpAny_bind (wpAny_attempt (wpAny_callSpecial?_slot (name := Str.ofString "__next__") hg.typeIs slot_gen_next
    (wpAny_call_entry slot_gen_next hg.typeIs entry_gen_next ?_ (args_gen_next _))))
  show wpAny _ A.in1 (Builtin.Generator.genWake (.ref a) (.send .none)) _ _ s
  unfold Builtin.Generator.genWake
  refine wpAny_bind (wpAny_holding (wpAny_genNumber hg (wpAny_bind (wpAny_genState hgs ?_))))
  cases gs with
  | running => exact hgo.elim
  | finished => exact hgo.elim
  | _ =>
    refine wpAny_bind (wpAny_roomToWake hl hroom ?_)
    show wpAny _ A.in1 (.resume g (.send .none) [] _) _ _ s
    refine wpAny_resumeQ hgs hgo (fun x s₁ hx => ?_) (fun v s₁ gs' hb hv => ?_)
    · obtain ⟨rfl, hp⟩ := hx
      show wpAny _ A.in1 (newExc (.type "StopIteration") [] >>= _) _ _ _
      refine wpAny_bind ?_
      simp only [newExc, newTuple]
      refine wpAny_bind (wpAny_newObj_type ?_ (by size_fits))
      refine wpAny_bind (m := firstArgMember _ _) (wpAny_of_eq (a := Value.none) (by first | rfl | (simp only [firstArgMember]; rfl)) ?_)
      refine wpAny_newObj_type ?_ (by size_fits)
      simp only [raiseNew]
      refine wpAny_bind (wpAny_bind (wpAny_handled ?_))
      rw [show A.in1.handled = none from hh]
      refine wpAny_throw ?_
      refine wpAny_bind (wpAny_isInstance (T := "StopIteration") (b := true) ⟨_, Heap.get?_push_size _ rfl, rfl⟩ isSubtype_stop ?_)
      exact wpAny_pure (hP s₁ hp _ fun b o hb => Heap.get?_push_of_some _ (Heap.get?_push_of_some _ hb))
    · exact wpAny_pure ⟨v, rfl, wpAny_pure (hY v s₁ gs' hb hv)⟩

theorem letGo_gen {target : Expr} {a : Addr} {g : Nat} {v : Value} {Q : Unit → Shared → Prop} (hg : s.heap.IsGen a g) (hQ : Q () s) : wpAny (model prog w) A (letOwnedTupleGo target (.ref a) v) Q E s := by
  obtain ⟨o, nm, qn, ho, hc, hd, _⟩ := hg
  obtain ⟨c, d, dt, sl⟩ := o
  simp only at hc hd
  subst hc hd
  unfold letOwnedTupleGo
  cases target <;> cases v <;> first
    | exact wpAny_pure hQ
    | (refine wpAny_bind (wpAny_load ho ?_)
       dsimp only
       split
       · rename_i h; simp at h
       · exact wpAny_pure hQ)

theorem gens_setGen {s : Shared} {g : Nat} {x : GenState} {gens : Array GenState} (h : AllBare gens) (hx : x.bare = true) : AllBare (({ s with gens := gens } : Shared).setGen g x).gens := by
  intro y hy
  have e : (({ s with gens := gens } : Shared).setGen g x).gens = gens.setIfInBounds g x := by simp [Shared.setGen]
  rw [e] at hy
  rcases Array.mem_or_eq_of_mem_setIfInBounds hy with h1 | h1
  · exact h y h1
  · exact h1 ▸ hx

/-- a loop over a reader -/
theorem for_reader {R : Result → Shared → Prop} {xp xc : Str} {pp pc pt : Pos} {x1 : Nat} {body : List Stmt} {a g : Nat} {Lg N0 : Addr} {items : List (Nat × List Nat)} {h₀ : Heap} {m : Str → Option Value} {news : List (Addr × Obj)} {gs₀ : GenState}
    (hh : A.handled = none) (hroom : A.depth < recursionLimit) (hxp : env.kindOf xp = some .local) (hxc : env.kindOf xc = some .local)
    (hp : (env.scope.kind == .class || (env.scope.kind == .module && env.locals != env.globals)) = false)
    (hl : h₀.NoLimit) (hg : s.heap.IsGen a g) (hgs : s.gens[g]? = some gs₀) (hbare : AllBare s.gens)
    (hgo : gs₀.Goes (model prog w) A.in1 (gEnd [Lg, N0, N0 + 1]) (gProto [Lg, N0, N0 + 1] items) items.length (.send .none) (s.setGen g .running))
    (hfL : env.locals ∉ [a, Lg, N0, N0 + 1]) (haf : a ∉ [Lg, N0, N0 + 1]) (hnew : ∀ b ∈ [a, Lg, N0, N0 + 1], h₀.get? b = none)
    (F : Fr h₀ env.locals s.heap m) (N : News h₀ env.locals s.heap news) (hnw : ∀ q ∈ news, q.1 ∉ [a, Lg, N0, N0 + 1])
    (J : Nat → (Str → Option Value) → List (Addr × Obj) → Prop) (h0 : J 0 m news)
    (step : ∀ i p u tp tu m₁ news₁ h₁ tk₁ g₁ own, items[i]? = some (p, u) → J i m₁ news₁ → (∀ q ∈ news₁, q.1 ∉ [a, Lg, N0, N0 + 1]) → (∀ q ∈ own, q.1 ∈ [a, Lg, N0, N0 + 1]) → AllBare g₁ →
      Fr h₀ env.locals h₁ (fun y => if y = xc then some (.str (S u) tu) else if y = xp then some (.int (p : Int) tp) else m₁ y) → News h₀ env.locals h₁ (own ++ news₁) →
      wpAny (model prog w) A (execs body env) (fun f s₂ => match f with
        | .ret v => R (.ok (.ret v)) s₂
        | .brk => R (.ok .next) s₂
        | _ => ∃ h' tk m₂ news₂, s₂ = { s with heap := h', gens := g₁, toks := tk } ∧ Fr h₀ env.locals h' m₂ ∧ News h₀ env.locals h' (own ++ news₂) ∧ (∀ q ∈ news₂, q.1 ∉ [a, Lg, N0, N0 + 1]) ∧ J (i + 1) m₂ news₂)
        (notedBy (model prog w) A env fun e s' => R (.error e) s') { s with heap := h₁, gens := g₁, toks := tk₁ })
    (hR : ∀ h' tk g' m' news', Fr h₀ env.locals h' m' → News h₀ env.locals h' news' → J items.length m' news' → AllBare g' → R (.ok .next) { s with heap := h', gens := g', toks := tk }) :
    codeAny (model prog w) A (.forLoop (.Tuple [.Name xp pp, .Name xc pc] x1 pt) (.ref a) body [] env) R s := by
  refine codeAny_forLoop_any
    (fun k s' => ∃ h' tk g' m' news' i gs, s' = { s with heap := h', gens := g', toks := tk } ∧ h'.IsGen a g ∧ g'[g]? = some gs ∧ AllBare g' ∧
      gs.Goes (model prog w) A.in1 (gEnd [Lg, N0, N0 + 1]) (gProto [Lg, N0, N0 + 1] items) (items.length - i) (.send .none) (({ s with heap := h', gens := g', toks := tk } : Shared).setGen g .running) ∧
      Fr h₀ env.locals h' m' ∧ News h₀ env.locals h' news' ∧ (∀ q ∈ news', q.1 ∉ [a, Lg, N0, N0 + 1]) ∧ J i m' news' ∧ i ≤ items.length ∧ k = items.length + 1 - i) ?_ (items.length + 1)
    ⟨s.heap, s.toks, s.gens, m, news, 0, gs₀, rfl, hg, hgs, hbare, hgo, F, N, hnw, h0, Nat.zero_le _, rfl⟩
  rintro k s' ⟨H, tk, G, m', news', i, gs, rfl, hg', hgs', hb', hgo', F', N', hnw', hJ, hi, rfl⟩
  have old : ∀ b o, h₀.get? b = some o → b ∉ [a, Lg, N0, N0 + 1] := fun b o e hb => by rw [hnew b hb] at e; cases e
  have sub : ∀ b, b ∈ [Lg, N0, N0 + 1] → b ∈ [a, Lg, N0, N0 + 1] := fun b hb => .tail _ hb
  refine next_reader hh (hl.keeps F'.keep) hroom hg' hgs' hgo' (fun v s₁ gs' hbg hY => ?_) (fun s₁ hP h' hk => ?_)
  · -- an item
    obtain ⟨⟨p, u, T, tp, tu, hit, rfl, hT⟩, ⟨h₁, tk₁, rfl, hk₁⟩, hkap⟩ := hY
    have hlt : i < items.length := by
      rcases Nat.lt_or_ge i items.length with h | h
      · exact h
      · have e : items.length - i = 0 := by omega
        rw [e] at hkap
        exact (hkap (s.setGen g .running |> fun _ => { s with heap := h₁ }) (fun _ _ _ e => e)).elim
    obtain ⟨r, hr⟩ : ∃ r, items.length - i = r + 1 := ⟨items.length - i - 1, by omega⟩
    rw [hr] at hit hkap
    have hidx : items.length - 1 - (r + 1 - 1) = i := by omega
    rw [hidx] at hit
    simp only [Nat.add_sub_cancel] at hkap
    replace hk₁ : ∀ b o, b ∉ [Lg, N0, N0 + 1] → H.get? b = some o → h₁.get? b = some o := hk₁
    have hg₁ : h₁.IsGen a g := let ⟨o, nm, qn, ho, r⟩ := hg'; ⟨o, nm, qn, hk₁ a o haf ho, r⟩
    have F₁ : Fr h₀ env.locals h₁ m' := ⟨F'.ns.at' fun o e => hk₁ _ o (fun h => hfL (sub _ h)) e, fun b o e => hk₁ b o (fun h => old b o e (sub _ h)) (F'.keep b o e), F'.above⟩
    have N₁ : News h₀ env.locals h₁ news' := fun q hq => ⟨hk₁ _ _ (fun h => hnw' q hq (sub _ h)) (N' q hq).1, (N' q hq).2⟩
    have hLf : env.locals ∉ [a, Lg, N0, N0 + 1] := hfL
    dsimp only
    refine letGo_gen (by exact hg₁) ?_
    refine wpAny_assign_Tuple hh hT rfl rfl fun h₂ hx₂ => ?_
    replace hx₂ : Heap.ExtBut h₁.objs.size h₁ h₂ := hx₂
    have k₂ : ∀ b o, h₁.get? b = some o → h₂.get? b = some o := fun b o e => hx₂ b o (Nat.ne_of_lt (Heap.lt_size e)) e
    show wpAny _ _ (do holding [Value.str (S u) tu] (assign (.Name xp pp) env (.int (p : Int) tp)); do holding [] (assign (.Name xc pc) env (.str (S u) tu)); pure ()) _ _ _
    have F₂ := F₁.keeps k₂
    have N₂ := N₁.grown k₂
    refine wpAny_bind (wpAny_holding (wpAny_assign_Name (wpAny_storeName_local hxp F₂.ns (fun h₃ hn₃ hs₃ => ?_) hp)))
    replace hs₃ : Heap.SameBut env.locals h₂ h₃ := hs₃
    have F₃ := F₂.set hn₃ hs₃
    have N₃ := N₂.set hs₃
    refine wpAny_bind (wpAny_holding (wpAny_assign_Name (wpAny_storeName_local hxc F₃.ns (fun h₄ hn₄ hs₄ => wpAny_pure ?_) hp)))
    replace hs₄ : Heap.SameBut env.locals h₃ h₄ := hs₄
    have F₄ := F₃.set hn₄ hs₄
    have N₄ := N₃.set hs₄
    have k₄ : ∀ b o, b ≠ env.locals → h₁.get? b = some o → h₄.get? b = some o := fun b o hb e => hs₄.extBut b o hb (hs₃.extBut b o hb (k₂ b o e))
    have Nown : News h₀ env.locals h₄ (PyProof.Rows.ownOf h₀ [a, Lg, N0, N0 + 1] h₄) := news_ownOf hLf
    have hG : (({ s with heap := H, gens := G, toks := tk } : Shared).setGen g .running).gens = G.setIfInBounds g .running := by simp [Shared.setGen]
    have hbG : AllBare (G.setIfInBounds g .running |>.setIfInBounds g gs') := by
      intro y hy
      rcases Array.mem_or_eq_of_mem_setIfInBounds hy with h1 | h1
      · rcases Array.mem_or_eq_of_mem_setIfInBounds h1 with h2 | h2
        · exact hb' y h2
        · rw [h2]; rfl
      · rw [h1]; exact hbg
    have hgg : (G.setIfInBounds g .running |>.setIfInBounds g gs')[g]? = some gs' := by
      have hlt : g < G.size := (Array.getElem?_eq_some_iff.mp hgs').1
      simp [hlt]
    refine wpAny_mono (step i p u tp tu m' news' h₄ _ (G.setIfInBounds g .running |>.setIfInBounds g gs') (PyProof.Rows.ownOf h₀ [a, Lg, N0, N0 + 1] h₄) hit hJ hnw' ownOf_sub hbG F₄ (Nown.append N₄)) (fun f s₃ h₃' => ?_) fun _ _ e => e
    have fin : (∃ h' tk m₂ news₂, s₃ = { s with heap := h', gens := (G.setIfInBounds g .running |>.setIfInBounds g gs'), toks := tk } ∧ Fr h₀ env.locals h' m₂ ∧ News h₀ env.locals h' (PyProof.Rows.ownOf h₀ [a, Lg, N0, N0 + 1] h₄ ++ news₂) ∧ (∀ q ∈ news₂, q.1 ∉ [a, Lg, N0, N0 + 1]) ∧ J (i + 1) m₂ news₂) →
        ∃ k', k' < items.length + 1 - i ∧ ∃ h' tk g' m' news' i gs, s₃ = { s with heap := h', gens := g', toks := tk } ∧ h'.IsGen a g ∧ g'[g]? = some gs ∧ AllBare g' ∧
          gs.Goes (model prog w) A.in1 (gEnd [Lg, N0, N0 + 1]) (gProto [Lg, N0, N0 + 1] items) (items.length - i) (.send .none) (({ s with heap := h', gens := g', toks := tk } : Shared).setGen g .running) ∧
          Fr h₀ env.locals h' m' ∧ News h₀ env.locals h' news' ∧ (∀ q ∈ news', q.1 ∉ [a, Lg, N0, N0 + 1]) ∧ J i m' news' ∧ i ≤ items.length ∧ k' = items.length + 1 - i := by
      rintro ⟨h₅, tk₅, m₅, news₅, rfl, F₅, N₅, hnw₅, hJ₅⟩
      have kown : ∀ b ∈ [a, Lg, N0, N0 + 1], ∀ o, h₄.get? b = some o → h₅.get? b = some o := fun b hb o e => (N₅ _ (List.mem_append_left _ (mem_ownOf hb (hnew b hb) e))).1
      refine ⟨items.length + 1 - (i + 1), by omega, h₅, tk₅, _, m₅, news₅, i + 1, gs', rfl, ?_, hgg, hbG, ?_, F₅, N₅.right, hnw₅, hJ₅, hlt, rfl⟩
      · obtain ⟨o, nm, qn, ho, r⟩ := hg₁
        exact ⟨o, nm, qn, kown a (.head _) o (k₄ a o (fun e => hfL (e ▸ .head _)) ho), r⟩
      · have e : items.length - (i + 1) = r := by omega
        rw [e]
        exact hkap _ fun b hb o x => kown b (sub b hb) o (k₄ b o (fun e => hfL (e ▸ sub b hb)) x)
    cases f with
    | ret v => exact h₃'
    | brk => exact h₃'
    | next => exact fin h₃'
    | cont => exact fin h₃'
  · -- the end
    obtain ⟨hn, h₁, tk₁, rfl, hk₁⟩ := hP
    have hin : i = items.length := by omega
    subst hin
    replace hk₁ : ∀ b o, b ∉ [Lg, N0, N0 + 1] → H.get? b = some o → h₁.get? b = some o := hk₁
    have k' : ∀ b o, b ∉ [a, Lg, N0, N0 + 1] → H.get? b = some o → h'.get? b = some o := fun b o hb e => hk b o (hk₁ b o (fun h => hb (sub _ h)) e)
    have F₁ : Fr h₀ env.locals h' m' := ⟨F'.ns.at' fun o e => k' _ o hfL e, fun b o e => k' b o (old b o e) (F'.keep b o e), F'.above⟩
    have N₁ : News h₀ env.locals h' news' := fun q hq => ⟨k' _ _ (hnw' q hq) (N' q hq).1, (N' q hq).2⟩
    refine wpAny_execs_nil ?_
    refine hR h' tk₁ (G.setIfInBounds g .running |>.setIfInBounds g .finished) m' news' F₁ N₁ hJ ?_
    intro y hy
    rcases Array.mem_or_eq_of_mem_setIfInBounds hy with h1 | h1
    · rcases Array.mem_or_eq_of_mem_setIfInBounds h1 with h2 | h2
      · exact hb' y h2
      · rw [h2]; rfl
    · rw [h1]; rfl
end
end
section
open PySem PySem.W PySem.Calls PyProof.Rows
set_option Elab.async false
set_option maxRecDepth 100000
set_option maxHeartbeats 2000000
set_option pp.deepTerms false
set_option pp.deepTerms.threshold 6
set_option pp.maxSteps 20000
theorem fill_nowG4 : (PySem.Challenge.rw_ij0162_01.Holds → hd.heap_39 = hd.heap_39) := by
  k_fill
  intro _; rfl

theorem enter_gen {prog : Program} {w : World} {A : Around} {s : Shared} {K : Frag}
    {name qual : Str} {params : Arguments} {body : List Stmt} {scope : Scope} {dV kV doc pm cdv ct oc : Value} {an od : Option Addr} {osl : Array (Option Value)} {f : Addr}
    {pos : List Value} {kw : List (Str × Value)} {binds : List (Str × Value)} {Q E : Value → Shared → Prop}
    (X : K.In s.heap) (hlim : s.heap.NoLimit)
    (ho : K.lookup f = some ⟨oc, od, .func (fnOf name qual params body scope dV kV doc pm an cdv ct), osl⟩) (hcd : codeIn K cdv qual = true) (hroom : A.depth < recursionLimit)
    (hbind : BindsTo s (fnOf name qual params body scope dV kV doc pm an cdv ct) ⟨pos, kw⟩ binds) (hloc : ∀ y ∈ binds, scope.names.lookup y.1 = some .local)
    (h : ∀ h₁ tk, Fr s.heap s.heap.objs.size h₁ (fun y => binds.reverse.lookup y) → h₁.objs.size = s.heap.objs.size + 2 → h₁.IsGen (s.heap.objs.size + 1) s.gens.size → (∀ b o, s.heap.get? b = some o → h₁.get? b = some o) →
      Q (.ref (s.heap.objs.size + 1)) { s with heap := h₁, gens := s.gens.push (.fresh (.func body (envOf qual scope s.heap.objs.size f cdv))), toks := tk })
    (hco : scope.isCoroutine = false) (hgen : scope.isGenerator = true) (hk : scope.kind = .function)
    (hcell : ∀ x ∈ scope.names, x.2 ≠ .cell) : wpAny (model prog w) A (call (.ref f) pos kw) Q E s := by
  refine wpAny_call ?_
  refine codeAny_call_generator (fd := fnOf name qual params body scope dV kV doc pm an cdv ct) (body := body) hroom (X _ _ ho) rfl hco hgen rfl (codeRec_of X hcd) ?_
  refine hbind _ _ _ _ ?_
  refine wpAny_newFunctionEnv hcell hloc (fun h₀ hns₀ hsb₀ => ⟨hlim.fresh _ hsb₀, ?_⟩) hk
  have hz : h₀.objs.size = s.heap.objs.size + 1 := by rw [hsb₀.1]; exact Heap.size_push ..
  have keep₀ : ∀ b o, s.heap.get? b = some o → h₀.get? b = some o := fun b o e => hsb₀.extBut b o (Nat.ne_of_lt (Heap.lt_size e)) (Heap.get?_push_of_some _ e)
  dsimp only
  rw [hz]
  refine h _ _ ⟨hns₀.push _, fun b o e => Heap.get?_push_of_some _ (keep₀ b o e), Nat.le_refl _⟩ (by rw [Heap.size_push, hz]) ?_ (fun b o e => Heap.get?_push_of_some _ (keep₀ b o e))
  exact ⟨_, _, _, by rw [← hz]; exact Heap.get?_push_size _ rfl, rfl, rfl, rfl⟩

theorem call_reader {prog : Program} {w : World} {p : Program} {loose : List Str} {mean : ExcName → Option Value} {mg mb : Str → Option Value} {s : Shared} {Q E : Value → Shared → Prop}
    {dp un : Nat} {fr : Option (List Env)} {gd : Option (List Code)} {l : List Nat} {t : Tok}
    (KX : (hd.heap_39 w.params).In s.heap) (T : Top p loose mean mg mb s.heap) (hdp : dp + 3 < recursionLimit)
    (h : ∀ h' tk gs₀, (∀ b o, s.heap.get? b = some o → h'.get? b = some o) → h'.objs.size = s.heap.objs.size + 2 → h'.IsGen (s.heap.objs.size + 1) s.gens.size → gs₀.bare = true →
      (∀ A' : Around, A'.handled = none → gs₀.Goes (model prog w) A' (gEnd [s.heap.objs.size, s.heap.objs.size + 2, s.heap.objs.size + 2 + 1]) (gProto [s.heap.objs.size, s.heap.objs.size + 2, s.heap.objs.size + 2 + 1] (escU l 0 false))
        (escU l 0 false).length (.send .none) (({ s with heap := h', gens := s.gens.push gs₀, toks := tk } : Shared).setGen s.gens.size .running)) →
      Q (.ref (s.heap.objs.size + 1)) { s with heap := h', gens := s.gens.push gs₀, toks := tk }) :
    wpAny (model prog w) { handled := none, depth := dp, frames := fr, guards := gd, units := un } (call (.ref 55) [.str (S l) t]) Q E s := by
  refine' enter_gen KX T.nolimit ?ho ?hcd ?hroom ?hbind ?hloc ?_ ?c1 ?c2 ?c3 ?c4
  case ho => k_is
  case hcd => k_is
  case hroom => exact Nat.lt_of_le_of_lt (Nat.le_add_right _ 3) (by assumption)
  case hbind => exact BindsTo.of_eq rfl
  case hloc => exact locs rfl
  case c1 => exact rfl
  case c2 => exact rfl
  case c3 => exact rfl
  case c4 => decide
  intro h₁ tk F hz hg hk
  refine h h₁ tk _ hk hz hg rfl (fun A' hh => ⟨rfl, ?_⟩)
  rw [← hz]
  refine' seg_reader (s := Shared.setGen ⟨h₁, s.gens.push (.fresh _), s.drawn, tk, s.os⟩ s.gens.size .running) (K := hd.heap_39 w.params) (h₀ := s.heap) hh ?g1 ?g2 ?g3 ?g4 ?g5 ?g6 ?g7 ?g8 KX (topRead_of T) ?g9 l t ?gF ?g10
  case g1 => rfl
  case g2 => rfl
  case g3 => rfl
  case g4 => rfl
  case g5 => rfl
  case g6 => rfl
  case g7 => rfl
  case g8 => rfl
  case g9 => k_is
  case gF => exact F
  case g10 => rfl
end
section
open PySem PySem.W PySem.Calls PyProof.Rows
set_option Elab.async false

theorem fm_take (f : Nat → Option Nat) (l : List Nat) (a n : Nat) (h : a + n ≤ l.length) :
    (List.range n).filterMap (fun k => l[a + k]?) = (l.drop a).take n := by
  induction n generalizing a with
  | zero => simp
  | succ n ih =>
    rw [List.range_succ_eq_map, List.filterMap_cons]
    have ha : a < l.length := by omega
    rw [show l[a + 0]? = some l[a] from by simp [ha], List.drop_eq_getElem_cons ha, List.take_succ_cons]
    simp only [List.filterMap_map]
    rw [← ih (a + 1) (by omega)]
    have : ((fun k => l[a + k]?) ∘ Nat.succ) = fun k => l[a + 1 + k]? := by
      funext k
      simp only [Function.comp]
      rw [show a + k.succ = a + 1 + k by omega]
    rw [this]

theorem idx_gen (a b : Int) (n : Nat) (A B : Nat) (ha : a = A) (hb : b = B) (hB : B ≤ n) (l : List Nat) (hl : l.length = n) :
    (sliceRange a b 1).filterMap ((S l).cps[·]?) = (l.take B).drop A := by
  subst ha hb
  unfold sliceRange
  simp only [show (1 : Int) > 0 by decide, if_true, Int.ediv_one]
  have hc : (if (A : Int) < B then (B : Int) - A + 1 - 1 else 0).toNat = B - A := by split <;> omega
  rw [hc, List.filterMap_map]
  have : ((fun x => (S l).cps[x]?) ∘ fun k : Nat => ((A : Int) + 1 * (k : Int)).toNat) = fun k => l[A + k]? := by
    funext k
    have e : ((A : Int) + 1 * (k : Int)).toNat = A + k := by omega
    simp only [Function.comp, e]
    simp [S]
  rw [this]
  rcases Nat.lt_or_ge B A with h | h
  · rw [show B - A = 0 by omega]
    rw [List.drop_eq_nil_of_le (by rw [List.length_take]; omega)]
    rfl
  · rw [fm_take (fun _ => none) l A (B - A) (by omega), List.drop_take]

theorem slice_whole {l : List Nat} {a b : Option Int} {r : List Nat} (h : (Builtin.Str.strSliceIndices a b 1 (S l).length).filterMap ((S l).cps[·]?) = r) (hlen : (Builtin.Str.strSliceIndices a b 1 (S l).length).length = r.length) (hr : r.length = l.length → r = l) :
    Txt.slice (S l) a b = S r := by
  unfold Txt.slice
  rw [h, hlen]
  by_cases e : r.length = l.length
  · rw [if_pos (by rw [S_length]; simp [e]), hr e]
  · rw [if_neg (by rw [S_length]; simp [e])]
    rfl
theorem range_len (a b : Int) (A B : Nat) (ha : a = A) (hb : b = B) : (sliceRange a b 1).length = B - A := by
  subst ha hb
  unfold sliceRange
  simp only [show (1 : Int) > 0 by decide, if_true, Int.ediv_one, List.length_map, List.length_range]
  split <;> omega

theorem nat_nn (i : Nat) : ¬ (i : Int) < 0 := by omega
theorem nat_clip (i n : Nat) : (max 0 (min (i : Int) (n : Int))) = ((min i n : Nat) : Int) := by omega
theorem len_clip (i j n : Nat) : min j n - min i n = min j n - i := by
  rcases Nat.le_total i n with h | h
  · rw [Nat.min_eq_left h]
  · rw [Nat.min_eq_right h, Nat.sub_eq_zero_of_le (Nat.min_le_right _ _), Nat.sub_eq_zero_of_le (Nat.le_trans (Nat.min_le_right _ _) h)]
theorem slice_ss (l : List Nat) (i j : Nat) : Txt.slice (S l) (some (i : Int)) (some (j : Int)) = S ((l.take j).drop i) := by
  have e1 : (l.take (min j l.length)).drop (min i l.length) = (l.take j).drop i := by
    apply List.ext_getElem?
    intro k
    simp only [List.getElem?_drop, List.getElem?_take]
    by_cases c : i ≤ l.length
    · rw [show min i l.length = i by omega]
      by_cases c2 : j ≤ l.length
      · rw [show min j l.length = j by omega]
      · rw [show min j l.length = l.length by omega]
        by_cases c3 : i + k < l.length
        · simp [c3, show i + k < j by omega]
        · simp [c3]
    · rw [List.getElem?_eq_none (l := l) (i := i + k) (by omega), List.getElem?_eq_none (l := l) (i := min i l.length + k) (by omega)]
      simp
  have hi := nat_nn i
  have hj := nat_nn j
  have hA := nat_clip i l.length
  have hB := nat_clip j l.length
  have len : (Builtin.Str.strSliceIndices (some (i : Int)) (some (j : Int)) 1 (S l).length).length = ((l.take j).drop i).length := by
    unfold Builtin.Str.strSliceIndices
    simp only [if_neg hi, if_neg hj, show (1 : Int) > 0 by decide, if_true, S_length]
    rw [range_len _ _ _ _ hA hB, List.length_drop, List.length_take]
    clear hA hB hi hj e1
    exact len_clip i j l.length
  refine slice_whole ?_ len ?_
  · unfold Builtin.Str.strSliceIndices
    simp only [if_neg hi, if_neg hj, show (1 : Int) > 0 by decide, if_true, S_length]
    rw [idx_gen _ _ l.length _ _ hA hB (Nat.min_le_right _ _) l rfl, e1]
  · intro e
    rw [List.length_drop, List.length_take] at e
    clear hA hB hi hj e1 len
    by_cases c : l = []
    · simp [c]
    · have hp : 0 < l.length := List.length_pos_iff.mpr c
      rw [show i = 0 by omega, List.drop_zero, List.take_of_length_le (by omega)]

theorem slice_sn (l : List Nat) (i : Nat) : Txt.slice (S l) (some (i : Int)) none = S (l.drop i) := by
  have e : Txt.slice (S l) (some (i : Int)) none = Txt.slice (S l) (some (i : Int)) (some (l.length : Int)) := by
    unfold Txt.slice
    rw [StrLaws.sliceIdx_none_hi, S_length]
  rw [e, slice_ss, List.take_length]

theorem slice_in (l : List Nat) (h : 1 ≤ l.length) : Txt.slice (S l) (some 1) (some (-1)) = S (l.drop 1).dropLast := by
  have e : Txt.slice (S l) (some 1) (some (-1)) = Txt.slice (S l) (some ((1 : Nat) : Int)) (some ((l.length - 1 : Nat) : Int)) := by
    unfold Txt.slice
    rw [StrLaws.sliceIdx_neg_hi _ _ (by decide) (by rw [S_length]; omega), S_length]
    rw [show (-1 + (l.length : Int)) = ((l.length - 1 : Nat) : Int) by omega]
    rfl
  rw [e, slice_ss, List.dropLast_eq_take, List.drop_take, List.length_drop]

theorem join_S (ls : List (List Nat)) : Txt.join (S []) (ls.map S) = S ls.flatten := by
  have h : ∀ ls : List (List Nat), Str.join ⟨#[]⟩ (ls.map S) = S ls.flatten := by
    intro ls
    induction ls with
    | nil => rfl
    | cons x r ih =>
      rw [List.map_cons, join_nil_cons, ih, List.flatten_cons, S_app]
  unfold Txt.join
  rw [StrLaws.glued_eq_join]
  exact h ls
end
section
open PySem PySem.W PySem.Calls PyProof.Rows
set_option Elab.async false
set_option maxRecDepth 100000
set_option maxHeartbeats 2000000
set_option pp.deepTerms false
set_option pp.deepTerms.threshold 12
set_option pp.maxSteps 20000
theorem fill_nowG5 : (PySem.Challenge.rw_ij0162_01.Holds → hd.heap_39 = hd.heap_39) := by
  k_fill
  intro _; rfl

def stStep (l : List Nat) (st : Nat × Option Nat × List (List Nat)) (x : Nat × List Nat) : Nat × Option Nat × List (List Nat) :=
  if x.2 = [34] then (match st.2.1 with
     | none => (st.1, some x.1, st.2.2)
     | some q => (x.1+1, none, if st.1 = q then st.2.2 else st.2.2 ++ [(l.take q).drop st.1]))
  else st
def stripT (l : List Nat) : List Nat :=
  if 34 ∈ l then
    let st := (escU l 0 false).foldl (stStep l) (0, none, [])
    (if st.1 < l.length then st.2.2 ++ [l.drop st.1] else st.2.2).flatten
  else l

theorem fr_none {h : Heap} {b : Addr} (hb : h.objs.size ≤ b) : h.get? b = none := by
  cases e : h.get? b with
  | none => rfl
  | some o => exact absurd (Heap.lt_size e) (Nat.not_lt.mpr hb)

theorem eq_S {u : List Nat} {x : Str} {r : List Nat} (e : x = S r) : (S u == x) = decide (u = r) := by
  subst e
  by_cases h : u = r
  · subst h; simp
  · have : S u ≠ S r := fun e => h (S_inj e)
    simp [this, h]

section
variable {prog : Program} {w : World} {A : Around} {E : Value → Shared → Prop} {s : Shared} {name : Str} {scope : Scope} {L a : Addr} {cd : Value} {h₀ : Heap} {m : Str → Option Value} {news : List (Addr × Obj)}

theorem eval_ss {xs xi xj : Str} {l : List Nat} {t : Tok} {i j : Nat} {ti tj : Tok} {p1 p2 p3 p4 p5 : Pos} {Q : Value → Shared → Prop} (F : Fr h₀ L s.heap m) (N : News h₀ L s.heap news)
    (hs : m xs = some (.str (S l) t)) (hi : m xi = some (.int (i : Int) ti)) (hj : m xj = some (.int (j : Int) tj)) (hl : l.length ≤ 100000)
    (h : ∀ h' t' k, Fr h₀ L h' m → News h₀ L h' news → Q (.str (S ((l.take j).drop i)) t') { s with heap := h', toks := k })
    (hk : scope.kind = .function := by rfl) (k1 : (envOf name scope L a cd).kindOf xs = some .local := by rfl) (k2 : (envOf name scope L a cd).kindOf xi = some .local := by rfl) (k3 : (envOf name scope L a cd).kindOf xj = some .local := by rfl)
    (d1 : (xs == ("__debug__" : Str)) = false := by decide) (d2 : (xi == ("__debug__" : Str)) = false := by decide) (d3 : (xj == ("__debug__" : Str)) = false := by decide) :
    wpAny (model prog w) A (eval (.Subscript (.Name xs p1) (.Slice (some (.Name xi p2)) (some (.Name xj p3)) none p4) p5) (envOf name scope L a cd)) Q E s := by
  refine Subscript_ (ld F hs (wpAny_Slice (evalPart_some_step (ld F hi (evalPart_some_step (ld F hj (evalPart_none_step ?_) hk k3 d3)) hk k2 d2))) hk k1 d1)
  refine slice_strN_ss F N ?_ (hsz := by rw [S_length]; have : sizeLine = 16777216 := rfl; omega)
  intro h' t' k F' N'
  rw [slice_ss]
  exact h h' t' k F' N'
theorem eval_sn {xs xi : Str} {l : List Nat} {t : Tok} {i : Nat} {ti : Tok} {p1 p2 p4 p5 : Pos} {Q : Value → Shared → Prop} (F : Fr h₀ L s.heap m) (N : News h₀ L s.heap news)
    (hs : m xs = some (.str (S l) t)) (hi : m xi = some (.int (i : Int) ti)) (hl : l.length ≤ 100000)
    (h : ∀ h' t' k, Fr h₀ L h' m → News h₀ L h' news → Q (.str (S (l.drop i)) t') { s with heap := h', toks := k })
    (hk : scope.kind = .function := by rfl) (k1 : (envOf name scope L a cd).kindOf xs = some .local := by rfl) (k2 : (envOf name scope L a cd).kindOf xi = some .local := by rfl)
    (d1 : (xs == ("__debug__" : Str)) = false := by decide) (d2 : (xi == ("__debug__" : Str)) = false := by decide) :
    wpAny (model prog w) A (eval (.Subscript (.Name xs p1) (.Slice (some (.Name xi p2)) none none p4) p5) (envOf name scope L a cd)) Q E s := by
  refine Subscript_ (ld F hs (wpAny_Slice (evalPart_some_step (ld F hi (evalPart_none_step (evalPart_none_step ?_)) hk k2 d2))) hk k1 d1)
  refine slice_strN_sn F N ?_ (hsz := by rw [S_length]; have : sizeLine = 16777216 := rfl; omega)
  intro h' t' k F' N'
  rw [slice_sn]
  exact h h' t' k F' N'

/-- xs.append(e) -/
theorem app_stmt {xl : Str} {e : Expr} {p1 p2 p3 p4 : Pos} {D : Addr} {its : Array Value} {n : Nat} {news' : Value → List (Addr × Obj)} {P : Value → Prop} {Q : Flow → Shared → Prop} {pl : Sem Bool} (F : Fr h₀ L s.heap m) (N : News h₀ L s.heap news)
    (hx : m xl = some (.ref D)) (hm : (D, listOf its n) ∈ news) (U : ∀ v, P v → Upd D (listOf its n) (listOf (its.push v) (n + 1)) news (news' v)) (hsz : its.size ≤ 100000)
    (he : ∀ Q' : Value → Shared → Prop, (∀ v h' tk, P v → Fr h₀ L h' m → News h₀ L h' news → Q' v { s with heap := h', toks := tk }) → wpAny (model prog w) A (eval e (envOf name scope L a cd)) Q' E s)
    (h : ∀ v h' tk, P v → Fr h₀ L h' m → News h₀ L h' (news' v) → Q .next { s with heap := h', toks := tk })
    (hs : starEach [e] (envOf name scope L a cd) = (false, eval e (envOf name scope L a cd)) :: starEach [] (envOf name scope L a cd) := by rfl)
    (hM : eval (.Call (.Attribute (.Name xl p1) "append" p2) [e] [] p3) (envOf name scope L a cd) = (do
      let ov ← eval (.Name xl p1) (envOf name scope L a cd)
      standAt p2.atName
      let (f, first) ← holding [ov] (getMethod ov "append" pl)
      callWith p3 f first (backTo p3 (starEach [e] (envOf name scope L a cd))) []) := by rfl)
    (hi : interactive (envOf name scope L a cd) = false := by rfl) (hsw : swapsWith (.Call (.Attribute (.Name xl p1) "append" p2) [e] [] p3) none p4.line (envOf name scope L a cd) = pure false := by rfl)
    (hk : scope.kind = .function := by rfl) (k1 : (envOf name scope L a cd).kindOf xl = some .local := by rfl) (d1 : (xl == ("__debug__" : Str)) = false := by decide) :
    wpAny (model prog w) A (exec (.Expr (.Call (.Attribute (.Name xl p1) "append" p2) [e] [] p3) p4) (envOf name scope L a cd)) Q E s := by
  refine wpAny_Expr_any ?_ hi hsw
  refine MethodCall_ (ld F hx (listMethod_K N hm PySem.F.slot_list_append PySem.F.type_list_append ?_) hk k1 d1) hM
  refine callWith_method1 (spliced_more (he _ fun v h1 tk1 hv F1 N1 => spliced_none ?_) hs) hs
  exact append_K (s := { s with heap := h1, toks := tk1 }) F1 N1 (U v hv) (fun h2 F2 N2 => h v h2 tk1 hv F2 N2) (by have : sizeLine = 16777216 := rfl; omega)
end

theorem eval_join {prog : Program} {w : World} {A : Around} {E : Value → Shared → Prop} {s : Shared} {name : Str} {scope : Scope} {L a : Addr} {cd : Value} {h₀ : Heap} {m : Str → Option Value}
    {x0 xr : Str} {k0 : Nat} {p0 p1 p2 p3 : Pos} {D : Addr} {lt : List (Str × Tok)} {ls : List (List Nat)} {pl : Sem Bool} {Q : Value → Shared → Prop} (F : Fr h₀ L s.heap m) (e0 : x0 = S [])
    (hx : m xr = some (.ref D)) (hl : s.heap.IsList D (strValues lt).toArray) (hlt : lt.map (·.1) = ls.map S) (hok : JoinOk (S []) (ls.map S) = true)
    (h : ∀ t' k, Q (.str (S ls.flatten) t') { s with toks := k })
    (hM : eval (.Call (.Attribute (.Constant (.str x0) k0 p0) "join" p2) [.Name xr p1] [] p3) (envOf name scope L a cd) = (do
      let ov ← eval (.Constant (.str x0) k0 p0) (envOf name scope L a cd)
      standAt p2.atName
      let (f, first) ← holding [ov] (getMethod ov "join" pl)
      callWith p3 f first (backTo p3 (starEach [.Name xr p1] (envOf name scope L a cd))) []) := by rfl)
    (hs : starEach [.Name xr p1] (envOf name scope L a cd) = (false, eval (.Name xr p1) (envOf name scope L a cd)) :: starEach [] (envOf name scope L a cd) := by rfl)
    (hk : scope.kind = .function := by rfl) (k1 : (envOf name scope L a cd).kindOf xr = some .local := by rfl) (d1 : (xr == ("__debug__" : Str)) = false := by decide) :
    wpAny (model prog w) A (eval (.Call (.Attribute (.Constant (.str x0) k0 p0) "join" p2) [.Name xr p1] [] p3) (envOf name scope L a cd)) Q E s := by
  subst e0
  refine MethodCall_ (Constant_str (GM.join ?_)) hM
  refine callWith_method1 (spliced_more (ld F hx (spliced_none ?_) hk k1 d1) hs) hs
  refine SC.join (s := { s with toks := _ }) hl hlt hok ?_
  intro t' k
  rw [join_S]
  exact h t' k

theorem upd_own {D : Addr} {o o' : Obj} {r r' : List (Addr × Obj)} (U : Upd D o o' r r') : ∀ own : List (Addr × Obj), (∀ q ∈ own, q.1 ≠ D) → Upd D o o' (own ++ r) (own ++ r')
  | [], _ => U
  | x :: y, h => .tail (h x (.head _)) (upd_own U y fun q hq => h q (.tail _ hq))

/-- for pos, ch in _iter_escaped_chars(x): body -/
theorem For_reader {prog : Program} {w : World} {p : Program} {loose : List Str} {mean : ExcName → Option Value} {mg mb : Str → Option Value} {E : Value → Shared → Prop} {s : Shared} {name : Str} {scope : Scope} {L a : Addr} {cd : Value} {h₀ : Heap} {m : Str → Option Value} {news : List (Addr × Obj)}
    {dp un : Nat} {fr : Option (List Env)} {gd : Option (List Code)} {l : List Nat} {t : Tok} {xa xp xc : Str} {pp pc pt p1 p2 p3 p4 : Pos} {x1 : Nat} {body : List Stmt} {Q : Flow → Shared → Prop}
    (KX : (hd.heap_39 w.params).In h₀) (T : Top p loose mean mg mb h₀) (hdp : dp + 4 < recursionLimit) (hb : AllBare s.gens)
    (F : Fr h₀ L s.heap m) (N : News h₀ L s.heap news) (hxa : m xa = some (.str (S l) t))
    (J : Nat → (Str → Option Value) → List (Addr × Obj) → Prop) (h0 : J 0 m news)
    (step : ∀ i (pos : Nat) u tp tu m₁ news₁ h₁ tk₁ g₁ own (fp : List Addr), (escU l 0 false)[i]? = some (pos, u) → J i m₁ news₁ → (∀ q ∈ news₁, q.1 ∉ fp) → (∀ q ∈ own, q.1 ∈ fp) → AllBare g₁ →
      Fr h₀ L h₁ (fun y => if y = xc then some (.str (S u) tu) else if y = xp then some (.int (pos : Int) tp) else m₁ y) → News h₀ L h₁ (own ++ news₁) →
      wpAny (model prog w) { handled := none, depth := dp, frames := fr, guards := gd, units := un } (execs body (envOf name scope L a cd)) (fun f s₂ => match f with
        | .ret v => Q (.ret v) s₂
        | .brk => Q .next s₂
        | _ => ∃ h' tk m₂ news₂, s₂ = { s with heap := h', gens := g₁, toks := tk } ∧ Fr h₀ L h' m₂ ∧ News h₀ L h' (own ++ news₂) ∧ (∀ q ∈ news₂, q.1 ∉ fp) ∧ J (i + 1) m₂ news₂)
        (fun _ _ => False) { s with heap := h₁, gens := g₁, toks := tk₁ })
    (hR : ∀ h' tk g' m' news', Fr h₀ L h' m' → News h₀ L h' news' → J (escU l 0 false).length m' news' → AllBare g' → Q .next { s with heap := h', gens := g', toks := tk })
    (hk : scope.kind = .function := by rfl) (kxp : (envOf name scope L a cd).kindOf xp = some .local := by rfl) (kxc : (envOf name scope L a cd).kindOf xc = some .local := by rfl)
    (kxa : (envOf name scope L a cd).kindOf xa = some .local := by rfl) (kg : (envOf name scope L a cd).kindOf "_iter_escaped_chars" = some .globalImplicit := by rfl) (d1 : (xa == ("__debug__" : Str)) = false := by decide)
    (hC : eval (.Call (.Name "_iter_escaped_chars" p1) [.Name xa p2] [] p3) (envOf name scope L a cd) = (do callWith p3 (← eval (.Name "_iter_escaped_chars" p1) (envOf name scope L a cd)) [] (backTo p3 (starEach [.Name xa p2] (envOf name scope L a cd))) (backToKw p3 (keywordEach [] (envOf name scope L a cd)))) := by rfl)
    (hs : starEach [.Name xa p2] (envOf name scope L a cd) = (false, eval (.Name xa p2) (envOf name scope L a cd)) :: starEach [] (envOf name scope L a cd) := by rfl) :
    wpAny (model prog w) { handled := none, depth := dp, frames := fr, guards := gd, units := un } (exec (.For (.Tuple [.Name xp pp, .Name xc pc] x1 pt) (.Call (.Name "_iter_escaped_chars" p1) [.Name xa p2] [] p3) body [] p4) (envOf name scope L a cd)) Q E s := by
  have TR := topRead_of T
  refine wpAny_For ?_ (fun x => rfl)
  refine Call_ (name_K F KX TR (by k_is) (callWith_K KX (by k_is) (spliced_more (ld F hxa (spliced_none ⟨KX.keeps F.keep, ?_⟩) hk kxa d1) hs) hs) hk kg) hC
  refine call_reader (KX.keeps F.keep) (T.keeps F.keep) (by show dp + 3 < recursionLimit; omega) ?_
  intro h2 tk2 gs₀ k2 hz2 hg2 hbare hgo
  refine wpAny_pyIter_gen hg2 ?_
  have hLlt : L < s.heap.objs.size := F.ns.lt
  have h0le : h₀.objs.size ≤ s.heap.objs.size := Nat.le_of_lt (Nat.lt_of_le_of_lt F.above hLlt)
  have hmem : ∀ b ∈ [s.heap.objs.size + 1, s.heap.objs.size, s.heap.objs.size + 2, s.heap.objs.size + 2 + 1], s.heap.objs.size ≤ b := by
    intro b hb'
    simp only [List.mem_cons, List.not_mem_nil, or_false] at hb'
    rcases hb' with rfl | rfl | rfl | rfl
    · exact Nat.le_add_right _ _
    · exact Nat.le_refl _
    · exact Nat.le_add_right _ _
    · exact Nat.le_trans (Nat.le_add_right _ 2) (Nat.le_add_right _ 1)
  refine for_reader (s := { s with heap := h2, gens := s.gens.push gs₀, toks := tk2 }) (h₀ := h₀) (m := m) (news := news) (gs₀ := gs₀) (g := s.gens.size) (Lg := s.heap.objs.size) (N0 := s.heap.objs.size + 2) (items := escU l 0 false) rfl (by show dp < recursionLimit; omega) kxp kxc ?_ T.nolimit hg2 (by simp) (hb.push hbare) (hgo _ rfl) ?_ ?_ ?_ (F.keeps k2) (N.grown k2) ?_ J h0 ?_ ?_
  · show (scope.kind == .class || (scope.kind == .module && L != mainGlobals)) = false
    rw [hk]; rfl
  · intro hm
    exact absurd (hmem _ hm) (Nat.not_le.mpr hLlt)
  · intro hm
    simp only [List.mem_cons, List.not_mem_nil, or_false] at hm
    rcases hm with h | h | h
    · exact absurd h (Nat.succ_ne_self _)
    · exact absurd h (Nat.ne_of_lt (Nat.lt_succ_self _))
    · exact absurd h (Nat.ne_of_lt (Nat.lt_trans (Nat.lt_succ_self _) (Nat.lt_succ_self _)))
  · intro b hb'
    exact fr_none (Nat.le_trans h0le (hmem b hb'))
  · intro q hq hm
    exact absurd (hmem _ hm) (Nat.not_le.mpr (Heap.lt_size (N q hq).1))
  · intro i pos u tp tu m₁ news₁ h₁ tk₁ g₁ own hi hJ hn ho hbg F1 N1
    refine wpAny_mono (step i pos u tp tu m₁ news₁ h₁ tk₁ g₁ own _ hi hJ hn ho hbg F1 N1) (fun f s₂ x => ?_) (fun _ _ x => x.elim)
    cases f with
    | ret v => exact x
    | brk => exact x
    | next => exact x
    | cont => exact x
  · intro h' tk g' m' news' F' N' hJ hb'
    exact hR h' tk g' m' news' F' N' hJ hb'
theorem escU_length : ∀ (l : List Nat) (p : Nat) (b : Bool), (escU l p b).length ≤ l.length + (if b then 1 else 0)
  | [], p, b => by cases b <;> simp [escU]
  | c :: r, p, true => by
    have := escU_length r (p + 1) false
    simp only [escU, List.length_cons, if_true, Bool.false_eq_true, if_false] at this ⊢
    omega
  | c :: r, p, false => by
    have h1 := escU_length r (p + 1) true
    have h2 := escU_length r (p + 1) false
    simp only [escU, Bool.false_eq_true, if_false, if_true] at h1 h2 ⊢
    split <;> simp only [List.length_cons] <;> omega

theorem st_bound (l : List Nat) : ∀ (its : List (Nat × List Nat)) (st : Nat × Option Nat × List (List Nat)), (∀ x ∈ st.2.2, x.length ≤ l.length) →
    ((its.foldl (stStep l) st).2.2.length ≤ its.length + st.2.2.length ∧ ∀ x ∈ (its.foldl (stStep l) st).2.2, x.length ≤ l.length)
  | [], st, h => ⟨by simp, h⟩
  | x :: r, st, h => by
    have key : (stStep l st x).2.2.length ≤ st.2.2.length + 1 ∧ ∀ y ∈ (stStep l st x).2.2, y.length ≤ l.length := by
      unfold stStep
      split
      · split
        · exact ⟨Nat.le_succ _, h⟩
        · dsimp only
          split
          · exact ⟨Nat.le_succ _, h⟩
          · refine ⟨by simp, fun y hy => ?_⟩
            rcases List.mem_append.mp hy with hy | hy
            · exact h y hy
            · rw [List.mem_singleton] at hy
              subst hy
              rw [List.length_drop, List.length_take]; omega
      · exact ⟨Nat.le_succ _, h⟩
    have ih := st_bound l r (stStep l st x) key.2
    rw [List.foldl_cons, List.length_cons]
    exact ⟨by omega, ih.2⟩

theorem sum_le {n : Nat} : ∀ ls : List (List Nat), (∀ x ∈ ls, x.length ≤ n) → ((ls.map S).map (·.length)).sum ≤ ls.length * n
  | [], _ => Nat.zero_le _
  | x :: r, h => by
    have := sum_le r fun y hy => h y (.tail _ hy)
    have hx := h x (.head _)
    simp only [List.map_cons, List.sum_cons, List.length_cons, S_length, Nat.succ_mul]
    omega

theorem strValues_push (lt : List (Str × Tok)) (x : Str) (t : Tok) : (strValues lt).toArray.push (.str x t) = (strValues (lt ++ [(x, t)])).toArray := by
  simp [strValues]

def JStrip (l : List Nat) (t : Tok) (D : Addr) (i : Nat) (m : Str → Option Value) (news : List (Addr × Obj)) : Prop :=
  ∃ st, st = ((escU l 0 false).take i).foldl (stStep l) (0, none, []) ∧ m "addr" = some (.str (S l) t) ∧ (∃ t1, m "start" = some (.int (st.1 : Int) t1)) ∧
    (match st.2.1 with | none => m "open_pos" = some .none | some q => ∃ t2, m "open_pos" = some (.int (q : Int) t2)) ∧ m "result" = some (.ref D) ∧
    ∃ lt n, news = [(D, listOf (strValues lt).toArray n)] ∧ lt.map (·.1) = st.2.2.map S

theorem strip_go {prog : Program} {w : World} {p : Program} {loose : List Str} {mean : ExcName → Option Value} {mg mb : Str → Option Value} {s : Shared} {Q E : Value → Shared → Prop}
    {dp un : Nat} {fr : Option (List Env)} {gd : Option (List Code)} {l : List Nat} {t : Tok}
    (KX : (hd.heap_39 w.params).In s.heap) (T : Top p loose mean mg mb s.heap) (hdp : dp + 6 < recursionLimit) (hl : l.length ≤ 1000) (hb : AllBare s.gens)
    (h : ∀ h' tk t' g', (∀ b o, s.heap.get? b = some o → h'.get? b = some o) → s.toks ≤ tk → AllBare g' → Q (.str (S (stripT l)) t') { s with heap := h', toks := tk, gens := g' }) :
    wpAny (model prog w) { handled := none, depth := dp, frames := fr, guards := gd, units := un } (call (.ref 62) [.str (S l) t]) Q E s := by
  have TR := topRead_of T
  walk_at "mine.enter"
  intro L h₁ F N
  refine wpAny_execs_cons (wpAny_If (wpAny_isTrue_Compare1 (Constant_str (ld F rfl (notIn_str (wpAny_truthy_bool ?_))))))
  rw [in_one (c := 34) (by decide +kernel)]
  by_cases q1 : 34 ∈ l
  · simp only [q1, decide_true, Bool.not_true, Bool.false_eq_true, if_false]
    refine wpAny_execs_nil ?_
    refine wpAny_execs_cons (wpAny_Assign_Name (wpAny_Constant_int (stN (s := ⟨_, _, _, _, _⟩) F N fun h2 F2 N2 => ?_)))
    refine wpAny_execs_cons (wpAny_Assign_Name (wpAny_Constant_none (stN (s := ⟨_, _, _, _, _⟩) F2 N2 fun h3 F3 N3 => ?_)))
    refine wpAny_execs_cons (wpAny_Assign_Name (List_ (spliced_nil (newList_N (s := ⟨_, _, _, _, _⟩) F3 N3 fun h4 F4 N4 => ?_))))
    refine stN (s := ⟨_, _, _, _, _⟩) F4 N4 fun h5 F5 N5 => ?_
    dsimp only at F5 N5 ⊢
    generalize hD : h3.objs.size = D at F5 N5
    have hbd : ∀ i, (((escU l 0 false).take i).foldl (stStep l) (0, none, [])).2.2.length ≤ ((escU l 0 false).take i).length := fun i => by
      have := (st_bound l ((escU l 0 false).take i) (0, none, []) (fun _ h => nomatch h)).1
      simpa using this
    have hel : (escU l 0 false).length ≤ l.length := by have := escU_length l 0 false; simpa using this
    refine wpAny_execs_cons (For_reader (l := l) (t := t) (s := ⟨_, _, _, _, _⟩) KX T (by show dp + 1 + 4 < recursionLimit; exact room hdp) hb F5 N5 rfl (JStrip l t D) ?_ ?_ ?_)
    · exact ⟨_, rfl, rfl, ⟨_, rfl⟩, rfl, rfl, [], 0, rfl, rfl⟩
    · rintro i pos u tp tu m₁ news₁ h6 tk6 g₁ own fp hi ⟨st, hst, ha, ⟨t1, hs1⟩, ho, hr, lt, n, rfl, hlt⟩ hn hown hbg F6 N6
      refine hideQ fun QI hQI => ?_
      have hst' : ((escU l 0 false).take (i + 1)).foldl (stStep l) (0, none, []) = stStep l st (pos, u) := by
        rw [List.take_add_one, hi, hst]; simp
      have hDf : D ∉ fp := hn _ (.head _)
      refine wpAny_execs_cons (wpAny_If (wpAny_isTrue_Compare1 (ld F6 rfl (Constant_str (eq_str (wpAny_truthy_bool ?_))))))
      rw [eq_S (r := [34]) (by decide +kernel)]
      by_cases hu : u = [34]
      · simp only [hu, decide_true, if_true]
        subst hu
        cases hq : st.2.1 with
        | none =>
          rw [hq] at ho
          simp only at ho
          refine wpAny_execs_cons (wpAny_If (wpAny_isTrue_Compare1 (ld F6 (by exact ho) (wpAny_Constant_none (is_none_none (wpAny_truthy_bool ?_))))))
          simp only [if_true]
          refine wpAny_execs_cons (wpAny_Assign_Name (ld F6 rfl (stN (s := ⟨_, _, _, _, _⟩) F6 N6 fun h7 F7 N7 => ?_)))
          refine wpAny_execs_nil (wpAny_execs_nil (wpAny_execs_nil (hQI .next _ ⟨h7, _, _, _, rfl, F7, N7, hn, (st.1, some pos, st.2.2), ?_, ha, ⟨t1, hs1⟩, ⟨tp, rfl⟩, hr, lt, n, rfl, hlt⟩)))
          rw [hst', stStep, if_pos rfl, hq]
        | some q =>
          rw [hq] at ho
          obtain ⟨t2, ho⟩ := ho
          refine wpAny_execs_cons (wpAny_If (wpAny_isTrue_Compare1 (ld F6 (by exact ho) (wpAny_Constant_none (is_int_none (wpAny_truthy_bool ?_))))))
          simp only [Bool.false_eq_true, if_false]
          refine wpAny_execs_cons (wpAny_If (wpAny_isTrue_Compare1 (ld F6 (by exact hs1) (ld F6 (by exact ho) (PyProof.Rows.ne_int (wpAny_truthy_bool ?_))))))
          have hDo : ∀ q ∈ own, q.1 ≠ D := fun q hq e => hDf (e ▸ hown q hq)
          by_cases hsq : st.1 = q
          · have e0 : (((st.1 : Nat) : Int) != (q : Int)) = false := by simp [hsq]
            rw [e0]
            simp only [Bool.false_eq_true, if_false]
            refine wpAny_execs_nil ?_
            refine wpAny_execs_cons (wpAny_Assign_Name (wpAny_BinOp (ld F6 rfl (wpAny_Constant_int (PyProof.Rows.add_int (stN (s := ⟨_, _, _, _, _⟩) F6 N6 fun h8 F8 N8 => ?_))))))
            refine wpAny_execs_cons (wpAny_Assign_Name (wpAny_Constant_none (stN (s := ⟨_, _, _, _, _⟩) F8 N8 fun h9 F9 N9 => ?_)))
            refine wpAny_execs_nil (wpAny_execs_nil (wpAny_execs_nil (hQI .next _ ⟨h9, _, _, _, rfl, F9, N9, ?_, (pos + 1, none, st.2.2), ?_, ha, ⟨_, rfl⟩, rfl, hr, lt, n, rfl, hlt⟩)))
            · intro q hq
              rw [List.mem_singleton.mp hq]
              exact hDf
            · rw [hst', stStep, if_pos rfl, hq]; simp [hsq]
          · have e0 : (((st.1 : Nat) : Int) != (q : Int)) = true := by simp; omega
            rw [e0]
            simp only [if_true]
            refine wpAny_execs_cons (app_stmt (D := D) (P := fun v => ∃ tv, v = .str (S ((l.take q).drop st.1)) tv) F6 N6 (by exact hr) (List.mem_append_right _ (.head _)) (fun v _ => upd_own (.head (by intro _ h; cases h)) own hDo) ?_ (fun Q' hQ' => ?_) ?_)
            · have b := hbd i
              rw [← hst, List.length_take] at b
              have e := congrArg List.length hlt
              simp only [List.length_map] at e
              simp only [strValues, List.size_toArray, List.length_map]
              omega
            · exact eval_ss F6 N6 (by exact ha) (by exact hs1) (by exact ho) (by omega) fun h' t' k F' N' => hQ' _ _ _ ⟨_, rfl⟩ F' N'
            · rintro v h7 tk7 ⟨tv, rfl⟩ F7 N7
              refine wpAny_execs_nil ?_
              rw [strValues_push] at N7
              refine wpAny_execs_cons (wpAny_Assign_Name (wpAny_BinOp (ld F7 rfl (wpAny_Constant_int (PyProof.Rows.add_int (stN (s := ⟨_, _, _, _, _⟩) F7 N7 fun h8 F8 N8 => ?_))))))
              refine wpAny_execs_cons (wpAny_Assign_Name (wpAny_Constant_none (stN (s := ⟨_, _, _, _, _⟩) F8 N8 fun h9 F9 N9 => ?_)))
              refine wpAny_execs_nil (wpAny_execs_nil (wpAny_execs_nil (hQI .next _ ⟨h9, _, _, _, rfl, F9, N9, ?_, (pos + 1, none, st.2.2 ++ [(l.take q).drop st.1]), ?_, ha, ⟨_, rfl⟩, rfl, hr, lt ++ [(S ((l.take q).drop st.1), tv)], _, rfl, (by simp [hlt])⟩)))
              · intro q hq
                rw [List.mem_singleton.mp hq]
                exact hDf
              · rw [hst', stStep, if_pos rfl, hq]; simp [hsq]
      · simp only [hu, decide_false, Bool.false_eq_true, if_false]
        refine wpAny_execs_nil (wpAny_execs_nil (hQI .next _ ⟨h6, _, _, _, rfl, F6, N6, hn, st, ?_, ha, ⟨t1, hs1⟩, ho, hr, lt, n, rfl, hlt⟩))
        rw [hst', stStep, if_neg hu]
    · rintro h6 tk6 g6 m6 news6 F6 N6 ⟨st, hst, ha, ⟨t1, hs1⟩, ho, hr, lt, n, rfl, hlt⟩ hb6
      rw [List.take_length] at hst
      have b1 := hbd (escU l 0 false).length
      rw [List.take_length, ← hst] at b1
      have b2 := (st_bound l (escU l 0 false) (0, none, []) (fun _ h => nomatch h)).2
      rw [← hst] at b2
      have e := congrArg List.length hlt
      simp only [List.length_map] at e
      refine wpAny_execs_cons (wpAny_If (wpAny_isTrue_Compare1 (ld F6 (by exact hs1) (Call_ (name_B F6 KX TR (by k_is) (by boot_by_name) (by decide) (callWith_method1 (spliced_more (ld F6 (by exact ha) (spliced_none (P.len_str (by rw [S_length]; omega) (PyProof.Rows.lt_int (wpAny_truthy_bool ?_))))))))))))
      rw [S_length]
      by_cases hlast : st.1 < l.length
      · have e0 : decide (((st.1 : Nat) : Int) < (l.length : Int)) = true := by simp; omega
        rw [e0]
        simp only [if_true]
        refine wpAny_execs_cons (app_stmt (D := D) (P := fun v => ∃ tv, v = .str (S (l.drop st.1)) tv) F6 N6 (by exact hr) (.head _) (fun v _ => .head (by intro _ h; cases h)) ?_ (fun Q' hQ' => ?_) ?_)
        · simp only [strValues, List.size_toArray, List.length_map]
          omega
        · exact eval_sn (s := ⟨_, _, _, _, _⟩) F6 N6 (by exact ha) (by exact hs1) (by omega) fun h' t' k F' N' => hQ' _ _ _ ⟨_, rfl⟩ F' N'
        · rintro v h7 tk7 ⟨tv, rfl⟩ F7 N7
          refine wpAny_execs_nil ?_
          rw [strValues_push] at N7
          refine wpAny_execs_cons (wpAny_Return_some (eval_join (s := ⟨_, _, _, _, _⟩) (ls := st.2.2 ++ [l.drop st.1]) F7 (by decide +kernel) (by exact hr) ⟨_, N7.get (.head _), rfl, _, rfl⟩ (by simp [hlt]) ?_ ?_))
          · have e9 := sum_le (n := l.length) (st.2.2 ++ [l.drop st.1]) (fun x hx => by
              rcases List.mem_append.mp hx with hx | hx
              · exact b2 x hx
              · rw [List.mem_singleton.mp hx, List.length_drop]; omega)
            have e10 : (st.2.2 ++ [l.drop st.1]).length * l.length ≤ 1001 * 1000 := Nat.mul_le_mul (by simp only [List.length_append, List.length_singleton]; omega) (by omega)
            refine joinOk_of ?_
            show _ + _ * 0 ≤ _
            omega
          · intro t' k htk
            have := h h7 k t' g6 F7.keep htk hb6
            rw [stripT, if_pos q1] at this
            simp only [← hst, if_pos hlast] at this
            exact this
      · have e0 : decide (((st.1 : Nat) : Int) < (l.length : Int)) = false := by simp; omega
        rw [e0]
        simp only [Bool.false_eq_true, if_false]
        refine wpAny_execs_nil ?_
        refine wpAny_execs_cons (wpAny_Return_some (eval_join (s := ⟨_, _, _, _, _⟩) (ls := st.2.2) F6 (by decide +kernel) (by exact hr) ⟨_, N6.get (.head _), rfl, _, rfl⟩ hlt ?_ ?_))
        · have e9 := sum_le (n := l.length) st.2.2 b2
          have e10 : st.2.2.length * l.length ≤ 1001 * 1000 := Nat.mul_le_mul (by omega) (by omega)
          refine joinOk_of ?_
          show _ + _ * 0 ≤ _
          omega
        · intro t' k htk
          have := h h6 k t' g6 F6.keep htk hb6
          rw [stripT, if_pos q1] at this
          simp only [← hst, if_neg hlast] at this
          exact this
  · simp only [q1, decide_false, Bool.not_false, if_true]
    refine wpAny_execs_cons (wpAny_Return_some (ld F rfl ?_))
    intro htk
    have := h h₁ _ t s.gens F.keep htk hb
    rw [stripT, if_neg q1] at this
    exact this
end
section
open PySem PySem.W PySem.Calls PyProof.Rows
set_option Elab.async false
set_option maxRecDepth 100000
set_option maxHeartbeats 2000000
set_option pp.deepTerms false
set_option pp.deepTerms.threshold 8
set_option pp.maxSteps 20000
theorem fill_nowG6 : (PySem.Challenge.rw_ij0162_01.Holds → hd.heap_39 = hd.heap_39) := by
  k_fill
  intro _; rfl

def chk : Nat → List (Nat × List Nat) → Bool
  | n, [] => n == 0
  | n, x :: r => if x.2 = [40] then chk (n + 1) r else if x.2 = [41] then (if n = 0 then false else chk (n - 1) r) else chk n r
def checkT (l : List Nat) : Bool := chk 0 (escU (stripT l) 0 false)

def JChk (items : List (Nat × List Nat)) (i : Nat) (m : Str → Option Value) (news : List (Addr × Obj)) : Prop :=
  ∃ n t1, m "opens" = some (.int ((n : Nat) : Int) t1) ∧ news = [] ∧ chk 0 items = chk n (items.drop i)

theorem check_go {prog : Program} {w : World} {p : Program} {loose : List Str} {mean : ExcName → Option Value} {mg mb : Str → Option Value} {s : Shared} {Q E : Value → Shared → Prop}
    {dp un : Nat} {fr : Option (List Env)} {gd : Option (List Code)} {l : List Nat} {t : Tok}
    (KX : (hd.heap_39 w.params).In s.heap) (T : Top p loose mean mg mb s.heap) (hdp : dp + 10 < recursionLimit) (hl : l.length ≤ 1000) (hb : AllBare s.gens)
    (h : ∀ h' tk g', (∀ b o, s.heap.get? b = some o → h'.get? b = some o) → s.toks ≤ tk → AllBare g' → Q (.bool (checkT l)) { s with heap := h', toks := tk, gens := g' }) :
    wpAny (model prog w) { handled := none, depth := dp, frames := fr, guards := gd, units := un } (call (.ref 69) [.str (S l) t]) Q E s := by
  have TR := topRead_of T
  walk_at "mine.enter"
  intro L h₁ F N
  refine wpAny_execs_cons (wpAny_Assign_Name (Call_ (name_K F KX TR (by k_is) (callWith_K KX (by k_is) (spliced_more (ld F rfl (spliced_none ⟨KX.keeps F.keep, ?_⟩)))))))
  refine strip_go (KX.keeps F.keep) (T.keeps F.keep) (by show dp + 1 + 6 < recursionLimit; exact room hdp) hl hb ?_
  intro h2 tk2 t2 g2 k2 htk2 hb2
  refine stN (s := ⟨_, _, _, _, _⟩) (F.keeps k2) (N.grown k2) fun h3 F3 N3 => ?_
  refine wpAny_execs_cons (wpAny_Assign_Name (wpAny_Constant_int (stN (s := ⟨_, _, _, _, _⟩) F3 N3 fun h4 F4 N4 => ?_)))
  dsimp only at F4 N4 ⊢
  refine wpAny_execs_cons (For_reader (l := stripT l) (t := t2) (s := ⟨_, _, _, _, _⟩) KX T (by show dp + 1 + 4 < recursionLimit; exact room hdp) hb2 F4 N4 rfl (JChk (escU (stripT l) 0 false)) ?_ ?_ ?_)
  · exact ⟨0, _, rfl, rfl, rfl⟩
  · rintro i pos u tp tu m₁ news₁ h6 tk6 g₁ own fp hi ⟨n, t1, ho, rfl, hc⟩ hn hown hbg F6 N6
    refine hideQ fun QI hQI => ?_
    have hdrop : (escU (stripT l) 0 false).drop i = (pos, u) :: (escU (stripT l) 0 false).drop (i + 1) := by
      rw [List.drop_eq_getElem?_toList_append, hi]; rfl
    rw [hdrop, chk] at hc
    refine wpAny_execs_cons (wpAny_If (wpAny_isTrue_Compare1 (ld F6 rfl (Constant_str (eq_str (wpAny_truthy_bool ?_))))))
    rw [eq_S (r := [40]) (by decide +kernel)]
    by_cases hu : u = [40]
    · simp only [hu, decide_true, if_true] at hc ⊢
      refine wpAny_execs_cons (wpAny_AugAssign_Name (ldn F6 (by exact ho) (wpAny_Constant_int (PyProof.Rows.iadd_int (stN (s := ⟨_, _, _, _, _⟩) F6 N6 fun h7 F7 N7 => ?_)))))
      refine wpAny_execs_nil (wpAny_execs_nil (hQI .next _ ⟨h7, _, _, _, rfl, F7, N7, hn, n + 1, _, rfl, rfl, hc⟩))
    · simp only [hu, decide_false, Bool.false_eq_true, if_false] at hc ⊢
      refine wpAny_execs_cons (wpAny_If (wpAny_isTrue_Compare1 (ld F6 rfl (Constant_str (eq_str (wpAny_truthy_bool ?_))))))
      rw [eq_S (r := [41]) (by decide +kernel)]
      by_cases hu2 : u = [41]
      · simp only [hu2, decide_true, if_true] at hc ⊢
        refine wpAny_execs_cons (wpAny_AugAssign_Name (ldn F6 (by exact ho) (wpAny_Constant_int (PyProof.Rows.isub_int (stN (s := ⟨_, _, _, _, _⟩) F6 N6 fun h7 F7 N7 => ?_)))))
        refine wpAny_execs_cons (wpAny_If (wpAny_isTrue_Compare1 (ld F7 rfl (wpAny_Constant_int (PyProof.Rows.lt_int (wpAny_truthy_bool ?_))))))
        by_cases hz : n = 0
        · subst hz
          simp only [if_true] at hc
          refine wpAny_execs_cons (wpAny_Return_some (wpAny_Constant_bool ?_))
          refine hQI (.ret _) _ ?_
          intro htk
          have := h h7 _ g₁ F7.keep htk hbg
          rw [checkT, hc] at this
          exact this
        · rw [if_neg hz] at hc
          have e0 : decide (((n : Nat) : Int) - 1 < 0) = false := by simp; omega
          rw [e0]
          simp only [Bool.false_eq_true, if_false]
          have e1 : ((n : Nat) : Int) - 1 = ((n - 1 : Nat) : Int) := by omega
          rw [e1] at F7
          refine wpAny_execs_nil (wpAny_execs_nil (wpAny_execs_nil (wpAny_execs_nil (hQI .next _ ⟨h7, _, _, _, rfl, F7, N7, hn, n - 1, _, rfl, rfl, hc⟩))))
      · simp only [hu2, decide_false, Bool.false_eq_true, if_false] at hc ⊢
        refine wpAny_execs_nil (wpAny_execs_nil (wpAny_execs_nil (hQI .next _ ⟨h6, _, _, _, rfl, F6, N6, hn, n, t1, ho, rfl, hc⟩)))
  · rintro h6 tk6 g6 m6 news6 F6 N6 ⟨n, t1, ho, rfl, hc⟩ hb6
    rw [List.drop_length] at hc
    refine wpAny_execs_cons (wpAny_Return_some (wpAny_Compare1 (ld F6 (by exact ho) (wpAny_Constant_int (PyProof.Rows.eq_int ?_)))))
    intro htk
    have := h h6 _ g6 F6.keep htk hb6
    rw [checkT, hc, chk] at this
    have e0 : (((n : Nat) : Int) == 0) = (n == 0) := by
      rw [Bool.eq_iff_iff]; simp
    rw [e0]
    exact this
end
section
open PySem PySem.W PySem.Calls PyProof.Rows
set_option Elab.async false
set_option maxRecDepth 100000
set_option maxHeartbeats 2000000
set_option pp.deepTerms false
set_option pp.deepTerms.threshold 8
set_option pp.maxSteps 20000

theorem letGo_name {prog : Program} {w : World} {A : Around} {E : Value → Shared → Prop} {s : Shared} {x : Str} {px : Pos} {I v : Value} {Q : Unit → Shared → Prop} (hQ : Q () s) :
    wpAny (model prog w) A (letOwnedTupleGo (.Name x px) I v) Q E s := by
  unfold letOwnedTupleGo
  exact wpAny_pure hQ

/-- a loop over what the library walks, generators made on the way -/
theorem For_walk {prog : Program} {w : World} {A : Around} {s : Shared} {name : Str} {scope : Scope} {L a : Addr} {cd : Value} {h₀ : Heap} {m : Str → Option Value} {news : List (Addr × Obj)}
    {x : Str} {px : Pos} {body : List Stmt} {R : Result → Shared → Prop} {Q : Flow → Shared → Prop} {I : Addr} {fp wr : List Addr} {n : Nat} {P : Nat → Value → Prop} {St : Nat → Heap → Prop}
    (hR1 : ∀ f s', Q f s' → R (.ok f) s')
    (W : Walks prog w A I fp wr n P St) (live : ∀ i h, St i h → ∀ b ∈ wr, b < h.objs.size)
    (hLf : L ∉ fp) (hwr : ∀ b ∈ wr, h₀.get? b = none) (hnw : ∀ p ∈ news, p.1 ∉ wr)
    (hst : St 0 s.heap) (F : Fr h₀ L s.heap m) (N : News h₀ L s.heap news) (hb : AllBare s.gens)
    (J : Nat → (Str → Option Value) → List (Addr × Obj) → Prop) (h0 : J 0 m news)
    (step : ∀ i v m₁ news₁ h₁ tk₁ g₁ own, i < n → P i v → J i m₁ news₁ → (∀ p ∈ news₁, p.1 ∉ wr) → (∀ p ∈ own, p.1 ∈ fp) → (∀ b ∈ wr, b < h₁.objs.size) → AllBare g₁ →
      Fr h₀ L h₁ (fun y => if y = x then some v else m₁ y) → News h₀ L h₁ (own ++ news₁) → s.toks ≤ tk₁ →
      wpAny (model prog w) A (execs body (envOf name scope L a cd)) (fun f s₂ => match f with
        | .ret v => Q (.ret v) s₂
        | .brk => Q .next s₂
        | _ => ∃ h' tk g' m₂ news₂, s₂ = { s with heap := h', gens := g', toks := tk } ∧ AllBare g' ∧ Fr h₀ L h' m₂ ∧ News h₀ L h' (own ++ news₂) ∧ (∀ q ∈ news₂, q.1 ∉ wr) ∧ J (i + 1) m₂ news₂)
        (fun _ _ => False) { s with heap := h₁, gens := g₁, toks := tk₁ })
    (hR : ∀ h' tk g' m' news', Fr h₀ L h' m' → News h₀ L h' news' → (∀ p ∈ news', p.1 ∉ wr) → J n m' news' → AllBare g' → s.toks ≤ tk → Q .next { s with heap := h', gens := g', toks := tk })
    (hk : scope.kind = .function := by rfl) (kx : (envOf name scope L a cd).kindOf x = some .local := by rfl) :
    codeAny (model prog w) A (.forLoop (.Name x px) (.ref I) body [] (envOf name scope L a cd)) R s := by
  have hLw : L ∉ wr := fun h => hLf (W.sub _ h)
  have old : ∀ b o, h₀.get? b = some o → b ∉ wr := fun b o e hb => by rw [hwr b hb] at e; cases e
  refine codeAny_forLoop_any
    (fun k s' => ∃ h' tk g' m' news' i, s' = { s with heap := h', gens := g', toks := tk } ∧ AllBare g' ∧ St i h' ∧ Fr h₀ L h' m' ∧ News h₀ L h' news' ∧ (∀ p ∈ news', p.1 ∉ wr) ∧ J i m' news' ∧ s.toks ≤ tk ∧ i ≤ n ∧ k = n + 1 - i) ?_ (n + 1)
    ⟨s.heap, s.toks, s.gens, m, news, 0, rfl, hb, hst, F, N, hnw, h0, Nat.le_refl _, Nat.zero_le _, rfl⟩
  rintro k s' ⟨h', tk, g', m', news', i, rfl, hb', hst', F', N', hnw', hJ, htk, hi, rfl⟩
  have next : ∀ h₁ : Heap, (∀ b o, b ∉ wr → h'.get? b = some o → h₁.get? b = some o) → Fr h₀ L h₁ m' ∧ News h₀ L h₁ news' := fun h₁ hk₁ =>
    ⟨⟨F'.ns.at' fun o e => hk₁ _ o hLw e, fun b o e => hk₁ b o (old b o e) (F'.keep b o e), F'.above⟩, fun p hp => ⟨hk₁ _ _ (hnw' p hp) (N' p hp).1, (N' p hp).2⟩⟩
  by_cases hlt : i < n
  · refine wpAny_with_toks (n := s.toks) htk ?_
    refine W.item i _ _ _ hlt hst' fun v h₁ tk₁ hP hst₁ hk₁ => ?_
    intro htk₁
    obtain ⟨F₁, N₁⟩ := next h₁ hk₁
    have Nown : News h₀ L h₁ (ownOf h₀ fp h₁) := news_ownOf hLf
    have NN := Nown.append N₁
    dsimp only at hk₁ htk₁ ⊢
    refine letGo_name ?_
    refine wpAny_assign_Name (stN (s := ⟨_, _, _, _, _⟩) F₁ NN (fun h₂ F₂ N₂ => ?_) hk kx)
    have ktmp : ∀ b ∈ fp, ∀ o, h₁.get? b = some o → h₂.get? b = some o := fun b hb o e => by
      cases hn : h₀.get? b with
      | some o₀ =>
        have : o₀ = o := by have := F₁.keep b o₀ hn; rw [e] at this; exact (Option.some.inj this).symm
        exact this ▸ F₂.keep b o₀ hn
      | none => exact (N₂ _ (List.mem_append_left _ (mem_ownOf hb hn e))).1
    have hst₂ : St (i + 1) h₂ := W.frame _ _ _ hst₁ ktmp
    refine wpAny_with_toks (n := s.toks) ?_ (wpAny_mono (step i v m' news' h₂ _ g' (ownOf h₀ fp h₁) hlt hP hJ hnw' ownOf_sub (live _ _ hst₂) hb' F₂ N₂ ?_) (fun f s₃ h₃ htk₃ => ?_) fun _ _ e _ => e.elim)
    · first | exact htk₁ | exact Nat.le_succ_of_le htk₁
    · first | exact htk₁ | exact Nat.le_succ_of_le htk₁
    have fin : (∃ h' tk g' m₂ news₂, s₃ = { s with heap := h', gens := g', toks := tk } ∧ AllBare g' ∧ Fr h₀ L h' m₂ ∧ News h₀ L h' ((ownOf h₀ fp h₁) ++ news₂) ∧ (∀ q ∈ news₂, q.1 ∉ wr) ∧ J (i + 1) m₂ news₂) →
        ∃ k', k' < n + 1 - i ∧ ∃ h' tk g' m' news' i, s₃ = { s with heap := h', gens := g', toks := tk } ∧ AllBare g' ∧ St i h' ∧ Fr h₀ L h' m' ∧ News h₀ L h' news' ∧ (∀ p ∈ news', p.1 ∉ wr) ∧ J i m' news' ∧ s.toks ≤ tk ∧ i ≤ n ∧ k' = n + 1 - i := by
      rintro ⟨h₃', tk₃, g₃, m₂, news₂, rfl, hb₃, F₃, N₃, ha₃, hJ₃⟩
      refine ⟨n + 1 - (i + 1), by omega, h₃', tk₃, g₃, m₂, news₂, i + 1, rfl, hb₃, ?_, F₃, N₃.right, ha₃, hJ₃, htk₃, hlt, rfl⟩
      refine W.frame _ _ _ hst₁ fun b hb o e => ?_
      cases hn : h₀.get? b with
      | some o₀ =>
        have : o₀ = o := by have := F₁.keep b o₀ hn; rw [e] at this; exact (Option.some.inj this).symm
        exact this ▸ F₃.keep b o₀ hn
      | none => exact (N₃ _ (List.mem_append_left _ (mem_ownOf hb hn e))).1
    cases f with
    | ret v => exact hR1 _ _ h₃
    | brk => exact hR1 _ _ h₃
    | next => exact fin h₃
    | cont => exact fin h₃
  · have hin : i = n := by omega
    subst hin
    refine wpAny_with_toks (n := s.toks) htk ?_
    refine W.done _ _ _ hst' fun h₁ tk₁ hk₁ => ?_
    intro htk₁
    refine wpAny_execs_nil ?_
    obtain ⟨F₁, N₁⟩ := next h₁ hk₁
    exact hR1 _ _ (hR h₁ tk₁ g' m' news' F₁ N₁ hnw' hJ hb' htk₁)

section
variable {prog : Program} {w : World} {A : Around} {E : Value → Shared → Prop} {s : Shared} {name : Str} {scope : Scope} {L a : Addr} {cd : Value} {h₀ : Heap} {m : Str → Option Value} {news : List (Addr × Obj)}
    {x : Str} {px : Pos} {body : List Stmt} {Q : Flow → Shared → Prop}

theorem loop_list (hh : A.handled = none) {ax : Addr} {items : Array Value} (hl : s.heap.IsList ax items) (hax : L ≠ ax)
    (F : Fr h₀ L s.heap m) (N : News h₀ L s.heap news) (hb : AllBare s.gens)
    (J : Nat → (Str → Option Value) → List (Addr × Obj) → Prop) (h0 : J 0 m news)
    (step : ∀ i v m₁ news₁ h₁ tk₁ g₁ own (I : Addr), items[i]? = some v → J i m₁ news₁ → (∀ p ∈ news₁, p.1 ≠ I) → (∀ p ∈ own, p.1 = I ∨ p.1 = ax) → I < h₁.objs.size → s.heap.objs.size ≤ I → AllBare g₁ →
      Fr h₀ L h₁ (fun y => if y = x then some v else m₁ y) → News h₀ L h₁ (own ++ news₁) →
      wpAny (model prog w) A (execs body (envOf name scope L a cd)) (fun f s₂ => match f with
        | .ret v => Q (.ret v) s₂
        | .brk => Q .next s₂
        | _ => ∃ h' tk g' m₂ news₂, s₂ = { s with heap := h', gens := g', toks := tk } ∧ AllBare g' ∧ Fr h₀ L h' m₂ ∧ News h₀ L h' (own ++ news₂) ∧ (∀ q ∈ news₂, q.1 ≠ I) ∧ J (i + 1) m₂ news₂)
        (fun _ _ => False) { s with heap := h₁, gens := g₁, toks := tk₁ })
    (hR : ∀ h' tk g' m' news', Fr h₀ L h' m' → News h₀ L h' news' → J items.size m' news' → AllBare g' → Q .next { s with heap := h', gens := g', toks := tk })
    (hk : scope.kind = .function := by rfl) (kx : (envOf name scope L a cd).kindOf x = some .local := by rfl) :
    wpAny (model prog w) A (pyIter (.ref ax)) (fun it s₂ => codeAny (model prog w) A (.forLoop (.Name x px) it body [] (envOf name scope L a cd))
      (fun r s' => match r with | .ok f => Q f s' | .error e => cameBackBy (model prog w) A (envOf name scope L a cd) E e s') s₂) E s := by
  have hLlt : L < s.heap.objs.size := F.ns.lt
  have haxlt : ax < s.heap.objs.size := by obtain ⟨o, ho, _⟩ := hl; exact Heap.lt_size ho
  have h0le : h₀.objs.size ≤ s.heap.objs.size := Nat.le_of_lt (Nat.lt_of_le_of_lt F.above hLlt)
  refine wpAny_pyIter_list hl ?_
  refine For_walk (s := ⟨_, _, _, _, _⟩) (fun f s' q => q) (Walks.list hh s.heap.objs.size ax (Nat.ne_of_lt haxlt) items) ?_ ?_ ?_ ?_ ?_ (F.push _) (N.pushKeep _) hb (fun i m' n' => J i m' n' ∧ (∀ p ∈ n', p.1 ≠ s.heap.objs.size)) ⟨h0, fun p hp => Nat.ne_of_lt (Heap.lt_size (N p hp).1)⟩ ?_ ?_ hk kx
  · intro i h st b hb'
    rw [List.mem_singleton.mp hb']
    obtain ⟨o, ho, _⟩ := st.1; exact Heap.lt_size ho
  · intro hm
    simp only [List.mem_cons, List.not_mem_nil, or_false] at hm
    rcases hm with hm | hm
    · exact absurd hm (Nat.ne_of_lt hLlt)
    · exact hax hm
  · intro b hb'
    rw [List.mem_singleton.mp hb']
    exact fr_none h0le
  · intro p hp hm
    exact absurd (List.mem_singleton.mp hm) (Nat.ne_of_lt (Heap.lt_size (N p hp).1))
  · exact ⟨⟨_, Heap.get?_push_size _ rfl, rfl, rfl⟩, let ⟨o, ho, r⟩ := hl; ⟨o, Heap.get?_push_of_some _ ho, r⟩⟩
  · rintro i v m₁ news₁ h₁ tk₁ g₁ own hi hP ⟨hJ, hn⟩ hn' hown hI hbg F₁ N₁ htk₁
    have hI' := hI _ (.head _)
    refine wpAny_mono (step i v m₁ news₁ h₁ tk₁ g₁ own s.heap.objs.size hP hJ hn (fun p hp => ?_) hI' (Nat.le_refl _) hbg F₁ N₁) (fun f s₂ z => ?_) (fun _ _ z => z)
    · have := hown p hp
      simpa using this
    · have fin : (∃ h' tk g' m₂ news₂, s₂ = { s with heap := h', gens := g', toks := tk } ∧ AllBare g' ∧ Fr h₀ L h' m₂ ∧ News h₀ L h' (own ++ news₂) ∧ (∀ q ∈ news₂, q.1 ≠ s.heap.objs.size) ∧ J (i + 1) m₂ news₂) →
        ∃ h' tk g' m₂ news₂, s₂ = { s with heap := h', gens := g', toks := tk } ∧ AllBare g' ∧ Fr h₀ L h' m₂ ∧ News h₀ L h' (own ++ news₂) ∧ (∀ q ∈ news₂, q.1 ∉ [s.heap.objs.size]) ∧ (J (i + 1) m₂ news₂ ∧ ∀ p ∈ news₂, p.1 ≠ s.heap.objs.size) := by
        rintro ⟨h', tk, g', m₂, news₂, rfl, b1, b2, b3, b4, b5⟩
        exact ⟨h', tk, g', m₂, news₂, rfl, b1, b2, b3, fun q hq hm => b4 q hq (List.mem_singleton.mp hm), b5, b4⟩
      cases f with
      | ret v => exact z
      | brk => exact z
      | next => exact fin z
      | cont => exact fin z
  · rintro h' tk g' m' news' F' N' hn ⟨hJ, _⟩ hb' htk'
    exact hR h' tk g' m' news' F' N' hJ hb'

theorem loop_tuple (hh : A.handled = none) {ax : Addr} {items : Array Value} (hl : s.heap.IsTuple ax items) (hax : L ≠ ax)
    (F : Fr h₀ L s.heap m) (N : News h₀ L s.heap news) (hb : AllBare s.gens)
    (J : Nat → (Str → Option Value) → List (Addr × Obj) → Prop) (h0 : J 0 m news)
    (step : ∀ i v m₁ news₁ h₁ tk₁ g₁ own (I : Addr), items[i]? = some v → J i m₁ news₁ → (∀ p ∈ news₁, p.1 ≠ I) → (∀ p ∈ own, p.1 = I ∨ p.1 = ax) → I < h₁.objs.size → s.heap.objs.size ≤ I → AllBare g₁ →
      Fr h₀ L h₁ (fun y => if y = x then some v else m₁ y) → News h₀ L h₁ (own ++ news₁) → s.toks ≤ tk₁ →
      wpAny (model prog w) A (execs body (envOf name scope L a cd)) (fun f s₂ => match f with
        | .ret v => Q (.ret v) s₂
        | .brk => Q .next s₂
        | _ => ∃ h' tk g' m₂ news₂, s₂ = { s with heap := h', gens := g', toks := tk } ∧ AllBare g' ∧ Fr h₀ L h' m₂ ∧ News h₀ L h' (own ++ news₂) ∧ (∀ q ∈ news₂, q.1 ≠ I) ∧ J (i + 1) m₂ news₂)
        (fun _ _ => False) { s with heap := h₁, gens := g₁, toks := tk₁ })
    (hR : ∀ h' tk g' m' news', Fr h₀ L h' m' → News h₀ L h' news' → J items.size m' news' → AllBare g' → s.toks ≤ tk → Q .next { s with heap := h', gens := g', toks := tk })
    (hk : scope.kind = .function := by rfl) (kx : (envOf name scope L a cd).kindOf x = some .local := by rfl) :
    wpAny (model prog w) A (pyIter (.ref ax)) (fun it s₂ => codeAny (model prog w) A (.forLoop (.Name x px) it body [] (envOf name scope L a cd))
      (fun r s' => match r with | .ok f => Q f s' | .error e => cameBackBy (model prog w) A (envOf name scope L a cd) E e s') s₂) E s := by
  have hLlt : L < s.heap.objs.size := F.ns.lt
  have haxlt : ax < s.heap.objs.size := by obtain ⟨o, ho, _⟩ := hl; exact Heap.lt_size ho
  have h0le : h₀.objs.size ≤ s.heap.objs.size := Nat.le_of_lt (Nat.lt_of_le_of_lt F.above hLlt)
  refine wpAny_pyIter_tuple hl ?_
  refine For_walk (s := ⟨_, _, _, _, _⟩) (fun f s' q => q) (Walks.tuple hh s.heap.objs.size ax (Nat.ne_of_lt haxlt) items) ?_ ?_ ?_ ?_ ?_ (F.push _) (N.pushKeep _) hb (fun i m' n' => J i m' n' ∧ (∀ p ∈ n', p.1 ≠ s.heap.objs.size)) ⟨h0, fun p hp => Nat.ne_of_lt (Heap.lt_size (N p hp).1)⟩ ?_ ?_ hk kx
  · intro i h st b hb'
    rw [List.mem_singleton.mp hb']
    obtain ⟨o, ho, _⟩ := st.1; exact Heap.lt_size ho
  · intro hm
    simp only [List.mem_cons, List.not_mem_nil, or_false] at hm
    rcases hm with hm | hm
    · exact absurd hm (Nat.ne_of_lt hLlt)
    · exact hax hm
  · intro b hb'
    rw [List.mem_singleton.mp hb']
    exact fr_none h0le
  · intro p hp hm
    exact absurd (List.mem_singleton.mp hm) (Nat.ne_of_lt (Heap.lt_size (N p hp).1))
  · exact ⟨⟨_, Heap.get?_push_size _ rfl, rfl, rfl⟩, let ⟨o, ho, r⟩ := hl; ⟨o, Heap.get?_push_of_some _ ho, r⟩⟩
  · rintro i v m₁ news₁ h₁ tk₁ g₁ own hi hP ⟨hJ, hn⟩ hn' hown hI hbg F₁ N₁ htk₁
    have hI' := hI _ (.head _)
    refine wpAny_mono (step i v m₁ news₁ h₁ tk₁ g₁ own s.heap.objs.size hP hJ hn (fun p hp => ?_) hI' (Nat.le_refl _) hbg F₁ N₁ htk₁) (fun f s₂ z => ?_) (fun _ _ z => z)
    · have := hown p hp
      simpa using this
    · have fin : (∃ h' tk g' m₂ news₂, s₂ = { s with heap := h', gens := g', toks := tk } ∧ AllBare g' ∧ Fr h₀ L h' m₂ ∧ News h₀ L h' (own ++ news₂) ∧ (∀ q ∈ news₂, q.1 ≠ s.heap.objs.size) ∧ J (i + 1) m₂ news₂) →
        ∃ h' tk g' m₂ news₂, s₂ = { s with heap := h', gens := g', toks := tk } ∧ AllBare g' ∧ Fr h₀ L h' m₂ ∧ News h₀ L h' (own ++ news₂) ∧ (∀ q ∈ news₂, q.1 ∉ [s.heap.objs.size]) ∧ (J (i + 1) m₂ news₂ ∧ ∀ p ∈ news₂, p.1 ≠ s.heap.objs.size) := by
        rintro ⟨h', tk, g', m₂, news₂, rfl, b1, b2, b3, b4, b5⟩
        exact ⟨h', tk, g', m₂, news₂, rfl, b1, b2, b3, fun q hq hm => b4 q hq (List.mem_singleton.mp hm), b5, b4⟩
      cases f with
      | ret v => exact z
      | brk => exact z
      | next => exact fin z
      | cont => exact fin z
  · rintro h' tk g' m' news' F' N' hn ⟨hJ, _⟩ hb' htk'
    exact hR h' tk g' m' news' F' N' hJ hb' htk'

theorem loop_range (hh : A.handled = none) {ax : Addr} {n : Nat} {tt uu vv : Tok} (hl : IsRange s.heap ax 0 n 1 tt uu vv) (hsm : Builtin.Range.small 0 (n : Int) 1 = true)
    (F : Fr h₀ L s.heap m) (N : News h₀ L s.heap news) (hb : AllBare s.gens)
    (J : Nat → (Str → Option Value) → List (Addr × Obj) → Prop) (h0 : J 0 m news)
    (step : ∀ i v m₁ news₁ h₁ tk₁ g₁ own (I : Addr), i < n ∧ (∃ t, v = .int (i : Int) t) → J i m₁ news₁ → (∀ p ∈ news₁, p.1 ≠ I) → (∀ p ∈ own, p.1 = I) → I < h₁.objs.size → s.heap.objs.size ≤ I → AllBare g₁ →
      Fr h₀ L h₁ (fun y => if y = x then some v else m₁ y) → News h₀ L h₁ (own ++ news₁) → s.toks ≤ tk₁ →
      wpAny (model prog w) A (execs body (envOf name scope L a cd)) (fun f s₂ => match f with
        | .ret v => Q (.ret v) s₂
        | .brk => Q .next s₂
        | _ => ∃ h' tk g' m₂ news₂, s₂ = { s with heap := h', gens := g', toks := tk } ∧ AllBare g' ∧ Fr h₀ L h' m₂ ∧ News h₀ L h' (own ++ news₂) ∧ (∀ q ∈ news₂, q.1 ≠ I) ∧ J (i + 1) m₂ news₂)
        (fun _ _ => False) { s with heap := h₁, gens := g₁, toks := tk₁ })
    (hR : ∀ h' tk g' m' news', Fr h₀ L h' m' → News h₀ L h' news' → J n m' news' → AllBare g' → s.toks ≤ tk → Q .next { s with heap := h', gens := g', toks := tk })
    (hk : scope.kind = .function := by rfl) (kx : (envOf name scope L a cd).kindOf x = some .local := by rfl) :
    wpAny (model prog w) A (pyIter (.ref ax)) (fun it s₂ => codeAny (model prog w) A (.forLoop (.Name x px) it body [] (envOf name scope L a cd))
      (fun r s' => match r with | .ok f => Q f s' | .error e => cameBackBy (model prog w) A (envOf name scope L a cd) E e s') s₂) E s := by
  have hLlt : L < s.heap.objs.size := F.ns.lt
  have haxlt : ax < s.heap.objs.size := Heap.lt_size hl
  have h0le : h₀.objs.size ≤ s.heap.objs.size := Nat.le_of_lt (Nat.lt_of_le_of_lt F.above hLlt)
  refine wpAny_pyIter_range hl hsm ?_
  refine For_walk (s := ⟨_, _, _, _, _⟩) (fun f s' q => q) (Walks.range hh s.heap.objs.size 0 1 n) ?_ ?_ ?_ ?_ ?_ (F.push _) (N.pushKeep _) hb (fun i m' n' => J i m' n' ∧ (∀ p ∈ n', p.1 ≠ s.heap.objs.size)) ⟨h0, fun p hp => Nat.ne_of_lt (Heap.lt_size (N p hp).1)⟩ ?_ ?_ hk kx
  · intro i h st b hb'
    rw [List.mem_singleton.mp hb']
    exact Heap.lt_size st
  · intro hm
    simp only [List.mem_cons, List.not_mem_nil, or_false] at hm
    exact absurd hm (Nat.ne_of_lt hLlt)
  · intro b hb'
    rw [List.mem_singleton.mp hb']
    exact fr_none h0le
  · intro p hp hm
    exact absurd (List.mem_singleton.mp hm) (Nat.ne_of_lt (Heap.lt_size (N p hp).1))
  · have e : Builtin.Range.rangeSize 0 (n : Int) 1 = (n : Int) - ((0 : Nat) : Int) := by
      unfold Builtin.Range.rangeSize
      simp only [show (1 : Int) > 0 by decide, if_true, Int.ediv_one]
      split <;> omega
    show IsRangeIter _ _ (0 + ((0 : Nat) : Int) * 1) _ 1
    rw [← e]
    exact Heap.get?_push_size _ rfl
  · rintro i v m₁ news₁ h₁ tk₁ g₁ own hi hP ⟨hJ, hn⟩ hn' hown hI hbg F₁ N₁ htk₁
    have hI' := hI _ (.head _)
    refine wpAny_mono (step i v m₁ news₁ h₁ tk₁ g₁ own s.heap.objs.size ⟨hi, by simpa using hP⟩ hJ hn (fun p hp => ?_) hI' (Nat.le_refl _) hbg F₁ N₁ htk₁) (fun f s₂ z => ?_) (fun _ _ z => z)
    · have := hown p hp
      simpa using this
    · have fin : (∃ h' tk g' m₂ news₂, s₂ = { s with heap := h', gens := g', toks := tk } ∧ AllBare g' ∧ Fr h₀ L h' m₂ ∧ News h₀ L h' (own ++ news₂) ∧ (∀ q ∈ news₂, q.1 ≠ s.heap.objs.size) ∧ J (i + 1) m₂ news₂) →
        ∃ h' tk g' m₂ news₂, s₂ = { s with heap := h', gens := g', toks := tk } ∧ AllBare g' ∧ Fr h₀ L h' m₂ ∧ News h₀ L h' (own ++ news₂) ∧ (∀ q ∈ news₂, q.1 ∉ [s.heap.objs.size]) ∧ (J (i + 1) m₂ news₂ ∧ ∀ p ∈ news₂, p.1 ≠ s.heap.objs.size) := by
        rintro ⟨h', tk, g', m₂, news₂, rfl, b1, b2, b3, b4, b5⟩
        exact ⟨h', tk, g', m₂, news₂, rfl, b1, b2, b3, fun q hq hm => b4 q hq (List.mem_singleton.mp hm), b5, b4⟩
      cases f with
      | ret v => exact z
      | brk => exact z
      | next => exact fin z
      | cont => exact fin z
  · rintro h' tk g' m' news' F' N' hn ⟨hJ, _⟩ hb' htk'
    exact hR h' tk g' m' news' F' N' hJ hb' htk'

end
end
section
open PySem PySem.W PySem.Calls PyProof.Rows
set_option Elab.async false
set_option maxRecDepth 100000
set_option maxHeartbeats 2000000
set_option pp.deepTerms false
set_option pp.deepTerms.threshold 8
set_option pp.maxSteps 20000
theorem fill_nowG7 : (PySem.Challenge.rw_ij0162_01.Holds → hd.heap_39 = hd.heap_39) := by
  k_fill
  intro _; rfl

def dueT : List Nat := [40, 39, 39, 44, 32, 39, 39, 41]
def acc1 (l : List Nat) : List Nat := if checkT l then l else dueT

def JPre (ls : List (List Nat)) (D : Addr) (i : Nat) (m : Str → Option Value) (news : List (Addr × Obj)) : Prop :=
  ∃ lt n, m "accepted_values" = some (.ref D) ∧ news = [(D, listOf (strValues lt).toArray n)] ∧ lt.map (·.1) = (ls.take i).map fun l => S (acc1 l)

theorem pre_go {prog : Program} {w : World} {p : Program} {loose : List Str} {mean : ExcName → Option Value} {mg mb : Str → Option Value} {s : Shared} {Q E : Value → Shared → Prop}
    {dp un : Nat} {fr : Option (List Env)} {gd : Option (List Code)} {ax : Addr} {lt0 : List (Str × Tok)} {ls : List (List Nat)}
    (KX : (hd.heap_39 w.params).In s.heap) (T : Top p loose mean mg mb s.heap) (hdp : dp + 14 < recursionLimit)
    (hax : s.heap.IsList ax (strValues lt0).toArray) (hlt0 : lt0.map (·.1) = ls.map S) (hl : ∀ l ∈ ls, l.length ≤ 1000) (hls : ls.length ≤ 1000) (hb : AllBare s.gens)
    (h : ∀ h' tk g' D lt, (∀ b o, s.heap.get? b = some o → h'.get? b = some o) → s.toks ≤ tk → AllBare g' → h'.IsList D (strValues lt).toArray → lt.map (·.1) = ls.map (fun l => S (acc1 l)) → Q (.ref D) { s with heap := h', toks := tk, gens := g' }) :
    wpAny (model prog w) { handled := none, depth := dp, frames := fr, guards := gd, units := un } (call (.ref 76) [.ref ax]) Q E s := by
  have TR := topRead_of T
  walk_at "mine.enter"
  intro L h₁ F N
  refine wpAny_execs_cons (wpAny_Assign_Name (List_ (spliced_nil (newList_N (s := ⟨_, _, _, _, _⟩) F N fun h2 F2 N2 => ?_))))
  refine stN (s := ⟨_, _, _, _, _⟩) F2 N2 fun h3 F3 N3 => ?_
  dsimp only at F3 N3 ⊢
  generalize hD : h₁.objs.size = D at F3 N3
  have hL : L < h3.objs.size := F3.ns.lt
  have haxL : L ≠ ax := by
    obtain ⟨o, ho, _⟩ := hax
    exact Nat.ne_of_gt (Nat.lt_of_lt_of_le (Heap.lt_size ho) F.above)
  have hax3 : h3.IsList ax (strValues lt0).toArray := let ⟨o, ho, r⟩ := hax; ⟨o, F3.keep _ _ ho, r⟩
  have hlen : lt0.length = ls.length := by have := congrArg List.length hlt0; simpa using this
  refine wpAny_execs_cons (wpAny_For (ld F3 rfl ?_) (fun x => rfl))
  refine loop_list (s := ⟨_, _, _, _, _⟩) rfl hax3 haxL F3 N3 hb (JPre ls D) ?_ ?_ ?_
  · exact ⟨[], 0, rfl, rfl, rfl⟩
  · rintro i v m₁ news₁ h4 tk4 g₁ own I hi ⟨lt, n, hm, rfl, hlt⟩ hn hown hI hI2 hbg F4 N4
    refine hideQ fun QI hQI => ?_
    have hi' : i < lt0.length := by
      have := (Array.getElem?_eq_some_iff.mp hi).1
      simpa [strValues] using this
    have hil : i < ls.length := by omega
    obtain ⟨tv, rfl⟩ : ∃ tv, v = .str (S ls[i]) tv := by
      have e1 : (strValues lt0)[i]? = some v := by simpa using hi
      simp only [strValues, List.getElem?_map] at e1
      have e2 : lt0[i]? = some lt0[i] := by simp [hi']
      rw [e2] at e1
      have e3 := congrArg (fun z => z[i]?) hlt0
      simp only [List.getElem?_map, e2, Option.map_some] at e3
      have e4 : ls[i]? = some ls[i] := by simp [hil]
      rw [e4] at e3
      simp only [Option.map_some, Option.some.injEq] at e3 e1
      exact ⟨lt0[i].2, by rw [← e1, ← e3]⟩
    refine wpAny_execs_cons (wpAny_If (wpAny_isTrue_Not (isTrue_plain (Call_ (name_K F4 KX TR (by k_is) (callWith_K KX (by k_is) (spliced_more (ld F4 rfl (spliced_none ⟨KX.keeps F4.keep, ?_⟩)))))))))
    refine check_go (s := ⟨_, _, _, _, _⟩) (KX.keeps F4.keep) (T.keeps F4.keep) (by show dp + 1 + 10 < recursionLimit; exact room hdp) (hl _ (List.getElem_mem hil)) hbg ?_
    intro h5 tk5 g5 k5 htk5 hb5
    refine wpAny_truthy_bool ?_
    have F5 := F4.keeps k5
    have N5 := N4.grown k5
    have hDI : D ≠ I := hn _ (.head _)
    have hDo : ∀ q ∈ own, q.1 ≠ D := by
      intro q hq e
      rcases hown q hq with h | h
      · exact hn _ (.head _) (e.symm.trans h)
      · have z : D = ax := e.symm.trans h
        obtain ⟨o, ho, _⟩ := hax
        exact absurd (Heap.lt_size ho) (Nat.not_lt.mpr (by rw [← z, ← hD]; exact Nat.le_of_lt (Nat.lt_of_le_of_lt F.above F.ns.lt)))
    have hsz : (strValues lt).toArray.size ≤ 100000 := by
      have e := congrArg List.length hlt
      simp only [List.length_map, List.length_take] at e
      simp only [strValues, List.size_toArray, List.length_map]
      omega
    have hnx : (ls.take (i + 1)).map (fun l => S (acc1 l)) = (ls.take i).map (fun l => S (acc1 l)) ++ [S (acc1 ls[i])] := by
      rw [List.take_add_one, List.getElem?_eq_getElem hil, List.map_append]; rfl
    dsimp only at F5 N5 ⊢
    cases hc : checkT ls[i] with
    | true =>
      have hac : acc1 ls[i] = ls[i] := by rw [acc1, hc]; rfl
      simp only [Bool.not_true, Bool.false_eq_true, if_false]
      refine wpAny_execs_nil ?_
      refine wpAny_execs_cons (app_stmt (s := ⟨_, _, _, _, _⟩) (D := D) (P := fun v => ∃ tv, v = .str (S ls[i]) tv) F5 N5 (by exact hm) (List.mem_append_right _ (.head _)) (fun v _ => upd_own (.head (by intro _ h; cases h)) own hDo) hsz (fun Q' hQ' => ?_) ?_)
      · exact ld (s := ⟨_, _, _, _, _⟩) F5 rfl (hQ' _ _ _ ⟨_, rfl⟩ F5 N5)
      · rintro v h7 tk7 ⟨tv, rfl⟩ F7 N7
        rw [strValues_push] at N7
        exact wpAny_execs_nil (hQI .next _ ⟨h7, _, _, _, _, rfl, hb5, F7, N7, fun q hq => by rw [List.mem_singleton.mp hq]; exact hDI, _, _, hm, rfl, by rw [hnx, hac]; simp [hlt]⟩)
    | false =>
      have hac : acc1 ls[i] = dueT := by rw [acc1, hc]; rfl
      simp only [Bool.not_false, if_true]
      refine wpAny_execs_cons (wpAny_Assign_Name (Constant_str (stN (s := ⟨_, _, _, _, _⟩) F5 N5 fun h6 F6 N6 => ?_)))
      rw [show Str.ofString "('', '')" = S dueT by decide +kernel] at F6
      refine wpAny_execs_nil ?_
      refine wpAny_execs_cons (app_stmt (s := ⟨_, _, _, _, _⟩) (D := D) (P := fun v => ∃ tv, v = .str (S dueT) tv) F6 N6 (by exact hm) (List.mem_append_right _ (.head _)) (fun v _ => upd_own (.head (by intro _ h; cases h)) own hDo) hsz (fun Q' hQ' => ?_) ?_)
      · refine ld (s := ⟨_, _, _, _, _⟩) F6 rfl (hQ' _ _ _ ⟨_, rfl⟩ F6 N6)
      · rintro v h7 tk7 ⟨tv, rfl⟩ F7 N7
        rw [strValues_push] at N7
        exact wpAny_execs_nil (hQI .next _ ⟨h7, _, _, _, _, rfl, hb5, F7, N7, fun q hq => by rw [List.mem_singleton.mp hq]; exact hDI, _, _, hm, rfl, by rw [hnx, hac]; simp [hlt]⟩)
  · rintro h4 tk4 g4 m4 news4 F4 N4 ⟨lt, n, hm, rfl, hlt⟩ hb4
    refine wpAny_execs_cons (wpAny_Return_some (ld (s := ⟨_, _, _, _, _⟩) F4 hm ?_))
    intro htk
    refine h h4 _ g4 D lt F4.keep htk hb4 ⟨_, N4.get (.head _), rfl, _, rfl⟩ ?_
    rw [hlt]
    have : (strValues lt0).toArray.size = ls.length := by simp [strValues, hlen]
    rw [this, List.take_length]
end
section
open PySem PySem.W PySem.Calls PyProof.Rows
set_option Elab.async false
set_option maxRecDepth 100000
set_option maxHeartbeats 2000000
section
variable {prog : Program} {w : World} {A : Around} {E : Value → Shared → Prop} {s : Shared}

theorem dict_td {env : Env} {keys : List (Option Expr)} {values : List Expr} {pos : Pos} {pairs : List (Sem Value × Sem Value)} {Q : Value → Shared → Prop} {ys : List TE}
    (hshape : (evalEachOpt keys env).zip ((evalEach values env).map fun v => do let x ← v; standAt pos; pure x) = pairs.map fun p => (some p.1, p.2)) (h0 : pairs ≠ []) (hlen : pairs.length ≤ 15)
    (h : wpAny (model prog w) A (evalPairs pairs) (fun vs s₁ => vs = ys.map valOf ∧ TD w s₁.heap s.heap.objs.size [] ∧ (ys.map (·.1)).Nodup ∧
      ∀ h' tk, TD w h' s.heap.objs.size ys → Heap.SameBut s.heap.objs.size s₁.heap h' → s₁.toks ≤ tk → Q (.ref s.heap.objs.size) { s₁ with heap := h', toks := tk }) E
      { s with heap := s.heap.push { cls := .type "dict", data := .dict #[] } }) :
    wpAny (model prog w) A (eval (.Dict keys values pos) env) Q E s := by
  rw [arm_eval_Dict, hshape, dictDisplay_pairs pairs h0 (by omega)]
  refine wpAny_bind (wpAny_standAt (wpAny_bind (td_subDict (ys := ys) hlen ?_)))
  refine wpAny_mono h (fun vs s₁ h₁ => ?_) fun _ _ e => e
  obtain ⟨hc, hm, hn, hq⟩ := h₁
  exact ⟨hc, hm, hn, fun h' tk a b c => wpAny_pure (hq h' tk a b c)⟩

def pairsOf (env : Env) (pos : Pos) : List (Option Expr) → List Expr → List (Sem Value × Sem Value)
  | some k :: ks, v :: vs => (eval k env, (do let x ← eval v env; standAt pos; pure x)) :: pairsOf env pos ks vs
  | _, _ => []
theorem pairsOf_shape (env : Env) (pos : Pos) : ∀ (keys : List (Option Expr)) (values : List Expr), keys.all (·.isSome) = true → keys.length = values.length →
    (evalEachOpt keys env).zip ((evalEach values env).map fun v => do let x ← v; standAt pos; pure x) = (pairsOf env pos keys values).map fun p => (some p.1, p.2)
  | [], [], _, _ => rfl
  | some k :: ks, v :: vs, h, hl => by
    have ih := pairsOf_shape env pos ks vs (by simpa using h) (by simpa using hl)
    show (some (eval k env), _) :: _ = _ :: _
    exact congrArg _ ih
  | none :: ks, _, h, _ => by simp at h
  | [], _ :: _, _, hl => by simp at hl
  | _ :: _, [], _, hl => by simp at hl
theorem pairs_step {x y : Str} {p q pos : Pos} {i j : Nat} {env : Env} {ks : List (Option Expr)} {vs : List Expr} {Q : List (Value × Value) → Shared → Prop}
    (h : wpAny (model prog w) A (evalPairs (pairsOf env pos ks vs)) (fun vs s₁ => Q ((Value.str x s.toks, Value.str y (s.toks + 1)) :: vs) s₁) E { s with toks := s.toks + 1 + 1 }) :
    wpAny (model prog w) A (evalPairs (pairsOf env pos (some (.Constant (.str x) i p) :: ks) (.Constant (.str y) j q :: vs))) Q E s := pairs_cons h
theorem pairs_end {env : Env} {pos : Pos} {Q : List (Value × Value) → Shared → Prop} (h : Q [] s) : wpAny (model prog w) A (evalPairs (pairsOf env pos [] [])) Q E s := evalPairs_nil h
theorem pairsOf_len (env : Env) (pos : Pos) : ∀ (keys : List (Option Expr)) (values : List Expr), (pairsOf env pos keys values).length ≤ keys.length
  | [], _ => Nat.zero_le _
  | some k :: ks, v :: vs => Nat.succ_le_succ (pairsOf_len env pos ks vs)
  | some _ :: _, [] => Nat.zero_le _
  | none :: _, _ => Nat.zero_le _
theorem dict_consts {env : Env} {k0 v0 : Expr} {keys : List (Option Expr)} {values : List Expr} {pos : Pos} {Q : Value → Shared → Prop} {ys : List TE}
    (h1 : keys.all (·.isSome) = true) (h2 : keys.length = values.length) (h3 : keys.length ≤ 14)
    (h : wpAny (model prog w) A (evalPairs (pairsOf env pos (some k0 :: keys) (v0 :: values))) (fun vs s₁ => vs = ys.map valOf ∧ TD w s₁.heap s.heap.objs.size [] ∧ (ys.map (·.1)).Nodup ∧
      ∀ h' tk, TD w h' s.heap.objs.size ys → Heap.SameBut s.heap.objs.size s₁.heap h' → s₁.toks ≤ tk → Q (.ref s.heap.objs.size) { s₁ with heap := h', toks := tk }) E
      { s with heap := s.heap.push { cls := .type "dict", data := .dict #[] } }) :
    wpAny (model prog w) A (eval (.Dict (some k0 :: keys) (v0 :: values) pos) env) Q E s :=
  dict_td (pairsOf_shape env pos (some k0 :: keys) (v0 :: values) (by simpa using h1) (by simpa using h2)) (by intro e; cases e) (by
    have := pairsOf_len env pos (some k0 :: keys) (v0 :: values)
    simp only [List.length_cons] at this
    omega) h

theorem td_setItem {d : Addr} {xs : List TE} {k : Str} {tk : Tok} {v : Str} {tv : Tok} {Q : Unit → Shared → Prop} (x : TD w s.heap d xs) (hz : xs.length ≤ 1000)
    (h : ∀ h', TD w h' d (put xs k tk v tv) → Heap.SameBut d s.heap h' → Q () { s with heap := h', toks := s.toks + 1 }) :
    wpAny (model prog w) A (setItem (.ref d) (.str k tk) (.str v tv)) Q E s := by
  unfold setItem
  try with_reducible refine wpAny_holding ?_
  refine wpAny_bind (wpAny_sequenceKey x.typeIs (by decide) ?_)
  refine wpAny_bind (wpAny_callSpecial?_slot (name := Str.ofString "__setitem__") x.typeIs slot_dict_setitem
    (wpAny_call_entry slot_dict_setitem x.typeIs entry_dict_setitem ?_ (args_dict_setitem _ _ _)))
  show wpAny _ _ (Builtin.Dict.notOrdered "__setitem__" ⟨[.ref d, .str k tk, .str v tv], []⟩ >>= _) _ _ s
  refine wpAny_bind (wpAny_notOrdered_dict x.typeIs ?_)
  show wpAny _ _ (dictSet d (.str k tk) (.str v tv) >>= _) _ _ s
  exact wpAny_bind (td_set x hz fun h' hm' hs' => wpAny_pure ⟨.none, rfl, wpAny_pure (h h' hm' hs')⟩)

def toldL (kvs : KV) (c : Nat) : List Nat := match kvs.find? (fun kv => kv.1 = c) with | some kv => kv.2 | none => [c]

theorem tells_value : ∀ {ys : List TE} {kvs : KV}, Tells ys kvs → ∀ (c : Nat) (u : Tok),
    ∃ t, (valueAt (ys.map fun x => (x.1, Value.str x.2.2.1 x.2.2.2)) (S [c])).getD (.str (S [c]) u) = .str (S (toldL kvs c)) t
  | [], kvs, h, c, u => by
    have : kvs = [] := by
      cases kvs with
      | nil => rfl
      | cons _ _ => simp [Tells] at h
    subst this
    exact ⟨u, rfl⟩
  | y :: r, [], h, c, u => by simp [Tells] at h
  | y :: r, kv :: kvs, h, c, u => by
    simp only [Tells, List.map_cons, List.cons.injEq, Prod.mk.injEq] at h
    obtain ⟨⟨h1, h2⟩, h3⟩ := h
    obtain ⟨t, ih⟩ := tells_value (ys := r) (kvs := kvs) h3 c u
    unfold valueAt toldL at ih ⊢
    rw [List.map_cons, List.find?_cons, List.find?_cons]
    by_cases hc : kv.1 = c
    · have e : y.1 = S [c] := by rw [h1, hc]
      simp only [e, hc, decide_true]
      exact ⟨y.2.2.2, by simp [h2]⟩
    · have e : ¬ y.1 = S [c] := by
        rw [h1]; intro e; have := S_inj e; simp at this; exact hc this
      simp only [e, hc, decide_false]
      exact ⟨t, ih⟩
end
end
section
open PySem PySem.W PySem.Calls PyProof.Rows
set_option Elab.async false
set_option maxRecDepth 100000
set_option maxHeartbeats 2000000
set_option pp.deepTerms false
set_option pp.deepTerms.threshold 12
set_option pp.maxSteps 20000

def TDo (w : World) (od : Obj) (ys : List TE) : Prop := ∃ ep, od.ExactDict ∧ od.data = .dict (ys.map (entOf w)).toArray ep ∧ (ys.map (·.1)).Nodup
theorem TDo.td {w : World} {od : Obj} {ys : List TE} {h : Heap} {d : Addr} (x : TDo w od ys) (e : h.get? d = some od) : TD w h d ys :=
  let ⟨ep, a, b, c⟩ := x; ⟨od, ep, e, a, b, c⟩

theorem news_dict {w : World} {h₀ h h' : Heap} {L : Addr} {m : Str → Option Value} {news : List (Addr × Obj)} {o0 : Obj} {ys : List TE} (F : Fr h₀ L h m) (N : News h₀ L h news)
    (hs : Heap.SameBut h.objs.size (h.push o0) h') (x : TD w h' h.objs.size ys) : ∃ od, Fr h₀ L h' m ∧ News h₀ L h' ((h.objs.size, od) :: news) ∧ TDo w od ys := by
  obtain ⟨od, ep, ho, r⟩ := x
  have hn : h₀.get? h.objs.size = none := fr_none (Nat.le_of_lt (Nat.lt_of_le_of_lt F.above F.ns.lt))
  refine ⟨od, (F.push o0).change hs (Nat.ne_of_gt F.ns.lt) hn, ?_, ep, r⟩
  intro p hp
  rcases List.mem_cons.mp hp with rfl | hp
  · exact ⟨ho, Nat.ne_of_gt F.ns.lt, hn⟩
  · exact ⟨hs.extBut _ _ (Nat.ne_of_lt (Heap.lt_size (N p hp).1)) (Heap.get?_push_of_some _ (N p hp).1), (N p hp).2⟩

section
variable {prog : Program} {w : World} {A : Around} {E : Value → Shared → Prop} {s : Shared} {h₀ : Heap} {L : Addr} {m : Str → Option Value} {news : List (Addr × Obj)}

theorem quiet_told {env : Env} {scope : Scope} {c d : Addr} {o od : Obj} {ys : List TE} {kvs : KV} {l : List Nat} {I : Addr} {p1 p2 p3 p4 p5 : Pos} {pl : Addr → Sem Bool}
    (hc1 : s.heap.get? c = some o) (hc2 : o.data = .cell (some (.ref d))) (hd1 : s.heap.get? d = some od) (hd2 : TDo w od ys) (hS : (d == sysModules) = false) (ht : Tells ys kvs) (hcI : c ≠ I) (hdI : d ≠ I)
    (hk : ∀ C, (compEnvC scope [("told", c)] C env).scope.kind = .function) (hx1 : ∀ C, (compEnvC scope [("told", c)] C env).kindOf "told" = some .cell) (hx2 : ∀ C, (compEnvC scope [("told", c)] C env).kindOf "sign" = some .local)
    (hM : ∀ C, eval (.Call (.Attribute (.Name "told" p1) "get" p2) [.Name "sign" p3, .Name "sign" p4] [] p5) (compEnvC scope [("told", c)] C env) = (do
      let ov ← eval (.Name "told" p1) (compEnvC scope [("told", c)] C env)
      standAt p2.atName
      let (f, first) ← holding [ov] (getMethod ov "get" (pl C))
      callWith p5 f first (backTo p5 (starEach [.Name "sign" p3, .Name "sign" p4] (compEnvC scope [("told", c)] C env))) []) := by intro _; rfl) :
    QuietOnC prog w A env scope [("told", c)] "sign" [] (.Call (.Attribute (.Name "told" p1) "get" p2) [.Name "sign" p3, .Name "sign" p4] [] p5) [I] (SignAt (S l)) (fun _ => true)
      (fun v y => ∃ a u t, v = .str (S [a]) u ∧ y = .str (S (toldL kvs a)) t) s where
  tests := fun C i v s₃ m₃ E' _ _ _ _ _ _ => wpAny_pure ⟨rfl, s₃.heap, s₃.toks, rfl, fun _ _ e => e⟩
  elt := by
    rintro C i v s₃ m₃ E' hC ⟨a, u, _, rfl⟩ _ hn hm hk' _
    have hcc : s₃.heap.get? c = some o := hk' c o (by simpa using hcI) hc1
    have hdd : s₃.heap.get? d = some od := hk' d od (by simpa using hdI) hd1
    have hT := hd2.td hdd
    refine MethodCall_ (wpAny_Name (wpAny_loadName_cell (hk C) (hx1 C) rfl ⟨o, hcc, hc2⟩ ?_)) (hM C)
    refine getMethod_builtin hT.typeIs PySem.F.plainAttrs_dict PySem.F.slot_dict_get PySem.F.type_dict_get ?_ ?_
    · intro b e; cases e; obtain ⟨_, _, e1, e2, _⟩ := hT; exact ⟨_, e1, e2.2.1⟩
    have nm : ∀ (s' : Shared) (Q' : Value → Shared → Prop) (pp : Pos), s'.heap.Ns C m₃ → Q' (.str (S [a]) u) s' → wpAny (model prog w) A (eval (.Name "sign" pp) (compEnvC scope [("told", c)] C env)) Q' E' s' :=
      fun s' Q' pp hns hq => wpAny_Name (wpAny_loadName_local (env := compEnvC scope [("told", c)] C env) (hk C) (hx2 C) hns hm hq)
    refine callWith_method1 (spliced_more (nm _ _ _ hn (spliced_more (nm _ _ _ hn (spliced_none ?_)) ?_)) ?_) ?_
    · refine call_meetsIn F.slot_dict_get hT.typeIs F.entry_dict_get (F.args_dict_get_3 _ _ _) (meets_dict_get_default (PySem.strKind prog w) d (PySem.strKind_is prog w (S [a]) u) hS _) ⟨_, (hT.dictOf (prog := prog)).mapOf, ?_⟩
      obtain ⟨t, et⟩ := tells_value ht a u
      rw [et]
      exact ⟨⟨a, u, t, rfl, rfl⟩, s₃.heap, _, rfl, fun _ _ e => e⟩
    all_goals rfl
end

def FTold (kvs : KV) (v y : Value) : Prop := ∃ a u t, v = .str (S [a]) u ∧ y = .str (S (toldL kvs a)) t
theorem paired_told {kvs : KV} : ∀ {vs ys : List Value}, Paired (FTold kvs) vs ys → ∀ l : List Nat, vs.length = l.length → (∀ j v, vs[j]? = some v → SignAt (S l) j v) →
    ∃ lt : List (Str × Tok), ys = strValues lt ∧ lt.map (·.1) = l.map fun a => S (toldL kvs a)
  | _, _, .nil, l, hl, _ => by
    have : l = [] := by simpa using hl.symm
    subst this
    exact ⟨[], rfl, rfl⟩
  | _ :: vs, _ :: ys, .cons ⟨a, u, t, e1, e2⟩ hp, [], hl, _ => by simp at hl
  | _ :: vs, _ :: ys, .cons ⟨a, u, t, e1, e2⟩ hp, c :: l, hl, hs => by
    obtain ⟨lt, h1, h2⟩ := paired_told hp l (by simpa using hl) (fun j v hv => by
      obtain ⟨c', u', h3, h4⟩ := hs (j + 1) v (by simpa using hv)
      exact ⟨c', u', by simpa [S] using h3, h4⟩)
    obtain ⟨c', u', h3, h4⟩ := hs 0 _ rfl
    have h5 : c = c' := by simpa [S] using h3
    have h6 : a = c := by
      rw [e1] at h4; injection h4 with h4 _; have := S_inj (show S [a] = S [c'] from h4); simp at this; rw [this, h5]
    subst h6
    exact ⟨(S (toldL kvs a), t) :: lt, by rw [e2, h1]; rfl, by simp [h2]⟩

section
variable {prog : Program} {w : World} {A : Around} {E : Value → Shared → Prop} {s : Shared}
theorem comp_told {env : Env} {scope : Scope} {c d : Addr} {o od : Obj} {ys : List TE} {kvs : KV} {l : List Nat} {t : Tok} {p1 p2 p3 p4 p5 p6 px pos : Pos} {pl : Addr → Sem Bool} {Q : Value → Shared → Prop} (hh : A.handled = none)
    (hc1 : s.heap.get? c = some o) (hc2 : o.data = .cell (some (.ref d))) (hd1 : s.heap.get? d = some od) (hd2 : TDo w od ys) (hS : (d == sysModules) = false) (ht : Tells ys kvs) (hl : l.length ≤ 100000)
    (htext : ∀ Q' : Value → Shared → Prop, Q' (.str (S l) t) s → wpAny (model prog w) A (eval (.Name "text" p6) env) Q' E s)
    (hQ : ∀ h' tk D lt, (∀ b o, s.heap.get? b = some o → h'.get? b = some o) → s.heap.get? D = none → h'.IsList D (strValues lt).toArray → lt.map (·.1) = l.map (fun a => S (toldL kvs a)) → Q (.ref D) { s with heap := h', toks := tk })
    (hclos : closureFor scope env = pure [(("told" : Str), c)]) (hcell : ∀ y ∈ scope.names, y.2 ≠ .cell) (hkind : scope.kind = .function)
    (hnames : ∀ y ∈ scope.names, y.2 = .local → scope.names.lookup y.1 = some .local) (hx : scope.names.lookup ("sign" : Str) = some .local)
    (hk : ∀ C, (compEnvC scope [("told", c)] C env).scope.kind = .function) (hx1 : ∀ C, (compEnvC scope [("told", c)] C env).kindOf "told" = some .cell) (hx2 : ∀ C, (compEnvC scope [("told", c)] C env).kindOf "sign" = some .local)
    (hM : ∀ C, eval (.Call (.Attribute (.Name "told" p1) "get" p2) [.Name "sign" p3, .Name "sign" p4] [] p5) (compEnvC scope [("told", c)] C env) = (do
      let ov ← eval (.Name "told" p1) (compEnvC scope [("told", c)] C env)
      standAt p2.atName
      let (f, first) ← holding [ov] (getMethod ov "get" (pl C))
      callWith p5 f first (backTo p5 (starEach [.Name "sign" p3, .Name "sign" p4] (compEnvC scope [("told", c)] C env))) [])) :
    wpAny (model prog w) A (eval (.ListComp (.Call (.Attribute (.Name "told" p1) "get" p2) [.Name "sign" p3, .Name "sign" p4] [] p5) [⟨.Name "sign" px, .Name "text" p6, [], 0⟩] scope pos) env) Q E s := by
  refine wpAny_ListComp_free (fun _ => true) (FTold kvs) hclos hcell hkind hnames hx (htext _ (wpAny_pyIter_str ?_)) (fun _ => rfl)
  intro oi St W hSt
  have hc : c < s.heap.objs.size := Heap.lt_size hc1
  have hd : d < s.heap.objs.size := Heap.lt_size hd1
  refine ⟨_, _, _, _, _, St, rfl, W A hh, ?_, hSt, ?_, quiet_told (s := { s with heap := s.heap.push oi }) (Heap.get?_push_of_some _ hc1) hc2 (Heap.get?_push_of_some _ hd1) hd2 hS ht (Nat.ne_of_lt hc) (Nat.ne_of_lt hd) hk hx1 hx2 hM, ?_⟩
  · have : sizeLine = 16777216 := rfl
    show (S l).cps.size ≤ _
    simp [S]; omega
  · intro b hb
    rw [List.mem_singleton.mp hb]
    show _ < (s.heap.push oi).objs.size
    rw [Heap.size_push]; exact Nat.lt_succ_self _
  · intro D h' tk ys' vs hD hlst _ hlen hP hF hkeep
    rw [List.filter_eq_self.mpr (fun _ _ => rfl)] at hF
    obtain ⟨lt, e1, e2⟩ := paired_told hF l (by rw [hlen]; simp [S]) hP
    refine hQ h' tk D lt (fun b o e => hkeep b o ?_ (Heap.get?_push_of_some _ e)) ?_ ?_ e2
    · intro hb; rw [List.mem_singleton.mp hb] at e; exact absurd (Heap.lt_size e) (Nat.lt_irrefl _)
    · cases e : s.heap.get? D with
      | none => rfl
      | some o' => rw [show ({ s with heap := s.heap.push oi } : Shared).heap.get? D = some o' from Heap.get?_push_of_some _ e] at hD; cases hD
    · rw [← e1]; simpa using hlst
end
end
section
open PySem PySem.W PySem.Calls PyProof.Rows
set_option Elab.async false
set_option maxRecDepth 100000
set_option maxHeartbeats 2000000
set_option pp.deepTerms false
set_option pp.deepTerms.threshold 8
set_option pp.maxSteps 20000
theorem fill_nowL1 : (PySem.Challenge.rw_ij0162_01.Holds → hd.heap_39 = hd.heap_39) := by
  k_fill
  intro _; rfl

theorem enter_cells {prog : Program} {w : World} {A : Around} {s : Shared} {K : Frag}
    {name qual : Str} {params : Arguments} {body : List Stmt} {scope : Scope} {dV kV doc pm cdv ct oc : Value} {an od : Option Addr} {osl : Array (Option Value)} {f : Addr}
    {pos : List Value} {kw : List (Str × Value)} {binds : List (Str × Value)} {Q E : Value → Shared → Prop}
    (X : K.In s.heap) (hlim : s.heap.NoLimit)
    (ho : K.lookup f = some ⟨oc, od, .func (fnOf name qual params body scope dV kV doc pm an cdv ct), osl⟩) (hcd : codeIn K cdv qual = true) (hroom : A.depth < recursionLimit)
    (hbind : BindsTo s (fnOf name qual params body scope dV kV doc pm an cdv ct) ⟨pos, kw⟩ binds)
    (hkind : ∀ n, ∀ x ∈ binds, scope.names.lookup x.1 = some .local ∨ (scope.names.lookup x.1 = some .cell ∧ ((cellsFrom n scope.names []).lookup x.1).isSome = true))
    (hnd : ((cellsFrom 0 scope.names []).map (·.1)).Nodup) (cl : Addr → List (Str × Addr)) (hcl : ∀ L, cellsFrom (L + 1) scope.names [] = cl L) {bm bc : Str → Option Value}
    (hbm : ∀ L, bindL (envOfC qual scope L f cdv).kindOf binds (fun _ => none) = bm) (hbc : ∀ L, bindC (envOfC qual scope L f cdv).kindOf binds (fun _ => none) = bc)
    (h : ∀ L h₁ tk cells, L = s.heap.objs.size → Fr s.heap L h₁ bm → News s.heap L h₁ cells → CellsAre bc (cl L) cells →
      wpAny (model prog w) (A.deeper (envX qual scope L f cdv (cl L))) (execs body (envX qual scope L f cdv (cl L)))
        (fun fl s' => s.toks ≤ s'.toks → Q (match fl with | .ret v => v | _ => .none) s') (fun _ _ => False)
        { s with heap := h₁, toks := tk })
    (hco : scope.isCoroutine = false) (hgen : scope.isGenerator = false) (hk : scope.kind = .function) : wpAny (model prog w) A (call (.ref f) pos kw) Q E s := by
  refine wpAny_with_toks (Nat.le_refl s.toks) ?_
  refine wpAny_call ?_
  refine codeAny_call_function (fd := fnOf name qual params body scope dV kV doc pm an cdv ct) hroom (X _ _ ho) rfl hco hgen rfl (codeRec_of X hcd) (hbind _ _ _ _ ?_)
  refine wpAny_newFunctionEnv_cells hk (hkind _) fun env' he s' x => ?_
  subst he
  refine ⟨hlim.keeps x.toInCall.keep, codeAny_func ?_⟩
  obtain ⟨h₁, tk, rfl, _⟩ := x.done
  have hk₁ := x.toInCall.keep
  obtain ⟨cells, NC, Y⟩ := Cl.news (h₀ := s.heap) (Nat.le_refl _) fun n c hm => ⟨x.cell n c (lookup_of_mem_nodup (cellsFrom_names scope.names 0 (s.heap.objs.size + 1) [] [] rfl ▸ hnd) hm), x.above n c hm⟩
  have hh := h s.heap.objs.size h₁ tk cells rfl ⟨hbm s.heap.objs.size ▸ x.toInCall.ns, hk₁, Nat.le_refl _⟩ NC (by rw [← hcl, ← hbc s.heap.objs.size]; exact Y)
  rw [← hcl] at hh
  exact wpAny_mono hh (fun _ _ x => x) (fun _ _ x => x.elim)


def kv6 : KV := [(38, [38, 97, 109, 112, 59]), (60, [38, 108, 116, 59]), (62, [38, 103, 116, 59]), (10, [38, 35, 49, 48, 59]), (13, [38, 35, 49, 51, 59]), (9, [38, 35, 57, 59])]
def kvQ (safe : Bool) (l : List Nat) : KV := (if safe then kv6 ++ [(92, [38, 35, 57, 50, 59])] else kv6) ++ (if safe = true ∨ 39 ∈ l then [(34, [38, 113, 117, 111, 116, 59])] else [])
def boundT (safe : Bool) (l : List Nat) : Nat := if safe = true ∨ 39 ∈ l then 34 else if 34 ∈ l then 39 else 34
def valueU (safe : Bool) (l : List Nat) : List (List Nat) := [boundT safe l] :: (l.map (toldL (kvQ safe l)) ++ [[boundT safe l]])

def ys6 (k : Nat) : List TE := [("&", k, "&amp;", k + 1), ("<", k + 1 + 1, "&lt;", k + 1 + 1 + 1), (">", k + 1 + 1 + 1 + 1, "&gt;", k + 1 + 1 + 1 + 1 + 1),
  ("\n", k + 1 + 1 + 1 + 1 + 1 + 1, "&#10;", k + 1 + 1 + 1 + 1 + 1 + 1 + 1), ("\u000d", k + 1 + 1 + 1 + 1 + 1 + 1 + 1 + 1, "&#13;", k + 1 + 1 + 1 + 1 + 1 + 1 + 1 + 1 + 1),
  ("\t", k + 1 + 1 + 1 + 1 + 1 + 1 + 1 + 1 + 1 + 1, "&#9;", k + 1 + 1 + 1 + 1 + 1 + 1 + 1 + 1 + 1 + 1 + 1)]
theorem ys6_tells (k : Nat) : Tells (ys6 k) kv6 := by
  show [((Str.ofString "&" : Str), (Str.ofString "&amp;" : Str)), (Str.ofString "<", Str.ofString "&lt;"), (Str.ofString ">", Str.ofString "&gt;"), (Str.ofString "\n", Str.ofString "&#10;"), (Str.ofString "\u000d", Str.ofString "&#13;"), (Str.ofString "\t", Str.ofString "&#9;")] = kv6.map fun kv => (S [kv.1], S kv.2)
  decide +kernel

theorem tells_snoc {ys : List TE} {kvs : KV} {k v : Str} {c : Nat} {r : List Nat} {tk tv : Tok} (h : Tells ys kvs) (hk : k = S [c]) (hv : v = S r) (hc : kvs.all (fun kv => kv.1 != c) = true) : Tells (put ys k tk v tv) (kvs ++ [(c, r)]) := by
  have hm : (ys.findIdx? fun e => decide (e.1 = k)) = none := by
    rw [List.findIdx?_eq_none_iff]
    intro y hy
    obtain ⟨i, hi⟩ := List.mem_iff_getElem?.mp hy
    obtain ⟨kv, hkv, e1, _⟩ := tells_get h hi
    have := List.all_eq_true.mp hc kv hkv
    simp only [bne_iff_ne, ne_eq] at this
    simp only [decide_eq_false_iff_not]
    rw [e1, hk]
    intro e; have := S_inj e; simp at this; contradiction
  rw [put_miss _ _ _ hm]
  unfold Tells at h ⊢
  rw [List.map_append, List.map_append, h, hk, hv]
  rfl

section
variable {prog : Program} {w : World} {A : Around} {E : Value → Shared → Prop} {s : Shared} {h₀ : Heap} {L d : Addr} {m : Str → Option Value} {news news' : List (Addr × Obj)}
/-- d[k] = v with d in the ledger -/
theorem setItem_news {od : Obj} {ys : List TE} {k v : Str} {tk tv : Tok} {g : Obj → List (Addr × Obj)} {Q : Unit → Shared → Prop} (F : Fr h₀ L s.heap m) (N : News h₀ L s.heap news) (U : UpdF d od news g) (hd : TDo w od ys) (hz : ys.length ≤ 1000)
    (h : ∀ h' od', Fr h₀ L h' m → News h₀ L h' (g od') → TDo w od' (put ys k tk v tv) → Q () { s with heap := h', toks := s.toks + 1 }) :
    wpAny (model prog w) A (setItem (.ref d) (.str k tk) (.str v tv)) Q E s := by
  obtain ⟨pre, post, rfl, hg, a, b⟩ := U.split
  have z := N (d, od) (List.mem_append.mpr (.inr (.head _)))
  refine td_setItem (hd.td z.1) hz fun h' x hs => ?_
  obtain ⟨od', ep, ho, r⟩ := x
  exact h h' od' (F.change hs z.2.1 z.2.2) (hg od' ▸ news_set N a b hs ho) ⟨ep, r⟩
theorem tells_length {ys : List TE} {kvs : KV} (h : Tells ys kvs) : ys.length = kvs.length := by
  have := congrArg List.length h; simpa using this
theorem setItem_tells {od : Obj} {ys : List TE} {kvs : KV} {k v : Str} {c : Nat} {r : List Nat} {tk tv : Tok} {g : Obj → List (Addr × Obj)} {Q : Unit → Shared → Prop} (F : Fr h₀ L s.heap m) (N : News h₀ L s.heap news) (U : UpdF d od news g)
    (hd : TDo w od ys) (ht : Tells ys kvs) (hz : kvs.length ≤ 1000) (hk : k = S [c]) (hv : v = S r) (hc : kvs.all (fun kv => kv.1 != c) = true)
    (h : ∀ h' od' ys', Fr h₀ L h' m → News h₀ L h' (g od') → TDo w od' ys' → Tells ys' (kvs ++ [(c, r)]) → Q () { s with heap := h', toks := s.toks + 1 }) :
    wpAny (model prog w) A (setItem (.ref d) (.str k tk) (.str v tv)) Q E s :=
  setItem_news F N U hd (by rw [tells_length ht]; exact hz) fun h' od' F' N' D' => h h' od' _ F' N' D' (tells_snoc ht hk hv hc)
end

section
variable {prog : Program} {w : World} {A : Around} {E : Value → Shared → Prop} {s : Shared} {h₀ : Heap} {L d a : Addr} {m : Str → Option Value} {cn : Str} {cs : Scope} {ccd : Value}

/-- [bound] + [told.get(sign, sign) for sign in text] + [bound] -/
theorem value_ret {o od : Obj} {ys : List TE} {kvs : KV} {l : List Nat} {t tb : Tok} {bt : Nat} {p1 p2 p3 p4 p5 p6 p7 p8 p9 p10 p11 p12 p13 p14 : Pos} {csc : Scope} {pl : Addr → Sem Bool} {Q : Value → Shared → Prop} (hh : A.handled = none)
    (F : Fr h₀ L s.heap m) (N : News h₀ L s.heap [(d, od), (L + 1, o)]) (C : o.data = .cell (some (.ref d))) (D : TDo w od ys) (hS : (d == sysModules) = false) (ht : Tells ys kvs) (hl : l.length ≤ 100000)
    (hm1 : m "bound" = some (.str (S [bt]) tb)) (hm2 : m "text" = some (.str (S l) t))
    (hQ : ∀ h' tk D lt, (∀ b o, h₀.get? b = some o → h'.get? b = some o) → h₀.get? D = none → h'.IsList D (strValues lt).toArray → lt.map (·.1) = ([bt] :: (l.map (toldL kvs) ++ [[bt]])).map S → Q (.ref D) { s with heap := h', toks := tk })
    (hclos : closureFor csc (envX cn cs L a ccd [("told", L + 1)]) = pure [(("told" : Str), L + 1)]) (hcell : ∀ y ∈ csc.names, y.2 ≠ .cell) (hkind : csc.kind = .function)
    (hnames : ∀ y ∈ csc.names, y.2 = .local → csc.names.lookup y.1 = some .local) (hx : csc.names.lookup ("sign" : Str) = some .local)
    (hk : ∀ C, (compEnvC csc [("told", L + 1)] C (envX cn cs L a ccd [("told", L + 1)])).scope.kind = .function) (hx1 : ∀ C, (compEnvC csc [("told", L + 1)] C (envX cn cs L a ccd [("told", L + 1)])).kindOf "told" = some .cell)
    (hx2 : ∀ C, (compEnvC csc [("told", L + 1)] C (envX cn cs L a ccd [("told", L + 1)])).kindOf "sign" = some .local)
    (hM : ∀ C, eval (.Call (.Attribute (.Name "told" p3) "get" p4) [.Name "sign" p5, .Name "sign" p6] [] p7) (compEnvC csc [("told", L + 1)] C (envX cn cs L a ccd [("told", L + 1)])) = (do
      let ov ← eval (.Name "told" p3) (compEnvC csc [("told", L + 1)] C (envX cn cs L a ccd [("told", L + 1)]))
      standAt p4.atName
      let (f, first) ← holding [ov] (getMethod ov "get" (pl C))
      callWith p7 f first (backTo p7 (starEach [.Name "sign" p5, .Name "sign" p6] (compEnvC csc [("told", L + 1)] C (envX cn cs L a ccd [("told", L + 1)])))) []))
    (hk' : cs.kind = .function) (kx1 : (envX cn cs L a ccd [("told", L + 1)]).kindOf "bound" = some .local) (kx2 : (envX cn cs L a ccd [("told", L + 1)]).kindOf "text" = some .local)
    (hs1 : starEach [.Name "bound" p1] (envX cn cs L a ccd [("told", L + 1)]) = (false, eval (.Name "bound" p1) (envX cn cs L a ccd [("told", L + 1)])) :: starEach [] (envX cn cs L a ccd [("told", L + 1)]))
    (hs2 : starEach [.Name "bound" p12] (envX cn cs L a ccd [("told", L + 1)]) = (false, eval (.Name "bound" p12) (envX cn cs L a ccd [("told", L + 1)])) :: starEach [] (envX cn cs L a ccd [("told", L + 1)])) :
    wpAny (model prog w) A (eval (.BinOp (.BinOp (.List [.Name "bound" p1] p2) .Add (.ListComp (.Call (.Attribute (.Name "told" p3) "get" p4) [.Name "sign" p5, .Name "sign" p6] [] p7) [⟨.Name "sign" p8, .Name "text" p9, [], 0⟩] csc p10) p11) .Add (.List [.Name "bound" p12] p13) p14)
      (envX cn cs L a ccd [("told", L + 1)])) Q E s := by
  refine wpAny_BinOp (wpAny_BinOp (List_ (spliced_more (nameX_L F hm1 (spliced_none (newList_N F N fun h1 F1 N1 => ?_)) hk' kx1) hs1)))
  have hd1 := (N1 (d, od) (.tail _ (.head _))).1
  have hc1 := (N1 (L + 1, o) (.tail _ (.tail _ (.head _)))).1
  refine comp_told (s := { s with heap := h1 }) (l := l) (t := t) hh hc1 C hd1 D hS ht hl (fun Q' hq => nameX_L (s := { s with heap := h1 }) F1 hm2 hq hk' kx2) ?_ hclos hcell hkind hnames hx hk hx1 hx2 hM
  intro h2 tk2 D2 lt k2 hD2 hL2 hlt
  have F2 := F1.keeps k2
  have N2 := N1.grown k2
  dsimp only at F2 N2 ⊢
  generalize hD1 : s.heap.objs.size = D1 at N1 N2
  have hL1 : h2.IsList D1 #[.str (S [bt]) tb] := ⟨_, (N2 _ (.head _)).1, rfl, _, rfl⟩
  have hlen : lt.length = l.length := by have := congrArg List.length hlt; simpa using this
  have sz : sizeLine = 16777216 := rfl
  refine kmk_add_lit (s := ⟨_, _, _, _, _⟩) (zs := .str (S [bt]) tb :: strValues lt) F2 N2 hL1 hL2 (by simp) (fun D3 h3 F3 N3 _ => ?_) (by simp [strValues]; omega)
  refine List_ (spliced_more (nameX_L (s := ⟨_, _, _, _, _⟩) F3 hm1 (spliced_none (newList_N (s := ⟨_, _, _, _, _⟩) F3 N3 fun h4 F4 N4 => ?_)) hk' kx1) hs2)
  have hL4 : h4.IsList D3 (Value.str (S [bt]) tb :: strValues lt).toArray := ⟨_, (N4 _ (.tail _ (.head _))).1, rfl, _, rfl⟩
  have hL5 : h4.IsList h3.objs.size #[.str (S [bt]) tb] := ⟨_, (N4 _ (.head _)).1, rfl, _, rfl⟩
  refine kmk_add_lit (s := ⟨_, _, _, _, _⟩) (zs := strValues ((S [bt], tb) :: (lt ++ [(S [bt], tb)]))) F4 N4 hL4 hL5 (by simp [strValues]) (fun D6 h6 F6 N6 _ => ?_) (by simp [strValues]; omega)
  refine hQ h6 tk2 D6 _ F6.keep (N6 _ (.head _)).2.2 ⟨_, (N6 _ (.head _)).1, rfl, _, rfl⟩ ?_
  simp [hlt]
end

set_option maxHeartbeats 2000000 in
theorem value_go {prog : Program} {w : World} {p : Program} {loose : List Str} {mean : ExcName → Option Value} {mg mb : Str → Option Value} {s : Shared} {Q E : Value → Shared → Prop}
    {dp un : Nat} {fr : Option (List Env)} {gd : Option (List Code)} {l : List Nat} {t : Tok} {b : Bool}
    (KX : (hd.heap_39 w.params).In s.heap) (T : Top p loose mean mg mb s.heap) (hdp : dp + 6 < recursionLimit) (hl : l.length ≤ 1000) (hbig : sysModules < s.heap.objs.size)
    (h : ∀ h' tk D lt, (∀ b o, s.heap.get? b = some o → h'.get? b = some o) → s.toks ≤ tk → h'.IsList D (strValues lt).toArray → s.heap.get? D = none → lt.map (·.1) = (valueU b l).map S → Q (.ref D) { s with heap := h', toks := tk }) :
    wpAny (model prog w) { handled := none, depth := dp, frames := fr, guards := gd, units := un } (call (.ref 81) [.str (S l) t, .bool b]) Q E s := by
  have TR := topRead_of T
  refine' enter_cells (bm := fun y => if y = "safe" then some (.bool b) else if y = "text" then some (.str (S l) t) else none) (bc := fun _ => none) KX T.nolimit ?ho ?hcd ?hroom ?hbind ?hkind ?hnd (fun L => [("told", L + 1)]) ?hcl ?hbm ?hbc ?_ ?c1 ?c2 ?c3
  case ho => k_is
  case hcd => k_is
  case hroom => exact Nat.lt_of_le_of_lt (Nat.le_add_right _ 6) (by assumption)
  case hbind => exact BindsTo.of_eq rfl
  case hkind => intro n; exact kindsX rfl n
  case hnd => decide +kernel
  case hcl => intro _; rfl
  case hbm => intro _; rfl
  case hbc => intro _; rfl
  case c1 => rfl
  case c2 => rfl
  case c3 => rfl
  intro L h₁ tk cells hLe F N C
  obtain ⟨o, rfl, hod⟩ := CellsAre.one C
  clear C
  have hLn : L < h₁.objs.size := F.ns.lt
  with_reducible refine wpAny_execs_cons ?_
  with_reducible refine wpAny_Assign_Name ?_ ?hs
  case hs => rfl
  with_reducible refine dict_consts (ys := ys6 tk) ?h1 ?h2 ?h3 ?_
  case h1 => rfl
  case h2 => rfl
  case h3 => exact Nat.le_of_ble_eq_true rfl
  iterate 6 (with_reducible refine pairs_step ?_; dsimp only)
  with_reducible refine pairs_end ?_
  refine ⟨rfl, td_empty h₁, ?_, ?_⟩
  · show List.Nodup [Str.ofString "&", Str.ofString "<", Str.ofString ">", Str.ofString "\n", Str.ofString "\u000d", Str.ofString "\t"]
    decide +kernel
  intro h2 tk2 x2 hs2 htk2
  dsimp only at hs2 htk2 x2 ⊢
  obtain ⟨od, F2, N2, D2⟩ := news_dict F N hs2 x2
  generalize hd' : h₁.objs.size = d at N2
  have hdL : d ≠ L + 1 := by rw [← hd']; exact Nat.ne_of_gt (Heap.lt_size (N (L + 1, o) (.head _)).1)
  with_reducible refine storeX_C (s := ⟨_, _, _, _, _⟩) F2 N2 ?hc (.tail hdL (.head ?hcc)) hod ?_ ?hk ?hx
  case hc => rfl
  case hcc => intro p hp; cases hp
  case hk => rfl
  case hx => rfl
  intro h3 o3 F3 N3 C3
  dsimp only at F3 N3 ⊢
  ((with_reducible refine wpAny_execs_cons ?_); (with_reducible refine wpAny_Assign_Name ?_ ?hs_x1); (case hs_x1 => rfl))
  (with_reducible refine Constant_str ?_)
  ((with_reducible refine storeX_L (s := ⟨_, _, _, _, _⟩) F3 N3 ?_ ?hk_x3 ?hx_x3); (case hk_x3 => rfl); (case hx_x3 => rfl))
  intro h4 F4 N4
  dsimp only at F4 N4 ⊢
  ((with_reducible refine wpAny_execs_cons ?_); (with_reducible refine wpAny_If ?_))
  ((with_reducible refine isTrue_plain ?_ ?he_x5); (case he_x5 => rfl))
  ((with_reducible refine' nameX_L F4 ?hv_x6 ?_ ?hk_x6 ?hx_x6 ?hd_x6); (case hv_x6 => rfl); (case hk_x6 => rfl); (case hx_x6 => rfl); (case hd_x6 => decide))
  with_reducible refine wpAny_truthy_bool ?_
  have hS : (d == sysModules) = false := by
    simp only [beq_eq_false_iff_ne]; rw [← hd']
    exact Nat.ne_of_gt (Nat.lt_of_lt_of_le hbig (Nat.le_of_lt (Nat.lt_of_le_of_lt F.above hLn)))
  have e34 : Str.ofString "\"" = S [34] := by decide +kernel
  have e39 : Str.ofString "'" = S [39] := by decide +kernel
  have T2 := ys6_tells tk
  cases b with
  | true =>
    simp only [if_true]
    (with_reducible refine wpAny_execs_cons ?_)
    with_reducible refine wpAny_Assign_Subscript ?_ ?hs
    case hs => rfl
    (with_reducible refine Constant_str ?_)
    ((with_reducible refine' nameX_C N4 ?hv_x9 ?hm_x9 C3 ?_ ?hk_x9 ?hx_x9 ?hd_x9); (case hv_x9 => rfl); (case hm_x9 => simp); (case hk_x9 => rfl); (case hx_x9 => rfl); (case hd_x9 => decide))
    (with_reducible refine Constant_str ?_)
    dsimp only
    refine setItem_tells (s := ⟨_, _, _, _, _⟩) F4 N4 (.head (by simp; exact hdL.symm)) D2 T2 (Nat.le_of_ble_eq_true rfl) (show Str.ofString "\\" = S [92] by decide +kernel) (show Str.ofString "&#92;" = S [38, 35, 57, 50, 59] by decide +kernel) rfl ?_
    intro h5 od5 ys5 F5 N5 D5 T5
    dsimp only at F5 N5 ⊢
    (with_reducible refine wpAny_execs_nil ?_)
    ((with_reducible refine wpAny_execs_cons ?_); (with_reducible refine wpAny_If ?_))
    with_reducible refine isTrue_or ?_
    ((with_reducible refine isTrue_plain ?_ ?he_x13); (case he_x13 => rfl))
    ((with_reducible refine' nameX_L F5 ?hv_x14 ?_ ?hk_x14 ?hx_x14 ?hd_x14); (case hv_x14 => rfl); (case hk_x14 => rfl); (case hx_x14 => rfl); (case hd_x14 => decide))
    with_reducible refine wpAny_truthy_bool ?_
    simp only [if_true]
    (with_reducible refine wpAny_execs_cons ?_)
    with_reducible refine wpAny_Assign_Subscript ?_ ?hs
    case hs => rfl
    (with_reducible refine Constant_str ?_)
    ((with_reducible refine' nameX_C N5 ?hv_x17 ?hm_x17 C3 ?_ ?hk_x17 ?hx_x17 ?hd_x17); (case hv_x17 => rfl); (case hm_x17 => simp); (case hk_x17 => rfl); (case hx_x17 => rfl); (case hd_x17 => decide))
    (with_reducible refine Constant_str ?_)
    dsimp only
    refine setItem_tells (s := ⟨_, _, _, _, _⟩) F5 N5 (.head (by simp; exact hdL.symm)) D5 T5 (Nat.le_of_ble_eq_true rfl) (show Str.ofString "\"" = S [34] by decide +kernel) (show Str.ofString "&quot;" = S [38, 113, 117, 111, 116, 59] by decide +kernel) rfl ?_
    intro h6 od6 ys6 F6 N6 D6 T6
    dsimp only at F6 N6 ⊢
    (with_reducible refine wpAny_execs_nil ?_)
    with_reducible refine wpAny_execs_cons ?_
    with_reducible refine wpAny_Return_some ?_
    refine' value_ret (s := ⟨_, _, _, _, _⟩) (l := l) (bt := 34) rfl F6 N6 C3 D6 hS T6 (by omega) ?hm1_1 rfl ?hQ_1 rfl ?d1_1 rfl ?d2_1 rfl ?d3_1 ?d4_1 ?d5_1 ?d6_1 rfl rfl rfl rfl rfl
    case hm1_1 => exact congrArg (fun z => some (Value.str z _)) e34
    case d1_1 => decide
    case d2_1 => decide
    case d3_1 => intro _; rfl
    case d4_1 => intro _; rfl
    case d5_1 => intro _; rfl
    case d6_1 => intro _; rfl
    case hQ_1 =>
      intro h' tk' D' lt k' hD' hL' hlt htk'
      refine h h' tk' D' lt k' htk' hL' hD' ?_
      rw [hlt]
      simp [valueU, boundT, kvQ]
  | false =>
    simp only [Bool.false_eq_true, if_false]
    (with_reducible refine wpAny_execs_nil ?_)
    ((with_reducible refine wpAny_execs_cons ?_); (with_reducible refine wpAny_If ?_))
    with_reducible refine isTrue_or ?_
    ((with_reducible refine isTrue_plain ?_ ?he_x22); (case he_x22 => rfl))
    ((with_reducible refine' nameX_L F4 ?hv_x23 ?_ ?hk_x23 ?hx_x23 ?hd_x23); (case hv_x23 => rfl); (case hk_x23 => rfl); (case hx_x23 => rfl); (case hd_x23 => decide))
    with_reducible refine wpAny_truthy_bool ?_
    simp only [Bool.false_eq_true, if_false]
    with_reducible refine isTrue_or ?_
    ((with_reducible refine wpAny_isTrue_Compare1 ?_ ?hm_x24); (case hm_x24 => with_unfolding_all rfl))
    (with_reducible refine Constant_str ?_)
    ((with_reducible refine' nameX_L F4 ?hv_x26 ?_ ?hk_x26 ?hx_x26 ?hd_x26); (case hv_x26 => rfl); (case hk_x26 => rfl); (case hx_x26 => rfl); (case hd_x26 => decide))
    refine in_str (wpAny_truthy_bool ?_)
    rw [in_one (c := 39) e39]
    by_cases q1 : 39 ∈ l
    · simp only [q1, decide_true, if_true]
      (with_reducible refine wpAny_execs_cons ?_)
      with_reducible refine wpAny_Assign_Subscript ?_ ?hs
      case hs => rfl
      (with_reducible refine Constant_str ?_)
      ((with_reducible refine' nameX_C N4 ?hv_x29 ?hm_x29 C3 ?_ ?hk_x29 ?hx_x29 ?hd_x29); (case hv_x29 => rfl); (case hm_x29 => simp); (case hk_x29 => rfl); (case hx_x29 => rfl); (case hd_x29 => decide))
      (with_reducible refine Constant_str ?_)
      dsimp only
      refine setItem_tells (s := ⟨_, _, _, _, _⟩) F4 N4 (.head (by simp; exact hdL.symm)) D2 T2 (Nat.le_of_ble_eq_true rfl) (show Str.ofString "\"" = S [34] by decide +kernel) (show Str.ofString "&quot;" = S [38, 113, 117, 111, 116, 59] by decide +kernel) rfl ?_
      intro h6 od6 ys6 F6 N6 D6 T6
      dsimp only at F6 N6 ⊢
      (with_reducible refine wpAny_execs_nil ?_)
      with_reducible refine wpAny_execs_cons ?_
      with_reducible refine wpAny_Return_some ?_
      refine' value_ret (s := ⟨_, _, _, _, _⟩) (l := l) (bt := 34) rfl F6 N6 C3 D6 hS T6 (by omega) ?hm1_2 rfl ?hQ_2 rfl ?d1_2 rfl ?d2_2 rfl ?d3_2 ?d4_2 ?d5_2 ?d6_2 rfl rfl rfl rfl rfl
      case hm1_2 => exact congrArg (fun z => some (Value.str z _)) e34
      case d1_2 => decide
      case d2_2 => decide
      case d3_2 => intro _; rfl
      case d4_2 => intro _; rfl
      case d5_2 => intro _; rfl
      case d6_2 => intro _; rfl
      case hQ_2 =>
        intro h' tk' D' lt k' hD' hL' hlt htk'
        refine h h' tk' D' lt k' htk' hL' hD' ?_
        rw [hlt]
        simp [valueU, boundT, kvQ, q1]
    · simp only [q1, decide_false, Bool.false_eq_true, if_false]
      refine isTrue_or_nil ?_
      simp only [Bool.false_eq_true, if_false]
      ((with_reducible refine wpAny_execs_cons ?_); (with_reducible refine wpAny_If ?_))
      ((with_reducible refine wpAny_isTrue_Compare1 ?_ ?hm_x33); (case hm_x33 => with_unfolding_all rfl))
      (with_reducible refine Constant_str ?_)
      ((with_reducible refine' nameX_L F4 ?hv_x35 ?_ ?hk_x35 ?hx_x35 ?hd_x35); (case hv_x35 => rfl); (case hk_x35 => rfl); (case hx_x35 => rfl); (case hd_x35 => decide))
      refine in_str (wpAny_truthy_bool ?_)
      rw [in_one (c := 34) e34]
      by_cases q2 : 34 ∈ l
      · simp only [q2, decide_true, if_true]
        ((with_reducible refine wpAny_execs_cons ?_); (with_reducible refine wpAny_Assign_Name ?_ ?hs_x36); (case hs_x36 => rfl))
        (with_reducible refine Constant_str ?_)
        ((with_reducible refine storeX_L (s := ⟨_, _, _, _, _⟩) F4 N4 ?_ ?hk_x38 ?hx_x38); (case hk_x38 => rfl); (case hx_x38 => rfl))
        intro h5 F5 N5
        dsimp only at F5 N5 ⊢
        (with_reducible refine wpAny_execs_nil ?_)
        (with_reducible refine wpAny_execs_nil ?_)
        with_reducible refine wpAny_execs_cons ?_
        with_reducible refine wpAny_Return_some ?_
        refine' value_ret (s := ⟨_, _, _, _, _⟩) (l := l) (bt := 39) rfl F5 N5 C3 D2 hS T2 (by omega) ?hm1_3 rfl ?hQ_3 rfl ?d1_3 rfl ?d2_3 rfl ?d3_3 ?d4_3 ?d5_3 ?d6_3 rfl rfl rfl rfl rfl
        case hm1_3 => exact congrArg (fun z => some (Value.str z _)) e39
        case d1_3 => decide
        case d2_3 => decide
        case d3_3 => intro _; rfl
        case d4_3 => intro _; rfl
        case d5_3 => intro _; rfl
        case d6_3 => intro _; rfl
        case hQ_3 =>
          intro h' tk' D' lt k' hD' hL' hlt htk'
          refine h h' tk' D' lt k' htk' hL' hD' ?_
          rw [hlt]
          simp [valueU, boundT, kvQ, q1, q2]
      · simp only [q2, decide_false, Bool.false_eq_true, if_false]
        (with_reducible refine wpAny_execs_nil ?_)
        (with_reducible refine wpAny_execs_nil ?_)
        with_reducible refine wpAny_execs_cons ?_
        with_reducible refine wpAny_Return_some ?_
        refine' value_ret (s := ⟨_, _, _, _, _⟩) (l := l) (bt := 34) rfl F4 N4 C3 D2 hS T2 (by omega) ?hm1_4 rfl ?hQ_4 rfl ?d1_4 rfl ?d2_4 rfl ?d3_4 ?d4_4 ?d5_4 ?d6_4 rfl rfl rfl rfl rfl
        case hm1_4 => exact congrArg (fun z => some (Value.str z _)) e34
        case d1_4 => decide
        case d2_4 => decide
        case d3_4 => intro _; rfl
        case d4_4 => intro _; rfl
        case d5_4 => intro _; rfl
        case d6_4 => intro _; rfl
        case hQ_4 =>
          intro h' tk' D' lt k' hD' hL' hlt htk'
          refine h h' tk' D' lt k' htk' hL' hD' ?_
          rw [hlt]
          simp [valueU, boundT, kvQ, q1, q2]
end
section
open PySem PySem.W PySem.Calls PyProof.Rows
set_option Elab.async false
set_option maxRecDepth 100000
set_option maxHeartbeats 1000000
set_option pp.deepTerms false
set_option pp.deepTerms.threshold 8
set_option pp.maxSteps 20000
theorem fill_nowL2 : (PySem.Challenge.rw_ij0162_01.Holds → hd.heap_39 = hd.heap_39) := by
  k_fill
  intro _; rfl

abbrev tupObj (vs : Array Value) : Obj := { cls := .type "tuple", data := .seq vs }
abbrev LP2 := List Nat × Bool
def PairN (ts : List (Addr × Obj)) (v : Value) (p : LP2) : Prop := ∃ a t, v = .ref a ∧ (a, tupObj #[.str (S p.1) t, .bool p.2]) ∈ ts
def PairV (h : Heap) (v : Value) (p : LP2) : Prop := ∃ a t, v = .ref a ∧ h.get? a = some (tupObj #[.str (S p.1) t, .bool p.2])

theorem Paired.mono {α β : Type} {F G : α → β → Prop} (h : ∀ a b, F a b → G a b) : ∀ {l₁ : List α} {l₂ : List β}, Paired F l₁ l₂ → Paired G l₁ l₂
  | _, _, .nil => .nil
  | _, _, .cons a r => .cons (h _ _ a) (Paired.mono h r)
theorem Paired.len {α β : Type} {F : α → β → Prop} : ∀ {l₁ : List α} {l₂ : List β}, Paired F l₁ l₂ → l₁.length = l₂.length
  | _, _, .nil => rfl
  | _, _, .cons _ r => congrArg (· + 1) (Paired.len r)
theorem Paired.app {α β : Type} {F : α → β → Prop} : ∀ {l₁ : List α} {l₂ : List β} {m₁ : List α} {m₂ : List β}, Paired F l₁ l₂ → Paired F m₁ m₂ → Paired F (l₁ ++ m₁) (l₂ ++ m₂)
  | _, _, _, _, .nil, h => h
  | _, _, _, _, .cons a r, h => .cons a (Paired.app r h)

structure LState where
  left : List LP2
  held : List LP2
  inside : Bool
  hid : Bool
def leftStep (s : LState) (u : List Nat) : LState :=
  let mark := decide (u = [34]) && !s.hid
  let hid' := decide (u = [92]) && !s.hid
  if (mark && s.inside) = true then ⟨s.left, [], false, hid'⟩
  else if (mark || s.inside) = true then ⟨s.left, s.held ++ [(u, s.hid)], true, hid'⟩
  else ⟨s.left ++ [(u, s.hid)], s.held, s.inside, hid'⟩
def leftSt (us : List (List Nat)) : LState := us.foldl leftStep ⟨[], [], false, false⟩
def leftU (us : List (List Nat)) : List LP2 := (leftSt us).left ++ (leftSt us).held
theorem leftSt_succ {us : List (List Nat)} {i : Nat} {u : List Nat} (h : us[i]? = some u) : leftSt (us.take (i + 1)) = leftStep (leftSt (us.take i)) u := by
  unfold leftSt
  rw [List.take_add_one, h]; simp
theorem left_len : ∀ (us : List (List Nat)) (s : LState), (us.foldl leftStep s).left.length + (us.foldl leftStep s).held.length ≤ us.length + (s.left.length + s.held.length)
  | [], s => by simp
  | u :: r, s => by
    have ih := left_len r (leftStep s u)
    have : (leftStep s u).left.length + (leftStep s u).held.length ≤ s.left.length + s.held.length + 1 := by
      unfold leftStep
      dsimp only
      split
      · simp only [List.length_nil]; omega
      · split <;> simp only [List.length_append, List.length_singleton] <;> omega
    rw [List.foldl_cons, List.length_cons]
    omega

section
variable {prog : Program} {w : World} {A : Around} {E : Value → Shared → Prop} {s : Shared} {name : Str} {scope : Scope} {L a : Addr} {cd : Value} {h₀ : Heap} {m : Str → Option Value} {news : List (Addr × Obj)}

/-- unit == 'c' and not hidden -/
theorem mark_val {cst : Str} {u : List Nat} {c : Nat} {t : Tok} {hb : Bool} {k : Nat} {p1 p2 p3 p4 p5 p6 : Pos} {Q : Value → Shared → Prop} (F : Fr h₀ L s.heap m) (hu : m "unit" = some (.str (S u) t)) (hh : m "hidden" = some (.bool hb)) (hc : cst = S [c])
    (h : ∀ tk, Q (.bool (decide (u = [c]) && !hb)) { s with toks := tk })
    (hk : scope.kind = .function := by rfl) (k1 : (envOf name scope L a cd).kindOf "unit" = some .local := by rfl) (k2 : (envOf name scope L a cd).kindOf "hidden" = some .local := by rfl) :
    wpAny (model prog w) A (eval (.BoolOp .And [.Compare (.Name "unit" p1) [.Eq] [.Constant (.str cst) k p2] p3, .UnaryOp .Not (.Name "hidden" p4) p5] p6) (envOf name scope L a cd)) Q E s := by
  refine BoolOp_and (wpAny_Compare1 (ld F hu (Constant_str (eq_str (wpAny_truthy_bool ?_))) hk k1))
  rw [eq_S (r := [c]) hc]
  by_cases e : u = [c]
  · simp only [e, decide_true, if_true, Bool.true_and] at h ⊢
    refine BoolOp_one (UnaryOp_ (ld (s := ⟨_, _, _, _, _⟩) F hh (not_of (wpAny_truthy_bool (h _))) hk k2))
  · simp only [e, decide_false, Bool.false_eq_true, if_false, Bool.false_and] at h ⊢
    exact h _

/-- xs.append(x) of a named list; the rest of the ledger is kept -/
theorem app_any {xl xv : Str} {p1 p2 p3 p4 p5 : Pos} {D : Addr} {its : Array Value} {n : Nat} {v : Value} {Q : Flow → Shared → Prop} {pl : Sem Bool} (F : Fr h₀ L s.heap m) (N : News h₀ L s.heap news)
    (hx : m xl = some (.ref D)) (hv : m xv = some v) (hm : (D, listOf its n) ∈ news) (hsz : its.size ≤ 100000)
    (h : ∀ h', Fr h₀ L h' m → (∀ news' : List (Addr × Obj), (∀ p ∈ news', p = (D, listOf (its.push v) (n + 1)) ∨ (p ∈ news ∧ p.1 ≠ D)) → News h₀ L h' news') → Q .next { s with heap := h' })
    (hM : eval (.Call (.Attribute (.Name xl p1) "append" p2) [.Name xv p5] [] p3) (envOf name scope L a cd) = (do
      let ov ← eval (.Name xl p1) (envOf name scope L a cd)
      standAt p2.atName
      let (f, first) ← holding [ov] (getMethod ov "append" pl)
      callWith p3 f first (backTo p3 (starEach [.Name xv p5] (envOf name scope L a cd))) []) := by rfl)
    (hs : starEach [.Name xv p5] (envOf name scope L a cd) = (false, eval (.Name xv p5) (envOf name scope L a cd)) :: starEach [] (envOf name scope L a cd) := by rfl)
    (hi : interactive (envOf name scope L a cd) = false := by rfl) (hsw : swapsWith (.Call (.Attribute (.Name xl p1) "append" p2) [.Name xv p5] [] p3) none p4.line (envOf name scope L a cd) = pure false := by rfl)
    (hk : scope.kind = .function := by rfl) (k1 : (envOf name scope L a cd).kindOf xl = some .local := by rfl) (k2 : (envOf name scope L a cd).kindOf xv = some .local := by rfl) (d1 : (xl == ("__debug__" : Str)) = false := by decide) (d2 : (xv == ("__debug__" : Str)) = false := by decide) :
    wpAny (model prog w) A (exec (.Expr (.Call (.Attribute (.Name xl p1) "append" p2) [.Name xv p5] [] p3) p4) (envOf name scope L a cd)) Q E s := by
  refine wpAny_Expr_any ?_ hi hsw
  refine MethodCall_ (ld F hx (listMethod_K N hm PySem.F.slot_list_append PySem.F.type_list_append ?_) hk k1 d1) hM
  refine callWith_method1 (spliced_more (ld F hv (spliced_none ?_) hk k2 d2) hs) hs
  have z := N _ hm
  refine append_at (hsz := by have : sizeLine = 16777216 := rfl; omega) z.1 fun h' hs' ho' => h h' (F.change hs' z.2.1 z.2.2) ?_
  intro news' hn p hp
  rcases hn p hp with rfl | ⟨hp', hne⟩
  · exact ⟨ho', z.2⟩
  · exact ⟨(hs'.2 _ hne).trans (N p hp').1, (N p hp').2⟩
end

section
variable {prog : Program} {w : World} {A : Around} {E : Value → Shared → Prop} {s : Shared} {name : Str} {scope : Scope} {L a : Addr} {cd : Value} {h₀ : Heap} {m : Str → Option Value} {news : List (Addr × Obj)}
theorem and2 {x y : Str} {b1 b2 : Bool} {p1 p2 p3 : Pos} {whole : Sem Value} {Q : Bool → Shared → Prop} (F : Fr h₀ L s.heap m) (h1 : m x = some (.bool b1)) (h2 : m y = some (.bool b2)) (h : Q (b1 && b2) s)
    (hk : scope.kind = .function := by rfl) (k1 : (envOf name scope L a cd).kindOf x = some .local := by rfl) (k2 : (envOf name scope L a cd).kindOf y = some .local := by rfl) (d1 : (x == ("__debug__" : Str)) = false := by decide) (d2 : (y == ("__debug__" : Str)) = false := by decide) :
    wpAny (model prog w) A (isTrue (.BoolOp .And [.Name x p1, .Name y p2] p3) (envOf name scope L a cd) whole) Q E s := by
  refine isTrue_and (isTrue_plain (ld F h1 (wpAny_truthy_bool ?_) hk k1 d1))
  cases b1 with
  | false => exact h
  | true =>
    simp only [if_true]
    refine isTrue_and (isTrue_plain (ld F h2 (wpAny_truthy_bool ?_) hk k2 d2))
    cases b2 with
    | false => exact h
    | true => exact isTrue_and_nil h
theorem or2 {x y : Str} {b1 b2 : Bool} {p1 p2 p3 : Pos} {whole : Sem Value} {Q : Bool → Shared → Prop} (F : Fr h₀ L s.heap m) (h1 : m x = some (.bool b1)) (h2 : m y = some (.bool b2)) (h : Q (b1 || b2) s)
    (hk : scope.kind = .function := by rfl) (k1 : (envOf name scope L a cd).kindOf x = some .local := by rfl) (k2 : (envOf name scope L a cd).kindOf y = some .local := by rfl) (d1 : (x == ("__debug__" : Str)) = false := by decide) (d2 : (y == ("__debug__" : Str)) = false := by decide) :
    wpAny (model prog w) A (isTrue (.BoolOp .Or [.Name x p1, .Name y p2] p3) (envOf name scope L a cd) whole) Q E s := by
  refine isTrue_or (isTrue_plain (ld F h1 (wpAny_truthy_bool ?_) hk k1 d1))
  cases b1 with
  | true => exact h
  | false =>
    simp only [Bool.false_eq_true, if_false]
    refine isTrue_or (isTrue_plain (ld F h2 (wpAny_truthy_bool ?_) hk k2 d2))
    cases b2 with
    | true => exact h
    | false => exact isTrue_or_nil h
theorem news_sub {h : Heap} {l l' : List (Addr × Obj)} (N : News h₀ L h l) (hs : ∀ p ∈ l', p ∈ l) : News h₀ L h l' := fun p hp => N p (hs p hp)
end

def JLeft (us : List (List Nat)) (i : Nat) (m : Str → Option Value) (news : List (Addr × Obj)) : Prop :=
  ∃ st Dl Dh vl vh nl nh ts, st = leftSt (us.take i) ∧ m "left" = some (.ref Dl) ∧ m "held" = some (.ref Dh) ∧ m "inside" = some (.bool st.inside) ∧ m "hidden" = some (.bool st.hid) ∧ Dl ≠ Dh ∧
    news = (Dl, listOf (List.toArray vl) nl) :: (Dh, listOf (List.toArray vh) nh) :: ts ∧ Paired (PairN ts) vl st.left ∧ Paired (PairN ts) vh st.held ∧ ∀ p ∈ ts, ∃ x, p.2 = tupObj x

theorem PairN.cons {ts : List (Addr × Obj)} {q : Addr × Obj} {v : Value} {p : LP2} (h : PairN ts v p) : PairN (q :: ts) v p := let ⟨a, t, e, hm⟩ := h; ⟨a, t, e, .tail _ hm⟩

theorem left_go {prog : Program} {w : World} {p : Program} {loose : List Str} {mean : ExcName → Option Value} {mg mb : Str → Option Value} {s : Shared} {Q E : Value → Shared → Prop}
    {dp un : Nat} {fr : Option (List Env)} {gd : Option (List Code)} {ax : Addr} {lt0 : List (Str × Tok)} {us : List (List Nat)}
    (KX : (hd.heap_39 w.params).In s.heap) (T : Top p loose mean mg mb s.heap) (hdp : dp + 6 < recursionLimit)
    (hax : s.heap.IsList ax (strValues lt0).toArray) (hlt0 : lt0.map (·.1) = us.map S) (hls : us.length ≤ 10000) (hb : AllBare s.gens)
    (h : ∀ h' tk g' D vs, (∀ b o, s.heap.get? b = some o → h'.get? b = some o) → s.toks ≤ tk → AllBare g' → h'.IsList D (List.toArray vs) → s.heap.get? D = none → Paired (PairV h') vs (leftU us) → Q (.ref D) { s with heap := h', toks := tk, gens := g' }) :
    wpAny (model prog w) { handled := none, depth := dp, frames := fr, guards := gd, units := un } (call (.ref 88) [.ref ax]) Q E s := by
  have TR := topRead_of T
  walk_at "mine.enter"
  intro L h₁ F N
  ((with_reducible refine wpAny_execs_cons ?_); (with_reducible refine wpAny_Assign_Name ?_ ?hs_x43); (case hs_x43 => rfl))
  refine List_ (spliced_nil (newList_N (s := ⟨_, _, _, _, _⟩) F N fun h2 F2 N2 => ?_))
  ((with_reducible refine stN (s := ⟨_, _, _, _, _⟩) F2 N2 ?_ ?hk_x44 ?hx_x44); (case hk_x44 => rfl); (case hx_x44 => rfl))
  intro h3 F3 N3
  ((with_reducible refine wpAny_execs_cons ?_); (with_reducible refine wpAny_Assign_Name ?_ ?hs_x45); (case hs_x45 => rfl))
  refine List_ (spliced_nil (newList_N (s := ⟨_, _, _, _, _⟩) F3 N3 fun h4 F4 N4 => ?_))
  ((with_reducible refine stN (s := ⟨_, _, _, _, _⟩) F4 N4 ?_ ?hk_x46 ?hx_x46); (case hk_x46 => rfl); (case hx_x46 => rfl))
  intro h5 F5 N5
  ((with_reducible refine wpAny_execs_cons ?_); (with_reducible refine wpAny_Assign_Name ?_ ?hs_x47); (case hs_x47 => rfl))
  with_reducible refine Constant_bool ?_
  ((with_reducible refine stN (s := ⟨_, _, _, _, _⟩) F5 N5 ?_ ?hk_x48 ?hx_x48); (case hk_x48 => rfl); (case hx_x48 => rfl))
  intro h6 F6 N6
  ((with_reducible refine wpAny_execs_cons ?_); (with_reducible refine wpAny_Assign_Name ?_ ?hs_x49); (case hs_x49 => rfl))
  with_reducible refine Constant_bool ?_
  ((with_reducible refine stN (s := ⟨_, _, _, _, _⟩) F6 N6 ?_ ?hk_x50 ?hx_x50); (case hk_x50 => rfl); (case hx_x50 => rfl))
  intro h7 F7 N7
  dsimp only at F7 N7 ⊢
  replace N7 : News s.heap L h7 [(h₁.objs.size, listOf (List.toArray []) 0), (h3.objs.size, listOf (List.toArray []) 0)] := news_sub N7 (by intro p hp; simpa [or_comm] using hp)
  have hne : h₁.objs.size ≠ h3.objs.size := Nat.ne_of_lt (Heap.lt_size (N3 _ (.head _)).1)
  have hDl : s.heap.objs.size ≤ h₁.objs.size := Nat.le_of_lt (Nat.lt_of_le_of_lt F.above F.ns.lt)
  have hL : L < h7.objs.size := F7.ns.lt
  have haxL : L ≠ ax := by
    obtain ⟨o, ho, _⟩ := hax
    exact Nat.ne_of_gt (Nat.lt_of_lt_of_le (Heap.lt_size ho) F.above)
  have hax7 : h7.IsList ax (strValues lt0).toArray := let ⟨o, ho, r⟩ := hax; ⟨o, F7.keep _ _ ho, r⟩
  have hlen : lt0.length = us.length := by have := congrArg List.length hlt0; simpa using this
  have haxlt : ax < s.heap.objs.size := by obtain ⟨o, ho, _⟩ := hax; exact Heap.lt_size ho
  (with_reducible refine wpAny_execs_cons ?_)
  refine wpAny_For (ld F7 rfl ?_) (fun x => rfl)
  refine loop_list (s := ⟨_, _, _, _, _⟩) rfl hax7 haxL F7 N7 hb (JLeft us) ?_ ?_ ?_
  · exact ⟨_, h₁.objs.size, h3.objs.size, [], [], 0, 0, [], rfl, rfl, rfl, rfl, rfl, hne, rfl, .nil, .nil, fun _ h => nomatch h⟩
  · rintro i v m₁ news₁ h8 tk8 g₁ own I hi ⟨st, Dl, Dh, vl, vh, nl, nh, ts, hst, hm1, hm2, hm3, hm4, hne', rfl, hpl, hph, hts⟩ hn hown hI hI2 hbg F8 N8
    refine hideQ fun QI hQI => ?_
    have hi' : i < lt0.length := by
      have := (Array.getElem?_eq_some_iff.mp hi).1
      simpa [strValues] using this
    have hil : i < us.length := by omega
    obtain ⟨tv, rfl⟩ : ∃ tv, v = .str (S us[i]) tv := by
      have e1 : (strValues lt0)[i]? = some v := by simpa using hi
      simp only [strValues, List.getElem?_map] at e1
      have e2 : lt0[i]? = some lt0[i] := by simp [hi']
      rw [e2] at e1
      have e3 := congrArg (fun z => z[i]?) hlt0
      simp only [List.getElem?_map, e2, Option.map_some] at e3
      have e4 : us[i]? = some us[i] := by simp [hil]
      rw [e4] at e3
      simp only [Option.map_some, Option.some.injEq] at e3 e1
      exact ⟨lt0[i].2, by rw [← e1, ← e3]⟩
    have hst' : leftSt (us.take (i + 1)) = leftStep st us[i] := by rw [leftSt_succ (List.getElem?_eq_getElem hil), ← hst]
    generalize us[i] = u at F8 hst'
    have hsz : vl.length + vh.length ≤ 100000 := by
      have e1 := Paired.len hpl
      have e2 := Paired.len hph
      have e3 := left_len (us.take i) ⟨[], [], false, false⟩
      rw [show (us.take i).foldl leftStep ⟨[], [], false, false⟩ = st from hst.symm, List.length_take] at e3
      simp only [List.length_nil] at e3
      omega
    ((with_reducible refine wpAny_execs_cons ?_); (with_reducible refine wpAny_Assign_Name ?_ ?hs_x52); (case hs_x52 => rfl))
    refine Tuple_ (spliced_more (ld (s := ⟨_, _, _, _, _⟩) F8 rfl (spliced_more (ld (s := ⟨_, _, _, _, _⟩) F8 (by exact hm4) (spliced_none (newTuple_N (s := ⟨_, _, _, _, _⟩) F8 N8 fun h9 F9 N9 => ?_))))))
    ((with_reducible refine stN (s := ⟨_, _, _, _, _⟩) F9 N9 ?_ ?hk_x53 ?hx_x53); (case hk_x53 => rfl); (case hx_x53 => rfl))
    intro h10 F10 N10
    dsimp only at F10 N10 ⊢
    generalize hTT : h8.objs.size = TT at F10 N10
    have hTI : TT ≠ I := by rw [← hTT]; exact Nat.ne_of_gt hI
    have hTb : s.heap.objs.size ≤ TT := by rw [← hTT]; exact Nat.le_of_lt (Nat.lt_of_le_of_lt F8.above F8.ns.lt)
    ((with_reducible refine wpAny_execs_cons ?_); (with_reducible refine wpAny_Assign_Name ?_ ?hs_x54); (case hs_x54 => rfl))
    refine mark_val (s := ⟨_, _, _, _, _⟩) (c := 34) F10 rfl (by exact hm4) (by decide +kernel) fun tk11 => ?_
    ((with_reducible refine stN (s := ⟨_, _, _, _, _⟩) F10 N10 ?_ ?hk_x55 ?hx_x55); (case hk_x55 => rfl); (case hx_x55 => rfl))
    intro h11 F11 N11
    dsimp only at F11 N11 ⊢
    ((with_reducible refine wpAny_execs_cons ?_); (with_reducible refine wpAny_Assign_Name ?_ ?hs_x56); (case hs_x56 => rfl))
    refine mark_val (s := ⟨_, _, _, _, _⟩) (c := 92) F11 rfl (by exact hm4) (by decide +kernel) fun tk12 => ?_
    ((with_reducible refine stN (s := ⟨_, _, _, _, _⟩) F11 N11 ?_ ?hk_x57 ?hx_x57); (case hk_x57 => rfl); (case hx_x57 => rfl))
    intro h12 F12 N12
    dsimp only at F12 N12 ⊢
    have hIDl : Dl ≠ I := hn _ (.head _)
    have hIDh : Dh ≠ I := hn _ (.tail _ (.head _))
    have mDl : (Dl, listOf (List.toArray vl) nl) ∈ ((TT, tupObj #[Value.str (S u) tv, Value.bool st.hid]) :: (own ++ (Dl, listOf (List.toArray vl) nl) :: (Dh, listOf (List.toArray vh) nh) :: ts)) := .tail _ (List.mem_append_right _ (.head _))
    have mDh : (Dh, listOf (List.toArray vh) nh) ∈ ((TT, tupObj #[Value.str (S u) tv, Value.bool st.hid]) :: (own ++ (Dl, listOf (List.toArray vl) nl) :: (Dh, listOf (List.toArray vh) nh) :: ts)) := .tail _ (List.mem_append_right _ (.tail _ (.head _)))
    have gDl := (N12 (Dl, listOf (List.toArray vl) nl) (by simp)).1
    have gDh := (N12 (Dh, listOf (List.toArray vh) nh) (by simp)).1
    have gTT := (N12 (TT, tupObj #[Value.str (S u) tv, Value.bool st.hid]) (by simp)).1
    have notup : ∀ D its n, h12.get? D = some (listOf its n) → ∀ q ∈ (TT, tupObj #[Value.str (S u) tv, Value.bool st.hid]) :: ts, q.1 ≠ D := by
      intro D its n hD q hq e
      have g : h12.get? q.1 = some q.2 := by
        rcases List.mem_cons.mp hq with rfl | hq
        · exact gTT
        · exact (N12 q (by simp [hq])).1
      obtain ⟨x, hx⟩ : ∃ x, q.2 = tupObj x := by
        rcases List.mem_cons.mp hq with rfl | hq
        · exact ⟨_, rfl⟩
        · exact hts q hq
      rw [e, hD, hx] at g
      have g' := congrArg (Option.map Obj.cls) g
      simp at g'
    have ownDl : ∀ q ∈ own, q.1 ≠ Dl := by
      intro q hq e
      rcases hown q hq with h1 | h1
      · exact hIDl (e.symm.trans h1)
      · have z := (N12 (Dl, listOf (List.toArray vl) nl) (by simp)).2.2
        obtain ⟨o, ho, _⟩ := hax
        rw [← e.symm.trans h1] at ho
        rw [z] at ho; cases ho
    have ownDh : ∀ q ∈ own, q.1 ≠ Dh := by
      intro q hq e
      rcases hown q hq with h1 | h1
      · exact hIDh (e.symm.trans h1)
      · have z := (N12 (Dh, listOf (List.toArray vh) nh) (by simp)).2.2
        obtain ⟨o, ho, _⟩ := hax
        rw [← e.symm.trans h1] at ho
        rw [z] at ho; cases ho
    have hts' : ∀ q ∈ (TT, tupObj #[Value.str (S u) tv, Value.bool st.hid]) :: ts, ∃ x, q.2 = tupObj x := by
      intro q hq
      rcases List.mem_cons.mp hq with rfl | hq
      · exact ⟨_, rfl⟩
      · exact hts q hq
    have nI : ∀ q ∈ (TT, tupObj #[Value.str (S u) tv, Value.bool st.hid]) :: ts, q.1 ≠ I := by
      intro q hq
      rcases List.mem_cons.mp hq with rfl | hq
      · exact hTI
      · exact hn q (.tail _ (.tail _ hq))
    have new : PairN ((TT, tupObj #[Value.str (S u) tv, Value.bool st.hid]) :: ts) (.ref TT) (u, st.hid) := ⟨TT, tv, rfl, .head _⟩
    have hpl' := Paired.mono (fun _ _ h => PairN.cons (q := (TT, tupObj #[Value.str (S u) tv, Value.bool st.hid])) h) hpl
    have hph' := Paired.mono (fun _ _ h => PairN.cons (q := (TT, tupObj #[Value.str (S u) tv, Value.bool st.hid])) h) hph
    rw [leftStep] at hst'
    (try dsimp only at hst')
    ((with_reducible refine wpAny_execs_cons ?_); (with_reducible refine wpAny_If ?_))
    refine and2 (s := ⟨_, _, _, _, _⟩) F12 rfl (by exact hm3) ?_
    cases hmk : (decide (u = [34]) && !st.hid)
    all_goals cases hin : st.inside
    all_goals rw [hmk, hin] at hst'
    all_goals simp only [Bool.false_and, Bool.true_and, Bool.and_true, Bool.and_false, Bool.or_true, Bool.or_false, Bool.false_eq_true, if_false, if_true] at hst' ⊢
    · -- neither mark nor inside
      ((with_reducible refine wpAny_execs_cons ?_); (with_reducible refine wpAny_If ?_))
      refine or2 (s := ⟨_, _, _, _, _⟩) F12 rfl (by exact hm3) ?_
      rw [hmk, hin]
      simp only [Bool.or_false, Bool.false_eq_true, if_false]
      (with_reducible refine wpAny_execs_cons ?_)
      refine app_any (s := ⟨_, _, _, _, _⟩) (D := Dl) F12 N12 (by exact hm1) rfl mDl (by rw [List.size_toArray]; omega) ?_
      intro h13 F13 N13
      (with_reducible refine wpAny_execs_nil ?_)
      (with_reducible refine wpAny_execs_nil ?_)
      (with_reducible refine wpAny_execs_nil ?_)
      refine hQI .next _ ?_
      refine ⟨h13, _, _, _, (Dl, listOf (List.toArray (vl ++ [.ref TT])) (nl + 1)) :: (Dh, listOf (List.toArray vh) nh) :: (TT, tupObj #[Value.str (S u) tv, Value.bool st.hid]) :: ts, rfl, hbg, F13, N13 _ ?_, ?_, _, Dl, Dh, vl ++ [.ref TT], vh, nl + 1, nh, _, hst'.symm, hm1, hm2, by exact hm3.trans (by rw [hin]), rfl, hne', rfl, Paired.snoc hpl' new, hph', hts'⟩
      · intro q hq
        simp only [List.mem_append, List.mem_cons] at hq
        rcases hq with hq | rfl | rfl | hq
        · exact .inr ⟨by simp [hq], ownDl q hq⟩
        · exact .inl (by simp)
        · exact .inr ⟨by simp, hne'.symm⟩
        · refine .inr ⟨?_, notup Dl _ _ gDl q (by simpa using hq)⟩
          simp only [List.mem_append, List.mem_cons]
          rcases hq with hq | hq
          · exact .inl hq
          · exact .inr (.inr (.inr (.inr hq)))
      · intro q hq
        simp only [List.mem_cons] at hq
        rcases hq with rfl | rfl | hq
        · exact hIDl
        · exact hIDh
        · exact nI q (by simpa using hq)
    · -- inside, no mark
      ((with_reducible refine wpAny_execs_cons ?_); (with_reducible refine wpAny_If ?_))
      refine or2 (s := ⟨_, _, _, _, _⟩) F12 rfl (by exact hm3) ?_
      rw [hmk, hin]
      simp only [Bool.or_true, if_true]
      (with_reducible refine wpAny_execs_cons ?_)
      refine app_any (s := ⟨_, _, _, _, _⟩) (D := Dh) F12 N12 (by exact hm2) rfl mDh (by rw [List.size_toArray]; omega) ?_
      intro h13 F13 N13
      have N13' := N13 (own ++ (Dl, listOf (List.toArray vl) nl) :: (Dh, listOf (List.toArray (vh ++ [.ref TT])) (nh + 1)) :: (TT, tupObj #[Value.str (S u) tv, Value.bool st.hid]) :: ts) (by
        intro q hq
        simp only [List.mem_append, List.mem_cons] at hq
        rcases hq with hq | rfl | rfl | hq
        · exact .inr ⟨by simp [hq], ownDh q hq⟩
        · exact .inr ⟨mDl, hne'⟩
        · exact .inl (by simp)
        · refine .inr ⟨?_, notup Dh _ _ gDh q (by simpa using hq)⟩
          simp only [List.mem_append, List.mem_cons]
          rcases hq with hq | hq
          · exact .inl hq
          · exact .inr (.inr (.inr (.inr hq))))
      ((with_reducible refine wpAny_execs_cons ?_); (with_reducible refine wpAny_Assign_Name ?_ ?hs_x66); (case hs_x66 => rfl))
      with_reducible refine Constant_bool ?_
      ((with_reducible refine stN (s := ⟨_, _, _, _, _⟩) F13 N13' ?_ ?hk_x67 ?hx_x67); (case hk_x67 => rfl); (case hx_x67 => rfl))
      intro h14 F14 N14
      dsimp only at F14 N14 ⊢
      (with_reducible refine wpAny_execs_nil ?_)
      (with_reducible refine wpAny_execs_nil ?_)
      (with_reducible refine wpAny_execs_nil ?_)
      refine hQI .next _ ?_
      refine ⟨h14, _, _, _, (Dl, listOf (List.toArray vl) nl) :: (Dh, listOf (List.toArray (vh ++ [.ref TT])) (nh + 1)) :: (TT, tupObj #[Value.str (S u) tv, Value.bool st.hid]) :: ts, rfl, hbg, F14, N14, ?_, _, Dl, Dh, vl, vh ++ [.ref TT], nl, nh + 1, _, hst'.symm, hm1, hm2, rfl, rfl, hne', rfl, hpl', Paired.snoc hph' new, hts'⟩
      intro q hq
      simp only [List.mem_cons] at hq
      rcases hq with rfl | rfl | hq
      · exact hIDl
      · exact hIDh
      · exact nI q (by simpa using hq)
    · -- mark, not inside
      ((with_reducible refine wpAny_execs_cons ?_); (with_reducible refine wpAny_If ?_))
      refine or2 (s := ⟨_, _, _, _, _⟩) F12 rfl (by exact hm3) ?_
      rw [hmk, hin]
      simp only [Bool.or_false, if_true]
      (with_reducible refine wpAny_execs_cons ?_)
      refine app_any (s := ⟨_, _, _, _, _⟩) (D := Dh) F12 N12 (by exact hm2) rfl mDh (by rw [List.size_toArray]; omega) ?_
      intro h13 F13 N13
      have N13' := N13 (own ++ (Dl, listOf (List.toArray vl) nl) :: (Dh, listOf (List.toArray (vh ++ [.ref TT])) (nh + 1)) :: (TT, tupObj #[Value.str (S u) tv, Value.bool st.hid]) :: ts) (by
        intro q hq
        simp only [List.mem_append, List.mem_cons] at hq
        rcases hq with hq | rfl | rfl | hq
        · exact .inr ⟨by simp [hq], ownDh q hq⟩
        · exact .inr ⟨mDl, hne'⟩
        · exact .inl (by simp)
        · refine .inr ⟨?_, notup Dh _ _ gDh q (by simpa using hq)⟩
          simp only [List.mem_append, List.mem_cons]
          rcases hq with hq | hq
          · exact .inl hq
          · exact .inr (.inr (.inr (.inr hq))))
      ((with_reducible refine wpAny_execs_cons ?_); (with_reducible refine wpAny_Assign_Name ?_ ?hs_x73); (case hs_x73 => rfl))
      with_reducible refine Constant_bool ?_
      ((with_reducible refine stN (s := ⟨_, _, _, _, _⟩) F13 N13' ?_ ?hk_x74 ?hx_x74); (case hk_x74 => rfl); (case hx_x74 => rfl))
      intro h14 F14 N14
      dsimp only at F14 N14 ⊢
      (with_reducible refine wpAny_execs_nil ?_)
      (with_reducible refine wpAny_execs_nil ?_)
      (with_reducible refine wpAny_execs_nil ?_)
      refine hQI .next _ ?_
      refine ⟨h14, _, _, _, (Dl, listOf (List.toArray vl) nl) :: (Dh, listOf (List.toArray (vh ++ [.ref TT])) (nh + 1)) :: (TT, tupObj #[Value.str (S u) tv, Value.bool st.hid]) :: ts, rfl, hbg, F14, N14, ?_, _, Dl, Dh, vl, vh ++ [.ref TT], nl, nh + 1, _, hst'.symm, hm1, hm2, rfl, rfl, hne', rfl, hpl', Paired.snoc hph' new, hts'⟩
      intro q hq
      simp only [List.mem_cons] at hq
      rcases hq with rfl | rfl | hq
      · exact hIDl
      · exact hIDh
      · exact nI q (by simpa using hq)
    · -- mark, inside
      ((with_reducible refine wpAny_execs_cons ?_); (with_reducible refine wpAny_Assign_Name ?_ ?hs_x78); (case hs_x78 => rfl))
      refine List_ (spliced_nil (newList_N (s := ⟨_, _, _, _, _⟩) F12 N12 fun h13 F13 N13 => ?_))
      ((with_reducible refine stN (s := ⟨_, _, _, _, _⟩) F13 N13 ?_ ?hk_x79 ?hx_x79); (case hk_x79 => rfl); (case hx_x79 => rfl))
      intro h14 F14 N14
      dsimp only at F14 N14 ⊢
      ((with_reducible refine wpAny_execs_cons ?_); (with_reducible refine wpAny_Assign_Name ?_ ?hs_x80); (case hs_x80 => rfl))
      with_reducible refine Constant_bool ?_
      ((with_reducible refine stN (s := ⟨_, _, _, _, _⟩) F14 N14 ?_ ?hk_x81 ?hx_x81); (case hk_x81 => rfl); (case hx_x81 => rfl))
      intro h15 F15 N15
      dsimp only at F15 N15 ⊢
      have hIlt : I < h12.objs.size := Nat.lt_trans (Nat.lt_of_lt_of_eq hI hTT) (Heap.lt_size gTT)
      have hn2 : Dl ≠ h12.objs.size := Nat.ne_of_lt (Heap.lt_size gDl)
      (with_reducible refine wpAny_execs_nil ?_)
      (with_reducible refine wpAny_execs_nil ?_)
      refine hQI .next _ ?_
      refine ⟨h15, _, _, _, (Dl, listOf (List.toArray vl) nl) :: (h12.objs.size, listOf (List.toArray []) 0) :: (TT, tupObj #[Value.str (S u) tv, Value.bool st.hid]) :: ts, rfl, hbg, F15, news_sub N15 ?_, ?_, _, Dl, h12.objs.size, vl, [], nl, 0, _, hst'.symm, hm1, rfl, rfl, rfl, hn2, rfl, hpl', .nil, hts'⟩
      · intro q hq
        simp only [List.mem_append, List.mem_cons] at hq ⊢
        rcases hq with hq | rfl | rfl | hq | hq
        · exact .inr (.inr (.inl hq))
        · exact .inr (.inr (.inr (.inl rfl)))
        · exact .inl rfl
        · exact .inr (.inl hq)
        · exact .inr (.inr (.inr (.inr (.inr hq))))
      · intro q hq
        simp only [List.mem_cons] at hq
        rcases hq with rfl | rfl | hq
        · exact hIDl
        · exact Nat.ne_of_gt hIlt
        · exact nI q (by simpa using hq)
  · rintro h8 tk8 g8 m8 news8 F8 N8 ⟨st, Dl, Dh, vl, vh, nl, nh, ts, hst, hm1, hm2, hm3, hm4, hne', rfl, hpl, hph, hts⟩ hb8
    have hsize : (strValues lt0).toArray.size = us.length := by simp [strValues, hlen]
    rw [hsize, List.take_length] at hst
    have hsz : vl.length + vh.length ≤ 100000 := by
      have e1 := Paired.len hpl
      have e2 := Paired.len hph
      have e3 := left_len us ⟨[], [], false, false⟩
      rw [show us.foldl leftStep ⟨[], [], false, false⟩ = st from hst.symm] at e3
      simp only [List.length_nil] at e3
      omega
    have sz : sizeLine = 16777216 := rfl
    (with_reducible refine wpAny_execs_cons ?_)
    refine wpAny_Return_some (wpAny_BinOp (ld (s := ⟨_, _, _, _, _⟩) F8 hm1 (ld (s := ⟨_, _, _, _, _⟩) F8 hm2 ?_)))
    refine kmk_add_lit (s := ⟨_, _, _, _, _⟩) (zs := vl ++ vh) F8 N8 ⟨_, (N8 _ (.head _)).1, rfl, _, rfl⟩ ⟨_, (N8 _ (.tail _ (.head _))).1, rfl, _, rfl⟩ (by simp) (fun D h9 F9 N9 _ => ?_) (by simp; omega)
    intro htk
    refine h h9 _ g8 D (vl ++ vh) F9.keep htk hb8 ⟨_, (N9 _ (.head _)).1, rfl, _, rfl⟩ (N9 _ (.head _)).2.2 ?_
    rw [leftU, ← hst]
    have up : ∀ v q, PairN ts v q → PairV h9 v q := fun v q ⟨a, t, e, hm⟩ => ⟨a, t, e, (N9 _ (.tail _ (.tail _ (.tail _ hm)))).1⟩
    exact Paired.app (Paired.mono up hpl) (Paired.mono up hph)
end
section
open PySem PySem.W PySem.Calls PyProof.Rows
set_option Elab.async false
set_option maxRecDepth 100000
set_option maxHeartbeats 1000000
set_option pp.deepTerms false
set_option pp.deepTerms.threshold 8
set_option pp.maxSteps 20000
theorem turn_lt {i n : Nat} (h : i < n) : n + 1 - (i + 1) < n + 1 - i := by omega
section
variable {prog : Program} {w : World} {A : Around} {E : Value → Shared → Prop} {s : Shared}

/-- one turn of a comprehension over a list of pairs -/
theorem pair_turn {x x₂ : Str} {px px₂ tp : Pos} {k : Nat} {I ax C : Addr} {vs : List Value} {ps : List LP2} {i : Nat} {m : Str → Option Value} {cenv : Env} {Pn : Shared → Prop} {Ps : Nat → LP2 → Shared → Prop} (hh : A.handled = none)
    (hC : cenv.locals = C) (hx : cenv.kindOf x = some .local) (hx₂ : cenv.kindOf x₂ = some .local) (hp : (cenv.scope.kind == .class || (cenv.scope.kind == .module && cenv.locals != cenv.globals)) = false)
    (hit : s.heap.IsListIter I ax i) (hl : s.heap.IsList ax (List.toArray vs)) (hv : Paired (PairV s.heap) vs ps) (hn : s.heap.Ns C m) (hIax : I ≠ ax) (hCI : C ≠ I)
    (hI : ∀ v ∈ vs, v ≠ .ref I) (hxx : x ≠ x₂)
    (h1 : ∀ p, ps[i]? = some p → ∀ h' tk t m', h'.Ns C m' → m' x = some (.str (S p.1) t) → m' x₂ = some (.bool p.2) → h'.IsListIter I ax (i + 1) → (∀ b o, b ∉ [I, C] → s.heap.get? b = some o → h'.get? b = some o) → Ps i p { s with heap := h', toks := tk })
    (h2 : ps.length ≤ i → ∀ h', (∀ b o, b ∉ [I] → s.heap.get? b = some o → h'.get? b = some o) → Pn { s with heap := h' }) (hi : i ≤ ps.length) :
    wpAny (model prog w) A (pyNext (.ref I)) (fun r s₁ => match r with
      | none => Pn s₁
      | some v => wpAny (model prog w) A (letOwnedTupleGo (.Tuple [.Name x px, .Name x₂ px₂] k tp) (.ref I) v) (fun _ s₀ => wpAny (model prog w) A (assign (.Tuple [.Name x px, .Name x₂ px₂] k tp) cenv v) (fun _ s₂ => ∃ p, Ps i p s₂) E s₀) E s₁) E s := by
  have hlen : vs.length = ps.length := Paired.len hv
  rcases Nat.lt_or_ge i ps.length with hlt | hge
  · have hiv : i < vs.length := by omega
    have hget : ∀ {vs : List Value} {ps : List LP2} (hv : Paired (PairV s.heap) vs ps) (i : Nat), i < ps.length → ∃ v p, vs[i]? = some v ∧ ps[i]? = some p ∧ PairV s.heap v p := by
      intro vs ps hv
      induction hv with
      | nil => intro i hi; simp at hi
      | cons a r ih =>
        intro i hi
        cases i with
        | zero => exact ⟨_, _, rfl, rfl, a⟩
        | succ i => exact ih i (by simpa using hi)
    obtain ⟨v, p, ev, ep, a, t, rfl, ha⟩ := hget hv i hlt
    have hvm : (Value.ref a) ∈ vs := List.mem_of_getElem? ev
    have haI : a ≠ I := fun e => hI _ hvm (by rw [e])
    refine wpAny_pyNext_list_item hit hl (x := .ref a) (by simpa using ev) fun h₁ hit₁ hs₁ => ?_
    have hl₁ : h₁.IsList ax (List.toArray vs) := hl.extBut hs₁.extBut (Ne.symm hIax)
    have ha₁ : h₁.get? a = some (tupObj #[.str (S p.1) t, .bool p.2]) := hs₁.extBut _ _ haI ha
    have hn₁ : h₁.Ns C m := hn.sameBut hs₁ hCI
    dsimp only
    refine wpAny_letOwnedTupleGo_listiter hit₁ ?_
    refine wpAny_assign_Tuple (items := #[.str (S p.1) t, .bool p.2]) hh ⟨_, ha₁, rfl, _, rfl⟩ rfl rfl fun h₂ hx₂' => ?_
    replace hx₂' : Heap.ExtBut h₁.objs.size h₁ h₂ := hx₂'
    have k₂ : ∀ b o, h₁.get? b = some o → h₂.get? b = some o := fun b o e => hx₂' b o (Nat.ne_of_lt (Heap.lt_size e)) e
    show wpAny _ _ (do holding [Value.bool p.2] (assign (.Name x px) cenv (.str (S p.1) t)); do holding [] (assign (.Name x₂ px₂) cenv (.bool p.2)); pure ()) _ _ _
    have hn₂ : h₂.Ns cenv.locals m := by rw [hC]; exact hn₁.keeps k₂
    refine wpAny_bind (wpAny_holding (wpAny_assign_Name (wpAny_storeName_local hx hn₂ (fun h₃ hn₃ hs₃ => ?_) hp)))
    refine wpAny_bind (wpAny_holding (wpAny_assign_Name (wpAny_storeName_local hx₂ hn₃ (fun h₄ hn₄ hs₄ => wpAny_pure ?_) hp)))
    rw [hC] at hs₃ hs₄ hn₄
    · have kk : ∀ b o, b ≠ C → h₁.get? b = some o → h₄.get? b = some o := fun b o hb e => hs₄.extBut _ _ hb (hs₃.extBut _ _ hb (k₂ b o e))
      refine ⟨p, h1 p ep h₄ _ t _ hn₄ ?_ ?_ ?_ ?_⟩
      · simp [hxx]
      · simp
      · obtain ⟨o, ho, r⟩ := hit₁
        exact ⟨o, kk _ _ (Ne.symm hCI) ho, r⟩
      · intro b o hb e
        simp only [List.mem_cons, List.not_mem_nil, or_false, not_or] at hb
        exact kk b o hb.2 (hs₁.extBut b o hb.1 e)
  · have hin : i = ps.length := Nat.le_antisymm hi hge
    subst hin
    refine wpAny_pyNext_list_end hh hit hl (by simp [hlen]) fun h' he' => ?_
    exact h2 (Nat.le_refl _) h' fun b o hb e => he' b o (by simpa using hb) e

def lobj (lt : List (Str × Tok)) (n : Nat) : Obj := listOf (strValues lt).toArray n

theorem comp_pairs {x x₂ : Str} {px px₂ tp pe pos : Pos} {k : Nat} {iter : Expr} {ifs : List Expr} {scope : Scope} {env : Env} {ax : Addr} {vs : List Value} {ps : List LP2} {pz : LP2 → Bool} {Q : Value → Shared → Prop} (hh : A.handled = none) (hxx : x ≠ x₂)
    (hiter : ∀ Q' : Value → Shared → Prop, Q' (.ref ax) s → wpAny (model prog w) A (eval iter env) Q' E s)
    (hl : s.heap.IsList ax (List.toArray vs)) (hv : Paired (PairV s.heap) vs ps) (hps : ps.length ≤ 100000)
    (hifs : (ifs = [] ∧ pz = fun _ => true) ∨ ∃ c, ifs = [c] ∧ ∀ C p (s' : Shared) m' t E', s'.heap.Ns C m' → m' x = some (.str (S p.1) t) → m' x₂ = some (.bool p.2) →
      wpAny (model prog w) A (isTrue c (compEnvC scope [] C env) (eval c (compEnvC scope [] C env))) (fun ok s'' => ok = pz p ∧ Keeps s' s'') E' s')
    (hQ : ∀ h' tk D lt, (∀ b o, s.heap.get? b = some o → h'.get? b = some o) → s.heap.get? D = none → h'.IsList D (strValues lt).toArray → lt.map (·.1) = (ps.filter pz).map (fun p => S p.1) → Q (.ref D) { s with heap := h', toks := tk })
    (hclos : closureFor scope env = pure []) (hcell : ∀ y ∈ scope.names, y.2 ≠ .cell) (hkind : scope.kind = .function)
    (hnames : ∀ y ∈ scope.names, y.2 = .local → scope.names.lookup y.1 = some .local) (hx : scope.names.lookup x = some .local) (hx₂ : scope.names.lookup x₂ = some .local)
    (hs : ∀ x, foldedSetIterable iter env x = pure x) (hd : (x == ("__debug__" : Str)) = false := by decide) :
    wpAny (model prog w) A (eval (.ListComp (.Name x pe) [⟨.Tuple [.Name x px, .Name x₂ px₂] k tp, iter, ifs, 0⟩] scope pos) env) Q E s := by
  rw [eval_ListComp]
  refine wpAny_comprehension_free (use := none) rfl hs hclos hkind hnames (hiter _ (wpAny_pyIter_list hl ?_))
  generalize hs₂ : ({ s with heap := s.heap.push { cls := .type "list_iterator", data := .fields #[.ref ax, .int 0 0] } } : Shared) = s₂
  have hI2 : s₂.heap.objs.size = s.heap.objs.size + 1 := by rw [← hs₂]; exact Heap.size_push ..
  have haxlt : ax < s.heap.objs.size := by obtain ⟨o, ho, _⟩ := hl; exact Heap.lt_size ho
  have kI : ∀ b o, s.heap.get? b = some o → s₂.heap.get? b = some o := fun b o e => by rw [← hs₂]; exact Heap.get?_push_of_some _ e
  have hit₂ : s₂.heap.IsListIter s.heap.objs.size ax 0 := by rw [← hs₂]; exact ⟨_, Heap.get?_push_size _ rfl, rfl, rfl⟩
  refine wpAny_newObj_type (wpAny_newFunctionEnv hcell (by intro y hy; simp at hy) (fun h₁ hns₁ hsb₁ => ?_) hkind)
  dsimp only at hns₁ hsb₁ ⊢
  generalize hH2 : s₂.heap.push { cls := .type "list", dict := none, data := .seq ([] : List Value).toArray } = H2 at hns₁ hsb₁ ⊢
  have hC : H2.objs.size = s₂.heap.objs.size + 1 := by rw [← hH2, Heap.size_push]
  generalize hDe : s₂.heap.objs.size = D at hC hI2 ⊢
  generalize hCe : H2.objs.size = C at hC hns₁ hsb₁ ⊢
  generalize hIe : s.heap.objs.size = I at hI2 hit₂ haxlt ⊢
  have hDC : D ≠ C := by rw [hC]; exact Nat.ne_of_lt (Nat.lt_succ_self _)
  have hID : I ≠ D := by rw [hI2]; exact Nat.ne_of_lt (Nat.lt_succ_self _)
  have hIC : I ≠ C := by rw [hC, hI2]; exact Nat.ne_of_lt (Nat.lt_trans (Nat.lt_succ_self _) (Nat.lt_succ_self _))
  have old : ∀ b o, s₂.heap.get? b = some o → h₁.get? b = some o := fun b o e =>
    hsb₁.extBut b o (by rw [hC]; exact Nat.ne_of_lt (Nat.lt_succ_of_lt (hDe ▸ Heap.lt_size e))) (Heap.get?_push_of_some _ (hH2 ▸ Heap.get?_push_of_some _ e))
  have hacc : h₁.get? D = some (lobj [] 0) := hsb₁.extBut _ _ hDC (Heap.get?_push_of_some _ (hH2 ▸ hDe ▸ Heap.get?_push_size _ rfl))
  have below : ∀ b o, s.heap.get? b = some o → b ≠ I ∧ b ≠ D ∧ b ≠ C := fun b o e => by
    have h := Heap.lt_size e
    rw [hIe] at h
    exact ⟨Nat.ne_of_lt h, by rw [hI2]; exact Nat.ne_of_lt (Nat.lt_succ_of_lt h), by rw [hC, hI2]; exact Nat.ne_of_lt (Nat.lt_succ_of_lt (Nat.lt_succ_of_lt h))⟩
  have hkd : (compEnvC scope [] C env).scope.kind = .function := by simp [compEnvC, relabel, hkind]
  have kx : (compEnvC scope [] C env).kindOf x = some .local := lookup_relabel_local hx
  have kx₂ : (compEnvC scope [] C env).kindOf x₂ = some .local := lookup_relabel_local hx₂
  have hcp : ((compEnvC scope [] C env).scope.kind == .class || ((compEnvC scope [] C env).scope.kind == .module && (compEnvC scope [] C env).locals != (compEnvC scope [] C env).globals)) = false := by rw [hkd]; rfl
  have hvI : ∀ v ∈ vs, v ≠ .ref I := by
    have : ∀ {vs : List Value} {ps : List LP2}, Paired (PairV s.heap) vs ps → ∀ v ∈ vs, v ≠ .ref I := by
      intro vs ps h
      induction h with
      | nil => intro v hv; cases hv
      | cons a r ih =>
        intro v hv
        rcases List.mem_cons.mp hv with rfl | hv
        · obtain ⟨b, t, e, hb⟩ := a
          intro e'; rw [e] at e'; cases e'
          exact (below _ _ hb).1 rfl
        · exact ih v hv
    exact this hv
  have hlen : vs.length = ps.length := Paired.len hv
  have sz : sizeLine = 16777216 := rfl
  -- the state of the loop
  let Inv : Nat → Shared → Prop := fun kk s' => ∃ h' tk i lt n m', s' = { s₂ with heap := h', toks := tk } ∧ i ≤ ps.length ∧ kk = ps.length + 1 - i ∧ h'.IsListIter I ax i ∧ (∀ b o, s.heap.get? b = some o → h'.get? b = some o) ∧
    h'.get? D = some (lobj lt n) ∧ h'.Ns C m' ∧ lt.map (·.1) = ((ps.take i).filter pz).map (fun p => S p.1)
  have loop : ∀ s₃ : Shared, s₃ = { s₂ with heap := h₁, toks := s₂.toks + ([] : List (Str × Value)).length } →
      codeAny (model prog w) A (.compLoop (.ListComp (.Name x pe) [⟨.Tuple [.Name x px, .Name x₂ px₂] k tp, iter, ifs, 0⟩] scope pos) 0 (.ref I) (.ref D) (compEnvC scope [] C env)) (compPost (model prog w) A E none Q (.ref D) C) s₃ := by
    rintro s₃ rfl
    have start : Inv (ps.length + 1) { s₂ with heap := h₁, toks := s₂.toks + ([] : List (Str × Value)).length } :=
      ⟨h₁, _, 0, [], 0, _, rfl, Nat.zero_le _, rfl, by obtain ⟨o, ho, r⟩ := hit₂; exact ⟨o, old _ _ ho, r⟩, fun b o e => old b o (kI b o e), hacc, hns₁, rfl⟩
    have fin : ∀ (h' : Heap) (tk : Nat) (lt : List (Str × Tok)) (n : Nat) (m' : Str → Option Value), (∀ b o, s.heap.get? b = some o → h'.get? b = some o) → h'.get? D = some (lobj lt n) → h'.Ns C m' →
        lt.map (·.1) = (ps.filter pz).map (fun p => S p.1) → compPost (model prog w) A E none Q (.ref D) C (.ok .next) { s₂ with heap := h', toks := tk } := by
      intro h' tk lt n m' hk hD hn hlt
      refine ⟨m', hn, fun h'' hs'' => ?_⟩
      have hres := hQ h'' tk D lt (fun b o e => hs''.extBut b o (below b o e).2.2 (hk b o e)) (fr_none (by rw [hIe, hI2]; exact Nat.le_succ _)) ⟨_, hs''.extBut _ _ hDC hD, rfl, _, rfl⟩ hlt
      rw [← hs₂]
      exact hres
    have app : ∀ (h' : Heap) (tk i : Nat) (p : LP2) (t : Tok) (lt : List (Str × Tok)) (n : Nat) (m' : Str → Option Value) (E' : Value → Shared → Prop), ps[i]? = some p → pz p = true → h'.IsListIter I ax (i + 1) → (∀ b o, s.heap.get? b = some o → h'.get? b = some o) → h'.get? D = some (lobj lt n) → h'.Ns C m' →
        lt.map (·.1) = ((ps.take i).filter pz).map (fun p => S p.1) → m' x = some (.str (S p.1) t) →
        wpAny (model prog w) A (eval (.Name x pe) (compEnvC scope [] C env)) (fun v s₄ => wpAny (model prog w) A (call (.builtin "list.append") [.ref D, v]) (fun _ s₅ => ∃ m, m < ps.length + 1 - i ∧ Inv m s₅) E' s₄) E' { s₂ with heap := h', toks := tk } := by
      intro h' tk i p t lt n m' E' hp hpz hit hk hD hn hlt hm
      have hi : i < ps.length := (List.getElem?_eq_some_iff.mp hp).1
      refine wpAny_Name (wpAny_loadName_local (env := compEnvC scope [] C env) hkd kx (by exact hn) hm ?_) hd
      have hltl : lt.length ≤ ps.length := by
        have e1 := congrArg List.length hlt
        simp only [List.length_map] at e1
        rw [e1]
        exact Nat.le_trans (List.length_filter_le _ _) (by rw [List.length_take]; exact Nat.min_le_right _ _)
      refine append_at (s := { s₂ with heap := h', toks := tk }) (its := (strValues lt).toArray) (n := n) hD (hsz := by rw [List.size_toArray]; show (lt.map _).length ≤ _; rw [List.length_map, sz]; exact Nat.le_trans hltl (Nat.le_trans hps (Nat.le_of_ble_eq_true rfl))) fun h₅ hs₅ hD₅ => ?_
      refine ⟨ps.length + 1 - (i + 1), turn_lt hi, h₅, tk, i + 1, lt ++ [(S p.1, t)], n + 1, m', rfl, hi, rfl, ?_, fun b o e => hs₅.extBut b o (below b o e).2.1 (hk b o e), ?_, hn.sameBut hs₅ (Ne.symm hDC), ?_⟩
      · obtain ⟨o, ho, r⟩ := hit
        exact ⟨o, hs₅.extBut _ _ hID ho, r⟩
      · rw [hD₅, strValues_push]; rfl
      · rw [List.take_add_one, hp, List.filter_append, List.map_append, List.map_append, hlt]
        simp [hpz]
    have turn : ∀ (h' : Heap) (tk i : Nat) (lt : List (Str × Tok)) (n : Nat) (m' : Str → Option Value) (E' : Value → Shared → Prop) (G : Shared → Prop), i ≤ ps.length → h'.IsListIter I ax i → (∀ b o, s.heap.get? b = some o → h'.get? b = some o) → h'.get? D = some (lobj lt n) → h'.Ns C m' →
        lt.map (·.1) = ((ps.take i).filter pz).map (fun p => S p.1) →
        (∀ h₂ tk₂ p t m₂, ps[i]? = some p → h₂.Ns C m₂ → m₂ x = some (.str (S p.1) t) → m₂ x₂ = some (.bool p.2) → h₂.IsListIter I ax (i + 1) → (∀ b o, s.heap.get? b = some o → h₂.get? b = some o) → h₂.get? D = some (lobj lt n) → G { s₂ with heap := h₂, toks := tk₂ }) →
        wpAny (model prog w) A (pyNext (.ref I)) (fun r s₁ => match r with
          | none => compPost (model prog w) A E none Q (.ref D) C (.ok .next) s₁
          | some v => wpAny (model prog w) A (letOwnedTupleGo (.Tuple [.Name x px, .Name x₂ px₂] k tp) (.ref I) v) (fun _ s₀ => wpAny (model prog w) A (assign (.Tuple [.Name x px, .Name x₂ px₂] k tp) (compEnvC scope [] C env) v) (fun _ s₂ => G s₂) E' s₀) E' s₁) E' { s₂ with heap := h', toks := tk } := by
      intro h' tk i lt n m' E' G hi hit hk hD hn hlt hG
      have hv' : Paired (PairV h') vs ps := Paired.mono (fun v q ⟨a, t, e, hm⟩ => ⟨a, t, e, hk _ _ hm⟩) hv
      refine wpAny_mono (pair_turn (k := k) (px := px) (px₂ := px₂) (tp := tp) (s := { s₂ with heap := h', toks := tk }) (C := C) (m := m') (i := i) (cenv := compEnvC scope [] C env) (Pn := fun s₁ => compPost (model prog w) A E none Q (.ref D) C (.ok .next) s₁) (Ps := fun _ _ s' => G s') hh rfl kx kx₂ hcp hit
        (let ⟨o, ho, r⟩ := hl; ⟨o, hk _ _ ho, r⟩) hv' hn (Nat.ne_of_gt haxlt) (Ne.symm hIC) hvI hxx ?_ ?_ hi) (fun r s₁ h₁ => ?_) (fun _ _ e => e)
      · intro p hp h₂ tk₂ t m₂ a1 a2 a3 a4 a5
        exact hG h₂ tk₂ p t m₂ hp a1 a2 a3 a4 (fun b o e => a5 b o (by simp [(below b o e).1, (below b o e).2.2]) (hk b o e)) (a5 D _ (by simp [Ne.symm hID, hDC]) hD)
      · intro hge h₂ hk₂
        refine fin h₂ tk lt n m' (fun b o e => hk₂ b o (by simp [(below b o e).1]) (hk b o e)) (hk₂ D _ (by simp [Ne.symm hID]) hD) (hn.at' fun o e => hk₂ C o (by simp [Ne.symm hIC]) e) ?_
        rw [hlt, List.take_of_length_le hge]
      · cases r with
        | none => exact h₁
        | some v => exact wpAny_mono h₁ (fun _ s₀ h₀ => wpAny_mono h₀ (fun _ s' ⟨_, hp⟩ => hp) fun _ _ e => e) fun _ _ e => e
    rcases hifs with ⟨rfl, rfl⟩ | ⟨c, rfl, htest⟩
    · refine LCp.codeAny_compLoop_pair Inv ?_ (ps.length + 1) start
      rintro kk s' ⟨h', tk, i, lt, n, m', rfl, hi, rfl, hit, hk, hD, hn, hlt⟩
      refine turn h' tk i lt n m' _ _ hi hit hk hD hn hlt ?_
      intro h₂ tk₂ p t m₂ hp a1 a2 a3 a4 a5 a6
      exact app h₂ tk₂ i p t lt n m₂ _ hp rfl a4 a5 a6 a1 hlt a2
    · refine kct_loop Inv ?_ (ps.length + 1) start
      rintro kk s' ⟨h', tk, i, lt, n, m', rfl, hi, rfl, hit, hk, hD, hn, hlt⟩
      refine turn h' tk i lt n m' _ _ hi hit hk hD hn hlt ?_
      intro h₂ tk₂ p t m₂ hp a1 a2 a3 a4 a5 a6
      have hilt : i < ps.length := (List.getElem?_eq_some_iff.mp hp).1
      refine wpAny_mono (htest C p { s₂ with heap := h₂, toks := tk₂ } m₂ t _ a1 a2 a3) (fun ok s₃ h₃ => ?_) fun _ _ e => e
      obtain ⟨rfl, h₃', tk₃, rfl, k₃⟩ := h₃
      have hit₃ : h₃'.IsListIter I ax (i + 1) := let ⟨o, ho, r⟩ := a4; ⟨o, k₃ _ _ ho, r⟩
      cases hpz : pz p with
      | true =>
        simp only [if_true]
        exact app h₃' tk₃ i p t lt n m₂ _ hp hpz hit₃ (fun b o e => k₃ _ _ (a5 b o e)) (k₃ _ _ a6) (a1.keeps k₃) hlt a2
      | false =>
        simp only [Bool.false_eq_true, if_false]
        refine ⟨ps.length + 1 - (i + 1), turn_lt hilt, h₃', tk₃, i + 1, lt, n, m₂, rfl, hilt, rfl, hit₃, fun b o e => k₃ _ _ (a5 b o e), k₃ _ _ a6, a1.keeps k₃, ?_⟩
        rw [List.take_add_one, hp, List.filter_append, List.map_append, hlt]
        simp [hpz]
  exact codeAny_compStart_list (loop _ rfl) (wpAny_pyIter_listiter (by obtain ⟨o, ho, r⟩ := hit₂; exact ⟨o, old _ _ ho, r⟩) (loop _ rfl))
end
end
section
open PySem PySem.W PySem.Calls PyProof.Rows
set_option Elab.async false
def remP : List Nat → List Nat
  | [] => []
  | [a] => [a]
  | a :: b :: r => if a = 40 ∧ b = 41 then remP r else a :: remP (b :: r)
def hasP : List Nat → Bool
  | [] => false
  | [_] => false
  | a :: b :: r => (decide (a = 40) && decide (b = 41)) || hasP (b :: r)
theorem rep2_eq : ∀ l : List Nat, rep [40, 41] [] l 0 = remP l
  | [] => rfl
  | [a] => by simp [rep, remP, List.isPrefixOf]
  | a :: b :: r => by
    have h1 := rep2_eq r
    have h2 := rep2_eq (b :: r)
    unfold remP
    by_cases h : a = 40 ∧ b = 41
    · obtain ⟨rfl, rfl⟩ := h
      rw [if_pos ⟨rfl, rfl⟩, ← h1]
      simp [rep, List.isPrefixOf]
    · rw [if_neg h, ← h2]
      have : List.isPrefixOf [40, 41] (a :: b :: r) = false := by
        simp only [List.isPrefixOf, Bool.and_true]
        rw [Bool.eq_false_iff]
        intro e
        simp at e
        exact h ⟨e.1.symm, e.2.symm⟩
      rw [rep, if_neg (by rw [this]; simp)]
theorem remP_le : ∀ l : List Nat, (remP l).length ≤ l.length
  | [] => Nat.le_refl _
  | [a] => Nat.le_refl _
  | a :: b :: r => by
    have h1 := remP_le r
    have h2 := remP_le (b :: r)
    unfold remP
    split
    · simp only [List.length_cons]; omega
    · simp only [List.length_cons] at h2 ⊢; omega
theorem remP_lt : ∀ l : List Nat, hasP l = true → (remP l).length < l.length
  | [], h => by simp [hasP] at h
  | [a], h => by simp [hasP] at h
  | a :: b :: r, h => by
    have h1 := remP_le r
    unfold remP
    split
    · simp only [List.length_cons]; omega
    · rename_i hn
      have h2 := remP_lt (b :: r) (by
        unfold hasP at h
        rcases Bool.or_eq_true_iff.mp h with h | h
        · exact absurd (by simpa using h) hn
        · exact h)
      simp only [List.length_cons] at h2 ⊢; omega
theorem hasP_iff : ∀ l : List Nat, hasP l = true ↔ ∃ i, i + 2 ≤ l.length ∧ (l.drop i).take 2 = [40, 41]
  | [] => by simp [hasP]
  | [a] => by
    constructor
    · intro h; simp [hasP] at h
    · rintro ⟨i, h, _⟩; simp at h
  | a :: b :: r => by
    have ih := hasP_iff (b :: r)
    unfold hasP
    rw [Bool.or_eq_true_iff, ih]
    constructor
    · rintro (h | ⟨i, h1, h2⟩)
      · refine ⟨0, by simp, ?_⟩
        simp at h
        simp [h.1, h.2]
      · exact ⟨i + 1, by simp only [List.length_cons] at h1 ⊢; omega, by simpa using h2⟩
    · rintro ⟨i, h1, h2⟩
      cases i with
      | zero => left; simpa using h2
      | succ i => right; exact ⟨i, by simp only [List.length_cons] at h1 ⊢; omega, by simpa using h2⟩
def has2 (l : List Nat) : Bool := !(Builtin.Str.occurrences (S l) (S [40, 41]) 0 (S l).length 1).isEmpty
theorem has2_eq (l : List Nat) : has2 l = hasP l := by
  rw [Bool.eq_iff_iff, hasP_iff]
  unfold has2
  rw [StrLaws.found_iff]
  constructor
  · rintro ⟨i, h1, h2⟩
    rw [StrLaws.subAt_eq] at h2
    simp only [S_length, S_toList, List.length_cons, List.length_nil, Nat.zero_add, Nat.reduceAdd] at h1 h2
    exact ⟨i, h1, by simpa using h2⟩
  · rintro ⟨i, h1, h2⟩
    refine ⟨i, by simpa [S_length] using h1, ?_⟩
    rw [StrLaws.subAt_eq]
    simp only [S_length, S_toList, List.length_cons, List.length_nil, Nat.zero_add, Nat.reduceAdd]
    simpa using h2
inductive Reach : List Nat → List Nat → Prop
  | refl (l) : Reach l l
  | step {l r} : Reach l r → hasP r = true → Reach l (remP r)
end
section
open PySem PySem.W PySem.Calls PyProof.Rows
set_option Elab.async false
set_option maxRecDepth 100000
set_option maxHeartbeats 1000000
set_option pp.deepTerms false
set_option pp.deepTerms.threshold 8
set_option pp.maxSteps 20000
theorem fill_nowL3 : (PySem.Challenge.rw_ij0162_01.Holds → hd.heap_39 = hd.heap_39) := by
  k_fill
  intro _; rfl
section
variable {prog : Program} {w : World} {A : Around} {E : Value → Shared → Prop} {s : Shared}

/-- ''.join([unit for unit, hidden in xs if test]) -/
theorem join_pairs {x0 : Str} {k0 : Nat} {q0 q1 q2 : Pos} {x x₂ : Str} {px px₂ tp pe pos : Pos} {k : Nat} {iter : Expr} {ifs : List Expr} {scope : Scope} {env : Env} {ax : Addr} {vs : List Value} {ps : List LP2} {pz : LP2 → Bool} {pl : Sem Bool} {Q : Value → Shared → Prop} (hh : A.handled = none) (hxx : x ≠ x₂)
    (e0 : x0 = S [])
    (hiter : ∀ (s' : Shared) (Q' : Value → Shared → Prop), s'.heap = s.heap → Q' (.ref ax) s' → wpAny (model prog w) A (eval iter env) Q' E s')
    (hl : s.heap.IsList ax (List.toArray vs)) (hv : Paired (PairV s.heap) vs ps) (hps : ps.length ≤ 10000) (hpl : ∀ p ∈ ps, p.1.length ≤ 1000)
    (hifs : (ifs = [] ∧ pz = fun _ => true) ∨ ∃ c, ifs = [c] ∧ ∀ C p (s' : Shared) m' t E', s'.heap.Ns C m' → m' x = some (.str (S p.1) t) → m' x₂ = some (.bool p.2) →
      wpAny (model prog w) A (isTrue c (compEnvC scope [] C env) (eval c (compEnvC scope [] C env))) (fun ok s'' => ok = pz p ∧ Keeps s' s'') E' s')
    (hQ : ∀ h' tk t', (∀ b o, s.heap.get? b = some o → h'.get? b = some o) → Q (.str (S ((ps.filter pz).map (·.1)).flatten) t') { s with heap := h', toks := tk })
    (hclos : closureFor scope env = pure []) (hcell : ∀ y ∈ scope.names, y.2 ≠ .cell) (hkind : scope.kind = .function)
    (hnames : ∀ y ∈ scope.names, y.2 = .local → scope.names.lookup y.1 = some .local) (hx : scope.names.lookup x = some .local) (hx₂ : scope.names.lookup x₂ = some .local)
    (hs : ∀ x, foldedSetIterable iter env x = pure x)
    (hM : eval (.Call (.Attribute (.Constant (.str x0) k0 q0) "join" q1) [.ListComp (.Name x pe) [⟨.Tuple [.Name x px, .Name x₂ px₂] k tp, iter, ifs, 0⟩] scope pos] [] q2) env = (do
      let ov ← eval (.Constant (.str x0) k0 q0) env
      standAt q1.atName
      let (f, first) ← holding [ov] (getMethod ov "join" pl)
      callWith q2 f first (backTo q2 (starEach [.ListComp (.Name x pe) [⟨.Tuple [.Name x px, .Name x₂ px₂] k tp, iter, ifs, 0⟩] scope pos] env)) []))
    (hst : starEach [.ListComp (.Name x pe) [⟨.Tuple [.Name x px, .Name x₂ px₂] k tp, iter, ifs, 0⟩] scope pos] env = (false, eval (.ListComp (.Name x pe) [⟨.Tuple [.Name x px, .Name x₂ px₂] k tp, iter, ifs, 0⟩] scope pos) env) :: starEach [] env)
    (hd : (x == ("__debug__" : Str)) = false := by decide) :
    wpAny (model prog w) A (eval (.Call (.Attribute (.Constant (.str x0) k0 q0) "join" q1) [.ListComp (.Name x pe) [⟨.Tuple [.Name x px, .Name x₂ px₂] k tp, iter, ifs, 0⟩] scope pos] [] q2) env) Q E s := by
  subst e0
  refine MethodCall_ (Constant_str (GM.join ?_)) hM
  refine callWith_method1 (spliced_more (comp_pairs (s := { s with toks := s.toks + 1 }) (pz := pz) hh hxx (fun Q' hq => hiter _ Q' rfl hq) hl hv (by omega) hifs ?_ hclos hcell hkind hnames hx hx₂ hs hd) hst) hst
  intro h' tk D lt k' hD hL hlt
  refine spliced_none ?_
  have hlt' : lt.map (·.1) = ((ps.filter pz).map (·.1)).map S := by rw [hlt, List.map_map]; rfl
  refine SC.join (s := { s with heap := h', toks := tk }) (texts := ((ps.filter pz).map (·.1)).map S) hL hlt' ?_ ?_
  · refine joinOk_of ?_
    have e1 := sum_le (n := 1000) ((ps.filter pz).map (·.1)) (by
      intro u hu
      obtain ⟨p, hp, rfl⟩ := List.mem_map.mp hu
      exact hpl p (List.mem_filter.mp hp).1)
    have e2 : ((ps.filter pz).map (·.1)).length ≤ 10000 := by
      rw [List.length_map]; exact Nat.le_trans (List.length_filter_le _ _) hps
    show _ + _ * 0 ≤ _
    have e3 := Nat.mul_le_mul_right 1000 e2
    omega
  · intro t' k''
    show Q (.str (Txt.join (S []) (((ps.filter pz).map (·.1)).map S)) t') _
    rw [join_S]
    exact hQ h' k'' t' k'

def brk (p : LP2) : Bool := !p.2 && (decide (p.1 = [40]) || decide (p.1 = [41]))
theorem brk_test {scope : Scope} {env : Env} {c1 c2 : Str} {k1 k2 kk : Nat} {p1 p2 p3 q1 q2 q3 q4 q5 : Pos} (e1 : c1 = S [40]) (e2 : c2 = S [41]) (hk : ∀ C, (compEnvC scope [] C env).scope.kind = .function)
    (hx : ∀ C, (compEnvC scope [] C env).kindOf "unit" = some .local) (hx₂ : ∀ C, (compEnvC scope [] C env).kindOf "hidden" = some .local)
    (hs1 : ∀ C, starEach [.Constant (.str c1) k1 q1, .Constant (.str c2) k2 q2] (compEnvC scope [] C env) = (false, eval (.Constant (.str c1) k1 q1) (compEnvC scope [] C env)) :: starEach [.Constant (.str c2) k2 q2] (compEnvC scope [] C env))
    (hs2 : ∀ C, starEach [.Constant (.str c2) k2 q2] (compEnvC scope [] C env) = (false, eval (.Constant (.str c2) k2 q2) (compEnvC scope [] C env)) :: starEach [] (compEnvC scope [] C env)) :
    ∀ C p (s' : Shared) m' t E', s'.heap.Ns C m' → m' "unit" = some (.str (S p.1) t) → m' "hidden" = some (.bool p.2) →
      wpAny (model prog w) A (isTrue (.BoolOp .And [.UnaryOp .Not (.Name "hidden" p1) p2, .Compare (.Name "unit" p3) [.In] [.Tuple [.Constant (.str c1) k1 q1, .Constant (.str c2) k2 q2] kk q3] q4] q5) (compEnvC scope [] C env)
        (eval (.BoolOp .And [.UnaryOp .Not (.Name "hidden" p1) p2, .Compare (.Name "unit" p3) [.In] [.Tuple [.Constant (.str c1) k1 q1, .Constant (.str c2) k2 q2] kk q3] q4] q5) (compEnvC scope [] C env))) (fun ok s'' => ok = brk p ∧ Keeps s' s'') E' s' := by
  intro C p s' m' t E' hn hm hm₂
  refine isTrue_and (isTrue_not (isTrue_plain (wpAny_Name (wpAny_loadName_local (env := compEnvC scope [] C env) (hk C) (hx₂ C) hn hm₂ (wpAny_truthy_bool ?_)))))
  cases hp : p.2 with
  | true =>
    simp only [Bool.not_true, Bool.false_eq_true, if_false]
    exact ⟨by simp [brk, hp], s'.heap, s'.toks, rfl, fun _ _ e => e⟩
  | false =>
    simp only [Bool.not_false, if_true]
    refine isTrue_and (wpAny_isTrue_Compare1 (wpAny_Name (wpAny_loadName_local (env := compEnvC scope [] C env) (hk C) (hx C) hn hm ?_)) rfl)
    refine Tuple_ (spliced_more (Constant_str (spliced_more (Constant_str (spliced_none ?_)) (hs2 C))) (hs1 C))
    refine wpAny_newObj_type ?_ (by show 2 ≤ sizeLine; rw [sizeLine_eq]; omega)
    refine in_tuple_strs (ys := [c1, c2]) ⟨_, Heap.get?_push_size _ rfl, rfl, _, rfl⟩ ?_ (wpAny_truthy_bool ?_)
    · exact .cons _ _ (.cons _ _ .nil)
    · have e3 : (([c1, c2] : List Str).any (· == S p.1)) = (decide (p.1 = [40]) || decide (p.1 = [41])) := by
        have a1 : (S [40] == S p.1) = decide (p.1 = [40]) := by rw [eq_S (r := p.1) rfl]; simp [eq_comm]
        have a2 : (S [41] == S p.1) = decide (p.1 = [41]) := by rw [eq_S (r := p.1) rfl]; simp [eq_comm]
        simp only [List.any_cons, List.any_nil, Bool.or_false, e1, e2, a1, a2]
      rw [e3]
      cases hb : (decide (p.1 = [40]) || decide (p.1 = [41])) with
      | true =>
        simp only [if_true]
        exact isTrue_and_nil ⟨by simp [brk, hp, hb], _, _, rfl, fun b o e => Heap.get?_push_of_some _ e⟩
      | false =>
        simp only [Bool.false_eq_true, if_false]
        exact ⟨by simp [brk, hp, hb], _, _, rfl, fun b o e => Heap.get?_push_of_some _ e⟩
end

def rowT (ps : List LP2) : List Nat := ((ps.filter brk).map (·.1)).flatten

theorem taken_go {prog : Program} {w : World} {p : Program} {loose : List Str} {mean : ExcName → Option Value} {mg mb : Str → Option Value} {s : Shared} {Q E : Value → Shared → Prop}
    {dp un : Nat} {fr : Option (List Env)} {gd : Option (List Code)} {ax : Addr} {vs : List Value} {ps : List LP2}
    (KX : (hd.heap_39 w.params).In s.heap) (T : Top p loose mean mg mb s.heap) (hdp : dp + 6 < recursionLimit)
    (hax : s.heap.IsList ax (List.toArray vs)) (hv : Paired (PairV s.heap) vs ps) (hls : ps.length ≤ 10000) (hpl : ∀ p ∈ ps, p.1.length ≤ 1000) (hrow : (rowT ps).length ≤ 10000)
    (h : ∀ h' tk r, (∀ b o, s.heap.get? b = some o → h'.get? b = some o) → s.toks ≤ tk → Reach (rowT ps) r → hasP r = false → Q (.bool (decide (r = []))) { s with heap := h', toks := tk }) :
    wpAny (model prog w) { handled := none, depth := dp, frames := fr, guards := gd, units := un } (call (.ref 93) [.ref ax]) Q E s := by
  have TR := topRead_of T
  walk_at "mine.enter"
  intro L h₁ F N
  with_reducible refine wpAny_execs_cons ?_
  with_reducible refine wpAny_Assign_Name ?_ ?hs
  case hs => rfl
  have hax1 : h₁.IsList ax (List.toArray vs) := let ⟨o, ho, r⟩ := hax; ⟨o, F.keep _ _ ho, r⟩
  have hv1 : Paired (PairV h₁) vs ps := Paired.mono (fun v q ⟨a, t, e, hm⟩ => ⟨a, t, e, F.keep _ _ hm⟩) hv
  refine' join_pairs (s := ⟨_, _, _, _, _⟩) (pz := brk) rfl (by decide) (by decide +kernel) ?hiter hax1 hv1 hls hpl (.inr ⟨_, rfl, brk_test (by decide +kernel) (by decide +kernel) ?b1 ?b2 ?b3 ?b4 ?b5⟩) ?hQ rfl ?d1 rfl ?d2 rfl rfl ?d3 ?d4 ?d5
  case hiter =>
    intro s' Q' e hq
    exact ld (s := s') (by rw [e]; exact F) rfl hq
  case b1 => intro _; rfl
  case b2 => intro _; rfl
  case b3 => intro _; rfl
  case b4 => intro _; rfl
  case b5 => intro _; rfl
  case d1 => decide
  case d2 => decide
  case d3 => intro _; rfl
  case d4 => rfl
  case d5 => rfl
  intro h2 tk2 t2 k2
  have F2 := F.keeps k2
  have N2 := N.grown k2
  dsimp only at F2 N2 ⊢
  refine stN (s := ⟨_, _, _, _, _⟩) F2 N2 fun h3 F3 N3 => ?_
  dsimp only at F3 N3 ⊢
  with_reducible refine wpAny_execs_cons ?_
  with_reducible refine wpAny_While ?_
  have p3 : 0 < tk2 + 1 := Nat.succ_pos _
  generalize tk2 + 1 = tk3 at p3 ⊢
  refine codeAny_whileLoop (fun n s' => ∃ h' tk t l m', s' = { s with heap := h', toks := tk } ∧ 0 < tk ∧ Fr s.heap L h' m' ∧ m' "row" = some (.str (S l) t) ∧ Reach (rowT ps) l ∧ l.length ≤ 10000 ∧ n = l.length) ?_ _ ⟨h3, tk3, t2, rowT ps, _, rfl, p3, F3, rfl, .refl _, hrow, rfl⟩
  rintro n s' ⟨h', tk, t, l, m', rfl, htk, F', hm, hR, hl, rfl⟩
  refine wpAny_isTrue_Compare1 (Constant_str (ld (s := ⟨_, _, _, _, _⟩) F' hm (in_str (wpAny_truthy_bool ?_))))
  have e2 : Str.ofString "()" = S [40, 41] := by decide +kernel
  rw [e2]
  show (if has2 l = true then _ else _)
  rw [has2_eq]
  cases hP : hasP l with
  | true =>
    simp only [if_true]
    with_reducible refine wpAny_execs_cons ?_
    with_reducible refine wpAny_Assign_Name ?_ ?hs
    case hs => rfl
    refine eval_rep (s := ⟨_, _, _, _, _⟩) (pat := [40, 41]) (r := []) F' hm (Nat.succ_pos _) e2 (by decide +kernel) (by decide) (by decide) (by omega) (by decide) ?_
    intro t4 tk4 htk4
    rw [rep2_eq]
    refine store_N (s := ⟨_, _, _, _, _⟩) F' (fun h5 F5 _ => ?_)
    have hlt := remP_lt l hP
    refine wpAny_execs_nil ⟨(remP l).length, hlt, h5, _, t4, remP l, _, rfl, Nat.succ_pos _, F5, rfl, .step hR hP, by omega, rfl⟩
  | false =>
    simp only [Bool.false_eq_true, if_false]
    refine wpAny_execs_nil ?_
    with_reducible refine wpAny_execs_cons ?_
    refine wpAny_Return_some (wpAny_Compare1 (ld (s := ⟨_, _, _, _, _⟩) F' hm (Constant_str (eq_str ?_))))
    rw [eq_S (r := []) (by decide +kernel)]
    intro htk'
    exact h h' _ l F'.keep htk' hR hP
end
section
open PySem PySem.W PySem.Calls PyProof.Rows
set_option Elab.async false
set_option maxHeartbeats 100000
theorem last_val {lv : List (Str × Tok)} {vals : List (List Nat)} (h : lv.map (·.1) = vals.map S) (hne : vals ≠ []) :
    ∃ lv' x t, lv = lv' ++ [(S x, t)] ∧ ∃ vals', vals = vals' ++ [x] ∧ lv'.map (·.1) = vals'.map S := by
  obtain ⟨vals', x, rfl⟩ : ∃ vals' x, vals = vals' ++ [x] := ⟨vals.dropLast, vals.getLast hne, (List.dropLast_concat_getLast hne).symm⟩
  rw [List.map_append] at h
  obtain ⟨a, b, rfl, h1, h2⟩ := List.map_eq_append_iff.mp h
  obtain ⟨c, d, rfl, h3, h4⟩ := List.map_eq_cons_iff.mp h2
  have h5 := List.map_eq_nil_iff.mp h4
  subst h5
  exact ⟨a, x, c.2, by rw [← h3], vals', rfl, h1⟩
end
section
open PySem PySem.W PySem.Calls PyProof.Rows
set_option Elab.async false
set_option maxRecDepth 100000
set_option maxHeartbeats 4000000
set_option pp.deepTerms false
set_option pp.deepTerms.threshold 8
set_option pp.maxSteps 20000
theorem fill_nowL4 : (PySem.Challenge.rw_ij0162_01.Holds → hd.heap_39 = hd.heap_39) := by
  k_fill
  intro _; rfl
section
variable {prog : Program} {w : World} {A : Around} {E : Value → Shared → Prop} {s : Shared}
/-- an item of a tuple display -/
theorem item_temp {elts : List Expr} {kk : Nat} {tp : Pos} {slice : Expr} {t : Addr} {items : Array Value} {k : Int} {u : Tok} {j : Nat} {x : Value} {Q : Value → Shared → Prop} (ht : IsTup s.heap t items)
    (hlo : -(2 ^ 63) ≤ k) (hhi : k < 2 ^ 63) (hj : seqIndex? k items.size = some j) (hx : items[j]? = some x) (h : Q x s)
    (hs : subscripted slice false (.ref t) (.int k u) = operate [.ref t, .int k u] (getItem (.ref t) (.int k u)) := by with_unfolding_all rfl) :
    wpAny (model prog w) A (subscriptTail (.Tuple elts kk tp) slice (.ref t) (.int k u)) Q E s := by
  unfold subscriptTail
  refine wpAny_bind ?_
  rw [getitemInPython_of_ne ht.typeIs.not_modules]
  refine wpAny_bind (wpAny_specialOf ht.typeIs slot_tuple_getitem.lookup ?_)
  have fin : wpAny (model prog w) A (subscripted slice false (.ref t) (.int k u)) (fun r s₃ => wpAny (model prog w) A (letTemporaryGo (.Tuple elts kk tp) (.ref t) r >>= fun _ => pure r) Q E s₃) E s := by
    rw [hs]
    refine wpAny_operating (getItem_tuple ht hlo hhi hj hx ?_)
    refine wpAny_bind ?_
    show wpAny _ _ (do let _ ← holding [x] (runValue (.builtin "proto.let_go" {}))) _ _ _
    exact wpAny_bind (wpAny_holding (wpAny_runValue (codeAny_builtin entry_let_go (show wpAny _ _ (ret .none) _ _ s from wpAny_pure (wpAny_pure (wpAny_pure h))))))
  first
    | exact wpAny_pure (wpAny_bind fin)
    | exact wpAny_bind (wpAny_pure (wpAny_bind fin))
    | exact wpAny_bind fin

theorem set_last {l : Addr} {its : List Value} {n : Nat} {t : Tok} {v : Value} {Q : Unit → Shared → Prop} (ho : s.heap.get? l = some (listOf (List.toArray its) n)) (h0 : its ≠ [])
    (hQ : ∀ h' n', h'.get? l = some (listOf (List.toArray (its.dropLast ++ [v])) n') → Heap.SameBut l s.heap h' → Q () { s with heap := h' }) :
    wpAny (model prog w) A (setItem (.ref l) (.int (-1) t) v) Q E s := by
  have hl : s.heap.IsList l (List.toArray its) := ⟨_, ho, rfl, _, rfl⟩
  have hp : 0 < its.length := List.length_pos_iff.mpr h0
  have hd : (listOf (List.toArray its) n).data = .seq (List.toArray its) n := rfl
  unfold setItem
  try with_reducible refine wpAny_holding ?_
  first | refine wpAny_bind (wpAny_pure ?_) | skip
  refine wpAny_bind (wpAny_sequenceKey hl.typeIs (by decide) ?_)
  refine wpAny_bind (wpAny_callSpecial?_slot (name := Str.ofString "__setitem__") hl.typeIs slot_list_setitem
    (wpAny_call_entry slot_list_setitem hl.typeIs entry_list_setitem ?_ (args_list_setitem _ _ _)))
  show wpAny _ _ (Builtin.List.listSubscript? (.int (-1) t) >>= _) _ _ s
  refine wpAny_bind (wpAny_listSubscript_int (fitsIndex_neg (by decide) (by decide)) ?_)
  have hidx : seqIndex? (Int.negSucc 0) (List.toArray its).size = some (its.length - 1) := by
    rw [PySem.seqIndex_neg (by decide) (by simp; omega)]
    simp; omega
  show wpAny _ _ ((Builtin.List.listItems (.ref l) >>= fun xs => pure ((seqIndex? (Int.negSucc 0) xs.size).bind fun i => xs[i]?.map (i, ·))) >>= _) _ _ s
  refine wpAny_bind (wpAny_bind ?_)
  show wpAny _ _ (seqItems? (.ref l) >>= _) _ _ s
  refine wpAny_bind (wpAny_seqItems ho hd (wpAny_pure (wpAny_pure ?_)))
  have hx : (List.toArray its)[its.length - 1]? = some its[its.length - 1] := by simp
  rw [hidx]
  simp only [Option.bind_some, hx, Option.map_some]
  show wpAny _ _ (setSeqItemAt l (its.length - 1) v >>= _) _ _ s
  refine wpAny_bind (wpAny_setSeqItemAt ho hd ?_)
  have e : (List.toArray its).setIfInBounds (its.length - 1) v = List.toArray (its.dropLast ++ [v]) := by
    apply Array.toList_inj.mp
    simp only [Array.toList_setIfInBounds, List.toList_toArray]
    apply List.ext_getElem?
    intro i
    rw [List.getElem?_set]
    by_cases hi : its.length - 1 = i
    · subst hi
      rw [if_pos rfl, if_pos (by omega), List.getElem?_append_right (by simp)]
      simp
    · rw [if_neg hi]
      by_cases hi2 : i < its.length - 1
      · rw [List.getElem?_append_left (by simpa using hi2), List.getElem?_dropLast, if_pos hi2]
      · rw [List.getElem?_eq_none (by omega), List.getElem?_eq_none (by simp; omega)]
  have hob : Obj.mapSeq (·.setIfInBounds (its.length - 1) v) (listOf (List.toArray its) n) = listOf (List.toArray (its.dropLast ++ [v])) n := by
    have := congrArg (fun z => listOf z n) e
    rw [← this]
    simp [Obj.mapSeq]
  have hfin : (s.heap.update l (Obj.mapSeq (·.setIfInBounds (its.length - 1) v))).get? l = some (listOf (List.toArray (its.dropLast ++ [v])) n) := by
    rw [Heap.get?_update_self _ ho (by rw [hob]; rfl), hob]
  first
    | exact wpAny_bind (wpAny_pure (wpAny_pure ⟨.none, rfl, wpAny_pure (hQ _ _ hfin (Heap.SameBut.update ..))⟩))
    | exact wpAny_pure ⟨.none, rfl, wpAny_pure (hQ _ _ hfin (Heap.SameBut.update ..))⟩
end


def Piece (o : List Nat) : Prop := o = [] ∨ o = [40] ∨ o = [41] ∨ o = [32]
structure DrawnOk (outs vals : List (List Nat)) (n : Nat) : Prop where
  len : outs.length = vals.length
  le : vals.length ≤ n
  piece : ∀ o ∈ outs, Piece o
  short : ∀ v ∈ vals, v.length ≤ n
  ne : vals ≠ []
  tot : vals.flatten.length ≤ n

theorem DrawnOk.more {outs vals : List (List Nat)} {n : Nat} {o : List Nat} (h : DrawnOk outs vals n) (ho : Piece o) : DrawnOk (outs ++ [o]) (vals ++ [[]]) (n + 1) := by
  refine ⟨by simp [h.len], by have := h.le; simp; omega, ?_, ?_, by simp, by have := h.tot; simp only [List.flatten_append, List.flatten_cons, List.flatten_nil, List.append_nil]; omega⟩
  · intro o' ho'
    rcases List.mem_append.mp ho' with h1 | h1
    · exact h.piece _ h1
    · rw [List.mem_singleton.mp h1]; exact ho
  · intro v' hv'
    rcases List.mem_append.mp hv' with h1 | h1
    · have := h.short _ h1; omega
    · rw [List.mem_singleton.mp h1]; simp
theorem DrawnOk.sign {outs vals : List (List Nat)} {n : Nat} {xl c : List Nat} (h : DrawnOk outs (vals ++ [xl]) n) (hc : c.length = 1) : DrawnOk outs (vals ++ [xl ++ c]) (n + 1) := by
  have e1 := h.len
  have e2 := h.le
  simp only [List.length_append, List.length_singleton] at e1 e2
  have e3 := h.tot
  have e4 := h.short xl (by simp)
  simp only [List.flatten_append, List.flatten_cons, List.flatten_nil, List.append_nil, List.length_append] at e3
  refine ⟨by simp only [List.length_append, List.length_singleton]; omega, by simp only [List.length_append, List.length_singleton]; omega, h.piece, ?_, by simp, by simp only [List.flatten_append, List.flatten_cons, List.flatten_nil, List.append_nil, List.length_append]; omega⟩
  intro v' hv'
  rcases List.mem_append.mp hv' with h1 | h1
  · have := h.short v' (List.mem_append_left _ h1); omega
  · rw [List.mem_singleton.mp h1, List.length_append]; omega
theorem DrawnOk.close {outs vals : List (List Nat)} {n : Nat} (h : DrawnOk outs vals n) : DrawnOk (outs ++ [[32]]) (vals ++ [[92]]) (n + 1) := by
  refine ⟨by simp [h.len], by have := h.le; simp; omega, ?_, ?_, by simp, by have := h.tot; simp only [List.flatten_append, List.flatten_cons, List.flatten_nil, List.append_nil, List.length_append, List.length_cons, List.length_nil]; omega⟩
  · intro o' ho'
    rcases List.mem_append.mp ho' with h1 | h1
    · exact h.piece _ h1
    · rw [List.mem_singleton.mp h1]; simp [Piece]
  · intro v' hv'
    rcases List.mem_append.mp hv' with h1 | h1
    · have := h.short _ h1; omega
    · rw [List.mem_singleton.mp h1]; simp
theorem DrawnOk.mono {outs vals : List (List Nat)} {n k : Nat} (h : DrawnOk outs vals n) (hk : n ≤ k) : DrawnOk outs vals k :=
  ⟨h.len, Nat.le_trans h.le hk, h.piece, fun v hv => Nat.le_trans (h.short v hv) hk, h.ne, Nat.le_trans h.tot hk⟩
theorem app_sz {l : List (Str × Tok)} {n k : Nat} (h : l.length = n) (hk : n ≤ k) (h2 : k ≤ 1000) : (strValues l).toArray.size ≤ 100000 := by simp [strValues]; omega
theorem sign_sz {a b : Nat} (ha : a ≤ 1000) (hb : b = 1) : a + b ≤ sizeLine := by have : sizeLine = 16777216 := rfl; omega

section
variable {prog : Program} {w : World} {A : Around} {E : Value → Shared → Prop} {s : Shared} {name : Str} {scope : Scope} {L a : Addr} {cd : Value} {h₀ : Heap} {m : Str → Option Value} {news : List (Addr × Obj)}
/-- x // b % c -/
theorem idx2 {X b c : Int} {t : Tok} {k1 k2 : Nat} {p1 p2 p3 p4 p5 : Pos} {Q : Value → Shared → Prop} (F : Fr h₀ L s.heap m) (hx : m "x" = some (.int X t)) (hb : b ≠ 0) (hc : c ≠ 0) (hbs : b.natAbs < 1073741824)
    (h : ∀ tk tk', Q (.int ((X.fdiv b).fmod c) tk) { s with toks := tk' }) (hk : scope.kind = .function := by rfl) (kx : (envOf name scope L a cd).kindOf "x" = some .local := by rfl) :
    wpAny (model prog w) A (eval (.BinOp (.BinOp (.Name "x" p1) .FloorDiv (.Constant (.int b) k1 p2) p3) .Mod (.Constant (.int c) k2 p4) p5) (envOf name scope L a cd)) Q E s :=
  wpAny_BinOp (wpAny_BinOp (ld F hx (wpAny_Constant_int (PyProof.Rows.floordiv_int hb (wpAny_Constant_int (PyProof.Rows.mod_int hc (h _ _))) (.inl (PyProof.noPylong_small hbs)))) hk kx))
end

section
variable {prog : Program} {w : World} {A : Around} {E : Value → Shared → Prop} {s : Shared} {L : Addr} {h₀ : Heap} {m : Str → Option Value} {news : List (Addr × Obj)}
def AllG (G : List Nat → Prop) (vs : List Value) : Prop := ∀ v ∈ vs, ∃ c t, v = .str (S c) t ∧ G c
theorem AllG.nil {G : List Nat → Prop} : AllG G [] := fun _ h => nomatch h
theorem AllG.cons {G : List Nat → Prop} {x : Str} {t : Tok} {vs : List Value} (c : List Nat) (e : x = S c) (g : G c) (r : AllG G vs) : AllG G (.str x t :: vs) := by
  intro v hv
  rcases List.mem_cons.mp hv with rfl | hv
  · exact ⟨c, t, by rw [e], g⟩
  · exact r v hv
theorem newTuple_G {vs : List Value} {G : List Nat → Prop} {n : Nat} {Q : Value → Shared → Prop} (F : Fr h₀ L s.heap m) (N : News h₀ L s.heap news) (hv : AllG G vs) (hn : vs.length = n) (hz : n ≤ 100)
    (h : ∀ T h' its, Fr h₀ L h' m → News h₀ L h' ((T, tupObj (List.toArray its)) :: news) → AllG G its → its.length = n → (∀ p ∈ news, p.1 ≠ T) → Q (.ref T) { s with heap := h' }) : wpAny (model prog w) A (newTuple vs) Q E s :=
  newTuple_N F N (fun h' F' N' => h _ h' vs F' N' hv hn fun p hp => Nat.ne_of_lt (Heap.lt_size (N p hp).1)) (by have : sizeLine = 16777216 := rfl; omega)
end

theorem upd_news {h₀ h h' : Heap} {L D : Addr} {o o' : Obj} {news news' : List (Addr × Obj)} (N : News h₀ L h news) (U : Upd D o o' news news') (hs : Heap.SameBut D h h') (ho : h'.get? D = some o') : News h₀ L h' news' := by
  obtain ⟨pre, post, rfl, rfl, a, b⟩ := U.split
  exact news_set N a b hs ho
theorem ints_at : ∀ {vs : List Value} {ns : List Int}, IntsAre vs ns → ∀ {i : Nat} {v : Value}, vs[i]? = some v → ∃ n t, v = .int n t
  | _, _, .nil, i, v, h => by simp at h
  | _, _, .cons n t r, 0, v, h => by simp at h; exact ⟨n, t, h.symm⟩
  | _, _, .cons n t r, i + 1, v, h => ints_at r (by simpa using h)

theorem AllG.at {G : List Nat → Prop} {vs : List Value} (h : AllG G vs) {j : Nat} (hj : j < vs.length) : ∃ c t, vs[j]? = some (.str (S c) t) ∧ G c := by
  obtain ⟨c, t, e, g⟩ := h vs[j] (List.getElem_mem hj)
  exact ⟨c, t, by rw [List.getElem?_eq_getElem hj, e], g⟩

def sigs : List Nat := [34, 39, 92, 40, 41, 60, 38, 10]
def JDrawn (Do Dv Ts : Addr) (to : Obj) (i : Nat) (m : Str → Option Value) (news : List (Addr × Obj)) : Prop :=
  ∃ outs vals lo lv no nv, m "outside" = some (.ref Do) ∧ m "values" = some (.ref Dv) ∧ m "signs" = some (.ref Ts) ∧
    news = [(Do, listOf (strValues lo).toArray no), (Dv, listOf (strValues lv).toArray nv), (Ts, to)] ∧ lo.map (·.1) = outs.map S ∧ lv.map (·.1) = vals.map S ∧ DrawnOk outs vals (i + 2)

theorem drawn_go {prog : Program} {w : World} {p : Program} {loose : List Str} {mean : ExcName → Option Value} {mg mb : Str → Option Value} {s : Shared} {Q E : Value → Shared → Prop}
    {dp un : Nat} {fr : Option (List Env)} {gd : Option (List Code)} {ax : Addr} {vs : List Value} {ns : List Int}
    (KX : (hd.heap_39 w.params).In s.heap) (T : Top p loose mean mg mb s.heap) (hdp : dp + 6 < recursionLimit)
    (hax : s.heap.IsList ax (List.toArray vs)) (hns : IntsAre vs ns) (hls : vs.length ≤ 12) (hb : AllBare s.gens)
    (h : ∀ h' tk g' D Do Dv lo lv outs vals, (∀ b o, s.heap.get? b = some o → h'.get? b = some o) → s.toks ≤ tk → AllBare g' → h'.IsList D #[.ref Do, .ref Dv] → h'.IsList Do (strValues lo).toArray → h'.IsList Dv (strValues lv).toArray →
      lo.map (·.1) = outs.map S → lv.map (·.1) = vals.map S → DrawnOk outs vals 15 → s.heap.get? D = none → s.heap.get? Do = none → s.heap.get? Dv = none → Q (.ref D) { s with heap := h', toks := tk, gens := g' }) :
    wpAny (model prog w) { handled := none, depth := dp, frames := fr, guards := gd, units := un } (call (.ref 100) [.ref ax]) Q E s := by
  have TR := topRead_of T
  walk_at "mine.enter"
  intro L h₁ F N
  ((with_reducible refine wpAny_execs_cons ?_); (with_reducible refine wpAny_Assign_Name ?_ ?hs_x85); (case hs_x85 => rfl))
  with_reducible refine Tuple_ ?_
  iterate 8 ((with_reducible refine spliced_more ?_ ?he); (case he => rfl); (with_reducible refine Constant_str ?_))
  with_reducible refine spliced_none ?_
  refine newTuple_G (s := ⟨_, _, _, _, _⟩) (G := fun c => c.length = 1) (n := 8) F N (.cons [34] (by decide +kernel) rfl (.cons [39] (by decide +kernel) rfl (.cons [92] (by decide +kernel) rfl (.cons [40] (by decide +kernel) rfl
    (.cons [41] (by decide +kernel) rfl (.cons [60] (by decide +kernel) rfl (.cons [38] (by decide +kernel) rfl (.cons [10] (by decide +kernel) rfl .nil)))))))) rfl (by decide) fun Ts h2 its F2 N2 hG hits _ => ?_
  ((with_reducible refine stN (s := ⟨_, _, _, _, _⟩) F2 N2 ?_ ?hk_x86 ?hx_x86); (case hk_x86 => rfl); (case hx_x86 => rfl))
  intro h3 F3 N3
  ((with_reducible refine wpAny_execs_cons ?_); (with_reducible refine wpAny_Assign_Name ?_ ?hs_x87); (case hs_x87 => rfl))
  refine List_ (spliced_more (Constant_str (spliced_none (newList_N (s := ⟨_, _, _, _, _⟩) F3 N3 fun h4 F4 N4 => ?_))))
  ((with_reducible refine stN (s := ⟨_, _, _, _, _⟩) F4 N4 ?_ ?hk_x88 ?hx_x88); (case hk_x88 => rfl); (case hx_x88 => rfl))
  intro h5 F5 N5
  ((with_reducible refine wpAny_execs_cons ?_); (with_reducible refine wpAny_Assign_Name ?_ ?hs_x89); (case hs_x89 => rfl))
  refine List_ (spliced_more (Constant_str (spliced_none (newList_N (s := ⟨_, _, _, _, _⟩) F5 N5 fun h6 F6 N6 => ?_))))
  ((with_reducible refine stN (s := ⟨_, _, _, _, _⟩) F6 N6 ?_ ?hk_x90 ?hx_x90); (case hk_x90 => rfl); (case hx_x90 => rfl))
  intro h7 F7 N7
  dsimp only at F7 N7 ⊢
  generalize hDo : h3.objs.size = Do at F7 N7
  generalize hDv : h5.objs.size = Dv at F7 N7
  have hne : Do ≠ Dv := by rw [← hDo, ← hDv]; exact Nat.ne_of_lt (Heap.lt_size (N5 _ (.head _)).1)
  have hTo : Ts ≠ Do := by rw [← hDo]; exact Nat.ne_of_lt (Heap.lt_size (N3 _ (.head _)).1)
  have hTv : Ts ≠ Dv := by rw [← hDv]; exact Nat.ne_of_lt (Heap.lt_size (N5 _ (.tail _ (.head _))).1)
  replace N7 : News s.heap L h7 [(Do, listOf (strValues [(S [40], _)]).toArray 0), (Dv, listOf (strValues [(S [41, 34], _)]).toArray 0), (Ts, tupObj (List.toArray its))] := news_sub N7 (by
    intro p hp
    rw [show Str.ofString "(" = S [40] by decide +kernel, show Str.ofString ")\"" = S [41, 34] by decide +kernel]
    simp only [List.mem_cons, List.not_mem_nil, or_false] at hp ⊢
    rcases hp with rfl | rfl | rfl
    · exact .inr (.inl rfl)
    · exact .inl rfl
    · exact .inr (.inr rfl))
  have hL : L < h7.objs.size := F7.ns.lt
  have haxL : L ≠ ax := by
    obtain ⟨o, ho, _⟩ := hax
    exact Nat.ne_of_gt (Nat.lt_of_lt_of_le (Heap.lt_size ho) F.above)
  have hax7 : h7.IsList ax (List.toArray vs) := let ⟨o, ho, r⟩ := hax; ⟨o, F7.keep _ _ ho, r⟩
  have oldN : ∀ D o, News s.heap L h7 [(D, o)] → D ≠ ax := by
    intro D o hN e
    have := (hN _ (.head _)).2.2
    obtain ⟨o', ho', _⟩ := hax
    rw [← e, this] at ho'; cases ho'
  have hDoax := oldN Do _ (news_sub N7 (l' := [(Do, _)]) (by intro p hp; rw [List.mem_singleton.mp hp]; exact .head _))
  have hDvax := oldN Dv _ (news_sub N7 (l' := [(Dv, _)]) (by intro p hp; rw [List.mem_singleton.mp hp]; exact .tail _ (.head _)))
  (with_reducible refine wpAny_execs_cons ?_)
  refine wpAny_For (ld F7 rfl ?_) (fun x => rfl)
  refine loop_list (s := ⟨_, _, _, _, _⟩) rfl hax7 haxL F7 N7 hb (JDrawn Do Dv Ts (tupObj (List.toArray its))) ?_ ?_ ?_
  · exact ⟨[[40]], [[41, 34]], _, _, _, _, rfl, rfl, rfl, rfl, rfl, rfl, ⟨rfl, by decide, by simp [Piece], by simp, by simp, by simp⟩⟩
  · rintro i v m₁ news₁ h8 tk8 g₁ own I hi ⟨outs, vals, lo, lv, no, nv, hm1, hm2, hm3, rfl, hlo, hlv, hOk⟩ hn hown hI hI2 hbg F8 N8
    refine hideQ fun QI hQI => ?_
    obtain ⟨nn, tn, rfl⟩ := ints_at hns (by simpa using hi)
    have hil : i < vs.length := by
      have := (Array.getElem?_eq_some_iff.mp hi).1
      simpa using this
    have ownO : ∀ q ∈ own, q.1 ≠ Do := fun q hq e => (hown q hq).elim (fun h1 => hn _ (.head _) (e.symm.trans h1)) (fun h1 => hDoax (e.symm.trans h1))
    have ownV : ∀ q ∈ own, q.1 ≠ Dv := fun q hq e => (hown q hq).elim (fun h1 => hn _ (.tail _ (.head _)) (e.symm.trans h1)) (fun h1 => hDvax (e.symm.trans h1))
    have hnD : Do ≠ I := hn _ (.head _)
    have hnV : Dv ≠ I := hn _ (.tail _ (.head _))
    have hnT : Ts ≠ I := hn _ (.tail _ (.tail _ (.head _)))
    have hlen1 : lo.length = outs.length := by have := congrArg List.length hlo; simpa using this
    have hlen2 : lv.length = vals.length := by have := congrArg List.length hlv; simpa using this
    have hle := hOk.le
    have hleq := hOk.len
    ((with_reducible refine wpAny_execs_cons ?_); (with_reducible refine wpAny_Assign_Name ?_ ?hs_x92); (case hs_x92 => rfl))
    refine wpAny_BinOp (ld (s := ⟨_, _, _, _, _⟩) F8 rfl (wpAny_Constant_int (PyProof.Rows.mod_int (by decide) ?_)))
    have hX0 : 0 ≤ nn.fmod 1000000 := Int.fmod_nonneg_of_pos _ (by decide)
    have hX1 : nn.fmod 1000000 < 1000000 := Int.fmod_lt_of_pos _ (by decide)
    generalize nn.fmod 1000000 = X at hX0 hX1 ⊢
    ((with_reducible refine stN (s := ⟨_, _, _, _, _⟩) F8 N8 ?_ ?hk_x93 ?hx_x93); (case hk_x93 => rfl); (case hx_x93 => rfl))
    intro h9 F9 N9
    dsimp only at F9 N9 ⊢
    (with_reducible refine wpAny_execs_cons ?_)
    with_reducible refine wpAny_If ?_
    refine wpAny_isTrue_Compare1 (wpAny_BinOp (ld (s := ⟨_, _, _, _, _⟩) F9 rfl (wpAny_Constant_int (PyProof.Rows.mod_int (by decide) (wpAny_Constant_int (PyProof.Rows.eq_int (wpAny_truthy_bool ?_)))))))
    cases hc : (X.fmod 3 == 0) with
    | true =>
      simp only [if_true]
      (with_reducible refine wpAny_execs_cons ?_)
      refine app_stmt (s := ⟨_, _, _, _, _⟩) (D := Do) (P := fun v => ∃ o t, v = .str (S o) t ∧ Piece o) F9 N9 (by exact hm1) (List.mem_append_right _ (.head _)) (fun v _ => upd_own (.head ?hh) own ownO) (by simp [strValues]; omega) (fun Q' hQ' => ?_) ?_
      case hh => intro p hp; simp only [List.mem_cons, List.not_mem_nil, or_false] at hp; rcases hp with rfl | rfl; exact hne.symm; exact hTo
      · with_reducible refine Subscript_ ?_
        with_reducible refine Tuple_ ?_
        iterate 4 ((with_reducible refine spliced_more ?_ ?he); (case he => rfl); (with_reducible refine Constant_str ?_))
        with_reducible refine spliced_none ?_
        refine newTuple_G (s := ⟨_, _, _, _, _⟩) (G := Piece) (n := 4) F9 N9 (.cons [] (by decide +kernel) (.inl rfl) (.cons [40] (by decide +kernel) (.inr (.inl rfl)) (.cons [41] (by decide +kernel) (.inr (.inr (.inl rfl))) (.cons [32] (by decide +kernel) (.inr (.inr (.inr rfl))) .nil)))) rfl (by decide) fun T2 h10 its2 F10 N10 hG2 hits2 _ => ?_
        refine idx2 (s := ⟨_, _, _, _, _⟩) F10 rfl (by decide) (by decide) (by decide) fun tk tk' => ?_
        have hk0 : 0 ≤ (X.fdiv 3).fmod 4 := Int.fmod_nonneg_of_pos _ (by decide)
        have hk1 : (X.fdiv 3).fmod 4 < 4 := Int.fmod_lt_of_pos _ (by decide)
        generalize (X.fdiv 3).fmod 4 = K at hk0 hk1 ⊢
        obtain ⟨c, tc, e, g⟩ := hG2.at (j := K.toNat) (by omega)
        refine item_temp (items := List.toArray its2) (j := K.toNat) ⟨_, (N10 _ (.head _)).1, rfl, _, rfl⟩ (by omega) (by omega) (PySem.seqIndex_of hk0 (by simp [hits2]; omega)) (by simpa using e) ?_
        exact hQ' _ _ _ ⟨c, tc, rfl, g⟩ F10 (fun p hp => N10 p (.tail _ hp))
      · rintro v h10 tk10 ⟨o, to, rfl, ho⟩ F10 N10
        rw [strValues_push] at N10
        (with_reducible refine wpAny_execs_cons ?_)
        refine app_stmt (s := ⟨_, _, _, _, _⟩) (D := Dv) (P := fun v => ∃ t, v = .str (S []) t) F10 N10 (by exact hm2) (List.mem_append_right _ (.tail _ (.head _))) (fun v _ => upd_own (.tail hne (.head ?hh)) own ownV) (by simp [strValues]; omega) (fun Q' hQ' => ?_) ?_
        case hh => intro p hp; simp only [List.mem_cons, List.not_mem_nil, or_false] at hp; rcases hp with rfl; exact hTv
        · exact Constant_str (s := ⟨_, _, _, _, _⟩) (hQ' _ _ _ ⟨_, congrArg (fun z => Value.str z _) (by decide +kernel)⟩ F10 N10)
        · rintro v h11 tk11 ⟨tv, rfl⟩ F11 N11
          rw [strValues_push] at N11
          (with_reducible refine wpAny_execs_nil ?_)
          (with_reducible refine wpAny_execs_nil ?_)
          refine hQI .next _ ?_
          refine ⟨h11, _, _, _, _, rfl, hbg, F11, N11, ?_, outs ++ [o], vals ++ [[]], _, _, _, _, hm1, hm2, hm3, rfl, by simp [hlo], by simp [hlv], ?_⟩
          · intro q hq
            simp only [List.mem_cons, List.not_mem_nil, or_false] at hq
            rcases hq with rfl | rfl | rfl
            · exact hnD
            · exact hnV
            · exact hnT
          · exact hOk.more ho
    | false =>
      simp only [Bool.false_eq_true, if_false]
      obtain ⟨lv', xl, tl, rfl, vals', rfl, hlv'⟩ := last_val hlv hOk.ne
      have hvl : xl.length ≤ i + 2 := hOk.short _ (by simp)
      have gV := (N9 (Dv, listOf (strValues (lv' ++ [(S xl, tl)])).toArray nv) (List.mem_append_right _ (.tail _ (.head _)))).1
      have esv : strValues (lv' ++ [(S xl, tl)]) = strValues lv' ++ [.str (S xl) tl] := by simp [strValues]
      rw [esv] at gV
      (with_reducible refine wpAny_execs_cons ?_)
      with_reducible refine wpAny_AugAssign_SubscriptAny ?_ ?hi
      case hi => intros; rfl
      with_reducible refine ld (s := ⟨_, _, _, _, _⟩) (v := .ref Dv) F9 ?hv ?_ ?hk ?hx ?hd
      case hv => exact hm2
      case hk => rfl
      case hx => rfl
      case hd => decide
      with_reducible refine UnaryOp_ ?_
      with_reducible refine wpAny_Constant_int ?_
      refine neg_int ?_
      have hsz : (List.toArray (strValues lv' ++ [.str (S xl) tl])).size = (strValues lv').length + 1 := by simp
      refine wpAny_getItem_list_neg (items := List.toArray (strValues lv' ++ [.str (S xl) tl])) (x := .str (S xl) tl) ⟨_, gV, rfl, _, rfl⟩ (by decide) ?_ (by decide) ?_ ?_
      · rw [hsz]; omega
      · rw [hsz, show ((-1 : Int) + (((strValues lv').length + 1 : Nat) : Int)).toNat = (strValues lv').length by omega]
        simp
      with_reducible refine IfExp_ ?_
      refine wpAny_isTrue_Compare1 (idx2 (s := ⟨_, _, _, _, _⟩) F9 rfl (by decide) (by decide) (by decide) fun tk tk' => wpAny_Constant_int (PyProof.Rows.lt_int (wpAny_truthy_bool ?_)))
      cases hc9 : decide ((X.fdiv 3).fmod 9 < 8) with
      | true =>
        simp only [if_true]
        refine Subscript_ (ld (s := ⟨_, _, _, _, _⟩) (v := .ref Ts) F9 (by exact hm3) (idx2 (s := ⟨_, _, _, _, _⟩) F9 rfl (by decide) (by decide) (by decide) fun tk2 tk3 => ?_))
        have hk0 : 0 ≤ (X.fdiv 3).fmod 9 := Int.fmod_nonneg_of_pos _ (by decide)
        have hk1 : (X.fdiv 3).fmod 9 < 8 := of_decide_eq_true hc9
        generalize (X.fdiv 3).fmod 9 = K at hk0 hk1 ⊢
        obtain ⟨c, tc, e, g⟩ := hG.at (j := K.toNat) (by omega)
        refine item_tuple (items := List.toArray its) (j := K.toNat) ⟨_, (N9 _ (List.mem_append_right _ (.tail _ (.tail _ (.head _))))).1, rfl, _, rfl⟩ (by omega) (by omega) (PySem.seqIndex_of hk0 (by simp [hits]; omega)) (by simpa using e) ?_
        refine SB.iadd (fun t' k => ?_) (by rw [S_length, S_length]; exact sign_sz (Nat.le_trans hvl (Nat.le_trans (Nat.add_le_add_right (Nat.le_of_lt (Nat.lt_of_lt_of_le hil hls)) 2) (by decide))) g)
        rw [S_app]
        refine set_last (s := ⟨_, _, _, _, _⟩) gV (by simp) fun h11 n11 gV' hs11 => ?_
        have zV := (N9 (Dv, listOf (strValues (lv' ++ [(S xl, tl)])).toArray nv) (List.mem_append_right _ (.tail _ (.head _)))).2
        rw [List.dropLast_concat] at gV'
        have F11 := F9.change hs11 zV.1 zV.2
        have N11 := upd_news N9 (upd_own (.tail hne (.head (by intro p hp; simp only [List.mem_cons, List.not_mem_nil, or_false] at hp; rcases hp with rfl; exact hTv))) own ownV) hs11 gV'
        (with_reducible refine wpAny_execs_nil ?_)
        (with_reducible refine wpAny_execs_nil ?_)
        refine hQI .next _ ?_
        refine ⟨h11, _, _, _, _, rfl, hbg, F11, N11, ?_, outs, vals' ++ [xl ++ c], lo, lv' ++ [(S (xl ++ c), t')], _, n11, hm1, hm2, hm3, (by rw [show strValues (lv' ++ [(S (xl ++ c), t')]) = strValues lv' ++ [.str (S (xl ++ c)) t'] by simp [strValues]]), hlo, by simp [hlv'], ?_⟩
        · intro q hq
          simp only [List.mem_cons, List.not_mem_nil, or_false] at hq
          rcases hq with rfl | rfl | rfl
          · exact hnD
          · exact hnV
          · exact hnT
        · exact hOk.sign g
      | false =>
        simp only [Bool.false_eq_true, if_false]
        with_reducible refine Call_ ?_ ?he
        case he => rfl
        refine' name_B F9 KX TR ?k3 ?k4 ?k5 ?_
        case k3 => k_is
        case k4 => boot_by_name
        case k5 => decide
        refine callWith_method1 (spliced_more (idx2 (s := ⟨_, _, _, _, _⟩) F9 rfl (by decide) (by decide) (by decide) fun tk2 tk3 => spliced_none ?_))
        have hk0 : 0 ≤ (X.fdiv 27).fmod 300 := Int.fmod_nonneg_of_pos _ (by decide)
        have hk1 : (X.fdiv 27).fmod 300 < 300 := Int.fmod_lt_of_pos _ (by decide)
        generalize (X.fdiv 27).fmod 300 = K at hk0 hk1 ⊢
        refine chr_of_range hk0 (by omega) ?_
        change wpAny _ _ (inplaceOp .Add (.str (S xl) tl) (.str (S [K.toNat]) _)) _ _ _
        obtain ⟨c, hc1, g⟩ : ∃ c : List Nat, c = [K.toNat] ∧ c.length = 1 := ⟨_, rfl, rfl⟩
        rw [← hc1]
        refine SB.iadd (fun t' k => ?_) (by rw [S_length, S_length]; exact sign_sz (Nat.le_trans hvl (Nat.le_trans (Nat.add_le_add_right (Nat.le_of_lt (Nat.lt_of_lt_of_le hil hls)) 2) (by decide))) g)
        rw [S_app]
        refine set_last (s := ⟨_, _, _, _, _⟩) gV (by simp) fun h11 n11 gV' hs11 => ?_
        have zV := (N9 (Dv, listOf (strValues (lv' ++ [(S xl, tl)])).toArray nv) (List.mem_append_right _ (.tail _ (.head _)))).2
        rw [List.dropLast_concat] at gV'
        have F11 := F9.change hs11 zV.1 zV.2
        have N11 := upd_news N9 (upd_own (.tail hne (.head (by intro p hp; simp only [List.mem_cons, List.not_mem_nil, or_false] at hp; rcases hp with rfl; exact hTv))) own ownV) hs11 gV'
        (with_reducible refine wpAny_execs_nil ?_)
        (with_reducible refine wpAny_execs_nil ?_)
        refine hQI .next _ ?_
        refine ⟨h11, _, _, _, _, rfl, hbg, F11, N11, ?_, outs, vals' ++ [xl ++ c], lo, lv' ++ [(S (xl ++ c), t')], _, n11, hm1, hm2, hm3, (by rw [show strValues (lv' ++ [(S (xl ++ c), t')]) = strValues lv' ++ [.str (S (xl ++ c)) t'] by simp [strValues]]), hlo, by simp [hlv'], ?_⟩
        · intro q hq
          simp only [List.mem_cons, List.not_mem_nil, or_false] at hq
          rcases hq with rfl | rfl | rfl
          · exact hnD
          · exact hnV
          · exact hnT
        · exact hOk.sign g
  · rintro h8 tk8 g8 m8 news8 F8 N8 ⟨outs, vals, lo, lv, no, nv, hm1, hm2, hm3, rfl, hlo, hlv, hOk⟩ hb8
    have hlen1 : lo.length = outs.length := by have := congrArg List.length hlo; simpa using this
    have hlen2 : lv.length = vals.length := by have := congrArg List.length hlv; simpa using this
    have hle := hOk.le
    have hleq := hOk.len
    have hvs : (List.toArray vs).size = vs.length := by simp
    rw [hvs] at hOk hle
    (with_reducible refine wpAny_execs_cons ?_)
    refine app_stmt (s := ⟨_, _, _, _, _⟩) (D := Do) (P := fun v => ∃ t, v = .str (S [32]) t) F8 N8 (by exact hm1) (.head _) (fun v _ => .head ?hh) (by simp [strValues]; omega) (fun Q' hQ' => ?_) ?_
    case hh => intro p hp; simp only [List.mem_cons, List.not_mem_nil, or_false] at hp; rcases hp with rfl | rfl; exact hne.symm; exact hTo
    · exact Constant_str (s := ⟨_, _, _, _, _⟩) (hQ' _ _ _ ⟨_, congrArg (fun z => Value.str z _) (by decide +kernel)⟩ F8 N8)
    rintro v h10 tk10 ⟨to, rfl⟩ F10 N10
    rw [strValues_push] at N10
    (with_reducible refine wpAny_execs_cons ?_)
    refine app_stmt (s := ⟨_, _, _, _, _⟩) (D := Dv) (P := fun v => ∃ t, v = .str (S [92]) t) F10 N10 (by exact hm2) (.tail _ (.head _)) (fun v _ => .tail hne (.head ?hh)) (by simp [strValues]; omega) (fun Q' hQ' => ?_) ?_
    case hh => intro p hp; simp only [List.mem_cons, List.not_mem_nil, or_false] at hp; rcases hp with rfl; exact hTv
    · exact Constant_str (s := ⟨_, _, _, _, _⟩) (hQ' _ _ _ ⟨_, congrArg (fun z => Value.str z _) (by decide +kernel)⟩ F10 N10)
    rintro v h11 tk11 ⟨tv, rfl⟩ F11 N11
    rw [strValues_push] at N11
    (with_reducible refine wpAny_execs_cons ?_)
    with_reducible refine wpAny_Return_some ?_
    refine List_ (spliced_more (ld (s := ⟨_, _, _, _, _⟩) F11 (by exact hm1) (spliced_more (ld (s := ⟨_, _, _, _, _⟩) F11 (by exact hm2) (spliced_none (newList_N (s := ⟨_, _, _, _, _⟩) F11 N11 fun h12 F12 N12 => ?_))))))
    intro htk
    have d1 := N12 _ (.head _)
    have d2 := N12 _ (.tail _ (.head _))
    have d3 := N12 _ (.tail _ (.tail _ (.head _)))
    refine h h12 _ g8 _ Do Dv _ _ (outs ++ [[32]]) (vals ++ [[92]]) F12.keep htk hb8 ⟨_, d1.1, rfl, _, rfl⟩ ⟨_, d2.1, rfl, _, rfl⟩ ⟨_, d3.1, rfl, _, rfl⟩ (by simp [hlo]) (by simp [hlv]) ?_ d1.2.2 d2.2.2 d3.2.2
    exact hOk.close.mono (Nat.add_le_add_right hls 3)
end
section
open PySem PySem.W PySem.Calls PyProof.Rows
set_option Elab.async false
set_option maxRecDepth 100000
set_option maxHeartbeats 1000000

/-- a sign is one of eight, or none of them -/
theorem signs_cases (a : Nat) : (a = 38 ∨ a = 60 ∨ a = 62 ∨ a = 10 ∨ a = 13 ∨ a = 9 ∨ a = 92 ∨ a = 34) ∨
    (a ≠ 38 ∧ a ≠ 60 ∧ a ≠ 62 ∧ a ≠ 10 ∧ a ≠ 13 ∧ a ≠ 9 ∧ a ≠ 92 ∧ a ≠ 34) := by
  by_cases h1 : a = 38
  · exact .inl (.inl h1)
  by_cases h2 : a = 60
  · exact .inl (.inr (.inl h2))
  by_cases h3 : a = 62
  · exact .inl (.inr (.inr (.inl h3)))
  by_cases h4 : a = 10
  · exact .inl (.inr (.inr (.inr (.inl h4))))
  by_cases h5 : a = 13
  · exact .inl (.inr (.inr (.inr (.inr (.inl h5)))))
  by_cases h6 : a = 9
  · exact .inl (.inr (.inr (.inr (.inr (.inr (.inl h6))))))
  by_cases h7 : a = 92
  · exact .inl (.inr (.inr (.inr (.inr (.inr (.inr (.inl h7)))))))
  by_cases h8 : a = 34
  · exact .inl (.inr (.inr (.inr (.inr (.inr (.inr (.inr h8)))))))
  exact .inr ⟨h1, h2, h3, h4, h5, h6, h7, h8⟩

def kvA : KV := [(34, [38, 113, 117, 111, 116, 59]), (10, [38, 35, 49, 48, 59]), (92, [38, 35, 57, 50, 59]), (13, [38, 35, 49, 51, 59]), (9, [38, 35, 57, 59])]
def kvB : KV := [(92, [38, 35, 57, 50, 59]), (10, [38, 35, 49, 48, 59]), (34, [38, 113, 117, 111, 116, 59]), (13, [38, 35, 49, 51, 59]), (9, [38, 35, 57, 59])]
def kvC : KV := [(10, [38, 35, 49, 48, 59]), (13, [38, 35, 49, 51, 59]), (9, [38, 35, 57, 59])]
def kv8 : KV := kv6 ++ [(92, [38, 35, 57, 50, 59])] ++ [(34, [38, 113, 117, 111, 116, 59])]
def kv7 : KV := kv6 ++ [(34, [38, 113, 117, 111, 116, 59])]

theorem told_none {kvs : KV} {a : Nat} (h : ∀ kv ∈ kvs, kv.1 ≠ a) : toldL kvs a = [a] := by
  unfold toldL
  have : kvs.find? (fun kv => decide (kv.1 = a)) = none := List.find?_eq_none.mpr fun kv hk => by simpa using h kv hk
  rw [this]
theorem repT_none {a : Nat} : ∀ {kvs : KV}, (∀ kv ∈ kvs, kv.1 ≠ a) → repT kvs [a] = [a]
  | [], _ => rfl
  | kv :: kvs, h => by
    show repT kvs (rep [kv.1] kv.2 [a] 0) = [a]
    have h1 : a ≠ kv.1 := fun e => h kv (.head _) e.symm
    rw [rep_one]
    simp only [List.flatMap_cons, List.flatMap_nil, List.append_nil, h1, if_false]
    exact repT_none fun kv' hk => h kv' (.tail _ hk)
theorem keys8 {a : Nat} {kvs : KV} (hk : ∀ kv ∈ kvs, kv.1 ∈ [38, 60, 62, 10, 13, 9, 92, 34]) (h : a ≠ 38 ∧ a ≠ 60 ∧ a ≠ 62 ∧ a ≠ 10 ∧ a ≠ 13 ∧ a ≠ 9 ∧ a ≠ 92 ∧ a ≠ 34) : ∀ kv ∈ kvs, kv.1 ≠ a := by
  intro kv hm e
  have := hk kv hm
  simp only [List.mem_cons, List.not_mem_nil, or_false] at this
  obtain ⟨a1, a2, a3, a4, a5, a6, a7, a8⟩ := h
  rcases this with q | q | q | q | q | q | q | q
  · exact a1 (e.symm.trans q)
  · exact a2 (e.symm.trans q)
  · exact a3 (e.symm.trans q)
  · exact a4 (e.symm.trans q)
  · exact a5 (e.symm.trans q)
  · exact a6 (e.symm.trans q)
  · exact a7 (e.symm.trans q)
  · exact a8 (e.symm.trans q)
theorem enc3_none {a : Nat} (h : a ≠ 38 ∧ a ≠ 60 ∧ a ≠ 62 ∧ a ≠ 10 ∧ a ≠ 13 ∧ a ≠ 9 ∧ a ≠ 92 ∧ a ≠ 34) : enc3 a = [a] := by
  unfold enc3
  rw [if_neg h.1, if_neg h.2.2.1, if_neg h.2.1]

theorem encA (a : Nat) : encK kvA a = toldL kv8 a := by
  rcases signs_cases a with h | h
  · rcases h with rfl | rfl | rfl | rfl | rfl | rfl | rfl | rfl <;> decide
  · rw [encK, enc3_none h, repT_none (keys8 (by decide) h), told_none (keys8 (by decide) h)]
theorem encB (a : Nat) : encK kvB a = toldL kv8 a := by
  rcases signs_cases a with h | h
  · rcases h with rfl | rfl | rfl | rfl | rfl | rfl | rfl | rfl <;> decide
  · rw [encK, enc3_none h, repT_none (keys8 (by decide) h), told_none (keys8 (by decide) h)]
theorem encC (a : Nat) : encK kvC a = toldL kv6 a := by
  rcases signs_cases a with h | h
  · rcases h with rfl | rfl | rfl | rfl | rfl | rfl | rfl | rfl <;> decide
  · rw [encK, enc3_none h, repT_none (keys8 (by decide) h), told_none (keys8 (by decide) h)]

/-- what a sign is told as: itself, or a reference that has no mark, no apostrophe, no backslash, no bracket -/
structure PlainRef (t : List Nat) : Prop where
  ref : IsRef t
  no : ∀ c ∈ t, c ≠ 34 ∧ c ≠ 39 ∧ c ≠ 92 ∧ c ≠ 40 ∧ c ≠ 41
  len : t.length ≤ 6 ∧ 2 ≤ t.length
theorem plain_refs : ∀ t ∈ ([[38, 97, 109, 112, 59], [38, 108, 116, 59], [38, 103, 116, 59], [38, 35, 49, 48, 59], [38, 35, 49, 51, 59], [38, 35, 57, 59], [38, 35, 57, 50, 59], [38, 113, 117, 111, 116, 59]] : List (List Nat)), PlainRef t := by
  have mk : ∀ b : List Nat, 38 ∉ b → 59 ∉ b → (∀ c ∈ b, c ≠ 34 ∧ c ≠ 39 ∧ c ≠ 92 ∧ c ≠ 40 ∧ c ≠ 41) → b.length ≤ 4 → PlainRef (38 :: (b ++ [59])) := by
    intro b h1 h2 h3 h4
    refine ⟨⟨b, rfl, h1, h2⟩, ?_, by simp only [List.length_cons, List.length_append, List.length_nil]; omega⟩
    intro c hc
    rcases List.mem_cons.mp hc with rfl | hc
    · decide
    · rcases List.mem_append.mp hc with hc | hc
      · exact h3 c hc
      · rw [List.mem_singleton.mp hc]; decide
  intro t ht
  simp only [List.mem_cons, List.not_mem_nil, or_false] at ht
  rcases ht with rfl | rfl | rfl | rfl | rfl | rfl | rfl | rfl
  · exact mk [97, 109, 112] (by decide) (by decide) (by decide) (by decide)
  · exact mk [108, 116] (by decide) (by decide) (by decide) (by decide)
  · exact mk [103, 116] (by decide) (by decide) (by decide) (by decide)
  · exact mk [35, 49, 48] (by decide) (by decide) (by decide) (by decide)
  · exact mk [35, 49, 51] (by decide) (by decide) (by decide) (by decide)
  · exact mk [35, 57] (by decide) (by decide) (by decide) (by decide)
  · exact mk [35, 57, 50] (by decide) (by decide) (by decide) (by decide)
  · exact mk [113, 117, 111, 116] (by decide) (by decide) (by decide) (by decide)

theorem told_kind {kvs : KV} (hk : ∀ kv ∈ kvs, PlainRef kv.2) (a : Nat) : (toldL kvs a = [a] ∧ ∀ kv ∈ kvs, kv.1 ≠ a) ∨ (PlainRef (toldL kvs a) ∧ ∃ kv ∈ kvs, kv.1 = a) := by
  unfold toldL
  cases e : kvs.find? (fun kv => decide (kv.1 = a)) with
  | none =>
    left
    refine ⟨rfl, fun kv hm => ?_⟩
    have := List.find?_eq_none.mp e kv hm
    simpa using this
  | some kv =>
    right
    have h1 := List.mem_of_find?_eq_some e
    have h2 := List.find?_some e
    exact ⟨hk kv h1, kv, h1, by simpa using h2⟩

theorem kv8_ref : ∀ kv ∈ kv8, PlainRef kv.2 := by
  intro kv hk
  refine plain_refs _ ?_
  revert kv; decide
theorem kv7_ref : ∀ kv ∈ kv7, PlainRef kv.2 := by
  intro kv hk
  refine plain_refs _ ?_
  revert kv; decide
theorem kv6_ref : ∀ kv ∈ kv6, PlainRef kv.2 := by
  intro kv hk
  refine plain_refs _ ?_
  revert kv; decide

theorem kvQ_true (l : List Nat) : kvQ true l = kv8 := by simp [kvQ, kv8]
theorem kvQ_false (l : List Nat) : kvQ false l = if 39 ∈ l then kv7 else kv6 := by
  unfold kvQ kv7
  by_cases h : 39 ∈ l <;> simp [h]
theorem kvQ_ref (b : Bool) (l : List Nat) : ∀ kv ∈ kvQ b l, PlainRef kv.2 := by
  cases b with
  | true => rw [kvQ_true]; exact kv8_ref
  | false =>
    rw [kvQ_false]
    split
    · exact kv7_ref
    · exact kv6_ref

theorem mem_told {kvs : KV} (hk : ∀ kv ∈ kvs, PlainRef kv.2) {c : Nat} (hc : c = 34 ∨ c = 39) (hn : ∀ kv ∈ kvs, kv.1 ≠ c) (l : List Nat) : c ∈ l.flatMap (toldL kvs) ↔ c ∈ l := by
  rw [List.mem_flatMap]
  constructor
  · rintro ⟨a, ha, hm⟩
    rcases told_kind hk a with ⟨e, _⟩ | ⟨r, _⟩
    · rw [e, List.mem_singleton] at hm
      exact hm ▸ ha
    · have := r.no c hm
      rcases hc with q | q
      · exact absurd q this.1
      · exact absurd q this.2.1
  · intro h
    exact ⟨c, h, by rw [told_none hn]; exact .head _⟩

theorem flatMap_congr' {f g : Nat → List Nat} {l : List Nat} (h : ∀ a ∈ l, f a = g a) : l.flatMap f = l.flatMap g := by
  induction l with
  | nil => rfl
  | cons a r ih => rw [List.flatMap_cons, List.flatMap_cons, h a (.head _), ih fun b hb => h b (.tail _ hb)]

theorem told8_no34 (l : List Nat) : 34 ∉ l.flatMap (toldL kv8) := by
  rw [List.mem_flatMap]
  rintro ⟨a, _, hm⟩
  rcases told_kind kv8_ref a with ⟨e, hn⟩ | ⟨r, _⟩
  · rw [e, List.mem_singleton] at hm
    exact hn (34, [38, 113, 117, 111, 116, 59]) (by decide) hm
  · exact (r.no 34 hm).1 rfl

theorem valueU_flat (b : Bool) (l : List Nat) : (valueU b l).flatten = boundT b l :: (l.flatMap (toldL (kvQ b l)) ++ [boundT b l]) := by
  unfold valueU
  rw [List.flatten_cons, List.flatten_append, List.flatMap]
  simp

theorem quote_safe {kvs : KV} (h : ∀ a, encK kvs a = toldL kv8 a) (l : List Nat) : quoteT (l.flatMap (encK kvs)) = (valueU true l).flatten := by
  rw [valueU_flat, kvQ_true, funext h, quoteT, if_neg (told8_no34 l)]
  simp [boundT]

theorem told_67 {a : Nat} (h : a ≠ 34) : toldL kv6 a = toldL kv7 a := by
  rcases signs_cases a with h' | h'
  · rcases h' with rfl | rfl | rfl | rfl | rfl | rfl | rfl | rfl
    all_goals first | decide | exact absurd rfl h
  · rw [told_none (keys8 (by decide) h'), told_none (keys8 (by decide) h')]
theorem rep_67 (a : Nat) : rep [34] [38, 113, 117, 111, 116, 59] (toldL kv6 a) 0 = toldL kv7 a := by
  rcases signs_cases a with h' | h'
  · rcases h' with rfl | rfl | rfl | rfl | rfl | rfl | rfl | rfl <;> decide
  · rw [told_none (keys8 (by decide) h'), told_none (keys8 (by decide) h'), rep_one]
    simp [h']

theorem quote_plain {kvs : KV} (h : ∀ a, encK kvs a = toldL kv6 a) (l : List Nat) : quoteT (l.flatMap (encK kvs)) = (valueU false l).flatten := by
  have m34 := mem_told (c := 34) kv6_ref (.inl rfl) (by decide) l
  have m39 := mem_told (c := 39) kv6_ref (.inr rfl) (by decide) l
  rw [valueU_flat, kvQ_false, funext h, quoteT]
  by_cases h34 : 34 ∈ l
  · rw [if_pos (m34.mpr h34)]
    by_cases h39 : 39 ∈ l
    · rw [if_pos (m39.mpr h39), if_pos h39]
      have e : rep [34] [38, 113, 117, 111, 116, 59] (l.flatMap (toldL kv6)) 0 = l.flatMap (toldL kv7) := by
        rw [rep_one, List.flatMap_assoc]
        refine flatMap_congr' fun a _ => ?_
        rw [← rep_67 a, rep_one]
      rw [e]
      simp [boundT, h39]
    · rw [if_neg (fun x => h39 (m39.mp x)), if_neg h39]
      simp [boundT, h34, h39]
  · rw [if_neg (fun x => h34 (m34.mp x))]
    by_cases h39 : 39 ∈ l
    · rw [if_pos h39]
      have e : l.flatMap (toldL kv6) = l.flatMap (toldL kv7) := flatMap_congr' fun a ha => told_67 fun e => h34 (e ▸ ha)
      rw [e]
      simp [boundT, h39]
    · rw [if_neg h39]
      simp [boundT, h34, h39]

/-! the way back -/
def back5 : List (List Nat × Nat) := [([38, 35, 57, 50, 59], 92), ([38, 35, 57, 59], 9), ([38, 113, 117, 111, 116, 59], 34), ([38, 35, 49, 51, 59], 13), ([38, 35, 49, 48, 59], 10)]
def unE (l : List Nat) : List Nat := rep rAmp [38] (back5.foldl (fun a kv => rep kv.1 [kv.2] a 0) (rep rGt [62] (rep rLt [60] l 0) 0)) 0

def sub1 (p r t : List Nat) : List Nat := if t = p then r else t
theorem sub1_tok {p r t : List Nat} (hr : IsTok r) (h : IsTok t) : IsTok (sub1 p r t) := by
  unfold sub1; split
  · exact hr
  · exact h
theorem one_tok {c : Nat} (h : c ≠ 38) : IsTok [c] := .inl ⟨c, h, rfl⟩
theorem rep_f {p r : List Nat} (hp : IsRef p) {f : Nat → List Nat} (hf : ∀ a, IsTok (f a)) (l : List Nat) : rep p r (l.flatMap f) 0 = l.flatMap fun a => sub1 p r (f a) := by
  have := rep_toks p r hp (l.map f) (by
    intro t ht
    obtain ⟨a, _, rfl⟩ := List.mem_map.mp ht
    exact hf a)
  rw [List.flatMap, this, List.map_map, List.flatMap]
  rfl

theorem told_tok {kvs : KV} (hk : ∀ kv ∈ kvs, PlainRef kv.2) (h38 : ∃ kv ∈ kvs, kv.1 = 38) (a : Nat) : IsTok (toldL kvs a) := by
  rcases told_kind hk a with ⟨e, hn⟩ | ⟨r, _⟩
  · rw [e]
    refine one_tok fun e => ?_
    obtain ⟨kv, hm, h⟩ := h38
    exact hn kv hm (by rw [h, e])
  · exact .inr r.ref

theorem ref_of {p : List Nat} (h : p ∈ ([[38, 97, 109, 112, 59], [38, 108, 116, 59], [38, 103, 116, 59], [38, 35, 49, 48, 59], [38, 35, 49, 51, 59], [38, 35, 57, 59], [38, 35, 57, 50, 59], [38, 113, 117, 111, 116, 59]] : List (List Nat))) : IsRef p := (plain_refs p h).ref

def unC (t : List Nat) : List Nat :=
  sub1 rAmp [38] (sub1 [38, 35, 49, 48, 59] [10] (sub1 [38, 35, 49, 51, 59] [13] (sub1 [38, 113, 117, 111, 116, 59] [34] (sub1 [38, 35, 57, 59] [9] (sub1 [38, 35, 57, 50, 59] [92] (sub1 rGt [62] (sub1 rLt [60] t)))))))
theorem unE_f {f : Nat → List Nat} (hf : ∀ a, IsTok (f a)) (l : List Nat) : unE (l.flatMap f) = l.flatMap fun a => unC (f a) := by
  unfold unE back5 unC
  simp only [List.foldl_cons, List.foldl_nil]
  rw [rep_f (ref_of (by decide)) hf, rep_f (ref_of (by decide)), rep_f (ref_of (by decide)), rep_f (ref_of (by decide)), rep_f (ref_of (by decide)), rep_f (ref_of (by decide)), rep_f (ref_of (by decide)), rep_f (ref_of (by decide))]
  all_goals intro a
  all_goals repeat (first | exact hf a | refine sub1_tok (one_tok (by decide)) ?_)

theorem unC_one (a : Nat) : unC [a] = [a] := by
  have : ∀ (p : List Nat) (r : List Nat), 2 ≤ p.length → sub1 p r [a] = [a] := by
    intro p r h
    unfold sub1
    rw [if_neg]
    intro e; rw [← e] at h; simp at h
  unfold unC
  rw [this _ _ (by decide), this _ _ (by decide), this _ _ (by decide), this _ _ (by decide), this _ _ (by decide), this _ _ (by decide), this _ _ (by decide), this _ _ (by decide)]

theorem unC_8 (a : Nat) : unC (toldL kv8 a) = [a] := by
  rcases signs_cases a with h | h
  · rcases h with rfl | rfl | rfl | rfl | rfl | rfl | rfl | rfl <;> decide
  · rw [told_none (keys8 (by decide) h), unC_one]
theorem unC_7 (a : Nat) : unC (toldL kv7 a) = [a] := by
  rcases signs_cases a with h | h
  · rcases h with rfl | rfl | rfl | rfl | rfl | rfl | rfl | rfl <;> decide
  · rw [told_none (keys8 (by decide) h), unC_one]
theorem unC_6 (a : Nat) : unC (toldL kv6 a) = [a] := by
  rcases signs_cases a with h | h
  · rcases h with rfl | rfl | rfl | rfl | rfl | rfl | rfl | rfl <;> decide
  · rw [told_none (keys8 (by decide) h), unC_one]
theorem unC_Q (b : Bool) (l : List Nat) (a : Nat) : unC (toldL (kvQ b l) a) = [a] := by
  cases b with
  | true => rw [kvQ_true]; exact unC_8 a
  | false =>
    rw [kvQ_false]; split
    · exact unC_7 a
    · exact unC_6 a
theorem kvQ_38 (b : Bool) (l : List Nat) : ∃ kv ∈ kvQ b l, kv.1 = 38 := by
  cases b with
  | true => rw [kvQ_true]; exact ⟨(38, [38, 97, 109, 112, 59]), by decide, rfl⟩
  | false =>
    rw [kvQ_false]; split
    · exact ⟨(38, [38, 97, 109, 112, 59]), by decide, rfl⟩
    · exact ⟨(38, [38, 97, 109, 112, 59]), by decide, rfl⟩

theorem un_value (b : Bool) (l : List Nat) : unE (((valueU b l).flatten.drop 1).dropLast) = l := by
  rw [valueU_flat, List.drop_succ_cons, List.drop_zero, List.dropLast_concat, unE_f (told_tok (kvQ_ref b l) (kvQ_38 b l))]
  have : (fun a => unC (toldL (kvQ b l) a)) = fun a => [a] := funext (unC_Q b l)
  rw [this]
  induction l with
  | nil => rfl
  | cons a r ih => rw [List.flatMap_cons]; simp
end
section
open PySem PySem.W PySem.Calls PyProof.Rows
set_option Elab.async false
set_option maxRecDepth 100000
set_option maxHeartbeats 1000000

def flatP (ps : List LP2) : List Nat := (ps.map (·.1)).flatten
theorem flatP_app (a b : List LP2) : flatP (a ++ b) = flatP a ++ flatP b := by simp [flatP]
theorem flatP_one (u : List Nat) (h : Bool) : flatP [(u, h)] = u := by simp [flatP]
theorem rowT_app (a b : List LP2) : rowT (a ++ b) = rowT a ++ rowT b := by simp [rowT]
theorem rowT_skip {u : List Nat} (h : Bool) (h1 : u ≠ [40]) (h2 : u ≠ [41]) : rowT [(u, h)] = [] := by simp [rowT, brk, h1, h2]

/-- a unit: a single sign, or more than one, none of them a mark, a backslash, a bracket -/
def GoodU (u : List Nat) : Prop := (∃ c, u = [c]) ∨ (2 ≤ u.length ∧ ∀ c ∈ u, c ≠ 34 ∧ c ≠ 92 ∧ c ≠ 40 ∧ c ≠ 41)

structure LRel (a b : LState) : Prop where
  ins : a.inside = b.inside
  hid : a.hid = b.hid
  left : flatP a.left = flatP b.left
  held : flatP a.held = flatP b.held
  rl : rowT a.left = rowT b.left
  rh : rowT a.held = rowT b.held

theorem lrel_one {a b : LState} (r : LRel a b) (u : List Nat) : LRel (leftStep a u) (leftStep b u) := by
  obtain ⟨h1, h2, h3, h4, h5, h6⟩ := r
  unfold leftStep
  rw [← h1, ← h2]
  dsimp only
  split
  · exact ⟨rfl, rfl, h3, rfl, h5, rfl⟩
  · split
    · refine ⟨rfl, rfl, h3, ?_, h5, ?_⟩
      · rw [flatP_app, flatP_app, h4]
      · rw [rowT_app, rowT_app, h6]
    · refine ⟨rfl, rfl, ?_, h4, ?_, h6⟩
      · rw [flatP_app, flatP_app, h3]
      · rw [rowT_app, rowT_app, h5]

/-- signs that are no marks, no backslashes, no brackets, laid one by one -/
theorem plain_run : ∀ (u : List Nat) (s : LState), s.hid = false → (∀ c ∈ u, c ≠ 34 ∧ c ≠ 92 ∧ c ≠ 40 ∧ c ≠ 41) →
    (u.map fun c => [c]).foldl leftStep s = if s.inside = true then ⟨s.left, s.held ++ u.map (fun c => ([c], false)), true, false⟩ else ⟨s.left ++ u.map (fun c => ([c], false)), s.held, s.inside, false⟩
  | [], s, hs, _ => by
    obtain ⟨a, b, i, h⟩ := s
    dsimp only at hs
    subst hs
    cases i <;> simp
  | c :: u, s, hs, h => by
    obtain ⟨a, b, i, hd⟩ := s
    dsimp only at hs
    subst hs
    have hc := h c (.head _)
    rw [List.map_cons, List.foldl_cons]
    have e : leftStep ⟨a, b, i, false⟩ [c] = if i = true then ⟨a, b ++ [([c], false)], true, false⟩ else ⟨a ++ [([c], false)], b, i, false⟩ := by
      unfold leftStep
      simp [hc.1, hc.2.1]
    rw [e]
    cases i with
    | true =>
      simp only [if_true]
      rw [plain_run u _ rfl fun d hd => h d (.tail _ hd)]
      simp
    | false =>
      simp only [Bool.false_eq_true, if_false]
      rw [plain_run u _ rfl fun d hd => h d (.tail _ hd)]
      simp

theorem flatP_plain (u : List Nat) (b : Bool) : flatP (u.map fun c => ([c], b)) = u := by
  induction u with
  | nil => rfl
  | cons c u ih => rw [List.map_cons, show (([c], b) :: u.map fun c => ([c], b)) = [([c], b)] ++ u.map (fun c => ([c], b)) from rfl, flatP_app, ih, flatP_one]; rfl
theorem rowT_plain (b : Bool) : ∀ (u : List Nat), (∀ c ∈ u, c ≠ 40 ∧ c ≠ 41) → rowT (u.map fun c => ([c], b)) = []
  | [], _ => rfl
  | c :: u, h => by
    rw [List.map_cons, show (([c], b) :: u.map fun c => ([c], b)) = [([c], b)] ++ u.map (fun c => ([c], b)) from rfl, rowT_app, rowT_plain b u fun d hd => h d (.tail _ hd)]
    have := h c (.head _)
    rw [rowT_skip b (by simpa using this.1) (by simpa using this.2)]; rfl

theorem lrel_unit {a b : LState} (r : LRel a b) {u : List Nat} (hu : GoodU u) : LRel (leftStep a u) ((u.map fun c => [c]).foldl leftStep b) := by
  rcases hu with ⟨c, rfl⟩ | ⟨hl, hc⟩
  · exact lrel_one r [c]
  · match u, hl, hc with
    | c :: d :: v, hl, hc =>
      have c1 := hc c (.head _)
      have hv : ∀ x ∈ d :: v, x ≠ 34 ∧ x ≠ 92 ∧ x ≠ 40 ∧ x ≠ 41 := fun x hx => hc x (.tail _ hx)
      rw [List.map_cons, List.foldl_cons]
      obtain ⟨al, ah, ai, ad⟩ := a
      obtain ⟨bl, bh, bi, bd⟩ := b
      obtain ⟨h1, h2, h3, h4, h5, h6⟩ := r
      dsimp only at h1 h2 h3 h4 h5 h6
      subst h1 h2
      have e2 : leftStep ⟨bl, bh, ai, ad⟩ [c] = if ai = true then ⟨bl, bh ++ [([c], ad)], true, false⟩ else ⟨bl ++ [([c], ad)], bh, ai, false⟩ := by
        unfold leftStep
        simp [c1.1, c1.2.1]
      have e1 : leftStep ⟨al, ah, ai, ad⟩ (c :: d :: v) = if ai = true then ⟨al, ah ++ [(c :: d :: v, ad)], true, false⟩ else ⟨al ++ [(c :: d :: v, ad)], ah, ai, false⟩ := by
        unfold leftStep
        simp
      have r1 : rowT [(c :: d :: v, ad)] = [] := rowT_skip ad (by simp) (by simp)
      have r2 : rowT [([c], ad)] = [] := rowT_skip ad (by simpa using c1.2.2.1) (by simpa using c1.2.2.2)
      have r3 := rowT_plain false (d :: v) fun x hx => (hv x hx).2.2
      rw [e1, e2]
      cases ai with
      | true =>
        simp only [if_true]
        rw [plain_run (d :: v) _ rfl hv]
        simp only [if_true]
        refine ⟨rfl, rfl, h3, ?_, h5, ?_⟩
        · simp only [flatP_app, h4, flatP_one, flatP_plain, List.append_assoc]; rfl
        · simp only [rowT_app, h6, r1, r2, r3, List.append_nil]
      | false =>
        simp only [Bool.false_eq_true, if_false]
        rw [plain_run (d :: v) _ rfl hv]
        simp only [Bool.false_eq_true, if_false]
        refine ⟨rfl, rfl, ?_, h4, ?_, h6⟩
        · simp only [flatP_app, h3, flatP_one, flatP_plain, List.append_assoc]; rfl
        · simp only [rowT_app, h5, r1, r2, r3, List.append_nil]

def leftC (l : List Nat) : LState := leftSt (l.map fun c => [c])
theorem lrel_units : ∀ (us : List (List Nat)) (a b : LState), LRel a b → (∀ u ∈ us, GoodU u) → LRel (us.foldl leftStep a) ((us.flatten.map fun c => [c]).foldl leftStep b)
  | [], a, b, r, _ => r
  | u :: us, a, b, r, h => by
    rw [List.foldl_cons, List.flatten_cons, List.map_append, List.foldl_append]
    exact lrel_units us _ _ (lrel_unit r (h u (.head _))) fun v hv => h v (.tail _ hv)
theorem lrel_all {us : List (List Nat)} (h : ∀ u ∈ us, GoodU u) : LRel (leftSt us) (leftC us.flatten) :=
  lrel_units us _ _ ⟨rfl, rfl, rfl, rfl, rfl, rfl⟩ h

/-! the strip, sign by sign -/
theorem leftC_step (l : List Nat) (c : Nat) : leftC (l ++ [c]) = leftStep (leftC l) [c] := by
  unfold leftC leftSt
  rw [List.map_append, List.foldl_append]; rfl

def markS (l : List Nat) (st : Nat × Option Nat × List (List Nat)) (p : Nat) : Nat × Option Nat × List (List Nat) := match st.2.1 with
  | none => (st.1, some p, st.2.2)
  | some q => (p + 1, none, if st.1 = q then st.2.2 else st.2.2 ++ [(l.take q).drop st.1])
theorem run_cons_true (l : List Nat) (c : Nat) (t : List Nat) (p : Nat) (st : Nat × Option Nat × List (List Nat)) : (escU (c :: t) p true).foldl (stStep l) st = (escU t (p + 1) false).foldl (stStep l) st := by
  rw [escU, List.foldl_cons]
  congr 1
theorem run_cons_false (l : List Nat) (c : Nat) (t : List Nat) (p : Nat) (st : Nat × Option Nat × List (List Nat)) : (escU (c :: t) p false).foldl (stStep l) st = (escU t (p + 1) (decide (c = 92))).foldl (stStep l) (if c = 34 then markS l st p else st) := by
  rw [escU]
  by_cases h : c = 92
  · subst h; simp
  · rw [if_neg h, List.foldl_cons]
    simp only [h, decide_false]
    congr 1
    unfold stStep markS
    by_cases h2 : c = 34
    · subst h2
      rw [if_pos rfl, if_pos rfl]
      all_goals (try dsimp only)
      all_goals (cases st.2.1 <;> rfl)
    · rw [if_neg (by simpa using h2), if_neg h2]

/-- what holds between the two readings, p signs read -/
def SInv (l : List Nat) (p : Nat) (st : Nat × Option Nat × List (List Nat)) (ls : LState) : Prop :=
  match st.2.1 with
  | none => ls.inside = false ∧ ls.held = [] ∧ st.1 ≤ p ∧ flatP ls.left = st.2.2.flatten ++ (l.take p).drop st.1
  | some q => ls.inside = true ∧ st.1 ≤ q ∧ q ≤ p ∧ flatP ls.left = st.2.2.flatten ++ (l.take q).drop st.1 ∧ flatP ls.held = (l.take p).drop q

theorem take_drop_succ {l : List Nat} {p s c : Nat} (hs : s ≤ p) (hc : l[p]? = some c) : (l.take (p + 1)).drop s = (l.take p).drop s ++ [c] := by
  have hlt : p < l.length := (List.getElem?_eq_some_iff.mp hc).1
  rw [List.take_add_one, hc, List.drop_append_of_le_length (by rw [List.length_take]; omega)]
  rfl

theorem strip_run (l : List Nat) : ∀ (t : List Nat) (p : Nat) (st : Nat × Option Nat × List (List Nat)) (ls : LState), l.drop p = t → p ≤ l.length → SInv l p st ls → ls = leftC (l.take p) →
    SInv l l.length ((escU t p ls.hid).foldl (stStep l) st) (leftC l)
  | [], p, st, ls, hd, hp, hI, hl => by
    have hn : p = l.length := by have := congrArg List.length hd; simp at this; omega
    subst hn
    rw [List.take_length] at hl
    have e : (escU [] l.length ls.hid).foldl (stStep l) st = st := by
      unfold escU
      cases ls.hid with
      | true => simp [stStep]
      | false => rfl
    rw [e, ← hl]
    exact hI
  | c :: t, p, st, ls, hd, hp, hI, hl => by
    have hlt : p < l.length := by have := congrArg List.length hd; simp at this; omega
    have hd' : l.drop (p + 1) = t := by rw [← List.drop_drop, hd]; rfl
    have hc : l[p]? = some c := by
      have h2 : (l.drop p)[0]? = some c := by rw [hd]; rfl
      simpa using h2
    have hl' : leftStep ls [c] = leftC (l.take (p + 1)) := by
      rw [List.take_add_one, hc, Option.toList_some, leftC_step, hl]
    cases hh : ls.hid with
    | true =>
      rw [run_cons_true]
      have e : (leftStep ls [c]).hid = false := by unfold leftStep; rw [hh]; dsimp only; split <;> (try split) <;> simp
      have := strip_run l t (p + 1) st (leftStep ls [c]) hd' hlt ?_ hl'
      · rw [e] at this; exact this
      · have e2 : leftStep ls [c] = if ls.inside = true then ⟨ls.left, ls.held ++ [([c], true)], true, false⟩ else ⟨ls.left ++ [([c], true)], ls.held, ls.inside, false⟩ := by
          unfold leftStep; rw [hh]; simp
        rw [e2]
        unfold SInv at hI ⊢
        cases hq : st.2.1 with
        | none =>
          rw [hq] at hI
          obtain ⟨i1, i2, i3, i4⟩ := hI
          rw [i1]
          simp only [Bool.false_eq_true, if_false]
          refine ⟨trivial, i2, by omega, ?_⟩
          rw [flatP_app, i4, flatP_one, take_drop_succ i3 hc, List.append_assoc]
        | some q =>
          rw [hq] at hI
          obtain ⟨i1, i2, i3, i4, i5⟩ := hI
          rw [i1]
          simp only [if_true]
          refine ⟨trivial, i2, by omega, i4, ?_⟩
          rw [flatP_app, i5, flatP_one, take_drop_succ i3 hc]
    | false =>
      rw [run_cons_false]
      have e : (leftStep ls [c]).hid = decide (c = 92) := by unfold leftStep; rw [hh]; dsimp only; split <;> (try split) <;> simp
      have := strip_run l t (p + 1) (if c = 34 then markS l st p else st) (leftStep ls [c]) hd' hlt ?_ hl'
      · rw [e] at this; exact this
      · by_cases h34 : c = 34
        · subst h34
          rw [if_pos rfl]
          unfold SInv at hI
          unfold SInv markS
          cases hq : st.2.1 with
          | none =>
            rw [hq] at hI
            obtain ⟨i1, i2, i3, i4⟩ := hI
            have e2 : leftStep ls [34] = ⟨ls.left, ls.held ++ [([34], false)], true, false⟩ := by
              unfold leftStep; rw [hh, i1]; simp
            rw [e2]
            refine ⟨rfl, i3, Nat.le_succ _, i4, ?_⟩
            dsimp only
            rw [i2, List.nil_append, flatP_one, take_drop_succ (Nat.le_refl _) hc]
            simp
          | some q =>
            rw [hq] at hI
            obtain ⟨i1, i2, i3, i4, i5⟩ := hI
            have e2 : leftStep ls [34] = ⟨ls.left, [], false, false⟩ := by
              unfold leftStep; rw [hh, i1]; simp
            rw [e2]
            refine ⟨rfl, rfl, Nat.le_refl _, ?_⟩
            dsimp only
            have e3 : (l.take (p + 1)).drop (p + 1) = [] := List.drop_eq_nil_of_le (by rw [List.length_take]; omega)
            rw [i4, e3, List.append_nil]
            by_cases h : st.1 = q
            · rw [if_pos h, h, List.drop_eq_nil_of_le (by rw [List.length_take]; omega), List.append_nil]
            · rw [if_neg h, List.flatten_append]; simp
        · rw [if_neg h34]
          have e2 : leftStep ls [c] = if ls.inside = true then ⟨ls.left, ls.held ++ [([c], false)], true, decide (c = 92)⟩ else ⟨ls.left ++ [([c], false)], ls.held, ls.inside, decide (c = 92)⟩ := by
            unfold leftStep; rw [hh]; simp [h34]
          rw [e2]
          unfold SInv at hI ⊢
          cases hq : st.2.1 with
          | none =>
            rw [hq] at hI
            obtain ⟨i1, i2, i3, i4⟩ := hI
            rw [i1]
            simp only [Bool.false_eq_true, if_false]
            refine ⟨trivial, i2, by omega, ?_⟩
            rw [flatP_app, i4, flatP_one, take_drop_succ i3 hc, List.append_assoc]
          | some q =>
            rw [hq] at hI
            obtain ⟨i1, i2, i3, i4, i5⟩ := hI
            rw [i1]
            simp only [if_true]
            refine ⟨trivial, i2, by omega, i4, ?_⟩
            rw [flatP_app, i5, flatP_one, take_drop_succ i3 hc]

theorem run_no34 (l : List Nat) (st : Nat × Option Nat × List (List Nat)) : ∀ (t : List Nat) (p : Nat) (b : Bool), 34 ∉ t → (escU t p b).foldl (stStep l) st = st
  | [], p, b, _ => by
    cases b with
    | true => simp [escU, stStep]
    | false => rfl
  | c :: t, p, true, h => by rw [run_cons_true]; exact run_no34 l st t _ _ fun x => h (.tail _ x)
  | c :: t, p, false, h => by
    have hc : c ≠ 34 := fun e => h (e ▸ .head _)
    rw [run_cons_false, if_neg hc]; exact run_no34 l st t _ _ fun x => h (.tail _ x)

theorem stripT_eq (l : List Nat) : stripT l = flatP ((leftC l).left ++ (leftC l).held) := by
  have key := strip_run l l 0 (0, none, []) ⟨[], [], false, false⟩ (by simp) (Nat.zero_le _) ⟨rfl, rfl, Nat.le_refl _, rfl⟩ rfl
  have fin : stripT l = (let st := (escU l 0 false).foldl (stStep l) (0, none, []); (if st.1 < l.length then st.2.2 ++ [l.drop st.1] else st.2.2).flatten) := by
    unfold stripT
    by_cases h : 34 ∈ l
    · rw [if_pos h]
    · rw [if_neg h, run_no34 l _ l 0 false h]
      dsimp only
      split
      · simp
      · have : l = [] := List.eq_nil_of_length_eq_zero (by omega)
        subst this; rfl
  rw [fin]
  dsimp only at key ⊢
  generalize (escU l 0 false).foldl (stStep l) (0, none, []) = st at key
  have e1 : (if st.1 < l.length then st.2.2 ++ [l.drop st.1] else st.2.2).flatten = st.2.2.flatten ++ l.drop st.1 := by
    split
    · simp
    · rw [List.drop_eq_nil_of_le (by omega)]; simp
  rw [e1, flatP_app]
  unfold SInv at key
  cases hq : st.2.1 with
  | none =>
    rw [hq] at key
    obtain ⟨_, i2, i3, i4⟩ := key
    rw [List.take_length] at i4
    rw [i2, i4]
    simp [flatP]
  | some q =>
    rw [hq] at key
    obtain ⟨_, i2, i3, i4, i5⟩ := key
    rw [List.take_length] at i5
    rw [i4, i5, List.append_assoc]
    congr 1
    rw [List.drop_take]
    have : l.drop q = (l.drop st.1).drop (q - st.1) := by rw [List.drop_drop]; congr 1; omega
    rw [this, List.take_append_drop]

/-! the brackets -/
inductive Con : Bool → List LP2 → Bool → Prop
  | nil (b) : Con b [] b
  | cons (b c) {r e} : Con (decide (c = 92) && !b) r e → Con b (([c], b) :: r) e
theorem Con.app {b m e : Bool} {xs ys : List LP2} (h : Con b xs m) (k : Con m ys e) : Con b (xs ++ ys) e := by
  induction h with
  | nil => exact k
  | cons b c h ih => exact .cons b c (ih k)
theorem Con.one (b : Bool) (c : Nat) : Con b [([c], b)] (decide (c = 92) && !b) := .cons b c (.nil _)

def CInv (ls : LState) : Prop := if ls.inside = true then Con false ls.left false ∧ Con false ls.held ls.hid else Con false ls.left ls.hid ∧ ls.held = []
theorem cinv_step {ls : LState} (h : CInv ls) (c : Nat) : CInv (leftStep ls [c]) := by
  obtain ⟨a, b, i, hd⟩ := ls
  unfold CInv at h
  cases i with
  | true =>
    simp only [if_true] at h
    obtain ⟨h1, h2⟩ := h
    by_cases m : c = 34 ∧ hd = false
    · obtain ⟨rfl, rfl⟩ := m
      have e : leftStep ⟨a, b, true, false⟩ [34] = ⟨a, [], false, false⟩ := by unfold leftStep; simp
      rw [e]
      unfold CInv
      simp only [Bool.false_eq_true, if_false]
      exact ⟨h1, trivial⟩
    · have e : leftStep ⟨a, b, true, hd⟩ [c] = ⟨a, b ++ [([c], hd)], true, decide (c = 92) && !hd⟩ := by
        unfold leftStep
        have this : (decide (([c] : List Nat) = [34]) && !hd) = false := by
          cases hd with
          | true => simp
          | false => simp at m ⊢; exact m
        have e92 : decide (([c] : List Nat) = [92]) = decide (c = 92) := by simp
        dsimp only
        rw [this, e92]
        rfl
      rw [e]
      unfold CInv
      simp only [if_true]
      exact ⟨h1, h2.app (.one hd c)⟩
  | false =>
    simp only [Bool.false_eq_true, if_false] at h
    obtain ⟨h1, h2⟩ := h
    subst h2
    by_cases m : c = 34 ∧ hd = false
    · obtain ⟨rfl, rfl⟩ := m
      have e : leftStep ⟨a, [], false, false⟩ [34] = ⟨a, [([34], false)], true, false⟩ := by unfold leftStep; simp
      rw [e]
      unfold CInv
      simp only [if_true]
      exact ⟨h1, .one false 34⟩
    · have e : leftStep ⟨a, [], false, hd⟩ [c] = ⟨a ++ [([c], hd)], [], false, decide (c = 92) && !hd⟩ := by
        unfold leftStep
        have this : (decide (([c] : List Nat) = [34]) && !hd) = false := by
          cases hd with
          | true => simp
          | false => simp at m ⊢; exact m
        have e92 : decide (([c] : List Nat) = [92]) = decide (c = 92) := by simp
        dsimp only
        rw [this, e92]
        rfl
      rw [e]
      unfold CInv
      simp only [Bool.false_eq_true, if_false]
      exact ⟨h1.app (.one hd c), trivial⟩
theorem cinv_run : ∀ (l : List Nat) (ls : LState), CInv ls → CInv ((l.map fun c => [c]).foldl leftStep ls)
  | [], _, h => h
  | c :: l, ls, h => cinv_run l _ (cinv_step h c)
theorem cinv_all (l : List Nat) : CInv (leftC l) := cinv_run l _ (by unfold CInv; simp only [Bool.false_eq_true, if_false]; exact ⟨.nil _, trivial⟩)
theorem con_all (l : List Nat) : ∃ e, Con false ((leftC l).left ++ (leftC l).held) e := by
  have := cinv_all l
  unfold CInv at this
  split at this
  · exact ⟨_, this.1.app this.2⟩
  · rw [this.2, List.append_nil]; exact ⟨_, this.1⟩

def chkR : Nat → List Nat → Bool
  | n, [] => n == 0
  | n, c :: r => if c = 40 then chkR (n + 1) r else if c = 41 then (if n = 0 then false else chkR (n - 1) r) else chkR n r
theorem rowT_cons (p : LP2) (r : List LP2) : rowT (p :: r) = rowT [p] ++ rowT r := rowT_app [p] r
theorem chk_con {b e : Bool} {ps : List LP2} (h : Con b ps e) : ∀ (n p : Nat), chk n (escU (flatP ps) p b) = chkR n (rowT ps) := by
  induction h with
  | nil b =>
    intro n p
    cases b with
    | true => simp [flatP, escU, chk, rowT, chkR]
    | false => simp [flatP, escU, chk, rowT, chkR]
  | cons b c h ih =>
    rename_i r e
    intro n p
    have ef : flatP (([c], b) :: r) = c :: flatP r := rfl
    rw [ef, rowT_cons]
    cases b with
    | true =>
      have er : rowT [([c], true)] = [] := by simp [rowT, brk]
      rw [er, List.nil_append, escU, chk]
      simp only [Bool.not_true, Bool.and_false] at ih
      simp only [List.cons.injEq, reduceCtorEq, and_false, if_false]
      exact ih n (p + 1)
    | false =>
      simp only [Bool.not_false, Bool.and_true] at ih
      rw [escU]
      by_cases h92 : c = 92
      · subst h92
        have er : rowT [([92], false)] = [] := by simp [rowT, brk]
        rw [er, List.nil_append, if_pos rfl]
        simpa using ih n (p + 1)
      · rw [if_neg h92, chk]
        simp only [h92, decide_false] at ih
        by_cases h40 : c = 40
        · subst h40
          have er : rowT [([40], false)] = [40] := by simp [rowT, brk]
          rw [er, if_pos rfl, ih]
          rfl
        · by_cases h41 : c = 41
          · subst h41
            have er : rowT [([41], false)] = [41] := by simp [rowT, brk]
            rw [er, if_neg (by simp), if_pos rfl, ih]
            rfl
          · rw [rowT_skip false (by simpa using h40) (by simpa using h41), if_neg (by simpa using h40), if_neg (by simpa using h41), ih]
            rfl

theorem chkR_remP : ∀ (l : List Nat) (n : Nat), chkR n (remP l) = chkR n l
  | [], n => rfl
  | [a], n => rfl
  | a :: b :: r, n => by
    unfold remP
    by_cases h : a = 40 ∧ b = 41
    · obtain ⟨rfl, rfl⟩ := h
      rw [if_pos ⟨rfl, rfl⟩, chkR_remP r n]
      simp [chkR]
    · rw [if_neg h]
      have ih := fun k => chkR_remP (b :: r) k
      rw [chkR]
      conv => rhs; rw [chkR]
      simp only [ih]
theorem chkR_reach {l r : List Nat} (h : Reach l r) (n : Nat) : chkR n r = chkR n l := by
  induction h with
  | refl => rfl
  | step _ _ ih => rw [chkR_remP]; exact ih
def Br (l : List Nat) : Prop := ∀ c ∈ l, c = 40 ∨ c = 41
theorem br_remP : ∀ (l : List Nat), Br l → Br (remP l)
  | [], h => h
  | [a], h => h
  | a :: b :: r, h => by
    unfold remP
    split
    · exact br_remP r fun c hc => h c (.tail _ (.tail _ hc))
    · intro c hc
      rcases List.mem_cons.mp hc with rfl | hc
      · exact h _ (.head _)
      · exact br_remP (b :: r) (fun c hc => h c (.tail _ hc)) c hc
theorem br_reach {l r : List Nat} (h : Reach l r) (hl : Br l) : Br r := by
  induction h with
  | refl => exact hl
  | step _ _ ih => exact br_remP _ ih
theorem br_rowT (ps : List LP2) : Br (rowT ps) := by
  intro c hc
  obtain ⟨u, hu, hm⟩ := List.mem_flatten.mp hc
  obtain ⟨p, hp, rfl⟩ := List.mem_map.mp hu
  have := (List.mem_filter.mp hp).2
  unfold brk at this
  simp only [Bool.and_eq_true, Bool.or_eq_true, decide_eq_true_eq] at this
  rcases this.2 with e | e
  · rw [e, List.mem_singleton] at hm; exact .inl hm
  · rw [e, List.mem_singleton] at hm; exact .inr hm
theorem opens_only : ∀ (r : List Nat) (n : Nat), Br r → hasP (40 :: r) = false → chkR n (40 :: r) = false
  | [], n, _, _ => by simp [chkR]
  | b :: r, n, hb, hp => by
    unfold hasP at hp
    rw [Bool.or_eq_false_iff] at hp
    rcases hb b (.head _) with rfl | rfl
    · rw [chkR, if_pos rfl]
      exact opens_only r (n + 1) (fun c hc => hb c (.tail _ hc)) hp.2
    · simp at hp
theorem chkR_end (r : List Nat) (hb : Br r) (hp : hasP r = false) : decide (r = []) = chkR 0 r := by
  cases r with
  | nil => rfl
  | cons a r =>
    rcases hb a (.head _) with rfl | rfl
    · rw [opens_only r 0 (fun c hc => hb c (.tail _ hc)) hp]
      simp
    · simp [chkR]

/-- the joined law of the strip and the brackets -/
theorem strip_units {us : List (List Nat)} (h : ∀ u ∈ us, GoodU u) : stripT us.flatten = flatP (leftU us) := by
  have r := lrel_all h
  rw [stripT_eq, leftU, flatP_app, flatP_app, r.left, r.held]
theorem check_units {us : List (List Nat)} (h : ∀ u ∈ us, GoodU u) {r : List Nat} (hr : Reach (rowT (leftU us)) r) (hp : hasP r = false) : checkT us.flatten = decide (r = []) := by
  have q := lrel_all h
  obtain ⟨e, hc⟩ := con_all us.flatten
  have e1 : rowT (leftU us) = rowT ((leftC us.flatten).left ++ (leftC us.flatten).held) := by
    rw [leftU, rowT_app, rowT_app, q.rl, q.rh]
  rw [chkR_end r (br_reach hr (br_rowT _)) hp, chkR_reach hr, e1, checkT, stripT_eq, chk_con hc]
end
section
open PySem PySem.W PySem.Calls PyProof.Rows
set_option Elab.async false
set_option maxRecDepth 100000
set_option maxHeartbeats 1000000

abbrev OV := List Nat × List Nat
def unitsOf (safe : Bool) (ovs : List OV) : List (List Nat) := ovs.flatMap fun p => p.1.map (fun c => [c]) ++ valueU safe p.2
theorem unitsOf_cons (safe : Bool) (p : OV) (r : List OV) : unitsOf safe (p :: r) = p.1.map (fun c => [c]) ++ valueU safe p.2 ++ unitsOf safe r := by
  simp [unitsOf]
theorem unitsOf_app (safe : Bool) (a b : List OV) : unitsOf safe (a ++ b) = unitsOf safe a ++ unitsOf safe b := by simp [unitsOf]
theorem unitsOf_one (safe : Bool) (p : OV) : unitsOf safe [p] = p.1.map (fun c => [c]) ++ valueU safe p.2 := by simp [unitsOf]
theorem singles_flatten (l : List Nat) : (l.map fun c => [c]).flatten = l := by
  induction l with
  | nil => rfl
  | cons a r ih => rw [List.map_cons, List.flatten_cons, ih]; rfl

theorem told_good (safe : Bool) (v : List Nat) (a : Nat) : GoodU (toldL (kvQ safe v) a) := by
  rcases told_kind (kvQ_ref safe v) a with ⟨e, _⟩ | ⟨r, _⟩
  · exact .inl ⟨a, e⟩
  · exact .inr ⟨r.len.2, fun c hc => let ⟨h1, _, h3, h4, h5⟩ := r.no c hc; ⟨h1, h3, h4, h5⟩⟩
theorem value_good (safe : Bool) (v : List Nat) : ∀ u ∈ valueU safe v, GoodU u := by
  intro u hu
  unfold valueU at hu
  simp only [List.mem_cons, List.mem_append, List.mem_map, List.not_mem_nil, or_false] at hu
  rcases hu with rfl | ⟨a, _, rfl⟩ | rfl
  · exact .inl ⟨_, rfl⟩
  · exact told_good safe v a
  · exact .inl ⟨_, rfl⟩
theorem units_good (safe : Bool) (ovs : List OV) : ∀ u ∈ unitsOf safe ovs ++ [[41]], GoodU u := by
  intro u hu
  rcases List.mem_append.mp hu with hu | hu
  · obtain ⟨p, _, hu⟩ := List.mem_flatMap.mp hu
    rcases List.mem_append.mp hu with hu | hu
    · obtain ⟨c, _, rfl⟩ := List.mem_map.mp hu
      exact .inl ⟨c, rfl⟩
    · exact value_good safe p.2 u hu
  · rw [List.mem_singleton.mp hu]; exact .inl ⟨41, rfl⟩

theorem unit_len (safe : Bool) (ovs : List OV) : ∀ u ∈ unitsOf safe ovs, u.length ≤ 6 := by
  intro u hu
  obtain ⟨p, _, hu⟩ := List.mem_flatMap.mp hu
  rcases List.mem_append.mp hu with hu | hu
  · obtain ⟨c, _, rfl⟩ := List.mem_map.mp hu
    simp
  · unfold valueU at hu
    simp only [List.mem_cons, List.mem_append, List.mem_map, List.not_mem_nil, or_false] at hu
    rcases hu with rfl | ⟨a, _, rfl⟩ | rfl
    · simp
    · rcases told_kind (kvQ_ref safe p.2) a with ⟨e, _⟩ | ⟨r, _⟩
      · rw [e]; simp
      · exact r.len.1
    · simp
theorem units_count (safe : Bool) : ∀ (ovs : List OV), (∀ p ∈ ovs, p.1.length ≤ 1) → (unitsOf safe ovs).length ≤ 3 * ovs.length + (ovs.map (·.2)).flatten.length
  | [], _ => by simp [unitsOf]
  | p :: r, h => by
    have ih := units_count safe r fun q hq => h q (.tail _ hq)
    have h1 := h p (.head _)
    rw [unitsOf_cons]
    simp only [List.length_append, List.length_map, List.length_cons, List.map_cons, List.flatten_cons, valueU, List.length_nil]
    omega
theorem flat_len {us : List (List Nat)} {k : Nat} (h : ∀ u ∈ us, u.length ≤ k) : us.flatten.length ≤ k * us.length := by
  induction us with
  | nil => simp
  | cons u r ih =>
    have h1 := h u (.head _)
    have h2 := ih fun v hv => h v (.tail _ hv)
    rw [List.flatten_cons, List.length_append, List.length_cons, Nat.mul_succ]
    omega

/-! the safe one: what is left is what stands outside -/
theorem out_run : ∀ (o : List Nat) (a : List LP2), (∀ c ∈ o, c ≠ 34 ∧ c ≠ 92) →
    (o.map fun c => [c]).foldl leftStep ⟨a, [], false, false⟩ = ⟨a ++ o.map (fun c => ([c], false)), [], false, false⟩
  | [], a, _ => by simp
  | c :: o, a, h => by
    have hc := h c (.head _)
    have e : leftStep ⟨a, [], false, false⟩ [c] = ⟨a ++ [([c], false)], [], false, false⟩ := by
      unfold leftStep; simp [hc.1, hc.2]
    rw [List.map_cons, List.foldl_cons, e, out_run o _ fun d hd => h d (.tail _ hd)]
    simp
theorem body_run : ∀ (us : List (List Nat)) (a b : List LP2), (∀ u ∈ us, u ≠ [34] ∧ u ≠ [92]) → ∃ b', us.foldl leftStep ⟨a, b, true, false⟩ = ⟨a, b', true, false⟩
  | [], a, b, _ => ⟨b, rfl⟩
  | u :: us, a, b, h => by
    have hu := h u (.head _)
    have e : leftStep ⟨a, b, true, false⟩ u = ⟨a, b ++ [(u, false)], true, false⟩ := by
      unfold leftStep; simp [hu.1, hu.2]
    rw [List.foldl_cons, e]
    exact body_run us a _ fun v hv => h v (.tail _ hv)
theorem told_safe (a : Nat) : toldL kv8 a ≠ [34] ∧ toldL kv8 a ≠ [92] := by
  rcases told_kind kv8_ref a with ⟨e, hn⟩ | ⟨r, _⟩
  · rw [e]
    have h1 := hn (34, [38, 113, 117, 111, 116, 59]) (by decide)
    have h2 := hn (92, [38, 35, 57, 50, 59]) (by decide)
    simp only [ne_eq, List.cons.injEq, and_true]
    exact ⟨fun e => h1 e.symm, fun e => h2 e.symm⟩
  · constructor
    · intro e; have := r.len.2; rw [e] at this; simp at this
    · intro e; have := r.len.2; rw [e] at this; simp at this
theorem value_run (v : List Nat) (a : List LP2) : (valueU true v).foldl leftStep ⟨a, [], false, false⟩ = ⟨a, [], false, false⟩ := by
  have eb : boundT true v = 34 := by simp [boundT]
  unfold valueU
  rw [eb, kvQ_true, List.foldl_cons, List.foldl_append]
  have e1 : leftStep ⟨a, [], false, false⟩ [34] = ⟨a, [([34], false)], true, false⟩ := by unfold leftStep; simp
  rw [e1]
  obtain ⟨b', e2⟩ := body_run (v.map (toldL kv8)) a [([34], false)] (by
    intro u hu
    obtain ⟨c, _, rfl⟩ := List.mem_map.mp hu
    exact told_safe c)
  rw [e2]
  simp [leftStep]
theorem piece_plain {o : List Nat} (h : Piece o) : ∀ c ∈ o, c ≠ 34 ∧ c ≠ 92 := by
  intro c hc
  rcases h with rfl | rfl | rfl | rfl <;> simp at hc <;> omega
theorem piece_len {o : List Nat} (h : Piece o) : o.length ≤ 1 := by
  rcases h with rfl | rfl | rfl | rfl <;> simp
theorem safe_run : ∀ (ovs : List OV) (a : List LP2), (∀ p ∈ ovs, Piece p.1) →
    (unitsOf true ovs).foldl leftStep ⟨a, [], false, false⟩ = ⟨a ++ (ovs.map (·.1)).flatten.map (fun c => ([c], false)), [], false, false⟩
  | [], a, _ => by simp [unitsOf]
  | p :: r, a, h => by
    rw [unitsOf_cons, List.foldl_append, List.foldl_append, out_run p.1 a (piece_plain (h p (.head _))), value_run, safe_run r _ fun q hq => h q (.tail _ hq)]
    simp
theorem safe_left {ovs : List OV} (h : ∀ p ∈ ovs, Piece p.1) : flatP (leftU (unitsOf true ovs ++ [[41]])) = (ovs.map (·.1)).flatten ++ [41] := by
  unfold leftU leftSt
  rw [List.foldl_append, safe_run ovs [] h]
  have e : ([[41]] : List (List Nat)).foldl leftStep ⟨[] ++ (ovs.map (·.1)).flatten.map (fun c => ([c], false)), [], false, false⟩ = ⟨(ovs.map (·.1)).flatten.map (fun c => ([c], false)) ++ [([41], false)], [], false, false⟩ := by
    simp [leftStep]
  rw [e, flatP_app, flatP_app, flatP_one, flatP_plain]
  simp [flatP]
end
section
open PySem PySem.W PySem.Calls PyProof.Rows
set_option Elab.async false
set_option maxRecDepth 100000
set_option maxHeartbeats 1000000
theorem plain_dloop : plainId "dict.update.loop" = true := by decide +kernel
theorem entry_dloop : entryFor table "dict.update.loop" = some Builtin.«dict.update.loop» := entryFor_of_fast (by kernel_rfl)
theorem list_no_keys : typeLookup (.type "list") "keys" = pure none := am_miss_of_fast (by kernel_rfl)
section
variable {prog : Program} {w : World} {A : Around} {E : Value → Shared → Prop} {s : Shared}

theorem getAttr_no_keys {a : Addr} {o : Obj} {xs : Array Value} {k : Nat} {Q : Option Value → Shared → Prop}
    (hx : s.heap.get? a = some o) (hc : o.cls = .type "list") (hdat : o.data = .seq xs k) (hd : o.dict = none) (hA : A.handled = none)
    (h : ∀ h' tk, (∀ b ob, s.heap.get? b = some ob → h'.get? b = some ob) → s.toks ≤ tk → Q none { s with heap := h', toks := tk }) :
    wpAny (model prog w) A (getAttr? (.ref a) "keys") Q E s := by
  obtain ⟨c, dct, dat, sl⟩ := o
  simp only at hc hdat hd
  subst hc hdat hd
  refine wpAny_with_toks (Nat.le_refl s.toks) ?_
  obtain ⟨hp, g, d, tk, os⟩ := s
  have hT : ∀ tk', (⟨hp, g, d, tk', os⟩ : Shared).TypeIs (.ref a) "list" := fun _ => ⟨_, hx, rfl⟩
  have f1 := sub_AttributeError
  have f3 := F.slot_list_getattribute.lookup
  have f4 := F.slot_list_getattribute.bind (.ref a)
  have f5 := am_list_getattr_none
  unfold getAttr? getAttrBy? getAttrBy
  repeat (any_goals (first | assumption | exact hT _ | ((with_reducible show wpAny _ _ (call (Value.builtin "list.__getattribute__") _ _) _ _ _); refine call_meets F.slot_list_getattribute (hT _) am_entry_list_getattribute (F.args_list_getattribute_2 _ _) (meets_getattribute_miss_list a xs k sl "keys" _ list_no_keys (by decide +kernel) (by decide +kernel)) ⟨hx, hA, fun h' tk' e hx' => ?_⟩) | wp_step))
  obtain ⟨t', u', he⟩ := hx'.there
  show wpAny _ _ (getattributeRaised _ _ _ _ _ _ _) _ _ _
  unfold getattributeRaised
  repeat (any_goals (first | assumption | wp_step))
  intro htk
  exact h h' tk' hx'.keeps htk

/-- a table of texts filled from a list of pairs -/
def PairAt (h : Heap) (v : Value) (y : TE) : Prop := ∃ b o, v = .ref b ∧ h.get? b = some o ∧ o.cls = .type "tuple" ∧ ∃ n, o.data = .seq #[.str y.1 y.2.1, .str y.2.2.1 y.2.2.2] n

theorem dict_loop {R : Result → Shared → Prop} {d I ax : Addr} {vs : List Value} {ys : List TE} (hh : A.handled = none) (hdI : d ≠ I) (hdx : d ≠ ax) (hIx : I ≠ ax)
    (hlen : vs.length = ys.length) (hys : ys.length ≤ 500) :
    ∀ (k i : Nat) (t : Tok) (xs : List TE) (s : Shared), ys.length - i = k → i ≤ ys.length → s.heap.IsListIter I ax i → s.heap.IsList ax (List.toArray vs) → TD w s.heap d xs → xs.length ≤ i →
      (∀ (j : Nat) y, ys[j]? = some y → ∃ v, vs[j]? = some v ∧ PairAt s.heap v y) →
      (∀ h' tk, TD w h' d (putAll xs (ys.drop i)) → (∀ b o, b ≠ d → b ≠ I → s.heap.get? b = some o → h'.get? b = some o) → s.toks ≤ tk → R (.ok (.ret .none)) { s with heap := h', toks := tk }) →
      codeAny (model prog w) A (.builtin "dict.update.loop" ⟨[.ref d, .ref I, .int (i : Int) t, .none], []⟩) R s := by
  intro k
  induction k with
  | zero =>
    intro i t xs s hk hi hit hl hx hxl hP hR
    have hin : i = ys.length := by omega
    subst hin
    refine codeAny_builtin entry_dloop ?_
    rw [Around.under_plainId plain_dloop _]
    show wpAny _ A.in1 (pyNext (.ref I) >>= _) _ _ s
    refine wpAny_bind (wpAny_pyNext_list_end (by exact hh) hit hl (by simp [hlen]) fun h' hk' => ?_)
    refine wpAny_bind (m := Builtin.Dict.addKeywords d []) (wpAny_pure (wpAny_pure ?_))
    refine hR h' s.toks ?_ (fun b o _ hb e => hk' b o hb e) (Nat.le_refl _)
    rw [List.drop_length]
    exact hx.keep fun o e => hk' d o hdI e
  | succ k ih =>
    intro i t xs s hk hi hit hl hx hxl hP hR
    have hlt : i < ys.length := by omega
    refine codeAny_builtin entry_dloop ?_
    rw [Around.under_plainId plain_dloop _]
    obtain ⟨v, hv, b, o, rfl, ho, hc, n, hd⟩ := hP i ys[i] (by simp [hlt])
    show wpAny _ A.in1 (pyNext (.ref I) >>= _) _ _ s
    refine wpAny_bind (wpAny_pyNext_list_item hit hl (x := .ref b) (by simpa using hv) fun h₁ hit₁ hs₁ => ?_)
    have hbI : b ≠ I := by
      rintro rfl
      obtain ⟨o', ho', hc', _⟩ := hit
      rw [ho] at ho'; cases ho'; rw [hc] at hc'; exact absurd (Value.type.inj hc') (by decide)
    have hbd : b ≠ d := by
      rintro rfl
      obtain ⟨o', ep, ho', hc', _⟩ := hx
      rw [ho] at ho'; cases ho'; have e9 := hc'.1; rw [hc] at e9; exact absurd (Value.type.inj e9) (by decide)
    have k₁ : ∀ b o, b ≠ I → s.heap.get? b = some o → h₁.get? b = some o := fun b o hb e => hs₁.extBut b o hb e
    have ho₁ := k₁ b o hbI ho
    show wpAny _ _ (holding [.ref b] _ >>= _) _ _ _
    refine wpAny_bind (wpAny_holding ?_)
    refine wpAny_bind (wpAny_tryCatch ?_)
    unfold Builtin.Dict.pairItems
    refine wpAny_bind (wpAny_typeOf (T := "tuple") (s := { s with heap := h₁ }) ⟨o, ho₁, hc⟩ ?_)
    rw [if_pos (by decide)]
    refine wpAny_bind (wpAny_seqItems (s := { s with heap := h₁ }) ho₁ hd (wpAny_pure ?_))
    show wpAny _ _ (holding [Value.str ys[i].1 ys[i].2.1, Value.str ys[i].2.2.1 ys[i].2.2.2] (dictSet d (Value.str ys[i].1 ys[i].2.1) (Value.str ys[i].2.2.1 ys[i].2.2.2))) _ _ _
    refine wpAny_holding (td_set (s := { s with heap := h₁ }) (hx.keep fun o e => k₁ d o hdI e) (by omega) fun h₂ hx₂ hs₂ => ?_)
    have hlist : h₂.IsList ax (List.toArray vs) := let ⟨o, ho, r⟩ := hl; ⟨o, hs₂.extBut _ _ hdx.symm (k₁ _ _ hIx.symm ho), r⟩
    have hiter : h₂.IsListIter I ax (i + 1) := let ⟨o, ho, r⟩ := hit₁; ⟨o, hs₂.extBut _ _ hdI.symm ho, r⟩
    refine wpAny_pure ⟨plainId_quiet plain_dloop _, ih (i + 1) _ _ _ (by omega) hlt hiter hlist hx₂ ?_ ?_ ?_⟩
    · have := put_length xs ys[i].1 ys[i].2.1 ys[i].2.2.1 ys[i].2.2.2
      omega
    · intro j y hj
      obtain ⟨v', hv', b', o', rfl, ho', hc', n', hd'⟩ := hP j y hj
      have hb'I : b' ≠ I := by
        rintro rfl
        obtain ⟨o'', ho'', hc'', _⟩ := hit
        rw [ho'] at ho''; cases ho''; rw [hc'] at hc''; exact absurd (Value.type.inj hc'') (by decide)
      have hb'd : b' ≠ d := by
        rintro rfl
        obtain ⟨o'', ep, ho'', hc'', _⟩ := hx
        rw [ho'] at ho''; cases ho''; have e9 := hc''.1; rw [hc'] at e9; exact absurd (Value.type.inj e9) (by decide)
      exact ⟨_, hv', b', o', rfl, hs₂.extBut _ _ hb'd (k₁ _ _ hb'I ho'), hc', n', hd'⟩
    · intro h' tk hx' hk' htk
      have hdrop : ys.drop i = ys[i] :: ys.drop (i + 1) := List.drop_eq_getElem_cons hlt
      refine hR h' tk ?_ (fun b o hb hb' e => hk' b o hb hb' (hs₂.extBut _ _ hb (k₁ _ _ hb' e))) (Nat.le_trans (Nat.le_succ _) htk)
      rw [hdrop]
      exact hx'

/-- dict(xs) of a list of pairs of texts -/
theorem dict_of_pairs {ax : Addr} {vs : List Value} {ys : List TE} {ol : Obj} {nl : Nat} {Q : Value → Shared → Prop} (hh : A.handled = none)
    (hol : s.heap.get? ax = some ol) (hcl : ol.cls = .type "list") (hdl : ol.data = .seq (List.toArray vs) nl) (hdd : ol.dict = none)
    (hlen : vs.length = ys.length) (hys : ys.length ≤ 500) (hnd : (ys.map (·.1)).Nodup)
    (hP : ∀ (j : Nat) y, ys[j]? = some y → ∃ v, vs[j]? = some v ∧ PairAt s.heap v y)
    (h : ∀ h' tk, TD w h' s.heap.objs.size ys → (∀ b o, s.heap.get? b = some o → h'.get? b = some o) → s.toks ≤ tk → Q (.ref s.heap.objs.size) { s with heap := h', toks := tk }) :
    wpAny (model prog w) A (call (.type "dict") [.ref ax]) Q E s := by
  refine callType_codes (Q₁ := fun obj s₁ => obj = .ref s.heap.objs.size ∧ s₁ = { s with heap := s.heap.push { cls := .type "dict", data := .dict #[] } }) F.kt_called_dict (F.kt_typeCall_dict_1 _) F.entry_dict_init (kt_code_dict_new _ ⟨rfl, rfl⟩) ?_
  rintro obj s₁ ⟨rfl, rfl⟩
  have hnew : TD w (s.heap.push { cls := .type "dict", data := .dict #[] }) s.heap.objs.size [] := td_empty s.heap
  have hax : ax < s.heap.objs.size := Heap.lt_size hol
  have hol₁ : (s.heap.push { cls := .type "dict", data := .dict #[] }).get? ax = some ol := Heap.get?_push_of_some _ hol
  refine ⟨hnew.typeIs (s := { s with heap := s.heap.push { cls := .type "dict", data := .dict #[] } }), F.args_dict_init_2 _ _, ?_⟩
  unfold Builtin.«dict.__init__»
  refine wpAny_bind ?_
  unfold Builtin.Dict.selfAndRest
  refine wpAny_bind (wpAny_notOrdered_dict (hnew.typeIs (s := { s with heap := s.heap.push { cls := .type "dict", data := .dict #[] } })) ?_)
  show wpAny _ _ (pure (s.heap.objs.size, [Value.ref ax])) _ _ _
  refine wpAny_pure ?_
  show wpAny _ _ (Builtin.Dict.updateFrom "dict.__init__" s.heap.objs.size (.ref ax) [] .none) _ _ _
  unfold Builtin.Dict.updateFrom
  refine wpAny_bind (wpAny_typeOf (T := "list") (s := { s with heap := s.heap.push { cls := .type "dict", data := .dict #[] } }) ⟨ol, hol₁, hcl⟩ ?_)
  rw [if_pos (by decide)]
  refine wpAny_bind (getAttr_no_keys (s := { s with heap := s.heap.push { cls := .type "dict", data := .dict #[] } }) hol₁ hcl hdl hdd (by exact hh) fun h₂ tk₂ k₂ htk₂ => ?_)
  rw [if_pos (by rfl)]
  refine wpAny_bind (wpAny_rule ?_)
  refine wpAny_bind (wpAny_pyIter_list (s := ⟨_, _, _, _, _⟩) (items := List.toArray vs) ⟨ol, k₂ _ _ hol₁, hcl, nl, hdl⟩ ?_)
  have hsz : s.heap.objs.size < h₂.objs.size := by obtain ⟨o, _, ho, _⟩ := hnew; exact Heap.lt_size (k₂ _ _ ho)
  have kk : ∀ b o, s.heap.get? b = some o → (h₂.push { cls := .type "list_iterator", data := .fields #[.ref ax, .int 0 0] }).get? b = some o :=
    fun b o e => Heap.get?_push_of_some _ (k₂ b o (Heap.get?_push_of_some _ e))
  refine wpAny_pure ⟨plainId_quiet plain_dloop _, ?_⟩
  refine dict_loop (d := s.heap.objs.size) (I := h₂.objs.size) (ax := ax) (ys := ys) (by exact hh) (Nat.ne_of_lt hsz) (Nat.ne_of_gt hax) (Nat.ne_of_gt (Nat.lt_trans hax hsz)) hlen hys _ 0 _ [] _ rfl (Nat.zero_le _) ?_ ?_ ?_ (Nat.le_refl _) ?_ ?_
  · exact ⟨_, Heap.get?_push_size _ rfl, rfl, rfl⟩
  · exact ⟨ol, kk _ _ hol, hcl, nl, hdl⟩
  · exact hnew.keep fun o e => Heap.get?_push_of_some _ (k₂ _ o e)
  · intro j y hj
    obtain ⟨v, hv, b, o, rfl, ho, r⟩ := hP j y hj
    exact ⟨_, hv, b, o, rfl, kk _ _ ho, r⟩
  · intro h' tk hx' hk' htk
    refine ⟨rfl, ?_⟩
    rw [List.drop_zero, putAll_nil hnd] at hx'
    refine h h' tk hx' (fun b o e => hk' b o (Nat.ne_of_lt (Heap.lt_size e)) (Nat.ne_of_lt (Nat.lt_trans (Heap.lt_size e) hsz)) (kk _ _ e)) (Nat.le_trans htk₂ htk)
end
end
section
open PySem PySem.W PySem.Calls PyProof.Rows PySem.SeqAt
set_option Elab.async false
set_option maxRecDepth 100000
set_option maxHeartbeats 1000000
section
variable {prog : Program} {w : World} {A : Around} {E : Value → Shared → Prop} {s : Shared}

theorem all_true (n : Nat) : (List.range n).all (fun _ => true) = true := by simp

/-- two lists of the same texts are equal -/
theorem eq_strs {a b : Addr} {la lb : List (Str × Tok)} {Q : Value → Shared → Prop} (ha : s.heap.IsList a (strValues la).toArray) (hb : s.heap.IsList b (strValues lb).toArray) (e : la.map (·.1) = lb.map (·.1)) (hu : A.units < cLine)
    (h : Q (.bool true) s) : wpAny (model prog w) A (compareOp .Eq (.ref a) (.ref b)) Q E s := by
  have hl : la.length = lb.length := by have := congrArg List.length e; simpa using this
  refine eq_listAt (e := fun _ => true) ha hb (by simp [strValues, hl]) hu (fun j h1 h2 => ?_) (by rw [all_true]; exact h)
  have h1' : j < la.length := by simpa [strValues] using h1
  have h2' : j < lb.length := by simpa [strValues] using h2
  have e1 : (strValues la).toArray[j] = .str la[j].1 la[j].2 := by simp [strValues]
  have e2 : (strValues lb).toArray[j] = .str lb[j].1 lb[j].2 := by simp [strValues]
  have e3 : la[j].1 = lb[j].1 := by
    have := congrArg (fun z => z[j]?) e
    simpa [h1', h2'] using this
  rw [e1, e2, e3]
  have := EqAt.str_str (A := A.in1) (s := s) lb[j].1 la[j].2 lb[j].1 lb[j].2
  rw [beq_self_eq_true] at this
  exact this

/-- a list of pairs that a table hands out equals the list of pairs it was made of -/
theorem eq_pairs {a b : Addr} {as : List Addr} {vs : List Value} {ys : List TE} {Q : Value → Shared → Prop} (ha : s.heap.IsList a (as.map Value.ref).toArray) (hb : s.heap.IsList b (List.toArray vs)) (hu : A.units + 1 < cLine)
    (hlen : as.length = ys.length) (hvs : vs.length = ys.length) (hP : ∀ (j : Nat) y, ys[j]? = some y → ∃ v, vs[j]? = some v ∧ PairAt s.heap v y)
    (hG : KdxG (PySem.strKind prog w) (ys.map fun x => (x.1, Value.str x.2.2.1 x.2.2.2)) a s.heap as)
    (h : Q (.bool true) s) : wpAny (model prog w) A (compareOp .Eq (.ref a) (.ref b)) Q E s := by
  refine eq_listAt (e := fun _ => true) ha hb (by simp [hlen, hvs]) (Nat.lt_of_succ_lt hu) (fun j h1 h2 => ?_) (by rw [all_true]; exact h)
  have h1' : j < as.length := by simpa using h1
  have h2' : j < vs.length := by simpa using h2
  have hy : j < ys.length := by omega
  obtain ⟨key, k, x, e1, e2, e3⟩ := hG.pairs j as[j] (by simp [h1'])
  obtain ⟨v, hv, c, o, rfl, ho, hc, n, hd⟩ := hP j ys[j] (by simp [hy])
  have a1 : (as.map Value.ref).toArray[j] = .ref as[j] := by simp
  have a2 : (List.toArray vs)[j] = .ref c := by
    have : vs[j]? = some vs[j] := by simp [h2']
    rw [this] at hv
    simpa using hv
  rw [a1, a2]
  have hkx : k = ys[j].1 ∧ x = .str ys[j].2.2.1 ys[j].2.2.2 := by
    simp only [List.getElem?_map, List.getElem?_eq_getElem hy, Option.map_some, Option.some.injEq, Prod.mk.injEq] at e1
    exact ⟨e1.1.symm, e1.2.symm⟩
  obtain ⟨rfl, rfl⟩ := hkx
  obtain ⟨t, rfl⟩ : ∃ t, key = .str ys[j].1 t := by
    cases key with
    | str z t =>
      have : (z == ys[j].1) = true := e2
      exact ⟨t, by rw [eq_of_beq this]⟩
    | _ => exact absurd e2 (by intro e; cases e)
  by_cases hac : as[j] = c
  · rw [hac]; exact EqAt.same _
  · have hne : as[j] ≠ c := hac
    refine EqAt.of_refs hne ?_
    have := RcAt.tuples (A := A.in1) (s := s) (l := as[j]) (b := c) (e := fun _ => true) ⟨_, e3, rfl, 0, rfl⟩ ⟨o, ho, hc, n, hd⟩ (by show A.units + 1 < cLine; exact hu) (by
      intro i i1 i2
      have hi : i < 2 := by simpa using i1
      match i, hi with
      | 0, _ =>
        have := EqAt.str_str (A := A.in1.in1) (s := s) ys[j].1 t ys[j].1 ys[j].2.1
        rw [beq_self_eq_true] at this
        exact this
      | 1, _ => exact EqAt.same _)
    exact this
end
end
section
open PySem PySem.W PySem.Calls PyProof.Rows
set_option Elab.async false
set_option maxRecDepth 100000
set_option maxHeartbeats 1000000

/-! the tables of the law -/
def prj (y : TE) : Str × Str := (y.1, y.2.2.1)
def putP (xs : List (Str × Str)) (k v : Str) : List (Str × Str) := if xs.any (fun e => e.1 = k) then xs.map (fun e => if e.1 = k then (e.1, v) else e) else xs ++ [(k, v)]
theorem prj_put (xs : List TE) (k : Str) (tk : Tok) (v : Str) (tv : Tok) : (put xs k tk v tv).map prj = putP (xs.map prj) k v := by
  unfold put putP
  have e : (xs.map prj).any (fun e => decide (e.1 = k)) = xs.any (fun e => decide (e.1 = k)) := by
    rw [List.any_map]; rfl
  rw [e]
  split
  · rw [List.map_map, List.map_map]
    refine List.map_congr_left fun x _ => ?_
    by_cases h : x.1 = k <;> simp [prj, h]
  · rw [List.map_append]; rfl
theorem prj_putAll (ys : List TE) : ∀ xs : List TE, (putAll xs ys).map prj = (ys.map prj).foldl (fun a e => putP a e.1 e.2) (xs.map prj) := by
  induction ys with
  | nil => intro xs; rfl
  | cons y ys ih =>
    intro xs
    show (putAll (put xs y.1 y.2.1 y.2.2.1 y.2.2.2) ys).map prj = _
    rw [ih, prj_put]; rfl
theorem tells_prj {ys : List TE} {kvs : KV} : Tells ys kvs ↔ ys.map prj = kvs.map fun kv => (S [kv.1], S kv.2) := Iff.rfl

def ysA (k : Nat) : List TE := [("\"", k, "&quot;", k + 1), ("\n", k + 1 + 1, "@", k + 1 + 1 + 1), ("\\", k + 1 + 1 + 1 + 1, "&#92;", k + 1 + 1 + 1 + 1 + 1)]
def ysB (k : Nat) : List TE := [("\\", k + 1 + 1 + 1 + 1, "&#92;", k + 1 + 1 + 1 + 1 + 1), ("\n", k + 1 + 1, "@", k + 1 + 1 + 1), ("\"", k, "&quot;", k + 1)]
theorem ysA_prj (k : Nat) : (ysA k).map prj = ([("\"", "&quot;"), ("\n", "@"), ("\\", "&#92;")] : List (Str × Str)) := rfl
theorem ysB_prj (k : Nat) : (ysB k).map prj = ([("\\", "&#92;"), ("\n", "@"), ("\"", "&quot;")] : List (Str × Str)) := rfl
theorem ext_prj (k : Nat) : (extOf k).map prj = ([("\n", "&#10;"), ("\u000d", "&#13;"), ("\t", "&#9;")] : List (Str × Str)) := rfl
theorem tellsA (k j : Nat) : Tells (putAll (ysA k) (extOf j)) kvA := by
  rw [tells_prj, prj_putAll, ysA_prj, ext_prj]
  decide +kernel
theorem tellsB (k j : Nat) : Tells (putAll (ysB k) (extOf j)) kvB := by
  rw [tells_prj, prj_putAll, ysB_prj, ext_prj]
  decide +kernel
theorem tellsC (j : Nat) : Tells (putAll [] (extOf j)) kvC := by
  rw [tells_prj, prj_putAll, ext_prj]
  decide +kernel
theorem nodup_prj (ys : List TE) : ys.map (·.1) = (ys.map prj).map (·.1) := by rw [List.map_map]; rfl
theorem ysA_nodup (k : Nat) : ((ysA k).map (·.1)).Nodup := by rw [nodup_prj, ysA_prj]; decide +kernel
theorem ysB_nodup (k : Nat) : ((ysB k).map (·.1)).Nodup := by rw [nodup_prj, ysB_prj]; decide +kernel
theorem ysA_toks {k : Nat} (h : 1 ≤ k) : Toks 1 (k + 6) (ysA k) := by
  intro y hy
  simp only [ysA, List.mem_cons, List.not_mem_nil, or_false] at hy
  unfold TokOk
  rcases hy with rfl | rfl | rfl <;> dsimp only <;> omega
theorem ysB_toks {k : Nat} (h : 1 ≤ k) : Toks 1 (k + 6) (ysB k) := by
  intro y hy
  simp only [ysB, List.mem_cons, List.not_mem_nil, or_false] at hy
  unfold TokOk
  rcases hy with rfl | rfl | rfl <;> dsimp only <;> omega
theorem Toks.mono {lo hi hi' : Nat} {ys : List TE} (h : Toks lo hi ys) (e : hi ≤ hi') : Toks lo hi' ys := by
  intro y hy
  have := h y hy
  unfold TokOk at *
  omega

/-- what quoteattr asks of a table -/
structure KvOk (kvs : KV) : Prop where
  kv : ∀ kv ∈ kvs, kv.2.length ≤ 10 ∧ [kv.1] ≠ kv.2
  len : ∀ i a, (repT (kvs.take i) (enc3 a)).length ≤ 10
theorem take_small {kvs : KV} {a : Nat} (hk : ∀ kv ∈ kvs, kv.1 ∈ [38, 60, 62, 10, 13, 9, 92, 34]) (h : a ≠ 38 ∧ a ≠ 60 ∧ a ≠ 62 ∧ a ≠ 10 ∧ a ≠ 13 ∧ a ≠ 9 ∧ a ≠ 92 ∧ a ≠ 34) (i : Nat) : (repT (kvs.take i) (enc3 a)).length ≤ 10 := by
  rw [enc3_none h, repT_none (keys8 (fun kv hm => hk kv (List.mem_of_mem_take hm)) h)]
  simp
theorem len_ok {kvs : KV} (hk : ∀ kv ∈ kvs, kv.1 ∈ [38, 60, 62, 10, 13, 9, 92, 34]) (hl : kvs.length ≤ 5)
    (hd : ∀ i < 6, ∀ a ∈ [38, 60, 62, 10, 13, 9, 92, 34], (repT (kvs.take i) (enc3 a)).length ≤ 10) (i a : Nat) : (repT (kvs.take i) (enc3 a)).length ≤ 10 := by
  rcases signs_cases a with h | h
  · have ha : a ∈ [38, 60, 62, 10, 13, 9, 92, 34] := by simpa using h
    rcases Nat.lt_or_ge i 6 with h1 | h1
    · exact hd i h1 a ha
    · have e : kvs.take i = kvs.take 5 := by rw [List.take_of_length_le (by omega), List.take_of_length_le hl]
      rw [e]; exact hd 5 (by omega) a ha
  · exact take_small hk h i
theorem kvA_ok : KvOk kvA := ⟨by decide, len_ok (by decide) (by decide) (by decide +kernel)⟩
theorem kvB_ok : KvOk kvB := ⟨by decide, len_ok (by decide) (by decide) (by decide +kernel)⟩
theorem kvC_ok : KvOk kvC := ⟨by decide, len_ok (by decide) (by decide) (by decide +kernel)⟩

/-! the way back -/
def ys5 (k : Nat) : List TE := [("&#92;", k, "\\", k + 1), ("&#9;", k + 1 + 1, "\t", k + 1 + 1 + 1), ("&quot;", k + 1 + 1 + 1 + 1, "\"", k + 1 + 1 + 1 + 1 + 1),
  ("&#13;", k + 1 + 1 + 1 + 1 + 1 + 1, "\u000d", k + 1 + 1 + 1 + 1 + 1 + 1 + 1), ("&#10;", k + 1 + 1 + 1 + 1 + 1 + 1 + 1 + 1, "\n", k + 1 + 1 + 1 + 1 + 1 + 1 + 1 + 1 + 1)]
theorem ys5_prj (k : Nat) : (ys5 k).map prj = ([("&#92;", "\\"), ("&#9;", "\t"), ("&quot;", "\""), ("&#13;", "\u000d"), ("&#10;", "\n")] : List (Str × Str)) := rfl
theorem ys5_back (k : Nat) : (ys5 k).map prj = back5.map fun kv => (S kv.1, S [kv.2]) := by rw [ys5_prj]; decide +kernel
theorem ys5_nodup (k : Nat) : ((ys5 k).map (·.1)).Nodup := by rw [nodup_prj, ys5_prj]; decide +kernel
abbrev BK := List (List Nat × Nat)
def backF (bk : BK) (l : List Nat) : List Nat := bk.foldl (fun a kv => rep kv.1 [kv.2] a 0) l
theorem replAll_back : ∀ {ys : List TE} {bk : BK} (l : List Nat), ys.map prj = bk.map (fun kv => (S kv.1, S [kv.2])) → (∀ kv ∈ bk, kv.1 ≠ []) → replAll (S l) ys = S (backF bk l)
  | [], [], _, _, _ => rfl
  | [], _ :: _, _, h, _ => by cases h
  | _ :: _, [], _, h, _ => by cases h
  | y :: ys, kv :: bk, l, h, hn => by
    have h1 := congrArg List.head? h
    have h2 := congrArg List.tail h
    simp only [List.map_cons, List.head?_cons, Option.some.injEq, prj, Prod.mk.injEq, List.tail_cons] at h1 h2
    show replAll (Txt.replace (S l) y.1 y.2.2.1) ys = S (backF bk (rep kv.1 [kv.2] l 0))
    rw [h1.1, h1.2, replace_rep _ _ _ (hn kv (.head _))]
    exact replAll_back _ h2 fun kv' hk => hn kv' (.tail _ hk)
theorem rep_len {pat : List Nat} {c : Nat} (hp : pat ≠ []) : ∀ (l : List Nat) (k : Nat), k ≤ l.length → (rep pat [c] l k).length + k ≤ l.length
  | [], k, h => by simp [rep] at h ⊢; omega
  | a :: t, 0, _ => by
    have hpl : 0 < pat.length := List.length_pos_iff.mpr hp
    rw [rep]
    split
    · rename_i hq
      have h1 := (List.isPrefixOf_iff_prefix.mp hq).length_le
      simp only [List.length_cons] at h1
      have ih := rep_len (c := c) hp t (pat.length - 1) (by omega)
      simp only [List.length_append, List.length_cons, List.length_nil]
      omega
    · have ih := rep_len (c := c) hp t 0 (by omega)
      simp only [List.length_cons]
      omega
  | a :: t, k + 1, h => by
    rw [rep]
    have ih := rep_len (c := c) hp t k (by simpa using h)
    simp only [List.length_cons]
    omega
theorem rep_le {pat : List Nat} {c : Nat} (hp : pat ≠ []) (l : List Nat) : (rep pat [c] l 0).length ≤ l.length := by
  have := rep_len (c := c) hp l 0 (by omega)
  omega
theorem backF_le : ∀ (bk : BK) (l : List Nat), (∀ kv ∈ bk, kv.1 ≠ []) → (backF bk l).length ≤ l.length
  | [], l, _ => Nat.le_refl _
  | kv :: bk, l, h => by
    have h1 := backF_le bk (rep kv.1 [kv.2] l 0) fun kv' hk => h kv' (.tail _ hk)
    have h2 := rep_le (c := kv.2) (h kv (.head _)) l
    show (backF bk (rep kv.1 [kv.2] l 0)).length ≤ _
    omega
theorem back5_ne : ∀ kv ∈ back5, kv.1 ≠ [] := by decide
theorem tok3 (a : Nat) (h : 1 ≤ a) : a ≠ 0 ∧ a + 1 ≠ 0 ∧ a ≠ a + 1 := by omega
theorem ys5_ok {k : Nat} (hk : 1 ≤ k) (l : List Nat) (hl : l.length ≤ 100000) (i : Nat) (y : TE) (h : (ys5 k)[i]? = some y) :
    (replAll (S l) ((ys5 k).take i)).length ≤ 100000 ∧ y.2.2.1.length ≤ 100 ∧ (y.1 == y.2.2.1) = false ∧ y.2.1 ≠ 0 ∧ y.2.2.2 ≠ 0 ∧ y.2.1 ≠ y.2.2.2 := by
  refine ⟨?_, ?_⟩
  · rw [replAll_back (bk := back5.take i) l (by rw [List.map_take, ys5_back, List.map_take]) (fun kv hm => back5_ne kv (List.mem_of_mem_take hm)), S_length]
    have := backF_le (back5.take i) l fun kv hm => back5_ne kv (List.mem_of_mem_take hm)
    omega
  · have hy := List.mem_of_getElem? h
    simp only [ys5, List.mem_cons, List.not_mem_nil, or_false] at hy
    rcases hy with rfl | rfl | rfl | rfl | rfl
    · exact ⟨by dsimp only; decide +kernel, by dsimp only; decide +kernel, tok3 k hk⟩
    · exact ⟨by dsimp only; decide +kernel, by dsimp only; decide +kernel, tok3 (k + 1 + 1) (by omega)⟩
    · exact ⟨by dsimp only; decide +kernel, by dsimp only; decide +kernel, tok3 (k + 1 + 1 + 1 + 1) (by omega)⟩
    · exact ⟨by dsimp only; decide +kernel, by dsimp only; decide +kernel, tok3 (k + 1 + 1 + 1 + 1 + 1 + 1) (by omega)⟩
    · exact ⟨by dsimp only; decide +kernel, by dsimp only; decide +kernel, tok3 (k + 1 + 1 + 1 + 1 + 1 + 1 + 1 + 1) (by omega)⟩
theorem unE_back (l : List Nat) : unE l = rep rAmp [38] (backF back5 (rep rGt [62] (rep rLt [60] l 0) 0)) 0 := rfl
end
section
open PySem PySem.W PySem.Calls PyProof.Rows
set_option Elab.async false
set_option maxRecDepth 100000
set_option maxHeartbeats 1000000

theorem signs_strs {l : List Nat} {acc : Array Value} (h : ItemsOf (SignAt (S l)) acc (S l).cps.size) : ∃ lt : List (Str × Tok), acc = (strValues lt).toArray ∧ lt.map (·.1) = (l.map fun c => [c]).map S := by
  obtain ⟨hs, hP⟩ := h
  have hsz : (S l).cps.size = l.length := by simp [S]
  rw [hsz] at hs
  have key : ∀ (vs : List Value) (l : List Nat), vs.length = l.length → (∀ j v, vs[j]? = some v → SignAt (S l) j v) → ∃ lt : List (Str × Tok), vs = strValues lt ∧ lt.map (·.1) = (l.map fun c => [c]).map S := by
    intro vs
    induction vs with
    | nil =>
      intro l hl _
      have : l = [] := by simpa using hl.symm
      subst this
      exact ⟨[], rfl, rfl⟩
    | cons v vs ih =>
      intro l hl hP
      cases l with
      | nil => simp at hl
      | cons c l =>
        obtain ⟨lt, h1, h2⟩ := ih l (by simpa using hl) (fun j v hv => by
          obtain ⟨c', u', h3, h4⟩ := hP (j + 1) v (by simpa using hv)
          exact ⟨c', u', by simpa [S] using h3, h4⟩)
        obtain ⟨c', u', h3, h4⟩ := hP 0 v rfl
        have h5 : c = c' := by simpa [S] using h3
        subst h5
        exact ⟨(S [c], u') :: lt, by rw [h1, h4]; rfl, by simp [h2]⟩
  obtain ⟨lt, h1, h2⟩ := key acc.toList l (by simpa using hs) (fun j v hv => hP j v (by simpa using hv))
  exact ⟨lt, by rw [← h1], h2⟩

theorem join_ok {ls : List (List Nat)} (h1 : ∀ u ∈ ls, u.length ≤ 10) (h2 : ls.length ≤ 1000) : JoinOk (S []) (ls.map S) = true := by
  refine joinOk_of ?_
  have e1 := sum_le (n := 10) ls h1
  show _ + _ * 0 ≤ _
  omega

section
variable {h h' h₀ : Heap} {L : Addr} {m : Str → Option Value} {news : List (Addr × Obj)}
/-- what a callee made and gave back, put into the ledger -/
theorem news_back {hb : Heap} {D : Addr} {o : Obj} (F : Fr h₀ L hb m) (N : News h₀ L h' news) (hD : hb.get? D = none) (hD' : h'.get? D = some o) : News h₀ L h' ((D, o) :: news) := by
  intro p hp
  rcases List.mem_cons.mp hp with rfl | hp
  · refine ⟨hD', ?_, ?_⟩
    · rintro rfl
      obtain ⟨o', _, _, ho', _⟩ := F.ns
      rw [hD] at ho'; cases ho'
    · cases e : h₀.get? D with
      | none => rfl
      | some o' => rw [F.keep D o' e] at hD; cases hD
  · exact N p hp
end

section
variable {prog : Program} {w : World} {A : Around} {E : Value → Shared → Prop} {s : Shared} {name : Str} {scope : Scope} {L a : Addr} {cd : Value} {h₀ : Heap} {m : Str → Option Value} {news : List (Addr × Obj)}

theorem ne_same {x : List Nat} {t u : Tok} {Q : Value → Shared → Prop} (h : Q (.bool false) s) : wpAny (model prog w) A (compareOp .NotEq (.str (S x) t) (.str (S x) u)) Q E s := by
  refine PySem.P.ne_str ?_
  have : ((S x).cps.toList != (S x).cps.toList) = false := by simp
  rw [this]; exact h

/-- xs[k] of a list of texts -/
theorem eval_at {xl xk : Str} {p1 p2 p3 : Pos} {D : Addr} {lv : List (Str × Tok)} {vals : List (List Nat)} {i : Nat} {tk : Tok} {v : List Nat} {Q : Value → Shared → Prop} (F : Fr h₀ L s.heap m)
    (hx : m xl = some (.ref D)) (hk' : m xk = some (.int (i : Int) tk)) (hl : s.heap.IsList D (strValues lv).toArray) (hlv : lv.map (·.1) = vals.map S) (hv : vals[i]? = some v) (hi : i < 2 ^ 32)
    (h : ∀ t', Q (.str (S v) t') s)
    (hk : scope.kind = .function := by rfl) (k1 : (envOf name scope L a cd).kindOf xl = some .local := by rfl) (k2 : (envOf name scope L a cd).kindOf xk = some .local := by rfl)
    (d1 : (xl == ("__debug__" : Str)) = false := by decide) (d2 : (xk == ("__debug__" : Str)) = false := by decide) :
    wpAny (model prog w) A (eval (.Subscript (.Name xl p1) (.Name xk p2) p3) (envOf name scope L a cd)) Q E s := by
  have hlen : lv.length = vals.length := by have := congrArg List.length hlv; simpa using this
  have hlt : i < vals.length := (List.getElem?_eq_some_iff.mp hv).1
  refine Subscript_ (ld F hx (ld F hk' ?_ hk k2 d2) hk k1 d1)
  refine item_strs hl (by omega) (by omega) (by omega) fun y t' hy => ?_
  rw [hlv, Int.toNat_natCast, List.getElem?_map, hv] at hy
  have e : y = S v := by simpa using hy.symm
  rw [e]; exact h t'

/-- list(x) of a text -/
theorem list_of_text {l : List Nat} {t : Tok} {Q : Value → Shared → Prop} (hh : A.handled = none) (F : Fr h₀ L s.heap m) (N : News h₀ L s.heap news) (hl : l.length ≤ 1000)
    (h : ∀ h' tk D lt n, Fr h₀ L h' m → News h₀ L h' ((D, listOf (strValues lt).toArray n) :: news) → lt.map (·.1) = (l.map fun c => [c]).map S → Q (.ref D) { s with heap := h', toks := tk }) :
    wpAny (model prog w) A (call (.type "list") [.str (S l) t]) Q E s := by
  refine call_list_str hh (S l) t (fun h' tk acc' c' k hD hI => ?_) (by simp [S]; have : sizeLine = 16777216 := rfl; omega)
  obtain ⟨lt, rfl, hlt⟩ := signs_strs hI
  exact h h' tk _ lt c' (F.keeps k) (news_back F (N.grown k) (fr_none (Nat.le_refl _)) hD) hlt
end
/-! bounds of what the law builds -/
structure OvOk (ovs : List OV) : Prop where
  piece : ∀ p ∈ ovs, Piece p.1
  len : ovs.length ≤ 15
  tot : (ovs.map (·.2)).flatten.length ≤ 15
theorem ov_ok {outs vals : List (List Nat)} (h : DrawnOk outs vals 15) : OvOk (outs.zip vals) := by
  have e := h.len
  refine ⟨fun p hp => h.piece _ (List.of_mem_zip hp).1, ?_, ?_⟩
  · rw [List.length_zip]; have := h.le; omega
  · rw [List.map_snd_zip (by omega)]; exact h.tot
theorem zip_fst {outs vals : List (List Nat)} (h : DrawnOk outs vals 15) : (outs.zip vals).map (·.1) = outs := List.map_fst_zip (by rw [h.len]; exact Nat.le_refl _)
theorem OvOk.count {ovs : List OV} (h : OvOk ovs) (b : Bool) : (unitsOf b ovs).length ≤ 60 := by
  have := units_count b ovs fun p hp => piece_len (h.piece p hp)
  have h1 := h.len
  have h2 := h.tot
  omega
theorem OvOk.take {ovs : List OV} (h : OvOk ovs) (i : Nat) : OvOk (ovs.take i) := by
  refine ⟨fun p hp => h.piece p (List.mem_of_mem_take hp), ?_, ?_⟩
  · have := h.len; rw [List.length_take]; omega
  · have h2 := h.tot
    have e : (ovs.map (·.2)).flatten = ((ovs.take i).map (·.2)).flatten ++ ((ovs.drop i).map (·.2)).flatten := by
      rw [← List.flatten_append, ← List.map_append, List.take_append_drop]
    rw [e, List.length_append] at h2
    omega
theorem OvOk.flat {ovs : List OV} (h : OvOk ovs) (b : Bool) : (unitsOf b ovs).flatten.length ≤ 360 := by
  have h1 := flat_len (unit_len b ovs)
  have h2 := h.count b
  omega
theorem OvOk.tag {ovs : List OV} (h : OvOk ovs) (b : Bool) : (unitsOf b ovs ++ [[41]]).flatten.length ≤ 1000 := by
  have := h.flat b
  simp only [List.flatten_append, List.length_append, List.flatten_cons, List.flatten_nil, List.length_cons, List.length_nil]
  omega
theorem left_mem_run (P : List Nat → Prop) : ∀ (us : List (List Nat)) (st : LState), (∀ u ∈ us, P u) → (∀ p ∈ st.left ++ st.held, P p.1) → ∀ p ∈ (us.foldl leftStep st).left ++ (us.foldl leftStep st).held, P p.1
  | [], st, _, h => h
  | u :: us, st, hu, h => by
    have h1 := hu u (.head _)
    refine left_mem_run P us (leftStep st u) (fun v hv => hu v (.tail _ hv)) ?_
    have hl : ∀ p ∈ st.left, P p.1 := fun p hp => h p (List.mem_append_left _ hp)
    have hh : ∀ p ∈ st.held, P p.1 := fun p hp => h p (List.mem_append_right _ hp)
    intro p hp
    unfold leftStep at hp
    dsimp only at hp
    split at hp
    · rcases List.mem_append.mp hp with hp | hp
      · exact hl p hp
      · cases hp
    · split at hp
      · rcases List.mem_append.mp hp with hp | hp
        · exact hl p hp
        · rcases List.mem_append.mp hp with hp | hp
          · exact hh p hp
          · rw [List.mem_singleton.mp hp]; exact h1
      · rcases List.mem_append.mp hp with hp | hp
        · rcases List.mem_append.mp hp with hp | hp
          · exact hl p hp
          · rw [List.mem_singleton.mp hp]; exact h1
        · exact hh p hp
theorem left_mem {P : List Nat → Prop} {us : List (List Nat)} (h : ∀ u ∈ us, P u) : ∀ p ∈ leftU us, P p.1 := left_mem_run P us _ h (fun _ hp => by cases hp)
theorem left_count (us : List (List Nat)) : (leftU us).length ≤ us.length := by
  have := left_len us ⟨[], [], false, false⟩
  unfold leftU leftSt
  rw [List.length_append]
  simpa using this
theorem row_len {ps : List LP2} {k : Nat} (h : ∀ p ∈ ps, p.1.length ≤ k) : (rowT ps).length ≤ k * ps.length := by
  unfold rowT
  have h1 := flat_len (us := (ps.filter brk).map (·.1)) (k := k) (by
    intro u hu
    obtain ⟨p, hp, rfl⟩ := List.mem_map.mp hu
    exact h p (List.mem_filter.mp hp).1)
  rw [List.length_map] at h1
  exact Nat.le_trans h1 (Nat.mul_le_mul_left _ (List.length_filter_le _ _))

section
variable {prog : Program} {w : World} {A : Around} {E : Value → Shared → Prop} {s : Shared} {name : Str} {scope : Scope} {L a : Addr} {cd : Value} {h₀ : Heap} {m : Str → Option Value} {news : List (Addr × Obj)}
/-- xs.append(e), where e leaves the heap as it is -/
theorem app_keep {xl : Str} {e : Expr} {p1 p2 p3 p4 : Pos} {D : Addr} {its : Array Value} {n : Nat} {news' : Value → List (Addr × Obj)} {P : Value → Prop} {Q : Flow → Shared → Prop} {pl : Sem Bool} (F : Fr h₀ L s.heap m) (N : News h₀ L s.heap news)
    (hx : m xl = some (.ref D)) (hm : (D, listOf its n) ∈ news) (U : ∀ v, P v → Upd D (listOf its n) (listOf (its.push v) (n + 1)) news (news' v)) (hsz : its.size ≤ 100000)
    (he : ∀ Q' : Value → Shared → Prop, (∀ v tk, P v → Q' v { s with toks := tk }) → wpAny (model prog w) A (eval e (envOf name scope L a cd)) Q' E s)
    (h : ∀ v h' tk, P v → Fr h₀ L h' m → News h₀ L h' (news' v) → (∀ b o, b ≠ D → s.heap.get? b = some o → h'.get? b = some o) → Q .next { s with heap := h', toks := tk })
    (hs : starEach [e] (envOf name scope L a cd) = (false, eval e (envOf name scope L a cd)) :: starEach [] (envOf name scope L a cd) := by rfl)
    (hM : eval (.Call (.Attribute (.Name xl p1) "append" p2) [e] [] p3) (envOf name scope L a cd) = (do
      let ov ← eval (.Name xl p1) (envOf name scope L a cd)
      standAt p2.atName
      let (f, first) ← holding [ov] (getMethod ov "append" pl)
      callWith p3 f first (backTo p3 (starEach [e] (envOf name scope L a cd))) []) := by rfl)
    (hi : interactive (envOf name scope L a cd) = false := by rfl) (hsw : swapsWith (.Call (.Attribute (.Name xl p1) "append" p2) [e] [] p3) none p4.line (envOf name scope L a cd) = pure false := by rfl)
    (hk : scope.kind = .function := by rfl) (k1 : (envOf name scope L a cd).kindOf xl = some .local := by rfl) (d1 : (xl == ("__debug__" : Str)) = false := by decide) :
    wpAny (model prog w) A (exec (.Expr (.Call (.Attribute (.Name xl p1) "append" p2) [e] [] p3) p4) (envOf name scope L a cd)) Q E s := by
  refine wpAny_Expr_any ?_ hi hsw
  refine MethodCall_ (ld F hx (listMethod_K N hm PySem.F.slot_list_append PySem.F.type_list_append ?_) hk k1 d1) hM
  refine callWith_method1 (spliced_more (he _ fun v tk1 hv => spliced_none ?_) hs) hs
  obtain ⟨pre, post, rfl, e2, ha, hb⟩ := (U v hv).split
  have z := N (D, listOf its n) hm
  refine append_at (s := { s with toks := tk1 }) (hsz := by have : sizeLine = 16777216 := rfl; omega) z.1 fun h' hs' ho' => h v h' tk1 hv (F.change hs' z.2.1 z.2.2) (e2 ▸ news_set N ha hb hs' ho') fun b o hb' e => hs'.extBut b o hb' e
end
theorem pair_ns {h : Heap} {L a : Addr} {m : Str → Option Value} {x : Array Value} (hn : h.Ns L m) (e : h.get? a = some (tupObj x)) : a ≠ L := by
  rintro rfl
  obtain ⟨o, es, ep, ho, hd, _⟩ := hn
  rw [e] at ho; cases ho
  cases hd
theorem pairs_store {h h' : Heap} {L : Addr} {m : Str → Option Value} {vs : List Value} {ps : List LP2} (hn : h.Ns L m) (k : ∀ b o, b ≠ L → h.get? b = some o → h'.get? b = some o) (hp : Paired (PairV h) vs ps) : Paired (PairV h') vs ps :=
  Paired.mono (fun _ _ ⟨a, t, e, hm⟩ => ⟨a, t, e, k a _ (pair_ns hn hm) hm⟩) hp
theorem pairs_keeps {h h' : Heap} {vs : List Value} {ps : List LP2} (k : ∀ b o, h.get? b = some o → h'.get? b = some o) (hp : Paired (PairV h) vs ps) : Paired (PairV h') vs ps :=
  Paired.mono (fun _ _ ⟨a, t, e, hm⟩ => ⟨a, t, e, k a _ hm⟩) hp
theorem pairs_list {h h' : Heap} {D : Addr} {its : Array Value} {n : Nat} {vs : List Value} {ps : List LP2} (hD : h.get? D = some (listOf its n)) (k : ∀ b o, b ≠ D → h.get? b = some o → h'.get? b = some o) (hp : Paired (PairV h) vs ps) : Paired (PairV h') vs ps :=
  Paired.mono (fun _ _ ⟨a, t, e, hm⟩ => ⟨a, t, e, k a _ (by
    rintro rfl
    rw [hD] at hm
    have := congrArg (fun o => Option.map Obj.cls o) hm
    simp only [Option.map_some, Option.some.injEq] at this
    exact absurd (Value.type.inj this) (by decide)) hm⟩) hp
theorem news_store {h₀ h h' : Heap} {L : Addr} {news : List (Addr × Obj)} (N : News h₀ L h news) (k : ∀ b o, b ≠ L → h.get? b = some o → h'.get? b = some o) : News h₀ L h' news :=
  fun p hp => ⟨k _ _ (N p hp).2.1 (N p hp).1, (N p hp).2⟩
/-! small counts -/
theorem add_sz {a b : Nat} (ha : a ≤ 1000000) (hb : b ≤ 1000000) : a + b ≤ sizeLine := Nat.le_trans (Nat.add_le_add ha hb) (by decide)
theorem sv_len (l : List (Str × Tok)) : (strValues l).toArray.toList.length = l.length := by simp [strValues]
theorem sv_size (l : List (Str × Tok)) : (strValues l).toArray.size = l.length := by simp [strValues]
theorem valueU_len (b : Bool) (v : List Nat) : (valueU b v).length = v.length + 2 := by simp [valueU]
theorem ext_ok {lu zs : List (Str × Tok)} (h1 : lu.length ≤ 1000) (h2 : zs.length ≤ 1000) :
    ¬ (!(strValues lu).toArray.isEmpty && Builtin.List.listTooLong ((strValues lu).toArray.size + (strValues zs).toArray.size)) = true ∧ (strValues lu).toArray.toList.length ≤ sizeLine ∧ (strValues lu).toArray.size + (strValues zs).toArray.size ≤ sizeLine + 1 := by
  have sz : sizeLine = 16777216 := rfl
  rw [sv_len, sv_size, sv_size]
  refine ⟨?_, by omega, by omega⟩
  simp [Builtin.List.listTooLong]
  omega
theorem fit63 {n : Nat} (h : n ≤ 1000) : ((n : Nat) : Int) < 2 ^ 63 := by omega
theorem fit62 {n : Nat} (h : n ≤ 1000) : ((n : Nat) : Int) < 2 ^ 62 := by omega
theorem low62 (n : Nat) : -(2 ^ 62) ≤ ((n : Nat) : Int) := by omega
end
section
open PySem PySem.W PySem.Calls PyProof.Rows
set_option Elab.async false
set_option maxRecDepth 100000
set_option maxHeartbeats 4000000
set_option pp.deepTerms false
set_option pp.deepTerms.threshold 8
set_option pp.maxSteps 20000
theorem fill_nowL5 : (PySem.Challenge.rw_ij0162_01.Holds → hd.heap_39 = hd.heap_39) := by
  k_fill
  intro _; rfl

theorem pick_rev (a b c : Value) : slicePick (List.toArray [a, b, c]) none none (some (-1)) = List.toArray [c, b, a] := by
  simp [slicePick, sliceBounds, sliceRange]
  rfl
abbrev lstObj (vs : List Value) : Obj := { cls := .type "list", data := .seq (List.toArray vs) }
def tOf (y : TE) : Obj := tupObj #[.str y.1 y.2.1, .str y.2.2.1 y.2.2.2]
abbrev eA (k : Nat) : TE := ("\"", k, "&quot;", k + 1)
abbrev eN (k : Nat) : TE := ("\n", k + 1 + 1, "@", k + 1 + 1 + 1)
abbrev eB (k : Nat) : TE := ("\\", k + 1 + 1 + 1 + 1, "&#92;", k + 1 + 1 + 1 + 1 + 1)
/-- the entries, in either order -/
def EntOk (ts : List (Addr × Obj)) (vsE : List Value) (ys : List TE) : Prop := vsE.length = ys.length ∧ ∀ (j : Nat) y, ys[j]? = some y → ∃ b, vsE[j]? = some (.ref b) ∧ (b, tOf y) ∈ ts
structure EntMid (s : Shared) (L Do Dv : Addr) (oo ov : Obj) (g3 : Array GenState) (T0 : Nat) (f : Flow) (s' : Shared) : Prop where
  next : f = .next
  mid : ∃ h' tk m' En vsE ys ts, s' = ⟨h', g3, s.drawn, tk, s.os⟩ ∧ Fr s.heap L h' m' ∧ m' "outside" = some (.ref Do) ∧ m' "values" = some (.ref Dv) ∧ m' "entries" = some (.ref En) ∧
    News s.heap L h' ((En, lstObj vsE) :: (Do, oo) :: (Dv, ov) :: ts) ∧ EntOk ts vsE ys ∧ (ys = ysA T0 ∨ ys = ysB T0) ∧ T0 + 6 ≤ tk

structure LNames (m : Str → Option Value) (Do Dv Tb Bk En Tx Du : Addr) : Prop where
  out : m "outside" = some (.ref Do)
  val : m "values" = some (.ref Dv)
  tab : m "table" = some (.ref Tb)
  back : m "back" = some (.ref Bk)
  ent : m "entries" = some (.ref En)
  texts : m "texts" = some (.ref Tx)
  due : m "due" = some (.ref Du)
def tagT (ovs : List OV) (b : Bool) : List Nat := (unitsOf b ovs ++ [[41]]).flatten
def JOut (ovs : List OV) (fx : List (Addr × Obj)) (Do Dv Tb Bk En Tx Du : Addr) (i : Nat) (m : Str → Option Value) (news : List (Addr × Obj)) : Prop :=
  LNames m Do Dv Tb Bk En Tx Du ∧ ∃ lx ld nx nd, news = (Du, listOf (strValues ld).toArray nd) :: (Tx, listOf (strValues lx).toArray nx) :: fx ∧
    lx.map (·.1) = ([true, false].take i).map (fun b => S (tagT ovs b)) ∧ ld.map (·.1) = ([true, false].take i).map (fun b => S (acc1 (tagT ovs b)))
def JIn (ovs : List OV) (gx : List (Addr × Obj)) (b : Bool) (Do Dv Tb Bk En Tx Du Un : Addr) (i : Nat) (m : Str → Option Value) (news : List (Addr × Obj)) : Prop :=
  LNames m Do Dv Tb Bk En Tx Du ∧ m "safe" = some (.bool b) ∧ m "units" = some (.ref Un) ∧ (∃ t, m "tag" = some (.str (S (unitsOf b (ovs.take i)).flatten) t)) ∧
    ∃ lu nu, news = (Un, listOf (strValues lu).toArray nu) :: gx ∧ lu.map (·.1) = (unitsOf b (ovs.take i)).map S

theorem law_go {prog : Program} {w : World} {p : Program} {loose : List Str} {mean : ExcName → Option Value} {mg mb : Str → Option Value} {s : Shared} {Q E : Value → Shared → Prop}
    {dp un : Nat} {fr : Option (List Env)} {gd : Option (List Code)} {ax : Addr} {vs : List Value} {ns : List Int}
    (KX : (hd.heap_39 w.params).In s.heap) (T : Top p loose mean mg mb s.heap) (hdp : dp + 40 < recursionLimit) (hun : un + 20 < cLine) (hbig : sysModules < s.heap.objs.size)
    (hax : s.heap.IsList ax (List.toArray vs)) (hns : IntsAre vs ns) (hls : vs.length ≤ 63) (hb : AllBare s.gens)
    (h : ∀ h' tk g', (∀ b o, s.heap.get? b = some o → h'.get? b = some o) → s.toks ≤ tk → AllBare g' → Q (.bool true) { s with heap := h', toks := tk, gens := g' }) :
    wpAny (model prog w) { handled := none, depth := dp, frames := fr, guards := gd, units := un } (call (.ref 105) [.ref ax]) Q E s := by
  have TR := topRead_of T
  walk_at "mine.enter"
  intro L h₁ F N
  have hax1 : h₁.IsList ax (List.toArray vs) := let ⟨o, ho, r⟩ := hax; ⟨o, F.keep _ _ ho, r⟩
  ((with_reducible refine wpAny_execs_cons ?_); (with_reducible refine wpAny_Assign_Name ?_ ?hs_x107); (case hs_x107 => rfl))
  with_reducible refine Call_ ?_ ?he
  case he => rfl
  refine' name_K F KX TR ?k1 ?_
  case k1 => k_is
  refine' callWith_K KX ?k2 (spliced_more ?_)
  case k2 => k_is
  with_reducible refine Subscript_ ?_
  refine ld (s := ⟨_, _, _, _, _⟩) F rfl ?_
  refine wpAny_Slice (evalPart_none_step (evalPart_some_step (wpAny_Constant_int (evalPart_none_step ?_))))
  dsimp only
  refine slice_list (s := ⟨_, _, _, _, _⟩) F N hax1 .none (.int 12 _) fun h2 F2 N2 => ?_
  refine spliced_none ⟨KX.keeps F2.keep, ?_⟩
  have hI2 := slice_ints_uptoW hns (y := 12) (by decide)
  have hL2 : h2.IsList _ (List.toArray (slicePick (List.toArray vs) none (some 12) none).toList) := ⟨_, (N2 _ (.head _)).1, rfl, 0, by simp⟩
  have hl2 : (slicePick (List.toArray vs) none (some 12) none).toList.length ≤ 12 := by
    rw [hI2.length, List.length_take]; exact Nat.min_le_left _ _
  refine drawn_go (s := ⟨_, _, _, _, _⟩) (KX.keeps F2.keep) (T.keeps F2.keep) (by show dp + 1 + 6 < recursionLimit; exact room hdp) hL2 hI2 hl2 hb ?_
  intro h3 tk3 g3 D Do Dv lo lv outs vals k3 htk3 hb3 hD hDo hDv hlo hlv hOk nD nDo nDv
  dsimp only at k3 htk3 nD nDo nDv ⊢
  obtain ⟨oD, gD, cD, cnD, dD⟩ := hD
  obtain ⟨oo, go, co, cno, dO⟩ := hDo
  obtain ⟨ov, gv, cv, cnv, dV⟩ := hDv
  have F3 := F2.keeps k3
  have N3 := news_back F2 (news_back F2 (news_back F2 (News.nil : News s.heap L h3 []) nDv gv) nDo go) nD gD
  clear hL2 hI2 hl2 N2
  ((with_reducible refine stN (s := ⟨_, _, _, _, _⟩) F3 N3 ?_ ?hk_x108 ?hx_x108); (case hk_x108 => rfl); (case hx_x108 => rfl))
  intro h4 F4 N4
  dsimp only at F4 N4 ⊢
  ((with_reducible refine wpAny_execs_cons ?_); (with_reducible refine wpAny_Assign_Name ?_ ?hs_x109); (case hs_x109 => rfl))
  with_reducible refine Subscript_ ?_
  refine ld (s := ⟨_, _, _, _, _⟩) F4 rfl (wpAny_Constant_int ?_)
  refine item_list (s := ⟨_, _, _, _, _⟩) ⟨oD, (N4 _ (.head _)).1, cD, _, dD⟩ (by decide) (by decide) (x := .ref Do) rfl ?_
  ((with_reducible refine stN (s := ⟨_, _, _, _, _⟩) F4 N4 ?_ ?hk_x110 ?hx_x110); (case hk_x110 => rfl); (case hx_x110 => rfl))
  intro h5 F5 N5
  dsimp only at F5 N5 ⊢
  ((with_reducible refine wpAny_execs_cons ?_); (with_reducible refine wpAny_Assign_Name ?_ ?hs_x111); (case hs_x111 => rfl))
  with_reducible refine Subscript_ ?_
  refine ld (s := ⟨_, _, _, _, _⟩) F5 rfl (wpAny_Constant_int ?_)
  refine item_list (s := ⟨_, _, _, _, _⟩) ⟨oD, (N5 _ (.head _)).1, cD, _, dD⟩ (by decide) (by decide) (x := .ref Dv) rfl ?_
  ((with_reducible refine stN (s := ⟨_, _, _, _, _⟩) F5 N5 ?_ ?hk_x112 ?hx_x112); (case hk_x112 => rfl); (case hx_x112 => rfl))
  intro h6 F6 N6
  dsimp only at F6 N6 ⊢
  replace N6 : News s.heap L h6 [(Do, oo), (Dv, ov)] := news_sub N6 fun p hp => .tail _ hp
  clear N5 F5 N4 F4 N3 F3 gD dD cD nD
  ((with_reducible refine wpAny_execs_cons ?_); (with_reducible refine wpAny_Assign_Name ?_ ?hs_x113); (case hs_x113 => rfl))
  have p6 : 1 ≤ tk3 + 1 + 1 + 1 + 1 + 1 := Nat.le_add_left _ _
  generalize tk3 + 1 + 1 + 1 + 1 + 1 = T0 at p6 ⊢
  refine List_ (spliced_more (Tuple_ (spliced_more (Constant_str (spliced_more (Constant_str (spliced_none (newTuple_N (s := ⟨_, _, _, _, _⟩) F6 N6 fun h7 F7 N7 => ?_))))))))
  refine spliced_more (Tuple_ (spliced_more (Constant_str (spliced_more (Constant_str (spliced_none (newTuple_N (s := ⟨_, _, _, _, _⟩) F7 N7 fun h8 F8 N8 => ?_)))))))
  refine spliced_more (Tuple_ (spliced_more (Constant_str (spliced_more (Constant_str (spliced_none (newTuple_N (s := ⟨_, _, _, _, _⟩) F8 N8 fun h9 F9 N9 => ?_)))))))
  refine spliced_none ?_
  refine newList_N (s := ⟨_, _, _, _, _⟩) F9 N9 fun h10 F10 N10 => ?_
  dsimp only at F7 F8 F9 F10 N7 N8 N9 N10 ⊢
  generalize hE : h9.objs.size = En at F10 N10
  generalize hC1 : h6.objs.size = C1 at F10 N10
  generalize hC2 : h7.objs.size = C2 at F10 N10
  generalize hC3 : h8.objs.size = C3 at F10 N10
  ((with_reducible refine stN (s := ⟨_, _, _, _, _⟩) F10 N10 ?_ ?hk_x114 ?hx_x114); (case hk_x114 => rfl); (case hx_x114 => rfl))
  intro h11 F11 N11
  dsimp only at F11 N11 ⊢
  clear N7 N8 N9 N10 F7 F8 F9 F10 N6
  replace N11 : News s.heap L h11 [(En, lstObj [.ref C1, .ref C2, .ref C3]), (C3, tOf (eB T0)), (C2, tOf (eN T0)), (C1, tOf (eA T0)), (Do, oo), (Dv, ov)] := N11
  have hax11 : h11.IsList ax (List.toArray vs) := let ⟨o, ho, r⟩ := hax; ⟨o, F11.keep _ _ ho, r⟩
  (with_reducible refine wpAny_execs_cons ?_)
  refine wpAny_mono (Q := EntMid s L Do Dv oo ov g3 T0) ?_ ?_ (fun _ _ e => e)
  · with_reducible refine wpAny_If ?_
    refine wpAny_isTrue_Compare1 (wpAny_BinOp (Call_ (name_B F11 KX TR (by k_is) (by boot_by_name) (by decide) (callWith_method1 (spliced_more (ld (s := ⟨_, _, _, _, _⟩) F11 rfl (spliced_none (len_list (s := ⟨_, _, _, _, _⟩) hax11 (fit63 (by rw [List.size_toArray]; exact Nat.le_trans hls (by decide))) ?_))))))))
    refine wpAny_Constant_int (PyProof.Rows.mod_int (by decide) (wpAny_Constant_int (PyProof.Rows.eq_int (wpAny_truthy_bool ?_))))
    cases hc : ((((List.toArray vs).size : Nat) : Int).fmod 2 == 1) with
    | true =>
      simp only [if_true]
      ((with_reducible refine wpAny_execs_cons ?_); (with_reducible refine wpAny_Assign_Name ?_ ?hs_x116); (case hs_x116 => rfl))
      with_reducible refine Subscript_ ?_
      refine ld (s := ⟨_, _, _, _, _⟩) F11 rfl ?_
      refine wpAny_Slice (evalPart_none_step (evalPart_none_step (evalPart_some_step (UnaryOp_ (wpAny_Constant_int (neg_int ?_))))))
      dsimp only
      refine slice_list3 (s := ⟨_, _, _, _, _⟩) (items := List.toArray [.ref C1, .ref C2, .ref C3]) F11 N11 ⟨_, (N11 _ (.head _)).1, rfl, _, rfl⟩ .none .none (.int (-1) _) (by decide) fun h12 F12 N12 => ?_
      ((with_reducible refine stN (s := ⟨_, _, _, _, _⟩) F12 N12 ?_ ?hk_x117 ?hx_x117); (case hk_x117 => rfl); (case hx_x117 => rfl))
      intro h13 F13 N13
      (with_reducible refine wpAny_execs_nil ?_)
      rw [pick_rev] at N13
      refine ⟨rfl, h13, _, _, _, [.ref C3, .ref C2, .ref C1], ysB T0, [(C3, tOf (eB T0)), (C2, tOf (eN T0)), (C1, tOf (eA T0))], rfl, F13, rfl, rfl, rfl, news_sub N13 ?_, ⟨rfl, ?_⟩, .inr rfl, ?_⟩
      · intro p hp
        simp only [List.mem_cons, List.not_mem_nil, or_false] at hp ⊢
        rcases hp with rfl | rfl | rfl | rfl | rfl | rfl <;> simp
      · intro j y hj
        match j with
        | 0 => cases hj; exact ⟨C3, rfl, .head _⟩
        | 1 => cases hj; exact ⟨C2, rfl, .tail _ (.head _)⟩
        | 2 => cases hj; exact ⟨C1, rfl, .tail _ (.tail _ (.head _))⟩
        | j + 3 => cases hj
      · dsimp only; omega
    | false =>
      simp only [Bool.false_eq_true, if_false]
      (with_reducible refine wpAny_execs_nil ?_)
      refine ⟨rfl, h11, _, _, En, [.ref C1, .ref C2, .ref C3], ysA T0, [(C3, tOf (eB T0)), (C2, tOf (eN T0)), (C1, tOf (eA T0))], rfl, F11, rfl, rfl, rfl, news_sub N11 ?_, ⟨rfl, ?_⟩, .inl rfl, ?_⟩
      · intro p hp
        simp only [List.mem_cons, List.not_mem_nil, or_false] at hp ⊢
        rcases hp with rfl | rfl | rfl | rfl | rfl | rfl <;> simp
      · intro j y hj
        match j with
        | 0 => cases hj; exact ⟨C1, rfl, .tail _ (.tail _ (.head _))⟩
        | 1 => cases hj; exact ⟨C2, rfl, .tail _ (.head _)⟩
        | 2 => cases hj; exact ⟨C3, rfl, .head _⟩
        | j + 3 => cases hj
      · omega
  · rintro f s' ⟨rfl, h12, tk12, m12, En2, vsE, ys, ts, rfl, F12, hmo, hmv, hme, N12, hEnt, hys, htk12⟩
    dsimp only
    have hysl : ys.length = 3 := by rcases hys with rfl | rfl <;> rfl
    have hynd : (ys.map (·.1)).Nodup := by
      rcases hys with rfl | rfl
      · exact ysA_nodup T0
      · exact ysB_nodup T0
    have hytk : Toks 1 (T0 + 6) ys := by
      rcases hys with rfl | rfl
      · exact ysA_toks p6
      · exact ysB_toks p6
    obtain ⟨kvs, hkt, hkok, hkenc⟩ : ∃ kvs, (∀ k, Tells (putAll ys (extOf k)) kvs) ∧ KvOk kvs ∧ ∀ a, encK kvs a = toldL kv8 a := by
      rcases hys with rfl | rfl
      · exact ⟨kvA, tellsA T0, kvA_ok, encA⟩
      · exact ⟨kvB, tellsB T0, kvB_ok, encB⟩
    clear hys F11 N11 F6
    ((with_reducible refine wpAny_execs_cons ?_); (with_reducible refine wpAny_Assign_Name ?_ ?hs_x120); (case hs_x120 => rfl))
    refine Call_ (name_B F12 KX TR (by k_is) (by boot_by_name) (by decide) (Pv.callWith_type1 (spliced_more (ld (s := ⟨_, _, _, _, _⟩) F12 hme (spliced_none ?_)))))
    refine dict_of_pairs (s := ⟨_, _, _, _, _⟩) (ol := lstObj vsE) (ys := ys) rfl (N12 _ (.head _)).1 rfl rfl rfl hEnt.1 (by rw [hysl]; decide) hynd ?_ ?_
    · intro j y hj
      obtain ⟨b, hb1, hb2⟩ := hEnt.2 j y hj
      exact ⟨_, hb1, b, _, rfl, (N12 _ (.tail _ (.tail _ (.tail _ hb2)))).1, rfl, 0, rfl⟩
    intro h13 tk13 x13 k13 htk13
    dsimp only at x13 k13 htk13 ⊢
    have hTbS : (h12.objs.size == sysModules) = false := by
      simp only [beq_eq_false_iff_ne]
      exact Nat.ne_of_gt (Nat.lt_of_lt_of_le hbig (Nat.le_of_lt (Nat.lt_of_le_of_lt F12.above F12.ns.lt)))
    have hTbn : h12.get? h12.objs.size = none := fr_none (Nat.le_refl _)
    generalize h12.objs.size = Tb at x13 hTbS hTbn
    obtain ⟨ot, ept, got, rt⟩ := x13
    have Dt : TDo w ot ys := ⟨ept, rt⟩
    have F13 := F12.keeps k13
    have N13 := news_back F12 (N12.grown k13) hTbn got
    ((with_reducible refine stN (s := ⟨_, _, _, _, _⟩) F13 N13 ?_ ?hk_x121 ?hx_x121); (case hk_x121 => rfl); (case hx_x121 => rfl))
    intro h14 F14 N14
    dsimp only at F14 N14 ⊢
    have htk14 : T0 + 6 ≤ tk13 + 1 := by omega
    generalize tk13 + 1 = tk14 at htk14 ⊢
    clear N13 F13 N12 F12 got rt k13
    ((with_reducible refine wpAny_execs_cons ?_); (with_reducible refine wpAny_Assign_Name ?_ ?hs_x122); (case hs_x122 => rfl))
    with_reducible refine dict_consts (ys := ys5 tk14) ?h1 ?h2 ?h3 ?_
    case h1 => rfl
    case h2 => rfl
    case h3 => exact Nat.le_of_ble_eq_true rfl
    iterate 5 (with_reducible refine pairs_step ?_; dsimp only)
    with_reducible refine pairs_end ?_
    refine ⟨rfl, td_empty h14, ys5_nodup _, ?_⟩
    intro h15 tk15 x15 hs15 htk15
    dsimp only at hs15 htk15 x15 ⊢
    obtain ⟨ob, F15, N15, Db⟩ := news_dict F14 N14 hs15 x15
    have hBkS : (h14.objs.size == sysModules) = false := by
      simp only [beq_eq_false_iff_ne]
      exact Nat.ne_of_gt (Nat.lt_of_lt_of_le hbig (Nat.le_of_lt (Nat.lt_of_le_of_lt F14.above F14.ns.lt)))
    generalize h14.objs.size = Bk at N15 hBkS
    ((with_reducible refine stN (s := ⟨_, _, _, _, _⟩) F15 N15 ?_ ?hk_x123 ?hx_x123); (case hk_x123 => rfl); (case hx_x123 => rfl))
    intro h16 F16 N16
    dsimp only at F16 N16 ⊢
    have htk16 : T0 + 6 ≤ tk15 + 1 := by omega
    generalize tk15 + 1 = tk16 at htk16 ⊢
    clear N15 F15 N14 F14 hs15 x15
    ((with_reducible refine wpAny_execs_cons ?_); (with_reducible refine wpAny_Assign_Name ?_ ?hs_x124); (case hs_x124 => rfl))
    refine List_ (spliced_nil (newList_N (s := ⟨_, _, _, _, _⟩) F16 N16 fun h17 F17 N17 => ?_))
    ((with_reducible refine stN (s := ⟨_, _, _, _, _⟩) F17 N17 ?_ ?hk_x125 ?hx_x125); (case hk_x125 => rfl); (case hx_x125 => rfl))
    intro h18 F18 N18
    ((with_reducible refine wpAny_execs_cons ?_); (with_reducible refine wpAny_Assign_Name ?_ ?hs_x126); (case hs_x126 => rfl))
    refine List_ (spliced_nil (newList_N (s := ⟨_, _, _, _, _⟩) F18 N18 fun h19 F19 N19 => ?_))
    ((with_reducible refine stN (s := ⟨_, _, _, _, _⟩) F19 N19 ?_ ?hk_x127 ?hx_x127); (case hk_x127 => rfl); (case hx_x127 => rfl))
    intro h20 F20 N20
    dsimp only at F20 N20 ⊢
    have htk20 : T0 + 6 ≤ tk16 + 1 + 1 := by omega
    generalize tk16 + 1 + 1 = tk20 at htk20 ⊢
    have hTD : h16.objs.size ≠ h18.objs.size := Nat.ne_of_lt (Heap.lt_size (N18 _ (.head _)).1)
    have fxT : ∀ p ∈ (Bk, ob) :: (Tb, ot) :: (En2, lstObj vsE) :: (Do, oo) :: (Dv, ov) :: ts, p.1 ≠ h16.objs.size := fun p hp => Nat.ne_of_lt (Heap.lt_size (N16 p hp).1)
    have fxD : ∀ p ∈ (Bk, ob) :: (Tb, ot) :: (En2, lstObj vsE) :: (Do, oo) :: (Dv, ov) :: ts, p.1 ≠ h18.objs.size := fun p hp => Nat.ne_of_lt (Heap.lt_size (N18 p (.tail _ hp)).1)
    have hfB : (Bk, ob) ∈ (Bk, ob) :: (Tb, ot) :: (En2, lstObj vsE) :: (Do, oo) :: (Dv, ov) :: ts := .head _
    have hfT : (Tb, ot) ∈ (Bk, ob) :: (Tb, ot) :: (En2, lstObj vsE) :: (Do, oo) :: (Dv, ov) :: ts := .tail _ (.head _)
    have hfE : (En2, lstObj vsE) ∈ (Bk, ob) :: (Tb, ot) :: (En2, lstObj vsE) :: (Do, oo) :: (Dv, ov) :: ts := .tail _ (.tail _ (.head _))
    have hfO : (Do, oo) ∈ (Bk, ob) :: (Tb, ot) :: (En2, lstObj vsE) :: (Do, oo) :: (Dv, ov) :: ts := .tail _ (.tail _ (.tail _ (.head _)))
    have hfV : (Dv, ov) ∈ (Bk, ob) :: (Tb, ot) :: (En2, lstObj vsE) :: (Do, oo) :: (Dv, ov) :: ts := .tail _ (.tail _ (.tail _ (.tail _ (.head _))))
    have hfs : ∀ p ∈ ts, p ∈ (Bk, ob) :: (Tb, ot) :: (En2, lstObj vsE) :: (Do, oo) :: (Dv, ov) :: ts := fun p hp => .tail _ (.tail _ (.tail _ (.tail _ (.tail _ hp))))
    generalize (Bk, ob) :: (Tb, ot) :: (En2, lstObj vsE) :: (Do, oo) :: (Dv, ov) :: ts = fx at N20 fxT fxD hfB hfT hfE hfO hfV hfs
    generalize h16.objs.size = Tx at N20 F20 hTD fxT
    generalize h18.objs.size = Du at N20 F20 hTD fxD
    clear N16 N17 N18 N19 F16 F17 F18 F19
    (with_reducible refine wpAny_execs_cons ?_)
    refine wpAny_For (Tuple_ (spliced_more (Constant_bool (spliced_more (Constant_bool (spliced_none (newTuple_N (s := ⟨_, _, _, _, _⟩) F20 N20 fun h21 F21 N21 => ?_))))))) (fun x => rfl)
    dsimp only at F21 N21 ⊢
    generalize hTu : h20.objs.size = Tu at N21
    have hTuL : L ≠ Tu := (N21 _ (.head _)).2.1.symm
    have hTuT : Tu ≠ Tx ∧ Tu ≠ Du := by
      rw [← hTu]
      exact ⟨Nat.ne_of_gt (Heap.lt_size (N20 _ (.tail _ (.head _))).1), Nat.ne_of_gt (Heap.lt_size (N20 _ (.head _)).1)⟩
    have hTup : h21.IsTuple Tu #[.bool true, .bool false] := ⟨_, (N21 _ (.head _)).1, rfl, _, rfl⟩
    replace N21 : News s.heap L h21 ((Du, listOf (strValues []).toArray 0) :: (Tx, listOf (strValues []).toArray 0) :: fx) := news_sub N21 fun p hp => .tail _ hp
    refine loop_tuple (s := ⟨_, _, _, _, _⟩) rfl hTup hTuL F21 N21 hb3 (JOut (outs.zip vals) fx Do Dv Tb Bk En2 Tx Du) ?_ ?_ ?_
    · exact ⟨⟨by exact hmo, by exact hmv, rfl, rfl, by exact hme, rfl, rfl⟩, [], [], 0, 0, rfl, rfl, rfl⟩
    · rintro i v m₁ news₁ h22 tk22 g₁ own I hi ⟨hN, lx, ly, nx, ny, rfl, hlx, hly⟩ hn hown hI hI2 hbg F22 N22 htk22
      refine hideQ fun QO hQO => ?_
      obtain ⟨b, rfl, hbi⟩ : ∃ b, v = .bool b ∧ [true, false][i]? = some b := by
        match i, hi with
        | 0, hi => cases hi; exact ⟨true, rfl, rfl⟩
        | 1, hi => cases hi; exact ⟨false, rfl, rfl⟩
        | i + 2, hi => cases hi
      have htake : [true, false].take (i + 1) = [true, false].take i ++ [b] := by
        rw [List.take_add_one, hbi]; rfl
      have hIT : Tx ≠ I := hn _ (.tail _ (.head _))
      have hID : Du ≠ I := hn _ (.head _)
      have ownT : ∀ q ∈ own, q.1 ≠ Tx := fun q hq e => (hown q hq).elim (fun h1 => hIT (e.symm.trans h1)) (fun h1 => hTuT.1 (h1.symm.trans e))
      have ownD : ∀ q ∈ own, q.1 ≠ Du := fun q hq e => (hown q hq).elim (fun h1 => hID (e.symm.trans h1)) (fun h1 => hTuT.2 (h1.symm.trans e))
      dsimp only at htk22
      ((with_reducible refine wpAny_execs_cons ?_); (with_reducible refine wpAny_Assign_Name ?_ ?hs_x129); (case hs_x129 => rfl))
      with_reducible refine Constant_str ?_
      ((with_reducible refine stN (s := ⟨_, _, _, _, _⟩) F22 N22 ?_ ?hk_x130 ?hx_x130); (case hk_x130 => rfl); (case hx_x130 => rfl))
      intro h23 F23 N23
      ((with_reducible refine wpAny_execs_cons ?_); (with_reducible refine wpAny_Assign_Name ?_ ?hs_x131); (case hs_x131 => rfl))
      refine List_ (spliced_nil (newList_N (s := ⟨_, _, _, _, _⟩) F23 N23 fun h24 F24 N24 => ?_))
      ((with_reducible refine stN (s := ⟨_, _, _, _, _⟩) F24 N24 ?_ ?hk_x132 ?hx_x132); (case hk_x132 => rfl); (case hx_x132 => rfl))
      intro h25 F25 N25
      dsimp only at F25 N25 ⊢
      have gxU : ∀ p ∈ own ++ (Du, listOf (strValues ly).toArray ny) :: (Tx, listOf (strValues lx).toArray nx) :: fx, p.1 ≠ h23.objs.size := fun p hp => Nat.ne_of_lt (Heap.lt_size (N23 p hp).1)
      have hmB : ∀ p ∈ fx, p ∈ own ++ (Du, listOf (strValues ly).toArray ny) :: (Tx, listOf (strValues lx).toArray nx) :: fx := fun p hp => List.mem_append_right _ (.tail _ (.tail _ hp))
      have htk25 : T0 + 6 ≤ tk22 + 1 + 1 + 1 := Nat.le_trans (Nat.le_trans htk20 htk22) (Nat.le_add_right _ 3)
      generalize tk22 + 1 + 1 + 1 = tk25 at htk25 ⊢
      generalize h23.objs.size = Un at F25 N25 gxU
      clear N23 N24 F23 F24
      obtain ⟨gx, hgx⟩ : ∃ gx, gx = own ++ (Du, listOf (strValues ly).toArray ny) :: (Tx, listOf (strValues lx).toArray nx) :: fx := ⟨_, rfl⟩
      rw [← hgx] at N25 gxU hmB
      (with_reducible refine wpAny_execs_cons ?_)
      have gv25 := (N25 _ (.tail _ (hmB _ hfV))).1
      refine wpAny_For ?_ (fun x => rfl)
      refine Call_ (name_B F25 KX TR (by k_is) (by boot_by_name) (by decide) (Pv.callWith_type1 (spliced_more ?_)))
      refine Call_ (name_B F25 KX TR (by k_is) (by boot_by_name) (by decide) (callWith_method1 (spliced_more (ld (s := ⟨_, _, _, _, _⟩) F25 (by exact hN.val) (spliced_none ?_)))))
      have hvsz : (strValues lv).toArray.size = vals.length := by have := congrArg List.length hlv; simpa [strValues] using this
      refine len_list (s := ⟨_, _, _, _, _⟩) ⟨ov, gv25, cv, _, dV⟩ (by rw [hvsz]; exact fit63 (Nat.le_trans hOk.le (by decide))) ?_
      rw [hvsz]
      refine spliced_none (call_range_1 ?_)
      dsimp only
      refine loop_range (s := ⟨_, _, _, _, _⟩) (n := vals.length) rfl (IsRange.new ..) (small_one (by decide) (by decide) (low62 _) (fit62 (Nat.le_trans hOk.le (by decide)))) (F25.push _) (N25.pushKeep _) hbg
        (JIn (outs.zip vals) gx b Do Dv Tb Bk En2 Tx Du Un) ?_ ?_ ?_
      · refine ⟨⟨by exact hN.out, by exact hN.val, by exact hN.tab, by exact hN.back, by exact hN.ent, by exact hN.texts, by exact hN.due⟩, rfl, rfl, ⟨tk22, ?_⟩, [], 0, rfl, rfl⟩
        show some (Value.str (Str.ofString "") tk22) = some (Value.str (S []) tk22)
        rw [show Str.ofString "" = S [] by decide +kernel]
      · rintro k v m₂ news₂ h26 tk26 g₂ own2 I2 ⟨hk, tkk, rfl⟩ ⟨hN2, hsf, hun2, ⟨tt, htag⟩, lu, nu, rfl, hlu⟩ hn2 hown2 hI3 hI4 hbg2 F26 N26 htk26
        refine hideQ fun QI hQI => ?_
        dsimp only at htk26
        have hko : k < outs.length := by rw [hOk.len]; exact hk
        obtain ⟨v', hvk⟩ : ∃ v', vals[k]? = some v' := ⟨vals[k], List.getElem?_eq_getElem hk⟩
        obtain ⟨o', hok⟩ : ∃ o', outs[k]? = some o' := ⟨outs[k], List.getElem?_eq_getElem hko⟩
        have hovk : (outs.zip vals)[k]? = some (o', v') := by
          rw [List.getElem?_zip_eq_some]; exact ⟨hok, hvk⟩
        have hv15 : v'.length ≤ 15 := hOk.short _ (List.mem_of_getElem? hvk)
        have ho1 : o'.length ≤ 1 := piece_len (hOk.piece _ (List.mem_of_getElem? hok))
        have hk15 : k < 15 := Nat.lt_of_lt_of_le hk hOk.le
        have hk32 : k < 2 ^ 32 := Nat.lt_trans hk15 (by decide)
        have hv1000 : v'.length ≤ 1000 := Nat.le_trans hv15 (by decide)
        have hnext : unitsOf b ((outs.zip vals).take (k + 1)) = unitsOf b ((outs.zip vals).take k) ++ (o'.map (fun c => [c]) ++ valueU b v') := by
          rw [List.take_add_one, hovk, unitsOf_app]; simp [unitsOf]
        have ownU : ∀ q ∈ own2, q.1 ≠ Un := fun q hq e => hn2 _ (.head _) (e.symm.trans (hown2 q hq))
        have mfx : ∀ p ∈ fx, p ∈ own2 ++ (Un, listOf (strValues lu).toArray nu) :: gx :=
          fun p hp => List.mem_append_right _ (.tail _ (hmB p hp))
        ((with_reducible refine wpAny_execs_cons ?_); (with_reducible refine wpAny_Assign_Name ?_ ?hs_x134); (case hs_x134 => rfl))
        refine wpAny_mono (Q := fun v s' => ∃ h' tk t', v = .str (S (valueU b v').flatten) t' ∧ s' = ⟨h', g₂, s.drawn, tk, s.os⟩ ∧ (∀ b o, h26.get? b = some o → h'.get? b = some o)) ?_ ?_ (fun _ _ e => e)
        · refine IfExp_ (isTrue_plain (ld (s := ⟨_, _, _, _, _⟩) F26 (by exact hsf) (wpAny_truthy_bool ?_)))
          have big26 : sysModules < h26.objs.size := Nat.lt_of_lt_of_le hbig (Nat.le_of_lt (Nat.lt_of_le_of_lt F26.above F26.ns.lt))
          cases b with
          | true =>
            simp only [if_true]
            refine Call_ (name_K F26 KX TR (by k_is) (callWith_K KX (by k_is) (spliced_more ?_)))
            refine eval_at (s := ⟨_, _, _, _, _⟩) F26 (by exact hN2.val) rfl ⟨ov, (N26 _ (mfx _ hfV)).1, cv, _, dV⟩ hlv hvk hk32 fun t' => ?_
            refine spliced_more (ld (s := ⟨_, _, _, _, _⟩) F26 (by exact hN2.tab) (spliced_none ⟨KX.keeps F26.keep, ?_⟩))
            refine quoteattr_go (s := ⟨_, _, _, _, _⟩) (l := v') (ys := ys) (kvs := kvs) (KX.keeps F26.keep) (T.keeps F26.keep) (by show dp + 1 + 20 < recursionLimit; exact room hdp) big26 hv1000 (Dt.td (N26 _ (mfx _ hfT)).1) hTbS (by rw [hysl]; decide) (hytk.mono (Nat.le_trans htk25 (Nat.le_trans (Nat.le_add_right _ 4) htk26))) (.inl rfl) hkt hkok.kv hkok.len ?_
            intro h' tk t2 k2 htk2
            exact ⟨h', tk, t2, by rw [quote_safe hkenc], rfl, k2⟩
          | false =>
            simp only [Bool.false_eq_true, if_false]
            refine Call_ (name_K F26 KX TR (by k_is) (callWith_K KX (by k_is) (spliced_more ?_)))
            refine eval_at (s := ⟨_, _, _, _, _⟩) F26 (by exact hN2.val) rfl ⟨ov, (N26 _ (mfx _ hfV)).1, cv, _, dV⟩ hlv hvk hk32 fun t' => ?_
            refine spliced_none ⟨KX.keeps F26.keep, ?_⟩
            refine quoteattr_go (s := ⟨_, _, _, _, _⟩) (l := v') (d := 40) (ys := []) (kvs := kvC) (KX.keeps F26.keep) (T.keeps F26.keep) (by show dp + 1 + 20 < recursionLimit; exact room hdp) big26 hv1000 ?htd (by decide) (by decide) (fun y hy => nomatch hy) (.inr ⟨rfl, rfl⟩) tellsC kvC_ok.kv kvC_ok.len ?_
            case htd => exact ⟨_, _, (KX.keeps F26.keep) 40 _ (by k_is), ⟨rfl, rfl, rfl⟩, rfl, by simp⟩
            intro h' tk t2 k2 htk2
            exact ⟨h', tk, t2, by rw [quote_plain encC], rfl, k2⟩
        rintro v s' ⟨h27, tk27, tw, rfl, rfl, k27⟩
        have F27 := F26.keeps k27
        have N27 := N26.grown k27
        ((with_reducible refine stN (s := ⟨_, _, _, _, _⟩) F27 N27 ?_ ?hk_x135 ?hx_x135); (case hk_x135 => rfl); (case hx_x135 => rfl))
        intro h28 F28 N28
        dsimp only at F28 N28 ⊢
        ((with_reducible refine wpAny_execs_cons ?_); (with_reducible refine wpAny_Assign_Name ?_ ?hs_x136); (case hs_x136 => rfl))
        refine Call_ (name_K F28 KX TR (by k_is) (callWith_K KX (by k_is) (spliced_more ?_)))
        refine eval_at (s := ⟨_, _, _, _, _⟩) F28 (by exact hN2.val) rfl ⟨ov, (N28 _ (mfx _ hfV)).1, cv, _, dV⟩ hlv hvk hk32 fun t' => ?_
        refine spliced_more (ld (s := ⟨_, _, _, _, _⟩) F28 (by exact hsf) (spliced_none ⟨KX.keeps F28.keep, ?_⟩))
        refine value_go (s := ⟨_, _, _, _, _⟩) (l := v') (b := b) (KX.keeps F28.keep) (T.keeps F28.keep) (by show dp + 1 + 6 < recursionLimit; exact room hdp) hv1000 (Nat.lt_of_lt_of_le hbig (Nat.le_of_lt (Nat.lt_of_le_of_lt F28.above F28.ns.lt))) ?_
        intro h29 tk29 Dl lt k29 htk29 hL29 hn29 hlt
        dsimp only at k29 htk29 hn29 ⊢
        obtain ⟨ol, gl, cl, cnl, dl⟩ := hL29
        have F29 := F28.keeps k29
        have N29 := news_back F28 (N28.grown k29) hn29 gl
        ((with_reducible refine stN (s := ⟨_, _, _, _, _⟩) F29 N29 ?_ ?hk_x137 ?hx_x137); (case hk_x137 => rfl); (case hx_x137 => rfl))
        intro h30 F30 N30
        dsimp only at F30 N30 ⊢
        clear N29 F29 N28 F28 N27 F27
        have gDl : h30.IsList Dl (strValues lt).toArray := ⟨ol, (N30 _ (.head _)).1, cl, _, dl⟩
        have hvu1 : ∀ u ∈ valueU b v', u.length ≤ 10 := fun u hu => by
          have := unit_len b [(([] : List Nat), v')] u (by rw [unitsOf_one]; exact List.mem_append_right _ hu)
          exact Nat.le_trans this (by decide)
        have hvu2 : (valueU b v').length ≤ 17 := by rw [valueU_len]; exact Nat.add_le_add_right hv15 2
        (with_reducible refine wpAny_execs_cons ?_)
        with_reducible refine wpAny_If ?_
        with_reducible refine isTrue_or ?_
        refine wpAny_isTrue_Compare1 (ld (s := ⟨_, _, _, _, _⟩) F30 (by rfl) ?_)
        refine eval_join (s := ⟨_, _, _, _, _⟩) (ls := valueU b v') F30 (by decide +kernel) rfl gDl hlt (join_ok hvu1 (Nat.le_trans hvu2 (by decide))) ?_
        intro t31 tk31
        refine ne_same (wpAny_truthy_bool ?_)
        simp only [Bool.false_eq_true, if_false]
        with_reducible refine isTrue_or ?_
        refine wpAny_isTrue_Compare1 (Call_ (name_K F30 KX TR (by k_is) (callWith_K KX (by k_is) (spliced_more ?_))))
        have hwl : (valueU b v').flatten.length ≤ 10 * (valueU b v').length := flat_len hvu1
        have hfl2 : (valueU b v').flatten.length ≤ 170 := Nat.le_trans hwl (Nat.mul_le_mul_left 10 hvu2)
        have hw1 : 1 ≤ (valueU b v').flatten.length := by rw [valueU_flat]; simp
        with_reducible refine Subscript_ ?_
        refine ld (s := ⟨_, _, _, _, _⟩) F30 (by rfl) ?_
        refine wpAny_Slice (evalPart_some_step (wpAny_Constant_int (evalPart_some_step (UnaryOp_ (wpAny_Constant_int (neg_int (evalPart_none_step ?_)))))))
        dsimp only
        refine slice_strN_ss (s := ⟨_, _, _, _, _⟩) F30 N30 (fun h32 t32 tk32 F32 N32 => ?_) (hsz := by rw [S_length]; exact Nat.le_trans hfl2 (by decide))
        rw [slice_in _ hw1]
        refine spliced_more (ld (s := ⟨_, _, _, _, _⟩) F32 (by exact hN2.back) (spliced_none ⟨KX.keeps F32.keep, ?_⟩))
        have hun := un_value b v'
        have hdl : (((valueU b v').flatten.drop 1).dropLast).length ≤ 1000 := by
          rw [List.length_dropLast, List.length_drop]; exact Nat.le_trans (Nat.sub_le _ _) (Nat.le_trans (Nat.sub_le _ _) (Nat.le_trans hfl2 (by decide)))
        generalize ((valueU b v').flatten.drop 1).dropLast = lw at hun hdl ⊢
        have hd0 := rep_le (pat := rLt) (c := 60) (by decide) lw
        have hd1 := rep_le (pat := rGt) (c := 62) (by decide) (rep rLt [60] lw 0)
        have hd2 := backF_le back5 (rep rGt [62] (rep rLt [60] lw 0) 0) back5_ne
        refine unescape_go (s := ⟨_, _, _, _, _⟩) (l := lw) (d := Bk) (ys := ys5 tk14) (d1 := rep rGt [62] (rep rLt [60] lw 0) 0) (d2 := backF back5 (rep rGt [62] (rep rLt [60] lw 0) 0)) (KX.keeps F32.keep) (T.keeps F32.keep) (by show dp + 1 + 10 < recursionLimit; exact room hdp) (Nat.le_trans hdl (by decide))
          (Db.td (N32 _ (.tail _ (mfx _ hfB))).1) hBkS (by exact Nat.le_of_ble_eq_true rfl) (by intro e; cases e) (Nat.le_trans hd0 (Nat.le_trans hdl (by decide))) rfl (replAll_back _ (ys5_back _) back5_ne) (Nat.le_trans hd2 (Nat.le_trans hd1 (Nat.le_trans hd0 (Nat.le_trans hdl (by decide))))) (ys5_ok (Nat.le_trans (Nat.le_add_left 1 (T0 + 5)) htk14) _ (Nat.le_trans hd1 (Nat.le_trans hd0 (Nat.le_trans hdl (by decide))))) ?_
        intro h33 tk33 t33 k33 htk33
        have F33 := F32.keeps k33
        have N33 := N32.grown k33
        rw [← unE_back, hun]
        refine eval_at (s := ⟨_, _, _, _, _⟩) F33 (by exact hN2.val) rfl ⟨ov, (N33 _ (.tail _ (mfx _ hfV))).1, cv, _, dV⟩ hlv hvk hk32 fun t' => ?_
        refine ne_same (wpAny_truthy_bool ?_)
        simp only [Bool.false_eq_true, if_false]
        refine isTrue_or_nil ?_
        simp only [Bool.false_eq_true, if_false]
        (with_reducible refine wpAny_execs_nil ?_)
        dsimp only at F33 N33 ⊢
        clear N32 F32 N30 F30 hd0 hd1 hd2 hdl hun
        have hfl := ((ov_ok hOk).take k).flat b
        have hcn := ((ov_ok hOk).take k).count b
        have sz : sizeLine = 16777216 := rfl
        have hlul : lu.length = (unitsOf b ((outs.zip vals).take k)).length := by have := congrArg List.length hlu; simpa using this
        have hltl : lt.length = (valueU b v').length := by have := congrArg List.length hlt; simpa using this
        (with_reducible refine wpAny_execs_cons ?_)
        refine wpAny_AugAssign_Name (ldn (s := ⟨_, _, _, _, _⟩) F33 (by exact htag) ?_)
        refine wpAny_BinOp (eval_at (s := ⟨_, _, _, _, _⟩) F33 (by exact hN2.out) rfl ⟨oo, (N33 _ (.tail _ (mfx _ hfO))).1, co, _, dO⟩ hlo hok hk32 fun t' => ?_)
        refine ld (s := ⟨_, _, _, _, _⟩) F33 (by rfl) ?_
        refine SB.add (fun t34 tk34 => ?_) (by rw [S_length, S_length]; exact add_sz (Nat.le_trans ho1 (by decide)) (Nat.le_trans hfl2 (by decide)))
        rw [S_app]
        refine SB.iadd (fun t35 tk35 => ?_) (by rw [S_length, S_length, List.length_append]; exact add_sz (Nat.le_trans hfl (by decide)) (Nat.le_trans (Nat.add_le_add ho1 hfl2) (by decide)))
        rw [S_app]
        ((with_reducible refine stN (s := ⟨_, _, _, _, _⟩) F33 N33 ?_ ?hk_x141 ?hx_x141); (case hk_x141 => rfl); (case hx_x141 => rfl))
        intro h36 F36 N36
        dsimp only at F36 N36 ⊢
        have mU : (Un, listOf (strValues lu).toArray nu) ∈ (Dl, ol) :: (own2 ++ (Un, listOf (strValues lu).toArray nu) :: gx) := .tail _ (List.mem_append_right _ (.head _))
        (with_reducible refine wpAny_execs_cons ?_)
        refine wpAny_Expr_any ?_ (by rfl) (by rfl)
        refine MethodCall_ (ld (s := ⟨_, _, _, _, _⟩) F36 (by exact hun2) (listMethod_K (s := ⟨_, _, _, _, _⟩) N36 mU PySem.F.slot_list_extend PySem.F.type_list_extend ?_))
        refine callWith_method1 (spliced_more ?_)
        refine wpAny_BinOp (Call_ (name_B F36 KX TR (by k_is) (by boot_by_name) (by decide) (Pv.callWith_type1 (spliced_more ?_))))
        refine eval_at (s := ⟨_, _, _, _, _⟩) F36 (by exact hN2.out) rfl ⟨oo, (N36 _ (.tail _ (mfx _ hfO))).1, co, _, dO⟩ hlo hok hk32 fun t' => ?_
        refine spliced_none ?_
        refine list_of_text (s := ⟨_, _, _, _, _⟩) rfl F36 N36 (Nat.le_trans ho1 (by decide)) fun h37 tk37 Dc lc nc F37 N37 hlc => ?_
        have hlcl : lc.length = o'.length := by have := congrArg List.length hlc; simpa using this
        refine ld (s := ⟨_, _, _, _, _⟩) F37 (by rfl) ?_
        refine kmk_add_lit (s := ⟨_, _, _, _, _⟩) (zs := strValues (lc ++ lt)) F37 N37 ⟨_, (N37 _ (.head _)).1, rfl, _, rfl⟩ ⟨ol, (N37 _ (.tail _ (.head _))).1, cl, _, dl⟩ (by simp [strValues]) (fun Da h38 F38 N38 hlow => ?_) (by rw [sv_len, sv_len]; exact add_sz (Nat.le_trans (Nat.le_of_eq hlcl) (Nat.le_trans ho1 (by decide))) (Nat.le_trans (Nat.le_of_eq hltl) (Nat.le_trans hvu2 (by decide))))
        have hext := ext_ok (lu := lu) (zs := lc ++ lt) (Nat.le_trans (Nat.le_of_eq hlul) (Nat.le_trans hcn (by decide))) (by rw [List.length_append]; exact Nat.le_trans (Nat.add_le_add (Nat.le_trans (Nat.le_of_eq hlcl) ho1) (Nat.le_trans (Nat.le_of_eq hltl) hvu2)) (by decide))
        have hDaU : Da ≠ Un := Nat.ne_of_gt (hlow _ (.tail _ mU))
        replace N38 : News s.heap L h38 ((Da, listOf (strValues (lc ++ lt)).toArray 0) :: (own2 ++ (Un, listOf (strValues lu).toArray nu) :: gx)) := news_sub N38 (by
          intro p hp
          rcases List.mem_cons.mp hp with rfl | hp
          · exact .head _
          · exact .tail _ (.tail _ (.tail _ hp)))
        refine spliced_none (kl_extend (s := ⟨_, _, _, _, _⟩) (l := strValues (lu ++ (lc ++ lt))) F38 N38 (.head _) (by simp [strValues]) (by simp [strValues, valueU, hltl]) (.tail hDaU (upd_own (.head gxU) own2 ownU)) hext.1 hext.2.1 hext.2.2 fun h39 F39 N39 => ?_)
        (with_reducible refine wpAny_execs_nil ?_)
        refine hQI .next _ ?_
        refine ⟨h39, _, _, _, _, rfl, hbg2, F39, (fun p hp => N39 p (.tail _ hp)), ?_, ⟨by exact hN2.out, by exact hN2.val, by exact hN2.tab, by exact hN2.back, by exact hN2.ent, by exact hN2.texts, by exact hN2.due⟩, by exact hsf, by exact hun2, ⟨t35, ?_⟩, lu ++ (lc ++ lt), nu + 1, rfl, ?_⟩
        · intro q hq
          rcases List.mem_cons.mp hq with rfl | hq
          · exact hn2 (Un, listOf (strValues lu).toArray nu) (.head _)
          · exact hn2 q (.tail _ hq)
        · rw [hnext]
          simp [singles_flatten]
        · rw [hnext]
          simp [hlu, hlc, hlt]
      · rintro h26 tk26 g26 m26 news26 F26 N26 ⟨hN2, hsf, hun2, ⟨tt, htag⟩, lu, nu, rfl, hlu⟩ hb26 htk26
        subst hgx
        have hovl : (outs.zip vals).length = vals.length := by rw [List.length_zip, hOk.len]; exact Nat.min_self _
        have hfull : (outs.zip vals).take vals.length = outs.zip vals := by rw [← hovl, List.take_length]
        rw [hfull] at htag hlu
        have hov := ov_ok hOk
        have hzf := zip_fst hOk
        have hgood := units_good b (outs.zip vals)
        have htagl := hov.tag b
        have hcn := hov.count b
        have hul : ∀ u ∈ unitsOf b (outs.zip vals) ++ [[41]], u.length ≤ 6 := by
          intro u hu
          rcases List.mem_append.mp hu with hu | hu
          · exact unit_len b _ u hu
          · rw [List.mem_singleton.mp hu]; decide
        have hflat : (unitsOf b (outs.zip vals)).flatten ++ [41] = (unitsOf b (outs.zip vals) ++ [[41]]).flatten := by simp
        have hsafe : b = true → flatP (leftU (unitsOf b (outs.zip vals) ++ [[41]])) = outs.flatten ++ [41] := by
          rintro rfl
          rw [safe_left hov.piece, hzf]
        have hosm : ∀ u ∈ outs, u.length ≤ 10 := fun u hu => Nat.le_trans (piece_len (hOk.piece u hu)) (by decide)
        have hosn : outs.length ≤ 15 := by rw [hOk.len]; exact hOk.le
        have hofl : outs.flatten.length ≤ 10 * outs.length := flat_len hosm
        have htT : tagT (outs.zip vals) b = (unitsOf b (outs.zip vals) ++ [[41]]).flatten := rfl
        have hlul : lu.length = (unitsOf b (outs.zip vals)).length := by have := congrArg List.length hlu; simpa using this
        have hfll : (unitsOf b (outs.zip vals)).flatten.length ≤ 1000 := by
          rw [← hflat, List.length_append] at htagl; exact Nat.le_trans (Nat.le_add_right _ _) htagl
        have husl : (unitsOf b (outs.zip vals) ++ [[41]]).length ≤ 61 := by rw [List.length_append]; exact Nat.add_le_add_right hcn 1
        rw [hflat.symm] at htagl
        generalize hUS : unitsOf b (outs.zip vals) = us0 at htag hlu htagl hcn hlul hfll hgood hul hflat hsafe htT husl
        generalize hUS2 : us0 ++ [[41]] = us at hgood hul hflat hsafe htT husl
        have sz : sizeLine = 16777216 := rfl
        have e41 : Str.ofString ")" = S [41] := by decide +kernel
        have hsz1 : (S us0.flatten).length + (S [41]).length ≤ sizeLine := by rw [S_length, S_length]; exact add_sz (Nat.le_trans hfll (by decide)) (by decide)
        dsimp only at N26 hbg ⊢
        ((with_reducible refine wpAny_execs_cons ?_); (with_reducible refine wpAny_Assign_Name ?_ ?hs_x144); (case hs_x144 => rfl))
        refine Call_ (name_K F26 KX TR (by k_is) (callWith_K KX (by k_is) (spliced_more ?_)))
        refine wpAny_BinOp (ld (s := ⟨_, _, _, _, _⟩) F26 (by exact hun2) ?_)
        refine List_ (spliced_more (Constant_str (spliced_none (newList_N (s := ⟨_, _, _, _, _⟩) F26 N26 fun h27 F27 N27 => ?_))))
        refine kmk_add_lit (s := ⟨_, _, _, _, _⟩) (zs := strValues (lu ++ [(S [41], tk26)])) F27 N27 ⟨_, (N27 _ (.tail _ (.head _))).1, rfl, _, rfl⟩ ⟨_, (N27 _ (.head _)).1, rfl, _, rfl⟩ (by simp [strValues, e41]) (fun Da h28 F28 N28 hlow => ?_) (by rw [sv_len]; exact add_sz (Nat.le_trans (Nat.le_of_eq hlul) (Nat.le_trans hcn (by decide))) (Nat.le_of_ble_eq_true rfl))
        refine spliced_none ⟨KX.keeps F28.keep, ?_⟩
        have hlus : (lu ++ [(S [41], tk26)]).map (·.1) = us.map S := by rw [← hUS2]; simp [hlu]
        refine left_go (s := ⟨_, _, _, _, _⟩) (lt0 := lu ++ [(S [41], tk26)]) (us := us) (KX.keeps F28.keep) (T.keeps F28.keep) (by show dp + 1 + 6 < recursionLimit; exact room hdp) ⟨_, (N28 _ (.head _)).1, rfl, _, rfl⟩ hlus (Nat.le_trans husl (by decide)) hb26 ?_
        intro h29 tk29 g29 Dl vs29 k29 htk29 hb29 hL29 hn29 hP29
        dsimp only at k29 hn29 ⊢
        obtain ⟨ol, gl, cl, cnl, dl⟩ := hL29
        have hDlT : Dl ≠ Tx := by
          intro e
          have := (N28 (Tx, listOf (strValues lx).toArray nx) (.tail _ (.tail _ (.tail _ (List.mem_append_right _ (.tail _ (.head _))))))).1
          rw [← e, hn29] at this; cases this
        have hDlD : Dl ≠ Du := by
          intro e
          have := (N28 (Du, listOf (strValues ly).toArray ny) (.tail _ (.tail _ (.tail _ (List.mem_append_right _ (.head _)))))).1
          rw [← e, hn29] at this; cases this
        have F29 := F28.keeps k29
        have N29 := news_back F28 (N28.grown k29) hn29 gl
        replace N29 : News s.heap L h29 ((Dl, ol) :: (own ++ (Du, listOf (strValues ly).toArray ny) :: (Tx, listOf (strValues lx).toArray nx) :: fx)) := news_sub N29 (by
          intro p hp
          rcases List.mem_cons.mp hp with rfl | hp
          · exact .head _
          · exact .tail _ (.tail _ (.tail _ (.tail _ hp))))
        refine store_N (s := ⟨_, _, _, _, _⟩) F29 fun h30 F30 k30 => ?_
        dsimp only at F30 k30 ⊢
        have N30 := news_store N29 k30
        have P30 := pairs_store F29.ns k30 hP29
        ((with_reducible refine wpAny_execs_cons ?_); (with_reducible refine wpAny_Assign_Name ?_ ?hs_x145); (case hs_x145 => rfl))
        refine Call_ (name_K F30 KX TR (by k_is) (callWith_K KX (by k_is) (spliced_more ?_)))
        refine wpAny_BinOp (ld (s := ⟨_, _, _, _, _⟩) F30 (by exact htag) (Constant_str ?_))
        rw [e41]
        refine SB.add (fun t31 tk31 => ?_) hsz1
        rw [S_app, hflat]
        refine spliced_none ⟨KX.keeps F30.keep, ?_⟩
        refine strip_go (s := ⟨_, _, _, _, _⟩) (l := us.flatten) (KX.keeps F30.keep) (T.keeps F30.keep) (by show dp + 1 + 6 < recursionLimit; exact room hdp) (by rw [← hflat]; exact htagl) hb29 ?_
        intro h32 tk32 t32 g32 k32 htk32 hb32
        rw [strip_units hgood]
        dsimp only at k32 ⊢
        have F32 := F30.keeps k32
        have N32 := N30.grown k32
        have P32 := pairs_keeps k32 P30
        refine store_N (s := ⟨_, _, _, _, _⟩) F32 fun h33 F33 k33 => ?_
        dsimp only at F33 k33 ⊢
        have N33 := news_store N32 k33
        have P33 := pairs_store F32.ns k33 P32
        clear N32 F32 P32 N30 F30 P30 N29 F29 hP29 N28 F28 N27 F27
        have hpm := left_mem hul
        have hpc := left_count us
        (with_reducible refine wpAny_execs_cons ?_)
        with_reducible refine wpAny_If ?_
        refine wpAny_isTrue_Compare1 (ld (s := ⟨_, _, _, _, _⟩) F33 (by rfl) ?_)
        refine' join_pairs (s := ⟨_, _, _, _, _⟩) (ps := leftU us) (pz := fun _ => true) rfl (by decide) (by decide +kernel) ?hiter ⟨ol, (N33 _ (.head _)).1, cl, _, dl⟩ P33 (Nat.le_trans hpc (Nat.le_trans husl (by decide))) (fun p hp => Nat.le_trans (hpm p hp) (by decide)) (.inl ⟨rfl, rfl⟩) ?hQ rfl ?d1 rfl ?d2 rfl rfl ?d3 ?d4 ?d5
        case hiter =>
          intro s' Q' e hq
          exact ld (s := s') (by rw [e]; exact F33) rfl hq
        case d1 => decide
        case d2 => decide
        case d3 => intro _; rfl
        case d4 => rfl
        case d5 => rfl
        intro h34 tk34 t34 k34
        dsimp only at k34 ⊢
        have efl : (((leftU us).filter fun _ => true).map (·.1)).flatten = flatP (leftU us) := by rw [List.filter_eq_self.mpr (fun _ _ => rfl)]; rfl
        rw [efl]
        refine ne_same (wpAny_truthy_bool ?_)
        simp only [Bool.false_eq_true, if_false]
        (with_reducible refine wpAny_execs_nil ?_)
        have F34 := F33.keeps k34
        have N34 := N33.grown k34
        have P34 := pairs_keeps k34 P33
        dsimp only at F34 N34 ⊢
        (with_reducible refine wpAny_execs_cons ?_)
        refine wpAny_mono (Q := fun f s' => f = .next ∧ ∃ tk, s' = ⟨h34, g32, s.drawn, tk, s.os⟩) ?_ ?_ (fun _ _ e => e)
        · with_reducible refine wpAny_If ?_
          refine isTrue_and (isTrue_plain (ld (s := ⟨_, _, _, _, _⟩) F34 (by exact hsf) (wpAny_truthy_bool ?_)))
          cases hbb : b with
          | false =>
            simp only [Bool.false_eq_true, if_false]
            (with_reducible refine wpAny_execs_nil ?_)
            exact ⟨rfl, _, rfl⟩
          | true =>
            simp only [if_true]
            refine isTrue_and (wpAny_isTrue_Compare1 (ld (s := ⟨_, _, _, _, _⟩) F34 (by rfl) ?_))
            refine wpAny_BinOp (eval_join (s := ⟨_, _, _, _, _⟩) (ls := outs) F34 (by decide +kernel) (by exact hN2.out) ⟨oo, (N34 _ (.tail _ (hmB _ hfO))).1, co, _, dO⟩ hlo (join_ok hosm (Nat.le_trans hosn (by decide))) ?_)
            intro t35 tk35
            refine Constant_str ?_
            refine SB.add (fun t36 tk36 => ?_) (by rw [S_length, S_length]; exact add_sz (Nat.le_trans hofl (Nat.le_trans (Nat.mul_le_mul_left 10 hosn) (by decide))) (by decide))
            rw [S_app, hsafe hbb]
            refine ne_same (wpAny_truthy_bool ?_)
            simp only [Bool.false_eq_true, if_false]
            (with_reducible refine wpAny_execs_nil ?_)
            exact ⟨rfl, _, rfl⟩
        rintro f s' ⟨rfl, tk37, rfl⟩
        dsimp only
        (with_reducible refine wpAny_execs_cons ?_)
        refine app_keep (s := ⟨_, _, _, _, _⟩) (D := Tx) (P := fun v => ∃ t, v = .str (S us.flatten) t) F34 N34 (by exact hN2.texts) (.tail _ (List.mem_append_right _ (.tail _ (.head _)))) (fun v _ => .tail hDlT (upd_own (.tail hTD.symm (.head fxT)) own ownT)) ?hsz1 (fun Q' hQ' => ?_) ?_
        case hsz1 =>
          have := congrArg List.length hlx
          simp only [List.length_map, List.length_take, List.length_cons, List.length_nil] at this
          rw [sv_size]; exact Nat.le_trans (Nat.le_of_eq this) (Nat.le_trans (Nat.min_le_right _ _) (by decide))
        · refine wpAny_BinOp (ld (s := ⟨_, _, _, _, _⟩) F34 (by exact htag) (Constant_str ?_))
          refine SB.add (fun t38 tk38 => ?_) hsz1
          rw [S_app, hflat]
          exact hQ' _ _ ⟨_, rfl⟩
        rintro v h39 tk39 ⟨tv, rfl⟩ F39 N39 k39
        have P39 := pairs_list (N34 (Tx, listOf (strValues lx).toArray nx) (.tail _ (List.mem_append_right _ (.tail _ (.head _))))).1 k39 P34
        rw [strValues_push] at N39
        (with_reducible refine wpAny_execs_cons ?_)
        refine app_stmt (s := ⟨_, _, _, _, _⟩) (D := Du) (P := fun v => ∃ t, v = .str (S (acc1 us.flatten)) t) F39 N39 (by exact hN2.due) (.tail _ (List.mem_append_right _ (.head _))) (fun v _ => .tail hDlD (upd_own (.head ?hh) own ownD)) ?hsz2 (fun Q' hQ' => ?_) ?_
        case hsz2 =>
          have := congrArg List.length hly
          simp only [List.length_map, List.length_take, List.length_cons, List.length_nil] at this
          rw [sv_size]; exact Nat.le_trans (Nat.le_of_eq this) (Nat.le_trans (Nat.min_le_right _ _) (by decide))
        case hh =>
          intro p hp
          rcases List.mem_cons.mp hp with rfl | hp
          · exact hTD
          · exact fxD p hp
        · refine IfExp_ (isTrue_plain (Call_ (name_K F39 KX TR (by k_is) (callWith_K KX (by k_is) (spliced_more (ld (s := ⟨_, _, _, _, _⟩) F39 (by rfl) (spliced_none ⟨KX.keeps F39.keep, ?_⟩)))))))
          refine taken_go (s := ⟨_, _, _, _, _⟩) (ps := leftU us) (KX.keeps F39.keep) (T.keeps F39.keep) (by show dp + 1 + 6 < recursionLimit; exact room hdp) ⟨ol, (N39 _ (.head _)).1, cl, _, dl⟩ P39 (Nat.le_trans hpc (Nat.le_trans husl (by decide))) (fun p hp => Nat.le_trans (hpm p hp) (by decide)) (Nat.le_trans (row_len hpm) (Nat.le_trans (Nat.mul_le_mul_left 6 (Nat.le_trans hpc husl)) (by decide))) ?_
          intro h41 tk41 r k41 htk41 hR hPr
          have hck := check_units hgood hR hPr
          have F41 := F39.keeps k41
          have N41 := N39.grown k41
          dsimp only at F41 N41 ⊢
          refine wpAny_truthy_bool ?_
          by_cases hr : r = []
          · rw [decide_eq_true hr] at hck ⊢
            simp only [if_true]
            refine wpAny_BinOp (ld (s := ⟨_, _, _, _, _⟩) F41 (by exact htag) (Constant_str ?_))
            refine SB.add (fun t42 tk42 => ?_) hsz1
            rw [S_app, hflat]
            exact hQ' _ _ _ ⟨_, by rw [acc1, hck]; rfl⟩ F41 N41
          · rw [decide_eq_false hr] at hck ⊢
            simp only [Bool.false_eq_true, if_false]
            refine Constant_str ?_
            rw [show Str.ofString "('', '')" = S dueT by decide +kernel]
            exact hQ' _ _ _ ⟨_, by rw [acc1, hck]; rfl⟩ F41 N41
        rintro v h40 tk40 ⟨tv2, rfl⟩ F40 N40
        rw [strValues_push] at N40
        (with_reducible refine wpAny_execs_nil ?_)
        refine hQO .next _ ?_
        refine ⟨h40, _, _, _, _, rfl, hb32, F40, (fun p hp => N40 p (.tail _ hp)), ?_, ⟨by exact hN2.out, by exact hN2.val, by exact hN2.tab, by exact hN2.back, by exact hN2.ent, by exact hN2.texts, by exact hN2.due⟩, _, _, _, _, rfl, ?_, ?_⟩
        · intro q hq
          rcases List.mem_cons.mp hq with rfl | hq
          · exact hID
          · rcases List.mem_cons.mp hq with rfl | hq
            · exact hIT
            · exact hn q (.tail _ (.tail _ hq))
        · rw [htake, List.map_append, List.map_append, hlx, List.map_singleton, List.map_singleton, htT]
        · rw [htake, List.map_append, List.map_append, hly, List.map_singleton, List.map_singleton, htT]
    · rintro h22 tk22 g22 m22 news22 F22 N22 ⟨hN, lx, ly, nx, ny, rfl, hlx, hly⟩ hb22 htk22
      replace hlx : lx.map (·.1) = [tagT (outs.zip vals) true, tagT (outs.zip vals) false].map S := hlx
      replace hly : ly.map (·.1) = [tagT (outs.zip vals) true, tagT (outs.zip vals) false].map (fun l => S (acc1 l)) := hly
      have gT := (N22 _ (.tail _ (.tail _ hfT))).1
      have gE := (N22 _ (.tail _ (.tail _ hfE))).1
      have TDt := Dt.td gT
      obtain ⟨ep, hDA⟩ := TDt.dictAt (prog := prog)
      (with_reducible refine wpAny_execs_cons ?_)
      with_reducible refine wpAny_Return_some ?_
      refine BoolOp_and (wpAny_Compare1 (Call_ (name_B F22 KX TR (by k_is) (by boot_by_name) (by decide) (Pv.callWith_type1 (spliced_more ?_)))))
      refine wpAny_Call_items (knd := PySem.strKind prog w) hTbS (TDt.dictOf (prog := prog)) rfl rfl (fun Q' hq => ld (s := ⟨_, _, _, _, _⟩) F22 hN.tab hq) ?_
      refine spliced_none ?_
      have F23 := F22.push { cls := .type "dict_items", data := .fields #[.ref Tb] }
      have N23 := N22.pushKeep { cls := .type "dict_items", data := .fields #[.ref Tb] }
      refine kdx_call (knd := PySem.strKind prog w) rfl ⟨_, Heap.get?_push_size _ rfl, rfl, rfl⟩ (hDA.push _) (by rw [List.length_map, hysl]; decide) fun h24 tk24 acc c as k24 hS24 hal hG24 hacc => ?_
      dsimp only at k24 hS24 hG24 ⊢
      have F24 := F23.keeps k24
      have N24 := N23.grown k24
      refine ld (s := ⟨_, _, _, _, _⟩) F24 hN.ent ?_
      have eacc : acc = (as.map Value.ref).toArray := by rw [← hacc]
      subst eacc
      refine eq_pairs (s := ⟨_, _, _, _, _⟩) (ys := ys) ⟨_, hS24, rfl, _, rfl⟩ ⟨_, (N24 _ (.tail _ (.tail _ hfE))).1, rfl, 0, rfl⟩ (by show un + 3 + 1 < cLine; exact Nat.lt_of_le_of_lt (Nat.add_le_add_left (show 4 ≤ 20 by decide) un) hun) (by rw [hal, List.length_map]) hEnt.1 ?_ hG24 ?_
      · intro j y hj
        obtain ⟨b, hb1, hb2⟩ := hEnt.2 j y hj
        exact ⟨_, hb1, b, _, rfl, (N24 _ (.tail _ (.tail _ (hfs _ hb2)))).1, rfl, 0, rfl⟩
      refine wpAny_truthy_bool ?_
      simp only [if_true]
      refine BoolOp_one (wpAny_Compare1 (Call_ (name_K F24 KX TR (by k_is) (callWith_K KX (by k_is) (spliced_more (ld (s := ⟨_, _, _, _, _⟩) F24 hN.texts (spliced_none ⟨KX.keeps F24.keep, ?_⟩)))))))
      refine pre_go (s := ⟨_, _, _, _, _⟩) (ls := [tagT (outs.zip vals) true, tagT (outs.zip vals) false]) (KX.keeps F24.keep) (T.keeps F24.keep) (by show dp + 1 + 14 < recursionLimit; exact room hdp) ⟨_, (N24 _ (.tail _ (.head _))).1, rfl, _, rfl⟩ hlx ?_ (by simp) hb22 ?_
      · intro l hl
        simp only [List.mem_cons, List.not_mem_nil, or_false] at hl
        rcases hl with rfl | rfl
        · exact (ov_ok hOk).tag true
        · exact (ov_ok hOk).tag false
      intro h25 tk25 g25 D25 lt25 k25 htk25 hb25 hD25 hlt25
      have F25 := F24.keeps k25
      have N25 := N24.grown k25
      refine ld (s := ⟨_, _, _, _, _⟩) F25 hN.due ?_
      refine eq_strs (s := ⟨_, _, _, _, _⟩) hD25 ⟨_, (N25 _ (.head _)).1, rfl, _, rfl⟩ (by rw [hlt25, hly]) (by show un + 3 < cLine; exact Nat.lt_of_le_of_lt (Nat.add_le_add_left (show 3 ≤ 20 by decide) un) hun) ?_
      intro htk
      exact h h25 _ g25 F25.keep htk hb25
end
section
open PySem PySem.W PySem.Calls PyProof.Rows
set_option Elab.async false
set_option maxRecDepth 100000
set_option maxHeartbeats 8000000
set_option pp.deepTerms false
set_option pp.deepTerms.threshold 8
set_option pp.maxSteps 40000
theorem fill_nowE : (PySem.Challenge.rw_ij0162_01.Holds → hd.heap_39 = hd.heap_39) := by
  k_fill
  intro _; rfl
theorem law_end {prog : Program} {w : World} {p : Program} {loose : List Str} {mean : ExcName → Option Value} {mg mb : Str → Option Value} {s : Shared} {Q E : Value → Shared → Prop} {fa ax : Addr} {vs : List Value} {ns : List Int}
    (KX : (hd.heap_39 w.params).In s.heap) (T : Top p loose mean mg mb s.heap) (hm : mg "law" = some (.ref fa)) (hbig : sysModules < s.heap.objs.size) (hg : s.gens = #[])
    (hax : s.heap.IsList ax (List.toArray vs)) (hns : IntsAre vs ns) (hlen : ¬ ((63 : Nat) : Int) < (ns.length : Int))
    (h : ∀ h' tk g', (∀ b o, s.heap.get? b = some o → h'.get? b = some o) → AllBare g' → Q (.bool true) { s with heap := h', toks := tk, gens := g' }) :
    wpAny (model prog w) callerA (call (.ref fa) [.ref ax]) Q E s := by
  have e := mg_of (n := "law") (v := .ref 105) KX T.g (by k_is)
  rw [hm] at e
  injection e with e
  injection e with e
  subst e
  have hl := hns.length
  show wpAny _ { handled := none, depth := 1 + claimMargin, frames := some [], guards := some [], units := 4 } _ _ _ _
  exact law_go KX T (by decide) (by decide) hbig hax hns (by omega) (.of_eq hg) fun h' tk g' k _ hb => h h' tk g' k hb
theorem law_top : PySem.Challenge.rw_ij0162_01.Holds := hd (by
  k_fill
  intro w s₀ s₁ mg mb G Y fa o pm cd doc dV kV ho hdd hcd hD hmg hg args vals as hpre hlay hrd hwl hlo
  have KX := kIn_of Y
  wrow_args hpre hlay hrd hwl hlo
  all_goals (
    refine law_end KX G.T hmg ?_ hg (by assumption) (by assumption) (by assumption) fun h' tk g' k hb => ?_
    · exact G.low
    · refine ⟨.inl ⟨.bool true, .bool true, [], rfl, fun _ => rfl, .bool true, ?_, fun _ => ⟨.nil, fun _ ha => nomatch ha⟩⟩, .of_keep k, rfl, hb⟩
      wrow_post))
end
end Mine
set_option maxRecDepth 100000 in
set_option maxHeartbeats 8000000 in
theorem PySem.Challenge.cw_ij0162_01_holds : PySem.Challenge.rw_ij0162_01.Holds :=
  Mine.law_top
