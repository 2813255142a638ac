import PyProof.Rows.All
import Wide.All
import OpenK.AllK
import Wide.FinOn
import KE.KNestM
import Lean
import PySem.Challenge.RW_ta0001_02
set_option maxHeartbeats 4000000
set_option Elab.async false
set_option linter.all false
set_option tactic.hygienic false
namespace Mine
open PySem PySem.W PyProof.Rows
namespace hd
noncomputable abbrev pg : Program := PySem.Challenge.pw_ta0001_02
/-- a function of the program, as it stands when the text has been run -/
noncomputable def fnObj (i : Nat) (dv kv m c : Value) : Obj := match pg.main.body.drop i with
  | .FunctionDef name args body _ _ _ scope _ _ _ :: _ => { cls := .type "function", data := .func { name := name, qualname := name, params := args, body := .stmts body, scope := scope, globals := 3, closure := [], defaults := dv, kwdefaults := kv, pyModule := m, code := c } }
  | _ => default
noncomputable def heap_39 (P : Params) : Frag := [(3, Obj.mk (Value.type "dict") Option.none (Data.dict #[DictEntry.mk (PyData.keyHash P (Str.ofString "__name__")) (Value.str (Str.ofString "__name__") 165) (Value.str (Str.ofString "law_ta0001_02") 243), DictEntry.mk (PyData.keyHash P (Str.ofString "__doc__")) (Value.str (Str.ofString "__doc__") 166) Value.none, DictEntry.mk (PyData.keyHash P (Str.ofString "__package__")) (Value.str (Str.ofString "__package__") 167) Value.none, DictEntry.mk (PyData.keyHash P (Str.ofString "__loader__")) (Value.str (Str.ofString "__loader__") 168) (Value.builtin "__main__.__loader__#opaque"), DictEntry.mk (PyData.keyHash P (Str.ofString "__spec__")) (Value.str (Str.ofString "__spec__") 169) Value.none, DictEntry.mk (PyData.keyHash P (Str.ofString "__annotations__")) (Value.str (Str.ofString "__annotations__") 170) (Value.ref 6), DictEntry.mk (PyData.keyHash P (Str.ofString "__builtins__")) (Value.str (Str.ofString "__builtins__") 171) (Value.ref 4), DictEntry.mk (PyData.keyHash P (Str.ofString "__file__")) (Value.str (Str.ofString "__file__") 173) (Value.str (Str.ofString "/claim/cut.py") 172), DictEntry.mk (PyData.keyHash P (Str.ofString "__cached__")) (Value.str (Str.ofString "__cached__") 174) Value.none, DictEntry.mk (PyData.keyHash P (Str.ofString "insort_right")) (Value.str (Str.ofString "insort_right") 201) (Value.ref 23), DictEntry.mk (PyData.keyHash P (Str.ofString "bisect_right")) (Value.str (Str.ofString "bisect_right") 215) (Value.ref 32), DictEntry.mk (PyData.keyHash P (Str.ofString "insort_left")) (Value.str (Str.ofString "insort_left") 228) (Value.ref 41), DictEntry.mk (PyData.keyHash P (Str.ofString "bisect_left")) (Value.str (Str.ofString "bisect_left") 242) (Value.ref 50), DictEntry.mk (PyData.keyHash P (Str.ofString "_law_tied")) (Value.str (Str.ofString "_law_tied") 255) (Value.ref 57), DictEntry.mk (PyData.keyHash P (Str.ofString "_law_laid")) (Value.str (Str.ofString "_law_laid") 266) (Value.ref 64), DictEntry.mk (PyData.keyHash P (Str.ofString "_law_refused")) (Value.str (Str.ofString "_law_refused") 276) (Value.ref 71), DictEntry.mk (PyData.keyHash P (Str.ofString "_law_divisor")) (Value.str (Str.ofString "_law_divisor") 286) (Value.ref 78), DictEntry.mk (PyData.keyHash P (Str.ofString "law")) (Value.str (Str.ofString "law") 292) (Value.ref 83)] 18) #[]),
  (15, Obj.mk (Value.type "tuple") Option.none (Data.seq #[Value.int 0 189, Value.none]) #[]),
  (16, Obj.mk (Value.type "dict") Option.none (Data.dict #[DictEntry.mk (PyData.keyHash P (Str.ofString "key")) (Value.str (Str.ofString "key") 190) Value.none] 1) #[]),
  (22, Obj.mk (Value.type "code") Option.none (Data.fields #[Value.str (Str.ofString "insort_right") 191, Value.str (Str.ofString "insort_right") 192, Value.str (Str.ofString "/claim/cut.py") 193, Value.int 2 0, Value.int 4 0, Value.int 0 0, Value.int 1 0, Value.int 3 0, Value.ref 17, Value.bool Bool.true, Value.int 181 0, Value.ref 18, Value.none, Value.ref 19, Value.ref 20, Value.ref 21, Value.int 199 0, Value.int 2 0, Value.str (Str.ofString "/claim/cut.py") 200]) #[]),
  (23, fnObj 1 (Value.ref 15) (Value.ref 16) (Value.str (Str.ofString "cpy313.bisect") 187) (Value.ref 22)),
  (24, Obj.mk (Value.type "tuple") Option.none (Data.seq #[Value.int 0 202, Value.none]) #[]),
  (25, Obj.mk (Value.type "dict") Option.none (Data.dict #[DictEntry.mk (PyData.keyHash P (Str.ofString "key")) (Value.str (Str.ofString "key") 203) Value.none] 1) #[]),
  (31, Obj.mk (Value.type "code") Option.none (Data.fields #[Value.str (Str.ofString "bisect_right") 204, Value.str (Str.ofString "bisect_right") 205, Value.str (Str.ofString "/claim/cut.py") 206, Value.int 8 0, Value.int 4 0, Value.int 0 0, Value.int 1 0, Value.int 3 0, Value.ref 26, Value.bool Bool.true, Value.int 181 0, Value.ref 27, Value.none, Value.ref 28, Value.ref 29, Value.ref 30, Value.int 213 0, Value.int 8 0, Value.str (Str.ofString "/claim/cut.py") 214]) #[]),
  (32, fnObj 2 (Value.ref 24) (Value.ref 25) (Value.str (Str.ofString "cpy313.bisect") 187) (Value.ref 31)),
  (33, Obj.mk (Value.type "tuple") Option.none (Data.seq #[Value.int 0 216, Value.none]) #[]),
  (34, Obj.mk (Value.type "dict") Option.none (Data.dict #[DictEntry.mk (PyData.keyHash P (Str.ofString "key")) (Value.str (Str.ofString "key") 217) Value.none] 1) #[]),
  (40, Obj.mk (Value.type "code") Option.none (Data.fields #[Value.str (Str.ofString "insort_left") 218, Value.str (Str.ofString "insort_left") 219, Value.str (Str.ofString "/claim/cut.py") 220, Value.int 28 0, Value.int 4 0, Value.int 0 0, Value.int 1 0, Value.int 3 0, Value.ref 35, Value.bool Bool.true, Value.int 181 0, Value.ref 36, Value.none, Value.ref 37, Value.ref 38, Value.ref 39, Value.int 226 0, Value.int 28 0, Value.str (Str.ofString "/claim/cut.py") 227]) #[]),
  (41, fnObj 3 (Value.ref 33) (Value.ref 34) (Value.str (Str.ofString "cpy313.bisect") 187) (Value.ref 40)),
  (42, Obj.mk (Value.type "tuple") Option.none (Data.seq #[Value.int 0 229, Value.none]) #[]),
  (43, Obj.mk (Value.type "dict") Option.none (Data.dict #[DictEntry.mk (PyData.keyHash P (Str.ofString "key")) (Value.str (Str.ofString "key") 230) Value.none] 1) #[]),
  (49, Obj.mk (Value.type "code") Option.none (Data.fields #[Value.str (Str.ofString "bisect_left") 231, Value.str (Str.ofString "bisect_left") 232, Value.str (Str.ofString "/claim/cut.py") 233, Value.int 34 0, Value.int 4 0, Value.int 0 0, Value.int 1 0, Value.int 3 0, Value.ref 44, Value.bool Bool.true, Value.int 181 0, Value.ref 45, Value.none, Value.ref 46, Value.ref 47, Value.ref 48, Value.int 240 0, Value.int 34 0, Value.str (Str.ofString "/claim/cut.py") 241]) #[]),
  (50, fnObj 4 (Value.ref 42) (Value.ref 43) (Value.str (Str.ofString "cpy313.bisect") 187) (Value.ref 49)),
  (56, Obj.mk (Value.type "code") Option.none (Data.fields #[Value.str (Str.ofString "_law_tied") 245, Value.str (Str.ofString "_law_tied") 246, Value.str (Str.ofString "/claim/cut.py") 247, Value.int 55 0, Value.int 1 0, Value.int 0 0, Value.int 0 0, Value.int 3 0, Value.ref 51, Value.bool Bool.true, Value.int 181 0, Value.ref 52, Value.none, Value.ref 53, Value.ref 54, Value.ref 55, Value.int 253 0, Value.int 55 0, Value.str (Str.ofString "/claim/cut.py") 254]) #[]),
  (57, fnObj 6 Value.none Value.none (Value.str (Str.ofString "law_ta0001_02") 243) (Value.ref 56)),
  (63, Obj.mk (Value.type "code") Option.none (Data.fields #[Value.str (Str.ofString "_law_laid") 256, Value.str (Str.ofString "_law_laid") 257, Value.str (Str.ofString "/claim/cut.py") 258, Value.int 64 0, Value.int 1 0, Value.int 0 0, Value.int 0 0, Value.int 3 0, Value.ref 58, Value.bool Bool.true, Value.int 181 0, Value.ref 59, Value.none, Value.ref 60, Value.ref 61, Value.ref 62, Value.int 264 0, Value.int 64 0, Value.str (Str.ofString "/claim/cut.py") 265]) #[]),
  (64, fnObj 7 Value.none Value.none (Value.str (Str.ofString "law_ta0001_02") 243) (Value.ref 63)),
  (70, Obj.mk (Value.type "code") Option.none (Data.fields #[Value.str (Str.ofString "_law_refused") 267, Value.str (Str.ofString "_law_refused") 268, Value.str (Str.ofString "/claim/cut.py") 269, Value.int 72 0, Value.int 3 0, Value.int 0 0, Value.int 0 0, Value.int 3 0, Value.ref 65, Value.bool Bool.true, Value.int 181 0, Value.ref 66, Value.none, Value.ref 67, Value.ref 68, Value.ref 69, Value.int 274 0, Value.int 72 0, Value.str (Str.ofString "/claim/cut.py") 275]) #[]),
  (71, fnObj 8 Value.none Value.none (Value.str (Str.ofString "law_ta0001_02") 243) (Value.ref 70)),
  (77, Obj.mk (Value.type "code") Option.none (Data.fields #[Value.str (Str.ofString "_law_divisor") 277, Value.str (Str.ofString "_law_divisor") 278, Value.str (Str.ofString "/claim/cut.py") 279, Value.int 78 0, Value.int 1 0, Value.int 0 0, Value.int 0 0, Value.int 3 0, Value.ref 72, Value.bool Bool.true, Value.int 181 0, Value.ref 73, Value.none, Value.ref 74, Value.ref 75, Value.ref 76, Value.int 284 0, Value.int 78 0, Value.str (Str.ofString "/claim/cut.py") 285]) #[]),
  (78, fnObj 9 Value.none Value.none (Value.str (Str.ofString "law_ta0001_02") 243) (Value.ref 77)),
  (82, Obj.mk (Value.type "code") Option.none (Data.fields #[Value.str (Str.ofString "law") 287, Value.str (Str.ofString "law") 288, Value.str (Str.ofString "/claim/cut.py") 289, Value.int 85 0, Value.int 1 0, Value.int 0 0, Value.int 0 0, Value.int 3 0, Value.ref 79, Value.bool Bool.true, Value.int 181 0, Value.ref 80, Value.none, Value.none, Value.none, Value.ref 81, Value.int 290 0, Value.int 85 0, Value.str (Str.ofString "/claim/cut.py") 291]) #[]),
  (83, fnObj 10 Value.none Value.none (Value.str (Str.ofString "law_ta0001_02") 243) (Value.ref 82))]
noncomputable def addrs : List Addr := [3, 15, 16, 22, 23, 24, 25, 31, 32, 33, 34, 40, 41, 42, 43, 49, 50, 56, 57, 63, 64, 70, 71, 77, 78, 82, 83]
noncomputable abbrev loose : List Str := ["insort_right", "bisect_right", "insort_left", "bisect_left"]
noncomputable abbrev q : Program := view pg [6,7,8,9,10]
noncomputable abbrev hook : Hook := kmHook heap_39 addrs (fun _ => rfl) [52]
end hd
noncomputable abbrev rw : OpenLaw := PySem.Challenge.rw_ta0001_02
set_option maxRecDepth 100000 in
theorem hd.said : rw.wellSaid = true := by kernel_rfl
set_option maxRecDepth 100000 in
theorem hd.left : LeftO hd.pg hd.q hd.loose (fun s => xlAt hd.q [] s && recOk (RowW.records rw.row.toRowW) s) hd.hook.obs hd.hook.val 880 := fun w => by kernel_rfl
noncomputable def hd.law : DefRec := ((defOf hd.q rw.row.name).get (by kernel_rfl)).1
set_option maxRecDepth 100000 in
theorem hd (walk : WalkO hd.q hd.loose (XL hd.q []) hd.hook.says rw.row.toRowW hd.law [] fun f vs => PySem.call f vs) : rw.Holds :=
  holds_law hd.said fun k1 => holds_open hd.left hd.hook.of hd.hook.keeps (fun s e => xl_of s (Bool.and_eq_true_iff.mp e).1) XL.keeps (by kernel_rfl) (by kernel_rfl) (by kernel_rfl) (fun s e => recFacts_of (Bool.and_eq_true_iff.mp e).2) (by kernel_rfl)
    k1 (by decide +kernel) ⟨rfl, rfl, rfl, rfl, rfl, by decide +kernel⟩ ⟨[WData.list []], by decide +kernel, by decide +kernel⟩ walk

open PySem PySem.W PySem.Calls PyProof.Rows
set_option maxRecDepth 20000
/-! sets of ints: the table's places rise -/
def Ris (xs : Array Nat) : Prop := ∀ i j, i < j → j < xs.size → xs.getD i 0 < xs.getD j 0
theorem below_go {xs : Array Nat} (hr : Ris xs) {j : Nat} : ∀ (fuel lo hi : Nat), hi - lo ≤ fuel → lo ≤ hi → hi ≤ xs.size → (∀ i, i < lo → xs.getD i 0 < j) → (∀ i, hi ≤ i → i < xs.size → j ≤ xs.getD i 0) →
    SetTable.below.go xs j fuel lo hi ≤ xs.size ∧ (∀ i, i < SetTable.below.go xs j fuel lo hi → xs.getD i 0 < j) ∧ (∀ i, SetTable.below.go xs j fuel lo hi ≤ i → i < xs.size → j ≤ xs.getD i 0) := by
  intro fuel
  induction fuel with
  | zero => intro lo hi h1 h2 h3 a b; exact ⟨Nat.le_trans h2 h3, a, fun i (hi' : lo ≤ i) => b i (by lia)⟩
  | succ fuel ih =>
    intro lo hi h1 h2 h3 a b
    unfold SetTable.below.go
    by_cases hlt : lo < hi
    · rw [if_pos hlt]
      dsimp only
      rw [show xs.getD ((lo + hi) / 2) j = xs.getD ((lo + hi) / 2) 0 by simp only [Array.getD_eq_getD_getElem?, Array.getElem?_eq_getElem (show (lo + hi) / 2 < xs.size by lia), Option.getD_some]]
      by_cases hm : xs.getD ((lo + hi) / 2) 0 < j
      · rw [if_pos hm]
        refine ih _ _ (by lia) (by lia) h3 (fun i hi' => ?_) b
        by_cases he : i = (lo + hi) / 2
        · rw [he]; exact hm
        · exact Nat.lt_trans (hr i _ (by lia) (by lia)) hm
      · rw [if_neg hm]
        refine ih _ _ (by lia) (by lia) (by lia) a fun i hi' hs => ?_
        by_cases he : i = (lo + hi) / 2
        · rw [he]; exact Nat.not_lt.mp hm
        · exact Nat.le_trans (Nat.not_lt.mp hm) (Nat.le_of_lt (hr _ i (by lia) hs))
    · rw [if_neg hlt]; exact ⟨Nat.le_trans h2 h3, a, fun i hi' => b i (by lia)⟩
theorem below_spec {xs : Array Nat} (hr : Ris xs) (j : Nat) :
    SetTable.below xs j ≤ xs.size ∧ (∀ i, i < SetTable.below xs j → xs.getD i 0 < j) ∧ (∀ i, SetTable.below xs j ≤ i → i < xs.size → j ≤ xs.getD i 0) :=
  below_go hr _ _ _ (Nat.le_refl _) (Nat.zero_le _) (Nat.le_refl _) (fun _ h => nomatch h) fun i h1 h2 => absurd h2 (Nat.not_lt.mpr h1)
theorem getD_insert (xs : Array Nat) (p x i : Nat) (hp : p ≤ xs.size) : (SetTable.insertAt xs p x).getD i 0 = if i < p then xs.getD i 0 else if i = p then x else xs.getD (i - 1) 0 := by
  have e1 : min p xs.size - 0 = p := by lia
  by_cases h1 : i < p
  · rw [if_pos h1]
    simp only [SetTable.insertAt, Array.getD_eq_getD_getElem?, Array.getElem?_append, Array.getElem?_push, Array.size_push, Array.size_extract, Array.getElem?_extract, e1]
    rw [if_pos (by lia), if_neg (by lia), if_pos (by lia), Nat.zero_add]
  · rw [if_neg h1]
    by_cases h2 : i = p
    · subst h2
      rw [if_pos rfl]
      simp only [SetTable.insertAt, Array.getD_eq_getD_getElem?, Array.getElem?_append, Array.getElem?_push, Array.size_push, Array.size_extract, Array.getElem?_extract, e1]
      rw [if_pos (by lia), if_pos trivial]; rfl
    · rw [if_neg h2]
      simp only [SetTable.insertAt, Array.getD_eq_getD_getElem?, Array.getElem?_append, Array.getElem?_push, Array.size_push, Array.size_extract, Array.getElem?_extract, e1]
      rw [if_neg (by lia)]
      by_cases h3 : i - (p + 1) < min xs.size xs.size - p
      · rw [if_pos h3, show p + (i - (p + 1)) = i - 1 by lia]
      · rw [if_neg h3, Array.getElem?_eq_none (by lia)]
theorem ris_insert {xs : Array Nat} (hr : Ris xs) {j : Nat} (hj : xs[SetTable.below xs j]? ≠ some j) : Ris (SetTable.insertAt xs (SetTable.below xs j) j) := by
  obtain ⟨h1, h2, h3⟩ := below_spec hr j
  generalize hp : SetTable.below xs j = p at h1 h2 h3 hj ⊢
  have hne : ∀ i, p ≤ i → i < xs.size → j < xs.getD i 0 := fun i hi hs => by
    have := h3 i hi hs
    rcases Nat.lt_or_eq_of_le this with q | q
    · exact q
    · have hpe : xs.getD p 0 = j := by
        have h4 := h3 p (Nat.le_refl _) (Nat.lt_of_le_of_lt hi hs)
        by_cases hip : p = i
        · rw [hip]; exact q.symm
        · have := hr p i (by lia) hs; lia
      exact absurd (by rw [Array.getElem?_eq_getElem (Nat.lt_of_le_of_lt hi hs)]; rw [← hpe, Array.getD_eq_getD_getElem?, Array.getElem?_eq_getElem (Nat.lt_of_le_of_lt hi hs)]; rfl) hj
  intro a b hab hb
  have hsz : (SetTable.insertAt xs p j).size = xs.size + 1 := by simp [SetTable.insertAt]; lia
  rw [hsz] at hb
  rw [getD_insert _ _ _ _ h1, getD_insert _ _ _ _ h1]
  by_cases a1 : a < p
  · rw [if_pos a1]
    by_cases b1 : b < p
    · rw [if_pos b1]; exact hr a b hab (by lia)
    · rw [if_neg b1]
      by_cases b2 : b = p
      · rw [if_pos b2]; exact h2 a a1
      · rw [if_neg b2]; exact Nat.lt_trans (h2 a a1) (hne _ (by lia) (by lia))
  · rw [if_neg a1, if_neg (by lia : ¬ b < p), if_neg (by lia : ¬ b = p)]
    by_cases a2 : a = p
    · rw [if_pos a2]; exact hne _ (by lia) (by lia)
    · rw [if_neg a2]; exact hr _ _ (by lia) (by lia)

/-- a table that never lost an entry -/
structure TOk (t : SetTable) (n : Nat) : Prop where
  sz : t.place.size = n
  ris : Ris t.place
  dum : t.dummies = #[]
theorem ris_range (n : Nat) : Ris (Array.range n) := fun i j hij hj => by
  rw [Array.size_range] at hj
  simp only [Array.getD_eq_getD_getElem?, Array.getElem?_range, if_pos hj, if_pos (Nat.lt_trans hij hj), Option.getD_some]
  exact hij
theorem TOk.standIn (t : SetTable) (n : Nat) : TOk (t.standIn n) n := ⟨Array.size_range, ris_range n, rfl⟩
theorem has_nil (j : Nat) : SetTable.has #[] j = false := by
  unfold SetTable.has
  rw [Array.getElem?_eq_none (Nat.zero_le _)]; rfl
theorem probe_go {t : SetTable} (hd : t.dummies = #[]) {f : Nat → Int} {h : Int} : ∀ (fuel : Nat) (p : SetTable.Probe), p.dummy = none → ∀ {j d}, SetTable.probe.go t f h fuel p = some (.empty j d) → d = none ∧ t.slot j = .empty := by
  intro fuel
  induction fuel with
  | zero => intro p _ j d e; cases e
  | succ fuel ih =>
    intro p hp j d e
    unfold SetTable.probe.go at e
    cases hs : t.slot p.j with
    | empty => rw [hs] at e; cases e; exact ⟨hp, hs⟩
    | dummy =>
      unfold SetTable.slot at hs
      dsimp only at hs
      rw [hd, has_nil] at hs
      split at hs <;> cases hs
    | live i =>
      rw [hs] at e
      dsimp only at e
      split at e
      · cases e
      · refine ih _ ?_ e
        unfold SetTable.advance
        split
        · exact hp
        · exact hp
theorem TOk.put {t : SetTable} {n j : Nat} (h : TOk t n) (hs : t.slot j = .empty) : TOk (t.put j).1 (n + 1) ∧ (t.put j).1.led = t.led := by
  have hne : t.place[SetTable.below t.place j]? ≠ some j := fun q => by
    unfold SetTable.slot at hs
    dsimp only at hs
    rw [q, if_pos (by simp)] at hs; cases hs
  refine ⟨⟨?_, ris_insert h.ris hne, ?_⟩, rfl⟩
  · have := (below_spec h.ris j).1
    show (SetTable.insertAt t.place _ j).size = n + 1
    simp [SetTable.insertAt, ← h.sz]; lia
  · show (if SetTable.has t.dummies j = true then _ else t.dummies) = #[]
    rw [h.dum, has_nil]; rfl
set_option tactic.hygienic true in
theorem tok_new {t : SetTable} {es : Array (Int × Value)} (ht : TOk t es.size) (h : Int) (x : Value) : TOk (layNew t es h x).2.1 (layNew t es h x).1.size ∧ (layNew t es h x).2.1.led = t.led := by
  unfold layNew
  cases hf : t.freeSlot h with
  | none =>
    refine ⟨?_, rfl⟩
    show TOk (t.standIn (es.size + 1)) (es.push (h, x)).size
    rw [Array.size_push]; exact .standIn _ _
  | some q =>
    obtain ⟨j, wd⟩ := q
    unfold SetTable.freeSlot at hf
    split at hf
    · next j' d e =>
      obtain ⟨rfl, hs⟩ := probe_go ht.dum _ _ rfl e
      obtain ⟨hj, _⟩ : j' = j ∧ _ := by simpa using hf
      subst hj
      have hp := ht.put hs
      have hsz : (SetTable.insertAt es (t.put j').2 (h, x)).size = es.size + 1 := by
        have := (below_spec ht.ris j').1
        show (SetTable.insertAt es (SetTable.below t.place j') (h, x)).size = _
        rw [ht.sz] at this
        simp [SetTable.insertAt]; lia
      show TOk ((t.put j').1.orStandIn _) _ ∧ ((t.put j').1.orStandIn _).led = _
      unfold SetTable.orStandIn
      split
      · exact ⟨by rw [hsz]; exact hp.1, hp.2⟩
      · exact ⟨.standIn _ _, rfl⟩
    · cases hf
theorem ris_of_pairwise {l : List Nat} (h : l.Pairwise (· < ·)) : Ris l.toArray := fun i j hij hj => by
  have hj : j < l.length := by simpa using hj
  simp only [Array.getD_eq_getD_getElem?, List.getElem?_toArray, List.getElem?_eq_getElem hj, List.getElem?_eq_getElem (Nat.lt_trans hij hj), Option.getD_some]
  exact List.pairwise_iff_getElem.mp h i j _ _ hij
set_option tactic.hygienic true in
theorem tok_relay {t : SetTable} {es : Array (Int × Value)} (wanted : Nat) : TOk (relayAll t es wanted).2.1 (relayAll t es wanted).1.size ∧ (relayAll t es wanted).2.1.led = t.led := by
  unfold relayAll
  cases hr : t.relaid (es.map (·.1)) wanted with
  | none => exact ⟨.standIn _ _, rfl⟩
  | some q =>
    obtain ⟨t', order⟩ := q
    dsimp only
    split
    · next hc =>
      have hf := (Bool.and_eq_true_iff.mp hc).2
      unfold SetTable.relaid SetTable.laid at hr
      cases ho : SetTable.layClean (SetTable.sizeAbove wanted - 1) (es.map (·.1)) with
      | none => rw [ho] at hr; cases hr
      | some owner =>
        rw [ho] at hr
        cases hr
        refine ⟨⟨?_, ?_, rfl⟩, rfl⟩
        · have := (Bool.and_eq_true_iff.mp hf).1
          simpa using this
        · refine ris_of_pairwise ?_
          rw [List.map_filterMap]
          refine List.Pairwise.filterMap (R := (· < ·)) _ (fun a a' haa b hb b' hb' => ?_) List.pairwise_lt_range
          obtain ⟨c, hc, rfl⟩ := Option.map_eq_some_iff.mp hb
          obtain ⟨c', hc', rfl⟩ := Option.map_eq_some_iff.mp hb'
          obtain ⟨_, _, rfl⟩ := Option.map_eq_some_iff.mp hc
          obtain ⟨_, _, rfl⟩ := Option.map_eq_some_iff.mp hc'
          exact haa
    · exact ⟨.standIn _ _, rfl⟩

open PySem PySem.W PySem.Calls PyProof.Rows
set_option maxRecDepth 100000
/-- a set of ints whose whole table is known to be sound -/
inductive IS (prog : Program) (w : World) (h : Heap) (a : Addr) (S : Int → Bool) (n : Nat) : Prop
  | mk (es : Array (Int × Value)) (ep : Nat) (t : SetTable) (e : h.get? a = some { cls := .type "set", dict := Option.none, data := .set es ep t, slots := #[] }) (el : ElemsOf (intKind prog w) es.toList)
      (hm : ∀ k, S k = true ↔ ∃ e ∈ es.toList, (intKind prog w).is k e.2 = true) (hb : es.size < scanBound) (hf : t.fits es.size = true) (hn : es.size = n) (tok : TOk t es.size) (led : t.led = !w.params.followText "set-order")
section
variable {prog : Program} {w : World} {A : Around} {E : Value → Shared → Prop} {s : Shared}
theorem IS.move {h h' : Heap} {a S n} (x : IS prog w h a S n) (k : ∀ o, h.get? a = some o → h'.get? a = some o) : IS prog w h' a S n :=
  x.casesOn fun es ep t e el hm hb hf hn tok led => ⟨es, ep, t, k _ e, el, hm, hb, hf, hn, tok, led⟩
theorem IS.congr {h : Heap} {a S S' n n'} (x : IS prog w h a S n) (e : ∀ k, S k = S' k) (en : n = n') : IS prog w h a S' n' := by
  obtain rfl : S = S' := funext e
  exact en ▸ x
theorem put_get {h : Heap} {a : Addr} {es : Array (Int × Value)} {ep : Nat} {t : SetTable} (e : h.get? a = some { cls := .type "set", dict := Option.none, data := .set es ep t, slots := #[] }) (es' : Array (Int × Value)) (t' : SetTable) :
    (h.update a (Obj.putSet es' t')).get? a = some { cls := .type "set", dict := Option.none, data := .set es' (ep + 1) t', slots := #[] } := by
  have := Heap.get?_update_self (Obj.putSet es' t') e (by rw [putSet_of es' t' rfl]; rfl)
  rw [putSet_of es' t' rfl] at this; exact this
/-- the store behind an added one, and the table laid anew -/
theorem is_tail {g : Bool → Sem Unit} (hg : ∀ (b : Bool) (s₁ : Shared) (Q' : Unit → Shared → Prop), Q' () s₁ → wpAny (model prog w) A (g b) Q' E s₁)
    {a : Addr} {es : Array (Int × Value)} {ep : Nat} {t : SetTable} (ho : s.heap.get? a = some { cls := .type "set", dict := Option.none, data := .set es ep t, slots := #[] })
    {es1 : Array (Int × Value)} {t2 : SetTable} {S' : Int → Bool} (el : ElemsOf (intKind prog w) es1.toList) (hm : ∀ k', S' k' = true ↔ ∃ e ∈ es1.toList, (intKind prog w).is k' e.2 = true)
    (hb : es1.size < scanBound) (hf : t2.fits es1.size = true) (tok : TOk t2 es1.size) (led : t2.led = !w.params.followText "set-order") {wd : Bool} {R : Option Bool → Shared → Prop}
    (h : ∀ h', Heap.SameBut a s.heap h' → IS prog w h' a S' es1.size → R (some true) { s with heap := h' }) :
    wpAny (model prog w) A (do
        storeSet a es1 t2
        if (!wd && t2.tooFull) = true then do
            g (relayAll t2 es1 (SetTable.grown es1.size)).2.2
            storeSet a (relayAll t2 es1 (SetTable.grown es1.size)).1 (relayAll t2 es1 (SetTable.grown es1.size)).2.1
            pure (some true)
          else pure (some true)) R E s := by
  refine wpAny_bind (wpAny_storeSet_of ho rfl ?_ (fits_of_scanBound hb))
  have g1 := put_get ho es1 t2
  have sb := Heap.SameBut.update s.heap a (Obj.putSet es1 t2)
  split
  · have pm := relayAll_perm t2 es1 (SetTable.grown es1.size)
    have hz : (relayAll t2 es1 (SetTable.grown es1.size)).1.size = es1.size := by rw [← Array.length_toList, pm.length_eq, Array.length_toList]
    obtain ⟨k1, k2⟩ := tok_relay (t := t2) (es := es1) (SetTable.grown es1.size)
    refine wpAny_bind (hg _ _ _ (wpAny_bind (wpAny_storeSet_of g1 rfl (wpAny_pure (h _ (sb.trans (Heap.SameBut.update _ a _)) ?_)) (fits_of_scanBound (by rw [hz]; exact hb)))))
    exact ⟨_, _, _, put_get g1 _ _, el.perm pm, fun k' => (hm k').trans ⟨fun ⟨e, he, q⟩ => ⟨e, pm.mem_iff.mpr he, q⟩, fun ⟨e, he, q⟩ => ⟨e, pm.mem_iff.mp he, q⟩⟩, by rw [hz]; exact hb, relayAll_fits _ _ _, hz, k1, k2.trans led⟩
  · exact wpAny_pure (h _ sb ⟨_, _, _, g1, el, hm, hb, hf, rfl, tok, led⟩)

theorem is_add {a : Addr} {S : Int → Bool} {n : Nat} {k : Int} {tk : Tok} {Q : Bool → Shared → Prop} (hS : IS prog w s.heap a S n) (hroom : n + 1 < scanBound)
    (h : ∀ h', Heap.SameBut a s.heap h' → IS prog w h' a (fun k' => S k' || decide (k' = k)) (if S k then n else n + 1) → Q (!S k) { s with heap := h' }) :
    wpAny (model prog w) A (setAddHashed a (.int k tk) ((intKind prog w).hash k)) Q E s := by
  have key : (intKind prog w).is k (.int k tk) = true := intKind_is _ _ _ _
  have sc : (Value.int k tk).scannable = true := rfl
  have hS0 := hS
  obtain ⟨es, ep, t, ho, el, hm, hb, hf, hn, tok, led⟩ := hS
  unfold setAddHashed setAddHashedIn
  refine wpAny_holding (wpAny_bind (wpAny_setState_of ho rfl hf ?_))
  dsimp only
  rw [byScan_of sc hb el, if_pos rfl]
  unfold setAddByScan
  refine wpAny_bind (wpAny_bind (wpAny_rule (wpAny_bind (wpAny_setScan_of key ho rfl hf el ?_))))
  cases hr : List.findIdx? (fun e => (intKind prog w).is k e.2) es.toList with
  | some j =>
    obtain ⟨hj, hp, _⟩ := List.findIdx?_eq_some_iff_getElem.mp hr
    have hk : S k = true := (hm k).mpr ⟨_, List.getElem_mem hj, hp⟩
    have := h s.heap (.refl a _) (hS0.congr (fun k' => by
      by_cases e : k' = k
      · rw [e, hk]; rfl
      · rw [decide_eq_false e, Bool.or_false]) (by rw [if_pos hk]))
    rw [hk] at this
    exact wpAny_pure (wpAny_pure this)
  | none =>
    have hk : S k = false := by
      cases q : S k with
      | false => rfl
      | true =>
        obtain ⟨e, he, hp⟩ := (hm k).mp q
        exact absurd hp (by rw [List.findIdx?_eq_none_iff.mp hr e he]; exact Bool.false_ne_true)
    obtain ⟨k1, k2⟩ := tok_new tok ((intKind prog w).hash k) (.int k tk)
    have pm := layNew_perm t es ((intKind prog w).hash k) (.int k tk)
    have ft := layNew_fits t es ((intKind prog w).hash k) (.int k tk)
    generalize layNew t es ((intKind prog w).hash k) (.int k tk) = L at pm ft k1 k2 ⊢
    obtain ⟨es1, t1, wd, gave⟩ := L
    dsimp only at pm ft k1 k2 ⊢
    rw [Array.toList_push] at pm
    have hz : es1.size = n + 1 := by rw [← Array.length_toList, pm.length_eq, List.length_append, Array.length_toList, hn]; rfl
    have el1 := (el.push key sc).perm pm
    have hm1 := mem_push_iff key hm pm
    have hb1 : es1.size < scanBound := by rw [hz]; exact hroom
    have fin : ∀ h', Heap.SameBut a s.heap h' → IS prog w h' a (fun k' => S k' || decide (k' = k)) es1.size → Q true { s with heap := h' } := fun h' sb x => by
      have := h h' sb (by rw [if_neg (by rw [hk]; exact Bool.false_ne_true), ← hz]; exact x)
      rwa [hk] at this
    have go : ∀ (b : Bool) (s₁ : Shared) (Q' : Unit → Shared → Prop), Q' () s₁ → wpAny (model prog w) A (match b with | true => rule "set.scan.the-table-gave-way" | false => pure ()) Q' E s₁ := fun b s₁ Q' q => by
      cases b with
      | true => exact wpAny_rule q
      | false => exact wpAny_pure q
    refine wpAny_bind (go _ _ _ ?_)
    have hv : hashByValue 8 (.int k tk) = pure true := rfl
    split
    · refine wpAny_bind ?_
      rw [hv]
      refine wpAny_pure ?_
      exact is_tail (fun b s₁ Q' q => by cases b with | true => exact wpAny_rule q | false => exact wpAny_pure q) ho el1 hm1 hb1 ft k1 (k2.trans led) fun h' sb x => wpAny_pure (fin h' sb x)
    · refine wpAny_bind (wpAny_pure ?_)
      exact is_tail (fun b s₁ Q' q => by cases b with | true => exact wpAny_rule q | false => exact wpAny_pure q) ho el1 hm1 hb1 ft k1 (k2.trans led) fun h' sb x => wpAny_pure (fin h' sb x)
end

open PySem PySem.W PySem.Calls PyProof.Rows
set_option maxRecDepth 100000
/-- a new set -/
abbrev set0 (w : World) : Obj := { cls := .type "set", dict := Option.none, data := .set #[] 0 (.fresh 0 0 (!w.params.followText "set-order")), slots := #[] }
theorem IS.zero {prog : Program} {w : World} {h : Heap} {a : Addr} (e : h.get? a = some (set0 w)) : IS prog w h a (fun _ => false) 0 :=
  ⟨#[], 0, _, e, fun _ h => (nomatch h), fun k => ⟨fun z => (nomatch z), fun ⟨_, h, _⟩ => (nomatch h)⟩, by decide, by rfl, rfl, ⟨rfl, fun _ _ _ h => (nomatch h), rfl⟩, rfl⟩
/-- the ints met, each once -/
def dd (l : List Int) : List Int := l.foldl (fun σ k => if k ∈ σ then σ else σ ++ [k]) []
theorem dd_snoc (l : List Int) (k : Int) : dd (l ++ [k]) = if k ∈ dd l then dd l else dd l ++ [k] := by unfold dd; rw [List.foldl_append]; rfl
theorem dd_mem {k : Int} (l : List Int) : k ∈ dd l ↔ k ∈ l := by
  suffices ∀ (r : List Int) (k : Int), k ∈ dd r.reverse ↔ k ∈ r.reverse by simpa using this l.reverse k
  intro r
  induction r with
  | nil => exact fun _ => Iff.rfl
  | cons x r ih =>
    intro k
    rw [List.reverse_cons, dd_snoc, List.mem_append]
    by_cases h : x ∈ dd r.reverse
    · rw [if_pos h, ih]
      exact ⟨.inl, fun q => q.elim id fun q => List.mem_singleton.mp q ▸ (ih x).mp h⟩
    · rw [if_neg h, List.mem_append, ih]
set_option tactic.hygienic true in
theorem dd_nodup (l : List Int) : (dd l).Nodup := by
  suffices ∀ r : List Int, (dd r.reverse).Nodup by simpa using this l.reverse
  intro r
  induction r with
  | nil => exact List.nodup_nil
  | cons x r ih =>
    rw [List.reverse_cons, dd_snoc]
    split
    · exact ih
    · next h => exact List.nodup_append.mpr ⟨ih, by simp, by simpa using fun a ha (e : a = x) => h (e ▸ ha)⟩
theorem dd_le (l : List Int) : (dd l).length ≤ l.length := by
  suffices ∀ r : List Int, (dd r.reverse).length ≤ r.length by simpa using this l.reverse
  intro r
  induction r with
  | nil => exact Nat.le_refl _
  | cons x r ih =>
    rw [List.reverse_cons, dd_snoc, List.length_cons]
    split
    · exact Nat.le_succ_of_le ih
    · rw [List.length_append]; exact Nat.succ_le_succ ih
abbrev SM (l : List Int) (k : Int) : Bool := decide (k ∈ dd l)
section
variable {prog : Program} {w : World} {A : Around} {E : Value → Shared → Prop} {s : Shared}

/-- the loop of set(list) -/
theorem set_loop {S I l : Addr} {items : Array Value} {R : Result → Shared → Prop} (hh : A.in1.handled = none) (hlI : l ≠ I) (hSI : S ≠ I) (hSl : S ≠ l) : ∀ (rest done : List Int) (s : Shared), IntsAre (items.toList.drop done.length) rest →
    done.length + rest.length + 1 < scanBound → s.heap.IsListIter I l done.length → s.heap.IsList l items → IS prog w s.heap S (SM done) (dd done).length →
    (∀ h' tk, IS prog w h' S (SM (done ++ rest)) (dd (done ++ rest)).length → (∀ b o, b ≠ S → b ≠ I → s.heap.get? b = some o → h'.get? b = some o) → R (.ok (.ret .none)) { s with heap := h', toks := tk }) →
    codeAny (model prog w) A (.builtin "set.update.loop" ⟨[.ref S, .ref I], []⟩) R s := by
  intro rest
  induction rest with
  | nil =>
    intro done s hI hb hit hl hS hR
    have hx : items[done.length]? = none := by
      have := IntsAre.length hI
      rw [Array.getElem?_eq_none_iff]
      simp at this; lia
    refine codeAny_builtin F.entry_set_update_loop ?_
    rw [Around.under_plainId F.plain_set_update_loop _]
    show wpAny _ A.in1 (pyNext (.ref I) >>= _) _ _ s
    refine wpAny_bind (wpAny_pyNext_list_end hh hit hl hx fun h' hk => ?_)
    show wpAny _ A.in1 (ret Value.none) _ _ _
    refine wpAny_pure (hR h' s.toks ?_ fun b o _ hb e => hk b o hb e)
    rw [List.append_nil]
    exact hS.move fun o e => hk S o hSI e
  | cons x rest ih =>
    intro done s hI hb hit hl hS hR
    obtain ⟨v, vs, e, t, rfl, hI'⟩ : ∃ v vs, items.toList.drop done.length = v :: vs ∧ ∃ t, v = .int x t ∧ IntsAre vs rest := by
      generalize items.toList.drop done.length = q at hI
      cases hI with
      | cons x t r => exact ⟨_, _, rfl, t, rfl, r⟩
    have hx : items[done.length]? = some (.int x t) := by
      rw [← Array.getElem?_toList, ← List.head?_drop, e]; rfl
    refine codeAny_builtin F.entry_set_update_loop ?_
    rw [Around.under_plainId F.plain_set_update_loop _]
    show wpAny _ A.in1 (pyNext (.ref I) >>= _) _ _ s
    refine wpAny_bind (wpAny_pyNext_list_item hit hl hx fun h1 hit1 sb1 => ?_)
    show wpAny _ A.in1 (holding [Value.int x t] (setAdd S (.int x t)) >>= _) _ _ _
    refine wpAny_bind (wpAny_holding ?_)
    unfold setAdd
    refine wpAny_holding (wpAny_bind ((intKind prog w).pyHash (k := x) (intKind_is _ _ _ _) ?_))
    simp only [List.length_cons] at hb
    refine is_add (s := { s with heap := h1, toks := s.toks + 1 }) (hS.move fun o e => (sb1.2 S hSI).trans e) (by have := dd_le done; lia) fun h2 sb2 hS2 => ?_
    have keep : ∀ b o, b ≠ S → b ≠ I → s.heap.get? b = some o → h2.get? b = some o := fun b o h1 h3 e => (sb2.2 b h1).trans ((sb1.2 b h3).trans e)
    have hS3 : IS prog w h2 S (SM (done ++ [x])) (dd (done ++ [x])).length := hS2.congr (fun k => by
      rw [Bool.eq_iff_iff, Bool.or_eq_true, decide_eq_true_eq, decide_eq_true_eq, decide_eq_true_eq, dd_mem, dd_mem, List.mem_append, List.mem_singleton]) (by
      rw [dd_snoc]
      by_cases q : x ∈ dd done
      · rw [if_pos q, if_pos (decide_eq_true q)]
      · rw [if_neg q, if_neg (fun z => q (of_decide_eq_true z)), List.length_append]; rfl)
    refine wpAny_pure ⟨plainId_quiet F.plain_set_update_loop _, ih (done ++ [x]) _ ?_ (by simp; lia) ?_ ?_ hS3 fun h' tk hS' k' => ?_⟩
    · rw [List.length_append, ← List.drop_drop, e]; exact hI'
    · rw [List.length_append]
      obtain ⟨o, eo, r⟩ := hit1
      exact ⟨o, (sb2.2 I (Ne.symm hSI)).trans eo, r⟩
    · obtain ⟨o, eo, r⟩ := hl
      exact ⟨o, keep l o (Ne.symm hSl) hlI eo, r⟩
    · rw [List.append_assoc] at hS'
      exact hR h' tk hS' fun b o h1 h3 e => k' b o h1 h3 (keep b o h1 h3 e)
end

open PySem PySem.W PySem.Calls PyProof.Rows
set_option maxRecDepth 100000
section
variable {prog : Program} {w : World} {A : Around} {E : Value → Shared → Prop} {s : Shared}
/-- set.__new__ makes a led one -/
theorem set_made {a : Value} {Q : Value → Shared → Prop} (h : Q (.ref s.heap.objs.size) { s with heap := s.heap.push (set0 w) }) :
    codeAny (model prog w) A (.call (.builtin "set.__new__") ⟨[.type "set", a], []⟩) (wants Q E) s := by
  refine codeAny_of_tree ?_
  show wpAny _ A.in1 (checkBuiltinCall "set.__new__" ⟨[.type "set", a], []⟩ >>= fun _ => again (.builtin "set.__new__" ⟨[.type "set", a], []⟩)) _ _ s
  refine wpAny_bind (wpAny_of_eq (F.newCall_set_1 a) (wpAny_pure ⟨plainId_quiet F.plain_set_new _, codeAny_builtin F.entry_set_new ?_⟩))
  rw [Around.under_plainId F.plain_set_new _]
  unfold Builtin.«set.__new__» Builtin.Frozenset.newClass
  have hsub := sub_set_self
  obtain ⟨hp, g, d, tk, os⟩ := s
  dsimp only
  wp_walk
  refine wpAny_askSetting (wpAny_pure ?_)
  dsimp only
  simp only [newObj]
  exact wpAny_bind (wpAny_alloc (wpAny_pure (wpAny_pure h)))

/-- what set(list) leaves -/
inductive SetPost (prog : Program) (w : World) (s : Shared) (ns : List Int) (s' : Shared) : Prop
  | mk (h' : Heap) (tk : Nat) (e : s' = { s with heap := h', toks := tk }) (hS : IS prog w h' s.heap.objs.size (SM ns) (dd ns).length) (k : ∀ b o, s.heap.get? b = some o → h'.get? b = some o)
set_option maxHeartbeats 3200000 in
theorem set_list {l : Addr} {vs : Array Value} {n : Nat} {ns : List Int} {Q : Value → Shared → Prop} (hh : A.handled = none) (hl : s.heap.get? l = some { cls := .type "list", dict := Option.none, data := .seq vs n, slots := #[] })
    (hi : IntsAre vs.toList ns) (hb : ns.length + 1 < scanBound) (h : ∀ s', SetPost prog w s ns s' → Q (.ref s.heap.objs.size) s') : wpAny (model prog w) A (call (.type "set") [.ref l]) Q E s := by
  obtain ⟨c, tl, hmro⟩ := F.called_set.mro
  have hmade := F.called_set.made
  have hsub := F.called_set.sub
  have h1 := F.called_set.notType
  have h2 := F.called_set.canCreate
  have hct := F.typeCall_set_1 (.ref l)
  refine wpAny_call (codeAny_of_tree ?_)
  show wpAny _ _ (callAny (.type "set") _) _ _ _
  refine wpAny_pure ⟨Code.quiet_builtin _ (by decide +kernel), codeAny_builtin F.entry_type_call ?_⟩
  rw [Around.under_plain (weight_type_call_type "set" [.ref l] []) rfl]
  repeat (any_goals (first | assumption | wp_step))
  refine codeAny_mono (set_made (E := E) (Q := fun v s₁ => v = .ref s.heap.objs.size ∧ s₁ = { s with heap := s.heap.push (set0 w) }) ⟨rfl, rfl⟩) fun r s₁ hr => ?_
  cases r with
  | error e => exact hr
  | ok fl =>
    cases fl with
    | ret obj =>
      obtain ⟨rfl, rfl⟩ := hr
      have gS : (s.heap.push (set0 w)).get? s.heap.objs.size = some (set0 w) := Heap.get?_push_size _ rfl
      have hT : Shared.TypeIs { s with heap := s.heap.push (set0 w) } (.ref s.heap.objs.size) "set" := ⟨_, gS, rfl⟩
      have hli := F.called_set.init.lookup
      have hbi := F.called_set.init.bind (.ref s.heap.objs.size)
      repeat (any_goals (first | assumption | wp_step))
      refine codeAny_mono (codeAny_call_builtin (R := wants (fun r s₂ => r = .none ∧ SetPost prog w s ns s₂) E) F.called_set.init.plain F.entry_set_init (check_set_init_1 hT ?_)) fun r₂ s₂ hr₂ => ?_
      · have gl : (s.heap.push (set0 w)).get? l = some { cls := .type "list", dict := Option.none, data := .seq vs n, slots := #[] } := Heap.get?_push_of_some _ hl
        have hsls := F.sub_list_set
        have hslf := F.sub_list_frozenset
        have hne : (Value.type "list" == Value.type "dict") = false := by decide
        have hL : (s.heap.push (set0 w)).IsList l vs := ⟨_, gl, rfl, n, rfl⟩
        have lS : l < s.heap.objs.size := Heap.lt_size hl
        unfold Builtin.«set.__init__» noKeywords Builtin.Frozenset.updateFrom
        generalize hPI : pyIter = PI
        wp_walk
        subst hPI
        refine wpAny_pyIter_list hL ?_
        have zI : (s.heap.push (set0 w)).objs.size = s.heap.objs.size + 1 := Heap.size_push _ _
        have kp : ∀ b o, (s.heap.push (set0 w)).get? b = some o → ((s.heap.push (set0 w)).push { cls := .type "list_iterator", data := .fields #[.ref l, .int 0 0] }).get? b = some o := fun b o e => Heap.get?_push_of_some _ e
        refine wpAny_bind (wpAny_runValue (set_loop (l := l) (items := vs) (by simp [hh]) (by rw [zI]; exact Nat.ne_of_lt (Nat.lt_succ_of_lt lS)) (by rw [zI]; exact Nat.ne_of_lt (Nat.lt_succ_self _)) (Nat.ne_of_gt lS) ns [] _ hi (by simpa using hb)
          ⟨_, Heap.get?_push_size _ rfl, rfl, rfl⟩ ⟨_, kp _ _ gl, rfl, n, rfl⟩ (.zero (kp _ _ gS)) fun h' tk hS k => ?_))
        refine wpAny_pure (wpAny_pure ⟨rfl, h', tk, rfl, hS, fun b o e => k b o (Nat.ne_of_lt (Heap.lt_size e)) ?_ (kp _ _ (Heap.get?_push_of_some _ e))⟩)
        rw [zI]; exact Nat.ne_of_lt (Nat.lt_succ_of_lt (Heap.lt_size e))
      · cases r₂ with
        | error e => exact hr₂
        | ok fl₂ =>
          cases fl₂ with
          | ret r =>
            obtain ⟨rfl, p⟩ := hr₂
            have := h _ p
            repeat (any_goals (first | assumption | wp_step))
          | _ => exact hr₂.elim
    | _ => exact hr.elim
end

open PySem PySem.W PySem.Calls PyProof.Rows
set_option maxRecDepth 100000
theorem slot_setit_next : Slot "set_iterator" "__next__" "set_iterator.__next__" :=
  .of (owner := "set_iterator") (n := "__next__") (by rw [typeLookup_type, builtinLookup_eq_fast]; kernel_rfl) (by decide +kernel) (by decide +kernel) (by decide +kernel)
    (by first | exact .inl (by decide +kernel) | exact .inr (by decide +kernel)) (by rw [isSubtype_type]; kernel_rfl)
theorem entry_setit_next : entryFor table "set_iterator.__next__" = some Builtin.«set_iterator.__next__» := entryFor_of_tree (by kernel_rfl)
theorem args_setit_next (a : Value) : argsOk "set_iterator.__next__" ⟨[a], []⟩ := by unfold argsOk; kernel_rfl
theorem entry_set_iter' : entryFor table "set.__iter__" = some Builtin.«frozenset.__iter__» := entryFor_alias (id' := "frozenset.__iter__") (by kernel_rfl) rfl (by decide +kernel) (by kernel_rfl)

abbrev sitO (first : Value) (i : Nat) (S : Addr) (n ep : Nat) : Obj := { cls := .type "set_iterator", dict := Option.none, data := .fields #[first, rawInt i, .ref S, rawInt n, rawInt ep], slots := #[] }
abbrev setO (es : Array (Int × Value)) (ep : Nat) (t : SetTable) : Obj := { cls := .type "set", dict := Option.none, data := .set es ep t, slots := #[] }
section
variable {prog : Program} {w : World} {A : Around} {E : Value → Shared → Prop} {s : Shared} {es : Array (Int × Value)} {ep : Nat} {t : SetTable} {S I : Addr}
theorem upd0 {h : Heap} {first first' : Value} {i i' n : Nat} (e : h.get? I = some (sitO first i S n ep)) : ((h.update I (Obj.mapFields (·.setIfInBounds 0 first'))).update I (Obj.mapFields (·.setIfInBounds 1 (rawInt i')))).get? I = some (sitO first' i' S n ep) :=
  Heap.get?_update_self _ (Heap.get?_update_self _ e rfl) rfl

theorem jp_same {α : Type} {n : Nat} {a b : Sem α} : (if ((n : Int) != (n : Int)) = true then a else b) = b := if_neg (by rw [bne_self_eq_false]; exact Bool.false_ne_true)
theorem next_open {first : Value} {i : Nat} {Q : Option Value → Shared → Prop} (hI : s.heap.get? I = some (sitO first i S es.size ep)) (hS : s.heap.get? S = some (setO es ep t)) (hf : t.fits es.size = true)
    (h : wpAny (model prog w) A.in1 (match first with
      | .int slot _ => do
        match ← setNext S slot.toNat i ep with
        | some (x, next) => do
          setField (.ref I) 0 (rawInt next)
          setField (.ref I) 1 (rawInt ((i : Int) + 1))
          ret x
        | none => do
          setField (.ref I) 2 .none
          raiseNew (← newExc (.type "StopIteration") [])
      | x => do
        match ← seqItems? first with
        | some places =>
          match places[i]? with
          | some (.int place _) => do
            let x ← setNextDrawn S place.toNat ep
            setField (.ref I) 1 (rawInt ((i : Int) + 1))
            ret x
          | some _ => unsupported "internal:set_iterator"
          | none => do
            setField (.ref I) 0 (rawInt 0)
            setField (.ref I) 2 .none
            raiseNew (← newExc (.type "StopIteration") [])
        | _ => unsupported "internal:set_iterator")
      (fun fin s' => ∃ v, fin = .done (.ret v) ∧ Q (some v) s')
      (fun e s' => wpAny (model prog w) A (do if (← isInstance e (.type "StopIteration")) then pure none else throw e) Q E s') s) : wpAny (model prog w) A (pyNext (.ref I)) Q E s := by
  have hT : s.TypeIs (.ref I) "set_iterator" := ⟨_, hI, rfl⟩
  unfold pyNext
  refine wpAny_bind (wpAny_attempt (wpAny_callSpecial?_slot (name := Str.ofString "__next__") hT slot_setit_next
    (wpAny_call_entry slot_setit_next hT entry_setit_next ?_ (args_setit_next _))))
  show wpAny _ _ (fieldsOf (.ref I) >>= _) _ _ s
  unfold fieldsOf
  refine wpAny_bind (wpAny_bind (wpAny_load hI (wpAny_pure ?_)))
  show wpAny _ _ (setEntries S >>= _) _ _ s
  refine wpAny_bind (wpAny_setEntries_of hS rfl hf ?_)
  dsimp only
  rw [jp_same]
  refine wpAny_mono (Q := fun fin s' => ∃ v, fin = .done (.ret v) ∧ Q (some v) s') ?_ (fun fin s' ⟨v, e, q⟩ => ⟨v, e, wpAny_pure q⟩) fun _ _ x => x
  simp only [Int.toNat_natCast]
  cases first <;> exact h
theorem wp_stop {Q : Option Value → Shared → Prop} {α : Type} {P : α → Shared → Prop} (hh : A.in1.handled = none) (h : ∀ h', (∀ b o, s.heap.get? b = some o → h'.get? b = some o) → Q none { s with heap := h' }) :
    wpAny (model prog w) A.in1 (newExc (.type "StopIteration") [] >>= fun e => (raiseNew e : Sem α)) P (fun e s' => wpAny (model prog w) A (do if (← isInstance e (.type "StopIteration")) then pure none else throw e) Q E s') s := by
  refine wpAny_bind ?_
  simp only [newExc, newTuple]
  refine wpAny_bind (wpAny_newObj_type ?_ (by size_fits))
  refine wpAny_bind (m := firstArgMember _ _) (wpAny_of_eq (a := Value.none) (by first | rfl | (simp only [firstArgMember]; rfl)) ?_)
  refine wpAny_newObj_type ?_ (by size_fits)
  simp only [raiseNew]
  refine wpAny_bind (wpAny_handled ?_)
  rw [hh]
  refine wpAny_bind (wpAny_pure (wpAny_throw ?_))
  refine wpAny_bind (wpAny_isInstance (T := "StopIteration") (b := true) ⟨_, Heap.get?_push_size _ rfl, rfl⟩ isSubtype_stop ?_)
  exact wpAny_pure (h _ fun b o e => Heap.get?_push_of_some _ (Heap.get?_push_of_some _ e))
theorem next_item {x : Value} {i slot slot' : Nat} {Q : Option Value → Shared → Prop} (hI : s.heap.get? I = some (sitO (rawInt slot) i S es.size ep)) (hS : s.heap.get? S = some (setO es ep t)) (hf : t.fits es.size = true)
    (hn : ∀ (A : Around) (E : Value → Shared → Prop) (Q : Option (Value × Nat) → Shared → Prop), Q (some (x, slot')) s → wpAny (model prog w) A (setNext S slot i ep) Q E s)
    (h : ∀ h', h'.get? I = some (sitO (rawInt slot') (i + 1) S es.size ep) → Heap.SameBut I s.heap h' → Q (some x) { s with heap := h' }) : wpAny (model prog w) A (pyNext (.ref I)) Q E s := by
  refine next_open hI hS hf ?_
  show wpAny _ _ (setNext S (slot : Int).toNat i ep >>= _) _ _ s
  rw [Int.toNat_natCast]
  refine wpAny_bind (hn _ _ _ ?_)
  refine wpAny_bind (wpAny_setField hI rfl (by simp) ?_)
  refine wpAny_bind (wpAny_setField (Heap.get?_update_self _ hI rfl) rfl (by simp) ?_)
  exact wpAny_pure ⟨x, rfl, h _ (upd0 hI) ((Heap.SameBut.update ..).trans (Heap.SameBut.update ..))⟩
theorem next_done {i slot : Nat} {Q : Option Value → Shared → Prop} (hh : A.in1.handled = none) (hI : s.heap.get? I = some (sitO (rawInt slot) i S es.size ep)) (hS : s.heap.get? S = some (setO es ep t)) (hf : t.fits es.size = true)
    (hn : ∀ (A : Around) (E : Value → Shared → Prop) (Q : Option (Value × Nat) → Shared → Prop), Q none s → wpAny (model prog w) A (setNext S slot i ep) Q E s)
    (h : ∀ h', (∀ b o, b ≠ I → s.heap.get? b = some o → h'.get? b = some o) → Q none { s with heap := h' }) : wpAny (model prog w) A (pyNext (.ref I)) Q E s := by
  refine next_open hI hS hf ?_
  show wpAny _ _ (setNext S (slot : Int).toNat i ep >>= _) _ _ s
  rw [Int.toNat_natCast]
  refine wpAny_bind (hn _ _ _ ?_)
  refine wpAny_bind (wpAny_setField hI rfl (by simp) ?_)
  exact wp_stop hh fun h' k => h h' fun b o hb e => k b o (((Heap.SameBut.update ..).2 b hb).trans e)
end

open PySem PySem.W PySem.Calls PyProof.Rows
set_option maxRecDepth 100000
section
variable {prog : Program} {w : World} {A : Around} {E : Value → Shared → Prop} {s : Shared} {es : Array (Int × Value)} {ep : Nat} {t : SetTable} {S I : Addr}
theorem erase_perm {α : Type} : ∀ (l : List α) (i : Nat) (h : i < l.length), (l[i] :: l.eraseIdx i).Perm l
  | x :: l, 0, _ => .refl _
  | x :: l, i + 1, h => (List.Perm.swap _ _ _).trans ((erase_perm l i (by simpa using h)).cons x)
theorem pick_perm {α : Type} (next : Nat → Nat) : ∀ (fuel k : Nat) (left : List α) (out : Array α), left.length = fuel → (pickOrder.go next fuel k left out).toList.Perm (out.toList ++ left)
  | 0, k, left, out, h => by
    obtain rfl := List.eq_nil_of_length_eq_zero h
    rw [List.append_nil]; exact .refl _
  | fuel + 1, k, left, out, h => by
    have hlt : next k % left.length < left.length := Nat.mod_lt _ (by lia)
    unfold pickOrder.go
    rw [List.getElem?_eq_getElem hlt]
    refine (pick_perm next fuel (k + 1) _ _ (by rw [List.length_eraseIdx, if_pos hlt]; lia)).trans ?_
    rw [Array.toList_push, List.append_assoc]
    exact List.Perm.append_left _ (erase_perm left _ hlt)
theorem order_perm {α : Type} (next : Nat → Nat) (xs : Array α) : (pickOrder next xs).toList.Perm xs.toList := pick_perm next _ 0 _ _ rfl
theorem wp_pick {src : Source} {n : Nat} {Q : Nat → Shared → Prop} (hn : n ≠ 0) (h : ∀ i, i < n → Q i { s with drawn := s.drawn.bump src }) : wpAny (model prog w) A (choose src n) Q E s :=
  fun Γ p _ => ⟨hn, h _ (Nat.mod_lt _ (Nat.pos_of_ne_zero hn))⟩
theorem wp_draw {α : Type} : ∀ (n : Nat) (xs : List α) {s : Shared} {Q : List α → Shared → Prop}, xs.length = n → (∀ l d, l.Perm xs → Q l { s with drawn := d }) → wpAny (model prog w) A (drawOrder n xs) Q E s
  | 0, xs, s, Q, h, q => by
    obtain rfl := List.eq_nil_of_length_eq_zero h
    exact wpAny_pure (q [] s.drawn (.refl _))
  | n + 1, [], s, Q, h, q => by cases h
  | n + 1, x :: xs, s, Q, h, q => by
    unfold drawOrder
    refine wpAny_bind (wp_pick (by simp) fun i hi => ?_)
    rw [List.getElem?_eq_getElem hi]
    refine wpAny_bind (wp_draw n _ (by rw [List.length_eraseIdx, if_pos hi]; simp at h ⊢; lia) fun l d hl => wpAny_pure (q _ d ?_))
    exact (hl.cons _).trans (erase_perm (x :: xs) _ hi)
/-- one step's items -/
inductive Its (es : Array (Int × Value)) (items : List Value) : Prop
  | mk (l : List (Int × Value)) (p : l.Perm es.toList) (e : items = l.map (·.2))
theorem wp_byText {b : Bool} {Q : Bool → Shared → Prop} (hb : w.params.followText "set-order" = b) (h : Q b s) : wpAny (model prog w) A setsByText Q E s := by
  unfold setsByText
  exact wpAny_bind (wpAny_askSetting (wpAny_pure (by subst hb; exact h)))
/-- by the world's order -/
theorem next_text {i : Nat} (hb : w.params.followText "set-order" = true) (hS : s.heap.get? S = some (setO es ep t)) (hf : t.fits es.size = true) {Q : Option (Value × Nat) → Shared → Prop}
    (h : Q (((pickOrder (w.params.setOrder S ep) es)[i]?).map fun e => (e.2, 0)) s) : wpAny (model prog w) A (setNext S 0 i ep) Q E s := by
  unfold setNext
  refine wpAny_bind (wpAny_setState_of hS rfl hf ?_)
  dsimp only
  refine wpAny_bind (wp_byText hb ?_)
  rw [if_pos rfl, if_neg (by rw [bne_self_eq_false]; exact Bool.false_ne_true)]
  refine wpAny_bind (m := setWalk S) ?_
  unfold setWalk
  refine wpAny_bind (wpAny_setState_of hS rfl hf ?_)
  dsimp only
  refine wpAny_bind (wp_byText hb ?_)
  rw [if_pos rfl]
  exact wpAny_bind (wpAny_askSetting (wpAny_pure (wpAny_pure h)))
/-- by the table's places -/
def slotAt (t : SetTable) : Nat → Nat
  | 0 => 0
  | i + 1 => t.place.getD i 0 + 1
theorem below_slot {n : Nat} (tok : TOk t n) {i : Nat} (hi : i ≤ n) : SetTable.below t.place (slotAt t i) = i := by
  obtain ⟨h1, h2, h3⟩ := below_spec tok.ris (slotAt t i)
  generalize SetTable.below t.place (slotAt t i) = p at h1 h2 h3
  have hz := tok.sz
  rcases Nat.lt_trichotomy p i with q | q | q
  · obtain ⟨j, rfl⟩ : ∃ j, i = j + 1 := ⟨i - 1, by lia⟩
    have := h3 p (Nat.le_refl _) (by lia)
    have h4 : t.place.getD p 0 ≤ t.place.getD j 0 := by
      by_cases e : p = j
      · rw [e]; exact Nat.le_refl _
      · exact Nat.le_of_lt (tok.ris p j (by lia) (by lia))
    have this : t.place.getD j 0 + 1 ≤ t.place.getD p 0 := this
    lia
  · exact q
  · cases i with
    | zero =>
      have := h2 0 q
      simp [slotAt] at this
    | succ j =>
      have := h2 (j + 1) q
      have h4 := tok.ris j (j + 1) (by lia) (by lia)
      have this : t.place.getD (j + 1) 0 < t.place.getD j 0 + 1 := this
      lia
theorem next_place {i : Nat} (hb : w.params.followText "set-order" = false) (hd : (!t.plain && decide (es.size > 1)) = false) (hS : s.heap.get? S = some (setO es ep t)) (hf : t.fits es.size = true) (tok : TOk t es.size) (led : t.led = true) (hi : i ≤ es.size)
    {Q : Option (Value × Nat) → Shared → Prop} (h : Q ((es[i]?).map fun e => (e.2, slotAt t (i + 1))) s) : wpAny (model prog w) A (setNext S (slotAt t i) i ep) Q E s := by
  unfold setNext
  refine wpAny_bind (wpAny_setState_of hS rfl hf ?_)
  dsimp only
  refine wpAny_bind (wp_byText hb ?_)
  rw [if_neg Bool.false_ne_true]
  show wpAny _ _ (if (!t.plain && decide (es.size > 1)) = true then _ else _) _ _ s
  rw [hd, if_neg Bool.false_ne_true]
  show wpAny _ _ ((if (!t.led && !es.isEmpty) = true then _ else _) >>= _) _ _ s
  rw [led, if_neg (by simp)]
  refine wpAny_bind (wpAny_pure ?_)
  rw [below_slot tok hi]
  rcases Nat.lt_or_ge i es.size with q | q
  · have hp : i < t.place.size := by rw [tok.sz]; exact q
    rw [Array.getElem?_eq_getElem q, Array.getElem?_eq_getElem hp]
    rw [Array.getElem?_eq_getElem q] at h
    have e : t.place.getD i 0 = t.place[i] := by rw [Array.getD_eq_getD_getElem?, Array.getElem?_eq_getElem hp]; rfl
    refine wpAny_pure ?_
    have h' : Q (some (es[i].2, t.place.getD i 0 + 1)) s := h
    rw [e] at h'
    exact h'
  · rw [Array.getElem?_eq_none q]
    rw [Array.getElem?_eq_none q] at h
    exact wpAny_pure h
end

open PySem PySem.W PySem.Calls PyProof.Rows
set_option maxRecDepth 100000
theorem slot_setit_iter : Slot "set_iterator" "__iter__" "set_iterator.__iter__" :=
  .of (owner := "set_iterator") (n := "__iter__") (by rw [typeLookup_type, builtinLookup_eq_fast]; kernel_rfl) (by decide +kernel) (by decide +kernel) (by decide +kernel)
    (by first | exact .inl (by decide +kernel) | exact .inr (by decide +kernel)) (by rw [isSubtype_type]; kernel_rfl)
theorem entry_setit_iter : entryFor table "set_iterator.__iter__" = some Builtin.«dict_keyiterator.__iter__» := entryFor_alias (id' := "dict_keyiterator.__iter__") (by kernel_rfl) rfl (by decide +kernel) (by kernel_rfl)
theorem args_setit_iter (a : Value) : argsOk "set_iterator.__iter__" ⟨[a], []⟩ := by unfold argsOk; kernel_rfl
section
variable {prog : Program} {w : World} {A : Around} {E : Value → Shared → Prop} {s : Shared} {es : Array (Int × Value)} {ep : Nat} {t : SetTable} {S I : Addr}
theorem self_setit {first : Value} {i n : Nat} {Q : Value → Shared → Prop} (h : s.heap.get? I = some (sitO first i S n ep)) (q : Q (.ref I) s) : wpAny (model prog w) A (pyIter (.ref I)) Q E s := by
  have hT : s.TypeIs (.ref I) "set_iterator" := ⟨_, h, rfl⟩
  refine wpAny_pyIter_slot hT slot_setit_iter (wpAny_call_entry slot_setit_iter hT entry_setit_iter ?_ (args_setit_iter _))
  show wpAny _ _ (ret (.ref I)) _ _ s
  exact wpAny_pure ⟨_, rfl, "set_iterator", _, hT, slot_setit_next.lookup, q⟩
abbrev SameG (a b : Array GenState) : Prop := b = a
/-- the walk by a slot -/
theorem walkI {items : List Value} {slot : Nat → Nat} (hh : A.in1.handled = none) (hSI : S ≠ I) (hf : t.fits es.size = true) (hz : items.length = es.size)
    (nx : ∀ (i : Nat), i ≤ es.size → ∀ (s : Shared), s.heap.get? S = some (setO es ep t) → ∀ (A : Around) (E : Value → Shared → Prop) (Q : Option (Value × Nat) → Shared → Prop), Q ((items[i]?).map fun x => (x, slot (i + 1))) s → wpAny (model prog w) A (setNext S (slot i) i ep) Q E s) :
    WalksS prog w A I [I, S] [I] SameG es.size (fun i v => items[i]? = some v) (fun i s => s.heap.get? I = some (sitO (rawInt (slot i)) i S es.size ep) ∧ s.heap.get? S = some (setO es ep t)) where
  sub := fun b hb => by rw [List.mem_singleton.mp hb]; exact .head _
  grefl := fun _ => rfl
  gtrans := fun _ _ _ x y => y.trans x
  frame := fun i s h' tk st _ k => ⟨k I (.head _) _ st.1, k S (.tail _ (.head _)) _ st.2⟩
  item := fun i s Q E hi st hQ => by
    obtain ⟨x, hx⟩ : ∃ x, items[i]? = some x := ⟨_, List.getElem?_eq_getElem (by rw [hz]; exact hi)⟩
    refine next_item (slot' := slot (i + 1)) (x := x) st.1 st.2 hf (fun A E Q q => nx i (Nat.le_of_lt hi) s st.2 A E Q (by rw [hx]; exact q)) fun h' e sb => ?_
    exact hQ x _ hx ⟨e, (sb.2 S hSI).trans st.2⟩ ⟨fun b o hb e => (sb.2 b fun z => hb (z ▸ .head _)).trans e, rfl, rfl, rfl, Nat.le_refl _⟩
  done := fun s Q E st hQ => next_done hh st.1 st.2 hf (fun A E Q q => nx es.size (Nat.le_refl _) s st.2 A E Q (by rw [List.getElem?_eq_none (by rw [hz]; exact Nat.le_refl _)]; exact q)) fun h' k =>
    hQ _ ⟨fun b o hb e => k b o (fun z => hb (z ▸ .head _)) e, rfl, rfl, rfl, Nat.le_refl _⟩
  self := fun i s Q E st q => self_setit st.1 q
abbrev tupO (vs : Array Value) : Obj := { cls := .type "tuple", dict := Option.none, data := .seq vs 0, slots := #[] }
theorem places_map {es : Array (Int × Value)} {places : List Nat} (h : ∀ j ∈ places, j < es.size) : places.filterMap (es[·]?) = places.map fun j => es.getD j (0, .none) := by
  induction places with
  | nil => rfl
  | cons p r ih =>
    have : es[p]? = some (es.getD p (0, .none)) := by rw [Array.getD_eq_getD_getElem?, Array.getElem?_eq_getElem (h p (.head _))]; rfl
    rw [List.filterMap_cons_some this, ih fun j hj => h j (.tail _ hj)]; rfl
/-- the walk by a drawn order -/
theorem walkT {T : Addr} {places : List Nat} (hh : A.in1.handled = none) (hSI : S ≠ I) (hTI : T ≠ I) (hf : t.fits es.size = true) (hp : places.Perm (List.range es.size)) :
    WalksS prog w A I [I, S, T] [I] SameG es.size (fun i v => ((places.filterMap (es[·]?)).map (·.2))[i]? = some v)
      (fun i s => s.heap.get? I = some (sitO (.ref T) i S es.size ep) ∧ s.heap.get? S = some (setO es ep t) ∧ s.heap.get? T = some (tupO (places.map fun (i : Nat) => rawInt i).toArray)) where
  sub := fun b hb => by rw [List.mem_singleton.mp hb]; exact .head _
  grefl := fun _ => rfl
  gtrans := fun _ _ _ x y => y.trans x
  frame := fun i s h' tk st _ k => ⟨k I (.head _) _ st.1, k S (.tail _ (.head _)) _ st.2.1, k T (.tail _ (.tail _ (.head _))) _ st.2.2⟩
  item := fun i s Q E hi st hQ => by
    have hz : places.length = es.size := by rw [hp.length_eq, List.length_range]
    have hi' : i < places.length := by rw [hz]; exact hi
    have hb : places[i] < es.size := List.mem_range.mp (hp.mem_iff.mp (List.getElem_mem hi'))
    have all := places_map fun j hj => List.mem_range.mp (hp.mem_iff.mp hj)
    have hx : ((places.filterMap (es[·]?)).map (·.2))[i]? = some es[places[i]].2 := by
      rw [all, List.getElem?_map, List.getElem?_map, List.getElem?_eq_getElem hi']
      show some (es.getD places[i] (0, .none)).2 = _
      rw [Array.getD_eq_getD_getElem?, Array.getElem?_eq_getElem hb]; rfl
    refine next_open st.1 st.2.1 hf ?_
    show wpAny _ _ (seqItems? (.ref T) >>= _) _ _ s
    refine wpAny_bind (wpAny_seqItems st.2.2 rfl ?_)
    dsimp only
    rw [List.getElem?_toArray, List.getElem?_map, List.getElem?_eq_getElem hi']
    show wpAny _ _ (setNextDrawn S ((places[i] : Nat) : Int).toNat ep >>= _) _ _ s
    rw [Int.toNat_natCast]
    unfold setNextDrawn
    refine wpAny_bind (wpAny_bind (wpAny_setState_of st.2.1 rfl hf ?_))
    dsimp only
    rw [if_neg (by rw [bne_self_eq_false]; exact Bool.false_ne_true), Array.getElem?_eq_getElem hb]
    refine wpAny_pure (wpAny_bind (wpAny_setField st.1 rfl (by simp) (wpAny_pure ⟨_, rfl, hQ _ _ hx ⟨Heap.get?_update_self _ st.1 rfl, ?_, ?_⟩ ⟨fun b o hb e => ?_, rfl, rfl, rfl, Nat.le_refl _⟩⟩)))
    · exact ((Heap.SameBut.update ..).2 S hSI).trans st.2.1
    · exact ((Heap.SameBut.update ..).2 T hTI).trans st.2.2
    · exact ((Heap.SameBut.update ..).2 b fun z => hb (z ▸ .head _)).trans e
  done := fun s Q E st hQ => by
    refine next_open st.1 st.2.1 hf ?_
    show wpAny _ _ (seqItems? (.ref T) >>= _) _ _ s
    refine wpAny_bind (wpAny_seqItems st.2.2 rfl ?_)
    dsimp only
    rw [List.getElem?_toArray, List.getElem?_map, List.getElem?_eq_none (by rw [hp.length_eq, List.length_range]; exact Nat.le_refl _)]
    show wpAny _ _ (setField (.ref I) 0 (rawInt 0) >>= _) _ _ s
    refine wpAny_bind (wpAny_setField st.1 rfl (by simp) ?_)
    refine wpAny_bind (wpAny_setField (Heap.get?_update_self _ st.1 rfl) rfl (by simp) ?_)
    exact wp_stop hh fun h' k => hQ _ ⟨fun b o hb e => k b o (((Heap.SameBut.update ..).2 b fun z => hb (z ▸ .head _)).trans (((Heap.SameBut.update ..).2 b fun z => hb (z ▸ .head _)).trans e)), rfl, rfl, rfl, Nat.le_refl _⟩
  self := fun i s Q E st q => self_setit st.1 q
end

open PySem PySem.W PySem.Calls PyProof.Rows
set_option maxRecDepth 100000
section
variable {prog : Program} {w : World} {A : Around} {E : Value → Shared → Prop} {s : Shared} {es : Array (Int × Value)} {ep : Nat} {t : SetTable} {S : Addr}
/-- an iterator over the set, made -/
inductive ItP (prog : Program) (w : World) (A : Around) (s : Shared) (S : Addr) (es : Array (Int × Value)) (it : Value) (s' : Shared) : Prop
  | mk (I : Addr) (fp : List Addr) (items : List Value) (St : Nat → Shared → Prop) (ei : it = .ref I) (W : WalksS prog w A I fp [I] SameG es.size (fun i v => items[i]? = some v) St) (st : St 0 s') (p : items.Perm (es.toList.map (·.2)))
      (lt : ∀ b ∈ fp, b < s'.heap.objs.size) (hI : I ∈ fp) (nw : ∀ b ∈ fp, b = S ∨ s.heap.get? b = none) (ty : ∀ i s, St i s → s.TypeIs (.ref I) "set_iterator") (k : ∀ b o, s.heap.get? b = some o → s'.heap.get? b = some o) (os : s'.os = s.os) (gens : s'.gens = s.gens)
theorem get_new {h : Heap} : h.get? h.objs.size = none := Heap.get?_none_of_le (Nat.le_refl _)
theorem map_at {es : Array (Int × Value)} (i : Nat) : (es[i]?).map (fun e => (e.2, slotAt t (i + 1))) = (((es.toList.map (·.2))[i]?).map fun x => (x, slotAt t (i + 1))) := by
  rw [List.getElem?_map, Array.getElem?_toList, Option.map_map]; rfl
theorem set_iter {Q : Value → Shared → Prop} {A' : Around} (hh : A'.in1.handled = none) (hS : s.heap.get? S = some (setO es ep t)) (hf : t.fits es.size = true) (tok : TOk t es.size) (led : t.led = !w.params.followText "set-order") (hz : es.size < scanBound)
    (h : ∀ it s', ItP prog w A' s S es it s' → Q it s') : wpAny (model prog w) A (pyIter (.ref S)) Q E s := by
  have hT : s.TypeIs (.ref S) "set" := ⟨_, hS, rfl⟩
  have hSl := Heap.lt_size hS
  refine wpAny_pyIter_slot hT F.slot_set_iter (wpAny_call_entry F.slot_set_iter hT entry_set_iter' ?_ (F.args_set_iter_1 _))
  show wpAny _ _ (Builtin.Frozenset.sizeOf S >>= _) _ _ s
  unfold Builtin.Frozenset.sizeOf
  refine wpAny_bind (wpAny_bind (wpAny_setEntries_of hS rfl hf (wpAny_pure ?_)))
  show wpAny _ _ (setDrawn S >>= _) _ _ s
  unfold setDrawn
  refine wpAny_bind (wpAny_bind (wpAny_setState_of hS rfl hf ?_))
  dsimp only
  have fin : ∀ {first : Value} {fp : List Addr} {items : List Value} {slot0 : Value} {s1 : Shared} {St : Nat → Shared → Prop} (q : WalksS prog w A' s1.heap.objs.size fp [s1.heap.objs.size] SameG es.size (fun i v => items[i]? = some v) St),
      s1.heap.get? S = some (setO es ep t) → St 0 { s1 with heap := s1.heap.push (sitO first 0 S es.size ep) } → items.Perm (es.toList.map (·.2)) → (∀ b ∈ fp, b < s1.heap.objs.size + 1) → (∀ b ∈ fp, b = S ∨ s.heap.get? b = none) → s1.heap.objs.size ∈ fp → (∀ i s, St i s → s.TypeIs (.ref s1.heap.objs.size) "set_iterator") →
      (∀ b o, s.heap.get? b = some o → s1.heap.get? b = some o) → s1.os = s.os → s1.gens = s.gens → wpAny (model prog w) A.in1 (setEpoch S >>= fun e => newFields "set_iterator" [first, rawInt 0, .ref S, rawInt es.size, rawInt e] >>= fun v => ret v)
        (fun fin s' => ∃ v, fin = .done (.ret v) ∧ ∃ T' r, s'.TypeIs v T' ∧ typeLookup (.type T') (Str.ofString "__next__") = pure (some r) ∧ Q v s') E s1 := by
    intro first fp items slot0 s1 St W h1 st p lt nw hI ty k os gens
    refine wpAny_bind (wpAny_setEpoch_of h1 rfl hf ?_)
    refine wpAny_bind (m := newFields _ _) (wpAny_newObj_type ?_)
    refine wpAny_pure ⟨_, rfl, "set_iterator", _, ⟨_, Heap.get?_push_size _ rfl, rfl⟩, slot_setit_next.lookup, h _ _ ⟨_, fp, items, St, rfl, W, st, p, fun b hb => ?_, hI, nw, ty, fun b o e => Heap.get?_push_of_some _ (k b o e), os, gens⟩⟩
    show b < (s1.heap.push _).objs.size
    rw [Heap.size_push]; exact lt b hb
  have hSI : S ≠ s.heap.objs.size := Nat.ne_of_lt hSl
  have gI : ∀ {f : Value}, (s.heap.push (sitO f 0 S es.size ep)).get? s.heap.objs.size = some (sitO f 0 S es.size ep) := Heap.get?_push_size _ rfl
  have lt2 : ∀ b ∈ [s.heap.objs.size, S], b < s.heap.objs.size + 1 := fun b hb => by
    rcases List.mem_cons.mp hb with rfl | hb
    · exact Nat.lt_succ_self _
    · rw [List.mem_singleton.mp hb]; exact Nat.lt_succ_of_lt hSl
  have nw2 : ∀ b ∈ [s.heap.objs.size, S], b = S ∨ s.heap.get? b = none := fun b hb => by
    rcases List.mem_cons.mp hb with rfl | hb
    · exact .inr get_new
    · exact .inl (List.mem_singleton.mp hb)
  refine wpAny_bind (m := setsByText) ?_
  cases hb : w.params.followText "set-order" with
  | true =>
    refine wp_byText hb (wpAny_pure ?_)
    rw [Bool.not_true, Bool.false_and, if_neg Bool.false_ne_true]
    refine wpAny_bind (wpAny_pure (fin (slot0 := .none) (items := (pickOrder (w.params.setOrder S ep) es).toList.map (·.2)) (walkI (slot := fun _ => 0) hh hSI hf (by rw [List.length_map, (order_perm _ es).length_eq, Array.length_toList]) fun i _ s1 h1 A E Q q => next_text hb h1 hf (by
      rw [List.getElem?_map, Array.getElem?_toList, Option.map_map] at q; exact q)) hS ⟨gI, Heap.get?_push_of_some _ hS⟩ ((order_perm _ es).map _) lt2 nw2 (.head _) (fun i s st => ⟨_, st.1, rfl⟩) (fun _ _ e => e) rfl rfl))
  | false =>
    refine wp_byText hb (wpAny_pure ?_)
    have led : t.led = true := by rw [led, hb]; rfl
    rw [Bool.not_false, Bool.true_and]
    show wpAny _ _ (if (!t.plain && decide (es.size > 1)) = true then _ else _) _ _ s
    cases hd : (!t.plain && decide (es.size > 1)) with
    | false =>
      rw [if_neg Bool.false_ne_true]
      refine wpAny_bind (wpAny_pure (fin (slot0 := .none) (items := es.toList.map (·.2)) (walkI (slot := slotAt t) hh hSI hf (by rw [List.length_map, Array.length_toList]) fun i hi s1 h1 A E Q q => next_place hb hd h1 hf tok led hi (by rw [map_at]; exact q)) hS ⟨gI, Heap.get?_push_of_some _ hS⟩ (.refl _) lt2 nw2 (.head _) (fun i s st => ⟨_, st.1, rfl⟩) (fun _ _ e => e) rfl rfl))
    | true =>
      rw [if_pos rfl]
      refine wpAny_bind (wp_draw es.size (List.range es.size) List.length_range fun places d hp => ?_)
      have hl : places.length = es.size := by rw [hp.length_eq, List.length_range]
      refine wpAny_bind (wpAny_newTuple ?_ (by rw [List.length_map, hl]; exact fits_of_scanBound hz))
      have zz : (s.heap.push (tupO (places.map fun (i : Nat) => rawInt i).toArray)).objs.size = s.heap.objs.size + 1 := Heap.size_push _ _
      have hS1 : (s.heap.push (tupO (places.map fun (i : Nat) => rawInt i).toArray)).get? S = some (setO es ep t) := Heap.get?_push_of_some _ hS
      have hT1 : (s.heap.push (tupO (places.map fun (i : Nat) => rawInt i).toArray)).get? s.heap.objs.size = some (tupO (places.map fun (i : Nat) => rawInt i).toArray) := Heap.get?_push_size _ rfl
      refine fin (slot0 := .none) (s1 := { s with heap := s.heap.push (tupO (places.map fun (i : Nat) => rawInt i).toArray), drawn := d }) (walkT (T := s.heap.objs.size) hh (by
        show S ≠ (s.heap.push _).objs.size
        rw [zz]; exact Nat.ne_of_lt (Nat.lt_succ_of_lt hSl)) (by
        show s.heap.objs.size ≠ (s.heap.push _).objs.size
        rw [zz]; exact Nat.ne_of_lt (Nat.lt_succ_self _)) hf hp) hS1 ⟨Heap.get?_push_size _ rfl, Heap.get?_push_of_some _ hS1, Heap.get?_push_of_some _ hT1⟩ ?_ (fun b hb => ?_) (fun b hb => ?_) (.head _) (fun i s st => ⟨_, st.1, rfl⟩) (fun b o e => Heap.get?_push_of_some _ e) rfl rfl
      · refine List.Perm.map _ ?_
        have e : es.toList = (List.range es.size).filterMap (es[·]?) := by
          rw [places_map fun j hj => List.mem_range.mp hj]
          refine List.ext_getElem (by simp) fun i h1 h2 => ?_
          have hi : i < es.size := by simpa using h1
          rw [List.getElem_map, List.getElem_range, Array.getD_eq_getD_getElem?, Array.getElem?_eq_getElem hi]; rfl
        rw [e]
        exact hp.filterMap _
      · show b < (s.heap.push _).objs.size + 1
        rw [zz]
        simp only [List.mem_cons, List.not_mem_nil, or_false] at hb
        rcases hb with rfl | rfl | rfl
        · show (s.heap.push _).objs.size < _
          rw [zz]; exact Nat.lt_succ_self _
        · exact Nat.lt_succ_of_lt (Nat.lt_succ_of_lt hSl)
        · exact Nat.lt_succ_of_lt (Nat.lt_succ_self _)
      · simp only [List.mem_cons, List.not_mem_nil, or_false] at hb
        rcases hb with rfl | rfl | rfl
        · exact .inr (Heap.get?_none_of_le (by show _ ≤ (s.heap.push _).objs.size; rw [zz]; exact Nat.le_succ _))
        · exact .inl rfl
        · exact .inr get_new
end

open PySem PySem.W PySem.Calls PyProof.Rows
set_option maxRecDepth 100000
section
variable {prog : Program} {w : World} {A : Around} {E : Value → Shared → Prop} {s : Shared} {es : Array (Int × Value)} {ep : Nat} {t : SetTable} {S : Addr}
inductive ColP (s : Shared) (es : Array (Int × Value)) (vs : List Value) (s' : Shared) : Prop
  | mk (p : vs.Perm (es.toList.map (·.2))) (k : ∀ b o, s.heap.get? b = some o → s'.heap.get? b = some o) (os : s'.os = s.os) (gens : s'.gens = s.gens)
set_option maxHeartbeats 1000000 in
theorem collect_set {Q : List Value → Shared → Prop} (hh : A.in1.in1.handled = none) (hS : s.heap.get? S = some (setO es ep t)) (hf : t.fits es.size = true) (tok : TOk t es.size) (led : t.led = !w.params.followText "set-order") (hz : es.size < scanBound)
    (h : ∀ vs s', ColP s es vs s' → Q vs s') : wpAny (model prog w) A (collect (.ref S)) Q E s := by
  have hSl := Heap.lt_size hS
  unfold collect
  refine wpAny_bind (wpAny_runValue (codeAny_builtin F.entry_proto_collect ?_))
  rw [Around.under_plainId F.plain_proto_collect _]
  show wpAny _ A.in1 (newList [] >>= fun l => again (.builtin "list.__iadd__" ⟨[l, .ref S], []⟩)) _ _ s
  refine wpAny_bind (wpAny_newObj_type ?_)
  refine wpAny_pure ⟨plainId_quiet F.plain_list_iadd _, codeAny_builtin F.entry_list_iadd ?_⟩
  rw [Around.under_plainId F.plain_list_iadd _]
  show wpAny _ A.in1 (Builtin.List.listExtendWith (.ref s.heap.objs.size) (.ref S) (.ref s.heap.objs.size)) _ _ { s with heap := s.heap.push { cls := .type "list", data := .seq ([] : List Value).toArray } }
  have g0 : (s.heap.push { cls := .type "list", data := .seq ([] : List Value).toArray }).get? s.heap.objs.size = some { cls := .type "list", data := .seq ([] : List Value).toArray } := Heap.get?_push_size _ rfl
  have gS : (s.heap.push { cls := .type "list", data := .seq ([] : List Value).toArray }).get? S = some (setO es ep t) := Heap.get?_push_of_some _ hS
  have zz : (s.heap.push { cls := .type "list", data := .seq ([] : List Value).toArray }).objs.size = s.heap.objs.size + 1 := Heap.size_push _ _
  generalize hH : s.heap.push { cls := .type "list", data := .seq ([] : List Value).toArray } = H at g0 gS zz ⊢
  have kH : ∀ b o, s.heap.get? b = some o → H.get? b = some o := fun b o e => by rw [← hH]; exact Heap.get?_push_of_some _ e
  unfold Builtin.List.listExtendWith
  refine wpAny_bind (wpAny_typeOf (T := "set") ⟨_, gS, rfl⟩ ?_)
  have h1 : Builtin.List.listSameRef (.ref s.heap.objs.size) (.ref S) = false := by simp [Builtin.List.listSameRef, Nat.ne_of_gt hSl]
  rw [if_neg (by rw [h1]; decide)]
  refine wpAny_bind (set_iter (A' := A.in1) hh gS hf tok led hz ?_)
  rintro it s1 ⟨I, fp, items, St, rfl, W, st, p, lt, hI, nw, ty, k, os, gens⟩
  have L0 : s1.heap.get? s.heap.objs.size = some { cls := .type "list", data := .seq ([] : List Value).toArray } := k _ _ g0
  refine wpAny_bind (wpAny_holding ?_)
  unfold Builtin.List.listLengthHint
  have hT1 : s1.TypeIs (.ref S) "set" := ⟨_, k _ _ gS, rfl⟩
  refine wpAny_bind (wpAny_specialOf hT1 F.slot_set_len.lookup ?_)
  generalize hid : ("set.__len__" : String) = id0
  dsimp only
  rw [show splitId id0 = some ("set", "__len__") from by subst hid; decide +kernel]
  subst hid
  refine wpAny_bind (wpAny_isInstance (b := true) hT1 sub_set_self ?_)
  rw [if_neg (by decide)]
  refine wpAny_bind (wpAny_typeOf hT1 ?_)
  refine wpAny_pure ?_
  rw [if_pos (by rfl)]
  refine wpAny_bind (wpAny_rule (wpAny_bind ?_))
  have f0 : s.heap.objs.size ∉ fp := fun z => (nw _ z).elim (fun q => absurd q (Nat.ne_of_gt hSl)) fun q => by
    have q : H.get? s.heap.objs.size = none := q
    rw [g0] at q; cases q
  have L0' : s1.heap.get? s.heap.objs.size = some (seqObj "list" #[] 0) := L0
  have u1 := get?_update_seq L0' (fun xs : Array Value => xs.push .none)
  have u2 := get?_update_seq u1 (fun xs : Array Value => xs.pop)
  show wpAny _ _ (Builtin.List.listUpdate (.ref s.heap.objs.size) (·.push .none) >>= fun _ => Builtin.List.listUpdate (.ref s.heap.objs.size) (·.pop)) _ _ s1
  refine wpAny_bind (listUpdate_at L0' rfl ?_)
  refine listUpdate_at u1 rfl ?_
  have sb := (Heap.SameBut.update s1.heap s.heap.objs.size (Obj.mapSeq fun xs : Array Value => xs.push .none)).trans (Heap.SameBut.update _ s.heap.objs.size (Obj.mapSeq fun xs : Array Value => xs.pop))
  generalize (s1.heap.update s.heap.objs.size (Obj.mapSeq fun xs : Array Value => xs.push .none)).update s.heap.objs.size (Obj.mapSeq fun xs : Array Value => xs.pop) = H2 at u2 sb ⊢
  have st2 := W.frame 0 s1 H2 s1.toks st (Nat.le_refl _) fun b hb o e => (sb.2 b fun z => f0 (z ▸ hb)).trans e
  refine wpAny_pure ⟨plainId_quiet F.plain_extend_loop _, codeAny_extend_loopS W (fits_of_scanBound hz) _ f0 _ es.size 0 _ _ _ rfl (Nat.zero_le _) st2 u2 (ItemsOf.nil _) fun s' acc' c' hm hS' hacc => ?_⟩
  show wpAny _ A (load s.heap.objs.size >>= _) _ _ s'
  refine wpAny_bind (wpAny_load hS' (wpAny_pure (h _ _ ⟨?_, fun b o e => ?_, hm.os.trans os, hm.gens.trans gens⟩)))
  · have hl : items.length = es.size := by rw [p.length_eq, List.length_map, Array.length_toList]
    have : acc'.toList = items := List.ext_getElem (by rw [Array.length_toList, hacc.1, hl]) fun i h1 h2 => by
      have this : items[i]? = some acc'.toList[i] := hacc.2 i acc'.toList[i] (by rw [← Array.getElem?_toList]; exact List.getElem?_eq_getElem h1)
      rw [List.getElem?_eq_getElem h2] at this
      exact (Option.some.inj this).symm
    rw [this]; exact p
  · have ne0 : b ≠ s.heap.objs.size := Nat.ne_of_lt (Heap.lt_size e)
    have e1 := (sb.2 b ne0).trans (k b o (kH b o e))
    refine hm.heap b o (fun z => ?_) e1
    rcases List.mem_cons.mp z with z | z
    · exact ne0 z
    · rw [List.mem_singleton.mp z] at e
      rcases nw I hI with q | q
      · obtain ⟨o1, e1', c1⟩ := ty 0 _ st
        obtain ⟨o2, e2', c2⟩ := hT1
        rw [q, e2'] at e1'; cases e1'; rw [c1] at c2; exact absurd (Value.type.inj c2) (by decide)
      · have q : H.get? I = none := q
        rw [kH _ _ e] at q; cases q
end

open PySem PySem.W PySem.Calls PyProof.Rows
set_option maxRecDepth 100000
section
variable {prog : Program} {w : World} {A : Around} {E : Value → Shared → Prop} {s : Shared}
/-! a list taken apart into names -/
theorem draw_list {it l : Addr} {items : Array Value} (hne : l ≠ it) : ∀ (rest : List Value) (i : Nat) (s : Shared) (Q : List Value → Shared → Prop), s.heap.IsListIter it l i → s.heap.IsList l items → items.toList.drop i = rest →
    (∀ h', h'.IsListIter it l (i + rest.length) → Heap.SameBut it s.heap h' → Q rest { s with heap := h' }) → wpAny (model prog w) A (draw (.ref it) rest.length) Q E s := by
  intro rest
  induction rest with
  | nil =>
    intro i s Q hit hl hd hQ
    exact wpAny_pure (hQ s.heap hit (.refl ..))
  | cons x rest ih =>
    intro i s Q hit hl hd hQ
    have hx : items[i]? = some x := by rw [← Array.getElem?_toList, ← List.head?_drop, hd]; rfl
    show wpAny _ _ (pyNext (.ref it) >>= _) Q E s
    refine wpAny_bind (wpAny_pyNext_list_item hit hl hx fun h₁ hit₁ s₁ => ?_)
    refine wpAny_bind (wpAny_holding (ih (i + 1) _ _ hit₁ ?_ (by rw [← List.drop_drop, hd]; rfl) fun h₂ hit₂ s₂ => wpAny_pure ?_))
    · obtain ⟨o, e, r⟩ := hl; exact ⟨o, (s₁.2 l hne).trans e, r⟩
    · exact hQ h₂ (by rw [List.length_cons, Nat.add_comm rest.length, ← Nat.add_assoc]; exact hit₂) (s₁.trans s₂)
theorem assign_list {env : Env} {elts : List Expr} {x1} {pos : Pos} {l : Addr} {items : Array Value} {Q : Unit → Shared → Prop} (hh : A.handled = none) (hl : s.heap.IsList l items)
    (hn : (assignEach elts env).length = items.size) (hstar : (assignEach elts env).findIdx? (·.1) = none)
    (h : ∀ h', Heap.ExtBut s.heap.objs.size s.heap h' → wpAny (model prog w) A (assignInOrder ((assignEach elts env).map (·.2)) items.toList) Q E { s with heap := h' }) :
    wpAny (model prog w) A (assign (.Tuple elts x1 pos) env (.ref l)) Q E s := by
  have hlt : l ≠ s.heap.objs.size := by obtain ⟨o, ho, _⟩ := hl; exact Nat.ne_of_lt (Heap.lt_size ho)
  rw [arm_assign_Tuple]
  refine wpAny_bind (wpAny_standAt ?_)
  unfold unpack
  rw [hn, hstar]
  refine wpAny_bind (wpAny_holding ?_)
  unfold unpackItems
  refine wpAny_bind ?_
  unfold notIterableAtAll
  refine wpAny_bind (wpAny_specialOf hl.typeIs slot_list_iter.lookup ?_)
  refine wpAny_pure ?_
  rw [if_neg Bool.false_ne_true]
  refine wpAny_bind (wpAny_holding (wpAny_pyIter_list hl ?_))
  have hl1 : (s.heap.push { cls := .type "list_iterator", data := .fields #[.ref l, .int 0 0] }).IsList l items := by obtain ⟨o, e, r⟩ := hl; exact ⟨o, Heap.get?_push_of_some _ e, r⟩
  have hz : items.size = items.toList.length := by simp
  rw [hz]
  refine wpAny_bind (wpAny_holding (draw_list hlt items.toList 0 _ _ ⟨_, Heap.get?_push_size _ rfl, rfl, rfl⟩ hl1 rfl fun h₁ hit₁ s₁ => ?_))
  rw [if_neg (Nat.lt_irrefl _)]
  have hl2 : h₁.IsList l items := by obtain ⟨o, e, r⟩ := hl1; exact ⟨o, (s₁.2 l hlt).trans e, r⟩
  refine wpAny_bind (wpAny_holding (wpAny_pyNext_list_end hh hit₁ hl2 (by simp) fun h₂ he₂ => ?_))
  rw [if_neg (by simp)]
  exact wpAny_pure (h h₂ fun b o hb e => he₂ b o hb ((s₁.2 b hb).trans (Heap.get?_push_of_some _ e)))

/-! enumerate over a tuple -/
theorem nextOf_tuple {it t : Addr} {i : Nat} {items : Array Value} {x : Value} {Q : Value → Shared → Prop} (hit : s.heap.IsTupleIter it t i) (ht : s.heap.IsTuple t items) (hx : items[i]? = some x)
    (hQ : ∀ h', h'.IsTupleIter it t (i + 1) → Heap.SameBut it s.heap h' → Q x { s with heap := h' }) : wpAny (model prog w) A (Builtin.SmallTypes.nextOf (.ref it)) Q E s := by
  obtain ⟨o, ho, hc, hd⟩ := id hit
  obtain ⟨ot, hot, _, nt, hdt⟩ := ht
  unfold Builtin.SmallTypes.nextOf
  refine wpAny_bind (wpAny_callSpecial?_slot (name := Str.ofString "__next__") hit.typeIs F.slot_tuple_iterator_next (wpAny_call_entry F.slot_tuple_iterator_next hit.typeIs F.entry_tuple_iterator_next ?_ (F.args_tuple_iterator_next_1 _)))
  show wpAny _ _ (field (.ref it) 0 >>= _) _ _ s
  refine wpAny_bind (wpAny_field ho hd (x := .ref t) rfl ?_)
  show wpAny _ _ (if (Value.ref t == Value.none) = true then _ else _) _ _ s
  rw [if_neg (show ¬ ((Value.ref t == Value.none) = true) from Bool.false_ne_true)]
  show wpAny _ _ (field (.ref it) 1 >>= _) _ _ s
  refine wpAny_bind (wpAny_field ho hd (x := .int i 0) rfl ?_)
  show wpAny _ _ (seqItems? (.ref t) >>= _) _ _ s
  refine wpAny_bind (wpAny_seqItems hot hdt ?_)
  simp only [Int.toNat_natCast, hx]
  refine wpAny_bind (wpAny_setField ho hd (by simp) (wpAny_pure ⟨x, rfl, wpAny_pure (hQ _ ⟨_, Heap.get?_update_self _ ho (Obj.isFreed_of_fields (Obj.data_mapFields hd _)), (Obj.cls_mapFields ..).trans hc, ?_⟩ (Heap.SameBut.update ..))⟩))
  rw [Obj.data_mapFields hd]; simp [rawInt]
theorem nextOf_tuple_end {it t : Addr} {i : Nat} {items : Array Value} {Q : Value → Shared → Prop} (hh : A.handled = none) (hit : s.heap.IsTupleIter it t i) (ht : s.heap.IsTuple t items) (hx : items[i]? = none)
    (hE : ∀ h' e, Heap.ExtBut it s.heap h' → (∃ o, h'.get? e = some o ∧ o.cls = .type "StopIteration") → E (.ref e) { s with heap := h' }) : wpAny (model prog w) A (Builtin.SmallTypes.nextOf (.ref it)) Q E s := by
  obtain ⟨o, ho, hc, hd⟩ := id hit
  obtain ⟨ot, hot, _, nt, hdt⟩ := ht
  unfold Builtin.SmallTypes.nextOf
  refine wpAny_bind (wpAny_callSpecial?_slot (name := Str.ofString "__next__") hit.typeIs F.slot_tuple_iterator_next (wpAny_call_entry F.slot_tuple_iterator_next hit.typeIs F.entry_tuple_iterator_next ?_ (F.args_tuple_iterator_next_1 _)))
  show wpAny _ _ (field (.ref it) 0 >>= _) _ _ s
  refine wpAny_bind (wpAny_field ho hd (x := .ref t) rfl ?_)
  show wpAny _ _ (if (Value.ref t == Value.none) = true then _ else _) _ _ s
  rw [if_neg (show ¬ ((Value.ref t == Value.none) = true) from Bool.false_ne_true)]
  show wpAny _ _ (field (.ref it) 1 >>= _) _ _ s
  refine wpAny_bind (wpAny_field ho hd (x := .int i 0) rfl ?_)
  show wpAny _ _ (seqItems? (.ref t) >>= _) _ _ s
  refine wpAny_bind (wpAny_seqItems hot hdt ?_)
  simp only [Int.toNat_natCast, hx]
  refine wpAny_bind (wpAny_rule (wpAny_bind (wpAny_setField ho hd (by simp) ?_)))
  show wpAny _ _ (newExc (.type "StopIteration") [] >>= _) _ _ _
  refine wpAny_bind ?_
  simp only [newExc, newTuple]
  refine wpAny_bind (wpAny_newObj_type ?_ (by size_fits))
  refine wpAny_bind (m := firstArgMember _ _) (wpAny_of_eq (a := Value.none) (by first | rfl | (simp only [firstArgMember]; rfl)) ?_)
  refine wpAny_newObj_type ?_ (by size_fits)
  simp only [raiseNew]
  refine wpAny_bind (wpAny_handled ?_)
  first | rw [show A.in1.handled = none from hh] | rw [hh]
  exact wpAny_bind (wpAny_pure (wpAny_throw (hE _ _ (((Heap.SameBut.update ..).extBut.push _).push _) ⟨_, Heap.get?_push_size _ rfl, rfl⟩)))
/-- what an item of an enumerate leaves -/
inductive EnP (s : Shared) (e it t : Addr) (i : Nat) (x : Value) (s' : Shared) : Prop
  | mk (h' : Heap) (es : s' = { s with heap := h', toks := s.toks + 1 }) (ho : IsEnumOut h' e it ((i : Int) + 1) x s.heap.objs.size) (hit : h'.IsTupleIter it t (i + 1)) (ht : h'.get? s.heap.objs.size = some { cls := .type "tuple", data := .seq #[.int i s.toks, x] })
      (k : ∀ b o, b ≠ e → b ≠ it → s.heap.get? b = some o → h'.get? b = some o)
theorem enumT_item {e it t : Addr} {i : Nat} {items : Array Value} {x old : Value} {Q : Option Value → Shared → Prop} (he : IsEnum s.heap e it i old) (hit : s.heap.IsTupleIter it t i) (ht : s.heap.IsTuple t items) (hx : items[i]? = some x) (hne : e ≠ it)
    (hQ : ∀ s', EnP s e it t i x s' → Q (some (.ref s.heap.objs.size)) s') : wpAny (model prog w) A (pyNext (.ref e)) Q E s := by
  have hT : s.TypeIs (.ref e) "enumerate" := ⟨_, he, rfl⟩
  unfold pyNext
  refine wpAny_bind (wpAny_attempt (wpAny_callSpecial?_slot (name := Str.ofString "__next__") hT F.slot_enumerate_next (wpAny_call_entry F.slot_enumerate_next hT F.entry_enumerate_next ?_ (F.args_enumerate_next_1 _))))
  obtain ⟨hp, g, d, tk, os⟩ := s
  have he0 : hp.get? e = _ := he
  show wpAny _ _ (field (.ref e) 2 >>= _) _ _ _
  refine wpAny_bind (wpAny_field he rfl (x := .ref it) rfl ?_)
  refine wpAny_bind (nextOf_tuple hit ht hx fun h₁ hit₁ k₁ => ?_)
  have k₁ : Heap.SameBut it hp h₁ := k₁
  have he₁ : IsEnum h₁ e it i old := (k₁.2 e hne).trans he
  show wpAny _ _ (field (.ref e) 3 >>= _) _ _ ⟨h₁, g, d, tk, os⟩
  refine wpAny_bind (wpAny_field he₁ rfl (x := rawInt i) rfl ?_)
  show wpAny _ _ (field (.ref e) 4 >>= _) _ _ ⟨h₁, g, d, tk, os⟩
  refine wpAny_bind (wpAny_field he₁ rfl (x := .none) rfl ?_)
  show wpAny _ _ (mkInt i >>= _) _ _ ⟨h₁, g, d, tk, os⟩
  refine wpAny_bind (wpAny_mkInt ?_)
  show wpAny _ _ (setField (.ref e) 3 (rawInt ((i : Int) + 1)) >>= _) _ _ ⟨h₁, g, d, tk + 1, os⟩
  refine wpAny_bind (wpAny_setField_rec he₁ (by simp) fun h₂ he₂ k₂ => ?_)
  have k₂ : Heap.SameBut e h₁ h₂ := k₂
  have he₂ : IsEnum h₂ e it ((i : Int) + 1) old := he₂
  show wpAny _ _ (setField (.ref e) 4 .none >>= _) _ _ ⟨h₂, g, d, tk + 1, os⟩
  refine wpAny_bind (wpAny_setField_rec he₂ (by simp) fun h₃ he₃ k₃ => ?_)
  have k₃ : Heap.SameBut e h₂ h₃ := k₃
  have he₃ : IsEnum h₃ e it ((i : Int) + 1) old := he₃
  show wpAny _ _ (newTuple [.int i tk, x] >>= _) _ _ ⟨h₃, g, d, tk + 1, os⟩
  refine wpAny_bind (wpAny_newTuple ?_)
  have zz : h₃.objs.size = hp.objs.size := by rw [k₃.1, k₂.1, k₁.1]
  have hel : e < hp.objs.size := Heap.lt_size he0
  have he₄ : IsEnum (h₃.push { cls := .type "tuple", data := .seq #[.int i tk, x] }) e it ((i : Int) + 1) old := Heap.get?_push_of_some _ he₃
  have ht₄ : (h₃.push { cls := .type "tuple", data := .seq #[.int i tk, x] }).get? hp.objs.size = some { cls := .type "tuple", data := .seq #[.int i tk, x] } := by rw [← zz]; exact Heap.get?_push_size _ rfl
  have k₄ : ∀ b o, b ≠ e → h₁.get? b = some o → (h₃.push { cls := .type "tuple", data := .seq #[.int i tk, x] }).get? b = some o := fun b o hb eb => Heap.get?_push_of_some _ ((k₃.2 b hb).trans ((k₂.2 b hb).trans eb))
  generalize h₃.push { cls := .type "tuple", data := .seq #[.int i tk, x] } = h₄ at he₄ ht₄ k₄ ⊢
  show wpAny _ _ (Builtin.SmallTypes.ownedTupleIsFree (.ref e) >>= _) _ _ ⟨h₄, g, d, tk + 1, os⟩
  rw [zz]
  refine wpAny_bind ?_
  unfold Builtin.SmallTypes.ownedTupleIsFree
  refine wpAny_bind (wpAny_field he₄ rfl (x := .none) rfl (wpAny_pure ?_))
  simp only [if_true]
  refine wpAny_bind (wpAny_rule ?_)
  refine wpAny_bind (wpAny_field he₄ rfl (x := old) rfl ?_)
  refine wpAny_bind (wpAny_setField_rec he₄ (by simp) fun h₅ he₅ k₅ => ?_)
  have k₅ : Heap.SameBut e h₄ h₅ := k₅
  have he₅ : IsEnum h₅ e it ((i : Int) + 1) x := he₅
  show wpAny _ _ (Builtin.SmallTypes.ownedTupleHandOut (.ref e) (.ref hp.objs.size) >>= _) _ _ ⟨h₅, g, d, tk + 1, os⟩
  refine wpAny_bind ?_
  unfold Builtin.SmallTypes.ownedTupleHandOut
  refine wpAny_bind (wpAny_setField_rec he₅ (by simp) fun h₆ he₆ k₆ => ?_)
  have k₆ : Heap.SameBut e h₅ h₆ := k₆
  have he₆ : IsEnumOut h₆ e it ((i : Int) + 1) x hp.objs.size := he₆
  refine wpAny_setField_rec he₆ (by simp) fun h₇ he₇ k₇ => ?_
  have k₇ : Heap.SameBut e h₆ h₇ := k₇
  have kk : ∀ b o, b ≠ e → h₄.get? b = some o → h₇.get? b = some o := fun b o hb eb => (k₇.2 b hb).trans ((k₆.2 b hb).trans ((k₅.2 b hb).trans eb))
  refine wpAny_bind (wpAny_letGo (wpAny_pure ⟨_, rfl, wpAny_pure (hQ _ ⟨h₇, rfl, he₇, ?_, kk _ _ (Nat.ne_of_gt hel) ht₄, fun b o hb hi eb => kk b o hb (k₄ b o hb ((k₁.2 b hi).trans eb))⟩)⟩))
  obtain ⟨o, eo, r⟩ := hit₁
  exact ⟨o, kk it o (Ne.symm hne) (k₄ it o (Ne.symm hne) eo), r⟩
theorem enumT_end {e it t : Addr} {i : Nat} {items : Array Value} {old : Value} {Q : Option Value → Shared → Prop} (hh : A.handled = none) (he : IsEnum s.heap e it i old) (hit : s.heap.IsTupleIter it t i) (ht : s.heap.IsTuple t items) (hx : items[i]? = none)
    (hQ : ∀ h', Heap.ExtBut it s.heap h' → Q none { s with heap := h' }) : wpAny (model prog w) A (pyNext (.ref e)) Q E s := by
  have hT : s.TypeIs (.ref e) "enumerate" := ⟨_, he, rfl⟩
  unfold pyNext
  refine wpAny_bind (wpAny_attempt (wpAny_callSpecial?_slot (name := Str.ofString "__next__") hT F.slot_enumerate_next (wpAny_call_entry F.slot_enumerate_next hT F.entry_enumerate_next ?_ (F.args_enumerate_next_1 _))))
  show wpAny _ _ (field (.ref e) 2 >>= _) _ _ _
  refine wpAny_bind (wpAny_field he rfl (x := .ref it) rfl ?_)
  refine wpAny_bind (nextOf_tuple_end hh hit ht hx fun h' x he' hx' => ?_)
  obtain ⟨o, ho, hc⟩ := hx'
  exact wpAny_bind (wpAny_isInstance (T := "StopIteration") (b := true) ⟨o, ho, hc⟩ isSubtype_stop (wpAny_pure (hQ _ he')))
set_option tactic.hygienic true in
theorem newEnumT (l : Addr) (items : Array Value) (n : Nat) :
    Meets (Builtin.«enumerate.__new__» ⟨[.type "enumerate", .ref l], []⟩) (fun _ R s => s.heap.get? l = some { cls := .type "tuple", dict := Option.none, data := .seq items n, slots := #[] } ∧
      R (.ok (.ret (.ref (s.heap.push { cls := .type "tuple_iterator", data := .fields #[.ref l, .int 0 0] }).objs.size)))
        { s with heap := (s.heap.push { cls := .type "tuple_iterator", data := .fields #[.ref l, .int 0 0] }).push { cls := .type "enumerate", data := .fields #[.none, .bool false, .ref s.heap.objs.size, rawInt 0, .none, .none] } }) :=
  .of_wp fun prog w A R s h => by
    obtain ⟨hp, g, d, tk, os⟩ := s; obtain ⟨hl, h⟩ := h
    have hsub := sub_enumerate
    have hL : Heap.IsTuple (Shared.heap ⟨hp, g, d, tk, os⟩) l items := ⟨_, hl, rfl, n, rfl⟩
    wp_walk using AutoSeq1.wpAny_loadPart' hl
    refine wpAny_stack_any fun st => wpAny_pure ?_
    split
    · next c _ _ _ _ _ =>
      cases (c == Value.type "enumerate")
      · wp_walk using AutoSeq1.wpAny_loadPart' hl, wpAny_pyIter_tuple hL
        exact ⟨_, rfl, h⟩
      · wp_walk using AutoSeq1.wpAny_loadPart' hl, wpAny_pyIter_tuple hL
        exact ⟨_, rfl, h⟩
    · wp_walk using AutoSeq1.wpAny_loadPart' hl, wpAny_pyIter_tuple hL
      exact ⟨_, rfl, h⟩
theorem enumT_new {l : Addr} {items : Array Value} {n : Nat} {Q : Value → Shared → Prop} (hl : s.heap.get? l = some { cls := .type "tuple", dict := Option.none, data := .seq items n, slots := #[] })
    (h : ∀ h', IsEnum h' (s.heap.objs.size + 1) s.heap.objs.size 0 .none → h'.IsTupleIter s.heap.objs.size l 0 → (∀ b o, s.heap.get? b = some o → h'.get? b = some o) → Q (.ref (s.heap.objs.size + 1)) { s with heap := h' }) :
    wpAny (model prog w) A (call (.type "enumerate") [.ref l]) Q E s := by
  refine callType_new F.called_enumerate (by decide) (F.typeCall_enumerate_1 _) (F.newCall_enumerate_1 _) (fun obj => F.args_object_init_2 obj _) F.entry_enumerate_new (newEnumT l items n) ⟨hl, ?_⟩
  have zz : (s.heap.push { cls := .type "tuple_iterator", data := .fields #[.ref l, .int 0 0] }).objs.size = s.heap.objs.size + 1 := Heap.size_push ..
  show _ ∧ _
  rw [zz]
  have he : IsEnum ((s.heap.push { cls := .type "tuple_iterator", data := .fields #[.ref l, .int 0 0] }).push { cls := .type "enumerate", data := .fields #[.none, .bool false, .ref s.heap.objs.size, rawInt 0, .none, .none] }) (s.heap.objs.size + 1) s.heap.objs.size 0 .none := by
    have := Heap.get?_push_size (s.heap.push { cls := .type "tuple_iterator", data := .fields #[.ref l, .int 0 0] }) (o := { cls := .type "enumerate", data := .fields #[.none, .bool false, .ref s.heap.objs.size, rawInt 0, .none, .none] }) rfl
    rw [zz] at this; exact this
  exact ⟨⟨_, he, rfl⟩, h _ he ⟨_, Heap.get?_push_of_some _ (Heap.get?_push_size _ rfl), rfl, rfl⟩ fun b o x => Heap.get?_push_of_some _ (Heap.get?_push_of_some _ x)⟩
end

open PySem PySem.W PyProof.Rows
set_option maxRecDepth 20000

/-- data as the proofs see it -/
inductive D where
  | none
  | bool (b : Bool)
  | int (i : Int)
  | str (x : Str)
  | tup (ds : List D)
  | lst (ds : List D)
  | rng (a b s : Int)
  | slc (lo hi st : Option Int)
  | clo (qual : Str) (params : Arguments) (body : Expr) (scope : Scope) (cdv : Value) (caps : List (Str × D))
  | val (v : Value)

abbrev FM := Addr → Option Obj

inductive FCode (F : FM) (cv : Value) (q : Str) : Prop
  | mk (c : Addr) (o : Obj) (vs : Array Value) (t : Tok) (e : cv = .ref c) (f : F c = some o) (d : o.data = .fields vs) (k : vs[1]? = some (.str q t))
theorem FCode.mono {F F' : FM} (h : ∀ a o, F a = some o → F' a = some o) {cv q} (x : FCode F cv q) : FCode F' cv q :=
  x.casesOn fun c o vs t a b d r => ⟨c, o, vs, t, a, h _ _ b, d, r⟩
theorem FCode.codeRec {F : FM} {h : Heap} (k : ∀ a o, F a = some o → h.get? a = some o) {cv q} (x : FCode F cv q) : h.CodeRec cv q :=
  x.casesOn fun c o vs t a b d r => ⟨c, o, vs, t, a, k _ _ b, d, r⟩

mutual
inductive Sees (F : FM) : Value → D → Prop
  | none : Sees F .none .none
  | bool (b) : Sees F (.bool b) (.bool b)
  | int (i t) : Sees F (.int i t) (.int i)
  | str (x t) : Sees F (.str x t) (.str x)
  | tup {a vs n ds} : F a = some { cls := .type "tuple", dict := Option.none, data := .seq vs n, slots := #[] } → SeesAll F vs.toList ds → Sees F (.ref a) (.tup ds)
  | lst {a vs n ds} : F a = some { cls := .type "list", dict := Option.none, data := .seq vs n, slots := #[] } → SeesAll F vs.toList ds → Sees F (.ref a) (.lst ds)
  | slc {a l u t lo hi st} : F a = some { cls := .type "slice", dict := Option.none, data := .fields #[l, u, t], slots := #[] } → IsPart l lo → IsPart u hi → IsPart t st → Sees F (.ref a) (.slc lo hi st)
  | rng {a i j k t u v} : F a = some { cls := .type "range", dict := Option.none, data := .fields #[.int i t, .int j u, .int k v], slots := #[] } → Sees F (.ref a) (.rng i j k)
  | clo {a o name qual params body scope cl pm cdv ct caps} : F a = some o → o.data = .func (kla_fn name qual params body scope cl pm cdv ct) → FCode F cdv qual → SeesCaps F cl caps → (cl.map (·.2)).Nodup →
      Sees F (.ref a) (.clo qual params body scope cdv caps)
  | val (v) : Sees F v (.val v)
inductive SeesCaps (F : FM) : List (Str × Addr) → List (Str × D) → Prop
  | nil : SeesCaps F [] []
  | cons {x c o v d cl caps} : F c = some o → o.data = .cell (some v) → Sees F v d → SeesCaps F cl caps → SeesCaps F ((x, c) :: cl) ((x, d) :: caps)
inductive SeesAll (F : FM) : List Value → List D → Prop
  | nil : SeesAll F [] []
  | cons {v vs d ds} : Sees F v d → SeesAll F vs ds → SeesAll F (v :: vs) (d :: ds)
end

section
variable {F F' : FM} (h : ∀ a o, F a = some o → F' a = some o)
include h
theorem Sees.mono {v d} (x : Sees F v d) : Sees F' v d :=
  Sees.rec (motive_1 := fun v d _ => Sees F' v d) (motive_2 := fun cl caps _ => SeesCaps F' cl caps) (motive_3 := fun vs ds _ => SeesAll F' vs ds) .none .bool .int .str (fun e _ r => .tup (h _ _ e) r) (fun e _ r => .lst (h _ _ e) r)
    (fun e a b c => .slc (h _ _ e) a b c) (fun e => .rng (h _ _ e)) (fun e d c _ k r => .clo (h _ _ e) d (c.mono h) r k) .val .nil (fun e d _ _ x r => .cons (h _ _ e) d x r) .nil (fun _ _ x r => .cons x r) x
end
theorem SeesAll.ind {F : FM} {P : List Value → List D → Prop} (h0 : P [] []) (h1 : ∀ {v vs d ds}, Sees F v d → SeesAll F vs ds → P vs ds → P (v :: vs) (d :: ds)) {vs ds} (x : SeesAll F vs ds) : P vs ds :=
  SeesAll.rec (motive_1 := fun _ _ _ => True) (motive_2 := fun _ _ _ => True) (motive_3 := fun vs ds _ => P vs ds) trivial (fun _ => trivial) (fun _ _ => trivial) (fun _ _ => trivial) (fun _ _ _ => trivial) (fun _ _ _ => trivial)
    (fun _ _ _ _ => trivial) (fun _ => trivial) (fun _ _ _ _ _ _ => trivial) (fun _ => trivial) trivial (fun _ _ _ _ _ _ => trivial) h0 (fun x r _ i => h1 x r i) x
theorem SeesCaps.ind {F : FM} {P : List (Str × Addr) → List (Str × D) → Prop} (h0 : P [] []) (h1 : ∀ {x c o v d cl caps}, F c = some o → o.data = .cell (some v) → Sees F v d → SeesCaps F cl caps → P cl caps → P ((x, c) :: cl) ((x, d) :: caps)) {cl caps} (x : SeesCaps F cl caps) : P cl caps :=
  SeesCaps.rec (motive_1 := fun _ _ _ => True) (motive_2 := fun cl caps _ => P cl caps) (motive_3 := fun _ _ _ => True) trivial (fun _ => trivial) (fun _ _ => trivial) (fun _ _ => trivial) (fun _ _ _ => trivial) (fun _ _ _ => trivial)
    (fun _ _ _ _ => trivial) (fun _ => trivial) (fun _ _ _ _ _ _ => trivial) (fun _ => trivial) h0 (fun e d x r _ i => h1 e d x r i) trivial (fun _ _ _ _ => trivial) x
theorem SeesCaps.mono {F F' : FM} (h : ∀ a o, F a = some o → F' a = some o) {cl caps} (x : SeesCaps F cl caps) : SeesCaps F' cl caps := x.ind .nil fun e d x _ i => .cons (h _ _ e) d (x.mono h) i
theorem SeesAll.mono {F F' : FM} (h : ∀ a o, F a = some o → F' a = some o) {vs ds} (x : SeesAll F vs ds) : SeesAll F' vs ds := x.ind .nil fun x _ i => .cons (x.mono h) i

theorem SeesAll.length {F : FM} {vs ds} (x : SeesAll F vs ds) : vs.length = ds.length := x.ind (P := fun vs ds => vs.length = ds.length) rfl fun _ _ i => congrArg (· + 1) i
theorem SeesAll.append {F : FM} {vs ds ws es} (x : SeesAll F vs ds) (k : SeesAll F ws es) : SeesAll F (vs ++ ws) (ds ++ es) := x.ind (P := fun vs ds => SeesAll F (vs ++ ws) (ds ++ es)) k fun x _ i => .cons x i
theorem SeesAll.get {F : FM} {vs ds} (x : SeesAll F vs ds) {k : Nat} {d} : ds[k]? = some d → ∃ v, vs[k]? = some v ∧ Sees F v d := by
  refine x.ind (P := fun vs ds => ∀ k : Nat, ds[k]? = some d → ∃ v, vs[k]? = some v ∧ Sees F v d) (fun _ e => nomatch e) (fun x _ i k e => ?_) k
  cases k with
  | zero => cases e; exact ⟨_, rfl, x⟩
  | succ k => exact i k e
theorem SeesAll.take {F : FM} {vs ds} (x : SeesAll F vs ds) : ∀ n, SeesAll F (vs.take n) (ds.take n) := by
  refine x.ind (P := fun vs ds => ∀ n, SeesAll F (vs.take n) (ds.take n)) (fun n => by cases n <;> exact .nil) fun x _ i n => ?_
  cases n with
  | zero => exact .nil
  | succ n => exact .cons x (i n)
theorem SeesAll.drop {F : FM} {vs ds} (x : SeesAll F vs ds) : ∀ n, SeesAll F (vs.drop n) (ds.drop n) := by
  refine x.ind (P := fun vs ds => ∀ n, SeesAll F (vs.drop n) (ds.drop n)) (fun n => by cases n <;> exact .nil) fun x r i n => ?_
  cases n with
  | zero => exact .cons x r
  | succ n => exact i n
theorem SeesAll.reverse {F : FM} {vs ds} (x : SeesAll F vs ds) : SeesAll F vs.reverse ds.reverse := by
  refine x.ind (P := fun vs ds => SeesAll F vs.reverse ds.reverse) .nil fun x _ i => ?_
  rw [List.reverse_cons, List.reverse_cons]
  exact i.append (.cons x .nil)

inductive SeqI (F : FM) (T : String) (ds : List D) : Value → Prop
  | mk {a vs n} (e : F a = some { cls := .type T, dict := Option.none, data := .seq vs n, slots := #[] }) (r : SeesAll F vs.toList ds) : SeqI F T ds (.ref a)
inductive CloI (F : FM) (qual : Str) (params : Arguments) (body : Expr) (scope : Scope) (cdv : Value) (caps : List (Str × D)) : Value → Prop
  | mk {a o name cl pm ct} : F a = some o → o.data = .func (kla_fn name qual params body scope cl pm cdv ct) → FCode F cdv qual → SeesCaps F cl caps → (cl.map (·.2)).Nodup → CloI F qual params body scope cdv caps (.ref a)
inductive RngI (F : FM) (i j k : Int) : Value → Prop
  | mk {a t u v} : F a = some { cls := .type "range", dict := Option.none, data := .fields #[.int i t, .int j u, .int k v], slots := #[] } → RngI F i j k (.ref a)
inductive SlcI (F : FM) (lo hi st : Option Int) : Value → Prop
  | mk {a l u t} : F a = some { cls := .type "slice", dict := Option.none, data := .fields #[l, u, t], slots := #[] } → IsPart l lo → IsPart u hi → IsPart t st → SlcI F lo hi st (.ref a)
def SeesI (F : FM) (v : Value) : D → Prop
  | .none => v = .none
  | .bool b => v = .bool b
  | .int i => ∃ t, v = .int i t
  | .str x => ∃ t, v = .str x t
  | .val w => v = w
  | .tup ds => SeqI F "tuple" ds v
  | .lst ds => SeqI F "list" ds v
  | .rng i j k => RngI F i j k v
  | .slc a b c => SlcI F a b c v
  | .clo q ps b sc cd cp => CloI F q ps b sc cd cp v
theorem Sees.inv {F : FM} {v d} (h : Sees F v d) : SeesI F v d :=
  Sees.rec (motive_1 := fun v d _ => SeesI F v d) (motive_2 := fun _ _ _ => True) (motive_3 := fun _ _ _ => True) rfl (fun _ => rfl) (fun _ t => ⟨t, rfl⟩) (fun _ t => ⟨t, rfl⟩) (fun e r _ => ⟨e, r⟩) (fun e r _ => ⟨e, r⟩) (fun e a b c => ⟨e, a, b, c⟩)
    (fun e => ⟨e⟩) (fun a b c d e _ => ⟨a, b, c, d, e⟩) (fun _ => rfl) trivial (fun _ _ _ _ _ _ => trivial) trivial (fun _ _ _ _ => trivial) h
theorem Sees.noneI {F : FM} {v} (h : Sees F v .none) : v = .none := h.inv
theorem Sees.boolI {F : FM} {v b} (h : Sees F v (.bool b)) : v = .bool b := h.inv
theorem Sees.intI {F : FM} {v i} (h : Sees F v (.int i)) : ∃ t, v = .int i t := h.inv
theorem Sees.valI {F : FM} {v w} (h : Sees F v (.val w)) : v = w := h.inv
theorem Sees.cloI {F : FM} {v q ps b sc cd cp} (h : Sees F v (.clo q ps b sc cd cp)) : CloI F q ps b sc cd cp v := h.inv
theorem Sees.rngI {F : FM} {v i j k} (h : Sees F v (.rng i j k)) : RngI F i j k v := h.inv
theorem Sees.slcI {F : FM} {v a b c} (h : Sees F v (.slc a b c)) : SlcI F a b c v := h.inv
theorem Sees.tupI {F : FM} {v ds} (h : Sees F v (.tup ds)) : SeqI F "tuple" ds v := h.inv
theorem Sees.lstI {F : FM} {v ds} (h : Sees F v (.lst ds)) : SeqI F "list" ds v := h.inv
def SeesAllI (F : FM) (vs : List Value) : List D → Prop
  | [] => vs = []
  | d :: ds => ∃ v vs', vs = v :: vs' ∧ Sees F v d ∧ SeesAll F vs' ds
theorem SeesAll.invI {F : FM} {vs ds} (h : SeesAll F vs ds) : SeesAllI F vs ds := h.ind rfl fun x r _ => ⟨_, _, rfl, x, r⟩
theorem SeesAll.nilI {F : FM} {vs} (h : SeesAll F vs []) : vs = [] := h.invI
theorem SeesAll.consI {F : FM} {vs d ds} (h : SeesAll F vs (d :: ds)) : ∃ v vs', vs = v :: vs' ∧ Sees F v d ∧ SeesAll F vs' ds := h.invI

/-- mutable objects -/
inductive MO where
  | ml (ds : List D)
  | tb (c : Addr) (ps : List Value)
  | st (led : Bool) (l : List Int)
abbrev Mu := List (Addr × MO)
abbrev Mu.dom (μ : Mu) : List Addr := μ.map (·.1)

/-- c is code whose table is P -/
def CodeF (F : FM) (c P : Addr) : Prop := ∃ o, F c = some o ∧ ∀ h : Heap, h.get? c = some o → CodeHd h c P
inductive StOk (led : Bool) (l : List Int) (o : Obj) : Prop
  | mk (es : Array (Int × Value)) (ep : Nat) (t : SetTable) (e : o = { cls := .type "set", dict := Option.none, data := .set es ep t, slots := #[] }) (hi : IntsAre (es.toList.map (·.2)) l) (tok : TOk t es.size) (hf : t.fits es.size = true) (hl : t.led = led) (hb : es.size < scanBound)
def MOk (F : FM) (a : Addr) : MO → Obj → Prop
  | .st led l, o => StOk led l o
  | .ml ds, o => ∃ vs n, o = { cls := .type "list", dict := Option.none, data := .seq vs n, slots := #[] } ∧ SeesAll F vs.toList ds
  | .tb c ps, o => o = tabObj ps.toArray ∧ TriplesOk ps ∧ CodeF F c a
inductive MIs (F : FM) (h : Heap) (a : Addr) (m : MO) : Prop
  | mk (o : Obj) (e : h.get? a = some o) (k : MOk F a m o)
theorem MOk.mono {F F' : FM} (h : ∀ a o, F a = some o → F' a = some o) {a m o} (x : MOk F a m o) : MOk F' a m o := by
  cases m with
  | ml ds => obtain ⟨vs, n, e, s⟩ := x; exact ⟨vs, n, e, s.mono h⟩
  | tb c ps => obtain ⟨e, t, oc, ec, k⟩ := x; exact ⟨e, t, oc, h _ _ ec, k⟩
  | st led l => exact x
theorem MOk.notCell {F : FM} {a m o v} (x : MOk F a m o) : o.data ≠ .cell v := by
  cases m with
  | ml ds => obtain ⟨vs, n, e, s⟩ := x; subst e; exact fun z => nomatch z
  | tb c ps => obtain ⟨e, t, k⟩ := x; subst e; exact fun z => nomatch z
  | st led l => obtain ⟨_, _, _, rfl, _⟩ := x; exact fun z => nomatch z
theorem MOk.notDict {F : FM} {a m o} (x : MOk F a m o) : ∀ es ep, o.data ≠ .dict es ep := by
  cases m with
  | ml ds => obtain ⟨vs, n, e, s⟩ := x; subst e; exact fun _ _ z => nomatch z
  | tb c ps => obtain ⟨e, t, k⟩ := x; subst e; exact fun _ _ z => nomatch z
  | st led l => obtain ⟨_, _, _, rfl, _⟩ := x; exact fun _ _ z => nomatch z
theorem MIs.move {F F' : FM} {h h' : Heap} {a m} (x : MIs F h a m) (hF : ∀ a o, F a = some o → F' a = some o) (e : ∀ o, h.get? a = some o → h'.get? a = some o) : MIs F' h' a m :=
  let ⟨o, q, k⟩ := x; ⟨o, e o q, k.mono hF⟩
theorem MIs.live {F : FM} {h : Heap} {a m} (x : MIs F h a m) : ∃ o, h.get? a = some o := let ⟨o, q, _⟩ := x; ⟨o, q⟩

def TabGood (F : FM) (q : Str) (ps : Array Value) : Prop :=
  TriplesOk ps.toList ∧ ∀ pos cv, codeAmong pos ps.toList = some cv → FCode F cv q

theorem lookup_memB {α β : Type} [BEq α] [LawfulBEq α] {x : α} {b : β} {l : List (α × β)} (h : l.lookup x = some b) : (x, b) ∈ l := by
  induction l with
  | nil => cases h
  | cons p l ih =>
    obtain ⟨y, c⟩ := p
    rw [List.lookup_cons] at h
    cases hy : x == y with
    | true => rw [hy] at h; cases h; rw [eq_of_beq hy]; exact .head _
    | false => rw [hy] at h; exact .tail _ (ih h)

set_option genInjectivity false in
/-- what holds of the whole law: the text's own objects; the tables of the functions that make lambdas (code, table, the lambdas' qualname) -/
structure G where
  prog : Program
  w : World
  base : Heap
  K : Frag
  p : Program
  loose : List Str
  mg : Str → Option Value
  mb : Str → Option Value
  tabs : List (Addr × Addr × Str)
  X : K.In base
  T : TopRead p loose mg mb base
  hd : ∀ q ∈ tabs, CodeHd base q.1 q.2.1
  bm : ∃ bm ob, mg "__builtins__" = some (.ref bm) ∧ bm ≠ builtinsNs ∧ base.get? bm = some ob ∧ ob.cls = .type "module" ∧ ob.dict = some builtinsNs ∧ ob.data = .plain
  fcs : List Addr
  stk : List Env

/-- one frame deeper -/
abbrev G.push (g : G) (env : Env) : G := { g with stk := env :: g.stk }
/-- a frame's own object stands -/
inductive FrL (e : Env) (μ : Mu) (F : FM) (h : Heap) : Prop
  | mk (k : e.scope.kind ≠ .module) (L : Addr) (m : Str → Option Value) (f : e.frame = some L) (n : h.Ns L m) (o : F L = none) (d : L ∉ μ.dom)

abbrev G.tabDom (g : G) : List Addr := g.tabs.map (·.2.1)

structure GSt (g : G) (μ : Mu) (F : FM) (h : Heap) : Prop where
  base : ∀ a o, g.base.get? a = some o → F a = some o
  fz : ∀ a o, F a = some o → h.get? a = some o
  tb : ∀ q ∈ g.tabs, F q.2.1 = none ∧ ∃ ps, h.get? q.2.1 = some (tabObj ps) ∧ TabGood F q.2.2 ps
  mu : ∀ p ∈ μ, F p.1 = none ∧ MIs F h p.1 p.2
  nd : μ.dom.Nodup
  fzc : ∀ c ∈ g.fcs, ∃ o, F c = some o
  dj : ∀ a ∈ μ.dom, a ∉ g.tabDom
  stk : ∀ e ∈ g.stk, FrL e μ F h

theorem FrL.ext {e μ F h h'} (x : FrL e μ F h) (k : ∀ b o, h.get? b = some o → h'.get? b = some o) : FrL e μ F h' :=
  (by obtain ⟨hk, L, m, hf, ⟨o, es, ep, ho, r⟩, hF, hm⟩ := x; exact ⟨hk, L, m, hf, ⟨o, es, ep, k _ _ ho, r⟩, hF, hm⟩)
theorem GSt.push_frame {g : G} {env μ F h} (G : GSt g μ F h) (k : FrL env μ F h) : GSt (g.push env) μ F h :=
  ⟨G.base, G.fz, G.tb, G.mu, G.nd, G.fzc, G.dj, fun e he => by cases he with | head => exact k | tail _ he => exact G.stk e he⟩
theorem GSt.pop_frame {g : G} {env μ F h} (G : GSt (g.push env) μ F h) : GSt g μ F h :=
  ⟨G.base, G.fz, G.tb, G.mu, G.nd, G.fzc, G.dj, fun e he => G.stk e (.tail _ he)⟩

def VarAt (env : Env) (h : Heap) (x : Str) (v : Value) : Prop :=
  (env.kindOf x = some .local ∧ ∃ m, h.Ns env.locals m ∧ m x = some v) ∨
  ((env.kindOf x = some .cell ∨ env.kindOf x = some .free) ∧ ∃ c, env.cells.lookup x = some c ∧ h.IsCell c (some v))

structure FOk (env : Env) (own : List Addr) : Prop where
  kind : env.scope.kind = .function
  glob : env.globals = mainGlobals
  blt : env.builtins = builtinsNs
  lown : env.locals ∈ own
  cnd : (env.cells.map (·.2)).Nodup

structure FSt (env : Env) (own : List Addr) (ρ : Str → Option D) (μ : Mu) (F : FM) (h : Heap) : Prop where
  ok : FOk env own
  ns : ∃ m, h.Ns env.locals m
  vars : ∀ x d, ρ x = some d → ∃ v, VarAt env h x v ∧ Sees F v d
  cells : ∀ p ∈ env.cells, ∃ v, h.IsCell p.2 v
  ownF : ∀ a ∈ own, F a = none
  live : ∀ a ∈ own, ∃ o, h.get? a = some o
  muo : ∀ a ∈ own, a ∉ μ.dom

/-- an object of names may get other slots: a frame's object, while an exception passes -/
def IsNs (o : Obj) : Prop := ∃ es ep, o.data = .dict es ep
def NsO (o : Obj) (m : Str → Option Value) : Prop := ∃ es ep, o.data = .dict es ep ∧ StrKeys es ∧ ∀ name, nsFind es name = m name
def Up (o o' : Obj) : Prop := o' = o ∨ (IsNs o ∧ IsNs o' ∧ ∀ m, NsO o m → NsO o' m)
theorem nns {o : Obj} {vs : Array Value} (h : o.data = .fields vs) : ¬ IsNs o := fun ⟨_, _, z⟩ => by rw [h] at z; cases z
theorem nnsq {o : Obj} {vs : Array Value} {n : Nat} (h : o.data = .seq vs n) : ¬ IsNs o := fun ⟨_, _, z⟩ => by rw [h] at z; cases z
theorem Up.refl (o : Obj) : Up o o := .inl rfl
theorem Up.slots {o : Obj} (h : IsNs o) (sl) : Up o { o with slots := sl } := .inr ⟨h, h, fun m x => x⟩
theorem Up.trans {a b c : Obj} (x : Up a b) (y : Up b c) : Up a c := by
  rcases x with rfl | ⟨h, h', k⟩
  · exact y
  · rcases y with rfl | ⟨_, h'', k'⟩
    · exact .inr ⟨h, h', k⟩
    · exact .inr ⟨h, h'', fun m z => k' m (k m z)⟩
theorem Up.nso {a b : Obj} (x : Up a b) {m} (h : NsO a m) : NsO b m := by
  rcases x with rfl | ⟨_, _, k⟩
  · exact h
  · exact k m h
theorem Up.eq {a b : Obj} (x : Up a b) (h : ¬ IsNs a) : b = a := x.elim id fun y => absurd y.1 h

structure Tr (g : G) (mt : List Addr) (μ μ' : Mu) (F F' : FM) (s s' : Shared) : Prop where
  ext : ∀ b o, s.heap.get? b = some o → b ∉ mt → b ∉ μ.dom → b ∉ g.tabDom → ∃ o', s'.heap.get? b = some o' ∧ Up o o'
  live : ∀ b o, s.heap.get? b = some o → ∃ o', s'.heap.get? b = some o'
  le : ∀ a o, F a = some o → F' a = some o
  fr : ∀ a, F' a = none ∨ F a ≠ none ∨ a ∈ μ.dom ∨ s.heap.get? a = none
  mu : ∀ a ∈ μ'.dom, a ∈ μ.dom ∨ s.heap.get? a = none
  os : s'.os = s.os
  gens : s'.gens = s.gens

theorem Tr.pop_frame {g : G} {env mt μ μ' F F' s s'} (t : Tr (g.push env) mt μ μ' F F' s s') : Tr g mt μ μ' F F' s s' := ⟨t.ext, t.live, t.le, t.fr, t.mu, t.os, t.gens⟩
theorem Tr.push_frame {g : G} {env mt μ μ' F F' s s'} (t : Tr g mt μ μ' F F' s s') : Tr (g.push env) mt μ μ' F F' s s' := ⟨t.ext, t.live, t.le, t.fr, t.mu, t.os, t.gens⟩
theorem Tr.refl {g : G} {mt μ F s} : Tr g mt μ μ F F s s where
  ext := fun _ o e _ _ _ => ⟨o, e, .refl o⟩
  live := fun _ o e => ⟨o, e⟩
  le := fun _ _ e => e
  fr := fun a => by cases h : F a with | none => exact .inl rfl | some o => exact .inr (.inl (by simp))
  mu := fun _ h => .inl h
  os := rfl
  gens := rfl

theorem Tr.trans {g : G} {mt μ μ₁ μ₂ F F₁ F₂ s s₁ s₂} (x : Tr g mt μ μ₁ F F₁ s s₁) (y : Tr g mt μ₁ μ₂ F₁ F₂ s₁ s₂) : Tr g mt μ μ₂ F F₂ s s₂ where
  ext := fun b o e h1 h2 h3 => let ⟨o₁, e₁, u₁⟩ := x.ext b o e h1 h2 h3; let ⟨o₂, e₂, u₂⟩ := y.ext b o₁ e₁ h1 (fun q => (x.mu b q).elim h2 (fun z => by rw [z] at e; cases e)) h3; ⟨o₂, e₂, u₁.trans u₂⟩
  live := fun b o e => (by obtain ⟨o', e'⟩ := x.live b o e; exact y.live b o' e')
  le := fun a o e => y.le a o (x.le a o e)
  fr := fun a => by
    cases he : s.heap.get? a with
    | none => exact .inr (.inr (.inr rfl))
    | some o =>
      obtain ⟨o', e'⟩ := x.live a o he
      rcases y.fr a with h | h | h | h
      · exact .inl h
      · rcases x.fr a with k | k | k | k
        · exact absurd k h
        · exact .inr (.inl k)
        · exact .inr (.inr (.inl k))
        · rw [he] at k; cases k
      · rcases x.mu a h with k | k
        · exact .inr (.inr (.inl k))
        · rw [he] at k; cases k
      · rw [e'] at h; cases h
  mu := fun a h => (y.mu a h).elim (fun k => x.mu a k) fun k => by
    cases he : s.heap.get? a with
    | none => exact .inr rfl
    | some o => obtain ⟨o', e'⟩ := x.live a o he; rw [e'] at k; cases k
  os := y.os.trans x.os
  gens := y.gens.trans x.gens

theorem Tr.mtLe {g : G} {mt mt' μ μ' F F' s s'} (x : Tr g mt μ μ' F F' s s') (h : ∀ a ∈ mt, a ∈ mt' ∨ s.heap.get? a = none) : Tr g mt' μ μ' F F' s s' :=
  { x with ext := fun b o e h1 h2 h3 => x.ext b o e (fun q => (h b q).elim h1 fun z => by rw [z] at e; cases e) h2 h3 }
theorem Tr.toOwn {g : G} {mt μ μ' F F' s s'} (x : Tr g [] μ μ' F F' s s') : Tr g mt μ μ' F F' s s' := x.mtLe (fun _ h => nomatch h)

/-- a step that only makes new objects and leaves everything else alone -/
theorem Tr.of_ext {g : G} {mt μ F s s'} (e : ∀ b o, s.heap.get? b = some o → s'.heap.get? b = some o) (os : s'.os = s.os) (gens : s'.gens = s.gens) : Tr g mt μ μ F F s s' where
  ext := fun b o q _ _ _ => ⟨o, e b o q, .refl o⟩
  live := fun b o q => ⟨o, e b o q⟩
  le := fun _ _ q => q
  fr := (Tr.refl (g := g) (mt := mt) (μ := μ) (s := s)).fr
  mu := fun _ h => .inl h
  os := os
  gens := gens

theorem tab_not_cell {h : Heap} {a : Addr} {ps v} (x : h.get? a = some (tabObj ps)) : ¬ h.IsCell a v := fun ⟨o, e, d⟩ => by rw [x] at e; cases e; cases d
theorem tab_not_ns {h : Heap} {a : Addr} {ps m} (x : h.get? a = some (tabObj ps)) : ¬ h.Ns a m := fun ⟨o, _, _, e, d, _⟩ => by rw [x] at e; cases e; cases d

theorem GSt.cellFree {g μ F h} (G : GSt g μ F h) {c v} (hc : h.IsCell c v) : c ∉ μ.dom ∧ c ∉ g.tabDom := by
  refine ⟨fun q => ?_, fun q => ?_⟩
  · obtain ⟨p, hp, rfl⟩ := List.mem_map.mp q
    obtain ⟨_, hm⟩ := G.mu p hp
    obtain ⟨o, e, d⟩ := hc
    obtain ⟨o', e', k⟩ := hm
    rw [e] at e'; cases e'
    exact k.notCell d
  · obtain ⟨p, hp, rfl⟩ := List.mem_map.mp q
    obtain ⟨_, ps, e, _⟩ := G.tb p hp
    exact tab_not_cell e hc

theorem GSt.nsTab {g μ F h} (G : GSt g μ F h) {a m} (hn : h.Ns a m) : a ∉ g.tabDom := fun q => by
  obtain ⟨p, hp, rfl⟩ := List.mem_map.mp q
  obtain ⟨_, ps, e, _⟩ := G.tb p hp
  exact tab_not_ns e hn

theorem Tr.at {g : G} {mt μ μ' F F' s s'} (t : Tr g mt μ μ' F F' s s') {b o} (hn : ¬ IsNs o) (e : s.heap.get? b = some o) (h1 : b ∉ mt) (h2 : b ∉ μ.dom) (h3 : b ∉ g.tabDom) : s'.heap.get? b = some o := by
  obtain ⟨o', e', u⟩ := t.ext b o e h1 h2 h3
  rw [e', u.eq hn]
theorem Tr.ns {g : G} {mt μ μ' F F' s s'} (t : Tr g mt μ μ' F F' s s') {b m} (hn : s.heap.Ns b m) (h1 : b ∉ mt) (h2 : b ∉ μ.dom) (h3 : b ∉ g.tabDom) : s'.heap.Ns b m := by
  obtain ⟨o, es, ep, e, d, r⟩ := hn
  obtain ⟨o', e', u⟩ := t.ext b o e h1 h2 h3
  obtain ⟨es', ep', d', r'⟩ := u.nso ⟨es, ep, d, r⟩
  exact ⟨o', es', ep', e', d', r'⟩
theorem VarAt.keepsN {env : Env} {h h' : Heap} {x v} (k : VarAt env h x v) (hl : ∀ m, h.Ns env.locals m → h'.Ns env.locals m)
    (hc : ∀ p ∈ env.cells, ∀ v, h.IsCell p.2 v → h'.IsCell p.2 v) : VarAt env h' x v := by
  rcases k with ⟨k, m, n, hm⟩ | ⟨k, c, hcx, n⟩
  · exact .inl ⟨k, m, hl m n, hm⟩
  · exact .inr ⟨k, c, hcx, hc _ (lookup_memB hcx) _ n⟩
theorem VarAt.keeps {env : Env} {h h' : Heap} {x v} (k : VarAt env h x v) (hl : ∀ o, h.get? env.locals = some o → h'.get? env.locals = some o)
    (hc : ∀ p ∈ env.cells, ∀ o, h.get? p.2 = some o → h'.get? p.2 = some o) : VarAt env h' x v :=
  k.keepsN (fun m ⟨o, es, ep, e, r⟩ => ⟨o, es, ep, hl o e, r⟩) fun p hp v ⟨o, e, d⟩ => ⟨o, hc p hp o e, d⟩

/-- the frame stands over whatever leaves its own objects alone -/
theorem FSt.tr {g env own ρ μ μ' F F' s s'} (Fs : FSt env own ρ μ F s.heap) (Gs : GSt g μ F s.heap) (t : Tr g [] μ μ' F F' s s') (Gs' : GSt g μ' F' s'.heap) : FSt env own ρ μ' F' s'.heap := by
  have hl : ∀ m, s.heap.Ns env.locals m → s'.heap.Ns env.locals m := fun m hm => t.ns hm (fun q => nomatch q) (Fs.muo _ Fs.ok.lown) (Gs.nsTab hm)
  have hc : ∀ p ∈ env.cells, ∀ v, s.heap.IsCell p.2 v → s'.heap.IsCell p.2 v := fun p hp v hv => by
    obtain ⟨o, e, d⟩ := id hv
    exact ⟨o, t.at (fun ⟨es, ep, z⟩ => by rw [d] at z; cases z) e (fun q => nomatch q) (Gs.cellFree hv).1 (Gs.cellFree hv).2, d⟩
  refine ⟨Fs.ok, ?_, fun x d e => ?_, fun p hp => ?_, fun a ha => ?_, fun a ha => ?_, fun a ha q => ?_⟩
  · obtain ⟨m, hm⟩ := Fs.ns
    exact ⟨m, hl m hm⟩
  · obtain ⟨v, hv, hs⟩ := Fs.vars x d e
    exact ⟨v, hv.keepsN hl hc, hs.mono t.le⟩
  · obtain ⟨v, hv⟩ := Fs.cells p hp
    exact ⟨v, hc p hp v hv⟩
  · rcases t.fr a with k | k | k | k
    · exact k
    · exact absurd (Fs.ownF a ha) k
    · exact absurd k (Fs.muo a ha)
    · obtain ⟨o, e⟩ := Fs.live a ha; rw [k] at e; cases e
  · obtain ⟨o, e⟩ := Fs.live a ha; exact t.live a o e
  · rcases t.mu a q with k | k
    · exact Fs.muo a ha k
    · obtain ⟨o, e⟩ := Fs.live a ha; rw [k] at e; cases e

/-- room: depth and C units -/
def Ok (g : G) (n : Nat) (A : Around) : Prop := A.depth + n ≤ 990 ∧ A.units + 8 * n ≤ 9800 ∧ A.handled = none ∧ A.frames = some g.stk
theorem Ok.in1 {g n A} (h : Ok g (n + 1) A) : Ok g n A.in1 := ⟨by have := h.1; simp; lia, by have := h.2.1; simp; lia, h.2.2.1, h.2.2.2⟩
theorem Ok.deeper {g n A env} (h : Ok g (n + 1) A) : Ok (g.push env) n (A.deeper env) :=
  ⟨by have := h.1; show A.depth + 1 + n ≤ 990; lia, by have := h.2.1; simp; lia, h.2.2.1, by show A.frames.map (env :: ·) = _; rw [h.2.2.2]; rfl⟩
theorem Ok.le {g n m A} (h : Ok g n A) (k : m ≤ n) : Ok g m A := ⟨by have := h.1; lia, by have := h.2.1; lia, h.2.2⟩
theorem Ok.room {g n A} (h : Ok g n A) : A.depth < recursionLimit := by have := h.1; unfold recursionLimit; lia
theorem Ok.hand {g n A} (h : Ok g n A) : A.handled = none := h.2.2.1
theorem Ok.frames {g n A} (h : Ok g n A) : A.frames = some g.stk := h.2.2.2
theorem Ok.units {g n A} (h : Ok g n A) : A.units < cLine := by have := h.2.1; unfold cLine; lia

inductive EvPost (g : G) (μ : Mu) (s : Shared) (F : FM) (Q : D → Mu → Prop) (v : Value) (s' : Shared) : Prop
  | mk (d : D) (μ' : Mu) (F' : FM) (t : Tr g [] μ μ' F F' s s') (G' : GSt g μ' F' s'.heap) (sv : Sees F' v d) (q : Q d μ')
inductive EtPost (g : G) (μ : Mu) (s : Shared) (F : FM) (Q : Bool → Mu → Prop) (b : Bool) (s' : Shared) : Prop
  | mk (μ' : Mu) (F' : FM) (t : Tr g [] μ μ' F F' s s') (G' : GSt g μ' F' s'.heap) (q : Q b μ')

section
variable (g : G) (env : Env) (own : List Addr) (n : Nat) (ρ : Str → Option D) (μ : Mu)

def Ev (e : Expr) (Q : D → Mu → Prop) : Prop :=
  ∀ A F s, Ok g n A → GSt g μ F s.heap → FSt env own ρ μ F s.heap →
    wpAny (model g.prog g.w) A (eval e env) (EvPost g μ s F Q) (fun _ _ => False) s
def Et (e : Expr) (Q : Bool → Mu → Prop) : Prop :=
  ∀ A F s, Ok g n A → GSt g μ F s.heap → FSt env own ρ μ F s.heap →
    wpAny (model g.prog g.w) A (isTrue e env (eval e env)) (EtPost g μ s F Q) (fun _ _ => False) s

inductive Fl where
  | next | brk | cont | ret (d : D)
def FlSees (F : FM) : Flow → Fl → Prop
  | .next, .next => True
  | .brk, .brk => True
  | .cont, .cont => True
  | .ret v, .ret d => Sees F v d
  | _, _ => False

inductive ExPost (s : Shared) (F : FM) (Q : Fl → (Str → Option D) → Mu → Prop) (fl : Flow) (s' : Shared) : Prop
  | mk (f : Fl) (ρ' : Str → Option D) (μ' : Mu) (F' : FM) (t : Tr g own μ μ' F F' s s') (G' : GSt g μ' F' s'.heap) (Fs' : FSt env own ρ' μ' F' s'.heap) (sf : FlSees F' fl f) (q : Q f ρ' μ')
def Ex (ss : List Stmt) (Q : Fl → (Str → Option D) → Mu → Prop) : Prop :=
  ∀ A F s, Ok g n A → GSt g μ F s.heap → FSt env own ρ μ F s.heap →
    wpAny (model g.prog g.w) A (execs ss env) (ExPost g env own μ s F Q) (fun _ _ => False) s
def Ex1 (st : Stmt) (Q : Fl → (Str → Option D) → Mu → Prop) : Prop :=
  ∀ A F s, Ok g n A → GSt g μ F s.heap → FSt env own ρ μ F s.heap →
    wpAny (model g.prog g.w) A (exec st env) (ExPost g env own μ s F Q) (fun _ _ => False) s
end


open PySem PySem.W PySem.Calls PyProof.Rows
set_option maxRecDepth 20000

/-- a call of a value on seen data -/
def Calls (g : G) (n : Nat) (f : D) (args : List D) (kws : List (Str × D)) (μ : Mu) (Q : D → Mu → Prop) : Prop :=
  ∀ A F s fv vs kvs, Ok g n A → GSt g μ F s.heap → Sees F fv f → SeesAll F vs args → SeesAll F (kvs.map (·.2)) (kws.map (·.2)) → kvs.map (·.1) = kws.map (·.1) →
    wpAny (model g.prog g.w) A (call fv vs kvs) (EvPost g μ s F Q) (fun _ _ => False) s

section
variable {g : G} {env : Env} {own : List Addr} {n : Nat} {ρ : Str → Option D} {μ : Mu}

theorem EvPost.trans {μ₁ s s₁ F F₁ Q v s'} (t : Tr g [] μ μ₁ F F₁ s s₁) (h : EvPost g μ₁ s₁ F₁ Q v s') : EvPost g μ s F Q v s' :=
  (by obtain ⟨d, μ', F', t', a, b, c⟩ := h; exact ⟨d, μ', F', t.trans t', a, b, c⟩)
theorem EtPost.trans {μ₁ s s₁ F F₁ Q v s'} (t : Tr g [] μ μ₁ F F₁ s s₁) (h : EtPost g μ₁ s₁ F₁ Q v s') : EtPost g μ s F Q v s' :=
  (by obtain ⟨μ', F', t', a, b⟩ := h; exact ⟨μ', F', t.trans t', a, b⟩)

theorem EvPost.mono {μ s F Q Q' v s'} (h : EvPost g μ s F Q v s') (k : ∀ d μ', Q d μ' → Q' d μ') : EvPost g μ s F Q' v s' :=
  (by obtain ⟨d, μ', F', t', a, b, c⟩ := h; exact ⟨d, μ', F', t', a, b, k _ _ c⟩)

/-- an end that makes nothing but tokens -/
theorem EvPost.here {s s' F Q v d} (hG : GSt g μ F s.heap) (hh : s'.heap = s.heap) (ho : s'.os = s.os) (hg : s'.gens = s.gens) (hv : Sees F v d) (hQ : Q d μ) : EvPost g μ s F Q v s' :=
  ⟨d, μ, F, Tr.of_ext (fun b o e => by rw [hh]; exact e) ho hg, by rw [hh]; exact hG, hv, hQ⟩

theorem Ev.mono {e : Expr} {Q Q' : D → Mu → Prop} (h : Ev g env own n ρ μ e Q) (k : ∀ d μ', Q d μ' → Q' d μ') : Ev g env own n ρ μ e Q' :=
  fun A F s ok G Fs => wpAny_mono (h A F s ok G Fs) (fun v s' p => EvPost.mono p k) fun _ _ x => x

/-- evaluate, go on from there -/
theorem wp_seq {A : Around} {F s} {e : Expr} {Q : D → Mu → Prop} {P : Value → Shared → Prop} {E : Value → Shared → Prop}
    (h : Ev g env own n ρ μ e Q) (ok : Ok g n A) (G : GSt g μ F s.heap) (Fs : FSt env own ρ μ F s.heap)
    (k : ∀ v d μ₁ F₁ s₁, Tr g [] μ μ₁ F F₁ s s₁ → GSt g μ₁ F₁ s₁.heap → FSt env own ρ μ₁ F₁ s₁.heap → Sees F₁ v d → Q d μ₁ → P v s₁) :
    wpAny (model g.prog g.w) A (eval e env) P E s :=
  wpAny_mono (h A F s ok G Fs) ((by rintro v s₁ ⟨d, μ₁, F₁, t, G₁, hv, hq⟩; exact k v d μ₁ F₁ s₁ t G₁ (Fs.tr G t G₁) hv hq)) fun _ _ x => x.elim
theorem wt_seq {A : Around} {F s} {e : Expr} {Q : Bool → Mu → Prop} {P : Bool → Shared → Prop} {E : Value → Shared → Prop}
    (h : Et g env own n ρ μ e Q) (ok : Ok g n A) (G : GSt g μ F s.heap) (Fs : FSt env own ρ μ F s.heap)
    (k : ∀ b μ₁ F₁ s₁, Tr g [] μ μ₁ F F₁ s s₁ → GSt g μ₁ F₁ s₁.heap → FSt env own ρ μ₁ F₁ s₁.heap → Q b μ₁ → P b s₁) :
    wpAny (model g.prog g.w) A (isTrue e env (eval e env)) P E s :=
  wpAny_mono (h A F s ok G Fs) ((by rintro b s₁ ⟨μ₁, F₁, t, G₁, hq⟩; exact k b μ₁ F₁ s₁ t G₁ (Fs.tr G t G₁) hq)) fun _ _ x => x.elim

/-- an act on one | two values -/
def Act1 (g : G) (n : Nat) (μ : Mu) (f : Value → Sem Value) (a : D) (Q : D → Mu → Prop) : Prop :=
  ∀ A F s va, Ok g n A → GSt g μ F s.heap → Sees F va a → wpAny (model g.prog g.w) A (f va) (EvPost g μ s F Q) (fun _ _ => False) s
def Act2 (g : G) (n : Nat) (μ : Mu) (f : Value → Value → Sem Value) (a b : D) (Q : D → Mu → Prop) : Prop :=
  ∀ A F s va vb, Ok g n A → GSt g μ F s.heap → Sees F va a → Sees F vb b → wpAny (model g.prog g.w) A (f va vb) (EvPost g μ s F Q) (fun _ _ => False) s
/-! what is left to do behind a value, said without a binder around what follows -/
abbrev K1 (g : G) (n : Nat) (f : Value → Sem Value) (Q : D → Mu → Prop) : D → Mu → Prop := fun a μ₁ => Act1 g n μ₁ f a Q
abbrev K2b (g : G) (n : Nat) (f : Value → Value → Sem Value) (a : D) (Q : D → Mu → Prop) : D → Mu → Prop := fun b μ₂ => Act2 g n μ₂ f a b Q
abbrev K2 (g : G) (env : Env) (own : List Addr) (n : Nat) (ρ : Str → Option D) (r : Expr) (f : Value → Value → Sem Value) (Q : D → Mu → Prop) : D → Mu → Prop := fun a μ₁ => Ev g env own n ρ μ₁ r (K2b g n f a Q)
abbrev BrE (g : G) (env : Env) (own : List Addr) (n : Nat) (ρ : Str → Option D) (b o : Expr) (Q : D → Mu → Prop) : Bool → Mu → Prop := fun c μ₁ => (c = true → Ev g env own n ρ μ₁ b Q) ∧ (c = false → Ev g env own n ρ μ₁ o Q)

theorem post_weak {A : Around} {μ₁ s s₁ F F₁ Q} {t : Sem Value} (tr : Tr g [] μ μ₁ F F₁ s s₁)
    (h : wpAny (model g.prog g.w) A t (EvPost g μ₁ s₁ F₁ Q) (fun _ _ => False) s₁) : wpAny (model g.prog g.w) A t (EvPost g μ s F Q) (fun _ _ => False) s₁ :=
  wpAny_mono h (fun _ _ p => p.trans tr) fun _ _ x => x

theorem Ev.cint {i k pos Q} (h : Q (.int i) μ) : Ev g env own n ρ μ (.Constant (.int i) k pos) Q :=
  fun A F s ok G Fs => wpAny_Constant_int (EvPost.here G rfl rfl rfl (.int _ _) h)
theorem Ev.cstr {x k pos Q} (h : Q (.str x) μ) : Ev g env own n ρ μ (.Constant (.str x) k pos) Q :=
  fun A F s ok G Fs => wpAny_Constant_str (EvPost.here G rfl rfl rfl (.str _ _) h)
theorem Ev.cnone {k pos Q} (h : Q .none μ) : Ev g env own n ρ μ (.Constant .none k pos) Q :=
  fun A F s ok G Fs => wpAny_Constant_none (EvPost.here G rfl rfl rfl .none h)
theorem Ev.cbool {b k pos Q} (h : Q (.bool b) μ) : Ev g env own n ρ μ (.Constant (.bool b) k pos) Q :=
  fun A F s ok G Fs => wpAny_Constant_bool (EvPost.here G rfl rfl rfl (.bool _) h)

theorem Ev.name {x pos d Q} (hx : ρ x = some d) (h : Q d μ) (hd : (x == ("__debug__" : Str)) = false := by decide) (hc : (x == ("__classdict__" : Str)) = false := by decide) :
    Ev g env own n ρ μ (.Name x pos) Q := fun A F s ok G Fs => by
  obtain ⟨v, hv, hs⟩ := Fs.vars x d hx
  rcases hv with ⟨hk, m, hm, e⟩ | ⟨hk, c, hl, hcell⟩
  · exact wpAny_Name (wpAny_loadName_local Fs.ok.kind hk hm e (EvPost.here G rfl rfl rfl hs h)) hd
  · rcases hk with hk | hk
    · exact wpAny_Name (wpAny_loadName_cell Fs.ok.kind hk hl hcell (EvPost.here G rfl rfl rfl hs h)) hd
    · exact wpAny_Name (wpAny_loadName_free Fs.ok.kind hk hl hcell (EvPost.here G rfl rfl rfl hs h) hc) hd

theorem GSt.keep {F h} (G : GSt g μ F h) : ∀ a o, g.base.get? a = some o → h.get? a = some o := fun a o e => G.fz a o (G.base a o e)

theorem Ev.glob {x pos v Q} (hx : env.kindOf x = some .globalImplicit) (e : nsIn g.K mainGlobals x = some (some v)) (h : Q (.val v) μ)
    (hd : (x == ("__debug__" : Str)) = false := by decide) : Ev g env own n ρ μ (.Name x pos) Q := fun A F s ok G Fs =>
  Name_function_global Fs.ok.kind hx (loadGlobal_global (by rw [Fs.ok.glob]; exact g.T.g.keeps G.keep) (mg_of g.X g.T.g e) (EvPost.here G rfl rfl rfl (.val _) h)) hd
theorem Ev.blt {x pos v Q} (hx : env.kindOf x = some .globalImplicit) (e : nsIn g.K mainGlobals x = some none) (hv : bootBuiltins x = some v) (h : Q (.val v) μ) (hn : x ≠ "__name__" := by decide)
    (hd : (x == ("__debug__" : Str)) = false := by decide) : Ev g env own n ρ μ (.Name x pos) Q := fun A F s ok G Fs =>
  Name_function_global Fs.ok.kind hx (loadGlobal_builtin (by rw [Fs.ok.glob]; exact g.T.g.keeps G.keep) (mg_none_of g.X g.T.g e) (by rw [Fs.ok.blt]; exact g.T.b.keeps G.keep) ((g.T.builtins x hn).trans hv) (EvPost.here G rfl rfl rfl (.val _) h)) hd

theorem Ev.binop {l op r pos Q} (h : Ev g env own n ρ μ l (K2 g env own n ρ r (binaryOp op) Q)) : Ev g env own n ρ μ (.BinOp l op r pos) Q := fun A F s ok G Fs =>
  wpAny_BinOp (wp_seq h ok G Fs fun va a μ₁ F₁ s₁ t₁ G₁ Fs₁ sa h₁ => wp_seq h₁ ok G₁ Fs₁ fun vb b μ₂ F₂ s₂ t₂ G₂ Fs₂ sb h₂ =>
    post_weak (t₁.trans t₂) (h₂ A F₂ s₂ va vb ok G₂ (sa.mono t₂.le) sb))
theorem Ev.cmp {l op r pos Q} (h : Ev g env own n ρ μ l (K2 g env own n ρ r (compareOp op) Q)) (hm : behindInMarks op r = false := by with_unfolding_all rfl) :
    Ev g env own n ρ μ (.Compare l [op] [r] pos) Q := fun A F s ok G Fs =>
  wpAny_Compare1 (hm := hm) (wp_seq h ok G Fs fun va a μ₁ F₁ s₁ t₁ G₁ Fs₁ sa h₁ => wp_seq h₁ ok G₁ Fs₁ fun vb b μ₂ F₂ s₂ t₂ G₂ Fs₂ sb h₂ =>
    post_weak (t₁.trans t₂) (h₂ A F₂ s₂ va vb ok G₂ (sa.mono t₂.le) sb))
theorem Ev.unop {op x pos Q} (h : Ev g env own n ρ μ x (K1 g n (unaryOp op) Q)) : Ev g env own n ρ μ (.UnaryOp op x pos) Q := fun A F s ok G Fs =>
  wpAny_UnaryOp (wp_seq h ok G Fs fun va a μ₁ F₁ s₁ t₁ G₁ Fs₁ sa h₁ => post_weak t₁ (h₁ A F₁ s₁ va ok G₁ sa))
theorem Ev.ifexp {t b o pos Q} (h : Et g env own n ρ μ t (BrE g env own n ρ b o Q)) : Ev g env own n ρ μ (.IfExp t b o pos) Q := fun A F s ok G Fs =>
  wpAny_IfExp (wt_seq h ok G Fs fun c μ₁ F₁ s₁ t₁ G₁ Fs₁ h₁ => by
    cases c with
    | true => exact post_weak t₁ (h₁.1 rfl A F₁ s₁ ok G₁ Fs₁)
    | false => exact post_weak t₁ (h₁.2 rfl A F₁ s₁ ok G₁ Fs₁))
/-- tests -/
def TBool (Q : Bool → Mu → Prop) (d : D) (μ : Mu) : Prop := ∃ b, d = .bool b ∧ Q b μ
theorem Et.cmp {l op r pos Q} (h : Ev g env own n ρ μ l (K2 g env own n ρ r (compareOp op) (TBool Q))) (hm : behindInMarks op r = false := by with_unfolding_all rfl) :
    Et g env own n ρ μ (.Compare l [op] [r] pos) Q := fun A F s ok G Fs =>
  wpAny_isTrue_Compare1 (hm := hm) (wp_seq h ok G Fs fun va a μ₁ F₁ s₁ t₁ G₁ Fs₁ sa h₁ => wp_seq h₁ ok G₁ Fs₁ fun vb b μ₂ F₂ s₂ t₂ G₂ Fs₂ sb h₂ =>
    wpAny_mono (h₂ A F₂ s₂ va vb ok G₂ (sa.mono t₂.le) sb) (by
      rintro v s₃ ⟨d, μ₃, F₃, t₃, G₃, sv, hq⟩
      obtain ⟨c, rfl, hq⟩ := hq
      obtain rfl := Sees.boolI sv
      exact wpAny_truthy_bool ⟨μ₃, F₃, (t₁.trans t₂).trans t₃, G₃, hq⟩) fun _ _ x => x)
theorem Et.not {x pos Q} (h : Et g env own n ρ μ x fun c => Q (!c)) : Et g env own n ρ μ (.UnaryOp .Not x pos) Q := fun A F s ok G Fs =>
  wpAny_isTrue_Not (wt_seq h ok G Fs fun c μ₁ F₁ s₁ t₁ G₁ Fs₁ h₁ => ⟨μ₁, F₁, t₁, G₁, h₁⟩)
def EtAll (g : G) (env : Env) (own : List Addr) (n : Nat) (ρ : Str → Option D) : BoolOp → List Expr → Mu → (Bool → Mu → Prop) → Prop
  | .And, [], μ, Q => Q true μ
  | .Or, [], μ, Q => Q false μ
  | .And, x :: r, μ, Q => Et g env own n ρ μ x fun c μ₁ => (c = false → Q false μ₁) ∧ (c = true → EtAll g env own n ρ .And r μ₁ Q)
  | .Or, x :: r, μ, Q => Et g env own n ρ μ x fun c μ₁ => (c = true → Q true μ₁) ∧ (c = false → EtAll g env own n ρ .Or r μ₁ Q)
theorem et_post {A : Around} {μ₁ s s₁ F F₁ Q} {t : Sem Bool} (tr : Tr g [] μ μ₁ F F₁ s s₁)
    (h : wpAny (model g.prog g.w) A t (EtPost g μ₁ s₁ F₁ Q) (fun _ _ => False) s₁) : wpAny (model g.prog g.w) A t (EtPost g μ s F Q) (fun _ _ => False) s₁ :=
  wpAny_mono h (fun _ _ p => p.trans tr) fun _ _ x => x
theorem et_and : ∀ (es : List Expr) {μ Q A F s}, EtAll g env own n ρ .And es μ Q → Ok g n A → GSt g μ F s.heap → FSt env own ρ μ F s.heap →
    wpAny (model g.prog g.w) A (allTrue .And es env) (EtPost g μ s F Q) (fun _ _ => False) s
  | [], μ, Q, A, F, s, h, ok, G, Fs => wpAny_allTrue_And_nil ⟨μ, F, .refl, G, h⟩
  | x :: r, μ, Q, A, F, s, h, ok, G, Fs => wpAny_allTrue_And_cons (wt_seq (by unfold EtAll at h; exact h) ok G Fs fun c μ₁ F₁ s₁ t₁ G₁ Fs₁ h₁ => by
    cases c with
    | false => exact ⟨μ₁, F₁, t₁, G₁, h₁.1 rfl⟩
    | true => exact et_post t₁ (et_and r (h₁.2 rfl) ok G₁ Fs₁))
theorem et_or : ∀ (es : List Expr) {μ Q A F s}, EtAll g env own n ρ .Or es μ Q → Ok g n A → GSt g μ F s.heap → FSt env own ρ μ F s.heap →
    wpAny (model g.prog g.w) A (allTrue .Or es env) (EtPost g μ s F Q) (fun _ _ => False) s
  | [], μ, Q, A, F, s, h, ok, G, Fs => wpAny_allTrue_Or_nil ⟨μ, F, .refl, G, h⟩
  | x :: r, μ, Q, A, F, s, h, ok, G, Fs => wpAny_allTrue_Or_cons (wt_seq (by unfold EtAll at h; exact h) ok G Fs fun c μ₁ F₁ s₁ t₁ G₁ Fs₁ h₁ => by
    cases c with
    | true => exact ⟨μ₁, F₁, t₁, G₁, h₁.1 rfl⟩
    | false => exact et_post t₁ (et_or r (h₁.2 rfl) ok G₁ Fs₁))
theorem Et.and {es pos Q} (h : EtAll g env own n ρ .And es μ Q) : Et g env own n ρ μ (.BoolOp .And es pos) Q := fun A F s ok G Fs => wpAny_isTrue_BoolOp (et_and es h ok G Fs)
theorem Et.or {es pos Q} (h : EtAll g env own n ρ .Or es μ Q) : Et g env own n ρ μ (.BoolOp .Or es pos) Q := fun A F s ok G Fs => wpAny_isTrue_BoolOp (et_or es h ok G Fs)

end

open PySem PySem.W PySem.Calls PyProof.Rows
set_option maxRecDepth 20000
section
variable {g : G} {env : Env} {own : List Addr} {n : Nat} {ρ : Str → Option D} {μ : Mu}

theorem GSt.ext {F : FM} {h h' : Heap} (G : GSt g μ F h) (e : ∀ b o, h.get? b = some o → h'.get? b = some o) : GSt g μ F h' where
  base := G.base
  fz := fun a o q => e _ _ (G.fz a o q)
  tb := fun q hq => (by obtain ⟨a, ps, b, c, d⟩ := G.tb q hq; exact ⟨a, ps, e _ _ b, c, d⟩)
  mu := fun p hp => by
    obtain ⟨a, b⟩ := G.mu p hp
    exact ⟨a, b.move (fun _ _ x => x) (fun o => e _ o)⟩
  nd := G.nd
  fzc := G.fzc
  dj := G.dj
  stk := fun x hx => (G.stk x hx).ext e

theorem GSt.stkNs {F : FM} {h : Heap} (G : GSt g μ F h) {x : Env} {a : Addr} (hx : x ∈ g.stk) (hf : x.frame = some a) : ∃ m, h.Ns a m := by
  obtain ⟨_, L, m, hf', hn, _⟩ := G.stk x hx
  rw [hf] at hf'; cases hf'; exact ⟨m, hn⟩
/-- one object that is nobody's turns -/
theorem GSt.at {F : FM} {h h' : Heap} {a : Addr} (G : GSt g μ F h) (sb : Heap.SameBut a h h') (hF : F a = none) (hm : a ∉ μ.dom) (ht : a ∉ g.tabDom) (hs : ∀ x ∈ g.stk, x.frame = some a → ∃ m', h'.Ns a m') : GSt g μ F h' := by
  have k : ∀ b o, b ≠ a → h.get? b = some o → h'.get? b = some o := fun b o hb e => (sb.2 b hb).trans e
  refine ⟨G.base, fun b o q => k b o (fun z => by rw [z, hF] at q; cases q) (G.fz b o q), fun q hq => ?_, fun p hp => ?_, G.nd, G.fzc, G.dj, fun x hx => ?_⟩
  · obtain ⟨x, ps, b, c, d⟩ := G.tb q hq
    refine ⟨x, ps, k _ _ (fun z => ht (z ▸ List.mem_map_of_mem hq)) b, c, d⟩
  · obtain ⟨x, b⟩ := G.mu p hp
    have hne : p.1 ≠ a := fun z => hm (z ▸ List.mem_map_of_mem hp)
    exact ⟨x, b.move (fun _ _ x => x) (fun o => k _ o hne)⟩
  · obtain ⟨hk, L, m, hf, hns, hF', hm'⟩ := G.stk x hx
    by_cases hL : L = a
    · subst hL; obtain ⟨m', hm2⟩ := hs x hx hf; exact ⟨hk, L, m', hf, hm2, hF', hm'⟩
    · exact ⟨hk, L, m, hf, hns.sameBut sb hL, hF', hm'⟩

def upd (ρ : Str → Option D) (x : Str) (d : D) : Str → Option D := fun y => if y = x then some d else ρ y

theorem lookup_mem {α : Type} {l : List (Str × α)} {x : Str} {c : α} (h : l.lookup x = some c) : (x, c) ∈ l := by
  induction l with
  | nil => simp at h
  | cons p l ih =>
    obtain ⟨y, b⟩ := p
    rw [List.lookup_cons] at h
    cases hy : x == y with
    | true => rw [hy] at h; cases h; rw [eq_of_beq hy]; exact .head _
    | false => rw [hy] at h; exact .tail _ (ih h)

theorem nodup_snd {l : List (Str × Addr)} (hn : (l.map (·.2)).Nodup) {x y : Str} {c : Addr} (h1 : (x, c) ∈ l) (h2 : (y, c) ∈ l) : x = y := by
  induction l with
  | nil => cases h1
  | cons p l ih =>
    simp only [List.map_cons, List.nodup_cons] at hn
    cases h1 with
    | head => cases h2 with
      | head => rfl
      | tail _ h2 => exact absurd (List.mem_map.mpr ⟨_, h2, rfl⟩) hn.1
    | tail _ h1 => cases h2 with
      | head => exact absurd (List.mem_map.mpr ⟨_, h1, rfl⟩) hn.1
      | tail _ h2 => exact ih hn.2 h1 h2

/-- the name x can be stored to -/
def Bindable (env : Env) (own : List Addr) (x : Str) : Prop :=
  env.kindOf x = some .local ∨ (env.kindOf x = some .cell ∧ ∃ c, env.cells.lookup x = some c ∧ c ∈ own)

set_option tactic.hygienic true in
theorem st_store {A : Around} {F : FM} {s : Shared} {x : Str} {v : Value} {d : D} {Q : Unit → Shared → Prop} {E : Value → Shared → Prop} (G : GSt g μ F s.heap) (Fs : FSt env own ρ μ F s.heap) (hv : Sees F v d) (hb : Bindable env own x)
    (h : ∀ s', Tr g own μ μ F F s s' → GSt g μ F s'.heap → FSt env own (upd ρ x d) μ F s'.heap → s'.os = s.os → Q () s') : wpAny (model g.prog g.w) A (storeName env x v) Q E s := by
  rcases hb with hk | ⟨hk, c, hl, hc⟩
  · obtain ⟨m, hm⟩ := Fs.ns
    refine wpAny_storeName_local hk hm (fun h' hn sb => h _ ?_ ?_ ?_ rfl) (by rw [Fs.ok.kind]; rfl)
    · exact ⟨fun b o e h1 _ _ => ⟨o, (sb.2 b (fun z => h1 (z ▸ Fs.ok.lown))).trans e, .refl o⟩, fun b o e => by
        by_cases hb : b = env.locals
        · subst hb; obtain ⟨o', _, _, e', _⟩ := hn; exact ⟨o', e'⟩
        · exact ⟨o, (sb.2 b hb).trans e⟩, fun _ _ e => e, (Tr.refl (g := g) (mt := own) (μ := μ) (s := s)).fr, fun _ q => .inl q, rfl, rfl⟩
    · exact G.at sb (Fs.ownF _ Fs.ok.lown) (Fs.muo _ Fs.ok.lown) (G.nsTab hm) fun _ _ _ => ⟨_, hn⟩
    · refine ⟨Fs.ok, ⟨_, hn⟩, fun y d' e => ?_, fun p hp => ?_, Fs.ownF, fun a ha => ?_, Fs.muo⟩
      · unfold upd at e
        split at e
        · rename_i hy; cases e; subst hy; exact ⟨v, .inl ⟨hk, _, hn, by simp⟩, hv⟩
        · rename_i hy
          obtain ⟨v', hv', hs'⟩ := Fs.vars y d' e
          refine ⟨v', ?_, hs'⟩
          rcases hv' with ⟨k', m', hm', e'⟩ | ⟨k', c', hc', hcell⟩
          · refine .inl ⟨k', _, hn, ?_⟩
            simp only [hy, if_false]
            obtain ⟨o1, es1, ep1, f1, f2, f3, f4⟩ := hm
            obtain ⟨o2, es2, ep2, g1, g2, g3, g4⟩ := hm'
            rw [f1] at g1; cases g1; rw [f2] at g2; cases g2
            rw [← f4 y, g4 y]; exact e'
          · refine .inr ⟨k', c', hc', hcell.sameBut sb fun z => ?_⟩
            subst z
            obtain ⟨o1, e1, d1⟩ := hcell; obtain ⟨o2, _, _, e2, d2, _⟩ := hm; rw [e1] at e2; cases e2; rw [d1] at d2; cases d2
      · obtain ⟨v', hc'⟩ := Fs.cells p hp
        refine ⟨v', hc'.sameBut sb fun z => ?_⟩
        obtain ⟨o1, e1, d1⟩ := hc'; obtain ⟨o2, _, _, e2, d2, _⟩ := hm; rw [z] at e1; rw [e1] at e2; cases e2; rw [d1] at d2; cases d2
      · by_cases hb : a = env.locals
        · subst hb; obtain ⟨o', _, _, e', _⟩ := hn; exact ⟨o', e'⟩
        · obtain ⟨o, e⟩ := Fs.live a ha; exact ⟨o, (sb.2 a hb).trans e⟩
  · have hcm := lookup_mem hl
    obtain ⟨v₀, hc0⟩ := Fs.cells _ hcm
    refine wpAny_storeName_cell Fs.ok.kind hk hl hc0 fun h' hn sb => h _ ?_ ?_ ?_ rfl
    · exact ⟨fun b o e h1 _ _ => ⟨o, (sb.2 b (fun z => h1 (z ▸ hc))).trans e, .refl o⟩, fun b o e => by
        by_cases hb : b = c
        · subst hb; obtain ⟨o', e', _⟩ := hn; exact ⟨o', e'⟩
        · exact ⟨o, (sb.2 b hb).trans e⟩, fun _ _ e => e, (Tr.refl (g := g) (mt := own) (μ := μ) (s := s)).fr, fun _ q => .inl q, rfl, rfl⟩
    · exact G.at sb (Fs.ownF _ hc) (Fs.muo _ hc) (G.cellFree hc0).2 fun x hx hf => by
        obtain ⟨m, o2, _, _, e2, d2, _⟩ := G.stkNs hx hf; obtain ⟨o1, e1, d1⟩ := hc0; rw [e1] at e2; cases e2; rw [d1] at d2; cases d2
    · have hlc : env.locals ≠ c := fun z => by
        obtain ⟨m, o2, _, _, e2, d2, _⟩ := Fs.ns; obtain ⟨o1, e1, d1⟩ := hc0; rw [z] at e2; rw [e1] at e2; cases e2; rw [d1] at d2; cases d2
      refine ⟨Fs.ok, ?_, fun y d' e => ?_, fun p hp => ?_, Fs.ownF, fun a ha => ?_, Fs.muo⟩
      · obtain ⟨m, hm⟩ := Fs.ns; exact ⟨m, hm.sameBut sb hlc⟩
      · unfold upd at e
        split at e
        · rename_i hy; cases e; subst hy; exact ⟨v, .inr ⟨.inl hk, c, hl, hn⟩, hv⟩
        · rename_i hy
          obtain ⟨v', hv', hs'⟩ := Fs.vars y d' e
          refine ⟨v', ?_, hs'⟩
          rcases hv' with ⟨k', m', hm', e'⟩ | ⟨k', c', hc', hcell⟩
          · exact .inl ⟨k', m', hm'.sameBut sb hlc, e'⟩
          · exact .inr ⟨k', c', hc', hcell.sameBut sb fun z => hy (nodup_snd Fs.ok.cnd (lookup_mem hc') (z ▸ hcm))⟩
      · by_cases hb : p.2 = c
        · exact ⟨_, hb ▸ hn⟩
        · obtain ⟨v', hc'⟩ := Fs.cells p hp; exact ⟨v', hc'.sameBut sb hb⟩
      · by_cases hb : a = c
        · subst hb; obtain ⟨o', e', _⟩ := hn; exact ⟨o', e'⟩
        · obtain ⟨o, e⟩ := Fs.live a ha; exact ⟨o, (sb.2 a hb).trans e⟩

theorem ExPost.trans {μ₁ s s₁ F F₁ Q v s'} (t : Tr g own μ μ₁ F F₁ s s₁) (h : ExPost g env own μ₁ s₁ F₁ Q v s') : ExPost g env own μ s F Q v s' :=
  (by obtain ⟨f, ρ', μ', F', t', a, b, c, d⟩ := h; exact ⟨f, ρ', μ', F', t.trans t', a, b, c, d⟩)
theorem ex_weak {A : Around} {μ₁ s s₁ F F₁ Q} {t : Sem Flow} (tr : Tr g own μ μ₁ F F₁ s s₁)
    (h : wpAny (model g.prog g.w) A t (ExPost g env own μ₁ s₁ F₁ Q) (fun _ _ => False) s₁) : wpAny (model g.prog g.w) A t (ExPost g env own μ s F Q) (fun _ _ => False) s₁ :=
  wpAny_mono h (fun _ _ p => p.trans tr) fun _ _ x => x

theorem Ex.nil {Q} (h : Q .next ρ μ) : Ex g env own n ρ μ [] Q := fun A F s ok G Fs => wpAny_execs_nil ⟨.next, ρ, μ, F, .refl, G, Fs, trivial, h⟩
abbrev XQ := Fl → (Str → Option D) → Mu → Prop
abbrev Seq (g : G) (env : Env) (own : List Addr) (n : Nat) (rest : List Stmt) (Q : XQ) : XQ := fun f ρ₁ μ₁ => (f = .next → Ex g env own n ρ₁ μ₁ rest Q) ∧ (f ≠ .next → Q f ρ₁ μ₁)
abbrev RetK (ρ : Str → Option D) (Q : XQ) : D → Mu → Prop := fun d μ₁ => Q (.ret d) ρ μ₁
abbrev BrX (g : G) (env : Env) (own : List Addr) (n : Nat) (ρ : Str → Option D) (b o : List Stmt) (Q : XQ) : Bool → Mu → Prop := fun c μ₁ => (c = true → Ex g env own n ρ μ₁ b Q) ∧ (c = false → Ex g env own n ρ μ₁ o Q)
abbrev AsgK (ρ : Str → Option D) (x : Str) (Q : XQ) : D → Mu → Prop := fun d μ₁ => Q .next (upd ρ x d) μ₁
abbrev ExprK (ρ : Str → Option D) (Q : XQ) : D → Mu → Prop := fun d μ₁ => d = .none ∧ Q .next ρ μ₁
theorem Ex.cons {st rest Q} (h : Ex1 g env own n ρ μ st (Seq g env own n rest Q)) : Ex g env own n ρ μ (st :: rest) Q := fun A F s ok G Fs =>
  wpAny_execs_cons (wpAny_mono (h A F s ok G Fs) (by
    rintro fl s₁ ⟨f, ρ₁, μ₁, F₁, t, G₁, Fs₁, sf, h₁⟩
    cases fl <;> cases f <;> first | exact sf.elim | exact ex_weak t (h₁.1 rfl A F₁ s₁ ok G₁ Fs₁) | exact ⟨_, ρ₁, μ₁, F₁, t, G₁, Fs₁, sf, h₁.2 (by intro x; cases x)⟩) fun _ _ x => x)
theorem Ex1.ret {e pos Q} (h : Ev g env own n ρ μ e (RetK ρ Q)) : Ex1 g env own n ρ μ (.Return (some e) pos) Q := fun A F s ok G Fs =>
  wpAny_Return_some (wp_seq h ok G Fs fun v d μ₁ F₁ s₁ t G₁ Fs₁ sv h₁ => ⟨.ret d, ρ, μ₁, F₁, t.toOwn, G₁, Fs₁, sv, h₁⟩)
theorem Ex1.ite {t b o pos Q} (h : Et g env own n ρ μ t (BrX g env own n ρ b o Q)) : Ex1 g env own n ρ μ (.If t b o pos) Q := fun A F s ok G Fs =>
  wpAny_If (wt_seq h ok G Fs fun c μ₁ F₁ s₁ t₁ G₁ Fs₁ h₁ => by
    cases c with
    | true => exact ex_weak t₁.toOwn (h₁.1 rfl A F₁ s₁ ok G₁ Fs₁)
    | false => exact ex_weak t₁.toOwn (h₁.2 rfl A F₁ s₁ ok G₁ Fs₁))
theorem Ex1.assign {x p e pos Q} (h : Ev g env own n ρ μ e (AsgK ρ x Q)) (hb : Bindable env own x)
    (hs : swapsWith e (some (.Name x p)) pos.line env = pure false := by rfl) : Ex1 g env own n ρ μ (.Assign [.Name x p] e pos) Q := fun A F s ok G Fs =>
  wpAny_Assign_Name (hs := hs) (wp_seq h ok G Fs fun v d μ₁ F₁ s₁ t G₁ Fs₁ sv h₁ => st_store G₁ Fs₁ sv hb fun s₂ t₂ G₂ Fs₂ _ => ⟨.next, _, μ₁, F₁, t.toOwn.trans t₂, G₂, Fs₂, trivial, h₁⟩)
theorem Ex1.expr {e pos Q} (h : Ev g env own n ρ μ e (ExprK ρ Q))
    (hs : swapsWith e none pos.line env = pure false := by rfl) : Ex1 g env own n ρ μ (.Expr e pos) Q := fun A F s ok G Fs =>
  wpAny_Expr (hs := hs) (hi := by unfold interactive; rw [Fs.ok.kind]; rfl) (wp_seq h ok G Fs fun v d μ₁ F₁ s₁ t G₁ Fs₁ sv h₁ => by
    obtain ⟨rfl, h₁⟩ := h₁
    obtain rfl := Sees.noneI sv
    exact ⟨.next, ρ, μ₁, F₁, t.toOwn, G₁, Fs₁, trivial, h₁⟩)
theorem Ex1.brk {pos Q} (h : Q .brk ρ μ) : Ex1 g env own n ρ μ (.Break pos) Q := fun A F s ok G Fs => wpAny_Break ⟨.brk, ρ, μ, F, .refl, G, Fs, trivial, h⟩

/-- a while by an invariant and a measure -/
theorem Ex1.while {test body pos Q} (I : Nat → (Str → Option D) → Mu → Prop) (k : Nat) (h0 : I k ρ μ)
    (turn : ∀ k ρ μ, I k ρ μ → Et g env own n ρ μ test fun c μ₁ =>
      (c = true → Ex g env own n ρ μ₁ body fun f ρ₂ μ₂ => match f with
        | .next => ∃ k', k' < k ∧ I k' ρ₂ μ₂
        | .cont => ∃ k', k' < k ∧ I k' ρ₂ μ₂
        | .brk => Q .next ρ₂ μ₂
        | .ret d => Q (.ret d) ρ₂ μ₂) ∧
      (c = false → Q .next ρ μ₁)) : Ex1 g env own n ρ μ (.While test body [] pos) Q := fun A F s ok G Fs => by
  refine wpAny_While (codeAny_whileLoop (fun k s' => ∃ ρ' μ' F', Tr g own μ μ' F F' s s' ∧ GSt g μ' F' s'.heap ∧ FSt env own ρ' μ' F' s'.heap ∧ I k ρ' μ') ?_ k ⟨ρ, μ, F, .refl, G, Fs, h0⟩)
  rintro k s₁ ⟨ρ₁, μ₁, F₁, t₁, G₁, Fs₁, hI⟩
  refine wt_seq (turn k ρ₁ μ₁ hI) ok G₁ Fs₁ fun c μ₂ F₂ s₂ t₂ G₂ Fs₂ h₂ => ?_
  cases c with
  | false => exact wpAny_execs_nil ⟨.next, ρ₁, μ₂, F₂, t₁.trans t₂.toOwn, G₂, Fs₂, trivial, h₂.2 rfl⟩
  | true =>
    refine wpAny_mono (h₂.1 rfl A F₂ s₂ ok G₂ Fs₂) ?_ fun _ _ x => x.elim
    rintro fl s₃ ⟨f, ρ₃, μ₃, F₃, t₃, G₃, Fs₃, sf, h₃⟩
    have t := (t₁.trans t₂.toOwn).trans t₃
    cases fl <;> cases f <;> first
      | exact sf.elim
      | (obtain ⟨k', hk, hI'⟩ := h₃; exact ⟨k', hk, ρ₃, μ₃, F₃, t, G₃, Fs₃, hI'⟩)
      | exact ⟨_, ρ₃, μ₃, F₃, t, G₃, Fs₃, sf, h₃⟩
      | exact ⟨.next, ρ₃, μ₃, F₃, t, G₃, Fs₃, trivial, h₃⟩
end

open PySem PySem.W PySem.Calls PyProof.Rows
set_option maxRecDepth 20000
section
variable {g : G} {env : Env} {own : List Addr} {n : Nat} {ρ : Str → Option D} {μ : Mu}

def plainE : Expr → Bool
  | .Starred .. => false
  | _ => true
theorem plainE_star {e : Expr} (h : plainE e = true) (rest : List Expr) (env : Env) : starEach (e :: rest) env = (false, eval e env) :: starEach rest env := by
  cases e <;> first | rfl | cases h

def EvL (g : G) (env : Env) (own : List Addr) (n : Nat) (ρ : Str → Option D) : List Expr → Mu → (List D → Mu → Prop) → Prop
  | [], μ, Q => Q [] μ
  | e :: r, μ, Q => plainE e = true ∧ Ev g env own n ρ μ e fun d μ₁ => EvL g env own n ρ r μ₁ fun ds μ₂ => Q (d :: ds) μ₂
def EvK (g : G) (env : Env) (own : List Addr) (n : Nat) (ρ : Str → Option D) : List Keyword → Mu → (List (Str × D) → Mu → Prop) → Prop
  | [], μ, Q => Q [] μ
  | ⟨some x, e, _⟩ :: r, μ, Q => Ev g env own n ρ μ e fun d μ₁ => EvK g env own n ρ r μ₁ fun ks μ₂ => Q ((x, d) :: ks) μ₂
  | ⟨Option.none, _, _⟩ :: _, _, _ => False

inductive LPost (g : G) (μ : Mu) (s : Shared) (F : FM) (Q : List D → Mu → Prop) (vs : List Value) (s' : Shared) : Prop
  | mk (ds : List D) (μ' : Mu) (F' : FM) (t : Tr g [] μ μ' F F' s s') (G' : GSt g μ' F' s'.heap) (sa : SeesAll F' vs ds) (q : Q ds μ')

theorem evl {pos : Pos} {A : Around} (ok : Ok g n A) : ∀ (es : List Expr) {μ Q F s}, EvL g env own n ρ es μ Q → GSt g μ F s.heap → FSt env own ρ μ F s.heap →
    wpAny (model g.prog g.w) A (spliced (backTo pos (starEach es env))) (LPost g μ s F Q) (fun _ _ => False) s
  | [], μ, Q, F, s, h, G, Fs => wpAny_items_nil ⟨[], μ, F, .refl, G, .nil, h⟩
  | e :: r, μ, Q, F, s, h, G, Fs => by
    obtain ⟨hp, h⟩ := h
    refine wpAny_items_cons (wp_seq h ok G Fs fun v d μ₁ F₁ s₁ t₁ G₁ Fs₁ sv h₁ => ?_) (plainE_star hp r env)
    refine wpAny_mono (evl ok r h₁ G₁ Fs₁) ?_ fun _ _ x => x
    rintro vs s₂ ⟨ds, μ₂, F₂, t₂, G₂, sds, h₂⟩
    exact ⟨d :: ds, μ₂, F₂, t₁.trans t₂, G₂, .cons (sv.mono t₂.le) sds, h₂⟩

inductive KPost (g : G) (μ : Mu) (s : Shared) (F : FM) (kws : List Keyword) (Q : List (Str × D) → Mu → Prop) (vs : List Value) (s' : Shared) : Prop
  | mk (ks : List (Str × D)) (μ' : Mu) (F' : FM) (t : Tr g [] μ μ' F F' s s') (G' : GSt g μ' F' s'.heap) (sa : SeesAll F' vs (ks.map (·.2))) (e : kws.filterMap (·.arg) = ks.map (·.1)) (q : Q ks μ')
theorem evk {pos : Pos} {A : Around} (ok : Ok g n A) : ∀ (kws : List Keyword) {μ Q F s}, EvK g env own n ρ kws μ Q → GSt g μ F s.heap → FSt env own ρ μ F s.heap →
    wpAny (model g.prog g.w) A (evalAll ((backToKw pos (keywordEach kws env)).map (·.2))) (KPost g μ s F kws Q) (fun _ _ => False) s
  | [], μ, Q, F, s, h, G, Fs => kwAll_nil ⟨[], μ, F, .refl, G, .nil, rfl, h⟩
  | ⟨some x, e, p⟩ :: r, μ, Q, F, s, h, G, Fs => by
    refine kwAll_cons (wp_seq h ok G Fs fun v d μ₁ F₁ s₁ t₁ G₁ Fs₁ sv h₁ => ?_)
    refine wpAny_mono (evk ok r h₁ G₁ Fs₁) ?_ fun _ _ x => x
    rintro vs s₂ ⟨ks, μ₂, F₂, t₂, G₂, sds, hn, h₂⟩
    exact ⟨(x, d) :: ks, μ₂, F₂, t₁.trans t₂, G₂, .cons (sv.mono t₂.le) sds, by simp [hn], h₂⟩
  | ⟨Option.none, e, p⟩ :: r, μ, Q, F, s, h, G, Fs => h.elim
theorem kws_some {pos : Pos} (env : Env) : ∀ (r : List Keyword), r.all (·.arg.isSome) = true → (backToKw pos (keywordEach r env)).all (·.1.isSome) = true ∧ (backToKw pos (keywordEach r env)).any (·.1.isNone) = false
        ∧ (backToKw pos (keywordEach r env)).filterMap (·.1) = r.filterMap (·.arg)
  | [], _ => ⟨rfl, rfl, rfl⟩
  | ⟨some y, e, p⟩ :: r, h => by
    obtain ⟨a, b, c⟩ := kws_some (pos := pos) env r (by simpa using h)
    refine ⟨?_, ?_, ?_⟩
    · show (true && (backToKw pos (keywordEach r env)).all (·.1.isSome)) = true; rw [a]; rfl
    · show (false || (backToKw pos (keywordEach r env)).any (·.1.isNone)) = false; rw [b]; rfl
    · show y :: (backToKw pos (keywordEach r env)).filterMap (·.1) = y :: r.filterMap (·.arg); rw [c]
  | ⟨Option.none, e, p⟩ :: r, h => by simp at h
theorem args_plain {pos : Pos} (env : Env) : ∀ (r : List Expr), r.all plainE = true → (backTo pos (starEach r env)).any (·.1) = false
  | [], _ => rfl
  | e :: r, h => by
    simp only [List.all_cons, Bool.and_eq_true] at h
    rw [plainE_star h.1]
    show (false || (backTo pos (starEach r env)).any (·.1)) = false
    rw [args_plain env r h.2]; rfl

/-- who keeps the values while the callee runs -/
def KeepB (base : Heap) (f : D) : Prop := ∀ (M : Model) (F : FM) (fv : Value) (h : Heap), (∀ a o, base.get? a = some o → F a = some o) → (∀ a o, F a = some o → h.get? a = some o) → Sees F fv f →
  ∃ k, (k = Keeper.frame ∨ k = Keeper.machine ∨ k = Keeper.boundFrame) ∧ Looks M h (keeperOf fv) k
abbrev KeepD (g : G) (f : D) : Prop := KeepB g.base f
theorem KeepD.builtin {id : String} : KeepD g (.val (.builtin id)) := fun M F fv h _ _ sv => by obtain rfl := Sees.valI sv; exact ⟨.machine, .inr (.inl rfl), .now⟩
theorem KeepD.type {t : String} : KeepD g (.val (.type t)) := fun M F fv h _ _ sv => by obtain rfl := Sees.valI sv; exact ⟨.machine, .inr (.inl rfl), .now⟩
theorem KeepD.fn {a : Addr} (hk : keepIn g.K (.ref a) = true) : KeepD g (.val (.ref a)) := fun M F fv h hb hf sv => by
  obtain rfl := Sees.valI sv
  obtain ⟨k, a, b⟩ := looks_keep (M := M) hk (g.X.keeps fun b o e => hf _ _ (hb _ _ e))
  exact ⟨k, a.elim .inl (fun e => .inr (.inl e)), b⟩
theorem KeepD.clo {q ps b sc cd cp} : KeepD g (.clo q ps b sc cd cp) := fun M F fv h hb hf sv => by
  obtain @⟨_, _, _, _, _, _, e, d, _, _, _⟩ := Sees.cloI sv
  exact ⟨.frame, .inl rfl, (Looks.ld (part := none) (hf _ _ e)).andThen (by rw [d]; exact .now)⟩

/-- the arguments, then the call: any callWith of the frame's -/
theorem callWith_P {pos : Pos} {A : Around} {F s fv f args kws} {P E : Value → Shared → Prop} (hk : KeepD g f) (hp : args.all plainE = true) (hs : kws.all (·.arg.isSome) = true) (ok : Ok g n A) (G : GSt g μ F s.heap) (Fs : FSt env own ρ μ F s.heap)
    (sf : Sees F fv f) {Q : List D → List (Str × D) → Mu → Prop} (h : EvL g env own n ρ args μ fun ds μ₁ => EvK g env own n ρ kws μ₁ fun ks μ₂ => Q ds ks μ₂)
    (fin : ∀ vs kvs ds ks μ₂ F₂ s₂, Tr g [] μ μ₂ F F₂ s s₂ → GSt g μ₂ F₂ s₂.heap → FSt env own ρ μ₂ F₂ s₂.heap → Sees F₂ fv f → SeesAll F₂ vs ds → SeesAll F₂ (kvs.map (·.2)) (ks.map (·.2)) → kvs.map (·.1) = ks.map (·.1) → Q ds ks μ₂ →
      wpAny (model g.prog g.w) A (call fv vs kvs) P E s₂) :
    wpAny (model g.prog g.w) A (callWith pos fv [] (backTo pos (starEach args env)) (backToKw pos (keywordEach kws env))) P E s := by
  obtain ⟨k1, k2, k3⟩ := kws_some (pos := pos) env kws hs
  refine callWith_of (P := fun h => ∃ F', (∀ a o, g.base.get? a = some o → F' a = some o) ∧ (∀ a o, F' a = some o → h.get? a = some o) ∧ Sees F' fv f) (by rw [args_plain env args hp, k2]; rfl)
    ((by rintro h ⟨F', a, b, c⟩; exact hk _ F' fv h a b c)) ?_
  have fin : wpAny (model g.prog g.w) A (spliced (backTo pos (starEach args env))) (fun vs s₁ => wpAny (model g.prog g.w) A (evalAll ((backToKw pos (keywordEach kws env)).map (·.2)))
      (fun ks s₂ => (∃ F', (∀ a o, g.base.get? a = some o → F' a = some o) ∧ (∀ a o, F' a = some o → s₂.heap.get? a = some o) ∧ Sees F' fv f) ∧
        wpAny (model g.prog g.w) A (call fv ([] ++ vs) (((backToKw pos (keywordEach kws env)).filterMap (·.1)).zip ks)) P E s₂) E s₁) E s := by
    refine wpAny_mono (evl ok args h G Fs) ?_ fun _ _ x => x.elim
    rintro vs s₁ ⟨ds, μ₁, F₁, t₁, G₁, sds, h₁⟩
    refine wpAny_mono (evk ok kws h₁ G₁ (Fs.tr G t₁ G₁)) ?_ fun _ _ x => x.elim
    rintro ks s₂ ⟨kd, μ₂, F₂, t₂, G₂, sks, hn, h₂⟩
    have t := t₁.trans t₂
    refine ⟨⟨F₂, G₂.base, G₂.fz, sf.mono t.le⟩, ?_⟩
    rw [k3, hn]
    have hl : (kd.map (·.1)).length = ks.length := by have := sks.length; simp at this; simp [this]
    refine fin vs _ ds kd μ₂ F₂ s₂ t G₂ (Fs.tr G t G₂) (sf.mono t.le) (sds.mono t₂.le) ?_ ?_ h₂
    · rw [List.map_snd_zip (by lia)]; exact sks
    · rw [List.map_fst_zip (by lia)]
  cases args with
  | nil => exact evalArgs_kw2_nil k1 (by
      have : spliced (backTo pos (starEach [] env)) = (pure [] : Sem (List Value)) := rfl
      rw [this] at fin
      intro Γ p hΓ
      exact fin Γ p hΓ Γ p hΓ)
  | cons e r =>
    simp only [List.all_cons, Bool.and_eq_true] at hp
    exact evalArgs_kw2 k1 fin (plainE_star hp.1 r env)
theorem callWith_D {pos : Pos} {A : Around} {F s fv f args kws Q} (hk : KeepD g f) (hp : args.all plainE = true) (hs : kws.all (·.arg.isSome) = true) (ok : Ok g n A) (G : GSt g μ F s.heap) (Fs : FSt env own ρ μ F s.heap)
    (sf : Sees F fv f) (h : EvL g env own n ρ args μ fun ds μ₁ => EvK g env own n ρ kws μ₁ fun ks μ₂ => Calls g n f ds ks μ₂ Q) :
    wpAny (model g.prog g.w) A (callWith pos fv [] (backTo pos (starEach args env)) (backToKw pos (keywordEach kws env))) (EvPost g μ s F Q) (fun _ _ => False) s :=
  callWith_P hk hp hs ok G Fs sf h fun vs kvs ds ks μ₂ F₂ s₂ t G₂ Fs₂ sf₂ sds sks hn hc => post_weak t (hc A F₂ s₂ fv vs kvs ok G₂ sf₂ sds sks hn)

abbrev CK3 (g : G) (n : Nat) (f : D) (ds : List D) (Q : D → Mu → Prop) : List (Str × D) → Mu → Prop := fun ks μ₃ => Calls g n f ds ks μ₃ Q
abbrev CK2 (g : G) (env : Env) (own : List Addr) (n : Nat) (ρ : Str → Option D) (kws : List Keyword) (f : D) (Q : D → Mu → Prop) : List D → Mu → Prop := fun ds μ₂ => EvK g env own n ρ kws μ₂ (CK3 g n f ds Q)
abbrev CK1 (g : G) (env : Env) (own : List Addr) (n : Nat) (ρ : Str → Option D) (args : List Expr) (kws : List Keyword) (Q : D → Mu → Prop) : D → Mu → Prop := fun f μ₁ => KeepD g f ∧ EvL g env own n ρ args μ₁ (CK2 g env own n ρ kws f Q)
theorem Ev.call {func args kws pos Q} (h : Ev g env own n ρ μ func (CK1 g env own n ρ args kws Q))
    (he : eval (.Call func args kws pos) env = (do callWith pos (← eval func env) [] (backTo pos (starEach args env)) (backToKw pos (keywordEach kws env))) := by rfl)
    (hp : args.all plainE = true := by rfl) (hs : kws.all (·.arg.isSome) = true := by rfl) : Ev g env own n ρ μ (.Call func args kws pos) Q := fun A F s ok G Fs => by
  rw [he]
  exact wpAny_bind (wp_seq h ok G Fs fun fv f μ₁ F₁ s₁ t₁ G₁ Fs₁ sf h₁ => post_weak t₁ (callWith_D h₁.1 hp hs ok G₁ Fs₁ sf h₁.2))

/-! entering a def of the text -/
def ownOf (fd : FuncData) (L : Addr) : List Addr := L :: (cellsFrom (L + 1) fd.scope.names []).map (·.2)
def rho (bd : List (Str × D)) : Str → Option D := fun x => bd.lookup x

theorem rho_hit {x d l} : rho ((x, d) :: l) x = some d := by simp [rho, List.lookup_cons]
theorem rho_miss {x y d e l} (h : y ≠ x) (k : rho l y = some e) : rho ((x, d) :: l) y = some e := by
  unfold rho at *
  rw [List.lookup_cons, beq_eq_false_iff_ne.mpr h]; exact k

theorem bindL_get {k : Str → Option NameKind} : ∀ (binds : List (Str × Value)) (m : Str → Option Value) {x v}, (x, v) ∈ binds → (binds.map (·.1)).Nodup → k x = some .local → bindL k binds m x = some v := by
  have keepIt : ∀ (binds : List (Str × Value)) (m : Str → Option Value) {x}, x ∉ binds.map (·.1) → bindL k binds m x = m x := by
    intro binds
    induction binds with
    | nil => intro m x _; rfl
    | cons p r ih =>
      intro m x hx
      obtain ⟨y, v⟩ := p
      simp only [List.map_cons, List.mem_cons, not_or] at hx
      unfold bindL
      rw [ih _ hx.2]
      split <;> simp [hx.1]
  intro binds
  induction binds with
  | nil => intro m x v h; cases h
  | cons p r ih =>
    intro m x v h hn hk
    obtain ⟨y, u⟩ := p
    simp only [List.map_cons, List.nodup_cons] at hn
    unfold bindL
    cases h with
    | head => rw [keepIt _ _ hn.1]; simp [hk]
    | tail _ h => exact ih _ h hn.2 hk
theorem bindC_get {k : Str → Option NameKind} : ∀ (binds : List (Str × Value)) (m : Str → Option Value) {x v}, (x, v) ∈ binds → (binds.map (·.1)).Nodup → k x ≠ some .local → bindC k binds m x = some v := by
  have keepIt : ∀ (binds : List (Str × Value)) (m : Str → Option Value) {x}, x ∉ binds.map (·.1) → bindC k binds m x = m x := by
    intro binds
    induction binds with
    | nil => intro m x _; rfl
    | cons p r ih =>
      intro m x hx
      obtain ⟨y, v⟩ := p
      simp only [List.map_cons, List.mem_cons, not_or] at hx
      unfold bindC
      rw [ih _ hx.2]
      split <;> simp [hx.1]
  intro binds
  induction binds with
  | nil => intro m x v h; cases h
  | cons p r ih =>
    intro m x v h hn hk
    obtain ⟨y, u⟩ := p
    simp only [List.map_cons, List.nodup_cons] at hn
    unfold bindC
    cases h with
    | head => rw [keepIt _ _ hn.1]; simp [hk]
    | tail _ h => exact ih _ h hn.2 hk

/-- what binds say of data -/
inductive SeesB (F : FM) : List (Str × Value) → List (Str × D) → Prop
  | nil : SeesB F [] []
  | cons {x v d bs ds} : Sees F v d → SeesB F bs ds → SeesB F ((x, v) :: bs) ((x, d) :: ds)
theorem SeesB.names {F : FM} {bs ds} (h : SeesB F bs ds) : bs.map (·.1) = ds.map (·.1) := by
  induction h with
  | nil => rfl
  | cons _ _ i => exact congrArg (_ :: ·) i
theorem SeesB.get {F : FM} {bs ds} (h : SeesB F bs ds) {x d} (e : ds.lookup x = some d) : ∃ v, (x, v) ∈ bs ∧ Sees F v d := by
  induction h with
  | nil => cases e
  | @cons y _ _ _ _ sv _ i =>
    rw [List.lookup_cons] at e
    cases hy : x == y with
    | true => rw [hy] at e; cases e; rw [eq_of_beq hy]; exact ⟨_, .head _, sv⟩
    | false => rw [hy] at e; obtain ⟨v, h1, h2⟩ := i e; exact ⟨v, .tail _ h1, h2⟩

/-- how a call's arguments are bound, as data -/
def Binds (g : G) (fd : FuncData) (args : List D) (kws : List (Str × D)) (bd : List (Str × D)) : Prop :=
  ∀ (F : FM) (s : Shared) vs kvs, g.K.In s.heap → SeesAll F vs args → SeesAll F (kvs.map (·.2)) (kws.map (·.2)) → kvs.map (·.1) = kws.map (·.1) → ∃ bs, BindsTo s fd ⟨vs, kvs⟩ bs ∧ SeesB F bs bd

theorem kw_lookup_nodup {l : List (Str × Addr)} : l.Pairwise (fun x y => x.2 ≠ y.2) → (l.map (·.2)).Nodup := fun h => by
  induction l with
  | nil => simp
  | cons p l ih =>
    rw [List.pairwise_cons] at h
    simp only [List.map_cons, List.nodup_cons]
    exact ⟨fun q => by obtain ⟨r, hr, e⟩ := List.mem_map.mp q; exact h.1 r hr e.symm, ih h.2⟩

theorem Calls.enter {fa : Addr} {fo : Obj} {fd : FuncData} {body : List Stmt} {args kws bd Q} (hK : g.K.lookup fa = some fo) (hfo : fo.data = .func fd) (hbody : fd.body = .stmts body) (hclo : fd.closure = [])
    (hglob : fd.globals = mainGlobals) (hblt : fd.builtins = builtinsNs) (hcode : codeIn g.K fd.code fd.qualname = true) (hco : fd.scope.isCoroutine = false) (hgen : fd.scope.isGenerator = false) (hk : fd.scope.kind = .function)
    (hb : Binds g fd args kws bd) {nm : List Str} (hnm : bd.map (·.1) = nm)
    (hnames : (nm.all fun y => fd.scope.names.lookup y == some .local || fd.scope.names.lookup y == some .cell) = true) (hnd : nm.Nodup)
    (hcn : ((cellsFrom 0 fd.scope.names []).map (·.1)).Nodup)
    (h : ∀ env own L, env = callEnvC fd L fa → own = ownOf fd L → Ex (g.push env) env own n (rho bd) μ body fun f _ μ' => match f with
      | .ret d => Q d μ'
      | .next => Q .none μ'
      | _ => False) : Calls g (n + 1) (.val (.ref fa)) args kws μ Q := fun A F s fv vs kvs ok G sf sa sk hkn => by
  obtain rfl := Sees.valI sf
  subst hnm
  have hX : g.K.In s.heap := g.X.keeps G.keep
  obtain ⟨bs, hbs, sb⟩ := hb F s vs kvs hX sa sk hkn
  have hbn := sb.names
  refine wpAny_call (codeAny_call_function ok.room (hX _ _ hK) hfo hco hgen hbody (codeRec_of hX hcode) ?_)
  rw [hclo]
  have hlook : ∀ x v, (x, v) ∈ bs → fd.scope.names.lookup x = some .local ∨ fd.scope.names.lookup x = some .cell := fun x v hx => by
    have : x ∈ bd.map (·.1) := hbn ▸ List.mem_map.mpr ⟨_, hx, rfl⟩
    obtain ⟨y, hy, rfl⟩ := List.mem_map.mp this
    have := List.all_eq_true.mp hnames _ (List.mem_map_of_mem hy)
    rcases Bool.or_eq_true_iff.mp this with q | q
    · exact .inl (by simpa using q)
    · exact .inr (by simpa using q)
  refine hbs _ _ _ _ (wpAny_newFunctionEnv_cells hk (fun x hx => ?_) fun env' he s₁ x => ?_)
  · rcases hlook _ _ hx with q | q
    · exact .inl q
    · exact .inr ⟨q, cellsFrom_some _ _ _ (.inl q)⟩
  have hE : env' = callEnvC fd s.heap.objs.size fa := he
  subst hE
  refine ⟨(g.T.nolimit.keeps fun b o e => x.toInCall.keep b o (G.keep b o e)), codeAny_func ?_⟩
  obtain ⟨h₁, tk, rfl, _⟩ := x.done
  have kp := x.toInCall.keep
  have hG : GSt g μ F h₁ := G.ext kp
  have hsz : ∀ a o, s.heap.get? a = some o → a < s.heap.objs.size := fun a o e => Heap.lt_size e
  have hno : ∀ a ∈ ownOf fd s.heap.objs.size, s.heap.get? a = none := fun a ha => by
    cases hq : s.heap.get? a with
    | none => rfl
    | some o =>
      have hlt := hsz _ _ hq
      cases ha with
      | head => exact absurd hlt (Nat.lt_irrefl _)
      | tail _ ha =>
        obtain ⟨p, hp, rfl⟩ := List.mem_map.mp ha
        have := x.above p.1 p.2 hp
        exact absurd (Nat.lt_trans this hlt) (Nat.lt_irrefl _)
  have hnl : ∀ x c, (x, c) ∈ (callEnvC fd s.heap.objs.size fa).cells → (callEnvC fd s.heap.objs.size fa).cells.lookup x = some c := fun y c hm =>
    lookup_of_mem_nodup (cellsFrom_names fd.scope.names 0 (s.heap.objs.size + 1) [] [] rfl ▸ hcn) hm
  have hFs : FSt (callEnvC fd s.heap.objs.size fa) (ownOf fd s.heap.objs.size) (rho bd) μ F h₁ := by
    refine ⟨⟨hk, hglob, hblt, .head _, kw_lookup_nodup x.apart⟩, ⟨_, x.toInCall.ns⟩, fun y d e => ?_, fun p hp => ⟨_, x.cell _ _ (hnl p.1 p.2 hp)⟩, fun a ha => ?_, fun a ha => ?_, fun a ha q => ?_⟩
    · obtain ⟨v, hv, sv⟩ := sb.get e
      refine ⟨v, ?_, sv⟩
      rcases hlook _ _ hv with q | q
      · exact .inl ⟨q, _, x.toInCall.ns, bindL_get _ _ hv (hbn ▸ hnd) q⟩
      · have hs := cellsFrom_some (x := y) fd.scope.names (s.heap.objs.size + 1) [] (.inl q)
        obtain ⟨c, hc⟩ := Option.isSome_iff_exists.mp hs
        refine .inr ⟨.inl q, c, hc, ?_⟩
        have := x.cell y c hc
        rwa [bindC_get _ _ hv (hbn ▸ hnd) (by show fd.scope.names.lookup y ≠ _; rw [q]; decide)] at this
    · cases hq : F a with
      | none => rfl
      | some o => have := G.fz _ _ hq; rw [hno a ha] at this; cases this
    · cases ha with
      | head => obtain ⟨o, _, _, e, _⟩ := x.toInCall.ns; exact ⟨o, e⟩
      | tail _ ha => obtain ⟨p, hp, rfl⟩ := List.mem_map.mp ha; obtain ⟨o, e, _⟩ := x.cell _ _ (hnl p.1 p.2 hp); exact ⟨o, e⟩
    · obtain ⟨p, hp, rfl⟩ := List.mem_map.mp q
      obtain ⟨_, b⟩ := G.mu p hp
      obtain ⟨o, e1⟩ := b.live
      rw [hno _ ha] at e1; cases e1
  have hfr : FrL (callEnvC fd s.heap.objs.size fa) μ F h₁ := ⟨by show fd.scope.kind ≠ _; rw [hk]; decide, s.heap.objs.size, _, rfl, x.toInCall.ns, hFs.ownF _ (.head _), hFs.muo _ (.head _)⟩
  have t0 : Tr g (ownOf fd s.heap.objs.size) μ μ F F s { s with heap := h₁, toks := tk } := Tr.of_ext kp rfl rfl
  refine wpAny_mono (h _ _ _ rfl rfl _ F { s with heap := h₁, toks := tk } (Ok.deeper ok) (hG.push_frame hfr) hFs) ?_ fun _ _ x => x.elim
  rintro fl s₂ ⟨f, ρ', μ', F', t, G', Fs', sf, hq⟩
  have G' := G'.pop_frame
  have t1 : Tr g [] μ μ' F F' s s₂ := (t0.trans t.pop_frame).mtLe fun a ha => .inr (hno a ha)
  cases fl <;> cases f <;> first
    | exact sf.elim
    | exact hq.elim
    | exact ⟨_, μ', F', t1, G', sf, hq⟩
    | exact ⟨_, μ', F', t1, G', .none, hq⟩
end

open PySem PySem.W PySem.Calls PyProof.Rows
set_option maxRecDepth 20000
section
variable {g : G} {env : Env} {own : List Addr} {n : Nat} {ρ : Str → Option D} {μ : Mu}

theorem Act2.add {a b Q} (h : Q (.int (a + b)) μ) : Act2 g n μ (binaryOp .Add) (.int a) (.int b) Q := fun A F s va vb ok G sa sb => by
  obtain ⟨_, rfl⟩ := Sees.intI sa; obtain ⟨_, rfl⟩ := Sees.intI sb; exact add_int (EvPost.here G rfl rfl rfl (.int _ _) h)
theorem Act2.sub {a b Q} (h : Q (.int (a - b)) μ) : Act2 g n μ (binaryOp .Sub) (.int a) (.int b) Q := fun A F s va vb ok G sa sb => by
  obtain ⟨_, rfl⟩ := Sees.intI sa; obtain ⟨_, rfl⟩ := Sees.intI sb; exact sub_int (EvPost.here G rfl rfl rfl (.int _ _) h)
theorem Act2.mul {a b Q} (hm : IntMulOk a b) (h : Q (.int (a * b)) μ) : Act2 g n μ (binaryOp .Mult) (.int a) (.int b) Q := fun A F s va vb ok G sa sb => by
  obtain ⟨_, rfl⟩ := Sees.intI sa; obtain ⟨_, rfl⟩ := Sees.intI sb; exact mul_int (EvPost.here G rfl rfl rfl (.int _ _) h) hm
theorem Act2.floordiv {a b Q} (hb : b ≠ 0) (hsm : b.natAbs < 1073741824) (h : Q (.int (a.fdiv b)) μ) : Act2 g n μ (binaryOp .FloorDiv) (.int a) (.int b) Q := fun A F s va vb ok G sa sb => by
  obtain ⟨_, rfl⟩ := Sees.intI sa; obtain ⟨_, rfl⟩ := Sees.intI sb; exact floordiv_int hb (EvPost.here G rfl rfl rfl (.int _ _) h) (.inl (PyProof.noPylong_small hsm))
theorem Act2.mod {a b Q} (hb : b ≠ 0) (h : Q (.int (a.fmod b)) μ) : Act2 g n μ (binaryOp .Mod) (.int a) (.int b) Q := fun A F s va vb ok G sa sb => by
  obtain ⟨_, rfl⟩ := Sees.intI sa; obtain ⟨_, rfl⟩ := Sees.intI sb; exact mod_int' hb (EvPost.here G rfl rfl rfl (.int _ _) h)
theorem Act1.neg {a Q} (h : Q (.int (-a)) μ) : Act1 g n μ (unaryOp .USub) (.int a) Q := fun A F s va ok G sa => by
  obtain ⟨_, rfl⟩ := Sees.intI sa; exact neg_int (EvPost.here G rfl rfl rfl (.int _ _) h)
theorem Act2.lt {a b Q} (h : Q (.bool (decide (a < b))) μ) : Act2 g n μ (compareOp .Lt) (.int a) (.int b) Q := fun A F s va vb ok G sa sb => by
  obtain ⟨_, rfl⟩ := Sees.intI sa; obtain ⟨_, rfl⟩ := Sees.intI sb; exact lt_int (EvPost.here G rfl rfl rfl (.bool _) h)
theorem Act2.gt {a b Q} (h : Q (.bool (decide (b < a))) μ) : Act2 g n μ (compareOp .Gt) (.int a) (.int b) Q := fun A F s va vb ok G sa sb => by
  obtain ⟨_, rfl⟩ := Sees.intI sa; obtain ⟨_, rfl⟩ := Sees.intI sb; exact gt_int (EvPost.here G rfl rfl rfl (.bool _) h)
theorem Act2.eq {a b Q} (h : Q (.bool (a == b)) μ) : Act2 g n μ (compareOp .Eq) (.int a) (.int b) Q := fun A F s va vb ok G sa sb => by
  obtain ⟨_, rfl⟩ := Sees.intI sa; obtain ⟨_, rfl⟩ := Sees.intI sb; exact eq_int (EvPost.here G rfl rfl rfl (.bool _) h)
theorem Act2.ne {a b Q} (h : Q (.bool (a != b)) μ) : Act2 g n μ (compareOp .NotEq) (.int a) (.int b) Q := fun A F s va vb ok G sa sb => by
  obtain ⟨_, rfl⟩ := Sees.intI sa; obtain ⟨_, rfl⟩ := Sees.intI sb; exact ne_int (EvPost.here G rfl rfl rfl (.bool _) h)

/-- is it None? -/
def isNone : D → Option Bool
  | .none => some true
  | .bool _ => some false
  | .int _ => some false
  | .str _ => some false
  | .tup _ => some false
  | .lst _ => some false
  | .rng _ _ _ => some false
  | .slc _ _ _ => some false
  | .clo _ _ _ _ _ _ => some false
  | .val v => some (v == .none)
theorem isNone_sees {F v d b} (sv : Sees F v d) (h : isNone d = some b) : (v == Value.none) = b := by
  cases sv <;> simp [isNone] at h <;> first | exact h | (subst h; rfl)
theorem Act2.isnone {a b Q} (hb : isNone a = some b) (h : Q (.bool b) μ) : Act2 g n μ (compareOp .Is) a .none Q := fun A F s va vb ok G sa sb => by
  obtain rfl := Sees.noneI sb; exact is_none_gen (EvPost.here G rfl rfl rfl (by rw [isNone_sees sa hb]; exact .bool _) h)
theorem Act2.isnotnone {a b Q} (hb : isNone a = some b) (h : Q (.bool (!b)) μ) : Act2 g n μ (compareOp .IsNot) a .none Q := fun A F s va vb ok G sa sb => by
  obtain rfl := Sees.noneI sb; exact isnot_none_gen (EvPost.here G rfl rfl rfl (by rw [isNone_sees sa hb]; exact .bool _) h)

/-- a list, frozen or not -/
def Rd (μ : Mu) (d : D) (ds : List D) : Prop := d = .lst ds ∨ ∃ a, d = .val (.ref a) ∧ (a, MO.ml ds) ∈ μ
theorem Rd.lst {ds} : Rd μ (.lst ds) ds := .inl rfl
theorem Rd.at {F h v d ds} (G : GSt g μ F h) (sv : Sees F v d) (r : Rd μ d ds) : ∃ a vs k, v = .ref a ∧ h.get? a = some { cls := .type "list", dict := Option.none, data := .seq vs k, slots := #[] } ∧ SeesAll F vs.toList ds := by
  rcases r with rfl | ⟨a, rfl, hm⟩
  · obtain ⟨e, r⟩ := Sees.lstI sv; exact ⟨_, _, _, rfl, G.fz _ _ e, r⟩
  · obtain rfl := Sees.valI sv
    obtain ⟨_, o, e, vs, k, rfl, r⟩ := G.mu _ hm
    exact ⟨a, vs, k, rfl, e, r⟩
theorem Rd.isList {F h v d ds} (G : GSt g μ F h) (sv : Sees F v d) (r : Rd μ d ds) : ∃ a vs, v = .ref a ∧ h.IsList a vs ∧ SeesAll F vs.toList ds := by
  obtain ⟨a, vs, k, e, ho, sa⟩ := r.at G sv
  exact ⟨a, vs, e, ⟨_, ho, rfl, k, rfl⟩, sa⟩
theorem SeesAll.size {F vs ds} (h : SeesAll F (vs : Array Value).toList ds) : vs.size = ds.length := by rw [← h.length]; simp

/-- a place of a sequence, from the front or the back -/
def idx? (ds : List D) (k : Int) : Option D := if 0 ≤ k then ds[k.toNat]? else if -(ds.length : Int) ≤ k then ds[(ds.length + k).toNat]? else Option.none

theorem idx?_nat {ds : List D} {k : Nat} : idx? ds (k : Int) = ds[k]? := by
  unfold idx?; rw [if_pos (Int.natCast_nonneg k), Int.toNat_natCast]
set_option tactic.hygienic true in
theorem Act2.item {o k ds d value slice Q} (hr : Rd μ o ds) (hd : idx? ds k = some d) (hl : (ds.length : Int) < 2 ^ 62) (h : Q d μ) (hs : ∀ o i, subscripted slice false o i = operate [o, i] (getItem o i)) :
    Act2 g n μ (subscriptTail value slice) o (.int k) Q := fun A F s va vb ok G sa sb => by
  obtain ⟨_, rfl⟩ := Sees.intI sb
  obtain ⟨a, vs, rfl, hL, sds⟩ := hr.isList G sa
  have hsz := sds.size
  unfold idx? at hd
  split at hd
  · rename_i h0
    obtain ⟨v, hv, sv⟩ := sds.get hd
    have hlt : k.toNat < ds.length := by
      cases hq : ds[k.toNat]? with
      | none => rw [hq] at hd; cases hd
      | some x => exact (List.getElem?_eq_some_iff.mp hq).1
    exact tail_any hL.typeIs slot_list_getitem.lookup (wpAny_getItem_list hL h0 (by lia) (by simpa using hv) (EvPost.here G rfl rfl rfl sv h)) (hs _ _)
  · split at hd
    · rename_i h0 h1
      obtain ⟨v, hv, sv⟩ := sds.get hd
      refine tail_any hL.typeIs slot_list_getitem.lookup (wpAny_getItem_list_neg hL (by lia) (by rw [hsz]; lia) (by lia) ?_ (EvPost.here G rfl rfl rfl sv h)) (hs _ _)
      rw [hsz, Int.add_comm]; simpa using hv
    · cases hd
set_option tactic.hygienic true in
theorem Act2.itemT {k ds d value slice Q} (hd : idx? ds k = some d) (hl : (ds.length : Int) < 2 ^ 62) (h : Q d μ) (hs : ∀ o i, subscripted slice false o i = operate [o, i] (getItem o i)) :
    Act2 g n μ (subscriptTail value slice) (.tup ds) (.int k) Q := fun A F s va vb ok G sa sb => by
  obtain ⟨_, rfl⟩ := Sees.intI sb
  obtain @⟨a, vs, nn, e, sds⟩ := Sees.tupI sa
  have hT : IsTup s.heap a vs := ⟨_, G.fz _ _ e, rfl, _, rfl⟩
  have hsz := sds.size
  unfold idx? at hd
  split at hd
  · rename_i h0
    obtain ⟨v, hv, sv⟩ := sds.get hd
    have hlt : k.toNat < ds.length := by
      cases hq : ds[k.toNat]? with
      | none => rw [hq] at hd; cases hd
      | some x => exact (List.getElem?_eq_some_iff.mp hq).1
    refine tail_any hT.typeIs slot_tuple_getitem.lookup (getItem_tuple hT (by lia) (by lia) (j := k.toNat) ?_ (by simpa using hv) (EvPost.here G rfl rfl rfl sv h)) (hs _ _)
    rw [hsz]; unfold seqIndex?; simp; lia
  · split at hd
    · rename_i h0 h1
      obtain ⟨v, hv, sv⟩ := sds.get hd
      refine tail_any hT.typeIs slot_tuple_getitem.lookup (getItem_tuple hT (by lia) (by lia) (j := (ds.length + k).toNat) ?_ (by simpa using hv) (EvPost.here G rfl rfl rfl sv h)) (hs _ _)
      rw [hsz, Int.add_comm]; exact seqIndex_neg (by lia) (by lia)
    · cases hd

theorem Ev.sub {value slice pos Q} (h : Ev g env own n ρ μ value (K2 g env own n ρ slice (subscriptTail value slice) Q)) :
    Ev g env own n ρ μ (.Subscript value slice pos) Q := fun A F s ok G Fs =>
  Subscript_ (wp_seq h ok G Fs fun vo o μ₁ F₁ s₁ t₁ G₁ Fs₁ so h₁ => wp_seq h₁ ok G₁ Fs₁ fun vi i μ₂ F₂ s₂ t₂ G₂ Fs₂ si h₂ =>
    post_weak (t₁.trans t₂) (h₂ A F₂ s₂ vo vi ok G₂ (so.mono t₂.le) si))

/-- a call of a built-in, off its value rule -/
theorem Calls.of1 {f a : D} {Q} (h : ∀ A F s fv va, Ok g n A → GSt g μ F s.heap → Sees F fv f → Sees F va a → wpAny (model g.prog g.w) A (call fv [va]) (EvPost g μ s F Q) (fun _ _ => False) s) :
    Calls g n f [a] [] μ Q := fun A F s fv vs kvs ok G sf sa sk hk => by
  obtain ⟨_, _, rfl, sa', r⟩ := SeesAll.consI sa
  obtain rfl := SeesAll.nilI r
  cases kvs with
  | cons _ _ => cases hk
  | nil => exact h A F s fv _ ok G sf sa'
theorem Calls.of2 {f a b : D} {Q} (h : ∀ A F s fv va vb, Ok g n A → GSt g μ F s.heap → Sees F fv f → Sees F va a → Sees F vb b → wpAny (model g.prog g.w) A (call fv [va, vb]) (EvPost g μ s F Q) (fun _ _ => False) s) :
    Calls g n f [a, b] [] μ Q := fun A F s fv vs kvs ok G sf sa sk hk => by
  obtain ⟨_, _, rfl, sa', r⟩ := SeesAll.consI sa
  obtain ⟨_, _, rfl, sb, r⟩ := SeesAll.consI r
  obtain rfl := SeesAll.nilI r
  cases kvs with
  | cons _ _ => cases hk
  | nil => exact h A F s fv _ _ ok G sf sa' sb

theorem upd_same {ρ : Str → Option D} {x d} : upd ρ x d x = some d := by simp [upd]
theorem upd_ne {ρ : Str → Option D} {x y d e} (h : y ≠ x) (k : ρ y = some e) : upd ρ x d y = some e := by simp [upd, h, k]
theorem TBool.of {Q : Bool → Mu → Prop} {b : Bool} {μ} (h : Q b μ) : TBool Q (.bool b) μ := ⟨b, rfl, h⟩
theorem next_of {P R : Prop} (h : P) : (Fl.next = Fl.next → P) ∧ (Fl.next ≠ Fl.next → R) := ⟨fun _ => h, fun q => absurd rfl q⟩
theorem ret_of {P R : Prop} {d : D} (h : R) : (Fl.ret d = Fl.next → P) ∧ (Fl.ret d ≠ Fl.next → R) := ⟨fun q => by (cases q), fun _ => h⟩
theorem tt_of {P R : Prop} (h : P) : (true = true → P) ∧ (true = false → R) := ⟨fun _ => h, fun q => by (cases q)⟩
theorem ff_of {P R : Prop} (h : R) : (false = true → P) ∧ (false = false → R) := ⟨fun q => by (cases q), fun _ => h⟩
theorem dec_of {c : Prop} [Decidable c] {P R : Prop} (h : c → P) (k : ¬ c → R) : (decide c = true → P) ∧ (decide c = false → R) := ⟨fun q => h (of_decide_eq_true q), fun q => k (of_decide_eq_false q)⟩
theorem bindable_local {x : Str} (h : env.kindOf x = some .local) : Bindable env own x := .inl h
theorem Ex.seq {st rest Q} (R : (Str → Option D) → Mu → Prop) (h : Ex1 g env own n ρ μ st fun f ρ' μ' => f = .next ∧ R ρ' μ') (k : ∀ ρ' μ', R ρ' μ' → Ex g env own n ρ' μ' rest Q) : Ex g env own n ρ μ (st :: rest) Q := by
  refine Ex.cons fun A F s ok G Fs => wpAny_mono (h A F s ok G Fs) ((by rintro fl s' ⟨f, ρ', μ', F', t, G', Fs', sf, e, r⟩; exact ⟨f, ρ', μ', F', t, G', Fs', sf, fun _ => k _ _ r, fun q => absurd e q⟩)) fun _ _ x => x
theorem kind_of {fd : FuncData} {L a : Addr} {x : Str} {k : Option NameKind} (he : env = callEnvC fd L a) (e : fd.scope.names.lookup x = k) : env.kindOf x = k := by subst he; exact e
theorem ns_of {K : Frag} {x : Str} {r} (hK : g.K = K) (e : nsIn K mainGlobals x = r) : nsIn g.K mainGlobals x = r := by rw [hK]; exact e
theorem len_D {o ds Q} (hr : Rd μ o ds) (hl : (ds.length : Int) < 2 ^ 62) (h : Q (.int ds.length) μ) : Calls g n (.val (.builtin "len")) [o] [] μ Q := by
  refine Calls.of1 fun A F s fv va ok G sf sa => ?_
  obtain rfl := Sees.valI sf
  obtain ⟨a, vs, rfl, hL, sds⟩ := hr.isList G sa
  have hsz := sds.size
  exact call_len_list hL (by lia) (EvPost.here G rfl rfl rfl (by rw [hsz]; exact .int _ _) h)
end

open PySem PySem.W PySem.Calls PyProof.Rows
set_option maxRecDepth 20000
section
variable {g : G} {env : Env} {own : List Addr} {n : Nat} {ρ : Str → Option D} {μ : Mu}

/-- a new object, frozen at once -/
def put (F : FM) (a : Addr) (o : Obj) : FM := fun b => if b = a then some o else F b
theorem put_same {F : FM} {a o} : put F a o a = some o := by simp [put]
theorem put_ne {F : FM} {a b o} (h : b ≠ a) : put F a o b = F b := by simp [put, h]
theorem put_le {F : FM} {a o} (h : F a = none) : ∀ b x, F b = some x → put F a o b = some x := fun b x e => by
  by_cases hb : b = a
  · subst hb; rw [h] at e; cases e
  · rw [put_ne hb]; exact e
theorem GSt.none_size {F h} (G : GSt g μ F h) : F h.objs.size = none := by
  cases hq : F h.objs.size with
  | none => rfl
  | some o => exact absurd (Heap.lt_size (G.fz _ _ hq)) (Nat.lt_irrefl _)
theorem get_size {h : Heap} : h.get? h.objs.size = none := by
  cases hq : h.get? h.objs.size with
  | none => rfl
  | some o => exact absurd (Heap.lt_size hq) (Nat.lt_irrefl _)

theorem GSt.made {F h} (G : GSt g μ F h) (o : Obj) (hf : o.isFreed = false) : GSt g μ (put F h.objs.size o) (h.push o) := by
  have hle := put_le (o := o) G.none_size
  have hk : ∀ b x, h.get? b = some x → (h.push o).get? b = some x := fun b x e => Heap.get?_push_of_some _ e
  refine ⟨fun a x e => hle _ _ (G.base a x e), fun a x e => ?_, fun q hq => ?_, fun p hp => ?_, G.nd, fun c hc => (by obtain ⟨o, e⟩ := G.fzc c hc; exact ⟨o, hle _ _ e⟩), G.dj, fun x hx => ?_⟩
  rotate_right
  · obtain ⟨hk', L, m, hf, hns, hF', hm'⟩ := G.stk x hx
    refine ⟨hk', L, m, hf, ?_, ?_, hm'⟩
    · obtain ⟨o', es, ep, ho, r⟩ := hns; exact ⟨o', es, ep, hk _ _ ho, r⟩
    · obtain ⟨o', es, ep, ho, r⟩ := hns; rw [put_ne (Nat.ne_of_lt (Heap.lt_size ho))]; exact hF'
  · by_cases hb : a = h.objs.size
    · subst hb; rw [put_same] at e; cases e; exact Heap.get?_push_size _ hf
    · rw [put_ne hb] at e; exact hk _ _ (G.fz _ _ e)
  · obtain ⟨a, ps, b, c, d⟩ := G.tb q hq
    refine ⟨?_, ps, hk _ _ b, c, fun pos cv z => (d pos cv z).mono hle⟩
    rw [put_ne (Nat.ne_of_lt (Heap.lt_size b))]; exact a
  · obtain ⟨a, b⟩ := G.mu p hp
    obtain ⟨o, e⟩ := b.live
    refine ⟨?_, b.move hle (fun o => hk _ o)⟩
    rw [put_ne (Nat.ne_of_lt (Heap.lt_size e))]; exact a
theorem Tr.made {mt F s o h' tk} (G : GSt g μ F s.heap) (hh : h' = s.heap.push o) : Tr g mt μ μ F (put F s.heap.objs.size o) s { s with heap := h', toks := tk } := by
  subst hh
  refine ⟨fun b x e _ _ _ => ⟨x, Heap.get?_push_of_some _ e, .refl x⟩, fun b x e => ⟨x, Heap.get?_push_of_some _ e⟩, put_le G.none_size, fun a => ?_, fun _ h => .inl h, rfl, rfl⟩
  by_cases hb : a = s.heap.objs.size
  · subst hb; exact .inr (.inr (.inr get_size))
  · rw [put_ne hb]; cases hF : F a with
    | none => exact .inl rfl
    | some x => exact .inr (.inl (by simp))
theorem EvPost.made {s : Shared} {F : FM} {Q : D → Mu → Prop} {d : D} {o : Obj} {h' : Heap} {tk : Tok} (G : GSt g μ F s.heap) (hf : o.isFreed = false) (hh : h' = s.heap.push o) (hv : Sees (put F s.heap.objs.size o) (.ref s.heap.objs.size) d)
    (hQ : Q d μ) : EvPost g μ s F Q (.ref s.heap.objs.size) { s with heap := h', toks := tk } :=
  ⟨d, μ, _, Tr.made G hh, by rw [hh]; exact G.made o hf, hv, hQ⟩

abbrev listObj (vs : Array Value) : Obj := { cls := .type "list", data := .seq vs }
theorem EvPost.newlist {s : Shared} {F : FM} {Q : D → Mu → Prop} {vs : Array Value} {ds : List D} {h' : Heap} {tk : Tok} (G : GSt g μ F s.heap) (hh : h' = s.heap.push (listObj vs)) (sa : SeesAll F vs.toList ds) (hQ : Q (.lst ds) μ) :
    EvPost g μ s F Q (.ref s.heap.objs.size) { s with heap := h', toks := tk } :=
  EvPost.made G rfl hh (.lst put_same (sa.mono (put_le G.none_size))) hQ

/-- a new list that stays ours to change -/
theorem EvPost.newmut {s : Shared} {F : FM} {Q : D → Mu → Prop} {vs : Array Value} {ds : List D} {h' : Heap} {tk : Tok} (G : GSt g μ F s.heap) (hh : h' = s.heap.push (listObj vs)) (sa : SeesAll F vs.toList ds)
    (hQ : ∀ a, a ∉ μ.dom → Q (.val (.ref a)) ((a, .ml ds) :: μ)) :
    EvPost g μ s F Q (.ref s.heap.objs.size) { s with heap := h', toks := tk } := by
  subst hh
  have hk : ∀ b x, s.heap.get? b = some x → (s.heap.push (listObj vs)).get? b = some x := fun b x e => Heap.get?_push_of_some _ e
  have hnd : s.heap.objs.size ∉ μ.dom := fun q => by
    obtain ⟨p, hp, e⟩ := List.mem_map.mp q
    obtain ⟨_, b⟩ := G.mu p hp
    obtain ⟨o, e1⟩ := b.live
    rw [e, get_size] at e1; cases e1
  refine ⟨_, _, F, ⟨fun b x e _ _ _ => ⟨x, hk _ _ e, .refl x⟩, fun b x e => ⟨x, hk _ _ e⟩, fun _ _ e => e, (Tr.refl (g := g) (mt := []) (μ := μ) (s := s)).fr, fun a ha => ?_, rfl, rfl⟩, ?_, .val _, hQ _ hnd⟩
  · simp only [Mu.dom, List.map_cons, List.mem_cons] at ha
    rcases ha with rfl | ha
    · exact .inr get_size
    · exact .inl ha
  · have G' := G.ext hk
    refine ⟨G'.base, G'.fz, G'.tb, fun p hp => ?_, ?_, G'.fzc, fun a ha => ?_, fun x hx => ?_⟩
    rotate_right
    · obtain ⟨hk', L, m, hf, hns, hF', hm'⟩ := G.stk x hx
      refine ⟨hk', L, m, hf, ?_, hF', fun q => ?_⟩
      · obtain ⟨o', es, ep, ho, r⟩ := hns; exact ⟨o', es, ep, hk _ _ ho, r⟩
      · cases q with
        | head => obtain ⟨o', es, ep, ho, r⟩ := hns; rw [get_size] at ho; cases ho
        | tail _ q => exact hm' q
    · cases hp with
      | head => exact ⟨G.none_size, _, Heap.get?_push_size _ rfl, vs, 0, rfl, sa⟩
      | tail _ hp => exact G'.mu p hp
    · simp only [Mu.dom, List.map_cons, List.nodup_cons]
      exact ⟨hnd, G.nd⟩
    · simp only [Mu.dom, List.map_cons, List.mem_cons] at ha
      rcases ha with rfl | ha
      · intro q
        obtain ⟨p, hp, e⟩ := List.mem_map.mp q
        obtain ⟨_, ps, b, _⟩ := G.tb p hp
        rw [e, get_size] at b; cases b
      · exact G.dj a ha

abbrev ListK (Q : D → Mu → Prop) : List D → Mu → Prop := fun ds μ₁ => ds.length ≤ 1000 ∧ Q (.lst ds) μ₁
abbrev TupK (Q : D → Mu → Prop) : List D → Mu → Prop := fun ds μ₁ => ds.length ≤ 1000 ∧ Q (.tup ds) μ₁
abbrev PK (Q : Option Int → Mu → Prop) : D → Mu → Prop := fun d μ₁ => ∃ i, d = .int i ∧ Q (some i) μ₁
theorem Ev.list {es pos Q} (h : EvL g env own n ρ es μ (ListK Q)) : Ev g env own n ρ μ (.List es pos) Q := fun A F s ok G Fs =>
  wpAny_List (wpAny_mono (evl ok es h G Fs) ((by rintro vs s₁ ⟨ds, μ₁, F₁, t₁, G₁, sds, hz, hq⟩; exact ⟨by have := sds.length; simp [sizeLine]; lia, (EvPost.newlist (tk := s₁.toks) G₁ rfl (by simpa using sds) hq).trans t₁⟩)) fun _ _ x => x)
theorem Ev.listM {es pos Q} (h : EvL g env own n ρ es μ fun ds μ₁ => ds.length ≤ 1000 ∧ ∀ a, a ∉ μ₁.dom → Q (.val (.ref a)) ((a, .ml ds) :: μ₁)) : Ev g env own n ρ μ (.List es pos) Q := fun A F s ok G Fs =>
  wpAny_List (wpAny_mono (evl ok es h G Fs) ((by rintro vs s₁ ⟨ds, μ₁, F₁, t₁, G₁, sds, hz, hq⟩; exact ⟨by have := sds.length; simp [sizeLine]; lia, (EvPost.newmut (tk := s₁.toks) G₁ rfl (by simpa using sds) hq).trans t₁⟩)) fun _ _ x => x)
theorem Ev.tuple {es k pos Q} (h : EvL g env own n ρ es μ (TupK Q)) : Ev g env own n ρ μ (.Tuple es k pos) Q := fun A F s ok G Fs =>
  wpAny_Tuple (wpAny_mono (evl ok es h G Fs) (fun vs s₁ ⟨ds, μ₁, F₁, t₁, G₁, sds, hz, hq⟩ => ⟨by have := sds.length; simp [sizeLine]; lia, (EvPost.made (tk := s₁.toks) (d := .tup ds) G₁ rfl rfl
      (.tup put_same (by simpa using sds.mono (put_le G₁.none_size))) hq).trans t₁⟩) fun _ _ x => x)

theorem FM.fr (h₀ : Heap) : True := trivial

theorem Act2.cat {a b xs ys Q} (ra : Rd μ a xs) (rb : Rd μ b ys) (hz : xs.length + ys.length ≤ 100000) (h : Q (.lst (xs ++ ys)) μ) : Act2 g n μ (binaryOp .Add) a b Q := fun A F s va vb ok G sa sb => by
  obtain ⟨l, vs, k, rfl, ho, sxs⟩ := ra.at G sa
  obtain ⟨l2, ws, k2, rfl, ho2, sys⟩ := rb.at G sb
  have z1 := sxs.size; have z2 := sys.size
  refine concat_meets ⟨_, ho, rfl⟩ ⟨_, ho2, rfl⟩ noFill_list_add seq_list_add PySem.F.slot_list_add PySem.F.entry_list_add (PySem.F.args_list_add_2 _ _) (list_addW l l2 vs ws k k2 none none #[] #[] (by unfold sizeLine; lia)) ⟨ho, ho2, ?_⟩
  exact EvPost.newlist (tk := s.toks) G rfl (by simpa using sxs.append sys) h

theorem SeesAll.replicate {F vs ds} (h : SeesAll F vs ds) : ∀ k, SeesAll F (List.replicate k vs).flatten (List.replicate k ds).flatten
  | 0 => .nil
  | k + 1 => by simp only [List.replicate_succ, List.flatten_cons]; exact h.append (SeesAll.replicate h k)
theorem foldl_flat {α : Type} : ∀ (l : List (Array α)) (a : Array α), (l.foldl (fun x y => x ++ y) a).toList = a.toList ++ (l.map (·.toList)).flatten
  | [], a => by simp
  | x :: l, a => by rw [List.foldl_cons, foldl_flat l]; simp
set_option tactic.hygienic true in
theorem Act2.rep {a xs} {x : Int} {Q} (ra : Rd μ a xs) (h0 : 0 ≤ x) (hz : xs.length * x.toNat ≤ 100000) (hx : x < 2 ^ 62) (h : Q (.lst (List.replicate x.toNat xs).flatten) μ) : Act2 g n μ (binaryOp .Mult) a (.int x) Q := fun A F s va vb ok G sa sb => by
  obtain ⟨_, rfl⟩ := Sees.intI sb
  rename_i u
  obtain ⟨l, vs, k, rfl, hl, sxs⟩ := ra.at G sa
  have z1 := sxs.size
  have hz' : vs.size * x.toNat ≤ 100000 := by rw [z1]; exact hz
  refine wpAny_binaryOp_repeat_ref (T := "list") (U := "int") (by decide) ⟨_, hl, rfl⟩ (fun s' => typeIs_int s' x u) noFill_list_mul PySem.F.fills_int_mul PySem.F.slot_int_rmul repeat_list PySem.F.slot_int_index.lookup
    (call_meets PySem.F.slot_int_rmul (typeIs_int s x u) PySem.F.entry_int_rmul (PySem.F.args_int_rmul_2 _ _) (int___rmul___int_list x u l vs k)
      ⟨hl, rfl, ⟨_, hl, rfl⟩, call_meets PySem.F.slot_list_mul ⟨_, hl, rfl⟩ PySem.F.entry_list_mul (PySem.F.args_list_mul_2 _ _)
        (AutoListH.list___mul___list_int_3 l vs k x u (by simp [Builtin.List.listFitsIndex]; lia) (by lia) (by simp [Builtin.List.listTooLong, sizeLine]; lia))
        ⟨hl, EvPost.newlist (tk := s.toks) G rfl ?_ h⟩⟩)
  rw [foldl_flat]
  by_cases he : vs.isEmpty = true
  · have : xs = [] := by
      have : vs.size = 0 := by simpa using he
      exact List.eq_nil_of_length_eq_zero (by lia)
    subst this
    simp only [he, if_true, List.replicate_zero, List.map_nil, List.flatten_nil]
    simpa using SeesAll.nil
  · simp only [he]
    simpa using sxs.replicate x.toNat

/-! slices -/
def dpick (ds : List D) (lo hi st : Option Int) : List D :=
  (sliceRange (sliceBounds lo hi st ds.length).1 (sliceBounds lo hi st ds.length).2.1 (sliceBounds lo hi st ds.length).2.2).filterMap (ds[·]?)
theorem SeesAll.pickIdx {F vs ds} (h : SeesAll F vs ds) : ∀ is : List Nat, SeesAll F (is.filterMap (vs[·]?)) (is.filterMap (ds[·]?))
  | [] => .nil
  | i :: is => by
    cases hd : ds[i]? with
    | none =>
      have : vs[i]? = Option.none := by
        have := h.length
        rw [List.getElem?_eq_none_iff] at hd ⊢; lia
      simp only [List.filterMap_cons, hd, this]
      exact h.pickIdx is
    | some d =>
      obtain ⟨v, hv, sv⟩ := h.get hd
      simp only [List.filterMap_cons, hd, hv]
      exact .cons sv (h.pickIdx is)
theorem SeesAll.pick {F} {vs : Array Value} {ds} (h : SeesAll F vs.toList ds) (lo hi st) : SeesAll F (slicePick vs lo hi st).toList (dpick ds lo hi st) := by
  unfold slicePick dpick
  rw [h.size]
  simpa using h.pickIdx _
theorem Act2.slice {o ds lo hi st value slice Q} (hr : Rd μ o ds) (h0 : st ≠ some 0) (hz : ds.length ≤ 100000) (h : Q (.lst (dpick ds lo hi st)) μ)
    (hs : ∃ ops : Value → Value → List Value, ∀ o i, subscripted slice false o i = operate (ops o i) (getItem o i)) : Act2 g n μ (subscriptTail value slice) o (.slc lo hi st) Q := fun A F s va vb ok G sa sb => by
  obtain ⟨l, vs, k, rfl, hl, sds⟩ := hr.at G sa
  obtain ⟨ops, hs⟩ := hs
  have z := sds.size
  obtain @⟨_, _, _, _, e, p1, p2, p3⟩ := Sees.slcI sb
  have hL : s.heap.IsList l vs := ⟨_, hl, rfl, _, rfl⟩
  refine tail_any hL.typeIs slot_list_getitem.lookup (wpAny_getItem_list_slice hL ⟨_, G.fz _ _ e, rfl, rfl⟩ p1 p2 p3 h0 (EvPost.newlist (tk := s.toks) G rfl (sds.pick lo hi st) h) (by unfold sizeLine; lia)) (hs _ _)
theorem ops_step {l u s p} : ∃ ops : Value → Value → List Value, ∀ o i, subscripted (.Slice l u (some s) p) false o i = operate (ops o i) (getItem o i) := ⟨fun o i => [o, i], fun _ _ => rfl⟩
theorem ops_plain {l u p} : ∃ ops : Value → Value → List Value, ∀ o i, subscripted (.Slice l u Option.none p) false o i = operate (ops o i) (getItem o i) := ⟨fun o i => [i, o], fun _ _ => rfl⟩

/-- a part of a slice -/
def EvP (g : G) (env : Env) (own : List Addr) (n : Nat) (ρ : Str → Option D) (μ : Mu) : Option Expr → (Option Int → Mu → Prop) → Prop
  | Option.none, Q => Q Option.none μ
  | some e, Q => Ev g env own n ρ μ e (PK Q)
theorem evp {A : Around} (ok : Ok g n A) {e : Option Expr} {Q F s} (h : EvP g env own n ρ μ e Q) (G : GSt g μ F s.heap) (Fs : FSt env own ρ μ F s.heap) :
    wpAny (model g.prog g.w) A (evalPart e env) (fun v s' => ∃ k μ' F', Tr g [] μ μ' F F' s s' ∧ GSt g μ' F' s'.heap ∧ FSt env own ρ μ' F' s'.heap ∧ IsPart v k ∧ Q k μ') (fun _ _ => False) s := by
  cases e with
  | none => rw [evalPart_none]; exact wpAny_pure ⟨_, μ, F, .refl, G, Fs, .none, h⟩
  | some e =>
    rw [evalPart_some]
    refine wp_seq (show Ev g env own n ρ μ e _ from h) ok G Fs fun v d μ₁ F₁ s₁ t₁ G₁ Fs₁ sv hq => ?_
    obtain ⟨i, rfl, hq⟩ := hq
    obtain ⟨_, rfl⟩ := Sees.intI sv
    exact ⟨_, μ₁, F₁, t₁, G₁, Fs₁, .int _ _, hq⟩
abbrev SK3 (a b : Option Int) (Q : D → Mu → Prop) : Option Int → Mu → Prop := fun c μ₃ => Q (.slc a b c) μ₃
abbrev SK2 (g : G) (env : Env) (own : List Addr) (n : Nat) (ρ : Str → Option D) (st : Option Expr) (a : Option Int) (Q : D → Mu → Prop) : Option Int → Mu → Prop := fun b μ₂ => EvP g env own n ρ μ₂ st (SK3 a b Q)
abbrev SK1 (g : G) (env : Env) (own : List Addr) (n : Nat) (ρ : Str → Option D) (u st : Option Expr) (Q : D → Mu → Prop) : Option Int → Mu → Prop := fun a μ₁ => EvP g env own n ρ μ₁ u (SK2 g env own n ρ st a Q)
theorem Ev.slc {l u st p Q} (h : EvP g env own n ρ μ l (SK1 g env own n ρ u st Q)) : Ev g env own n ρ μ (.Slice l u st p) Q := fun A F s ok G Fs => by
  refine wpAny_Slice (wpAny_mono (evp ok h G Fs) ?_ fun _ _ x => x)
  rintro va s₁ ⟨a, μ₁, F₁, t₁, G₁, Fs₁, pa, h₁⟩
  refine wpAny_mono (evp ok h₁ G₁ Fs₁) ?_ fun _ _ x => x
  rintro vb s₂ ⟨b, μ₂, F₂, t₂, G₂, Fs₂, pb, h₂⟩
  refine wpAny_mono (evp ok h₂ G₂ Fs₂) ?_ fun _ _ x => x
  rintro vc s₃ ⟨c, μ₃, F₃, t₃, G₃, Fs₃, pc, h₃⟩
  exact (EvPost.made (tk := s₃.toks) G₃ rfl rfl (.slc put_same pa pb pc) h₃).trans ((t₁.trans t₂).trans t₃)

/-! equality -/
mutual
def toPy : D → Option PyData
  | .none => some .none
  | .bool b => some (.bool b)
  | .int i => some (.int i)
  | .str x => if PyData.strOk x then some (.str x) else Option.none
  | .tup ds => (toPys ds).map .tuple
  | .lst ds => (toPys ds).map .list
  | _ => Option.none
def toPys : List D → Option (List PyData)
  | [] => some []
  | d :: ds => match toPy d, toPys ds with
    | some p, some ps => some (p :: ps)
    | _, _ => Option.none
end
theorem Sees.reads {F : FM} {h : Heap} (k : ∀ a o, F a = some o → h.get? a = some o) {v d} (x : Sees F v d) : ∀ {p}, toPy d = some p → (∃ as, Reads h v p as) ∧ p.canLay0 = true := by
  refine Sees.rec (motive_1 := fun v d _ => ∀ {p}, toPy d = some p → (∃ as, Reads h v p as) ∧ p.canLay0 = true) (motive_2 := fun _ _ _ => True)
    (motive_3 := fun vs ds _ => ∀ {ps}, toPys ds = some ps → (∃ as, ReadsAll h vs ps as) ∧ PyData.canLayAll0 ps = true) (fun e => ?_) (fun b p e => ?_) (fun i t p e => ?_) (fun w t p e => ?_) (fun e0 _ ih p e => ?_) (fun e0 _ ih p e => ?_)
    (fun _ _ _ _ p e => nomatch (show (Option.none : Option PyData) = some p from e)) (fun _ p e => nomatch (show (Option.none : Option PyData) = some p from e)) (fun _ _ _ _ _ _ p e => nomatch (show (Option.none : Option PyData) = some p from e)) (fun _ p e => nomatch (show (Option.none : Option PyData) = some p from e))
    trivial (fun _ _ _ _ _ _ => trivial) (fun e => ?_) (fun {_ _ d ds} _ _ ix ir ps e => ?_) x
  · cases (show some PyData.none = some _ from e); exact ⟨⟨_, .none⟩, rfl⟩
  · cases (show some (PyData.bool b) = some _ from e); exact ⟨⟨_, .bool b⟩, rfl⟩
  · cases (show some (PyData.int i) = some _ from e); exact ⟨⟨_, .int i t⟩, rfl⟩
  · have e : (if PyData.strOk w then some (PyData.str w) else Option.none) = some p := e
    cases hw : PyData.strOk w with
    | true => rw [hw] at e; cases e; exact ⟨⟨_, .str w t⟩, hw⟩
    | false => rw [hw] at e; cases e
  · obtain ⟨ps, e1, rfl⟩ := Option.map_eq_some_iff.mp (show (toPys _).map PyData.tuple = some p from e)
    obtain ⟨⟨as, h1⟩, h2⟩ := ih e1
    exact ⟨⟨_, .tuple (k _ _ e0) rfl rfl h1⟩, h2⟩
  · obtain ⟨ps, e1, rfl⟩ := Option.map_eq_some_iff.mp (show (toPys _).map PyData.list = some p from e)
    obtain ⟨⟨as, h1⟩, h2⟩ := ih e1
    exact ⟨⟨_, .list (k _ _ e0) rfl rfl h1⟩, h2⟩
  · cases (show some [] = some _ from e); exact ⟨⟨_, .nil⟩, rfl⟩
  · rw [toPys] at e
    cases e1 : toPy d with
    | none => rw [e1] at e; cases e
    | some p =>
      cases e2 : toPys ds with
      | none => rw [e1, e2] at e; cases e
      | some qs =>
        rw [e1, e2] at e; cases e
        obtain ⟨⟨as, h1⟩, h2⟩ := ix e1
        obtain ⟨⟨bs, h3⟩, h4⟩ := ir e2
        exact ⟨⟨_, .cons h1 h3⟩, Bool.and_eq_true_iff.mpr ⟨h2, h4⟩⟩
theorem Act2.neD {a b p q Q} (ha : toPy a = some p) (hb : toPy b = some q) (hd : p.depth ≤ 20) (h : Q (.bool (!PyData.eqv p q)) μ) : Act2 g n μ (compareOp .NotEq) a b Q := fun A F s va vb ok G sa sb => by
  obtain ⟨⟨as, ra⟩, la⟩ := sa.reads G.fz ha
  obtain ⟨⟨bs, rb⟩, lb⟩ := sb.reads G.fz hb
  have hu := ok.2.1
  exact SeqAt.compareNe_reads ra rb la lb (by unfold cLine; lia) (EvPost.here G rfl rfl rfl (.bool _) h)
end

open PySem PySem.W PySem.Calls PyProof.Rows
set_option maxRecDepth 20000
section
variable {g : G} {env : Env} {own : List Addr} {n : Nat} {ρ : Str → Option D} {μ : Mu}

/-! targets -/
inductive AsgL (env : Env) (own : List Addr) (K : (Str → Option D) → Prop) : List Expr → List D → (Str → Option D) → Prop
  | nil {r : Str → Option D} : K r → AsgL env own K [] [] r
  | cons {x p es d ds} {r : Str → Option D} : Bindable env own x → AsgL env own K es ds (upd r x d) → AsgL env own K (.Name x p :: es) (d :: ds) r
inductive Asg (env : Env) (own : List Addr) (K : (Str → Option D) → Prop) : Expr → D → (Str → Option D) → Prop
  | name {x p d} {r : Str → Option D} : Bindable env own x → K (upd r x d) → Asg env own K (.Name x p) d r
  | tup {es k p ds} {r : Str → Option D} : AsgL env own K es ds r → Asg env own K (.Tuple es k p) (.tup ds) r
  | tupL {es k p ds} {r : Str → Option D} : AsgL env own K es ds r → Asg env own K (.Tuple es k p) (.lst ds) r

inductive APost (g : G) (env : Env) (own : List Addr) (μ : Mu) (s : Shared) (F : FM) (K : (Str → Option D) → Prop) (u : Unit) (s' : Shared) : Prop
  | mk (ρ' : Str → Option D) (t : Tr g own μ μ F F s s') (G : GSt g μ F s'.heap) (Fs : FSt env own ρ' μ F s'.heap) (k : K ρ')

theorem wp_assignName {A : Around} {x p d v K F s} (G : GSt g μ F s.heap) (Fs : FSt env own ρ μ F s.heap) (sv : Sees F v d) (hb : Bindable env own x) (h : K (upd ρ x d)) :
    wpAny (model g.prog g.w) A (assign (.Name x p) env v) (APost g env own μ s F K) (fun _ _ => False) s :=
  assign_Name (st_store G Fs sv hb fun s' t G' Fs' _ => ⟨_, t, G', Fs', h⟩)
theorem asgl_shape {K} {es : List Expr} {ds : List D} {ρ} (h : AsgL env own K es ds ρ) : (assignEach es env).length = ds.length ∧ (assignEach es env).findIdx? (·.1) = none := by
  induction h with
  | nil => exact ⟨rfl, rfl⟩
  | @cons x p es d ds ρ _ _ ih =>
    have e : assignEach (.Name x p :: es) env = (false, assign (.Name x p) env) :: assignEach es env := rfl
    rw [e]
    exact ⟨by simp [ih.1], by rw [List.findIdx?_cons]; simp [ih.2]⟩
theorem wp_asgl {A : Around} {K} {es : List Expr} {ds : List D} {ρ} (h : AsgL env own K es ds ρ) : ∀ {vs : List Value} {F s}, SeesAll F vs ds → GSt g μ F s.heap → FSt env own ρ μ F s.heap →
    wpAny (model g.prog g.w) A (assignInOrder ((assignEach es env).map (·.2)) vs) (APost g env own μ s F K) (fun _ _ => False) s := by
  induction h with
  | nil hk => intro vs F s sa G Fs; exact wpAny_pure ⟨_, .refl, G, Fs, hk⟩
  | @cons x p es d ds ρ hb _ ih =>
    intro vs F s sa G Fs
    obtain ⟨v, vs, rfl, sv, sds⟩ := SeesAll.consI sa
    show wpAny _ _ (do holding vs (assign (.Name x p) env v); assignInOrder ((assignEach es env).map (·.2)) vs) _ _ _
    refine wpAny_bind (wpAny_holding (wpAny_mono (wp_assignName (K := fun ρ' => ρ' = upd ρ x d) G Fs sv hb rfl) ?_ fun _ _ x => x))
    rintro _ s₁ ⟨ρ', t, G', Fs', e⟩
    subst e
    exact wpAny_mono (ih sds G' Fs') ((by rintro _ s₂ ⟨ρ₂, t₂, G₂, Fs₂, r⟩; exact ⟨ρ₂, t.trans t₂, G₂, Fs₂, r⟩)) fun _ _ x => x

/-- a fresh object that nothing keeps: gone again -/
theorem tr_fresh {mt F s h' tk} {a : Addr} (ha : a = s.heap.objs.size) (he : Heap.ExtBut a s.heap h') : Tr g mt μ μ F F s { s with heap := h', toks := tk } := by
  subst ha
  exact Tr.of_ext (fun b o e => he b o (Nat.ne_of_lt (Heap.lt_size e)) e) rfl rfl

theorem wp_asg {A : Around} (hh : A.handled = none) {t : Expr} {d v K F s} (h : Asg env own K t d ρ) (sv : Sees F v d) (G : GSt g μ F s.heap) (Fs : FSt env own ρ μ F s.heap) :
    wpAny (model g.prog g.w) A (assign t env v) (APost g env own μ s F K) (fun _ _ => False) s := by
  cases h with
  | name hb hk => exact wp_assignName G Fs sv hb hk
  | @tup es k p ds _ h =>
    obtain @⟨a, vs, nn, e0, sds⟩ := Sees.tupI sv
    obtain ⟨h1, h2⟩ := asgl_shape h
    have hT : s.heap.IsTuple a vs := ⟨_, G.fz _ _ e0, rfl, nn, rfl⟩
    refine wpAny_assign_Tuple hh hT (by rw [h1, sds.size]) h2 fun h' he => ?_
    have t0 : Tr g own μ μ F F s { s with heap := h' } := tr_fresh (tk := s.toks) rfl he
    have ke : ∀ b o, s.heap.get? b = some o → h'.get? b = some o := fun b o e => he b o (Nat.ne_of_lt (Heap.lt_size e)) e
    have t1 : Tr g [] μ μ F F s { s with heap := h' } := Tr.of_ext ke rfl rfl
    have G' : GSt g μ F h' := G.ext ke
    exact wpAny_mono (wp_asgl (s := { s with heap := h' }) h sds G' (Fs.tr G t1 G')) ((by rintro _ s₂ ⟨ρ₂, t₂, G₂, Fs₂, r⟩; exact ⟨ρ₂, t0.trans t₂, G₂, Fs₂, r⟩)) fun _ _ x => x
  | @tupL es k p ds _ h =>
    obtain @⟨a, vs, nn, e0, sds⟩ := Sees.lstI sv
    obtain ⟨h1, h2⟩ := asgl_shape h
    refine assign_list hh ⟨_, G.fz _ _ e0, rfl, nn, rfl⟩ (by rw [h1, sds.size]) h2 fun h' he => ?_
    have t0 : Tr g own μ μ F F s { s with heap := h' } := tr_fresh (tk := s.toks) rfl he
    have ke : ∀ b o, s.heap.get? b = some o → h'.get? b = some o := fun b o e => he b o (Nat.ne_of_lt (Heap.lt_size e)) e
    have t1 : Tr g [] μ μ F F s { s with heap := h' } := Tr.of_ext ke rfl rfl
    exact wpAny_mono (wp_asgl (s := { s with heap := h' }) h sds (G.ext ke) (Fs.tr G t1 (G.ext ke))) ((by rintro _ s₂ ⟨ρ₂, t₂, G₂, Fs₂, r⟩; exact ⟨ρ₂, t0.trans t₂, G₂, Fs₂, r⟩)) fun _ _ x => x

/-! iterators -/
def Moves (fp : List Addr) (s s' : Shared) : Prop :=
  (∀ b o, s.heap.get? b = some o → b ∉ fp → s'.heap.get? b = some o) ∧ s'.os = s.os ∧ s'.gens = s.gens
def Agree (fp : List Addr) (h h' : Heap) : Prop := ∀ b ∈ fp, ∀ o, h.get? b = some o → h'.get? b = some o

/-- one item handed out -/
inductive ItemP (fp : List Addr) (F' : FM) (s : Shared) (v : Value) (d : D) (R : FM → Heap → Prop) (s₂ : Shared) : Prop
  | mk (F'' : FM) (le : ∀ a o, F' a = some o → F'' a = some o) (fz : ∀ a o, F'' a = some o → s₂.heap.get? a = some o) (fr : ∀ a, F'' a = none ∨ F' a ≠ none ∨ s.heap.get? a = none) (sv : Sees F'' v d) (m : Moves fp s s₂)
      (lv : ∀ a ∈ fp, ∃ o, s₂.heap.get? a = some o ∧ ¬ IsNs o) (r : R F'' s₂.heap)
def Iter (g : G) (tgt : Expr) (it : Value) (fp : List Addr) : List D → FM → Heap → Prop
  | [], F, h => ∀ (A : Around) (s : Shared) (F' : FM), Ok g 4 A → Agree fp h s.heap → (∀ a o, F a = some o → F' a = some o) → (∀ a o, F' a = some o → s.heap.get? a = some o) → (∀ a ∈ fp, F' a = none) →
      wpAny (model g.prog g.w) A (pyNext it) (fun r s' => r = none ∧ Moves fp s s') (fun _ _ => False) s
  | d :: ds, F, h => ∀ (A : Around) (s : Shared) (F' : FM), Ok g 4 A → Agree fp h s.heap → (∀ a o, F a = some o → F' a = some o) → (∀ a o, F' a = some o → s.heap.get? a = some o) → (∀ a ∈ fp, F' a = none) →
      wpAny (model g.prog g.w) A (pyNext it) (fun r s₁ => ∃ v, r = some v ∧ wpAny (model g.prog g.w) A (letOwnedTupleGo tgt it v) (fun _ => ItemP fp F' s v d (Iter g tgt it fp ds)) (fun _ _ => False) s₁) (fun _ _ => False) s

structure Aside (g : G) (env : Env) (own : List Addr) (μ : Mu) (F : FM) (fp : List Addr) (h : Heap) : Prop where
  F : ∀ a ∈ fp, F a = none
  own : ∀ a ∈ fp, a ∉ own
  mu : ∀ a ∈ fp, a ∉ μ.dom
  tab : ∀ a ∈ fp, a ∉ g.tabDom
  live : ∀ a ∈ fp, ∃ o, h.get? a = some o ∧ ¬ IsNs o
  cells : ∀ a ∈ fp, ∀ p ∈ env.cells, p.2 ≠ a

theorem Aside.tr {fp μ' F F' s s'} (x : Aside g env own μ F fp s.heap) (t : Tr g own μ μ' F F' s s') : Aside g env own μ' F' fp s'.heap ∧ Agree fp s.heap s'.heap := by
  refine ⟨⟨fun a ha => ?_, x.own, fun a ha q => ?_, x.tab, fun a ha => ?_, ?_⟩, fun b hb o e => t.at (by obtain ⟨o', e', h⟩ := x.live b hb; rw [e] at e'; cases e'; exact h) e (x.own b hb) (x.mu b hb) (x.tab b hb)⟩
  · rcases t.fr a with k | k | k | k
    · exact k
    · exact absurd (x.F a ha) k
    · exact absurd k (x.mu a ha)
    · obtain ⟨o, e, _⟩ := x.live a ha; rw [k] at e; cases e
  · rcases t.mu a q with k | k
    · exact x.mu a ha k
    · obtain ⟨o, e, _⟩ := x.live a ha; rw [k] at e; cases e
  · obtain ⟨o, e, h⟩ := x.live a ha; exact ⟨o, t.at h e (x.own a ha) (x.mu a ha) (x.tab a ha), h⟩
  · exact x.cells

/-- a turn of an iterator leaves all else -/
theorem iter_keep {fp F F'' s s₂} (G : GSt g μ F s.heap) (Fs : FSt env own ρ μ F s.heap) (As : Aside g env own μ F fp s.heap) (m : Moves fp s s₂) (hle : ∀ a o, F a = some o → F'' a = some o)
    (hfz : ∀ a o, F'' a = some o → s₂.heap.get? a = some o) (hfr : ∀ a, F'' a = none ∨ F a ≠ none ∨ s.heap.get? a = none) :
    GSt g μ F'' s₂.heap ∧ FSt env own ρ μ F'' s₂.heap ∧ ((∀ a ∈ fp, ∃ o, s₂.heap.get? a = some o ∧ ¬ IsNs o) → Aside g env own μ F'' fp s₂.heap) ∧ ∀ mt s₀ μ₀ F₀, (∀ a ∈ fp, s₀.heap.get? a = none) → Tr g mt μ₀ μ F₀ F s₀ s → Tr g mt μ₀ μ F₀ F'' s₀ s₂ := by
  have hno : ∀ a, (∃ o, s.heap.get? a = some o) → F a = none → F'' a = none := fun a ⟨o, e⟩ h => by
    rcases hfr a with k | k | k
    · exact k
    · exact absurd h k
    · rw [k] at e; cases e
  have G₂ : GSt g μ F'' s₂.heap := by
    refine ⟨fun a o e => hle _ _ (G.base a o e), hfz, fun q hq => ?_, fun p hp => ?_, G.nd, fun c hc => (by obtain ⟨o, e⟩ := G.fzc c hc; exact ⟨o, hle _ _ e⟩), G.dj, fun x hx => ?_⟩
    rotate_right
    · obtain ⟨hk', L, mm, hf, hn, hF', hm'⟩ := G.stk x hx
      obtain ⟨o', es, ep, ho, hd, r⟩ := hn
      exact ⟨hk', L, mm, hf, ⟨o', es, ep, m.1 _ _ ho (fun z => by obtain ⟨o2, e2, k2⟩ := As.live _ z; rw [ho] at e2; cases e2; exact k2 ⟨es, ep, hd⟩), hd, r⟩, hno _ ⟨_, ho⟩ hF', hm'⟩
    · obtain ⟨a, ps, b, c, d⟩ := G.tb q hq
      refine ⟨hno _ ⟨_, b⟩ a, ps, m.1 _ _ b (fun z => As.tab _ z (List.mem_map_of_mem hq)), c, fun pos cv z => (d pos cv z).mono hle⟩
    · obtain ⟨a, b⟩ := G.mu p hp
      exact ⟨hno _ b.live a, b.move hle fun o e => m.1 _ _ e (fun z => As.mu _ z (List.mem_map_of_mem hp))⟩
  have hkeep : ∀ a, (∀ x ∈ fp, x ≠ a) → ∀ o, s.heap.get? a = some o → s₂.heap.get? a = some o := fun a h o e => m.1 a o e fun q => h a q rfl
  refine ⟨G₂, ?_, fun lv => ⟨fun a ha => hno a ((by obtain ⟨o, e, _⟩ := As.live a ha; exact ⟨o, e⟩)) (As.F a ha), As.own, As.mu, As.tab, lv, As.cells⟩, fun mt s₀ μ₀ F₀ hs t => ?_⟩
  · have hl : ∀ o, s.heap.get? env.locals = some o → s₂.heap.get? env.locals = some o := hkeep _ fun x hx e => As.own x hx (e ▸ Fs.ok.lown)
    have hc : ∀ p ∈ env.cells, ∀ o, s.heap.get? p.2 = some o → s₂.heap.get? p.2 = some o := fun p hp o e => m.1 _ _ e fun q => As.cells _ q p hp rfl
    refine ⟨Fs.ok, ?_, fun x d e => ?_, fun p hp => ?_, fun a ha => hno a (Fs.live a ha) (Fs.ownF a ha), fun a ha => (by obtain ⟨o, e⟩ := Fs.live a ha; exact ⟨o, hkeep a (fun x hx e => As.own x hx (e ▸ ha)) o e⟩), Fs.muo⟩
    · obtain ⟨mm, o, es, ep, e, r⟩ := Fs.ns
      exact ⟨mm, o, es, ep, hl o e, r⟩
    · obtain ⟨v, hv, hs⟩ := Fs.vars x d e
      exact ⟨v, hv.keeps hl hc, hs.mono hle⟩
    · obtain ⟨v, o, e, d⟩ := Fs.cells p hp
      exact ⟨v, o, hc p hp o e, d⟩
  · have nf : ∀ b o, s₀.heap.get? b = some o → b ∉ fp := fun b o e q => by rw [hs b q] at e; cases e
    refine ⟨fun b o e h1 h2 h3 => (by obtain ⟨o', e', u⟩ := t.ext b o e h1 h2 h3; exact ⟨o', m.1 _ _ e' (nf b o e), u⟩), fun b o e => (by obtain ⟨o', e'⟩ := t.live b o e; exact ⟨o', m.1 b o' e' (nf b o e)⟩), fun a o e => hle _ _ (t.le a o e), fun a => ?_, t.mu, m.2.1.trans t.os, m.2.2.trans t.gens⟩
    cases he : s₀.heap.get? a with
    | none => exact .inr (.inr (.inr rfl))
    | some o =>
      obtain ⟨o', e'⟩ := t.live a o he
      rcases hfr a with k | k | k
      · exact .inl k
      · rcases t.fr a with q | q | q | q
        · exact absurd q k
        · exact .inr (.inl q)
        · exact .inr (.inr (.inl q))
        · rw [he] at q; cases q
      · rw [k] at e'; cases e'

/-- turns of a for, one by one -/
def ForL (g : G) (env : Env) (own : List Addr) (n : Nat) (tgt : Expr) (body : List Stmt) : List D → (Str → Option D) → Mu → (Fl → (Str → Option D) → Mu → Prop) → Prop
  | [], ρ, μ, Q => Q .next ρ μ
  | d :: ds, ρ, μ, Q => Asg env own (fun ρ₁ => Ex g env own n ρ₁ μ body fun f ρ₂ μ₂ => match f with
      | .next => ForL g env own n tgt body ds ρ₂ μ₂ Q
      | .cont => ForL g env own n tgt body ds ρ₂ μ₂ Q
      | .brk => Q .next ρ₂ μ₂
      | .ret d => Q (.ret d) ρ₂ μ₂) tgt d ρ

inductive EvIP (g : G) (env : Env) (own : List Addr) (n : Nat) (μ : Mu) (tgt : Expr) (s : Shared) (F : FM) (Q : List D → Mu → Prop) (it : Value) (s₂ : Shared) : Prop
  | mk (ds : List D) (μ' : Mu) (F' : FM) (fp : List Addr) (t : Tr g [] μ μ' F F' s s₂) (G : GSt g μ' F' s₂.heap) (As : Aside g env own μ' F' fp s₂.heap) (hfp : ∀ a ∈ fp, s.heap.get? a = none) (It : Iter g tgt it fp ds F' s₂.heap)
      (self : ∀ A' s', Ok g 4 A' → Agree fp s₂.heap s'.heap → (∀ a o, F' a = some o → s'.heap.get? a = some o) → wpAny (model g.prog g.w) A' (pyIter it) (fun it' s'' => it' = it ∧ s''.heap = s'.heap ∧ s''.os = s'.os ∧ s''.gens = s'.gens) (fun _ _ => False) s')
      (q : Q ds μ')
/-- the head of a for: what is iterated -/
def EvI (g : G) (env : Env) (own : List Addr) (n : Nat) (ρ : Str → Option D) (μ : Mu) (tgt e : Expr) (Q : List D → Mu → Prop) : Prop :=
  ∀ A F s, Ok g n A → GSt g μ F s.heap → FSt env own ρ μ F s.heap →
    wpAny (model g.prog g.w) A (eval e env) (fun x s₁ => wpAny (model g.prog g.w) A (pyIter x) (EvIP g env own n μ tgt s F Q) (fun _ _ => False) s₁) (fun _ _ => False) s

inductive ForI (g : G) (env : Env) (own : List Addr) (n : Nat) (tgt : Expr) (body : List Stmt) (it : Value) (fp : List Addr) (μ : Mu) (s : Shared) (F : FM) (Q : Fl → (Str → Option D) → Mu → Prop) (k : Nat) (s' : Shared) : Prop
  | mk (ds : List D) (ρ' : Str → Option D) (μ' : Mu) (F' : FM) (hk : ds.length = k) (t : Tr g own μ μ' F F' s s') (G : GSt g μ' F' s'.heap) (Fs : FSt env own ρ' μ' F' s'.heap) (As : Aside g env own μ' F' fp s'.heap) (It : Iter g tgt it fp ds F' s'.heap)
      (h : ForL g env own n tgt body ds ρ' μ' Q)
theorem Iter.move0 {tgt it fp F F' h h'} : ∀ {ds}, Iter g tgt it fp ds F h → Agree fp h h' → (∀ a o, F a = some o → F' a = some o) → Iter g tgt it fp ds F' h'
  | [], I, ag, le => fun A' s' F'' ok' ag' le' => I A' s' F'' ok' (fun b hb o e => ag' b hb o (ag b hb o e)) (fun a o e => le' a o (le a o e))
  | _ :: _, I, ag, le => fun A' s' F'' ok' ag' le' => I A' s' F'' ok' (fun b hb o e => ag' b hb o (ag b hb o e)) (fun a o e => le' a o (le a o e))
theorem fr_same0 {F : FM} {h : Heap} (a : Addr) : F a = none ∨ F a ≠ none ∨ h.get? a = none := by
  cases F a with
  | none => exact .inl rfl
  | some o => exact .inr (.inl (fun z => nomatch z))
theorem Ex1.for {tgt iter body pos Q} (hn : 4 ≤ n) (h : EvI g env own n ρ μ tgt iter fun ds μ₁ => ForL g env own n tgt body ds ρ μ₁ Q) (hs : ∀ x, foldedSetIterable iter env x = pure x := by intro _; rfl) :
    Ex1 g env own n ρ μ (.For tgt iter body [] pos) Q := fun A F s ok G Fs => by
  refine wpAny_For (hs := hs) (wpAny_mono (h A F s ok G Fs) (fun x s₁ h₁ => wpAny_mono h₁ ?_ fun _ _ x => x.elim) fun _ _ x => x.elim)
  rintro it s₂ ⟨ds, μ₁, F₁, fp, t₁, G₁, As₁, hfp, It, _, hL⟩
  refine codeAny_forLoop_any (ForI g env own n tgt body it fp μ s F Q) ?_ ds.length ⟨ds, ρ, μ₁, F₁, rfl, t₁.toOwn, G₁, Fs.tr G t₁ G₁, As₁, It, hL⟩
  clear h hL It As₁ G₁ t₁
  rintro k s₃ ⟨ds₃, ρ₃, μ₃, F₃, hk, t₃, G₃, Fs₃, As₃, It₃, hL₃⟩
  cases ds₃ with
  | nil =>
    refine wpAny_mono (It₃ A s₃ F₃ (ok.le hn) (fun _ _ _ e => e) (fun _ _ e => e) G₃.fz As₃.F) ?_ fun _ _ x => x.elim
    rintro r s₄ ⟨hr, m⟩
    subst hr
    obtain ⟨G₄, Fs₄, _, tr⟩ := iter_keep G₃ Fs₃ As₃ m (fun _ _ e => e) (fun a o e => m.1 a o (G₃.fz a o e) fun q => by rw [As₃.F a q] at e; cases e) fr_same0
    exact wpAny_execs_nil ⟨.next, ρ₃, μ₃, F₃, tr own s μ F hfp t₃, G₄, Fs₄, trivial, hL₃⟩
  | cons d ds₃ =>
    refine wpAny_mono (It₃ A s₃ F₃ (ok.le hn) (fun _ _ _ e => e) (fun _ _ e => e) G₃.fz As₃.F) ?_ fun _ _ x => x.elim
    rintro r s₄ ⟨v, hr, h₄⟩
    subst hr
    refine wpAny_mono h₄ ?_ fun _ _ x => x.elim
    rintro _ s₅ ⟨F₅, hle, hfz, hfr, sv, m, lv, It₅⟩
    obtain ⟨G₅, Fs₅, As₅, tr⟩ := iter_keep G₃ Fs₃ As₃ m hle hfz hfr
    refine wpAny_mono (wp_asg ok.hand hL₃ sv G₅ Fs₅) ?_ fun _ _ x => x.elim
    rintro _ s₆ ⟨ρ₆, t₆, G₆, Fs₆, h₆⟩
    obtain ⟨As₆, ag₆⟩ := (As₅ lv).tr t₆
    refine wpAny_mono (h₆ A F₅ s₆ ok G₆ Fs₆) ?_ fun _ _ x => x.elim
    rintro fl s₇ ⟨f, ρ₇, μ₇, F₇, t₇, G₇, Fs₇, sf, h₇⟩
    obtain ⟨As₇, ag₇⟩ := As₆.tr t₇
    have T := ((tr own s μ F hfp t₃).trans t₆).trans t₇
    have again : ForL g env own n tgt body ds₃ ρ₇ μ₇ Q → ∃ m, m < k ∧ ForI g env own n tgt body it fp μ s F Q m s₇ := fun h =>
      ⟨ds₃.length, hk ▸ Nat.lt_succ_self _, ds₃, ρ₇, μ₇, F₇, rfl, T, G₇, Fs₇, As₇, It₅.move0 (fun b hb o e => ag₇ b hb o (ag₆ b hb o e)) t₇.le, h⟩
    cases fl <;> cases f <;> first
      | exact sf.elim
      | exact again h₇
      | exact ⟨_, ρ₇, μ₇, F₇, T, G₇, Fs₇, sf, h₇⟩
      | exact ⟨.next, ρ₇, μ₇, F₇, T, G₇, Fs₇, trivial, h₇⟩
end

open PySem PySem.W PySem.Calls PyProof.Rows
set_option maxRecDepth 20000
section
variable {g : G} {env : Env} {own : List Addr} {n : Nat} {ρ : Str → Option D} {μ : Mu}

set_option tactic.hygienic true in
theorem let_plain {M : Model} {A : Around} {E : Value → Shared → Prop} {s : Shared} {tgt : Expr} {it : Addr} {v : Value} {o : Obj} {T : String} {Q : Unit → Shared → Prop} (ho : s.heap.get? it = some o) (hc : o.cls = .type T)
    (hT : ["enumerate", "zip", "dict_itemiterator", "dict_reverseitemiterator", "odict_iterator", "itertools.zip_longest", "itertools.pairwise"].contains T = false) (h : Q () s) :
    wpAny M A (letOwnedTupleGo tgt (.ref it) v) Q E s := by
  unfold letOwnedTupleGo
  have body : wpAny M A (do
      let (.ref r, .ref a) := (Value.ref it, v) | return
      let o ← load r
      match o.cls, o.data with
      | .type n, .fields vs =>
        if ["enumerate", "zip", "dict_itemiterator", "dict_reverseitemiterator", "odict_iterator", "itertools.zip_longest", "itertools.pairwise"].contains n && vs[0]? == some (rawInt a) then
          rule "for.unpacks-the-owned-tuple"
          updateField r 0 .none
      | _, _ => pure ()) Q E s := by
    split
    · rename_i r a q
      cases q
      refine wpAny_bind (wpAny_load ho ?_)
      rw [hc]
      split
      · rename_i q1 q2
        cases q1
        rw [hT]
        exact wpAny_pure h
      · exact wpAny_pure h
    · exact wpAny_pure h
  split
  · exact body
  · exact body
  · exact wpAny_pure h

theorem drop_cons {α : Type} {l : List α} {i : Nat} {d : α} {r : List α} (h : l.drop i = d :: r) : l[i]? = some d ∧ l.drop (i + 1) = r := by
  refine ⟨?_, ?_⟩
  · rw [← List.head?_drop, h]; rfl
  · rw [← List.tail_drop, h]; rfl

theorem fr_same {F' : FM} {s : Shared} : ∀ a, F' a = none ∨ F' a ≠ none ∨ s.heap.get? a = none := fun a => by
  cases hq : F' a with
  | none => exact .inl rfl
  | some o => exact .inr (.inl (by simp))

theorem Iter.list {tgt : Expr} {it l : Addr} {vs : Array Value} {k : Nat} {all : List D} : ∀ {ds : List D} {i : Nat} {F : FM} {h : Heap}, F l = some { cls := .type "list", dict := Option.none, data := .seq vs k, slots := #[] } →
    SeesAll F vs.toList all → h.IsListIter it l i → all.drop i = ds → Iter g tgt (.ref it) [it] ds F h
  | [], i, F, h, hF, sa, hit, hd => fun A s F' ok ag le fz nf => by
    have hit' : s.heap.IsListIter it l i := by obtain ⟨o, e, r⟩ := hit; exact ⟨o, ag it (.head _) o e, r⟩
    have hL : s.heap.IsList l vs := ⟨_, fz _ _ (le _ _ hF), rfl, _, rfl⟩
    have hx : vs[i]? = none := by
      have := List.drop_eq_nil_iff.mp hd
      have z := sa.size
      rw [Array.getElem?_eq_none_iff]; lia
    exact wpAny_pyNext_list_end ok.hand hit' hL hx fun h' he => ⟨rfl, fun b o e hb => he b o (by simpa using hb) e, rfl, rfl⟩
  | d :: ds, i, F, h, hF, sa, hit, hd => fun A s F' ok ag le fz nf => by
    have hit' : s.heap.IsListIter it l i := by obtain ⟨o, e, r⟩ := hit; exact ⟨o, ag it (.head _) o e, r⟩
    have hFl := le _ _ hF
    have hL : s.heap.IsList l vs := ⟨_, fz _ _ hFl, rfl, _, rfl⟩
    obtain ⟨h1, h2⟩ := drop_cons hd
    obtain ⟨v, hv, sv⟩ := sa.get h1
    refine wpAny_pyNext_list_item hit' hL (by simpa using hv) fun h' hn sb => ⟨v, rfl, ?_⟩
    obtain ⟨o', e', c', d'⟩ := id hn
    refine let_plain e' c' (by decide) ⟨F', fun _ _ e => e, fun a o e => (sb.2 a fun z => ?_).trans (fz a o e), fr_same, sv.mono le, ⟨fun b o e hb => (sb.2 b (by simpa using hb)).trans e, rfl, rfl⟩, fun a ha => ?_, ?_⟩
    · rw [z, nf it (.head _)] at e; cases e
    · rw [List.mem_singleton.mp ha]; exact ⟨o', e', nns d'⟩
    · exact Iter.list hFl (sa.mono le) hn h2

theorem Iter.tuple {tgt : Expr} {it l : Addr} {vs : Array Value} {k : Nat} {all : List D} : ∀ {ds : List D} {i : Nat} {F : FM} {h : Heap}, F l = some { cls := .type "tuple", dict := Option.none, data := .seq vs k, slots := #[] } →
    SeesAll F vs.toList all → h.IsTupleIter it l i → all.drop i = ds → Iter g tgt (.ref it) [it] ds F h
  | [], i, F, h, hF, sa, hit, hd => fun A s F' ok ag le fz nf => by
    have hit' : s.heap.IsTupleIter it l i := by obtain ⟨o, e, r⟩ := hit; exact ⟨o, ag it (.head _) o e, r⟩
    have hL : s.heap.IsTuple l vs := ⟨_, fz _ _ (le _ _ hF), rfl, _, rfl⟩
    have hx : vs[i]? = none := by
      have := List.drop_eq_nil_iff.mp hd
      have z := sa.size
      rw [Array.getElem?_eq_none_iff]; lia
    exact wpAny_pyNext_tuple_end ok.hand hit' hL hx fun h' he => ⟨rfl, fun b o e hb => he b o (by simpa using hb) e, rfl, rfl⟩
  | d :: ds, i, F, h, hF, sa, hit, hd => fun A s F' ok ag le fz nf => by
    have hit' : s.heap.IsTupleIter it l i := by obtain ⟨o, e, r⟩ := hit; exact ⟨o, ag it (.head _) o e, r⟩
    have hFl := le _ _ hF
    have hL : s.heap.IsTuple l vs := ⟨_, fz _ _ hFl, rfl, _, rfl⟩
    obtain ⟨h1, h2⟩ := drop_cons hd
    obtain ⟨v, hv, sv⟩ := sa.get h1
    refine wpAny_pyNext_tuple_item hit' hL (by simpa using hv) fun h' hn sb => ⟨v, rfl, ?_⟩
    obtain ⟨o', e', c', d'⟩ := id hn
    refine let_plain e' c' (by decide) ⟨F', fun _ _ e => e, fun a o e => (sb.2 a fun z => ?_).trans (fz a o e), fr_same, sv.mono le, ⟨fun b o e hb => (sb.2 b (by simpa using hb)).trans e, rfl, rfl⟩, fun a ha => ?_, ?_⟩
    · rw [z, nf it (.head _)] at e; cases e
    · rw [List.mem_singleton.mp ha]; exact ⟨o', e', nns d'⟩
    · exact Iter.tuple hFl (sa.mono le) hn h2

/-- the ints of a range -/
def rangeD (a c : Int) : Nat → List D
  | 0 => []
  | k + 1 => .int a :: rangeD (a + c) c k
theorem Iter.range {tgt : Expr} {it : Addr} {c : Int} : ∀ {m : Nat} {x : Int} {F : FM} {h : Heap}, IsRangeIter h it x (m : Int) c → Iter g tgt (.ref it) [it] (rangeD x c m) F h
  | 0, x, F, h, hit => fun A s F' ok ag le fz nf => by
    have hit' : IsRangeIter s.heap it x ((0 : Nat) : Int) c := ag it (.head _) _ hit
    exact wpAny_pyNext_range_end ok.hand hit' (by simp) fun h' he => ⟨rfl, fun b o e hb => he b o (by simpa using hb) e, rfl, rfl⟩
  | m + 1, x, F, h, hit => fun A s F' ok ag le fz nf => by
    have hit' : IsRangeIter s.heap it x ((m + 1 : Nat) : Int) c := ag it (.head _) _ hit
    refine wpAny_pyNext_range_item hit' (by lia) fun h' hn sb => ⟨_, rfl, ?_⟩
    rw [show ((m + 1 : Nat) : Int) - 1 = (m : Int) by lia] at hn
    refine let_plain hn rfl (by decide) ⟨F', fun _ _ e => e, fun a o e => (sb.2 a fun z => ?_).trans (fz a o e), fr_same, .int _ _, ⟨fun b o e hb => (sb.2 b (by simpa using hb)).trans e, rfl, rfl⟩, fun a ha => ?_, ?_⟩
    · rw [z, nf it (.head _)] at e; cases e
    · rw [List.mem_singleton.mp ha]; exact ⟨_, hn, nns rfl⟩
    · exact Iter.range hn

/-- enumerate over a list -/
def enumD : Int → List D → List D
  | _, [] => []
  | i, d :: ds => .tup [.int i, d] :: enumD (i + 1) ds
theorem Iter.enum {es : List Expr} {x1 : Nat} {pos : Pos} {e it l : Addr} (hne : e ≠ it) {vs : Array Value} {k : Nat} {all : List D} : ∀ {ds : List D} {i : Nat} {old : Value} {F : FM} {h : Heap}, F l = some { cls := .type "list", dict := Option.none, data := .seq vs k, slots := #[] } →
    SeesAll F vs.toList all → IsEnum h e it i old → h.IsListIter it l i → all.drop i = ds → Iter g (.Tuple es x1 pos) (.ref e) [e, it] (enumD i ds) F h
  | [], i, old, F, h, hF, sa, hen, hit, hd => fun A s F' ok ag le fz nf => by
    have hit' : s.heap.IsListIter it l i := by obtain ⟨o, e', r⟩ := hit; exact ⟨o, ag it (.tail _ (.head _)) o e', r⟩
    have hen' : IsEnum s.heap e it i old := ag e (.head _) _ hen
    have hL : s.heap.IsList l vs := ⟨_, fz _ _ (le _ _ hF), rfl, _, rfl⟩
    have hx : vs[i]? = none := by
      have := List.drop_eq_nil_iff.mp hd
      have z := sa.size
      rw [Array.getElem?_eq_none_iff]; lia
    refine wpAny_pyNext_enum_end ok.hand hen' hit' hL hx fun h' he => ⟨rfl, fun b o e hb => he b o ?_ e, rfl, rfl⟩
    simp only [List.mem_cons, not_or] at hb; exact hb.2.1
  | d :: ds, i, old, F, h, hF, sa, hen, hit, hd => fun A s F' ok ag le fz nf => by
    have hit' : s.heap.IsListIter it l i := by obtain ⟨o, e', r⟩ := hit; exact ⟨o, ag it (.tail _ (.head _)) o e', r⟩
    have hen' : IsEnum s.heap e it i old := ag e (.head _) _ hen
    have hFl := le _ _ hF
    have hL : s.heap.IsList l vs := ⟨_, fz _ _ hFl, rfl, _, rfl⟩
    obtain ⟨h1, h2⟩ := drop_cons hd
    obtain ⟨v, hv, sv⟩ := sa.get h1
    refine wpAny_pyNext_enum_item hen' hit' hL (by simpa using hv) hne fun h' ho hn ht hsz hk => ⟨_, rfl, ?_⟩
    refine wpAny_letOwnedTupleGo_enum ho fun h'' he2 hs2 => ?_
    have hel : e < s.heap.objs.size := Heap.lt_size hen'
    have hil : it < s.heap.objs.size := by obtain ⟨o, e', _⟩ := hit'; exact Heap.lt_size e'
    have hkp : ∀ b o, b ∉ [e, it] → s.heap.get? b = some o → h''.get? b = some o := fun b o hb e0 => by
      simp only [List.mem_cons, not_or] at hb
      exact (hs2.2 b hb.1).trans (hk b o hb.1 hb.2.1 e0)
    have htup : h''.get? s.heap.objs.size = some { cls := .type "tuple", data := .seq #[.int i s.toks, v] } := (hs2.2 _ (Nat.ne_of_gt hel)).trans ht
    have hn'' : h''.IsListIter it l (i + 1) := by obtain ⟨o, e', r⟩ := hn; exact ⟨o, (hs2.2 _ (Ne.symm hne)).trans e', r⟩
    have hFs : F' s.heap.objs.size = none := by
      cases hq : F' s.heap.objs.size with
      | none => rfl
      | some o => have := fz _ _ hq; rw [get_size] at this; cases this
    have lep := put_le (o := { cls := .type "tuple", data := .seq #[.int i s.toks, v] }) hFs
    refine ⟨put F' s.heap.objs.size { cls := .type "tuple", data := .seq #[.int i s.toks, v] }, lep, fun a o e0 => ?_, fun a => ?_, .tup put_same (.cons (.int _ _) (.cons ((sv.mono le).mono lep) .nil)), ⟨fun b o e0 hb => hkp b o hb e0, rfl, rfl⟩, fun a ha => ?_, ?_⟩
    · by_cases hb : a = s.heap.objs.size
      · subst hb; rw [put_same] at e0; cases e0; exact htup
      · rw [put_ne hb] at e0
        exact hkp a o (fun z => by rw [nf a z] at e0; cases e0) (fz a o e0)
    · by_cases hb : a = s.heap.objs.size
      · subst hb; exact .inr (.inr get_size)
      · rw [put_ne hb]; exact fr_same a
    · simp only [List.mem_cons, List.not_mem_nil, or_false] at ha
      rcases ha with rfl | rfl
      · exact ⟨_, he2, nns rfl⟩
      · obtain ⟨o, e', _, d'⟩ := hn''; exact ⟨o, e', nns d'⟩
    · exact Iter.enum hne (lep _ _ hFl) ((sa.mono le).mono lep) he2 hn'' h2

/-- zip of two lists -/
def zipD (xs ys : List D) : List D := List.zipWith (fun a b => .tup [a, b]) xs ys
theorem Iter.zip {es : List Expr} {x1 : Nat} {pos : Pos} {z TI TO i1 i2 l1 l2 : Addr} (AP : ZipApart z TI TO i1 i2 l1 l2) {vs ws : Array Value} {k k2 : Nat} {ax ay : List D} : ∀ (m : Nat) {xs ys : List D} {c : Nat} {a b : Value} {F : FM} {h : Heap}, xs.length ≤ m →
    F l1 = some { cls := .type "list", dict := Option.none, data := .seq vs k, slots := #[] } → F l2 = some { cls := .type "list", dict := Option.none, data := .seq ws k2, slots := #[] } →
    SeesAll F vs.toList ax → SeesAll F ws.toList ay → IsZip h z TI TO .none → IsPair h TI (.ref i1) (.ref i2) → IsPair h TO a b → h.IsListIter i1 l1 c → h.IsListIter i2 l2 c → ax.drop c = xs → ay.drop c = ys →
    Iter g (.Tuple es x1 pos) (.ref z) [z, TI, TO, i1, i2] (zipD xs ys) F h := fun m => by
  have stop : ∀ {xs ys : List D} {c : Nat} {a b : Value} {F : FM} {h : Heap}, (xs = [] ∨ ys = []) → 
    F l1 = some { cls := .type "list", dict := Option.none, data := .seq vs k, slots := #[] } → F l2 = some { cls := .type "list", dict := Option.none, data := .seq ws k2, slots := #[] } →
    SeesAll F vs.toList ax → SeesAll F ws.toList ay → IsZip h z TI TO .none → IsPair h TI (.ref i1) (.ref i2) → IsPair h TO a b → h.IsListIter i1 l1 c → h.IsListIter i2 l2 c → ax.drop c = xs → ay.drop c = ys →
      Iter g (.Tuple es x1 pos) (.ref z) [z, TI, TO, i1, i2] [] F h := by
    intro xs ys c a b F h he hF1 hF2 sa sb hz hTI hTO h1 h2 hd1 hd2 A s F' ok ag le fz nf
    have hz' : IsZip s.heap z TI TO .none := ag z (by simp) _ hz
    have hTI' : IsPair s.heap TI (.ref i1) (.ref i2) := ag TI (by simp) _ hTI
    have hTO' : IsPair s.heap TO a b := ag TO (by simp) _ hTO
    have h1' : s.heap.IsListIter i1 l1 c := by obtain ⟨o, e, r⟩ := h1; exact ⟨o, ag i1 (by simp) o e, r⟩
    have h2' : s.heap.IsListIter i2 l2 c := by obtain ⟨o, e, r⟩ := h2; exact ⟨o, ag i2 (by simp) o e, r⟩
    refine wpAny_pyNext_zip_end ok.hand AP hz' hTI' hTO' h1' h2' ⟨_, fz _ _ (le _ _ hF1), rfl, _, rfl⟩ ⟨_, fz _ _ (le _ _ hF2), rfl, _, rfl⟩ ?_ fun h' hk => ⟨rfl, fun b o e hb => ?_, rfl, rfl⟩
    · rcases he with rfl | rfl
      · have := List.drop_eq_nil_iff.mp hd1
        have q := sa.size
        left; rw [Array.getElem?_eq_none_iff]; lia
      · have := List.drop_eq_nil_iff.mp hd2
        have q := sb.size
        right; rw [Array.getElem?_eq_none_iff]; lia
    · simp only [List.mem_cons, not_or] at hb
      exact hk b o hb.1 hb.2.2.1 hb.2.2.2.1 hb.2.2.2.2.1 e
  induction m with
  | zero =>
    intro xs ys c a b F h hm hF1 hF2 sa sb hz hTI hTO h1 h2 hd1 hd2
    have : xs = [] := List.eq_nil_of_length_eq_zero (by lia)
    subst this
    exact stop (.inl rfl) hF1 hF2 sa sb hz hTI hTO h1 h2 hd1 hd2
  | succ m ih =>
    intro xs ys c a b F h hm hF1 hF2 sa sb hz hTI hTO h1 h2 hd1 hd2
    cases xs with
    | nil => exact stop (.inl rfl) hF1 hF2 sa sb hz hTI hTO h1 h2 hd1 hd2
    | cons x xs =>
      cases ys with
      | nil => exact stop (.inr rfl) hF1 hF2 sa sb hz hTI hTO h1 h2 hd1 hd2
      | cons y ys =>
        intro A s F' ok ag le fz nf
        have hz' : IsZip s.heap z TI TO .none := ag z (by simp) _ hz
        have hTI' : IsPair s.heap TI (.ref i1) (.ref i2) := ag TI (by simp) _ hTI
        have hTO' : IsPair s.heap TO a b := ag TO (by simp) _ hTO
        have h1' : s.heap.IsListIter i1 l1 c := by obtain ⟨o, e, r⟩ := h1; exact ⟨o, ag i1 (by simp) o e, r⟩
        have h2' : s.heap.IsListIter i2 l2 c := by obtain ⟨o, e, r⟩ := h2; exact ⟨o, ag i2 (by simp) o e, r⟩
        obtain ⟨g1, g2⟩ := drop_cons hd1
        obtain ⟨g3, g4⟩ := drop_cons hd2
        obtain ⟨v, hv, sv⟩ := sa.get g1
        obtain ⟨u, hu, su⟩ := sb.get g3
        refine wpAny_pyNext_zip_item AP hz' hTI' hTO' h1' h2' ⟨_, fz _ _ (le _ _ hF1), rfl, _, rfl⟩ ⟨_, fz _ _ (le _ _ hF2), rfl, _, rfl⟩ (by simpa using hv) (by simpa using hu) fun h' nz nTO n1 n2 nT hsz hk => ⟨_, rfl, ?_⟩
        refine wpAny_letOwnedTupleGo_zip nz fun h'' nz2 hs2 => ?_
        have hzl : z < s.heap.objs.size := Heap.lt_size hz'
        have k2' : ∀ b o, b ≠ z → h'.get? b = some o → h''.get? b = some o := fun b o hb e => (hs2.2 b hb).trans e
        have hkp : ∀ b o, b ∉ [z, TI, TO, i1, i2] → s.heap.get? b = some o → h''.get? b = some o := fun b o hb e0 => by
          simp only [List.mem_cons, not_or] at hb
          exact k2' b o hb.1 (hk b o hb.1 hb.2.2.1 hb.2.2.2.1 hb.2.2.2.2.1 e0)
        have hTI2 : IsPair h'' TI (.ref i1) (.ref i2) := k2' _ _ AP.TIz (hk _ _ AP.TIz AP.TITO AP.TIi1 AP.TIi2 hTI')
        have htup : IsPair h'' s.heap.objs.size v u := k2' _ _ (Nat.ne_of_gt hzl) nT
        have hTO2 : IsPair h'' TO v u := k2' _ _ AP.TOz nTO
        have n1' : h''.IsListIter i1 l1 (c + 1) := by obtain ⟨o, e, r⟩ := n1; exact ⟨o, k2' _ _ AP.i1z e, r⟩
        have n2' : h''.IsListIter i2 l2 (c + 1) := by obtain ⟨o, e, r⟩ := n2; exact ⟨o, k2' _ _ AP.i2z e, r⟩
        have hFs : F' s.heap.objs.size = none := by
          cases hq : F' s.heap.objs.size with
          | none => rfl
          | some o => have := fz _ _ hq; rw [get_size] at this; cases this
        have lep := put_le (o := { cls := .type "tuple", data := .seq #[v, u] }) hFs
        refine ⟨put F' s.heap.objs.size { cls := .type "tuple", data := .seq #[v, u] }, lep, fun a o e0 => ?_, fun a => ?_, .tup put_same (.cons ((sv.mono le).mono lep) (.cons ((su.mono le).mono lep) .nil)), ⟨fun b o e0 hb => hkp b o hb e0, rfl, rfl⟩, fun a ha => ?_, ?_⟩
        · by_cases hb : a = s.heap.objs.size
          · subst hb; rw [put_same] at e0; cases e0; exact htup
          · rw [put_ne hb] at e0
            exact hkp a o (fun z => by rw [nf a z] at e0; cases e0) (fz a o e0)
        · by_cases hb : a = s.heap.objs.size
          · subst hb; exact .inr (.inr get_size)
          · rw [put_ne hb]; exact fr_same a
        · simp only [List.mem_cons, List.not_mem_nil, or_false] at ha
          rcases ha with rfl | rfl | rfl | rfl | rfl
          · exact ⟨_, nz2, nns rfl⟩
          · exact ⟨_, hTI2, nnsq rfl⟩
          · exact ⟨_, hTO2, nnsq rfl⟩
          · obtain ⟨o, e, _, d'⟩ := n1'; exact ⟨o, e, nns d'⟩
          · obtain ⟨o, e, _, d'⟩ := n2'; exact ⟨o, e, nns d'⟩
        · exact ih (by simp at hm; lia) (lep _ _ (le _ _ hF1)) (lep _ _ (le _ _ hF2)) ((sa.mono le).mono lep) ((sb.mono le).mono lep) nz2 hTI2 hTO2 n1' n2' g2 g4

/-! heads of loops -/
theorem GSt.fresh {F h} (G : GSt g μ F h) {a : Addr} (ha : h.get? a = none) : F a = none ∧ a ∉ μ.dom ∧ a ∉ g.tabDom := by
  refine ⟨?_, fun q => ?_, fun q => ?_⟩
  · cases hq : F a with
    | none => rfl
    | some o => have := G.fz _ _ hq; rw [ha] at this; cases this
  · obtain ⟨p, hp, rfl⟩ := List.mem_map.mp q
    obtain ⟨_, b⟩ := G.mu p hp
    obtain ⟨o, e1⟩ := b.live
    rw [ha] at e1; cases e1
  · obtain ⟨p, hp, rfl⟩ := List.mem_map.mp q
    obtain ⟨_, ps, e, _⟩ := G.tb p hp
    rw [ha] at e; cases e
/-- new objects are aside -/
theorem Aside.new {F} {s s' : Shared} {fp : List Addr} (G : GSt g μ F s.heap) (Fs : FSt env own ρ μ F s.heap) (hn : ∀ a ∈ fp, s.heap.get? a = none) (hl : ∀ a ∈ fp, ∃ o, s'.heap.get? a = some o ∧ ¬ IsNs o) : Aside g env own μ F fp s'.heap :=
  ⟨fun a ha => (G.fresh (hn a ha)).1, fun a ha q => (by obtain ⟨o, e⟩ := Fs.live a q; rw [hn a ha] at e; cases e), fun a ha => (G.fresh (hn a ha)).2.1, fun a ha => (G.fresh (hn a ha)).2.2, hl,
    fun a ha p hp q => (by obtain ⟨v, o, e, _⟩ := Fs.cells p hp; rw [q, hn a ha] at e; cases e)⟩
theorem fresh_back {s s₁ : Shared} {mt μ₁ F F₁} (t : Tr g mt μ μ₁ F F₁ s s₁) {a : Addr} (h : s₁.heap.get? a = none) : s.heap.get? a = none := by
  cases hq : s.heap.get? a with
  | none => rfl
  | some o => obtain ⟨o', e⟩ := t.live a o hq; rw [h] at e; cases e

theorem wp_selfIter {M : Model} {A : Around} {s : Shared} {it : Value} (h : ∀ Q : Value → Shared → Prop, Q it s → wpAny M A (pyIter it) Q (fun _ _ => False) s) :
    wpAny M A (pyIter it) (fun it' s'' => it' = it ∧ s''.heap = s.heap ∧ s''.os = s.os ∧ s''.gens = s.gens) (fun _ _ => False) s := h _ ⟨rfl, rfl, rfl, rfl⟩

theorem EvI.list {tgt e Q} (h : Ev g env own n ρ μ e fun d μ₁ => ∃ ds, d = .lst ds ∧ Q ds μ₁) : EvI g env own n ρ μ tgt e Q := fun A F s ok G Fs =>
  wp_seq h ok G Fs fun v d μ₁ F₁ s₁ t₁ G₁ Fs₁ sv hq => by
    obtain ⟨ds, rfl, hq⟩ := hq
    obtain @⟨l, vs, k, e0, sds⟩ := Sees.lstI sv
    have hL : s₁.heap.IsList l vs := ⟨_, G₁.fz _ _ e0, rfl, _, rfl⟩
    refine wpAny_pyIter_list hL ?_
    have hk : ∀ b o, s₁.heap.get? b = some o → (s₁.heap.push { cls := .type "list_iterator", data := .fields #[.ref l, .int 0 0] }).get? b = some o := fun b o e => Heap.get?_push_of_some _ e
    have hit : (s₁.heap.push { cls := .type "list_iterator", data := .fields #[.ref l, .int 0 0] }).IsListIter s₁.heap.objs.size l 0 := ⟨_, Heap.get?_push_size _ rfl, rfl, rfl⟩
    refine ⟨ds, μ₁, F₁, [s₁.heap.objs.size], t₁.trans (Tr.of_ext hk rfl rfl), G₁.ext hk, Aside.new (s := s₁) (s' := { s₁ with heap := s₁.heap.push { cls := .type "list_iterator", data := .fields #[.ref l, .int 0 0] } }) G₁ Fs₁ (fun a ha => ?_) (fun a ha => ?_), fun a ha => ?_, Iter.list e0 sds hit (by simp), fun A' s' ok' ag _ => ?_, hq⟩
    · rw [List.mem_singleton.mp ha]; exact get_size
    · rw [List.mem_singleton.mp ha]; exact ⟨_, Heap.get?_push_size _ rfl, nns rfl⟩
    · rw [List.mem_singleton.mp ha]; exact fresh_back t₁ get_size
    · have hit' : s'.heap.IsListIter s₁.heap.objs.size l 0 := by obtain ⟨o, e, r⟩ := hit; exact ⟨o, ag _ (.head _) o e, r⟩
      exact wp_selfIter fun Q' hq' => wpAny_pyIter_listiter hit' hq'
theorem EvI.tuple {tgt e Q} (h : Ev g env own n ρ μ e fun d μ₁ => ∃ ds, d = .tup ds ∧ Q ds μ₁) : EvI g env own n ρ μ tgt e Q := fun A F s ok G Fs =>
  wp_seq h ok G Fs fun v d μ₁ F₁ s₁ t₁ G₁ Fs₁ sv hq => by
    obtain ⟨ds, rfl, hq⟩ := hq
    obtain @⟨l, vs, k, e0, sds⟩ := Sees.tupI sv
    have hL : s₁.heap.IsTuple l vs := ⟨_, G₁.fz _ _ e0, rfl, _, rfl⟩
    refine wpAny_pyIter_tuple hL ?_
    have hk : ∀ b o, s₁.heap.get? b = some o → (s₁.heap.push { cls := .type "tuple_iterator", data := .fields #[.ref l, .int 0 0] }).get? b = some o := fun b o e => Heap.get?_push_of_some _ e
    have hit : (s₁.heap.push { cls := .type "tuple_iterator", data := .fields #[.ref l, .int 0 0] }).IsTupleIter s₁.heap.objs.size l 0 := ⟨_, Heap.get?_push_size _ rfl, rfl, rfl⟩
    refine ⟨ds, μ₁, F₁, [s₁.heap.objs.size], t₁.trans (Tr.of_ext hk rfl rfl), G₁.ext hk, Aside.new (s := s₁) (s' := { s₁ with heap := s₁.heap.push { cls := .type "tuple_iterator", data := .fields #[.ref l, .int 0 0] } }) G₁ Fs₁ (fun a ha => ?_) (fun a ha => ?_), fun a ha => ?_, Iter.tuple e0 sds hit (by simp), fun A' s' ok' ag _ => ?_, hq⟩
    · rw [List.mem_singleton.mp ha]; exact get_size
    · rw [List.mem_singleton.mp ha]; exact ⟨_, Heap.get?_push_size _ rfl, nns rfl⟩
    · rw [List.mem_singleton.mp ha]; exact fresh_back t₁ get_size
    · have hit' : s'.heap.IsTupleIter s₁.heap.objs.size l 0 := by obtain ⟨o, e, r⟩ := hit; exact ⟨o, ag _ (.head _) o e, r⟩
      exact wp_selfIter fun Q' hq' => wpAny_pyIter_tupleiter hit' hq'
/-- how many a range holds -/
theorem EvI.range {tgt e Q} (h : Ev g env own n ρ μ e fun d μ₁ => ∃ a b c m, d = .rng a b c ∧ Builtin.Range.small a b c = true ∧ Builtin.Range.rangeSize a b c = (m : Nat) ∧ Q (rangeD a c m) μ₁) : EvI g env own n ρ μ tgt e Q := fun A F s ok G Fs =>
  wp_seq h ok G Fs fun v d μ₁ F₁ s₁ t₁ G₁ Fs₁ sv hq => by
    obtain ⟨a, b, c, m, rfl, hs, hm, hq⟩ := hq
    obtain @⟨l, t, u, w, e0⟩ := Sees.rngI sv
    refine wpAny_pyIter_range (G₁.fz _ _ e0) hs ?_
    rw [hm]
    have hk : ∀ b o, s₁.heap.get? b = some o → (s₁.heap.push { cls := .type "range_iterator", data := .fields #[rawInt a, rawInt (m : Int), rawInt c] }).get? b = some o := fun b o e => Heap.get?_push_of_some _ e
    have hit : IsRangeIter (s₁.heap.push { cls := .type "range_iterator", data := .fields #[rawInt a, rawInt (m : Int), rawInt c] }) s₁.heap.objs.size a (m : Int) c := Heap.get?_push_size _ rfl
    refine ⟨_, μ₁, F₁, [s₁.heap.objs.size], t₁.trans (Tr.of_ext hk rfl rfl), G₁.ext hk, Aside.new (s := s₁) (s' := { s₁ with heap := s₁.heap.push { cls := .type "range_iterator", data := .fields #[rawInt a, rawInt (m : Int), rawInt c] } }) G₁ Fs₁ (fun a ha => ?_) (fun a ha => ?_), fun a ha => ?_, Iter.range hit, fun A' s' ok' ag _ => ?_, hq⟩
    · rw [List.mem_singleton.mp ha]; exact get_size
    · rw [List.mem_singleton.mp ha]; exact ⟨_, Heap.get?_push_size _ rfl, nns rfl⟩
    · rw [List.mem_singleton.mp ha]; exact fresh_back t₁ get_size
    · exact wp_selfIter fun Q' hq' => wpAny_pyIter_rangeiter (ag _ (.head _) _ hit) hq'

theorem EvI.enum {es : List Expr} {x1 : Nat} {tp pos : Pos} {f x : Expr} {Q} (hf : Ev g env own n ρ μ f fun d μ₁ => d = .val (.type "enumerate") ∧ plainE x = true ∧ Ev g env own n ρ μ₁ x fun d μ₂ => ∃ ds, d = .lst ds ∧ Q (enumD 0 ds) μ₂)
    (he : eval (.Call f [x] [] pos) env = (do callWith pos (← eval f env) [] (backTo pos (starEach [x] env)) (backToKw pos (keywordEach [] env))) := by rfl) :
    EvI g env own n ρ μ (.Tuple es x1 tp) (.Call f [x] [] pos) Q := fun A F s ok G Fs => by
  rw [he]
  refine wpAny_bind (wp_seq hf ok G Fs fun fv fd μ₁ F₁ s₁ t₁ G₁ Fs₁ sf hq => ?_)
  obtain ⟨rfl, hp, hx⟩ := hq
  refine callWith_P (Q := fun ds ks μ₂ => ∃ xs, ds = [.lst xs] ∧ ks = [] ∧ Q (enumD 0 xs) μ₂) KeepD.type (by simp [hp]) rfl ok G₁ Fs₁ sf ⟨hp, hx.mono (by rintro d μ₂ ⟨ds, e, hq⟩; exact ⟨ds, by rw [e], rfl, hq⟩)⟩ fun vs kvs ds ks μ₂ F₂ s₂ t₂ G₂ Fs₂ sf₂ sds sks hn hq => ?_
  obtain ⟨xs, rfl, rfl, hq⟩ := hq
  have hkv : kvs = [] := by simpa using hn
  subst hkv
  obtain rfl := Sees.valI sf₂
  obtain ⟨_, _, rfl, sv, r⟩ := SeesAll.consI sds
  obtain rfl := SeesAll.nilI r
  obtain @⟨l, vs, k, e0, sxs⟩ := Sees.lstI sv
  have hl := G₂.fz _ _ e0
  refine call_enumerate_1 hl fun h' hen hit hsz hk => ?_
  have hne : s₂.heap.objs.size + 1 ≠ s₂.heap.objs.size := by lia
  refine wpAny_pyIter_enum hen ?_
  have hfr : ∀ a ∈ [s₂.heap.objs.size + 1, s₂.heap.objs.size], s₂.heap.get? a = none := fun a ha => by
    cases hq : s₂.heap.get? a with
    | none => rfl
    | some o =>
      have hb : @LT.lt Nat _ a s₂.heap.objs.size := Heap.lt_size hq
      simp only [List.mem_cons, List.not_mem_nil, or_false] at ha
      rcases ha with rfl | rfl <;> lia
  refine ⟨_, μ₂, F₂, [s₂.heap.objs.size + 1, s₂.heap.objs.size], (t₁.trans t₂).trans (Tr.of_ext hk rfl rfl), G₂.ext hk, Aside.new (s := s₂) (s' := { s₂ with heap := h' }) G₂ Fs₂ hfr (fun a ha => ?_), fun a ha => fresh_back (t₁.trans t₂) (hfr a ha), Iter.enum hne e0 sxs hen hit (by simp), fun A' s' ok' ag _ => ?_, hq⟩
  · simp only [List.mem_cons, List.not_mem_nil, or_false] at ha
    rcases ha with rfl | rfl
    · exact ⟨_, hen, nns rfl⟩
    · obtain ⟨o, e, _, d'⟩ := hit; exact ⟨o, e, nns d'⟩
  · exact wp_selfIter fun Q' hq' => wpAny_pyIter_enum (ag _ (.head _) _ hen) hq'

theorem EvI.zip {es : List Expr} {x1 : Nat} {tp pos : Pos} {f x y : Expr} {Q} (hf : Ev g env own n ρ μ f fun d μ₁ => d = .val (.type "zip") ∧ plainE x = true ∧ plainE y = true ∧
      Ev g env own n ρ μ₁ x fun d μ₂ => Ev g env own n ρ μ₂ y fun d' μ₃ => ∃ xs ys, d = .lst xs ∧ d' = .lst ys ∧ Q (zipD xs ys) μ₃)
    (he : eval (.Call f [x, y] [] pos) env = (do callWith pos (← eval f env) [] (backTo pos (starEach [x, y] env)) (backToKw pos (keywordEach [] env))) := by rfl) :
    EvI g env own n ρ μ (.Tuple es x1 tp) (.Call f [x, y] [] pos) Q := fun A F s ok G Fs => by
  rw [he]
  refine wpAny_bind (wp_seq hf ok G Fs fun fv fd μ₁ F₁ s₁ t₁ G₁ Fs₁ sf hq => ?_)
  obtain ⟨rfl, hp, hp2, hx⟩ := hq
  refine callWith_P (Q := fun ds ks μ₂ => ∃ xs ys, ds = [.lst xs, .lst ys] ∧ ks = [] ∧ Q (zipD xs ys) μ₂) KeepD.type (by simp [hp, hp2]) rfl ok G₁ Fs₁ sf
    ⟨hp, hx.mono fun d μ₂ hy => ⟨hp2, hy.mono (by rintro d' μ₃ ⟨xs, ys, e, e', hq⟩; exact ⟨xs, ys, by rw [e, e'], rfl, hq⟩)⟩⟩ fun vs kvs ds ks μ₂ F₂ s₂ t₂ G₂ Fs₂ sf₂ sds sks hn hq => ?_
  obtain ⟨xs, ys, rfl, rfl, hq⟩ := hq
  have hkv : kvs = [] := by simpa using hn
  subst hkv
  obtain rfl := Sees.valI sf₂
  obtain ⟨_, _, rfl, sv, r⟩ := SeesAll.consI sds
  obtain ⟨_, _, rfl, su, r⟩ := SeesAll.consI r
  obtain rfl := SeesAll.nilI r
  obtain @⟨l, vs, k, e0, sxs⟩ := Sees.lstI sv
  obtain @⟨l2, ws, k2, e2, sys⟩ := Sees.lstI su
  have hl := G₂.fz _ _ e0
  have hl2 := G₂.fz _ _ e2
  have b1 := Heap.lt_size hl
  have b2 := Heap.lt_size hl2
  refine call_zip_2 ⟨_, hl, rfl, _, rfl⟩ ⟨_, hl2, rfl, _, rfl⟩ fun h' hz hTI hTO h1 h2 hsz hk => ?_
  refine wpAny_pyIter_zip hz ?_
  have AP : ZipApart (s₂.heap.objs.size + 4) (s₂.heap.objs.size + 2) (s₂.heap.objs.size + 3) s₂.heap.objs.size (s₂.heap.objs.size + 1) l l2 := by
    have b1' : @LT.lt Nat _ l s₂.heap.objs.size := b1
    have b2' : @LT.lt Nat _ l2 s₂.heap.objs.size := b2
    constructor <;> (refine neN ?_; lia)
  have hfr : ∀ a ∈ [s₂.heap.objs.size + 4, s₂.heap.objs.size + 2, s₂.heap.objs.size + 3, s₂.heap.objs.size, s₂.heap.objs.size + 1], s₂.heap.get? a = none := fun a ha => by
    cases hq : s₂.heap.get? a with
    | none => rfl
    | some o =>
      have hb : @LT.lt Nat _ a s₂.heap.objs.size := Heap.lt_size hq
      simp only [List.mem_cons, List.not_mem_nil, or_false] at ha
      rcases ha with rfl | rfl | rfl | rfl | rfl <;> lia
  refine ⟨_, μ₂, F₂, [s₂.heap.objs.size + 4, s₂.heap.objs.size + 2, s₂.heap.objs.size + 3, s₂.heap.objs.size, s₂.heap.objs.size + 1], (t₁.trans t₂).trans (Tr.of_ext hk rfl rfl), G₂.ext hk,
    Aside.new (s := s₂) (s' := { s₂ with heap := h' }) G₂ Fs₂ hfr (fun a ha => ?_), fun a ha => fresh_back (t₁.trans t₂) (hfr a ha), Iter.zip AP xs.length (Nat.le_refl _) e0 e2 sxs sys hz hTI hTO h1 h2 (by simp) (by simp), fun A' s' ok' ag _ => ?_, hq⟩
  · simp only [List.mem_cons, List.not_mem_nil, or_false] at ha
    rcases ha with rfl | rfl | rfl | rfl | rfl
    · exact ⟨_, hz, nns rfl⟩
    · exact ⟨_, hTI, nnsq rfl⟩
    · exact ⟨_, hTO, nnsq rfl⟩
    · obtain ⟨o, e, _, d'⟩ := h1; exact ⟨o, e, nns d'⟩
    · obtain ⟨o, e, _, d'⟩ := h2; exact ⟨o, e, nns d'⟩
  · exact wp_selfIter fun Q' hq' => wpAny_pyIter_zip (ag _ (.head _) _ hz) hq'
end

open PySem PySem.W PySem.Calls PyProof.Rows
set_option maxRecDepth 20000
section
variable {g : G} {env : Env} {own : List Addr} {n : Nat} {ρ : Str → Option D} {μ : Mu}

/-! comprehensions -/
def EtIfs (g : G) (env : Env) (own : List Addr) (n : Nat) (ρ : Str → Option D) : List Expr → Mu → (Bool → Mu → Prop) → Prop
  | [], μ, Q => Q true μ
  | c :: cs, μ, Q => Et g env own n ρ μ c fun b μ₁ => (b = true → EtIfs g env own n ρ cs μ₁ Q) ∧ (b = false → Q false μ₁)

abbrev CK := List D → (Str → Option D) → Mu → Prop
def CompL (g : G) (env : Env) (own : List Addr) (n : Nat) (inner : (Str → Option D) → Mu → List D → CK → Prop) (tgt : Expr) (ifs : List Expr) : List D → (Str → Option D) → Mu → List D → CK → Prop
  | [], ρ, μ, acc, K => K acc ρ μ
  | d :: ds, ρ, μ, acc, K => Asg env own (fun ρ₁ => EtIfs g env own n ρ₁ ifs μ fun ok μ₁ =>
      (ok = true → inner ρ₁ μ₁ acc fun acc' ρ₂ μ₂ => CompL g env own n inner tgt ifs ds ρ₂ μ₂ acc' K) ∧ (ok = false → CompL g env own n inner tgt ifs ds ρ₁ μ₁ acc K)) tgt d ρ
def CompG (g : G) (env : Env) (own : List Addr) (n : Nat) (elt : Expr) : List Comprehension → (Str → Option D) → Mu → List D → CK → Prop
  | [], ρ, μ, acc, K => acc.length ≤ 100000 ∧ Ev g env own n ρ μ elt fun d μ₁ => K (acc ++ [d]) ρ μ₁
  | ⟨tgt, iter, ifs, _⟩ :: rest, ρ, μ, acc, K => EvI g env own n ρ μ tgt iter fun ds μ₁ => CompL g env own n (CompG g env own n elt rest) tgt ifs ds ρ μ₁ acc K

theorem wt_ifs {A : Around} (ok : Ok g n A) : ∀ (ifs : List Expr) {μ Q F s}, EtIfs g env own n ρ ifs μ Q → GSt g μ F s.heap → FSt env own ρ μ F s.heap →
    wpAny (model g.prog g.w) A (forIn ifs true fun c r => if r = true then do let ok ← isTrue c env (eval c env); pure (ForInStep.yield ok) else pure (ForInStep.yield r)) (EtPost g μ s F Q) (fun _ _ => False) s := by
  have off : ∀ (ifs : List Expr) {P : Bool → Shared → Prop} {s : Shared}, P false s → wpAny (model g.prog g.w) A (forIn ifs false fun c r => if r = true then do let ok ← isTrue c env (eval c env); pure (ForInStep.yield ok) else pure (ForInStep.yield r)) P (fun _ _ => False) s := by
    intro ifs
    induction ifs with
    | nil => intro P s h; exact wpAny_pure h
    | cons c cs ih =>
      intro P s h
      rw [List.forIn_cons, if_neg (by decide)]
      exact wpAny_bind (wpAny_pure (ih h))
  intro ifs
  induction ifs with
  | nil => intro μ Q F s h G Fs; exact wpAny_pure ⟨μ, F, .refl, G, h⟩
  | cons c cs ih =>
    intro μ Q F s h G Fs
    rw [List.forIn_cons, if_pos rfl]
    refine wpAny_bind (wpAny_bind (wt_seq h ok G Fs fun b μ₁ F₁ s₁ t₁ G₁ Fs₁ hq => wpAny_pure ?_))
    cases b with
    | true => exact et_post t₁ (ih (hq.1 rfl) G₁ Fs₁)
    | false => exact off cs ⟨μ₁, F₁, t₁, G₁, hq.2 rfl⟩

theorem compTurn_last {elt : Expr} {gens : List Comprehension} {scope : Scope} {pos : Pos} {d : Nat} {target iter : Expr} {ifs : List Expr} (hg : gens[d]? = some ⟨target, iter, ifs, 0⟩) (hn : gens[d + 1]? = none) (it acc : Value) (env : Env) :
    compTurn (.ListComp elt gens scope pos) d it acc env = (standAt iter.pos >>= fun _ => pyNext it >>= fun r => match r with
      | none => pure (.done .next)
      | some v => letOwnedTupleGo target it v >>= fun _ => assign target env v >>= fun _ =>
        (forIn ifs true fun c r => if r = true then do let ok ← isTrue c env (eval c env); pure (ForInStep.yield ok) else pure (ForInStep.yield r)) >>= fun ok =>
        if ok = true then (do
            (do let x ← eval elt env; let _ ← call (.builtin "list.append") [acc, x]; pure ())
            again (.compLoop (.ListComp elt gens scope pos) d it acc env))
        else again (.compLoop (.ListComp elt gens scope pos) d it acc env)) := by
  unfold compTurn
  simp only [hg, hn]
  rfl
theorem compTurn_mid {elt : Expr} {gens : List Comprehension} {scope : Scope} {pos : Pos} {d : Nat} {target iter t' i' : Expr} {ifs f' : List Expr} (hg : gens[d]? = some ⟨target, iter, ifs, 0⟩) (hn : gens[d + 1]? = some ⟨t', i', f', 0⟩) (it acc : Value) (env : Env) :
    compTurn (.ListComp elt gens scope pos) d it acc env = (standAt iter.pos >>= fun _ => pyNext it >>= fun r => match r with
      | none => pure (.done .next)
      | some v => letOwnedTupleGo target it v >>= fun _ => assign target env v >>= fun _ =>
        (forIn ifs true fun c r => if r = true then do let ok ← isTrue c env (eval c env); pure (ForInStep.yield ok) else pure (ForInStep.yield r)) >>= fun ok =>
        if ok = true then (do
            let x ← eval i' env
            standAt i'.pos
            let x ← foldedSetIterable i' env x
            let it' ← holding [x] (pyIter x)
            let _ ← runOwn (.compStart (.ListComp elt gens scope pos) (d + 1) it' acc env) env
            again (.compLoop (.ListComp elt gens scope pos) d it acc env))
        else again (.compLoop (.ListComp elt gens scope pos) d it acc env)) := by
  unfold compTurn
  simp only [hg, hn]
  rfl

inductive AccAt (F : FM) (h : Heap) (a : Addr) (accD : List D) : Prop
  | mk (vs : Array Value) (k : Nat) (e : h.get? a = some { cls := .type "list", dict := Option.none, data := .seq vs k, slots := #[] }) (s : SeesAll F vs.toList accD)

theorem call_append {A : Around} {E : Value → Shared → Prop} {s : Shared} {prog w} {l : Addr} {vs : Array Value} {k : Nat} {x : Value} {Q : Value → Shared → Prop} (hl : s.heap.get? l = some { cls := .type "list", dict := Option.none, data := .seq vs k, slots := #[] })
    (hQ : ∀ h' k', h'.get? l = some { cls := .type "list", dict := Option.none, data := .seq (vs.push x) k', slots := #[] } → Heap.SameBut l s.heap h' → Q .none { s with heap := h' }) (hsz : vs.size ≤ sizeLine) :
    wpAny (model prog w) A (call (.builtin "list.append") [.ref l, x]) Q E s := by
  have hL : s.heap.IsList l vs := ⟨_, hl, rfl, _, rfl⟩
  refine wpAny_call_entry slot_list_append hL.typeIs entry_list_append ?_ (args_list_append _ _)
  show wpAny _ _ (updateSeq l (·.push x) >>= fun _ => ret .none) _ _ s
  refine wpAny_bind ?_
  refine wpAny_updateSeq hl rfl (wpAny_pure ⟨.none, rfl, hQ _ (k + 1) ?_ (Heap.SameBut.update ..)⟩)
  rw [Heap.get?_update_self _ hl rfl]
  simp [Obj.mapSeq]

theorem mark_none (A : Around) : A.mark none = A := by cases A; rfl

theorem AccAt.mono {F F' : FM} {h h' : Heap} {a accD} (x : AccAt F h a accD) (hk : ∀ o, h.get? a = some o → h'.get? a = some o) (le : ∀ b o, F b = some o → F' b = some o) : AccAt F' h' a accD :=
  (by obtain ⟨vs, k, e, sa⟩ := x; exact ⟨vs, k, hk _ e, sa.mono le⟩)

theorem comp_start {elt : Expr} {gens : List Comprehension} {scope : Scope} {pos : Pos} {d : Nat} {target iter : Expr} {ifs : List Expr} (hg : gens[d]? = some ⟨target, iter, ifs, 0⟩) {it acc : Value} {env : Env} {A : Around} {R : Result → Shared → Prop} {s : Shared} {prog w}
    (h0 : codeAny (model prog w) A (.compLoop (.ListComp elt gens scope pos) d it acc env) R s)
    (h : wpAny (model prog w) A (pyIter it) (fun it' s' => codeAny (model prog w) A (.compLoop (.ListComp elt gens scope pos) d it' acc env) R s') (notedBy (model prog w) A env fun x s' => R (.error x) s') s) :
    codeAny (model prog w) A (.compStart (.ListComp elt gens scope pos) d it acc env) R s := by
  refine codeAny_of_tree ?_
  show wpAny _ _ ((compStart (.ListComp elt gens scope pos) d it acc env).onRaise (fun x => do noteFrame x env; standAt theWindowsPlace)) _ _ s
  refine wpAny_notedAt ?_
  unfold compStart
  simp only [clausesOf, hg, Option.elim]
  show wpAny _ _ (ask >>= _) _ _ s
  refine wpAny_bind (wpAny_askSetting (wpAny_ite ?_))
  split
  · first
      | exact wpAny_bind (wpAny_pure (wpAny_pure (And.intro rfl h0)))
      | exact wpAny_pure (And.intro rfl h0)
  · refine wpAny_bind (wpAny_rule ?_)
    show wpAny _ _ (standAt iter.pos >>= _) _ _ s
    exact wpAny_bind (wpAny_standAt (wpAny_bind (wpAny_mono h (fun it' s' h' => wpAny_pure (And.intro rfl h')) fun _ _ x => x)))

theorem Aside.weak {fp own' F h} (x : Aside g env own μ F fp h) (k : ∀ a ∈ own', a ∈ own) : Aside g env own' μ F fp h := ⟨x.F, fun a ha q => x.own a ha (k a q), x.mu, x.tab, x.live, x.cells⟩
inductive CPost (g : G) (env : Env) (own : List Addr) (a : Addr) (μ₀ : Mu) (F₀ : FM) (s₀ : Shared) (K : CK) (r : Result) (s' : Shared) : Prop
  | mk (accD : List D) (ρ' : Str → Option D) (μ' : Mu) (F' : FM) (e : r = .ok .next) (t : Tr g (a :: own) μ₀ μ' F₀ F' s₀ s') (G : GSt g μ' F' s'.heap) (Fs : FSt env own ρ' μ' F' s'.heap) (As : Aside g env own μ' F' [a] s'.heap) (Acc : AccAt F' s'.heap a accD) (k : K accD ρ' μ')

def GenOk (x : Comprehension) : Prop := x.is_async = 0 ∧ ∀ env v, foldedSetIterable x.iter env v = pure v

theorem Iter.move {tgt it fp ds F F' h h'} (I : Iter g tgt it fp ds F h) (ag : Agree fp h h') (le : ∀ a o, F a = some o → F' a = some o) : Iter g tgt it fp ds F' h' := by
  exact I.move0 ag le

theorem notedF {M : Model} {A : Around} {E : Value → Shared → Prop} {α : Type} {t : Sem α} {Q : α → Shared → Prop} {s : Shared} (h : wpAny M A t Q (fun _ _ => False) s) : wpAny M A t Q E s :=
  wpAny_mono h (fun _ _ x => x) fun _ _ x => x.elim

/-- how a comprehension stands within its loop -/
structure CS (g : G) (env : Env) (own : List Addr) (a : Addr) (fp : List Addr) (μ₀ : Mu) (F₀ : FM) (s₀ : Shared) (ρ : Str → Option D) (μ : Mu) (accD : List D) (F : FM) (s : Shared) : Prop where
  tt : Tr g (a :: own) μ₀ μ F₀ F s₀ s
  gs : GSt g μ F s.heap
  fs : FSt env own ρ μ F s.heap
  as : Aside g env own μ F [a] s.heap
  ac : AccAt F s.heap a accD
  ai : Aside g env (a :: own) μ F fp s.heap
abbrev CL (g : G) (env : Env) (own : List Addr) (n : Nat) (elt : Expr) (rest : List Comprehension) (tgt : Expr) (ifs : List Expr) (K : CK) (ds : List D) (ρ : Str → Option D) (μ : Mu) (accD : List D) : Prop := CompL g env own n (CompG g env own n elt rest) tgt ifs ds ρ μ accD K
inductive CI (g : G) (env : Env) (own : List Addr) (n : Nat) (elt : Expr) (rest : List Comprehension) (tgt : Expr) (ifs : List Expr) (it : Value) (a : Addr) (fp : List Addr) (μ₀ : Mu) (F₀ : FM) (s₀ : Shared) (K : CK) (k : Nat) (s : Shared) : Prop
  | mk (ds : List D) (accD : List D) (ρ : Str → Option D) (μ : Mu) (F : FM) (hk : ds.length = k) (c : CS g env own a fp μ₀ F₀ s₀ ρ μ accD F s) (It : Iter g tgt it fp ds F s.heap) (hC : CL g env own n elt rest tgt ifs K ds ρ μ accD)
/-- one turn up to its tests -/
inductive CT (g : G) (env : Env) (own : List Addr) (n : Nat) (elt : Expr) (rest : List Comprehension) (tgt : Expr) (ifs : List Expr) (it : Value) (a : Addr) (fp : List Addr) (μ₀ : Mu) (F₀ : FM) (s₀ : Shared) (K : CK) (k : Nat) (acc : List D) (b : Bool) (s : Shared) : Prop
  | mk (ds : List D) (ρ : Str → Option D) (μ : Mu) (F : FM) (hk : ds.length + 1 = k) (c : CS g env own a fp μ₀ F₀ s₀ ρ μ acc F s) (It : Iter g tgt it fp ds F s.heap)
      (h : (b = true → CompG g env own n elt rest ρ μ acc fun acc' ρ₂ μ₂ => CL g env own n elt rest tgt ifs K ds ρ₂ μ₂ acc') ∧ (b = false → CL g env own n elt rest tgt ifs K ds ρ μ acc))
section
variable {elt : Expr} {gens : List Comprehension} {scope : Scope} {pos : Pos} {a : Addr} {rest : List Comprehension} {tgt : Expr} {ifs : List Expr} {it : Value} {fp : List Addr} {μ₀ : Mu} {F₀ : FM} {s₀ : Shared} {K : CK} {k : Nat}
theorem CS.tr {ρ μ₁ accD F F₁ s s₁} (c : CS g env own a fp μ₀ F₀ s₀ ρ μ accD F s) (t : Tr g [] μ μ₁ F F₁ s s₁) (G₁ : GSt g μ₁ F₁ s₁.heap) : CS g env own a fp μ₀ F₀ s₀ ρ μ₁ accD F₁ s₁ ∧ Agree fp s.heap s₁.heap := by
  have z := c.ai.tr t.toOwn
  have y := c.as.tr t.toOwn
  exact ⟨⟨c.tt.trans t.toOwn, G₁, c.fs.tr c.gs t G₁, y.1, c.ac.mono (fun o e => y.2 a (.head _) o e) t.le, z.1⟩, z.2⟩
theorem CS.same {ρ accD F s s'} (c : CS g env own a fp μ₀ F₀ s₀ ρ μ accD F s) (e1 : s'.heap = s.heap) (e2 : s'.os = s.os) (e3 : s'.gens = s.gens) : CS g env own a fp μ₀ F₀ s₀ ρ μ accD F s' := by
  have t := c.tt.trans (Tr.of_ext (g := g) (mt := a :: own) (μ := μ) (F := F) (fun b o e => by rw [e1]; exact e) e2 e3)
  obtain ⟨_, gs, fs, as, ac, ai⟩ := c
  rw [← e1] at gs fs as ac ai
  exact ⟨t, gs, fs, as, ac, ai⟩
theorem CS.noFp {ρ accD F s} (c : CS g env own a fp μ₀ F₀ s₀ ρ μ accD F s) : a ∉ fp := fun q => c.ai.own a q (.head _)
theorem CS.liveA {ρ accD F s} (c : CS g env own a fp μ₀ F₀ s₀ ρ μ accD F s) : ∃ o, s.heap.get? a = some o := (by obtain ⟨o, e, _⟩ := c.as.live a (.head _); exact ⟨o, e⟩)
theorem CI.of {ds accD ρ F s k'} (c : CS g env own a fp μ₀ F₀ s₀ ρ μ accD F s) (It : Iter g tgt it fp ds F s.heap) (hC : CL g env own n elt rest tgt ifs K ds ρ μ accD) (hk : ds.length + 1 = k') : ∃ m, m < k' ∧ CI g env own n elt rest tgt ifs it a fp μ₀ F₀ s₀ K m s :=
  ⟨ds.length, hk ▸ Nat.lt_succ_self _, ds, accD, ρ, μ, F, rfl, c, It, hC⟩
theorem live1 {F : FM} {h h' : Heap} {fp' : List Addr} (x : Aside g env own μ F [a] h) (m : ∀ b o, h.get? b = some o → b ∉ fp' → h'.get? b = some o) (ha : a ∉ fp') : ∀ b ∈ [a], ∃ o, h'.get? b = some o ∧ ¬ IsNs o := fun b hb => by
  obtain ⟨o, e, h⟩ := x.live b hb
  exact ⟨o, m b o e (by rw [List.mem_singleton.mp hb]; exact ha), h⟩
theorem fr_none {F F' : FM} {h : Heap} (hfr : ∀ b, F' b = none ∨ F b ≠ none ∨ h.get? b = none) {fp'} (x : Aside g env own μ F fp' h) : ∀ b ∈ fp', F' b = none := fun b hb => by
  rcases hfr b with k | k | k
  · exact k
  · exact absurd (x.F b hb) k
  · obtain ⟨o, e, _⟩ := x.live b hb; rw [k] at e; cases e
theorem comp_turn {X : Bool → Sem Fin} {P : Fin → Shared → Prop} {A : Around} {iter : Expr} {s₃} (hn : 4 ≤ n) (ok : Ok g n A) (hfp : ∀ b ∈ fp, s₀.heap.get? b = none) (i : CI g env own n elt rest tgt ifs it a fp μ₀ F₀ s₀ K k s₃)
    (hnil : ∀ s₄, CPost g env own a μ₀ F₀ s₀ K (.ok .next) s₄ → P (.done .next) s₄)
    (hcons : ∀ acc b s₇, CT g env own n elt rest tgt ifs it a fp μ₀ F₀ s₀ K k acc b s₇ → wpAny (model g.prog g.w) A (X b) P (fun _ _ => False) s₇) :
      wpAny (model g.prog g.w) A (standAt iter.pos >>= fun _ => pyNext it >>= fun r => match r with
        | none => pure (.done .next)
        | some v => letOwnedTupleGo tgt it v >>= fun _ => assign tgt env v >>= fun _ =>
          (forIn ifs true fun c r => if r = true then do let ok ← isTrue c env (eval c env); pure (ForInStep.yield ok) else pure (ForInStep.yield r)) >>= fun ok => X ok) P (fun _ _ => False) s₃ := by
  obtain ⟨ds₃, acc₃, ρ₃, μ₃, F₃, hk, c, It₃, hC₃⟩ := i
  have wk : ∀ x ∈ own, x ∈ a :: own := fun x hx => .tail _ hx
  refine wpAny_bind (wpAny_standAt (wpAny_bind ?_))
  cases ds₃ with
  | nil =>
    refine wpAny_mono (It₃ A s₃ F₃ (ok.le hn) (fun _ _ _ e => e) (fun _ _ e => e) c.gs.fz c.ai.F) ?_ fun _ _ x => x
    rintro r s₄ ⟨hr, m⟩
    subst hr
    have hno : ∀ a o, F₃ a = some o → s₄.heap.get? a = some o := fun a o e => m.1 a o (c.gs.fz a o e) fun q => by rw [c.ai.F a q] at e; cases e
    obtain ⟨G₄, Fs₄, _, tr⟩ := iter_keep c.gs c.fs (c.ai.weak wk) m (fun _ _ e => e) hno fr_same
    exact wpAny_pure (hnil s₄ ⟨acc₃, ρ₃, μ₃, F₃, rfl, tr _ s₀ μ₀ F₀ hfp c.tt, G₄, Fs₄, ⟨c.as.F, c.as.own, c.as.mu, c.as.tab, live1 c.as m.1 c.noFp, c.as.cells⟩, c.ac.mono (fun o e => m.1 a o e c.noFp) (fun _ _ e => e), hC₃⟩)
  | cons d' ds' =>
    refine wpAny_mono (It₃ A s₃ F₃ (ok.le hn) (fun _ _ _ e => e) (fun _ _ e => e) c.gs.fz c.ai.F) ?_ fun _ _ x => x
    rintro r s₄ ⟨v, hr, h₄⟩
    subst hr
    refine wpAny_bind (wpAny_mono h₄ ?_ fun _ _ x => x)
    rintro _ s₅ ⟨F₅, hle, hfz, hfr, sv, m, lv, It₅⟩
    obtain ⟨G₅, Fs₅, _, tr⟩ := iter_keep c.gs c.fs (c.ai.weak wk) m hle hfz hfr
    have c₅ : CS g env own a fp μ₀ F₀ s₀ ρ₃ μ₃ acc₃ F₅ s₅ := ⟨tr (a :: own) s₀ μ₀ F₀ hfp c.tt, G₅, Fs₅, ⟨fr_none hfr c.as, c.as.own, c.as.mu, c.as.tab, live1 c.as m.1 c.noFp, c.as.cells⟩, c.ac.mono (fun o e => m.1 a o e c.noFp) hle,
      ⟨fr_none hfr c.ai, c.ai.own, c.ai.mu, c.ai.tab, lv, c.ai.cells⟩⟩
    refine wpAny_bind (wpAny_mono (wp_asg ok.hand hC₃ sv G₅ Fs₅) ?_ fun _ _ x => x)
    rintro _ s₆ ⟨ρ₆, t₆, G₆, Fs₆, h₆⟩
    have t₆' : Tr g (a :: own) μ₃ μ₃ F₅ F₅ s₅ s₆ := t₆.mtLe fun x hx => .inl (wk x hx)
    obtain ⟨AsI₆, agI₆⟩ := c₅.ai.tr t₆'
    obtain ⟨As₆, ag₆⟩ := c₅.as.tr t₆
    have c₆ : CS g env own a fp μ₀ F₀ s₀ ρ₆ μ₃ acc₃ F₅ s₆ := ⟨c₅.tt.trans t₆', G₆, Fs₆, As₆, c₅.ac.mono (fun o e => ag₆ a (.head _) o e) (fun _ _ e => e), AsI₆⟩
    refine wpAny_bind (wpAny_mono (wt_ifs ok ifs h₆ G₆ Fs₆) ?_ fun _ _ x => x)
    rintro ok₇ s₇ ⟨μ₇, F₇, t₇, G₇, h₇⟩
    obtain ⟨c₇, ag₇⟩ := c₆.tr t₇ G₇
    exact hcons acc₃ ok₇ s₇ ⟨ds', ρ₆, μ₇, F₇, hk, c₇, It₅.move (fun b hb o e => ag₇ b hb o (agI₆ b hb o e)) t₇.le, h₇⟩

/-- the list gets one more -/
theorem CS.push {ρ acc F s h' k' d v} {vs : Array Value} (c : CS g env own a fp μ₀ F₀ s₀ ρ μ acc F s) (ea : ∃ o, s.heap.get? a = some o ∧ ∀ es ep, o.data ≠ .dict es ep) (sa : SeesAll F vs.toList acc) (sv : Sees F v d)
    (eh : h'.get? a = some { cls := .type "list", dict := Option.none, data := .seq (vs.push v) k', slots := #[] }) (sb : Heap.SameBut a s.heap h') : CS g env own a fp μ₀ F₀ s₀ ρ μ (acc ++ [d]) F { s with heap := h' } ∧ Agree fp s.heap h' := by
  have G₉ : GSt g μ F h' := c.gs.at sb (c.as.F a (.head _)) (c.as.mu a (.head _)) (c.as.tab a (.head _)) fun x hx hf => by
    obtain ⟨m, o2, _, _, e2, d2, _⟩ := c.gs.stkNs hx hf; obtain ⟨o, eo, hno⟩ := ea; rw [eo] at e2; cases e2; exact (hno _ _ d2).elim
  have t₉ : Tr g (a :: own) μ μ F F s { s with heap := h' } := ⟨fun b o e h1 _ _ => ⟨o, (sb.2 b (fun z => h1 (z ▸ .head _))).trans e, .refl o⟩, fun b o e => by
    by_cases hb : b = a
    · rw [hb]; exact ⟨_, eh⟩
    · exact ⟨o, (sb.2 b hb).trans e⟩, fun _ _ e => e, (Tr.refl (g := g) (mt := []) (μ := μ) (s := s)).fr, fun _ q => .inl q, rfl, rfl⟩
  have Fs₉ : FSt env own ρ μ F h' := by
    have hl : ∀ o, s.heap.get? env.locals = some o → h'.get? env.locals = some o := fun o e => (sb.2 _ fun z => c.as.own a (.head _) (z ▸ c.fs.ok.lown)).trans e
    have hc : ∀ p ∈ env.cells, ∀ o, s.heap.get? p.2 = some o → h'.get? p.2 = some o := fun p hp o e => (sb.2 _ (c.as.cells a (.head _) p hp)).trans e
    refine ⟨c.fs.ok, ?_, fun x d e => ?_, fun p hp => ?_, c.fs.ownF, fun b hb => ?_, c.fs.muo⟩
    · obtain ⟨mm, o, es, ep, e, r⟩ := c.fs.ns; exact ⟨mm, o, es, ep, hl o e, r⟩
    · obtain ⟨v, hv, hs⟩ := c.fs.vars x d e; exact ⟨v, hv.keeps hl hc, hs⟩
    · obtain ⟨v, o, e, d⟩ := c.fs.cells p hp; exact ⟨v, o, hc p hp o e, d⟩
    · obtain ⟨o, e⟩ := c.fs.live b hb; exact t₉.live b o e
  obtain ⟨AsI₉, agI₉⟩ : Aside g env (a :: own) μ F fp h' ∧ Agree fp s.heap h' := c.ai.tr t₉
  exact ⟨⟨c.tt.trans t₉, G₉, Fs₉, ⟨c.as.F, c.as.own, c.as.mu, c.as.tab, fun b hb => by rw [List.mem_singleton.mp hb]; exact ⟨_, eh, nnsq rfl⟩, c.as.cells⟩, ⟨_, k', eh, by simpa using sa.append (.cons sv .nil)⟩, AsI₉⟩, agI₉⟩

theorem comp_loop (hgens : ∀ x ∈ gens, GenOk x) (hn : 4 ≤ n) (m : Nat) : ∀ (d : Nat) {tgt iter : Expr} {ifs : List Expr} {rest : List Comprehension}, rest.length = m → gens.drop d = ⟨tgt, iter, ifs, 0⟩ :: rest →
    ∀ {A : Around}, Ok g n A → ∀ {ds it fp ρ μ accD K F s s₀ μ₀ F₀}, CS g env own a fp μ₀ F₀ s₀ ρ μ accD F s →
    (∀ b ∈ fp, s₀.heap.get? b = none) → Iter g tgt it fp ds F s.heap → CL g env own n elt rest tgt ifs K ds ρ μ accD →
    codeAny (model g.prog g.w) A (.compLoop (.ListComp elt gens scope pos) d it (.ref a) env) (CPost g env own a μ₀ F₀ s₀ K) s := by
  induction m using Nat.strongRecOn with
  | ind m ihm =>
  intro d tgt iter ifs rest hm hd A ok ds it fp ρ μ accD K F s s₀ μ₀ F₀ c hfp It hC
  have hg : gens[d]? = some ⟨tgt, iter, ifs, 0⟩ := (drop_cons hd).1
  have hdrop : gens.drop (d + 1) = rest := (drop_cons hd).2
  refine codeAny_loop rfl (CI g env own n elt rest tgt ifs it a fp μ₀ F₀ s₀ K) ?_ ds.length ⟨ds, accD, ρ, μ, F, rfl, c, It, hC⟩
  intro k s₃ i
  show wpAny _ A ((compTurn (.ListComp elt gens scope pos) d it (.ref a) env).onRaise (fun x => do noteFrame x env; theTreesLotGoes x)) _ _ s₃
  refine wpAny_noted (notedF ?_)
  cases rest with
  | nil =>
    rw [compTurn_last hg (List.getElem?_eq_none_iff.mpr (List.drop_eq_nil_iff.mp hdrop))]
    refine comp_turn hn ok hfp i (fun s₄ h => h) ?_
    rintro acc₇ ok₇ s₇ ⟨ds', ρ₇, μ₇, F₇, hk, c₇, It₇, h₇⟩
    cases ok₇ with
    | false => exact wpAny_pure ⟨rfl, CI.of c₇ It₇ (h₇.2 rfl) hk⟩
    | true =>
      obtain ⟨hz, hev⟩ := h₇.1 rfl
      refine wpAny_bind (wpAny_bind (wp_seq hev ok c₇.gs c₇.fs fun v dd μ₈ F₈ s₈ t₈ G₈ Fs₈ sv hL => ?_))
      obtain ⟨c₈, ag₈⟩ := c₇.tr t₈ G₈
      obtain ⟨vs, kk, ea, sa⟩ := c₈.ac
      refine wpAny_bind (call_append ea (fun h' k' eh sb => wpAny_pure (wpAny_pure ⟨rfl, ?_⟩)) (by have := sa.size; unfold sizeLine; lia))
      obtain ⟨c₉, ag₉⟩ := c₈.push ⟨_, ea, fun _ _ z => nomatch z⟩ sa sv eh sb
      exact CI.of c₉ (It₇.move (fun b hb o e => ag₉ b hb o (ag₈ b hb o e)) t₈.le) hL hk
  | cons g' rest' =>
    obtain ⟨t', i', f', as'⟩ := g'
    obtain ⟨ha0, hfold⟩ := hgens ⟨t', i', f', as'⟩ (List.mem_of_mem_drop (i := d + 1) (by rw [hdrop]; exact .head _))
    simp only at ha0 hfold
    subst ha0
    have hnx : gens[d + 1]? = some ⟨t', i', f', 0⟩ := (drop_cons hdrop).1
    rw [compTurn_mid hg hnx]
    refine comp_turn hn ok hfp i (fun s₄ h => h) ?_
    rintro acc₇ ok₇ s₇ ⟨ds', ρ₇, μ₇, F₇, hk, c₇, It₇, h₇⟩
    cases ok₇ with
    | false => exact wpAny_pure ⟨rfl, CI.of c₇ It₇ (h₇.2 rfl) hk⟩
    | true =>
      refine wpAny_bind (wpAny_mono (h₇.1 rfl A F₇ s₇ ok c₇.gs c₇.fs) (fun x s₈ h₈ => wpAny_bind (wpAny_standAt (wpAny_bind (wpAny_of_eq (hfold env x) (wpAny_bind (wpAny_holding (wpAny_mono h₈ ?_ fun _ _ x => x))))))) fun _ _ x => x)
      rintro it₉ s₉ ⟨ds₉, μ₉, F₉, fp₉, t₉, G₉, AsI₉, hfp₉, It₉, self₉, hL₉⟩
      obtain ⟨c₉, _⟩ := c₇.tr t₉ G₉
      have AsI₉' : Aside g env (a :: own) μ₉ F₉ fp₉ s₉.heap := ⟨AsI₉.F, fun b hb q => by
        cases q with
        | head => obtain ⟨o, e⟩ := c₇.liveA; rw [hfp₉ a hb] at e; cases e
        | tail _ q => exact AsI₉.own b hb q, AsI₉.mu, AsI₉.tab, AsI₉.live, AsI₉.cells⟩
      have c₁ : CS g env own a fp₉ μ₇ F₇ s₇ ρ₇ μ₉ acc₇ F₉ s₉ := ⟨t₉.toOwn, G₉, c₉.fs, c₉.as, c₉.ac, AsI₉'⟩
      refine wpAny_bind (wpAny_runOwn (A := A) (h := none) ?_)
      rw [mark_none]
      have loop : ∀ {s₉' : Shared}, s₉'.heap = s₉.heap → s₉'.os = s₉.os → s₉'.gens = s₉.gens → codeAny (model g.prog g.w) A (.compLoop (.ListComp elt gens scope pos) (d + 1) it₉ (.ref a) env) (CPost g env own a μ₇ F₇ s₇ fun acc' ρ₂ μ₂ => CL g env own n elt (⟨t', i', f', 0⟩ :: rest') tgt ifs K ds' ρ₂ μ₂ acc') s₉' := by
        intro s₉' e1 e2 e3
        exact ihm rest'.length (by simp at hm; lia) (d + 1) rfl hdrop ok (c₁.same e1 e2 e3) hfp₉ (by rw [e1]; exact It₉) hL₉
      refine codeAny_mono (comp_start hnx (loop rfl rfl rfl) (notedF (wpAny_mono (self₉ A s₉ (ok.le hn) (fun _ _ _ e => e) G₉.fz) (fun it'' s'' ⟨e1, e2, e3, e4⟩ => by subst e1; exact loop e2 e3 e4) fun _ _ x => x))) ?_
      rintro r s₁₀ ⟨acc', ρ', μ', F', rfl, t₁₀, G₁₀, Fs₁₀, As₁₀, Acc₁₀, hL₁₀⟩
      obtain ⟨AsI₁₀, agI₁₀⟩ := c₇.ai.tr t₁₀
      exact wpAny_pure ⟨rfl, CI.of ⟨c₇.tt.trans t₁₀, G₁₀, Fs₁₀, As₁₀, Acc₁₀, AsI₁₀⟩ (It₇.move agI₁₀ t₁₀.le) hL₁₀ hk⟩
end
end

open PySem PySem.W PySem.Calls PyProof.Rows
set_option maxRecDepth 20000
section
variable {g : G} {env : Env} {own : List Addr} {n : Nat} {ρ : Str → Option D} {μ : Mu}

def closGo (cells : List (Str × Addr)) : List (Str × NameKind) → List (Str × Addr) → List (Str × Addr)
  | [], acc => acc
  | (x, k) :: r, acc => if k == .free then closGo cells r ((x, (cells.lookup x).getD 0) :: acc) else closGo cells r acc
/-- the names that a block takes from around it are cells of env's -/
def freeOk (env : Env) (scope : Scope) : Bool := scope.names.all fun y => !(y.2 == .free) || ((env.cells.lookup y.1).isSome && !(env.kindOf y.1 == some .local))

theorem closGo_eq (env : Env) : ∀ (names : List (Str × NameKind)) (acc : List (Str × Addr)), (names.all fun y => !(y.2 == .free) || ((env.cells.lookup y.1).isSome && !(env.kindOf y.1 == some .local))) = true →
    (forIn names acc fun (p : Str × NameKind) cs => if (p.2 == .free) = true then (do let c ← cellOf env p.1; pure (ForInStep.yield ((p.1, c) :: cs))) else pure (ForInStep.yield cs) : Sem (List (Str × Addr))) = pure (closGo env.cells names acc)
  | [], acc, _ => rfl
  | (x, k) :: r, acc, h => by
    simp only [List.all_cons, Bool.and_eq_true] at h
    rw [List.forIn_cons]
    unfold closGo
    by_cases hk : (k == NameKind.free) = true
    · have h1 := h.1
      simp only [hk, Bool.not_true, Bool.false_or, Bool.and_eq_true] at h1
      obtain ⟨c, hc⟩ := Option.isSome_iff_exists.mp h1.1
      simp only [hk, if_true]
      unfold cellOf
      rw [hc]
      exact closGo_eq env r _ h.2
    · simp only [hk]
      exact closGo_eq env r _ h.2
theorem closureFor_eq {scope : Scope} (h : freeOk env scope = true) : closureFor scope env = pure (closGo env.cells scope.names []) := by
  unfold closureFor
  have := closGo_eq env scope.names [] h
  refine Eq.trans ?_ ((congrArg (fun m : Sem (List (Str × Addr)) => m >>= fun cs => pure cs) this).trans rfl)
  rfl

/-- what a block sees of the names around it -/
def restr (scope : Scope) (ρ : Str → Option D) : Str → Option D := fun x => if scope.names.lookup x = some .free then ρ x else Option.none
theorem restr_get {scope : Scope} {x : Str} {d} (h : scope.names.lookup x = some .free) (k : ρ x = some d) : restr scope ρ x = some d := by unfold restr; rw [if_pos h]; exact k

set_option tactic.hygienic true in
theorem closGo_mem {cells : List (Str × Addr)} : ∀ (names : List (Str × NameKind)) (acc : List (Str × Addr)) {p}, p ∈ closGo cells names acc → p ∈ acc ∨ ((p.1, NameKind.free) ∈ names ∧ p.2 = (cells.lookup p.1).getD 0)
  | [], acc, p, h => .inl h
  | (x, k) :: r, acc, p, h => by
    unfold closGo at h
    split at h
    · rename_i hk
      have hk : k = .free := by simpa using hk
      subst hk
      rcases closGo_mem r _ h with q | ⟨q1, q2⟩
      · cases q with
        | head => exact .inr ⟨.head _, rfl⟩
        | tail _ q => exact .inl q
      · exact .inr ⟨.tail _ q1, q2⟩
    · rcases closGo_mem r _ h with q | ⟨q1, q2⟩
      · exact .inl q
      · exact .inr ⟨.tail _ q1, q2⟩
theorem closGo_look {cells : List (Str × Addr)} : ∀ (names : List (Str × NameKind)) (acc : List (Str × Addr)) {x : Str}, (names.map (·.1)).Nodup → (x, NameKind.free) ∈ names → (closGo cells names acc).lookup x = some ((cells.lookup x).getD 0) := by
  have other : ∀ (names : List (Str × NameKind)) (acc : List (Str × Addr)) {x : Str}, x ∉ names.map (·.1) → (closGo cells names acc).lookup x = acc.lookup x := by
    intro names
    induction names with
    | nil => intro acc x _; rfl
    | cons p r ih =>
      intro acc x hx
      obtain ⟨y, k⟩ := p
      simp only [List.map_cons, List.mem_cons, not_or] at hx
      unfold closGo
      split
      · rw [ih _ hx.2, List.lookup_cons, beq_eq_false_iff_ne.mpr hx.1]
      · exact ih _ hx.2
  intro names
  induction names with
  | nil => intro acc x _ h; cases h
  | cons p r ih =>
    intro acc x hn h
    obtain ⟨y, k⟩ := p
    simp only [List.map_cons, List.nodup_cons] at hn
    unfold closGo
    cases h with
    | head => rw [if_pos (by rfl), other _ _ hn.1, List.lookup_cons]; simp
    | tail _ h => split <;> exact ih _ hn.2 h
set_option tactic.hygienic true in
theorem closGo_nodup {cells : List (Str × Addr)} (hc : (cells.map (·.2)).Nodup) : ∀ (names : List (Str × NameKind)) (acc : List (Str × Addr)), (names.map (·.1)).Nodup → (∀ y ∈ names, y.2 = .free → (cells.lookup y.1).isSome = true) →
    (acc.map (·.2)).Nodup → (∀ p ∈ acc, p.1 ∉ names.map (·.1) ∧ p ∈ cells) → ((closGo cells names acc).map (·.2)).Nodup
  | [], acc, _, _, h, _ => h
  | (x, k) :: r, acc, hn, hs, h, ha => by
    simp only [List.map_cons, List.nodup_cons] at hn
    unfold closGo
    split
    · rename_i hk
      obtain ⟨c, hcx⟩ := Option.isSome_iff_exists.mp (hs (x, k) (.head _) (by simpa using hk))
      refine closGo_nodup hc r _ hn.2 (fun y hy => hs y (.tail _ hy)) ?_ ?_
      · simp only [List.map_cons, List.nodup_cons]
        refine ⟨fun q => ?_, h⟩
        obtain ⟨p, hp, e⟩ := List.mem_map.mp q
        obtain ⟨h1, h2⟩ := ha p hp
        rw [hcx, Option.getD_some] at e
        have : p.1 = x := nodup_snd hc (show (p.1, c) ∈ cells from e ▸ h2) (lookup_mem hcx)
        exact h1 (this ▸ .head _)
      · intro p hp
        cases hp with
        | head => exact ⟨hn.1, by rw [hcx]; exact lookup_mem hcx⟩
        | tail _ hp => exact ⟨fun q => (ha p hp).1 (.tail _ q), (ha p hp).2⟩
    · exact closGo_nodup hc r _ hn.2 (fun y hy => hs y (.tail _ hy)) h fun p hp => ⟨fun q => (ha p hp).1 (.tail _ q), (ha p hp).2⟩

theorem lookup_of_nodup {α : Type} {l : List (Str × α)} (hn : (l.map (·.1)).Nodup) {x : Str} {k : α} (h : (x, k) ∈ l) : l.lookup x = some k := by
  induction l with
  | nil => cases h
  | cons p r ih =>
    obtain ⟨y, c⟩ := p
    simp only [List.map_cons, List.nodup_cons] at hn
    rw [List.lookup_cons]
    cases h with
    | head => simp
    | tail _ h =>
      have : x ≠ y := fun e => hn.1 (e ▸ List.mem_map.mpr ⟨_, h, rfl⟩)
      rw [beq_eq_false_iff_ne.mpr this]; exact ih hn.2 h
theorem relabel_free {scope : Scope} {x : Str} : scope.names.lookup x = some .free → (relabel scope env).names.lookup x = some .cell ∨ (relabel scope env).names.lookup x = some .free := by
  unfold relabel
  dsimp only
  generalize scope.names = names
  intro h
  induction names with
  | nil => simp at h
  | cons p r ih =>
    obtain ⟨y, k⟩ := p
    rw [List.map_cons]
    rw [List.lookup_cons] at h
    cases hy : x == y with
    | true =>
      rw [hy] at h; cases h
      by_cases hc : ((NameKind.free == NameKind.free) && env.scope.kind == .function && env.kindOf y == some .cell) = true
      · rw [if_pos hc, List.lookup_cons, hy]; exact .inl rfl
      · rw [if_neg hc, List.lookup_cons, hy]; exact .inr rfl
    | false =>
      rw [hy] at h
      by_cases hc : ((k == NameKind.free) && env.scope.kind == .function && env.kindOf y == some .cell) = true
      · rw [if_pos hc, List.lookup_cons, hy]; exact ih h
      · rw [if_neg hc, List.lookup_cons, hy]; exact ih h

theorem freeOk_get {scope : Scope} (hf : freeOk env scope = true) {x : Str} (h : (x, NameKind.free) ∈ scope.names) : (∃ c, env.cells.lookup x = some c) ∧ env.kindOf x ≠ some .local := by
  have := List.all_eq_true.mp hf _ h
  simp only [beq_self_eq_true, Bool.not_true, Bool.false_or, Bool.and_eq_true, Bool.not_eq_true', beq_eq_false_iff_ne] at this
  exact ⟨Option.isSome_iff_exists.mp this.1, this.2⟩

set_option tactic.hygienic true in
/-- the frame of a block within a frame: its own names, the cells that it takes -/
theorem FSt.block {cenv : Env} {C : Addr} {scope : Scope} {F : FM} {h h' : Heap} (Fs : FSt env own ρ μ F h) (G : GSt g μ F h') (hf : freeOk env scope = true) (hnd : (scope.names.map (·.1)).Nodup)
    (hk : cenv.scope.kind = .function) (hgl : cenv.globals = mainGlobals) (hbl : cenv.builtins = builtinsNs) (hloc : cenv.locals = C) (hcl : cenv.cells = closGo env.cells scope.names [])
    (hkd : ∀ x, scope.names.lookup x = some .free → cenv.kindOf x = some .cell ∨ cenv.kindOf x = some .free)
    (hC : h.get? C = none) (hns : ∃ m, h'.Ns C m) (e : ∀ b o, h.get? b = some o → h'.get? b = some o) (hFC : F C = none) (hmC : C ∉ μ.dom) : FSt cenv [C] (restr scope ρ) μ F h' := by
  have hlk : ∀ x c, (x, c) ∈ closGo env.cells scope.names [] → (x, NameKind.free) ∈ scope.names ∧ env.cells.lookup x = some c := fun x c hm => by
    rcases closGo_mem _ _ hm with q | ⟨q1, q2⟩
    · cases q
    · obtain ⟨⟨c', hc'⟩, _⟩ := freeOk_get hf q1
      have q2 : c = (env.cells.lookup x).getD 0 := q2
      rw [hc', Option.getD_some] at q2
      exact ⟨q1, q2 ▸ hc'⟩
  refine ⟨⟨hk, hgl, hbl, by rw [hloc]; exact .head _, ?_⟩, by rw [hloc]; exact hns, fun x d hx => ?_, fun p hp => ?_, fun a ha => by rw [List.mem_singleton.mp ha]; exact hFC, fun a ha => ?_, fun a ha => by rw [List.mem_singleton.mp ha]; exact hmC⟩
  · rw [hcl]
    exact closGo_nodup Fs.ok.cnd _ _ hnd (fun y hy hk => by obtain ⟨⟨c, hc⟩, _⟩ := freeOk_get hf (x := y.1) (by rw [← hk]; exact hy); rw [hc]; rfl) (by simp) (fun _ h => nomatch h)
  · unfold restr at hx
    split at hx
    · rename_i hfr
      obtain ⟨v, hv, sv⟩ := Fs.vars x d hx
      have hmem := lookup_mem hfr
      obtain ⟨⟨c, hc⟩, hnl⟩ := freeOk_get hf hmem
      refine ⟨v, .inr ⟨hkd x hfr, c, ?_, ?_⟩, sv⟩
      · rw [hcl, closGo_look _ _ hnd hmem, hc]; rfl
      · rcases hv with ⟨hk, _⟩ | ⟨_, c', hc', hcell⟩
        · exact absurd hk hnl
        · rw [hc] at hc'; cases hc'; exact hcell.keeps e
    · cases hx
  · rw [hcl] at hp
    obtain ⟨x, c⟩ := p
    obtain ⟨_, hc⟩ := hlk x c hp
    obtain ⟨v, hv⟩ := Fs.cells _ (lookup_mem hc)
    exact ⟨v, hv.keeps e⟩
  · rw [List.mem_singleton.mp ha]; obtain ⟨m, o, _, _, eo, _⟩ := hns; exact ⟨o, eo⟩

theorem GSt.freeze {F h a o} (G : GSt g μ F h) (e : h.get? a = some o) (hF : F a = none) (hm : a ∉ μ.dom) (ht : a ∉ g.tabDom) (hns : ∀ es ep, o.data ≠ .dict es ep) : GSt g μ (put F a o) h := by
  have hle := put_le (o := o) hF
  refine ⟨fun b x q => hle _ _ (G.base b x q), fun b x q => ?_, fun q hq => ?_, fun p hp => ?_, G.nd, fun c hc => (by obtain ⟨o, e⟩ := G.fzc c hc; exact ⟨o, hle _ _ e⟩), G.dj, fun x hx => ?_⟩
  rotate_right
  · obtain ⟨hk', L, m, hf, hn, hF', hm'⟩ := G.stk x hx
    refine ⟨hk', L, m, hf, hn, ?_, hm'⟩
    obtain ⟨o', es, ep, ho, hd, r⟩ := hn
    rw [put_ne (fun z : L = a => by rw [z, e] at ho; cases ho; exact hns _ _ hd)]; exact hF'
  · by_cases hb : b = a
    · subst hb; rw [put_same] at q; cases q; exact e
    · rw [put_ne hb] at q; exact G.fz _ _ q
  · obtain ⟨x, ps, b, c, d⟩ := G.tb q hq
    refine ⟨by rw [put_ne (fun z : q.2.1 = a => ht (z ▸ List.mem_map.mpr ⟨q, hq, rfl⟩))]; exact x, ps, b, c, fun pos cv z => (d pos cv z).mono hle⟩
  · obtain ⟨x, b⟩ := G.mu p hp
    exact ⟨by rw [put_ne (fun z : p.1 = a => hm (z ▸ List.mem_map.mpr ⟨p, hp, rfl⟩))]; exact x, b.move hle fun _ q => q⟩

structure CompOk (env : Env) (scope : Scope) (gens : List Comprehension) : Prop where
  free : freeOk env scope = true
  nd : (scope.names.map (·.1)).Nodup
  kind : scope.kind = .function
  nocell : ∀ y ∈ scope.names, y.2 ≠ .cell
  gens : ∀ x ∈ gens, GenOk x

theorem comp_core {elt tgt iter : Expr} {ifs : List Expr} {rest : List Comprehension} {scope : Scope} {pos : Pos} {A : Around} {F s} {use : Option (Value → Sem Unit)} {P : Value → Shared → Prop} {Q : List D → Mu → Prop} (hn : 4 ≤ n)
    (ck : CompOk env scope (⟨tgt, iter, ifs, 0⟩ :: rest)) (ok : Ok g n A) (G : GSt g μ F s.heap) (Fs : FSt env own ρ μ F s.heap)
    (h : EvI g env own n ρ μ tgt iter fun ds μ₁ => ∀ cenv C, cenv = compEnvC scope (closGo env.cells scope.names []) C env →
      CompL g cenv [C] n (CompG g cenv [C] n elt rest) tgt ifs ds (restr scope ρ) μ₁ [] fun acc _ μ' => Q acc μ')
    (fin : ∀ a C s' accD μ' F', Tr g [] μ μ' F F' s s' → GSt g μ' F' s'.heap → FSt env own ρ μ' F' s'.heap → Sees F' (.ref a) (.lst accD) → (∃ m, s'.heap.Ns C m) → s.heap.get? C = none → F' C = none → C ∉ μ'.dom → C ∉ g.tabDom → Q accD μ' →
      compPost (model g.prog g.w) A (fun _ _ => False) use P (.ref a) C (.ok .next) s') :
    wpAny (model g.prog g.w) A (comprehension (.ListComp elt (⟨tgt, iter, ifs, 0⟩ :: rest) scope pos) scope env (firstIterPos (⟨tgt, iter, ifs, 0⟩ :: rest) pos) (newList []) false (firstIter (⟨tgt, iter, ifs, 0⟩ :: rest) env) use) P (fun _ _ => False) s := by
  refine wpAny_comprehension_free (g := ⟨tgt, iter, ifs, 0⟩) (gs := rest) rfl (fun x => (ck.gens _ (.head _)).2 env x) (closureFor_eq ck.free) ck.kind (fun x hx hl => lookup_of_nodup ck.nd (by rw [← hl]; exact hx)) ?_
  show wpAny _ _ (eval iter env) _ _ _
  refine wpAny_mono (h A F s ok G Fs) (fun x s₁ h₁ => wpAny_mono h₁ ?_ fun _ _ x => x) fun _ _ x => x
  rintro it s₂ ⟨ds, μ₂, F₂, fp, t₂, G₂, AsI, hfp, It, self, hC⟩
  have Fs₂ := Fs.tr G t₂ G₂
  refine wpAny_newObj_type (wpAny_newFunctionEnv ck.nocell (fun x hx => nomatch hx) (fun h₃ hns hsb => ?_) ck.kind)
  dsimp only at hns hsb ⊢
  have hz : (s₂.heap.push (listObj ([] : List Value).toArray)).objs.size = s₂.heap.objs.size + 1 := Heap.size_push ..
  -- a: the list; C: the block's names
  have ea : (s₂.heap.push (listObj ([] : List Value).toArray)).get? s₂.heap.objs.size = some (listObj ([] : List Value).toArray) := Heap.get?_push_size _ rfl
  generalize hH : s₂.heap.push (listObj ([] : List Value).toArray) = H at hns hsb hz ea
  have keepH : ∀ b o, s₂.heap.get? b = some o → H.get? b = some o := fun b o e => by rw [← hH]; exact Heap.get?_push_of_some _ e
  generalize hCC : H.objs.size = C at hns hsb hz
  have haC : s₂.heap.objs.size ≠ C := by rw [hz]; exact Nat.ne_of_lt (Nat.lt_succ_self _)
  have fr2 : ∀ b, s₂.heap.objs.size ≤ b → s₂.heap.get? b = none := fun b hb => by
    cases q : s₂.heap.get? b with
    | none => rfl
    | some o => exact absurd (Heap.lt_size q) (Nat.not_lt.mpr hb)
  have fC : s₂.heap.get? C = none := fr2 C (by rw [hz]; exact Nat.le_succ _)
  have keep3 : ∀ b o, s₂.heap.get? b = some o → h₃.get? b = some o := fun b o e => hsb.extBut b o (fun z => by rw [z, fC] at e; cases e) (Heap.get?_push_of_some _ (keepH b o e))
  have ea3 : h₃.get? s₂.heap.objs.size = some (listObj ([] : List Value).toArray) := hsb.extBut _ _ haC (Heap.get?_push_of_some _ ea)
  have G₃ : GSt g μ₂ F₂ h₃ := G₂.ext keep3
  have fa := G₂.fresh (fr2 _ (Nat.le_refl _))
  have fCf := G₂.fresh fC
  have hcell2 : ∀ b, s₂.heap.get? b = none → ∀ p ∈ (closGo env.cells scope.names []), p.2 ≠ b := fun b hb p hp q => by
    obtain ⟨x, c⟩ := p
    rcases closGo_mem _ _ hp with k | ⟨k1, k2⟩
    · cases k
    · obtain ⟨⟨c', hc'⟩, _⟩ := freeOk_get ck.free k1
      have k2 : c = (env.cells.lookup x).getD 0 := k2
      rw [hc', Option.getD_some] at k2
      obtain ⟨v, o, e, _⟩ := Fs₂.cells _ (lookup_mem hc')
      have q : c = b := q
      rw [← k2, q, hb] at e; cases e
  let cenv := compEnvC scope (closGo env.cells scope.names []) C env
  have Fs₃ : FSt cenv [C] (restr scope ρ) μ₂ F₂ h₃ := Fs₂.block G₃ ck.free ck.nd ck.kind Fs.ok.glob Fs.ok.blt rfl rfl (fun x hx => relabel_free hx) fC ⟨_, hns⟩ keep3 fCf.1 fCf.2.1
  have aC : s₂.heap.objs.size ∉ [C] := fun q => haC (List.mem_singleton.mp q)
  have As₃ : Aside g cenv [C] μ₂ F₂ [s₂.heap.objs.size] h₃ := by
    refine ⟨fun b hb => ?_, fun b hb => ?_, fun b hb => ?_, fun b hb => ?_, fun b hb => ?_, fun b hb => ?_⟩ <;> rw [List.mem_singleton.mp hb]
    · exact fa.1
    · exact aC
    · exact fa.2.1
    · exact fa.2.2
    · exact ⟨_, ea3, nnsq rfl⟩
    · exact hcell2 _ (fr2 _ (Nat.le_refl _))
  have AsI₃ : Aside g cenv (s₂.heap.objs.size :: [C]) μ₂ F₂ fp h₃ := by
    refine ⟨AsI.F, fun b hb q => ?_, AsI.mu, AsI.tab, fun b hb => (by obtain ⟨o, e, h⟩ := AsI.live b hb; exact ⟨o, keep3 _ _ e, h⟩), fun b hb p hp q => ?_⟩
    · obtain ⟨o, e, _⟩ := AsI.live b hb
      simp only [List.mem_cons, List.not_mem_nil, or_false] at q
      rcases q with rfl | rfl
      · rw [fr2 _ (Nat.le_refl _)] at e; cases e
      · rw [fC] at e; cases e
    · obtain ⟨x, c⟩ := p
      rcases closGo_mem _ _ hp with k | ⟨k1, k2⟩
      · cases k
      · obtain ⟨⟨c', hc'⟩, _⟩ := freeOk_get ck.free k1
        have k2 : c = (env.cells.lookup x).getD 0 := k2
        rw [hc', Option.getD_some] at k2
        exact AsI.cells b hb _ (lookup_mem hc') (by rw [← k2]; exact q)
  have t₃ : Tr g (s₂.heap.objs.size :: [C]) μ₂ μ₂ F₂ F₂ s₂ { s₂ with heap := h₃, toks := s₂.toks + 0 } := Tr.of_ext keep3 rfl rfl
  have hgens : ∀ x ∈ (⟨tgt, iter, ifs, 0⟩ :: rest : List Comprehension), GenOk x := ck.gens
  have t₂' : Tr g (s₂.heap.objs.size :: [C]) μ μ₂ F F₂ s s₂ := t₂.toOwn
  have loop : ∀ {s₉ : Shared}, s₉.heap = h₃ → s₉.os = s₂.os → s₉.gens = s₂.gens → codeAny (model g.prog g.w) A (.compLoop (.ListComp elt (⟨tgt, iter, ifs, 0⟩ :: rest) scope pos) 0 it (.ref s₂.heap.objs.size) cenv)
      (CPost g cenv [C] s₂.heap.objs.size μ F s fun acc _ μ' => Q acc μ') s₉ := by
    intro s₉ e1 e2 e3
    refine comp_loop (pos := pos) (scope := scope) hgens hn rest.length 0 rfl rfl ok ⟨t₂'.trans (Tr.of_ext (fun b o e => by rw [e1]; exact keep3 b o e) e2 e3), by rw [e1]; exact G₃, by rw [e1]; exact Fs₃, by rw [e1]; exact As₃, by rw [e1]; exact ⟨_, 0, ea3, .nil⟩, by rw [e1]; exact AsI₃⟩ hfp
      (by rw [e1]; exact It.move (fun b hb o e => keep3 b o e) (fun _ _ e => e)) (hC cenv C rfl)
  refine codeAny_mono (comp_start rfl (loop rfl rfl rfl) (notedF (wpAny_mono (self A _ (ok.le hn) (fun b hb o e => keep3 b o e) (fun b o e => keep3 _ _ (G₂.fz _ _ e))) (fun it'' s'' ⟨e1, e2, e3, e4⟩ => by subst e1; exact loop e2 e3 e4) fun _ _ x => x))) ?_
  rintro r s' ⟨accD, ρ', μ', F', rfl, t', G', Fs', As', ⟨vs, k, eo, sa⟩, hQ⟩
  have hle := put_le (o := { cls := .type "list", dict := Option.none, data := .seq vs k, slots := #[] }) (As'.F _ (.head _))
  have frs : ∀ b, s₂.heap.get? b = none → s.heap.get? b = none := fun b hb => fresh_back t₂ hb
  have T : Tr g [] μ μ' F F' s s' := t'.mtLe fun b hb => .inr (by
    simp only [List.mem_cons, List.not_mem_nil, or_false] at hb
    rcases hb with rfl | rfl
    · exact frs _ (fr2 _ (Nat.le_refl _))
    · exact frs _ fC)
  have T2 : Tr g [] μ μ' F (put F' s₂.heap.objs.size { cls := .type "list", dict := Option.none, data := .seq vs k, slots := #[] }) s s' := { T with
    le := fun b o e => hle _ _ (T.le b o e)
    fr := fun b => by
      by_cases hb : b = s₂.heap.objs.size
      · subst hb; exact .inr (.inr (.inr (frs _ (fr2 _ (Nat.le_refl _)))))
      · rw [put_ne hb]; exact T.fr b }
  have G'' := G'.freeze eo (As'.F _ (.head _)) (As'.mu _ (.head _)) (As'.tab _ (.head _)) (fun _ _ z => nomatch z)
  have Fend : FSt env own ρ μ' _ s'.heap := Fs.tr G T2 G''
  have hCl : C ∈ [C] := .head _
  refine fin _ C s' accD μ' _ T2 G'' Fend (.lst put_same (sa.mono hle)) Fs'.ns (frs _ fC) ?_ (Fs'.muo C hCl) (by obtain ⟨m, hm⟩ := Fs'.ns; exact G'.nsTab hm) hQ
  rw [put_ne (Ne.symm haC)]
  exact Fs'.ownF C hCl

theorem Ev.comp {elt tgt iter : Expr} {ifs : List Expr} {rest : List Comprehension} {scope : Scope} {pos : Pos} {Q : D → Mu → Prop} (hn : 4 ≤ n) (ck : CompOk env scope (⟨tgt, iter, ifs, 0⟩ :: rest))
    (h : EvI g env own n ρ μ tgt iter fun ds μ₁ => ∀ cenv C, cenv = compEnvC scope (closGo env.cells scope.names []) C env →
      CompL g cenv [C] n (CompG g cenv [C] n elt rest) tgt ifs ds (restr scope ρ) μ₁ [] fun acc _ μ' => Q (.lst acc) μ') :
    Ev g env own n ρ μ (.ListComp elt (⟨tgt, iter, ifs, 0⟩ :: rest) scope pos) Q := fun A F s ok G Fs => by
  rw [eval_ListComp]
  refine comp_core (Q := fun acc μ' => Q (.lst acc) μ') hn ck ok G Fs h fun a C s' accD μ' F' t G' Fs' sv hns hC hFC hmC htC hQ => ?_
  obtain ⟨m, hm⟩ := hns
  refine ⟨m, hm, fun h' sb => ?_⟩
  have T : Tr g [] μ μ' F F' s { s' with heap := h' } := { t with
    ext := fun b o e h1 h2 h3 => (by obtain ⟨o', e', u⟩ := t.ext b o e h1 h2 h3; exact ⟨o', (sb.2 b (fun z => by rw [z, hC] at e; cases e)).trans e', u⟩)
    live := fun b o e => (by obtain ⟨o', e'⟩ := t.live b o e; exact ⟨o', (sb.2 b (fun z => by rw [z, hC] at e; cases e)).trans e'⟩ )}
  exact ⟨_, μ', F', T, G'.at sb hFC hmC htC (fun x hx hf => by obtain ⟨_, _, _, _, e, _⟩ := G.stkNs hx hf; rw [hC] at e; cases e), sv, hQ⟩
end

open PySem PySem.W PySem.Calls PyProof.Rows
set_option maxRecDepth 20000
set_option tactic.hygienic true in
theorem among_app {pos : Pos} {a b : Int} {c cv : Value} : ∀ (l : List Value), TriplesOk l → codeAmong pos (l ++ [rawInt a, rawInt b, c]) = some cv → codeAmong pos l = some cv ∨ cv = c
  | [], _, h => by
    unfold codeAmong at h
    simp only [List.nil_append, rawInt] at h
    split at h
    · cases h; exact .inr rfl
    · cases h
  | .int x tx :: .int y ty :: d :: rest, ht, h => by
    unfold codeAmong at h ⊢
    simp only [List.cons_append] at h
    split at h
    · rename_i hh; rw [if_pos hh]; exact .inl h
    · rename_i hh; rw [if_neg hh]; exact among_app rest ht h

section
variable {g : G} {env : Env} {own : List Addr} {n : Nat} {ρ : Str → Option D} {μ : Mu}

/-- what a lambda takes: frozen cells -/
inductive Caps (g : G) (env : Env) (ρ : Str → Option D) : List (Str × Addr) → List (Str × D) → Prop
  | nil : Caps g env ρ [] []
  | cons {x c d cl caps} : ρ x = some d → c ∈ g.fcs → env.cells.lookup x = some c → env.kindOf x ≠ some .local → Caps g env ρ cl caps → Caps g env ρ ((x, c) :: cl) ((x, d) :: caps)
theorem Caps.sees {F h} (G : GSt g μ F h) (Fs : FSt env own ρ μ F h) {cl caps} (x : Caps g env ρ cl caps) : SeesCaps F cl caps := by
  induction x with
  | nil => exact .nil
  | cons hx hc hl hk _ ih =>
    obtain ⟨v, hv, sv⟩ := Fs.vars _ _ hx
    rcases hv with ⟨k, _⟩ | ⟨_, c', hc', o, e, d⟩
    · exact absurd k hk
    · rw [hl] at hc'; cases hc'
      obtain ⟨o', e'⟩ := G.fzc _ hc
      have := G.fz _ _ e'
      rw [e] at this; cases this
      exact .cons e' d sv ih

theorem freeOk.nodup {scope : Scope} (hf : freeOk env scope = true) (hn : (scope.names.map (·.1)).Nodup) {F h} (Fs : FSt env own ρ μ F h) : ((closGo env.cells scope.names []).map (·.2)).Nodup :=
  closGo_nodup Fs.ok.cnd _ _ hn (fun y hy hk => by obtain ⟨⟨c, hc⟩, _⟩ := freeOk_get hf (x := y.1) (by rw [← hk]; exact hy); rw [hc]; rfl) (by simp) (fun _ h => nomatch h)
theorem GSt.builtinsAt {F h P ps} (G : GSt g μ F h) (hP : h.get? P = some (tabObj ps)) : h.BuiltinsAt g.mg P ∧ mainGlobals ≠ P := by
  have hgs := g.T.g.keeps G.keep
  obtain ⟨bm, ob, b1, b2, b3, b4, b5, b6⟩ := g.bm
  have hgP : mainGlobals ≠ P := fun q => by
    obtain ⟨o, es, ep, e, hd, _⟩ := hgs
    rw [q, hP] at e; cases e; cases hd
  have hbP : bm ≠ P := fun q => by
    have e := G.keep _ _ b3
    rw [q, hP] at e; cases e; cases b4
  have hbG : bm ≠ mainGlobals := fun q => by
    obtain ⟨o, es, ep, e, hd, _⟩ := g.T.g
    rw [q, e] at b3; cases b3; rw [hd] at b6; cases b6
  exact ⟨⟨bm, ob, b1, b2, hbG, hbP, G.keep _ _ b3, b4, b5, b6⟩, hgP⟩

theorem make_clo {M : Model} {A : Around} {E : Value → Shared → Prop} {s : Shared} {Q : Value → Shared → Prop} {F : FM} {name qual : Str} {params : Arguments} {body : Expr} {scope : Scope} {pos : Pos} {firstLine : Nat} {c P : Addr} {ps : Array Value}
    (hf : freeOk env scope = true) (G : GSt g μ F s.heap) (hglob : env.globals = mainGlobals) (hcode : env.code = .ref c) (C : CodeHd s.heap c P) (hP : s.heap.get? P = some (tabObj ps)) (ht : TriplesOk ps.toList) (hnf : codeAmong pos ps.toList = none)
    (h : ∀ c' P' ctv h' tk, Heap.ExtBut P s.heap h' → s.heap.objs.size ≤ c' → s.heap.objs.size ≤ P' → CodeHd h' c' P' → h'.get? P' = some (tabObj #[]) → h'.CodeRec (.ref c') qual → h'.get? P = some (tabObj (ps ++ #[rawInt pos.line, rawInt pos.col, .ref c'])) →
      Q (.ref h'.objs.size) { s with heap := h'.push (kla_obj name qual params body scope (closGo env.cells scope.names []) ((g.mg "__name__").getD .none) c' ctv), toks := tk }) :
    wpAny M A (makeFunction name qual params (.expr body) scope env [] [] [] pos firstLine) Q E s := by
  obtain ⟨⟨bm, ob, hbm, hne0, hbG, hneP, hbo, hcls, hdict, hdata⟩, hgP⟩ := G.builtinsAt hP
  have hg := g.T.g.keeps G.keep
  rw [makeFunction_eq]
  simp only [List.zip_nil_right, List.filterMap_nil, List.isEmpty_nil, if_true, pure_bind]
  unfold makeTail
  rw [closureFor_eq hf, hglob]
  refine wpAny_bind (wpAny_pure ?_)
  generalize closGo env.cells scope.names [] = clos at h ⊢
  cases clos with
  | nil =>
    simp only [List.isEmpty_nil, if_true]
    refine wpAny_bind (wpAny_pure ?_)
    refine wpAny_bind (wpAny_functionCodeX hcode (C.code hP ht) (C.tab hP) hnf fun c' h' tk hx hge hlt _ hrec htb hP' => ?_)
    have hg' := hg.extBut hx hgP
    refine wpAny_bind (wpAny_builtinsFor hg' hbm hne0 (hx _ _ hneP hbo) hcls hdict hdata ?_)
    refine wpAny_bind (wpAny_nsGet hg' ?_)
    obtain ⟨P', p1, p2, p3⟩ := hP'
    exact wpAny_bind (wpAny_pure (wpAny_newObj_type (h c' P' .none h' tk hx hge p1 (CodeHd.of p2 p3) p3.2 hrec htb.2) (by size_fits)))
  | cons q r =>
    simp only [List.isEmpty_cons, Bool.false_eq_true, if_false]
    refine wpAny_bind (wpAny_newTextTuple ?_)
    refine wpAny_bind (wpAny_functionCodeX hcode ((C.keeps fun b o e => Heap.get?_push_of_some _ e).code (Heap.get?_push_of_some _ hP) ht) ((C.keeps fun b o e => Heap.get?_push_of_some _ e).tab (Heap.get?_push_of_some _ hP)) hnf fun c' h' tk hx hge hlt _ hrec htb hP' => ?_)
    have hg' := (hg.push _).extBut hx hgP
    have hx' : Heap.ExtBut P s.heap h' := fun b o hb' e => hx b o hb' (Heap.get?_push_of_some _ e)
    have hz : ∀ oT : Obj, s.heap.objs.size ≤ (s.heap.push oT).objs.size := fun oT => by rw [Heap.size_push]; lia
    obtain ⟨P', p1, p2, p3⟩ := hP'
    refine wpAny_bind (wpAny_builtinsFor hg' hbm hne0 (hx' _ _ hneP hbo) hcls hdict hdata ?_)
    refine wpAny_bind (wpAny_nsGet hg' ?_)
    exact wpAny_bind (wpAny_pure (wpAny_newObj_type (h c' P' _ h' tk hx' (Nat.le_trans (hz _) hge) (Nat.le_trans (hz _) p1) (CodeHd.of p2 p3) p3.2 hrec htb.2) (by size_fits)))

theorem none_ge {h : Heap} {b : Addr} (hb : h.objs.size ≤ b) : h.get? b = none := Heap.get?_none_of_le hb

/-- a lambda in a function whose table we only know to be good -/
theorem Ev.lambda {params body scope pos Q c P caps} (hcode : env.code = .ref c) (htab : (c, P, env.qual ++ "<lambda>") ∈ g.tabs) (hq : ∀ q ∈ g.tabs, q.2.1 = P → q.2.2 = env.qual ++ "<lambda>") (hf : freeOk env scope = true) (hnn : (scope.names.map (·.1)).Nodup)
    (hcaps : Caps g env ρ (closGo env.cells scope.names []) caps) (h : ∀ cdv, Q (.clo (env.qual ++ "<lambda>") params body scope cdv caps) μ) (hdef : defaultsOf params env = ([], []) := by rfl) :
    Ev g env own n ρ μ (.Lambda params body scope pos) Q := fun A F s ok G Fs => by
  refine kla_eval hdef ?_
  obtain ⟨FP, ps, hP, ht, good⟩ := G.tb _ htab
  dsimp only at FP hP
  have C := (g.hd _ htab).keeps G.keep
  dsimp only at C
  have sc := hcaps.sees G Fs
  cases hf' : codeAmong pos ps.toList with
  | some cv =>
    obtain ⟨bA, hgP⟩ := G.builtinsAt hP
    refine kla_makeFunctionHit (mg := g.mg) (closureFor_eq hf) Fs.ok.glob (g.T.g.keeps G.keep) hcode C hP ht hf' bA fun ctv h' tk hk hsz => ?_
    have fc := good _ _ hf'
    have G' := G.ext hk
    have t := Tr.made (mt := []) (tk := tk) (s := { s with heap := h' }) (o := { cls := .type "function", data := .func (kla_fn "<lambda>" (env.qual ++ "<lambda>") params body scope (closGo env.cells scope.names []) ((g.mg "__name__").getD .none) cv ctv) }) G' rfl
    have hle := t.le
    refine ⟨_, μ, _, (Tr.of_ext (s' := { s with heap := h' }) hk rfl rfl).trans t, G'.made _ rfl, .clo put_same rfl (fc.mono hle) (sc.mono hle) (freeOk.nodup hf hnn Fs), h cv⟩
  | none =>
    refine make_clo hf G Fs.ok.glob hcode C hP ht hf' fun c' P' ctv h' tk hx hc' hP' CP hP0 hrec htb => ?_
    obtain ⟨cc, oc, vs, t, e2, hoc, hd, hv⟩ := id hrec
    cases e2
    have hF0 : F c' = none := (G.fresh (none_ge hc')).1
    have hle1 := put_le (o := oc) hF0
    have hcP : c' ≠ P := fun q => by rw [← q, none_ge hc'] at hP; cases hP
    have hP'P : P' ≠ P := fun q => by rw [← q, none_ge hP'] at hP; cases hP
    have hfc : FCode (put F c' oc) (.ref c') (env.qual ++ "<lambda>") := ⟨c', oc, vs, t, rfl, put_same, hd, hv⟩
    have G' : GSt g μ (put F c' oc) h' := by
      refine ⟨fun a x e => hle1 _ _ (G.base a x e), fun a x e => ?_, fun q hq' => ?_, fun p hp => ?_, G.nd, fun c hc => (by obtain ⟨o, e⟩ := G.fzc c hc; exact ⟨o, hle1 _ _ e⟩), G.dj, fun x hx' => ?_⟩
      rotate_right
      · obtain ⟨hk', L, mm, hf, hn, hF', hm'⟩ := G.stk x hx'
        obtain ⟨o', es, ep, ho, hd', r⟩ := hn
        have hLP : L ≠ P := fun z => by rw [z, hP] at ho; cases ho; cases hd'
        have hLc : L ≠ c' := fun z => by rw [z, none_ge hc'] at ho; cases ho
        exact ⟨hk', L, mm, hf, ⟨o', es, ep, hx _ _ hLP ho, hd', r⟩, by rw [put_ne hLc]; exact hF', hm'⟩
      · by_cases hb : a = c'
        · subst hb; rw [put_same] at e; cases e; exact hoc
        · rw [put_ne hb] at e
          exact hx _ _ (fun z => by rw [z, FP] at e; cases e) (G.fz _ _ e)
      · obtain ⟨a, ps', b, c1, d⟩ := G.tb q hq'
        have hne : q.2.1 ≠ c' := fun z => by rw [z, none_ge hc'] at b; cases b
        refine ⟨by rw [put_ne hne]; exact a, ?_⟩
        by_cases hqP : q.2.1 = P
        · rw [hqP, hP] at b; cases b
          refine ⟨_, by rw [hqP]; exact htb, ?_, fun pos' cv z => ?_⟩
          · rw [Array.toList_append]; exact TriplesOk_snoc _ _ _ _ ht
          · rw [Array.toList_append] at z
            rcases among_app _ ht z with k | k
            · exact (d _ _ k).mono hle1
            · rw [k, hq q hq' hqP]; exact hfc
        · exact ⟨ps', hx _ _ hqP b, c1, fun pos' cv z => (d pos' cv z).mono hle1⟩
      · obtain ⟨a, b⟩ := G.mu p hp
        have hpP : p.1 ≠ P := fun z => G.dj _ (List.mem_map_of_mem hp) (z ▸ List.mem_map.mpr ⟨_, htab, rfl⟩)
        obtain ⟨o, e⟩ := b.live
        have hne : p.1 ≠ c' := fun z => by rw [z, none_ge hc'] at e; cases e
        exact ⟨by rw [put_ne hne]; exact a, b.move hle1 fun o e => hx _ _ hpP e⟩
    have t1 : Tr g [] μ μ F (put F c' oc) s { s with heap := h' } := by
      refine ⟨fun b o e _ _ h3 => ⟨o, hx _ _ (fun z => h3 (z ▸ List.mem_map.mpr ⟨_, htab, rfl⟩)) e, .refl o⟩, fun b o e => ?_, hle1, fun a => ?_, fun _ h => .inl h, rfl, rfl⟩
      · by_cases hb : b = P
        · subst hb; exact ⟨_, htb⟩
        · exact ⟨o, hx _ _ hb e⟩
      · by_cases hb : a = c'
        · subst hb; exact .inr (.inr (.inr (none_ge hc')))
        · rw [put_ne hb]; cases hF : F a with
          | none => exact .inl rfl
          | some x => exact .inr (.inl (by simp))
    have t := Tr.made (mt := []) (tk := tk) (s := { s with heap := h' }) (o := kla_obj "<lambda>" (env.qual ++ "<lambda>") params body scope (closGo env.cells scope.names []) ((g.mg "__name__").getD .none) c' ctv) G' rfl
    exact ⟨_, μ, _, t1.trans t, G'.made _ rfl, .clo put_same rfl (hfc.mono t.le) (sc.mono (t1.trans t).le) (freeOk.nodup hf hnn Fs), h (.ref c')⟩

/-- one entry of μ turned -/
def setMu (a : Addr) (m : MO) : Mu → Mu
  | [] => []
  | (b, x) :: r => if b = a then (b, m) :: r else (b, x) :: setMu a m r
theorem setMu_hit {a : Addr} {m x : MO} {r : Mu} : setMu a m ((a, x) :: r) = (a, m) :: r := if_pos rfl
theorem setMu_miss {a b : Addr} {m x : MO} {r : Mu} (h : b ≠ a) : setMu a m ((b, x) :: r) = (b, x) :: setMu a m r := if_neg h
theorem setMu_dom {a : Addr} {m : MO} : ∀ (μ : Mu), (setMu a m μ).dom = μ.dom
  | [] => rfl
  | (b, x) :: r => by
    unfold setMu
    split
    · rfl
    · simp only [Mu.dom, List.map_cons]; exact congrArg _ (setMu_dom r)
set_option tactic.hygienic true in
theorem setMu_mem {a : Addr} {m : MO} : ∀ {μ : Mu}, μ.dom.Nodup → ∀ {p}, p ∈ setMu a m μ → (p ∈ μ ∧ p.1 ≠ a) ∨ p = (a, m)
  | [], _, p, h => nomatch h
  | (b, x) :: r, hn, p, h => by
    simp only [Mu.dom, List.map_cons, List.nodup_cons] at hn
    unfold setMu at h
    split at h
    · rename_i hb; subst hb
      cases h with
      | head => exact .inr rfl
      | tail _ h => exact .inl ⟨.tail _ h, fun z => hn.1 (z ▸ List.mem_map_of_mem h)⟩
    · rename_i hb
      cases h with
      | head => exact .inl ⟨.head _, hb⟩
      | tail _ h => exact (setMu_mem hn.2 h).imp ((by rintro ⟨a, b⟩; exact ⟨.tail _ a, b⟩)) id
set_option tactic.hygienic true in
theorem setMu_has {a : Addr} {m x : MO} : ∀ {μ : Mu}, (a, x) ∈ μ → (a, m) ∈ setMu a m μ
  | (b, y) :: r, h => by
    unfold setMu
    split
    · rename_i hb; subst hb; exact .head _
    · rename_i hb
      cases h with
      | head => exact absurd rfl hb
      | tail _ h => exact .tail _ (setMu_has h)

/-- one mutable object turns; what else there is stays -/
theorem GSt.set {F : FM} {h h' : Heap} {a : Addr} {m m' : MO} {o' : Obj} (G : GSt g μ F h) (hm : (a, m) ∈ μ) (hx : ∀ b o, b ≠ a → h.get? b = some o → h'.get? b = some o) (e : h'.get? a = some o') (k : MOk F a m' o') : GSt g (setMu a m' μ) F h' := by
  have ha : a ∈ μ.dom := List.mem_map_of_mem (f := (·.1)) hm
  have hFa := (G.mu _ hm).1
  refine ⟨G.base, fun b o q => hx _ _ (fun z => by rw [z] at q; rw [hFa] at q; cases q) (G.fz _ _ q), fun q hq => ?_, fun p hp => ?_, by rw [setMu_dom]; exact G.nd, G.fzc, by rw [setMu_dom]; exact G.dj, fun x hx' => ?_⟩
  rotate_right
  · obtain ⟨hk', L, mm, hf, hn, hF', hm'⟩ := G.stk x hx'
    refine ⟨hk', L, mm, hf, ?_, hF', by rw [setMu_dom]; exact hm'⟩
    obtain ⟨o', es, ep, ho, r⟩ := hn
    exact ⟨o', es, ep, hx _ _ (fun z => hm' (z ▸ ha)) ho, r⟩
  · obtain ⟨x, ps, b, c, d⟩ := G.tb q hq
    exact ⟨x, ps, hx _ _ (fun z => G.dj a ha (z ▸ List.mem_map_of_mem hq)) b, c, d⟩
  · rcases setMu_mem G.nd hp with ⟨h1, h2⟩ | rfl
    · exact ⟨(G.mu p h1).1, (G.mu p h1).2.move (fun _ _ x => x) fun o e => hx _ _ h2 e⟩
    · exact ⟨hFa, o', e, k⟩
theorem Tr.set {mt F s s'} {a : Addr} {m m' : MO} {o' : Obj} (hm : (a, m) ∈ μ) (hx : ∀ b o, b ≠ a → s.heap.get? b = some o → s'.heap.get? b = some o) (e : s'.heap.get? a = some o') (os : s'.os = s.os) (gens : s'.gens = s.gens) : Tr g mt μ (setMu a m' μ) F F s s' := by
  have ha : a ∈ μ.dom := List.mem_map_of_mem (f := (·.1)) hm
  refine ⟨fun b o q _ h2 _ => ⟨o, hx _ _ (fun z => h2 (z ▸ ha)) q, .refl o⟩, fun b o q => ?_, fun _ _ q => q, (Tr.refl (g := g) (mt := mt) (μ := μ) (s := s)).fr, fun b hb => .inl (by rwa [setMu_dom] at hb), os, gens⟩
  by_cases hb : b = a
  · subst hb; exact ⟨_, e⟩
  · exact ⟨o, hx _ _ hb q⟩
/-- μ may forget -/
theorem GSt.drop {F h a m} (G : GSt g ((a, m) :: μ) F h) : GSt g μ F h :=
  ⟨G.base, G.fz, G.tb, fun p hp => G.mu p (.tail _ hp), (List.nodup_cons.mp G.nd).2, G.fzc, fun a ha => G.dj a (.tail _ ha), fun x hx => (by obtain ⟨hk', L, m, hf, hn, hF', hm'⟩ := G.stk x hx; exact ⟨hk', L, m, hf, hn, hF', fun q => hm' (.tail _ q)⟩)⟩
theorem GSt.push {F h a m} (G : GSt g μ F h) (hF : F a = none) (hm : MIs F h a m) (ha : a ∉ μ.dom) (ht : a ∉ g.tabDom) : GSt g ((a, m) :: μ) F h := by
  refine ⟨G.base, G.fz, G.tb, fun p hp => ?_, List.nodup_cons.mpr ⟨ha, G.nd⟩, G.fzc, fun b hb => ?_, fun x hx => ?_⟩
  rotate_right
  · obtain ⟨hk', L, mm, hf, hn, hF', hm'⟩ := G.stk x hx
    refine ⟨hk', L, mm, hf, hn, hF', fun q => ?_⟩
    cases q with
    | head => obtain ⟨o, e, k⟩ := hm; obtain ⟨o', es, ep, ho, hd, r⟩ := hn; rw [e] at ho; cases ho; exact k.notDict _ _ hd
    | tail _ q => exact hm' q
  · cases hp with
    | head => exact ⟨hF, hm⟩
    | tail _ hp => exact G.mu p hp
  · cases hb with
    | head => exact ht
    | tail _ hb => exact G.dj b hb

end

open PySem PySem.W PySem.Calls PyProof.Rows
set_option maxRecDepth 20000
section
variable {g : G} {env : Env} {own : List Addr} {n : Nat} {ρ : Str → Option D} {μ : Mu}

/-- a method of a list -/
abbrev MK2 (g : G) (n : Nat) (id : String) (d : D) (Q : D → Mu → Prop) : List D → Mu → Prop := fun es μ₂ => Calls g n (.val (.builtin id)) (d :: es) [] μ₂ Q
abbrev MK1 (g : G) (env : Env) (own : List Addr) (n : Nat) (ρ : Str → Option D) (args : List Expr) (id : String) (Q : D → Mu → Prop) : D → Mu → Prop := fun d μ₁ => (∃ ds, Rd μ₁ d ds) ∧ EvL g env own n ρ args μ₁ (MK2 g n id d Q)
theorem Ev.meth {o : Expr} {attr : Str} {apos pos : Pos} {args : List Expr} {id : String} {Q}
    (h : Ev g env own n ρ μ o (MK1 g env own n ρ args id Q))
    (slot : Slot "list" attr id) (hty : typeOf (.builtin id) = pure (.type "method_descriptor")) (hbase : attributeBase o attr env (eval o env) = eval o env := by rfl)
    (hp : args.all plainE = true := by rfl) (hline : (apos.endLine == pos.line) = true := by rfl) (hne : args ≠ [] := by simp)
    (hform : methodCallForm (args.length + 0) (backTo pos (starEach args env)) (backToKw pos (keywordEach [] env)) = true := by rfl) :
    Ev g env own n ρ μ (.Call (.Attribute o attr apos) args [] pos) Q := fun A F s ok G Fs => by
  rw [arm_eval_Call, hbase]
  refine wpAny_bind (wp_seq h ok G Fs fun fv d μ₁ F₁ s₁ t₁ G₁ Fs₁ sd ⟨⟨ds, hr⟩, h₁⟩ => ?_)
  obtain ⟨a, vs, k, rfl, ha, sa⟩ := hr.at G₁ sd
  refine wpAny_bind (wpAny_standAt ?_)
  have fin : ∀ p : Pos, wpAny (model g.prog g.w) A (callWith p (.builtin id) [.ref a] (backTo pos (starEach args env)) []) (EvPost g μ s F Q) (fun _ _ => False) s₁ := fun p => by
    refine callWith_builtin (args_plain env args hp) ?_
    have fin : wpAny (model g.prog g.w) A (spliced (backTo pos (starEach args env))) (fun vs s₂ => wpAny (model g.prog g.w) A (PySem.call (.builtin id) ([.ref a] ++ vs) []) (EvPost g μ s F Q) (fun _ _ => False) s₂) (fun _ _ => False) s₁ := by
      refine wpAny_mono (evl ok args h₁ G₁ Fs₁) ?_ fun _ _ x => x
      rintro vs s₂ ⟨es, μ₂, F₂, t₂, G₂, ses, hc⟩
      exact post_weak (t₁.trans t₂) (hc A F₂ s₂ _ (.ref a :: vs) [] ok G₂ (.val _) (.cons (sd.mono t₂.le) ses) .nil rfl)
    cases args with
    | nil => exact absurd rfl hne
    | cons e r =>
      simp only [List.all_cons, Bool.and_eq_true] at hp
      rw [plainE_star hp.1] at fin ⊢
      exact evalArgs_plain fin
  have hpos : methodCallPos true o env apos pos = pure pos := by unfold methodCallPos; simp [hline]
  unfold methodCall
  rw [show ([] : List Keyword).length = 0 from rfl, hform]
  refine wpAny_bind (wpAny_holding (getMethod_builtin ⟨_, ha, rfl⟩ PySem.F.plainAttrs_list slot hty (fun b e => by cases e; exact ⟨_, ha, rfl⟩) ?_))
  exact wpAny_bind (wpAny_of_eq hpos (fin pos))

theorem EvPost.set {F : FM} {s : Shared} {a : Addr} {m m' : MO} {o' : Obj} {h' : Heap} {tk : Tok} {v d} {Q : D → Mu → Prop} (G : GSt g μ F s.heap) (hm : (a, m) ∈ μ) (hx : Heap.SameBut a s.heap h') (e : h'.get? a = some o') (k : MOk F a m' o') (sv : Sees F v d)
    (h : Q d (setMu a m' μ)) : EvPost g μ s F Q v { s with heap := h', toks := tk } :=
  have hx' : ∀ b o, b ≠ a → s.heap.get? b = some o → h'.get? b = some o := fun b o hb e => (hx.2 b hb).trans e
  ⟨d, _, F, Tr.set (s' := { s with heap := h', toks := tk }) hm hx' e rfl rfl, G.set hm hx' e k, sv, h⟩

theorem Calls.append {a : Addr} {ds : List D} {d : D} {Q} (hm : (a, .ml ds) ∈ μ) (hl : ds.length ≤ 10000) (h : Q .none (setMu a (.ml (ds ++ [d])) μ)) : Calls g n (.val (.builtin "list.append")) [.val (.ref a), d] [] μ Q :=
  Calls.of2 fun A F s fv va vb ok G sf sa sb => by
    obtain rfl := Sees.valI sf; obtain rfl := Sees.valI sa
    obtain ⟨_, o, e, vs, k, rfl, r⟩ := G.mu _ hm
    have hz : vs.size = ds.length := r.size
    refine call_append e (fun h' k' eh sbt => EvPost.set (tk := s.toks) (m' := .ml (ds ++ [d])) G hm sbt eh ⟨_, _, rfl, ?_⟩ .none h) (by unfold sizeLine; lia)
    rw [Array.toList_push]; exact r.append (.cons sb .nil)

def insAt (k : Nat) (d : D) (ds : List D) : List D := ds.take k ++ d :: ds.drop k
theorem Calls.insertX {a : Addr} {ds : List D} {k : Nat} {x : Int} {d : D} {Q} (hx : x = (k : Int)) (hm : (a, .ml ds) ∈ μ) (hl : ds.length ≤ 10000) (hk : k ≤ ds.length) (h : Q .none (setMu a (.ml (insAt k d ds)) μ)) : Calls g n (.val (.builtin "list.insert")) [.val (.ref a), .int x, d] [] μ Q :=
  fun A F s fv vs kvs ok G sf sa sk hkn => by
    obtain rfl := Sees.valI sf
    obtain ⟨v1, vs', rfl, s1, sa⟩ := sa.consI
    obtain ⟨v2, vs', rfl, s2, sa⟩ := sa.consI
    obtain ⟨v3, vs', rfl, s3, sa⟩ := sa.consI
    obtain rfl := SeesAll.nilI sa
    obtain rfl : kvs = [] := by simpa using hkn
    obtain rfl := Sees.valI s1
    obtain ⟨t, rfl⟩ := s2.intI
    obtain ⟨_, o, e, xs, nn, rfl, r⟩ := G.mu _ hm
    have hz : xs.size = ds.length := r.size
    have hfit : ¬(!Builtin.List.listFitsIndex x) = true := by
      have : x < 2 ^ 63 := by lia
      unfold Builtin.List.listFitsIndex
      simp; lia
    have hsz : xs.size ≤ sizeLine := by unfold sizeLine; lia
    have mt := PySem.AutoListH.list_insert_list_int_val_1 a xs nn x t v3 hfit hsz
    refine call_meets PySem.F.slot_list_insert ⟨_, e, rfl⟩ PySem.F.entry_list_insert (PySem.F.args_list_insert_3 _ _ _) mt ⟨e, ?_⟩
    · refine EvPost.set (tk := s.toks) (m' := .ml (insAt k d ds)) G hm (Heap.SameBut.update ..) (Heap.get?_update_self _ e rfl) (show MOk F a (.ml (insAt k d ds)) _ from ⟨_, _, rfl, ?_⟩) .none h
      have e1 : ((xs.extract 0 k).push v3 ++ xs.extract k).toList = xs.toList.take k ++ v3 :: xs.toList.drop k := by
        simp only [Array.toList_append, Array.toList_push, Array.toList_extract, List.extract_eq_take_drop, List.drop_zero, Nat.sub_zero, List.append_assoc, List.cons_append, List.nil_append]
        rw [List.take_of_length_le (l := List.drop k xs.toList) (by simp)]
      have e2 : (if x < 0 then (x + ((xs.size : Nat) : Int)).toNat else min x.toNat xs.size) = k := by rw [if_neg (by lia)]; lia
      simp only [e2, e1]
      exact (r.take k).append (.cons s3 (r.drop k))

theorem Calls.insert {a : Addr} {ds : List D} {k : Nat} {d : D} {Q} (hm : (a, .ml ds) ∈ μ) (hl : ds.length ≤ 10000) (hk : k ≤ ds.length) (h : Q .none (setMu a (.ml (insAt k d ds)) μ)) : Calls g n (.val (.builtin "list.insert")) [.val (.ref a), .int k, d] [] μ Q :=
  Calls.insertX rfl hm hl hk h

theorem SeesCaps.get {F : FM} {cl caps} (h : SeesCaps F cl caps) {x d} : caps.lookup x = some d → ∃ c v, cl.lookup x = some c ∧ (∃ o, F c = some o ∧ o.data = .cell (some v)) ∧ Sees F v d := by
  refine h.ind (P := fun cl caps => caps.lookup x = some d → ∃ c v, cl.lookup x = some c ∧ (∃ o, F c = some o ∧ o.data = .cell (some v)) ∧ Sees F v d) (fun e => nomatch e) fun {y _ _ _ _ _ _} e1 e2 sv _ i e => ?_
  rw [List.lookup_cons] at e ⊢
  cases hy : x == y with
  | true => rw [hy] at e; cases e; exact ⟨_, _, rfl, ⟨_, e1, e2⟩, sv⟩
  | false => rw [hy] at e; exact i e
theorem SeesCaps.cell {F : FM} {cl caps} (h : SeesCaps F cl caps) : ∀ p ∈ cl, ∃ o v, F p.2 = some o ∧ o.data = .cell (some v) :=
  h.ind (P := fun cl _ => ∀ p ∈ cl, ∃ o v, F p.2 = some o ∧ o.data = .cell (some v)) (fun _ h => nomatch h) fun e1 e2 _ _ i p hp => (List.mem_cons.mp hp).elim (fun z => z ▸ ⟨_, _, e1, e2⟩) (i p)
theorem SeesCaps.names {F : FM} {cl caps} (h : SeesCaps F cl caps) : cl.map (·.1) = caps.map (·.1) := h.ind (P := fun cl caps => cl.map (·.1) = caps.map (·.1)) rfl fun _ _ _ _ i => congrArg (_ :: ·) i

theorem zip_see {F : FM} {vs : List Value} {ds : List D} (h : SeesAll F vs ds) : ∀ {nm : List Str} {x d}, (nm.zip ds).lookup x = some d → ∃ v, (x, v) ∈ nm.zip vs ∧ Sees F v d := by
  refine h.ind (P := fun vs ds => ∀ {nm : List Str} {x d}, (nm.zip ds).lookup x = some d → ∃ v, (x, v) ∈ nm.zip vs ∧ Sees F v d) (fun {nm x d} e => ?_) (fun sv _ i => ?_)
  · rw [List.zip_nil_right] at e; cases e
  · intro nm x d e
    cases nm with
    | nil => cases e
    | cons y nm =>
      rw [List.zip_cons_cons, List.lookup_cons] at e
      cases hy : x == y with
      | true => rw [hy] at e; cases e; rw [eq_of_beq hy]; exact ⟨_, .head _, sv⟩
      | false => rw [hy] at e; obtain ⟨v, h1, h2⟩ := i e; exact ⟨v, .tail _ h1, h2⟩
theorem zip_fst_sub {α β : Type} : ∀ (l : List α) (r : List β), ((l.zip r).map (·.1)).Sublist l
  | [], r => by simp
  | a :: l, [] => by simp
  | a :: l, b :: r => by simp only [List.zip_cons_cons, List.map_cons]; exact (zip_fst_sub l r).cons_cons _
theorem lookup_app {α : Type} {l r : List (Str × α)} {x : Str} : (l ++ r).lookup x = (l.lookup x).or (r.lookup x) := by
  induction l with
  | nil => simp
  | cons p l ih =>
    obtain ⟨y, d⟩ := p
    rw [List.cons_append, List.lookup_cons, List.lookup_cons]
    cases x == y with
    | true => rfl
    | false => exact ih

/-- a lambda called -/
theorem Calls.clo {qual : Str} {params : Arguments} {body : Expr} {scope : Scope} {cdv : Value} {caps : List (Str × D)} {args : List D} {nm : List Str} {Q}
    (hb : ∀ name cl pm ct (vs : List Value), vs.length = args.length → bindArgs (kla_fn name qual params body scope cl pm cdv ct) ⟨vs, []⟩ = pure (nm.zip vs))
    (hloc : ∀ y ∈ nm, scope.names.lookup y = some .local) (hnd : nm.Nodup) (hfree : ∀ p ∈ caps, scope.names.lookup p.1 = some .free)
    (hk : scope.kind = .function) (hco : scope.isCoroutine = false) (hgen : scope.isGenerator = false) (hcell : ∀ x ∈ scope.names, x.2 ≠ .cell)
    (h : ∀ env L f cl, env = envX qual scope L f cdv cl → Ev (g.push env) env [L] n (rho (nm.zip args ++ caps)) μ body Q) : Calls g (n + 1) (.clo qual params body scope cdv caps) args [] μ Q :=
  fun A F s fv vs kvs ok G sf sa sk hkn => by
    obtain rfl : kvs = [] := by simpa using hkn
    obtain @⟨a, o, name, cl, pm, ct, hF, hd, hc, sc, hcn⟩ := Sees.cloI sf
    have ho := G.fz _ _ hF
    refine wpAny_call (kla_callFunE ok.room ho hd hco hgen rfl (hc.codeRec G.fz) ?_)
    rw [hb _ _ _ _ vs sa.length]
    have hvl : ∀ x v, (x, v) ∈ nm.zip vs → x ∈ nm := fun x v hx => List.of_mem_zip hx |>.1
    refine wpAny_pure (wpAny_newFunctionEnv hcell (fun x hx => hloc _ (hvl x.1 x.2 hx)) (fun h₁ hns hsb => ?_) hk)
    have kp : ∀ b o, s.heap.get? b = some o → h₁.get? b = some o := fun b o e => hsb.extBut b o (Nat.ne_of_lt (Heap.lt_size e)) (Heap.get?_push_of_some _ e)
    refine ⟨g.T.nolimit.keeps fun b o e => kp b o (G.keep b o e), kla_codeExpr ?_⟩
    have hG : GSt g μ F h₁ := G.ext kp
    have hno : s.heap.get? s.heap.objs.size = none := none_ge (Nat.le_refl _)
    have fr := G.fresh hno
    have hFs : FSt (envX qual scope s.heap.objs.size a cdv cl) [s.heap.objs.size] (rho (nm.zip args ++ caps)) μ F h₁ := by
      refine ⟨⟨hk, rfl, rfl, .head _, hcn⟩, ⟨_, hns⟩, fun x d e => ?_, fun p hp => ?_, fun b hb => by rw [List.mem_singleton.mp hb]; exact fr.1, fun b hb => ?_, fun b hb => by rw [List.mem_singleton.mp hb]; exact fr.2.1⟩
      · unfold rho at e
        rw [lookup_app] at e
        cases h1 : (nm.zip args).lookup x with
        | some d' =>
          rw [h1] at e
          cases e
          obtain ⟨v, hv, sv⟩ := zip_see sa h1
          refine ⟨v, .inl ⟨hloc _ (hvl _ _ hv), _, hns, ?_⟩, sv⟩
          refine lookup_of_nodup ?_ (List.mem_reverse.mpr hv)
          rw [List.map_reverse]
          refine (List.reverse_perm _).nodup_iff.mpr ?_
          exact List.Sublist.nodup (zip_fst_sub _ _) hnd
        | none =>
          rw [h1] at e
          have e : caps.lookup x = some d := e
          obtain ⟨c, v, h1, ⟨o', h2, h3⟩, sv⟩ := sc.get e
          exact ⟨v, .inr ⟨.inr (hfree _ (lookup_mem e)), c, h1, o', hG.fz _ _ h2, h3⟩, sv⟩
      · obtain ⟨o', v, h2, h3⟩ := sc.cell p hp
        exact ⟨_, o', hG.fz _ _ h2, h3⟩
      · rw [List.mem_singleton.mp hb]; obtain ⟨o', _, _, e, _⟩ := hns; exact ⟨o', e⟩
    have hfr : FrL (envX qual scope s.heap.objs.size a cdv cl) μ F h₁ := ⟨by show scope.kind ≠ _; rw [hk]; decide, s.heap.objs.size, _, rfl, hns, fr.1, fr.2.1⟩
    have t0 : Tr g [] μ μ F F s { s with heap := h₁, toks := s.toks + (nm.zip vs).length } := Tr.of_ext kp rfl rfl
    refine wpAny_mono (h _ _ _ _ rfl _ F { s with heap := h₁, toks := s.toks + (nm.zip vs).length } (Ok.deeper ok) (hG.push_frame hfr) hFs) ?_ fun _ _ x => x.elim
    rintro v s₂ ⟨d, μ', F', t', a, b, c⟩
    exact EvPost.trans t0 ⟨d, μ', F', t'.pop_frame, a.pop_frame, b, c⟩
end

open PySem PySem.W PySem.Calls PyProof.Rows
set_option maxRecDepth 20000
section
variable {g : G} {env : Env} {own : List Addr} {n : Nat} {ρ : Str → Option D} {μ : Mu}
theorem kindX_of {q : Str} {scope : Scope} {L f : Addr} {cdv : Value} {cl : List (Str × Addr)} {x : Str} {k : Option NameKind} (he : env = envX q scope L f cdv cl) (e : scope.names.lookup x = k) : env.kindOf x = k := by subst he; exact e
theorem kindC_of {scope : Scope} {cl : List (Str × Addr)} {C : Addr} {env' : Env} {x : Str} {k : Option NameKind} (he : env = compEnvC scope cl C env') (e : (relabel scope env').names.lookup x = k) : env.kindOf x = k := by subst he; exact e
theorem Rd.mu {a : Addr} {ds : List D} (h : (a, MO.ml ds) ∈ μ) : Rd μ (.val (.ref a)) ds := .inr ⟨a, rfl, h⟩

theorem wp_ld {α : Type} {M : Model} {A : Around} {E : Value → Shared → Prop} {s : Shared} {Q : α → Shared → Prop} {t : Sem α} {a : Addr} {part : Option Value} {k : Obj → Sem α} {o : Obj} (e : t = Sem.load a part k) (ho : s.heap.get? a = some o) (h : wpAny M A (k o) Q E s) : wpAny M A t Q E s := by
  subst e
  exact wpAny_bind (m := loadPart a part) (f := k) (wpAny_loadPart ho h)
theorem SeesAll.inv {F vs d ds} (h : SeesAll F vs (d :: ds)) : ∃ v vs', vs = v :: vs' ∧ Sees F v d ∧ SeesAll F vs' ds := by
  cases h with | cons a b => exact ⟨_, _, rfl, a, b⟩
theorem SeesAll.inv0 {F vs} (h : SeesAll F vs []) : vs = [] := by obtain rfl := SeesAll.nilI h; rfl
theorem kvs0 {kvs : List (Str × Value)} (h : kvs.map (·.1) = ([] : List (Str × D)).map (·.1)) : kvs = [] := by simpa using h
theorem kvs1 {F} {kvs : List (Str × Value)} {x : Str} {d : D} (h : kvs.map (·.1) = [(x, d)].map (·.1)) (k : SeesAll F (kvs.map (·.2)) ([(x, d)].map (·.2))) : ∃ v, kvs = [(x, v)] ∧ Sees F v d := by
  obtain ⟨v, vs', e, s, r⟩ := SeesAll.consI k
  obtain rfl := SeesAll.nilI r
  exact ⟨v, List.zip_of_prod (xs := kvs) h e, s⟩
def BindsAt (g : G) (fa : Addr) (args : List D) (kws : List (Str × D)) (bd : List (Str × D)) : Prop := ∀ fo fd, g.K.lookup fa = some fo → fo.data = .func fd → Binds g fd args kws bd
theorem bindsAt_of {K : Frag} {fa : Addr} {fo : Obj} {fd : FuncData} {args kws bd} (hK : g.K = K) (e : K.lookup fa = some fo) (e2 : fo.data = .func fd) (h : Binds g fd args kws bd) : BindsAt g fa args kws bd := fun fo' fd' h1 h2 => by
  rw [hK, e] at h1; cases h1; rw [e2] at h2; cases h2; exact h
section
variable {fd : FuncData} {a b c d e : D} {x : Str} {bd : List (Str × D)}
theorem Binds.mk10 (h : ∀ (F : FM) (s : Shared) v1, g.K.In s.heap → Sees F v1 a → ∃ bs, BindsTo s fd ⟨[v1], []⟩ bs ∧ SeesB F bs bd) : Binds g fd [a] [] bd := fun F s vs kvs X sa sk hk => by
  obtain ⟨v1, _, rfl, s1, sa⟩ := sa.inv; obtain rfl := sa.inv0; obtain rfl := kvs0 hk; exact h F s v1 X s1
theorem Binds.mk20 (h : ∀ (F : FM) (s : Shared) v1 v2, g.K.In s.heap → Sees F v1 a → Sees F v2 b → ∃ bs, BindsTo s fd ⟨[v1, v2], []⟩ bs ∧ SeesB F bs bd) : Binds g fd [a, b] [] bd := fun F s vs kvs X sa sk hk => by
  obtain ⟨v1, _, rfl, s1, sa⟩ := sa.inv; obtain ⟨v2, _, rfl, s2, sa⟩ := sa.inv; obtain rfl := sa.inv0; obtain rfl := kvs0 hk; exact h F s v1 v2 X s1 s2
theorem Binds.mk30 (h : ∀ (F : FM) (s : Shared) v1 v2 v3, g.K.In s.heap → Sees F v1 a → Sees F v2 b → Sees F v3 c → ∃ bs, BindsTo s fd ⟨[v1, v2, v3], []⟩ bs ∧ SeesB F bs bd) : Binds g fd [a, b, c] [] bd := fun F s vs kvs X sa sk hk => by
  obtain ⟨v1, _, rfl, s1, sa⟩ := sa.inv; obtain ⟨v2, _, rfl, s2, sa⟩ := sa.inv; obtain ⟨v3, _, rfl, s3, sa⟩ := sa.inv; obtain rfl := sa.inv0; obtain rfl := kvs0 hk; exact h F s v1 v2 v3 X s1 s2 s3
theorem Binds.mk40 (h : ∀ (F : FM) (s : Shared) v1 v2 v3 v4, g.K.In s.heap → Sees F v1 a → Sees F v2 b → Sees F v3 c → Sees F v4 d → ∃ bs, BindsTo s fd ⟨[v1, v2, v3, v4], []⟩ bs ∧ SeesB F bs bd) : Binds g fd [a, b, c, d] [] bd := fun F s vs kvs X sa sk hk => by
  obtain ⟨v1, _, rfl, s1, sa⟩ := sa.inv; obtain ⟨v2, _, rfl, s2, sa⟩ := sa.inv; obtain ⟨v3, _, rfl, s3, sa⟩ := sa.inv; obtain ⟨v4, _, rfl, s4, sa⟩ := sa.inv; obtain rfl := sa.inv0; obtain rfl := kvs0 hk; exact h F s v1 v2 v3 v4 X s1 s2 s3 s4
theorem Binds.mk21 (h : ∀ (F : FM) (s : Shared) v1 v2 w, g.K.In s.heap → Sees F v1 a → Sees F v2 b → Sees F w e → ∃ bs, BindsTo s fd ⟨[v1, v2], [(x, w)]⟩ bs ∧ SeesB F bs bd) : Binds g fd [a, b] [(x, e)] bd := fun F s vs kvs X sa sk hk => by
  obtain ⟨v1, _, rfl, s1, sa⟩ := sa.inv; obtain ⟨v2, _, rfl, s2, sa⟩ := sa.inv; obtain rfl := sa.inv0; obtain ⟨w, rfl, sw⟩ := kvs1 hk sk; exact h F s v1 v2 w X s1 s2 sw
theorem Binds.mk31 (h : ∀ (F : FM) (s : Shared) v1 v2 v3 w, g.K.In s.heap → Sees F v1 a → Sees F v2 b → Sees F v3 c → Sees F w e → ∃ bs, BindsTo s fd ⟨[v1, v2, v3], [(x, w)]⟩ bs ∧ SeesB F bs bd) : Binds g fd [a, b, c] [(x, e)] bd := fun F s vs kvs X sa sk hk => by
  obtain ⟨v1, _, rfl, s1, sa⟩ := sa.inv; obtain ⟨v2, _, rfl, s2, sa⟩ := sa.inv; obtain ⟨v3, _, rfl, s3, sa⟩ := sa.inv; obtain rfl := sa.inv0; obtain ⟨w, rfl, sw⟩ := kvs1 hk sk; exact h F s v1 v2 v3 w X s1 s2 s3 sw
theorem Binds.mk41 (h : ∀ (F : FM) (s : Shared) v1 v2 v3 v4 w, g.K.In s.heap → Sees F v1 a → Sees F v2 b → Sees F v3 c → Sees F v4 d → Sees F w e → ∃ bs, BindsTo s fd ⟨[v1, v2, v3, v4], [(x, w)]⟩ bs ∧ SeesB F bs bd) : Binds g fd [a, b, c, d] [(x, e)] bd := fun F s vs kvs X sa sk hk => by
  obtain ⟨v1, _, rfl, s1, sa⟩ := sa.inv; obtain ⟨v2, _, rfl, s2, sa⟩ := sa.inv; obtain ⟨v3, _, rfl, s3, sa⟩ := sa.inv; obtain ⟨v4, _, rfl, s4, sa⟩ := sa.inv; obtain rfl := sa.inv0; obtain ⟨w, rfl, sw⟩ := kvs1 hk sk; exact h F s v1 v2 v3 v4 w X s1 s2 s3 s4 sw
end

def bisF (p : Nat → Bool) : Nat → Nat → Nat → Nat
  | 0, lo, _ => lo
  | k + 1, lo, hi => if lo < hi then (if p ((lo + hi) / 2) then bisF p k lo ((lo + hi) / 2) else bisF p k ((lo + hi) / 2 + 1) hi) else lo
def bis (p : Nat → Bool) (lo hi : Nat) : Nat := bisF p (hi - lo) lo hi
theorem mid_k {lo hi k : Nat} (h : hi - lo ≤ k + 1) (q : lo < hi) : (lo + hi) / 2 - lo ≤ k ∧ hi - ((lo + hi) / 2 + 1) ≤ k := by omega
theorem not_lt_of_sub {lo hi : Nat} (h : hi - lo ≤ 0) : ¬ lo < hi := by omega
theorem bisF_more {p : Nat → Bool} : ∀ (k m lo hi : Nat), hi - lo ≤ k → hi - lo ≤ m → bisF p k lo hi = bisF p m lo hi
  | 0, 0, lo, hi, _, _ => rfl
  | 0, m + 1, lo, hi, h, _ => (if_neg (not_lt_of_sub h)).symm
  | k + 1, 0, lo, hi, _, h => if_neg (not_lt_of_sub h)
  | k + 1, m + 1, lo, hi, h, h' => by
    rw [bisF, bisF]
    by_cases q : lo < hi
    · rw [if_pos q, if_pos q, bisF_more k m lo ((lo + hi) / 2) (mid_k h q).1 (mid_k h' q).1, bisF_more k m ((lo + hi) / 2 + 1) hi (mid_k h q).2 (mid_k h' q).2]
    · rw [if_neg q, if_neg q]
theorem bis_F {p : Nat → Bool} {k lo hi : Nat} (h : hi - lo ≤ k) : bis p lo hi = bisF p k lo hi := bisF_more _ _ _ _ (Nat.le_refl _) h
theorem bis_eq {p : Nat → Bool} {lo hi : Nat} : bis p lo hi = if lo < hi then (if p ((lo + hi) / 2) then bis p lo ((lo + hi) / 2) else bis p ((lo + hi) / 2 + 1) hi) else lo := by
  rw [bis_F (Nat.le_succ (hi - lo)), bisF]
  by_cases q : lo < hi
  · have h := mid_k (Nat.le_succ (hi - lo)) q
    rw [if_pos q, if_pos q, bis_F h.1, bis_F h.2]
  · rw [if_neg q, if_neg q]
theorem bis_rec {p : Nat → Bool} {C : Nat → Nat → Nat → Prop} (h1 : ∀ lo hi, lo < hi → p ((lo + hi) / 2) = true → C lo ((lo + hi) / 2) (bis p lo ((lo + hi) / 2)) → C lo hi (bis p lo ((lo + hi) / 2)))
    (h2 : ∀ lo hi, lo < hi → p ((lo + hi) / 2) = false → C ((lo + hi) / 2 + 1) hi (bis p ((lo + hi) / 2 + 1) hi) → C lo hi (bis p ((lo + hi) / 2 + 1) hi)) (h3 : ∀ lo hi, ¬ lo < hi → C lo hi lo) : ∀ (k lo hi : Nat), hi - lo ≤ k → C lo hi (bis p lo hi)
  | 0, lo, hi, h => by rw [bis_eq, if_neg (not_lt_of_sub h)]; exact h3 _ _ (not_lt_of_sub h)
  | k + 1, lo, hi, h => by
    rw [bis_eq]
    by_cases q : lo < hi
    · rw [if_pos q]
      cases hp : p ((lo + hi) / 2) with
      | true => exact h1 lo hi q hp (bis_rec h1 h2 h3 k _ _ (mid_k h q).1)
      | false => exact h2 lo hi q hp (bis_rec h1 h2 h3 k _ _ (mid_k h q).2)
    · rw [if_neg q]; exact h3 _ _ q
theorem mid_in {lo hi : Nat} (q : lo < hi) : lo ≤ (lo + hi) / 2 ∧ (lo + hi) / 2 < hi := by omega
theorem bis_le {p : Nat → Bool} {lo hi : Nat} : lo ≤ hi → lo ≤ bis p lo hi ∧ bis p lo hi ≤ hi := by
  refine bis_rec (C := fun lo hi r => lo ≤ hi → lo ≤ r ∧ r ≤ hi) ?_ ?_ ?_ _ lo hi (Nat.le_refl _)
  · intro lo hi h1 hp ih _; have h2 := mid_in h1; have := ih h2.1; exact ⟨this.1, Nat.le_trans this.2 (Nat.le_of_lt h2.2)⟩
  · intro lo hi h1 hp ih _; have h2 := mid_in h1; have := ih h2.2; exact ⟨Nat.le_trans (Nat.le_succ_of_le h2.1) this.1, this.2⟩
  · intro lo hi h1 h; exact ⟨Nat.le_refl _, h⟩

theorem EvL.nil {Q} (h : Q [] μ) : EvL g env own n ρ [] μ Q := h
abbrev LK2 (d : D) (Q : List D → Mu → Prop) : List D → Mu → Prop := fun ds μ₂ => Q (d :: ds) μ₂
abbrev LK1 (g : G) (env : Env) (own : List Addr) (n : Nat) (ρ : Str → Option D) (r : List Expr) (Q : List D → Mu → Prop) : D → Mu → Prop := fun d μ₁ => EvL g env own n ρ r μ₁ (LK2 d Q)
abbrev KK2 (x : Str) (d : D) (Q : List (Str × D) → Mu → Prop) : List (Str × D) → Mu → Prop := fun ks μ₂ => Q ((x, d) :: ks) μ₂
abbrev KK1 (g : G) (env : Env) (own : List Addr) (n : Nat) (ρ : Str → Option D) (x : Str) (r : List Keyword) (Q : List (Str × D) → Mu → Prop) : D → Mu → Prop := fun d μ₁ => EvK g env own n ρ r μ₁ (KK2 x d Q)
theorem EvL.cons {e r Q} (h : Ev g env own n ρ μ e (LK1 g env own n ρ r Q)) (hp : plainE e = true := by rfl) : EvL g env own n ρ (e :: r) μ Q := ⟨hp, h⟩
theorem EvK.nil {Q} (h : Q [] μ) : EvK g env own n ρ [] μ Q := h
theorem EvK.cons {x : Str} {e pos r Q} (h : Ev g env own n ρ μ e (KK1 g env own n ρ x r Q)) : EvK g env own n ρ (⟨some x, e, pos⟩ :: r) μ Q := h
theorem keep_blt {id : String} {P : Prop} (h : P) : KeepD g (.val (.builtin id)) ∧ P := ⟨KeepD.builtin, h⟩
theorem keep_type {id : String} {P : Prop} (h : P) : KeepD g (.val (.type id)) ∧ P := ⟨KeepD.type, h⟩
theorem keep_fn {K : Frag} {a : Addr} {P : Prop} (hK : g.K = K) (hk : keepIn K (.ref a) = true) (h : P) : KeepD g (.val (.ref a)) ∧ P := ⟨KeepD.fn (by rw [hK]; exact hk), h⟩
theorem keep_clo {q ps b sc cd cp} {P : Prop} (h : P) : KeepD g (.clo q ps b sc cd cp) ∧ P := ⟨KeepD.clo, h⟩
theorem keep_as {d} {P : Prop} (hk : KeepD g d) (h : P) : KeepD g d ∧ P := ⟨hk, h⟩

/-- a < b is told as r -/
def LtOk (a b : D) (r : Bool) : Prop := ∀ (g : G) (n : Nat) (μ : Mu) (Q : D → Mu → Prop), Q (.bool r) μ → Act2 g n μ (compareOp .Lt) a b Q
theorem LtOk.int {a b : Int} : LtOk (.int a) (.int b) (decide (a < b)) := fun _ _ _ _ h => Act2.lt h
/-- what a key answers -/
def KeyOk (g : G) (n : Nat) (k d e : D) : Prop := ∀ (l : List Env) (μ : Mu) (Q : D → Mu → Prop), Q e μ → Calls { g with stk := l } n k [d] [] μ Q
end

open PySem PySem.W PySem.Calls PyProof.Rows
set_option maxRecDepth 20000
section
variable {g : G} {env : Env} {own : List Addr} {n : Nat} {ρ : Str → Option D} {μ : Mu}

theorem AsgL.mono {K K' : (Str → Option D) → Prop} (k : ∀ r, K r → K' r) {es ds r} (h : AsgL env own K es ds r) : AsgL env own K' es ds r := by
  induction h with
  | nil h => exact .nil (k _ h)
  | cons b _ ih => exact .cons b ih
theorem Asg.mono {K K' : (Str → Option D) → Prop} (k : ∀ r, K r → K' r) {e d r} (h : Asg env own K e d r) : Asg env own K' e d r := by
  cases h with
  | name b h => exact .name b (k _ h)
  | tup h => exact .tup (h.mono k)
  | tupL h => exact .tupL (h.mono k)
theorem Et.mono {e : Expr} {Q Q' : Bool → Mu → Prop} (h : Et g env own n ρ μ e Q) (k : ∀ d μ', Q d μ' → Q' d μ') : Et g env own n ρ μ e Q' :=
  fun A F s ok G Fs => wpAny_mono (h A F s ok G Fs) ((by rintro v s' ⟨μ', F', t, G', q⟩; exact ⟨μ', F', t, G', k _ _ q⟩)) fun _ _ x => x
theorem Ex.mono {ss : List Stmt} {Q Q' : Fl → (Str → Option D) → Mu → Prop} (h : Ex g env own n ρ μ ss Q) (k : ∀ f r μ', Q f r μ' → Q' f r μ') : Ex g env own n ρ μ ss Q' :=
  fun A F s ok G Fs => wpAny_mono (h A F s ok G Fs) ((by rintro fl s' ⟨f, r, μ', F', t, G', Fs', sf, q⟩; exact ⟨f, r, μ', F', t, G', Fs', sf, k _ _ _ q⟩)) fun _ _ x => x
theorem Calls.mono {f : D} {args kws} {Q Q' : D → Mu → Prop} (h : Calls g n f args kws μ Q) (k : ∀ d μ', Q d μ' → Q' d μ') : Calls g n f args kws μ Q' :=
  fun A F s fv vs kvs ok G sf sa sk hk => wpAny_mono (h A F s fv vs kvs ok G sf sa sk hk) (fun v s' p => EvPost.mono p k) fun _ _ x => x
theorem EvI.mono {tgt e} {Q Q' : List D → Mu → Prop} (h : EvI g env own n ρ μ tgt e Q) (k : ∀ d μ', Q d μ' → Q' d μ') : EvI g env own n ρ μ tgt e Q' :=
  fun A F s ok G Fs => wpAny_mono (h A F s ok G Fs) (fun x s₁ h₁ => wpAny_mono h₁ ((by rintro it s₂ ⟨ds, μ', F', fp, t, G', a, b, c, d, q⟩; exact ⟨ds, μ', F', fp, t, G', a, b, c, d, k _ _ q⟩)) fun _ _ x => x) fun _ _ x => x
theorem EtIfs.mono : ∀ {ifs : List Expr} {μ : Mu} {Q Q' : Bool → Mu → Prop}, EtIfs g env own n ρ ifs μ Q → (∀ d μ', Q d μ' → Q' d μ') → EtIfs g env own n ρ ifs μ Q'
  | [], μ, Q, Q', h, k => k _ _ h
  | c :: cs, μ, Q, Q', h, k => Et.mono h (by rintro b μ₁ ⟨h1, h2⟩; exact ⟨fun e => EtIfs.mono (h1 e) k, fun e => k _ _ (h2 e)⟩)

/-- a loop by an invariant over what is left -/
theorem ForL.run {tgt body Q} (I : List D → (Str → Option D) → Mu → Prop)
    (turn : ∀ d ds ρ μ, I (d :: ds) ρ μ → Asg env own (fun ρ₁ => Ex g env own n ρ₁ μ body fun f ρ₂ μ₂ => match f with
      | .next => I ds ρ₂ μ₂
      | .cont => I ds ρ₂ μ₂
      | .brk => Q .next ρ₂ μ₂
      | .ret d => Q (.ret d) ρ₂ μ₂) tgt d ρ) (fin : ∀ ρ μ, I [] ρ μ → Q .next ρ μ) : ∀ (ds : List D) {ρ μ}, I ds ρ μ → ForL g env own n tgt body ds ρ μ Q
  | [], ρ, μ, h => fin ρ μ h
  | d :: ds, ρ, μ, h => (turn d ds ρ μ h).mono fun r hr => hr.mono fun f r' μ' q => by
    cases f with
    | next => exact ForL.run I turn fin ds q
    | cont => exact ForL.run I turn fin ds q
    | brk => exact q
    | ret d => exact q

theorem upd_upd {ρ : Str → Option D} {x a b} : upd (upd ρ x a) x b = upd ρ x b := by funext y; unfold upd; split <;> rfl
theorem upd_upd2 {ρ : Str → Option D} {x y a b c d} : upd (upd (upd (upd ρ x a) y b) x c) y d = upd (upd ρ x c) y d := by
  funext z; unfold upd; by_cases h1 : z = y <;> by_cases h2 : z = x <;> simp [h1, h2]

/-- a comprehension whose elements are told one by one -/
theorem CompL.map {x : Str} {p : Pos} {elt : Expr} {K : CK} (f : D → D) (hb : Bindable env own x) : ∀ (ds : List D) (acc : List D) {ρ : Str → Option D}, acc.length + ds.length ≤ 100000 →
    (∀ d ∈ ds, ∀ Q : D → Mu → Prop, Q (f d) μ → Ev g env own n (upd ρ x d) μ elt Q) → (∀ r, K (acc ++ ds.map f) r μ) → CompL g env own n (CompG g env own n elt []) (.Name x p) [] ds ρ μ acc K
  | [], acc, ρ, hl, h, k => by have := k ρ; rwa [List.map_nil, List.append_nil] at this
  | d :: ds, acc, ρ, hl, h, k => by
    simp only [List.length_cons] at hl
    refine .name hb (show (true = true → _) ∧ (true = false → _) from ⟨fun _ => ⟨by lia, h d (.head _) _ ?_⟩, fun e => nomatch e⟩)
    refine CompL.map f hb ds _ (by simp; lia) (fun e he => by rw [upd_upd]; exact h e (.tail _ he)) (fun r => ?_)
    have := k r
    rwa [List.map_cons, ← List.singleton_append, ← List.append_assoc] at this
theorem CompL.filter {x : Str} {p : Pos} {elt test : Expr} {K : CK} (f : D → D) (c : D → Bool) (hb : Bindable env own x) : ∀ (ds : List D) (acc : List D) {ρ : Str → Option D}, acc.length + ds.length ≤ 100000 →
    (∀ d ∈ ds, ∀ Q : Bool → Mu → Prop, Q (c d) μ → Et g env own n (upd ρ x d) μ test Q) →
    (∀ d ∈ ds, c d = true → ∀ Q : D → Mu → Prop, Q (f d) μ → Ev g env own n (upd ρ x d) μ elt Q) → (∀ r, K (acc ++ (ds.filter c).map f) r μ) → CompL g env own n (CompG g env own n elt []) (.Name x p) [test] ds ρ μ acc K
  | [], acc, ρ, hl, ht, h, k => by have := k ρ; rwa [List.filter_nil, List.map_nil, List.append_nil] at this
  | d :: ds, acc, ρ, hl, ht, h, k => by
    simp only [List.length_cons] at hl
    refine .name hb (ht d (.head _) _ ⟨fun e => ?_, fun e => ?_⟩)
    · refine show (true = true → _) ∧ (true = false → _) from ⟨fun _ => ⟨by lia, h d (.head _) e _ ?_⟩, fun e => nomatch e⟩
      refine CompL.filter f c hb ds _ (by simp; lia) (fun e he => by rw [upd_upd]; exact ht e (.tail _ he)) (fun e he => by rw [upd_upd]; exact h e (.tail _ he)) (fun r => ?_)
      have := k r
      rwa [List.filter_cons_of_pos e, List.map_cons, ← List.singleton_append, ← List.append_assoc] at this
    · refine ⟨fun e => (nomatch e), fun _ => ?_⟩
      refine CompL.filter f c hb ds _ (by lia) (fun e he => by rw [upd_upd]; exact ht e (.tail _ he)) (fun e he => by rw [upd_upd]; exact h e (.tail _ he)) (fun r => ?_)
      have := k r
      rwa [List.filter_cons_of_neg (by rw [e]; exact Bool.false_ne_true)] at this
/-- two names -/
theorem CompL.map2 {x y : Str} {p q r0 : Pos} {k0 : Nat} {elt : Expr} {K : CK} (f : D → D → D) (hb : Bindable env own x) (hb2 : Bindable env own y) : ∀ (ds : List (D × D)) (acc : List D) {ρ : Str → Option D}, acc.length + ds.length ≤ 100000 →
    (∀ d ∈ ds, ∀ Q : D → Mu → Prop, Q (f d.1 d.2) μ → Ev g env own n (upd (upd ρ x d.1) y d.2) μ elt Q) → (∀ r, K (acc ++ ds.map fun d => f d.1 d.2) r μ) →
    CompL g env own n (CompG g env own n elt []) (.Tuple [.Name x p, .Name y q] k0 r0) [] (ds.map fun d => .tup [d.1, d.2]) ρ μ acc K
  | [], acc, ρ, hl, h, k => by have := k ρ; rwa [List.map_nil, List.append_nil] at this
  | d :: ds, acc, ρ, hl, h, k => by
    simp only [List.length_cons] at hl
    refine .tup (.cons hb (.cons hb2 (.nil (show (true = true → _) ∧ (true = false → _) from ⟨fun _ => ⟨by lia, h d (.head _) _ ?_⟩, fun e => nomatch e⟩))))
    refine CompL.map2 f hb hb2 ds _ (by simp; lia) (fun e he => by rw [upd_upd2]; exact h e (.tail _ he)) (fun r => ?_)
    have := k r
    rwa [List.map_cons, ← List.singleton_append, ← List.append_assoc] at this
theorem enumD_map : ∀ (ds : List D) (i : Int), enumD i ds = (ds.zipIdx.map fun (p : D × Nat) => ((D.int (i + p.2), p.1) : D × D)).map fun d => .tup [d.1, d.2] := by
  intro ds
  induction ds with
  | nil => intro i; rfl
  | cons d ds ih =>
    intro i
    rw [enumD, ih, List.zipIdx_cons, List.map_cons, List.map_cons]
    congr 1
    · simp
    · rw [List.zipIdx_succ]
      simp only [List.map_map]
      refine List.map_congr_left fun p hp => ?_
      simp only [Function.comp]
      congr 3; push_cast; lia
end

open PySem PySem.W PySem.Calls PyProof.Rows
set_option maxRecDepth 20000
section
variable {g : G} {env : Env} {own : List Addr} {n : Nat} {ρ : Str → Option D} {μ : Mu}

theorem EvPost.keep {F : FM} {s : Shared} {h' : Heap} {tk : Tok} {v d} {Q : D → Mu → Prop} (G : GSt g μ F s.heap) (hk : ∀ b o, s.heap.get? b = some o → h'.get? b = some o) (sv : Sees F v d) (h : Q d μ) : EvPost g μ s F Q v { s with heap := h', toks := tk } :=
  ⟨d, μ, F, Tr.of_ext hk rfl rfl, G.ext hk, sv, h⟩
theorem EvPost.keepNew {F : FM} {s : Shared} {h' : Heap} {tk : Tok} {a : Addr} {vs : Array Value} {k : Nat} {ds} {Q : D → Mu → Prop} (G : GSt g μ F s.heap) (hk : ∀ b o, s.heap.get? b = some o → h'.get? b = some o)
    (ea : h'.get? a = some { cls := .type "list", dict := Option.none, data := .seq vs k, slots := #[] }) (fr : s.heap.get? a = none) (sa : SeesAll F vs.toList ds) (h : Q (.lst ds) μ) : EvPost g μ s F Q (.ref a) { s with heap := h', toks := tk } := by
  obtain ⟨h1, h2, h3⟩ := G.fresh fr
  have hle := put_le (o := { cls := .type "list", dict := Option.none, data := .seq vs k, slots := #[] }) h1
  refine ⟨_, μ, _, { Tr.of_ext (g := g) (mt := []) (μ := μ) (F := F) (s' := { s with heap := h', toks := tk }) hk rfl rfl with le := hle, fr := fun b => ?_ }, (G.ext hk).freeze ea h1 h2 h3 (fun _ _ z => nomatch z), .lst put_same (sa.mono hle), h⟩
  by_cases hb : b = a
  · subst hb; exact .inr (.inr (.inr fr))
  · rw [put_ne hb]; cases hF : F b with
    | none => exact .inl rfl
    | some x => exact .inr (.inl (by simp))
theorem EvPost.keepMut {F : FM} {s : Shared} {h' : Heap} {tk : Tok} {a : Addr} {vs : Array Value} {k : Nat} {ds} {Q : D → Mu → Prop} (G : GSt g μ F s.heap) (hk : ∀ b o, s.heap.get? b = some o → h'.get? b = some o)
    (ea : h'.get? a = some { cls := .type "list", dict := Option.none, data := .seq vs k, slots := #[] }) (fr : s.heap.get? a = none) (sa : SeesAll F vs.toList ds) (h : a ∉ μ.dom → Q (.val (.ref a)) ((a, .ml ds) :: μ)) : EvPost g μ s F Q (.ref a) { s with heap := h', toks := tk } := by
  obtain ⟨h1, h2, h3⟩ := G.fresh fr
  refine ⟨_, _, F, { Tr.of_ext (g := g) (mt := []) (μ := μ) (F := F) (s' := { s with heap := h', toks := tk }) hk rfl rfl with mu := fun b hb => ?_ }, (G.ext hk).push (m := .ml ds) h1 ⟨_, ea, vs, k, rfl, sa⟩ h2 h3, .val _, h h2⟩
  cases hb with
  | head => exact .inr fr
  | tail _ hb => exact .inl hb

/-! range, list -/
theorem Calls.range1 {k : Int} {Q} (h : Q (.rng 0 k 1) μ) : Calls g n (.val (.type "range")) [.int k] [] μ Q := Calls.of1 fun A F s fv va ok G sf sa => by
  obtain rfl := Sees.valI sf; obtain ⟨_, rfl⟩ := Sees.intI sa
  exact call_range_1 (EvPost.made G rfl rfl (.rng put_same) h)
theorem Calls.range2 {a b : Int} {Q} (h : Q (.rng a b 1) μ) : Calls g n (.val (.type "range")) [.int a, .int b] [] μ Q := Calls.of2 fun A F s fv va vb ok G sf sa sb => by
  obtain rfl := Sees.valI sf; obtain ⟨_, rfl⟩ := Sees.intI sa; obtain ⟨_, rfl⟩ := Sees.intI sb
  exact call_range_2 (EvPost.made G rfl rfl (.rng put_same) h)
theorem rangeD_get : ∀ (m : Nat) (a c : Int) (j : Nat), j < m → (rangeD a c m)[j]? = some (.int (a + j * c))
  | 0, a, c, j, h => by lia
  | m + 1, a, c, 0, h => by simp [rangeD]
  | m + 1, a, c, j + 1, h => by
    rw [rangeD, List.getElem?_cons_succ, rangeD_get m _ c j (by lia)]
    congr 2; push_cast; rw [Int.add_mul]; lia
theorem rangeD_len : ∀ (m : Nat) (a c : Int), (rangeD a c m).length = m
  | 0, a, c => rfl
  | m + 1, a, c => by rw [rangeD, List.length_cons, rangeD_len m]
theorem seesAll_of {F : FM} : ∀ {vs : List Value} {ds : List D}, vs.length = ds.length → (∀ (j : Nat) (v : Value) (d : D), vs[j]? = some v → ds[j]? = some d → Sees F v d) → SeesAll F vs ds
  | [], [], _, _ => .nil
  | [], _ :: _, h, _ => by simp at h
  | _ :: _, [], h, _ => by simp at h
  | v :: vs, d :: ds, h, k => .cons (k 0 v d rfl rfl) (seesAll_of (by simpa using h) fun j w e a b => k (j + 1) w e (by simpa using a) (by simpa using b))
theorem Calls.listRange {a b c : Int} {m : Nat} {Q} (hs : Builtin.Range.small a b c = true) (hm : Builtin.Range.rangeSize a b c = (m : Nat)) (hl : m ≤ 100000) (h : Q (.lst (rangeD a c m)) μ) : Calls g n (.val (.type "list")) [.rng a b c] [] μ Q :=
  Calls.of1 fun A F s fv va ok G sf sa => by
    obtain rfl := Sees.valI sf
    obtain @⟨_, _, _, _, e⟩ := Sees.rngI sa
    refine call_list_range ok.hand (G.fz _ _ e) hs hm (by lia) fun h' tk acc' c' hk ea it => EvPost.keepNew G hk ea (none_ge (Nat.le_refl _)) (seesAll_of ?_ fun j v d h1 h2 => ?_) h
    · rw [rangeD_len]; simpa using it.1
    · have hj : j < m := by
        have := (List.getElem?_eq_some_iff.mp h2).1; rwa [rangeD_len] at this
      rw [rangeD_get m a c j hj] at h2; cases h2
      obtain ⟨t, rfl⟩ := it.2 j v (by simpa using h1)
      exact .int _ _
theorem Calls.listMut {x : D} {ds : List D} {Q} (hx : Rd μ x ds) (hl : ds.length ≤ 100000) (h : ∀ a, a ∉ μ.dom → Q (.val (.ref a)) ((a, .ml ds) :: μ)) : Calls g n (.val (.type "list")) [x] [] μ Q :=
  Calls.of1 fun A F s fv va ok G sf sa => by
    obtain rfl := Sees.valI sf
    obtain ⟨a, vs, k, rfl, ha, sds⟩ := hx.at G sa
    have hz : vs.size = ds.length := sds.size
    exact call_list_seq a (.inl rfl) ha rfl rfl (fun h' c' hk ea => EvPost.keepMut (tk := s.toks) G hk ea (none_ge (Nat.le_refl _)) sds (h _)) (by unfold sizeLine; lia)

/-! max, min of two; sum -/
theorem Calls.max2 {a b : Int} {Q} (h : Q (.int (max a b)) μ) : Calls g n (.val (.builtin "max")) [.int a, .int b] [] μ Q := Calls.of2 fun A F s fv va vb ok G sf sa sb => by
  obtain rfl := Sees.valI sf
  obtain ⟨t, rfl⟩ := Sees.intI sa; obtain ⟨u, rfl⟩ := Sees.intI sb
  refine max_two_ints ok.hand fun h' tk hk => EvPost.keep G hk ?_ h
  split
  · rw [Int.max_eq_right (by lia)]; exact .int _ _
  · rw [Int.max_eq_left (by lia)]; exact .int _ _
theorem Calls.min2 {a b : Int} {Q} (h : Q (.int (min a b)) μ) : Calls g n (.val (.builtin "min")) [.int a, .int b] [] μ Q := Calls.of2 fun A F s fv va vb ok G sf sa sb => by
  obtain rfl := Sees.valI sf
  obtain ⟨t, rfl⟩ := Sees.intI sa; obtain ⟨u, rfl⟩ := Sees.intI sb
  refine min_two_ints ok.hand fun h' tk hk => EvPost.keep G hk ?_ h
  split
  · rw [Int.min_eq_right (by lia)]; exact .int _ _
  · rw [Int.min_eq_left (by lia)]; exact .int _ _
theorem sees_ints {F : FM} {ns : List Int} : ∀ {vs : List Value}, SeesAll F vs (ns.map .int) → ∃ l : List (Int × Tok), vs = l.map (fun p => Value.int p.1 p.2) ∧ l.map (·.1) = ns := by
  induction ns with
  | nil => intro vs h; exact ⟨[], SeesAll.nilI h, rfl⟩
  | cons x ns ih =>
    intro vs h
    obtain ⟨v, vs', rfl, s1, s2⟩ := SeesAll.consI h
    obtain ⟨l, rfl, e⟩ := ih s2
    obtain ⟨t, rfl⟩ := Sees.intI s1
    exact ⟨(x, t) :: l, rfl, congrArg (x :: ·) e⟩
theorem sees_intItems {F : FM} {vs : Array Value} {ns : List Int} (h : SeesAll F vs.toList (ns.map .int)) : ∃ xs : Array (Int × Tok), vs = intItems xs ∧ xs.toList.map (·.1) = ns := by
  obtain ⟨l, e, hl⟩ := sees_ints h
  refine ⟨l.toArray, ?_, hl⟩
  unfold intItems
  apply Array.ext'
  rw [e, Array.toList_map]
theorem numAt_eq' {xs : Array (Int × Tok)} {ns : List Int} (h : xs.toList.map (·.1) = ns) (i : Nat) : numAt xs i = ns.getD i 0 := by
  subst h
  unfold numAt
  rw [List.getD_eq_getElem?_getD, List.getElem?_map, Array.getElem?_toList]
theorem preSum_take (ns : List Int) : ∀ k, preSum (fun i => ns.getD i 0) k = (ns.take k).sum
  | 0 => by simp [preSum]
  | k + 1 => by
    rw [preSum, preSum_take ns k]
    by_cases hk : k < ns.length
    · rw [List.take_succ_eq_append_getElem hk, List.sum_append]; simp [List.getD_eq_getElem?_getD, hk]
    · rw [List.take_of_length_le (by lia), List.take_of_length_le (by lia), List.getD_eq_getElem?_getD, List.getElem?_eq_none (by lia)]; simp
theorem Calls.sum {x : D} {ns : List Int} {Q} (hx : Rd μ x (ns.map .int)) (hfit : ∀ j, j < ns.length → InLong (ns.getD j 0) ∧ InLong (ns.take (j + 1)).sum) (h : Q (.int ns.sum) μ) : Calls g n (.val (.builtin "sum")) [x] [] μ Q :=
  Calls.of1 fun A F s fv va ok G sf sa => by
    obtain rfl := Sees.valI sf
    obtain ⟨a, vs, rfl, hL, sds⟩ := hx.isList G sa
    obtain ⟨xs, rfl, hxs⟩ := sees_intItems sds
    have hf : numAt xs = fun i => ns.getD i 0 := funext (numAt_eq' hxs)
    have hz : xs.size = ns.length := by rw [← hxs, List.length_map, Array.length_toList]
    refine sum_intList ok.hand hL (fun j hj => ?_) fun h' tk t' hk => EvPost.keep G hk ?_ h
    · rw [hf, preSum_take]; exact hfit j (by lia)
    · rw [hf, preSum_take, hz, List.take_of_length_le (Nat.le_refl _)]; exact .int _ _
end

open PySem PySem.W PySem.Calls PyProof.Rows
set_option maxRecDepth 20000
section
variable {g : G} {env : Env} {own : List Addr} {n : Nat} {ρ : Str → Option D} {μ : Mu}

/-! a mutable list, seen as what it holds from here on -/
def Re (a : Addr) (ds : List D) (d d' : D) : Prop := ∀ (F : FM) v vs k, F a = some { cls := .type "list", dict := Option.none, data := .seq vs k, slots := #[] } → SeesAll F vs.toList ds → Sees F v d → Sees F v d'
theorem Re.hit {a ds} : Re a ds (.val (.ref a)) (.lst ds) := fun F v vs k e sa sv => by obtain rfl := Sees.valI sv; exact .lst e sa
theorem Re.same {a ds d} : Re a ds d d := fun F v vs k e sa sv => sv
inductive ReL (a : Addr) (ds : List D) : List D → List D → Prop
  | nil : ReL a ds [] []
  | cons {d d' l l'} : Re a ds d d' → ReL a ds l l' → ReL a ds (d :: l) (d' :: l')
theorem ReL.sees {a ds F vs k} (e : F a = some { cls := .type "list", dict := Option.none, data := .seq vs k, slots := #[] }) (sa : SeesAll F (vs : Array Value).toList ds) {l l'} (h : ReL a ds l l') : ∀ {ws}, SeesAll F ws l → SeesAll F ws l' := by
  induction h with
  | nil => exact id
  | cons r _ ih =>
    intro ws h
    obtain ⟨v, vs', rfl, s1, s2⟩ := SeesAll.consI h
    exact .cons (r _ _ _ _ e sa s1) (ih s2)
theorem Re.lst {a ds l l'} (h : ReL a ds l l') : Re a ds (.lst l) (.lst l') := fun F v vs k e sa sv => by
  obtain ⟨e', s'⟩ := Sees.lstI sv; exact .lst e' (h.sees e sa s')
theorem Re.tup {a ds l l'} (h : ReL a ds l l') : Re a ds (.tup l) (.tup l') := fun F v vs k e sa sv => by
  obtain ⟨e', s'⟩ := Sees.tupI sv; exact .tup e' (h.sees e sa s')

theorem Ex.freeze {a ds ss} {ρ' : Str → Option D} {Q} (hρ : ∀ x d', ρ' x = some d' → ∃ d, ρ x = some d ∧ Re a ds d d') (h : Ex g env own n ρ' μ ss Q) : Ex g env own n ρ ((a, .ml ds) :: μ) ss Q := fun A F s ok G Fs => by
  obtain ⟨hF, o, e, vs, k, rfl, sa⟩ := G.mu _ (.head _)
  dsimp only at hF e
  have hnd := List.nodup_cons.mp G.nd
  have hle := put_le (o := { cls := .type "list", dict := Option.none, data := .seq vs k, slots := #[] }) hF
  have G' := G.drop.freeze e hF hnd.1 (G.dj a (.head _)) (fun _ _ z => nomatch z)
  have Fs' : FSt env own ρ' μ (put F a { cls := .type "list", dict := Option.none, data := .seq vs k, slots := #[] }) s.heap := by
    refine ⟨Fs.ok, Fs.ns, fun x d' hx => ?_, Fs.cells, fun b hb => ?_, Fs.live, fun b hb q => Fs.muo b hb (.tail _ q)⟩
    · obtain ⟨d, hd, re⟩ := hρ x d' hx
      obtain ⟨v, hv, sv⟩ := Fs.vars x d hd
      exact ⟨v, hv, re _ _ _ _ put_same (sa.mono hle) (sv.mono hle)⟩
    · rw [put_ne (fun z : b = a => Fs.muo b hb (by rw [z]; exact .head _))]; exact Fs.ownF b hb
  refine wpAny_mono (h A _ s ok G' Fs') (fun fl s' ⟨f, r, μ', F', t, G₂, Fs₂, sf, q⟩ => ⟨f, r, μ', F', ?_, G₂, Fs₂, sf, q⟩) fun _ _ x => x
  refine ⟨fun b o h0 h1 h2 h3 => t.ext b o h0 h1 (fun z => h2 (.tail _ z)) h3, t.live, fun b o q => t.le b o (hle b o q), fun b => ?_, fun b hb => (t.mu b hb).imp (fun z => .tail _ z) id, t.os, t.gens⟩
  by_cases hb : b = a
  · subst hb; exact .inr (.inr (.inl (.head _)))
  · rcases t.fr b with h | h | h | h
    · exact .inl h
    · rw [put_ne hb] at h; exact .inr (.inl h)
    · exact .inr (.inr (.inl (.tail _ h)))
    · exact .inr (.inr (.inr h))
/-- the entry may lie deeper: bring it to the front -/
theorem Ex.perm {μ' : Mu} {ss Q} (hp : μ'.Perm μ) (h : Ex g env own n ρ μ' ss Q) : Ex g env own n ρ μ ss Q := fun A F s ok G Fs => by
  have hm : ∀ a, a ∈ μ'.dom ↔ a ∈ μ.dom := fun a => (hp.map _).mem_iff
  have G' : GSt g μ' F s.heap := ⟨G.base, G.fz, G.tb, fun p hp' => G.mu p (hp.mem_iff.mp hp'), (hp.map _).nodup_iff.mpr G.nd, G.fzc, fun a ha => G.dj a ((hm a).mp ha), fun x hx => (by obtain ⟨hk', L, m, hf, hn, hF', hm'⟩ := G.stk x hx; exact ⟨hk', L, m, hf, hn, hF', fun q => hm' ((hm _).mp q)⟩)⟩
  have Fs' : FSt env own ρ μ' F s.heap := ⟨Fs.ok, Fs.ns, Fs.vars, Fs.cells, Fs.ownF, Fs.live, fun a ha q => Fs.muo a ha ((hm a).mp q)⟩
  refine wpAny_mono (h A F s ok G' Fs') (fun fl s' ⟨f, r, μ', F', t, G₂, Fs₂, sf, q⟩ => ⟨f, r, μ', F', ?_, G₂, Fs₂, sf, q⟩) fun _ _ x => x
  exact ⟨fun b o h0 h1 h2 h3 => t.ext b o h0 h1 (fun z => h2 ((hm b).mp z)) h3, t.live, t.le, fun b => (t.fr b).imp id (Or.imp id (Or.imp (hm b).mp id)), fun b hb => (t.mu b hb).imp (hm b).mp id, t.os, t.gens⟩

/-! assignments -/
abbrev AsgTK (env : Env) (own : List Addr) (ρ : Str → Option D) (t : Expr) (Q : XQ) : D → Mu → Prop := fun d μ₁ => Asg env own (fun r => Q .next r μ₁) t d ρ
theorem Ex1.assignT {elts k tp e pos Q} (h : Ev g env own n ρ μ e (AsgTK env own ρ (.Tuple elts k tp) Q))
    (hs : swapsWithSole [.Tuple elts k tp] e pos.line env = pure false := by rfl) (hw : swappedStores [.Tuple elts k tp] e env = pure Option.none := by rfl) : Ex1 g env own n ρ μ (.Assign [.Tuple elts k tp] e pos) Q := fun A F s ok G Fs =>
  Assign_Tuple (hs := hs) (hw := hw) (wp_seq h ok G Fs fun v d μ₁ F₁ s₁ t G₁ Fs₁ sv h₁ => wpAny_mono (wp_asg ok.hand h₁ sv G₁ Fs₁) ((by rintro _ s₂ ⟨r, t₂, G₂, Fs₂, q⟩; exact ⟨.next, r, μ₁, F₁, t.toOwn.trans t₂, G₂, Fs₂, trivial, q⟩)) fun _ _ x => x)

theorem wp_bind {A : Around} {x v d K F s} (G : GSt g μ F s.heap) (Fs : FSt env own ρ μ F s.heap) (sv : Sees F v d) (hb : Bindable env own x) (h : K (upd ρ x d)) :
    wpAny (model g.prog g.w) A (bindName env x v) (APost g env own μ s F K) (fun _ _ => False) s :=
  bindName_ (st_store G Fs sv hb fun s' t G' Fs' _ => ⟨_, t, G', Fs', h⟩)
def updL (ρ : Str → Option D) : List Str → List D → (Str → Option D)
  | x :: xs, d :: ds => updL (upd ρ x d) xs ds
  | _, _ => ρ
theorem wp_binds {A : Around} {K} : ∀ {names : List Str} {vs : List Value} {ds : List D} {ρ F s}, SeesAll F vs ds → (∀ x ∈ names, Bindable env own x) → GSt g μ F s.heap → FSt env own ρ μ F s.heap → K (updL ρ names ds) →
    wpAny (model g.prog g.w) A (assignInOrder (names.map fun n => bindName env n) vs) (APost g env own μ s F K) (fun _ _ => False) s
  | [], vs, ds, ρ, F, s, sa, hb, G, Fs, h => wpAny_pure ⟨_, .refl, G, Fs, by cases ds <;> exact h⟩
  | x :: xs, _, _, ρ, F, s, .nil, hb, G, Fs, h => wpAny_pure ⟨_, .refl, G, Fs, h⟩
  | x :: xs, _, _, ρ, F, s, .cons sv sa, hb, G, Fs, h => by
    rw [List.map_cons]
    unfold assignInOrder
    refine wpAny_bind (wpAny_holding (wpAny_mono (wp_bind (K := fun r => r = upd ρ x _) G Fs sv (hb x (.head _)) rfl) ?_ fun _ _ x => x))
    rintro _ s₁ ⟨r, t₁, G₁, Fs₁, hr⟩
    subst hr
    exact wpAny_mono (wp_binds sa (fun y hy => hb y (.tail _ hy)) G₁ Fs₁ h) ((by rintro _ s₂ ⟨r, t₂, G₂, Fs₂, q⟩; exact ⟨r, t₁.trans t₂, G₂, Fs₂, q⟩)) fun _ _ x => x
abbrev AsgSK (ρ : Str → Option D) (names : List Str) (Q : XQ) : D → Mu → Prop := fun d μ₁ => ∃ ds, d = .tup ds ∧ ds.length = names.length ∧ Q .next (updL ρ names.reverse ds.reverse) μ₁
theorem Ex1.assignS {elts k tp e pos Q} {names : List Str} (h : Ev g env own n ρ μ e (AsgSK ρ names Q))
    (hb : ∀ x ∈ names, Bindable env own x) (hw : swappedStores [.Tuple elts k tp] e env = pure (some names))
    (hs : swapsWithSole [.Tuple elts k tp] e pos.line env = pure false := by rfl) : Ex1 g env own n ρ μ (.Assign [.Tuple elts k tp] e pos) Q := fun A F s ok G Fs =>
  Assign_Tuple_swapped (names := names) (hs := hs) (hw := hw) (wp_seq h ok G Fs fun v d μ₁ F₁ s₁ t G₁ Fs₁ sv h₁ => by
    obtain ⟨ds, rfl, hl, hq⟩ := h₁
    obtain @⟨a, vs, k0, e0, sds⟩ := Sees.tupI sv
    have hT : s₁.heap.IsTuple a vs := ⟨_, G₁.fz _ _ e0, rfl, _, rfl⟩
    have hz : vs.size = names.length := by rw [← hl]; exact sds.size
    rw [← hz]
    refine wpAny_unpackItems_tuple ok.hand hT fun h' hx => ?_
    have hk : ∀ b o, s₁.heap.get? b = some o → h'.get? b = some o := fun b o e => hx b o (Nat.ne_of_lt (Heap.lt_size e)) e
    have t1 : Tr g [] μ₁ μ₁ F₁ F₁ s₁ { s₁ with heap := h' } := Tr.of_ext hk rfl rfl
    refine wpAny_mono (wp_binds (s := { s₁ with heap := h' }) (K := fun r => Q .next r μ₁) sds.reverse (fun x hx => hb x (List.mem_reverse.mp hx)) (G₁.ext hk) (Fs₁.tr G₁ t1 (G₁.ext hk)) hq) ?_ fun _ _ x => x
    rintro _ s₂ ⟨r, t₂, G₂, Fs₂, q⟩
    exact ⟨.next, r, μ₁, F₁, (t.trans t1).toOwn.trans t₂, G₂, Fs₂, trivial, q⟩)

theorem FSt.at {F h h' C} (Fs : FSt env own ρ μ F h) (sb : Heap.SameBut C h h') (h1 : env.locals ≠ C) (h2 : ∀ p ∈ env.cells, p.2 ≠ C) (h3 : ∀ a ∈ own, a ≠ C) : FSt env own ρ μ F h' := by
  have k : ∀ b o, b ≠ C → h.get? b = some o → h'.get? b = some o := fun b o hb e => (sb.2 b hb).trans e
  refine ⟨Fs.ok, ?_, fun x d e => ?_, fun p hp => ?_, Fs.ownF, fun a ha => (by obtain ⟨o, e⟩ := Fs.live a ha; exact ⟨o, k _ _ (h3 a ha) e⟩), Fs.muo⟩
  · obtain ⟨m, o, es, ep, e, r⟩ := Fs.ns; exact ⟨m, o, es, ep, k _ _ h1 e, r⟩
  · obtain ⟨v, hv, sv⟩ := Fs.vars x d e; exact ⟨v, hv.keeps (fun o => k _ o h1) (fun p hp o => k _ o (h2 p hp)), sv⟩
  · obtain ⟨v, o, e, d⟩ := Fs.cells p hp; exact ⟨v, o, k _ _ (h2 p hp) e, d⟩

/-- a comprehension stored at once -/
theorem Ex1.assignComp {x : Str} {p : Pos} {elt tgt iter : Expr} {ifs : List Expr} {rest : List Comprehension} {scope : Scope} {cpos pos : Pos} {Q} (hn : 4 ≤ n) (ck : CompOk env scope (⟨tgt, iter, ifs, 0⟩ :: rest)) (hb : Bindable env own x)
    (hs : swapsWith (.ListComp elt (⟨tgt, iter, ifs, 0⟩ :: rest) scope cpos) (some (.Name x p)) pos.line env = pure true)
    (h : EvI g env own n ρ μ tgt iter fun ds μ₁ => ∀ cenv C, cenv = compEnvC scope (closGo env.cells scope.names []) C env →
      CompL g cenv [C] n (CompG g cenv [C] n elt rest) tgt ifs ds (restr scope ρ) μ₁ [] fun acc _ μ' => Q .next (upd ρ x (.lst acc)) μ') :
    Ex1 g env own n ρ μ (.Assign [.Name x p] (.ListComp elt (⟨tgt, iter, ifs, 0⟩ :: rest) scope cpos) pos) Q := fun A F s ok G Fs => by
  rw [exec_Assign_Name_used _ _ _ _ hs]
  refine wpAny_bind (wpAny_standAt (wpAny_bind ?_))
  show wpAny _ A (do let _ ← comprehension (.ListComp elt (⟨tgt, iter, ifs, 0⟩ :: rest) scope cpos) scope env (firstIterPos (⟨tgt, iter, ifs, 0⟩ :: rest) cpos) (newList []) false (firstIter (⟨tgt, iter, ifs, 0⟩ :: rest) env) (some (PySem.assign (.Name x p) env))) _ _ s
  refine wpAny_bind (wpAny_mono (comp_core (P := fun _ s' => ExPost g env own μ s F Q .next s') (Q := fun acc μ' => Q .next (upd ρ x (.lst acc)) μ') hn ck ok G Fs h fun a C s' accD μ' F' t G' Fs' sv hns hC hFC hmC htC hQ => ?_) (fun _ s' q => wpAny_pure (wpAny_pure q)) fun _ _ x => x)
  have hlC : env.locals ≠ C := fun z => by obtain ⟨m, o, es, ep, e, _⟩ := Fs.ns; rw [z, hC] at e; cases e
  have hcC : ∀ p ∈ env.cells, p.2 ≠ C := fun p hp z => by obtain ⟨v, o, e, _⟩ := Fs.cells p hp; rw [z, hC] at e; cases e
  have hoC : ∀ b ∈ own, b ≠ C := fun b hb z => by obtain ⟨o, e⟩ := Fs.live b hb; rw [z, hC] at e; cases e
  show wpAny _ A (PySem.assign (.Name x p) env (.ref a)) _ _ s'
  refine wpAny_mono (wp_assignName (K := fun r => r = upd ρ x (.lst accD)) G' Fs' sv hb rfl) ?_ fun _ _ x => x
  rintro _ s₂ ⟨r, t₂, G₂, Fs₂, hr⟩
  subst hr
  obtain ⟨m, hm⟩ := hns
  refine ⟨m, t₂.ns hm (fun q => hoC C q rfl) hmC htC, fun h' sb => ?_⟩
  have t3 := t.toOwn.trans t₂
  refine ⟨.next, _, μ', F', { t3 with
    ext := fun b o e h1 h2 h3 => (by obtain ⟨o', e', u⟩ := t3.ext b o e h1 h2 h3; exact ⟨o', (sb.2 b (fun z => by rw [z, hC] at e; cases e)).trans e', u⟩)
    live := fun b o e => (by obtain ⟨o', e'⟩ := t3.live b o e; exact ⟨o', (sb.2 b (fun z => by rw [z, hC] at e; cases e)).trans e'⟩ )}, G₂.at sb hFC hmC htC (fun x hx hf => by obtain ⟨_, _, _, _, e, _⟩ := G.stkNs hx hf; rw [hC] at e; cases e), Fs₂.at sb hlC hcC hoC, trivial, hQ⟩
end

open PySem PySem.W PySem.Calls PyProof.Rows
set_option maxRecDepth 20000
theorem mem_hd {α : Type} {a : α} {l : List α} : a ∈ a :: l := .head _
theorem mem_tl {α : Type} {a b : α} {l : List α} (h : a ∈ l) : a ∈ b :: l := .tail _ h
theorem fm_congr {α β : Type} {f g : α → Option β} : ∀ {l : List α}, (∀ x ∈ l, f x = g x) → l.filterMap f = l.filterMap g
  | [], _ => rfl
  | x :: l, h => by rw [List.filterMap_cons, List.filterMap_cons, h x (.head _), fm_congr fun y hy => h y (.tail _ hy)]
theorem range_pick {α : Type} : ∀ (l : List α), (List.range l.length).filterMap (l[·]?) = l
  | [] => rfl
  | x :: l => by
    rw [List.length_cons, List.range_succ_eq_map, List.filterMap_cons]
    simp only [List.getElem?_cons_zero, List.filterMap_map]
    congr 1
    exact (fm_congr fun k hk => by simp).trans (range_pick l)
theorem dpick_run (ds : List D) (a b : Nat) (hab : a ≤ b) (hb : b ≤ ds.length) : (sliceRange a b 1).filterMap (ds[·]?) = (ds.drop a).take (b - a) := by
  rw [sliceRange_one, List.filterMap_map]
  have hl : ((ds.drop a).take (b - a)).length = b - a := by simp; lia
  refine (fm_congr fun k hk => ?_).trans ((congrArg (fun n => (List.range n).filterMap (((ds.drop a).take (b - a))[·]?)) hl.symm).trans (range_pick _))
  rw [List.mem_range] at hk
  show ds[a + k]? = ((ds.drop a).take (b - a))[k]?
  rw [List.getElem?_take, if_pos hk, List.getElem?_drop]
theorem dpick_upto (ds : List D) (k : Nat) : dpick ds Option.none (some (k : Int)) Option.none = ds.take k := by
  unfold dpick sliceBounds
  simp only [Option.getD_none, show ((1 : Int) > 0) by decide, if_true]
  have e : max (0 : Int) (min (if (k : Int) < 0 then (k : Int) + ds.length else k) ds.length) = ((min k ds.length : Nat) : Int) := by
    rw [if_neg (by lia)]; lia
  rw [e]
  refine (dpick_run ds 0 _ (by lia) (by lia)).trans ?_
  rw [List.drop_zero, Nat.sub_zero]
  by_cases h : k ≤ ds.length
  · rw [Nat.min_eq_left h]
  · rw [List.take_of_length_le (by lia), List.take_of_length_le (by lia)]
theorem dpick_from (ds : List D) (k : Nat) : dpick ds (some (k : Int)) Option.none Option.none = ds.drop k := by
  unfold dpick sliceBounds
  simp only [Option.getD_none, show ((1 : Int) > 0) by decide, if_true]
  have e : max (0 : Int) (min (if (k : Int) < 0 then (k : Int) + ds.length else k) ds.length) = ((min k ds.length : Nat) : Int) := by
    rw [if_neg (by lia)]; lia
  rw [e]
  refine (dpick_run ds _ ds.length (by lia) (by lia)).trans ?_
  by_cases h : k ≤ ds.length
  · rw [Nat.min_eq_left h, List.take_of_length_le (by simp)]
  · rw [List.drop_of_length_le (by lia), List.drop_of_length_le (by lia), List.take_nil]
section
variable {g : G} {env : Env} {own : List Addr} {n : Nat} {ρ : Str → Option D} {μ : Mu}
theorem Rd.weak {d ds p} (h : Rd μ d ds) : Rd (p :: μ) d ds := h.imp id (by rintro ⟨a, e, m⟩; exact ⟨a, e, .tail _ m⟩)
theorem len_and {l : List D} {P : Prop} (h : l.length ≤ 1000) (k : P) : l.length ≤ 1000 ∧ P := ⟨h, k⟩
set_option tactic.hygienic true in
theorem reUpd {ρ : Str → Option D} {x : Str} {a : Addr} {ds : List D} {d0 d1 : D} (h : ρ x = Option.some d0) (re : Re a ds d0 d1) : ∀ y d', upd ρ x d1 y = Option.some d' → ∃ d, ρ y = Option.some d ∧ Re a ds d d' := fun y d' e => by
  unfold upd at e
  split at e
  · rename_i hy; subst hy; cases e; exact ⟨d0, h, re⟩
  · exact ⟨d', e, .same⟩
theorem EvP.none {Q} (h : Q Option.none μ) : EvP g env own n ρ μ Option.none Q := h
theorem EvP.some {e Q} (h : Ev g env own n ρ μ e (PK Q)) : EvP g env own n ρ μ (Option.some e) Q := h

theorem intsAre_of {F : FM} {ns : List Int} : ∀ {vs : List Value}, SeesAll F vs (ns.map .int) → IntsAre vs ns := by
  induction ns with
  | nil => intro vs h; obtain rfl := SeesAll.nilI h; exact .nil
  | cons x ns ih =>
    intro vs h
    obtain ⟨v, vs', rfl, s1, s2⟩ := SeesAll.consI h
    obtain ⟨t, rfl⟩ := Sees.intI s1
    exact .cons _ _ (ih s2)
theorem Calls.count {x : D} {ns : List Int} {k : Int} {Q} (hx : Rd μ x (ns.map .int)) (h : Q (.int (ns.count k : Nat)) μ) : Calls g n (.val (.builtin "list.count")) [x, .int k] [] μ Q :=
  Calls.of2 fun A F s fv va vb ok G sf sa sb => by
    obtain rfl := Sees.valI sf
    obtain ⟨a, vs, rfl, hL, sds⟩ := hx.isList G sa
    obtain ⟨t, rfl⟩ := Sees.intI sb
    refine count_list_ints (vs := vs.toList) (by simpa using hL) (intsAre_of sds) (EvPost.here G rfl rfl rfl (.int _ _) h)
end

open PySem PySem.W PySem.Calls PyProof.Rows
set_option maxRecDepth 20000
section
variable {g : G} {env : Env} {own : List Addr} {n : Nat} {ρ : Str → Option D} {μ : Mu}
theorem is_int_bool {M : Model} {A : Around} {E : Value → Shared → Prop} {s : Shared} {Q : Value → Shared → Prop} {i : Int} {t : Tok} {d : Bool} (h : Q (.bool false) s) : wpAny M A (compareOp .Is (.int i t) (.bool d)) Q E s :=
  wpAny_pure (a := Value.bool (Value.int i t == Value.bool d)) (by
    have e : (Value.int i t == Value.bool d) = false := by cases h : (Value.int i t == Value.bool d) with
      | false => rfl
      | true => exact absurd (eq_of_beq h) (by intro q; cases q)
    rw [e]; exact h)
theorem Act2.isBoolInt {a : Int} {b : Bool} {Q} (h : Q (.bool false) μ) : Act2 g n μ (compareOp .Is) (.int a) (.bool b) Q := fun A F s va vb ok G sa sb => by
  obtain ⟨_, rfl⟩ := Sees.intI sa; obtain rfl := Sees.boolI sb; exact is_int_bool (EvPost.here G rfl rfl rfl (.bool _) h)
/-- a bool of the first decides -/
theorem Ev.and1 {e pos Q} (h : Ev g env own n ρ μ e Q) : Ev g env own n ρ μ (.BoolOp .And [e] pos) Q := fun A F s ok G Fs => BoolOp_one (h A F s ok G Fs)
theorem Ev.and {e₁ e₂ rest pos Q} (h : Ev g env own n ρ μ e₁ fun d μ₁ => ∃ b, d = .bool b ∧ (b = true → Ev g env own n ρ μ₁ (.BoolOp .And (e₂ :: rest) pos) Q) ∧ (b = false → Q (.bool false) μ₁)) :
    Ev g env own n ρ μ (.BoolOp .And (e₁ :: e₂ :: rest) pos) Q := fun A F s ok G Fs =>
  BoolOp_and (wp_seq h ok G Fs fun v d μ₁ F₁ s₁ t₁ G₁ Fs₁ sv ⟨b, hd, h1, h2⟩ => by
    subst hd
    obtain rfl := Sees.boolI sv
    refine wpAny_mono (show wpAny _ _ (truthy (.bool b)) (fun c s₂ => c = b ∧ s₂ = s₁) _ _ from wpAny_pure ⟨rfl, rfl⟩) ?_ fun _ _ x => x
    rintro c s₂ ⟨e1, e2⟩
    subst e1 e2
    cases c with
    | true => exact post_weak t₁ (h1 rfl A F₁ s₂ ok G₁ Fs₁)
    | false => exact ⟨_, μ₁, F₁, t₁, G₁, .bool _, h2 rfl⟩)
end
def numB (b : Bool) : Int := if b = true then 1 else 0
theorem LtOk.bb {a b : Bool} : LtOk (.bool a) (.bool b) (decide (numB a < numB b)) := fun g n μ Q h A F s va vb ok G sa sb => by
  obtain rfl := Sees.boolI sa; obtain rfl := Sees.boolI sb
  exact lt_bool (EvPost.here G rfl rfl rfl (.bool _) h)

open PySem PySem.W PySem.Calls PyProof.Rows
set_option maxRecDepth 20000
theorem sees_of_ints {F : FM} {vs : List Value} {ns : List Int} (h : IntsAre vs ns) : SeesAll F vs (ns.map .int) := by
  induction h with
  | nil => exact .nil
  | cons x t _ ih => exact .cons (.int x t) ih
section
variable {g : G} {env : Env} {own : List Addr} {n : Nat} {ρ : Str → Option D} {μ : Mu}
theorem Calls.sortedInts {x : D} {ns : List Int} {Q} (hx : Rd μ x (ns.map .int)) (h64 : ns.length < 64) (h : ∀ ns' : List Int, ns'.Perm ns → ns'.Pairwise (· ≤ ·) → Q (.lst (ns'.map .int)) μ) : Calls g n (.val (.builtin "sorted")) [x] [] μ Q :=
  Calls.of1 fun A F s fv va ok G sf sa => by
    obtain rfl := Sees.valI sf
    obtain ⟨a, vs, rfl, hL, sds⟩ := hx.isList G sa
    have hz : vs.toList.length = ns.length := by have := sds.length; simpa using this
    refine sorted_ints (vs := vs.toList) (by simpa using hL) (intsAre_of sds) (by lia) fun out ns' a1 a2 a3 => ?_
    obtain ⟨e, he⟩ := sortedAll_at s.heap vs.toList out
    exact EvPost.keepNew (tk := s.toks) G (fun _ _ => sortedAll_old) he (none_ge (Nat.le_succ _)) (sees_of_ints a1) (h ns' a2 a3)
end

open PySem PySem.W PySem.Calls PyProof.Rows
set_option maxRecDepth 20000

/-- what an exception's flight leaves: all but the frames' own objects, as the heap B holds it -/
def Cov (g : G) (B : Heap) (μ' : Mu) (F' : FM) (s s' : Shared) : Prop :=
  (∀ a o, F' a = some o → B.get? a = some o) ∧ (∀ a o, a ∈ μ'.dom ∨ a ∈ g.tabDom → s'.heap.get? a = some o → B.get? a = some o) ∧
  (∀ b o, (∃ o₀, s.heap.get? b = some o₀) → s'.heap.get? b = some o → ¬ IsNs o → B.get? b = some o)
inductive ErrPost (g : G) (mt : List Addr) (msg : Str) (μ : Mu) (s : Shared) (F : FM) (P : Mu → Prop) (e : Value) (s' : Shared) : Prop
  | mk (ea ta : Addr) (tk : Tok) (B : Heap) (μ' : Mu) (F' : FM) (he : e = .ref ea) (fl : Heap.FlyingW B g.stk ea (.type "ValueError") (.ref ta) s'.heap) (tu : s'.heap.TupAt ta [.str msg tk] ∧ B.get? ta = none) (t : Tr g mt μ μ' F F' s s') (G : GSt g μ' F' s'.heap) (c : Cov g B μ' F' s s') (p : P μ')
inductive MadePost (g : G) (mt : List Addr) (msg : Str) (μ : Mu) (s : Shared) (F : FM) (P : Mu → Prop) (e : Value) (s' : Shared) : Prop
  | mk (ea : Addr) (tk : Tok) (μ' : Mu) (F' : FM) (h0 : Heap) (he : e = .ref ea) (m : Heap.MadeExcOf h0 s'.heap ea (.type "ValueError") [.str msg tk]) (t : Tr g mt μ μ' F F' s { s' with heap := h0 }) (G : GSt g μ' F' h0) (p : P μ')
def RPost (g : G) (mt : List Addr) (msg : Str) (μ : Mu) (s : Shared) (F : FM) (P : Mu → Prop) (e : Value) (s' : Shared) : Prop :=
  ErrPost g mt msg μ s F P e s' ∨ MadePost g mt msg μ s F P e s'

theorem GSt.slots {g : G} {μ F h h'} (G : GSt g μ F h) (hF : ∀ a o, F a = some o → h'.get? a = some o) (hm : ∀ a o, a ∈ μ.dom ∨ a ∈ g.tabDom → h.get? a = some o → h'.get? a = some o) (hn : ∀ a m, h.Ns a m → h'.Ns a m) : GSt g μ F h' :=
  ⟨G.base, hF, fun q hq => (by obtain ⟨a, ps, b, c, d⟩ := G.tb q hq; exact ⟨a, ps, hm _ _ (.inr (List.mem_map_of_mem (f := (·.2.1)) hq)) b, c, d⟩),
    fun p hp => (by obtain ⟨a, b⟩ := G.mu p hp; exact ⟨a, b.move (fun _ _ x => x) fun o e => hm _ _ (.inl (List.mem_map_of_mem (f := (·.1)) hp)) e⟩), G.nd, G.fzc, G.dj,
    fun x hx => (by obtain ⟨hk, L, m, hf, hn', hF', hm'⟩ := G.stk x hx; exact ⟨hk, L, m, hf, hn _ _ hn', hF', hm'⟩)⟩

theorem GSt.domLive {g : G} {μ F h} (G : GSt g μ F h) {a} (ha : a ∈ μ.dom ∨ a ∈ g.tabDom) : ∃ o, h.get? a = some o := by
  rcases ha with ha | ha
  · obtain ⟨p, hp, rfl⟩ := List.mem_map.mp ha; exact (G.mu p hp).2.live
  · obtain ⟨q, hq, rfl⟩ := List.mem_map.mp ha; obtain ⟨_, ps, b, _⟩ := G.tb q hq; exact ⟨_, b⟩

theorem IsNs.slots {o : Obj} {sl} (h : IsNs o) : IsNs { o with slots := sl } := h
theorem not_fields {o : Obj} (h : IsNs o) : ∀ vs, o.data ≠ .fields vs := fun vs q => by obtain ⟨es, ep, z⟩ := h; rw [q] at z; cases z

theorem err_step {g : G} {mt μ μ' F F' s s' B h'} (t : Tr g mt μ μ' F F' s s') (G : GSt g μ' F' s'.heap) (c : Cov g B μ' F' s s') (st : B.StaysIn h') (up : s'.heap.UpToSlots h') :
    Tr g mt μ μ' F F' s { s' with heap := h' } ∧ GSt g μ' F' h' ∧ Cov g B μ' F' s { s' with heap := h' } := by
  have go : ∀ b, (∃ o, s.heap.get? b = some o) → ∀ o', s'.heap.get? b = some o' → ∃ o'', h'.get? b = some o'' ∧ Up o' o'' := fun b hb o' e' => by
    by_cases hn : IsNs o'
    · obtain ⟨sl, hs⟩ := up b o' e' (not_fields hn); exact ⟨_, hs, .slots hn sl⟩
    · exact ⟨o', st _ _ (c.2.2 b o' hb e' hn), .refl o'⟩
  refine ⟨{ t with ext := fun b o e h1 h2 h3 => ?_, live := fun b o e => ?_ }, G.slots (fun a o e => st _ _ (c.1 a o e)) (fun a o ha e => st _ _ (c.2.1 a o ha e)) (fun a m hm => up.ns hm), c.1, fun a o ha e => ?_, fun b o hb e hn => ?_⟩
  · obtain ⟨o', e', u⟩ := t.ext b o e h1 h2 h3
    obtain ⟨o'', e'', u'⟩ := go b ⟨o, e⟩ o' e'
    exact ⟨o'', e'', u.trans u'⟩
  · obtain ⟨o', e'⟩ := t.live b o e
    obtain ⟨o'', e'', _⟩ := go b ⟨o, e⟩ o' e'
    exact ⟨o'', e''⟩
  · obtain ⟨o', e'⟩ := G.domLive ha
    have hB := c.2.1 a o' ha e'
    have := st _ _ hB
    rw [show h'.get? a = some o from e] at this
    cases this; exact hB
  · obtain ⟨o₀, e₀⟩ := hb
    obtain ⟨o', e'⟩ := t.live b o₀ e₀
    by_cases hn' : IsNs o'
    · obtain ⟨sl, hs⟩ := up b o' e' (not_fields hn')
      rw [show h'.get? b = some o from e] at hs
      cases hs; exact absurd hn'.slots hn
    · have hB := c.2.2 b o' ⟨o₀, e₀⟩ e' hn'
      have := st _ _ hB
      rw [show h'.get? b = some o from e] at this
      cases this; exact hB

theorem funFrames_of {μ F h} {as : List Addr} : ∀ {l : List Env}, (∀ e ∈ l, FrL e μ F h) → (∀ e ∈ l, ∀ a, e.frame = some a → a ∈ as) → h.FunFrames (hideAll h as) l
  | [], _, _ => trivial
  | e :: l, H, K => by
    obtain ⟨hk, L, m, hf, ⟨o, es, ep, ho, hd, _⟩, _⟩ := H e (.head _)
    exact ⟨hk, ⟨L, o, hf, hideAll_none _ (K e (.head _) L hf), ho, fun vs q => by rw [hd] at q; cases q⟩, funFrames_of (fun e' he => H e' (.tail _ he)) fun e' he => K e' (.tail _ he)⟩

section
variable {g : G} {env : Env} {own : List Addr} {n : Nat} {ρ : Str → Option D} {μ : Mu}

theorem ErrPost.trans {mt μ₁ s s₁ F F₁ msg P e s'} (t : Tr g mt μ μ₁ F F₁ s s₁) (h : ErrPost g mt msg μ₁ s₁ F₁ P e s') : ErrPost g mt msg μ s F P e s' :=
  let ⟨ea, ta, tk, B, μ', F', e, fl, tp, t', G, c, p⟩ := h
  ⟨ea, ta, tk, B, μ', F', e, fl, tp, t.trans t', G, ⟨c.1, c.2.1, (by rintro b o ⟨o₀, e₀⟩; exact c.2.2 b o (t.live b o₀ e₀))⟩, p⟩
theorem RPost.trans {mt μ₁ s s₁ F F₁ msg P e s'} (t : Tr g mt μ μ₁ F F₁ s s₁) (h : RPost g mt msg μ₁ s₁ F₁ P e s') : RPost g mt msg μ s F P e s' :=
  h.imp (·.trans t) (by rintro ⟨ea, tk, μ', F', h0, e, m, t', G, p⟩; exact ⟨ea, tk, μ', F', h0, e, m, t.trans t', G, p⟩)
theorem RPost.toOwn {mt s F msg P e s'} (h : RPost g [] msg μ s F P e s') : RPost g mt msg μ s F P e s' :=
  h.imp ((by rintro ⟨ea, ta, tk, B, μ', F', e, fl, tp, t', G, c, p⟩; exact ⟨ea, ta, tk, B, μ', F', e, fl, tp, t'.toOwn, G, c, p⟩)) (by rintro ⟨ea, tk, μ', F', h0, e, m, t', G, p⟩; exact ⟨ea, tk, μ', F', h0, e, m, t'.toOwn, G, p⟩)

theorem leave {M : Model} {A : Around} {E : Value → Shared → Prop} {mt s F msg P e s'} (hfr : A.frames = some (env :: g.stk)) (fresh : ∀ a ∈ mt, s.heap.get? a = none) (r : RPost (g.push env) mt msg μ s F P e s') :
    wpAny M A (leaving env e) (fun _ s'' => ErrPost g [] msg μ s F P e s'') E s' := by
  have down : ∀ {μ' F' s''}, Tr (g.push env) mt μ μ' F F' s s'' → Tr g [] μ μ' F F' s s'' := fun t => t.pop_frame.mtLe fun a ha => .inr (fresh a ha)
  rcases r with ⟨ea, ta, tk, B, μ', F', rfl, fl, tp, t, G, c, p⟩ | ⟨ea, tk, μ', F', h0, rfl, m, t, G, p⟩
  · obtain ⟨L, hf⟩ : ∃ L, env.frame = some L := by obtain ⟨_, _, ⟨_, ⟨L, _, hf, _⟩, _⟩, _⟩ := fl; exact ⟨L, hf⟩
    refine wpAny_leaves_onW hfr hf fl fun h' fl' up => ?_
    obtain ⟨t', G', c'⟩ := err_step t G c fl'.1 up
    exact ⟨ea, ta, tk, B, μ', F', rfl, fl', ⟨tp.1.of_slots up, tp.2⟩, down t', G'.pop_frame, c', p⟩
  · obtain ⟨_, L, _, hf, _⟩ := G.stk env (.head _)
    have inn : ∀ e ∈ env :: g.stk, ∀ a, e.frame = some a → a ∈ (env :: g.stk).filterMap (·.frame) := fun e he a ha => List.mem_filterMap.mpr ⟨e, he, ha⟩
    have out : ∀ a, a ∈ (env :: g.stk).filterMap (·.frame) → (∃ m, h0.Ns a m) ∧ F' a = none ∧ a ∉ μ'.dom := fun a ha => by
      obtain ⟨e, he, hf⟩ := List.mem_filterMap.mp ha
      obtain ⟨_, L, m, hf', hn, h1, h2⟩ := G.stk e he
      rw [hf] at hf'; cases hf'; exact ⟨⟨m, hn⟩, h1, h2⟩
    have c : Cov (g.push env) (hideAll h0 ((env :: g.stk).filterMap (·.frame))) μ' F' s { s' with heap := h0 } := by
      refine ⟨fun a o e => hideAll_get _ (G.fz a o e) fun q => ?_, fun a o ha e => hideAll_get _ e fun q => ?_, fun b o hb e hn => hideAll_get _ e fun q => ?_⟩
      · rw [(out a q).2.1] at e; cases e
      · rcases ha with ha | ha
        · exact (out a q).2.2 ha
        · obtain ⟨m, hm⟩ := (out a q).1; exact G.nsTab hm ha
      · obtain ⟨m, o', es, ep, ho, hd, _⟩ := (out b q).1
        rw [show h0.get? b = some o from e] at ho; cases ho; exact hn ⟨es, ep, hd⟩
    refine wpAny_leaves_madeW (h := h0) hfr hf (fun b o q => of_hideAll _ q) (funFrames_of (μ := μ') (F := F') G.stk inn) m fun h' t' fl tup tn up => ?_
    obtain ⟨t'', G', c'⟩ := err_step (s' := { s' with heap := h0 }) (h' := h') t G c fl.1 ((Heap.UpToSlots.of_keeps m.keeps).trans up)
    exact ⟨ea, t', tk, _, μ', F', rfl, fl, ⟨tup, tn⟩, down t'', G'.pop_frame, c', p⟩

variable (g env own n ρ μ)
def RaisesE (e : Expr) (msg : Str) (P : Mu → Prop) : Prop :=
  ∀ A F s, Ok g n A → GSt g μ F s.heap → FSt env own ρ μ F s.heap → wpAny (model g.prog g.w) A (eval e env) (fun _ _ => False) (ErrPost g [] msg μ s F P) s
def Raises (ss : List Stmt) (msg : Str) (P : Mu → Prop) : Prop :=
  ∀ A F s, Ok g n A → GSt g μ F s.heap → FSt env own ρ μ F s.heap → wpAny (model g.prog g.w) A (execs ss env) (fun _ _ => False) (RPost g own msg μ s F P) s
def Raises1 (st : Stmt) (msg : Str) (P : Mu → Prop) : Prop :=
  ∀ A F s, Ok g n A → GSt g μ F s.heap → FSt env own ρ μ F s.heap → wpAny (model g.prog g.w) A (exec st env) (fun _ _ => False) (RPost g own msg μ s F P) s
def CallsR (f : D) (args : List D) (kws : List (Str × D)) (msg : Str) (P : Mu → Prop) : Prop :=
  ∀ A F s fv vs kvs, Ok g n A → GSt g μ F s.heap → Sees F fv f → SeesAll F vs args → SeesAll F (kvs.map (·.2)) (kws.map (·.2)) → kvs.map (·.1) = kws.map (·.1) →
    wpAny (model g.prog g.w) A (call fv vs kvs) (fun _ _ => False) (ErrPost g [] msg μ s F P) s
variable {g env own n ρ μ}

theorem Raises.here {st rest msg P} (h : Raises1 g env own n ρ μ st msg P) : Raises g env own n ρ μ (st :: rest) msg P := fun A F s ok G Fs =>
  wpAny_execs_cons (wpAny_mono (h A F s ok G Fs) (fun _ _ x => x.elim) fun _ _ x => x)
theorem Raises1.ite {t b o pos msg P} (h : Et g env own n ρ μ t fun c μ₁ => (c = true → Raises g env own n ρ μ₁ b msg P) ∧ (c = false → Raises g env own n ρ μ₁ o msg P)) : Raises1 g env own n ρ μ (.If t b o pos) msg P := fun A F s ok G Fs =>
  wpAny_If (wt_seq h ok G Fs fun c μ₁ F₁ s₁ t₁ G₁ Fs₁ h₁ => by
    cases c with
    | true => exact wpAny_mono (h₁.1 rfl A F₁ s₁ ok G₁ Fs₁) (fun _ _ x => x.elim) fun _ _ x => x.trans t₁.toOwn
    | false => exact wpAny_mono (h₁.2 rfl A F₁ s₁ ok G₁ Fs₁) (fun _ _ x => x.elim) fun _ _ x => x.trans t₁.toOwn)
theorem Raises1.assign {x p e pos msg P} (h : RaisesE g env own n ρ μ e msg P) (hs : swapsWith e (some (.Name x p)) pos.line env = pure false := by rfl) : Raises1 g env own n ρ μ (.Assign [.Name x p] e pos) msg P := fun A F s ok G Fs =>
  wpAny_Assign_Name (hs := hs) (wpAny_mono (h A F s ok G Fs) (fun _ _ x => x.elim) fun _ _ x => RPost.toOwn (.inl x))
theorem Raises1.expr {e pos msg P} (h : RaisesE g env own n ρ μ e msg P) (hs : swapsWith e none pos.line env = pure false := by rfl) : Raises1 g env own n ρ μ (.Expr e pos) msg P := fun A F s ok G Fs =>
  wpAny_Expr (hs := hs) (hi := by unfold interactive; rw [Fs.ok.kind]; rfl) (wpAny_mono (h A F s ok G Fs) (fun _ _ x => x.elim) fun _ _ x => RPost.toOwn (.inl x))
theorem Raises1.ret {e pos msg P} (h : RaisesE g env own n ρ μ e msg P) : Raises1 g env own n ρ μ (.Return (some e) pos) msg P := fun A F s ok G Fs =>
  wpAny_Return_some (wpAny_mono (h A F s ok G Fs) (fun _ _ x => x.elim) fun _ _ x => RPost.toOwn (.inl x))
theorem RaisesE.call {func args kws pos msg P} (h : Ev g env own n ρ μ func fun f μ₁ => KeepD g f ∧ EvL g env own n ρ args μ₁ fun ds μ₂ => EvK g env own n ρ kws μ₂ fun ks μ₃ => CallsR g n μ₃ f ds ks msg P)
    (he : eval (.Call func args kws pos) env = (do callWith pos (← eval func env) [] (backTo pos (starEach args env)) (backToKw pos (keywordEach kws env))) := by rfl)
    (hp : args.all plainE = true := by rfl) (hs : kws.all (·.arg.isSome) = true := by rfl) : RaisesE g env own n ρ μ (.Call func args kws pos) msg P := fun A F s ok G Fs => by
  rw [he]
  exact wpAny_bind (wp_seq h ok G Fs fun fv f μ₁ F₁ s₁ t₁ G₁ Fs₁ sf h₁ => callWith_P h₁.1 hp hs ok G₁ Fs₁ sf h₁.2 fun vs kvs ds ks μ₂ F₂ s₂ t G₂ Fs₂ sf₂ sds sks hn hc =>
    wpAny_mono (hc A F₂ s₂ fv vs kvs ok G₂ sf₂ sds sks hn) (fun _ _ x => x) fun _ _ x => x.trans (t₁.trans t))
theorem Raises1.raise {np cpos pos cp msg k} {P : Mu → Prop} (hx : env.kindOf "ValueError" = some .globalImplicit) (e : nsIn g.K mainGlobals "ValueError" = some none) (h : P μ) :
    Raises1 g env own n ρ μ (.Raise (some (.Call (.Name "ValueError" np) [.Constant (.str msg) k cp] [] cpos)) none pos) msg P := fun A F s ok G Fs => by
  refine Raise_madeB PySem.F.excCall_ValueError PySem.F.excRaise_ValueError ok.hand ?_
  refine Name_function_global Fs.ok.kind hx (loadGlobal_builtin (by rw [Fs.ok.glob]; exact g.T.g.keeps G.keep) (mg_none_of g.X g.T.g e) (by rw [Fs.ok.blt]; exact g.T.b.keeps G.keep) ((g.T.builtins _ (by decide)).trans PyProof.Rows.Boot.«ValueError») ⟨rfl, ?_⟩) (by decide)
  refine wpAny_items_cons (wpAny_Constant_str (wpAny_items_nil ⟨by show 1 ≤ sizeLine; decide, fun h' ea hm => ?_⟩))
  exact .inr ⟨ea, _, μ, F, s.heap, rfl, hm.of, Tr.of_ext (fun _ _ e => e) rfl rfl, G, h⟩
end

open PySem PySem.W PySem.Calls PyProof.Rows
set_option maxRecDepth 20000
section
variable {g : G} {env : Env} {own : List Addr} {n : Nat} {ρ : Str → Option D} {μ : Mu}
theorem CallsR.enter {fa : Addr} {fo : Obj} {fd : FuncData} {body : List Stmt} {args kws bd msg P} (hK : g.K.lookup fa = some fo) (hfo : fo.data = .func fd) (hbody : fd.body = .stmts body) (hclo : fd.closure = [])
    (hglob : fd.globals = mainGlobals) (hblt : fd.builtins = builtinsNs) (hcode : codeIn g.K fd.code fd.qualname = true) (hco : fd.scope.isCoroutine = false) (hgen : fd.scope.isGenerator = false) (hk : fd.scope.kind = .function)
    (hb : Binds g fd args kws bd) {nm : List Str} (hnm : bd.map (·.1) = nm)
    (hnames : (nm.all fun y => fd.scope.names.lookup y == some .local || fd.scope.names.lookup y == some .cell) = true) (hnd : nm.Nodup)
    (hcn : ((cellsFrom 0 fd.scope.names []).map (·.1)).Nodup)
    (h : ∀ env own L, env = callEnvC fd L fa → own = ownOf fd L → Raises (g.push env) env own n (rho bd) μ body msg P) : CallsR g (n + 1) μ (.val (.ref fa)) args kws msg P := fun A F s fv vs kvs ok G sf sa sk hkn => by
  obtain rfl := Sees.valI sf
  subst hnm
  have hX : g.K.In s.heap := g.X.keeps G.keep
  obtain ⟨bs, hbs, sb⟩ := hb F s vs kvs hX sa sk hkn
  have hbn := sb.names
  refine wpAny_call (codeAny_call_function ok.room (hX _ _ hK) hfo hco hgen hbody (codeRec_of hX hcode) ?_)
  rw [hclo]
  have hlook : ∀ x v, (x, v) ∈ bs → fd.scope.names.lookup x = some .local ∨ fd.scope.names.lookup x = some .cell := fun x v hx => by
    have : x ∈ bd.map (·.1) := hbn ▸ List.mem_map.mpr ⟨_, hx, rfl⟩
    obtain ⟨y, hy, rfl⟩ := List.mem_map.mp this
    have := List.all_eq_true.mp hnames _ (List.mem_map_of_mem hy)
    rcases Bool.or_eq_true_iff.mp this with q | q
    · exact .inl (by simpa using q)
    · exact .inr (by simpa using q)
  refine hbs _ _ _ _ (wpAny_newFunctionEnv_cells hk (fun x hx => ?_) fun env' he s₁ x => ?_)
  · rcases hlook _ _ hx with q | q
    · exact .inl q
    · exact .inr ⟨q, cellsFrom_some _ _ _ (.inl q)⟩
  have hE : env' = callEnvC fd s.heap.objs.size fa := he
  subst hE
  refine ⟨(g.T.nolimit.keeps fun b o e => x.toInCall.keep b o (G.keep b o e)), codeAny_func ?_⟩
  obtain ⟨h₁, tk, rfl, _⟩ := x.done
  have kp := x.toInCall.keep
  have hG : GSt g μ F h₁ := G.ext kp
  have hsz : ∀ a o, s.heap.get? a = some o → a < s.heap.objs.size := fun a o e => Heap.lt_size e
  have hno : ∀ a ∈ ownOf fd s.heap.objs.size, s.heap.get? a = none := fun a ha => by
    cases hq : s.heap.get? a with
    | none => rfl
    | some o =>
      have hlt := hsz _ _ hq
      cases ha with
      | head => exact absurd hlt (Nat.lt_irrefl _)
      | tail _ ha =>
        obtain ⟨p, hp, rfl⟩ := List.mem_map.mp ha
        have := x.above p.1 p.2 hp
        exact absurd (Nat.lt_trans this hlt) (Nat.lt_irrefl _)
  have hnl : ∀ x c, (x, c) ∈ (callEnvC fd s.heap.objs.size fa).cells → (callEnvC fd s.heap.objs.size fa).cells.lookup x = some c := fun y c hm =>
    lookup_of_mem_nodup (cellsFrom_names fd.scope.names 0 (s.heap.objs.size + 1) [] [] rfl ▸ hcn) hm
  have hFs : FSt (callEnvC fd s.heap.objs.size fa) (ownOf fd s.heap.objs.size) (rho bd) μ F h₁ := by
    refine ⟨⟨hk, hglob, hblt, .head _, kw_lookup_nodup x.apart⟩, ⟨_, x.toInCall.ns⟩, fun y d e => ?_, fun p hp => ⟨_, x.cell _ _ (hnl p.1 p.2 hp)⟩, fun a ha => ?_, fun a ha => ?_, fun a ha q => ?_⟩
    · obtain ⟨v, hv, sv⟩ := sb.get e
      refine ⟨v, ?_, sv⟩
      rcases hlook _ _ hv with q | q
      · exact .inl ⟨q, _, x.toInCall.ns, bindL_get _ _ hv (hbn ▸ hnd) q⟩
      · have hs := cellsFrom_some (x := y) fd.scope.names (s.heap.objs.size + 1) [] (.inl q)
        obtain ⟨c, hc⟩ := Option.isSome_iff_exists.mp hs
        refine .inr ⟨.inl q, c, hc, ?_⟩
        have := x.cell y c hc
        rwa [bindC_get _ _ hv (hbn ▸ hnd) (by show fd.scope.names.lookup y ≠ _; rw [q]; decide)] at this
    · cases hq : F a with
      | none => rfl
      | some o => have := G.fz _ _ hq; rw [hno a ha] at this; cases this
    · cases ha with
      | head => obtain ⟨o, _, _, e, _⟩ := x.toInCall.ns; exact ⟨o, e⟩
      | tail _ ha => obtain ⟨p, hp, rfl⟩ := List.mem_map.mp ha; obtain ⟨o, e, _⟩ := x.cell _ _ (hnl p.1 p.2 hp); exact ⟨o, e⟩
    · obtain ⟨p, hp, rfl⟩ := List.mem_map.mp q
      obtain ⟨_, b⟩ := G.mu p hp
      obtain ⟨o, e1⟩ := b.live
      rw [hno _ ha] at e1; cases e1
  have hfr : FrL (callEnvC fd s.heap.objs.size fa) μ F h₁ := ⟨by show fd.scope.kind ≠ _; rw [hk]; decide, s.heap.objs.size, _, rfl, x.toInCall.ns, hFs.ownF _ (.head _), hFs.muo _ (.head _)⟩
  have t0 : Tr g (ownOf fd s.heap.objs.size) μ μ F F s { s with heap := h₁, toks := tk } := Tr.of_ext kp rfl rfl
  refine wpAny_mono (h _ _ _ rfl rfl _ F { s with heap := h₁, toks := tk } (Ok.deeper ok) (hG.push_frame hfr) hFs) (fun _ _ x => x.elim) fun e s₂ r => ?_
  exact leave (Ok.deeper (env := callEnvC fd s.heap.objs.size fa) ok).frames hno (r.trans t0.push_frame)
/-- a lambda called -/
theorem CallsR.clo {qual : Str} {params : Arguments} {body : Expr} {scope : Scope} {cdv : Value} {caps : List (Str × D)} {args : List D} {nm : List Str} {msg P}
    (hb : ∀ name cl pm ct (vs : List Value), vs.length = args.length → bindArgs (kla_fn name qual params body scope cl pm cdv ct) ⟨vs, []⟩ = pure (nm.zip vs))
    (hloc : ∀ y ∈ nm, scope.names.lookup y = some .local) (hnd : nm.Nodup) (hfree : ∀ p ∈ caps, scope.names.lookup p.1 = some .free)
    (hk : scope.kind = .function) (hco : scope.isCoroutine = false) (hgen : scope.isGenerator = false) (hcell : ∀ x ∈ scope.names, x.2 ≠ .cell)
    (h : ∀ env L f cl, env = envX qual scope L f cdv cl → RaisesE (g.push env) env [L] n (rho (nm.zip args ++ caps)) μ body msg P) : CallsR g (n + 1) μ (.clo qual params body scope cdv caps) args [] msg P :=
  fun A F s fv vs kvs ok G sf sa sk hkn => by
    obtain rfl : kvs = [] := by simpa using hkn
    obtain @⟨a, o, name, cl, pm, ct, hF, hd, hc, sc, hcn⟩ := Sees.cloI sf
    have ho := G.fz _ _ hF
    refine wpAny_call (kla_callFunE ok.room ho hd hco hgen rfl (hc.codeRec G.fz) ?_)
    rw [hb _ _ _ _ vs sa.length]
    have hvl : ∀ x v, (x, v) ∈ nm.zip vs → x ∈ nm := fun x v hx => List.of_mem_zip hx |>.1
    refine wpAny_pure (wpAny_newFunctionEnv hcell (fun x hx => hloc _ (hvl x.1 x.2 hx)) (fun h₁ hns hsb => ?_) hk)
    have kp : ∀ b o, s.heap.get? b = some o → h₁.get? b = some o := fun b o e => hsb.extBut b o (Nat.ne_of_lt (Heap.lt_size e)) (Heap.get?_push_of_some _ e)
    refine ⟨g.T.nolimit.keeps fun b o e => kp b o (G.keep b o e), kla_codeExpr ?_⟩
    have hG : GSt g μ F h₁ := G.ext kp
    have hno : s.heap.get? s.heap.objs.size = none := none_ge (Nat.le_refl _)
    have fr := G.fresh hno
    have hFs : FSt (envX qual scope s.heap.objs.size a cdv cl) [s.heap.objs.size] (rho (nm.zip args ++ caps)) μ F h₁ := by
      refine ⟨⟨hk, rfl, rfl, .head _, hcn⟩, ⟨_, hns⟩, fun x d e => ?_, fun p hp => ?_, fun b hb => by rw [List.mem_singleton.mp hb]; exact fr.1, fun b hb => ?_, fun b hb => by rw [List.mem_singleton.mp hb]; exact fr.2.1⟩
      · unfold rho at e
        rw [lookup_app] at e
        cases h1 : (nm.zip args).lookup x with
        | some d' =>
          rw [h1] at e
          cases e
          obtain ⟨v, hv, sv⟩ := zip_see sa h1
          refine ⟨v, .inl ⟨hloc _ (hvl _ _ hv), _, hns, ?_⟩, sv⟩
          refine lookup_of_nodup ?_ (List.mem_reverse.mpr hv)
          rw [List.map_reverse]
          refine (List.reverse_perm _).nodup_iff.mpr ?_
          exact List.Sublist.nodup (zip_fst_sub _ _) hnd
        | none =>
          rw [h1] at e
          have e : caps.lookup x = some d := e
          obtain ⟨c, v, h1, ⟨o', h2, h3⟩, sv⟩ := sc.get e
          exact ⟨v, .inr ⟨.inr (hfree _ (lookup_mem e)), c, h1, o', hG.fz _ _ h2, h3⟩, sv⟩
      · obtain ⟨o', v, h2, h3⟩ := sc.cell p hp
        exact ⟨_, o', hG.fz _ _ h2, h3⟩
      · rw [List.mem_singleton.mp hb]; obtain ⟨o', _, _, e, _⟩ := hns; exact ⟨o', e⟩
    have hfr : FrL (envX qual scope s.heap.objs.size a cdv cl) μ F h₁ := ⟨by show scope.kind ≠ _; rw [hk]; decide, s.heap.objs.size, _, rfl, hns, fr.1, fr.2.1⟩
    have t0 : Tr g [] μ μ F F s { s with heap := h₁, toks := s.toks + (nm.zip vs).length } := Tr.of_ext kp rfl rfl
    refine wpAny_mono (h _ _ _ _ rfl _ F { s with heap := h₁, toks := s.toks + (nm.zip vs).length } (Ok.deeper ok) (hG.push_frame hfr) hFs) (fun _ _ x => x.elim) fun e s₂ r => ?_
    exact leave (Ok.deeper (env := envX qual scope s.heap.objs.size a cdv cl) ok).frames (fun _ h => absurd h (by simp)) (.inl (r.trans t0.push_frame))
end

open PySem PySem.W PySem.Calls PyProof.Rows
set_option maxRecDepth 20000
def OkM (g : G) (n : Nat) (A : Around) : Prop := A.depth + n ≤ 990 ∧ A.units + 8 * n ≤ 9800 ∧ A.frames = some g.stk
def forget (x : Str) (ρ : Str → Option D) : Str → Option D := fun y => if y = x then none else ρ y
section
variable {g : G} {env : Env} {own : List Addr} {n : Nat} {ρ : Str → Option D} {μ : Mu}

set_option tactic.hygienic true in
/-- the name of an exception goes -/
theorem st_forget {A : Around} {F : FM} {s : Shared} {x : Str} {pos : Pos} {Q : Unit → Shared → Prop} {E : Value → Shared → Prop} (G : GSt g μ F s.heap) (Fs : FSt env own ρ μ F s.heap) (hk : env.kindOf x = some .local)
    (h : ∀ s', Tr g own μ μ F F s s' → GSt g μ F s'.heap → FSt env own (forget x ρ) μ F s'.heap → Q () s') : wpAny (model g.prog g.w) A (do bindName env x .none; unbindBehindTheSuite env x pos) Q E s := by
  obtain ⟨m, hm⟩ := Fs.ns
  refine wpAny_nameGoes_keeps hk hm (by rw [Fs.ok.kind]; rfl) fun h' v hn sb => h _ ?_ ?_ ?_
  · exact ⟨fun b o e h1 _ _ => ⟨o, (sb.2 b (fun z => h1 (z ▸ Fs.ok.lown))).trans e, .refl o⟩, fun b o e => by
      by_cases hb : b = env.locals
      · subst hb; obtain ⟨o', _, _, e', _⟩ := hn; exact ⟨o', e'⟩
      · exact ⟨o, (sb.2 b hb).trans e⟩, fun _ _ e => e, (Tr.refl (g := g) (mt := own) (μ := μ) (s := s)).fr, fun _ q => .inl q, rfl, rfl⟩
  · exact G.at sb (Fs.ownF _ Fs.ok.lown) (Fs.muo _ Fs.ok.lown) (G.nsTab hm) fun _ _ _ => ⟨_, hn⟩
  · refine ⟨Fs.ok, ⟨_, hn⟩, fun y d' e => ?_, fun p hp => ?_, Fs.ownF, fun a ha => ?_, Fs.muo⟩
    · unfold forget at e
      split at e
      · cases e
      · rename_i hy
        obtain ⟨v', hv', hs'⟩ := Fs.vars y d' e
        refine ⟨v', ?_, hs'⟩
        rcases hv' with ⟨k', m', hm', e'⟩ | ⟨k', c', hc', hcell⟩
        · refine .inl ⟨k', _, hn, ?_⟩
          simp only [hy, if_false]
          obtain ⟨o1, es1, ep1, f1, f2, f3, f4⟩ := hm
          obtain ⟨o2, es2, ep2, g1, g2, g3, g4⟩ := hm'
          rw [f1] at g1; cases g1; rw [f2] at g2; cases g2
          rw [← f4 y, g4 y]; exact e'
        · refine .inr ⟨k', c', hc', hcell.sameBut sb fun z => ?_⟩
          subst z
          obtain ⟨o1, e1, d1⟩ := hcell; obtain ⟨o2, _, _, e2, d2, _⟩ := hm; rw [e1] at e2; cases e2; rw [d1] at d2; cases d2
    · obtain ⟨v', hc'⟩ := Fs.cells p hp
      refine ⟨v', hc'.sameBut sb fun z => ?_⟩
      obtain ⟨o1, e1, d1⟩ := hc'; obtain ⟨o2, _, _, e2, d2, _⟩ := hm; rw [z] at e1; rw [e1] at e2; cases e2; rw [d1] at d2; cases d2
    · by_cases hb : a = env.locals
      · subst hb; obtain ⟨o', _, _, e', _⟩ := hn; exact ⟨o', e'⟩
      · obtain ⟨o, e⟩ := Fs.live a ha; exact ⟨o, (sb.2 a hb).trans e⟩

/-- what a handler's suite does with the exception's words -/
def SuiteOk (g : G) (env : Env) (own : List Addr) (n : Nat) (x : Str) (ρ : Str → Option D) (μ : Mu) (suite : List Stmt) (msg : Str) (Q : Fl → (Str → Option D) → Mu → Prop) : Prop :=
  ∀ A F s ea ta tk, OkM g n A → GSt g μ F s.heap → FSt env own (upd ρ x (.val (.ref ea))) μ F s.heap → s.heap.ExcAt ea "ValueError" (.ref ta) → s.heap.TupAt ta [.str msg tk] →
    wpAny (model g.prog g.w) A (execs suite env) (ExPost g env own μ s F fun f ρ' μ' => Q f (forget x ρ') μ') (fun _ _ => False) s

theorem ErrPost.caught {msg P e s F s'} {b₀ : Stmt} {suite np x hp} {Q : Fl → (Str → Option D) → Mu → Prop} {A : Around} (ok : Ok (g.push env) n A) (G : GSt (g.push env) μ F s.heap) (Fs : FSt env own ρ μ F s.heap)
    (hloc : env.kindOf x = some .local) (hV : env.kindOf "ValueError" = some .globalImplicit) (isk : nsIn g.K mainGlobals "ValueError" = some none)
    (hs : ∀ μ', P μ' → SuiteOk (g.push env) env own n x ρ μ' (b₀ :: suite) msg Q) (r : ErrPost (g.push env) [] msg μ s F P e s') :
    wpAny (model g.prog g.w) A (noteFrame e env) (fun _ s₂ => wpAny (model g.prog g.w) A (setFlight e none) (fun _ s₃ => wpAny (model g.prog g.w) A
      (handleBy e env [.ExceptHandler (some (.Name "ValueError" np)) (some x) (b₀ :: suite) hp]) (ExPost (g.push env) env own μ s F Q) (fun _ _ => False) s₃) (fun _ _ => False) s₂) (fun _ _ => False) s' := by
  obtain ⟨ea, ta, tk, B, μ', F', rfl, fl, ⟨tup, tn⟩, t, G', c, p⟩ := r
  obtain ⟨L, hf⟩ : ∃ L, env.frame = some L := by obtain ⟨_, _, ⟨_, ⟨L, _, hf, _⟩, _⟩, _⟩ := fl; exact ⟨L, hf⟩
  refine wpAny_looks_onW ok.frames hf fl fun h₄ held₄ up₄ => ?_
  refine wpAny_landsW held₄ fun h₅ held up₅ => ?_
  obtain ⟨t₅, G₅, c₅⟩ := err_step t G' c held.1 (up₄.trans up₅)
  obtain ⟨ob, hob, hobc⟩ := held.there
  refine wpAny_handleBy_builtin_as (X := "ValueError") (T := "ValueError") (b := true) PySem.F.isExc_ValueError PySem.F.notTuple_ValueError (by rw [isSubtype_type]; kernel_rfl) ?_
  have Kp := G₅.keep
  refine Name_function_global Fs.ok.kind hV (loadGlobal_builtin (by rw [Fs.ok.glob]; exact g.T.g.keeps Kp) (mg_none_of g.X g.T.g isk) (by rw [Fs.ok.blt]; exact g.T.b.keeps Kp) ((g.T.builtins _ (by decide)).trans PyProof.Rows.Boot.«ValueError») ⟨rfl, ⟨ob, hob, hobc⟩, ?_⟩) (by decide)
  rw [if_pos rfl]
  refine lands_againW held fun h₆ fl₆ up₆ => ?_
  obtain ⟨t₆, G₆, c₆⟩ := err_step t₅ G₅ c₅ fl₆.1 up₆
  have Fs₆ := Fs.tr G t₆ G₆
  obtain ⟨oe, ws, hoe, hoec, hoed, hoe0⟩ := fl₆.first
  obtain ⟨ot, nt, hot, hotc, hotd⟩ := (tup.of_slots (up₄.trans up₅)).of_slots up₆
  have outs : ∀ b o, h₆.get? b = some o → ¬ IsNs o → B.get? b = none → b ∉ own ∧ b ∉ μ'.dom ∧ b ∉ g.tabDom := fun b o e hn hB => by
    refine ⟨fun q => ?_, fun q => ?_, fun q => ?_⟩
    · have := c₆.2.2 b o (Fs.live b q) e hn; rw [hB] at this; cases this
    · have := c₆.2.1 b o (.inl q) e; rw [hB] at this; cases this
    · have := c₆.2.1 b o (.inr q) e; rw [hB] at this; cases this
  obtain ⟨e1, e2, e3⟩ := outs ea oe hoe (nns hoed) fl₆.2.1
  obtain ⟨f1, f2, f3⟩ := outs ta ot hot (nnsq hotd) tn
  refine st_store (g := g.push env) (d := .val (.ref ea)) G₆ Fs₆ (.val _) (bindable_local hloc) fun s₇ t₇ G₇ Fs₇ _ => ?_
  have x1 := t₇.at (nns hoed) hoe e1 e2 e3
  have x2 := t₇.at (nnsq hotd) hot f1 f2 f3
  have okm : OkM (g.push env) n (A.mark (some (.ref ea))) := ⟨ok.1, ok.2.1, ok.frames⟩
  refine wpAny_mono (hs μ' p _ F' s₇ ea ta tk okm G₇ Fs₇ ⟨oe, ws, x1, hoec, hoed, hoe0⟩ ⟨ot, nt, x2, hotc, hotd⟩) ?_ fun _ _ x => x.elim
  rintro fl s₈ ⟨f, ρ', μ'', F'', t₈, G₈, Fs₈, sf, hq⟩
  refine st_forget (g := g.push env) G₈ Fs₈ hloc fun s₉ t₉ G₉ Fs₉ => ?_
  exact ⟨f, _, μ'', F'', ((t₆.toOwn.trans t₇).trans t₈).trans t₉, G₉, Fs₉, sf, hq⟩

theorem Ex1.tryE {e ep np x hp pos msg P} {b₀ : Stmt} {suite} {Q : Fl → (Str → Option D) → Mu → Prop} (hb : RaisesE (g.push env) env own n ρ μ e msg P) (hloc : env.kindOf x = some .local) (hV : env.kindOf "ValueError" = some .globalImplicit)
    (isk : nsIn g.K mainGlobals "ValueError" = some none) (hs : ∀ μ', P μ' → SuiteOk (g.push env) env own n x ρ μ' (b₀ :: suite) msg Q) (hsw : swapsWith e none ep.line env = pure false := by rfl) :
    Ex1 (g.push env) env own n ρ μ (.Try [.Expr e ep] [.ExceptHandler (some (.Name "ValueError" np)) (some x) (b₀ :: suite) hp] [] [] pos) Q := fun A F s ok G Fs => by
  refine wpAny_Try_except (wpAny_execs_cons (wpAny_Expr (hs := hsw) (hi := by unfold interactive; rw [Fs.ok.kind]; rfl) (wpAny_mono (hb A F s ok G Fs) (fun _ _ x => x.elim) fun e s₁ r => ?_)))
  exact r.caught ok G Fs hloc hV isk hs
/-- str of the exception -/
theorem ev_str {A : Around} {F s ea ta tk msg} {E : Value → Shared → Prop} {x np sp cp} {P : Value → Shared → Prop} (okm : OkM g n A) (hn : 1 ≤ n) (G : GSt g μ F s.heap) (Fs : FSt env own ρ μ F s.heap) (hx : env.kindOf x = some .local) (hρ : ρ x = some (.val (.ref ea)))
    (hV : env.kindOf "str" = some .globalImplicit) (isk : nsIn g.K mainGlobals "str" = some none) (he : s.heap.ExcAt ea "ValueError" (.ref ta)) (ht : s.heap.TupAt ta [.str msg tk]) (hd : (x == ("__debug__" : Str)) = false)
    (h : P (.str msg tk) s) : wpAny (model g.prog g.w) A (eval (.Call (.Name "str" sp) [.Name x np] [] cp) env) P E s := by
  have e1 : eval (.Call (.Name "str" sp) [.Name x np] [] cp) env = (do callWith cp (← eval (.Name "str" sp) env) [] (backTo cp (starEach [.Name x np] env)) (backToKw cp (keywordEach [] env))) := rfl
  rw [e1]
  refine wpAny_bind ?_
  refine Name_function_global Fs.ok.kind hV (loadGlobal_builtin (v := .type "str") (by rw [Fs.ok.glob]; exact g.T.g.keeps G.keep) (mg_none_of g.X g.T.g isk) (by rw [Fs.ok.blt]; exact g.T.b.keeps G.keep) ((g.T.builtins _ (by decide)).trans (by boot_fast)) ?_) (by decide)
  refine callWith_of (P := fun _ => True) rfl (fun h _ => ⟨.machine, .inr (.inl rfl), .now⟩) ?_
  suffices fin : wpAny (model g.prog g.w) A (spliced (backTo cp (starEach [.Name x np] env))) (fun vs s' => True ∧ wpAny (model g.prog g.w) A (call (.type "str") ([] ++ vs) []) P E s') E s from evalArgs_plain fin
  refine wpAny_items_cons ?_
  obtain ⟨v, hv, sv⟩ := Fs.vars x _ hρ
  obtain rfl := Sees.valI sv
  rcases hv with ⟨_, m, hm, e⟩ | ⟨k, _⟩
  · refine wpAny_Name (wpAny_loadName_local Fs.ok.kind hx hm e (wpAny_items_nil ⟨trivial, ?_⟩)) hd
    refine PySem.P.str_of_exc_one PySem.F.excStr_ValueError ?_ he ht h
    have := okm.2.1; unfold cLine; lia
  · rw [hx] at k; rcases k with k | k <;> cases k
theorem loc_at {A : Around} {F s x np} {v : Value} {E : Value → Shared → Prop} {P : Value → Shared → Prop} (Fs : FSt env own ρ μ F s.heap) (hx : env.kindOf x = some .local) (hρ : ρ x = some (.val v)) (hd : (x == ("__debug__" : Str)) = false)
    (h : P v s) : wpAny (model g.prog g.w) A (eval (.Name x np) env) P E s := by
  obtain ⟨v', hv, sv⟩ := Fs.vars x _ hρ
  obtain rfl := Sees.valI sv
  rcases hv with ⟨_, m, hm, e⟩ | ⟨k, _⟩
  · exact wpAny_Name (wpAny_loadName_local Fs.ok.kind hx hm e h) hd
  · rw [hx] at k; rcases k with k | k <;> cases k

theorem SuiteOk.ret {x msg np sp cp p} {Q : Fl → (Str → Option D) → Mu → Prop} (hn : 1 ≤ n) (hx : env.kindOf x = some .local) (hV : env.kindOf "str" = some .globalImplicit) (isk : nsIn g.K mainGlobals "str" = some none)
    (h : ∀ ρ', Q (.ret (.str msg)) ρ' μ) (hd : (x == ("__debug__" : Str)) = false := by decide) :
    SuiteOk g env own n x ρ μ [.Return (some (.Call (.Name "str" sp) [.Name x np] [] cp)) p] msg Q := fun A F s ea ta tk okm G Fs he ht => by
  refine wpAny_execs_cons (wpAny_Return_some ?_)
  refine ev_str okm hn G Fs hx (by simp [upd]) hV isk he ht hd ?_
  exact ⟨.ret (.str msg), _, μ, F, .refl, G, Fs, .str _ _, h _⟩

theorem SuiteOk.append {x y msg np sp cp p ap yp mp} {a : Addr} {ds : List D} {Q : Fl → (Str → Option D) → Mu → Prop} (hn : 1 ≤ n) (hx : env.kindOf x = some .local) (hy : env.kindOf y = some .local) (hV : env.kindOf "str" = some .globalImplicit) (isk : nsIn g.K mainGlobals "str" = some none)
    (hyx : y ≠ x) (hρ : ρ y = some (.val (.ref a))) (hm : (a, .ml ds) ∈ μ) (hl : ds.length ≤ 10000)
    (h : ∀ ρ', (∀ z, z ≠ x → ρ' z = ρ z) → Q .next ρ' (setMu a (.ml (ds ++ [.str msg])) μ)) (hline : (ap.endLine == cp.line) = true := by rfl)
    (hsw : swapsWith (.Call (.Attribute (.Name y yp) "append" ap) [.Call (.Name "str" sp) [.Name x np] [] mp] [] cp) none p.line env = pure false := by rfl)
    (hform : methodCallForm 1 (backTo cp (starEach [.Call (.Name "str" sp) [.Name x np] [] mp] env)) (backToKw cp (keywordEach [] env)) = true := by rfl)
    (hbase : attributeBase (.Name y yp) "append" env (eval (.Name y yp) env) = eval (.Name y yp) env := by rfl)
    (hd : (x == ("__debug__" : Str)) = false := by decide) (hd2 : (y == ("__debug__" : Str)) = false := by decide) :
    SuiteOk g env own n x ρ μ [.Expr (.Call (.Attribute (.Name y yp) "append" ap) [.Call (.Name "str" sp) [.Name x np] [] mp] [] cp) p] msg Q := fun A F s ea ta tk okm G Fs he ht => by
  refine wpAny_execs_cons (wpAny_Expr (hs := hsw) (hi := by unfold interactive; rw [Fs.ok.kind]; rfl) ?_)
  rw [arm_eval_Call, hbase]
  refine wpAny_bind (loc_at Fs hy (v := .ref a) (by rw [upd, if_neg hyx]; exact hρ) hd2 ?_)
  obtain ⟨hFa, o, ha, vs, k, rfl, sa⟩ := G.mu _ hm
  have ha : s.heap.get? a = some _ := ha
  refine wpAny_bind (wpAny_standAt ?_)
  have fin : ∀ pp : Pos, wpAny (model g.prog g.w) A (callWith pp (.builtin "list.append") [.ref a] (backTo cp (starEach [.Call (.Name "str" sp) [.Name x np] [] mp] env)) [])
      (fun v s' => match v with | .ref _ => False | _ => (match Flow.next with | .next => wpAny (model g.prog g.w) A (execs [] env) (ExPost g env own μ s F fun f ρ' μ' => Q f (forget x ρ') μ') (fun _ _ => False) s' | f => ExPost g env own μ s F (fun f ρ' μ' => Q f (forget x ρ') μ') f s')) (fun _ _ => False) s := fun pp => by
    refine callWith_builtin rfl ?_
    suffices fin : wpAny (model g.prog g.w) A (spliced (backTo cp (starEach [.Call (.Name "str" sp) [.Name x np] [] mp] env))) (fun vs s' => wpAny (model g.prog g.w) A (call (.builtin "list.append") ([.ref a] ++ vs) []) _ (fun _ _ => False) s') (fun _ _ => False) s from evalArgs_plain fin
    refine wpAny_items_cons ?_
    refine ev_str okm hn G Fs hx (by simp [upd]) hV isk he ht hd ?_
    refine wpAny_items_nil ?_
    have hz : vs.size = ds.length := sa.size
    refine call_append ha (fun h' k' eh sbt => ?_) (by unfold sizeLine; lia)
    have hx' : ∀ b o, b ≠ a → s.heap.get? b = some o → h'.get? b = some o := fun b o hb e => (sbt.2 b hb).trans e
    have km : MOk F a (.ml (ds ++ [.str msg])) { cls := .type "list", dict := Option.none, data := .seq (vs.push (.str msg tk)) k', slots := #[] } := ⟨_, _, rfl, by rw [Array.toList_push]; exact sa.append (.cons (.str msg tk) .nil)⟩
    have t : Tr g [] μ (setMu a (.ml (ds ++ [.str msg])) μ) F F s { s with heap := h' } := Tr.set hm hx' eh rfl rfl
    have G' : GSt g (setMu a (.ml (ds ++ [.str msg])) μ) F h' := G.set hm hx' eh km
    exact wpAny_execs_nil ⟨.next, _, _, F, t.toOwn, G', Fs.tr G t G', trivial, h _ fun z hz => by simp [forget, upd, hz]⟩
  have hpos : methodCallPos true (.Name y yp) env ap cp = pure cp := by unfold methodCallPos; simp [hline]
  unfold methodCall
  rw [show ([] : List Keyword).length = 0 from rfl]
  rw [show methodCallForm (List.length [Expr.Call (.Name "str" sp) [.Name x np] [] mp] + 0) (backTo cp (starEach [.Call (.Name "str" sp) [.Name x np] [] mp] env)) (backToKw cp (keywordEach [] env)) = true from hform]
  refine wpAny_bind (wpAny_holding (getMethod_builtin ⟨_, ha, rfl⟩ PySem.F.plainAttrs_list PySem.F.slot_list_append PySem.F.type_list_append (fun b e => by cases e; exact ⟨_, ha, rfl⟩) ?_))
  exact wpAny_bind (wpAny_of_eq hpos (fin cp))
end

open PySem PySem.W PySem.Calls PyProof.Rows
set_option maxRecDepth 20000
inductive ExBP (g : G) (μ₀ : Mu) (s₀ : Shared) (F₀ : FM) (Q : Fl → Mu → Prop) (fl : Flow) (s' : Shared) : Prop
  | mk (f : Fl) (μ' : Mu) (F' : FM) (t : Tr g [] μ₀ μ' F₀ F' s₀ s') (G : GSt g μ' F' s'.heap) (sf : FlSees F' fl f) (q : Q f μ')
/-- a body's statements up to the end of the call; the frame itself is of no more use then -/
def ExB (g : G) (env : Env) (own : List Addr) (n : Nat) (ρ : Str → Option D) (μ : Mu) (ss : List Stmt) (Q : Fl → Mu → Prop) : Prop :=
  ∀ A F s μ₀ F₀ s₀, Ok g n A → GSt g μ F s.heap → FSt env own ρ μ F s.heap → Tr g own μ₀ μ F₀ F s₀ s → (∀ a ∈ own, s₀.heap.get? a = none) →
    wpAny (model g.prog g.w) A (execs ss env) (ExBP g μ₀ s₀ F₀ Q) (fun _ _ => False) s
/-- a cell is stored to no more -/
abbrev G.cellF (g : G) (c : Addr) : G := { g with fcs := c :: g.fcs }
section
variable {g : G} {env : Env} {own : List Addr} {n : Nat} {ρ : Str → Option D} {μ : Mu}
theorem ExB.of {ss} {Q : Fl → Mu → Prop} (h : Ex g env own n ρ μ ss fun f _ μ' => Q f μ') : ExB g env own n ρ μ ss Q := fun A F s μ₀ F₀ s₀ ok G Fs t hno =>
  wpAny_mono (h A F s ok G Fs) ((by rintro fl s' ⟨f, ρ', μ', F', t', G', Fs', sf, hq⟩; exact ⟨f, μ', F', (t.trans t').mtLe fun a ha => .inr (hno a ha), G', sf, hq⟩)) fun _ _ x => x
theorem ExB.cons {st rest} {Q : Fl → Mu → Prop} (h : Ex1 g env own n ρ μ st fun f ρ₁ μ₁ => (f = .next → ExB g env own n ρ₁ μ₁ rest Q) ∧ (f ≠ .next → Q f μ₁)) : ExB g env own n ρ μ (st :: rest) Q := fun A F s μ₀ F₀ s₀ ok G Fs t hno =>
  wpAny_execs_cons (wpAny_mono (h A F s ok G Fs) (by
    rintro fl s₁ ⟨f, ρ₁, μ₁, F₁, t₁, G₁, Fs₁, sf, h₁⟩
    cases fl <;> cases f <;> first | exact sf.elim | exact h₁.1 rfl A F₁ s₁ μ₀ F₀ s₀ ok G₁ Fs₁ (t.trans t₁) hno | exact ⟨_, μ₁, F₁, (t.trans t₁).mtLe fun a ha => .inr (hno a ha), G₁, sf, h₁.2 (by intro x; cases x)⟩) fun _ _ x => x)
theorem ExB.seq {st rest} {Q : Fl → Mu → Prop} (R : (Str → Option D) → Mu → Prop) (h : Ex1 g env own n ρ μ st fun f ρ' μ' => f = .next ∧ R ρ' μ') (k : ∀ ρ' μ', R ρ' μ' → ExB g env own n ρ' μ' rest Q) : ExB g env own n ρ μ (st :: rest) Q := by
  refine ExB.cons fun A F s ok G Fs => wpAny_mono (h A F s ok G Fs) ((by rintro fl s' ⟨f, ρ', μ', F', t, G', Fs', sf, e, r⟩; exact ⟨f, ρ', μ', F', t, G', Fs', sf, fun _ => k _ _ r, fun q => absurd e q⟩)) fun _ _ x => x
end

open PySem PySem.W PySem.Calls PyProof.Rows
set_option maxRecDepth 20000
section
variable {g : G} {env : Env} {own : List Addr} {n : Nat} {ρ : Str → Option D} {μ : Mu}
theorem ForL.nil {tgt body Q} (h : Q .next ρ μ) : ForL g env own n tgt body [] ρ μ Q := h
theorem ForL.cons {tgt body d ds Q} (h : Asg env own (fun ρ₁ => Ex g env own n ρ₁ μ body fun f ρ₂ μ₂ => match f with
      | .next => ForL g env own n tgt body ds ρ₂ μ₂ Q
      | .cont => ForL g env own n tgt body ds ρ₂ μ₂ Q
      | .brk => Q .next ρ₂ μ₂
      | .ret d => Q (.ret d) ρ₂ μ₂) tgt d ρ) : ForL g env own n tgt body (d :: ds) ρ μ Q := h
end

open PySem PySem.W PySem.Calls PyProof.Rows
set_option maxRecDepth 20000
/-! the sort's tree of questions, for keys that are all unlike -/
section
variable {O : KeyOrd} {K : Nat → O.α} {n : Nat} {cmp : Nat → Nat → (Bool → Shared → Prop) → Shared → Prop} {s : Shared}

def PO (n : Nat) (p : Array Nat) : Prop := p.toList.Perm (List.range n)
theorem PO.size {p : Array Nat} (h : PO n p) : p.size = n := by have := h.length_eq; simpa using this
theorem PO.get {p : Array Nat} (h : PO n p) {i : Nat} (hi : i < n) : p.getD i 0 < n := by
  have hs := h.size
  have hi' : i < p.size := by lia
  have e : p.getD i 0 = p[i] := by simp [Array.getD, hi']
  rw [e]
  have : p[i] ∈ p.toList := by simp
  simpa using h.mem_iff.mp this
theorem PO.inj {p : Array Nat} (h : PO n p) {i j : Nat} (hi : i < n) (hj : j < n) (e : p.getD i 0 = p.getD j 0) : i = j := by
  have hs := h.size
  have hi' : i < p.toList.length := by simp; lia
  have hj' : j < p.toList.length := by simp; lia
  have nd : p.toList.Nodup := h.nodup_iff.mpr List.nodup_range
  have e1 : p.getD i 0 = p.toList[i] := by have : i < p.size := by lia
                                           simp [Array.getD, this]
  have e2 : p.getD j 0 = p.toList[j] := by have : j < p.size := by lia
                                           simp [Array.getD, this]
  exact (List.getElem_inj nd).mp (by rw [← e1, ← e2, e])
theorem PO.perm {p q : Array Nat} (h : PO n p) (k : q.Perm p) : PO n q := (Array.perm_iff_toList_perm.mp k).trans h

def lt' (K : Nat → O.α) (p : Array Nat) (i j : Nat) : Prop := O.blt (K (p.getD i 0)) (K (p.getD j 0)) = true
def SO (K : Nat → O.α) (p : Array Nat) (m : Nat) : Prop := ∀ i j, i < j → j < m → lt' K p i j
def DE (K : Nat → O.α) (p : Array Nat) (m : Nat) : Prop := ∀ i j, i < j → j < m → lt' K p j i
theorem lt'.trans {p : Array Nat} {i j k : Nat} (a : lt' K p i j) (b : lt' K p j k) : lt' K p i k := O.trans _ _ _ a b

theorem SO.snoc {p : Array Nat} {m : Nat} (h : SO K p m) (hm : 1 ≤ m) (k : lt' K p (m - 1) m) : SO K p (m + 1) := fun i j hij hj => by
  by_cases e : j = m
  · subst e
    by_cases e2 : i = j - 1
    · subst e2; exact k
    · exact (h i (j - 1) (by lia) (by lia)).trans k
  · exact h i j hij (by lia)
theorem DE.snoc {p : Array Nat} {m : Nat} (h : DE K p m) (hm : 1 ≤ m) (k : lt' K p m (m - 1)) : DE K p (m + 1) := fun i j hij hj => by
  by_cases e : j = m
  · subst e
    by_cases e2 : i = j - 1
    · subst e2; exact k
    · exact k.trans (h i (j - 1) (by lia) (by lia))
  · exact h i j hij (by lia)

variable (hc : ∀ i j C, i < n → j < n → C (O.blt (K i) (K j)) s → cmp i j C s) (hinj : ∀ i j, i < n → j < n → K i = K j → i = j)
include hinj
theorem other {p : Array Nat} (hP : PO n p) {i j : Nat} (hi : i < n) (hj : j < n) (hne : i ≠ j) (h : O.blt (K (p.getD i 0)) (K (p.getD j 0)) = false) : lt' K p j i := by
  unfold lt'
  cases h2 : O.blt (K (p.getD j 0)) (K (p.getD i 0)) with
  | true => rfl
  | false => exact absurd (hP.inj hi hj (hinj _ _ (hP.get hi) (hP.get hj) (O.total _ _ h h2))) hne
include hc

theorem asc_wp {p : Array Nat} (hP : PO n p) : ∀ f m {Q : Nat → Shared → Prop}, 1 ≤ m → m + f = n → SO K p m → (∀ m', m ≤ m' → m' ≤ n → SO K p m' → (m' = n ∨ lt' K p m' (m' - 1)) → Q m' s) → (kas_asc p f m).kasWp cmp Q s
  | 0, m, Q, hm, hf, hS, h => h m (Nat.le_refl _) (by lia) hS (.inl (by lia))
  | f + 1, m, Q, hm, hf, hS, h => by
    refine hc _ _ _ (hP.get (by lia)) (hP.get (by lia)) ?_
    cases hb : O.blt (K (p.getD m 0)) (K (p.getD (m - 1) 0)) with
    | true => exact h m (Nat.le_refl _) (by lia) hS (.inr hb)
    | false =>
      show (kas_asc p f (m + 1)).kasWp cmp Q s
      exact asc_wp hP f (m + 1) (by lia) (by lia) (hS.snoc hm (other hinj hP (by lia) (by lia) (by lia) hb)) fun m' h1 h2 h3 h4 => h m' (by lia) h2 h3 h4

theorem desc_wp {p : Array Nat} (hP : PO n p) : ∀ f m {Q : Array Nat × Nat × Nat → Shared → Prop}, 2 ≤ m → m + f = n → DE K p m → (∀ m', 2 ≤ m' → m' ≤ n → DE K p m' → Q (p, m', 0) s) → (kas_desc f p m 0).kasWp cmp Q s
  | 0, m, Q, hm, hf, hS, h => h m hm (by lia) hS
  | f + 1, m, Q, hm, hf, hS, h => by
    refine hc _ _ _ (hP.get (by lia)) (hP.get (by lia)) ?_
    cases hb : O.blt (K (p.getD m 0)) (K (p.getD (m - 1) 0)) with
    | true =>
      show (kas_desc f p (m + 1) 0).kasWp cmp Q s
      exact desc_wp hP f (m + 1) (by lia) (by lia) (hS.snoc (by lia) hb) h
    | false =>
      have o := other hinj hP (by lia) (by lia) (by lia) hb
      refine hc _ _ _ (hP.get (by lia)) (hP.get (by lia)) ?_
      rw [show O.blt (K (p.getD (m - 1) 0)) (K (p.getD m 0)) = true from o]
      exact h m hm (by lia) hS

omit hc hinj in
theorem rev_get {p : Array Nat} {m : Nat} (hm : m ≤ p.size) (k : Nat) : (kas_rev p 0 m).getD k 0 = if k < m then p.getD (m - 1 - k) 0 else p.getD k 0 := by
  have e := getElem?_mirror_all (xs := p) (i := 0) (j := m) hm k
  unfold kas_rev
  rw [Array.getD_eq_getD_getElem?, e]
  by_cases h : k < m
  · simp [h, Array.getD_eq_getD_getElem?]
  · simp [h, Array.getD_eq_getD_getElem?]

omit hc hinj in
theorem SO.rev {p : Array Nat} {m : Nat} (hm : m ≤ p.size) (h : DE K p m) : SO K (kas_rev p 0 m) m := fun i j hij hj => by
  unfold lt'
  rw [rev_get hm, rev_get hm, if_pos (by lia), if_pos hj]
  exact h (m - 1 - j) (m - 1 - i) (by lia) (by lia)

theorem tail3_wp {p : Array Nat} (hP : PO n p) {m : Nat} {Q : Nat × Array Nat → Shared → Prop} (hm : 2 ≤ m) (hn : m ≤ n) (hD : DE K p m) (h : ∀ m' p', PO n p' → 1 ≤ m' → m' ≤ n → SO K p' m' → Q (m', p') s) : (kas_tail3 m n p).kasWp cmp Q s := by
  unfold kas_tail3
  rw [KasT.kasWp_bind]
  have hP' : PO n (kas_rev p 0 m) := hP.perm (mirror_perm _ _ _ _)
  refine asc_wp hc hinj hP' (n - m) m (by lia) (by lia) (SO.rev (by rw [hP.size]; exact hn) hD) fun m' h1 h2 h3 _ => ?_
  exact h m' _ hP' (by lia) h2 h3

theorem descPart_wp {p : Array Nat} (hP : PO n p) {Q : Nat × Array Nat → Shared → Prop} (h2 : 2 ≤ n) (hD : lt' K p 1 0) (h : ∀ m' p', PO n p' → 1 ≤ m' → m' ≤ n → SO K p' m' → Q (m', p') s) : (kas_descPart 1 n p).kasWp cmp Q s := by
  unfold kas_descPart
  rw [KasT.kasWp_bind]
  refine desc_wp hc hinj hP (n - (1 + 1)) (1 + 1) (by lia) (by lia) (fun i j hij hj => ?_) fun m' h1 h2 h3 => ?_
  · obtain rfl : i = 0 := by lia
    obtain rfl : j = 1 := by lia
    exact hD
  · exact tail3_wp hc hinj hP h1 h2 h3 h

theorem count_wp {p : Array Nat} (hP : PO n p) {Q : Nat × Array Nat → Shared → Prop} (h2 : 2 ≤ n) (h : ∀ m' p', PO n p' → 1 ≤ m' → m' ≤ n → SO K p' m' → Q (m', p') s) : (kas_count n p).kasWp cmp Q s := by
  unfold kas_count
  rw [KasT.kasWp_bind]
  refine asc_wp hc hinj hP (n - 1) 1 (by lia) (by lia) (fun i j hij hj => by lia) fun m h1 h3 hS hw => ?_
  by_cases e : m = n
  · subst e
    simp only [beq_self_eq_true, if_true]
    exact h m p hP h1 h3 hS
  · have e1 : (m == n) = false := by simpa using e
    rw [e1]
    simp only [Bool.false_eq_true, if_false]
    by_cases e2 : m > 1
    · rw [if_pos e2]
      refine hc _ _ _ (hP.get (by lia)) (hP.get (by lia)) ?_
      rw [show O.blt (K (p.getD 0 0)) (K (p.getD (m - 1) 0)) = true from hS 0 (m - 1) (by lia) (by lia)]
      exact h m p hP h1 h3 hS
    · rw [if_neg e2]
      obtain rfl : m = 1 := by lia
      exact descPart_wp hc hinj hP h2 (hw.resolve_left e) h

theorem place_wp {p : Array Nat} (hP : PO n p) {k : Nat} (hk : k < n) (hS : SO K p k) {Q : Nat → Shared → Prop} : ∀ f l r, l ≤ r → r ≤ k → r - l ≤ f → (∀ i, i < l → lt' K p i k) → (∀ i, r ≤ i → i < k → lt' K p k i) →
    (∀ l, l ≤ k → (∀ i, i < l → lt' K p i k) → (∀ i, l ≤ i → i < k → lt' K p k i) → Q l s) → (kas_place p k f l r).kasWp cmp Q s
  | 0, l, r, h1, h2, h3, h4, h5, h => h l (by lia) h4 fun i hi => h5 i (by lia)
  | f + 1, l, r, h1, h2, h3, h4, h5, h => by
    unfold kas_place
    by_cases e : l ≥ r
    · rw [if_pos e]; exact h l (by lia) h4 fun i hi => h5 i (by lia)
    · rw [if_neg e]
      have hm : (l + r) / 2 < k := by lia
      refine hc _ _ _ (hP.get hk) (hP.get (by lia)) ?_
      cases hb : O.blt (K (p.getD k 0)) (K (p.getD ((l + r) / 2) 0)) with
      | true =>
        show (kas_place p k f l ((l + r) / 2)).kasWp cmp Q s
        refine place_wp hP hk hS f l ((l + r) / 2) (by lia) (by lia) (by lia) h4 (fun i hi hik => ?_) h
        by_cases e : i = (l + r) / 2
        · subst e; exact hb
        · exact lt'.trans (K := K) hb (hS _ i (by lia) hik)
      | false =>
        have o := other hinj hP hk (by lia) (by lia) hb
        show (kas_place p k f ((l + r) / 2 + 1) r).kasWp cmp Q s
        refine place_wp hP hk hS f ((l + r) / 2 + 1) r (by lia) h2 (by lia) (fun i hi => ?_) h5 h
        by_cases e : i = (l + r) / 2
        · subst e; exact o
        · exact (hS i _ (by lia) hm).trans o

omit hc hinj in
theorem bub_get {p : Array Nat} {k l : Nat} (hk : k < p.size) (hl : l ≤ k) (i : Nat) : (bubble p k (k - l)).getD i 0 = if i = l then p.getD k 0 else if l < i ∧ i ≤ k then p.getD (i - 1) 0 else p.getD i 0 := by
  have e := getElem?_bubble hk (k - l) (by lia) i
  have gd : ∀ (q : Array Nat) i, q.getD i 0 = (q[i]?).getD 0 := fun q i => Array.getD_eq_getD_getElem? ..
  rw [gd, gd, gd, gd, e, show k - (k - l) = l by lia]
  split
  · rfl
  · split <;> rfl

theorem bin_wp : ∀ f {p : Array Nat} {k : Nat} {Q : Array Nat → Shared → Prop}, PO n p → k + f = n → SO K p k → (∀ p', PO n p' → SO K p' n → Q p' s) → (kas_bin f p k).kasWp cmp Q s
  | 0, p, k, Q, hP, hk, hS, h => h p hP (by obtain rfl : k = n := by lia
                                            exact hS)
  | f + 1, p, k, Q, hP, hk, hS, h => by
    unfold kas_bin
    rw [KasT.kasWp_bind]
    refine place_wp hc hinj hP (by lia) hS k 0 k (by lia) (Nat.le_refl _) (by lia) (fun i hi => by lia) (fun i h1 h2 => by lia) fun l hl a b => ?_
    have hz : k < p.size := by rw [hP.size]; lia
    refine bin_wp f (hP.perm (bubble_perm _ _ _)) (by lia) (fun i j hij hj => ?_) h
    unfold lt'
    rw [bub_get hz hl, bub_get hz hl]
    by_cases e1 : i = l
    · subst e1
      rw [if_pos rfl, if_neg (by lia), if_pos (by lia)]
      exact b (j - 1) (by lia) (by lia)
    · rw [if_neg e1]
      by_cases e2 : j = l
      · subst e2
        rw [if_pos rfl, if_neg (by lia)]
        exact a i hij
      · rw [if_neg e2]
        by_cases e3 : l < j ∧ j ≤ k
        · rw [if_pos e3]
          by_cases e4 : l < i ∧ i ≤ k
          · rw [if_pos e4]; exact hS (i - 1) (j - 1) (by lia) (by lia)
          · rw [if_neg e4]; exact hS i (j - 1) (by lia) (by lia)
        · rw [if_neg e3, if_neg (by lia)]; exact hS i j hij (by lia)

theorem sort_wp {Q : Array Nat → Shared → Prop} (h2 : 2 ≤ n) (h : ∀ p', PO n p' → SO K p' n → Q p' s) : (kas_sort n).kasWp cmp Q s := by
  unfold kas_sort
  rw [KasT.kasWp_bind]
  refine count_wp hc hinj (p := (List.range n).toArray) (List.Perm.refl _) h2 fun m p hP h1 hn hS => ?_
  by_cases e : m < n
  · simp only [e, if_true]
    refine bin_wp hc hinj (n - max m 1) hP (by lia) (by rw [show max m 1 = m by lia]; exact hS) h
  · simp only [e, if_false]
    obtain rfl : m = n := by lia
    exact h p hP hS
end

open PySem PySem.W PySem.Calls PyProof.Rows
set_option maxRecDepth 20000
/-! a bridge to the kit's lemmas that speak of a frame's object and of a list of news -/
def newsOf (h : Heap) (ex : List Addr) : List (Addr × Obj) := (List.range h.objs.size).filterMap fun b => if b ∈ ex then none else (h.get? b).map fun o => (b, o)
theorem mem_newsOf {h : Heap} {ex : List Addr} {b : Addr} {o : Obj} (hb : b ∉ ex) (e : h.get? b = some o) : (b, o) ∈ newsOf h ex :=
  List.mem_filterMap.mpr ⟨b, List.mem_range.mpr (Heap.lt_size e), by rw [if_neg hb, e]; rfl⟩
set_option tactic.hygienic true in
theorem of_newsOf {h : Heap} {ex : List Addr} {p : Addr × Obj} (hp : p ∈ newsOf h ex) : p.1 ∉ ex ∧ h.get? p.1 = some p.2 := by
  obtain ⟨b, _, e⟩ := List.mem_filterMap.mp hp
  split at e
  · cases e
  · rename_i hb
    cases hq : h.get? b with
    | none => rw [hq] at e; cases e
    | some o => rw [hq] at e; cases e; exact ⟨hb, hq⟩
def E0 : Heap := { objs := #[] }
theorem E0_get (b : Addr) : E0.get? b = none := rfl
theorem frE0 {h : Heap} {L : Addr} {m} (hn : h.Ns L m) : Fr E0 L h m := ⟨hn, fun b o e => (by rw [E0_get] at e; cases e), Nat.zero_le _⟩
theorem newsE0 {h : Heap} {L : Addr} {ex} : News E0 L h (newsOf h (L :: ex)) := fun p hp => by
  obtain ⟨a, b⟩ := of_newsOf hp
  exact ⟨b, fun q => a (q ▸ .head _), E0_get _⟩

/-- all stands but L, whose names stand, and ex -/
def But (L : Addr) (ex : List Addr) (h h' : Heap) : Prop := (∀ m, h.Ns L m → h'.Ns L m) ∧ ∀ b o, b ≠ L → b ∉ ex → h.get? b = some o → h'.get? b = some o
theorem ns_unique {h : Heap} {L m m'} (a : h.Ns L m) (b : h.Ns L m') : m = m' := by
  obtain ⟨o, es, ep, e, d, _, k⟩ := a
  obtain ⟨o', es', ep', e', d', _, k'⟩ := b
  rw [e] at e'; cases e'; rw [d] at d'; cases d'
  funext x; rw [← k x, k' x]
theorem But.of {h h' : Heap} {L m ex} (hn : h.Ns L m) (F : Fr E0 L h' m) (N : News E0 L h' (newsOf h (L :: ex))) : But L ex h h' :=
  ⟨fun m' hm' => by rw [ns_unique hm' hn]; exact F.ns, fun b o h1 h2 e => (N _ (mem_newsOf (by simp [h1, h2]) e)).1⟩
theorem GSt.but {g : G} {μ F h h' L ex} (G : GSt g μ F h) (B : But L ex h h') (hF : ∀ a, a = L ∨ a ∈ ex → F a = none ∧ a ∉ μ.dom ∧ a ∉ g.tabDom) (hx : ∀ a ∈ ex, ∀ m, ¬ h.Ns a m) : GSt g μ F h' :=
  G.slots (fun a o e => B.2 a o (fun z => by rw [(hF a (.inl z)).1] at e; cases e) (fun z => by rw [(hF a (.inr z)).1] at e; cases e) (G.fz a o e))
    (fun a o ha e => B.2 a o (fun z => ha.elim (hF a (.inl z)).2.1 (hF a (.inl z)).2.2) (fun z => ha.elim (hF a (.inr z)).2.1 (hF a (.inr z)).2.2) e)
    fun a m hm => by
      by_cases hL : a = L
      · subst hL; exact B.1 m hm
      · obtain ⟨o, es, ep, e, r⟩ := hm
        exact ⟨o, es, ep, B.2 a o hL (fun z => hx a z m ⟨o, es, ep, e, r⟩) e, r⟩
theorem Tr.but {g : G} {μ F L ex h' tk m} {s : Shared} (hn : s.heap.Ns L m) (B : But L ex s.heap h') (hx : ∀ a ∈ ex, ∃ o', h'.get? a = some o') : Tr g ex μ μ F F s { s with heap := h', toks := tk } := by
  have key : ∀ o, s.heap.get? L = some o → ∃ o', h'.get? L = some o' ∧ Up o o' := fun o e => by
    obtain ⟨o1, es, ep, e1, d1, r1⟩ := id hn
    rw [e] at e1; cases e1
    obtain ⟨o2, es2, ep2, e2, d2, r2⟩ := B.1 m hn
    refine ⟨o2, e2, .inr ⟨⟨es, ep, d1⟩, ⟨es2, ep2, d2⟩, fun m' ⟨a, b, c, d⟩ => ?_⟩⟩
    rw [ns_unique ⟨o, a, b, e, c, d⟩ hn]
    exact ⟨es2, ep2, d2, r2⟩
  refine ⟨fun b o e h1 _ _ => ?_, fun b o e => ?_, fun _ _ e => e, (Tr.refl (g := g) (mt := []) (μ := μ) (s := s)).fr, fun _ q => .inl q, rfl, rfl⟩
  · by_cases hL : b = L
    · subst hL; exact key o e
    · exact ⟨o, B.2 b o hL h1 e, .refl o⟩
  · by_cases hL : b = L
    · subst hL; obtain ⟨o', e', _⟩ := key o e; exact ⟨o', e'⟩
    · by_cases hb : b ∈ ex
      · exact hx b hb
      · exact ⟨o, B.2 b o hL hb e⟩
theorem GSt.frame {g : G} {μ F h} (G : GSt g μ F h) (hs : g.stk ≠ []) : ∃ L m, h.Ns L m ∧ F L = none ∧ L ∉ μ.dom ∧ L ∉ g.tabDom := by
  cases hq : g.stk with
  | nil => exact absurd hq hs
  | cons e r =>
    obtain ⟨_, L, m, _, hn, h1, h2⟩ := G.stk e (by rw [hq]; exact .head _)
    exact ⟨L, m, hn, h1, h2, G.nsTab hn⟩

/-! pairs of ints -/
def pairD (p : Int × Int) : D := .tup [.int p.1, .int p.2]
def plt (a b : Int × Int) : Bool := decide (a.1 < b.1) || (a.1 == b.1 && decide (a.2 < b.2))
def lexOrd : KeyOrd where
  α := Int × Int
  blt := plt
  irrefl a := by simp [plt]
  trans a b c h1 h2 := by simp only [plt, Bool.or_eq_true, Bool.and_eq_true, decide_eq_true_eq, beq_iff_eq] at *; lia
  negTrans a b c h := by simp only [plt, Bool.or_eq_true, Bool.and_eq_true, decide_eq_true_eq, beq_iff_eq] at *; lia
  total a b h1 h2 := by
    simp only [plt, Bool.or_eq_false_iff, Bool.and_eq_false_iff, decide_eq_false_iff_not, beq_eq_false_iff_ne] at *
    exact Prod.ext (by lia) (by lia)

/-- a pair as an object -/
def PairAt (h : Heap) (v : Value) (p : Int × Int) : Prop := ∃ a n t u, v = .ref a ∧ h.get? a = some { cls := .type "tuple", dict := Option.none, data := .seq #[.int p.1 t, .int p.2 u] n, slots := #[] }
theorem pair_at {F : FM} {h : Heap} (fz : ∀ a o, F a = some o → h.get? a = some o) {v p} (s : Sees F v (pairD p)) : PairAt h v p := by
  obtain @⟨a, vs, n, e, r⟩ := Sees.tupI s
  obtain ⟨l⟩ := vs
  obtain ⟨_, _, el, s1, r⟩ := SeesAll.consI r
  obtain ⟨_, _, rfl, s2, r⟩ := SeesAll.consI r
  obtain rfl := SeesAll.nilI r; obtain ⟨_, rfl⟩ := Sees.intI s1; obtain ⟨_, rfl⟩ := Sees.intI s2
  obtain rfl : l = _ := el
  exact ⟨a, n, _, _, rfl, fz _ _ e⟩
inductive PairsAt (h : Heap) : List Value → List (Int × Int) → Prop
  | nil : PairsAt h [] []
  | cons {v p vs ps} : PairAt h v p → PairsAt h vs ps → PairsAt h (v :: vs) (p :: ps)
theorem pairs_at {F : FM} {h : Heap} (fz : ∀ a o, F a = some o → h.get? a = some o) {ps : List (Int × Int)} : ∀ {vs : List Value}, SeesAll F vs (ps.map pairD) → PairsAt h vs ps := by
  induction ps with
  | nil => intro vs s; obtain rfl := SeesAll.nilI s; exact .nil
  | cons p ps ih => intro vs s; obtain ⟨_, _, rfl, s1, r⟩ := SeesAll.consI s; exact .cons (pair_at fz s1) (ih r)
theorem PairsAt.len {h : Heap} {vs ps} (x : PairsAt h vs ps) : vs.length = ps.length := by induction x with
  | nil => rfl
  | cons _ _ ih => simp [ih]
theorem PairsAt.get {h : Heap} {vs ps} (x : PairsAt h vs ps) : ∀ i, i < ps.length → PairAt h (vs.getD i Value.none) (ps.getD i (0, 0)) := by
  induction x with
  | nil => intro i hi; simp at hi
  | cons a b ih => intro i hi; cases i with
    | zero => exact a
    | succ i => exact ih i (by simpa using hi)
theorem PairsAt.tups {h : Heap} {vs ps} (x : PairsAt h vs ps) : ∃ fs, KatTups h vs fs ∧ fs.length = ps.length ∧ ∀ v ∈ fs, ∃ i t, v = Value.int i t := by
  induction x with
  | nil => exact ⟨[], .nil, rfl, fun v h => nomatch h⟩
  | cons a _ ih =>
    obtain ⟨b, n, t, u, rfl, e⟩ := a
    obtain ⟨fs, i1, i2, i3⟩ := ih
    exact ⟨_ :: fs, .cons e rfl rfl rfl i1, by simp [i2], fun v hv => by
      cases hv with
      | head => exact ⟨_, _, rfl⟩
      | tail _ hv => exact i3 v hv⟩

section
variable {prog : Program} {w : World} {A : Around} {E : Value → Shared → Prop} {s : Shared}
theorem kat_lt_pair {v1 v2 : Value} {p q : Int × Int} {Q : Bool → Shared → Prop} (h1 : PairAt s.heap v1 p) (h2 : PairAt s.heap v2 q) (h : Q (plt p q) s) : wpAny (model prog w) A (keyLt' (tuples' true) v1 v2) Q E s := by
  obtain ⟨a, n, t, u, rfl, e⟩ := h1
  obtain ⟨a', n', t', u', rfl, e'⟩ := h2
  refine kat_lt e rfl e' rfl ?_
  refine kat_cons (wpAny_eqBool_int (kat_go (fun h1 => ?_) fun h1 => ?_))
  · have h1 : p.1 = q.1 := by simpa using h1
    refine kat_yes (kat_cons (wpAny_eqBool_int (kat_go (fun h2 => ?_) fun h2 => ?_)))
    · have h2 : p.2 = q.2 := by simpa using h2
      refine kat_yes (kat_nil ?_)
      have e : plt p q = false := by simp [plt, h1, h2]
      rw [e] at h; exact h
    · refine kat_no (kat_one _ _ (lt_int ?_))
      have e : plt p q = decide (p.2 < q.2) := by simp [plt, h1]
      rw [e] at h; exact h
  · have h1 : p.1 ≠ q.1 := by simpa using h1
    refine kat_no (oneLt_int ?_)
    have e : plt p q = decide (p.1 < q.1) := by simp [plt, h1]
    rw [e] at h; exact h
end
section
variable {g : G} {env : Env} {own : List Addr} {n : Nat} {ρ : Str → Option D} {μ : Mu}
/-- what the sort puts out -/
theorem out_perm {ps : List (Int × Int)} {p : Array Nat} (hP : PO ps.length p) : (p.toList.map fun i => ps.getD i (0, 0)).Perm ps := by
  refine (hP.map _).trans (List.Perm.of_eq ?_)
  refine List.ext_getElem (by simp) fun i h1 h2 => ?_
  have h2 : i < ps.length := h2
  simp [h2]
theorem out_sorted {ps : List (Int × Int)} {p : Array Nat} {K : Nat → Int × Int} (hP : PO ps.length p) (hS : SO (O := lexOrd) K p ps.length) : (p.toList.map K).Pairwise fun a b => plt a b = true := by
  rw [List.pairwise_iff_getElem]
  intro i j hi hj hij
  have hz := hP.size
  have hi' : i < p.size := by simpa using hi
  have hj' : j < p.size := by simpa using hj
  have := hS i j hij (by lia)
  unfold lt' at this
  have e1 : p.getD i 0 = p[i] := by simp [Array.getD, hi']
  have e2 : p.getD j 0 = p[j] := by simp [Array.getD, hj']
  rw [e1, e2] at this
  have this : plt (K p[i]) (K p[j]) = true := this
  simpa using this
theorem sees_out {F : FM} {vs : List Value} {ps : List (Int × Int)} (s : SeesAll F vs (ps.map pairD)) : ∀ (l : List Nat), (∀ i ∈ l, i < ps.length) → SeesAll F (l.map fun i => vs.getD i Value.none) ((l.map fun i => ps.getD i (0, 0)).map pairD)
  | [], _ => .nil
  | i :: l, h => by
    refine .cons ?_ (sees_out s l fun j hj => h j (.tail _ hj))
    have hi := h i (.head _)
    obtain ⟨v, h1, h2⟩ := s.get (k := i) (d := pairD (ps.getD i (0, 0))) (by simp [hi])
    simpa [h1] using h2
theorem PO.lt {n : Nat} {p : Array Nat} (hP : PO n p) : ∀ i ∈ p.toList, i < n := fun i hi => by simpa using hP.mem_iff.mp hi

theorem Calls.sortedPairs {x : D} {ps : List (Int × Int)} {Q} (hs : g.stk ≠ []) (hx : Rd μ x (ps.map pairD)) (hnd : ps.Nodup) (h2 : 2 ≤ ps.length) (h64 : ps.length < 64)
    (h : ∀ ps' : List (Int × Int), ps'.Perm ps → ps'.Pairwise (fun a b => plt a b = true) → Q (.lst (ps'.map pairD)) μ) : Calls g n (.val (.builtin "sorted")) [x] [] μ Q :=
  Calls.of1 fun A F s fv va ok G sf sa => by
    obtain rfl := Sees.valI sf
    obtain ⟨l, vs, rfl, hL, sds⟩ := hx.isList G sa
    obtain ⟨L, m, hn, hFL, hmL, htL⟩ := G.frame hs
    have hz : vs.toList.length = ps.length := by have := sds.length; simpa using this
    refine kat_sorted (h₀ := E0) (L := L) (m := m) (vs := vs.toList) (news := newsOf s.heap (L :: [])) (frE0 hn) newsE0 (by simpa using hL) (by lia) (by lia) fun D' e1 h' F' N' lt => ?_
    have B : But L [] s.heap h' := .of hn F' fun p hp => N' p (.tail _ hp)
    have hD0 : s.heap.get? D' = none := by
      cases hq : s.heap.get? D' with
      | none => rfl
      | some o =>
        have hne : D' ≠ L := (N' _ (.head _)).2.1
        exact absurd (lt _ (mem_newsOf (by simpa using hne) hq)) (Nat.lt_irrefl _)
    have G' := G.but B (fun a ha => by
      rcases ha with rfl | ha
      · exact ⟨hFL, hmL, htL⟩
      · cases ha) (fun a ha => nomatch ha)
    have PA := pairs_at G'.fz sds
    obtain ⟨fs, t1, t2, t3⟩ := PA.tups
    refine kat_kind (T := .type "int") t1 (by lia) (fun v hv => ?_) rfl ?_
    · obtain ⟨i, t, rfl⟩ := t3 v hv; exact Looks.of_pure rfl
    rw [hz]
    refine sort_wp (O := lexOrd) (K := fun i => ps.getD i (0, 0)) (n := ps.length) (fun i j C hi hj hC => ?_) (fun i j hi hj e => ?_) h2 fun p hP hS => ?_
    · exact kat_lt_pair (PA.get i hi) (PA.get j hj) hC
    · have e : ps.getD i (0, 0) = ps.getD j (0, 0) := e
      simp only [List.getD_eq_getElem?_getD, List.getElem?_eq_getElem hi, List.getElem?_eq_getElem hj, Option.getD_some] at e
      exact (List.getElem_inj hnd).mp e
    · refine KasFin.intro F' N' (.head fun p hp => Nat.ne_of_lt (lt p hp)) fun h'' c F'' N'' => ?_
      have B2 : But L [] s.heap h'' := .of hn F'' fun p hp => N'' p (.tail _ hp)
      have G2 := G.but B2 (fun a ha => by
        rcases ha with rfl | ha
        · exact ⟨hFL, hmL, htL⟩
        · cases ha) (fun a ha => nomatch ha)
      have eD := (N'' _ (.head _)).1
      dsimp only at eD
      obtain ⟨f1, f2, f3⟩ := G.fresh hD0
      have t : Tr g [] μ μ F F s { s with heap := h'' } := Tr.but (tk := s.toks) hn B2 (fun a ha => nomatch ha)
      refine ⟨_, μ, _, { t with le := put_le f1, fr := fun b => ?_ }, G2.freeze eD f1 f2 f3 (fun _ _ z => nomatch z), .lst put_same ((sees_out sds _ hP.lt).mono (put_le f1)), h _ (out_perm hP) (out_sorted hP hS)⟩
      by_cases hb : b = D'
      · subst hb; exact .inr (.inr (.inr hD0))
      · rw [put_ne hb]; exact t.fr b
end

open PySem PySem.W PySem.Calls PyProof.Rows
set_option maxRecDepth 20000
section
variable {g : G} {env : Env} {own : List Addr} {n : Nat} {ρ : Str → Option D} {μ : Mu}

structure KInv (g : Mine.G) (μ : Mu) (s : Shared) (F : FM) (L : Addr) (m : Str → Option Value) (kS D' : Addr) (e1 : Nat) (ks : List Value) (e : Nat) (ds : List D) (Fi : FM) (si : Shared) : Prop where
  gs : GSt g μ Fi si.heap
  t : Tr g [kS, D'] μ μ F Fi s si
  ns : si.heap.Ns L m
  hk : si.heap.get? kS = some (seqObj "list" ks.toArray e)
  hd : si.heap.get? D' = some (seqObj "list" #[] e1)
  sk : SeesAll Fi ks ds
  fL : Fi L = none
  fk : Fi kS = none
  fD : Fi D' = none

structure KFix (g : Mine.G) (μ : Mu) (L kS D' : Addr) : Prop where
  l1 : L ∉ μ.dom ∧ L ∉ g.tabDom
  k : kS ∉ μ.dom ∧ kS ∉ g.tabDom
  d : D' ∉ μ.dom ∧ D' ∉ g.tabDom
  kd : kS ≠ D'
  kL : kS ≠ L
  dL : D' ≠ L

/-- h' is as the heap, but for kS -/
theorem KInv.move {s F L m kS D' e1 ks e ds Fi} {si : Shared} (X : KFix g μ L kS D') (I : KInv g μ s F L m kS D' e1 ks e ds Fi si) {h' : Heap} {ks' : List Value} {c : Nat} {ds' : List D} (B : But L [kS] si.heap h') (hk : h'.get? kS = some (seqObj "list" ks'.toArray c)) (sk : SeesAll Fi ks' ds') :
    KInv g μ s F L m kS D' e1 ks' c ds' Fi { si with heap := h' } := by
  have nk : ∀ mm, ¬ si.heap.Ns kS mm := fun mm ⟨o, es, ep, e, d, _⟩ => by rw [I.hk] at e; cases e; cases d
  refine ⟨I.gs.but B (fun a ha => ?_) (fun a ha => by rw [List.mem_singleton.mp ha]; exact nk), I.t.trans ((Tr.but (tk := si.toks) I.ns B fun a ha => by rw [List.mem_singleton.mp ha]; exact ⟨_, hk⟩).mtLe fun a ha => .inl (by rw [List.mem_singleton.mp ha]; exact .head _)),
    B.1 _ I.ns, hk, B.2 _ _ X.dL (by simpa using X.kd.symm) I.hd, sk, I.fL, I.fk, I.fD⟩
  rcases ha with rfl | ha
  · exact ⟨I.fL, X.l1⟩
  · rw [List.mem_singleton.mp ha]; exact ⟨I.fk, X.k⟩

end

open PySem PySem.W PySem.Calls PyProof.Rows
set_option maxRecDepth 20000
section
variable {g : G} {env : Env} {own : List Addr} {n : Nat} {ρ : Str → Option D} {μ : Mu}
theorem updL2 {a b : Str} {x y : D} : updL ρ [a, b].reverse [x, y].reverse = upd (upd ρ b y) a x := rfl
theorem bindable_cell {fd : FuncData} {L a : Addr} {x : Str} (he : env = callEnvC fd L a) (ho : own = ownOf fd L) (hk : fd.scope.names.lookup x = some .cell) : Bindable env own x := by
  subst he ho
  have hs := cellsFrom_some (x := x) fd.scope.names (L + 1) [] (.inl hk)
  obtain ⟨c, hc⟩ := Option.isSome_iff_exists.mp hs
  exact .inr ⟨hk, c, hc, .tail _ (List.mem_map.mpr ⟨_, lookup_mem hc, rfl⟩)⟩

theorem gens1 {x : Comprehension} (h : GenOk x) : ∀ y ∈ [x], GenOk y := fun y hy => List.mem_singleton.mp hy ▸ h
theorem gens2 {x z : Comprehension} (h : GenOk x) (k : GenOk z) : ∀ y ∈ [x, z], GenOk y := fun y hy => by
  rcases List.mem_cons.mp hy with rfl | hy
  · exact h
  · exact gens1 k y hy
/-! data that can be held side by side -/
def PyOk (k : Nat) (d : D) : Prop := ∃ p, toPy d = some p ∧ p.depth ≤ k
theorem PyOk.int {k i} : PyOk k (.int i) := ⟨.int i, rfl, Nat.zero_le _⟩
theorem PyOk.none {k} : PyOk k .none := ⟨.none, rfl, Nat.zero_le _⟩
theorem PyOk.bool {k b} : PyOk k (.bool b) := ⟨.bool b, rfl, Nat.zero_le _⟩
theorem PyOk.str {k x} (h : PyData.strOk x = true) : PyOk k (.str x) := ⟨.str x, by simp [toPy, h], Nat.zero_le _⟩
theorem PyOk.alls {k : Nat} : ∀ {ds : List D}, (∀ d ∈ ds, PyOk k d) → ∃ ps, toPys ds = some ps ∧ PyData.depthAll ps ≤ k
  | [], _ => ⟨[], rfl, Nat.zero_le _⟩
  | d :: ds, h => by
    obtain ⟨p, e, l⟩ := h d (.head _)
    obtain ⟨ps, e2, l2⟩ := PyOk.alls fun x hx => h x (.tail _ hx)
    exact ⟨p :: ps, by simp [toPys, e, e2], Nat.max_le.mpr ⟨l, l2⟩⟩
theorem PyOk.lst {k : Nat} {ds : List D} (h : ∀ d ∈ ds, PyOk k d) : PyOk (k + 1) (.lst ds) := by
  obtain ⟨ps, e, l⟩ := PyOk.alls h
  exact ⟨.list ps, by simp [toPy, e], by simp only [PyData.depth]; lia⟩
theorem PyOk.tup {k : Nat} {ds : List D} (h : ∀ d ∈ ds, PyOk k d) : PyOk (k + 1) (.tup ds) := by
  obtain ⟨ps, e, l⟩ := PyOk.alls h
  exact ⟨.tuple ps, by simp [toPy, e], by simp only [PyData.depth]; lia⟩
theorem PyOk.le {k m d} (h : PyOk k d) (l : k ≤ m) : PyOk m d := (by obtain ⟨p, a, b⟩ := h; exact ⟨p, a, Nat.le_trans b l⟩)
theorem PyOk.ints {l : List Int} : PyOk 1 (.lst (l.map .int)) := PyOk.lst fun d hd => by obtain ⟨i, _, rfl⟩ := List.mem_map.mp hd; exact .int
theorem PyOk.pairs {l : List (Int × Int)} : PyOk 2 (.lst (l.map pairD)) := PyOk.lst fun d hd => by
  obtain ⟨p, _, rfl⟩ := List.mem_map.mp hd
  exact PyOk.tup fun x hx => by
    simp only [List.mem_cons, List.not_mem_nil, or_false] at hx
    rcases hx with rfl | rfl <;> exact .int
theorem Act2.neSame {a b Q} (e : a = b) (hp : PyOk 20 a) (h : Q (.bool false) μ) : Act2 g n μ (compareOp .NotEq) a b Q := fun A F s va vb ok G sa sb => by
  subst e
  obtain ⟨p, e, l⟩ := hp
  have hc := (sa.reads G.fz e).2
  exact Act2.neD (p := p) (q := p) e e l (by rw [PySem.SeqAt.eqv_refl p hc]; exact h) A F s va vb ok G sa sb
/-! slices of ints -/
def ipick (l : List Int) (lo hi st : Option Int) : List Int :=
  (sliceRange (sliceBounds lo hi st l.length).1 (sliceBounds lo hi st l.length).2.1 (sliceBounds lo hi st l.length).2.2).filterMap (l[·]?)
theorem dpick_ints (l : List Int) (lo hi st) : dpick (l.map .int) lo hi st = (ipick l lo hi st).map .int := by
  unfold dpick ipick
  rw [List.length_map, List.map_filterMap]
  exact fm_congr fun i _ => by simp
/-! comprehensions over lists of some kind -/
theorem CompL.mapA {α : Type} {x : Str} {p : Pos} {elt : Expr} {K : CK} (t f : α → D) (hb : Bindable env own x) : ∀ (xs : List α) (acc : List D) {ρ : Str → Option D}, acc.length + xs.length ≤ 100000 →
    (∀ a ∈ xs, ∀ Q : D → Mu → Prop, Q (f a) μ → Ev g env own n (upd ρ x (t a)) μ elt Q) → (∀ r, K (acc ++ xs.map f) r μ) → CompL g env own n (CompG g env own n elt []) (.Name x p) [] (xs.map t) ρ μ acc K
  | [], acc, ρ, hl, h, k => by have := k ρ; rwa [List.map_nil, List.append_nil] at this
  | d :: ds, acc, ρ, hl, h, k => by
    simp only [List.length_cons] at hl
    refine .name hb (show (true = true → _) ∧ (true = false → _) from ⟨fun _ => ⟨by lia, h d (.head _) _ ?_⟩, fun e => nomatch e⟩)
    refine CompL.mapA t f hb ds _ (by simp; lia) (fun e he => by rw [upd_upd]; exact h e (.tail _ he)) (fun r => ?_)
    have := k r
    rwa [List.map_cons, ← List.singleton_append, ← List.append_assoc] at this
theorem CompL.mapA2 {α : Type} {x y : Str} {p q r0 : Pos} {k0 : Nat} {elt : Expr} {K : CK} (t1 t2 f : α → D) (hb : Bindable env own x) (hb2 : Bindable env own y) : ∀ (xs : List α) (acc : List D) {ρ : Str → Option D}, acc.length + xs.length ≤ 100000 →
    (∀ a ∈ xs, ∀ Q : D → Mu → Prop, Q (f a) μ → Ev g env own n (upd (upd ρ x (t1 a)) y (t2 a)) μ elt Q) → (∀ r, K (acc ++ xs.map f) r μ) →
    CompL g env own n (CompG g env own n elt []) (.Tuple [.Name x p, .Name y q] k0 r0) [] (xs.map fun a => .tup [t1 a, t2 a]) ρ μ acc K
  | [], acc, ρ, hl, h, k => by have := k ρ; rwa [List.map_nil, List.append_nil] at this
  | d :: ds, acc, ρ, hl, h, k => by
    simp only [List.length_cons] at hl
    refine .tup (.cons hb (.cons hb2 (.nil (show (true = true → _) ∧ (true = false → _) from ⟨fun _ => ⟨by lia, h d (.head _) _ ?_⟩, fun e => nomatch e⟩))))
    refine CompL.mapA2 t1 t2 f hb hb2 ds _ (by simp; lia) (fun e he => by rw [upd_upd2]; exact h e (.tail _ he)) (fun r => ?_)
    have := k r
    rwa [List.map_cons, ← List.singleton_append, ← List.append_assoc] at this
/-- an if that is not taken: its test alone, what follows apart -/
theorem Ex.skipIf {t : Expr} {b rest : List Stmt} {pos : Pos} {Q} (h : Et g env own n ρ μ t fun c μ₁ => c = false ∧ μ₁ = μ) (k : Ex g env own n ρ μ rest Q) : Ex g env own n ρ μ (.If t b [] pos :: rest) Q :=
  Ex.cons (Ex1.ite (Et.mono h fun c μ₁ ⟨hc, hm⟩ => by subst hc; subst hm; exact ff_of (Ex.nil (next_of k))))
end

open PySem PySem.W PySem.Calls PyProof.Rows
set_option maxRecDepth 20000
section
variable {g : G} {env : Env} {own : List Addr} {n : Nat} {ρ : Str → Option D} {μ : Mu}
theorem EvPost.keepAny {F : FM} {s : Shared} {h' : Heap} {tk : Tok} {a : Addr} {m : MO} {Q : D → Mu → Prop} (G : GSt g μ F s.heap) (hk : ∀ b o, s.heap.get? b = some o → h'.get? b = some o)
    (ea : MIs F h' a m) (fr : s.heap.get? a = none) (h : a ∉ μ.dom → Q (.val (.ref a)) ((a, m) :: μ)) : EvPost g μ s F Q (.ref a) { s with heap := h', toks := tk } := by
  obtain ⟨h1, h2, h3⟩ := G.fresh fr
  refine ⟨_, _, F, { Tr.of_ext (g := g) (mt := []) (μ := μ) (F := F) (s' := { s with heap := h', toks := tk }) hk rfl rfl with mu := fun b hb => ?_ }, (G.ext hk).push h1 ea h2 h3, .val _, h h2⟩
  rcases List.mem_cons.mp hb with rfl | hb
  · exact .inr fr
  · exact .inl hb
/-- the ints of a set's entries -/
theorem ints_of_entries {prog : Program} {w : World} : ∀ (es : List (Int × Value)), ElemsOf (intKind prog w) es → ∃ l, IntsAre (es.map (·.2)) l ∧ ∀ k, k ∈ l ↔ ∃ e ∈ es, (intKind prog w).is k e.2 = true := by
  intro es
  induction es with
  | nil => intro _; exact ⟨[], .nil, fun k => ⟨fun h => (nomatch h), fun ⟨_, h, _⟩ => (nomatch h)⟩⟩
  | cons e r ih =>
    intro el
    obtain ⟨⟨⟨k0, hk0, _⟩, _⟩⟩ := And.intro (el e (.head _)) trivial
    obtain ⟨t, ht⟩ := Value.isInt_shape (show Value.isInt k0 e.2 = true from hk0)
    obtain ⟨l, h1, h2⟩ := ih fun x hx => el x (.tail _ hx)
    refine ⟨k0 :: l, by rw [List.map_cons, ht]; exact .cons k0 t h1, fun k => ?_⟩
    rw [List.mem_cons, h2]
    constructor
    · rintro (rfl | ⟨x, hx, q⟩)
      · exact ⟨e, .head _, hk0⟩
      · exact ⟨x, .tail _ hx, q⟩
    · rintro ⟨x, hx, q⟩
      rcases List.mem_cons.mp hx with rfl | hx
      · exact .inl ((intKind prog w).inj _ _ _ q hk0)
      · exact .inr ⟨x, hx, q⟩
theorem ints_perm {vs us : List Value} (p : vs.Perm us) : ∀ {l : List Int}, IntsAre us l → ∃ l1, IntsAre vs l1 ∧ l1.Perm l := by
  induction p with
  | nil => intro l h; exact ⟨l, h, .refl _⟩
  | cons v _ ih =>
    intro l h
    cases h with
    | cons x t r => obtain ⟨l1, h1, h2⟩ := ih r; exact ⟨x :: l1, .cons x t h1, h2.cons x⟩
  | swap a b r =>
    intro l h
    cases h with
    | cons x t h => cases h with
      | cons y u h => exact ⟨_, .cons y u (.cons x t h), .swap _ _ _⟩
  | trans _ _ ih1 ih2 =>
    intro l h
    obtain ⟨l1, h1, h2⟩ := ih2 h
    obtain ⟨l2, h3, h4⟩ := ih1 h1
    exact ⟨l2, h3, h4.trans h2⟩
/-- as many, and all of an unlike row's: the same -/
theorem perm_of_count : ∀ {d l : List Int}, d.Nodup → l.length = d.length → (∀ k, k ∈ d → k ∈ l) → d.Perm l
  | [], l, _, hl, _ => by rw [List.eq_nil_of_length_eq_zero hl]
  | x :: d, l, hn, hl, h => by
    have hx := h x (.head _)
    obtain ⟨hxd, hn⟩ := List.nodup_cons.mp hn
    have pe := List.perm_cons_erase hx
    refine (List.Perm.cons x (perm_of_count hn ?_ fun k hk => ?_)).trans pe.symm
    · have := pe.length_eq; simp at this hl; lia
    · exact (List.mem_erase_of_ne (fun (e : k = x) => hxd (e ▸ hk))).mpr (h k (.tail _ hk))
theorem Calls.setInts {x : D} {ns : List Int} {Q} (hx : Rd μ x (ns.map .int)) (hz : ns.length ≤ 1000)
    (h : ∀ a l, a ∉ μ.dom → l.Perm (dd ns) → Q (.val (.ref a)) ((a, .st (!g.w.params.followText "set-order") l) :: μ)) : Calls g n (.val (.type "set")) [x] [] μ Q :=
  Calls.of1 fun A F s fv va ok G sf sa => by
    obtain rfl := Sees.valI sf
    obtain ⟨a, vs, k, rfl, hl, sds⟩ := hx.at G sa
    refine set_list ok.hand hl (intsAre_of sds) (by unfold scanBound; lia) ?_
    rintro s' ⟨h', tk, rfl, ⟨es, ep, t, e, el, hm, hb, hf, hn, tok, led⟩, kk⟩
    obtain ⟨l, h1, h2⟩ := ints_of_entries _ el
    have hlen : l.length = (dd ns).length := by rw [← hn, ← Array.length_toList, ← IntsAre.length h1, List.length_map]
    have pm : (dd ns).Perm l := perm_of_count (dd_nodup ns) hlen fun k hk => (h2 k).mpr ((hm k).mp (decide_eq_true hk))
    exact EvPost.keepAny (m := .st (!g.w.params.followText "set-order") l) G kk ⟨_, e, (show StOk _ _ _ from ⟨es, ep, t, rfl, h1, tok, hf, led, hb⟩)⟩ get_new fun ha => h _ l ha pm.symm
theorem Calls.sortedSet {a : Addr} {l : List Int} {Q} (h64 : l.length < 64) (h : ∀ ns' : List Int, ns'.Perm l → ns'.Pairwise (· ≤ ·) → Q (.lst (ns'.map .int)) μ) :
    Calls g n (.val (.builtin "sorted")) [.val (.ref a)] [] ((a, .st (!g.w.params.followText "set-order") l) :: μ) Q :=
  Calls.of1 fun A F s fv va ok G sf sa => by
    obtain rfl := Sees.valI sf
    obtain rfl := Sees.valI sa
    obtain ⟨_, o, e, es, ep, t, rfl, hi, tok, hf, led, hb⟩ := G.mu _ (.head _)
    refine Calls.call_function_entry kind_sorted plain_sorted entry_sorted (args_sorted1 _) ?_
    unfold Builtin.«sorted»
    refine wpAny_bind (m := checkCount "sorted" 1 1 _) (wpAny_pure ?_)
    refine wpAny_bind (collect_set (by exact ok.hand) e hf tok led hb ?_)
    rintro vs s1 ⟨p, k, os, gens⟩
    have hz : vs.length = es.size := by rw [p.length_eq, List.length_map, Array.length_toList]
    have hlz : es.size = l.length := by rw [← IntsAre.length hi, List.length_map, Array.length_toList]
    obtain ⟨l1, hi1, pl⟩ : ∃ l1, IntsAre vs l1 ∧ l1.Perm l := ints_perm p hi
    refine wpAny_bind (wpAny_newList ?_)
    have hoL : (s1.heap.push (seqObj "list" vs.toArray 0)).get? s1.heap.objs.size = some (seqObj "list" vs.toArray 0) := Heap.get?_push_size _ rfl
    refine wpAny_bind (wpAny_holding (wpAny_call_entry slot_list_sort ⟨_, hoL, rfl⟩ entry_list_sort (list_sort_tree hoL hi1 (by lia) fun out ns' a1 a2 a3 => ⟨_, rfl, ?_⟩) (args_list_sort _)))
    have hG := G.drop.ext (h' := s1.heap) k
    have hS := h ns' (a2.trans pl) a3
    obtain ⟨e1, he1⟩ := sortedHeap_at (out := out) hoL
    have kp : ∀ b o, s.heap.get? b = some o → (sortedHeap (s1.heap.push (seqObj "list" vs.toArray 0)) s1.heap.objs.size vs out).get? b = some o := fun b o e => by
      have e1 := k b o e
      have lt := Heap.lt_size e1
      rw [sortedHeap_old (Nat.ne_of_lt lt) (by rw [size_push']; exact Nat.lt_succ_of_lt lt), Heap.get?_push_of_some _ e1]
    have new : s.heap.get? s1.heap.objs.size = none := by
      cases hq : s.heap.get? s1.heap.objs.size with
      | none => rfl
      | some o => have := k _ _ hq; rw [get_new] at this; cases this
    refine wpAny_pure ⟨_, rfl, ?_⟩
    have := EvPost.keepNew (tk := s1.toks) (Q := Q) G.drop kp he1 new (sees_of_ints a1) hS
    obtain ⟨d, μ', F', t1, G', sv, q⟩ := this
    exact ⟨d, μ', F', ⟨fun b o e h1 h2 h3 => t1.ext b o e h1 (fun z => h2 (.tail _ z)) h3, t1.live, t1.le, fun b => (t1.fr b).imp id (Or.imp id (Or.imp (.tail _) id)), fun b hb => (t1.mu b hb).imp (.tail _) id, os, gens⟩, G', sv, q⟩
end

open PySem PySem.W PySem.Calls PyProof.Rows
set_option maxRecDepth 20000
theorem Iter.enumT {g : G} {es : List Expr} {x1 : Nat} {pos : Pos} {e it l : Addr} (hne : e ≠ it) {vs : Array Value} {k : Nat} {all : List D} : ∀ {ds : List D} {i : Nat} {old : Value} {F : FM} {h : Heap}, F l = some { cls := .type "tuple", dict := Option.none, data := .seq vs k, slots := #[] } →
    SeesAll F vs.toList all → IsEnum h e it i old → h.IsTupleIter it l i → all.drop i = ds → Iter g (.Tuple es x1 pos) (.ref e) [e, it] (enumD i ds) F h := by
  intro ds
  induction ds with
  | nil =>
    intro i old F h hF sa hen hit hd A s F' ok ag le fz nf
    have hit' : s.heap.IsTupleIter it l i := by obtain ⟨o, e', r⟩ := hit; exact ⟨o, ag it (.tail _ (.head _)) o e', r⟩
    have hx : vs[i]? = none := by
      have := List.drop_eq_nil_iff.mp hd
      have z := sa.size
      rw [Array.getElem?_eq_none_iff]; lia
    refine enumT_end ok.hand (ag e (.head _) _ hen) hit' ⟨_, fz _ _ (le _ _ hF), rfl, _, rfl⟩ hx fun h' he => ⟨rfl, fun b o e hb => he b o ?_ e, rfl, rfl⟩
    simp only [List.mem_cons, not_or] at hb; exact hb.2.1
  | cons d ds ih =>
    intro i old F h hF sa hen hit hd A s F' ok ag le fz nf
    have hit' : s.heap.IsTupleIter it l i := by obtain ⟨o, e', r⟩ := hit; exact ⟨o, ag it (.tail _ (.head _)) o e', r⟩
    have hen' : IsEnum s.heap e it i old := ag e (.head _) _ hen
    have hFl := le _ _ hF
    obtain ⟨h1, h2⟩ := drop_cons hd
    obtain ⟨v, hv, sv⟩ := sa.get h1
    refine enumT_item hen' hit' ⟨_, fz _ _ hFl, rfl, _, rfl⟩ (by simpa using hv) hne ?_
    rintro s1 ⟨h', rfl, ho, hn, ht, hk⟩
    refine ⟨_, rfl, ?_⟩
    refine wpAny_letOwnedTupleGo_enum ho fun h'' he2 hs2 => ?_
    have hel : e < s.heap.objs.size := Heap.lt_size hen'
    have hkp : ∀ b o, b ∉ [e, it] → s.heap.get? b = some o → h''.get? b = some o := fun b o hb e0 => by
      simp only [List.mem_cons, not_or] at hb
      exact (hs2.2 b hb.1).trans (hk b o hb.1 hb.2.1 e0)
    have htup : h''.get? s.heap.objs.size = some { cls := .type "tuple", data := .seq #[.int i s.toks, v] } := (hs2.2 _ (Nat.ne_of_gt hel)).trans ht
    have hn'' : h''.IsTupleIter it l (i + 1) := by obtain ⟨o, e', r⟩ := hn; exact ⟨o, (hs2.2 _ (Ne.symm hne)).trans e', r⟩
    have hFs : F' s.heap.objs.size = none := by
      cases hq : F' s.heap.objs.size with
      | none => rfl
      | some o => have := fz _ _ hq; rw [get_size] at this; cases this
    have lep := put_le (o := { cls := .type "tuple", data := .seq #[.int i s.toks, v] }) hFs
    refine ⟨put F' s.heap.objs.size { cls := .type "tuple", data := .seq #[.int i s.toks, v] }, lep, fun a o e0 => ?_, fun a => ?_, .tup put_same (.cons (.int _ _) (.cons ((sv.mono le).mono lep) .nil)), ⟨fun b o e0 hb => hkp b o hb e0, rfl, rfl⟩, fun a ha => ?_, ?_⟩
    · by_cases hb : a = s.heap.objs.size
      · subst hb; rw [put_same] at e0; cases e0; exact htup
      · rw [put_ne hb] at e0
        exact hkp a o (fun z => by rw [nf a z] at e0; cases e0) (fz a o e0)
    · by_cases hb : a = s.heap.objs.size
      · subst hb; exact .inr (.inr get_size)
      · rw [put_ne hb]; exact fr_same a
    · simp only [List.mem_cons, List.not_mem_nil, or_false] at ha
      rcases ha with rfl | rfl
      · exact ⟨_, he2, nns rfl⟩
      · obtain ⟨o, e', _, d'⟩ := hn''; exact ⟨o, e', nns d'⟩
    · exact ih (i := i + 1) (lep _ _ hFl) ((sa.mono le).mono lep) he2 hn'' h2
section
variable {g : G} {env : Env} {own : List Addr} {n : Nat} {ρ : Str → Option D} {μ : Mu}
theorem EvI.enumT {es : List Expr} {x1 : Nat} {tp pos : Pos} {f x : Expr} {Q} (hf : Ev g env own n ρ μ f fun d μ₁ => d = .val (.type "enumerate") ∧ plainE x = true ∧ Ev g env own n ρ μ₁ x fun d μ₂ => ∃ ds, d = .tup ds ∧ Q (enumD 0 ds) μ₂)
    (he : eval (.Call f [x] [] pos) env = (do callWith pos (← eval f env) [] (backTo pos (starEach [x] env)) (backToKw pos (keywordEach [] env))) := by rfl) :
    EvI g env own n ρ μ (.Tuple es x1 tp) (.Call f [x] [] pos) Q := fun A F s ok G Fs => by
  rw [he]
  refine wpAny_bind (wp_seq hf ok G Fs fun fv fd μ₁ F₁ s₁ t₁ G₁ Fs₁ sf hq => ?_)
  obtain ⟨rfl, hp, hx⟩ := hq
  refine callWith_P (Q := fun ds ks μ₂ => ∃ xs, ds = [.tup xs] ∧ ks = [] ∧ Q (enumD 0 xs) μ₂) KeepD.type (by simp [hp]) rfl ok G₁ Fs₁ sf ⟨hp, hx.mono (by rintro d μ₂ ⟨ds, e, hq⟩; exact ⟨ds, by rw [e], rfl, hq⟩)⟩ fun vs kvs ds ks μ₂ F₂ s₂ t₂ G₂ Fs₂ sf₂ sds sks hn hq => ?_
  obtain ⟨xs, rfl, rfl, hq⟩ := hq
  have hkv : kvs = [] := by simpa using hn
  subst hkv
  obtain rfl := Sees.valI sf₂
  obtain ⟨_, _, rfl, sv, r⟩ := SeesAll.consI sds
  obtain rfl := SeesAll.nilI r
  obtain @⟨l, vs, k, e0, sxs⟩ := Sees.tupI sv
  refine enumT_new (G₂.fz _ _ e0) fun h' hen hit hk => ?_
  have hne : s₂.heap.objs.size + 1 ≠ s₂.heap.objs.size := by lia
  refine wpAny_pyIter_enum hen ?_
  have hfr : ∀ a ∈ [s₂.heap.objs.size + 1, s₂.heap.objs.size], s₂.heap.get? a = none := fun a ha => by
    simp only [List.mem_cons, List.not_mem_nil, or_false] at ha
    rcases ha with rfl | rfl
    · exact none_ge (Nat.le_succ _)
    · exact get_size
  refine ⟨_, μ₂, F₂, [s₂.heap.objs.size + 1, s₂.heap.objs.size], (t₁.trans t₂).trans (Tr.of_ext hk rfl rfl), G₂.ext hk, Aside.new (s := s₂) (s' := { s₂ with heap := h' }) G₂ Fs₂ hfr (fun a ha => ?_), fun a ha => fresh_back (t₁.trans t₂) (hfr a ha), Iter.enumT hne e0 sxs hen hit (by simp), fun A' s' ok' ag _ => ?_, hq⟩
  · simp only [List.mem_cons, List.not_mem_nil, or_false] at ha
    rcases ha with rfl | rfl
    · exact ⟨_, hen, nns rfl⟩
    · obtain ⟨o, e, _, d'⟩ := hit; exact ⟨o, e, nns d'⟩
  · exact wp_selfIter fun Q' hq' => wpAny_pyIter_enum (ag _ (.head _) _ hen) hq'

/-! small rules -/
theorem Act2.pow {a b : Int} {Q} (hb : 0 ≤ b) (ha : a ≠ -1) (hs : ¬ Builtin.Int.intTooBig (((Builtin.Int.intBits a : Nat) : Int) * b) = true) (h : Q (.int (a ^ b.toNat)) μ) : Act2 g n μ (binaryOp .Pow) (.int a) (.int b) Q := fun A F s va vb ok G sa sb => by
  obtain ⟨_, rfl⟩ := Sees.intI sa; obtain ⟨_, rfl⟩ := Sees.intI sb
  by_cases h0 : b = 0
  · subst h0
    exact AutoIntOps.pow_0 hb rfl (EvPost.here G rfl rfl rfl (.int _ _) (by rw [Int.toNat_zero, Int.pow_zero] at h; exact h))
  · have hb0 : ¬(b == 0) = true := by simpa using h0
    by_cases h1 : (a == 0 || a == 1) = true
    · have e : a ^ b.toNat = a := by
        have : b.toNat ≠ 0 := by lia
        obtain ⟨m, hm⟩ := Nat.exists_eq_succ_of_ne_zero this
        rw [hm]
        rcases Bool.or_eq_true_iff.mp h1 with q | q
        · rw [eq_of_beq q, Int.pow_succ, Int.mul_zero]
        · rw [eq_of_beq q, Int.one_pow]
      rw [e] at h
      exact AutoIntOps.pow_1 hb hb0 h1 (EvPost.here G rfl rfl rfl (.int _ _) h)
    · exact AutoIntOps.pow_4 hb hb0 h1 (by simpa using ha) hs (EvPost.here G rfl rfl rfl (.int _ _) h)
theorem Act2.ge {a b Q} (h : Q (.bool (decide (b ≤ a))) μ) : Act2 g n μ (compareOp .GtE) (.int a) (.int b) Q := fun A F s va vb ok G sa sb => by
  obtain ⟨_, rfl⟩ := Sees.intI sa; obtain ⟨_, rfl⟩ := Sees.intI sb; exact PyProof.Rows.ge_int (EvPost.here G rfl rfl rfl (.bool _) h)
theorem Calls.isBoolInt {i : Int} {Q} (h : Q (.bool false) μ) : Calls g n (.val (.builtin "isinstance")) [.int i, .val (.type "bool")] [] μ Q := Calls.of2 fun A F s fv va vb ok G sf sa sb => by
  obtain rfl := Sees.valI sf; obtain ⟨_, rfl⟩ := Sees.intI sa; obtain rfl := Sees.valI sb
  exact IsiPair.int_bool (EvPost.here G rfl rfl rfl (.bool _) h)
abbrev TInt (Q : Bool → Mu → Prop) : D → Mu → Prop := fun d μ₁ => ∃ i, d = .int i ∧ Q (i != 0) μ₁
theorem Et.int {e : Expr} {Q} (h : Ev g env own n ρ μ e (TInt Q)) (hn : ∀ whole, isTrue e env whole = (do let v ← whole; standAt e.pos; holding [v] (truthy v)) := by intro _; rfl) : Et g env own n ρ μ e Q := fun A F s ok G Fs => by
  rw [hn]
  refine wpAny_bind (wp_seq h ok G Fs fun v d μ₁ F₁ s₁ t₁ G₁ Fs₁ sv h₁ => ?_)
  obtain ⟨i, rfl, hq⟩ := h₁
  obtain ⟨t, rfl⟩ := Sees.intI sv
  exact wpAny_bind (wpAny_standAt (wpAny_holding (PyProof.Rows.truthy_int ⟨μ₁, F₁, t₁, G₁, hq⟩)))
end

open PySem PySem.W PySem.Calls PyProof.Rows
set_option maxRecDepth 20000
set_option hygiene false in
local macro_rules | `(tactic| walk_at "rho") => `(tactic| first | with_reducible assumption | with_reducible exact upd_same | ((with_reducible refine' upd_ne ?zqah ?zqak); (case zqah => decide); (case zqak => walk_at "rho")) | with_reducible exact rho_hit | ((with_reducible refine' rho_miss ?zqah ?zqak); (case zqah => decide); (case zqak => walk_at "rho")) | ((with_reducible refine' restr_get ?zqah ?zqak); (case zqah => exact rfl); (case zqak => walk_at "rho")))
set_option hygiene false in
local macro_rules | `(tactic| walk_at "kind") => `(tactic| first | (refine' kind_of ?zqbh ?zqbe; (case zqbh => assumption); (case zqbe => exact rfl)) | (refine' kindX_of ?zqbh ?zqbe; (case zqbh => assumption); (case zqbe => exact rfl)) | (refine' kindC_of ?zqbh ?zqbe; (case zqbh => assumption); (case zqbe => exact rfl)))
set_option hygiene false in
local macro_rules | `(tactic| walk_at "isk") => `(tactic| (refine' ns_of ?zqch ?zqce; (case zqch => assumption); (case zqce => exact rfl)))
set_option hygiene false in
local macro_rules | `(tactic| walk_at "mem") => `(tactic| first | with_reducible assumption | with_reducible exact mem_hd | ((with_reducible refine' mem_tl ?zqdh); (case zqdh => walk_at "mem")) | ((with_reducible refine' setMu_has ?zqdh); (case zqdh => walk_at "mem")))
set_option hygiene false in
local macro_rules | `(tactic| walk_at "rd") => `(tactic| first | with_reducible assumption | with_reducible exact Rd.lst | ((with_reducible refine' Rd.mu ?zqeh); (case zqeh => walk_at "mem")))
set_option hygiene false in
local macro_rules | `(tactic| walk_at "st") => `(tactic| first
  | with_reducible refine next_of ?_
  | with_reducible refine ret_of ?_
  | with_reducible refine tt_of ?_
  | with_reducible refine ff_of ?_
  | with_reducible refine TBool.of ?_
  | with_reducible refine Ex.cons ?_
  | with_reducible refine Ex.nil ?_
  | with_reducible refine Ex1.ite ?_
  | with_reducible refine Ex1.ret ?_
  | ((with_reducible refine' Ex1.assign ?_ ?zqfh1 ?zqfh2); (case zqfh1 => walk_at "bind"); (case zqfh2 => exact rfl))
  | with_reducible refine Ev.cint ?_
  | with_reducible refine Ev.cnone ?_
  | with_reducible refine Ev.cstr ?_
  | with_reducible refine Ev.cbool ?_
  | ((with_reducible refine' Ev.name ?zqfhx ?_ ?zqfh1 ?zqfh2); (case zqfhx => walk_at "rho"); (case zqfh1 => decide); (case zqfh2 => decide))
  | ((with_reducible refine' Ev.glob ?zqfh1 ?zqfh2 ?_ ?zqfh3); (case zqfh1 => walk_at "kind"); (case zqfh2 => walk_at "isk"); (case zqfh3 => decide))
  | ((with_reducible refine' Ev.blt ?zqfh1 ?zqfh2 ?zqfh3 ?_ ?zqfh4 ?zqfh5); (case zqfh1 => walk_at "kind"); (case zqfh2 => walk_at "isk"); (case zqfh3 => boot_fast); (case zqfh4 => decide); (case zqfh5 => decide))
  | with_reducible refine Ev.binop ?_
  | ((with_reducible refine' Ev.cmp ?_ ?zqfh); (case zqfh => with_unfolding_all rfl))
  | ((with_reducible refine' Et.cmp ?_ ?zqfh); (case zqfh => with_unfolding_all rfl))
  | with_reducible refine Ev.unop ?_
  | with_reducible refine Act1.neg ?_
  | with_reducible refine Ev.sub ?_
  | with_reducible refine Ev.slc ?_
  | with_reducible refine EvP.none ?_
  | with_reducible refine EvP.some ?_
  | with_reducible refine Ev.tuple ?_
  | ((with_reducible refine' len_and ?zqfhl ?_); (case zqfhl => (simp only [List.length_cons, List.length_nil]; decide)))
  | ((with_reducible refine' Ev.call ?_ ?zqfh1 ?zqfh2 ?zqfh3); (case zqfh1 => exact rfl); (case zqfh2 => exact rfl); (case zqfh3 => exact rfl))
  | with_reducible refine EvL.nil ?_
  | ((with_reducible refine' EvL.cons ?_ ?zqfhp); (case zqfhp => exact rfl))
  | with_reducible refine EvK.nil ?_
  | with_reducible refine EvK.cons ?_
  | with_reducible refine keep_blt ?_
  | with_reducible refine keep_type ?_
  | with_reducible refine keep_clo ?_
  | ((with_reducible refine' keep_fn ?zqfh1 ?zqfh2 ?_); (case zqfh1 => assumption); (case zqfh2 => exact rfl))
  | ((with_reducible refine' keep_as ?zqfh1 ?_); (case zqfh1 => with_reducible assumption))
  | with_reducible refine Act2.add ?_
  | with_reducible refine Act2.sub ?_
  | with_reducible refine Act2.lt ?_
  | with_reducible refine Act2.gt ?_
  | with_reducible refine Act2.eq ?_
  | with_reducible refine Act2.ne ?_
  | ((with_reducible refine' Act2.floordiv ?zqfh1 ?zqfh2 ?_); (case zqfh1 => decide); (case zqfh2 => decide))
  | ((with_reducible refine' Act2.mod ?zqfh ?_); (case zqfh => decide))
  | ((with_reducible refine' Act2.isnone ?zqfh ?_); (case zqfh => exact rfl))
  | ((with_reducible refine' Act2.isnotnone ?zqfh ?_); (case zqfh => exact rfl)))
set_option hygiene false in
local macro_rules | `(tactic| walk_at "bind") => `(tactic| first | (refine' bindable_local ?zqghbk; (case zqghbk => walk_at "kind")) | (refine' bindable_cell ?zqgh1 ?zqgh2 ?zqgh3; (case zqgh1 => assumption); (case zqgh2 => assumption); (case zqgh3 => exact rfl)))
set_option hygiene false in
local macro_rules | `(tactic| walk_at "ck") => `(tactic| exact ⟨by subst_vars; rfl, by decide, rfl, by decide, by first | exact gens1 ⟨rfl, fun _ _ => rfl⟩ | exact gens2 ⟨rfl, fun _ _ => rfl⟩ ⟨rfl, fun _ _ => rfl⟩⟩)
set_option hygiene false in
local macro_rules | `(tactic| walk_at "comp1") => `(tactic| (refine' Ex1.assignComp (by omega) ?zqick ?zqihb ?zqihs ?_; (case zqick => walk_at "ck"); (case zqihb => walk_at "bind"); (case zqihs => (subst_vars; exact rfl))))
set_option hygiene false in
local macro_rules | `(tactic| walk_at "comp") => `(tactic| (refine' Ev.comp (by omega) ?zqjck ?_; (case zqjck => walk_at "ck")))
set_option hygiene false in
local macro_rules | `(tactic| walk_at "compS") => `(tactic| first | walk_at "comp1" | (refine' Ex1.assign ?_ ?zqkh1 ?zqkh2; (case zqkh1 => walk_at "bind"); (case zqkh2 => (subst_vars; exact rfl)); walk_at "comp"))
/-- loads alone, run over what is known to stand -/
def ldRun {α : Type} (K : Frag) : Nat → Sem α → Option α
  | 0, _ => none
  | n + 1, t => match t with
    | .pure v => some v
    | .load a _ k => (K.lookup a).elim none fun o => ldRun K n (k o)
    | _ => none
theorem ldRun_ok {α : Type} {K : Frag} {M : Model} {A : Around} {E : Value → Shared → Prop} {s : Shared} {Q : α → Shared → Prop} {v : α} (X : K.In s.heap) (n : Nat) : ∀ (t : Sem α), ldRun K n t = some v → Q v s → wpAny M A t Q E s := by
  induction n with
  | zero => exact fun _ e _ => nomatch e
  | succ n ih =>
    intro t
    cases t with
    | pure a => intro e q; cases e; exact wpAny_pure q
    | load a p k =>
      intro e q
      have e : (K.lookup a).elim none (fun o => ldRun K n (k o)) = some v := e
      cases hk : K.lookup a with
      | none => rw [hk] at e; cases e
      | some o => rw [hk] at e; exact wp_ld rfl (X _ _ hk) (ih (k o) e q)
    | _ => exact fun e => nomatch e
theorem bindsTo_of {g : G} {K : Frag} {s : Shared} {fd : FuncData} {as : Args} {bs : List (Str × Value)} (hK : g.K = K) (X : g.K.In s.heap) (n : Nat) (e : ldRun K n (bindArgs fd as) = some bs) : BindsTo s fd as bs :=
  fun _ _ _ _ hq => ldRun_ok (hK ▸ X) n _ e hq
inductive BB : Addr → List D → List (Str × D) → List (Str × D) → Prop
  | c23_20 (a b : D) : BB 23 [a, b] [] [("a", a), ("x", b), ("lo", .int 0), ("hi", .none), ("key", .none)]
  | c23_30 (a b c : D) : BB 23 [a, b, c] [] [("a", a), ("x", b), ("lo", c), ("hi", .none), ("key", .none)]
  | c23_40 (a b c d : D) : BB 23 [a, b, c, d] [] [("a", a), ("x", b), ("lo", c), ("hi", d), ("key", .none)]
  | c23_21 (a b e : D) : BB 23 [a, b] [("key", e)] [("a", a), ("x", b), ("lo", .int 0), ("hi", .none), ("key", e)]
  | c23_31 (a b c e : D) : BB 23 [a, b, c] [("key", e)] [("a", a), ("x", b), ("lo", c), ("hi", .none), ("key", e)]
  | c23_41 (a b c d e : D) : BB 23 [a, b, c, d] [("key", e)] [("a", a), ("x", b), ("lo", c), ("hi", d), ("key", e)]
  | c32_20 (a b : D) : BB 32 [a, b] [] [("a", a), ("x", b), ("lo", .int 0), ("hi", .none), ("key", .none)]
  | c32_30 (a b c : D) : BB 32 [a, b, c] [] [("a", a), ("x", b), ("lo", c), ("hi", .none), ("key", .none)]
  | c32_40 (a b c d : D) : BB 32 [a, b, c, d] [] [("a", a), ("x", b), ("lo", c), ("hi", d), ("key", .none)]
  | c32_21 (a b e : D) : BB 32 [a, b] [("key", e)] [("a", a), ("x", b), ("lo", .int 0), ("hi", .none), ("key", e)]
  | c32_31 (a b c e : D) : BB 32 [a, b, c] [("key", e)] [("a", a), ("x", b), ("lo", c), ("hi", .none), ("key", e)]
  | c32_41 (a b c d e : D) : BB 32 [a, b, c, d] [("key", e)] [("a", a), ("x", b), ("lo", c), ("hi", d), ("key", e)]
  | c41_20 (a b : D) : BB 41 [a, b] [] [("a", a), ("x", b), ("lo", .int 0), ("hi", .none), ("key", .none)]
  | c41_30 (a b c : D) : BB 41 [a, b, c] [] [("a", a), ("x", b), ("lo", c), ("hi", .none), ("key", .none)]
  | c41_40 (a b c d : D) : BB 41 [a, b, c, d] [] [("a", a), ("x", b), ("lo", c), ("hi", d), ("key", .none)]
  | c41_21 (a b e : D) : BB 41 [a, b] [("key", e)] [("a", a), ("x", b), ("lo", .int 0), ("hi", .none), ("key", e)]
  | c41_31 (a b c e : D) : BB 41 [a, b, c] [("key", e)] [("a", a), ("x", b), ("lo", c), ("hi", .none), ("key", e)]
  | c41_41 (a b c d e : D) : BB 41 [a, b, c, d] [("key", e)] [("a", a), ("x", b), ("lo", c), ("hi", d), ("key", e)]
  | c50_20 (a b : D) : BB 50 [a, b] [] [("a", a), ("x", b), ("lo", .int 0), ("hi", .none), ("key", .none)]
  | c50_30 (a b c : D) : BB 50 [a, b, c] [] [("a", a), ("x", b), ("lo", c), ("hi", .none), ("key", .none)]
  | c50_40 (a b c d : D) : BB 50 [a, b, c, d] [] [("a", a), ("x", b), ("lo", c), ("hi", d), ("key", .none)]
  | c50_21 (a b e : D) : BB 50 [a, b] [("key", e)] [("a", a), ("x", b), ("lo", .int 0), ("hi", .none), ("key", e)]
  | c50_31 (a b c e : D) : BB 50 [a, b, c] [("key", e)] [("a", a), ("x", b), ("lo", c), ("hi", .none), ("key", e)]
  | c50_41 (a b c d e : D) : BB 50 [a, b, c, d] [("key", e)] [("a", a), ("x", b), ("lo", c), ("hi", d), ("key", e)]
  | c57 (a : D) : BB 57 [a] [] [("numbers", a)]
  | c64 (a : D) : BB 64 [a] [] [("numbers", a)]
  | c71 (a b c : D) : BB 71 [a, b, c] [] [("search", a), ("row", b), ("low", c)]
  | c78 (a : D) : BB 78 [a] [] [("numbers", a)]
  | c83 (a : D) : BB 83 [a] [] [("script", a)]
theorem BB.ok {g : G} {fa : Addr} {args kws bd} (hK : g.K = hd.heap_39 g.w.params) (h : BB fa args kws bd) : BindsAt g fa args kws bd := by
  induction h
  · exact bindsAt_of hK rfl rfl (Binds.mk20 fun F s v1 v2 X s1 s2 => ⟨[("a", v1), ("x", v2), ("lo", .int 0 _), ("hi", .none), ("key", .none)], bindsTo_of hK X 9 rfl, .cons s1 (.cons s2 (.cons (.int _ _) (.cons .none (.cons .none (.nil)))))⟩)
  · exact bindsAt_of hK rfl rfl (Binds.mk30 fun F s v1 v2 v3 X s1 s2 s3 => ⟨[("a", v1), ("x", v2), ("lo", v3), ("hi", .none), ("key", .none)], bindsTo_of hK X 9 rfl, .cons s1 (.cons s2 (.cons s3 (.cons .none (.cons .none (.nil)))))⟩)
  · exact bindsAt_of hK rfl rfl (Binds.mk40 fun F s v1 v2 v3 v4 X s1 s2 s3 s4 => ⟨[("a", v1), ("x", v2), ("lo", v3), ("hi", v4), ("key", .none)], bindsTo_of hK X 9 rfl, .cons s1 (.cons s2 (.cons s3 (.cons s4 (.cons .none (.nil)))))⟩)
  · exact bindsAt_of hK rfl rfl (Binds.mk21 fun F s v1 v2 v3 X s1 s2 s3 => ⟨[("a", v1), ("x", v2), ("lo", .int 0 _), ("hi", .none), ("key", v3)], bindsTo_of hK X 9 rfl, .cons s1 (.cons s2 (.cons (.int _ _) (.cons .none (.cons s3 (.nil)))))⟩)
  · exact bindsAt_of hK rfl rfl (Binds.mk31 fun F s v1 v2 v3 v4 X s1 s2 s3 s4 => ⟨[("a", v1), ("x", v2), ("lo", v3), ("hi", .none), ("key", v4)], bindsTo_of hK X 9 rfl, .cons s1 (.cons s2 (.cons s3 (.cons .none (.cons s4 (.nil)))))⟩)
  · exact bindsAt_of hK rfl rfl (Binds.mk41 fun F s v1 v2 v3 v4 v5 X s1 s2 s3 s4 s5 => ⟨[("a", v1), ("x", v2), ("lo", v3), ("hi", v4), ("key", v5)], bindsTo_of hK X 9 rfl, .cons s1 (.cons s2 (.cons s3 (.cons s4 (.cons s5 (.nil)))))⟩)
  · exact bindsAt_of hK rfl rfl (Binds.mk20 fun F s v1 v2 X s1 s2 => ⟨[("a", v1), ("x", v2), ("lo", .int 0 _), ("hi", .none), ("key", .none)], bindsTo_of hK X 9 rfl, .cons s1 (.cons s2 (.cons (.int _ _) (.cons .none (.cons .none (.nil)))))⟩)
  · exact bindsAt_of hK rfl rfl (Binds.mk30 fun F s v1 v2 v3 X s1 s2 s3 => ⟨[("a", v1), ("x", v2), ("lo", v3), ("hi", .none), ("key", .none)], bindsTo_of hK X 9 rfl, .cons s1 (.cons s2 (.cons s3 (.cons .none (.cons .none (.nil)))))⟩)
  · exact bindsAt_of hK rfl rfl (Binds.mk40 fun F s v1 v2 v3 v4 X s1 s2 s3 s4 => ⟨[("a", v1), ("x", v2), ("lo", v3), ("hi", v4), ("key", .none)], bindsTo_of hK X 9 rfl, .cons s1 (.cons s2 (.cons s3 (.cons s4 (.cons .none (.nil)))))⟩)
  · exact bindsAt_of hK rfl rfl (Binds.mk21 fun F s v1 v2 v3 X s1 s2 s3 => ⟨[("a", v1), ("x", v2), ("lo", .int 0 _), ("hi", .none), ("key", v3)], bindsTo_of hK X 9 rfl, .cons s1 (.cons s2 (.cons (.int _ _) (.cons .none (.cons s3 (.nil)))))⟩)
  · exact bindsAt_of hK rfl rfl (Binds.mk31 fun F s v1 v2 v3 v4 X s1 s2 s3 s4 => ⟨[("a", v1), ("x", v2), ("lo", v3), ("hi", .none), ("key", v4)], bindsTo_of hK X 9 rfl, .cons s1 (.cons s2 (.cons s3 (.cons .none (.cons s4 (.nil)))))⟩)
  · exact bindsAt_of hK rfl rfl (Binds.mk41 fun F s v1 v2 v3 v4 v5 X s1 s2 s3 s4 s5 => ⟨[("a", v1), ("x", v2), ("lo", v3), ("hi", v4), ("key", v5)], bindsTo_of hK X 9 rfl, .cons s1 (.cons s2 (.cons s3 (.cons s4 (.cons s5 (.nil)))))⟩)
  · exact bindsAt_of hK rfl rfl (Binds.mk20 fun F s v1 v2 X s1 s2 => ⟨[("a", v1), ("x", v2), ("lo", .int 0 _), ("hi", .none), ("key", .none)], bindsTo_of hK X 9 rfl, .cons s1 (.cons s2 (.cons (.int _ _) (.cons .none (.cons .none (.nil)))))⟩)
  · exact bindsAt_of hK rfl rfl (Binds.mk30 fun F s v1 v2 v3 X s1 s2 s3 => ⟨[("a", v1), ("x", v2), ("lo", v3), ("hi", .none), ("key", .none)], bindsTo_of hK X 9 rfl, .cons s1 (.cons s2 (.cons s3 (.cons .none (.cons .none (.nil)))))⟩)
  · exact bindsAt_of hK rfl rfl (Binds.mk40 fun F s v1 v2 v3 v4 X s1 s2 s3 s4 => ⟨[("a", v1), ("x", v2), ("lo", v3), ("hi", v4), ("key", .none)], bindsTo_of hK X 9 rfl, .cons s1 (.cons s2 (.cons s3 (.cons s4 (.cons .none (.nil)))))⟩)
  · exact bindsAt_of hK rfl rfl (Binds.mk21 fun F s v1 v2 v3 X s1 s2 s3 => ⟨[("a", v1), ("x", v2), ("lo", .int 0 _), ("hi", .none), ("key", v3)], bindsTo_of hK X 9 rfl, .cons s1 (.cons s2 (.cons (.int _ _) (.cons .none (.cons s3 (.nil)))))⟩)
  · exact bindsAt_of hK rfl rfl (Binds.mk31 fun F s v1 v2 v3 v4 X s1 s2 s3 s4 => ⟨[("a", v1), ("x", v2), ("lo", v3), ("hi", .none), ("key", v4)], bindsTo_of hK X 9 rfl, .cons s1 (.cons s2 (.cons s3 (.cons .none (.cons s4 (.nil)))))⟩)
  · exact bindsAt_of hK rfl rfl (Binds.mk41 fun F s v1 v2 v3 v4 v5 X s1 s2 s3 s4 s5 => ⟨[("a", v1), ("x", v2), ("lo", v3), ("hi", v4), ("key", v5)], bindsTo_of hK X 9 rfl, .cons s1 (.cons s2 (.cons s3 (.cons s4 (.cons s5 (.nil)))))⟩)
  · exact bindsAt_of hK rfl rfl (Binds.mk20 fun F s v1 v2 X s1 s2 => ⟨[("a", v1), ("x", v2), ("lo", .int 0 _), ("hi", .none), ("key", .none)], bindsTo_of hK X 9 rfl, .cons s1 (.cons s2 (.cons (.int _ _) (.cons .none (.cons .none (.nil)))))⟩)
  · exact bindsAt_of hK rfl rfl (Binds.mk30 fun F s v1 v2 v3 X s1 s2 s3 => ⟨[("a", v1), ("x", v2), ("lo", v3), ("hi", .none), ("key", .none)], bindsTo_of hK X 9 rfl, .cons s1 (.cons s2 (.cons s3 (.cons .none (.cons .none (.nil)))))⟩)
  · exact bindsAt_of hK rfl rfl (Binds.mk40 fun F s v1 v2 v3 v4 X s1 s2 s3 s4 => ⟨[("a", v1), ("x", v2), ("lo", v3), ("hi", v4), ("key", .none)], bindsTo_of hK X 9 rfl, .cons s1 (.cons s2 (.cons s3 (.cons s4 (.cons .none (.nil)))))⟩)
  · exact bindsAt_of hK rfl rfl (Binds.mk21 fun F s v1 v2 v3 X s1 s2 s3 => ⟨[("a", v1), ("x", v2), ("lo", .int 0 _), ("hi", .none), ("key", v3)], bindsTo_of hK X 9 rfl, .cons s1 (.cons s2 (.cons (.int _ _) (.cons .none (.cons s3 (.nil)))))⟩)
  · exact bindsAt_of hK rfl rfl (Binds.mk31 fun F s v1 v2 v3 v4 X s1 s2 s3 s4 => ⟨[("a", v1), ("x", v2), ("lo", v3), ("hi", .none), ("key", v4)], bindsTo_of hK X 9 rfl, .cons s1 (.cons s2 (.cons s3 (.cons .none (.cons s4 (.nil)))))⟩)
  · exact bindsAt_of hK rfl rfl (Binds.mk41 fun F s v1 v2 v3 v4 v5 X s1 s2 s3 s4 s5 => ⟨[("a", v1), ("x", v2), ("lo", v3), ("hi", v4), ("key", v5)], bindsTo_of hK X 9 rfl, .cons s1 (.cons s2 (.cons s3 (.cons s4 (.cons s5 (.nil)))))⟩)
  · exact bindsAt_of hK rfl rfl (Binds.mk10 fun F s v1 X s1 => ⟨[("numbers", v1)], bindsTo_of hK X 9 rfl, .cons s1 (.nil)⟩)
  · exact bindsAt_of hK rfl rfl (Binds.mk10 fun F s v1 X s1 => ⟨[("numbers", v1)], bindsTo_of hK X 9 rfl, .cons s1 (.nil)⟩)
  · exact bindsAt_of hK rfl rfl (Binds.mk30 fun F s v1 v2 v3 X s1 s2 s3 => ⟨[("search", v1), ("row", v2), ("low", v3)], bindsTo_of hK X 9 rfl, .cons s1 (.cons s2 (.cons s3 (.nil)))⟩)
  · exact bindsAt_of hK rfl rfl (Binds.mk10 fun F s v1 X s1 => ⟨[("numbers", v1)], bindsTo_of hK X 9 rfl, .cons s1 (.nil)⟩)
  · exact bindsAt_of hK rfl rfl (Binds.mk10 fun F s v1 X s1 => ⟨[("script", v1)], bindsTo_of hK X 9 rfl, .cons s1 (.nil)⟩)

open PySem PySem.W PySem.Calls PyProof.Rows
set_option maxRecDepth 20000
section
variable {g : G} (hK : g.K = hd.heap_39 g.w.params)
include hK

theorem bisR_body {a x : D} {ds : List D} {lo hi : Nat} {p : Nat → Bool} {n : Nat} {μ : Mu} {Q : D → Mu → Prop} {args kws hiD} (hb : BindsAt g 32 args kws [("a", a), ("x", x), ("lo", .int lo), ("hi", hiD), ("key", .none)])
    (hr : Rd μ a ds) (hl : (ds.length : Int) < 2 ^ 62) (hhi : hi ≤ ds.length) (hhd : hiD = .int hi ∨ (hiD = .none ∧ hi = ds.length))
    (hp : ∀ i d, ds[i]? = some d → LtOk x d (p i)) (h : Q (.int (bis p lo hi)) μ) :
    Calls g (n + 1) (.val (.ref 32)) args kws μ Q := by
  refine' Calls.enter (fa := 32) (hK := ?a) (hfo := ?b) (hbody := ?c) (hclo := ?d) (hglob := ?e) (hblt := ?f) (hcode := ?gg) (hco := ?h) (hgen := ?i) (hk := ?j)
    (bd := [("a", a), ("x", x), ("lo", .int lo), ("hi", hiD), ("key", .none)]) ?bb (nm := ["a", "x", "lo", "hi", "key"]) (hnm := rfl) (hnames := ?k) (by decide) (hcn := ?l) ?_
  case a => rw [hK]; rfl
  case b => rfl
  case c => rfl
  case d => rfl
  case e => rfl
  case f => rfl
  case gg => rw [hK]; rfl
  case h => rfl
  case i => rfl
  case j => rfl
  case k => rfl
  case l => decide
  case bb => exact hb _ _ (by rw [hK]; rfl) rfl
  intro env own L he ho
  repeat' walk_at "st"
  refine dec_of (fun h => absurd h (by lia)) fun _ => ?_
  refine Ex.nil (next_of ?_)
  refine Ex.seq (fun ρ' μ' => μ' = μ ∧ ρ' "a" = some a ∧ ρ' "x" = some x ∧ ρ' "lo" = some (.int lo) ∧ ρ' "hi" = some (.int hi) ∧ ρ' "key" = some .none) ?_ ?_
  · rcases hhd with rfl | ⟨rfl, rfl⟩
    · repeat' walk_at "st"
      exact ⟨rfl, rfl, by walk_at "rho", by walk_at "rho", by walk_at "rho", by walk_at "rho", by walk_at "rho"⟩
    · repeat' walk_at "st"
      refine len_D hr hl ?_
      repeat' walk_at "st"
      exact ⟨rfl, rfl, by walk_at "rho", by walk_at "rho", by walk_at "rho", by walk_at "rho", by walk_at "rho"⟩
  rintro ρ μ' ⟨rfl, h1, h2, h3, h4, h5⟩
  repeat' walk_at "st"
  refine Ex1.while (I := fun k ρ μ₁ => ∃ lo' hi' : Nat, μ₁ = μ' ∧ hi' ≤ ds.length ∧ bis p lo' hi' = bis p lo hi ∧ k = hi' - lo' ∧ ρ "a" = some a ∧ ρ "x" = some x ∧ ρ "lo" = some (.int lo') ∧ ρ "hi" = some (.int hi')) (hi - lo)
    ⟨lo, hi, rfl, hhi, rfl, rfl, h1, h2, h3, h4⟩ ?_
  rintro k ρ μ₁ ⟨lo', hi', rfl, hh, hb, rfl, h1, h2, h3, h4⟩
  repeat' walk_at "st"
  refine dec_of (fun hlt => ?_) fun hge => ?_
  · have hm : ((lo' : Int) + hi').fdiv 2 = (((lo' + hi') / 2 : Nat) : Int) := by rw [Int.fdiv_eq_ediv_of_nonneg _ (by decide)]; lia
    have hlt' : lo' < hi' := by lia
    have hb' := hb
    rw [bis_eq, if_pos hlt'] at hb'
    repeat' walk_at "st"
    have hidx : (lo' + hi') / 2 < ds.length := by lia
    rw [hm]
    refine Act2.item hr (d := ds[(lo' + hi') / 2]) (idx?_nat.trans (List.getElem?_eq_getElem hidx)) hl ?_ (fun _ _ => rfl)
    repeat' walk_at "st"
    refine hp _ _ (List.getElem?_eq_getElem hidx) _ _ _ _ ?_
    repeat' walk_at "st"
    cases hpm : p ((lo' + hi') / 2) with
    | true =>
      rw [hpm, if_pos rfl] at hb'
      try refine (show _ from Eq.mp (by rw [Bool.not_true]) ?_)
      repeat' walk_at "st"
      exact ⟨(lo' + hi') / 2 - lo', by lia, lo', (lo' + hi') / 2, rfl, by lia, hb', rfl, by walk_at "rho", by walk_at "rho", by walk_at "rho", by walk_at "rho"⟩
    | false =>
      rw [hpm, if_neg (by decide)] at hb'
      try refine (show _ from Eq.mp (by rw [Bool.not_false]) ?_)
      repeat' walk_at "st"
      exact ⟨hi' - ((lo' + hi') / 2 + 1), by lia, (lo' + hi') / 2 + 1, hi', rfl, by lia, hb', rfl, by walk_at "rho", by walk_at "rho", upd_same.trans (congrArg (fun z => some (D.int z)) (by lia)), by walk_at "rho"⟩
  · repeat' walk_at "st"
    rw [bis_eq, if_neg (by lia)] at hb
    rw [hb]; exact h

theorem bisRk_body {a x kd : D} {ds : List D} {lo hi : Nat} {p : Nat → Bool} {n : Nat} {μ : Mu} {Q : D → Mu → Prop} {args kws hiD} (hb : BindsAt g 32 args kws [("a", a), ("x", x), ("lo", .int lo), ("hi", hiD), ("key", kd)])
    (hr : Rd μ a ds) (hl : (ds.length : Int) < 2 ^ 62) (hhi : hi ≤ ds.length) (hhd : hiD = .int hi ∨ (hiD = .none ∧ hi = ds.length))
    (hkn : isNone kd = some false) (hkk : KeepD g kd) (hp : ∀ i d, ds[i]? = some d → ∃ e, KeyOk g n kd d e ∧ LtOk x e (p i)) (h : Q (.int (bis p lo hi)) μ) :
    Calls g (n + 1) (.val (.ref 32)) args kws μ Q := by
  refine' Calls.enter (fa := 32) (hK := ?a) (hfo := ?b) (hbody := ?c) (hclo := ?d) (hglob := ?e) (hblt := ?f) (hcode := ?gg) (hco := ?h) (hgen := ?i) (hk := ?j)
    (bd := [("a", a), ("x", x), ("lo", .int lo), ("hi", hiD), ("key", kd)]) ?bb (nm := ["a", "x", "lo", "hi", "key"]) (hnm := rfl) (hnames := ?k) (by decide) (hcn := ?l) ?_
  case a => rw [hK]; rfl
  case b => rfl
  case c => rfl
  case d => rfl
  case e => rfl
  case f => rfl
  case gg => rw [hK]; rfl
  case h => rfl
  case i => rfl
  case j => rfl
  case k => rfl
  case l => decide
  case bb => exact hb _ _ (by rw [hK]; rfl) rfl
  intro env own L he ho
  repeat' walk_at "st"
  refine dec_of (fun h => absurd h (by lia)) fun _ => ?_
  refine Ex.nil (next_of ?_)
  refine Ex.seq (fun ρ' μ' => μ' = μ ∧ ρ' "a" = some a ∧ ρ' "x" = some x ∧ ρ' "lo" = some (.int lo) ∧ ρ' "hi" = some (.int hi) ∧ ρ' "key" = some kd) ?_ ?_
  · rcases hhd with rfl | ⟨rfl, rfl⟩
    · repeat' walk_at "st"
      exact ⟨rfl, rfl, by walk_at "rho", by walk_at "rho", by walk_at "rho", by walk_at "rho", by walk_at "rho"⟩
    · repeat' walk_at "st"
      refine len_D hr hl ?_
      repeat' walk_at "st"
      exact ⟨rfl, rfl, by walk_at "rho", by walk_at "rho", by walk_at "rho", by walk_at "rho", by walk_at "rho"⟩
  rintro ρ μ' ⟨rfl, h1, h2, h3, h4, h5⟩
  repeat' walk_at "st"
  refine Act2.isnone hkn ?_
  repeat' walk_at "st"
  refine Ex1.while (I := fun k ρ μ₁ => ∃ lo' hi' : Nat, μ₁ = μ' ∧ hi' ≤ ds.length ∧ bis p lo' hi' = bis p lo hi ∧ k = hi' - lo' ∧ ρ "a" = some a ∧ ρ "x" = some x ∧ ρ "lo" = some (.int lo') ∧ ρ "hi" = some (.int hi') ∧ ρ "key" = some kd) (hi - lo)
    ⟨lo, hi, rfl, hhi, rfl, rfl, h1, h2, h3, h4, h5⟩ ?_
  rintro k ρ μ₁ ⟨lo', hi', rfl, hh, hb, rfl, h1, h2, h3, h4, h5⟩
  repeat' walk_at "st"
  refine dec_of (fun hlt => ?_) fun hge => ?_
  · have hm : ((lo' : Int) + hi').fdiv 2 = (((lo' + hi') / 2 : Nat) : Int) := by rw [Int.fdiv_eq_ediv_of_nonneg _ (by decide)]; lia
    have hlt' : lo' < hi' := by lia
    have hb' := hb
    rw [bis_eq, if_pos hlt'] at hb'
    repeat' walk_at "st"
    have hidx : (lo' + hi') / 2 < ds.length := by lia
    rw [hm]
    refine Act2.item hr (d := ds[(lo' + hi') / 2]) (idx?_nat.trans (List.getElem?_eq_getElem hidx)) hl ?_ (fun _ _ => rfl)
    obtain ⟨e, hke, hle⟩ := hp _ _ (List.getElem?_eq_getElem hidx)
    refine hke _ _ _ ?_
    repeat' walk_at "st"
    refine hle _ _ _ _ ?_
    repeat' walk_at "st"
    cases hpm : p ((lo' + hi') / 2) with
    | true =>
      rw [hpm, if_pos rfl] at hb'
      try refine (show _ from Eq.mp (by rw [Bool.not_true]) ?_)
      repeat' walk_at "st"
      exact ⟨(lo' + hi') / 2 - lo', by lia, lo', (lo' + hi') / 2, rfl, by lia, hb', rfl, by walk_at "rho", by walk_at "rho", by walk_at "rho", by walk_at "rho", by walk_at "rho"⟩
    | false =>
      rw [hpm, if_neg (by decide)] at hb'
      try refine (show _ from Eq.mp (by rw [Bool.not_false]) ?_)
      repeat' walk_at "st"
      exact ⟨hi' - ((lo' + hi') / 2 + 1), by lia, (lo' + hi') / 2 + 1, hi', rfl, by lia, hb', rfl, by walk_at "rho", by walk_at "rho", upd_same.trans (congrArg (fun z => some (D.int z)) (by lia)), by walk_at "rho", by walk_at "rho"⟩
  · repeat' walk_at "st"
    rw [bis_eq, if_neg (by lia)] at hb
    rw [hb]; exact h

theorem bisL_body {a x : D} {ds : List D} {lo hi : Nat} {p : Nat → Bool} {n : Nat} {μ : Mu} {Q : D → Mu → Prop} {args kws hiD} (hb : BindsAt g 50 args kws [("a", a), ("x", x), ("lo", .int lo), ("hi", hiD), ("key", .none)])
    (hr : Rd μ a ds) (hl : (ds.length : Int) < 2 ^ 62) (hhi : hi ≤ ds.length) (hhd : hiD = .int hi ∨ (hiD = .none ∧ hi = ds.length))
    (hp : ∀ i d, ds[i]? = some d → LtOk d x (!p i)) (h : Q (.int (bis p lo hi)) μ) :
    Calls g (n + 1) (.val (.ref 50)) args kws μ Q := by
  refine' Calls.enter (fa := 50) (hK := ?a) (hfo := ?b) (hbody := ?c) (hclo := ?d) (hglob := ?e) (hblt := ?f) (hcode := ?gg) (hco := ?h) (hgen := ?i) (hk := ?j)
    (bd := [("a", a), ("x", x), ("lo", .int lo), ("hi", hiD), ("key", .none)]) ?bb (nm := ["a", "x", "lo", "hi", "key"]) (hnm := rfl) (hnames := ?k) (by decide) (hcn := ?l) ?_
  case a => rw [hK]; rfl
  case b => rfl
  case c => rfl
  case d => rfl
  case e => rfl
  case f => rfl
  case gg => rw [hK]; rfl
  case h => rfl
  case i => rfl
  case j => rfl
  case k => rfl
  case l => decide
  case bb => exact hb _ _ (by rw [hK]; rfl) rfl
  intro env own L he ho
  repeat' walk_at "st"
  refine dec_of (fun h => absurd h (by lia)) fun _ => ?_
  refine Ex.nil (next_of ?_)
  refine Ex.seq (fun ρ' μ' => μ' = μ ∧ ρ' "a" = some a ∧ ρ' "x" = some x ∧ ρ' "lo" = some (.int lo) ∧ ρ' "hi" = some (.int hi) ∧ ρ' "key" = some .none) ?_ ?_
  · rcases hhd with rfl | ⟨rfl, rfl⟩
    · repeat' walk_at "st"
      exact ⟨rfl, rfl, by walk_at "rho", by walk_at "rho", by walk_at "rho", by walk_at "rho", by walk_at "rho"⟩
    · repeat' walk_at "st"
      refine len_D hr hl ?_
      repeat' walk_at "st"
      exact ⟨rfl, rfl, by walk_at "rho", by walk_at "rho", by walk_at "rho", by walk_at "rho", by walk_at "rho"⟩
  rintro ρ μ' ⟨rfl, h1, h2, h3, h4, h5⟩
  repeat' walk_at "st"
  refine Ex1.while (I := fun k ρ μ₁ => ∃ lo' hi' : Nat, μ₁ = μ' ∧ hi' ≤ ds.length ∧ bis p lo' hi' = bis p lo hi ∧ k = hi' - lo' ∧ ρ "a" = some a ∧ ρ "x" = some x ∧ ρ "lo" = some (.int lo') ∧ ρ "hi" = some (.int hi')) (hi - lo)
    ⟨lo, hi, rfl, hhi, rfl, rfl, h1, h2, h3, h4⟩ ?_
  rintro k ρ μ₁ ⟨lo', hi', rfl, hh, hb, rfl, h1, h2, h3, h4⟩
  repeat' walk_at "st"
  refine dec_of (fun hlt => ?_) fun hge => ?_
  · have hm : ((lo' : Int) + hi').fdiv 2 = (((lo' + hi') / 2 : Nat) : Int) := by rw [Int.fdiv_eq_ediv_of_nonneg _ (by decide)]; lia
    have hlt' : lo' < hi' := by lia
    have hb' := hb
    rw [bis_eq, if_pos hlt'] at hb'
    repeat' walk_at "st"
    have hidx : (lo' + hi') / 2 < ds.length := by lia
    rw [hm]
    refine Act2.item hr (d := ds[(lo' + hi') / 2]) (idx?_nat.trans (List.getElem?_eq_getElem hidx)) hl ?_ (fun _ _ => rfl)
    repeat' walk_at "st"
    refine hp _ _ (List.getElem?_eq_getElem hidx) _ _ _ _ ?_
    repeat' walk_at "st"
    cases hpm : p ((lo' + hi') / 2) with
    | true =>
      rw [hpm, if_pos rfl] at hb'
      try refine (show _ from Eq.mp (by rw [Bool.not_true]) ?_)
      repeat' walk_at "st"
      exact ⟨(lo' + hi') / 2 - lo', by lia, lo', (lo' + hi') / 2, rfl, by lia, hb', rfl, by walk_at "rho", by walk_at "rho", by walk_at "rho", by walk_at "rho"⟩
    | false =>
      rw [hpm, if_neg (by decide)] at hb'
      try refine (show _ from Eq.mp (by rw [Bool.not_false]) ?_)
      repeat' walk_at "st"
      exact ⟨hi' - ((lo' + hi') / 2 + 1), by lia, (lo' + hi') / 2 + 1, hi', rfl, by lia, hb', rfl, by walk_at "rho", by walk_at "rho", upd_same.trans (congrArg (fun z => some (D.int z)) (by lia)), by walk_at "rho"⟩
  · repeat' walk_at "st"
    rw [bis_eq, if_neg (by lia)] at hb
    rw [hb]; exact h

theorem bisLk_body {a x kd : D} {ds : List D} {lo hi : Nat} {p : Nat → Bool} {n : Nat} {μ : Mu} {Q : D → Mu → Prop} {args kws hiD} (hb : BindsAt g 50 args kws [("a", a), ("x", x), ("lo", .int lo), ("hi", hiD), ("key", kd)])
    (hr : Rd μ a ds) (hl : (ds.length : Int) < 2 ^ 62) (hhi : hi ≤ ds.length) (hhd : hiD = .int hi ∨ (hiD = .none ∧ hi = ds.length))
    (hkn : isNone kd = some false) (hkk : KeepD g kd) (hp : ∀ i d, ds[i]? = some d → ∃ e, KeyOk g n kd d e ∧ LtOk e x (!p i)) (h : Q (.int (bis p lo hi)) μ) :
    Calls g (n + 1) (.val (.ref 50)) args kws μ Q := by
  refine' Calls.enter (fa := 50) (hK := ?a) (hfo := ?b) (hbody := ?c) (hclo := ?d) (hglob := ?e) (hblt := ?f) (hcode := ?gg) (hco := ?h) (hgen := ?i) (hk := ?j)
    (bd := [("a", a), ("x", x), ("lo", .int lo), ("hi", hiD), ("key", kd)]) ?bb (nm := ["a", "x", "lo", "hi", "key"]) (hnm := rfl) (hnames := ?k) (by decide) (hcn := ?l) ?_
  case a => rw [hK]; rfl
  case b => rfl
  case c => rfl
  case d => rfl
  case e => rfl
  case f => rfl
  case gg => rw [hK]; rfl
  case h => rfl
  case i => rfl
  case j => rfl
  case k => rfl
  case l => decide
  case bb => exact hb _ _ (by rw [hK]; rfl) rfl
  intro env own L he ho
  repeat' walk_at "st"
  refine dec_of (fun h => absurd h (by lia)) fun _ => ?_
  refine Ex.nil (next_of ?_)
  refine Ex.seq (fun ρ' μ' => μ' = μ ∧ ρ' "a" = some a ∧ ρ' "x" = some x ∧ ρ' "lo" = some (.int lo) ∧ ρ' "hi" = some (.int hi) ∧ ρ' "key" = some kd) ?_ ?_
  · rcases hhd with rfl | ⟨rfl, rfl⟩
    · repeat' walk_at "st"
      exact ⟨rfl, rfl, by walk_at "rho", by walk_at "rho", by walk_at "rho", by walk_at "rho", by walk_at "rho"⟩
    · repeat' walk_at "st"
      refine len_D hr hl ?_
      repeat' walk_at "st"
      exact ⟨rfl, rfl, by walk_at "rho", by walk_at "rho", by walk_at "rho", by walk_at "rho", by walk_at "rho"⟩
  rintro ρ μ' ⟨rfl, h1, h2, h3, h4, h5⟩
  repeat' walk_at "st"
  refine Act2.isnone hkn ?_
  repeat' walk_at "st"
  refine Ex1.while (I := fun k ρ μ₁ => ∃ lo' hi' : Nat, μ₁ = μ' ∧ hi' ≤ ds.length ∧ bis p lo' hi' = bis p lo hi ∧ k = hi' - lo' ∧ ρ "a" = some a ∧ ρ "x" = some x ∧ ρ "lo" = some (.int lo') ∧ ρ "hi" = some (.int hi') ∧ ρ "key" = some kd) (hi - lo)
    ⟨lo, hi, rfl, hhi, rfl, rfl, h1, h2, h3, h4, h5⟩ ?_
  rintro k ρ μ₁ ⟨lo', hi', rfl, hh, hb, rfl, h1, h2, h3, h4, h5⟩
  repeat' walk_at "st"
  refine dec_of (fun hlt => ?_) fun hge => ?_
  · have hm : ((lo' : Int) + hi').fdiv 2 = (((lo' + hi') / 2 : Nat) : Int) := by rw [Int.fdiv_eq_ediv_of_nonneg _ (by decide)]; lia
    have hlt' : lo' < hi' := by lia
    have hb' := hb
    rw [bis_eq, if_pos hlt'] at hb'
    repeat' walk_at "st"
    have hidx : (lo' + hi') / 2 < ds.length := by lia
    rw [hm]
    refine Act2.item hr (d := ds[(lo' + hi') / 2]) (idx?_nat.trans (List.getElem?_eq_getElem hidx)) hl ?_ (fun _ _ => rfl)
    obtain ⟨e, hke, hle⟩ := hp _ _ (List.getElem?_eq_getElem hidx)
    refine hke _ _ _ ?_
    repeat' walk_at "st"
    refine hle _ _ _ _ ?_
    repeat' walk_at "st"
    cases hpm : p ((lo' + hi') / 2) with
    | true =>
      rw [hpm, if_pos rfl] at hb'
      try refine (show _ from Eq.mp (by rw [Bool.not_true]) ?_)
      repeat' walk_at "st"
      exact ⟨(lo' + hi') / 2 - lo', by lia, lo', (lo' + hi') / 2, rfl, by lia, hb', rfl, by walk_at "rho", by walk_at "rho", by walk_at "rho", by walk_at "rho", by walk_at "rho"⟩
    | false =>
      rw [hpm, if_neg (by decide)] at hb'
      try refine (show _ from Eq.mp (by rw [Bool.not_false]) ?_)
      repeat' walk_at "st"
      exact ⟨hi' - ((lo' + hi') / 2 + 1), by lia, (lo' + hi') / 2 + 1, hi', rfl, by lia, hb', rfl, by walk_at "rho", by walk_at "rho", upd_same.trans (congrArg (fun z => some (D.int z)) (by lia)), by walk_at "rho", by walk_at "rho"⟩
  · repeat' walk_at "st"
    rw [bis_eq, if_neg (by lia)] at hb
    rw [hb]; exact h

end

open PySem PySem.W PySem.Calls PyProof.Rows
set_option maxRecDepth 20000
section
variable {g : G} (hK : g.K = hd.heap_39 g.w.params)
include hK

theorem insR_body {x : D} {ad : Addr} {ds : List D} {lo hi : Nat} {p : Nat → Bool} {n : Nat} {μ : Mu} {Q : D → Mu → Prop} {args kws hiD} (hb : BindsAt g 23 args kws [("a", .val (.ref ad)), ("x", x), ("lo", .int lo), ("hi", hiD), ("key", .none)])
    (hm : (ad, .ml ds) ∈ μ) (hl : ds.length ≤ 10000) (hlh : lo ≤ hi) (hhi : hi ≤ ds.length) (hhd : hiD = .int hi ∨ (hiD = .none ∧ hi = ds.length))
    (hp : ∀ i d, ds[i]? = some d → LtOk x d (p i)) (h : Q .none (setMu ad (.ml (insAt (bis p lo hi) x ds)) μ)) :
    Calls g (n + 3) (.val (.ref 23)) args kws μ Q := by
  refine' Calls.enter (fa := 23) (hK := ?a) (hfo := ?b) (hbody := ?c) (hclo := ?d) (hglob := ?e) (hblt := ?f) (hcode := ?gg) (hco := ?h) (hgen := ?i) (hk := ?j)
    (bd := [("a", .val (.ref ad)), ("x", x), ("lo", .int lo), ("hi", hiD), ("key", .none)]) ?bb (nm := ["a", "x", "lo", "hi", "key"]) (hnm := rfl) (hnames := ?k) (by decide) (hcn := ?l) ?_
  case a => rw [hK]; rfl
  case b => rfl
  case c => rfl
  case d => rfl
  case e => rfl
  case f => rfl
  case gg => rw [hK]; rfl
  case h => rfl
  case i => rfl
  case j => rfl
  case k => rfl
  case l => decide
  case bb => exact hb _ _ (by rw [hK]; rfl) rfl
  intro env own L he ho
  repeat' walk_at "st"
  repeat' walk_at "st"
  refine bisR_body (g := g.push env) hK (p := p) (BB.ok hK (by constructor)) (.mu hm) (by lia) hhi hhd hp ?_
  repeat' walk_at "st"
  refine Ex1.expr (Ev.meth (id := "list.insert") ?_ PySem.F.slot_list_insert PySem.F.type_list_insert)
  repeat' walk_at "st"
  refine ⟨⟨_, .mu hm⟩, ?_⟩
  repeat' walk_at "st"
  refine Calls.insert hm hl (Nat.le_trans (bis_le hlh).2 hhi) ?_
  refine ⟨rfl, ?_⟩
  repeat' walk_at "st"
  exact h

theorem insRk_body {x kd ex : D} {ad : Addr} {ds : List D} {lo hi : Nat} {p : Nat → Bool} {n : Nat} {μ : Mu} {Q : D → Mu → Prop} {args kws hiD} (hb : BindsAt g 23 args kws [("a", .val (.ref ad)), ("x", x), ("lo", .int lo), ("hi", hiD), ("key", kd)])
    (hm : (ad, .ml ds) ∈ μ) (hl : ds.length ≤ 10000) (hlh : lo ≤ hi) (hhi : hi ≤ ds.length) (hhd : hiD = .int hi ∨ (hiD = .none ∧ hi = ds.length))
    (hkn : isNone kd = some false) (hkk : KeepD g kd) (hkx : ∀ m, KeyOk g (m + 1) kd x ex) (hp : ∀ i d, ds[i]? = some d → ∃ e, (∀ m, KeyOk g (m + 1) kd d e) ∧ LtOk ex e (p i)) (h : Q .none (setMu ad (.ml (insAt (bis p lo hi) x ds)) μ)) :
    Calls g (n + 3) (.val (.ref 23)) args kws μ Q := by
  refine' Calls.enter (fa := 23) (hK := ?a) (hfo := ?b) (hbody := ?c) (hclo := ?d) (hglob := ?e) (hblt := ?f) (hcode := ?gg) (hco := ?h) (hgen := ?i) (hk := ?j)
    (bd := [("a", .val (.ref ad)), ("x", x), ("lo", .int lo), ("hi", hiD), ("key", kd)]) ?bb (nm := ["a", "x", "lo", "hi", "key"]) (hnm := rfl) (hnames := ?k) (by decide) (hcn := ?l) ?_
  case a => rw [hK]; rfl
  case b => rfl
  case c => rfl
  case d => rfl
  case e => rfl
  case f => rfl
  case gg => rw [hK]; rfl
  case h => rfl
  case i => rfl
  case j => rfl
  case k => rfl
  case l => decide
  case bb => exact hb _ _ (by rw [hK]; rfl) rfl
  intro env own L he ho
  repeat' walk_at "st"
  refine Act2.isnone hkn ?_
  repeat' walk_at "st"
  refine hkx _ _ _ _ ?_
  repeat' walk_at "st"
  refine bisRk_body (g := g.push env) hK (p := p) (BB.ok hK (by constructor)) (.mu hm) (by lia) hhi hhd hkn hkk (fun i d e => let ⟨y, h1, h2⟩ := hp i d e; ⟨y, h1 _, h2⟩) ?_
  repeat' walk_at "st"
  refine Ex1.expr (Ev.meth (id := "list.insert") ?_ PySem.F.slot_list_insert PySem.F.type_list_insert)
  repeat' walk_at "st"
  refine ⟨⟨_, .mu hm⟩, ?_⟩
  repeat' walk_at "st"
  refine Calls.insert hm hl (Nat.le_trans (bis_le hlh).2 hhi) ?_
  refine ⟨rfl, ?_⟩
  repeat' walk_at "st"
  exact h

theorem insL_body {x : D} {ad : Addr} {ds : List D} {lo hi : Nat} {p : Nat → Bool} {n : Nat} {μ : Mu} {Q : D → Mu → Prop} {args kws hiD} (hb : BindsAt g 41 args kws [("a", .val (.ref ad)), ("x", x), ("lo", .int lo), ("hi", hiD), ("key", .none)])
    (hm : (ad, .ml ds) ∈ μ) (hl : ds.length ≤ 10000) (hlh : lo ≤ hi) (hhi : hi ≤ ds.length) (hhd : hiD = .int hi ∨ (hiD = .none ∧ hi = ds.length))
    (hp : ∀ i d, ds[i]? = some d → LtOk d x (!p i)) (h : Q .none (setMu ad (.ml (insAt (bis p lo hi) x ds)) μ)) :
    Calls g (n + 3) (.val (.ref 41)) args kws μ Q := by
  refine' Calls.enter (fa := 41) (hK := ?a) (hfo := ?b) (hbody := ?c) (hclo := ?d) (hglob := ?e) (hblt := ?f) (hcode := ?gg) (hco := ?h) (hgen := ?i) (hk := ?j)
    (bd := [("a", .val (.ref ad)), ("x", x), ("lo", .int lo), ("hi", hiD), ("key", .none)]) ?bb (nm := ["a", "x", "lo", "hi", "key"]) (hnm := rfl) (hnames := ?k) (by decide) (hcn := ?l) ?_
  case a => rw [hK]; rfl
  case b => rfl
  case c => rfl
  case d => rfl
  case e => rfl
  case f => rfl
  case gg => rw [hK]; rfl
  case h => rfl
  case i => rfl
  case j => rfl
  case k => rfl
  case l => decide
  case bb => exact hb _ _ (by rw [hK]; rfl) rfl
  intro env own L he ho
  repeat' walk_at "st"
  repeat' walk_at "st"
  refine bisL_body (g := g.push env) hK (p := p) (BB.ok hK (by constructor)) (.mu hm) (by lia) hhi hhd hp ?_
  repeat' walk_at "st"
  refine Ex1.expr (Ev.meth (id := "list.insert") ?_ PySem.F.slot_list_insert PySem.F.type_list_insert)
  repeat' walk_at "st"
  refine ⟨⟨_, .mu hm⟩, ?_⟩
  repeat' walk_at "st"
  refine Calls.insert hm hl (Nat.le_trans (bis_le hlh).2 hhi) ?_
  refine ⟨rfl, ?_⟩
  repeat' walk_at "st"
  exact h

theorem insLk_body {x kd ex : D} {ad : Addr} {ds : List D} {lo hi : Nat} {p : Nat → Bool} {n : Nat} {μ : Mu} {Q : D → Mu → Prop} {args kws hiD} (hb : BindsAt g 41 args kws [("a", .val (.ref ad)), ("x", x), ("lo", .int lo), ("hi", hiD), ("key", kd)])
    (hm : (ad, .ml ds) ∈ μ) (hl : ds.length ≤ 10000) (hlh : lo ≤ hi) (hhi : hi ≤ ds.length) (hhd : hiD = .int hi ∨ (hiD = .none ∧ hi = ds.length))
    (hkn : isNone kd = some false) (hkk : KeepD g kd) (hkx : ∀ m, KeyOk g (m + 1) kd x ex) (hp : ∀ i d, ds[i]? = some d → ∃ e, (∀ m, KeyOk g (m + 1) kd d e) ∧ LtOk e ex (!p i)) (h : Q .none (setMu ad (.ml (insAt (bis p lo hi) x ds)) μ)) :
    Calls g (n + 3) (.val (.ref 41)) args kws μ Q := by
  refine' Calls.enter (fa := 41) (hK := ?a) (hfo := ?b) (hbody := ?c) (hclo := ?d) (hglob := ?e) (hblt := ?f) (hcode := ?gg) (hco := ?h) (hgen := ?i) (hk := ?j)
    (bd := [("a", .val (.ref ad)), ("x", x), ("lo", .int lo), ("hi", hiD), ("key", kd)]) ?bb (nm := ["a", "x", "lo", "hi", "key"]) (hnm := rfl) (hnames := ?k) (by decide) (hcn := ?l) ?_
  case a => rw [hK]; rfl
  case b => rfl
  case c => rfl
  case d => rfl
  case e => rfl
  case f => rfl
  case gg => rw [hK]; rfl
  case h => rfl
  case i => rfl
  case j => rfl
  case k => rfl
  case l => decide
  case bb => exact hb _ _ (by rw [hK]; rfl) rfl
  intro env own L he ho
  repeat' walk_at "st"
  refine Act2.isnone hkn ?_
  repeat' walk_at "st"
  refine hkx _ _ _ _ ?_
  repeat' walk_at "st"
  refine bisLk_body (g := g.push env) hK (p := p) (BB.ok hK (by constructor)) (.mu hm) (by lia) hhi hhd hkn hkk (fun i d e => let ⟨y, h1, h2⟩ := hp i d e; ⟨y, h1 _, h2⟩) ?_
  repeat' walk_at "st"
  refine Ex1.expr (Ev.meth (id := "list.insert") ?_ PySem.F.slot_list_insert PySem.F.type_list_insert)
  repeat' walk_at "st"
  refine ⟨⟨_, .mu hm⟩, ?_⟩
  repeat' walk_at "st"
  refine Calls.insert hm hl (Nat.le_trans (bis_le hlh).2 hhi) ?_
  refine ⟨rfl, ?_⟩
  repeat' walk_at "st"
  exact h

end

open PySem PySem.W PySem.Calls PyProof.Rows
set_option maxRecDepth 20000
section
variable {g : G} (hK : g.K = hd.heap_39 g.w.params)

/-- the row's places: x < row[i] ; not row[i] < x -/
def gtAt (row : List Int) (x : Int) (i : Nat) : Bool := decide (x < row.getD i 0)
def geAt (row : List Int) (x : Int) (i : Nat) : Bool := !decide (row.getD i 0 < x)
theorem gtAt_ok {row : List Int} {x : Int} (i : Nat) (d : D) (h : (row.map D.int)[i]? = some d) : LtOk (.int x) d (gtAt row x i) := by
  rw [List.getElem?_map] at h
  cases hi : row[i]? with
  | none => rw [hi] at h; cases h
  | some y => rw [hi] at h; cases h; unfold gtAt; rw [List.getD_eq_getElem?_getD, hi]; exact LtOk.int
theorem geAt_ok {row : List Int} {x : Int} (i : Nat) (d : D) (h : (row.map D.int)[i]? = some d) : LtOk d (.int x) (!geAt row x i) := by
  rw [List.getElem?_map] at h
  cases hi : row[i]? with
  | none => rw [hi] at h; cases h
  | some y => rw [hi] at h; cases h; unfold geAt; rw [Bool.not_not, List.getD_eq_getElem?_getD, hi]; exact LtOk.int

include hK
theorem bisR_call2 {a : D} {row : List Int} {x : Int} {n : Nat} {μ : Mu} {Q : D → Mu → Prop} (hr : Rd μ a (row.map .int)) (hl : row.length ≤ 10000) (h : Q (.int (bis (gtAt row x) 0 row.length : Nat)) μ) :
    Calls g (n + 1) (.val (.ref 32)) [a, .int x] [] μ Q := by
  refine bisR_body hK (p := gtAt row x) (lo := 0) (hi := row.length) (hiD := .none) (BB.ok hK (by constructor)) hr (by simp; omega) (by simp) (.inr ⟨rfl, by simp⟩) gtAt_ok h
end

open PySem PySem.W PySem.Calls PyProof.Rows
set_option maxRecDepth 20000
section
variable {g : G} (hK : g.K = hd.heap_39 g.w.params)
include hK

theorem bisR_neg {a x hiD kd : D} {lo : Int} {n : Nat} {μ : Mu} {P : Mu → Prop} {args kws} (hb : BindsAt g 32 args kws [("a", a), ("x", x), ("lo", .int lo), ("hi", hiD), ("key", kd)]) (hlo : lo < 0) (h : P μ) :
    CallsR g (n + 1) μ (.val (.ref 32)) args kws "lo must be non-negative" P := by
  refine' CallsR.enter (fa := 32) (hK := ?a) (hfo := ?b) (hbody := ?c) (hclo := ?d) (hglob := ?e) (hblt := ?f) (hcode := ?gg) (hco := ?h) (hgen := ?i) (hk := ?j)
    (bd := [("a", a), ("x", x), ("lo", .int lo), ("hi", hiD), ("key", kd)]) ?bb (nm := ["a", "x", "lo", "hi", "key"]) (hnm := rfl) (hnames := ?k) (by decide) (hcn := ?l) ?_
  case a => rw [hK]; rfl
  case b => rfl
  case c => rfl
  case d => rfl
  case e => rfl
  case f => rfl
  case gg => rw [hK]; rfl
  case h => rfl
  case i => rfl
  case j => rfl
  case k => rfl
  case l => decide
  case bb => exact hb _ _ (by rw [hK]; rfl) rfl
  intro env own L he ho
  refine Raises.here (Raises1.ite ?_)
  repeat' walk_at "st"
  refine dec_of (fun _ => ?_) fun q => absurd hlo q
  refine Raises.here (Raises1.raise (by walk_at "kind") (by walk_at "isk") h)

theorem bisL_neg {a x hiD kd : D} {lo : Int} {n : Nat} {μ : Mu} {P : Mu → Prop} {args kws} (hb : BindsAt g 50 args kws [("a", a), ("x", x), ("lo", .int lo), ("hi", hiD), ("key", kd)]) (hlo : lo < 0) (h : P μ) :
    CallsR g (n + 1) μ (.val (.ref 50)) args kws "lo must be non-negative" P := by
  refine' CallsR.enter (fa := 50) (hK := ?a) (hfo := ?b) (hbody := ?c) (hclo := ?d) (hglob := ?e) (hblt := ?f) (hcode := ?gg) (hco := ?h) (hgen := ?i) (hk := ?j)
    (bd := [("a", a), ("x", x), ("lo", .int lo), ("hi", hiD), ("key", kd)]) ?bb (nm := ["a", "x", "lo", "hi", "key"]) (hnm := rfl) (hnames := ?k) (by decide) (hcn := ?l) ?_
  case a => rw [hK]; rfl
  case b => rfl
  case c => rfl
  case d => rfl
  case e => rfl
  case f => rfl
  case gg => rw [hK]; rfl
  case h => rfl
  case i => rfl
  case j => rfl
  case k => rfl
  case l => decide
  case bb => exact hb _ _ (by rw [hK]; rfl) rfl
  intro env own L he ho
  refine Raises.here (Raises1.ite ?_)
  repeat' walk_at "st"
  refine dec_of (fun _ => ?_) fun q => absurd hlo q
  refine Raises.here (Raises1.raise (by walk_at "kind") (by walk_at "isk") h)

theorem insR_neg {a x hiD : D} {lo : Int} {n : Nat} {μ : Mu} {P : Mu → Prop} {args kws} (hb : BindsAt g 23 args kws [("a", a), ("x", x), ("lo", .int lo), ("hi", hiD), ("key", .none)]) (hlo : lo < 0) (h : P μ) :
    CallsR g (n + 3) μ (.val (.ref 23)) args kws "lo must be non-negative" P := by
  refine' CallsR.enter (fa := 23) (hK := ?a) (hfo := ?b) (hbody := ?c) (hclo := ?d) (hglob := ?e) (hblt := ?f) (hcode := ?gg) (hco := ?h) (hgen := ?i) (hk := ?j)
    (bd := [("a", a), ("x", x), ("lo", .int lo), ("hi", hiD), ("key", .none)]) ?bb (nm := ["a", "x", "lo", "hi", "key"]) (hnm := rfl) (hnames := ?k) (by decide) (hcn := ?l) ?_
  case a => rw [hK]; rfl
  case b => rfl
  case c => rfl
  case d => rfl
  case e => rfl
  case f => rfl
  case gg => rw [hK]; rfl
  case h => rfl
  case i => rfl
  case j => rfl
  case k => rfl
  case l => decide
  case bb => exact hb _ _ (by rw [hK]; rfl) rfl
  intro env own L he ho
  refine Raises.here (Raises1.ite ?_)
  repeat' walk_at "st"
  refine Raises.here (Raises1.assign (RaisesE.call ?_))
  repeat' walk_at "st"
  exact bisR_neg (g := g.push env) hK (BB.ok hK (by constructor)) hlo h

theorem insL_neg {a x hiD : D} {lo : Int} {n : Nat} {μ : Mu} {P : Mu → Prop} {args kws} (hb : BindsAt g 41 args kws [("a", a), ("x", x), ("lo", .int lo), ("hi", hiD), ("key", .none)]) (hlo : lo < 0) (h : P μ) :
    CallsR g (n + 3) μ (.val (.ref 41)) args kws "lo must be non-negative" P := by
  refine' CallsR.enter (fa := 41) (hK := ?a) (hfo := ?b) (hbody := ?c) (hclo := ?d) (hglob := ?e) (hblt := ?f) (hcode := ?gg) (hco := ?h) (hgen := ?i) (hk := ?j)
    (bd := [("a", a), ("x", x), ("lo", .int lo), ("hi", hiD), ("key", .none)]) ?bb (nm := ["a", "x", "lo", "hi", "key"]) (hnm := rfl) (hnames := ?k) (by decide) (hcn := ?l) ?_
  case a => rw [hK]; rfl
  case b => rfl
  case c => rfl
  case d => rfl
  case e => rfl
  case f => rfl
  case gg => rw [hK]; rfl
  case h => rfl
  case i => rfl
  case j => rfl
  case k => rfl
  case l => decide
  case bb => exact hb _ _ (by rw [hK]; rfl) rfl
  intro env own L he ho
  refine Raises.here (Raises1.ite ?_)
  repeat' walk_at "st"
  refine Raises.here (Raises1.assign (RaisesE.call ?_))
  repeat' walk_at "st"
  exact bisL_neg (g := g.push env) hK (BB.ok hK (by constructor)) hlo h

end

open PySem PySem.W PySem.Calls PyProof.Rows
set_option maxRecDepth 20000
section
variable {g : G} (hK : g.K = hd.heap_39 g.w.params)
include hK
/-- _law_refused: what refuses gives its words -/
theorem refused2 {f a : D} {low : Int} {n : Nat} {μ : Mu} {Q : D → Mu → Prop} (hk : KeepD g f) (hf : ∀ env, CallsR (g.push env) (n + 10) μ f [a, .int 0, .int low] [] "lo must be non-negative" (fun μ' => μ' = μ)) (h : Q (.str "lo must be non-negative") μ) :
    Calls g (n + 11) (.val (.ref 71)) [f, a, .int low] [] μ Q := by
  refine' Calls.enter (fa := 71) (hK := ?a) (hfo := ?b) (hbody := ?c) (hclo := ?d) (hglob := ?e) (hblt := ?f) (hcode := ?gg) (hco := ?h) (hgen := ?i) (hk := ?j)
    (bd := [("search", f), ("row", a), ("low", .int low)]) ?bb (nm := ["search", "row", "low"]) (hnm := rfl) (hnames := ?k) (by decide) (hcn := ?l) ?_
  case a => rw [hK]; rfl
  case b => rfl
  case c => rfl
  case d => rfl
  case e => rfl
  case f => rfl
  case gg => rw [hK]; rfl
  case h => rfl
  case i => rfl
  case j => rfl
  case k => rfl
  case l => decide
  case bb => exact (BB.ok (fa := 71) hK (by constructor)) _ _ (by rw [hK]; rfl) rfl
  intro env own L he ho
  refine Ex.cons (Ex1.tryE (g := g) (msg := "lo must be non-negative") (P := fun μ' => μ' = μ) (RaisesE.call ?_) (by walk_at "kind") (by walk_at "kind") (by walk_at "isk") ?_)
  · repeat' walk_at "st"
    exact hf env
  · rintro μ' rfl
    exact SuiteOk.ret (by omega) (by walk_at "kind") (by walk_at "kind") (by walk_at "isk") fun ρ' => ret_of h
/-- _law_divisor -/
theorem divisor_body {a : D} {ns : List Nat} {n : Nat} {μ : Mu} {Q : D → Mu → Prop} (hr : a = .lst (ns.map fun (x : Nat) => .int x)) (hs : ∀ x ∈ ns, x < 2 ^ 40) (h : Q (.int (ns.foldl Nat.gcd 0 : Nat)) μ) :
    Calls g (n + 6) (.val (.ref 78)) [a] [] μ Q := by
  refine' Calls.enter (fa := 78) (hK := ?a) (hfo := ?b) (hbody := ?c) (hclo := ?d) (hglob := ?e) (hblt := ?f) (hcode := ?gg) (hco := ?h) (hgen := ?i) (hk := ?j)
    (bd := [("numbers", a)]) ?bb (nm := ["numbers"]) (hnm := rfl) (hnames := ?k) (by decide) (hcn := ?l) ?_
  case a => rw [hK]; rfl
  case b => rfl
  case c => rfl
  case d => rfl
  case e => rfl
  case f => rfl
  case gg => rw [hK]; rfl
  case h => rfl
  case i => rfl
  case j => rfl
  case k => rfl
  case l => decide
  case bb => exact (BB.ok (fa := 78) hK (by constructor)) _ _ (by rw [hK]; rfl) rfl
  intro env own L he ho
  subst hr
  repeat' walk_at "st"
  refine Ex1.for (by omega) (EvI.list ?_)
  repeat' walk_at "st"
  refine ⟨_, rfl, ?_⟩
  refine ForL.run (I := fun ds ρ M => M = μ ∧ ∃ done rest, ns = done ++ rest ∧ ds = (rest.map fun (x : Nat) => D.int x) ∧ ρ "common" = some (.int (done.foldl Nat.gcd 0 : Nat))) ?_ ?_ _ ⟨rfl, [], ns, rfl, rfl, by exact upd_same⟩
  · rintro d ds ρ M ⟨rfl, done, rest, hdr, hds, h1⟩
    cases rest with
    | nil => cases hds
    | cons q rest =>
      obtain ⟨rfl, rfl⟩ : d = D.int (q : Nat) ∧ ds = rest.map fun (x : Nat) => D.int x := by simpa using hds
      refine .name (bindable_local (by walk_at "kind")) ?_
      repeat' walk_at "st"
      refine Ex1.while (I := fun k ρ M' => M' = M ∧ ∃ c o : Nat, k = o ∧ Nat.gcd c o = Nat.gcd (done.foldl Nat.gcd 0) q ∧ ρ "common" = some (.int c) ∧ ρ "other" = some (.int o)) q ⟨rfl, _, q, rfl, rfl, by walk_at "rho", by walk_at "rho"⟩ ?_
      rintro k ρ M' ⟨rfl, c, o, rfl, hg, h1, h2⟩
      repeat' walk_at "st"
      by_cases hk0 : k = 0
      · subst hk0
        refine ff_of ?_
        repeat' walk_at "st"
        refine ⟨rfl, done ++ [q], rest, by rw [hdr]; simp, rfl, ?_⟩
        rw [List.foldl_append, h1]
        show some (D.int (c : Nat)) = some (D.int ((Nat.gcd (done.foldl Nat.gcd 0) q : Nat)))
        rw [← hg, Nat.gcd_zero_right]
      · have hne : ((k : Int) != 0) = true := by simpa using hk0
        rw [hne]
        refine tt_of ?_
        refine Ex.cons ?_
        first
          | refine Ex1.assignT ?_ rfl (by subst he; exact rfl)
          | refine Ex1.assignS (names := ["common", "other"]) ?_ (by intro x hx; simp only [List.mem_cons, List.not_mem_nil, or_false] at hx; rcases hx with rfl | rfl <;> exact bindable_local (by walk_at "kind")) (by subst he; exact rfl)
        repeat' walk_at "st"
        refine Act2.mod (by omega) ?_
        repeat' walk_at "st"
        have em : ((c : Int).fmod (k : Int)) = ((c % k : Nat) : Int) := by rw [Int.fmod_eq_emod_of_nonneg _ (by omega)]; omega
        rw [em]
        refine ⟨_, rfl, rfl, next_of (Ex.nil ?_)⟩
        rw [updL2]
        refine ⟨c % k, Nat.mod_lt _ (by omega), rfl, k, c % k, rfl, ?_, by walk_at "rho", by walk_at "rho"⟩
        rw [← hg, Nat.gcd_comm k, ← Nat.gcd_rec, Nat.gcd_comm]
  · rintro ρ M ⟨rfl, done, rest, hdr, hds, h1⟩
    obtain rfl : rest = [] := by cases rest with | nil => rfl | cons _ _ => cases hds
    rw [List.append_nil] at hdr
    subst hdr
    repeat' walk_at "st"
    exact h
end

theorem bis_spec' {p : Nat → Bool} {lo hi : Nat} : lo ≤ hi → (∀ i j, lo ≤ i → i ≤ j → j < hi → p i = true → p j = true) →
    lo ≤ bis p lo hi ∧ bis p lo hi ≤ hi ∧ (∀ i, lo ≤ i → i < bis p lo hi → p i = false) ∧ (∀ i, bis p lo hi ≤ i → i < hi → p i = true) := by
  refine bis_rec (C := fun lo hi r => lo ≤ hi → (∀ i j, lo ≤ i → i ≤ j → j < hi → p i = true → p j = true) → lo ≤ r ∧ r ≤ hi ∧ (∀ i, lo ≤ i → i < r → p i = false) ∧ (∀ i, r ≤ i → i < hi → p i = true)) ?_ ?_ ?_ _ lo hi (Nat.le_refl _)
  · intro lo hi h1 hp ih h mono
    obtain ⟨a, b, c, d⟩ := ih (by lia) fun i j h2 h3 h4 => mono i j h2 h3 (by lia)
    refine ⟨a, by lia, c, fun i h2 h3 => ?_⟩
    by_cases hi' : i < (lo + hi) / 2
    · exact d i h2 hi'
    · exact mono _ i (by lia) (by lia) h3 hp
  · intro lo hi h1 hp ih h mono
    obtain ⟨a, b, c, d⟩ := ih (by lia) fun i j h2 h3 h4 => mono i j (by lia) h3 h4
    refine ⟨by lia, b, fun i h2 h3 => ?_, d⟩
    by_cases hi' : (lo + hi) / 2 < i
    · exact c i (by lia) h3
    · cases hq : p i with
      | false => rfl
      | true => rw [mono i ((lo + hi) / 2) h2 (by lia) (by lia) hq] at hp; cases hp
  · intro lo hi h1 h mono
    exact ⟨Nat.le_refl _, h, fun i h2 h3 => by lia, fun i h2 h3 => by lia⟩
theorem bis_spec {p : Nat → Bool} {lo hi : Nat} (h : lo ≤ hi) (mono : ∀ i j, lo ≤ i → i ≤ j → j < hi → p i = true → p j = true) :
    lo ≤ bis p lo hi ∧ bis p lo hi ≤ hi ∧ (∀ i, lo ≤ i → i < bis p lo hi → p i = false) ∧ (∀ i, bis p lo hi ≤ i → i < hi → p i = true) := bis_spec' h mono
theorem bis_unique {p : Nat → Bool} {lo hi k : Nat} (h : lo ≤ hi) (mono : ∀ i j, lo ≤ i → i ≤ j → j < hi → p i = true → p j = true) (h1 : lo ≤ k) (h2 : k ≤ hi)
    (h3 : ∀ i, lo ≤ i → i < k → p i = false) (h4 : ∀ i, k ≤ i → i < hi → p i = true) : bis p lo hi = k := by
  obtain ⟨a, b, c, d⟩ := bis_spec h mono
  rcases Nat.lt_trichotomy (bis p lo hi) k with q | q | q
  · have := d _ (Nat.le_refl _) (by lia); rw [h3 _ a q] at this; cases this
  · exact q
  · have := c k h1 q; rw [h4 k (Nat.le_refl _) (by lia)] at this; cases this
/-- a part of the row: the whole row's place, clamped -/
theorem bis_clamp {p : Nat → Bool} {n lo hi : Nat} (hlh : lo ≤ hi) (hn : hi ≤ n) (mono : ∀ i j, i ≤ j → j < n → p i = true → p j = true) : bis p lo hi = min (max (bis p 0 n) lo) hi := by
  obtain ⟨a, b, c, d⟩ := bis_spec (lo := 0) (hi := n) (Nat.zero_le _) (fun i j _ h2 h3 => mono i j h2 h3)
  refine bis_unique hlh (fun i j _ h2 h3 => mono i j h2 (by lia)) (by lia) (by lia) (fun i h1 h2 => c i (Nat.zero_le _) (by lia)) (fun i h1 h2 => d i (by lia) (by lia))
/-- on a rising row the place counts the smaller ones -/
theorem bis_count {row : List Int} (hs : row.Pairwise (· ≤ ·)) (q : Int → Bool) (hq : ∀ a b, a ≤ b → q a = true → q b = true) : bis (fun i => q (row.getD i 0)) 0 row.length = row.countP (fun a => !q a) := by
  have key : ∀ row : List Int, row.Pairwise (· ≤ ·) → ∀ i, i < row.length → (i < row.countP (fun a => !q a) ↔ q (row.getD i 0) = false) := by
    intro row
    induction row with
    | nil => intro _ i hi; simp at hi
    | cons a r ih =>
      intro hs i hi
      rw [List.pairwise_cons] at hs
      cases hqa : q a with
      | true =>
        have hz : r.countP (fun a => !q a) = 0 := List.countP_eq_zero.mpr fun b hb => by simp [hq a b (hs.1 b hb) hqa]
        have e : (a :: r).countP (fun a => !q a) = 0 := by rw [List.countP_cons, hz]; simp [hqa]
        rw [e]
        cases i with
        | zero => simp [hqa]
        | succ i =>
          have hir : i < r.length := by simpa using hi
          have := hq a (r[i]) (hs.1 _ (List.getElem_mem hir)) hqa
          simp [List.getD_eq_getElem?_getD, hir, this]
      | false =>
        rw [List.countP_cons]; simp only [hqa, Bool.not_false, if_true]
        cases i with
        | zero => simp [hqa]
        | succ i =>
          have := ih hs.2 i (by simpa using hi)
          simpa [Nat.succ_lt_succ_iff] using this
  have hc := List.countP_le_length (p := fun a => !q a) (l := row)
  have mono : ∀ i j, 0 ≤ i → i ≤ j → j < row.length → q (row.getD i 0) = true → q (row.getD j 0) = true := fun i j _ h2 h3 h4 => by
    rcases Nat.lt_or_ge i j with hij | hij
    · refine hq _ _ ?_ h4
      have := List.pairwise_iff_getElem.mp hs i j (by lia) h3 hij
      simpa [List.getD_eq_getElem?_getD, h3, (by lia : i < row.length)] using this
    · rwa [show j = i by lia]
  refine bis_unique (Nat.zero_le _) mono (Nat.zero_le _) hc (fun i _ h2 => (key row hs i (by lia)).mp h2) fun i h1 h2 => ?_
  cases hh : q (row.getD i 0) with
  | true => rfl
  | false => exact absurd ((key row hs i h2).mpr hh) (by lia)

/-- iterate f until it stays -/
def iter (f : Int → Int) : Nat → Int → Int
  | 0, _ => -1
  | k + 1, x => if f x = x then x else iter f k (f x)
/-! laying pairs by their first -/
def insP (k : Nat) (p : Int × Int) (F : List (Int × Int)) : List (Int × Int) := F.take k ++ p :: F.drop k
def gtP (p : Int × Int) (F : List (Int × Int)) (i : Nat) : Bool := decide (p.1 < (F.getD i (0, 0)).1)
def geP (p : Int × Int) (F : List (Int × Int)) (i : Nat) : Bool := !decide ((F.getD i (0, 0)).1 < p.1)
def stepR (F : List (Int × Int)) (p : Int × Int) : List (Int × Int) := insP (bis (gtP p F) 0 F.length) p F
def stepL (F : List (Int × Int)) (p : Int × Int) : List (Int × Int) := insP (bis (geP p F) 0 F.length) p F
theorem insP_perm {k p F} : (insP k p F).Perm (p :: F) := by
  unfold insP
  have h := List.perm_middle (a := p) (l₁ := F.take k) (l₂ := F.drop k)
  rwa [List.take_append_drop] at h
theorem insP_sorted {k p F} {R : Int × Int → Int × Int → Prop} (hF : F.Pairwise R) (h1 : ∀ i, i < k → i < F.length → R (F.getD i (0, 0)) p) (h2 : ∀ i, k ≤ i → i < F.length → R p (F.getD i (0, 0)))
    (h3 : ∀ a b, a ∈ F → b ∈ F → R a p → R p b → R a b) : (insP k p F).Pairwise R := by
  unfold insP
  have ht : ∀ a ∈ F.take k, a ∈ F ∧ R a p := fun a ha => by
    obtain ⟨i, hi, rfl⟩ := List.getElem_of_mem ha
    rw [List.getElem_take]
    simp only [List.length_take] at hi
    have := h1 i (by lia) (by lia)
    have hi' : i < F.length := by lia
    simp [hi'] at this
    exact ⟨List.getElem_mem _, this⟩
  have hd : ∀ a ∈ F.drop k, a ∈ F ∧ R p a := fun a ha => by
    obtain ⟨i, hi, rfl⟩ := List.getElem_of_mem ha
    rw [List.getElem_drop]
    simp only [List.length_drop] at hi
    have := h2 (k + i) (by lia) (by lia)
    have hi' : k + i < F.length := by lia
    simp [hi'] at this
    exact ⟨List.getElem_mem _, this⟩
  refine List.pairwise_append.mpr ⟨hF.sublist (List.take_sublist _ _), List.pairwise_cons.mpr ⟨fun a ha => (hd a ha).2, hF.sublist (List.drop_sublist _ _)⟩, fun a ha b hb => ?_⟩
  rcases List.mem_cons.mp hb with rfl | hb
  · exact (ht a ha).2
  · exact h3 a b (ht a ha).1 (hd b hb).1 (ht a ha).2 (hd b hb).2
theorem plt_iff {a b : Int × Int} : plt a b = true ↔ a.1 < b.1 ∨ (a.1 = b.1 ∧ a.2 < b.2) := by simp [plt]
theorem fst_le {F : List (Int × Int)} {f : Int × Int → Int × Int} (hf : ∀ p, (f p).1 = p.1) (h : F.Pairwise fun a b => plt (f a) (f b) = true) {i j : Nat} (hij : i ≤ j) (hj : j < F.length) : (F.getD i (0, 0)).1 ≤ (F.getD j (0, 0)).1 := by
  rcases Nat.lt_or_ge i j with q | q
  · have := List.pairwise_iff_getElem.mp h i j (by lia) hj q
    have hi : i < F.length := by lia
    rw [plt_iff, hf, hf] at this
    simp [hi, hj]; lia
  · obtain rfl : i = j := by lia
    exact Int.le_refl _
theorem lex_unique {a b : List (Int × Int)} {f : Int × Int → Int × Int} (hf : ∀ x y, f x = f y → x = y) (h : a.Perm b) (ha : a.Pairwise fun x y => plt (f x) (f y) = true) (hb : b.Pairwise fun x y => plt (f x) (f y) = true) : a = b :=
  List.Perm.eq_of_pairwise (fun x y _ _ h1 h2 => by rw [plt_iff] at h1 h2; lia) ha hb h

namespace Fr

theorem nodup_le {α : Type} [DecidableEq α] : ∀ {L S : List α}, L.Nodup → (∀ x ∈ L, x ∈ S) → L.length ≤ S.length
  | [], _, _, _ => Nat.zero_le _
  | x :: L, S, h, k => by
    rw [List.nodup_cons] at h
    have hx := k x (.head _)
    have := nodup_le (L := L) (S := S.erase x) h.2 fun y hy => by
      have hy' := k y (.tail _ hy)
      exact (List.mem_erase_of_ne (fun (e : y = x) => h.1 (e ▸ hy))).mpr hy'
    rw [List.length_erase_of_mem hx] at this
    have := List.length_pos_of_mem hx
    rw [List.length_cons]; lia

/-- n unlike whole numbers with P -/
def Ge (P : Int → Prop) (n : Nat) : Prop := ∃ L : List Int, L.Nodup ∧ (∀ x ∈ L, P x) ∧ n ≤ L.length
theorem Ge.mono {P Q : Int → Prop} {n} (h : Ge P n) (k : ∀ x, P x → Q x) : Ge Q n := let ⟨L, a, b, c⟩ := h; ⟨L, a, fun x hx => k x (b x hx), c⟩
theorem Ge.le {P : Int → Prop} {n m} (h : Ge P n) (k : m ≤ n) : Ge P m := let ⟨L, a, b, c⟩ := h; ⟨L, a, b, Nat.le_trans k c⟩
theorem Ge.zero {P : Int → Prop} : Ge P 0 := ⟨[], List.nodup_nil, fun _ h => (nomatch h), Nat.le_refl _⟩
theorem Ge.one {P : Int → Prop} {x} (h : P x) : Ge P 1 := ⟨[x], by simp, fun y hy => by simp at hy; exact hy ▸ h, Nat.le_refl _⟩
theorem Ge.add {P Q R : Int → Prop} {n m} (h : Ge P n) (k : Ge Q m) (d : ∀ x, P x → Q x → False) (hP : ∀ x, P x → R x) (hQ : ∀ x, Q x → R x) : Ge R (n + m) := by
  obtain ⟨L, a, b, c⟩ := h
  obtain ⟨L', a', b', c'⟩ := k
  refine ⟨L ++ L', List.nodup_append.mpr ⟨a, a', fun x hx y hy e => d x (b x hx) (e ▸ b' y hy)⟩, fun x hx => ?_, by simp; lia⟩
  rcases List.mem_append.mp hx with h | h
  · exact hP x (b x h)
  · exact hQ x (b' x h)
theorem nodup_map {α β : Type} {f : α → β} : ∀ {L : List α}, L.Nodup → (∀ x ∈ L, ∀ y ∈ L, f x = f y → x = y) → (L.map f).Nodup
  | [], _, _ => by simp
  | x :: L, h, k => by
    rw [List.nodup_cons] at h
    rw [List.map_cons, List.nodup_cons]
    refine ⟨fun q => ?_, nodup_map h.2 fun a ha b hb => k a (.tail _ ha) b (.tail _ hb)⟩
    obtain ⟨y, hy, e⟩ := List.mem_map.mp q
    exact h.1 (k y (.tail _ hy) x (.head _) e ▸ hy)
theorem Ge.map {P Q : Int → Prop} {n} (h : Ge P n) (f : Int → Int) (inj : ∀ x y, P x → P y → f x = f y → x = y) (k : ∀ x, P x → Q (f x)) : Ge Q n := by
  obtain ⟨L, a, b, c⟩ := h
  refine ⟨L.map f, nodup_map a fun x hx y hy e => inj x y (b x hx) (b y hy) e, fun y hy => ?_, by simpa using c⟩
  obtain ⟨x, hx, rfl⟩ := List.mem_map.mp hy
  exact k x (b x hx)
theorem Ge.len {P : Int → Prop} {n} (h : Ge P n) {S : List Int} (k : ∀ x, P x → x ∈ S) : n ≤ S.length :=
  let ⟨_, a, b, c⟩ := h; Nat.le_trans c (nodup_le a fun x hx => k x (b x hx))
theorem Ge.split {P : Int → Prop} {n} (h : Ge P n) (q : Int → Bool) : ∃ i j, n ≤ i + j ∧ Ge (fun x => P x ∧ q x = true) i ∧ Ge (fun x => P x ∧ q x = false) j := by
  obtain ⟨L, a, b, c⟩ := h
  refine ⟨(L.filter q).length, (L.filter fun x => !q x).length, ?_, ⟨L.filter q, a.filter _, fun x hx => ?_, Nat.le_refl _⟩, ⟨L.filter fun x => !q x, a.filter _, fun x hx => ?_, Nat.le_refl _⟩⟩
  · have : ∀ L : List Int, L.length = (L.filter q).length + (L.filter fun x => !q x).length := fun L => by
      induction L with
      | nil => rfl
      | cons x L ih => cases hq : q x <;> simp [hq] <;> lia
    rw [this L] at c; exact c
  · obtain ⟨h1, h2⟩ := List.mem_filter.mp hx; exact ⟨b x h1, h2⟩
  · obtain ⟨h1, h2⟩ := List.mem_filter.mp hx; exact ⟨b x h1, by simpa using h2⟩

abbrev Srt (A : List Int) : Prop := A.Pairwise (· < ·)
theorem Srt.nodup {A : List Int} (h : Srt A) : A.Nodup := h.imp fun h e => by lia
theorem Srt.ge {A : List Int} (h : Srt A) : Ge (· ∈ A) A.length := ⟨A, h.nodup, fun _ h => h, Nat.le_refl _⟩

def IsS (A : List Int) (x : Int) : Prop := ∃ a ∈ A, ∃ b ∈ A, x = a + b
def IsD (A : List Int) (x : Int) : Prop := ∃ a ∈ A, ∃ b ∈ A, x = a - b
/-- no common divisor of the differences but 1 -/
def Prim (A : List Int) : Prop := ∀ d : Int, (∀ a ∈ A, ∀ b ∈ A, d ∣ a - b) → d ∣ 1

/-- A turned round -/
def rv (A : List Int) : List Int := (A.map fun a => -a).reverse
theorem mem_rv {A : List Int} {x : Int} : x ∈ rv A ↔ -x ∈ A := by
  simp only [rv, List.mem_reverse, List.mem_map]
  constructor
  · rintro ⟨a, h, rfl⟩; simpa using h
  · intro h; exact ⟨_, h, by lia⟩
theorem Srt.rv {A : List Int} (h : Srt A) : Srt (rv A) := by
  unfold Fr.rv Srt
  rw [List.pairwise_reverse, List.pairwise_map]
  exact h.imp fun h => by lia
theorem rv_len {A : List Int} : (rv A).length = A.length := by simp [rv]
theorem Prim.rv {A : List Int} (h : Prim A) : Prim (rv A) := fun d k => h d fun a ha b hb => by
  have := k (-b) (mem_rv.mpr (by simpa using hb)) (-a) (mem_rv.mpr (by simpa using ha))
  have e : -b - -a = a - b := by lia
  rwa [e] at this
theorem rv_S {A : List Int} {n} (h : Ge (IsS (rv A)) n) : Ge (IsS A) n := h.map (fun x => -x) (fun x y _ _ e => by simpa using e) fun x ⟨a, ha, b, hb, e⟩ => ⟨-a, mem_rv.mp ha, -b, mem_rv.mp hb, by lia⟩

/-! the ends of a sorted list -/
theorem snoc_of {A : List Int} (h : A ≠ []) : ∃ A' x, A = A' ++ [x] := ⟨A.dropLast, A.getLast h, (List.dropLast_concat_getLast h).symm⟩
theorem snoc_lt {A' : List Int} {h : Int} (s : Srt (A' ++ [h])) : Srt A' ∧ ∀ a ∈ A', a < h := by
  have := List.pairwise_append.mp s
  exact ⟨this.1, fun a ha => this.2.2 a ha h (by simp)⟩

/-! trivial counts -/
theorem two_k_1 : ∀ (n : Nat) (A : List Int), A.length = n → Srt A → A ≠ [] → Ge (IsS A) (2 * n - 1)
  | 0, A, h, _, hne => absurd (List.eq_nil_of_length_eq_zero h) hne
  | 1, A, h, _, hne => by
    obtain ⟨a, ha⟩ := List.exists_mem_of_ne_nil A hne
    exact Ge.one (x := a + a) ⟨a, ha, a, ha, rfl⟩
  | n + 2, A, h, s, hne => by
    obtain ⟨A', x, rfl⟩ := snoc_of hne
    have hl : A'.length = n + 1 := by simpa using h
    have hne' : A' ≠ [] := fun e => by rw [e] at hl; simp at hl
    obtain ⟨s', hx⟩ := snoc_lt s
    have ih := two_k_1 (n + 1) A' hl s' hne'
    obtain ⟨A2, m, rfl⟩ := snoc_of hne'
    obtain ⟨s2, hm⟩ := snoc_lt s'
    have hmx := hx m (by simp)
    have top : ∀ y, IsS (A2 ++ [m]) y → y ≤ m + m := fun y ⟨a, ha, b, hb, e⟩ => by
      have hle : ∀ a ∈ A2 ++ [m], a ≤ m := fun a ha => by
        rcases List.mem_append.mp ha with h | h
        · have := hm a h; lia
        · simp at h; lia
      have := hle a ha; have := hle b hb; lia
    have := Ge.add (R := IsS ((A2 ++ [m]) ++ [x])) ih (Ge.add (R := fun y => y = m + x ∨ y = x + x) (Ge.one (P := fun y => y = m + x) rfl) (Ge.one (P := fun y => y = x + x) rfl) (fun y h1 h2 => by lia) (fun y h => .inl h) fun y h => .inr h)
      (fun y h1 h2 => by have := top y h1; lia) (fun y ⟨a, ha, b, hb, e⟩ => ⟨a, List.mem_append_left _ ha, b, List.mem_append_left _ hb, e⟩)
      (fun y h => by rcases h with h | h
                     · exact ⟨m, by simp, x, by simp, h⟩
                     · exact ⟨x, by simp, x, by simp, h⟩)
    exact this.le (by lia)
end Fr

namespace Fr

/-! sets of small numbers as masks -/
noncomputable def msh (B : Nat) (A : List Nat) : Nat → Nat := List.rec (fun acc => acc) (fun a _ ih acc => ih (Nat.lor acc (Nat.shiftLeft B a))) A
noncomputable def msk (A : List Nat) : Nat := msh 1 A 0
noncomputable def smk (B : Nat) (A : List Nat) : Nat := msh B A 0
theorem smk_bit (B : Nat) : ∀ (A : List Nat) (acc x : Nat), (msh B A acc).testBit x = true → acc.testBit x = true ∨ ∃ a ∈ A, a ≤ x ∧ B.testBit (x - a) = true
  | [], acc, x, h => .inl h
  | a :: A, acc, x, h => by
    have h : (msh B A (acc ||| (B <<< a))).testBit x = true := h
    rcases smk_bit B A _ x h with h | ⟨b, hb, h⟩
    · rw [Nat.testBit_or, Bool.or_eq_true, Nat.testBit_shiftLeft, Bool.and_eq_true, decide_eq_true_eq] at h
      rcases h with h | ⟨h1, h2⟩
      · exact .inl h
      · exact .inr ⟨a, .head _, h1, h2⟩
    · exact .inr ⟨b, .tail _ hb, h⟩
theorem msk_bit {A : List Nat} {x : Nat} (h : (msk A).testBit x = true) : x ∈ A := by
  rcases smk_bit 1 A 0 x h with h | ⟨a, ha, h1, h2⟩
  · simp at h
  · have h3 : x - a = 0 := by
      rw [Nat.testBit_one_eq_true_iff_self_eq_zero] at h2; exact h2
    have : x = a := by lia
    rw [this]; exact ha
theorem smk_mem {A B : List Nat} {x : Nat} (h : (smk (msk B) A).testBit x = true) : ∃ a ∈ A, ∃ b ∈ B, x = a + b := by
  rcases smk_bit (msk B) A 0 x h with h | ⟨a, ha, h1, h2⟩
  · simp at h
  · exact ⟨a, ha, x - a, msk_bit h2, by lia⟩
/-- how many of the first m bits are set -/
noncomputable def pc (m : Nat) : Nat → Nat := Nat.rec (fun _ => 0) (fun _ ih n => Nat.add (Nat.mod n 2) (ih (Nat.div n 2))) m
theorem pc_ge : ∀ (m n : Nat), Ge (fun x => ∃ y : Nat, x = y ∧ n.testBit y = true) (pc m n)
  | 0, n => Ge.zero
  | m + 1, n => by
    have ih := pc_ge m (n / 2)
    have h1 : Ge (fun x => ∃ y : Nat, x = ((y + 1 : Nat) : Int) ∧ n.testBit (y + 1) = true) (pc m (n / 2)) :=
      ih.map (fun x => x + 1) (fun x y _ _ e => by lia) fun x ⟨y, e, h⟩ => ⟨y, by lia, by rw [Nat.testBit_succ]; exact h⟩
    by_cases h : n % 2 = 0
    · refine (h1.mono fun x ⟨y, e, h⟩ => ⟨y + 1, e, h⟩).le (by show n % 2 + pc m (n / 2) ≤ _; lia)
    · have h0 : n.testBit 0 = true := by rw [Nat.testBit_zero]; simp; lia
      refine (Ge.add (Ge.one (P := fun x => x = (0 : Int)) rfl) h1 (fun x e ⟨y, e2, _⟩ => by lia) (R := fun x => ∃ y : Nat, x = y ∧ n.testBit y = true) (fun x e => ⟨0, e, h0⟩) fun x ⟨y, e, h⟩ => ⟨y + 1, e, h⟩).le ?_
      show n % 2 + pc m (n / 2) ≤ _; lia

/-- all rising rows in a run of n from s on -/
def subs : Nat → Nat → List (List Nat)
  | 0, _ => [[]]
  | n + 1, s => subs n (s + 1) ++ (subs n (s + 1)).map (s :: ·)
noncomputable def allS (p : List Nat → Bool) (n : Nat) : Nat → List Nat → Bool := Nat.rec (fun _ R => p R) (fun _ ih s R => and (ih (Nat.succ s) R) (ih (Nat.succ s) (s :: R))) n
theorem allS_ok {p : List Nat → Bool} : ∀ (n s : Nat) (R A : List Nat), allS p n s R = true → A ∈ subs n s → p (A.reverse ++ R) = true
  | 0, s, R, A, h, hA => by
    simp only [subs, List.mem_singleton] at hA; subst hA; exact h
  | n + 1, s, R, A, h, hA => by
    have h : (allS p n (s + 1) R && allS p n (s + 1) (s :: R)) = true := h
    rw [Bool.and_eq_true] at h
    simp only [subs, List.mem_append, List.mem_map] at hA
    rcases hA with hA | ⟨B, hB, rfl⟩
    · exact allS_ok n _ R A h.1 hA
    · have := allS_ok n _ _ B h.2 hB; simpa using this
theorem mem_subs : ∀ (n s : Nat) (A : List Nat), A.Pairwise (· < ·) → (∀ a ∈ A, s ≤ a ∧ a < s + n) → A ∈ subs n s
  | 0, s, A, _, h => by
    cases A with
    | nil => simp [subs]
    | cons a A => have := h a (.head _); lia
  | n + 1, s, A, p, h => by
    simp only [subs, List.mem_append, List.mem_map]
    cases A with
    | nil => exact .inl (mem_subs n _ [] .nil (fun _ h => nomatch h))
    | cons a A =>
      rw [List.pairwise_cons] at p
      have ha := h a (.head _)
      by_cases e : a = s
      · subst e
        exact .inr ⟨A, mem_subs n _ A p.2 fun b hb => by have := p.1 b hb; have := h b (.tail _ hb); lia, rfl⟩
      · refine .inl (mem_subs n _ _ (List.pairwise_cons.mpr p) fun b hb => ?_)
        rcases List.mem_cons.mp hb with rfl | hb
        · lia
        · have := p.1 b hb; have := h b (.tail _ hb); lia

/-- k and the greatest of a row from 0 on -/
noncomputable def okBoth (A : List Nat) (l w : Nat) : Bool := and (Nat.ble w (pc (Nat.succ (Nat.mul 2 l)) (smk (msk A) A))) (Nat.ble w (pc (Nat.succ (Nat.mul 2 l)) (smk (msk (A.map fun a => Nat.sub l a)) A)))
noncomputable def ok1 (R : List Nat) : Bool :=
  or (Nat.ble 9 (Nat.succ R.length)) (or (Nat.ble (Nat.mul 2 R.length) (R.headD 0)) (okBoth (0 :: R) (R.headD 0) (Nat.succ (Nat.add R.length (R.headD 0)))))
noncomputable def ok2 (R : List Nat) : Bool :=
  or (Nat.ble 7 R.length) (or (Nat.ble (Nat.mul 2 R.length) (Nat.succ (R.headD 0))) ((List.range (2 * R.headD 0 - 1 - 2 * R.length)).all fun i => okBoth (Nat.add (Nat.add 2 (Nat.mul 2 R.length)) i :: 0 :: R) (Nat.add (Nat.add 2 (Nat.mul 2 R.length)) i) (Nat.add 3 (Nat.mul 3 R.length))))
set_option maxRecDepth 100000 in
theorem chk1 : allS ok1 13 1 [] = true := by decide +kernel
set_option maxRecDepth 100000 in
theorem chk2 : allS ok2 10 1 [] = true := by decide +kernel
end Fr

namespace Fr

theorem okBoth_ge {N : List Nat} {l w : Nat} {A : List Int} {c : Int} (hb : ∀ a ∈ N, a ≤ l) (h : okBoth N l w = true) (hA : ∀ a ∈ N, c + (a : Int) ∈ A) : Ge (IsS A) w ∧ Ge (IsD A) w := by
  have h : (Nat.ble w (pc (2 * l + 1) (smk (msk N) N)) && Nat.ble w (pc (2 * l + 1) (smk (msk (N.map fun a => l - a)) N))) = true := h
  rw [Bool.and_eq_true, Nat.ble_eq, Nat.ble_eq] at h
  refine ⟨((pc_ge _ _).le h.1).map (fun x => x + 2 * c) (fun x y _ _ e => by lia) fun x ⟨y, e, hy⟩ => ?_, ((pc_ge _ _).le h.2).map (fun x => x - l) (fun x y _ _ e => by lia) fun x ⟨y, e, hy⟩ => ?_⟩
  · obtain ⟨a, ha, b, hb1, rfl⟩ := smk_mem hy
    exact ⟨_, hA a ha, _, hA b hb1, by lia⟩
  · obtain ⟨a, ha, b0, hb0, rfl⟩ := smk_mem hy
    obtain ⟨b, hb1, rfl⟩ := List.mem_map.mp hb0
    have := hb b hb1
    exact ⟨_, hA a ha, _, hA b hb1, by lia⟩

/-- a sorted row from lo on, as numbers from 0 on -/
def sh (lo : Int) (T : List Int) : List Nat := T.map fun a => (a - lo).toNat
theorem sh_sorted {lo : Int} {T : List Int} (s : Srt (lo :: T)) : (sh lo T).Pairwise (· < ·) := by
  rw [Srt, List.pairwise_cons] at s
  rw [sh, List.pairwise_map]
  exact s.2.imp_of_mem fun ha hb h => by have := s.1 _ ha; lia
theorem sh_back {lo : Int} {T : List Int} (s : Srt (lo :: T)) {a : Nat} (h : a ∈ sh lo T) : lo + (a : Int) ∈ T := by
  rw [Srt, List.pairwise_cons] at s
  obtain ⟨b, hb, rfl⟩ := List.mem_map.mp h
  have := s.1 b hb
  have e : lo + ((b - lo).toNat : Int) = b := by lia
  rw [e]; exact hb

theorem short {lo h : Int} {T : List Int} (s : Srt (lo :: (T ++ [h]))) (hT : T.length ≤ 6) (hl : h - lo ≤ 2 * (T.length : Int) + 1) :
    Ge (IsS (lo :: (T ++ [h]))) (T.length + 2 + (h - lo).toNat) ∧ Ge (IsD (lo :: (T ++ [h]))) (T.length + 2 + (h - lo).toNat) := by
  have hlt : ∀ a ∈ T ++ [h], lo < a := (List.pairwise_cons.mp s).1
  have hle : ∀ a ∈ T ++ [h], a ≤ h := fun a ha => by
    rcases List.mem_append.mp ha with k | k
    · have := (snoc_lt (List.pairwise_cons.mp s).2).2 a k; lia
    · simp at k; lia
  have hh := hlt h (by simp)
  have hm := mem_subs 13 1 (sh lo (T ++ [h])) (sh_sorted s) fun a ha => by
    obtain ⟨b, hb, rfl⟩ := List.mem_map.mp ha
    have := hlt b hb; have := hle b hb; lia
  have hc := allS_ok 13 1 [] _ chk1 hm
  have hR : (sh lo (T ++ [h])).reverse ++ [] = (h - lo).toNat :: (sh lo T).reverse := by simp [sh]
  rw [hR] at hc
  have hlen : ((h - lo).toNat :: (sh lo T).reverse).length = T.length + 1 := by simp [sh]
  have hc : (Nat.ble 9 (((h - lo).toNat :: (sh lo T).reverse).length + 1) || (Nat.ble (2 * ((h - lo).toNat :: (sh lo T).reverse).length) (h - lo).toNat || okBoth (0 :: (h - lo).toNat :: (sh lo T).reverse) (h - lo).toNat (((h - lo).toNat :: (sh lo T).reverse).length + (h - lo).toNat + 1))) = true := hc
  rw [hlen, Bool.or_eq_true, Bool.or_eq_true, Nat.ble_eq, Nat.ble_eq] at hc
  rcases hc with hc | hc | hc
  · lia
  · lia
  · have := okBoth_ge (A := lo :: (T ++ [h])) (c := lo) (fun a ha => ?_) hc fun a ha => ?_
    · refine ⟨this.1.le (by lia), this.2.le (by lia)⟩
    · rcases List.mem_cons.mp ha with rfl | ha
      · lia
      rcases List.mem_cons.mp ha with rfl | ha
      · exact Nat.le_refl _
      · rw [List.mem_reverse] at ha
        obtain ⟨b, hb, rfl⟩ := List.mem_map.mp ha
        have := hle b (List.mem_append_left _ hb); lia
    · rcases List.mem_cons.mp ha with rfl | ha
      · simp
      · refine .tail _ (sh_back s ?_)
        rw [sh, List.map_append, List.mem_append]
        rcases List.mem_cons.mp ha with rfl | ha
        · exact .inr (by simp)
        · exact .inl (List.mem_reverse.mp ha)

theorem far {lo m h : Int} {T : List Int} (s : Srt (lo :: ((T ++ [m]) ++ [h]))) (hT : T.length ≤ 5) (hm : m - lo ≤ 2 * (T.length : Int)) (hl : 2 * (T.length : Int) + 4 ≤ h - lo) (hl2 : h - lo ≤ 2 * (m - lo)) :
    Ge (IsS (lo :: ((T ++ [m]) ++ [h]))) (3 * T.length + 6) ∧ Ge (IsD (lo :: ((T ++ [m]) ++ [h]))) (3 * T.length + 6) := by
  have s1 : Srt (lo :: (T ++ [m])) := by
    have := (snoc_lt (A' := lo :: (T ++ [m])) (h := h) (by simpa using s)).1
    exact this
  have hlt : ∀ a ∈ T ++ [m], lo < a := (List.pairwise_cons.mp s1).1
  have hle : ∀ a ∈ T ++ [m], a ≤ m := fun a ha => by
    rcases List.mem_append.mp ha with k | k
    · have := (snoc_lt (List.pairwise_cons.mp s1).2).2 a k; lia
    · simp at k; lia
  have hh := hlt m (by simp)
  have hmem := mem_subs 10 1 (sh lo (T ++ [m])) (sh_sorted s1) fun a ha => by
    obtain ⟨b, hb, rfl⟩ := List.mem_map.mp ha
    have := hlt b hb; have := hle b hb; lia
  have hc := allS_ok 10 1 [] _ chk2 hmem
  have hR : (sh lo (T ++ [m])).reverse ++ [] = (m - lo).toNat :: (sh lo T).reverse := by simp [sh]
  rw [hR] at hc
  generalize hRR : (m - lo).toNat :: (sh lo T).reverse = R at hc
  have hlen : R.length = T.length + 1 := by rw [← hRR]; simp [sh]
  have hhd : R.headD 0 = (m - lo).toNat := by rw [← hRR]; rfl
  have hc : (Nat.ble 7 R.length || (Nat.ble (2 * R.length) (R.headD 0 + 1) || ((List.range (2 * R.headD 0 - 1 - 2 * R.length)).all fun i => okBoth ((2 + 2 * R.length + i) :: 0 :: R) (2 + 2 * R.length + i) (3 + 3 * R.length)))) = true := hc
  rw [Bool.or_eq_true, Bool.or_eq_true, Nat.ble_eq, Nat.ble_eq, hlen, hhd] at hc
  rcases hc with hc | hc | hc
  · lia
  · lia
  · rw [List.all_eq_true] at hc
    have hc := hc ((h - lo).toNat - (2 + 2 * (T.length + 1))) (by rw [List.mem_range]; lia)
    have e : 2 + 2 * (T.length + 1) + ((h - lo).toNat - (2 + 2 * (T.length + 1))) = (h - lo).toNat := by lia
    rw [e] at hc
    have := okBoth_ge (A := lo :: ((T ++ [m]) ++ [h])) (c := lo) (fun a ha => ?_) hc fun a ha => ?_
    · exact ⟨this.1.le (by lia), this.2.le (by lia)⟩
    · rcases List.mem_cons.mp ha with rfl | ha
      · exact Nat.le_refl _
      rcases List.mem_cons.mp ha with rfl | ha
      · lia
      rw [← hRR] at ha
      rcases List.mem_cons.mp ha with rfl | ha
      · lia
      · rw [List.mem_reverse] at ha
        obtain ⟨b, hb, rfl⟩ := List.mem_map.mp ha
        have := hle b (List.mem_append_left _ hb); lia
    · rcases List.mem_cons.mp ha with rfl | ha
      · have e : lo + ((h - lo).toNat : Int) = h := by lia
        rw [e]; simp
      rcases List.mem_cons.mp ha with rfl | ha
      · simp
      · have : lo + (a : Int) ∈ T ++ [m] := by
          refine sh_back s1 ?_
          rw [sh, List.map_append, List.mem_append]
          rw [← hRR] at ha
          rcases List.mem_cons.mp ha with rfl | ha
          · exact .inr (by simp)
          · exact .inl (List.mem_reverse.mp ha)
        exact .tail _ (List.mem_append_left _ this)

/-- the greatest steps down as sums -/
def Top (A : List Int) (m h : Int) : Prop := ∀ a ∈ A, a < m → ∃ b ∈ A, ∃ c ∈ A, b < h ∧ c < h ∧ h + a = b + c

theorem top_one {A : List Int} {m h : Int} (hm : m ∈ A) (hh : h ∈ A) (hmh : m < h) (hle : ∀ a ∈ A, a ≤ m ∨ a = h) (p : Prim A) (t : Top A m h) : h - m = 1 := by
  have key : ∀ (n : Nat) a, a ∈ A → (h - a).toNat ≤ n → (h - m) ∣ h - a := by
    intro n
    induction n with
    | zero => intro a ha hn; have e : h - a = 0 := by rcases hle a ha with k | k <;> lia
              rw [e]; exact Int.dvd_zero _
    | succ n ih =>
      intro a ha hn
      rcases hle a ha with k | k
      · by_cases ham : a = m
        · subst ham; exact Int.dvd_refl _
        · obtain ⟨b, hb, c, hc, hbh, hch, e⟩ := t a ha (by lia)
          have kb : b ≤ m := by rcases hle b hb with k | k <;> lia
          have kc : c ≤ m := by rcases hle c hc with k | k <;> lia
          have e2 : h - a = (h - b) + (h - c) := by lia
          rw [e2]
          exact Int.dvd_add (ih b hb (by lia)) (ih c hc (by lia))
      · subst k; rw [Int.sub_self]; exact Int.dvd_zero _
  have := p (h - m) fun a ha b hb => by
    have e : a - b = (h - b) - (h - a) := by lia
    rw [e]; exact Int.dvd_sub (key _ b hb (Nat.le_refl _)) (key _ a ha (Nat.le_refl _))
  have := Int.le_of_dvd (by decide) this
  lia

/-- neighbours of a row: what lies between -/
theorem gap_mem {P Q : List Int} {x y b : Int} (s : Srt (P ++ x :: y :: Q)) (hb : b ∈ P ++ x :: y :: Q) : b ≤ x ∨ y ≤ b := by
  have h := List.pairwise_append.mp s
  have h2 := List.pairwise_cons.mp h.2.1
  have h3 := List.pairwise_cons.mp h2.2
  rcases List.mem_append.mp hb with k | k
  · exact .inl (Int.le_of_lt (h.2.2 b k x (.head _)))
  rcases List.mem_cons.mp k with k | k
  · exact .inl (by lia)
  rcases List.mem_cons.mp k with k | k
  · exact .inr (by lia)
  · exact .inr (Int.le_of_lt (h3.1 b k))
theorem top_gap {A P Q : List Int} {x y m h : Int} (e : A = P ++ x :: y :: Q) (s : Srt A) (hle : ∀ a ∈ A, a ≤ h) (t : Top A m h) (hx : x < m) : h - x ≤ 2 * (h - y) := by
  obtain ⟨b, hb, c, hc, h1, h2, e2⟩ := t x (by rw [e]; simp) hx
  subst e
  rcases gap_mem s hb with k | k
  · lia
  rcases gap_mem s hc with k' | k'
  · lia
  lia

theorem rv_snoc {lo h : Int} {T : List Int} : rv (lo :: (T ++ [h])) = -h :: (rv T ++ [-lo]) := by simp [rv]

/-- the same from below -/
def Bot (A : List Int) (m l : Int) : Prop := ∀ a ∈ A, m < a → ∃ b ∈ A, ∃ c ∈ A, l < b ∧ l < c ∧ l + a = b + c
theorem bot_of {A : List Int} {m l : Int} (t : Top (rv A) (-m) (-l)) : Bot A m l := fun a ha hm => by
  obtain ⟨b, hb, c, hc, h1, h2, e⟩ := t (-a) (mem_rv.mpr (by simpa using ha)) (by lia)
  exact ⟨-b, mem_rv.mp hb, -c, mem_rv.mp hc, by lia, by lia, by lia⟩
theorem bot_gap {A P Q : List Int} {x y m l : Int} (e : A = P ++ x :: y :: Q) (s : Srt A) (hle : ∀ a ∈ A, l ≤ a) (t : Bot A m l) (hx : m < y) : y - l ≤ 2 * (x - l) := by
  obtain ⟨b, hb, c, hc, h1, h2, e2⟩ := t y (by rw [e]; simp) hx
  subst e
  rcases gap_mem s hb with k | k
  · rcases gap_mem s hc with k' | k'
    · lia
    · lia
  · lia
end Fr

namespace Fr

def ThmS (n : Nat) : Prop := ∀ (T : List Int) (lo h : Int), T.length = n → Srt (lo :: (T ++ [h])) → Prim (lo :: (T ++ [h])) → Ge (IsS (lo :: (T ++ [h]))) (n + 2 + min (h - lo).toNat (2 * n + 1))

theorem ends {lo h : Int} {T : List Int} (s : Srt (lo :: (T ++ [h]))) : lo < h ∧ (∀ a ∈ lo :: (T ++ [h]), lo ≤ a) ∧ (∀ a ∈ lo :: (T ++ [h]), a ≤ h) ∧ (∀ a ∈ T, lo < a ∧ a < h) ∧ Srt (lo :: T) := by
  have s1 := List.pairwise_cons.mp s
  have s2 := snoc_lt (A' := lo :: T) (h := h) (by simpa using s)
  refine ⟨s1.1 h (by simp), fun a ha => ?_, fun a ha => ?_, fun a ha => ⟨s1.1 a (by simp [ha]), s2.2 a (.tail _ ha)⟩, s2.1⟩
  · rcases List.mem_cons.mp ha with rfl | ha
    · exact Int.le_refl _
    · exact Int.le_of_lt (s1.1 a ha)
  · have ha' : a ∈ (lo :: T) ++ [h] := by simpa using ha
    rcases List.mem_append.mp ha' with ha | ha
    · exact Int.le_of_lt (s2.2 a ha)
    · simp at ha; lia

theorem prim2 {lo h : Int} (s : Srt (lo :: ([] ++ [h]))) (p : Prim (lo :: ([] ++ [h]))) : h - lo = 1 := by
  have := (ends s).1
  have hd : (h - lo) ∣ 1 := p (h - lo) fun a ha b hb => by
    simp only [List.nil_append, List.mem_cons, List.not_mem_nil, or_false] at ha hb
    rcases ha with rfl | rfl <;> rcases hb with rfl | rfl
    · simp
    · rw [show a - b = -(b - a) by lia]; exact Int.dvd_neg.mpr (Int.dvd_refl _)
    · exact Int.dvd_refl _
    · simp
  have := Int.le_of_dvd (by decide) hd
  lia

/-- what the greatest's going away leaves, if it meets the rest anywhere -/
theorem prim_sub {lo m h : Int} {T : List Int} (p : Prim (lo :: ((T ++ [m]) ++ [h]))) {d0 : ∀ d : Int, (∀ a ∈ lo :: (T ++ [m]), ∀ b ∈ lo :: (T ++ [m]), d ∣ a - b) → ∃ a ∈ lo :: (T ++ [m]), d ∣ h - a} : Prim (lo :: (T ++ [m])) := fun d k => by
  obtain ⟨a0, ha0, hd⟩ := d0 d k
  have hh : ∀ a ∈ lo :: (T ++ [m]), d ∣ h - a := fun a ha => by
    have e : h - a = (h - a0) + (a0 - a) := by lia
    rw [e]; exact Int.dvd_add hd (k _ ha0 _ ha)
  refine p d fun a ha b hb => ?_
  have ha : a ∈ lo :: (T ++ [m]) ∨ a = h := by simpa [or_assoc] using ha
  have hb : b ∈ lo :: (T ++ [m]) ∨ b = h := by simpa [or_assoc] using hb
  rcases ha with ha1 | e1 <;> rcases hb with hb1 | e2
  · exact k a ha1 b hb1
  · rw [e2, show a - h = -(h - a) by lia]; exact Int.dvd_neg.mpr (hh a ha1)
  · rw [e1]; exact hh b hb1
  · rw [e1, e2]; simp

theorem sumsTop {n : Nat} (hn : n ≤ 5) (ih : ThmS n) {T : List Int} {lo m h : Int} (hT : T.length = n) (s : Srt (lo :: ((T ++ [m]) ++ [h]))) (p : Prim (lo :: ((T ++ [m]) ++ [h]))) (hl : 2 * (n : Int) + 4 ≤ h - lo) :
    Ge (IsS (lo :: ((T ++ [m]) ++ [h]))) (3 * n + 6) ∨ Top (lo :: ((T ++ [m]) ++ [h])) m h := by
  obtain ⟨e1, e2, e3, e4, s1⟩ := ends s
  obtain ⟨f1, f2, f3, f4, s2⟩ := ends s1
  have sub : ∀ a ∈ lo :: (T ++ [m]), a ∈ lo :: ((T ++ [m]) ++ [h]) := fun a ha => by rcases List.mem_cons.mp ha with rfl | ha; exact .head _; exact .tail _ (List.mem_append_left _ ha)
  have hhm : h ∈ lo :: ((T ++ [m]) ++ [h]) := by simp
  have hmm : m ∈ lo :: (T ++ [m]) := by simp
  have hmh := (e4 m (by simp)).2
  have lt' : ∀ a ∈ lo :: (T ++ [m]), a < h := fun a ha => by have := f3 a ha; lia
  by_cases X : ∀ a ∈ lo :: (T ++ [m]), ¬ IsS (lo :: (T ++ [m])) (h + a)
  · left
    have g1 := two_k_1 (n + 2) (lo :: (T ++ [m])) (by simp [hT]) s1 (by simp)
    have g2 : Ge (fun x => ∃ a ∈ lo :: (T ++ [m]), x = h + a) (n + 2) := (Ge.le s1.ge (by simp [hT])).map (fun a => h + a) (fun x y _ _ e => by lia) fun x hx => ⟨x, hx, rfl⟩
    have g3 := Ge.add g2 (Ge.one (P := fun x => x = h + h) rfl) (R := fun x => (∃ a ∈ lo :: (T ++ [m]), x = h + a) ∨ x = h + h) (fun x ⟨a, ha, e⟩ e' => by have := lt' a ha; lia) (fun x h => .inl h) fun x h => .inr h
    have g4 := Ge.add g1 g3 (R := IsS (lo :: ((T ++ [m]) ++ [h]))) (fun x hx hy => by
        rcases hy with ⟨a, ha, rfl⟩ | rfl
        · exact X a ha hx
        · obtain ⟨a, ha, b, hb, e⟩ := hx; have := lt' a ha; have := lt' b hb; lia)
      (fun x ⟨a, ha, b, hb, e⟩ => ⟨a, sub a ha, b, sub b hb, e⟩) fun x hx => by
        rcases hx with ⟨a, ha, rfl⟩ | rfl
        · exact ⟨h, hhm, a, sub a ha, rfl⟩
        · exact ⟨h, hhm, h, hhm, rfl⟩
    exact g4.le (by lia)
  · have X : ∃ a, a ∈ lo :: (T ++ [m]) ∧ IsS (lo :: (T ++ [m])) (h + a) := by
      refine Classical.byContradiction fun q => X fun a ha hs => q ⟨a, ha, hs⟩
    obtain ⟨a0, ha0, b0, hb0, c0, hc0, e0⟩ := X
    have p' : Prim (lo :: (T ++ [m])) := prim_sub p (d0 := fun d k => ⟨b0, hb0, by
      have e : h - b0 = c0 - a0 := by lia
      rw [e]; exact k _ hc0 _ ha0⟩)
    have hl2 : h - lo ≤ 2 * (m - lo) := by have := f3 b0 hb0; have := f3 c0 hc0; have := f2 a0 ha0; lia
    by_cases hm : m - lo ≤ 2 * (n : Int)
    · exact .inl ((far s (by lia) (by lia) (by lia) hl2).1.le (by lia))
    · have g1 := ih T lo m hT s1 p'
      have g1 : Ge (IsS (lo :: (T ++ [m]))) (3 * n + 3) := g1.le (by lia)
      by_cases t : ∀ a ∈ lo :: (T ++ [m]), a < m → IsS (lo :: (T ++ [m])) (h + a)
      · right
        intro a ha ham
        have ha : a ∈ lo :: (T ++ [m]) ∨ a = h := by simpa [or_assoc] using ha
        rcases ha with ha | rfl
        · obtain ⟨b, hb, c, hc, e⟩ := t a ha ham
          exact ⟨b, sub b hb, c, sub c hc, lt' b hb, lt' c hc, e⟩
        · lia
      · left
        have t : ∃ a, a ∈ lo :: (T ++ [m]) ∧ a < m ∧ ¬ IsS (lo :: (T ++ [m])) (h + a) := by
          refine Classical.byContradiction fun q => t fun a ha h1 => Classical.byContradiction fun h2 => q ⟨a, ha, h1, h2⟩
        obtain ⟨a, ha, ham, hna⟩ := t
        have top : ∀ x, IsS (lo :: (T ++ [m])) x → x ≤ m + m := fun x ⟨a, ha, b, hb, e⟩ => by have := f3 a ha; have := f3 b hb; lia
        have g2 := Ge.add (Ge.one (P := fun x => x = h + a) rfl) (Ge.add (Ge.one (P := fun x => x = h + m) rfl) (Ge.one (P := fun x => x = h + h) rfl) (R := fun x => x = h + m ∨ x = h + h) (fun x e e' => by lia) (fun x h => .inl h) fun x h => .inr h)
          (R := fun x => x = h + a ∨ x = h + m ∨ x = h + h) (fun x e e' => by lia) (fun x h => .inl h) fun x h => .inr h
        have g3 := Ge.add g1 g2 (R := IsS (lo :: ((T ++ [m]) ++ [h]))) (fun x hx hy => by
            rcases hy with rfl | rfl | rfl
            · exact hna hx
            · have := top _ hx; lia
            · have := top _ hx; lia)
          (fun x ⟨a, ha, b, hb, e⟩ => ⟨a, sub a ha, b, sub b hb, e⟩) fun x hx => by
            rcases hx with rfl | rfl | rfl
            · exact ⟨h, hhm, a, sub a ha, rfl⟩
            · exact ⟨h, hhm, m, sub m hmm, rfl⟩
            · exact ⟨h, hhm, h, hhm, rfl⟩
        exact g3.le (by lia)

theorem both_no {T : List Int} {lo m h b1 : Int} {T' : List Int} (hn : T.length ≤ 5) (s : Srt (lo :: ((T ++ [m]) ++ [h]))) (p : Prim (lo :: ((T ++ [m]) ++ [h]))) (hT' : T ++ [m] = b1 :: T') (t : Top (lo :: ((T ++ [m]) ++ [h])) m h)
    (u : Top (rv (lo :: ((T ++ [m]) ++ [h]))) (-b1) (-lo)) : h - lo ≤ 2 * (T.length : Int) + 2 := by
  obtain ⟨e1, e2, e3, e4, s1⟩ := ends s
  have tm := top_one (m := m) (h := h) (by simp) (by simp) (e4 m (by simp)).2 (fun a ha => by
      have ha : a ∈ lo :: (T ++ [m]) ∨ a = h := by simpa [or_assoc] using ha
      rcases ha with ha | rfl
      · exact .inl ((ends s1).2.2.1 a ha)
      · exact .inr rfl) p t
  have b1m : b1 ∈ T ++ [m] := by rw [hT']; exact .head _
  have tb := top_one (A := rv (lo :: ((T ++ [m]) ++ [h]))) (m := -b1) (h := -lo) (mem_rv.mpr (by simp only [Int.neg_neg]; exact .tail _ (List.mem_append_left _ b1m))) (mem_rv.mpr (by simp)) (by have := (e4 b1 b1m).1; lia) (fun a ha => by
      have ha := mem_rv.mp ha
      have s3 : Srt (lo :: (b1 :: T' ++ [h])) := by rw [← hT']; exact s
      have s4 := List.pairwise_cons.mp (List.pairwise_cons.mp s3).2
      rw [hT'] at ha
      rcases List.mem_cons.mp ha with ha | ha
      · right; lia
      · rcases List.mem_cons.mp ha with ha | ha
        · left; lia
        · left; have := s4.1 (-a) ha; lia) p.rv u
  have bt := bot_of (A := lo :: ((T ++ [m]) ++ [h])) (m := b1) (l := lo) u
  match T, hn, hT' with
  | [], _, hT' =>
    obtain ⟨rfl, _⟩ : m = b1 ∧ [] = T' := by simpa using hT'
    simp; lia
  | [a1], _, hT' =>
    obtain ⟨rfl, rfl⟩ : a1 = b1 ∧ [m] = T' := by simpa using hT'
    have := e4 a1 (by simp)
    have := top_gap (P := [lo]) (x := a1) (y := m) (Q := [h]) rfl s e3 t (by have := (ends s1).2.2.2.1 a1 (by simp); lia)
    simp; lia
  | [a1, a2], _, hT' =>
    obtain ⟨rfl, rfl⟩ : a1 = b1 ∧ [a2, m] = T' := by simpa using hT'
    have o := (ends s1).2.2.2.1
    have o2 : a1 < a2 := by have := List.pairwise_cons.mp (List.pairwise_cons.mp s).2; exact this.1 a2 (by simp)
    have := bot_gap (P := [lo]) (x := a1) (y := a2) (Q := [m, h]) rfl s e2 bt o2
    have := top_gap (P := [lo, a1]) (x := a2) (y := m) (Q := [h]) rfl s e3 t (o a2 (by simp)).2
    simp; lia
  | [a1, a2, a3], _, hT' =>
    obtain ⟨rfl, rfl⟩ : a1 = b1 ∧ [a2, a3, m] = T' := by simpa using hT'
    have o := (ends s1).2.2.2.1
    have q := List.pairwise_cons.mp (List.pairwise_cons.mp s).2
    have := bot_gap (P := [lo]) (x := a1) (y := a2) (Q := [a3, m, h]) rfl s e2 bt (q.1 a2 (by simp))
    have := bot_gap (P := [lo, a1]) (x := a2) (y := a3) (Q := [m, h]) rfl s e2 bt (q.1 a3 (by simp))
    have := top_gap (P := [lo, a1, a2]) (x := a3) (y := m) (Q := [h]) rfl s e3 t (o a3 (by simp)).2
    simp; lia
  | [a1, a2, a3, a4], _, hT' =>
    obtain ⟨rfl, rfl⟩ : a1 = b1 ∧ [a2, a3, a4, m] = T' := by simpa using hT'
    have o := (ends s1).2.2.2.1
    have q := List.pairwise_cons.mp (List.pairwise_cons.mp s).2
    have := bot_gap (P := [lo]) (x := a1) (y := a2) (Q := [a3, a4, m, h]) rfl s e2 bt (q.1 a2 (by simp))
    have := bot_gap (P := [lo, a1]) (x := a2) (y := a3) (Q := [a4, m, h]) rfl s e2 bt (q.1 a3 (by simp))
    have := top_gap (P := [lo, a1, a2, a3]) (x := a4) (y := m) (Q := [h]) rfl s e3 t (o a4 (by simp)).2
    have := top_gap (P := [lo, a1, a2]) (x := a3) (y := a4) (Q := [m, h]) rfl s e3 t (o a3 (by simp)).2
    simp; lia
  | [a1, a2, a3, a4, a5], _, hT' =>
    obtain ⟨rfl, rfl⟩ : a1 = b1 ∧ [a2, a3, a4, a5, m] = T' := by simpa using hT'
    have o := (ends s1).2.2.2.1
    have q := List.pairwise_cons.mp (List.pairwise_cons.mp s).2
    have := bot_gap (P := [lo]) (x := a1) (y := a2) (Q := [a3, a4, a5, m, h]) rfl s e2 bt (q.1 a2 (by simp))
    have := bot_gap (P := [lo, a1]) (x := a2) (y := a3) (Q := [a4, a5, m, h]) rfl s e2 bt (q.1 a3 (by simp))
    have := bot_gap (P := [lo, a1, a2]) (x := a3) (y := a4) (Q := [a5, m, h]) rfl s e2 bt (q.1 a4 (by simp))
    have := top_gap (P := [lo, a1, a2, a3, a4]) (x := a5) (y := m) (Q := [h]) rfl s e3 t (o a5 (by simp)).2
    have := top_gap (P := [lo, a1, a2, a3]) (x := a4) (y := a5) (Q := [m, h]) rfl s e3 t (o a4 (by simp)).2
    simp; lia
  | a1 :: a2 :: a3 :: a4 :: a5 :: a6 :: r, hn, _ => simp at hn

theorem thmS : ∀ (n : Nat), n ≤ 6 → ThmS n
  | 0, _ => fun T lo h hT s p => by
    have : T = [] := List.eq_nil_of_length_eq_zero hT
    subst this
    have := prim2 s p
    exact ((short s (by simp) (by simp; lia)).1).le (by simp; lia)
  | n + 1, hn => fun T lo h hT s p => by
    by_cases hl : h - lo ≤ 2 * (n : Int) + 3
    · exact ((short s (by lia) (by lia)).1).le (by lia)
    · obtain ⟨T0, m, rfl⟩ := snoc_of (A := T) (fun e => by rw [e] at hT; simp at hT)
      have hT0 : T0.length = n := by simpa using hT
      have ih := thmS n (by lia)
      rcases sumsTop (by lia) ih hT0 s p (by lia) with g | t
      · exact g.le (by lia)
      · obtain ⟨b1, T', hb⟩ : ∃ b1 T', T0 ++ [m] = b1 :: T' := List.exists_cons_of_ne_nil (by simp)
        have hT' : T'.length = n := by have := congrArg List.length hb; simp at this; lia
        have er : rv (lo :: ((T0 ++ [m]) ++ [h])) = -h :: ((rv T' ++ [-b1]) ++ [-lo]) := by rw [rv_snoc, hb]; simp [rv]
        have sr := s.rv; have pr := p.rv
        rw [er] at sr pr
        rcases sumsTop (by lia) ih (by rw [rv_len]; exact hT') sr pr (by lia) with g | u
        · rw [← er] at g
          exact (rv_S g).le (by lia)
        · rw [← er] at u
          have := both_no (by lia) s p hb t u
          lia
end Fr

namespace Fr

abbrev Pos (A : List Int) (n : Nat) : Prop := Ge (fun x => 0 < x ∧ IsD A x) n
theorem IsD.neg {A : List Int} {x : Int} (h : IsD A x) : IsD A (-x) := let ⟨a, ha, b, hb, e⟩ := h; ⟨b, hb, a, ha, by lia⟩
theorem Pos.all {A : List Int} {n} (h : Pos A n) (hne : A ≠ []) : Ge (IsD A) (2 * n + 1) := by
  obtain ⟨a, ha⟩ := List.exists_mem_of_ne_nil A hne
  have h2 : Ge (fun x => x < 0 ∧ IsD A x) n := h.map (fun x => -x) (fun x y _ _ e => by lia) fun x ⟨h1, h2⟩ => ⟨by lia, h2.neg⟩
  have h3 : Ge (fun x => x = 0) 1 := Ge.one rfl
  have := Ge.add h (Ge.add h2 h3 (R := fun x => x ≤ 0 ∧ IsD A x) (fun x e1 e2 => by lia) (fun x e => ⟨by lia, e.2⟩) fun x e => ⟨by lia, a, ha, a, ha, by lia⟩) (R := IsD A) (fun x e1 e2 => by lia) (fun x e => e.2) fun x e => e.2
  exact this.le (by lia)
theorem Pos.of {A : List Int} {n} (h : Ge (IsD A) n) : Pos A (n / 2) := by
  obtain ⟨i, j, hij, h1, h2⟩ := h.split fun x => decide (0 < x)
  obtain ⟨u, v, huv, h3, h4⟩ := h2.split fun x => decide (x < 0)
  have hv := h4.len (S := [0]) fun x ⟨⟨_, e1⟩, e2⟩ => by simp at e1 e2; simp; lia
  have g1 : Pos A i := h1.mono fun x ⟨h, e⟩ => ⟨by simpa using e, h⟩
  have g2 : Pos A u := h3.map (fun x => -x) (fun x y _ _ e => by lia) fun x ⟨⟨h, _⟩, e⟩ => ⟨by simp at e; lia, h.neg⟩
  simp at hv
  by_cases q : n / 2 ≤ i
  · exact g1.le q
  · exact g2.le (by lia)
theorem rv_D {A : List Int} {n} (h : Pos (rv A) n) : Pos A n := h.mono fun x ⟨h0, a, ha, b, hb, e⟩ => ⟨h0, -b, mem_rv.mp hb, -a, mem_rv.mp ha, by lia⟩

def ThmD (n : Nat) : Prop := ∀ (T : List Int) (lo h : Int), T.length = n → Srt (lo :: (T ++ [h])) → Prim (lo :: (T ++ [h])) → Ge (IsD (lo :: (T ++ [h]))) (n + 2 + min (h - lo).toNat (2 * n + 1))

/-- the greatest's going away: enough differences, or the rest is as good -/
theorem diffTop {n : Nat} (hn : n ≤ 5) (ih : ThmD n) {T : List Int} {lo m h : Int} (hT : T.length = n) (s : Srt (lo :: ((T ++ [m]) ++ [h]))) (p : Prim (lo :: ((T ++ [m]) ++ [h]))) (hl : 2 * (n : Int) + 4 ≤ h - lo) :
    Ge (IsD (lo :: ((T ++ [m]) ++ [h]))) (3 * n + 6) ∨ Pos (lo :: (T ++ [m])) ((3 * n + 3) / 2) := by
  obtain ⟨e1, e2, e3, e4, s1⟩ := ends s
  obtain ⟨f1, f2, f3, f4, s2⟩ := ends s1
  have sub : ∀ a ∈ lo :: (T ++ [m]), a ∈ lo :: ((T ++ [m]) ++ [h]) := fun a ha => by rcases List.mem_cons.mp ha with rfl | ha; exact .head _; exact .tail _ (List.mem_append_left _ ha)
  have hhm : h ∈ lo :: ((T ++ [m]) ++ [h]) := by simp
  have lt' : ∀ a ∈ lo :: (T ++ [m]), a < h := fun a ha => by have := f3 a ha; have := (e4 m (by simp)).2; lia
  by_cases X : ∀ a ∈ lo :: (T ++ [m]), ¬ IsD (lo :: (T ++ [m])) (h - a)
  · left
    have g1 : Ge (fun x => 0 < x ∧ IsD (lo :: (T ++ [m])) x) (n + 1) := (Ge.le (Srt.ge (A := T ++ [m]) (List.pairwise_cons.mp s1).2) (by simp [hT])).map (fun a => a - lo) (fun x y _ _ e => by lia) fun x hx => ⟨by have := (List.pairwise_cons.mp s1).1 x hx; lia, x, .tail _ hx, lo, .head _, rfl⟩
    have g2 : Ge (fun x => ∃ a ∈ lo :: (T ++ [m]), x = h - a) (n + 2) := (Ge.le s1.ge (by simp [hT])).map (fun a => h - a) (fun x y _ _ e => by lia) fun x hx => ⟨x, hx, rfl⟩
    have g3 : Pos (lo :: ((T ++ [m]) ++ [h])) (n + 1 + (n + 2)) := Ge.add g1 g2 (fun x hx ⟨a, ha, e⟩ => X a ha (e ▸ hx.2)) (fun x ⟨h0, a, ha, b, hb, e⟩ => ⟨h0, a, sub a ha, b, sub b hb, e⟩) fun x ⟨a, ha, e⟩ => ⟨by have := lt' a ha; lia, h, hhm, a, sub a ha, e⟩
    exact (g3.all (by simp)).le (by lia)
  · have X : ∃ a, a ∈ lo :: (T ++ [m]) ∧ IsD (lo :: (T ++ [m])) (h - a) := by
      refine Classical.byContradiction fun q => X fun a ha hs => q ⟨a, ha, hs⟩
    obtain ⟨a0, ha0, b0, hb0, c0, hc0, e0⟩ := X
    have p' : Prim (lo :: (T ++ [m])) := prim_sub p (d0 := fun d k => ⟨a0, ha0, by rw [e0]; exact k _ hb0 _ hc0⟩)
    have hl2 : h - lo ≤ 2 * (m - lo) := by have := f3 b0 hb0; have := f2 c0 hc0; have := f3 a0 ha0; lia
    by_cases hm : m - lo ≤ 2 * (n : Int)
    · exact .inl ((far s (by lia) (by lia) (by lia) hl2).2.le (by lia))
    · exact .inr ((Pos.of (ih T lo m hT s1 p')).le (by lia))

/-- a row into which x is laid -/
def ins (x : Int) : List Int → List Int
  | [] => [x]
  | a :: A => if x < a then x :: a :: A else if x = a then a :: A else a :: ins x A
set_option tactic.hygienic true in
theorem mem_ins {x y : Int} : ∀ {A : List Int}, y ∈ ins x A ↔ y = x ∨ y ∈ A
  | [] => by simp [ins]
  | a :: A => by
    unfold ins
    split
    · simp
    · split
      · rename_i h1 h2; subst h2; simp
      · simp only [List.mem_cons, mem_ins (A := A)]
        constructor <;> rintro (h | h | h) <;> simp [h]
theorem ins_srt {x : Int} : ∀ {A : List Int}, Srt A → Srt (ins x A)
  | [], _ => by simp [ins]
  | a :: A, s => by
    have s' := List.pairwise_cons.mp s
    unfold ins
    split
    · refine List.pairwise_cons.mpr ⟨fun b hb => ?_, s⟩
      rcases List.mem_cons.mp hb with rfl | hb
      · assumption
      · have := s'.1 b hb; lia
    · split
      · exact s
      · refine List.pairwise_cons.mpr ⟨fun b hb => ?_, ins_srt s'.2⟩
        rcases mem_ins.mp hb with rfl | hb
        · lia
        · exact s'.1 b hb
set_option tactic.hygienic true in
theorem ins_len {x : Int} : ∀ {A : List Int}, x ∉ A → (ins x A).length = A.length + 1
  | [], _ => rfl
  | a :: A, h => by
    unfold ins
    split
    · rfl
    · split
      · rename_i h1 h2; exact absurd (h2 ▸ List.mem_cons_self) h
      · simp [ins_len (A := A) fun q => h (.tail _ q)]
/-- a sorted row from its least to its greatest -/
theorem shape {A : List Int} {lo h : Int} (s : Srt A) (hlo : lo ∈ A) (hh : h ∈ A) (l1 : ∀ a ∈ A, lo ≤ a) (l2 : ∀ a ∈ A, a ≤ h) (hlt : lo < h) : ∃ T, A = lo :: (T ++ [h]) := by
  cases A with
  | nil => cases hlo
  | cons a A =>
    have s' := List.pairwise_cons.mp s
    have ea : a = lo := by
      have := l1 a (.head _)
      rcases List.mem_cons.mp hlo with e | e
      · exact e.symm
      · have := s'.1 lo e; lia
    subst ea
    have hh' : h ∈ A := by
      rcases List.mem_cons.mp hh with e | e
      · lia
      · exact e
    obtain ⟨T, x, rfl⟩ := snoc_of (A := A) (fun e => by rw [e] at hh'; cases hh')
    have := (snoc_lt s'.2).2
    have hx := l2 x (by simp)
    rcases List.mem_append.mp hh' with e | e
    · have := this h e; lia
    · simp at e; subst e; exact ⟨T, rfl⟩

theorem diffOdd {n j : Nat} (hj : n = 2 * j) (hn : n ≤ 4) (ih : ThmD n) {T : List Int} {lo m h : Int} (hT : T.length = n) (s : Srt (lo :: ((T ++ [m]) ++ [h]))) (p : Prim (lo :: ((T ++ [m]) ++ [h]))) (hl : 2 * (n : Int) + 4 ≤ h - lo) :
    Ge (IsD (lo :: ((T ++ [m]) ++ [h]))) (3 * n + 6) := by
  refine Classical.byContradiction fun no => ?_
  obtain ⟨e1, e2, e3, e4, s1⟩ := ends s
  have tops := diffTop (by lia) ih hT s p hl
  obtain ⟨b1, T', hb⟩ : ∃ b1 T', T ++ [m] = b1 :: T' := List.exists_cons_of_ne_nil (by simp)
  have hT' : T'.length = n := by have := congrArg List.length hb; simp at this; lia
  have er : rv (lo :: ((T ++ [m]) ++ [h])) = -h :: ((rv T' ++ [-b1]) ++ [-lo]) := by rw [rv_snoc, hb]; simp [rv]
  have sr := s.rv; have pr := p.rv
  rw [er] at sr pr
  have bots := diffTop (by lia) ih (by rw [rv_len]; exact hT') sr pr (by lia)
  rw [← er] at bots
  have b1m : b1 ∈ T ++ [m] := by rw [hb]; exact .head _
  have o1 := e4 b1 b1m
  have o2 := e4 m (by simp)
  have sb : ∀ a ∈ T', b1 < a := by
    have s3 := (List.pairwise_cons.mp s1).2
    rw [hb] at s3
    exact (List.pairwise_cons.mp s3).1
  have om : ∀ a ∈ T ++ [m], a ≤ m := fun a ha => (ends s1).2.2.1 a (.tail _ ha)
  have ob : ∀ a ∈ T ++ [m], b1 ≤ a := fun a ha => by
    rw [hb] at ha
    rcases List.mem_cons.mp ha with rfl | ha
    · lia
    · have := sb a ha; lia
  have sA := s
  generalize hA : lo :: ((T ++ [m]) ++ [h]) = A at s p no tops bots er e2 e3
  have hlen : A.length = n + 3 := by rw [← hA]; simp [hT]
  have hloA : lo ∈ A := by rw [← hA]; exact .head _
  have hhA : h ∈ A := by rw [← hA]; simp
  have hmA : m ∈ A := by rw [← hA]; simp
  have hbA : b1 ∈ A := by rw [← hA]; exact .tail _ (List.mem_append_left _ b1m)
  have cases3 : ∀ a ∈ A, a = lo ∨ a = h ∨ (b1 ≤ a ∧ a ≤ m) := fun a ha => by
    rw [← hA] at ha
    rcases List.mem_cons.mp ha with rfl | ha
    · exact .inl rfl
    rcases List.mem_append.mp ha with ha | ha
    · exact .inr (.inr ⟨ob a ha, om a ha⟩)
    · simp at ha; exact .inr (.inl ha)
  have sub : ∀ a ∈ lo :: (T ++ [m]), a ∈ A := fun a ha => by rw [← hA]; rcases List.mem_cons.mp ha with rfl | ha; exact .head _; exact .tail _ (List.mem_append_left _ ha)
  have hne : A ≠ [] := fun e => by rw [e] at hloA; cases hloA
  have noP : ∀ q, Pos A q → q ≤ 3 * j + 2 := fun q g => by
    refine Nat.le_of_not_lt fun hq => no ((Pos.all g hne).le (by lia))
  -- those without a mirror
  generalize hU : A.filter (fun a => decide (lo + h - a ∉ A)) = U
  have memU : ∀ a, a ∈ U ↔ a ∈ A ∧ lo + h - a ∉ A := fun a => by rw [← hU, List.mem_filter, decide_eq_true_eq]
  have sU : Srt U := by rw [← hU]; exact s.filter _
  have g1 : Ge (fun x => 0 < x ∧ lo + x ∈ A) (n + 2) := by
    have := (Ge.le (Srt.ge (A := (T ++ [m]) ++ [h]) (List.pairwise_cons.mp sA).2) (m := n + 2) (by simp [hT]))
    refine this.map (fun a => a - lo) (fun x y _ _ e => by lia) fun x hx => ⟨by have := (List.pairwise_cons.mp sA).1 x hx; lia, ?_⟩
    rw [show lo + (x - lo) = x by lia, ← hA]; exact .tail _ hx
  have g2 : Ge (fun x => 0 < x ∧ lo + x ∉ A ∧ h - x ∈ A) U.length := sU.ge.map (fun a => h - a) (fun x y _ _ e => by lia) fun x hx => by
    obtain ⟨h1, h2⟩ := (memU x).mp hx
    refine ⟨?_, by rw [show lo + (h - x) = lo + h - x by lia]; exact h2, by rw [show h - (h - x) = x by lia]; exact h1⟩
    have := e3 x h1
    by_cases q : x = h
    · subst q; rw [show lo + x - x = lo by lia] at h2; exact absurd hloA h2
    · lia
  have g3 : Ge (fun x => 0 < x ∧ IsD A x ∧ (lo + x ∈ A ∨ h - x ∈ A)) (n + 2 + U.length) := Ge.add g1 g2 (fun x a b => b.2.1 a.2) (fun x a => ⟨a.1, ⟨_, a.2, _, hloA, by lia⟩, .inl a.2⟩) fun x a => ⟨a.1, ⟨_, hhA, _, a.2.2, by lia⟩, .inr a.2.2⟩
  have hU1 := noP _ (g3.mono fun x a => ⟨a.1, a.2.1⟩)
  have hU2 : U.length ≤ j := by lia
  match U, hU2, memU, g3 with
  | [], _, memU, _ =>
    have hmir : ∀ a ∈ A, lo + h - a ∈ A := fun a ha => Classical.byContradiction fun q => by have := (memU a).mpr ⟨ha, q⟩; cases this
    have g := thmS (n + 1) (by lia) (T ++ [m]) lo h (by simp [hT]) (hA ▸ s) (hA ▸ p)
    rw [hA] at g
    refine no ((g.map (fun x => x - (lo + h)) (fun x y _ _ e => by lia) (Q := IsD A) fun x ⟨a, ha, b, hb, e⟩ => ⟨a, ha, lo + h - b, hmir b hb, by lia⟩).le (by lia))
  | [y], hU2, memU, _ =>
    obtain ⟨hy1, hy2⟩ := (memU y).mp (.head _)
    have hmir : ∀ a ∈ A, a = y ∨ lo + h - a ∈ A := fun a ha => Classical.byContradiction fun q => by
      have := (memU a).mpr ⟨ha, fun z => q (.inr z)⟩
      simp at this; exact q (.inl this)
    have hylo := e2 y hy1; have hyh := e3 y hy1
    obtain ⟨T2, hS⟩ := shape (A := ins (lo + h - y) A) (lo := lo) (h := h) (ins_srt s) (mem_ins.mpr (.inr hloA)) (mem_ins.mpr (.inr hhA)) (fun a ha => by rcases mem_ins.mp ha with rfl | ha; lia; exact e2 a ha) (fun a ha => by rcases mem_ins.mp ha with rfl | ha; lia; exact e3 a ha) e1
    have hSl : T2.length = n + 2 := by have := ins_len hy2; rw [hS, hlen] at this; simp at this; lia
    have g := thmS (n + 2) (by lia) T2 lo h hSl (hS ▸ ins_srt s) fun d k => p d fun a ha b hb => k a (by rw [← hS]; exact mem_ins.mpr (.inr ha)) b (by rw [← hS]; exact mem_ins.mpr (.inr hb))
    rw [← hS] at g
    have hmS : ∀ a ∈ ins (lo + h - y) A, lo + h - a ∈ ins (lo + h - y) A := fun a ha => by
      rcases mem_ins.mp ha with rfl | ha
      · exact mem_ins.mpr (.inr (by rw [show lo + h - (lo + h - y) = y by lia]; exact hy1))
      · rcases hmir a ha with rfl | h'
        · exact mem_ins.mpr (.inl rfl)
        · exact mem_ins.mpr (.inr h')
    have gD : Ge (IsD (ins (lo + h - y) A)) (3 * n + 8) := (g.map (fun x => x - (lo + h)) (fun x y _ _ e => by lia) fun x ⟨a, ha, b, hb, e⟩ => ⟨a, ha, _, hmS b hb, by lia⟩).le (by lia)
    obtain ⟨i, k, hik, k1, k2⟩ := (Pos.of gD).split fun x => decide (x = lo + h - y - y ∨ x = y - (lo + h - y))
    have hi : i ≤ 1 := by
      by_cases z : lo + h - y ≤ y
      · have := k1.len (S := [y - (lo + h - y)]) fun x ⟨⟨a, _⟩, b⟩ => by simp at b; simp; lia
        simpa using this
      · have := k1.len (S := [lo + h - y - y]) fun x ⟨⟨a, _⟩, b⟩ => by simp at b; simp; lia
        simpa using this
    have := noP k (k2.mono fun x ⟨⟨h0, a, ha, b, hb, e⟩, q⟩ => ⟨h0, by
      simp only [decide_eq_false_iff_not, not_or] at q
      rcases mem_ins.mp ha with rfl | ha <;> rcases mem_ins.mp hb with rfl | hb
      · lia
      · rcases hmir b hb with rfl | hb'
        · lia
        · exact ⟨_, hb', y, hy1, by lia⟩
      · rcases hmir a ha with rfl | ha'
        · lia
        · exact ⟨y, hy1, _, ha', by lia⟩
      · exact ⟨a, ha, b, hb, e⟩⟩)
    lia
  | y :: y2 :: U', hU2, memU, g3 =>
    have hj2 : j = 2 := by simp at hU2; lia
    subst hj2
    simp at hU2
    subst hU2
    -- S holds all the differences
    have hS : ∀ x, 0 ≤ x → IsD A x → lo + x ∈ A ∨ h - x ∈ A := fun x h0 hx => Classical.byContradiction fun q => by
      have hx0 : 0 < x := by
        by_cases z : x = 0
        · subst z; exact absurd (.inl (by simpa using hloA)) q
        · lia
      have := noP _ (Ge.add g3 (Ge.one (P := fun z => z = x) rfl) (R := fun x => 0 < x ∧ IsD A x) (fun z a b => q (b ▸ a.2.2)) (fun z a => ⟨a.1, a.2.1⟩) fun z a => a ▸ ⟨hx0, hx⟩)
      simp at this; lia
    have t1 : h - b1 ≤ m - lo := Classical.byContradiction fun q => by
      rcases tops with t | t
      · exact no t
      · have g := Ge.add t (Ge.add (Ge.one (P := fun x => x = h - b1) rfl) (Ge.one (P := fun x => x = h - lo) rfl) (R := fun x => x = h - b1 ∨ x = h - lo) (fun x a b => by lia) (fun x a => .inl a) fun x a => .inr a)
          (R := fun x => 0 < x ∧ IsD A x) (fun x ⟨a, u, hu, v, hv, e⟩ b => by
            have := (ends s1).2.2.1 u hu; have := (ends s1).2.1 v hv; lia) (fun x ⟨a, u, hu, v, hv, e⟩ => ⟨a, u, sub u hu, v, sub v hv, e⟩) fun x a => by
              rcases a with rfl | rfl
              · exact ⟨by lia, h, hhA, b1, hbA, rfl⟩
              · exact ⟨by lia, h, hhA, lo, hloA, rfl⟩
        have := noP _ g
        lia
    have t2 : m - lo ≤ h - b1 := Classical.byContradiction fun q => by
      rcases bots with t | t
      · exact no (((Pos.of t |> rv_D).all hne).le (by lia))
      · have g := Ge.add t (Ge.add (Ge.one (P := fun x => x = m - lo) rfl) (Ge.one (P := fun x => x = h - lo) rfl) (R := fun x => x = m - lo ∨ x = h - lo) (fun x a b => by lia) (fun x a => .inl a) fun x a => .inr a)
          (R := fun x => 0 < x ∧ IsD A x) (fun x ⟨a, u, hu, v, hv, e⟩ b => by
            have hr : ∀ u ∈ -h :: (rv T' ++ [-b1]), -h ≤ u ∧ u ≤ -b1 := fun u hu => by
              rcases List.mem_cons.mp hu with rfl | hu
              · lia
              rcases List.mem_append.mp hu with hu | hu
              · have hu := mem_rv.mp hu
                have := sb _ hu
                have : -u ∈ T ++ [m] := by rw [hb]; exact .tail _ hu
                have := om _ this
                lia
              · simp at hu; lia
            have := hr u hu; have := hr v hv; lia) (fun x ⟨a, u, hu, v, hv, e⟩ => by
              have hr : ∀ u ∈ -h :: (rv T' ++ [-b1]), -u ∈ A := fun u hu => by
                rcases List.mem_cons.mp hu with rfl | hu
                · simpa using hhA
                rcases List.mem_append.mp hu with hu | hu
                · have : -u ∈ T ++ [m] := by rw [hb]; exact .tail _ (mem_rv.mp hu)
                  exact sub _ (.tail _ this)
                · simp at hu; rw [hu]; simpa using hbA
              exact ⟨a, -v, hr v hv, -u, hr u hu, by lia⟩) fun x a => by
              rcases a with rfl | rfl
              · exact ⟨by lia, m, hmA, lo, hloA, rfl⟩
              · exact ⟨by lia, h, hhA, lo, hloA, rfl⟩
        have := noP _ g
        lia
    -- S steps down by b1 - lo
    have step : ∀ x, lo < x → (x ∈ A ∨ lo + h - x ∈ A) → (x - (b1 - lo) ∈ A ∨ lo + h - (x - (b1 - lo)) ∈ A) ∧ lo ≤ x - (b1 - lo) := fun x hx hS' => by
      by_cases hxA : x ∈ A
      · have : b1 ≤ x := by rcases cases3 x hxA with r | r | r <;> lia
        have := hS (x - b1) (by lia) ⟨x, hxA, b1, hbA, rfl⟩
        rw [show lo + (x - b1) = x - (b1 - lo) by lia, show h - (x - b1) = lo + h - (x - (b1 - lo)) by lia] at this
        exact ⟨this, by lia⟩
      · have hx' : lo + h - x ∈ A := hS'.resolve_left hxA
        have : lo + h - x ≤ m := by rcases cases3 _ hx' with r | r | r <;> lia
        have := hS (m - (lo + h - x)) (by lia) ⟨m, hmA, _, hx', rfl⟩
        rw [show lo + (m - (lo + h - x)) = x - (b1 - lo) by lia, show h - (m - (lo + h - x)) = lo + h - (x - (b1 - lo)) by lia] at this
        exact ⟨this, by lia⟩
    have dv : ∀ (k : Nat) x, lo ≤ x → (x - lo).toNat ≤ k → (x ∈ A ∨ lo + h - x ∈ A) → (b1 - lo) ∣ x - lo := by
      intro k
      induction k with
      | zero => intro x h1 h2 _; rw [show x - lo = 0 by lia]; exact Int.dvd_zero _
      | succ k ih =>
        intro x h1 h2 h3
        by_cases z : x = lo
        · rw [z, Int.sub_self]; exact Int.dvd_zero _
        · obtain ⟨q1, q2⟩ := step x (by lia) h3
          have := ih _ q2 (by lia) q1
          rw [show x - lo = (x - (b1 - lo) - lo) + (b1 - lo) by lia]
          exact Int.dvd_add this (Int.dvd_refl _)
    have one : b1 - lo = 1 := by
      have := p (b1 - lo) fun a ha b hb => by
        rw [show a - b = (a - lo) - (b - lo) by lia]
        exact Int.dvd_sub (dv _ a (e2 a ha) (Nat.le_refl _) (.inl ha)) (dv _ b (e2 b hb) (Nat.le_refl _) (.inl hb))
      have := Int.le_of_dvd (by decide) this
      lia
    rw [one] at step
    have all : ∀ (k : Nat), (k : Int) ≤ h - lo → (h - k ∈ A ∨ lo + h - (h - k) ∈ A) := by
      intro k
      induction k with
      | zero => intro _; exact .inl (by simpa using hhA)
      | succ k ih =>
        intro hk
        have := (step (h - k) (by lia) (ih (by lia))).1
        rw [show h - (k : Int) - 1 = h - ((k + 1 : Nat) : Int) by lia] at this
        exact this
    have g : Pos A 12 := by
      refine ⟨(List.range 12).map fun i => ((i + 1 : Nat) : Int), nodup_map List.nodup_range fun x _ y _ e => by lia, fun x hx => ?_, by simp⟩
      obtain ⟨i, hi, rfl⟩ := List.mem_map.mp hx
      rw [List.mem_range] at hi
      refine ⟨by lia, ?_⟩
      rcases all (i + 1) (by lia) with q | q
      · exact ⟨h, hhA, _, q, by lia⟩
      · exact ⟨_, q, lo, hloA, by lia⟩
    have := noP _ g
    lia

theorem thmD : ∀ (n : Nat), n ≤ 6 → ThmD n
  | 0, _ => fun T lo h hT s p => by
    have : T = [] := List.eq_nil_of_length_eq_zero hT
    subst this
    have := prim2 s p
    exact ((short s (by simp) (by simp; lia)).2).le (by simp; lia)
  | n + 1, hn => fun T lo h hT s p => by
    by_cases hl : h - lo ≤ 2 * (n : Int) + 3
    · exact ((short s (by lia) (by lia)).2).le (by lia)
    · obtain ⟨T0, m, rfl⟩ := snoc_of (A := T) (fun e => by rw [e] at hT; simp at hT)
      have hT0 : T0.length = n := by simpa using hT
      have ih := thmD n (by lia)
      by_cases par : n % 2 = 0
      · exact (diffOdd (j := n / 2) (by lia) (by lia) ih hT0 s p (by lia)).le (by lia)
      · rcases diffTop (by lia) ih hT0 s p (by lia) with g | g
        · exact g.le (by lia)
        · obtain ⟨e1, e2, e3, e4, s1⟩ := ends s
          have e5 := (e4 m (by simp)).2
          have sub : ∀ a ∈ lo :: (T0 ++ [m]), a ∈ lo :: ((T0 ++ [m]) ++ [h]) := fun a ha => by rcases List.mem_cons.mp ha with rfl | ha; exact .head _; exact .tail _ (List.mem_append_left _ ha)
          have g2 : Pos (lo :: ((T0 ++ [m]) ++ [h])) _ := Ge.add g (Ge.one (P := fun x => x = h - lo) rfl) (fun x ⟨a, u, hu, v, hv, e⟩ b => by
              have := (ends s1).2.2.1 u hu; have := (ends s1).2.1 v hv; lia) (fun x ⟨a, u, hu, v, hv, e⟩ => ⟨a, u, sub u hu, v, sub v hv, e⟩) fun x a => ⟨by lia, h, by simp, lo, .head _, a⟩
          exact (g2.all (by simp)).le (by lia)
end Fr

namespace Fr

theorem freiman {lo h g : Int} {T : List Int} (s : Srt (lo :: (T ++ [h]))) (hT : T.length ≤ 6) (hg : 0 < g) (dv : ∀ a ∈ lo :: (T ++ [h]), g ∣ a - lo) (gr : ∀ d : Int, (∀ a ∈ lo :: (T ++ [h]), d ∣ a - lo) → d ∣ g) :
    Ge (IsS (lo :: (T ++ [h]))) (T.length + 2 + min ((h - lo) / g).toNat (2 * T.length + 1)) ∧ Ge (IsD (lo :: (T ++ [h]))) (T.length + 2 + min ((h - lo) / g).toNat (2 * T.length + 1)) := by
  have back : ∀ a ∈ lo :: (T ++ [h]), lo + g * ((a - lo) / g) = a := fun a ha => by
    have := Int.mul_ediv_cancel' (dv a ha); lia
  have e0 : (lo :: (T ++ [h])).map (fun a => (a - lo) / g) = 0 :: (T.map (fun a => (a - lo) / g) ++ [(h - lo) / g]) := by simp
  have s0 : Srt ((lo :: (T ++ [h])).map (fun a => (a - lo) / g)) := by
    rw [Srt, List.pairwise_map]
    refine s.imp_of_mem fun {a b} ha hb hab => ?_
    have h1 := back a ha; have h2 := back b hb
    refine Int.lt_of_not_ge fun q => ?_
    have := Int.mul_le_mul_of_nonneg_left q (Int.le_of_lt hg)
    lia
  have p0 : Prim ((lo :: (T ++ [h])).map (fun a => (a - lo) / g)) := fun d k => by
    have h1 : g * d ∣ g := gr (g * d) fun a ha => by
      have h2 := k _ (List.mem_map_of_mem ha) 0 (by rw [e0]; exact .head _)
      rw [Int.sub_zero] at h2
      have h3 := Int.mul_dvd_mul (Int.dvd_refl g) h2
      have h4 := back a ha
      rw [show a - lo = g * ((a - lo) / g) by lia]; exact h3
    have h2 : g * d ∣ g * 1 := by rw [Int.mul_one]; exact h1
    exact Int.dvd_of_mul_dvd_mul_left (by lia) h2
  rw [e0] at s0 p0
  have inj : ∀ x y : Int, g * x = g * y → x = y := fun x y e => Int.eq_of_mul_eq_mul_left (by lia) e
  have mem : ∀ q ∈ (0 : Int) :: (T.map (fun a => (a - lo) / g) ++ [(h - lo) / g]), lo + g * q ∈ lo :: (T ++ [h]) := fun q hq => by
    rw [← e0] at hq
    obtain ⟨a, ha, rfl⟩ := List.mem_map.mp hq
    rw [back a ha]; exact ha
  have gS := thmS _ hT (T.map fun a => (a - lo) / g) 0 ((h - lo) / g) (by simp) s0 p0
  have gD := thmD _ hT (T.map fun a => (a - lo) / g) 0 ((h - lo) / g) (by simp) s0 p0
  rw [Int.sub_zero] at gS gD
  refine ⟨gS.map (fun x => g * x + 2 * lo) (fun x y _ _ e => inj x y (by lia)) fun x ⟨a, ha, b, hb, e⟩ => ⟨_, mem a ha, _, mem b hb, ?_⟩, gD.map (fun x => g * x) (fun x y _ _ e => inj x y e) fun x ⟨a, ha, b, hb, e⟩ => ⟨_, mem a ha, _, mem b hb, ?_⟩⟩
  · rw [e, Int.mul_add]; lia
  · rw [e, Int.mul_sub]; lia

/-- Ruzsa's triangle -/
theorem ruzsa1 {row Sm Gp : List Int} (nr : row.Nodup) (nG : Gp.Nodup) (hS : ∀ x, IsS row x → x ∈ Sm) (hG : ∀ x ∈ Gp, IsD row x) : Gp.length * row.length ≤ Sm.length * Sm.length := by
  have : ∃ f : Int → Int × Int, ∀ d, IsD row d → (f d).1 ∈ row ∧ (f d).2 ∈ row ∧ d = (f d).1 - (f d).2 := by
    refine Classical.axiomOfChoice (r := fun (d : Int) (q : Int × Int) => IsD row d → q.1 ∈ row ∧ q.2 ∈ row ∧ d = q.1 - q.2) fun d => ?_
    by_cases h : IsD row d
    · obtain ⟨a, ha, b, hb, e⟩ := h; exact ⟨(a, b), fun _ => ⟨ha, hb, e⟩⟩
    · exact ⟨(0, 0), fun q => absurd q h⟩
  obtain ⟨f, hf⟩ := this
  have hn : (Gp.flatMap fun d => row.map fun c => ((f d).1 + c, (f d).2 + c)).Nodup := by
    rw [List.Nodup, List.pairwise_flatMap]
    refine ⟨fun d hd => ?_, nG.imp_of_mem fun {d e} hd he hde x hx y hy => ?_⟩
    · exact nodup_map nr fun x _ y _ e => by simp only [Prod.mk.injEq] at e; lia
    · obtain ⟨c, _, rfl⟩ := List.mem_map.mp hx
      obtain ⟨c', _, rfl⟩ := List.mem_map.mp hy
      have h1 := (hf d (hG d hd)).2.2; have h2 := (hf e (hG e he)).2.2
      intro q; simp only [Prod.mk.injEq] at q; lia
  have hsub : ∀ q ∈ (Gp.flatMap fun d => row.map fun c => ((f d).1 + c, (f d).2 + c)), q ∈ Sm.flatMap fun x => Sm.map fun y => (x, y) := fun q hq => by
    obtain ⟨d, hd, hq⟩ := List.mem_flatMap.mp hq
    obtain ⟨c, hc, rfl⟩ := List.mem_map.mp hq
    have h1 := hf d (hG d hd)
    exact List.mem_flatMap.mpr ⟨_, hS _ ⟨_, h1.1, c, hc, rfl⟩, List.mem_map_of_mem (hS _ ⟨_, h1.2.1, c, hc, rfl⟩)⟩
  have := nodup_le hn hsub
  have len : ∀ (l : List Int) (m : Int → List (Int × Int)) (k : Nat), (∀ x, (m x).length = k) → (l.flatMap m).length = l.length * k := fun l m k h => by
    induction l with
    | nil => simp
    | cons x l ih => rw [List.flatMap_cons, List.length_append, ih, h, List.length_cons, Nat.succ_mul, Nat.add_comm]
  rw [len _ _ row.length (fun x => by simp), len _ _ Sm.length (fun x => by simp)] at this
  exact this

/-- sums of two, each once -/
def tri : List Int → List Int
  | [] => []
  | a :: A => (a :: A).map (a + ·) ++ tri A
theorem tri_len : ∀ A : List Int, 2 * (tri A).length = A.length * (A.length + 1)
  | [] => rfl
  | a :: A => by
    have := tri_len A
    simp only [tri, List.length_append, List.length_map, List.length_cons]
    rw [Nat.mul_add, this]
    generalize A.length = k
    rw [show (k + 1) * (k + 1 + 1) = k * (k + 1) + 2 * (k + 1) by simp only [Nat.mul_add, Nat.add_mul]; lia]
    lia
theorem tri_mem : ∀ {A : List Int} {x : Int}, IsS A x → x ∈ tri A
  | [], x, ⟨a, ha, _⟩ => nomatch ha
  | c :: A, x, ⟨a, ha, b, hb, e⟩ => by
    simp only [tri, List.mem_append, List.mem_map]
    rcases List.mem_cons.mp ha with rfl | ha'
    · exact .inl ⟨b, hb, e.symm⟩
    · rcases List.mem_cons.mp hb with rfl | hb'
      · exact .inl ⟨a, ha, by lia⟩
      · exact .inr (tri_mem ⟨a, ha', b, hb', e⟩)

theorem numbers : ∀ k, k < 9 → ∀ l, l < 20 → 2 ≤ k → k ≤ l + 1 → min (k * (k + 1) / 2) (2 * l + 1) * k ≤ (k + min l (2 * k - 3)) * (k + min l (2 * k - 3)) := by decide +kernel

theorem sums_few {lo h g : Int} {T : List Int} {Sm : List Int} (s : Srt (lo :: (T ++ [h]))) (hg : 0 < g) (dv : ∀ a ∈ lo :: (T ++ [h]), g ∣ a - lo) (nS : Sm.Nodup) (hS : ∀ x ∈ Sm, IsS (lo :: (T ++ [h])) x) :
    Sm.length ≤ 2 * ((h - lo) / g).toNat + 1 ∧ T.length + 1 ≤ ((h - lo) / g).toNat := by
  obtain ⟨e1, e2, e3, e4, _⟩ := ends s
  have back : ∀ a ∈ lo :: (T ++ [h]), lo + g * ((a - lo) / g) = a := fun a ha => by
    have := Int.mul_ediv_cancel' (dv a ha); lia
  have bd : ∀ a ∈ lo :: (T ++ [h]), 0 ≤ (a - lo) / g ∧ (a - lo) / g ≤ (h - lo) / g := fun a ha => by
    have := e2 a ha; have := e3 a ha
    exact ⟨Int.ediv_nonneg (by lia) (by lia), Int.ediv_le_ediv hg (by lia)⟩
  constructor
  · have := nodup_le (S := (List.range (2 * ((h - lo) / g).toNat + 1)).map fun i : Nat => 2 * lo + g * (i : Int)) nS fun x hx => by
      obtain ⟨a, ha, b, hb, e⟩ := hS x hx
      have h1 := bd a ha; have h2 := bd b hb; have h3 := back a ha; have h4 := back b hb
      refine List.mem_map.mpr ⟨((a - lo) / g + (b - lo) / g).toNat, List.mem_range.mpr (by lia), ?_⟩
      rw [Int.toNat_of_nonneg (by lia), Int.mul_add]; lia
    simpa using this
  · have := nodup_le (L := (lo :: (T ++ [h])).map fun a => (a - lo) / g) (S := (List.range (((h - lo) / g).toNat + 1)).map fun i : Nat => (i : Int)) (nodup_map s.nodup fun x hx y hy e => by
        have h3 := back x hx; have h4 := back y hy; rw [e] at h3; lia) fun x hx => by
      obtain ⟨a, ha, rfl⟩ := List.mem_map.mp hx
      have h1 := bd a ha
      exact List.mem_map.mpr ⟨((a - lo) / g).toNat, List.mem_range.mpr (by lia), by lia⟩
    simp at this; lia

/-- the law's last lines -/
theorem plain2 {row Sm Gp : List Int} (s : Srt row) (nS : Sm.Nodup) (nG : Gp.Nodup) (hS : ∀ x, x ∈ Sm ↔ IsS row x) (hG : ∀ x, x ∈ Gp ↔ IsD row x) :
    Gp.length * row.length ≤ Sm.length * Sm.length ∧ (row.length = 1 → Sm.length * row.length ≤ Gp.length * Gp.length) ∧
    ∀ lo h T g, row = lo :: (T ++ [h]) → T.length ≤ 6 → 0 < g → (∀ a ∈ row, g ∣ a - lo) → (∀ d : Int, (∀ a ∈ row, d ∣ a - lo) → d ∣ g) →
      Sm.length * row.length ≤ Gp.length * Gp.length ∧ min ((h - lo) / g).toNat (2 * row.length - 3) + row.length ≤ Sm.length ∧ min ((h - lo) / g).toNat (2 * row.length - 3) + row.length ≤ Gp.length ∧ 0 ≤ (h - lo) / g := by
  refine ⟨ruzsa1 s.nodup nG (fun x h => (hS x).mpr h) fun x h => (hG x).mp h, fun h1 => ?_, fun lo h T g e hT hg dv gr => ?_⟩
  · have h2 := nodup_le nS fun x hx => tri_mem ((hS x).mp hx)
    have h3 := tri_len row
    rw [h1] at h3
    obtain ⟨a, ha⟩ : ∃ a, a ∈ row := List.exists_mem_of_ne_nil row fun e => by rw [e] at h1; cases h1
    have h4 := List.length_pos_of_mem ((hG 0).mpr ⟨a, ha, a, ha, by lia⟩)
    rw [h1, Nat.mul_one]
    have : 1 * 1 ≤ Gp.length * Gp.length := Nat.mul_le_mul h4 h4
    lia
  · subst e
    obtain ⟨g1, g2⟩ := freiman s hT hg dv gr
    have l1 := g1.len fun x h => (hS x).mpr h
    have l2 := g2.len fun x h => (hG x).mpr h
    obtain ⟨f1, f2⟩ := sums_few s hg dv nS fun x h => (hS x).mp h
    have f3 := nodup_le nS fun x hx => tri_mem ((hS x).mp hx)
    have f4 := tri_len (lo :: (T ++ [h]))
    have f5 : 0 ≤ (h - lo) / g := Int.ediv_nonneg (by have := (ends s).1; lia) (by lia)
    generalize ((h - lo) / g).toNat = L at *
    have hk : (lo :: (T ++ [h])).length = T.length + 2 := by simp
    rw [hk] at f4 ⊢
    have e3 : 2 * (T.length + 2) - 3 = 2 * T.length + 1 := by lia
    rw [e3]
    refine ⟨?_, by lia, by lia, f5⟩
    have hnum := numbers (T.length + 2) (by lia) (min L 19) (by lia) (by lia) (by lia)
    rw [e3] at hnum
    have a1 : (tri (lo :: (T ++ [h]))).length = (T.length + 2) * (T.length + 2 + 1) / 2 := by lia
    have a2 : (T.length + 2) * (T.length + 2 + 1) ≤ 8 * 9 := Nat.mul_le_mul (by lia) (by lia)
    have a3 : Sm.length ≤ min ((T.length + 2) * (T.length + 2 + 1) / 2) (2 * min L 19 + 1) := by lia
    have a4 : T.length + 2 + min (min L 19) (2 * T.length + 1) ≤ Gp.length := by lia
    exact Nat.le_trans (Nat.mul_le_mul_right _ a3) (Nat.le_trans hnum (Nat.mul_le_mul a4 a4))
end Fr

open Mine.Fr
/-! law 2: laying in a strictly rising row -/
def insS (x : Int) : List Int → List Int
  | [] => [x]
  | a :: l => if a < x then a :: insS x l else x :: a :: l
theorem mem_insS {x y : Int} : ∀ {l : List Int}, y ∈ insS x l ↔ y = x ∨ y ∈ l
  | [] => by simp [insS]
  | a :: l => by
    unfold insS
    by_cases h : a < x
    · rw [if_pos h, List.mem_cons, mem_insS, List.mem_cons]; exact or_left_comm
    · rw [if_neg h, List.mem_cons]
theorem insS_srt {x : Int} : ∀ {l : List Int}, Srt l → x ∉ l → Srt (insS x l)
  | [], _, _ => List.pairwise_singleton _ _
  | a :: l, s, hx => by
    have ⟨s1, s2⟩ := List.pairwise_cons.mp s
    have ⟨n1, n2⟩ := not_or.mp fun q => hx (List.mem_cons.mpr q)
    unfold insS
    by_cases h : a < x
    · rw [if_pos h]
      refine List.pairwise_cons.mpr ⟨fun y hy => ?_, insS_srt s2 n2⟩
      rcases mem_insS.mp hy with rfl | hy
      · exact h
      · exact s1 y hy
    · rw [if_neg h]
      have h1 : x < a := by lia
      exact List.pairwise_cons.mpr ⟨fun y hy => by rcases List.mem_cons.mp hy with rfl | hy; exact h1; exact Int.lt_trans h1 (s1 y hy), s⟩
theorem insS_len {x : Int} : ∀ {l : List Int}, (insS x l).length = l.length + 1
  | [] => rfl
  | a :: l => by unfold insS; by_cases h : a < x <;> simp [h, insS_len]
theorem srt_le {l : List Int} (s : Srt l) : l.Pairwise (· ≤ ·) := s.imp fun h => Int.le_of_lt h
theorem insAt_lt {x : Int} : ∀ {l : List Int}, Srt l → insAt (l.countP (fun a => decide (a < x))) (.int x) (l.map .int) = (insS x l).map .int
  | [], _ => rfl
  | a :: l, s => by
    have ⟨s1, s2⟩ := List.pairwise_cons.mp s
    unfold insS
    by_cases h : a < x
    · rw [if_pos h, List.countP_cons_of_pos (by simpa using h), List.map_cons, List.map_cons, ← insAt_lt s2]; rfl
    · rw [if_neg h]
      have : (a :: l).countP (fun a => decide (a < x)) = 0 := List.countP_eq_zero.mpr fun b hb => by
        rcases List.mem_cons.mp hb with rfl | hb
        · simpa using h
        · have := s1 b hb; simp; lia
      rw [this]; rfl
theorem le_lt {x : Int} : ∀ {l : List Int}, l.countP (fun a => decide (a ≤ x)) = l.countP (fun a => decide (a < x)) + l.count x
  | [] => rfl
  | a :: l => by
    rw [List.countP_cons, List.countP_cons, List.count_cons, le_lt]
    rcases Int.lt_trichotomy a x with h | h | h
    · have e : (a == x) = false := by simp; lia
      simp [h, Int.le_of_lt h, e]; lia
    · subst h; simp; lia
    · have e : (a == x) = false := by simp; lia
      simp [Int.not_lt.mpr (Int.le_of_lt h), Int.not_le.mpr h, e]
theorem geC {l : List Int} (s : l.Pairwise (· ≤ ·)) (x : Int) : bis (geAt l x) 0 l.length = l.countP (fun a => decide (a < x)) := by
  have := bis_count s (fun a => !decide (a < x)) fun a b h k => by simp at k ⊢; lia
  simp only [Bool.not_not] at this
  exact this
theorem gtC {l : List Int} (s : l.Pairwise (· ≤ ·)) (x : Int) : bis (gtAt l x) 0 l.length = l.countP (fun a => decide (a ≤ x)) := by
  have := bis_count s (fun a => decide (x < a)) fun a b h k => by simp at k ⊢; lia
  rw [show l.countP (fun a => decide (a ≤ x)) = l.countP (fun a => !decide (x < a)) from List.countP_congr fun a _ => by simp]
  exact this
theorem same_place {l : List Int} (s : Srt l) (x : Int) : ((bis (geAt l x) 0 l.length : Nat) : Int) = (bis (gtAt l x) 0 l.length : Nat) ↔ x ∉ l := by
  rw [geC (srt_le s), gtC (srt_le s), le_lt, ← List.count_eq_zero]; lia
def tupI (p : Int × Nat) : D := .tup [.int p.2, .int p.1]
theorem enumD_ints (l : List Int) : enumD 0 (l.map D.int) = l.zipIdx.map tupI := by
  rw [enumD_map, List.zipIdx_map, List.map_map, List.map_map]
  refine List.map_congr_left fun p _ => ?_
  simp [tupI]
open PySem PySem.W PySem.Calls PyProof.Rows
set_option maxRecDepth 20000
section
variable {g : G} (hK : g.K = hd.heap_39 g.w.params)
include hK
/-- _law_laid: the numbers once each, rising -/
theorem laid_body {ns : List Int} {n : Nat} {μ : Mu} {Q : D → Mu → Prop} (hl : ns.length ≤ 1000) (h : ∀ row : List Int, Fr.Srt row → (∀ x, x ∈ row ↔ x ∈ ns) → row.length ≤ ns.length → Q (.lst (row.map .int)) μ) :
    Calls g (n + 6) (.val (.ref 64)) [.lst (ns.map .int)] [] μ Q := by
  refine' Calls.enter (fa := 64) (hK := ?a) (hfo := ?b) (hbody := ?c) (hclo := ?d) (hglob := ?e) (hblt := ?f) (hcode := ?gg) (hco := ?h) (hgen := ?i) (hk := ?j)
    (bd := [("numbers", .lst (ns.map .int))]) ?bb (nm := ["numbers"]) (hnm := rfl) (hnames := ?k) (by decide) (hcn := ?l) ?_
  case a => rw [hK]; rfl
  case b => rfl
  case c => rfl
  case d => rfl
  case e => rfl
  case f => rfl
  case gg => rw [hK]; rfl
  case h => rfl
  case i => rfl
  case j => rfl
  case k => rfl
  case l => decide
  case bb => exact (BB.ok (fa := 64) hK (by constructor)) _ _ (by rw [hK]; rfl) rfl
  intro env own L he ho
  repeat' walk_at "st"
  refine Ev.listM ?_
  repeat' walk_at "st"
  intro t ht
  repeat' walk_at "st"
  refine Ex1.for (by lia) (EvI.enum ?_)
  repeat' walk_at "st"
  refine ⟨rfl, rfl, ?_⟩
  repeat' walk_at "st"
  refine ⟨_, rfl, ?_⟩
  rw [enumD_ints]
  refine ForL.run (I := fun ds ρ M => ∃ done rest, ns.zipIdx = done ++ rest ∧ ds = rest.map tupI ∧ ∃ row : List Int, Fr.Srt row ∧ (∀ x, x ∈ row ↔ x ∈ done.map (·.1)) ∧ row.length ≤ done.length ∧ M = (t, .ml (row.map .int)) :: μ ∧ ρ "row" = some (.val (.ref t))) ?_ ?_ _
    ⟨[], _, rfl, rfl, [], .nil, fun x => Iff.rfl, Nat.le_refl _, rfl, by walk_at "rho"⟩
  · rintro d ds ρ M ⟨done, rest, hdr, hds, row, hs, hm, hrl, rfl, h1⟩
    cases rest with
    | nil => cases hds
    | cons q rest =>
      obtain ⟨rfl, rfl⟩ : d = tupI q ∧ ds = rest.map tupI := by simpa using hds
      have hdl : done.length ≤ ns.length := by have := congrArg List.length hdr; simp at this; lia
      have hw : ((row.map D.int).length : Int) < 2 ^ 62 := by simp; lia
      refine .tup (.cons (by walk_at "bind") (.cons (by walk_at "bind") (.nil ?_)))
      repeat' walk_at "st"
      refine bisL_body (g := g.push env) hK (p := geAt row q.1) (lo := 0) (hi := row.length) (BB.ok hK (by constructor)) (.mu (.head _)) hw (by simp) (.inr ⟨rfl, by simp⟩) geAt_ok ?_
      repeat' walk_at "st"
      refine bisR_body (g := g.push env) hK (p := gtAt row q.1) (lo := 0) (hi := row.length) (BB.ok hK (by constructor)) (.mu (.head _)) hw (by simp) (.inr ⟨rfl, by simp⟩) gtAt_ok ?_
      repeat' walk_at "st"
      refine dec_of (fun hq => ?_) fun hq => ?_
      · have hx : q.1 ∉ row := (same_place hs q.1).mp (by simpa using hq)
        have fin : ∃ row' : List Int, Fr.Srt row' ∧ (∀ x, x ∈ row' ↔ x ∈ (done ++ [q]).map (·.1)) ∧ row'.length ≤ (done ++ [q]).length ∧ insAt (row.countP (fun a => decide (a < q.1))) (.int q.1) (row.map .int) = row'.map .int :=
          ⟨insS q.1 row, insS_srt hs hx, fun x => by rw [mem_insS, hm]; simp [or_comm], by rw [insS_len]; simp; lia, insAt_lt hs⟩
        obtain ⟨row', s', m', l', e'⟩ := fin
        refine Ex.seq (fun ρ' M' => M' = (t, .ml (row'.map .int)) :: μ ∧ ρ' "row" = some (.val (.ref t)) ∧ ρ' "laid" = some .none) ?_ ?_
        · repeat' walk_at "st"
          refine Ev.ifexp (Et.int ?_)
          repeat' walk_at "st"
          refine ⟨_, rfl, fun _ => ?_, fun _ => ?_⟩
          · repeat' walk_at "st"
            refine insL_body (g := g.push env) hK (p := geAt row q.1) (lo := 0) (hi := row.length) (BB.ok hK (by constructor)) (.head _) (by simp; lia) (Nat.zero_le _) (by simp) (.inr ⟨rfl, by simp⟩) geAt_ok ?_
            rw [setMu_hit, geC (srt_le hs), e']
            repeat' walk_at "st"
            exact ⟨rfl, rfl, by walk_at "rho", upd_same⟩
          · repeat' walk_at "st"
            refine insR_body (g := g.push env) hK (p := gtAt row q.1) (lo := 0) (hi := row.length) (BB.ok hK (by constructor)) (.head _) (by simp; lia) (Nat.zero_le _) (by simp) (.inr ⟨rfl, by simp⟩) gtAt_ok ?_
            rw [setMu_hit, gtC (srt_le hs), le_lt, List.count_eq_zero.mpr hx, Nat.add_zero, e']
            repeat' walk_at "st"
            exact ⟨rfl, rfl, by walk_at "rho", upd_same⟩
        rintro ρ' M' ⟨rfl, h1, h2⟩
        repeat' walk_at "st"
        refine ff_of ?_
        repeat' walk_at "st"
        exact ⟨done ++ [q], rest, by rw [hdr]; simp, rfl, row', s', m', l', rfl, h1⟩
      · have hx : q.1 ∈ row := Decidable.not_not.mp fun z => hq (by simpa using (same_place hs q.1).mpr z)
        repeat' walk_at "st"
        refine ⟨done ++ [q], rest, by rw [hdr]; simp, rfl, row, hs, fun x => ?_, by simp; lia, rfl, by walk_at "rho"⟩
        rw [hm, List.map_append, List.mem_append]
        exact ⟨.inl, fun z => z.elim id fun z => by simp at z; rw [z]; exact (hm _).mp hx⟩
  · rintro ρ M ⟨done, rest, hdr, hds, row, hs, hm, hrl, rfl, h1⟩
    obtain rfl : rest = [] := by cases rest with | nil => rfl | cons _ _ => cases hds
    rw [List.append_nil] at hdr
    subst hdr
    refine next_of ?_
    refine Ex.freeze (reUpd (x := "row") h1 .hit) ?_
    repeat' walk_at "st"
    exact h row hs (fun x => by rw [hm, List.zipIdx_map_fst]) (by simpa using hrl)
end

/-! law 2: pairs laid in turn, from the left at odd turns -/
def tsg (t : Int) : Int := if t.fmod 2 != 0 then -t else t
def sg (p : Int × Int) : Int × Int := (p.1, tsg p.2)
def prT (p : Int × Nat) : Int × Int := (p.1, (p.2 : Int))
def stepT (F : List (Int × Int)) (p : Int × Int) : List (Int × Int) := if p.2.fmod 2 != 0 then stepL F p else stepR F p
theorem tsg_le {t : Int} (h : 0 ≤ t) : tsg t ≤ t ∧ -t ≤ tsg t := by
  unfold tsg; split <;> lia
abbrev SgUp (F : List (Int × Int)) : Prop := F.Pairwise fun a b => plt (sg a) (sg b) = true
theorem stepT_perm {F p} : (stepT F p).Perm (p :: F) := by
  unfold stepT; split <;> exact insP_perm
theorem stepT_sorted {F p} (hF : SgUp F) (hn : ∀ q ∈ F, 0 ≤ q.2 ∧ q.2 < p.2) : SgUp (stepT F p) := by
  unfold stepT
  split
  next ho =>
    have e : tsg p.2 = -p.2 := by unfold tsg; rw [if_pos ho]
    obtain ⟨_, _, c, d⟩ := bis_spec (p := geP p F) (lo := 0) (hi := F.length) (Nat.zero_le _) fun i j _ h2 h3 hp => by
      have := fst_le (f := sg) (fun _ => rfl) hF h2 h3
      simp only [geP, Bool.not_eq_true', decide_eq_false_iff_not] at *; lia
    refine insP_sorted hF (fun i h1 h2 => ?_) (fun i h1 h2 => ?_) fun a b _ _ h1 h2 => ?_
    · have := c i (Nat.zero_le _) h1
      simp only [geP, Bool.not_eq_false', decide_eq_true_eq] at this
      rw [plt_iff]; simp only [sg]; lia
    · have := d i h1 h2
      have h3 : F.getD i (0, 0) ∈ F := by simp [h2]
      have h4 := hn _ h3
      have h5 := tsg_le h4.1
      simp only [geP, Bool.not_eq_true', decide_eq_false_iff_not] at *
      rw [plt_iff]; simp only [sg, e]; lia
    · rw [plt_iff] at *; lia
  next ho =>
    have e : tsg p.2 = p.2 := by unfold tsg; rw [if_neg ho]
    obtain ⟨_, _, c, d⟩ := bis_spec (p := gtP p F) (lo := 0) (hi := F.length) (Nat.zero_le _) fun i j _ h2 h3 hp => by
      have := fst_le (f := sg) (fun _ => rfl) hF h2 h3
      simp only [gtP, decide_eq_true_eq] at *; lia
    refine insP_sorted hF (fun i h1 h2 => ?_) (fun i h1 h2 => ?_) fun a b _ _ h1 h2 => ?_
    · have := c i (Nat.zero_le _) h1
      have h3 : F.getD i (0, 0) ∈ F := by simp [h2]
      have h4 := hn _ h3
      have h5 := tsg_le h4.1
      simp only [gtP, decide_eq_false_iff_not] at *
      rw [plt_iff]; simp only [sg, e]; lia
    · have := d i h1 h2
      simp only [gtP, decide_eq_true_eq] at this
      rw [plt_iff]; simp only [sg]; lia
    · rw [plt_iff] at *; lia
theorem turns_up {ns : List Int} {done rest : List (Int × Nat)} {q : Int × Nat} (h : ns.zipIdx = done ++ q :: rest) : ∀ r ∈ done, r.2 < q.2 := by
  have h1 : (ns.zipIdx).Pairwise fun a b => a.2 < b.2 := by
    rw [← List.pairwise_map (f := Prod.snd) (R := (· < ·)), List.zipIdx_map_snd]
    exact List.pairwise_lt_range'
  rw [h] at h1
  exact fun r hr => (List.pairwise_append.mp h1).2.2 r hr q (.head _)
theorem insAt_pair {k p F} : insAt k (pairD p) (F.map pairD) = (insP k p F).map pairD := by
  unfold insAt insP; simp [List.map_take, List.map_drop]
theorem pair_at_i {F : List (Int × Int)} {i : Nat} {d : D} (h : (F.map pairD)[i]? = some d) : d = pairD (F.getD i (0, 0)) := by
  rw [List.getElem?_map] at h
  cases hi : F[i]? with
  | none => rw [hi] at h; cases h
  | some y => rw [hi] at h; cases h; rw [List.getD_eq_getElem?_getD, hi]; rfl
set_option tactic.hygienic true in
theorem sg_inj {a b : Int × Int} (ha : 0 ≤ a.2) (hb : 0 ≤ b.2) (h : (sg a).2 = (sg b).2) : a.2 = b.2 := by
  simp only [sg, tsg] at h
  split at h <;> split at h <;> rename_i h1 h2 <;> lia
theorem tied_nodup {ns : List Int} : ((ns.zipIdx.map prT).map sg).Nodup := by
  have h1 : (ns.zipIdx).Pairwise fun a b => a.2 < b.2 := by
    rw [← List.pairwise_map (f := Prod.snd) (R := (· < ·)), List.zipIdx_map_snd]
    exact List.pairwise_lt_range'
  rw [List.map_map]
  refine List.pairwise_map.mpr (h1.imp fun {a b} h e => ?_)
  have := sg_inj (a := prT a) (b := prT b) (Int.natCast_nonneg _) (Int.natCast_nonneg _) (congrArg Prod.snd e)
  simp only [prT] at this
  lia

open PySem PySem.W PySem.Calls PyProof.Rows
set_option maxRecDepth 20000
/-- lambda pair: pair[0] -/
theorem keyFst {g : Mine.G} {q : Str} {pa : Arguments} {body : Expr} {sc : Scope} {cd : Value} {x : Int × Int} (hb : ∀ name cl pm ct (vs : List Value), vs.length = 1 → bindArgs (kla_fn name q pa body sc cl pm cd ct) ⟨vs, []⟩ = pure ((["pair"] : List Str).zip vs))
    (hs : sc = { kind := .function, names := [("pair", .local)], isGenerator := false, isCoroutine := false, more := [] }) (p1 p2 p3 : Pos) (hbody : body = .Subscript (.Name "pair" p1) (.Constant (.int 0) 0 p2) p3) (m : Nat) : KeyOk g (m + 1) (.clo q pa body sc cd []) (pairD x) (.int x.1) := by
  subst hs hbody
  intro l μ Q h
  refine Calls.clo (nm := ["pair"]) hb (by decide) (by decide) (by simp) rfl rfl rfl (by decide) ?_
  intro env L f cl he
  show Ev (G.push { g with stk := l } env) env [L] m (rho [("pair", .tup [.int x.1, .int x.2])]) μ _ Q
  repeat' walk_at "st"
  exact Act2.itemT (idx?_nat (k := 0)) (by simp) h (fun _ _ => rfl)
abbrev tabs2 : List (Addr × Addr × Str) := [(56, 52, ("_law_tied" : Str) ++ ".<locals>." ++ "<lambda>")]
section
variable {g : G} (hK : g.K = hd.heap_39 g.w.params) (hT : g.tabs = tabs2)
include hK hT
set_option maxHeartbeats 4000000 in
/-- _law_tied: the pairs (number, turn), laid from the left at odd turns -/
theorem tied_body {ns : List Int} {n : Nat} {μ : Mu} {Q : D → Mu → Prop} (hl : ns.length ≤ 1000) (h : ∀ F : List (Int × Int), SgUp F → F.Perm (ns.zipIdx.map prT) → Q (.lst (F.map pairD)) μ) :
    Calls g (n + 6) (.val (.ref 57)) [.lst (ns.map .int)] [] μ Q := by
  refine' Calls.enter (fa := 57) (hK := ?a) (hfo := ?b) (hbody := ?c) (hclo := ?d) (hglob := ?e) (hblt := ?f) (hcode := ?gg) (hco := ?h) (hgen := ?i) (hk := ?j)
    (bd := [("numbers", .lst (ns.map .int))]) ?bb (nm := ["numbers"]) (hnm := rfl) (hnames := ?k) (by decide) (hcn := ?l) ?_
  case a => rw [hK]; rfl
  case b => rfl
  case c => rfl
  case d => rfl
  case e => rfl
  case f => rfl
  case gg => rw [hK]; rfl
  case h => rfl
  case i => rfl
  case j => rfl
  case k => rfl
  case l => decide
  case bb => exact (BB.ok (fa := 57) hK (by constructor)) _ _ (by rw [hK]; rfl) rfl
  intro env own L he ho
  have hcode : env.code = .ref 56 := by subst he; rfl
  have htab : (56, 52, env.qual ++ ("<lambda>" : Str)) ∈ (g.push env).tabs := by subst he; show _ ∈ g.tabs; rw [hT]; exact .head _
  have hq : ∀ q ∈ (g.push env).tabs, q.2.1 = 52 → q.2.2 = env.qual ++ ("<lambda>" : Str) := by
    show ∀ q ∈ g.tabs, _
    rw [hT]; subst he
    intro q hq h
    simp only [tabs2, List.mem_cons, List.not_mem_nil, or_false] at hq
    subst hq; rfl
  repeat' walk_at "st"
  refine Ev.listM ?_
  repeat' walk_at "st"
  intro t ht
  repeat' walk_at "st"
  refine Ex1.for (by lia) (EvI.enum ?_)
  repeat' walk_at "st"
  refine ⟨rfl, rfl, ?_⟩
  repeat' walk_at "st"
  refine ⟨_, rfl, ?_⟩
  rw [enumD_ints]
  refine ForL.run (I := fun ds ρ M => ∃ done rest, ns.zipIdx = done ++ rest ∧ ds = rest.map tupI ∧ ∃ F : List (Int × Int), SgUp F ∧ F.Perm (done.map prT) ∧ M = (t, .ml (F.map pairD)) :: μ ∧ ρ "row" = some (.val (.ref t))) ?_ ?_ _
    ⟨[], _, rfl, rfl, [], .nil, .refl _, rfl, by walk_at "rho"⟩
  · rintro d ds ρ M ⟨done, rest, hdr, hds, F, hs, hp, rfl, h1⟩
    cases rest with
    | nil => cases hds
    | cons q rest =>
      obtain ⟨rfl, rfl⟩ : d = tupI q ∧ ds = rest.map tupI := by simpa using hds
      have hdl : done.length ≤ ns.length := by have := congrArg List.length hdr; simp at this; lia
      have hFl : F.length = done.length := by have := hp.length_eq; simpa using this
      refine .tup (.cons (by walk_at "bind") (.cons (by walk_at "bind") (.nil ?_)))
      have hn : ∀ r ∈ F, 0 ≤ r.2 ∧ r.2 < (prT q).2 := fun r hr => by
        obtain ⟨s, hs, rfl⟩ := List.mem_map.mp (hp.mem_iff.mp hr)
        have := turns_up hdr s hs
        simp only [prT]; lia
      have s' := stepT_sorted (p := prT q) hs hn
      have hx : (D.tup [.int q.1, .int (q.2 : Int)]) = pairD (prT q) := rfl
      refine Ex.seq (fun ρ' M' => M' = (t, .ml ((stepT F (prT q)).map pairD)) :: μ ∧ ρ' "row" = some (.val (.ref t)) ∧ ρ' "laid" = some .none) ?_ ?_
      · repeat' walk_at "st"
        refine Ev.ifexp (Et.int ?_)
        repeat' walk_at "st"
        refine ⟨_, rfl, fun hc => ?_, fun hc => ?_⟩
        · rw [show stepT F (prT q) = stepL F (prT q) by unfold stepT; exact if_pos hc]
          repeat' walk_at "st"
          refine Ev.lambda hcode htab hq (caps := []) (by rfl) (by decide) .nil (fun cdv => ?_)
          repeat' walk_at "st"
          rw [hx]
          refine insLk_body (g := g.push env) hK (p := geP (prT q) F) (lo := 0) (hi := F.length) (ex := .int (prT q).1) (BB.ok hK (by constructor)) (.head _) (by simp; lia) (by lia) (by simp) (.inr ⟨rfl, by simp⟩) rfl KeepD.clo
            (fun m => keyFst (by rintro _ _ _ _ (_ | ⟨v, _ | _⟩) hv <;> first | rfl | cases hv) rfl _ _ _ rfl m)
            (fun i d hd => ⟨.int (F.getD i (0, 0)).1, (by rw [pair_at_i hd]; exact (fun m => keyFst (by rintro _ _ _ _ (_ | ⟨v, _ | _⟩) hv <;> first | rfl | cases hv) rfl _ _ _ rfl m)), by unfold geP; rw [Bool.not_not]; exact LtOk.int⟩) ?_
          rw [setMu_hit, insAt_pair]
          repeat' walk_at "st"
          exact ⟨rfl, rfl, by walk_at "rho", upd_same⟩
        · rw [show stepT F (prT q) = stepR F (prT q) by unfold stepT; exact if_neg (by rw [Bool.not_eq_true]; exact hc)]
          repeat' walk_at "st"
          refine Ev.lambda hcode htab hq (caps := []) (by rfl) (by decide) .nil (fun cdv => ?_)
          repeat' walk_at "st"
          rw [hx]
          refine insRk_body (g := g.push env) hK (p := gtP (prT q) F) (lo := 0) (hi := F.length) (ex := .int (prT q).1) (BB.ok hK (by constructor)) (.head _) (by simp; lia) (by lia) (by simp) (.inr ⟨rfl, by simp⟩) rfl KeepD.clo
            (fun m => keyFst (by rintro _ _ _ _ (_ | ⟨v, _ | _⟩) hv <;> first | rfl | cases hv) rfl _ _ _ rfl m)
            (fun i d hd => ⟨.int (F.getD i (0, 0)).1, (by rw [pair_at_i hd]; exact (fun m => keyFst (by rintro _ _ _ _ (_ | ⟨v, _ | _⟩) hv <;> first | rfl | cases hv) rfl _ _ _ rfl m)), LtOk.int⟩) ?_
          rw [setMu_hit, insAt_pair]
          repeat' walk_at "st"
          exact ⟨rfl, rfl, by walk_at "rho", upd_same⟩
      rintro ρ' M' ⟨rfl, h1, h2⟩
      repeat' walk_at "st"
      refine ff_of ?_
      repeat' walk_at "st"
      refine ⟨done ++ [q], rest, by rw [hdr]; simp, rfl, _, s', ?_, rfl, h1⟩
      rw [List.map_append]
      exact stepT_perm.trans ((hp.cons _).trans (List.perm_append_singleton _ _).symm)
  · rintro ρ M ⟨done, rest, hdr, hds, F, hs, hp, rfl, h1⟩
    obtain rfl : rest = [] := by cases rest with | nil => rfl | cons _ _ => cases hds
    rw [List.append_nil] at hdr
    subst hdr
    refine next_of ?_
    refine Ex.freeze (reUpd (x := "row") h1 .hit) ?_
    repeat' walk_at "st"
    exact h F hs hp
end

open PySem PySem.W PySem.Calls PyProof.Rows
set_option maxRecDepth 20000
/-! law 2: the first lines -/
theorem ipick_len2 (l : List Int) (k : Nat) : (ipick l (some (k : Int)) (some 60) (some 10)).length ≤ 60 := by
  refine Nat.le_trans (List.length_filterMap_le _ _) ?_
  unfold sliceRange
  simp only [List.length_map, List.length_range]
  unfold sliceBounds
  simp only [Option.getD_some]
  have h8 : ((10 : Int) > 0) := by decide
  have h6 : ¬ (60 : Int) < 0 := by decide
  have hk : ¬ (k : Int) < 0 := by lia
  simp only [h8, if_true, hk, h6, if_false]
  split
  · lia
  · simp
def tailL (s : List Int) (t : Nat) : List Int := (ipick s (some (t : Int)) (some 60) (some 10)).map (·.fmod 1000000)
theorem tailL_mem {s : List Int} {t : Nat} : ∀ x ∈ tailL s t, 0 ≤ x ∧ x < 1000000 := fun x hx => by
  obtain ⟨y, _, rfl⟩ := List.mem_map.mp hx
  exact ⟨Int.fmod_nonneg_of_pos y (by decide), Int.fmod_lt_of_pos y (by decide)⟩
theorem sumBound : ∀ (l : List Int), (∀ x ∈ l, 0 ≤ x ∧ x < 1000000) → 0 ≤ l.sum ∧ l.sum ≤ 1000000 * l.length
  | [], _ => by simp
  | a :: l, h => by
    have h1 := h a (.head _)
    have h2 := sumBound l fun x hx => h x (.tail _ hx)
    simp only [List.sum_cons, List.length_cons]; push_cast; lia
theorem tailFits (s : List Int) (t : Nat) (j : Nat) (hj : j < (tailL s t).length) : InLong ((tailL s t).getD j 0) ∧ InLong (((tailL s t).take (j + 1)).sum) := by
  have hm := tailL_mem (s := s) (t := t)
  have hn : (tailL s t).length ≤ 60 := by
    unfold tailL
    rw [List.length_map]
    exact ipick_len2 _ _
  refine ⟨?_, ?_⟩
  · have := hm ((tailL s t).getD j 0) (by simp [hj])
    unfold InLong; lia
  · have h1 := sumBound ((tailL s t).take (j + 1)) fun x hx => hm x (List.mem_of_mem_take hx)
    have h2 : ((tailL s t).take (j + 1)).length ≤ 60 := by simp; lia
    unfold InLong; lia
theorem tail_pos (s : List Int) (t : Nat) : 0 ≤ (tailL s t).sum := (sumBound _ tailL_mem).1
theorem zipIdx_int {ds : List D} (h : ∀ d ∈ ds, ∃ b, d = D.int b) {pd : D} {k : Nat} (hp : (pd, k) ∈ ds.zipIdx) : ∃ b, pd = D.int b := by
  have := List.mem_map_of_mem (f := Prod.fst) hp
  rw [List.zipIdx_map_fst] at this
  exact h _ this
def cellF (s : List Int) : D → D → D
  | .int t, .int b => .int (b + (tailL s t.toNat).sum)
  | _, _ => .none
noncomputable def lawFd (p : Params) : FuncData := match (hd.heap_39 p).lookup 83 with
  | some o => (match o.data with | .func fd => fd | _ => default)
  | _ => default
noncomputable def lawStmts (p : Params) : List Stmt := match (lawFd p).body with | .stmts b => b | _ => []
abbrev QT : Fl → (Str → Option D) → Mu → Prop := fun f _ μ' => f = .ret (.bool true)
theorem six (c : Int) : ∃ b : Int, 8 ≤ b ∧ b ≤ 1000000 ∧ idx? [.int 8, .int 12, .int 16, .int 60, .int 1000, .int 1000000] (c.fmod 6) = some (D.int b) := by
  have h0 := Int.fmod_nonneg_of_pos c (show (0 : Int) < 6 by decide)
  have h1 := Int.fmod_lt_of_pos c (show (0 : Int) < 6 by decide)
  obtain ⟨k, hk⟩ : ∃ k : Nat, c.fmod 6 = k := ⟨(c.fmod 6).toNat, by lia⟩
  rw [hk] at h1 ⊢
  rw [idx?_nat]
  match k, h1 with
  | 0, _ => exact ⟨8, by decide, by decide, rfl⟩
  | 1, _ => exact ⟨12, by decide, by decide, rfl⟩
  | 2, _ => exact ⟨16, by decide, by decide, rfl⟩
  | 3, _ => exact ⟨60, by decide, by decide, rfl⟩
  | 4, _ => exact ⟨1000, by decide, by decide, rfl⟩
  | 5, _ => exact ⟨1000000, by decide, by decide, rfl⟩
  | k + 6, h => exact absurd h (by lia)
/-- a tuple's parts to their names, the statement not in sight -/
theorem assignTE {g : G} {env : Env} {own : List Addr} {n : Nat} {ρ : Str → Option D} {μ : Mu} {st : Stmt} {elts k tp e pos Q} (q : st = .Assign [.Tuple elts k tp] e pos) (h : Ev g env own n ρ μ e (AsgTK env own ρ (.Tuple elts k tp) Q))
    (hs : swapsWithSole [.Tuple elts k tp] e pos.line env = pure false) (hw : swappedStores [.Tuple elts k tp] e env = pure Option.none) : Ex1 g env own n ρ μ st Q := by subst q; exact Ex1.assignT h hs hw
section
variable {g : G} (hK : g.K = hd.heap_39 g.w.params) (hT : g.tabs = tabs2)
include hK hT
set_option maxHeartbeats 1000000 in
theorem law_p1 {script : List Int} {n : Nat} {μ : Mu} {env : Env} {own : List Addr} {L : Addr} (he : env = callEnvC (lawFd g.w.params) L 83) (ho : own = ownOf (lawFd g.w.params) L) (hs : script.length ≤ 63)
    (next : ∀ ρ (cs ns : List Int), ns.length = 8 → (∀ x ∈ ns, -1000 ≤ x ∧ x ≤ 5001000) → cs.length = 10 → 0 ≤ cs.getD 9 0 → ρ "cells" = some (.lst (cs.map .int)) → ρ "numbers" = some (.lst (ns.map .int)) →
      Ex (g.push env) env own (n + 59) ρ μ ((lawStmts g.w.params).drop 3) QT) :
    Ex (g.push env) env own (n + 59) (rho [("script", .lst (script.map .int))]) μ (lawStmts g.w.params) QT := by
  refine Ex.seq (fun ρ' μ' => μ' = μ ∧ ∃ cs : List Int, cs.length = 10 ∧ 0 ≤ cs.getD 9 0 ∧ ρ' "cells" = some (.lst (cs.map .int))) ?_ ?_
  · walk_at "compS"
    refine EvI.enumT ?_
    repeat' walk_at "st"
    refine ⟨rfl, rfl, ?_⟩
    repeat' walk_at "st"
    refine ⟨_, rfl, ?_⟩
    intro cenv C hce
    rw [enumD_map]
    refine CompL.map2 (cellF script) (bindable_local (by walk_at "kind")) (bindable_local (by walk_at "kind")) _ _ (by decide) (fun d hd Q hQ => ?_) (fun r => ?_)
    · obtain ⟨⟨pd, k⟩, hp, rfl⟩ := List.mem_map.mp hd
      obtain ⟨b, rfl⟩ := zipIdx_int (by simp) hp
      have hQ : Q (.int (b + (tailL script k).sum)) μ := by simpa [cellF] using hQ
      have e0 : (0 : Int) + (k : Nat) = k := Int.zero_add _
      show Ev _ _ _ _ (upd (upd _ "place" (.int ((0 : Int) + (k : Nat)))) "first" (.int b)) _ _ _
      rw [e0]
      repeat' walk_at "st"
      walk_at "comp"
      refine EvI.list ?_
      repeat' walk_at "st"
      refine ⟨_, rfl, ?_⟩
      repeat' walk_at "st"
      refine ⟨_, rfl, ?_⟩
      repeat' walk_at "st"
      refine ⟨_, rfl, ?_⟩
      refine Act2.slice .lst (by decide) (by simp; lia) ?_ ops_step
      rw [dpick_ints]
      refine ⟨_, rfl, ?_⟩
      intro cenv2 C2 hce2
      refine CompL.map (fun d => match d with | .int x => .int (x.fmod 1000000) | _ => .none) (bindable_local (by walk_at "kind")) _ _ (by simp only [List.length_nil, List.length_map]; have := ipick_len2 script k; lia) (fun d hd Q hQ => ?_) (fun r => ?_)
      · obtain ⟨x, _, rfl⟩ := List.mem_map.mp hd
        repeat' walk_at "st"
        refine Act2.pow (by decide) (by decide) (by decide) ?_
        rw [show (10 : Int) ^ (6 : Int).toNat = 1000000 from rfl]
        repeat' walk_at "st"
        exact hQ
      rw [List.nil_append, List.map_map]
      repeat' walk_at "st"
      refine Calls.sum (ns := tailL script k) (by unfold tailL; rw [List.map_map]; exact .lst) (tailFits script k) ?_
      repeat' walk_at "st"
      exact hQ
    · exact ⟨rfl, rfl, [0 + (tailL script 0).sum, 9 + (tailL script 1).sum, 1 + (tailL script 2).sum, 5 + (tailL script 3).sum, 3 + (tailL script 4).sum, 2 + (tailL script 5).sum, 4 + (tailL script 6).sum, 1 + (tailL script 7).sum, 29804 + (tailL script 8).sum, 21 + (tailL script 9).sum], rfl,
        (by have := tail_pos script 9; show 0 ≤ 21 + (tailL script 9).sum; lia), upd_same⟩
  rintro ρ μ' ⟨rfl, cs, hcs, hc9, h1⟩
  have i8 : idx? (cs.map D.int) 8 = some (.int (cs.getD 8 0)) := by
    have h8 : 8 < cs.length := by lia
    rw [show (8 : Int) = ((8 : Nat) : Int) from rfl, idx?_nat]; simp [h8]
  generalize cs.getD 8 0 = c8 at i8
  obtain ⟨b, hb1, hb2, hb⟩ := six c8
  have s0 := Int.fmod_nonneg_of_pos (c8.fdiv 6) (show (0 : Int) < 5 by decide)
  have s1 := Int.fmod_lt_of_pos (c8.fdiv 6) (show (0 : Int) < 5 by decide)
  have g0 := Int.fmod_nonneg_of_pos (c8.fdiv 30) (show (0 : Int) < 2001 by decide)
  have g1 := Int.fmod_lt_of_pos (c8.fdiv 30) (show (0 : Int) < 2001 by decide)
  generalize hst : (c8.fdiv 6).fmod 5 = st at s0 s1
  generalize hgr : (c8.fdiv 30).fmod 2001 = gr at g0 g1
  obtain ⟨ss, hss⟩ : ∃ ss, ss = (lawStmts g.w.params).drop 1 := ⟨_, rfl⟩
  show Ex _ _ _ _ _ _ ((lawStmts g.w.params).drop 1) _
  rw [← hss]
  cases ss with
  | nil => cases hss
  | cons s1 ss =>
  have e1 := (List.cons.inj hss).1
  have e2 := (List.cons.inj hss).2
  refine Ex.seq (fun ρ' M => M = μ' ∧ ρ' "cells" = some (.lst (cs.map .int)) ∧ ρ' "bound" = some (.int b) ∧ ρ' "step" = some (.int (1 + st)) ∧ ρ' "ground" = some (.int (gr - 1000))) ?_ ?_
  · refine assignTE e1 ?_ (by subst he; exact rfl) (by subst he; exact rfl)
    clear e1 e2 hss
    repeat' walk_at "st"
    refine Act2.pow (by decide) (by decide) (by decide) ?_
    rw [show (10 : Int) ^ (6 : Int).toNat = 1000000 from rfl]
    repeat' walk_at "st"
    refine Act2.item .lst i8 (by simp; lia) ?_ (fun _ _ => rfl)
    repeat' walk_at "st"
    refine Act2.itemT hb (by decide) ?_ (fun _ _ => rfl)
    repeat' walk_at "st"
    refine Act2.item .lst i8 (by simp; lia) ?_ (fun _ _ => rfl)
    repeat' walk_at "st"
    refine Act2.item .lst i8 (by simp; lia) ?_ (fun _ _ => rfl)
    repeat' walk_at "st"
    rw [hst, hgr]
    refine .tup (.cons (by walk_at "bind") (.cons (by walk_at "bind") (.cons (by walk_at "bind") (.nil ?_))))
    exact ⟨rfl, rfl, by walk_at "rho", by walk_at "rho", by walk_at "rho", by walk_at "rho"⟩
  rintro ρ M ⟨rfl, h1, h2, h3, h4⟩
  subst e2
  clear e1 hss
  refine Ex.seq (fun ρ' M' => M' = M ∧ ρ' "cells" = some (.lst (cs.map .int)) ∧ ρ' "numbers" = some (.lst (((cs.take 8).map fun c => gr - 1000 + (1 + st) * c.fmod b).map .int))) ?_ ?_
  · walk_at "compS"
    refine EvI.list ?_
    repeat' walk_at "st"
    refine ⟨_, rfl, ?_⟩
    refine Act2.slice .lst (by decide) (by simp; lia) ?_ ops_plain
    rw [show (8 : Int) = ((8 : Nat) : Int) from rfl, dpick_upto, ← List.map_take]
    refine ⟨_, rfl, ?_⟩
    intro cenv C hce
    refine CompL.mapA (xs := cs.take 8) D.int (fun c => D.int (gr - 1000 + (1 + st) * c.fmod b)) (by walk_at "bind") _ (by simp; lia) (fun c hc Q hQ => ?_) (fun r => ?_)
    · repeat' walk_at "st"
      refine Act2.mod (by lia) ?_
      refine Act2.mul (.of_left (intBits_le_64 (by lia) (by lia))) ?_
      repeat' walk_at "st"
      exact hQ
    · rw [List.nil_append, List.map_map]
      exact ⟨rfl, rfl, by walk_at "rho", upd_same⟩
  rintro ρ M' ⟨rfl, h1, h2⟩
  refine next ρ cs _ (by simp; lia) (fun x hx => ?_) hcs hc9 h1 h2
  obtain ⟨c, _, rfl⟩ := List.mem_map.mp hx
  have m0 := Int.fmod_nonneg_of_pos c (show 0 < b by lia)
  have m1 := Int.fmod_lt_of_pos c (show 0 < b by lia)
  have m2 : (1 + st) * c.fmod b ≤ 5 * 1000000 := Int.mul_le_mul (by lia) (by lia) m0 (by decide)
  have m3 : 0 ≤ (1 + st) * c.fmod b := Int.mul_nonneg (by lia) m0
  lia
end

open PySem PySem.W PySem.Calls PyProof.Rows
set_option maxRecDepth 20000
section
variable {g : G} (hK : g.K = hd.heap_39 g.w.params) (hT : g.tabs = tabs2)
include hK hT
set_option maxHeartbeats 1000000 in
/-- ties keep their turns, or turn them round -/
theorem law_p2 {ns : List Int} {n : Nat} {μ : Mu} {env : Env} {own : List Addr} {L : Addr} {ρ : Str → Option D} {cd : D} (he : env = callEnvC (lawFd g.w.params) L 83) (ho : own = ownOf (lawFd g.w.params) L) (hn : ns.length = 8)
    (h1 : ρ "cells" = some cd) (h2 : ρ "numbers" = some (.lst (ns.map .int)))
    (next : Ex (g.push env) env own (n + 59) ρ μ ((lawStmts g.w.params).drop 4) QT) :
    Ex (g.push env) env own (n + 59) ρ μ ((lawStmts g.w.params).drop 3) QT := by
  have hzl : ns.zipIdx.length = 8 := by simp [hn]
  refine Ex.skipIf (Et.cmp ?_ ?h) next
  case h => with_unfolding_all rfl
  walk_at "comp"
  refine EvI.list ?_
  repeat' walk_at "st"
  refine tied_body (g := g.push env) hK hT (by lia) fun F hF hp => ?_
  have hFl : F.length = 8 := by have := hp.length_eq; simpa [hn] using this
  refine ⟨_, rfl, ?_⟩
  intro cenv C hce
  refine CompL.mapA2 (fun p : Int × Int => D.int p.1) (fun p => D.int p.2) (fun p => pairD (sg p)) (by walk_at "bind") (by walk_at "bind") F _ (by simp; lia) (fun p hp Q hQ => ?_) (fun r => ?_)
  · repeat' walk_at "st"
    refine Ev.ifexp (Et.int ?_)
    repeat' walk_at "st"
    refine ⟨_, rfl, fun hc => ?_, fun hc => ?_⟩
    · rw [show pairD (sg p) = .tup [.int p.1, .int (-p.2)] by unfold sg tsg; rw [if_pos hc]; rfl] at hQ
      repeat' walk_at "st"
      exact hQ
    · rw [show pairD (sg p) = .tup [.int p.1, .int p.2] by unfold sg tsg; rw [if_neg (by rw [Bool.not_eq_true]; exact hc)]; rfl] at hQ
      repeat' walk_at "st"
      exact hQ
  rw [List.nil_append, show List.map (fun p => pairD (sg p)) F = (F.map sg).map pairD by rw [List.map_map]; rfl]
  repeat' walk_at "st"
  walk_at "comp"
  refine EvI.enum ?_
  repeat' walk_at "st"
  refine ⟨rfl, rfl, ?_⟩
  repeat' walk_at "st"
  refine ⟨_, rfl, ?_⟩
  intro cenv C hce
  rw [enumD_ints]
  refine CompL.mapA2 (fun p : Int × Nat => D.int p.2) (fun p => D.int p.1) (fun p => pairD (sg (prT p))) (by walk_at "bind") (by walk_at "bind") _ _ (by simp; lia) (fun p hp Q hQ => ?_) (fun r => ?_)
  · repeat' walk_at "st"
    refine Ev.ifexp (Et.int ?_)
    repeat' walk_at "st"
    refine ⟨_, rfl, fun hc => ?_, fun hc => ?_⟩
    · rw [show pairD (sg (prT p)) = .tup [.int p.1, .int (-p.2)] by unfold sg tsg; rw [if_pos (show ((prT p).2.fmod 2 != 0) = true from hc)]; rfl] at hQ
      repeat' walk_at "st"
      exact hQ
    · rw [show pairD (sg (prT p)) = .tup [.int p.1, .int p.2] by unfold sg tsg; rw [if_neg (show ¬ ((prT p).2.fmod 2 != 0) = true by rw [Bool.not_eq_true]; exact hc)]; rfl] at hQ
      repeat' walk_at "st"
      exact hQ
  rw [List.nil_append, show List.map (fun p => pairD (sg (prT p))) ns.zipIdx = ((ns.zipIdx.map prT).map sg).map pairD by rw [List.map_map, List.map_map]; rfl]
  repeat' walk_at "st"
  refine Calls.sortedPairs (by simp) .lst tied_nodup (by simp; lia) (by simp; lia) fun ps' hp' hs' => ?_
  have e1 : ps' = F.map sg := lex_unique (f := id) (fun _ _ h => h) (hp'.trans (hp.map sg).symm) hs' (List.pairwise_map.mpr hF)
  subst e1
  refine Act2.neSame rfl (PyOk.pairs.le (by decide)) ?_
  exact TBool.of ⟨rfl, rfl⟩
end

open PySem PySem.W PySem.Calls PyProof.Rows
set_option maxRecDepth 20000
section
variable {g : G} {env : Env} {own : List Addr} {n : Nat} {μ : Mu}
/-! a comprehension of two generators -/
theorem CompL.mapB {α : Type} {x : Str} {p : Pos} {elt : Expr} {K : CK} (t f : α → D) (hb : Bindable env own x) : ∀ (xs : List α) (acc : List D) {ρ : Str → Option D}, acc.length + xs.length ≤ 100000 →
    (∀ a ∈ xs, ∀ Q : D → Mu → Prop, Q (f a) μ → Ev g env own n (upd ρ x (t a)) μ elt Q) → (∀ r, (∀ z, z ≠ x → r z = ρ z) → K (acc ++ xs.map f) r μ) → CompL g env own n (CompG g env own n elt []) (.Name x p) [] (xs.map t) ρ μ acc K
  | [], acc, ρ, hl, h, k => by have := k ρ fun _ _ => rfl; rwa [List.map_nil, List.append_nil] at this
  | d :: ds, acc, ρ, hl, h, k => by
    simp only [List.length_cons] at hl
    refine .name hb (show (true = true → _) ∧ (true = false → _) from ⟨fun _ => ⟨by lia, h d (.head _) _ ?_⟩, fun e => nomatch e⟩)
    refine CompL.mapB t f hb ds _ (by simp; lia) (fun e he => by rw [upd_upd]; exact h e (.tail _ he)) (fun r hr => ?_)
    have := k r fun z hz => (hr z hz).trans (if_neg hz)
    rwa [List.map_cons, ← List.singleton_append, ← List.append_assoc] at this
theorem CompL.nest {α β : Type} {x y : Str} {p p2 : Pos} {elt iter2 : Expr} {ia : Nat} {K : CK} (t : α → D) (u : α → List β) (t2 : β → D) (f : α → β → D) (hb : Bindable env own x) (hb2 : Bindable env own y) :
    ∀ (xs : List α) (acc : List D) {ρ : Str → Option D}, acc.length + (xs.flatMap fun a => (u a).map (f a)).length ≤ 100000 →
    (∀ a ∈ xs, ∀ ρ' : Str → Option D, (∀ z, z ≠ x → z ≠ y → ρ' z = ρ z) → ∀ Q : List D → Mu → Prop, Q ((u a).map t2) μ → EvI g env own n (upd ρ' x (t a)) μ (.Name y p2) iter2 Q) →
    (∀ a ∈ xs, ∀ b ∈ u a, ∀ ρ' : Str → Option D, (∀ z, z ≠ x → z ≠ y → ρ' z = ρ z) → ∀ Q : D → Mu → Prop, Q (f a b) μ → Ev g env own n (upd (upd ρ' x (t a)) y (t2 b)) μ elt Q) →
    (∀ r, K (acc ++ xs.flatMap fun a => (u a).map (f a)) r μ) → CompL g env own n (CompG g env own n elt [⟨.Name y p2, iter2, [], ia⟩]) (.Name x p) [] (xs.map t) ρ μ acc K
  | [], acc, ρ, hl, h1, h2, k => by have := k ρ; rwa [List.flatMap_nil, List.append_nil] at this
  | d :: ds, acc, ρ, hl, h1, h2, k => by
    rw [List.flatMap_cons, List.length_append, List.length_map] at hl
    refine .name hb (show (true = true → _) ∧ (true = false → _) from ⟨fun _ => h1 d (.head _) ρ (fun _ _ _ => rfl) _ ?_, fun e => nomatch e⟩)
    refine CompL.mapB t2 (f d) hb2 (u d) acc (by lia) (fun b hb => h2 d (.head _) b hb ρ fun _ _ _ => rfl) (fun r hr => ?_)
    have ag : ∀ ρ' : Str → Option D, (∀ z, z ≠ x → z ≠ y → ρ' z = r z) → ∀ z, z ≠ x → z ≠ y → ρ' z = ρ z := fun ρ' h z hx hy => (h z hx hy).trans ((hr z hy).trans (if_neg hx))
    refine CompL.nest t u t2 f hb hb2 ds _ (by rw [List.length_append, List.length_map]; lia) (fun a ha ρ' h => h1 a (.tail _ ha) ρ' (ag ρ' h)) (fun a ha b hb ρ' h => h2 a (.tail _ ha) b hb ρ' (ag ρ' h)) (fun r2 => ?_)
    have := k r2
    rwa [List.flatMap_cons, ← List.append_assoc] at this
theorem Et.bool {ρ : Str → Option D} {e : Expr} {Q} (h : Ev g env own n ρ μ e (TBool Q)) (hn : ∀ whole, isTrue e env whole = (do let v ← whole; standAt e.pos; holding [v] (truthy v)) := by intro _; rfl) : Et g env own n ρ μ e Q := fun A F s ok G Fs => by
  rw [hn]
  refine wpAny_bind (wp_seq h ok G Fs fun v d μ₁ F₁ s₁ t₁ G₁ Fs₁ sv h₁ => ?_)
  obtain ⟨i, rfl, hq⟩ := h₁
  obtain rfl := Sees.boolI sv
  exact wpAny_bind (wpAny_standAt (wpAny_holding (wpAny_truthy_bool ⟨μ₁, F₁, t₁, G₁, hq⟩)))
end

open PySem PySem.W PySem.Calls PyProof.Rows
set_option maxRecDepth 20000
theorem set_row {row ns l ns' : List Int} (s : Fr.Srt row) (m : ∀ x, x ∈ row ↔ x ∈ ns) (hl : l.Perm (dd ns)) (hp : ns'.Perm l) (hs : ns'.Pairwise (· ≤ ·)) : ns' = row := by
  have p : ns'.Perm row := by
    have q := hp.trans hl
    refine (List.perm_ext_iff_of_nodup (q.nodup_iff.mpr (dd_nodup ns)) s.nodup).mpr fun x => ?_
    rw [q.mem_iff, m]; exact dd_mem ns
  exact p.eq_of_pairwise (fun x y _ _ h1 h2 => Int.le_antisymm h1 h2) hs (srt_le s)
def lowStr : Str := "lo must be non-negative"
section
variable {g : G} (hK : g.K = hd.heap_39 g.w.params) (hT : g.tabs = tabs2)
include hK hT
set_option maxHeartbeats 1000000 in
theorem law_p3 {ns cs : List Int} {n : Nat} {μ : Mu} {env : Env} {own : List Addr} {L : Addr} {ρ : Str → Option D} (he : env = callEnvC (lawFd g.w.params) L 83) (ho : own = ownOf (lawFd g.w.params) L) (hn : ns.length = 8) (hc : cs.length = 10) (hc9 : 0 ≤ cs.getD 9 0)
    (h1 : ρ "cells" = some (.lst (cs.map .int))) (h2 : ρ "numbers" = some (.lst (ns.map .int)))
    (next : ∀ ρ (row : List Int), Fr.Srt row → (∀ x, x ∈ row ↔ x ∈ ns) → row.length ≤ 8 → ρ "cells" = some (.lst (cs.map .int)) → ρ "numbers" = some (.lst (ns.map .int)) → ρ "row" = some (.lst (row.map .int)) →
      Ex (g.push env) env own (n + 59) ρ μ ((lawStmts g.w.params).drop 7) QT) :
    Ex (g.push env) env own (n + 59) ρ μ ((lawStmts g.w.params).drop 4) QT := by
  refine Ex.seq (fun ρ' M => M = μ ∧ ∃ row : List Int, Fr.Srt row ∧ (∀ x, x ∈ row ↔ x ∈ ns) ∧ row.length ≤ 8 ∧ ρ' "cells" = some (.lst (cs.map .int)) ∧ ρ' "numbers" = some (.lst (ns.map .int)) ∧ ρ' "row" = some (.lst (row.map .int))) ?_ ?_
  · repeat' walk_at "st"
    refine laid_body (g := g.push env) hK (by lia) fun row s m l => ?_
    repeat' walk_at "st"
    exact ⟨rfl, rfl, row, s, m, by lia, by walk_at "rho", by walk_at "rho", upd_same⟩
  rintro ρ M ⟨rfl, row, s, m, l, h1, h2, h3⟩
  have i9 : idx? (cs.map D.int) 9 = some (.int (cs.getD 9 0)) := by
    have h9 : 9 < cs.length := by lia
    rw [show (9 : Int) = ((9 : Nat) : Int) from rfl, idx?_nat]; simp [h9]
  generalize cs.getD 9 0 = c9 at i9 hc9
  refine Ex.seq (fun ρ' M' => M' = M ∧ ρ' "cells" = some (.lst (cs.map .int)) ∧ ρ' "numbers" = some (.lst (ns.map .int)) ∧ ρ' "row" = some (.lst (row.map .int)) ∧ ρ' "refusals" = some (.lst (List.replicate 8 (.str lowStr)))) ?_ ?_
  · walk_at "compS"
    refine EvI.tuple ?_
    repeat' walk_at "st"
    refine ⟨_, rfl, ?_⟩
    intro cenv C hce
    refine CompL.nest (α := Addr) (β := Int) (xs := [50, 32, 41, 23]) (fun a => .val (.ref a)) (fun _ => [-1, -2 - c9]) D.int (fun _ _ => .str lowStr) (by walk_at "bind") (by walk_at "bind") _ (by show (16 / 2 : Nat) ≤ 100000; decide) (fun a ha ρ' hρ Q hQ => ?_) (fun a ha b hb ρ' hρ Q hQ => ?_) (fun r => ?_)
    · have hr : ρ' "cells" = some (.lst (cs.map .int)) := (hρ _ (by decide) (by decide)).trans (by walk_at "rho")
      refine EvI.tuple ?_
      repeat' walk_at "st"
      refine Act2.item .lst i9 (by simp; lia) ?_ (fun _ _ => rfl)
      repeat' walk_at "st"
      exact ⟨_, rfl, hQ⟩
    · have hr : ρ' "row" = some (.lst (row.map .int)) := (hρ _ (by decide) (by decide)).trans (by walk_at "rho")
      have hb0 : b < 0 := by
        simp only [List.mem_cons, List.not_mem_nil, or_false] at hb
        rcases hb with rfl | rfl <;> lia
      repeat' walk_at "st"
      simp only [List.mem_cons, List.not_mem_nil, or_false] at ha
      rcases ha with rfl | rfl | rfl | rfl
      · refine refused2 (g := g.push env) hK (KeepD.fn (by rw [show (g.push env).K = _ from hK]; rfl)) (fun env' => bisL_neg (g := (g.push env).push env') hK (hiD := .none) (kd := .none) (BB.ok hK (by constructor)) hb0 rfl) ?_
        exact hQ
      · refine refused2 (g := g.push env) hK (KeepD.fn (by rw [show (g.push env).K = _ from hK]; rfl)) (fun env' => bisR_neg (g := (g.push env).push env') hK (hiD := .none) (kd := .none) (BB.ok hK (by constructor)) hb0 rfl) ?_
        exact hQ
      · refine refused2 (g := g.push env) hK (KeepD.fn (by rw [show (g.push env).K = _ from hK]; rfl)) (fun env' => insL_neg (g := (g.push env).push env') hK (hiD := .none) (BB.ok hK (by constructor)) hb0 rfl) ?_
        exact hQ
      · refine refused2 (g := g.push env) hK (KeepD.fn (by rw [show (g.push env).K = _ from hK]; rfl)) (fun env' => insR_neg (g := (g.push env).push env') hK (hiD := .none) (BB.ok hK (by constructor)) hb0 rfl) ?_
        exact hQ
    · exact ⟨rfl, rfl, by walk_at "rho", by walk_at "rho", by walk_at "rho", upd_same⟩
  rintro ρ M' ⟨rfl, h1, h2, h3, h4⟩
  refine Ex.skipIf (Et.or ?_) (next ρ row s m l h1 h2 h3)
  unfold EtAll
  repeat' walk_at "st"
  refine Calls.setInts .lst (by lia) fun a l' ha hl' => ?_
  repeat' walk_at "st"
  refine Calls.sortedSet (by rw [hl'.length_eq]; have := dd_le ns; lia) fun ns' hp hs => ?_
  rw [set_row s m hl' hp hs]
  refine Act2.neSame rfl (PyOk.ints.le (by decide)) ?_
  refine TBool.of (ff_of ?_)
  unfold EtAll
  repeat' walk_at "st"
  refine Ev.list ?_
  repeat' walk_at "st"
  refine Act2.rep .lst (by decide) (by simp) (by decide) ?_
  refine Act2.neSame rfl (PyOk.le (k := 1) (PyOk.lst fun d hd => ?_) (by decide)) ?_
  · obtain rfl := List.eq_of_mem_replicate hd
    exact PyOk.str (by first | rfl | decide +kernel)
  refine TBool.of (ff_of ?_)
  unfold EtAll
  exact ⟨rfl, rfl⟩
end

open Mine.Fr
/-! law 2: a strictly rising row's own numbers and their places -/
section
variable {row : List Int} (s : Srt row)
include s
theorem srt_lt {i j : Nat} (h : i < j) (hj : j < row.length) : row.getD i 0 < row.getD j 0 := by
  have hi : i < row.length := by lia
  have := List.pairwise_iff_getElem.mp s i j hi hj h
  simpa [hi, hj] using this
theorem srt_le' {i j : Nat} (h : i ≤ j) (hj : j < row.length) : row.getD i 0 ≤ row.getD j 0 := by
  rcases Nat.lt_or_ge i j with q | q
  · exact Int.le_of_lt (srt_lt s q hj)
  · obtain rfl : i = j := by lia
    exact Int.le_refl _
theorem ge_up (x : Int) (i j : Nat) (h : i ≤ j) (hj : j < row.length) (hp : geAt row x i = true) : geAt row x j = true := by
  have := srt_le' s h hj
  simp only [geAt, Bool.not_eq_true', decide_eq_false_iff_not] at *; lia
theorem gt_up (x : Int) (i j : Nat) (h : i ≤ j) (hj : j < row.length) (hp : gtAt row x i = true) : gtAt row x j = true := by
  have := srt_le' s h hj
  simp only [gtAt, decide_eq_true_eq] at *; lia
theorem at_l {i : Nat} (hi : i < row.length) : bis (geAt row (row.getD i 0)) 0 row.length = i := by
  refine bis_unique (Nat.zero_le _) (fun a b _ h1 h2 => ge_up s _ a b h1 h2) (Nat.zero_le _) (by lia) (fun a _ h => ?_) (fun a h1 h2 => ?_)
  · have := srt_lt s h hi
    simp only [geAt, Bool.not_eq_false', decide_eq_true_eq]; exact this
  · have := srt_le' s h1 h2
    simp only [geAt, Bool.not_eq_true', decide_eq_false_iff_not]; lia
theorem at_r {i : Nat} (hi : i < row.length) : bis (gtAt row (row.getD i 0)) 0 row.length = i + 1 := by
  refine bis_unique (Nat.zero_le _) (fun a b _ h1 h2 => gt_up s _ a b h1 h2) (Nat.zero_le _) (by lia) (fun a _ h => ?_) (fun a h1 h2 => ?_)
  · have := srt_le' s (show a ≤ i by lia) hi
    simp only [gtAt, decide_eq_false_iff_not]; lia
  · have := srt_lt s (show i < a by lia) h2
    simp only [gtAt, decide_eq_true_eq]; exact this
theorem win_l {i lo hi : Nat} (hi' : i < row.length) (h1 : lo ≤ hi) (h2 : hi ≤ row.length) : bis (geAt row (row.getD i 0)) lo hi = min (max i lo) hi := by
  rw [bis_clamp h1 h2 fun i j a b => ge_up s _ i j a b, at_l s hi']
theorem win_r {i lo hi : Nat} (hi' : i < row.length) (h1 : lo ≤ hi) (h2 : hi ≤ row.length) : bis (gtAt row (row.getD i 0)) lo hi = min (max (i + 1) lo) hi := by
  rw [bis_clamp h1 h2 fun i j a b => gt_up s _ i j a b, at_r s hi']
end
theorem map_by {α : Type} {row : List Int} (f : Int → α) : row.map f = (List.range row.length).map fun i => f (row.getD i 0) := by
  refine List.ext_getElem (by simp) fun i h1 h2 => ?_
  have : i < row.length := by simpa using h1
  simp [this]
theorem range_ints (l : List Nat) : (l.map fun (i : Nat) => D.int (i : Int)) = (l.map fun (i : Nat) => (i : Int)).map D.int := by rw [List.map_map]; rfl
theorem lefts_eq {row : List Int} (s : Srt row) : (row.map fun x => D.int (bis (geAt row x) 0 row.length : Nat)) = (List.range row.length).map fun (i : Nat) => D.int (i : Int) := by
  rw [map_by]
  refine List.map_congr_left fun i hi => ?_
  rw [at_l s (List.mem_range.mp hi)]
theorem rights_eq {row : List Int} (s : Srt row) : (row.map fun x => D.int (bis (gtAt row x) 0 row.length : Nat)) = (List.range row.length).map fun (i : Nat) => D.int (i + 1 : Nat) := by
  rw [map_by]
  refine List.map_congr_left fun i hi => ?_
  rw [at_r s (List.mem_range.mp hi)]
theorem rangeD_ints (m : Nat) (a : Int) : rangeD a 1 m = (List.range m).map fun (i : Nat) => D.int (a + i) := by
  refine List.ext_getElem? fun j => ?_
  rcases Nat.lt_or_ge j m with q | q
  · rw [rangeD_get m a 1 j q]; simp [q]
  · rw [List.getElem?_eq_none_iff.mpr (by rw [rangeD_len]; exact q)]; simp [q]
open PySem in
theorem range_small {a b : Int} (ha : -1000 ≤ a) (ha2 : a ≤ 1000) (hb : -1000 ≤ b) (hb2 : b ≤ 1000) : Builtin.Range.small a b 1 = true := by
  unfold Builtin.Range.small Builtin.Range.rangeSize Builtin.Range.rangeFitsLong
  by_cases h : a < b
  · simp [h]; lia
  · simp [h]; lia
open PySem in
theorem range_size {a b : Int} {m : Nat} (h : b = a + m) : Builtin.Range.rangeSize a b 1 = (m : Nat) := by
  unfold Builtin.Range.rangeSize
  subst h
  simp; lia
theorem idx_last {row : List Int} (h : row ≠ []) : idx? (row.map D.int) (-1) = some (.int (row.getD (row.length - 1) 0)) := by
  have h0 : 0 < row.length := List.length_pos_iff.mpr h
  have h6 : row.length - 1 < row.length := by lia
  unfold idx?
  rw [if_neg (by decide), if_pos (by simp; lia)]
  have : ((row.map D.int).length + (-1) : Int).toNat = row.length - 1 := by simp; lia
  rw [this]
  simp [h6]

open PySem PySem.W PySem.Calls PyProof.Rows
set_option maxRecDepth 20000
section
variable {g : G} (hK : g.K = hd.heap_39 g.w.params)
include hK
theorem bisL_call2 {a : D} {row : List Int} {x : Int} {n : Nat} {μ : Mu} {Q : D → Mu → Prop} (hr : Rd μ a (row.map .int)) (hl : row.length ≤ 10000) (h : Q (.int (bis (geAt row x) 0 row.length : Nat)) μ) :
    Calls g (n + 1) (.val (.ref 50)) [a, .int x] [] μ Q := by
  refine bisL_body hK (p := geAt row x) (lo := 0) (hi := row.length) (hiD := .none) (BB.ok hK (by constructor)) hr (by simp; lia) (by simp) (.inr ⟨rfl, by simp⟩) geAt_ok h
end
section
variable {g : G} (hK : g.K = hd.heap_39 g.w.params) (hT : g.tabs = tabs2)
include hK hT
set_option maxHeartbeats 1000000 in
/-- each number's own places -/
theorem law_p4 {row : List Int} {n : Nat} {μ : Mu} {env : Env} {own : List Addr} {L : Addr} {ρ : Str → Option D} {cd nd : D} (he : env = callEnvC (lawFd g.w.params) L 83) (ho : own = ownOf (lawFd g.w.params) L)
    (s : Fr.Srt row) (hl : row.length ≤ 8) (h1 : ρ "cells" = some cd) (h2 : ρ "numbers" = some nd) (h3 : ρ "row" = some (.lst (row.map .int)))
    (next : ∀ ρ, ρ "cells" = some cd → ρ "numbers" = some nd → ρ "row" = some (.lst (row.map .int)) → ρ "many" = some (.int row.length) →
      Ex (g.push env) env own (n + 59) ρ μ ((lawStmts g.w.params).drop 11) QT) :
    Ex (g.push env) env own (n + 59) ρ μ ((lawStmts g.w.params).drop 7) QT := by
  refine Ex.seq (fun ρ' M => M = μ ∧ ρ' "cells" = some cd ∧ ρ' "numbers" = some nd ∧ ρ' "row" = some (.lst (row.map .int)) ∧ ρ' "many" = some (.int row.length)) ?_ ?_
  · repeat' walk_at "st"
    refine len_D .lst (by simp; lia) ?_
    rw [List.length_map]
    repeat' walk_at "st"
    exact ⟨rfl, rfl, by walk_at "rho", by walk_at "rho", by walk_at "rho", upd_same⟩
  rintro ρ M ⟨rfl, h1, h2, h3, h4⟩
  refine Ex.seq (fun ρ' M' => M' = M ∧ ρ' "cells" = some cd ∧ ρ' "numbers" = some nd ∧ ρ' "row" = some (.lst (row.map .int)) ∧ ρ' "many" = some (.int row.length) ∧ ρ' "spots" = some (.lst ((List.range row.length).map fun (i : Nat) => D.int (i : Int)))) ?_ ?_
  · repeat' walk_at "st"
    refine Calls.range1 ?_
    repeat' walk_at "st"
    refine Calls.listRange (m := row.length) (range_small (by decide) (by decide) (by lia) (by lia)) (range_size (by lia)) (by lia) ?_
    rw [rangeD_ints, show (fun (i : Nat) => D.int (0 + (i : Int))) = fun (i : Nat) => D.int (i : Int) from funext fun i => by rw [Int.zero_add]]
    repeat' walk_at "st"
    exact ⟨rfl, rfl, by walk_at "rho", by walk_at "rho", by walk_at "rho", by walk_at "rho", upd_same⟩
  rintro ρ M' ⟨rfl, h1, h2, h3, h4, h5⟩
  refine Ex.seq (fun ρ' M => M = M' ∧ ρ' "cells" = some cd ∧ ρ' "numbers" = some nd ∧ ρ' "row" = some (.lst (row.map .int)) ∧ ρ' "many" = some (.int row.length) ∧ ρ' "spots" = some (.lst ((List.range row.length).map fun (i : Nat) => D.int (i : Int))) ∧
    ρ' "lefts" = some (.lst ((List.range row.length).map fun (i : Nat) => D.int (i : Int))) ∧ ρ' "rights" = some (.lst ((List.range row.length).map fun (i : Nat) => D.int (i + 1 : Nat)))) ?_ ?_
  · first
      | refine Ex1.assignT ?_ rfl (by subst he; exact rfl)
      | refine Ex1.assignS (names := ["lefts", "rights"]) ?_ (by intro x hx; simp only [List.mem_cons, List.not_mem_nil, or_false] at hx; rcases hx with rfl | rfl <;> walk_at "bind") (by subst he; exact rfl)
    repeat' walk_at "st"
    walk_at "comp"
    refine EvI.list ?_
    repeat' walk_at "st"
    refine ⟨_, rfl, ?_⟩
    intro cenv C hce
    refine CompL.mapA D.int (fun x => D.int (bis (geAt row x) 0 row.length : Nat)) (by walk_at "bind") row _ (by simp; lia) (fun x hx Q hQ => ?_) (fun r => ?_)
    · repeat' walk_at "st"
      refine bisL_call2 (g := g.push env) hK .lst (by lia) ?_
      exact hQ
    rw [List.nil_append, lefts_eq s]
    repeat' walk_at "st"
    walk_at "comp"
    refine EvI.list ?_
    repeat' walk_at "st"
    refine ⟨_, rfl, ?_⟩
    intro cenv C hce
    refine CompL.mapA D.int (fun x => D.int (bis (gtAt row x) 0 row.length : Nat)) (by walk_at "bind") row _ (by simp; lia) (fun x hx Q hQ => ?_) (fun r => ?_)
    · repeat' walk_at "st"
      refine bisR_call2 (g := g.push env) hK .lst (by lia) ?_
      exact hQ
    rw [List.nil_append, rights_eq s]
    repeat' walk_at "st"
    first
      | (refine .tup (.cons (by walk_at "bind") (.cons (by walk_at "bind") (.nil ?_))); exact ⟨rfl, rfl, by walk_at "rho", by walk_at "rho", by walk_at "rho", by walk_at "rho", by walk_at "rho", by walk_at "rho", by walk_at "rho"⟩)
      | (refine ⟨_, rfl, rfl, ?_⟩; rw [updL2]; exact ⟨rfl, rfl, by walk_at "rho", by walk_at "rho", by walk_at "rho", by walk_at "rho", by walk_at "rho", by walk_at "rho", by walk_at "rho"⟩)
  rintro ρ M ⟨rfl, h1, h2, h3, h4, h5, h6, h7⟩
  refine Ex.skipIf (Et.or ?_) (next ρ h1 h2 h3 h4)
  have pr : PyOk 20 (.lst ((List.range row.length).map fun (i : Nat) => D.int (i : Int))) := by rw [range_ints]; exact PyOk.ints.le (by decide)
  unfold EtAll
  repeat' walk_at "st"
  refine Act2.neSame rfl pr ?_
  refine TBool.of (ff_of ?_)
  unfold EtAll
  repeat' walk_at "st"
  walk_at "comp"
  refine EvI.list ?_
  repeat' walk_at "st"
  refine ⟨_, rfl, ?_⟩
  intro cenv C hce
  refine CompL.mapA (fun (i : Nat) => D.int (i + 1 : Nat)) (fun (i : Nat) => D.int (i : Int)) (by walk_at "bind") _ _ (by simp; lia) (fun i hi Q hQ => ?_) (fun r => ?_)
  · repeat' walk_at "st"
    rw [show ((i + 1 : Nat) : Int) - 1 = i by lia]
    exact hQ
  rw [List.nil_append]
  repeat' walk_at "st"
  refine Act2.neSame rfl pr ?_
  refine TBool.of (ff_of ?_)
  unfold EtAll
  repeat' walk_at "st"
  walk_at "comp"
  refine EvI.list ?_
  repeat' walk_at "st"
  refine Act2.cat .lst .lst (by simp; lia) ?_
  refine ⟨_, rfl, ?_⟩
  intro cenv C hce
  refine CompL.filter (fun d => d) (fun _ => false) (by walk_at "bind") _ _ (by simp; lia) (fun d hd Q hQ => ?_) (fun d hd hc => nomatch hc) (fun r => ?_)
  · obtain ⟨i, rfl⟩ : ∃ i : Int, d = .int i := by
      rcases List.mem_append.mp hd with h | h <;> obtain ⟨i, _, rfl⟩ := List.mem_map.mp h <;> exact ⟨_, rfl⟩
    refine Et.bool ?_
    repeat' walk_at "st"
    refine Calls.isBoolInt ?_
    exact TBool.of hQ
  rw [List.nil_append, List.filter_eq_nil_iff.mpr (fun _ _ => Bool.false_ne_true)]
  repeat' walk_at "st"
  refine Ev.list ?_
  repeat' walk_at "st"
  refine Act2.neSame rfl (PyOk.le (k := 1) (PyOk.lst fun d hd => nomatch hd) (by decide)) ?_
  refine TBool.of (ff_of ?_)
  unfold EtAll
  exact ⟨rfl, rfl⟩
end

open Mine.Fr
open PySem PySem.W PySem.Calls PyProof.Rows in
theorem dpick_init (ds : List D) (k : Nat) (h : k < ds.length) : dpick ds Option.none (some (-((k + 1 : Nat) : Int))) Option.none = ds.take (ds.length - (k + 1)) := by
  unfold dpick sliceBounds
  simp only [Option.getD_none, show ((1 : Int) > 0) by decide, if_true]
  have e : max (0 : Int) (min (if (-((k + 1 : Nat) : Int)) < 0 then (-((k + 1 : Nat) : Int)) + ds.length else (-((k + 1 : Nat) : Int))) ds.length) = ((ds.length - (k + 1) : Nat) : Int) := by
    rw [if_pos (by lia)]; lia
  rw [e]
  exact (dpick_run ds 0 _ (by lia) (by lia)).trans (by rw [List.drop_zero, Nat.sub_zero])
open PySem PySem.W PySem.Calls PyProof.Rows in
theorem dpick_end (ds : List D) (k : Nat) (h : k < ds.length) : dpick ds (some (-((k + 1 : Nat) : Int))) Option.none Option.none = ds.drop (ds.length - (k + 1)) := by
  unfold dpick sliceBounds
  simp only [Option.getD_none, show ((1 : Int) > 0) by decide, if_true]
  have e : max (0 : Int) (min (if (-((k + 1 : Nat) : Int)) < 0 then (-((k + 1 : Nat) : Int)) + ds.length else (-((k + 1 : Nat) : Int))) ds.length) = ((ds.length - (k + 1) : Nat) : Int) := by
    rw [if_pos (by lia)]; lia
  rw [e]
  refine (dpick_run ds _ ds.length (by lia) (by lia)).trans ?_
  rw [List.take_of_length_le (by simp)]
/-- the places held within a window -/
def heldL (m lo hi : Nat) : List Int := (List.range (m + 1)).map fun i => ((min (max i lo) hi : Nat) : Int)
theorem held_len {m lo hi : Nat} : (heldL m lo hi).length = m + 1 := by simp [heldL]
theorem held_init {m lo hi : Nat} : (heldL m lo hi).take m = (List.range m).map fun i => ((min (max i lo) hi : Nat) : Int) := by
  unfold heldL
  rw [← List.map_take, List.take_range, Nat.min_eq_left (by lia)]
theorem held_tail {m lo hi : Nat} : (heldL m lo hi).drop 1 = (List.range m).map fun i => ((min (max (i + 1) lo) hi : Nat) : Int) := by
  refine List.ext_getElem (by simp [heldL]) fun i h1 h2 => ?_
  simp [heldL, Nat.add_comm]
theorem held_at {m lo hi i : Nat} (h : i ≤ m) : (heldL m lo hi)[i]? = some ((min (max i lo) hi : Nat) : Int) := by
  unfold heldL
  rw [List.getElem?_map, List.getElem?_range (by lia)]; rfl

open PySem PySem.W PySem.Calls PyProof.Rows
set_option maxRecDepth 20000
section
variable {g : G} (hK : g.K = hd.heap_39 g.w.params) (hT : g.tabs = tabs2)
include hK hT
set_option maxHeartbeats 1000000 in
/-- a window's places -/
theorem law_p5 {row cs : List Int} {n : Nat} {μ : Mu} {env : Env} {own : List Addr} {L : Addr} {ρ : Str → Option D} {nd : D} (he : env = callEnvC (lawFd g.w.params) L 83) (ho : own = ownOf (lawFd g.w.params) L)
    (s : Fr.Srt row) (hl : row.length ≤ 8) (hc : cs.length = 10) (h1 : ρ "cells" = some (.lst (cs.map .int))) (h2 : ρ "numbers" = some nd) (h3 : ρ "row" = some (.lst (row.map .int))) (h4 : ρ "many" = some (.int row.length))
    (next : ∀ ρ (lo hi : Nat), lo ≤ hi → hi ≤ row.length → ρ "numbers" = some nd → ρ "row" = some (.lst (row.map .int)) → ρ "many" = some (.int row.length) → ρ "low" = some (.int lo) → ρ "high" = some (.int hi) → ρ "held" = some (.lst ((heldL row.length lo hi).map .int)) →
      Ex (g.push env) env own (n + 59) ρ μ ((lawStmts g.w.params).drop 14) QT) :
    Ex (g.push env) env own (n + 59) ρ μ ((lawStmts g.w.params).drop 11) QT := by
  have i9 : idx? (cs.map D.int) 9 = some (.int (cs.getD 9 0)) := by
    have h9 : 9 < cs.length := by lia
    rw [show (9 : Int) = ((9 : Nat) : Int) from rfl, idx?_nat]; simp [h9]
  generalize cs.getD 9 0 = c9 at i9
  have a0 := Int.fmod_nonneg_of_pos c9 (show (0 : Int) < row.length + 1 by lia)
  have a1 := Int.fmod_lt_of_pos c9 (show (0 : Int) < row.length + 1 by lia)
  have b0 := Int.fmod_nonneg_of_pos (c9.fdiv 9) (show (0 : Int) < row.length + 1 by lia)
  have b1 := Int.fmod_lt_of_pos (c9.fdiv 9) (show (0 : Int) < row.length + 1 by lia)
  refine Ex.seq (fun ρ' M => M = μ ∧ ∃ lo hi : Nat, lo ≤ hi ∧ hi ≤ row.length ∧ ρ' "numbers" = some nd ∧ ρ' "row" = some (.lst (row.map .int)) ∧ ρ' "many" = some (.int row.length) ∧ ρ' "low" = some (.int lo) ∧ ρ' "high" = some (.int hi)) ?_ ?_
  · refine Ex1.assignT ?_ rfl (by subst he; exact rfl)
    repeat' walk_at "st"
    refine Ev.list ?_
    repeat' walk_at "st"
    refine Act2.item .lst i9 (by simp; lia) ?_ (fun _ _ => rfl)
    repeat' walk_at "st"
    refine Act2.mod (by lia) ?_
    repeat' walk_at "st"
    refine Act2.item .lst i9 (by simp; lia) ?_ (fun _ _ => rfl)
    repeat' walk_at "st"
    refine Act2.mod (by lia) ?_
    repeat' walk_at "st"
    refine Calls.sortedInts (ns := [c9.fmod (row.length + 1), (c9.fdiv 9).fmod (row.length + 1)]) .lst (by show 2 < 64; decide) fun s' hp hs => ?_
    obtain ⟨x, y, rfl⟩ : ∃ x y, s' = [x, y] := by
      have := hp.length_eq
      match s', this with
      | [x, y], _ => exact ⟨x, y, rfl⟩
    have hx := hp.mem_iff.mp (show x ∈ [x, y] by simp)
    have hy := hp.mem_iff.mp (show y ∈ [x, y] by simp)
    simp only [List.mem_cons, List.not_mem_nil, or_false] at hx hy
    have hxy : x ≤ y := by simpa using hs
    have x0 : 0 ≤ x ∧ x ≤ row.length := by rcases hx with rfl | rfl <;> lia
    have y0 : 0 ≤ y ∧ y ≤ row.length := by rcases hy with rfl | rfl <;> lia
    obtain ⟨lo, rfl⟩ : ∃ k : Nat, x = k := ⟨x.toNat, by lia⟩
    obtain ⟨hi, rfl⟩ : ∃ k : Nat, y = k := ⟨y.toNat, by lia⟩
    refine .tupL (.cons (by walk_at "bind") (.cons (by walk_at "bind") (.nil ?_)))
    exact ⟨rfl, rfl, lo, hi, by lia, by lia, by walk_at "rho", by walk_at "rho", by walk_at "rho", by walk_at "rho", by walk_at "rho"⟩
  rintro ρ M ⟨rfl, lo, hi, hlh, hhl, h2, h3, h4, h5, h6⟩
  refine Ex.seq (fun ρ' M' => M' = M ∧ ρ' "numbers" = some nd ∧ ρ' "row" = some (.lst (row.map .int)) ∧ ρ' "many" = some (.int row.length) ∧ ρ' "low" = some (.int lo) ∧ ρ' "high" = some (.int hi) ∧ ρ' "held" = some (.lst ((heldL row.length lo hi).map .int))) ?_ ?_
  · walk_at "compS"
    refine EvI.range ?_
    repeat' walk_at "st"
    refine Calls.range1 ?_
    refine ⟨0, row.length + 1, 1, row.length + 1, rfl, range_small (by decide) (by decide) (by lia) (by lia), range_size (by lia), ?_⟩
    intro cenv C hce
    rw [rangeD_ints]
    refine CompL.mapA (fun (i : Nat) => D.int (0 + (i : Int))) (fun i => D.int (min (max i lo) hi : Nat)) (by walk_at "bind") _ _ (by simp; lia) (fun i _ Q hQ => ?_) (fun r => ?_)
    · repeat' walk_at "st"
      refine Calls.max2 ?_
      repeat' walk_at "st"
      refine Calls.min2 ?_
      rw [show min (max (0 + (i : Int)) (lo : Int)) (hi : Int) = ((min (max i lo) hi : Nat) : Int) by lia]
      exact hQ
    · rw [List.nil_append, show (List.range (row.length + 1)).map (fun i => D.int (min (max i lo) hi : Nat)) = (heldL row.length lo hi).map .int by unfold heldL; rw [List.map_map]; rfl]
      exact ⟨rfl, rfl, by walk_at "rho", by walk_at "rho", by walk_at "rho", by walk_at "rho", by walk_at "rho", upd_same⟩
  rintro ρ M' ⟨rfl, h2, h3, h4, h5, h6, h7⟩
  have hhL := held_len (m := row.length) (lo := lo) (hi := hi)
  refine Ex.skipIf (Et.or ?_) (next ρ lo hi hlh hhl h2 h3 h4 h5 h6 h7)
  unfold EtAll
  repeat' walk_at "st"
  walk_at "comp"
  refine EvI.list ?_
  repeat' walk_at "st"
  refine ⟨_, rfl, ?_⟩
  intro cenv C hce
  refine CompL.mapA D.int (fun x => D.int (bis (geAt row x) lo hi : Nat)) (by walk_at "bind") row _ (by simp; lia) (fun x hx Q hQ => ?_) (fun r => ?_)
  · repeat' walk_at "st"
    refine bisL_body (g := g.push env) hK (p := geAt row x) (lo := lo) (hi := hi) (BB.ok hK (by constructor)) .lst (by simp; lia) (by simp; lia) (.inl rfl) geAt_ok ?_
    exact hQ
  have eL : row.map (fun x => D.int (bis (geAt row x) lo hi : Nat)) = ((heldL row.length lo hi).take row.length).map .int := by
    rw [map_by, held_init, List.map_map]
    exact List.map_congr_left fun i hi => by rw [win_l s (List.mem_range.mp hi) hlh hhl]; rfl
  rw [List.nil_append, eL]
  repeat' walk_at "st"
  refine ⟨_, rfl, ?_⟩
  refine Act2.slice .lst (by decide) (by simp; lia) ?_ ops_plain
  rw [show (-1 : Int) = -((0 + 1 : Nat) : Int) from rfl, dpick_init _ 0 (by simp; lia), List.length_map, hhL, show row.length + 1 - (0 + 1) = row.length by lia, ← List.map_take]
  refine Act2.neSame rfl (PyOk.ints.le (by decide)) ?_
  refine TBool.of (ff_of ?_)
  unfold EtAll
  repeat' walk_at "st"
  walk_at "comp"
  refine EvI.list ?_
  repeat' walk_at "st"
  refine ⟨_, rfl, ?_⟩
  intro cenv C hce
  refine CompL.mapA D.int (fun x => D.int (bis (gtAt row x) lo hi : Nat)) (by walk_at "bind") row _ (by simp; lia) (fun x hx Q hQ => ?_) (fun r => ?_)
  · repeat' walk_at "st"
    refine bisR_body (g := g.push env) hK (p := gtAt row x) (lo := lo) (hi := hi) (BB.ok hK (by constructor)) .lst (by simp; lia) (by simp; lia) (.inl rfl) gtAt_ok ?_
    exact hQ
  have eR : row.map (fun x => D.int (bis (gtAt row x) lo hi : Nat)) = ((heldL row.length lo hi).drop 1).map .int := by
    rw [map_by, held_tail, List.map_map]
    exact List.map_congr_left fun i hi => by rw [win_r s (List.mem_range.mp hi) hlh hhl]; rfl
  rw [List.nil_append, eR]
  repeat' walk_at "st"
  refine ⟨_, rfl, ?_⟩
  repeat' walk_at "st"
  refine Act2.slice .lst (by decide) (by simp; lia) ?_ ops_plain
  rw [show (1 : Int) = ((1 : Nat) : Int) from rfl, dpick_from, ← List.map_drop]
  refine Act2.neSame rfl (PyOk.ints.le (by decide)) ?_
  refine TBool.of (ff_of ?_)
  unfold EtAll
  exact ⟨rfl, rfl⟩
end

open PySem PySem.W PySem.Calls PyProof.Rows
set_option maxRecDepth 20000
theorem Ex.skipIfM {g : G} {env : Env} {own : List Addr} {n : Nat} {ρ : Str → Option D} {μ : Mu} {t : Expr} {b rest : List Stmt} {pos : Pos} {Q} (h : Et g env own n ρ μ t fun c μ₁ => c = false ∧ Ex g env own n ρ μ₁ rest Q) : Ex g env own n ρ μ (.If t b [] pos :: rest) Q :=
  Ex.cons (Ex1.ite (h.mono fun c μ₁ ⟨e, k⟩ => ⟨fun q => (by rw [e] at q; cases q), fun _ => Ex.nil (next_of k)⟩))
theorem held_2 {m lo hi : Nat} (h : 0 < m) : idx? ((heldL m lo hi).map D.int) (-2) = some (.int (min (max (m - 1) lo) hi : Nat)) := by
  have hl := held_len (m := m) (lo := lo) (hi := hi)
  unfold idx?
  rw [if_neg (by decide), if_pos (by rw [List.length_map, hl]; lia)]
  have : (((heldL m lo hi).map D.int).length + (-2) : Int).toNat = m - 1 := by rw [List.length_map, hl]; lia
  rw [this, List.getElem?_map, held_at (by lia)]; rfl
theorem held_1 {m lo hi : Nat} (h : 0 < m) : idx? ((heldL m lo hi).map D.int) 1 = some (.int (min (max 1 lo) hi : Nat)) := by
  rw [show (1 : Int) = ((1 : Nat) : Int) from rfl, idx?_nat, List.getElem?_map, held_at (by lia)]; rfl
theorem drop_one {row : List Int} (h : 0 < row.length) : (row.map D.int).drop ((row.map D.int).length - (0 + 1)) = [D.int (row.getD (row.length - 1) 0)] := by
  refine List.ext_getElem (by simp; lia) fun i h1 h2 => ?_
  obtain rfl : i = 0 := by simp at h2; lia
  have : row.length - 1 < row.length := by lia
  simp [this]
theorem take_one {row : List Int} (h : 0 < row.length) : (row.map D.int).take 1 = [D.int (row.getD 0 0)] := by
  cases row with
  | nil => cases h
  | cons a l => rfl
theorem PyOk.mixed {ds : List D} (h : ∀ d ∈ ds, ∃ i, d = .int i) : PyOk 20 (.lst ds) := PyOk.le (k := 1) (PyOk.lst fun d hd => by obtain ⟨i, rfl⟩ := h d hd; exact .int) (by decide)
theorem insAt_ints {k : Nat} {x : Int} {row : List Int} : ∀ d ∈ insAt k (.int x) (row.map .int), ∃ i, d = D.int i := fun d hd => by
  unfold insAt at hd
  rcases List.mem_append.mp hd with h | h
  · obtain ⟨i, _, rfl⟩ := List.mem_map.mp (List.mem_of_mem_take h); exact ⟨_, rfl⟩
  · rcases List.mem_cons.mp h with rfl | h
    · exact ⟨_, rfl⟩
    · obtain ⟨i, _, rfl⟩ := List.mem_map.mp (List.mem_of_mem_drop h); exact ⟨_, rfl⟩
section
variable {g : G} (hK : g.K = hd.heap_39 g.w.params) (hT : g.tabs = tabs2)
include hK hT
set_option maxHeartbeats 1000000 in
/-- laid in beside the last and the first -/
theorem law_p6 {row : List Int} {n : Nat} {μ : Mu} {env : Env} {own : List Addr} {L : Addr} {ρ : Str → Option D} {nd : D} {lo hi : Nat} (he : env = callEnvC (lawFd g.w.params) L 83) (ho : own = ownOf (lawFd g.w.params) L)
    (s : Fr.Srt row) (hl : row.length ≤ 8) (h0 : 0 < row.length) (hlh : lo ≤ hi) (hhl : hi ≤ row.length) (h2 : ρ "numbers" = some nd) (h3 : ρ "row" = some (.lst (row.map .int))) (h4 : ρ "many" = some (.int row.length)) (h5 : ρ "low" = some (.int lo)) (h6 : ρ "high" = some (.int hi)) (h7 : ρ "held" = some (.lst ((heldL row.length lo hi).map .int)))
    (next : ∀ ρ, ρ "numbers" = some nd → ρ "row" = some (.lst (row.map .int)) → ρ "many" = some (.int row.length) → Ex (g.push env) env own (n + 59) ρ μ ((lawStmts g.w.params).drop 17) QT) :
    Ex (g.push env) env own (n + 59) ρ μ ((lawStmts g.w.params).drop 14) QT := by
  have hhL := held_len (m := row.length) (lo := lo) (hi := hi)
  have hne : row ≠ [] := List.length_pos_iff.mp h0
  refine Ex.seq (fun ρ' M => ∃ a1 a2, a1 ∉ μ.dom ∧ a2 ∉ μ.dom ∧ a1 ≠ a2 ∧ M = (a2, .ml (row.map .int)) :: (a1, .ml (row.map .int)) :: μ ∧ ρ' "near" = some (.val (.ref a1)) ∧ ρ' "far" = some (.val (.ref a2)) ∧
    ρ' "numbers" = some nd ∧ ρ' "row" = some (.lst (row.map .int)) ∧ ρ' "many" = some (.int row.length) ∧ ρ' "low" = some (.int lo) ∧ ρ' "high" = some (.int hi) ∧ ρ' "held" = some (.lst ((heldL row.length lo hi).map .int))) ?_ ?_
  · first
      | refine Ex1.assignT ?_ rfl (by subst he; exact rfl)
      | refine Ex1.assignS (names := ["near", "far"]) ?_ (by intro x hx; simp only [List.mem_cons, List.not_mem_nil, or_false] at hx; rcases hx with rfl | rfl <;> walk_at "bind") (by subst he; exact rfl)
    repeat' walk_at "st"
    refine Calls.listMut .lst (by simp; lia) fun a1 ha1 => ?_
    repeat' walk_at "st"
    refine Calls.listMut .lst (by simp; lia) fun a2 ha2 => ?_
    simp only [Mu.dom, List.map_cons, List.mem_cons, not_or] at ha2
    repeat' walk_at "st"
    first
      | (refine .tup (.cons (by walk_at "bind") (.cons (by walk_at "bind") (.nil ?_))); exact ⟨rfl, a1, a2, ha1, ha2.2, Ne.symm ha2.1, rfl, by walk_at "rho", by walk_at "rho", by walk_at "rho", by walk_at "rho", by walk_at "rho", by walk_at "rho", by walk_at "rho", by walk_at "rho"⟩)
      | (refine ⟨_, rfl, rfl, ?_⟩; rw [updL2]; exact ⟨rfl, a1, a2, ha1, ha2.2, Ne.symm ha2.1, rfl, by walk_at "rho", by walk_at "rho", by walk_at "rho", by walk_at "rho", by walk_at "rho", by walk_at "rho", by walk_at "rho", by walk_at "rho"⟩)
  rintro ρ M ⟨a1, a2, ha1, ha2, ha12, rfl, n1, n2, h2, h3, h4, h5, h6, h7⟩
  have eL := win_l s (i := row.length - 1) (by lia) hlh hhl
  have eR := win_r s (i := 0) h0 hlh hhl
  rw [Nat.zero_add] at eR
  generalize hx : row.getD (row.length - 1) 0 = x at eL
  generalize hy : row.getD 0 0 = y at eR
  generalize hp : min (max (row.length - 1) lo) hi = p at eL
  generalize hq : min (max 1 lo) hi = q at eR
  have il := idx_last hne
  rw [hx] at il
  have i0 : idx? (row.map D.int) 0 = some (.int y) := by
    rw [show (0 : Int) = ((0 : Nat) : Int) from rfl, idx?_nat]; simp [← hy, h0]
  have i2 := held_2 (lo := lo) (hi := hi) h0
  have i1 := held_1 (lo := lo) (hi := hi) h0
  rw [hp] at i2
  rw [hq] at i1
  refine Ex.skipIfM (Et.or ?_)
  unfold EtAll
  repeat' walk_at "st"
  refine Act2.item .lst il (by simp; lia) ?_ (fun _ _ => rfl)
  repeat' walk_at "st"
  refine insL_body (g := g.push env) hK (p := geAt row x) (lo := lo) (hi := hi) (BB.ok hK (by constructor)) (.tail _ (.head _)) (by simp; lia) hlh (by simp; lia) (.inl rfl) geAt_ok ?_
  rw [eL, setMu_miss (Ne.symm ha12), setMu_hit]
  repeat' walk_at "st"
  refine ff_of ?_
  unfold EtAll
  repeat' walk_at "st"
  refine Act2.item .lst i0 (by simp; lia) ?_ (fun _ _ => rfl)
  repeat' walk_at "st"
  refine insR_body (g := g.push env) hK (p := gtAt row y) (lo := lo) (hi := hi) (BB.ok hK (by constructor)) (.head _) (by simp; lia) hlh (by simp; lia) (.inl rfl) gtAt_ok ?_
  rw [eR, setMu_hit]
  repeat' walk_at "st"
  refine ff_of ?_
  unfold EtAll
  refine ⟨rfl, ?_⟩
  refine Ex.freeze (reUpd (x := "far") n2 .hit) ?_
  refine Ex.freeze (reUpd (x := "near") (upd_ne (by decide) n1) .hit) ?_
  refine Ex.skipIf (Et.or ?_) (next _ (by walk_at "rho") (by walk_at "rho") (by walk_at "rho"))
  unfold EtAll
  repeat' walk_at "st"
  refine Act2.item .lst i2 (by simp; lia) ?_ (fun _ _ => rfl)
  repeat' walk_at "st"
  refine ⟨_, rfl, ?_⟩
  refine Act2.slice .lst (by decide) (by simp; lia) ?_ ops_plain
  rw [dpick_upto]
  repeat' walk_at "st"
  refine ⟨_, rfl, ?_⟩
  repeat' walk_at "st"
  refine Act2.slice .lst (by decide) (by simp; lia) ?_ ops_plain
  rw [show (-1 : Int) = -((0 + 1 : Nat) : Int) from rfl, dpick_end _ 0 (by simp; lia), drop_one h0, hx]
  refine Act2.cat .lst .lst (by simp; lia) ?_
  repeat' walk_at "st"
  refine Act2.item .lst i2 (by simp; lia) ?_ (fun _ _ => rfl)
  repeat' walk_at "st"
  refine ⟨_, rfl, ?_⟩
  repeat' walk_at "st"
  refine Act2.slice .lst (by decide) (by simp; lia) ?_ ops_plain
  rw [dpick_from]
  refine Act2.cat .lst .lst (by simp; lia) ?_
  refine Act2.neSame (by unfold insAt; rw [List.append_assoc]; rfl) (PyOk.mixed insAt_ints) ?_
  refine TBool.of (ff_of ?_)
  unfold EtAll
  repeat' walk_at "st"
  refine Act2.item .lst i1 (by simp; lia) ?_ (fun _ _ => rfl)
  repeat' walk_at "st"
  refine ⟨_, rfl, ?_⟩
  refine Act2.slice .lst (by decide) (by simp; lia) ?_ ops_plain
  rw [dpick_upto]
  repeat' walk_at "st"
  refine ⟨_, rfl, ?_⟩
  refine Act2.slice .lst (by decide) (by simp; lia) ?_ ops_plain
  rw [show (1 : Int) = ((1 : Nat) : Int) from rfl, dpick_upto, take_one h0, hy]
  refine Act2.cat .lst .lst (by simp; lia) ?_
  repeat' walk_at "st"
  refine Act2.item .lst i1 (by simp; lia) ?_ (fun _ _ => rfl)
  repeat' walk_at "st"
  refine ⟨_, rfl, ?_⟩
  repeat' walk_at "st"
  refine Act2.slice .lst (by decide) (by simp; lia) ?_ ops_plain
  rw [dpick_from]
  refine Act2.cat .lst .lst (by simp; lia) ?_
  refine Act2.neSame (by unfold insAt; rw [List.append_assoc]; rfl) (PyOk.mixed insAt_ints) ?_
  refine TBool.of (ff_of ?_)
  unfold EtAll
  exact ⟨rfl, rfl⟩
end

open Mine.Fr
/-! law 2: all sums, all differences -/
def sumsU (row : List Int) : List Int := (List.range row.length).flatMap fun i => ((List.range (row.length - i)).map (i + ·)).map fun j => row.getD i 0 + row.getD j 0
def sumsA (l : List Int) : List Int := l.flatMap fun a => l.map fun b => a + b
def diffsA (l : List Int) : List Int := l.flatMap fun a => l.map fun b => a - b
theorem mem_sumsA {l : List Int} {x : Int} : x ∈ sumsA l ↔ IsS l x := by
  unfold sumsA IsS
  simp only [List.mem_flatMap, List.mem_map, eq_comm]
theorem mem_diffsA {l : List Int} {x : Int} : x ∈ diffsA l ↔ IsD l x := by
  unfold diffsA IsD
  simp only [List.mem_flatMap, List.mem_map, eq_comm]
theorem getD_mem {row : List Int} {i : Nat} (h : i < row.length) : row.getD i 0 ∈ row := by simp [h]
theorem mem_getD {row : List Int} {a : Int} (h : a ∈ row) : ∃ i, i < row.length ∧ row.getD i 0 = a := by
  obtain ⟨i, hi, rfl⟩ := List.getElem_of_mem h
  exact ⟨i, hi, by simp [hi]⟩
theorem mem_sumsU {row : List Int} {x : Int} : x ∈ sumsU row ↔ IsS row x := by
  unfold sumsU
  constructor
  · intro h
    obtain ⟨i, hi, h⟩ := List.mem_flatMap.mp h
    obtain ⟨j, hj, rfl⟩ := List.mem_map.mp h
    obtain ⟨k, hk, rfl⟩ := List.mem_map.mp hj
    have hi := List.mem_range.mp hi
    have hk := List.mem_range.mp hk
    exact ⟨_, getD_mem hi, _, getD_mem (by lia), rfl⟩
  · rintro ⟨a, ha, b, hb, rfl⟩
    obtain ⟨i, hi, rfl⟩ := mem_getD ha
    obtain ⟨j, hj, rfl⟩ := mem_getD hb
    rcases Nat.le_total i j with h | h
    · exact List.mem_flatMap.mpr ⟨i, List.mem_range.mpr hi, List.mem_map.mpr ⟨j, List.mem_map.mpr ⟨j - i, List.mem_range.mpr (by lia), by lia⟩, rfl⟩⟩
    · exact List.mem_flatMap.mpr ⟨j, List.mem_range.mpr hj, List.mem_map.mpr ⟨i, List.mem_map.mpr ⟨i - j, List.mem_range.mpr (by lia), by lia⟩, Int.add_comm _ _⟩⟩
theorem flat_len {α β : Type} {f : α → List β} {k : Nat} : ∀ {l : List α}, (∀ a ∈ l, (f a).length ≤ k) → (l.flatMap f).length ≤ l.length * k
  | [], _ => by simp
  | a :: l, h => by
    rw [List.flatMap_cons, List.length_append, List.length_cons, Nat.succ_mul]
    have h1 := h a (.head _)
    have h2 := flat_len (l := l) fun b hb => h b (.tail _ hb)
    lia
theorem sumsU_len {row : List Int} (h : row.length ≤ 8) : (sumsU row).length ≤ 64 := by
  have := flat_len (l := List.range row.length) (f := fun i => ((List.range (row.length - i)).map (i + ·)).map fun j => row.getD i 0 + row.getD j 0) (k := 8) fun i _ => by simp; lia
  rw [List.length_range] at this
  unfold sumsU; lia
theorem diffsA_len {row : List Int} (h : row.length ≤ 8) : (diffsA row).length ≤ 64 := by
  have := flat_len (l := row) (f := fun a => row.map fun b => a - b) (k := 8) fun i _ => by simp; lia
  unfold diffsA; lia
theorem sumsA_len {row : List Int} (h : row.length ≤ 8) : (sumsA row).length ≤ 64 := by
  have := flat_len (l := row) (f := fun a => row.map fun b => a + b) (k := 8) fun i _ => by simp; lia
  unfold sumsA; lia
theorem gaps_few {row Gp : List Int} (h : row.length ≤ 8) (n : Gp.Nodup) (m : ∀ x ∈ Gp, IsD row x) : Gp.length < 64 := by
  match row, h with
  | [], _ => 
    cases Gp with
    | nil => decide
    | cons a l => obtain ⟨_, q, _⟩ := m a (.head _); cases q
  | [a], _ =>
    have := nodup_le (S := [0]) n fun x hx => by
      obtain ⟨p, hp, q, hq, rfl⟩ := m x hx
      simp only [List.mem_cons, List.not_mem_nil, or_false] at hp hq ⊢
      lia
    simp at this; lia
  | a :: b :: r, h =>
    have hl := diffsA_len h
    have e : diffsA (a :: b :: r) = (a - a) :: (((b :: r).map fun c => a - c) ++ (b :: r).flatMap fun c => (a :: b :: r).map fun d => c - d) := rfl
    rw [e, List.length_cons] at hl
    have := nodup_le (S := ((b :: r).map fun c => a - c) ++ (b :: r).flatMap fun c => (a :: b :: r).map fun d => c - d) n fun x hx => by
      have hx := mem_diffsA.mpr (m x hx)
      rw [e] at hx
      rcases List.mem_cons.mp hx with rfl | hx
      · exact List.mem_append.mpr (.inr (List.mem_flatMap.mpr ⟨b, .head _, List.mem_map.mpr ⟨b, .tail _ (.head _), by lia⟩⟩))
      · exact hx
    lia
theorem sums_few' {row Sm : List Int} (h : row.length ≤ 8) (n : Sm.Nodup) (m : ∀ x ∈ Sm, IsS row x) : Sm.length < 64 := by
  have h1 := nodup_le n fun x hx => tri_mem (m x hx)
  have h2 := tri_len row
  have h3 : row.length * (row.length + 1) ≤ 8 * 9 := Nat.mul_le_mul h (by lia)
  lia

open PySem PySem.W PySem.Calls PyProof.Rows
set_option maxRecDepth 20000
theorem map_flat {α : Type} {l : List α} {f : α → List Int} : (l.flatMap f).map D.int = l.flatMap fun a => (f a).map D.int := List.map_flatMap
section
variable {g : G} (hK : g.K = hd.heap_39 g.w.params) (hT : g.tabs = tabs2)
include hK hT
set_option maxHeartbeats 1000000 in
/-- all sums, all differences -/
theorem law_p7 {row ns : List Int} {n : Nat} {μ : Mu} {env : Env} {own : List Addr} {L : Addr} {ρ : Str → Option D} (he : env = callEnvC (lawFd g.w.params) L 83) (ho : own = ownOf (lawFd g.w.params) L)
    (s : Fr.Srt row) (hl : row.length ≤ 8) (hn : ns.length = 8) (hm : ∀ x, x ∈ row ↔ x ∈ ns) (h2 : ρ "numbers" = some (.lst (ns.map .int))) (h3 : ρ "row" = some (.lst (row.map .int))) (h4 : ρ "many" = some (.int row.length))
    (next : ∀ ρ (Sm Gp : List Int), Fr.Srt Sm → Fr.Srt Gp → (∀ x, x ∈ Sm ↔ Fr.IsS row x) → (∀ x, x ∈ Gp ↔ Fr.IsD row x) → Sm.length < 64 → Gp.length < 64 → ρ "row" = some (.lst (row.map .int)) → ρ "many" = some (.int row.length) →
      ρ "sums" = some (.lst (Sm.map .int)) → ρ "gaps" = some (.lst (Gp.map .int)) → Ex (g.push env) env own (n + 59) ρ μ ((lawStmts g.w.params).drop 21) QT) :
    Ex (g.push env) env own (n + 59) ρ μ ((lawStmts g.w.params).drop 17) QT := by
  refine Ex.seq (fun ρ' M => M = μ ∧ ∃ Sm : List Int, Fr.Srt Sm ∧ (∀ x, x ∈ Sm ↔ Fr.IsS row x) ∧ ρ' "numbers" = some (.lst (ns.map .int)) ∧ ρ' "row" = some (.lst (row.map .int)) ∧ ρ' "many" = some (.int row.length) ∧ ρ' "sums" = some (.lst (Sm.map .int))) ?_ ?_
  · repeat' walk_at "st"
    walk_at "comp"
    refine EvI.range ?_
    repeat' walk_at "st"
    refine Calls.range1 ?_
    refine ⟨0, row.length, 1, row.length, rfl, range_small (by decide) (by decide) (by lia) (by lia), range_size (by lia), ?_⟩
    intro cenv C hce
    rw [rangeD_ints]
    refine CompL.nest (α := Nat) (β := Nat) (xs := List.range row.length) (fun i => D.int (0 + (i : Int))) (fun i => (List.range (row.length - i)).map (i + ·)) (fun j => D.int j) (fun i j => D.int (row.getD i 0 + row.getD j 0)) (by walk_at "bind") (by walk_at "bind") _ ?_ (fun i hi ρ' hρ Q hQ => ?_) (fun i hi j hj ρ' hρ Q hQ => ?_) (fun r => ?_)
    · have := sumsU_len hl
      rw [← List.length_map (f := D.int)] at this
      unfold sumsU at this
      rw [map_flat] at this
      simp only [List.map_map] at this
      show 0 + _ ≤ 100000
      simp only [List.map_map]
      exact Nat.le_trans (Nat.le_of_eq (Nat.zero_add _)) (Nat.le_trans this (by decide))
    · have hi := List.mem_range.mp hi
      have hr : ρ' "many" = some (.int row.length) := (hρ _ (by decide) (by decide)).trans (by walk_at "rho")
      refine EvI.range ?_
      repeat' walk_at "st"
      refine Calls.range2 ?_
      refine ⟨_, _, 1, row.length - i, rfl, range_small (by lia) (by lia) (by lia) (by lia), range_size (by lia), ?_⟩
      rw [rangeD_ints]
      rw [List.map_map] at hQ
      rw [show (fun (j : Nat) => D.int (0 + (i : Int) + j)) = (fun j => D.int (j : Nat)) ∘ (i + ·) from funext fun j => congrArg D.int (by simp)]
      exact hQ
    · have hi := List.mem_range.mp hi
      obtain ⟨k, hk, rfl⟩ := List.mem_map.mp hj
      have hk := List.mem_range.mp hk
      have hr : ρ' "row" = some (.lst (row.map .int)) := (hρ _ (by decide) (by decide)).trans (by walk_at "rho")
      have hij : i + k < row.length := by lia
      repeat' walk_at "st"
      refine Act2.item .lst (d := .int (row.getD i 0)) (by rw [Int.zero_add, idx?_nat]; simp [hi]) (by simp; lia) ?_ (fun _ _ => rfl)
      repeat' walk_at "st"
      refine Act2.item .lst (d := .int (row.getD (i + k) 0)) (by rw [idx?_nat]; simp [hij]) (by simp; lia) ?_ (fun _ _ => rfl)
      repeat' walk_at "st"
      exact hQ
    rw [List.nil_append, show ((List.range row.length).flatMap fun i => ((List.range (row.length - i)).map (i + ·)).map fun j => D.int (row.getD i 0 + row.getD j 0)) = (sumsU row).map .int by unfold sumsU; rw [map_flat]; simp only [List.map_map]; rfl]
    repeat' walk_at "st"
    refine laid_body (g := g.push env) hK (by have := sumsU_len hl; lia) fun Sm sS mS lS => ?_
    repeat' walk_at "st"
    exact ⟨rfl, rfl, Sm, sS, fun x => (mS x).trans mem_sumsU, by walk_at "rho", by walk_at "rho", by walk_at "rho", upd_same⟩
  rintro ρ M ⟨rfl, Sm, sS, mS, h2, h3, h4, h5⟩
  refine Ex.seq (fun ρ' M' => M' = M ∧ ∃ Gp : List Int, Fr.Srt Gp ∧ (∀ x, x ∈ Gp ↔ Fr.IsD row x) ∧ ρ' "numbers" = some (.lst (ns.map .int)) ∧ ρ' "row" = some (.lst (row.map .int)) ∧ ρ' "many" = some (.int row.length) ∧ ρ' "sums" = some (.lst (Sm.map .int)) ∧ ρ' "gaps" = some (.lst (Gp.map .int))) ?_ ?_
  · repeat' walk_at "st"
    walk_at "comp"
    refine EvI.list ?_
    repeat' walk_at "st"
    refine ⟨_, rfl, ?_⟩
    intro cenv C hce
    refine CompL.nest (α := Int) (β := Int) (xs := row) D.int (fun _ => row) D.int (fun a b => D.int (a - b)) (by walk_at "bind") (by walk_at "bind") _ ?_ (fun a ha ρ' hρ Q hQ => ?_) (fun a ha b hb ρ' hρ Q hQ => ?_) (fun r => ?_)
    · have := flat_len (l := row) (f := fun a => row.map fun b => D.int (a - b)) (k := 8) fun i _ => by simp; lia
      show 0 + _ ≤ 100000
      lia
    · have hr : ρ' "row" = some (.lst (row.map .int)) := (hρ _ (by decide) (by decide)).trans (by walk_at "rho")
      refine EvI.list ?_
      repeat' walk_at "st"
      exact ⟨_, rfl, hQ⟩
    · repeat' walk_at "st"
      exact hQ
    rw [List.nil_append, show (row.flatMap fun a => row.map fun b => D.int (a - b)) = (diffsA row).map .int by unfold diffsA; rw [map_flat]; simp only [List.map_map]; rfl]
    repeat' walk_at "st"
    refine laid_body (g := g.push env) hK (by have := diffsA_len hl; lia) fun Gp sG mG lG => ?_
    repeat' walk_at "st"
    exact ⟨rfl, rfl, Gp, sG, fun x => (mG x).trans mem_diffsA, by walk_at "rho", by walk_at "rho", by walk_at "rho", by walk_at "rho", upd_same⟩
  rintro ρ M' ⟨rfl, Gp, sG, mG, h2, h3, h4, h5, h6⟩
  have lS : Sm.length < 64 := sums_few' hl sS.nodup fun x hx => (mS x).mp hx
  have lG : Gp.length < 64 := gaps_few hl sG.nodup fun x hx => (mG x).mp hx
  have mS2 : ∀ x, x ∈ Sm ↔ x ∈ sumsA ns := fun x => by
    rw [mS, mem_sumsA]; unfold Fr.IsS; simp only [hm]
  have mG2 : ∀ x, x ∈ Gp ↔ x ∈ diffsA ns := fun x => by
    rw [mG, mem_diffsA]; unfold Fr.IsD; simp only [hm]
  have same : ∀ {R N l : List Int}, Fr.Srt R → (∀ x, x ∈ R ↔ x ∈ N) → l.Perm (dd N) → l.length = R.length := fun {R N l} sR mR hl => by
    rw [hl.length_eq]
    exact ((List.perm_ext_iff_of_nodup (dd_nodup N) sR.nodup).mpr fun x => (dd_mem N).trans (mR x).symm).length_eq
  refine Ex.skipIf (Et.cmp ?_ ?h) ?_
  case h => with_unfolding_all rfl
  · repeat' walk_at "st"
    walk_at "comp"
    refine EvI.list ?_
    repeat' walk_at "st"
    refine ⟨_, rfl, ?_⟩
    intro cenv C hce
    refine CompL.nest (α := Int) (β := Int) (xs := ns) D.int (fun _ => ns) D.int (fun a b => D.int (a + b)) (by walk_at "bind") (by walk_at "bind") _ ?_ (fun a ha ρ' hρ Q hQ => ?_) (fun a ha b hb ρ' hρ Q hQ => ?_) (fun r => ?_)
    · have := flat_len (l := ns) (f := fun a => ns.map fun b => D.int (a + b)) (k := 8) fun i _ => by simp; lia
      show 0 + _ ≤ 100000
      lia
    · have hr : ρ' "numbers" = some (.lst (ns.map .int)) := (hρ _ (by decide) (by decide)).trans (by walk_at "rho")
      refine EvI.list ?_
      repeat' walk_at "st"
      exact ⟨_, rfl, hQ⟩
    · repeat' walk_at "st"
      exact hQ
    rw [List.nil_append, show (ns.flatMap fun a => ns.map fun b => D.int (a + b)) = (sumsA ns).map .int by unfold sumsA; rw [map_flat]; simp only [List.map_map]; rfl]
    repeat' walk_at "st"
    refine Calls.setInts .lst (by have := sumsA_len (row := ns) (by lia); lia) fun a l' ha hl' => ?_
    repeat' walk_at "st"
    refine Calls.sortedSet (by rw [same sS mS2 hl']; exact lS) fun ns' hp hs => ?_
    rw [set_row sS mS2 hl' hp hs]
    refine Act2.neSame rfl (PyOk.ints.le (by decide)) ?_
    exact TBool.of ⟨rfl, rfl⟩
  refine Ex.skipIf (Et.cmp ?_ ?h) (next ρ Sm Gp sS sG mS mG lS lG h3 h4 h5 h6)
  case h => with_unfolding_all rfl
  repeat' walk_at "st"
  walk_at "comp"
  refine EvI.list ?_
  repeat' walk_at "st"
  refine ⟨_, rfl, ?_⟩
  intro cenv C hce
  refine CompL.nest (α := Int) (β := Int) (xs := ns) D.int (fun _ => ns) D.int (fun a b => D.int (a - b)) (by walk_at "bind") (by walk_at "bind") _ ?_ (fun a ha ρ' hρ Q hQ => ?_) (fun a ha b hb ρ' hρ Q hQ => ?_) (fun r => ?_)
  · have := flat_len (l := ns) (f := fun a => ns.map fun b => D.int (a - b)) (k := 8) fun i _ => by simp; lia
    show 0 + _ ≤ 100000
    lia
  · have hr : ρ' "numbers" = some (.lst (ns.map .int)) := (hρ _ (by decide) (by decide)).trans (by walk_at "rho")
    refine EvI.list ?_
    repeat' walk_at "st"
    exact ⟨_, rfl, hQ⟩
  · repeat' walk_at "st"
    exact hQ
  rw [List.nil_append, show (ns.flatMap fun a => ns.map fun b => D.int (a - b)) = (diffsA ns).map .int by unfold diffsA; rw [map_flat]; simp only [List.map_map]; rfl]
  repeat' walk_at "st"
  refine Calls.setInts .lst (by have := diffsA_len (row := ns) (by lia); lia) fun a l' ha hl' => ?_
  repeat' walk_at "st"
  refine Calls.sortedSet (by rw [same sG mG2 hl']; exact lG) fun ns' hp hs => ?_
  rw [set_row sG mG2 hl' hp hs]
  refine Act2.neSame rfl (PyOk.ints.le (by decide)) ?_
  exact TBool.of ⟨rfl, rfl⟩
end

open Mine.Fr
/-! law 2: what the last bisections tell; the divisor -/
theorem told_all {row Sm : List Int} (s : Srt row) (sS : Srt Sm) (m : ∀ x, x ∈ Sm ↔ IsS row x) : bis (gtAt Sm (2 * row.getD (row.length - 1) 0)) 0 Sm.length = Sm.length := by
  rw [gtC (srt_le sS)]
  refine List.countP_eq_length.mpr fun x hx => ?_
  obtain ⟨a, ha, b, hb, rfl⟩ := (m x).mp hx
  obtain ⟨i, hi, rfl⟩ := mem_getD ha
  obtain ⟨j, hj, rfl⟩ := mem_getD hb
  have h1 := srt_le' s (i := i) (j := row.length - 1) (by lia) (by lia)
  have h2 := srt_le' s (i := j) (j := row.length - 1) (by lia) (by lia)
  simp only [decide_eq_true_eq]; lia
theorem apart_all {row Gp : List Int} (sG : Srt Gp) (m : ∀ x, x ∈ Gp ↔ IsD row x) : bis (geAt Gp 0) 0 Gp.length + bis (gtAt Gp 0) 0 Gp.length = Gp.length := by
  rw [geC (srt_le sG), gtC (srt_le sG)]
  have hs : ∀ x, x ∈ Gp → -x ∈ Gp := fun x hx => by
    obtain ⟨a, ha, b, hb, rfl⟩ := (m x).mp hx
    exact (m _).mpr ⟨b, hb, a, ha, by lia⟩
  have hp : (Gp.map fun x => -x).Perm Gp := by
    refine (List.perm_ext_iff_of_nodup (nodup_map sG.nodup fun x _ y _ e => by lia) sG.nodup).mpr fun x => ⟨fun h => ?_, fun h => List.mem_map.mpr ⟨-x, hs x h, by lia⟩⟩
    obtain ⟨y, hy, rfl⟩ := List.mem_map.mp h
    exact hs y hy
  have h1 : Gp.countP (fun a => decide (a < 0)) = Gp.countP (fun a => !decide (a ≤ 0)) := by
    rw [← hp.countP_eq, List.countP_map]
    exact List.countP_congr fun a _ => by simp
  rw [h1, Nat.add_comm]
  rw [List.length_eq_countP_add_countP (l := Gp) (fun a => decide (a ≤ 0))]
  exact congrArg _ (List.countP_congr fun a _ => by simp)
theorem gcd_dvd {d : Nat} : ∀ {l : List Nat} {c : Nat}, d ∣ l.foldl Nat.gcd c ↔ d ∣ c ∧ ∀ x ∈ l, d ∣ x
  | [], c => by simp
  | a :: l, c => by
    rw [List.foldl_cons, gcd_dvd, Nat.dvd_gcd_iff]
    simp [and_assoc]
/-- the divisor of the differences from the first -/
theorem divisor {row : List Int} (s : Srt row) (h : 1 < row.length) : ∀ g : Nat, g = (row.map fun x => (x - row.getD 0 0).toNat).foldl Nat.gcd 0 →
    0 < g ∧ (∀ a ∈ row, (g : Int) ∣ a - row.getD 0 0) ∧ (∀ d : Int, (∀ a ∈ row, d ∣ a - row.getD 0 0) → d ∣ g) := fun g hg => by
  have nn : ∀ a ∈ row, 0 ≤ a - row.getD 0 0 := fun a ha => by
    obtain ⟨i, hi, rfl⟩ := mem_getD ha
    have := srt_le' s (Nat.zero_le i) hi
    lia
  have e : ∀ d : Nat, d ∣ g ↔ ∀ a ∈ row, (d : Int) ∣ a - row.getD 0 0 := fun d => by
    rw [hg, gcd_dvd]
    simp only [Nat.dvd_zero, true_and, List.mem_map, forall_exists_index, and_imp, forall_apply_eq_imp_iff₂]
    refine forall_congr' fun a => forall_congr' fun ha => ?_
    have q := nn a ha
    generalize a - row.getD 0 0 = z at q ⊢
    obtain ⟨k, rfl⟩ : ∃ k : Nat, z = k := ⟨z.toNat, by lia⟩
    rw [Int.toNat_natCast]
    exact Int.ofNat_dvd.symm
  refine ⟨?_, (e g).mp (Nat.dvd_refl g), fun d hd => ?_⟩
  · rcases Nat.eq_zero_or_pos g with q | q
    · have := (e g).mp (Nat.dvd_refl g) _ (getD_mem h)
      rw [q] at this
      have h0 := Int.zero_dvd.mp this
      have := srt_lt s (Nat.zero_lt_one) h
      lia
    · exact q
  · have : d.natAbs ∣ g := (e _).mpr fun a ha => Int.natAbs_dvd.mpr (hd a ha)
    exact Int.natAbs_dvd.mp (Int.ofNat_dvd.mpr this)

open PySem PySem.W PySem.Calls PyProof.Rows
set_option maxRecDepth 20000
theorem ends_of {row : List Int} (h : 1 < row.length) : ∃ T, row = row.getD 0 0 :: (T ++ [row.getD (row.length - 1) 0]) := by
  match row, h with
  | a :: b :: r, _ =>
    refine ⟨(b :: r).dropLast, ?_⟩
    have e := List.dropLast_concat_getLast (l := b :: r) (by simp)
    have e2 : (a :: b :: r).getD ((a :: b :: r).length - 1) 0 = (b :: r).getLast (by simp) := by
      rw [List.getLast_eq_getElem]; simp
    rw [e2, e]; rfl
section
variable {g : G} (hK : g.K = hd.heap_39 g.w.params) (hT : g.tabs = tabs2)
include hK hT
set_option maxHeartbeats 1000000 in
/-- the last lines -/
theorem law_p8 {row Sm Gp : List Int} {n : Nat} {μ : Mu} {env : Env} {own : List Addr} {L : Addr} {ρ : Str → Option D} (he : env = callEnvC (lawFd g.w.params) L 83) (ho : own = ownOf (lawFd g.w.params) L)
    (s : Fr.Srt row) (hl : row.length ≤ 8) (h0 : 0 < row.length) (hb : ∀ x ∈ row, -1000 ≤ x ∧ x ≤ 5001000) (sS : Fr.Srt Sm) (sG : Fr.Srt Gp) (mS : ∀ x, x ∈ Sm ↔ Fr.IsS row x) (mG : ∀ x, x ∈ Gp ↔ Fr.IsD row x) (lS : Sm.length < 64) (lG : Gp.length < 64)
    (h1 : ρ "row" = some (.lst (row.map .int))) (h2 : ρ "many" = some (.int row.length)) (h3 : ρ "sums" = some (.lst (Sm.map .int))) (h4 : ρ "gaps" = some (.lst (Gp.map .int))) :
    Ex (g.push env) env own (n + 59) ρ μ ((lawStmts g.w.params).drop 21) QT := by
  have hne : row ≠ [] := List.length_pos_iff.mp h0
  have il := idx_last hne
  have i0 : idx? (row.map D.int) 0 = some (.int (row.getD 0 0)) := by
    rw [show (0 : Int) = ((0 : Nat) : Int) from rfl, idx?_nat]; simp [h0]
  have told := told_all s sS mS
  have apart := apart_all sG mG
  refine Ex.seq (fun ρ' M => M = μ ∧ ρ' "row" = some (.lst (row.map .int)) ∧ ρ' "many" = some (.int row.length) ∧ ρ' "gaps" = some (.lst (Gp.map .int)) ∧ ρ' "told" = some (.int Sm.length)) ?_ ?_
  · repeat' walk_at "st"
    refine Act2.item .lst il (by simp; lia) ?_ (fun _ _ => rfl)
    refine Act2.mul (.of_left (by decide)) ?_
    repeat' walk_at "st"
    refine bisR_call2 (g := g.push env) hK .lst (by lia) ?_
    rw [told]
    repeat' walk_at "st"
    exact ⟨rfl, rfl, by walk_at "rho", by walk_at "rho", by walk_at "rho", upd_same⟩
  rintro ρ M ⟨rfl, h1, h2, h4, h5⟩
  refine Ex.seq (fun ρ' M' => M' = M ∧ ρ' "row" = some (.lst (row.map .int)) ∧ ρ' "many" = some (.int row.length) ∧ ρ' "told" = some (.int Sm.length) ∧ ρ' "apart" = some (.int Gp.length)) ?_ ?_
  · repeat' walk_at "st"
    refine bisL_call2 (g := g.push env) hK .lst (by lia) ?_
    repeat' walk_at "st"
    refine bisR_call2 (g := g.push env) hK .lst (by lia) ?_
    repeat' walk_at "st"
    exact ⟨rfl, rfl, by walk_at "rho", by walk_at "rho", by walk_at "rho", upd_same.trans (congrArg (fun z => some (D.int z)) (by lia))⟩
  rintro ρ M' ⟨rfl, h1, h2, h5, h6⟩
  obtain ⟨p1, p2, p3⟩ := Fr.plain2 s sS.nodup sG.nodup mS mG
  have p5 : 1 < row.length → ∀ d : Nat, d = (row.map fun x => (x - row.getD 0 0).toNat).foldl Nat.gcd 0 → 0 < d ∧ Sm.length * row.length ≤ Gp.length * Gp.length ∧ min ((row.getD (row.length - 1) 0 - row.getD 0 0) / d).toNat (2 * row.length - 3) + row.length ≤ Sm.length ∧ min ((row.getD (row.length - 1) 0 - row.getD 0 0) / d).toNat (2 * row.length - 3) + row.length ≤ Gp.length ∧ 0 ≤ (row.getD (row.length - 1) 0 - row.getD 0 0) / d := fun h d hd => by
    obtain ⟨d1, d2, d3⟩ := divisor s h d hd
    obtain ⟨T, e⟩ := ends_of h
    have hT : T.length ≤ 6 := by have := congrArg List.length e; simp at this; lia
    exact ⟨d1, p3 _ _ T d e hT (by lia) d2 d3⟩
  have p4 : Sm.length * row.length ≤ Gp.length * Gp.length := by
    by_cases h : 1 < row.length
    · exact (p5 h _ rfl).2.1
    · exact p2 (by lia)
  refine Ex.seq (fun ρ' M => M = M' ∧ ρ' "many" = some (.int row.length) ∧ ρ' "told" = some (.int Sm.length) ∧ ρ' "apart" = some (.int Gp.length)) ?_ ?_
  · repeat' walk_at "st"
    refine dec_of (fun hm => ?_) fun hm => ?_
    · have hm' : 1 < row.length := by lia
      obtain ⟨d, hd⟩ : ∃ d, d = (row.map fun x => (x - row.getD 0 0).toNat).foldl Nat.gcd 0 := ⟨_, rfl⟩
      obtain ⟨q1, _, q3, q4, q5⟩ := p5 hm' d hd
      generalize hlen : (row.getD (row.length - 1) 0 - row.getD 0 0) / (d : Int) = len at q3 q4 q5
      refine Ex.seq (fun ρ' M => M = M' ∧ ρ' "many" = some (.int row.length) ∧ ρ' "told" = some (.int Sm.length) ∧ ρ' "apart" = some (.int Gp.length) ∧ ρ' "length" = some (.int len)) ?_ ?_
      · repeat' walk_at "st"
        refine Act2.item .lst il (by simp; lia) ?_ (fun _ _ => rfl)
        repeat' walk_at "st"
        refine Act2.item .lst i0 (by simp; lia) ?_ (fun _ _ => rfl)
        repeat' walk_at "st"
        walk_at "comp"
        refine EvI.list ?_
        repeat' walk_at "st"
        refine ⟨_, rfl, ?_⟩
        intro cenv C hce
        refine CompL.mapA D.int (fun x => D.int (x - row.getD 0 0)) (by walk_at "bind") row _ (by simp; lia) (fun x hx Q hQ => ?_) (fun r => ?_)
        · repeat' walk_at "st"
          refine Act2.item .lst i0 (by simp; lia) ?_ (fun _ _ => rfl)
          repeat' walk_at "st"
          exact hQ
        have el : row.map (fun x => D.int (x - row.getD 0 0)) = (row.map fun x => (x - row.getD 0 0).toNat).map fun (k : Nat) => D.int k := by
          rw [List.map_map]
          refine List.map_congr_left fun x hx => ?_
          obtain ⟨i, hi, rfl⟩ := mem_getD hx
          have := srt_le' s (Nat.zero_le i) hi
          exact congrArg D.int (show _ = (((row.getD i 0 - row.getD 0 0).toNat : Nat) : Int) by lia)
        rw [List.nil_append, el]
        repeat' walk_at "st"
        refine divisor_body (g := g.push env) hK (ns := row.map fun x => (x - row.getD 0 0).toNat) rfl (fun x hx => ?_) ?_
        · obtain ⟨y, hy, rfl⟩ := List.mem_map.mp hx
          have h1 := hb y hy
          have h2 := hb _ (getD_mem h0)
          lia
        rw [← hd]
        have l1 := hb _ (getD_mem (show row.length - 1 < row.length by lia))
        have l2 := hb _ (getD_mem h0)
        have l3 := srt_lt s (show 0 < row.length - 1 by lia) (by lia)
        have l4 := Int.le_of_dvd (by lia) ((divisor s hm' d hd).2.1 _ (getD_mem (show row.length - 1 < row.length by lia)))
        refine Act2.floordiv (by lia) (by lia) ?_
        rw [Int.fdiv_eq_ediv_of_nonneg _ (by lia), hlen]
        repeat' walk_at "st"
        exact ⟨rfl, rfl, by walk_at "rho", by walk_at "rho", by walk_at "rho", upd_same⟩
      rintro ρ M ⟨rfl, h2, h5, h6, h7⟩
      refine Ex.skipIf (Et.cmp ?_ ?h) (Ex.nil ⟨rfl, rfl, h2, h5, h6⟩)
      case h => with_unfolding_all rfl
      repeat' walk_at "st"
      refine Act2.mul (.of_left (by decide)) ?_
      repeat' walk_at "st"
      refine Calls.min2 ?_
      repeat' walk_at "st"
      refine Calls.min2 ?_
      repeat' walk_at "st"
      exact ⟨decide_eq_false (by lia), rfl⟩
    · repeat' walk_at "st"
      exact ⟨rfl, rfl, h2, h5, h6⟩
  rintro ρ M ⟨rfl, h2, h5, h6⟩
  have z1 : (Sm.length : Int) ^ (2 : Int).toNat = ((Sm.length * Sm.length : Nat) : Int) := by show (Sm.length : Int) ^ 2 = _; rw [Int.pow_succ, Int.pow_succ, Int.pow_zero, Int.one_mul]; push_cast; rfl
  have z2 : (Gp.length : Int) ^ (2 : Int).toNat = ((Gp.length * Gp.length : Nat) : Int) := by show (Gp.length : Int) ^ 2 = _; rw [Int.pow_succ, Int.pow_succ, Int.pow_zero, Int.one_mul]; push_cast; rfl
  have bits : ∀ k : Nat, k < 64 → ¬ Builtin.Int.intTooBig (((Builtin.Int.intBits (k : Int) : Nat) : Int) * 2) = true := fun k hk => by
    have : ∀ k, k < 64 → ¬ Builtin.Int.intTooBig (((Builtin.Int.intBits ((k : Nat) : Int) : Nat) : Int) * 2) = true := by decide
    exact this k hk
  refine Ex.cons (Ex1.ret (Ev.and ?_))
  refine Ev.cmp ?_ (by with_unfolding_all rfl)
  repeat' walk_at "st"
  refine Act2.pow (by decide) (by lia) (bits _ lS) ?_
  rw [z1]
  repeat' walk_at "st"
  refine Act2.mul (.of_left (intBits_le_64 (by lia) (by lia))) ?_
  refine Act2.ge ?_
  rw [decide_eq_true (show (Gp.length : Int) * (row.length : Int) ≤ ((Sm.length * Sm.length : Nat) : Int) by rw [← Int.natCast_mul]; exact Int.ofNat_le.mpr p1)]
  refine ⟨true, rfl, fun _ => ?_, fun h => nomatch h⟩
  refine Ev.and1 ?_
  refine Ev.cmp ?_ (by with_unfolding_all rfl)
  repeat' walk_at "st"
  refine Act2.pow (by decide) (by lia) (bits _ lG) ?_
  rw [z2]
  repeat' walk_at "st"
  refine Act2.mul (.of_left (intBits_le_64 (by lia) (by lia))) ?_
  refine Act2.ge ?_
  rw [decide_eq_true (show (Sm.length : Int) * (row.length : Int) ≤ ((Gp.length * Gp.length : Nat) : Int) by rw [← Int.natCast_mul]; exact Int.ofNat_le.mpr p4)]
  exact ret_of rfl
end

open PySem PySem.W PySem.Calls PyProof.Rows
set_option maxRecDepth 20000
section
variable {g : G} (hK : g.K = hd.heap_39 g.w.params) (hT : g.tabs = tabs2)
include hK hT
theorem law_whole {script : List Int} {n : Nat} {μ : Mu} (hs : script.length ≤ 63) :
    Calls g (n + 60) (.val (.ref 83)) [.lst (script.map .int)] [] μ (fun d _ => d = .bool true) := by
  refine' Calls.enter (fa := 83) (hK := ?a) (hfo := ?b) (hbody := ?c) (hclo := ?d) (hglob := ?e) (hblt := ?f) (hcode := ?gg) (hco := ?h) (hgen := ?i) (hk := ?j)
    (bd := [("script", .lst (script.map .int))]) ?bb (nm := ["script"]) (hnm := rfl) (hnames := ?k) (by decide) (hcn := ?l) ?_
  case a => rw [hK]; rfl
  case b => rfl
  case c => rfl
  case d => rfl
  case e => rfl
  case f => rfl
  case gg => rw [hK]; rfl
  case h => rfl
  case i => rfl
  case j => rfl
  case k => rfl
  case l => decide
  case bb => exact (BB.ok (fa := 83) hK (by constructor)) _ _ (by rw [hK]; rfl) rfl
  intro env own L he ho
  refine Ex.mono (law_p1 hK hT he ho hs ?_) fun f r μ' h => by subst h; rfl
  intro ρ cs ns hn hb hc hc9 h1 h2
  refine law_p2 hK hT he ho hn h1 h2 ?_
  refine law_p3 hK hT he ho hn hc hc9 h1 h2 ?_
  intro ρ row s m hl h1 h2 h3
  have h0 : 0 < row.length := by
    obtain ⟨x, hx⟩ := List.exists_mem_of_length_pos (show 0 < ns.length by lia)
    exact List.length_pos_of_mem ((m x).mpr hx)
  refine law_p4 hK hT he ho s hl h1 h2 h3 ?_
  intro ρ h1 h2 h3 h4
  refine law_p5 hK hT he ho s hl hc h1 h2 h3 h4 ?_
  intro ρ lo hi hlh hhl h2 h3 h4 h5 h6 h7
  refine law_p6 hK hT he ho s hl h0 hlh hhl h2 h3 h4 h5 h6 h7 ?_
  intro ρ h2 h3 h4
  refine law_p7 hK hT he ho s hl hn m h2 h3 h4 ?_
  intro ρ Sm Gp sS sG mS mG lS lG h3 h4 h5 h6
  exact law_p8 hK hT he ho s hl h0 (fun x hx => hb x ((m x).mp hx)) sS sG mS mG lS lG h3 h4 h5 h6
end

open PySem PySem.W PySem.Calls PyProof.Rows
set_option maxRecDepth 20000
theorem wellAll_ints {P : Params} {h : Heap} {F : FM} : ∀ {vs : List Value} {ns : List Int}, WellAll P h vs (ofPys (ns.map PyData.int)) → SeesAll F vs (ns.map D.int)
  | [], [], _ => .nil
  | [], _ :: _, w => by cases w
  | _ :: _, [], w => by cases w
  | v :: vs, n :: ns, w => by
    cases w with
    | cons a b => cases a; exact .cons (.int _ _) (wellAll_ints b)

/-- the heap without the code tables -/
abbrev baseOf (h : Heap) (as : List Addr) : Heap := hideAll h as
theorem baseOf_get {h : Heap} {as : List Addr} (hT : ∀ P ∈ as, h.get? P = some (tabObj #[])) {b : Addr} {o : Obj} (e : h.get? b = some o) (hn : ∀ vs, o.data ≠ .fields vs) : (baseOf h as).get? b = some o :=
  hideAll_get _ e fun q => by have := hT b q; rw [e] at this; cases this; exact hn _ rfl
theorem baseOf_ns {h : Heap} {as : List Addr} (hT : ∀ P ∈ as, h.get? P = some (tabObj #[])) {b : Addr} {m} (e : h.Ns b m) : (baseOf h as).Ns b m := by
  obtain ⟨o, es, ep, e, d, r⟩ := e
  exact ⟨o, es, ep, baseOf_get hT e (fun vs q => by rw [d] at q; cases q), d, r⟩
theorem baseOf_top {p : Program} {loose : List Str} {mean : ExcName → Option Value} {mg mb : Str → Option Value} {h : Heap} {as : List Addr} (T : Top p loose mean mg mb h) (hT : ∀ P ∈ as, h.get? P = some (tabObj #[])) : TopRead p loose mg mb (baseOf h as) := by
  refine ⟨baseOf_ns hT T.g, baseOf_ns hT T.b, ?_, T.builtins, T.free⟩
  obtain ⟨mc, h1, h2⟩ := T.nolimit
  exact ⟨mc, baseOf_ns hT h1, h2⟩

abbrev tabList : List Addr := [52]
noncomputable def G1 {p : Program} {loose : List Str} {mean : ExcName → Option Value} {mg mb : Str → Option Value} (prog : Program) (w : World) (h : Heap) (T : Top p loose mean mg mb h) (KX : (hd.heap_39 w.params).In h) (hT : ∀ P ∈ tabList, h.get? P = some (tabObj #[])) : G :=
  have X : (hd.heap_39 w.params).In (baseOf h tabList) := fun a o e => hideAll_get _ (KX a o e) fun q => by
    obtain rfl := List.mem_singleton.mp q
    exact nomatch (show (Option.none : Option Obj) = some o from e)
  { prog := prog, w := w, base := baseOf h tabList, K := hd.heap_39 w.params, p := p, loose := loose, mg := mg, mb := mb, tabs := tabs2, X := X, T := baseOf_top T hT,
    hd := fun q hq => by
      obtain rfl := List.mem_singleton.mp hq
      exact codeHd_of_K X (by rfl)
    bm := by
      obtain ⟨bm, ob, b1, b2, b3, b4, b5, b6⟩ := T.bmain
      exact ⟨bm, ob, b1, b2, baseOf_get hT b3 (fun vs q => by rw [b6] at q; cases q), b4, b5, b6⟩
    fcs := [], stk := [] }

theorem join1 {p : Program} {loose : List Str} {mean : ExcName → Option Value} {mg mb : Str → Option Value} {prog : Program} {w : World} {s : Shared} {fa l : Addr} {ns : List Int} (T : Top p loose mean mg mb s.heap) (KX : (hd.heap_39 w.params).In s.heap)
    (hT : ∀ P ∈ tabList, s.heap.get? P = some (tabObj #[])) (hm : mg "law" = some (.ref fa)) (w1 : Well w.params s.heap (.ref l) (ofPy (PyData.list (ns.map .int)))) (hl : ns.length ≤ 63) :
    wpAny (model prog w) callerA (call (.ref fa) [.ref l]) (fun v s' => v = .bool true ∧ OldK s.heap s'.heap ∧ s'.os = s.os ∧ s'.gens = s.gens) (fun _ _ => False) s := by
  have e83 : mg "law" = some (.ref 83) := mg_of KX T.g (by rfl)
  rw [hm] at e83
  cases e83
  let g := G1 prog w s.heap T KX hT
  let F : FM := fun a => (baseOf s.heap tabList).get? a
  have hno : ∀ P ∈ tabList, F P = none := fun P hP => hideAll_none _ hP
  have kp : ∀ b o, s.heap.get? b = some o → b ∉ tabList → F b = some o := fun b o e hb => hideAll_get _ e hb
  have gs : GSt g [] F s.heap := by
    refine ⟨fun a o e => e, fun a o e => of_hideAll _ e, fun q hq => ?_, fun q hq => (nomatch hq), by simp [Mu.dom], (fun c hc => by cases hc), fun a ha => (nomatch ha), (fun e he => by cases he)⟩
    obtain rfl := List.mem_singleton.mp (show q ∈ tabs2 from hq)
    exact ⟨hno 52 (by simp), #[], hT 52 (by simp), trivial, fun pos cv z => nomatch z⟩
  have ok : Ok g 60 callerA := ⟨by decide, by decide, rfl, rfl⟩
  have sl : Sees F (.ref l) (.lst (ns.map D.int)) := by
    have w1 : Well w.params s.heap (.ref l) (.list (ofPys (ns.map PyData.int))) := w1
    cases w1 with
    | list e wa =>
      refine .lst (kp _ _ e fun q => ?_) (by simpa using wellAll_ints wa)
      have := hT _ q
      rw [e] at this; cases this
  refine wpAny_mono (law_whole (g := g) (n := 0) rfl rfl hl callerA F s (.ref 83) [.ref l] [] ok gs (.val _) (.cons sl .nil) .nil rfl) (fun v s' ⟨d, μ', F', t, G', sv, hd⟩ => ?_) fun _ _ x => x
  subst hd
  cases sv
  refine ⟨rfl, ⟨fun b o e => ?_, fun b o e => t.live b o e⟩, t.os, t.gens⟩
  by_cases hb : b ∈ tabList
  · have e0 := hT b hb
    rw [e] at e0; cases e0
    obtain rfl := List.mem_singleton.mp hb
    obtain ⟨_, qs, e', _⟩ := G'.tb (56, 52, _) (show _ ∈ tabs2 from .head _)
    obtain ⟨o, vs, _, _, _, _, _, _, _, q1, q2, q3, q4, _⟩ := codeHd_of_K (c := 56) (P := 52) g.X (by rfl)
    exact .inr (.inl ⟨⟨56, o, vs, of_hideAll _ q1, q2, q3, q4⟩, rfl, #[], qs, rfl, by rw [show s'.heap.get? 52 = some (tabObj qs) from e']; simp [tabObj]⟩)
  · exact .inl (G'.fz _ _ (t.le _ _ (kp b o e hb)))

end Mine
open PySem PySem.W PyProof.Rows
set_option maxRecDepth 20000
set_option tactic.hygienic true in
set_option maxHeartbeats 4000000 in
theorem PySem.Challenge.cw_ta0001_02_holds : PySem.Challenge.rw_ta0001_02.Holds := by
  refine Mine.hd ?_
  intro w s₀ s₁ mg mb G Y fa o pm cd doc dV kV ho hd hcd hD hmg hg args vals as hpre hlay hrd hwl hlo
  have KX := km_in_of Y
  have KT := km_tabs_of Y
  have T := G.T
  clear ho hd hcd hD
  wrow_args hpre hlay hrd hwl hlo
  rename_i ns hs hlay0 hL1 hr1 hl2 as4 as3 l vs as0 hL ra w1 r0 hI hr hcond hc2
  have hl : ns.length ≤ 63 := by omega
  refine wpAny_mono (Mine.join1 (fa := fa) (l := l) (ns := ns) T KX KT hmg w1 hl) (fun v s' ⟨e, o, os, gs⟩ => ?_) fun _ _ x => x.elim
  subst e
  exact ⟨.inl ⟨.bool true, .bool true, [], rfl, fun _ => rfl, .bool _, by wrow_post, fun _ => ⟨List.nodup_nil, fun a h => nomatch h⟩⟩, o, os, .of_eq (gs.trans hg)⟩

