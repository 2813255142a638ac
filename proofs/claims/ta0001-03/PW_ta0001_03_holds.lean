import PyProof.Rows.All
import Wide.All
import OpenK.AllK
import Wide.FinOn
import KE.KNestM
import Lean
import PySem.Challenge.RW_ta0001_03
set_option maxHeartbeats 4000000
set_option Elab.async false
set_option linter.all false
set_option tactic.hygienic false
namespace Mine
open PySem PySem.W PyProof.Rows
namespace hd
noncomputable abbrev pg : Program := PySem.Challenge.pw_ta0001_03
/-- a function of the program, as it stands when the text has been run -/
noncomputable def fnObj (i : Nat) (dv kv m c : Value) : Obj := match pg.main.body.drop i with
  | .FunctionDef name args body _ _ _ scope _ _ _ :: _ => { cls := .type "function", data := .func { name := name, qualname := name, params := args, body := .stmts body, scope := scope, globals := 3, closure := [], defaults := dv, kwdefaults := kv, pyModule := m, code := c } }
  | _ => default
noncomputable def heap_39 (P : Params) : Frag := [(3, Obj.mk (Value.type "dict") Option.none (Data.dict #[DictEntry.mk (PyData.keyHash P (Str.ofString "__name__")) (Value.str (Str.ofString "__name__") 165) (Value.str (Str.ofString "law_ta0001_03") 243), DictEntry.mk (PyData.keyHash P (Str.ofString "__doc__")) (Value.str (Str.ofString "__doc__") 166) Value.none, DictEntry.mk (PyData.keyHash P (Str.ofString "__package__")) (Value.str (Str.ofString "__package__") 167) Value.none, DictEntry.mk (PyData.keyHash P (Str.ofString "__loader__")) (Value.str (Str.ofString "__loader__") 168) (Value.builtin "__main__.__loader__#opaque"), DictEntry.mk (PyData.keyHash P (Str.ofString "__spec__")) (Value.str (Str.ofString "__spec__") 169) Value.none, DictEntry.mk (PyData.keyHash P (Str.ofString "__annotations__")) (Value.str (Str.ofString "__annotations__") 170) (Value.ref 6), DictEntry.mk (PyData.keyHash P (Str.ofString "__builtins__")) (Value.str (Str.ofString "__builtins__") 171) (Value.ref 4), DictEntry.mk (PyData.keyHash P (Str.ofString "__file__")) (Value.str (Str.ofString "__file__") 173) (Value.str (Str.ofString "/claim/cut.py") 172), DictEntry.mk (PyData.keyHash P (Str.ofString "__cached__")) (Value.str (Str.ofString "__cached__") 174) Value.none, DictEntry.mk (PyData.keyHash P (Str.ofString "insort_right")) (Value.str (Str.ofString "insort_right") 201) (Value.ref 23), DictEntry.mk (PyData.keyHash P (Str.ofString "bisect_right")) (Value.str (Str.ofString "bisect_right") 215) (Value.ref 32), DictEntry.mk (PyData.keyHash P (Str.ofString "insort_left")) (Value.str (Str.ofString "insort_left") 228) (Value.ref 41), DictEntry.mk (PyData.keyHash P (Str.ofString "bisect_left")) (Value.str (Str.ofString "bisect_left") 242) (Value.ref 50), DictEntry.mk (PyData.keyHash P (Str.ofString "_law_levels")) (Value.str (Str.ofString "_law_levels") 250) (Value.ref 55), DictEntry.mk (PyData.keyHash P (Str.ofString "_law_price")) (Value.str (Str.ofString "_law_price") 267) (Value.ref 62), DictEntry.mk (PyData.keyHash P (Str.ofString "_law_least")) (Value.str (Str.ofString "_law_least") 273) (Value.ref 67), DictEntry.mk (PyData.keyHash P (Str.ofString "_law_fold")) (Value.str (Str.ofString "_law_fold") 282) (Value.ref 74), DictEntry.mk (PyData.keyHash P (Str.ofString "_law_gather")) (Value.str (Str.ofString "_law_gather") 293) (Value.ref 81), DictEntry.mk (PyData.keyHash P (Str.ofString "_law_laid")) (Value.str (Str.ofString "_law_laid") 303) (Value.ref 88), DictEntry.mk (PyData.keyHash P (Str.ofString "_law_refused")) (Value.str (Str.ofString "_law_refused") 311) (Value.ref 95), DictEntry.mk (PyData.keyHash P (Str.ofString "law")) (Value.str (Str.ofString "law") 317) (Value.ref 100)] 21) #[]),
  (15, Obj.mk (Value.type "tuple") Option.none (Data.seq #[Value.int 0 189, Value.none]) #[]),
  (16, Obj.mk (Value.type "dict") Option.none (Data.dict #[DictEntry.mk (PyData.keyHash P (Str.ofString "key")) (Value.str (Str.ofString "key") 190) Value.none] 1) #[]),
  (22, Obj.mk (Value.type "code") Option.none (Data.fields #[Value.str (Str.ofString "insort_right") 191, Value.str (Str.ofString "insort_right") 192, Value.str (Str.ofString "/claim/cut.py") 193, Value.int 2 0, Value.int 4 0, Value.int 0 0, Value.int 1 0, Value.int 3 0, Value.ref 17, Value.bool Bool.true, Value.int 181 0, Value.ref 18, Value.none, Value.ref 19, Value.ref 20, Value.ref 21, Value.int 199 0, Value.int 2 0, Value.str (Str.ofString "/claim/cut.py") 200]) #[]),
  (23, fnObj 1 (Value.ref 15) (Value.ref 16) (Value.str (Str.ofString "cpy313.bisect") 187) (Value.ref 22)),
  (24, Obj.mk (Value.type "tuple") Option.none (Data.seq #[Value.int 0 202, Value.none]) #[]),
  (25, Obj.mk (Value.type "dict") Option.none (Data.dict #[DictEntry.mk (PyData.keyHash P (Str.ofString "key")) (Value.str (Str.ofString "key") 203) Value.none] 1) #[]),
  (31, Obj.mk (Value.type "code") Option.none (Data.fields #[Value.str (Str.ofString "bisect_right") 204, Value.str (Str.ofString "bisect_right") 205, Value.str (Str.ofString "/claim/cut.py") 206, Value.int 8 0, Value.int 4 0, Value.int 0 0, Value.int 1 0, Value.int 3 0, Value.ref 26, Value.bool Bool.true, Value.int 181 0, Value.ref 27, Value.none, Value.ref 28, Value.ref 29, Value.ref 30, Value.int 213 0, Value.int 8 0, Value.str (Str.ofString "/claim/cut.py") 214]) #[]),
  (32, fnObj 2 (Value.ref 24) (Value.ref 25) (Value.str (Str.ofString "cpy313.bisect") 187) (Value.ref 31)),
  (33, Obj.mk (Value.type "tuple") Option.none (Data.seq #[Value.int 0 216, Value.none]) #[]),
  (34, Obj.mk (Value.type "dict") Option.none (Data.dict #[DictEntry.mk (PyData.keyHash P (Str.ofString "key")) (Value.str (Str.ofString "key") 217) Value.none] 1) #[]),
  (40, Obj.mk (Value.type "code") Option.none (Data.fields #[Value.str (Str.ofString "insort_left") 218, Value.str (Str.ofString "insort_left") 219, Value.str (Str.ofString "/claim/cut.py") 220, Value.int 28 0, Value.int 4 0, Value.int 0 0, Value.int 1 0, Value.int 3 0, Value.ref 35, Value.bool Bool.true, Value.int 181 0, Value.ref 36, Value.none, Value.ref 37, Value.ref 38, Value.ref 39, Value.int 226 0, Value.int 28 0, Value.str (Str.ofString "/claim/cut.py") 227]) #[]),
  (41, fnObj 3 (Value.ref 33) (Value.ref 34) (Value.str (Str.ofString "cpy313.bisect") 187) (Value.ref 40)),
  (42, Obj.mk (Value.type "tuple") Option.none (Data.seq #[Value.int 0 229, Value.none]) #[]),
  (43, Obj.mk (Value.type "dict") Option.none (Data.dict #[DictEntry.mk (PyData.keyHash P (Str.ofString "key")) (Value.str (Str.ofString "key") 230) Value.none] 1) #[]),
  (49, Obj.mk (Value.type "code") Option.none (Data.fields #[Value.str (Str.ofString "bisect_left") 231, Value.str (Str.ofString "bisect_left") 232, Value.str (Str.ofString "/claim/cut.py") 233, Value.int 34 0, Value.int 4 0, Value.int 0 0, Value.int 1 0, Value.int 3 0, Value.ref 44, Value.bool Bool.true, Value.int 181 0, Value.ref 45, Value.none, Value.ref 46, Value.ref 47, Value.ref 48, Value.int 240 0, Value.int 34 0, Value.str (Str.ofString "/claim/cut.py") 241]) #[]),
  (50, fnObj 4 (Value.ref 42) (Value.ref 43) (Value.str (Str.ofString "cpy313.bisect") 187) (Value.ref 49)),
  (54, Obj.mk (Value.type "code") Option.none (Data.fields #[Value.str (Str.ofString "_law_levels") 245, Value.str (Str.ofString "_law_levels") 246, Value.str (Str.ofString "/claim/cut.py") 247, Value.int 55 0, Value.int 3 0, Value.int 0 0, Value.int 0 0, Value.int 3 0, Value.ref 51, Value.bool Bool.true, Value.int 181 0, Value.ref 52, Value.none, Value.none, Value.none, Value.ref 53, Value.int 248 0, Value.int 55 0, Value.str (Str.ofString "/claim/cut.py") 249]) #[]),
  (55, fnObj 6 Value.none Value.none (Value.str (Str.ofString "law_ta0001_03") 243) (Value.ref 54)),
  (61, Obj.mk (Value.type "code") Option.none (Data.fields #[Value.str (Str.ofString "_law_price") 251, Value.str (Str.ofString "_law_price") 252, Value.str (Str.ofString "/claim/cut.py") 253, Value.int 69 0, Value.int 6 0, Value.int 0 0, Value.int 0 0, Value.int 3 0, Value.ref 56, Value.bool Bool.true, Value.int 181 0, Value.ref 57, Value.none, Value.ref 58, Value.ref 59, Value.ref 60, Value.int 265 0, Value.int 69 0, Value.str (Str.ofString "/claim/cut.py") 266]) #[]),
  (62, fnObj 7 Value.none Value.none (Value.str (Str.ofString "law_ta0001_03") 243) (Value.ref 61)),
  (66, Obj.mk (Value.type "code") Option.none (Data.fields #[Value.str (Str.ofString "_law_least") 268, Value.str (Str.ofString "_law_least") 269, Value.str (Str.ofString "/claim/cut.py") 270, Value.int 80 0, Value.int 1 0, Value.int 0 0, Value.int 0 0, Value.int 3 0, Value.ref 63, Value.bool Bool.true, Value.int 181 0, Value.ref 64, Value.none, Value.none, Value.none, Value.ref 65, Value.int 271 0, Value.int 80 0, Value.str (Str.ofString "/claim/cut.py") 272]) #[]),
  (67, fnObj 8 Value.none Value.none (Value.str (Str.ofString "law_ta0001_03") 243) (Value.ref 66)),
  (73, Obj.mk (Value.type "code") Option.none (Data.fields #[Value.str (Str.ofString "_law_fold") 274, Value.str (Str.ofString "_law_fold") 275, Value.str (Str.ofString "/claim/cut.py") 276, Value.int 87 0, Value.int 1 0, Value.int 0 0, Value.int 0 0, Value.int 3 0, Value.ref 68, Value.bool Bool.true, Value.int 181 0, Value.ref 69, Value.none, Value.ref 70, Value.ref 71, Value.ref 72, Value.int 280 0, Value.int 87 0, Value.str (Str.ofString "/claim/cut.py") 281]) #[]),
  (74, fnObj 9 Value.none Value.none (Value.str (Str.ofString "law_ta0001_03") 243) (Value.ref 73)),
  (80, Obj.mk (Value.type "code") Option.none (Data.fields #[Value.str (Str.ofString "_law_gather") 283, Value.str (Str.ofString "_law_gather") 284, Value.str (Str.ofString "/claim/cut.py") 285, Value.int 94 0, Value.int 2 0, Value.int 0 0, Value.int 0 0, Value.int 3 0, Value.ref 75, Value.bool Bool.true, Value.int 181 0, Value.ref 76, Value.none, Value.ref 77, Value.ref 78, Value.ref 79, Value.int 291 0, Value.int 94 0, Value.str (Str.ofString "/claim/cut.py") 292]) #[]),
  (81, fnObj 10 Value.none Value.none (Value.str (Str.ofString "law_ta0001_03") 243) (Value.ref 80)),
  (87, Obj.mk (Value.type "code") Option.none (Data.fields #[Value.str (Str.ofString "_law_laid") 294, Value.str (Str.ofString "_law_laid") 295, Value.str (Str.ofString "/claim/cut.py") 296, Value.int 101 0, Value.int 1 0, Value.int 0 0, Value.int 0 0, Value.int 3 0, Value.ref 82, Value.bool Bool.true, Value.int 181 0, Value.ref 83, Value.none, Value.ref 84, Value.ref 85, Value.ref 86, Value.int 301 0, Value.int 101 0, Value.str (Str.ofString "/claim/cut.py") 302]) #[]),
  (88, fnObj 11 Value.none Value.none (Value.str (Str.ofString "law_ta0001_03") 243) (Value.ref 87)),
  (94, Obj.mk (Value.type "code") Option.none (Data.fields #[Value.str (Str.ofString "_law_refused") 304, Value.str (Str.ofString "_law_refused") 305, Value.str (Str.ofString "/claim/cut.py") 306, Value.int 109 0, Value.int 1 0, Value.int 0 0, Value.int 0 0, Value.int 3 0, Value.ref 89, Value.bool Bool.true, Value.int 181 0, Value.ref 90, Value.none, Value.ref 91, Value.ref 92, Value.ref 93, Value.int 309 0, Value.int 109 0, Value.str (Str.ofString "/claim/cut.py") 310]) #[]),
  (95, fnObj 12 Value.none Value.none (Value.str (Str.ofString "law_ta0001_03") 243) (Value.ref 94)),
  (99, Obj.mk (Value.type "code") Option.none (Data.fields #[Value.str (Str.ofString "law") 312, Value.str (Str.ofString "law") 313, Value.str (Str.ofString "/claim/cut.py") 314, Value.int 114 0, Value.int 1 0, Value.int 0 0, Value.int 0 0, Value.int 3 0, Value.ref 96, Value.bool Bool.true, Value.int 181 0, Value.ref 97, Value.none, Value.none, Value.none, Value.ref 98, Value.int 315 0, Value.int 114 0, Value.str (Str.ofString "/claim/cut.py") 316]) #[]),
  (100, fnObj 13 Value.none Value.none (Value.str (Str.ofString "law_ta0001_03") 243) (Value.ref 99))]
noncomputable def addrs : List Addr := [3, 15, 16, 22, 23, 24, 25, 31, 32, 33, 34, 40, 41, 42, 43, 49, 50, 54, 55, 61, 62, 66, 67, 73, 74, 80, 81, 87, 88, 94, 95, 99, 100]
noncomputable abbrev loose : List Str := ["insort_right", "bisect_right", "insort_left", "bisect_left"]
noncomputable abbrev q : Program := view pg [6,7,8,9,10,11,12,13]
noncomputable abbrev hook : Hook := kmHook heap_39 addrs (fun _ => rfl) [83,52,97]
end hd
noncomputable abbrev rw : OpenLaw := PySem.Challenge.rw_ta0001_03
set_option maxRecDepth 100000 in
theorem hd.said : rw.wellSaid = true := by kernel_rfl
set_option maxRecDepth 100000 in
theorem hd.left : LeftO hd.pg hd.q hd.loose (fun s => xlAt hd.q [] s && recOk (RowW.records rw.row.toRowW) s) hd.hook.obs hd.hook.val 972 := fun w => by kernel_rfl
noncomputable def hd.law : DefRec := ((defOf hd.q rw.row.name).get (by kernel_rfl)).1
set_option maxRecDepth 100000 in
theorem hd (walk : WalkO hd.q hd.loose (XL hd.q []) hd.hook.says rw.row.toRowW hd.law [] fun f vs => PySem.call f vs) : rw.Holds :=
  holds_law hd.said fun k1 => holds_open hd.left hd.hook.of hd.hook.keeps (fun s e => xl_of s (Bool.and_eq_true_iff.mp e).1) XL.keeps (by kernel_rfl) (by kernel_rfl) (by kernel_rfl) (fun s e => recFacts_of (Bool.and_eq_true_iff.mp e).2) (by kernel_rfl)
    k1 (by decide +kernel) ⟨rfl, rfl, rfl, rfl, rfl, by decide +kernel⟩ ⟨[WData.list []], by decide +kernel, by decide +kernel⟩ walk

open PySem PySem.W PySem.Calls PyProof.Rows
set_option maxRecDepth 20000
/-! sets of ints: the table's places rise -/
noncomputable def Ris (xs : Array Nat) : Prop := ∀ i j, i < j → j < xs.size → xs.getD i 0 < xs.getD j 0
theorem below_go {xs : Array Nat} (hr : Ris xs) {j : Nat} : ∀ (fuel lo hi : Nat), hi - lo ≤ fuel → lo ≤ hi → hi ≤ xs.size → (∀ i, i < lo → xs.getD i 0 < j) → (∀ i, hi ≤ i → i < xs.size → j ≤ xs.getD i 0) →
    SetTable.below.go xs j fuel lo hi ≤ xs.size ∧ (∀ i, i < SetTable.below.go xs j fuel lo hi → xs.getD i 0 < j) ∧ (∀ i, SetTable.below.go xs j fuel lo hi ≤ i → i < xs.size → j ≤ xs.getD i 0) := by
  intro fuel
  induction fuel with
  | zero => intro lo hi h1 h2 h3 a b; exact ⟨Nat.le_trans h2 h3, a, fun i (hi' : lo ≤ i) => b i (by lia)⟩
  | succ fuel ih =>
    intro lo hi h1 h2 h3 a b
    unfold SetTable.below.go
    by_cases hlt : lo < hi
    · rw [if_pos hlt]
      dsimp only
      rw [show xs.getD ((lo + hi) / 2) j = xs.getD ((lo + hi) / 2) 0 by simp only [Array.getD_eq_getD_getElem?, Array.getElem?_eq_getElem (show (lo + hi) / 2 < xs.size by lia), Option.getD_some]]
      by_cases hm : xs.getD ((lo + hi) / 2) 0 < j
      · rw [if_pos hm]
        refine ih _ _ (by (clear hm b a h3 h2 ih hr; omega)) (by lia) h3 (fun i hi' => ?_) b
        by_cases he : i = (lo + hi) / 2
        · rw [he]; exact hm
        · exact Nat.lt_trans (hr i _ (by lia) (by lia)) hm
      · rw [if_neg hm]
        refine ih _ _ (by (clear hm b a h3 h2 ih hr; omega)) (by lia) (by lia) a fun i hi' hs => ?_
        by_cases he : i = (lo + hi) / 2
        · rw [he]; exact Nat.not_lt.mp hm
        · exact Nat.le_trans (Nat.not_lt.mp hm) (Nat.le_of_lt (hr _ i (by lia) hs))
    · rw [if_neg hlt]; exact ⟨Nat.le_trans h2 h3, a, fun i hi' => b i (by lia)⟩
theorem below_spec {xs : Array Nat} (hr : Ris xs) (j : Nat) :
    SetTable.below xs j ≤ xs.size ∧ (∀ i, i < SetTable.below xs j → xs.getD i 0 < j) ∧ (∀ i, SetTable.below xs j ≤ i → i < xs.size → j ≤ xs.getD i 0) :=
  below_go hr _ _ _ (Nat.le_refl _) (Nat.zero_le _) (Nat.le_refl _) (fun _ h => nomatch h) fun i h1 h2 => absurd h2 (Nat.not_lt.mpr h1)
theorem getD_insert (xs : Array Nat) (p x i : Nat) (hp : p ≤ xs.size) : (SetTable.insertAt xs p x).getD i 0 = if i < p then xs.getD i 0 else if i = p then x else xs.getD (i - 1) 0 := by
  have e1 : min p xs.size - 0 = p := by lia
  by_cases h1 : i < p
  · rw [if_pos h1]
    simp only [SetTable.insertAt, Array.getD_eq_getD_getElem?, Array.getElem?_append, Array.getElem?_push, Array.size_push, Array.size_extract, Array.getElem?_extract, e1]
    rw [if_pos (by exact Nat.le_succ_of_le (by assumption)), if_neg (by exact Nat.ne_of_lt (by assumption)), if_pos (by omega), Nat.zero_add]
  · rw [if_neg h1]
    by_cases h2 : i = p
    · subst h2
      rw [if_pos rfl]
      simp only [SetTable.insertAt, Array.getD_eq_getD_getElem?, Array.getElem?_append, Array.getElem?_push, Array.size_push, Array.size_extract, Array.getElem?_extract, e1]
      rw [if_pos (by exact Nat.lt_of_not_le (by assumption)), if_pos trivial]; rfl
    · rw [if_neg h2]
      simp only [SetTable.insertAt, Array.getD_eq_getD_getElem?, Array.getElem?_append, Array.getElem?_push, Array.size_push, Array.size_extract, Array.getElem?_extract, e1]
      rw [if_neg (by lia)]
      by_cases h3 : i - (p + 1) < min xs.size xs.size - p
      · rw [if_pos h3, show p + (i - (p + 1)) = i - 1 by (clear h3 e1 hp; lia)]
      · rw [if_neg h3, Array.getElem?_eq_none (by lia)]
theorem ris_insert {xs : Array Nat} (hr : Ris xs) {j : Nat} (hj : xs[SetTable.below xs j]? ≠ some j) : Ris (SetTable.insertAt xs (SetTable.below xs j) j) := by
  obtain ⟨h1, h2, h3⟩ := below_spec hr j
  generalize hp : SetTable.below xs j = p at h1 h2 h3 hj ⊢
  have hne : ∀ i, p ≤ i → i < xs.size → j < xs.getD i 0 := fun i hi hs => by
    have := h3 i hi hs
    rcases Nat.lt_or_eq_of_le this with q | q
    · exact q
    · have hpe : xs.getD p 0 = j := by
        have h4 := h3 p (Nat.le_refl _) (Nat.lt_of_le_of_lt hi hs)
        by_cases hip : p = i
        · rw [hip]; exact q.symm
        · have := hr p i (by lia) hs; (clear hip hs hi hj h3 h2 h1 hp hr; omega)
      exact absurd (by rw [Array.getElem?_eq_getElem (Nat.lt_of_le_of_lt hi hs)]; rw [← hpe, Array.getD_eq_getD_getElem?, Array.getElem?_eq_getElem (Nat.lt_of_le_of_lt hi hs)]; rfl) hj
  intro a b hab hb
  have hsz : (SetTable.insertAt xs p j).size = xs.size + 1 := by simp [SetTable.insertAt]; lia
  rw [hsz] at hb
  rw [getD_insert _ _ _ _ h1, getD_insert _ _ _ _ h1]
  by_cases a1 : a < p
  · rw [if_pos a1]
    by_cases b1 : b < p
    · rw [if_pos b1]; exact hr a b hab (by exact Nat.lt_of_lt_of_le (by assumption) (by assumption))
    · rw [if_neg b1]
      by_cases b2 : b = p
      · rw [if_pos b2]; exact h2 a a1
      · rw [if_neg b2]; exact Nat.lt_trans (h2 a a1) (hne _ (by lia) (by (clear b2 b1 a1 hne hj h3 h2 h1 hp hr; omega)))
  · rw [if_neg a1, if_neg (by lia : ¬ b < p), if_neg (by lia : ¬ b = p)]
    by_cases a2 : a = p
    · rw [if_pos a2]; exact hne _ (by lia) (by omega)
    · rw [if_neg a2]; exact hr _ _ (by lia) (by omega)

/-- a table that never lost an entry -/
structure TOk (t : SetTable) (n : Nat) : Prop where
  sz : t.place.size = n
  ris : Ris t.place
  dum : t.dummies = #[]
theorem has_nil (j : Nat) : SetTable.has #[] j = false := by
  unfold SetTable.has
  rw [Array.getElem?_eq_none (Nat.zero_le _)]; rfl
theorem TOk.put {t : SetTable} {n j : Nat} (h : TOk t n) (hs : t.slot j = .empty) : TOk (t.put j).1 (n + 1) ∧ (t.put j).1.led = t.led := by
  have hne : t.place[SetTable.below t.place j]? ≠ some j := fun q => by
    unfold SetTable.slot at hs
    dsimp only at hs
    rw [q, if_pos (by simp)] at hs; cases hs
  refine ⟨⟨?_, ris_insert h.ris hne, ?_⟩, rfl⟩
  · have := (below_spec h.ris j).1
    show (SetTable.insertAt t.place _ j).size = n + 1
    simp [SetTable.insertAt, ← h.sz]; lia
  · show (if SetTable.has t.dummies j = true then _ else t.dummies) = #[]
    rw [h.dum, has_nil]; rfl
open PySem PySem.W PySem.Calls PyProof.Rows
set_option maxRecDepth 100000
section
variable {prog : Program} {w : World} {A : Around} {E : Value → Shared → Prop} {s : Shared}
/-! a list taken apart into names -/
theorem draw_list {it l : Addr} {items : Array Value} (hne : l ≠ it) : ∀ (rest : List Value) (i : Nat) (s : Shared) (Q : List Value → Shared → Prop), s.heap.IsListIter it l i → s.heap.IsList l items → items.toList.drop i = rest →
    (∀ h', h'.IsListIter it l (i + rest.length) → Heap.SameBut it s.heap h' → Q rest { s with heap := h' }) → wpAny (model prog w) A (draw (.ref it) rest.length) Q E s := by
  intro rest
  induction rest with
  | nil =>
    intro i s Q hit hl hd hQ
    exact wpAny_pure (hQ s.heap hit (.refl ..))
  | cons x rest ih =>
    intro i s Q hit hl hd hQ
    have hx : items[i]? = some x := by rw [← Array.getElem?_toList, ← List.head?_drop, hd]; rfl
    show wpAny _ _ (pyNext (.ref it) >>= _) Q E s
    refine wpAny_bind (wpAny_pyNext_list_item hit hl hx fun h₁ hit₁ s₁ => ?_)
    refine wpAny_bind (wpAny_holding (ih (i + 1) _ _ hit₁ ?_ (by rw [← List.drop_drop, hd]; rfl) fun h₂ hit₂ s₂ => wpAny_pure ?_))
    · obtain ⟨o, e, r⟩ := hl; exact ⟨o, (s₁.2 l hne).trans e, r⟩
    · exact hQ h₂ (by rw [List.length_cons, Nat.add_comm rest.length, ← Nat.add_assoc]; exact hit₂) (s₁.trans s₂)
theorem assign_list {env : Env} {elts : List Expr} {x1} {pos : Pos} {l : Addr} {items : Array Value} {Q : Unit → Shared → Prop} (hh : A.handled = none) (hl : s.heap.IsList l items)
    (hn : (assignEach elts env).length = items.size) (hstar : (assignEach elts env).findIdx? (·.1) = none)
    (h : ∀ h', Heap.ExtBut s.heap.objs.size s.heap h' → wpAny (model prog w) A (assignInOrder ((assignEach elts env).map (·.2)) items.toList) Q E { s with heap := h' }) :
    wpAny (model prog w) A (assign (.Tuple elts x1 pos) env (.ref l)) Q E s := by
  have hlt : l ≠ s.heap.objs.size := by obtain ⟨o, ho, _⟩ := hl; exact Nat.ne_of_lt (Heap.lt_size ho)
  rw [arm_assign_Tuple]
  refine wpAny_bind (wpAny_standAt ?_)
  unfold unpack
  rw [hn, hstar]
  refine wpAny_bind (wpAny_holding ?_)
  unfold unpackItems
  refine wpAny_bind ?_
  unfold notIterableAtAll
  refine wpAny_bind (wpAny_specialOf hl.typeIs slot_list_iter.lookup ?_)
  refine wpAny_pure ?_
  rw [if_neg Bool.false_ne_true]
  refine wpAny_bind (wpAny_holding (wpAny_pyIter_list hl ?_))
  have hl1 : (s.heap.push { cls := .type "list_iterator", data := .fields #[.ref l, .int 0 0] }).IsList l items := by obtain ⟨o, e, r⟩ := hl; exact ⟨o, Heap.get?_push_of_some _ e, r⟩
  have hz : items.size = items.toList.length := by simp
  rw [hz]
  refine wpAny_bind (wpAny_holding (draw_list hlt items.toList 0 _ _ ⟨_, Heap.get?_push_size _ rfl, rfl, rfl⟩ hl1 rfl fun h₁ hit₁ s₁ => ?_))
  rw [if_neg (Nat.lt_irrefl _)]
  have hl2 : h₁.IsList l items := by obtain ⟨o, e, r⟩ := hl1; exact ⟨o, (s₁.2 l hlt).trans e, r⟩
  refine wpAny_bind (wpAny_holding (wpAny_pyNext_list_end hh hit₁ hl2 (by simp) fun h₂ he₂ => ?_))
  rw [if_neg (by simp)]
  exact wpAny_pure (h h₂ fun b o hb e => he₂ b o hb ((s₁.2 b hb).trans (Heap.get?_push_of_some _ e)))

/-! enumerate over a tuple -/
theorem nextOf_tuple {it t : Addr} {i : Nat} {items : Array Value} {x : Value} {Q : Value → Shared → Prop} (hit : s.heap.IsTupleIter it t i) (ht : s.heap.IsTuple t items) (hx : items[i]? = some x)
    (hQ : ∀ h', h'.IsTupleIter it t (i + 1) → Heap.SameBut it s.heap h' → Q x { s with heap := h' }) : wpAny (model prog w) A (Builtin.SmallTypes.nextOf (.ref it)) Q E s := by
  obtain ⟨o, ho, hc, hd⟩ := id hit
  obtain ⟨ot, hot, _, nt, hdt⟩ := ht
  unfold Builtin.SmallTypes.nextOf
  refine wpAny_bind (wpAny_callSpecial?_slot (name := Str.ofString "__next__") hit.typeIs F.slot_tuple_iterator_next (wpAny_call_entry F.slot_tuple_iterator_next hit.typeIs F.entry_tuple_iterator_next ?_ (F.args_tuple_iterator_next_1 _)))
  show wpAny _ _ (field (.ref it) 0 >>= _) _ _ s
  refine wpAny_bind (wpAny_field ho hd (x := .ref t) rfl ?_)
  show wpAny _ _ (if (Value.ref t == Value.none) = true then _ else _) _ _ s
  rw [if_neg (show ¬ ((Value.ref t == Value.none) = true) from Bool.false_ne_true)]
  show wpAny _ _ (field (.ref it) 1 >>= _) _ _ s
  refine wpAny_bind (wpAny_field ho hd (x := .int i 0) rfl ?_)
  show wpAny _ _ (seqItems? (.ref t) >>= _) _ _ s
  refine wpAny_bind (wpAny_seqItems hot hdt ?_)
  simp only [Int.toNat_natCast, hx]
  refine wpAny_bind (wpAny_setField ho hd (by simp) (wpAny_pure ⟨x, rfl, wpAny_pure (hQ _ ⟨_, Heap.get?_update_self _ ho (Obj.isFreed_of_fields (Obj.data_mapFields hd _)), (Obj.cls_mapFields ..).trans hc, ?_⟩ (Heap.SameBut.update ..))⟩))
  rw [Obj.data_mapFields hd]; simp [rawInt]
theorem nextOf_tuple_end {it t : Addr} {i : Nat} {items : Array Value} {Q : Value → Shared → Prop} (hh : A.handled = none) (hit : s.heap.IsTupleIter it t i) (ht : s.heap.IsTuple t items) (hx : items[i]? = none)
    (hE : ∀ h' e, Heap.ExtBut it s.heap h' → (∃ o, h'.get? e = some o ∧ o.cls = .type "StopIteration") → E (.ref e) { s with heap := h' }) : wpAny (model prog w) A (Builtin.SmallTypes.nextOf (.ref it)) Q E s := by
  obtain ⟨o, ho, hc, hd⟩ := id hit
  obtain ⟨ot, hot, _, nt, hdt⟩ := ht
  unfold Builtin.SmallTypes.nextOf
  refine wpAny_bind (wpAny_callSpecial?_slot (name := Str.ofString "__next__") hit.typeIs F.slot_tuple_iterator_next (wpAny_call_entry F.slot_tuple_iterator_next hit.typeIs F.entry_tuple_iterator_next ?_ (F.args_tuple_iterator_next_1 _)))
  show wpAny _ _ (field (.ref it) 0 >>= _) _ _ s
  refine wpAny_bind (wpAny_field ho hd (x := .ref t) rfl ?_)
  show wpAny _ _ (if (Value.ref t == Value.none) = true then _ else _) _ _ s
  rw [if_neg (show ¬ ((Value.ref t == Value.none) = true) from Bool.false_ne_true)]
  show wpAny _ _ (field (.ref it) 1 >>= _) _ _ s
  refine wpAny_bind (wpAny_field ho hd (x := .int i 0) rfl ?_)
  show wpAny _ _ (seqItems? (.ref t) >>= _) _ _ s
  refine wpAny_bind (wpAny_seqItems hot hdt ?_)
  simp only [Int.toNat_natCast, hx]
  refine wpAny_bind (wpAny_rule (wpAny_bind (wpAny_setField ho hd (by simp) ?_)))
  show wpAny _ _ (newExc (.type "StopIteration") [] >>= _) _ _ _
  refine wpAny_bind ?_
  simp only [newExc, newTuple]
  refine wpAny_bind (wpAny_newObj_type ?_ (by size_fits))
  refine wpAny_bind (m := firstArgMember _ _) (wpAny_of_eq (a := Value.none) (by first | rfl | (simp only [firstArgMember]; rfl)) ?_)
  refine wpAny_newObj_type ?_ (by size_fits)
  simp only [raiseNew]
  refine wpAny_bind (wpAny_handled ?_)
  first | rw [show A.in1.handled = none from hh] | rw [hh]
  exact wpAny_bind (wpAny_pure (wpAny_throw (hE _ _ (((Heap.SameBut.update ..).extBut.push _).push _) ⟨_, Heap.get?_push_size _ rfl, rfl⟩)))
/-- what an item of an enumerate leaves -/
inductive EnP (s : Shared) (e it t : Addr) (i : Nat) (x : Value) (s' : Shared) : Prop
  | mk (h' : Heap) (es : s' = { s with heap := h', toks := s.toks + 1 }) (ho : IsEnumOut h' e it ((i : Int) + 1) x s.heap.objs.size) (hit : h'.IsTupleIter it t (i + 1)) (ht : h'.get? s.heap.objs.size = some { cls := .type "tuple", data := .seq #[.int i s.toks, x] })
      (k : ∀ b o, b ≠ e → b ≠ it → s.heap.get? b = some o → h'.get? b = some o)
end

open PySem PySem.W PyProof.Rows
set_option maxRecDepth 20000

/-- data as the proofs see it -/
inductive D where
  | none
  | bool (b : Bool)
  | int (i : Int)
  | str (x : Str)
  | tup (ds : List D)
  | lst (ds : List D)
  | rng (a b s : Int)
  | slc (lo hi st : Option Int)
  | clo (qual : Str) (params : Arguments) (body : Expr) (scope : Scope) (cdv : Value) (caps : List (Str × D))
  | val (v : Value)

noncomputable abbrev FM := Addr → Option Obj

inductive FCode (F : FM) (cv : Value) (q : Str) : Prop
  | mk (c : Addr) (o : Obj) (vs : Array Value) (t : Tok) (e : cv = .ref c) (f : F c = some o) (d : o.data = .fields vs) (k : vs[1]? = some (.str q t))
theorem FCode.mono {F F' : FM} (h : ∀ a o, F a = some o → F' a = some o) {cv q} (x : FCode F cv q) : FCode F' cv q :=
  x.casesOn fun c o vs t a b d r => ⟨c, o, vs, t, a, h _ _ b, d, r⟩
theorem FCode.codeRec {F : FM} {h : Heap} (k : ∀ a o, F a = some o → h.get? a = some o) {cv q} (x : FCode F cv q) : h.CodeRec cv q :=
  x.casesOn fun c o vs t a b d r => ⟨c, o, vs, t, a, k _ _ b, d, r⟩

mutual
inductive Sees (F : FM) : Value → D → Prop
  | none : Sees F .none .none
  | bool (b) : Sees F (.bool b) (.bool b)
  | int (i t) : Sees F (.int i t) (.int i)
  | str (x t) : Sees F (.str x t) (.str x)
  | tup {a vs n ds} : F a = some { cls := .type "tuple", dict := Option.none, data := .seq vs n, slots := #[] } → SeesAll F vs.toList ds → Sees F (.ref a) (.tup ds)
  | lst {a vs n ds} : F a = some { cls := .type "list", dict := Option.none, data := .seq vs n, slots := #[] } → SeesAll F vs.toList ds → Sees F (.ref a) (.lst ds)
  | slc {a l u t lo hi st} : F a = some { cls := .type "slice", dict := Option.none, data := .fields #[l, u, t], slots := #[] } → IsPart l lo → IsPart u hi → IsPart t st → Sees F (.ref a) (.slc lo hi st)
  | rng {a i j k t u v} : F a = some { cls := .type "range", dict := Option.none, data := .fields #[.int i t, .int j u, .int k v], slots := #[] } → Sees F (.ref a) (.rng i j k)
  | clo {a o name qual params body scope cl pm cdv ct caps} : F a = some o → o.data = .func (kla_fn name qual params body scope cl pm cdv ct) → FCode F cdv qual → SeesCaps F cl caps → (cl.map (·.2)).Nodup →
      Sees F (.ref a) (.clo qual params body scope cdv caps)
  | val (v) : Sees F v (.val v)
inductive SeesCaps (F : FM) : List (Str × Addr) → List (Str × D) → Prop
  | nil : SeesCaps F [] []
  | cons {x c o v d cl caps} : F c = some o → o.data = .cell (some v) → Sees F v d → SeesCaps F cl caps → SeesCaps F ((x, c) :: cl) ((x, d) :: caps)
inductive SeesAll (F : FM) : List Value → List D → Prop
  | nil : SeesAll F [] []
  | cons {v vs d ds} : Sees F v d → SeesAll F vs ds → SeesAll F (v :: vs) (d :: ds)
end

section
variable {F F' : FM} (h : ∀ a o, F a = some o → F' a = some o)
include h
theorem Sees.mono {v d} (x : Sees F v d) : Sees F' v d :=
  Sees.rec (motive_1 := fun v d _ => Sees F' v d) (motive_2 := fun cl caps _ => SeesCaps F' cl caps) (motive_3 := fun vs ds _ => SeesAll F' vs ds) .none .bool .int .str (fun e _ r => .tup (h _ _ e) r) (fun e _ r => .lst (h _ _ e) r)
    (fun e a b c => .slc (h _ _ e) a b c) (fun e => .rng (h _ _ e)) (fun e d c _ k r => .clo (h _ _ e) d (c.mono h) r k) .val .nil (fun e d _ _ x r => .cons (h _ _ e) d x r) .nil (fun _ _ x r => .cons x r) x
end
theorem SeesAll.ind {F : FM} {P : List Value → List D → Prop} (h0 : P [] []) (h1 : ∀ {v vs d ds}, Sees F v d → SeesAll F vs ds → P vs ds → P (v :: vs) (d :: ds)) {vs ds} (x : SeesAll F vs ds) : P vs ds :=
  SeesAll.rec (motive_1 := fun _ _ _ => True) (motive_2 := fun _ _ _ => True) (motive_3 := fun vs ds _ => P vs ds) trivial (fun _ => trivial) (fun _ _ => trivial) (fun _ _ => trivial) (fun _ _ _ => trivial) (fun _ _ _ => trivial)
    (fun _ _ _ _ => trivial) (fun _ => trivial) (fun _ _ _ _ _ _ => trivial) (fun _ => trivial) trivial (fun _ _ _ _ _ _ => trivial) h0 (fun x r _ i => h1 x r i) x
theorem SeesCaps.ind {F : FM} {P : List (Str × Addr) → List (Str × D) → Prop} (h0 : P [] []) (h1 : ∀ {x c o v d cl caps}, F c = some o → o.data = .cell (some v) → Sees F v d → SeesCaps F cl caps → P cl caps → P ((x, c) :: cl) ((x, d) :: caps)) {cl caps} (x : SeesCaps F cl caps) : P cl caps :=
  SeesCaps.rec (motive_1 := fun _ _ _ => True) (motive_2 := fun cl caps _ => P cl caps) (motive_3 := fun _ _ _ => True) trivial (fun _ => trivial) (fun _ _ => trivial) (fun _ _ => trivial) (fun _ _ _ => trivial) (fun _ _ _ => trivial)
    (fun _ _ _ _ => trivial) (fun _ => trivial) (fun _ _ _ _ _ _ => trivial) (fun _ => trivial) h0 (fun e d x r _ i => h1 e d x r i) trivial (fun _ _ _ _ => trivial) x
theorem SeesCaps.mono {F F' : FM} (h : ∀ a o, F a = some o → F' a = some o) {cl caps} (x : SeesCaps F cl caps) : SeesCaps F' cl caps := x.ind .nil fun e d x _ i => .cons (h _ _ e) d (x.mono h) i
theorem SeesAll.mono {F F' : FM} (h : ∀ a o, F a = some o → F' a = some o) {vs ds} (x : SeesAll F vs ds) : SeesAll F' vs ds := x.ind .nil fun x _ i => .cons (x.mono h) i

theorem SeesAll.length {F : FM} {vs ds} (x : SeesAll F vs ds) : vs.length = ds.length := x.ind (P := fun vs ds => vs.length = ds.length) rfl fun _ _ i => congrArg (· + 1) i
theorem SeesAll.append {F : FM} {vs ds ws es} (x : SeesAll F vs ds) (k : SeesAll F ws es) : SeesAll F (vs ++ ws) (ds ++ es) := x.ind (P := fun vs ds => SeesAll F (vs ++ ws) (ds ++ es)) k fun x _ i => .cons x i
theorem SeesAll.get {F : FM} {vs ds} (x : SeesAll F vs ds) {k : Nat} {d} : ds[k]? = some d → ∃ v, vs[k]? = some v ∧ Sees F v d := by
  refine x.ind (P := fun vs ds => ∀ k : Nat, ds[k]? = some d → ∃ v, vs[k]? = some v ∧ Sees F v d) (fun _ e => nomatch e) (fun x _ i k e => ?_) k
  cases k with
  | zero => cases e; exact ⟨_, rfl, x⟩
  | succ k => exact i k e
theorem SeesAll.take {F : FM} {vs ds} (x : SeesAll F vs ds) : ∀ n, SeesAll F (vs.take n) (ds.take n) := by
  refine x.ind (P := fun vs ds => ∀ n, SeesAll F (vs.take n) (ds.take n)) (fun n => by cases n <;> exact .nil) fun x _ i n => ?_
  cases n with
  | zero => exact .nil
  | succ n => exact .cons x (i n)
theorem SeesAll.drop {F : FM} {vs ds} (x : SeesAll F vs ds) : ∀ n, SeesAll F (vs.drop n) (ds.drop n) := by
  refine x.ind (P := fun vs ds => ∀ n, SeesAll F (vs.drop n) (ds.drop n)) (fun n => by cases n <;> exact .nil) fun x r i n => ?_
  cases n with
  | zero => exact .cons x r
  | succ n => exact i n
theorem SeesAll.reverse {F : FM} {vs ds} (x : SeesAll F vs ds) : SeesAll F vs.reverse ds.reverse := by
  refine x.ind (P := fun vs ds => SeesAll F vs.reverse ds.reverse) .nil fun x _ i => ?_
  rw [List.reverse_cons, List.reverse_cons]
  exact i.append (.cons x .nil)

inductive SeqI (F : FM) (T : String) (ds : List D) : Value → Prop
  | mk {a vs n} (e : F a = some { cls := .type T, dict := Option.none, data := .seq vs n, slots := #[] }) (r : SeesAll F vs.toList ds) : SeqI F T ds (.ref a)
inductive CloI (F : FM) (qual : Str) (params : Arguments) (body : Expr) (scope : Scope) (cdv : Value) (caps : List (Str × D)) : Value → Prop
  | mk {a o name cl pm ct} : F a = some o → o.data = .func (kla_fn name qual params body scope cl pm cdv ct) → FCode F cdv qual → SeesCaps F cl caps → (cl.map (·.2)).Nodup → CloI F qual params body scope cdv caps (.ref a)
inductive RngI (F : FM) (i j k : Int) : Value → Prop
  | mk {a t u v} : F a = some { cls := .type "range", dict := Option.none, data := .fields #[.int i t, .int j u, .int k v], slots := #[] } → RngI F i j k (.ref a)
inductive SlcI (F : FM) (lo hi st : Option Int) : Value → Prop
  | mk {a l u t} : F a = some { cls := .type "slice", dict := Option.none, data := .fields #[l, u, t], slots := #[] } → IsPart l lo → IsPart u hi → IsPart t st → SlcI F lo hi st (.ref a)
noncomputable def SeesI (F : FM) (v : Value) : D → Prop
  | .none => v = .none
  | .bool b => v = .bool b
  | .int i => ∃ t, v = .int i t
  | .str x => ∃ t, v = .str x t
  | .val w => v = w
  | .tup ds => SeqI F "tuple" ds v
  | .lst ds => SeqI F "list" ds v
  | .rng i j k => RngI F i j k v
  | .slc a b c => SlcI F a b c v
  | .clo q ps b sc cd cp => CloI F q ps b sc cd cp v
theorem Sees.inv {F : FM} {v d} (h : Sees F v d) : SeesI F v d :=
  Sees.rec (motive_1 := fun v d _ => SeesI F v d) (motive_2 := fun _ _ _ => True) (motive_3 := fun _ _ _ => True) rfl (fun _ => rfl) (fun _ t => ⟨t, rfl⟩) (fun _ t => ⟨t, rfl⟩) (fun e r _ => ⟨e, r⟩) (fun e r _ => ⟨e, r⟩) (fun e a b c => ⟨e, a, b, c⟩)
    (fun e => ⟨e⟩) (fun a b c d e _ => ⟨a, b, c, d, e⟩) (fun _ => rfl) trivial (fun _ _ _ _ _ _ => trivial) trivial (fun _ _ _ _ => trivial) h
theorem Sees.noneI {F : FM} {v} (h : Sees F v .none) : v = .none := h.inv
theorem Sees.boolI {F : FM} {v b} (h : Sees F v (.bool b)) : v = .bool b := h.inv
theorem Sees.intI {F : FM} {v i} (h : Sees F v (.int i)) : ∃ t, v = .int i t := h.inv
theorem Sees.valI {F : FM} {v w} (h : Sees F v (.val w)) : v = w := h.inv
theorem Sees.cloI {F : FM} {v q ps b sc cd cp} (h : Sees F v (.clo q ps b sc cd cp)) : CloI F q ps b sc cd cp v := h.inv
theorem Sees.rngI {F : FM} {v i j k} (h : Sees F v (.rng i j k)) : RngI F i j k v := h.inv
theorem Sees.slcI {F : FM} {v a b c} (h : Sees F v (.slc a b c)) : SlcI F a b c v := h.inv
theorem Sees.tupI {F : FM} {v ds} (h : Sees F v (.tup ds)) : SeqI F "tuple" ds v := h.inv
theorem Sees.lstI {F : FM} {v ds} (h : Sees F v (.lst ds)) : SeqI F "list" ds v := h.inv
noncomputable def SeesAllI (F : FM) (vs : List Value) : List D → Prop
  | [] => vs = []
  | d :: ds => ∃ v vs', vs = v :: vs' ∧ Sees F v d ∧ SeesAll F vs' ds
theorem SeesAll.invI {F : FM} {vs ds} (h : SeesAll F vs ds) : SeesAllI F vs ds := h.ind rfl fun x r _ => ⟨_, _, rfl, x, r⟩
theorem SeesAll.nilI {F : FM} {vs} (h : SeesAll F vs []) : vs = [] := h.invI
theorem SeesAll.consI {F : FM} {vs d ds} (h : SeesAll F vs (d :: ds)) : ∃ v vs', vs = v :: vs' ∧ Sees F v d ∧ SeesAll F vs' ds := h.invI

/-- mutable objects -/
inductive MO where
  | ml (ds : List D)
  | tb (c : Addr) (ps : List Value)
  | st (led : Bool) (l : List Int)
  | dt (n : Nat) (m : Int → Option Int)
noncomputable abbrev Mu := List (Addr × MO)
noncomputable abbrev Mu.dom (μ : Mu) : List Addr := μ.map (·.1)

/-- c is code whose table is P -/
noncomputable def CodeF (F : FM) (c P : Addr) : Prop := ∃ o, F c = some o ∧ ∀ h : Heap, h.get? c = some o → CodeHd h c P
inductive StOk (led : Bool) (l : List Int) (o : Obj) : Prop
  | mk (es : Array (Int × Value)) (ep : Nat) (t : SetTable) (e : o = { cls := .type "set", dict := Option.none, data := .set es ep t, slots := #[] }) (hi : IntsAre (es.toList.map (·.2)) l) (tok : TOk t es.size) (hf : t.fits es.size = true) (hl : t.led = led) (hb : es.size < scanBound)
inductive DtOk (n : Nat) (m : Int → Option Int) (o : Obj) : Prop
  | mk (es : Array DictEntry) (ep : Nat) (c : o.cls = .type "dict") (d : o.data = .dict es ep) (hk : IntKeys es) (hf : ∀ k i, m k = some i → ∃ t, findBy Value.isInt es k = some (.int i t)) (hn : es.size ≤ n)
noncomputable def MOk (F : FM) (a : Addr) : MO → Obj → Prop
  | .dt n m, o => DtOk n m o
  | .st led l, o => StOk led l o
  | .ml ds, o => ∃ vs n, o = { cls := .type "list", dict := Option.none, data := .seq vs n, slots := #[] } ∧ SeesAll F vs.toList ds
  | .tb c ps, o => o = tabObj ps.toArray ∧ TriplesOk ps ∧ CodeF F c a
inductive MIs (F : FM) (h : Heap) (a : Addr) (m : MO) : Prop
  | mk (o : Obj) (e : h.get? a = some o) (k : MOk F a m o)
theorem MOk.mono {F F' : FM} (h : ∀ a o, F a = some o → F' a = some o) {a m o} (x : MOk F a m o) : MOk F' a m o := by
  cases m with
  | ml ds => obtain ⟨vs, n, e, s⟩ := x; exact ⟨vs, n, e, s.mono h⟩
  | tb c ps => obtain ⟨e, t, oc, ec, k⟩ := x; exact ⟨e, t, oc, h _ _ ec, k⟩
  | st led l => exact x
  | dt n m => exact x
theorem MOk.notCell {F : FM} {a m o v} (x : MOk F a m o) : o.data ≠ .cell v := by
  cases m with
  | ml ds => obtain ⟨vs, n, e, s⟩ := x; subst e; exact fun z => nomatch z
  | tb c ps => obtain ⟨e, t, k⟩ := x; subst e; exact fun z => nomatch z
  | st led l => obtain ⟨_, _, _, rfl, _⟩ := x; exact fun z => nomatch z
  | dt n m => obtain ⟨_, _, _, d, _⟩ := x; rw [d]; exact fun z => nomatch z
theorem MOk.notDict {F : FM} {a m o} (x : MOk F a m o) (hm : ∀ n f, m ≠ .dt n f) : ∀ es ep, o.data ≠ .dict es ep := by
  cases m with
  | ml ds => obtain ⟨vs, n, e, s⟩ := x; subst e; exact fun _ _ z => nomatch z
  | tb c ps => obtain ⟨e, t, k⟩ := x; subst e; exact fun _ _ z => nomatch z
  | st led l => obtain ⟨_, _, _, rfl, _⟩ := x; exact fun _ _ z => nomatch z
  | dt n m => exact absurd rfl (hm n m)
theorem MIs.move {F F' : FM} {h h' : Heap} {a m} (x : MIs F h a m) (hF : ∀ a o, F a = some o → F' a = some o) (e : ∀ o, h.get? a = some o → h'.get? a = some o) : MIs F' h' a m :=
  let ⟨o, q, k⟩ := x; ⟨o, e o q, k.mono hF⟩
theorem MIs.live {F : FM} {h : Heap} {a m} (x : MIs F h a m) : ∃ o, h.get? a = some o := let ⟨o, q, _⟩ := x; ⟨o, q⟩

noncomputable def TabGood (F : FM) (q : Str) (ps : Array Value) : Prop :=
  TriplesOk ps.toList ∧ ∀ pos cv, codeAmong pos ps.toList = some cv → FCode F cv q

theorem lookup_memB {α β : Type} [BEq α] [LawfulBEq α] {x : α} {b : β} {l : List (α × β)} (h : l.lookup x = some b) : (x, b) ∈ l := by
  induction l with
  | nil => cases h
  | cons p l ih =>
    obtain ⟨y, c⟩ := p
    rw [List.lookup_cons] at h
    cases hy : x == y with
    | true => rw [hy] at h; cases h; rw [eq_of_beq hy]; exact .head _
    | false => rw [hy] at h; exact .tail _ (ih h)

set_option genInjectivity false in
/-- what holds of the whole law: the text's own objects; the tables of the functions that make lambdas (code, table, the lambdas' qualname) -/
structure G where
  prog : Program
  w : World
  base : Heap
  K : Frag
  p : Program
  loose : List Str
  mg : Str → Option Value
  mb : Str → Option Value
  tabs : List (Addr × Addr × Str)
  X : K.In base
  T : TopRead p loose mg mb base
  hd : ∀ q ∈ tabs, CodeHd base q.1 q.2.1
  bm : ∃ bm ob, mg "__builtins__" = some (.ref bm) ∧ bm ≠ builtinsNs ∧ base.get? bm = some ob ∧ ob.cls = .type "module" ∧ ob.dict = some builtinsNs ∧ ob.data = .plain
  fcs : List Addr
  stk : List Env

/-- one frame deeper -/
noncomputable abbrev G.push (g : G) (env : Env) : G := { g with stk := env :: g.stk }
/-- a frame's own object stands -/
inductive FrL (e : Env) (μ : Mu) (F : FM) (h : Heap) : Prop
  | mk (k : e.scope.kind ≠ .module) (L : Addr) (m : Str → Option Value) (f : e.frame = some L) (n : h.Ns L m) (o : F L = none) (d : L ∉ μ.dom)

noncomputable abbrev G.tabDom (g : G) : List Addr := g.tabs.map (·.2.1)

structure GSt (g : G) (μ : Mu) (F : FM) (h : Heap) : Prop where
  base : ∀ a o, g.base.get? a = some o → F a = some o
  fz : ∀ a o, F a = some o → h.get? a = some o
  tb : ∀ q ∈ g.tabs, F q.2.1 = none ∧ ∃ ps, h.get? q.2.1 = some (tabObj ps) ∧ TabGood F q.2.2 ps
  mu : ∀ p ∈ μ, F p.1 = none ∧ MIs F h p.1 p.2
  nd : μ.dom.Nodup
  fzc : ∀ c ∈ g.fcs, ∃ o, F c = some o
  dj : ∀ a ∈ μ.dom, a ∉ g.tabDom
  stk : ∀ e ∈ g.stk, FrL e μ F h

theorem FrL.ext {e μ F h h'} (x : FrL e μ F h) (k : ∀ b o, h.get? b = some o → h'.get? b = some o) : FrL e μ F h' :=
  (by obtain ⟨hk, L, m, hf, ⟨o, es, ep, ho, r⟩, hF, hm⟩ := x; exact ⟨hk, L, m, hf, ⟨o, es, ep, k _ _ ho, r⟩, hF, hm⟩)
theorem GSt.push_frame {g : G} {env μ F h} (G : GSt g μ F h) (k : FrL env μ F h) : GSt (g.push env) μ F h :=
  ⟨G.base, G.fz, G.tb, G.mu, G.nd, G.fzc, G.dj, fun e he => by cases he with | head => exact k | tail _ he => exact G.stk e he⟩
theorem GSt.pop_frame {g : G} {env μ F h} (G : GSt (g.push env) μ F h) : GSt g μ F h :=
  ⟨G.base, G.fz, G.tb, G.mu, G.nd, G.fzc, G.dj, fun e he => G.stk e (.tail _ he)⟩

noncomputable def VarAt (env : Env) (h : Heap) (x : Str) (v : Value) : Prop :=
  (env.kindOf x = some .local ∧ ∃ m, h.Ns env.locals m ∧ m x = some v) ∨
  ((env.kindOf x = some .cell ∨ env.kindOf x = some .free) ∧ ∃ c, env.cells.lookup x = some c ∧ h.IsCell c (some v))

structure FOk (env : Env) (own : List Addr) : Prop where
  kind : env.scope.kind = .function
  glob : env.globals = mainGlobals
  blt : env.builtins = builtinsNs
  lown : env.locals ∈ own
  cnd : (env.cells.map (·.2)).Nodup

structure FSt (env : Env) (own : List Addr) (ρ : Str → Option D) (μ : Mu) (F : FM) (h : Heap) : Prop where
  ok : FOk env own
  ns : ∃ m, h.Ns env.locals m
  vars : ∀ x d, ρ x = some d → ∃ v, VarAt env h x v ∧ Sees F v d
  cells : ∀ p ∈ env.cells, ∃ v, h.IsCell p.2 v
  ownF : ∀ a ∈ own, F a = none
  live : ∀ a ∈ own, ∃ o, h.get? a = some o
  muo : ∀ a ∈ own, a ∉ μ.dom

/-- an object of names may get other slots: a frame's object, while an exception passes -/
noncomputable def IsNs (o : Obj) : Prop := ∃ es ep, o.data = .dict es ep
noncomputable def NsO (o : Obj) (m : Str → Option Value) : Prop := ∃ es ep, o.data = .dict es ep ∧ StrKeys es ∧ ∀ name, nsFind es name = m name
noncomputable def Up (o o' : Obj) : Prop := o' = o ∨ (IsNs o ∧ IsNs o' ∧ ∀ m, NsO o m → NsO o' m)
theorem nns {o : Obj} {vs : Array Value} (h : o.data = .fields vs) : ¬ IsNs o := fun ⟨_, _, z⟩ => by rw [h] at z; cases z
theorem nnsq {o : Obj} {vs : Array Value} {n : Nat} (h : o.data = .seq vs n) : ¬ IsNs o := fun ⟨_, _, z⟩ => by rw [h] at z; cases z
theorem Up.refl (o : Obj) : Up o o := .inl rfl
theorem Up.slots {o : Obj} (h : IsNs o) (sl) : Up o { o with slots := sl } := .inr ⟨h, h, fun m x => x⟩
theorem Up.trans {a b c : Obj} (x : Up a b) (y : Up b c) : Up a c := by
  rcases x with rfl | ⟨h, h', k⟩
  · exact y
  · rcases y with rfl | ⟨_, h'', k'⟩
    · exact .inr ⟨h, h', k⟩
    · exact .inr ⟨h, h'', fun m z => k' m (k m z)⟩
theorem Up.nso {a b : Obj} (x : Up a b) {m} (h : NsO a m) : NsO b m := by
  rcases x with rfl | ⟨_, _, k⟩
  · exact h
  · exact k m h
theorem Up.eq {a b : Obj} (x : Up a b) (h : ¬ IsNs a) : b = a := x.elim id fun y => absurd y.1 h

structure Tr (g : G) (mt : List Addr) (μ μ' : Mu) (F F' : FM) (s s' : Shared) : Prop where
  ext : ∀ b o, s.heap.get? b = some o → b ∉ mt → b ∉ μ.dom → b ∉ g.tabDom → ∃ o', s'.heap.get? b = some o' ∧ Up o o'
  live : ∀ b o, s.heap.get? b = some o → ∃ o', s'.heap.get? b = some o'
  le : ∀ a o, F a = some o → F' a = some o
  fr : ∀ a, F' a = none ∨ F a ≠ none ∨ a ∈ μ.dom ∨ s.heap.get? a = none
  mu : ∀ a ∈ μ'.dom, a ∈ μ.dom ∨ s.heap.get? a = none
  os : s'.os = s.os
  gens : s'.gens = s.gens

theorem Tr.pop_frame {g : G} {env mt μ μ' F F' s s'} (t : Tr (g.push env) mt μ μ' F F' s s') : Tr g mt μ μ' F F' s s' := ⟨t.ext, t.live, t.le, t.fr, t.mu, t.os, t.gens⟩
theorem Tr.push_frame {g : G} {env mt μ μ' F F' s s'} (t : Tr g mt μ μ' F F' s s') : Tr (g.push env) mt μ μ' F F' s s' := ⟨t.ext, t.live, t.le, t.fr, t.mu, t.os, t.gens⟩
theorem Tr.refl {g : G} {mt μ F s} : Tr g mt μ μ F F s s where
  ext := fun _ o e _ _ _ => ⟨o, e, .refl o⟩
  live := fun _ o e => ⟨o, e⟩
  le := fun _ _ e => e
  fr := fun a => by cases h : F a with | none => exact .inl rfl | some o => exact .inr (.inl (by simp))
  mu := fun _ h => .inl h
  os := rfl
  gens := rfl

theorem Tr.trans {g : G} {mt μ μ₁ μ₂ F F₁ F₂ s s₁ s₂} (x : Tr g mt μ μ₁ F F₁ s s₁) (y : Tr g mt μ₁ μ₂ F₁ F₂ s₁ s₂) : Tr g mt μ μ₂ F F₂ s s₂ where
  ext := fun b o e h1 h2 h3 => let ⟨o₁, e₁, u₁⟩ := x.ext b o e h1 h2 h3; let ⟨o₂, e₂, u₂⟩ := y.ext b o₁ e₁ h1 (fun q => (x.mu b q).elim h2 (fun z => by rw [z] at e; cases e)) h3; ⟨o₂, e₂, u₁.trans u₂⟩
  live := fun b o e => (by obtain ⟨o', e'⟩ := x.live b o e; exact y.live b o' e')
  le := fun a o e => y.le a o (x.le a o e)
  fr := fun a => by
    cases he : s.heap.get? a with
    | none => exact .inr (.inr (.inr rfl))
    | some o =>
      obtain ⟨o', e'⟩ := x.live a o he
      rcases y.fr a with h | h | h | h
      · exact .inl h
      · rcases x.fr a with k | k | k | k
        · exact absurd k h
        · exact .inr (.inl k)
        · exact .inr (.inr (.inl k))
        · rw [he] at k; cases k
      · rcases x.mu a h with k | k
        · exact .inr (.inr (.inl k))
        · rw [he] at k; cases k
      · rw [e'] at h; cases h
  mu := fun a h => (y.mu a h).elim (fun k => x.mu a k) fun k => by
    cases he : s.heap.get? a with
    | none => exact .inr rfl
    | some o => obtain ⟨o', e'⟩ := x.live a o he; rw [e'] at k; cases k
  os := y.os.trans x.os
  gens := y.gens.trans x.gens

theorem Tr.mtLe {g : G} {mt mt' μ μ' F F' s s'} (x : Tr g mt μ μ' F F' s s') (h : ∀ a ∈ mt, a ∈ mt' ∨ s.heap.get? a = none) : Tr g mt' μ μ' F F' s s' :=
  { x with ext := fun b o e h1 h2 h3 => x.ext b o e (fun q => (h b q).elim h1 fun z => by rw [z] at e; cases e) h2 h3 }
theorem Tr.toOwn {g : G} {mt μ μ' F F' s s'} (x : Tr g [] μ μ' F F' s s') : Tr g mt μ μ' F F' s s' := x.mtLe (fun _ h => nomatch h)

/-- a step that only makes new objects and leaves everything else alone -/
theorem Tr.of_ext {g : G} {mt μ F s s'} (e : ∀ b o, s.heap.get? b = some o → s'.heap.get? b = some o) (os : s'.os = s.os) (gens : s'.gens = s.gens) : Tr g mt μ μ F F s s' where
  ext := fun b o q _ _ _ => ⟨o, e b o q, .refl o⟩
  live := fun b o q => ⟨o, e b o q⟩
  le := fun _ _ q => q
  fr := (Tr.refl (g := g) (mt := mt) (μ := μ) (s := s)).fr
  mu := fun _ h => .inl h
  os := os
  gens := gens

theorem tab_not_cell {h : Heap} {a : Addr} {ps v} (x : h.get? a = some (tabObj ps)) : ¬ h.IsCell a v := fun ⟨o, e, d⟩ => by rw [x] at e; cases e; cases d
theorem tab_not_ns {h : Heap} {a : Addr} {ps m} (x : h.get? a = some (tabObj ps)) : ¬ h.Ns a m := fun ⟨o, _, _, e, d, _⟩ => by rw [x] at e; cases e; cases d

theorem GSt.cellFree {g μ F h} (G : GSt g μ F h) {c v} (hc : h.IsCell c v) : c ∉ μ.dom ∧ c ∉ g.tabDom := by
  refine ⟨fun q => ?_, fun q => ?_⟩
  · obtain ⟨p, hp, rfl⟩ := List.mem_map.mp q
    obtain ⟨_, hm⟩ := G.mu p hp
    obtain ⟨o, e, d⟩ := hc
    obtain ⟨o', e', k⟩ := hm
    rw [e] at e'; cases e'
    exact k.notCell d
  · obtain ⟨p, hp, rfl⟩ := List.mem_map.mp q
    obtain ⟨_, ps, e, _⟩ := G.tb p hp
    exact tab_not_cell e hc

theorem GSt.nsTab {g μ F h} (G : GSt g μ F h) {a m} (hn : h.Ns a m) : a ∉ g.tabDom := fun q => by
  obtain ⟨p, hp, rfl⟩ := List.mem_map.mp q
  obtain ⟨_, ps, e, _⟩ := G.tb p hp
  exact tab_not_ns e hn

theorem Tr.at {g : G} {mt μ μ' F F' s s'} (t : Tr g mt μ μ' F F' s s') {b o} (hn : ¬ IsNs o) (e : s.heap.get? b = some o) (h1 : b ∉ mt) (h2 : b ∉ μ.dom) (h3 : b ∉ g.tabDom) : s'.heap.get? b = some o := by
  obtain ⟨o', e', u⟩ := t.ext b o e h1 h2 h3
  rw [e', u.eq hn]
theorem Tr.ns {g : G} {mt μ μ' F F' s s'} (t : Tr g mt μ μ' F F' s s') {b m} (hn : s.heap.Ns b m) (h1 : b ∉ mt) (h2 : b ∉ μ.dom) (h3 : b ∉ g.tabDom) : s'.heap.Ns b m := by
  obtain ⟨o, es, ep, e, d, r⟩ := hn
  obtain ⟨o', e', u⟩ := t.ext b o e h1 h2 h3
  obtain ⟨es', ep', d', r'⟩ := u.nso ⟨es, ep, d, r⟩
  exact ⟨o', es', ep', e', d', r'⟩
theorem VarAt.keepsN {env : Env} {h h' : Heap} {x v} (k : VarAt env h x v) (hl : ∀ m, h.Ns env.locals m → h'.Ns env.locals m)
    (hc : ∀ p ∈ env.cells, ∀ v, h.IsCell p.2 v → h'.IsCell p.2 v) : VarAt env h' x v := by
  rcases k with ⟨k, m, n, hm⟩ | ⟨k, c, hcx, n⟩
  · exact .inl ⟨k, m, hl m n, hm⟩
  · exact .inr ⟨k, c, hcx, hc _ (lookup_memB hcx) _ n⟩
theorem VarAt.keeps {env : Env} {h h' : Heap} {x v} (k : VarAt env h x v) (hl : ∀ o, h.get? env.locals = some o → h'.get? env.locals = some o)
    (hc : ∀ p ∈ env.cells, ∀ o, h.get? p.2 = some o → h'.get? p.2 = some o) : VarAt env h' x v :=
  k.keepsN (fun m ⟨o, es, ep, e, r⟩ => ⟨o, es, ep, hl o e, r⟩) fun p hp v ⟨o, e, d⟩ => ⟨o, hc p hp o e, d⟩

/-- the frame stands over whatever leaves its own objects alone -/
theorem FSt.tr {g env own ρ μ μ' F F' s s'} (Fs : FSt env own ρ μ F s.heap) (Gs : GSt g μ F s.heap) (t : Tr g [] μ μ' F F' s s') (Gs' : GSt g μ' F' s'.heap) : FSt env own ρ μ' F' s'.heap := by
  have hl : ∀ m, s.heap.Ns env.locals m → s'.heap.Ns env.locals m := fun m hm => t.ns hm (fun q => nomatch q) (Fs.muo _ Fs.ok.lown) (Gs.nsTab hm)
  have hc : ∀ p ∈ env.cells, ∀ v, s.heap.IsCell p.2 v → s'.heap.IsCell p.2 v := fun p hp v hv => by
    obtain ⟨o, e, d⟩ := id hv
    exact ⟨o, t.at (fun ⟨es, ep, z⟩ => by rw [d] at z; cases z) e (fun q => nomatch q) (Gs.cellFree hv).1 (Gs.cellFree hv).2, d⟩
  refine ⟨Fs.ok, ?_, fun x d e => ?_, fun p hp => ?_, fun a ha => ?_, fun a ha => ?_, fun a ha q => ?_⟩
  · obtain ⟨m, hm⟩ := Fs.ns
    exact ⟨m, hl m hm⟩
  · obtain ⟨v, hv, hs⟩ := Fs.vars x d e
    exact ⟨v, hv.keepsN hl hc, hs.mono t.le⟩
  · obtain ⟨v, hv⟩ := Fs.cells p hp
    exact ⟨v, hc p hp v hv⟩
  · rcases t.fr a with k | k | k | k
    · exact k
    · exact absurd (Fs.ownF a ha) k
    · exact absurd k (Fs.muo a ha)
    · obtain ⟨o, e⟩ := Fs.live a ha; rw [k] at e; cases e
  · obtain ⟨o, e⟩ := Fs.live a ha; exact t.live a o e
  · rcases t.mu a q with k | k
    · exact Fs.muo a ha k
    · obtain ⟨o, e⟩ := Fs.live a ha; rw [k] at e; cases e

/-- room: depth and C units -/
noncomputable def Ok (g : G) (n : Nat) (A : Around) : Prop := A.depth + n ≤ 990 ∧ A.units + 8 * n ≤ 9800 ∧ A.handled = none ∧ A.frames = some g.stk
theorem Ok.in1 {g n A} (h : Ok g (n + 1) A) : Ok g n A.in1 := ⟨by have := h.1; simp; exact Nat.le_of_lt (by assumption), by have := h.2.1; simp; lia, h.2.2.1, h.2.2.2⟩
theorem Ok.deeper {g n A env} (h : Ok g (n + 1) A) : Ok (g.push env) n (A.deeper env) :=
  ⟨by have := h.1; show A.depth + 1 + n ≤ 990; lia, by have := h.2.1; simp; lia, h.2.2.1, by show A.frames.map (env :: ·) = _; rw [h.2.2.2]; rfl⟩
theorem Ok.le {g n m A} (h : Ok g n A) (k : m ≤ n) : Ok g m A := ⟨by have := h.1; lia, by have := h.2.1; lia, h.2.2⟩
theorem Ok.room {g n A} (h : Ok g n A) : A.depth < recursionLimit := by have := h.1; unfold recursionLimit; lia
theorem Ok.hand {g n A} (h : Ok g n A) : A.handled = none := h.2.2.1
theorem Ok.frames {g n A} (h : Ok g n A) : A.frames = some g.stk := h.2.2.2
theorem Ok.units {g n A} (h : Ok g n A) : A.units < cLine := by have := h.2.1; unfold cLine; lia

inductive EvPost (g : G) (μ : Mu) (s : Shared) (F : FM) (Q : D → Mu → Prop) (v : Value) (s' : Shared) : Prop
  | mk (d : D) (μ' : Mu) (F' : FM) (t : Tr g [] μ μ' F F' s s') (G' : GSt g μ' F' s'.heap) (sv : Sees F' v d) (q : Q d μ')
inductive EtPost (g : G) (μ : Mu) (s : Shared) (F : FM) (Q : Bool → Mu → Prop) (b : Bool) (s' : Shared) : Prop
  | mk (μ' : Mu) (F' : FM) (t : Tr g [] μ μ' F F' s s') (G' : GSt g μ' F' s'.heap) (q : Q b μ')

section
variable (g : G) (env : Env) (own : List Addr) (n : Nat) (ρ : Str → Option D) (μ : Mu)

noncomputable def Ev (e : Expr) (Q : D → Mu → Prop) : Prop :=
  ∀ A F s, Ok g n A → GSt g μ F s.heap → FSt env own ρ μ F s.heap →
    wpAny (model g.prog g.w) A (eval e env) (EvPost g μ s F Q) (fun _ _ => False) s
noncomputable def Et (e : Expr) (Q : Bool → Mu → Prop) : Prop :=
  ∀ A F s, Ok g n A → GSt g μ F s.heap → FSt env own ρ μ F s.heap →
    wpAny (model g.prog g.w) A (isTrue e env (eval e env)) (EtPost g μ s F Q) (fun _ _ => False) s

inductive Fl where
  | next | brk | cont | ret (d : D)
noncomputable def FlSees (F : FM) : Flow → Fl → Prop
  | .next, .next => True
  | .brk, .brk => True
  | .cont, .cont => True
  | .ret v, .ret d => Sees F v d
  | _, _ => False

inductive ExPost (s : Shared) (F : FM) (Q : Fl → (Str → Option D) → Mu → Prop) (fl : Flow) (s' : Shared) : Prop
  | mk (f : Fl) (ρ' : Str → Option D) (μ' : Mu) (F' : FM) (t : Tr g own μ μ' F F' s s') (G' : GSt g μ' F' s'.heap) (Fs' : FSt env own ρ' μ' F' s'.heap) (sf : FlSees F' fl f) (q : Q f ρ' μ')
noncomputable def Ex (ss : List Stmt) (Q : Fl → (Str → Option D) → Mu → Prop) : Prop :=
  ∀ A F s, Ok g n A → GSt g μ F s.heap → FSt env own ρ μ F s.heap →
    wpAny (model g.prog g.w) A (execs ss env) (ExPost g env own μ s F Q) (fun _ _ => False) s
noncomputable def Ex1 (st : Stmt) (Q : Fl → (Str → Option D) → Mu → Prop) : Prop :=
  ∀ A F s, Ok g n A → GSt g μ F s.heap → FSt env own ρ μ F s.heap →
    wpAny (model g.prog g.w) A (exec st env) (ExPost g env own μ s F Q) (fun _ _ => False) s
end


open PySem PySem.W PySem.Calls PyProof.Rows
set_option maxRecDepth 20000

/-- a call of a value on seen data -/
noncomputable def Calls (g : G) (n : Nat) (f : D) (args : List D) (kws : List (Str × D)) (μ : Mu) (Q : D → Mu → Prop) : Prop :=
  ∀ A F s fv vs kvs, Ok g n A → GSt g μ F s.heap → Sees F fv f → SeesAll F vs args → SeesAll F (kvs.map (·.2)) (kws.map (·.2)) → kvs.map (·.1) = kws.map (·.1) →
    wpAny (model g.prog g.w) A (call fv vs kvs) (EvPost g μ s F Q) (fun _ _ => False) s

section
variable {g : G} {env : Env} {own : List Addr} {n : Nat} {ρ : Str → Option D} {μ : Mu}

theorem EvPost.trans {μ₁ s s₁ F F₁ Q v s'} (t : Tr g [] μ μ₁ F F₁ s s₁) (h : EvPost g μ₁ s₁ F₁ Q v s') : EvPost g μ s F Q v s' :=
  (by obtain ⟨d, μ', F', t', a, b, c⟩ := h; exact ⟨d, μ', F', t.trans t', a, b, c⟩)
theorem EtPost.trans {μ₁ s s₁ F F₁ Q v s'} (t : Tr g [] μ μ₁ F F₁ s s₁) (h : EtPost g μ₁ s₁ F₁ Q v s') : EtPost g μ s F Q v s' :=
  (by obtain ⟨μ', F', t', a, b⟩ := h; exact ⟨μ', F', t.trans t', a, b⟩)

theorem EvPost.mono {μ s F Q Q' v s'} (h : EvPost g μ s F Q v s') (k : ∀ d μ', Q d μ' → Q' d μ') : EvPost g μ s F Q' v s' :=
  (by obtain ⟨d, μ', F', t', a, b, c⟩ := h; exact ⟨d, μ', F', t', a, b, k _ _ c⟩)

/-- an end that makes nothing but tokens -/
theorem EvPost.here {s s' F Q v d} (hG : GSt g μ F s.heap) (hh : s'.heap = s.heap) (ho : s'.os = s.os) (hg : s'.gens = s.gens) (hv : Sees F v d) (hQ : Q d μ) : EvPost g μ s F Q v s' :=
  ⟨d, μ, F, Tr.of_ext (fun b o e => by rw [hh]; exact e) ho hg, by rw [hh]; exact hG, hv, hQ⟩

theorem Ev.mono {e : Expr} {Q Q' : D → Mu → Prop} (h : Ev g env own n ρ μ e Q) (k : ∀ d μ', Q d μ' → Q' d μ') : Ev g env own n ρ μ e Q' :=
  fun A F s ok G Fs => wpAny_mono (h A F s ok G Fs) (fun v s' p => EvPost.mono p k) fun _ _ x => x

/-- evaluate, go on from there -/
theorem wp_seq {A : Around} {F s} {e : Expr} {Q : D → Mu → Prop} {P : Value → Shared → Prop} {E : Value → Shared → Prop}
    (h : Ev g env own n ρ μ e Q) (ok : Ok g n A) (G : GSt g μ F s.heap) (Fs : FSt env own ρ μ F s.heap)
    (k : ∀ v d μ₁ F₁ s₁, Tr g [] μ μ₁ F F₁ s s₁ → GSt g μ₁ F₁ s₁.heap → FSt env own ρ μ₁ F₁ s₁.heap → Sees F₁ v d → Q d μ₁ → P v s₁) :
    wpAny (model g.prog g.w) A (eval e env) P E s :=
  wpAny_mono (h A F s ok G Fs) ((by rintro v s₁ ⟨d, μ₁, F₁, t, G₁, hv, hq⟩; exact k v d μ₁ F₁ s₁ t G₁ (Fs.tr G t G₁) hv hq)) fun _ _ x => x.elim
theorem wt_seq {A : Around} {F s} {e : Expr} {Q : Bool → Mu → Prop} {P : Bool → Shared → Prop} {E : Value → Shared → Prop}
    (h : Et g env own n ρ μ e Q) (ok : Ok g n A) (G : GSt g μ F s.heap) (Fs : FSt env own ρ μ F s.heap)
    (k : ∀ b μ₁ F₁ s₁, Tr g [] μ μ₁ F F₁ s s₁ → GSt g μ₁ F₁ s₁.heap → FSt env own ρ μ₁ F₁ s₁.heap → Q b μ₁ → P b s₁) :
    wpAny (model g.prog g.w) A (isTrue e env (eval e env)) P E s :=
  wpAny_mono (h A F s ok G Fs) ((by rintro b s₁ ⟨μ₁, F₁, t, G₁, hq⟩; exact k b μ₁ F₁ s₁ t G₁ (Fs.tr G t G₁) hq)) fun _ _ x => x.elim

/-- an act on one | two values -/
noncomputable def Act1 (g : G) (n : Nat) (μ : Mu) (f : Value → Sem Value) (a : D) (Q : D → Mu → Prop) : Prop :=
  ∀ A F s va, Ok g n A → GSt g μ F s.heap → Sees F va a → wpAny (model g.prog g.w) A (f va) (EvPost g μ s F Q) (fun _ _ => False) s
noncomputable def Act2 (g : G) (n : Nat) (μ : Mu) (f : Value → Value → Sem Value) (a b : D) (Q : D → Mu → Prop) : Prop :=
  ∀ A F s va vb, Ok g n A → GSt g μ F s.heap → Sees F va a → Sees F vb b → wpAny (model g.prog g.w) A (f va vb) (EvPost g μ s F Q) (fun _ _ => False) s
/-! what is left to do behind a value, said without a binder around what follows -/
noncomputable abbrev K1 (g : G) (n : Nat) (f : Value → Sem Value) (Q : D → Mu → Prop) : D → Mu → Prop := fun a μ₁ => Act1 g n μ₁ f a Q
noncomputable abbrev K2b (g : G) (n : Nat) (f : Value → Value → Sem Value) (a : D) (Q : D → Mu → Prop) : D → Mu → Prop := fun b μ₂ => Act2 g n μ₂ f a b Q
noncomputable abbrev K2 (g : G) (env : Env) (own : List Addr) (n : Nat) (ρ : Str → Option D) (r : Expr) (f : Value → Value → Sem Value) (Q : D → Mu → Prop) : D → Mu → Prop := fun a μ₁ => Ev g env own n ρ μ₁ r (K2b g n f a Q)
noncomputable abbrev BrE (g : G) (env : Env) (own : List Addr) (n : Nat) (ρ : Str → Option D) (b o : Expr) (Q : D → Mu → Prop) : Bool → Mu → Prop := fun c μ₁ => (c = true → Ev g env own n ρ μ₁ b Q) ∧ (c = false → Ev g env own n ρ μ₁ o Q)

theorem post_weak {A : Around} {μ₁ s s₁ F F₁ Q} {t : Sem Value} (tr : Tr g [] μ μ₁ F F₁ s s₁)
    (h : wpAny (model g.prog g.w) A t (EvPost g μ₁ s₁ F₁ Q) (fun _ _ => False) s₁) : wpAny (model g.prog g.w) A t (EvPost g μ s F Q) (fun _ _ => False) s₁ :=
  wpAny_mono h (fun _ _ p => p.trans tr) fun _ _ x => x

theorem Ev.cint {i k pos Q} (h : Q (.int i) μ) : Ev g env own n ρ μ (.Constant (.int i) k pos) Q :=
  fun A F s ok G Fs => wpAny_Constant_int (EvPost.here G rfl rfl rfl (.int _ _) h)
theorem Ev.cstr {x k pos Q} (h : Q (.str x) μ) : Ev g env own n ρ μ (.Constant (.str x) k pos) Q :=
  fun A F s ok G Fs => wpAny_Constant_str (EvPost.here G rfl rfl rfl (.str _ _) h)
theorem Ev.cnone {k pos Q} (h : Q .none μ) : Ev g env own n ρ μ (.Constant .none k pos) Q :=
  fun A F s ok G Fs => wpAny_Constant_none (EvPost.here G rfl rfl rfl .none h)
theorem Ev.cbool {b k pos Q} (h : Q (.bool b) μ) : Ev g env own n ρ μ (.Constant (.bool b) k pos) Q :=
  fun A F s ok G Fs => wpAny_Constant_bool (EvPost.here G rfl rfl rfl (.bool _) h)

theorem Ev.name {x pos d Q} (hx : ρ x = some d) (h : Q d μ) (hd : (x == ("__debug__" : Str)) = false := by decide) (hc : (x == ("__classdict__" : Str)) = false := by decide) :
    Ev g env own n ρ μ (.Name x pos) Q := fun A F s ok G Fs => by
  obtain ⟨v, hv, hs⟩ := Fs.vars x d hx
  rcases hv with ⟨hk, m, hm, e⟩ | ⟨hk, c, hl, hcell⟩
  · exact wpAny_Name (wpAny_loadName_local Fs.ok.kind hk hm e (EvPost.here G rfl rfl rfl hs h)) hd
  · rcases hk with hk | hk
    · exact wpAny_Name (wpAny_loadName_cell Fs.ok.kind hk hl hcell (EvPost.here G rfl rfl rfl hs h)) hd
    · exact wpAny_Name (wpAny_loadName_free Fs.ok.kind hk hl hcell (EvPost.here G rfl rfl rfl hs h) hc) hd

theorem GSt.keep {F h} (G : GSt g μ F h) : ∀ a o, g.base.get? a = some o → h.get? a = some o := fun a o e => G.fz a o (G.base a o e)

theorem Ev.glob {x pos v Q} (hx : env.kindOf x = some .globalImplicit) (e : nsIn g.K mainGlobals x = some (some v)) (h : Q (.val v) μ)
    (hd : (x == ("__debug__" : Str)) = false := by decide) : Ev g env own n ρ μ (.Name x pos) Q := fun A F s ok G Fs =>
  Name_function_global Fs.ok.kind hx (loadGlobal_global (by rw [Fs.ok.glob]; exact g.T.g.keeps G.keep) (mg_of g.X g.T.g e) (EvPost.here G rfl rfl rfl (.val _) h)) hd
theorem Ev.blt {x pos v Q} (hx : env.kindOf x = some .globalImplicit) (e : nsIn g.K mainGlobals x = some none) (hv : bootBuiltins x = some v) (h : Q (.val v) μ) (hn : x ≠ "__name__" := by decide)
    (hd : (x == ("__debug__" : Str)) = false := by decide) : Ev g env own n ρ μ (.Name x pos) Q := fun A F s ok G Fs =>
  Name_function_global Fs.ok.kind hx (loadGlobal_builtin (by rw [Fs.ok.glob]; exact g.T.g.keeps G.keep) (mg_none_of g.X g.T.g e) (by rw [Fs.ok.blt]; exact g.T.b.keeps G.keep) ((g.T.builtins x hn).trans hv) (EvPost.here G rfl rfl rfl (.val _) h)) hd

theorem Ev.binop {l op r pos Q} (h : Ev g env own n ρ μ l (K2 g env own n ρ r (binaryOp op) Q)) : Ev g env own n ρ μ (.BinOp l op r pos) Q := fun A F s ok G Fs =>
  wpAny_BinOp (wp_seq h ok G Fs fun va a μ₁ F₁ s₁ t₁ G₁ Fs₁ sa h₁ => wp_seq h₁ ok G₁ Fs₁ fun vb b μ₂ F₂ s₂ t₂ G₂ Fs₂ sb h₂ =>
    post_weak (t₁.trans t₂) (h₂ A F₂ s₂ va vb ok G₂ (sa.mono t₂.le) sb))
theorem Ev.cmp {l op r pos Q} (h : Ev g env own n ρ μ l (K2 g env own n ρ r (compareOp op) Q)) (hm : behindInMarks op r = false := by with_unfolding_all rfl) :
    Ev g env own n ρ μ (.Compare l [op] [r] pos) Q := fun A F s ok G Fs =>
  wpAny_Compare1 (hm := hm) (wp_seq h ok G Fs fun va a μ₁ F₁ s₁ t₁ G₁ Fs₁ sa h₁ => wp_seq h₁ ok G₁ Fs₁ fun vb b μ₂ F₂ s₂ t₂ G₂ Fs₂ sb h₂ =>
    post_weak (t₁.trans t₂) (h₂ A F₂ s₂ va vb ok G₂ (sa.mono t₂.le) sb))
theorem Ev.unop {op x pos Q} (h : Ev g env own n ρ μ x (K1 g n (unaryOp op) Q)) : Ev g env own n ρ μ (.UnaryOp op x pos) Q := fun A F s ok G Fs =>
  wpAny_UnaryOp (wp_seq h ok G Fs fun va a μ₁ F₁ s₁ t₁ G₁ Fs₁ sa h₁ => post_weak t₁ (h₁ A F₁ s₁ va ok G₁ sa))
theorem Ev.ifexp {t b o pos Q} (h : Et g env own n ρ μ t (BrE g env own n ρ b o Q)) : Ev g env own n ρ μ (.IfExp t b o pos) Q := fun A F s ok G Fs =>
  wpAny_IfExp (wt_seq h ok G Fs fun c μ₁ F₁ s₁ t₁ G₁ Fs₁ h₁ => by
    cases c with
    | true => exact post_weak t₁ (h₁.1 rfl A F₁ s₁ ok G₁ Fs₁)
    | false => exact post_weak t₁ (h₁.2 rfl A F₁ s₁ ok G₁ Fs₁))
/-- tests -/
noncomputable def TBool (Q : Bool → Mu → Prop) (d : D) (μ : Mu) : Prop := ∃ b, d = .bool b ∧ Q b μ
theorem Et.cmp {l op r pos Q} (h : Ev g env own n ρ μ l (K2 g env own n ρ r (compareOp op) (TBool Q))) (hm : behindInMarks op r = false := by with_unfolding_all rfl) :
    Et g env own n ρ μ (.Compare l [op] [r] pos) Q := fun A F s ok G Fs =>
  wpAny_isTrue_Compare1 (hm := hm) (wp_seq h ok G Fs fun va a μ₁ F₁ s₁ t₁ G₁ Fs₁ sa h₁ => wp_seq h₁ ok G₁ Fs₁ fun vb b μ₂ F₂ s₂ t₂ G₂ Fs₂ sb h₂ =>
    wpAny_mono (h₂ A F₂ s₂ va vb ok G₂ (sa.mono t₂.le) sb) (by
      rintro v s₃ ⟨d, μ₃, F₃, t₃, G₃, sv, hq⟩
      obtain ⟨c, rfl, hq⟩ := hq
      obtain rfl := Sees.boolI sv
      exact wpAny_truthy_bool ⟨μ₃, F₃, (t₁.trans t₂).trans t₃, G₃, hq⟩) fun _ _ x => x)
theorem Et.not {x pos Q} (h : Et g env own n ρ μ x fun c => Q (!c)) : Et g env own n ρ μ (.UnaryOp .Not x pos) Q := fun A F s ok G Fs =>
  wpAny_isTrue_Not (wt_seq h ok G Fs fun c μ₁ F₁ s₁ t₁ G₁ Fs₁ h₁ => ⟨μ₁, F₁, t₁, G₁, h₁⟩)
noncomputable def EtAll (g : G) (env : Env) (own : List Addr) (n : Nat) (ρ : Str → Option D) : BoolOp → List Expr → Mu → (Bool → Mu → Prop) → Prop
  | .And, [], μ, Q => Q true μ
  | .Or, [], μ, Q => Q false μ
  | .And, x :: r, μ, Q => Et g env own n ρ μ x fun c μ₁ => (c = false → Q false μ₁) ∧ (c = true → EtAll g env own n ρ .And r μ₁ Q)
  | .Or, x :: r, μ, Q => Et g env own n ρ μ x fun c μ₁ => (c = true → Q true μ₁) ∧ (c = false → EtAll g env own n ρ .Or r μ₁ Q)
theorem et_post {A : Around} {μ₁ s s₁ F F₁ Q} {t : Sem Bool} (tr : Tr g [] μ μ₁ F F₁ s s₁)
    (h : wpAny (model g.prog g.w) A t (EtPost g μ₁ s₁ F₁ Q) (fun _ _ => False) s₁) : wpAny (model g.prog g.w) A t (EtPost g μ s F Q) (fun _ _ => False) s₁ :=
  wpAny_mono h (fun _ _ p => p.trans tr) fun _ _ x => x
theorem et_and : ∀ (es : List Expr) {μ Q A F s}, EtAll g env own n ρ .And es μ Q → Ok g n A → GSt g μ F s.heap → FSt env own ρ μ F s.heap →
    wpAny (model g.prog g.w) A (allTrue .And es env) (EtPost g μ s F Q) (fun _ _ => False) s
  | [], μ, Q, A, F, s, h, ok, G, Fs => wpAny_allTrue_And_nil ⟨μ, F, .refl, G, h⟩
  | x :: r, μ, Q, A, F, s, h, ok, G, Fs => wpAny_allTrue_And_cons (wt_seq (by unfold EtAll at h; exact h) ok G Fs fun c μ₁ F₁ s₁ t₁ G₁ Fs₁ h₁ => by
    cases c with
    | false => exact ⟨μ₁, F₁, t₁, G₁, h₁.1 rfl⟩
    | true => exact et_post t₁ (et_and r (h₁.2 rfl) ok G₁ Fs₁))
theorem et_or : ∀ (es : List Expr) {μ Q A F s}, EtAll g env own n ρ .Or es μ Q → Ok g n A → GSt g μ F s.heap → FSt env own ρ μ F s.heap →
    wpAny (model g.prog g.w) A (allTrue .Or es env) (EtPost g μ s F Q) (fun _ _ => False) s
  | [], μ, Q, A, F, s, h, ok, G, Fs => wpAny_allTrue_Or_nil ⟨μ, F, .refl, G, h⟩
  | x :: r, μ, Q, A, F, s, h, ok, G, Fs => wpAny_allTrue_Or_cons (wt_seq (by unfold EtAll at h; exact h) ok G Fs fun c μ₁ F₁ s₁ t₁ G₁ Fs₁ h₁ => by
    cases c with
    | true => exact ⟨μ₁, F₁, t₁, G₁, h₁.1 rfl⟩
    | false => exact et_post t₁ (et_or r (h₁.2 rfl) ok G₁ Fs₁))
theorem Et.and {es pos Q} (h : EtAll g env own n ρ .And es μ Q) : Et g env own n ρ μ (.BoolOp .And es pos) Q := fun A F s ok G Fs => wpAny_isTrue_BoolOp (et_and es h ok G Fs)
theorem Et.or {es pos Q} (h : EtAll g env own n ρ .Or es μ Q) : Et g env own n ρ μ (.BoolOp .Or es pos) Q := fun A F s ok G Fs => wpAny_isTrue_BoolOp (et_or es h ok G Fs)

end

open PySem PySem.W PySem.Calls PyProof.Rows
set_option maxRecDepth 20000
section
variable {g : G} {env : Env} {own : List Addr} {n : Nat} {ρ : Str → Option D} {μ : Mu}

theorem GSt.ext {F : FM} {h h' : Heap} (G : GSt g μ F h) (e : ∀ b o, h.get? b = some o → h'.get? b = some o) : GSt g μ F h' where
  base := G.base
  fz := fun a o q => e _ _ (G.fz a o q)
  tb := fun q hq => (by obtain ⟨a, ps, b, c, d⟩ := G.tb q hq; exact ⟨a, ps, e _ _ b, c, d⟩)
  mu := fun p hp => by
    obtain ⟨a, b⟩ := G.mu p hp
    exact ⟨a, b.move (fun _ _ x => x) (fun o => e _ o)⟩
  nd := G.nd
  fzc := G.fzc
  dj := G.dj
  stk := fun x hx => (G.stk x hx).ext e

theorem GSt.stkNs {F : FM} {h : Heap} (G : GSt g μ F h) {x : Env} {a : Addr} (hx : x ∈ g.stk) (hf : x.frame = some a) : ∃ m, h.Ns a m := by
  obtain ⟨_, L, m, hf', hn, _⟩ := G.stk x hx
  rw [hf] at hf'; cases hf'; exact ⟨m, hn⟩
/-- one object that is nobody's turns -/
theorem GSt.at {F : FM} {h h' : Heap} {a : Addr} (G : GSt g μ F h) (sb : Heap.SameBut a h h') (hF : F a = none) (hm : a ∉ μ.dom) (ht : a ∉ g.tabDom) (hs : ∀ x ∈ g.stk, x.frame = some a → ∃ m', h'.Ns a m') : GSt g μ F h' := by
  have k : ∀ b o, b ≠ a → h.get? b = some o → h'.get? b = some o := fun b o hb e => (sb.2 b hb).trans e
  refine ⟨G.base, fun b o q => k b o (fun z => by rw [z, hF] at q; cases q) (G.fz b o q), fun q hq => ?_, fun p hp => ?_, G.nd, G.fzc, G.dj, fun x hx => ?_⟩
  · obtain ⟨x, ps, b, c, d⟩ := G.tb q hq
    refine ⟨x, ps, k _ _ (fun z => ht (z ▸ List.mem_map_of_mem hq)) b, c, d⟩
  · obtain ⟨x, b⟩ := G.mu p hp
    have hne : p.1 ≠ a := fun z => hm (z ▸ List.mem_map_of_mem hp)
    exact ⟨x, b.move (fun _ _ x => x) (fun o => k _ o hne)⟩
  · obtain ⟨hk, L, m, hf, hns, hF', hm'⟩ := G.stk x hx
    by_cases hL : L = a
    · subst hL; obtain ⟨m', hm2⟩ := hs x hx hf; exact ⟨hk, L, m', hf, hm2, hF', hm'⟩
    · exact ⟨hk, L, m, hf, hns.sameBut sb hL, hF', hm'⟩

noncomputable def upd (ρ : Str → Option D) (x : Str) (d : D) : Str → Option D := fun y => if y = x then some d else ρ y

theorem lookup_mem {α : Type} {l : List (Str × α)} {x : Str} {c : α} (h : l.lookup x = some c) : (x, c) ∈ l := by
  induction l with
  | nil => simp at h
  | cons p l ih =>
    obtain ⟨y, b⟩ := p
    rw [List.lookup_cons] at h
    cases hy : x == y with
    | true => rw [hy] at h; cases h; rw [eq_of_beq hy]; exact .head _
    | false => rw [hy] at h; exact .tail _ (ih h)

theorem nodup_snd {l : List (Str × Addr)} (hn : (l.map (·.2)).Nodup) {x y : Str} {c : Addr} (h1 : (x, c) ∈ l) (h2 : (y, c) ∈ l) : x = y := by
  induction l with
  | nil => cases h1
  | cons p l ih =>
    simp only [List.map_cons, List.nodup_cons] at hn
    cases h1 with
    | head => cases h2 with
      | head => rfl
      | tail _ h2 => exact absurd (List.mem_map.mpr ⟨_, h2, rfl⟩) hn.1
    | tail _ h1 => cases h2 with
      | head => exact absurd (List.mem_map.mpr ⟨_, h1, rfl⟩) hn.1
      | tail _ h2 => exact ih hn.2 h1 h2

/-- the name x can be stored to -/
noncomputable def Bindable (env : Env) (own : List Addr) (x : Str) : Prop :=
  env.kindOf x = some .local ∨ (env.kindOf x = some .cell ∧ ∃ c, env.cells.lookup x = some c ∧ c ∈ own)

set_option tactic.hygienic true in
theorem st_store {A : Around} {F : FM} {s : Shared} {x : Str} {v : Value} {d : D} {Q : Unit → Shared → Prop} {E : Value → Shared → Prop} (G : GSt g μ F s.heap) (Fs : FSt env own ρ μ F s.heap) (hv : Sees F v d) (hb : Bindable env own x)
    (h : ∀ s', Tr g own μ μ F F s s' → GSt g μ F s'.heap → FSt env own (upd ρ x d) μ F s'.heap → s'.os = s.os → Q () s') : wpAny (model g.prog g.w) A (storeName env x v) Q E s := by
  rcases hb with hk | ⟨hk, c, hl, hc⟩
  · obtain ⟨m, hm⟩ := Fs.ns
    refine wpAny_storeName_local hk hm (fun h' hn sb => h _ ?_ ?_ ?_ rfl) (by rw [Fs.ok.kind]; rfl)
    · exact ⟨fun b o e h1 _ _ => ⟨o, (sb.2 b (fun z => h1 (z ▸ Fs.ok.lown))).trans e, .refl o⟩, fun b o e => by
        by_cases hb : b = env.locals
        · subst hb; obtain ⟨o', _, _, e', _⟩ := hn; exact ⟨o', e'⟩
        · exact ⟨o, (sb.2 b hb).trans e⟩, fun _ _ e => e, (Tr.refl (g := g) (mt := own) (μ := μ) (s := s)).fr, fun _ q => .inl q, rfl, rfl⟩
    · exact G.at sb (Fs.ownF _ Fs.ok.lown) (Fs.muo _ Fs.ok.lown) (G.nsTab hm) fun _ _ _ => ⟨_, hn⟩
    · refine ⟨Fs.ok, ⟨_, hn⟩, fun y d' e => ?_, fun p hp => ?_, Fs.ownF, fun a ha => ?_, Fs.muo⟩
      · unfold upd at e
        split at e
        · rename_i hy; cases e; subst hy; exact ⟨v, .inl ⟨hk, _, hn, by simp⟩, hv⟩
        · rename_i hy
          obtain ⟨v', hv', hs'⟩ := Fs.vars y d' e
          refine ⟨v', ?_, hs'⟩
          rcases hv' with ⟨k', m', hm', e'⟩ | ⟨k', c', hc', hcell⟩
          · refine .inl ⟨k', _, hn, ?_⟩
            simp only [hy, if_false]
            obtain ⟨o1, es1, ep1, f1, f2, f3, f4⟩ := hm
            obtain ⟨o2, es2, ep2, g1, g2, g3, g4⟩ := hm'
            rw [f1] at g1; cases g1; rw [f2] at g2; cases g2
            rw [← f4 y, g4 y]; exact e'
          · refine .inr ⟨k', c', hc', hcell.sameBut sb fun z => ?_⟩
            subst z
            obtain ⟨o1, e1, d1⟩ := hcell; obtain ⟨o2, _, _, e2, d2, _⟩ := hm; rw [e1] at e2; cases e2; rw [d1] at d2; cases d2
      · obtain ⟨v', hc'⟩ := Fs.cells p hp
        refine ⟨v', hc'.sameBut sb fun z => ?_⟩
        obtain ⟨o1, e1, d1⟩ := hc'; obtain ⟨o2, _, _, e2, d2, _⟩ := hm; rw [z] at e1; rw [e1] at e2; cases e2; rw [d1] at d2; cases d2
      · by_cases hb : a = env.locals
        · subst hb; obtain ⟨o', _, _, e', _⟩ := hn; exact ⟨o', e'⟩
        · obtain ⟨o, e⟩ := Fs.live a ha; exact ⟨o, (sb.2 a hb).trans e⟩
  · have hcm := lookup_mem hl
    obtain ⟨v₀, hc0⟩ := Fs.cells _ hcm
    refine wpAny_storeName_cell Fs.ok.kind hk hl hc0 fun h' hn sb => h _ ?_ ?_ ?_ rfl
    · exact ⟨fun b o e h1 _ _ => ⟨o, (sb.2 b (fun z => h1 (z ▸ hc))).trans e, .refl o⟩, fun b o e => by
        by_cases hb : b = c
        · subst hb; obtain ⟨o', e', _⟩ := hn; exact ⟨o', e'⟩
        · exact ⟨o, (sb.2 b hb).trans e⟩, fun _ _ e => e, (Tr.refl (g := g) (mt := own) (μ := μ) (s := s)).fr, fun _ q => .inl q, rfl, rfl⟩
    · exact G.at sb (Fs.ownF _ hc) (Fs.muo _ hc) (G.cellFree hc0).2 fun x hx hf => by
        obtain ⟨m, o2, _, _, e2, d2, _⟩ := G.stkNs hx hf; obtain ⟨o1, e1, d1⟩ := hc0; rw [e1] at e2; cases e2; rw [d1] at d2; cases d2
    · have hlc : env.locals ≠ c := fun z => by
        obtain ⟨m, o2, _, _, e2, d2, _⟩ := Fs.ns; obtain ⟨o1, e1, d1⟩ := hc0; rw [z] at e2; rw [e1] at e2; cases e2; rw [d1] at d2; cases d2
      refine ⟨Fs.ok, ?_, fun y d' e => ?_, fun p hp => ?_, Fs.ownF, fun a ha => ?_, Fs.muo⟩
      · obtain ⟨m, hm⟩ := Fs.ns; exact ⟨m, hm.sameBut sb hlc⟩
      · unfold upd at e
        split at e
        · rename_i hy; cases e; subst hy; exact ⟨v, .inr ⟨.inl hk, c, hl, hn⟩, hv⟩
        · rename_i hy
          obtain ⟨v', hv', hs'⟩ := Fs.vars y d' e
          refine ⟨v', ?_, hs'⟩
          rcases hv' with ⟨k', m', hm', e'⟩ | ⟨k', c', hc', hcell⟩
          · exact .inl ⟨k', m', hm'.sameBut sb hlc, e'⟩
          · exact .inr ⟨k', c', hc', hcell.sameBut sb fun z => hy (nodup_snd Fs.ok.cnd (lookup_mem hc') (z ▸ hcm))⟩
      · by_cases hb : p.2 = c
        · exact ⟨_, hb ▸ hn⟩
        · obtain ⟨v', hc'⟩ := Fs.cells p hp; exact ⟨v', hc'.sameBut sb hb⟩
      · by_cases hb : a = c
        · subst hb; obtain ⟨o', e', _⟩ := hn; exact ⟨o', e'⟩
        · obtain ⟨o, e⟩ := Fs.live a ha; exact ⟨o, (sb.2 a hb).trans e⟩

theorem ExPost.trans {μ₁ s s₁ F F₁ Q v s'} (t : Tr g own μ μ₁ F F₁ s s₁) (h : ExPost g env own μ₁ s₁ F₁ Q v s') : ExPost g env own μ s F Q v s' :=
  (by obtain ⟨f, ρ', μ', F', t', a, b, c, d⟩ := h; exact ⟨f, ρ', μ', F', t.trans t', a, b, c, d⟩)
theorem ex_weak {A : Around} {μ₁ s s₁ F F₁ Q} {t : Sem Flow} (tr : Tr g own μ μ₁ F F₁ s s₁)
    (h : wpAny (model g.prog g.w) A t (ExPost g env own μ₁ s₁ F₁ Q) (fun _ _ => False) s₁) : wpAny (model g.prog g.w) A t (ExPost g env own μ s F Q) (fun _ _ => False) s₁ :=
  wpAny_mono h (fun _ _ p => p.trans tr) fun _ _ x => x

theorem Ex.nil {Q} (h : Q .next ρ μ) : Ex g env own n ρ μ [] Q := fun A F s ok G Fs => wpAny_execs_nil ⟨.next, ρ, μ, F, .refl, G, Fs, trivial, h⟩
noncomputable abbrev XQ := Fl → (Str → Option D) → Mu → Prop
noncomputable abbrev Seq (g : G) (env : Env) (own : List Addr) (n : Nat) (rest : List Stmt) (Q : XQ) : XQ := fun f ρ₁ μ₁ => (f = .next → Ex g env own n ρ₁ μ₁ rest Q) ∧ (f ≠ .next → Q f ρ₁ μ₁)
noncomputable abbrev RetK (ρ : Str → Option D) (Q : XQ) : D → Mu → Prop := fun d μ₁ => Q (.ret d) ρ μ₁
noncomputable abbrev BrX (g : G) (env : Env) (own : List Addr) (n : Nat) (ρ : Str → Option D) (b o : List Stmt) (Q : XQ) : Bool → Mu → Prop := fun c μ₁ => (c = true → Ex g env own n ρ μ₁ b Q) ∧ (c = false → Ex g env own n ρ μ₁ o Q)
noncomputable abbrev AsgK (ρ : Str → Option D) (x : Str) (Q : XQ) : D → Mu → Prop := fun d μ₁ => Q .next (upd ρ x d) μ₁
noncomputable abbrev ExprK (ρ : Str → Option D) (Q : XQ) : D → Mu → Prop := fun d μ₁ => d = .none ∧ Q .next ρ μ₁
theorem Ex.cons {st rest Q} (h : Ex1 g env own n ρ μ st (Seq g env own n rest Q)) : Ex g env own n ρ μ (st :: rest) Q := fun A F s ok G Fs =>
  wpAny_execs_cons (wpAny_mono (h A F s ok G Fs) (by
    rintro fl s₁ ⟨f, ρ₁, μ₁, F₁, t, G₁, Fs₁, sf, h₁⟩
    cases fl <;> cases f <;> first | exact sf.elim | exact ex_weak t (h₁.1 rfl A F₁ s₁ ok G₁ Fs₁) | exact ⟨_, ρ₁, μ₁, F₁, t, G₁, Fs₁, sf, h₁.2 (by intro x; cases x)⟩) fun _ _ x => x)
theorem Ex1.ret {e pos Q} (h : Ev g env own n ρ μ e (RetK ρ Q)) : Ex1 g env own n ρ μ (.Return (some e) pos) Q := fun A F s ok G Fs =>
  wpAny_Return_some (wp_seq h ok G Fs fun v d μ₁ F₁ s₁ t G₁ Fs₁ sv h₁ => ⟨.ret d, ρ, μ₁, F₁, t.toOwn, G₁, Fs₁, sv, h₁⟩)
theorem Ex1.ite {t b o pos Q} (h : Et g env own n ρ μ t (BrX g env own n ρ b o Q)) : Ex1 g env own n ρ μ (.If t b o pos) Q := fun A F s ok G Fs =>
  wpAny_If (wt_seq h ok G Fs fun c μ₁ F₁ s₁ t₁ G₁ Fs₁ h₁ => by
    cases c with
    | true => exact ex_weak t₁.toOwn (h₁.1 rfl A F₁ s₁ ok G₁ Fs₁)
    | false => exact ex_weak t₁.toOwn (h₁.2 rfl A F₁ s₁ ok G₁ Fs₁))
theorem Ex1.assign {x p e pos Q} (h : Ev g env own n ρ μ e (AsgK ρ x Q)) (hb : Bindable env own x)
    (hs : swapsWith e (some (.Name x p)) pos.line env = pure false := by rfl) : Ex1 g env own n ρ μ (.Assign [.Name x p] e pos) Q := fun A F s ok G Fs =>
  wpAny_Assign_Name (hs := hs) (wp_seq h ok G Fs fun v d μ₁ F₁ s₁ t G₁ Fs₁ sv h₁ => st_store G₁ Fs₁ sv hb fun s₂ t₂ G₂ Fs₂ _ => ⟨.next, _, μ₁, F₁, t.toOwn.trans t₂, G₂, Fs₂, trivial, h₁⟩)
theorem Ex1.expr {e pos Q} (h : Ev g env own n ρ μ e (ExprK ρ Q))
    (hs : swapsWith e none pos.line env = pure false := by rfl) : Ex1 g env own n ρ μ (.Expr e pos) Q := fun A F s ok G Fs =>
  wpAny_Expr (hs := hs) (hi := by unfold interactive; rw [Fs.ok.kind]; rfl) (wp_seq h ok G Fs fun v d μ₁ F₁ s₁ t G₁ Fs₁ sv h₁ => by
    obtain ⟨rfl, h₁⟩ := h₁
    obtain rfl := Sees.noneI sv
    exact ⟨.next, ρ, μ₁, F₁, t.toOwn, G₁, Fs₁, trivial, h₁⟩)
theorem Ex1.brk {pos Q} (h : Q .brk ρ μ) : Ex1 g env own n ρ μ (.Break pos) Q := fun A F s ok G Fs => wpAny_Break ⟨.brk, ρ, μ, F, .refl, G, Fs, trivial, h⟩

/-- a while by an invariant and a measure -/
theorem Ex1.while {test body pos Q} (I : Nat → (Str → Option D) → Mu → Prop) (k : Nat) (h0 : I k ρ μ)
    (turn : ∀ k ρ μ, I k ρ μ → Et g env own n ρ μ test fun c μ₁ =>
      (c = true → Ex g env own n ρ μ₁ body fun f ρ₂ μ₂ => match f with
        | .next => ∃ k', k' < k ∧ I k' ρ₂ μ₂
        | .cont => ∃ k', k' < k ∧ I k' ρ₂ μ₂
        | .brk => Q .next ρ₂ μ₂
        | .ret d => Q (.ret d) ρ₂ μ₂) ∧
      (c = false → Q .next ρ μ₁)) : Ex1 g env own n ρ μ (.While test body [] pos) Q := fun A F s ok G Fs => by
  refine wpAny_While (codeAny_whileLoop (fun k s' => ∃ ρ' μ' F', Tr g own μ μ' F F' s s' ∧ GSt g μ' F' s'.heap ∧ FSt env own ρ' μ' F' s'.heap ∧ I k ρ' μ') ?_ k ⟨ρ, μ, F, .refl, G, Fs, h0⟩)
  rintro k s₁ ⟨ρ₁, μ₁, F₁, t₁, G₁, Fs₁, hI⟩
  refine wt_seq (turn k ρ₁ μ₁ hI) ok G₁ Fs₁ fun c μ₂ F₂ s₂ t₂ G₂ Fs₂ h₂ => ?_
  cases c with
  | false => exact wpAny_execs_nil ⟨.next, ρ₁, μ₂, F₂, t₁.trans t₂.toOwn, G₂, Fs₂, trivial, h₂.2 rfl⟩
  | true =>
    refine wpAny_mono (h₂.1 rfl A F₂ s₂ ok G₂ Fs₂) ?_ fun _ _ x => x.elim
    rintro fl s₃ ⟨f, ρ₃, μ₃, F₃, t₃, G₃, Fs₃, sf, h₃⟩
    have t := (t₁.trans t₂.toOwn).trans t₃
    cases fl <;> cases f <;> first
      | exact sf.elim
      | (obtain ⟨k', hk, hI'⟩ := h₃; exact ⟨k', hk, ρ₃, μ₃, F₃, t, G₃, Fs₃, hI'⟩)
      | exact ⟨_, ρ₃, μ₃, F₃, t, G₃, Fs₃, sf, h₃⟩
      | exact ⟨.next, ρ₃, μ₃, F₃, t, G₃, Fs₃, trivial, h₃⟩
end

open PySem PySem.W PySem.Calls PyProof.Rows
set_option maxRecDepth 20000
section
variable {g : G} {env : Env} {own : List Addr} {n : Nat} {ρ : Str → Option D} {μ : Mu}

noncomputable def plainE : Expr → Bool
  | .Starred .. => false
  | _ => true
theorem plainE_star {e : Expr} (h : plainE e = true) (rest : List Expr) (env : Env) : starEach (e :: rest) env = (false, eval e env) :: starEach rest env := by
  cases e <;> first | rfl | cases h

noncomputable def EvL (g : G) (env : Env) (own : List Addr) (n : Nat) (ρ : Str → Option D) : List Expr → Mu → (List D → Mu → Prop) → Prop
  | [], μ, Q => Q [] μ
  | e :: r, μ, Q => plainE e = true ∧ Ev g env own n ρ μ e fun d μ₁ => EvL g env own n ρ r μ₁ fun ds μ₂ => Q (d :: ds) μ₂
noncomputable def EvK (g : G) (env : Env) (own : List Addr) (n : Nat) (ρ : Str → Option D) : List Keyword → Mu → (List (Str × D) → Mu → Prop) → Prop
  | [], μ, Q => Q [] μ
  | ⟨some x, e, _⟩ :: r, μ, Q => Ev g env own n ρ μ e fun d μ₁ => EvK g env own n ρ r μ₁ fun ks μ₂ => Q ((x, d) :: ks) μ₂
  | ⟨Option.none, _, _⟩ :: _, _, _ => False

inductive LPost (g : G) (μ : Mu) (s : Shared) (F : FM) (Q : List D → Mu → Prop) (vs : List Value) (s' : Shared) : Prop
  | mk (ds : List D) (μ' : Mu) (F' : FM) (t : Tr g [] μ μ' F F' s s') (G' : GSt g μ' F' s'.heap) (sa : SeesAll F' vs ds) (q : Q ds μ')

theorem evl {pos : Pos} {A : Around} (ok : Ok g n A) : ∀ (es : List Expr) {μ Q F s}, EvL g env own n ρ es μ Q → GSt g μ F s.heap → FSt env own ρ μ F s.heap →
    wpAny (model g.prog g.w) A (spliced (backTo pos (starEach es env))) (LPost g μ s F Q) (fun _ _ => False) s
  | [], μ, Q, F, s, h, G, Fs => wpAny_items_nil ⟨[], μ, F, .refl, G, .nil, h⟩
  | e :: r, μ, Q, F, s, h, G, Fs => by
    obtain ⟨hp, h⟩ := h
    refine wpAny_items_cons (wp_seq h ok G Fs fun v d μ₁ F₁ s₁ t₁ G₁ Fs₁ sv h₁ => ?_) (plainE_star hp r env)
    refine wpAny_mono (evl ok r h₁ G₁ Fs₁) ?_ fun _ _ x => x
    rintro vs s₂ ⟨ds, μ₂, F₂, t₂, G₂, sds, h₂⟩
    exact ⟨d :: ds, μ₂, F₂, t₁.trans t₂, G₂, .cons (sv.mono t₂.le) sds, h₂⟩

inductive KPost (g : G) (μ : Mu) (s : Shared) (F : FM) (kws : List Keyword) (Q : List (Str × D) → Mu → Prop) (vs : List Value) (s' : Shared) : Prop
  | mk (ks : List (Str × D)) (μ' : Mu) (F' : FM) (t : Tr g [] μ μ' F F' s s') (G' : GSt g μ' F' s'.heap) (sa : SeesAll F' vs (ks.map (·.2))) (e : kws.filterMap (·.arg) = ks.map (·.1)) (q : Q ks μ')
theorem evk {pos : Pos} {A : Around} (ok : Ok g n A) : ∀ (kws : List Keyword) {μ Q F s}, EvK g env own n ρ kws μ Q → GSt g μ F s.heap → FSt env own ρ μ F s.heap →
    wpAny (model g.prog g.w) A (evalAll ((backToKw pos (keywordEach kws env)).map (·.2))) (KPost g μ s F kws Q) (fun _ _ => False) s
  | [], μ, Q, F, s, h, G, Fs => kwAll_nil ⟨[], μ, F, .refl, G, .nil, rfl, h⟩
  | ⟨some x, e, p⟩ :: r, μ, Q, F, s, h, G, Fs => by
    refine kwAll_cons (wp_seq h ok G Fs fun v d μ₁ F₁ s₁ t₁ G₁ Fs₁ sv h₁ => ?_)
    refine wpAny_mono (evk ok r h₁ G₁ Fs₁) ?_ fun _ _ x => x
    rintro vs s₂ ⟨ks, μ₂, F₂, t₂, G₂, sds, hn, h₂⟩
    exact ⟨(x, d) :: ks, μ₂, F₂, t₁.trans t₂, G₂, .cons (sv.mono t₂.le) sds, by simp [hn], h₂⟩
  | ⟨Option.none, e, p⟩ :: r, μ, Q, F, s, h, G, Fs => h.elim
theorem kws_some {pos : Pos} (env : Env) : ∀ (r : List Keyword), r.all (·.arg.isSome) = true → (backToKw pos (keywordEach r env)).all (·.1.isSome) = true ∧ (backToKw pos (keywordEach r env)).any (·.1.isNone) = false
        ∧ (backToKw pos (keywordEach r env)).filterMap (·.1) = r.filterMap (·.arg)
  | [], _ => ⟨rfl, rfl, rfl⟩
  | ⟨some y, e, p⟩ :: r, h => by
    obtain ⟨a, b, c⟩ := kws_some (pos := pos) env r (by simpa using h)
    refine ⟨?_, ?_, ?_⟩
    · show (true && (backToKw pos (keywordEach r env)).all (·.1.isSome)) = true; rw [a]; rfl
    · show (false || (backToKw pos (keywordEach r env)).any (·.1.isNone)) = false; rw [b]; rfl
    · show y :: (backToKw pos (keywordEach r env)).filterMap (·.1) = y :: r.filterMap (·.arg); rw [c]
  | ⟨Option.none, e, p⟩ :: r, h => by simp at h
theorem args_plain {pos : Pos} (env : Env) : ∀ (r : List Expr), r.all plainE = true → (backTo pos (starEach r env)).any (·.1) = false
  | [], _ => rfl
  | e :: r, h => by
    simp only [List.all_cons, Bool.and_eq_true] at h
    rw [plainE_star h.1]
    show (false || (backTo pos (starEach r env)).any (·.1)) = false
    rw [args_plain env r h.2]; rfl

/-- who keeps the values while the callee runs -/
noncomputable def KeepB (base : Heap) (f : D) : Prop := ∀ (M : Model) (F : FM) (fv : Value) (h : Heap), (∀ a o, base.get? a = some o → F a = some o) → (∀ a o, F a = some o → h.get? a = some o) → Sees F fv f →
  ∃ k, (k = Keeper.frame ∨ k = Keeper.machine ∨ k = Keeper.boundFrame) ∧ Looks M h (keeperOf fv) k
noncomputable abbrev KeepD (g : G) (f : D) : Prop := KeepB g.base f
theorem KeepD.builtin {id : String} : KeepD g (.val (.builtin id)) := fun M F fv h _ _ sv => by obtain rfl := Sees.valI sv; exact ⟨.machine, .inr (.inl rfl), .now⟩
theorem KeepD.type {t : String} : KeepD g (.val (.type t)) := fun M F fv h _ _ sv => by obtain rfl := Sees.valI sv; exact ⟨.machine, .inr (.inl rfl), .now⟩
theorem KeepD.fn {a : Addr} (hk : keepIn g.K (.ref a) = true) : KeepD g (.val (.ref a)) := fun M F fv h hb hf sv => by
  obtain rfl := Sees.valI sv
  obtain ⟨k, a, b⟩ := looks_keep (M := M) hk (g.X.keeps fun b o e => hf _ _ (hb _ _ e))
  exact ⟨k, a.elim .inl (fun e => .inr (.inl e)), b⟩
theorem KeepD.clo {q ps b sc cd cp} : KeepD g (.clo q ps b sc cd cp) := fun M F fv h hb hf sv => by
  obtain @⟨_, _, _, _, _, _, e, d, _, _, _⟩ := Sees.cloI sv
  exact ⟨.frame, .inl rfl, (Looks.ld (part := none) (hf _ _ e)).andThen (by rw [d]; exact .now)⟩

/-- the arguments, then the call: any callWith of the frame's -/
theorem callWith_P {pos : Pos} {A : Around} {F s fv f args kws} {P E : Value → Shared → Prop} (hk : KeepD g f) (hp : args.all plainE = true) (hs : kws.all (·.arg.isSome) = true) (ok : Ok g n A) (G : GSt g μ F s.heap) (Fs : FSt env own ρ μ F s.heap)
    (sf : Sees F fv f) {Q : List D → List (Str × D) → Mu → Prop} (h : EvL g env own n ρ args μ fun ds μ₁ => EvK g env own n ρ kws μ₁ fun ks μ₂ => Q ds ks μ₂)
    (fin : ∀ vs kvs ds ks μ₂ F₂ s₂, Tr g [] μ μ₂ F F₂ s s₂ → GSt g μ₂ F₂ s₂.heap → FSt env own ρ μ₂ F₂ s₂.heap → Sees F₂ fv f → SeesAll F₂ vs ds → SeesAll F₂ (kvs.map (·.2)) (ks.map (·.2)) → kvs.map (·.1) = ks.map (·.1) → Q ds ks μ₂ →
      wpAny (model g.prog g.w) A (call fv vs kvs) P E s₂) :
    wpAny (model g.prog g.w) A (callWith pos fv [] (backTo pos (starEach args env)) (backToKw pos (keywordEach kws env))) P E s := by
  obtain ⟨k1, k2, k3⟩ := kws_some (pos := pos) env kws hs
  refine callWith_of (P := fun h => ∃ F', (∀ a o, g.base.get? a = some o → F' a = some o) ∧ (∀ a o, F' a = some o → h.get? a = some o) ∧ Sees F' fv f) (by rw [args_plain env args hp, k2]; rfl)
    ((by rintro h ⟨F', a, b, c⟩; exact hk _ F' fv h a b c)) ?_
  have fin : wpAny (model g.prog g.w) A (spliced (backTo pos (starEach args env))) (fun vs s₁ => wpAny (model g.prog g.w) A (evalAll ((backToKw pos (keywordEach kws env)).map (·.2)))
      (fun ks s₂ => (∃ F', (∀ a o, g.base.get? a = some o → F' a = some o) ∧ (∀ a o, F' a = some o → s₂.heap.get? a = some o) ∧ Sees F' fv f) ∧
        wpAny (model g.prog g.w) A (call fv ([] ++ vs) (((backToKw pos (keywordEach kws env)).filterMap (·.1)).zip ks)) P E s₂) E s₁) E s := by
    refine wpAny_mono (evl ok args h G Fs) ?_ fun _ _ x => x.elim
    rintro vs s₁ ⟨ds, μ₁, F₁, t₁, G₁, sds, h₁⟩
    refine wpAny_mono (evk ok kws h₁ G₁ (Fs.tr G t₁ G₁)) ?_ fun _ _ x => x.elim
    rintro ks s₂ ⟨kd, μ₂, F₂, t₂, G₂, sks, hn, h₂⟩
    have t := t₁.trans t₂
    refine ⟨⟨F₂, G₂.base, G₂.fz, sf.mono t.le⟩, ?_⟩
    rw [k3, hn]
    have hl : (kd.map (·.1)).length = ks.length := by have := sks.length; simp at this; simp [this]
    refine fin vs _ ds kd μ₂ F₂ s₂ t G₂ (Fs.tr G t G₂) (sf.mono t.le) (sds.mono t₂.le) ?_ ?_ h₂
    · rw [List.map_snd_zip (by lia)]; exact sks
    · rw [List.map_fst_zip (by lia)]
  cases args with
  | nil => exact evalArgs_kw2_nil k1 (by
      have : spliced (backTo pos (starEach [] env)) = (pure [] : Sem (List Value)) := rfl
      rw [this] at fin
      intro Γ p hΓ
      exact fin Γ p hΓ Γ p hΓ)
  | cons e r =>
    simp only [List.all_cons, Bool.and_eq_true] at hp
    exact evalArgs_kw2 k1 fin (plainE_star hp.1 r env)
theorem callWith_D {pos : Pos} {A : Around} {F s fv f args kws Q} (hk : KeepD g f) (hp : args.all plainE = true) (hs : kws.all (·.arg.isSome) = true) (ok : Ok g n A) (G : GSt g μ F s.heap) (Fs : FSt env own ρ μ F s.heap)
    (sf : Sees F fv f) (h : EvL g env own n ρ args μ fun ds μ₁ => EvK g env own n ρ kws μ₁ fun ks μ₂ => Calls g n f ds ks μ₂ Q) :
    wpAny (model g.prog g.w) A (callWith pos fv [] (backTo pos (starEach args env)) (backToKw pos (keywordEach kws env))) (EvPost g μ s F Q) (fun _ _ => False) s :=
  callWith_P hk hp hs ok G Fs sf h fun vs kvs ds ks μ₂ F₂ s₂ t G₂ Fs₂ sf₂ sds sks hn hc => post_weak t (hc A F₂ s₂ fv vs kvs ok G₂ sf₂ sds sks hn)

noncomputable abbrev CK3 (g : G) (n : Nat) (f : D) (ds : List D) (Q : D → Mu → Prop) : List (Str × D) → Mu → Prop := fun ks μ₃ => Calls g n f ds ks μ₃ Q
noncomputable abbrev CK2 (g : G) (env : Env) (own : List Addr) (n : Nat) (ρ : Str → Option D) (kws : List Keyword) (f : D) (Q : D → Mu → Prop) : List D → Mu → Prop := fun ds μ₂ => EvK g env own n ρ kws μ₂ (CK3 g n f ds Q)
noncomputable abbrev CK1 (g : G) (env : Env) (own : List Addr) (n : Nat) (ρ : Str → Option D) (args : List Expr) (kws : List Keyword) (Q : D → Mu → Prop) : D → Mu → Prop := fun f μ₁ => KeepD g f ∧ EvL g env own n ρ args μ₁ (CK2 g env own n ρ kws f Q)
theorem Ev.call {func args kws pos Q} (h : Ev g env own n ρ μ func (CK1 g env own n ρ args kws Q))
    (he : eval (.Call func args kws pos) env = (do callWith pos (← eval func env) [] (backTo pos (starEach args env)) (backToKw pos (keywordEach kws env))) := by rfl)
    (hp : args.all plainE = true := by rfl) (hs : kws.all (·.arg.isSome) = true := by rfl) : Ev g env own n ρ μ (.Call func args kws pos) Q := fun A F s ok G Fs => by
  rw [he]
  exact wpAny_bind (wp_seq h ok G Fs fun fv f μ₁ F₁ s₁ t₁ G₁ Fs₁ sf h₁ => post_weak t₁ (callWith_D h₁.1 hp hs ok G₁ Fs₁ sf h₁.2))

/-! entering a def of the text -/
noncomputable def ownOf (fd : FuncData) (L : Addr) : List Addr := L :: (cellsFrom (L + 1) fd.scope.names []).map (·.2)
noncomputable def rho (bd : List (Str × D)) : Str → Option D := fun x => bd.lookup x

theorem rho_hit {x d l} : rho ((x, d) :: l) x = some d := by simp [rho, List.lookup_cons]
theorem rho_miss {x y d e l} (h : y ≠ x) (k : rho l y = some e) : rho ((x, d) :: l) y = some e := by
  unfold rho at *
  rw [List.lookup_cons, beq_eq_false_iff_ne.mpr h]; exact k

theorem bindL_get {k : Str → Option NameKind} : ∀ (binds : List (Str × Value)) (m : Str → Option Value) {x v}, (x, v) ∈ binds → (binds.map (·.1)).Nodup → k x = some .local → bindL k binds m x = some v := by
  have keepIt : ∀ (binds : List (Str × Value)) (m : Str → Option Value) {x}, x ∉ binds.map (·.1) → bindL k binds m x = m x := by
    intro binds
    induction binds with
    | nil => intro m x _; rfl
    | cons p r ih =>
      intro m x hx
      obtain ⟨y, v⟩ := p
      simp only [List.map_cons, List.mem_cons, not_or] at hx
      unfold bindL
      rw [ih _ hx.2]
      split <;> simp [hx.1]
  intro binds
  induction binds with
  | nil => intro m x v h; cases h
  | cons p r ih =>
    intro m x v h hn hk
    obtain ⟨y, u⟩ := p
    simp only [List.map_cons, List.nodup_cons] at hn
    unfold bindL
    cases h with
    | head => rw [keepIt _ _ hn.1]; simp [hk]
    | tail _ h => exact ih _ h hn.2 hk
theorem bindC_get {k : Str → Option NameKind} : ∀ (binds : List (Str × Value)) (m : Str → Option Value) {x v}, (x, v) ∈ binds → (binds.map (·.1)).Nodup → k x ≠ some .local → bindC k binds m x = some v := by
  have keepIt : ∀ (binds : List (Str × Value)) (m : Str → Option Value) {x}, x ∉ binds.map (·.1) → bindC k binds m x = m x := by
    intro binds
    induction binds with
    | nil => intro m x _; rfl
    | cons p r ih =>
      intro m x hx
      obtain ⟨y, v⟩ := p
      simp only [List.map_cons, List.mem_cons, not_or] at hx
      unfold bindC
      rw [ih _ hx.2]
      split <;> simp [hx.1]
  intro binds
  induction binds with
  | nil => intro m x v h; cases h
  | cons p r ih =>
    intro m x v h hn hk
    obtain ⟨y, u⟩ := p
    simp only [List.map_cons, List.nodup_cons] at hn
    unfold bindC
    cases h with
    | head => rw [keepIt _ _ hn.1]; simp [hk]
    | tail _ h => exact ih _ h hn.2 hk

/-- what binds say of data -/
inductive SeesB (F : FM) : List (Str × Value) → List (Str × D) → Prop
  | nil : SeesB F [] []
  | cons {x v d bs ds} : Sees F v d → SeesB F bs ds → SeesB F ((x, v) :: bs) ((x, d) :: ds)
theorem SeesB.names {F : FM} {bs ds} (h : SeesB F bs ds) : bs.map (·.1) = ds.map (·.1) := by
  induction h with
  | nil => rfl
  | cons _ _ i => exact congrArg (_ :: ·) i
theorem SeesB.get {F : FM} {bs ds} (h : SeesB F bs ds) {x d} (e : ds.lookup x = some d) : ∃ v, (x, v) ∈ bs ∧ Sees F v d := by
  induction h with
  | nil => cases e
  | @cons y _ _ _ _ sv _ i =>
    rw [List.lookup_cons] at e
    cases hy : x == y with
    | true => rw [hy] at e; cases e; rw [eq_of_beq hy]; exact ⟨_, .head _, sv⟩
    | false => rw [hy] at e; obtain ⟨v, h1, h2⟩ := i e; exact ⟨v, .tail _ h1, h2⟩

/-- how a call's arguments are bound, as data -/
noncomputable def Binds (g : G) (fd : FuncData) (args : List D) (kws : List (Str × D)) (bd : List (Str × D)) : Prop :=
  ∀ (F : FM) (s : Shared) vs kvs, g.K.In s.heap → SeesAll F vs args → SeesAll F (kvs.map (·.2)) (kws.map (·.2)) → kvs.map (·.1) = kws.map (·.1) → ∃ bs, BindsTo s fd ⟨vs, kvs⟩ bs ∧ SeesB F bs bd

theorem kw_lookup_nodup {l : List (Str × Addr)} : l.Pairwise (fun x y => x.2 ≠ y.2) → (l.map (·.2)).Nodup := fun h => by
  induction l with
  | nil => simp
  | cons p l ih =>
    rw [List.pairwise_cons] at h
    simp only [List.map_cons, List.nodup_cons]
    exact ⟨fun q => by obtain ⟨r, hr, e⟩ := List.mem_map.mp q; exact h.1 r hr e.symm, ih h.2⟩

theorem Calls.enter {fa : Addr} {fo : Obj} {fd : FuncData} {body : List Stmt} {args kws bd Q} (hK : g.K.lookup fa = some fo) (hfo : fo.data = .func fd) (hbody : fd.body = .stmts body) (hclo : fd.closure = [])
    (hglob : fd.globals = mainGlobals) (hblt : fd.builtins = builtinsNs) (hcode : codeIn g.K fd.code fd.qualname = true) (hco : fd.scope.isCoroutine = false) (hgen : fd.scope.isGenerator = false) (hk : fd.scope.kind = .function)
    (hb : Binds g fd args kws bd) {nm : List Str} (hnm : bd.map (·.1) = nm)
    (hnames : (nm.all fun y => fd.scope.names.lookup y == some .local || fd.scope.names.lookup y == some .cell) = true) (hnd : nm.Nodup)
    (hcn : ((cellsFrom 0 fd.scope.names []).map (·.1)).Nodup)
    (h : ∀ env own L, env = callEnvC fd L fa → own = ownOf fd L → Ex (g.push env) env own n (rho bd) μ body fun f _ μ' => match f with
      | .ret d => Q d μ'
      | .next => Q .none μ'
      | _ => False) : Calls g (n + 1) (.val (.ref fa)) args kws μ Q := fun A F s fv vs kvs ok G sf sa sk hkn => by
  obtain rfl := Sees.valI sf
  subst hnm
  have hX : g.K.In s.heap := g.X.keeps G.keep
  obtain ⟨bs, hbs, sb⟩ := hb F s vs kvs hX sa sk hkn
  have hbn := sb.names
  refine wpAny_call (codeAny_call_function ok.room (hX _ _ hK) hfo hco hgen hbody (codeRec_of hX hcode) ?_)
  rw [hclo]
  have hlook : ∀ x v, (x, v) ∈ bs → fd.scope.names.lookup x = some .local ∨ fd.scope.names.lookup x = some .cell := fun x v hx => by
    have : x ∈ bd.map (·.1) := hbn ▸ List.mem_map.mpr ⟨_, hx, rfl⟩
    obtain ⟨y, hy, rfl⟩ := List.mem_map.mp this
    have := List.all_eq_true.mp hnames _ (List.mem_map_of_mem hy)
    rcases Bool.or_eq_true_iff.mp this with q | q
    · exact .inl (by simpa using q)
    · exact .inr (by simpa using q)
  refine hbs _ _ _ _ (wpAny_newFunctionEnv_cells hk (fun x hx => ?_) fun env' he s₁ x => ?_)
  · rcases hlook _ _ hx with q | q
    · exact .inl q
    · exact .inr ⟨q, cellsFrom_some _ _ _ (.inl q)⟩
  have hE : env' = callEnvC fd s.heap.objs.size fa := he
  subst hE
  refine ⟨(g.T.nolimit.keeps fun b o e => x.toInCall.keep b o (G.keep b o e)), codeAny_func ?_⟩
  obtain ⟨h₁, tk, rfl, _⟩ := x.done
  have kp := x.toInCall.keep
  have hG : GSt g μ F h₁ := G.ext kp
  have hsz : ∀ a o, s.heap.get? a = some o → a < s.heap.objs.size := fun a o e => Heap.lt_size e
  have hno : ∀ a ∈ ownOf fd s.heap.objs.size, s.heap.get? a = none := fun a ha => by
    cases hq : s.heap.get? a with
    | none => rfl
    | some o =>
      have hlt := hsz _ _ hq
      cases ha with
      | head => exact absurd hlt (Nat.lt_irrefl _)
      | tail _ ha =>
        obtain ⟨p, hp, rfl⟩ := List.mem_map.mp ha
        have := x.above p.1 p.2 hp
        exact absurd (Nat.lt_trans this hlt) (Nat.lt_irrefl _)
  have hnl : ∀ x c, (x, c) ∈ (callEnvC fd s.heap.objs.size fa).cells → (callEnvC fd s.heap.objs.size fa).cells.lookup x = some c := fun y c hm =>
    lookup_of_mem_nodup (cellsFrom_names fd.scope.names 0 (s.heap.objs.size + 1) [] [] rfl ▸ hcn) hm
  have hFs : FSt (callEnvC fd s.heap.objs.size fa) (ownOf fd s.heap.objs.size) (rho bd) μ F h₁ := by
    refine ⟨⟨hk, hglob, hblt, .head _, kw_lookup_nodup x.apart⟩, ⟨_, x.toInCall.ns⟩, fun y d e => ?_, fun p hp => ⟨_, x.cell _ _ (hnl p.1 p.2 hp)⟩, fun a ha => ?_, fun a ha => ?_, fun a ha q => ?_⟩
    · obtain ⟨v, hv, sv⟩ := sb.get e
      refine ⟨v, ?_, sv⟩
      rcases hlook _ _ hv with q | q
      · exact .inl ⟨q, _, x.toInCall.ns, bindL_get _ _ hv (hbn ▸ hnd) q⟩
      · have hs := cellsFrom_some (x := y) fd.scope.names (s.heap.objs.size + 1) [] (.inl q)
        obtain ⟨c, hc⟩ := Option.isSome_iff_exists.mp hs
        refine .inr ⟨.inl q, c, hc, ?_⟩
        have := x.cell y c hc
        rwa [bindC_get _ _ hv (hbn ▸ hnd) (by show fd.scope.names.lookup y ≠ _; rw [q]; decide)] at this
    · cases hq : F a with
      | none => rfl
      | some o => have := G.fz _ _ hq; rw [hno a ha] at this; cases this
    · cases ha with
      | head => obtain ⟨o, _, _, e, _⟩ := x.toInCall.ns; exact ⟨o, e⟩
      | tail _ ha => obtain ⟨p, hp, rfl⟩ := List.mem_map.mp ha; obtain ⟨o, e, _⟩ := x.cell _ _ (hnl p.1 p.2 hp); exact ⟨o, e⟩
    · obtain ⟨p, hp, rfl⟩ := List.mem_map.mp q
      obtain ⟨_, b⟩ := G.mu p hp
      obtain ⟨o, e1⟩ := b.live
      rw [hno _ ha] at e1; cases e1
  have hfr : FrL (callEnvC fd s.heap.objs.size fa) μ F h₁ := ⟨by show fd.scope.kind ≠ _; rw [hk]; decide, s.heap.objs.size, _, rfl, x.toInCall.ns, hFs.ownF _ (.head _), hFs.muo _ (.head _)⟩
  have t0 : Tr g (ownOf fd s.heap.objs.size) μ μ F F s { s with heap := h₁, toks := tk } := Tr.of_ext kp rfl rfl
  refine wpAny_mono (h _ _ _ rfl rfl _ F { s with heap := h₁, toks := tk } (Ok.deeper ok) (hG.push_frame hfr) hFs) ?_ fun _ _ x => x.elim
  rintro fl s₂ ⟨f, ρ', μ', F', t, G', Fs', sf, hq⟩
  have G' := G'.pop_frame
  have t1 : Tr g [] μ μ' F F' s s₂ := (t0.trans t.pop_frame).mtLe fun a ha => .inr (hno a ha)
  cases fl <;> cases f <;> first
    | exact sf.elim
    | exact hq.elim
    | exact ⟨_, μ', F', t1, G', sf, hq⟩
    | exact ⟨_, μ', F', t1, G', .none, hq⟩
end

open PySem PySem.W PySem.Calls PyProof.Rows
set_option maxRecDepth 20000
section
variable {g : G} {env : Env} {own : List Addr} {n : Nat} {ρ : Str → Option D} {μ : Mu}

theorem Act2.add {a b Q} (h : Q (.int (a + b)) μ) : Act2 g n μ (binaryOp .Add) (.int a) (.int b) Q := fun A F s va vb ok G sa sb => by
  obtain ⟨_, rfl⟩ := Sees.intI sa; obtain ⟨_, rfl⟩ := Sees.intI sb; exact add_int (EvPost.here G rfl rfl rfl (.int _ _) h)
theorem Act2.sub {a b Q} (h : Q (.int (a - b)) μ) : Act2 g n μ (binaryOp .Sub) (.int a) (.int b) Q := fun A F s va vb ok G sa sb => by
  obtain ⟨_, rfl⟩ := Sees.intI sa; obtain ⟨_, rfl⟩ := Sees.intI sb; exact sub_int (EvPost.here G rfl rfl rfl (.int _ _) h)
theorem Act2.mul {a b Q} (hm : IntMulOk a b) (h : Q (.int (a * b)) μ) : Act2 g n μ (binaryOp .Mult) (.int a) (.int b) Q := fun A F s va vb ok G sa sb => by
  obtain ⟨_, rfl⟩ := Sees.intI sa; obtain ⟨_, rfl⟩ := Sees.intI sb; exact mul_int (EvPost.here G rfl rfl rfl (.int _ _) h) hm
theorem Act2.floordiv {a b Q} (hb : b ≠ 0) (hsm : b.natAbs < 1073741824) (h : Q (.int (a.fdiv b)) μ) : Act2 g n μ (binaryOp .FloorDiv) (.int a) (.int b) Q := fun A F s va vb ok G sa sb => by
  obtain ⟨_, rfl⟩ := Sees.intI sa; obtain ⟨_, rfl⟩ := Sees.intI sb; exact floordiv_int hb (EvPost.here G rfl rfl rfl (.int _ _) h) (.inl (PyProof.noPylong_small hsm))
theorem Act2.mod {a b Q} (hb : b ≠ 0) (h : Q (.int (a.fmod b)) μ) : Act2 g n μ (binaryOp .Mod) (.int a) (.int b) Q := fun A F s va vb ok G sa sb => by
  obtain ⟨_, rfl⟩ := Sees.intI sa; obtain ⟨_, rfl⟩ := Sees.intI sb; exact mod_int' hb (EvPost.here G rfl rfl rfl (.int _ _) h)
theorem Act1.neg {a Q} (h : Q (.int (-a)) μ) : Act1 g n μ (unaryOp .USub) (.int a) Q := fun A F s va ok G sa => by
  obtain ⟨_, rfl⟩ := Sees.intI sa; exact neg_int (EvPost.here G rfl rfl rfl (.int _ _) h)
theorem Act2.lt {a b Q} (h : Q (.bool (decide (a < b))) μ) : Act2 g n μ (compareOp .Lt) (.int a) (.int b) Q := fun A F s va vb ok G sa sb => by
  obtain ⟨_, rfl⟩ := Sees.intI sa; obtain ⟨_, rfl⟩ := Sees.intI sb; exact lt_int (EvPost.here G rfl rfl rfl (.bool _) h)
theorem Act2.gt {a b Q} (h : Q (.bool (decide (b < a))) μ) : Act2 g n μ (compareOp .Gt) (.int a) (.int b) Q := fun A F s va vb ok G sa sb => by
  obtain ⟨_, rfl⟩ := Sees.intI sa; obtain ⟨_, rfl⟩ := Sees.intI sb; exact gt_int (EvPost.here G rfl rfl rfl (.bool _) h)
theorem Act2.eq {a b Q} (h : Q (.bool (a == b)) μ) : Act2 g n μ (compareOp .Eq) (.int a) (.int b) Q := fun A F s va vb ok G sa sb => by
  obtain ⟨_, rfl⟩ := Sees.intI sa; obtain ⟨_, rfl⟩ := Sees.intI sb; exact eq_int (EvPost.here G rfl rfl rfl (.bool _) h)
theorem Act2.ne {a b Q} (h : Q (.bool (a != b)) μ) : Act2 g n μ (compareOp .NotEq) (.int a) (.int b) Q := fun A F s va vb ok G sa sb => by
  obtain ⟨_, rfl⟩ := Sees.intI sa; obtain ⟨_, rfl⟩ := Sees.intI sb; exact ne_int (EvPost.here G rfl rfl rfl (.bool _) h)

/-- is it None? -/
noncomputable def isNone : D → Option Bool
  | .none => some true
  | .bool _ => some false
  | .int _ => some false
  | .str _ => some false
  | .tup _ => some false
  | .lst _ => some false
  | .rng _ _ _ => some false
  | .slc _ _ _ => some false
  | .clo _ _ _ _ _ _ => some false
  | .val v => some (v == .none)
theorem isNone_sees {F v d b} (sv : Sees F v d) (h : isNone d = some b) : (v == Value.none) = b := by
  cases sv <;> simp [isNone] at h <;> first | exact h | (subst h; rfl)
theorem Act2.isnone {a b Q} (hb : isNone a = some b) (h : Q (.bool b) μ) : Act2 g n μ (compareOp .Is) a .none Q := fun A F s va vb ok G sa sb => by
  obtain rfl := Sees.noneI sb; exact is_none_gen (EvPost.here G rfl rfl rfl (by rw [isNone_sees sa hb]; exact .bool _) h)
theorem Act2.isnotnone {a b Q} (hb : isNone a = some b) (h : Q (.bool (!b)) μ) : Act2 g n μ (compareOp .IsNot) a .none Q := fun A F s va vb ok G sa sb => by
  obtain rfl := Sees.noneI sb; exact isnot_none_gen (EvPost.here G rfl rfl rfl (by rw [isNone_sees sa hb]; exact .bool _) h)

/-- a list, frozen or not -/
noncomputable def Rd (μ : Mu) (d : D) (ds : List D) : Prop := d = .lst ds ∨ ∃ a, d = .val (.ref a) ∧ (a, MO.ml ds) ∈ μ
theorem Rd.lst {ds} : Rd μ (.lst ds) ds := .inl rfl
theorem Rd.at {F h v d ds} (G : GSt g μ F h) (sv : Sees F v d) (r : Rd μ d ds) : ∃ a vs k, v = .ref a ∧ h.get? a = some { cls := .type "list", dict := Option.none, data := .seq vs k, slots := #[] } ∧ SeesAll F vs.toList ds := by
  rcases r with rfl | ⟨a, rfl, hm⟩
  · obtain ⟨e, r⟩ := Sees.lstI sv; exact ⟨_, _, _, rfl, G.fz _ _ e, r⟩
  · obtain rfl := Sees.valI sv
    obtain ⟨_, o, e, vs, k, rfl, r⟩ := G.mu _ hm
    exact ⟨a, vs, k, rfl, e, r⟩
theorem Rd.isList {F h v d ds} (G : GSt g μ F h) (sv : Sees F v d) (r : Rd μ d ds) : ∃ a vs, v = .ref a ∧ h.IsList a vs ∧ SeesAll F vs.toList ds := by
  obtain ⟨a, vs, k, e, ho, sa⟩ := r.at G sv
  exact ⟨a, vs, e, ⟨_, ho, rfl, k, rfl⟩, sa⟩
theorem SeesAll.size {F vs ds} (h : SeesAll F (vs : Array Value).toList ds) : vs.size = ds.length := by rw [← h.length]; simp

/-- a place of a sequence, from the front or the back -/
noncomputable def idx? (ds : List D) (k : Int) : Option D := if 0 ≤ k then ds[k.toNat]? else if -(ds.length : Int) ≤ k then ds[(ds.length + k).toNat]? else Option.none

theorem idx?_nat {ds : List D} {k : Nat} : idx? ds (k : Int) = ds[k]? := by
  unfold idx?; rw [if_pos (Int.natCast_nonneg k), Int.toNat_natCast]
set_option tactic.hygienic true in
theorem Act2.item {o k ds d value slice Q} (hr : Rd μ o ds) (hd : idx? ds k = some d) (hl : (ds.length : Int) < 2 ^ 62) (h : Q d μ) (hs : ∀ o i, subscripted slice false o i = operate [o, i] (getItem o i)) :
    Act2 g n μ (subscriptTail value slice) o (.int k) Q := fun A F s va vb ok G sa sb => by
  obtain ⟨_, rfl⟩ := Sees.intI sb
  obtain ⟨a, vs, rfl, hL, sds⟩ := hr.isList G sa
  have hsz := sds.size
  unfold idx? at hd
  split at hd
  · rename_i h0
    obtain ⟨v, hv, sv⟩ := sds.get hd
    have hlt : k.toNat < ds.length := by
      cases hq : ds[k.toNat]? with
      | none => rw [hq] at hd; cases hd
      | some x => exact (List.getElem?_eq_some_iff.mp hq).1
    exact tail_any hL.typeIs slot_list_getitem.lookup (wpAny_getItem_list hL h0 (by lia) (by simpa using hv) (EvPost.here G rfl rfl rfl sv h)) (hs _ _)
  · split at hd
    · rename_i h0 h1
      obtain ⟨v, hv, sv⟩ := sds.get hd
      refine tail_any hL.typeIs slot_list_getitem.lookup (wpAny_getItem_list_neg hL (by lia) (by rw [hsz]; omega) (by lia) ?_ (EvPost.here G rfl rfl rfl sv h)) (hs _ _)
      rw [hsz, Int.add_comm]; simpa using hv
    · cases hd
set_option tactic.hygienic true in
theorem Act2.itemT {k ds d value slice Q} (hd : idx? ds k = some d) (hl : (ds.length : Int) < 2 ^ 62) (h : Q d μ) (hs : ∀ o i, subscripted slice false o i = operate [o, i] (getItem o i)) :
    Act2 g n μ (subscriptTail value slice) (.tup ds) (.int k) Q := fun A F s va vb ok G sa sb => by
  obtain ⟨_, rfl⟩ := Sees.intI sb
  obtain @⟨a, vs, nn, e, sds⟩ := Sees.tupI sa
  have hT : IsTup s.heap a vs := ⟨_, G.fz _ _ e, rfl, _, rfl⟩
  have hsz := sds.size
  unfold idx? at hd
  split at hd
  · rename_i h0
    obtain ⟨v, hv, sv⟩ := sds.get hd
    have hlt : k.toNat < ds.length := by
      cases hq : ds[k.toNat]? with
      | none => rw [hq] at hd; cases hd
      | some x => exact (List.getElem?_eq_some_iff.mp hq).1
    refine tail_any hT.typeIs slot_tuple_getitem.lookup (getItem_tuple hT (by lia) (by lia) (j := k.toNat) ?_ (by simpa using hv) (EvPost.here G rfl rfl rfl sv h)) (hs _ _)
    rw [hsz]; unfold seqIndex?; simp; lia
  · split at hd
    · rename_i h0 h1
      obtain ⟨v, hv, sv⟩ := sds.get hd
      refine tail_any hT.typeIs slot_tuple_getitem.lookup (getItem_tuple hT (by lia) (by lia) (j := (ds.length + k).toNat) ?_ (by simpa using hv) (EvPost.here G rfl rfl rfl sv h)) (hs _ _)
      rw [hsz, Int.add_comm]; exact seqIndex_neg (by lia) (by omega)
    · cases hd

theorem Ev.sub {value slice pos Q} (h : Ev g env own n ρ μ value (K2 g env own n ρ slice (subscriptTail value slice) Q)) :
    Ev g env own n ρ μ (.Subscript value slice pos) Q := fun A F s ok G Fs =>
  Subscript_ (wp_seq h ok G Fs fun vo o μ₁ F₁ s₁ t₁ G₁ Fs₁ so h₁ => wp_seq h₁ ok G₁ Fs₁ fun vi i μ₂ F₂ s₂ t₂ G₂ Fs₂ si h₂ =>
    post_weak (t₁.trans t₂) (h₂ A F₂ s₂ vo vi ok G₂ (so.mono t₂.le) si))

/-- a call of a built-in, off its value rule -/
theorem Calls.of1 {f a : D} {Q} (h : ∀ A F s fv va, Ok g n A → GSt g μ F s.heap → Sees F fv f → Sees F va a → wpAny (model g.prog g.w) A (call fv [va]) (EvPost g μ s F Q) (fun _ _ => False) s) :
    Calls g n f [a] [] μ Q := fun A F s fv vs kvs ok G sf sa sk hk => by
  obtain ⟨_, _, rfl, sa', r⟩ := SeesAll.consI sa
  obtain rfl := SeesAll.nilI r
  cases kvs with
  | cons _ _ => cases hk
  | nil => exact h A F s fv _ ok G sf sa'
theorem Calls.of2 {f a b : D} {Q} (h : ∀ A F s fv va vb, Ok g n A → GSt g μ F s.heap → Sees F fv f → Sees F va a → Sees F vb b → wpAny (model g.prog g.w) A (call fv [va, vb]) (EvPost g μ s F Q) (fun _ _ => False) s) :
    Calls g n f [a, b] [] μ Q := fun A F s fv vs kvs ok G sf sa sk hk => by
  obtain ⟨_, _, rfl, sa', r⟩ := SeesAll.consI sa
  obtain ⟨_, _, rfl, sb, r⟩ := SeesAll.consI r
  obtain rfl := SeesAll.nilI r
  cases kvs with
  | cons _ _ => cases hk
  | nil => exact h A F s fv _ _ ok G sf sa' sb

theorem upd_same {ρ : Str → Option D} {x d} : upd ρ x d x = some d := by simp [upd]
theorem upd_ne {ρ : Str → Option D} {x y d e} (h : y ≠ x) (k : ρ y = some e) : upd ρ x d y = some e := by simp [upd, h, k]
theorem TBool.of {Q : Bool → Mu → Prop} {b : Bool} {μ} (h : Q b μ) : TBool Q (.bool b) μ := ⟨b, rfl, h⟩
theorem next_of {P R : Prop} (h : P) : (Fl.next = Fl.next → P) ∧ (Fl.next ≠ Fl.next → R) := ⟨fun _ => h, fun q => absurd rfl q⟩
theorem ret_of {P R : Prop} {d : D} (h : R) : (Fl.ret d = Fl.next → P) ∧ (Fl.ret d ≠ Fl.next → R) := ⟨fun q => by (cases q), fun _ => h⟩
theorem tt_of {P R : Prop} (h : P) : (true = true → P) ∧ (true = false → R) := ⟨fun _ => h, fun q => by (cases q)⟩
theorem ff_of {P R : Prop} (h : R) : (false = true → P) ∧ (false = false → R) := ⟨fun q => by (cases q), fun _ => h⟩
theorem dec_of {c : Prop} [Decidable c] {P R : Prop} (h : c → P) (k : ¬ c → R) : (decide c = true → P) ∧ (decide c = false → R) := ⟨fun q => h (of_decide_eq_true q), fun q => k (of_decide_eq_false q)⟩
theorem bindable_local {x : Str} (h : env.kindOf x = some .local) : Bindable env own x := .inl h
theorem Ex.seq {st rest Q} (R : (Str → Option D) → Mu → Prop) (h : Ex1 g env own n ρ μ st fun f ρ' μ' => f = .next ∧ R ρ' μ') (k : ∀ ρ' μ', R ρ' μ' → Ex g env own n ρ' μ' rest Q) : Ex g env own n ρ μ (st :: rest) Q := by
  refine Ex.cons fun A F s ok G Fs => wpAny_mono (h A F s ok G Fs) ((by rintro fl s' ⟨f, ρ', μ', F', t, G', Fs', sf, e, r⟩; exact ⟨f, ρ', μ', F', t, G', Fs', sf, fun _ => k _ _ r, fun q => absurd e q⟩)) fun _ _ x => x
theorem kind_of {fd : FuncData} {L a : Addr} {x : Str} {k : Option NameKind} (he : env = callEnvC fd L a) (e : fd.scope.names.lookup x = k) : env.kindOf x = k := by subst he; exact e
theorem ns_of {K : Frag} {x : Str} {r} (hK : g.K = K) (e : nsIn K mainGlobals x = r) : nsIn g.K mainGlobals x = r := by rw [hK]; exact e
theorem len_D {o ds Q} (hr : Rd μ o ds) (hl : (ds.length : Int) < 2 ^ 62) (h : Q (.int ds.length) μ) : Calls g n (.val (.builtin "len")) [o] [] μ Q := by
  refine Calls.of1 fun A F s fv va ok G sf sa => ?_
  obtain rfl := Sees.valI sf
  obtain ⟨a, vs, rfl, hL, sds⟩ := hr.isList G sa
  have hsz := sds.size
  exact call_len_list hL (by lia) (EvPost.here G rfl rfl rfl (by rw [hsz]; exact .int _ _) h)
end

open PySem PySem.W PySem.Calls PyProof.Rows
set_option maxRecDepth 20000
section
variable {g : G} {env : Env} {own : List Addr} {n : Nat} {ρ : Str → Option D} {μ : Mu}

/-- a new object, frozen at once -/
noncomputable def put (F : FM) (a : Addr) (o : Obj) : FM := fun b => if b = a then some o else F b
theorem put_same {F : FM} {a o} : put F a o a = some o := by simp [put]
theorem put_ne {F : FM} {a b o} (h : b ≠ a) : put F a o b = F b := by simp [put, h]
theorem put_le {F : FM} {a o} (h : F a = none) : ∀ b x, F b = some x → put F a o b = some x := fun b x e => by
  by_cases hb : b = a
  · subst hb; rw [h] at e; cases e
  · rw [put_ne hb]; exact e
theorem GSt.none_size {F h} (G : GSt g μ F h) : F h.objs.size = none := by
  cases hq : F h.objs.size with
  | none => rfl
  | some o => exact absurd (Heap.lt_size (G.fz _ _ hq)) (Nat.lt_irrefl _)
theorem get_size {h : Heap} : h.get? h.objs.size = none := by
  cases hq : h.get? h.objs.size with
  | none => rfl
  | some o => exact absurd (Heap.lt_size hq) (Nat.lt_irrefl _)

theorem GSt.made {F h} (G : GSt g μ F h) (o : Obj) (hf : o.isFreed = false) : GSt g μ (put F h.objs.size o) (h.push o) := by
  have hle := put_le (o := o) G.none_size
  have hk : ∀ b x, h.get? b = some x → (h.push o).get? b = some x := fun b x e => Heap.get?_push_of_some _ e
  refine ⟨fun a x e => hle _ _ (G.base a x e), fun a x e => ?_, fun q hq => ?_, fun p hp => ?_, G.nd, fun c hc => (by obtain ⟨o, e⟩ := G.fzc c hc; exact ⟨o, hle _ _ e⟩), G.dj, fun x hx => ?_⟩
  rotate_right
  · obtain ⟨hk', L, m, hf, hns, hF', hm'⟩ := G.stk x hx
    refine ⟨hk', L, m, hf, ?_, ?_, hm'⟩
    · obtain ⟨o', es, ep, ho, r⟩ := hns; exact ⟨o', es, ep, hk _ _ ho, r⟩
    · obtain ⟨o', es, ep, ho, r⟩ := hns; rw [put_ne (Nat.ne_of_lt (Heap.lt_size ho))]; exact hF'
  · by_cases hb : a = h.objs.size
    · subst hb; rw [put_same] at e; cases e; exact Heap.get?_push_size _ hf
    · rw [put_ne hb] at e; exact hk _ _ (G.fz _ _ e)
  · obtain ⟨a, ps, b, c, d⟩ := G.tb q hq
    refine ⟨?_, ps, hk _ _ b, c, fun pos cv z => (d pos cv z).mono hle⟩
    rw [put_ne (Nat.ne_of_lt (Heap.lt_size b))]; exact a
  · obtain ⟨a, b⟩ := G.mu p hp
    obtain ⟨o, e⟩ := b.live
    refine ⟨?_, b.move hle (fun o => hk _ o)⟩
    rw [put_ne (Nat.ne_of_lt (Heap.lt_size e))]; exact a
theorem Tr.made {mt F s o h' tk} (G : GSt g μ F s.heap) (hh : h' = s.heap.push o) : Tr g mt μ μ F (put F s.heap.objs.size o) s { s with heap := h', toks := tk } := by
  subst hh
  refine ⟨fun b x e _ _ _ => ⟨x, Heap.get?_push_of_some _ e, .refl x⟩, fun b x e => ⟨x, Heap.get?_push_of_some _ e⟩, put_le G.none_size, fun a => ?_, fun _ h => .inl h, rfl, rfl⟩
  by_cases hb : a = s.heap.objs.size
  · subst hb; exact .inr (.inr (.inr get_size))
  · rw [put_ne hb]; cases hF : F a with
    | none => exact .inl rfl
    | some x => exact .inr (.inl (by simp))
theorem EvPost.made {s : Shared} {F : FM} {Q : D → Mu → Prop} {d : D} {o : Obj} {h' : Heap} {tk : Tok} (G : GSt g μ F s.heap) (hf : o.isFreed = false) (hh : h' = s.heap.push o) (hv : Sees (put F s.heap.objs.size o) (.ref s.heap.objs.size) d)
    (hQ : Q d μ) : EvPost g μ s F Q (.ref s.heap.objs.size) { s with heap := h', toks := tk } :=
  ⟨d, μ, _, Tr.made G hh, by rw [hh]; exact G.made o hf, hv, hQ⟩

noncomputable abbrev listObj (vs : Array Value) : Obj := { cls := .type "list", data := .seq vs }
theorem EvPost.newlist {s : Shared} {F : FM} {Q : D → Mu → Prop} {vs : Array Value} {ds : List D} {h' : Heap} {tk : Tok} (G : GSt g μ F s.heap) (hh : h' = s.heap.push (listObj vs)) (sa : SeesAll F vs.toList ds) (hQ : Q (.lst ds) μ) :
    EvPost g μ s F Q (.ref s.heap.objs.size) { s with heap := h', toks := tk } :=
  EvPost.made G rfl hh (.lst put_same (sa.mono (put_le G.none_size))) hQ

/-- a new list that stays ours to change -/
theorem EvPost.newmut {s : Shared} {F : FM} {Q : D → Mu → Prop} {vs : Array Value} {ds : List D} {h' : Heap} {tk : Tok} (G : GSt g μ F s.heap) (hh : h' = s.heap.push (listObj vs)) (sa : SeesAll F vs.toList ds)
    (hQ : ∀ a, a ∉ μ.dom → Q (.val (.ref a)) ((a, .ml ds) :: μ)) :
    EvPost g μ s F Q (.ref s.heap.objs.size) { s with heap := h', toks := tk } := by
  subst hh
  have hk : ∀ b x, s.heap.get? b = some x → (s.heap.push (listObj vs)).get? b = some x := fun b x e => Heap.get?_push_of_some _ e
  have hnd : s.heap.objs.size ∉ μ.dom := fun q => by
    obtain ⟨p, hp, e⟩ := List.mem_map.mp q
    obtain ⟨_, b⟩ := G.mu p hp
    obtain ⟨o, e1⟩ := b.live
    rw [e, get_size] at e1; cases e1
  refine ⟨_, _, F, ⟨fun b x e _ _ _ => ⟨x, hk _ _ e, .refl x⟩, fun b x e => ⟨x, hk _ _ e⟩, fun _ _ e => e, (Tr.refl (g := g) (mt := []) (μ := μ) (s := s)).fr, fun a ha => ?_, rfl, rfl⟩, ?_, .val _, hQ _ hnd⟩
  · simp only [Mu.dom, List.map_cons, List.mem_cons] at ha
    rcases ha with rfl | ha
    · exact .inr get_size
    · exact .inl ha
  · have G' := G.ext hk
    refine ⟨G'.base, G'.fz, G'.tb, fun p hp => ?_, ?_, G'.fzc, fun a ha => ?_, fun x hx => ?_⟩
    rotate_right
    · obtain ⟨hk', L, m, hf, hns, hF', hm'⟩ := G.stk x hx
      refine ⟨hk', L, m, hf, ?_, hF', fun q => ?_⟩
      · obtain ⟨o', es, ep, ho, r⟩ := hns; exact ⟨o', es, ep, hk _ _ ho, r⟩
      · cases q with
        | head => obtain ⟨o', es, ep, ho, r⟩ := hns; rw [get_size] at ho; cases ho
        | tail _ q => exact hm' q
    · cases hp with
      | head => exact ⟨G.none_size, _, Heap.get?_push_size _ rfl, vs, 0, rfl, sa⟩
      | tail _ hp => exact G'.mu p hp
    · simp only [Mu.dom, List.map_cons, List.nodup_cons]
      exact ⟨hnd, G.nd⟩
    · simp only [Mu.dom, List.map_cons, List.mem_cons] at ha
      rcases ha with rfl | ha
      · intro q
        obtain ⟨p, hp, e⟩ := List.mem_map.mp q
        obtain ⟨_, ps, b, _⟩ := G.tb p hp
        rw [e, get_size] at b; cases b
      · exact G.dj a ha

noncomputable abbrev ListK (Q : D → Mu → Prop) : List D → Mu → Prop := fun ds μ₁ => ds.length ≤ 1000 ∧ Q (.lst ds) μ₁
noncomputable abbrev TupK (Q : D → Mu → Prop) : List D → Mu → Prop := fun ds μ₁ => ds.length ≤ 1000 ∧ Q (.tup ds) μ₁
noncomputable abbrev PK (Q : Option Int → Mu → Prop) : D → Mu → Prop := fun d μ₁ => ∃ i, d = .int i ∧ Q (some i) μ₁
theorem Ev.list {es pos Q} (h : EvL g env own n ρ es μ (ListK Q)) : Ev g env own n ρ μ (.List es pos) Q := fun A F s ok G Fs =>
  wpAny_List (wpAny_mono (evl ok es h G Fs) ((by rintro vs s₁ ⟨ds, μ₁, F₁, t₁, G₁, sds, hz, hq⟩; exact ⟨by have := sds.length; simp [sizeLine]; lia, (EvPost.newlist (tk := s₁.toks) G₁ rfl (by simpa using sds) hq).trans t₁⟩)) fun _ _ x => x)
theorem Ev.listM {es pos Q} (h : EvL g env own n ρ es μ fun ds μ₁ => ds.length ≤ 1000 ∧ ∀ a, a ∉ μ₁.dom → Q (.val (.ref a)) ((a, .ml ds) :: μ₁)) : Ev g env own n ρ μ (.List es pos) Q := fun A F s ok G Fs =>
  wpAny_List (wpAny_mono (evl ok es h G Fs) ((by rintro vs s₁ ⟨ds, μ₁, F₁, t₁, G₁, sds, hz, hq⟩; exact ⟨by have := sds.length; simp [sizeLine]; lia, (EvPost.newmut (tk := s₁.toks) G₁ rfl (by simpa using sds) hq).trans t₁⟩)) fun _ _ x => x)
theorem Ev.tuple {es k pos Q} (h : EvL g env own n ρ es μ (TupK Q)) : Ev g env own n ρ μ (.Tuple es k pos) Q := fun A F s ok G Fs =>
  wpAny_Tuple (wpAny_mono (evl ok es h G Fs) (fun vs s₁ ⟨ds, μ₁, F₁, t₁, G₁, sds, hz, hq⟩ => ⟨by have := sds.length; simp [sizeLine]; lia, (EvPost.made (tk := s₁.toks) (d := .tup ds) G₁ rfl rfl
      (.tup put_same (by simpa using sds.mono (put_le G₁.none_size))) hq).trans t₁⟩) fun _ _ x => x)

theorem FM.fr (h₀ : Heap) : True := trivial

theorem Act2.cat {a b xs ys Q} (ra : Rd μ a xs) (rb : Rd μ b ys) (hz : xs.length + ys.length ≤ 100000) (h : Q (.lst (xs ++ ys)) μ) : Act2 g n μ (binaryOp .Add) a b Q := fun A F s va vb ok G sa sb => by
  obtain ⟨l, vs, k, rfl, ho, sxs⟩ := ra.at G sa
  obtain ⟨l2, ws, k2, rfl, ho2, sys⟩ := rb.at G sb
  have z1 := sxs.size; have z2 := sys.size
  refine concat_meets ⟨_, ho, rfl⟩ ⟨_, ho2, rfl⟩ noFill_list_add seq_list_add PySem.F.slot_list_add PySem.F.entry_list_add (PySem.F.args_list_add_2 _ _) (list_addW l l2 vs ws k k2 none none #[] #[] (by unfold sizeLine; lia)) ⟨ho, ho2, ?_⟩
  exact EvPost.newlist (tk := s.toks) G rfl (by simpa using sxs.append sys) h

theorem SeesAll.replicate {F vs ds} (h : SeesAll F vs ds) : ∀ k, SeesAll F (List.replicate k vs).flatten (List.replicate k ds).flatten
  | 0 => .nil
  | k + 1 => by simp only [List.replicate_succ, List.flatten_cons]; exact h.append (SeesAll.replicate h k)
theorem foldl_flat {α : Type} : ∀ (l : List (Array α)) (a : Array α), (l.foldl (fun x y => x ++ y) a).toList = a.toList ++ (l.map (·.toList)).flatten
  | [], a => by simp
  | x :: l, a => by rw [List.foldl_cons, foldl_flat l]; simp
set_option tactic.hygienic true in
theorem Act2.rep {a xs} {x : Int} {Q} (ra : Rd μ a xs) (h0 : 0 ≤ x) (hz : xs.length * x.toNat ≤ 100000) (hx : x < 2 ^ 62) (h : Q (.lst (List.replicate x.toNat xs).flatten) μ) : Act2 g n μ (binaryOp .Mult) a (.int x) Q := fun A F s va vb ok G sa sb => by
  obtain ⟨_, rfl⟩ := Sees.intI sb
  rename_i u
  obtain ⟨l, vs, k, rfl, hl, sxs⟩ := ra.at G sa
  have z1 := sxs.size
  have hz' : vs.size * x.toNat ≤ 100000 := by rw [z1]; exact hz
  refine wpAny_binaryOp_repeat_ref (T := "list") (U := "int") (by decide) ⟨_, hl, rfl⟩ (fun s' => typeIs_int s' x u) noFill_list_mul PySem.F.fills_int_mul PySem.F.slot_int_rmul repeat_list PySem.F.slot_int_index.lookup
    (call_meets PySem.F.slot_int_rmul (typeIs_int s x u) PySem.F.entry_int_rmul (PySem.F.args_int_rmul_2 _ _) (int___rmul___int_list x u l vs k)
      ⟨hl, rfl, ⟨_, hl, rfl⟩, call_meets PySem.F.slot_list_mul ⟨_, hl, rfl⟩ PySem.F.entry_list_mul (PySem.F.args_list_mul_2 _ _)
        (AutoListH.list___mul___list_int_3 l vs k x u (by simp [Builtin.List.listFitsIndex]; lia) (by (clear z1 sxs hl sa sb G ok h hx hz h0 ra; omega)) (by simp [Builtin.List.listTooLong, sizeLine]; exact Nat.le_trans (by assumption) (by decide)))
        ⟨hl, EvPost.newlist (tk := s.toks) G rfl ?_ h⟩⟩)
  rw [foldl_flat]
  by_cases he : vs.isEmpty = true
  · have : xs = [] := by
      have : vs.size = 0 := by simpa using he
      exact List.eq_nil_of_length_eq_zero (by lia)
    subst this
    simp only [he, if_true, List.replicate_zero, List.map_nil, List.flatten_nil]
    simpa using SeesAll.nil
  · simp only [he]
    simpa using sxs.replicate x.toNat

/-! slices -/
noncomputable def dpick (ds : List D) (lo hi st : Option Int) : List D :=
  (sliceRange (sliceBounds lo hi st ds.length).1 (sliceBounds lo hi st ds.length).2.1 (sliceBounds lo hi st ds.length).2.2).filterMap (ds[·]?)
theorem SeesAll.pickIdx {F vs ds} (h : SeesAll F vs ds) : ∀ is : List Nat, SeesAll F (is.filterMap (vs[·]?)) (is.filterMap (ds[·]?))
  | [] => .nil
  | i :: is => by
    cases hd : ds[i]? with
    | none =>
      have : vs[i]? = Option.none := by
        have := h.length
        rw [List.getElem?_eq_none_iff] at hd ⊢; lia
      simp only [List.filterMap_cons, hd, this]
      exact h.pickIdx is
    | some d =>
      obtain ⟨v, hv, sv⟩ := h.get hd
      simp only [List.filterMap_cons, hd, hv]
      exact .cons sv (h.pickIdx is)
theorem SeesAll.pick {F} {vs : Array Value} {ds} (h : SeesAll F vs.toList ds) (lo hi st) : SeesAll F (slicePick vs lo hi st).toList (dpick ds lo hi st) := by
  unfold slicePick dpick
  rw [h.size]
  simpa using h.pickIdx _
theorem Act2.slice {o ds lo hi st value slice Q} (hr : Rd μ o ds) (h0 : st ≠ some 0) (hz : ds.length ≤ 100000) (h : Q (.lst (dpick ds lo hi st)) μ)
    (hs : ∃ ops : Value → Value → List Value, ∀ o i, subscripted slice false o i = operate (ops o i) (getItem o i)) : Act2 g n μ (subscriptTail value slice) o (.slc lo hi st) Q := fun A F s va vb ok G sa sb => by
  obtain ⟨l, vs, k, rfl, hl, sds⟩ := hr.at G sa
  obtain ⟨ops, hs⟩ := hs
  have z := sds.size
  obtain @⟨_, _, _, _, e, p1, p2, p3⟩ := Sees.slcI sb
  have hL : s.heap.IsList l vs := ⟨_, hl, rfl, _, rfl⟩
  refine tail_any hL.typeIs slot_list_getitem.lookup (wpAny_getItem_list_slice hL ⟨_, G.fz _ _ e, rfl, rfl⟩ p1 p2 p3 h0 (EvPost.newlist (tk := s.toks) G rfl (sds.pick lo hi st) h) (by unfold sizeLine; lia)) (hs _ _)
theorem ops_step {l u s p} : ∃ ops : Value → Value → List Value, ∀ o i, subscripted (.Slice l u (some s) p) false o i = operate (ops o i) (getItem o i) := ⟨fun o i => [o, i], fun _ _ => rfl⟩
theorem ops_plain {l u p} : ∃ ops : Value → Value → List Value, ∀ o i, subscripted (.Slice l u Option.none p) false o i = operate (ops o i) (getItem o i) := ⟨fun o i => [i, o], fun _ _ => rfl⟩

/-- a part of a slice -/
noncomputable def EvP (g : G) (env : Env) (own : List Addr) (n : Nat) (ρ : Str → Option D) (μ : Mu) : Option Expr → (Option Int → Mu → Prop) → Prop
  | Option.none, Q => Q Option.none μ
  | some e, Q => Ev g env own n ρ μ e (PK Q)
theorem evp {A : Around} (ok : Ok g n A) {e : Option Expr} {Q F s} (h : EvP g env own n ρ μ e Q) (G : GSt g μ F s.heap) (Fs : FSt env own ρ μ F s.heap) :
    wpAny (model g.prog g.w) A (evalPart e env) (fun v s' => ∃ k μ' F', Tr g [] μ μ' F F' s s' ∧ GSt g μ' F' s'.heap ∧ FSt env own ρ μ' F' s'.heap ∧ IsPart v k ∧ Q k μ') (fun _ _ => False) s := by
  cases e with
  | none => rw [evalPart_none]; exact wpAny_pure ⟨_, μ, F, .refl, G, Fs, .none, h⟩
  | some e =>
    rw [evalPart_some]
    refine wp_seq (show Ev g env own n ρ μ e _ from h) ok G Fs fun v d μ₁ F₁ s₁ t₁ G₁ Fs₁ sv hq => ?_
    obtain ⟨i, rfl, hq⟩ := hq
    obtain ⟨_, rfl⟩ := Sees.intI sv
    exact ⟨_, μ₁, F₁, t₁, G₁, Fs₁, .int _ _, hq⟩
noncomputable abbrev SK3 (a b : Option Int) (Q : D → Mu → Prop) : Option Int → Mu → Prop := fun c μ₃ => Q (.slc a b c) μ₃
noncomputable abbrev SK2 (g : G) (env : Env) (own : List Addr) (n : Nat) (ρ : Str → Option D) (st : Option Expr) (a : Option Int) (Q : D → Mu → Prop) : Option Int → Mu → Prop := fun b μ₂ => EvP g env own n ρ μ₂ st (SK3 a b Q)
noncomputable abbrev SK1 (g : G) (env : Env) (own : List Addr) (n : Nat) (ρ : Str → Option D) (u st : Option Expr) (Q : D → Mu → Prop) : Option Int → Mu → Prop := fun a μ₁ => EvP g env own n ρ μ₁ u (SK2 g env own n ρ st a Q)
theorem Ev.slc {l u st p Q} (h : EvP g env own n ρ μ l (SK1 g env own n ρ u st Q)) : Ev g env own n ρ μ (.Slice l u st p) Q := fun A F s ok G Fs => by
  refine wpAny_Slice (wpAny_mono (evp ok h G Fs) ?_ fun _ _ x => x)
  rintro va s₁ ⟨a, μ₁, F₁, t₁, G₁, Fs₁, pa, h₁⟩
  refine wpAny_mono (evp ok h₁ G₁ Fs₁) ?_ fun _ _ x => x
  rintro vb s₂ ⟨b, μ₂, F₂, t₂, G₂, Fs₂, pb, h₂⟩
  refine wpAny_mono (evp ok h₂ G₂ Fs₂) ?_ fun _ _ x => x
  rintro vc s₃ ⟨c, μ₃, F₃, t₃, G₃, Fs₃, pc, h₃⟩
  exact (EvPost.made (tk := s₃.toks) G₃ rfl rfl (.slc put_same pa pb pc) h₃).trans ((t₁.trans t₂).trans t₃)

/-! equality -/
mutual
noncomputable def toPy : D → Option PyData
  | .none => some .none
  | .bool b => some (.bool b)
  | .int i => some (.int i)
  | .str x => if PyData.strOk x then some (.str x) else Option.none
  | .tup ds => (toPys ds).map .tuple
  | .lst ds => (toPys ds).map .list
  | _ => Option.none
noncomputable def toPys : List D → Option (List PyData)
  | [] => some []
  | d :: ds => match toPy d, toPys ds with
    | some p, some ps => some (p :: ps)
    | _, _ => Option.none
end
theorem Sees.reads {F : FM} {h : Heap} (k : ∀ a o, F a = some o → h.get? a = some o) {v d} (x : Sees F v d) : ∀ {p}, toPy d = some p → (∃ as, Reads h v p as) ∧ p.canLay0 = true := by
  refine Sees.rec (motive_1 := fun v d _ => ∀ {p}, toPy d = some p → (∃ as, Reads h v p as) ∧ p.canLay0 = true) (motive_2 := fun _ _ _ => True)
    (motive_3 := fun vs ds _ => ∀ {ps}, toPys ds = some ps → (∃ as, ReadsAll h vs ps as) ∧ PyData.canLayAll0 ps = true) (fun e => ?_) (fun b p e => ?_) (fun i t p e => ?_) (fun w t p e => ?_) (fun e0 _ ih p e => ?_) (fun e0 _ ih p e => ?_)
    (fun _ _ _ _ p e => nomatch (show (Option.none : Option PyData) = some p from e)) (fun _ p e => nomatch (show (Option.none : Option PyData) = some p from e)) (fun _ _ _ _ _ _ p e => nomatch (show (Option.none : Option PyData) = some p from e)) (fun _ p e => nomatch (show (Option.none : Option PyData) = some p from e))
    trivial (fun _ _ _ _ _ _ => trivial) (fun e => ?_) (fun {_ _ d ds} _ _ ix ir ps e => ?_) x
  · cases (show some PyData.none = some _ from e); exact ⟨⟨_, .none⟩, rfl⟩
  · cases (show some (PyData.bool b) = some _ from e); exact ⟨⟨_, .bool b⟩, rfl⟩
  · cases (show some (PyData.int i) = some _ from e); exact ⟨⟨_, .int i t⟩, rfl⟩
  · have e : (if PyData.strOk w then some (PyData.str w) else Option.none) = some p := e
    cases hw : PyData.strOk w with
    | true => rw [hw] at e; cases e; exact ⟨⟨_, .str w t⟩, hw⟩
    | false => rw [hw] at e; cases e
  · obtain ⟨ps, e1, rfl⟩ := Option.map_eq_some_iff.mp (show (toPys _).map PyData.tuple = some p from e)
    obtain ⟨⟨as, h1⟩, h2⟩ := ih e1
    exact ⟨⟨_, .tuple (k _ _ e0) rfl rfl h1⟩, h2⟩
  · obtain ⟨ps, e1, rfl⟩ := Option.map_eq_some_iff.mp (show (toPys _).map PyData.list = some p from e)
    obtain ⟨⟨as, h1⟩, h2⟩ := ih e1
    exact ⟨⟨_, .list (k _ _ e0) rfl rfl h1⟩, h2⟩
  · cases (show some [] = some _ from e); exact ⟨⟨_, .nil⟩, rfl⟩
  · rw [toPys] at e
    cases e1 : toPy d with
    | none => rw [e1] at e; cases e
    | some p =>
      cases e2 : toPys ds with
      | none => rw [e1, e2] at e; cases e
      | some qs =>
        rw [e1, e2] at e; cases e
        obtain ⟨⟨as, h1⟩, h2⟩ := ix e1
        obtain ⟨⟨bs, h3⟩, h4⟩ := ir e2
        exact ⟨⟨_, .cons h1 h3⟩, Bool.and_eq_true_iff.mpr ⟨h2, h4⟩⟩
theorem Act2.eqD {a b p q Q} (ha : toPy a = some p) (hb : toPy b = some q) (hd : p.depth ≤ 20) (h : Q (.bool (PyData.eqv p q)) μ) : Act2 g n μ (compareOp .Eq) a b Q := fun A F s va vb ok G sa sb => by
  obtain ⟨⟨as, ra⟩, la⟩ := sa.reads G.fz ha
  obtain ⟨⟨bs, rb⟩, lb⟩ := sb.reads G.fz hb
  have hu := ok.2.1
  exact SeqAt.compareEq_reads ra rb la lb (by unfold cLine; lia) (EvPost.here G rfl rfl rfl (.bool _) h)
theorem Act2.neD {a b p q Q} (ha : toPy a = some p) (hb : toPy b = some q) (hd : p.depth ≤ 20) (h : Q (.bool (!PyData.eqv p q)) μ) : Act2 g n μ (compareOp .NotEq) a b Q := fun A F s va vb ok G sa sb => by
  obtain ⟨⟨as, ra⟩, la⟩ := sa.reads G.fz ha
  obtain ⟨⟨bs, rb⟩, lb⟩ := sb.reads G.fz hb
  have hu := ok.2.1
  exact SeqAt.compareNe_reads ra rb la lb (by unfold cLine; lia) (EvPost.here G rfl rfl rfl (.bool _) h)
end

open PySem PySem.W PySem.Calls PyProof.Rows
set_option maxRecDepth 20000
section
variable {g : G} {env : Env} {own : List Addr} {n : Nat} {ρ : Str → Option D} {μ : Mu}

/-! targets -/
inductive AsgL (env : Env) (own : List Addr) (K : (Str → Option D) → Prop) : List Expr → List D → (Str → Option D) → Prop
  | nil {r : Str → Option D} : K r → AsgL env own K [] [] r
  | cons {x p es d ds} {r : Str → Option D} : Bindable env own x → AsgL env own K es ds (upd r x d) → AsgL env own K (.Name x p :: es) (d :: ds) r
inductive Asg (env : Env) (own : List Addr) (K : (Str → Option D) → Prop) : Expr → D → (Str → Option D) → Prop
  | name {x p d} {r : Str → Option D} : Bindable env own x → K (upd r x d) → Asg env own K (.Name x p) d r
  | tup {es k p ds} {r : Str → Option D} : AsgL env own K es ds r → Asg env own K (.Tuple es k p) (.tup ds) r
  | tupL {es k p ds} {r : Str → Option D} : AsgL env own K es ds r → Asg env own K (.Tuple es k p) (.lst ds) r

inductive APost (g : G) (env : Env) (own : List Addr) (μ : Mu) (s : Shared) (F : FM) (K : (Str → Option D) → Prop) (u : Unit) (s' : Shared) : Prop
  | mk (ρ' : Str → Option D) (t : Tr g own μ μ F F s s') (G : GSt g μ F s'.heap) (Fs : FSt env own ρ' μ F s'.heap) (k : K ρ')

theorem wp_assignName {A : Around} {x p d v K F s} (G : GSt g μ F s.heap) (Fs : FSt env own ρ μ F s.heap) (sv : Sees F v d) (hb : Bindable env own x) (h : K (upd ρ x d)) :
    wpAny (model g.prog g.w) A (assign (.Name x p) env v) (APost g env own μ s F K) (fun _ _ => False) s :=
  assign_Name (st_store G Fs sv hb fun s' t G' Fs' _ => ⟨_, t, G', Fs', h⟩)
theorem asgl_shape {K} {es : List Expr} {ds : List D} {ρ} (h : AsgL env own K es ds ρ) : (assignEach es env).length = ds.length ∧ (assignEach es env).findIdx? (·.1) = none := by
  induction h with
  | nil => exact ⟨rfl, rfl⟩
  | @cons x p es d ds ρ _ _ ih =>
    have e : assignEach (.Name x p :: es) env = (false, assign (.Name x p) env) :: assignEach es env := rfl
    rw [e]
    exact ⟨by simp [ih.1], by rw [List.findIdx?_cons]; simp [ih.2]⟩
theorem wp_asgl {A : Around} {K} {es : List Expr} {ds : List D} {ρ} (h : AsgL env own K es ds ρ) : ∀ {vs : List Value} {F s}, SeesAll F vs ds → GSt g μ F s.heap → FSt env own ρ μ F s.heap →
    wpAny (model g.prog g.w) A (assignInOrder ((assignEach es env).map (·.2)) vs) (APost g env own μ s F K) (fun _ _ => False) s := by
  induction h with
  | nil hk => intro vs F s sa G Fs; exact wpAny_pure ⟨_, .refl, G, Fs, hk⟩
  | @cons x p es d ds ρ hb _ ih =>
    intro vs F s sa G Fs
    obtain ⟨v, vs, rfl, sv, sds⟩ := SeesAll.consI sa
    show wpAny _ _ (do holding vs (assign (.Name x p) env v); assignInOrder ((assignEach es env).map (·.2)) vs) _ _ _
    refine wpAny_bind (wpAny_holding (wpAny_mono (wp_assignName (K := fun ρ' => ρ' = upd ρ x d) G Fs sv hb rfl) ?_ fun _ _ x => x))
    rintro _ s₁ ⟨ρ', t, G', Fs', e⟩
    subst e
    exact wpAny_mono (ih sds G' Fs') ((by rintro _ s₂ ⟨ρ₂, t₂, G₂, Fs₂, r⟩; exact ⟨ρ₂, t.trans t₂, G₂, Fs₂, r⟩)) fun _ _ x => x

/-- a fresh object that nothing keeps: gone again -/
theorem tr_fresh {mt F s h' tk} {a : Addr} (ha : a = s.heap.objs.size) (he : Heap.ExtBut a s.heap h') : Tr g mt μ μ F F s { s with heap := h', toks := tk } := by
  subst ha
  exact Tr.of_ext (fun b o e => he b o (Nat.ne_of_lt (Heap.lt_size e)) e) rfl rfl

theorem wp_asg {A : Around} (hh : A.handled = none) {t : Expr} {d v K F s} (h : Asg env own K t d ρ) (sv : Sees F v d) (G : GSt g μ F s.heap) (Fs : FSt env own ρ μ F s.heap) :
    wpAny (model g.prog g.w) A (assign t env v) (APost g env own μ s F K) (fun _ _ => False) s := by
  cases h with
  | name hb hk => exact wp_assignName G Fs sv hb hk
  | @tup es k p ds _ h =>
    obtain @⟨a, vs, nn, e0, sds⟩ := Sees.tupI sv
    obtain ⟨h1, h2⟩ := asgl_shape h
    have hT : s.heap.IsTuple a vs := ⟨_, G.fz _ _ e0, rfl, nn, rfl⟩
    refine wpAny_assign_Tuple hh hT (by rw [h1, sds.size]) h2 fun h' he => ?_
    have t0 : Tr g own μ μ F F s { s with heap := h' } := tr_fresh (tk := s.toks) rfl he
    have ke : ∀ b o, s.heap.get? b = some o → h'.get? b = some o := fun b o e => he b o (Nat.ne_of_lt (Heap.lt_size e)) e
    have t1 : Tr g [] μ μ F F s { s with heap := h' } := Tr.of_ext ke rfl rfl
    have G' : GSt g μ F h' := G.ext ke
    exact wpAny_mono (wp_asgl (s := { s with heap := h' }) h sds G' (Fs.tr G t1 G')) ((by rintro _ s₂ ⟨ρ₂, t₂, G₂, Fs₂, r⟩; exact ⟨ρ₂, t0.trans t₂, G₂, Fs₂, r⟩)) fun _ _ x => x
  | @tupL es k p ds _ h =>
    obtain @⟨a, vs, nn, e0, sds⟩ := Sees.lstI sv
    obtain ⟨h1, h2⟩ := asgl_shape h
    refine assign_list hh ⟨_, G.fz _ _ e0, rfl, nn, rfl⟩ (by rw [h1, sds.size]) h2 fun h' he => ?_
    have t0 : Tr g own μ μ F F s { s with heap := h' } := tr_fresh (tk := s.toks) rfl he
    have ke : ∀ b o, s.heap.get? b = some o → h'.get? b = some o := fun b o e => he b o (Nat.ne_of_lt (Heap.lt_size e)) e
    have t1 : Tr g [] μ μ F F s { s with heap := h' } := Tr.of_ext ke rfl rfl
    exact wpAny_mono (wp_asgl (s := { s with heap := h' }) h sds (G.ext ke) (Fs.tr G t1 (G.ext ke))) ((by rintro _ s₂ ⟨ρ₂, t₂, G₂, Fs₂, r⟩; exact ⟨ρ₂, t0.trans t₂, G₂, Fs₂, r⟩)) fun _ _ x => x

/-! iterators -/
noncomputable def Moves (fp : List Addr) (s s' : Shared) : Prop :=
  (∀ b o, s.heap.get? b = some o → b ∉ fp → s'.heap.get? b = some o) ∧ s'.os = s.os ∧ s'.gens = s.gens
noncomputable def Agree (fp : List Addr) (h h' : Heap) : Prop := ∀ b ∈ fp, ∀ o, h.get? b = some o → h'.get? b = some o

/-- one item handed out -/
inductive ItemP (fp : List Addr) (F' : FM) (s : Shared) (v : Value) (d : D) (R : FM → Heap → Prop) (s₂ : Shared) : Prop
  | mk (F'' : FM) (le : ∀ a o, F' a = some o → F'' a = some o) (fz : ∀ a o, F'' a = some o → s₂.heap.get? a = some o) (fr : ∀ a, F'' a = none ∨ F' a ≠ none ∨ s.heap.get? a = none) (sv : Sees F'' v d) (m : Moves fp s s₂)
      (lv : ∀ a ∈ fp, ∃ o, s₂.heap.get? a = some o ∧ ¬ IsNs o) (r : R F'' s₂.heap)
noncomputable def Iter (g : G) (tgt : Expr) (it : Value) (fp : List Addr) : List D → FM → Heap → Prop
  | [], F, h => ∀ (A : Around) (s : Shared) (F' : FM), Ok g 4 A → Agree fp h s.heap → (∀ a o, F a = some o → F' a = some o) → (∀ a o, F' a = some o → s.heap.get? a = some o) → (∀ a ∈ fp, F' a = none) →
      wpAny (model g.prog g.w) A (pyNext it) (fun r s' => r = none ∧ Moves fp s s') (fun _ _ => False) s
  | d :: ds, F, h => ∀ (A : Around) (s : Shared) (F' : FM), Ok g 4 A → Agree fp h s.heap → (∀ a o, F a = some o → F' a = some o) → (∀ a o, F' a = some o → s.heap.get? a = some o) → (∀ a ∈ fp, F' a = none) →
      wpAny (model g.prog g.w) A (pyNext it) (fun r s₁ => ∃ v, r = some v ∧ wpAny (model g.prog g.w) A (letOwnedTupleGo tgt it v) (fun _ => ItemP fp F' s v d (Iter g tgt it fp ds)) (fun _ _ => False) s₁) (fun _ _ => False) s

structure Aside (g : G) (env : Env) (own : List Addr) (μ : Mu) (F : FM) (fp : List Addr) (h : Heap) : Prop where
  F : ∀ a ∈ fp, F a = none
  own : ∀ a ∈ fp, a ∉ own
  mu : ∀ a ∈ fp, a ∉ μ.dom
  tab : ∀ a ∈ fp, a ∉ g.tabDom
  live : ∀ a ∈ fp, ∃ o, h.get? a = some o ∧ ¬ IsNs o
  cells : ∀ a ∈ fp, ∀ p ∈ env.cells, p.2 ≠ a

theorem Aside.tr {fp μ' F F' s s'} (x : Aside g env own μ F fp s.heap) (t : Tr g own μ μ' F F' s s') : Aside g env own μ' F' fp s'.heap ∧ Agree fp s.heap s'.heap := by
  refine ⟨⟨fun a ha => ?_, x.own, fun a ha q => ?_, x.tab, fun a ha => ?_, ?_⟩, fun b hb o e => t.at (by obtain ⟨o', e', h⟩ := x.live b hb; rw [e] at e'; cases e'; exact h) e (x.own b hb) (x.mu b hb) (x.tab b hb)⟩
  · rcases t.fr a with k | k | k | k
    · exact k
    · exact absurd (x.F a ha) k
    · exact absurd k (x.mu a ha)
    · obtain ⟨o, e, _⟩ := x.live a ha; rw [k] at e; cases e
  · rcases t.mu a q with k | k
    · exact x.mu a ha k
    · obtain ⟨o, e, _⟩ := x.live a ha; rw [k] at e; cases e
  · obtain ⟨o, e, h⟩ := x.live a ha; exact ⟨o, t.at h e (x.own a ha) (x.mu a ha) (x.tab a ha), h⟩
  · exact x.cells

/-- a turn of an iterator leaves all else -/
theorem iter_keep {fp F F'' s s₂} (G : GSt g μ F s.heap) (Fs : FSt env own ρ μ F s.heap) (As : Aside g env own μ F fp s.heap) (m : Moves fp s s₂) (hle : ∀ a o, F a = some o → F'' a = some o)
    (hfz : ∀ a o, F'' a = some o → s₂.heap.get? a = some o) (hfr : ∀ a, F'' a = none ∨ F a ≠ none ∨ s.heap.get? a = none) :
    GSt g μ F'' s₂.heap ∧ FSt env own ρ μ F'' s₂.heap ∧ ((∀ a ∈ fp, ∃ o, s₂.heap.get? a = some o ∧ ¬ IsNs o) → Aside g env own μ F'' fp s₂.heap) ∧ ∀ mt s₀ μ₀ F₀, (∀ a ∈ fp, s₀.heap.get? a = none) → Tr g mt μ₀ μ F₀ F s₀ s → Tr g mt μ₀ μ F₀ F'' s₀ s₂ := by
  have hno : ∀ a, (∃ o, s.heap.get? a = some o) → F a = none → F'' a = none := fun a ⟨o, e⟩ h => by
    rcases hfr a with k | k | k
    · exact k
    · exact absurd h k
    · rw [k] at e; cases e
  have G₂ : GSt g μ F'' s₂.heap := by
    refine ⟨fun a o e => hle _ _ (G.base a o e), hfz, fun q hq => ?_, fun p hp => ?_, G.nd, fun c hc => (by obtain ⟨o, e⟩ := G.fzc c hc; exact ⟨o, hle _ _ e⟩), G.dj, fun x hx => ?_⟩
    rotate_right
    · obtain ⟨hk', L, mm, hf, hn, hF', hm'⟩ := G.stk x hx
      obtain ⟨o', es, ep, ho, hd, r⟩ := hn
      exact ⟨hk', L, mm, hf, ⟨o', es, ep, m.1 _ _ ho (fun z => by obtain ⟨o2, e2, k2⟩ := As.live _ z; rw [ho] at e2; cases e2; exact k2 ⟨es, ep, hd⟩), hd, r⟩, hno _ ⟨_, ho⟩ hF', hm'⟩
    · obtain ⟨a, ps, b, c, d⟩ := G.tb q hq
      refine ⟨hno _ ⟨_, b⟩ a, ps, m.1 _ _ b (fun z => As.tab _ z (List.mem_map_of_mem hq)), c, fun pos cv z => (d pos cv z).mono hle⟩
    · obtain ⟨a, b⟩ := G.mu p hp
      exact ⟨hno _ b.live a, b.move hle fun o e => m.1 _ _ e (fun z => As.mu _ z (List.mem_map_of_mem hp))⟩
  have hkeep : ∀ a, (∀ x ∈ fp, x ≠ a) → ∀ o, s.heap.get? a = some o → s₂.heap.get? a = some o := fun a h o e => m.1 a o e fun q => h a q rfl
  refine ⟨G₂, ?_, fun lv => ⟨fun a ha => hno a ((by obtain ⟨o, e, _⟩ := As.live a ha; exact ⟨o, e⟩)) (As.F a ha), As.own, As.mu, As.tab, lv, As.cells⟩, fun mt s₀ μ₀ F₀ hs t => ?_⟩
  · have hl : ∀ o, s.heap.get? env.locals = some o → s₂.heap.get? env.locals = some o := hkeep _ fun x hx e => As.own x hx (e ▸ Fs.ok.lown)
    have hc : ∀ p ∈ env.cells, ∀ o, s.heap.get? p.2 = some o → s₂.heap.get? p.2 = some o := fun p hp o e => m.1 _ _ e fun q => As.cells _ q p hp rfl
    refine ⟨Fs.ok, ?_, fun x d e => ?_, fun p hp => ?_, fun a ha => hno a (Fs.live a ha) (Fs.ownF a ha), fun a ha => (by obtain ⟨o, e⟩ := Fs.live a ha; exact ⟨o, hkeep a (fun x hx e => As.own x hx (e ▸ ha)) o e⟩), Fs.muo⟩
    · obtain ⟨mm, o, es, ep, e, r⟩ := Fs.ns
      exact ⟨mm, o, es, ep, hl o e, r⟩
    · obtain ⟨v, hv, hs⟩ := Fs.vars x d e
      exact ⟨v, hv.keeps hl hc, hs.mono hle⟩
    · obtain ⟨v, o, e, d⟩ := Fs.cells p hp
      exact ⟨v, o, hc p hp o e, d⟩
  · have nf : ∀ b o, s₀.heap.get? b = some o → b ∉ fp := fun b o e q => by rw [hs b q] at e; cases e
    refine ⟨fun b o e h1 h2 h3 => (by obtain ⟨o', e', u⟩ := t.ext b o e h1 h2 h3; exact ⟨o', m.1 _ _ e' (nf b o e), u⟩), fun b o e => (by obtain ⟨o', e'⟩ := t.live b o e; exact ⟨o', m.1 b o' e' (nf b o e)⟩), fun a o e => hle _ _ (t.le a o e), fun a => ?_, t.mu, m.2.1.trans t.os, m.2.2.trans t.gens⟩
    cases he : s₀.heap.get? a with
    | none => exact .inr (.inr (.inr rfl))
    | some o =>
      obtain ⟨o', e'⟩ := t.live a o he
      rcases hfr a with k | k | k
      · exact .inl k
      · rcases t.fr a with q | q | q | q
        · exact absurd q k
        · exact .inr (.inl q)
        · exact .inr (.inr (.inl q))
        · rw [he] at q; cases q
      · rw [k] at e'; cases e'

/-- turns of a for, one by one -/
noncomputable def ForL (g : G) (env : Env) (own : List Addr) (n : Nat) (tgt : Expr) (body : List Stmt) : List D → (Str → Option D) → Mu → (Fl → (Str → Option D) → Mu → Prop) → Prop
  | [], ρ, μ, Q => Q .next ρ μ
  | d :: ds, ρ, μ, Q => Asg env own (fun ρ₁ => Ex g env own n ρ₁ μ body fun f ρ₂ μ₂ => match f with
      | .next => ForL g env own n tgt body ds ρ₂ μ₂ Q
      | .cont => ForL g env own n tgt body ds ρ₂ μ₂ Q
      | .brk => Q .next ρ₂ μ₂
      | .ret d => Q (.ret d) ρ₂ μ₂) tgt d ρ

inductive EvIP (g : G) (env : Env) (own : List Addr) (n : Nat) (μ : Mu) (tgt : Expr) (s : Shared) (F : FM) (Q : List D → Mu → Prop) (it : Value) (s₂ : Shared) : Prop
  | mk (ds : List D) (μ' : Mu) (F' : FM) (fp : List Addr) (t : Tr g [] μ μ' F F' s s₂) (G : GSt g μ' F' s₂.heap) (As : Aside g env own μ' F' fp s₂.heap) (hfp : ∀ a ∈ fp, s.heap.get? a = none) (It : Iter g tgt it fp ds F' s₂.heap)
      (self : ∀ A' s', Ok g 4 A' → Agree fp s₂.heap s'.heap → (∀ a o, F' a = some o → s'.heap.get? a = some o) → wpAny (model g.prog g.w) A' (pyIter it) (fun it' s'' => it' = it ∧ s''.heap = s'.heap ∧ s''.os = s'.os ∧ s''.gens = s'.gens) (fun _ _ => False) s')
      (q : Q ds μ')
/-- the head of a for: what is iterated -/
noncomputable def EvI (g : G) (env : Env) (own : List Addr) (n : Nat) (ρ : Str → Option D) (μ : Mu) (tgt e : Expr) (Q : List D → Mu → Prop) : Prop :=
  ∀ A F s, Ok g n A → GSt g μ F s.heap → FSt env own ρ μ F s.heap →
    wpAny (model g.prog g.w) A (eval e env) (fun x s₁ => wpAny (model g.prog g.w) A (pyIter x) (EvIP g env own n μ tgt s F Q) (fun _ _ => False) s₁) (fun _ _ => False) s

inductive ForI (g : G) (env : Env) (own : List Addr) (n : Nat) (tgt : Expr) (body : List Stmt) (it : Value) (fp : List Addr) (μ : Mu) (s : Shared) (F : FM) (Q : Fl → (Str → Option D) → Mu → Prop) (k : Nat) (s' : Shared) : Prop
  | mk (ds : List D) (ρ' : Str → Option D) (μ' : Mu) (F' : FM) (hk : ds.length = k) (t : Tr g own μ μ' F F' s s') (G : GSt g μ' F' s'.heap) (Fs : FSt env own ρ' μ' F' s'.heap) (As : Aside g env own μ' F' fp s'.heap) (It : Iter g tgt it fp ds F' s'.heap)
      (h : ForL g env own n tgt body ds ρ' μ' Q)
theorem Iter.move0 {tgt it fp F F' h h'} : ∀ {ds}, Iter g tgt it fp ds F h → Agree fp h h' → (∀ a o, F a = some o → F' a = some o) → Iter g tgt it fp ds F' h'
  | [], I, ag, le => fun A' s' F'' ok' ag' le' => I A' s' F'' ok' (fun b hb o e => ag' b hb o (ag b hb o e)) (fun a o e => le' a o (le a o e))
  | _ :: _, I, ag, le => fun A' s' F'' ok' ag' le' => I A' s' F'' ok' (fun b hb o e => ag' b hb o (ag b hb o e)) (fun a o e => le' a o (le a o e))
theorem fr_same0 {F : FM} {h : Heap} (a : Addr) : F a = none ∨ F a ≠ none ∨ h.get? a = none := by
  cases F a with
  | none => exact .inl rfl
  | some o => exact .inr (.inl (fun z => nomatch z))
theorem Ex1.for {tgt iter body pos Q} (hn : 4 ≤ n) (h : EvI g env own n ρ μ tgt iter fun ds μ₁ => ForL g env own n tgt body ds ρ μ₁ Q) (hs : ∀ x, foldedSetIterable iter env x = pure x := by intro _; rfl) :
    Ex1 g env own n ρ μ (.For tgt iter body [] pos) Q := fun A F s ok G Fs => by
  refine wpAny_For (hs := hs) (wpAny_mono (h A F s ok G Fs) (fun x s₁ h₁ => wpAny_mono h₁ ?_ fun _ _ x => x.elim) fun _ _ x => x.elim)
  rintro it s₂ ⟨ds, μ₁, F₁, fp, t₁, G₁, As₁, hfp, It, _, hL⟩
  refine codeAny_forLoop_any (ForI g env own n tgt body it fp μ s F Q) ?_ ds.length ⟨ds, ρ, μ₁, F₁, rfl, t₁.toOwn, G₁, Fs.tr G t₁ G₁, As₁, It, hL⟩
  clear h hL It As₁ G₁ t₁
  rintro k s₃ ⟨ds₃, ρ₃, μ₃, F₃, hk, t₃, G₃, Fs₃, As₃, It₃, hL₃⟩
  cases ds₃ with
  | nil =>
    refine wpAny_mono (It₃ A s₃ F₃ (ok.le hn) (fun _ _ _ e => e) (fun _ _ e => e) G₃.fz As₃.F) ?_ fun _ _ x => x.elim
    rintro r s₄ ⟨hr, m⟩
    subst hr
    obtain ⟨G₄, Fs₄, _, tr⟩ := iter_keep G₃ Fs₃ As₃ m (fun _ _ e => e) (fun a o e => m.1 a o (G₃.fz a o e) fun q => by rw [As₃.F a q] at e; cases e) fr_same0
    exact wpAny_execs_nil ⟨.next, ρ₃, μ₃, F₃, tr own s μ F hfp t₃, G₄, Fs₄, trivial, hL₃⟩
  | cons d ds₃ =>
    refine wpAny_mono (It₃ A s₃ F₃ (ok.le hn) (fun _ _ _ e => e) (fun _ _ e => e) G₃.fz As₃.F) ?_ fun _ _ x => x.elim
    rintro r s₄ ⟨v, hr, h₄⟩
    subst hr
    refine wpAny_mono h₄ ?_ fun _ _ x => x.elim
    rintro _ s₅ ⟨F₅, hle, hfz, hfr, sv, m, lv, It₅⟩
    obtain ⟨G₅, Fs₅, As₅, tr⟩ := iter_keep G₃ Fs₃ As₃ m hle hfz hfr
    refine wpAny_mono (wp_asg ok.hand hL₃ sv G₅ Fs₅) ?_ fun _ _ x => x.elim
    rintro _ s₆ ⟨ρ₆, t₆, G₆, Fs₆, h₆⟩
    obtain ⟨As₆, ag₆⟩ := (As₅ lv).tr t₆
    refine wpAny_mono (h₆ A F₅ s₆ ok G₆ Fs₆) ?_ fun _ _ x => x.elim
    rintro fl s₇ ⟨f, ρ₇, μ₇, F₇, t₇, G₇, Fs₇, sf, h₇⟩
    obtain ⟨As₇, ag₇⟩ := As₆.tr t₇
    have T := ((tr own s μ F hfp t₃).trans t₆).trans t₇
    have again : ForL g env own n tgt body ds₃ ρ₇ μ₇ Q → ∃ m, m < k ∧ ForI g env own n tgt body it fp μ s F Q m s₇ := fun h =>
      ⟨ds₃.length, hk ▸ Nat.lt_succ_self _, ds₃, ρ₇, μ₇, F₇, rfl, T, G₇, Fs₇, As₇, It₅.move0 (fun b hb o e => ag₇ b hb o (ag₆ b hb o e)) t₇.le, h⟩
    cases fl <;> cases f <;> first
      | exact sf.elim
      | exact again h₇
      | exact ⟨_, ρ₇, μ₇, F₇, T, G₇, Fs₇, sf, h₇⟩
      | exact ⟨.next, ρ₇, μ₇, F₇, T, G₇, Fs₇, trivial, h₇⟩
end

open PySem PySem.W PySem.Calls PyProof.Rows
set_option maxRecDepth 20000
section
variable {g : G} {env : Env} {own : List Addr} {n : Nat} {ρ : Str → Option D} {μ : Mu}

set_option tactic.hygienic true in
theorem let_plain {M : Model} {A : Around} {E : Value → Shared → Prop} {s : Shared} {tgt : Expr} {it : Addr} {v : Value} {o : Obj} {T : String} {Q : Unit → Shared → Prop} (ho : s.heap.get? it = some o) (hc : o.cls = .type T)
    (hT : ["enumerate", "zip", "dict_itemiterator", "dict_reverseitemiterator", "odict_iterator", "itertools.zip_longest", "itertools.pairwise"].contains T = false) (h : Q () s) :
    wpAny M A (letOwnedTupleGo tgt (.ref it) v) Q E s := by
  unfold letOwnedTupleGo
  have body : wpAny M A (do
      let (.ref r, .ref a) := (Value.ref it, v) | return
      let o ← load r
      match o.cls, o.data with
      | .type n, .fields vs =>
        if ["enumerate", "zip", "dict_itemiterator", "dict_reverseitemiterator", "odict_iterator", "itertools.zip_longest", "itertools.pairwise"].contains n && vs[0]? == some (rawInt a) then
          rule "for.unpacks-the-owned-tuple"
          updateField r 0 .none
      | _, _ => pure ()) Q E s := by
    split
    · rename_i r a q
      cases q
      refine wpAny_bind (wpAny_load ho ?_)
      rw [hc]
      split
      · rename_i q1 q2
        cases q1
        rw [hT]
        exact wpAny_pure h
      · exact wpAny_pure h
    · exact wpAny_pure h
  split
  · exact body
  · exact body
  · exact wpAny_pure h

theorem drop_cons {α : Type} {l : List α} {i : Nat} {d : α} {r : List α} (h : l.drop i = d :: r) : l[i]? = some d ∧ l.drop (i + 1) = r := by
  refine ⟨?_, ?_⟩
  · rw [← List.head?_drop, h]; rfl
  · rw [← List.tail_drop, h]; rfl

theorem fr_same {F' : FM} {s : Shared} : ∀ a, F' a = none ∨ F' a ≠ none ∨ s.heap.get? a = none := fun a => by
  cases hq : F' a with
  | none => exact .inl rfl
  | some o => exact .inr (.inl (by simp))

theorem Iter.list {tgt : Expr} {it l : Addr} {vs : Array Value} {k : Nat} {all : List D} : ∀ {ds : List D} {i : Nat} {F : FM} {h : Heap}, F l = some { cls := .type "list", dict := Option.none, data := .seq vs k, slots := #[] } →
    SeesAll F vs.toList all → h.IsListIter it l i → all.drop i = ds → Iter g tgt (.ref it) [it] ds F h
  | [], i, F, h, hF, sa, hit, hd => fun A s F' ok ag le fz nf => by
    have hit' : s.heap.IsListIter it l i := by obtain ⟨o, e, r⟩ := hit; exact ⟨o, ag it (.head _) o e, r⟩
    have hL : s.heap.IsList l vs := ⟨_, fz _ _ (le _ _ hF), rfl, _, rfl⟩
    have hx : vs[i]? = none := by
      have := List.drop_eq_nil_iff.mp hd
      have z := sa.size
      rw [Array.getElem?_eq_none_iff]; lia
    exact wpAny_pyNext_list_end ok.hand hit' hL hx fun h' he => ⟨rfl, fun b o e hb => he b o (by simpa using hb) e, rfl, rfl⟩
  | d :: ds, i, F, h, hF, sa, hit, hd => fun A s F' ok ag le fz nf => by
    have hit' : s.heap.IsListIter it l i := by obtain ⟨o, e, r⟩ := hit; exact ⟨o, ag it (.head _) o e, r⟩
    have hFl := le _ _ hF
    have hL : s.heap.IsList l vs := ⟨_, fz _ _ hFl, rfl, _, rfl⟩
    obtain ⟨h1, h2⟩ := drop_cons hd
    obtain ⟨v, hv, sv⟩ := sa.get h1
    refine wpAny_pyNext_list_item hit' hL (by simpa using hv) fun h' hn sb => ⟨v, rfl, ?_⟩
    obtain ⟨o', e', c', d'⟩ := id hn
    refine let_plain e' c' (by decide) ⟨F', fun _ _ e => e, fun a o e => (sb.2 a fun z => ?_).trans (fz a o e), fr_same, sv.mono le, ⟨fun b o e hb => (sb.2 b (by simpa using hb)).trans e, rfl, rfl⟩, fun a ha => ?_, ?_⟩
    · rw [z, nf it (.head _)] at e; cases e
    · rw [List.mem_singleton.mp ha]; exact ⟨o', e', nns d'⟩
    · exact Iter.list hFl (sa.mono le) hn h2

theorem Iter.tuple {tgt : Expr} {it l : Addr} {vs : Array Value} {k : Nat} {all : List D} : ∀ {ds : List D} {i : Nat} {F : FM} {h : Heap}, F l = some { cls := .type "tuple", dict := Option.none, data := .seq vs k, slots := #[] } →
    SeesAll F vs.toList all → h.IsTupleIter it l i → all.drop i = ds → Iter g tgt (.ref it) [it] ds F h
  | [], i, F, h, hF, sa, hit, hd => fun A s F' ok ag le fz nf => by
    have hit' : s.heap.IsTupleIter it l i := by obtain ⟨o, e, r⟩ := hit; exact ⟨o, ag it (.head _) o e, r⟩
    have hL : s.heap.IsTuple l vs := ⟨_, fz _ _ (le _ _ hF), rfl, _, rfl⟩
    have hx : vs[i]? = none := by
      have := List.drop_eq_nil_iff.mp hd
      have z := sa.size
      rw [Array.getElem?_eq_none_iff]; lia
    exact wpAny_pyNext_tuple_end ok.hand hit' hL hx fun h' he => ⟨rfl, fun b o e hb => he b o (by simpa using hb) e, rfl, rfl⟩
  | d :: ds, i, F, h, hF, sa, hit, hd => fun A s F' ok ag le fz nf => by
    have hit' : s.heap.IsTupleIter it l i := by obtain ⟨o, e, r⟩ := hit; exact ⟨o, ag it (.head _) o e, r⟩
    have hFl := le _ _ hF
    have hL : s.heap.IsTuple l vs := ⟨_, fz _ _ hFl, rfl, _, rfl⟩
    obtain ⟨h1, h2⟩ := drop_cons hd
    obtain ⟨v, hv, sv⟩ := sa.get h1
    refine wpAny_pyNext_tuple_item hit' hL (by simpa using hv) fun h' hn sb => ⟨v, rfl, ?_⟩
    obtain ⟨o', e', c', d'⟩ := id hn
    refine let_plain e' c' (by decide) ⟨F', fun _ _ e => e, fun a o e => (sb.2 a fun z => ?_).trans (fz a o e), fr_same, sv.mono le, ⟨fun b o e hb => (sb.2 b (by simpa using hb)).trans e, rfl, rfl⟩, fun a ha => ?_, ?_⟩
    · rw [z, nf it (.head _)] at e; cases e
    · rw [List.mem_singleton.mp ha]; exact ⟨o', e', nns d'⟩
    · exact Iter.tuple hFl (sa.mono le) hn h2

/-- the ints of a range -/
noncomputable def rangeD (a c : Int) : Nat → List D
  | 0 => []
  | k + 1 => .int a :: rangeD (a + c) c k
theorem Iter.range {tgt : Expr} {it : Addr} {c : Int} : ∀ {m : Nat} {x : Int} {F : FM} {h : Heap}, IsRangeIter h it x (m : Int) c → Iter g tgt (.ref it) [it] (rangeD x c m) F h
  | 0, x, F, h, hit => fun A s F' ok ag le fz nf => by
    have hit' : IsRangeIter s.heap it x ((0 : Nat) : Int) c := ag it (.head _) _ hit
    exact wpAny_pyNext_range_end ok.hand hit' (by simp) fun h' he => ⟨rfl, fun b o e hb => he b o (by simpa using hb) e, rfl, rfl⟩
  | m + 1, x, F, h, hit => fun A s F' ok ag le fz nf => by
    have hit' : IsRangeIter s.heap it x ((m + 1 : Nat) : Int) c := ag it (.head _) _ hit
    refine wpAny_pyNext_range_item hit' (by (clear hit' nf fz le ag ok hit; lia)) fun h' hn sb => ⟨_, rfl, ?_⟩
    rw [show ((m + 1 : Nat) : Int) - 1 = (m : Int) by lia] at hn
    refine let_plain hn rfl (by decide) ⟨F', fun _ _ e => e, fun a o e => (sb.2 a fun z => ?_).trans (fz a o e), fr_same, .int _ _, ⟨fun b o e hb => (sb.2 b (by simpa using hb)).trans e, rfl, rfl⟩, fun a ha => ?_, ?_⟩
    · rw [z, nf it (.head _)] at e; cases e
    · rw [List.mem_singleton.mp ha]; exact ⟨_, hn, nns rfl⟩
    · exact Iter.range hn

/-- enumerate over a list -/
noncomputable def enumD : Int → List D → List D
  | _, [] => []
  | i, d :: ds => .tup [.int i, d] :: enumD (i + 1) ds
theorem Iter.enum {es : List Expr} {x1 : Nat} {pos : Pos} {e it l : Addr} (hne : e ≠ it) {vs : Array Value} {k : Nat} {all : List D} : ∀ {ds : List D} {i : Nat} {old : Value} {F : FM} {h : Heap}, F l = some { cls := .type "list", dict := Option.none, data := .seq vs k, slots := #[] } →
    SeesAll F vs.toList all → IsEnum h e it i old → h.IsListIter it l i → all.drop i = ds → Iter g (.Tuple es x1 pos) (.ref e) [e, it] (enumD i ds) F h
  | [], i, old, F, h, hF, sa, hen, hit, hd => fun A s F' ok ag le fz nf => by
    have hit' : s.heap.IsListIter it l i := by obtain ⟨o, e', r⟩ := hit; exact ⟨o, ag it (.tail _ (.head _)) o e', r⟩
    have hen' : IsEnum s.heap e it i old := ag e (.head _) _ hen
    have hL : s.heap.IsList l vs := ⟨_, fz _ _ (le _ _ hF), rfl, _, rfl⟩
    have hx : vs[i]? = none := by
      have := List.drop_eq_nil_iff.mp hd
      have z := sa.size
      rw [Array.getElem?_eq_none_iff]; lia
    refine wpAny_pyNext_enum_end ok.hand hen' hit' hL hx fun h' he => ⟨rfl, fun b o e hb => he b o ?_ e, rfl, rfl⟩
    simp only [List.mem_cons, not_or] at hb; exact hb.2.1
  | d :: ds, i, old, F, h, hF, sa, hen, hit, hd => fun A s F' ok ag le fz nf => by
    have hit' : s.heap.IsListIter it l i := by obtain ⟨o, e', r⟩ := hit; exact ⟨o, ag it (.tail _ (.head _)) o e', r⟩
    have hen' : IsEnum s.heap e it i old := ag e (.head _) _ hen
    have hFl := le _ _ hF
    have hL : s.heap.IsList l vs := ⟨_, fz _ _ hFl, rfl, _, rfl⟩
    obtain ⟨h1, h2⟩ := drop_cons hd
    obtain ⟨v, hv, sv⟩ := sa.get h1
    refine wpAny_pyNext_enum_item hen' hit' hL (by simpa using hv) hne fun h' ho hn ht hsz hk => ⟨_, rfl, ?_⟩
    refine wpAny_letOwnedTupleGo_enum ho fun h'' he2 hs2 => ?_
    have hel : e < s.heap.objs.size := Heap.lt_size hen'
    have hil : it < s.heap.objs.size := by obtain ⟨o, e', _⟩ := hit'; exact Heap.lt_size e'
    have hkp : ∀ b o, b ∉ [e, it] → s.heap.get? b = some o → h''.get? b = some o := fun b o hb e0 => by
      simp only [List.mem_cons, not_or] at hb
      exact (hs2.2 b hb.1).trans (hk b o hb.1 hb.2.1 e0)
    have htup : h''.get? s.heap.objs.size = some { cls := .type "tuple", data := .seq #[.int i s.toks, v] } := (hs2.2 _ (Nat.ne_of_gt hel)).trans ht
    have hn'' : h''.IsListIter it l (i + 1) := by obtain ⟨o, e', r⟩ := hn; exact ⟨o, (hs2.2 _ (Ne.symm hne)).trans e', r⟩
    have hFs : F' s.heap.objs.size = none := by
      cases hq : F' s.heap.objs.size with
      | none => rfl
      | some o => have := fz _ _ hq; rw [get_size] at this; cases this
    have lep := put_le (o := { cls := .type "tuple", data := .seq #[.int i s.toks, v] }) hFs
    refine ⟨put F' s.heap.objs.size { cls := .type "tuple", data := .seq #[.int i s.toks, v] }, lep, fun a o e0 => ?_, fun a => ?_, .tup put_same (.cons (.int _ _) (.cons ((sv.mono le).mono lep) .nil)), ⟨fun b o e0 hb => hkp b o hb e0, rfl, rfl⟩, fun a ha => ?_, ?_⟩
    · by_cases hb : a = s.heap.objs.size
      · subst hb; rw [put_same] at e0; cases e0; exact htup
      · rw [put_ne hb] at e0
        exact hkp a o (fun z => by rw [nf a z] at e0; cases e0) (fz a o e0)
    · by_cases hb : a = s.heap.objs.size
      · subst hb; exact .inr (.inr get_size)
      · rw [put_ne hb]; exact fr_same a
    · simp only [List.mem_cons, List.not_mem_nil, or_false] at ha
      rcases ha with rfl | rfl
      · exact ⟨_, he2, nns rfl⟩
      · obtain ⟨o, e', _, d'⟩ := hn''; exact ⟨o, e', nns d'⟩
    · exact Iter.enum hne (lep _ _ hFl) ((sa.mono le).mono lep) he2 hn'' h2

/-- zip of two lists -/
noncomputable def zipD (xs ys : List D) : List D := List.zipWith (fun a b => .tup [a, b]) xs ys
/-! heads of loops -/
theorem GSt.fresh {F h} (G : GSt g μ F h) {a : Addr} (ha : h.get? a = none) : F a = none ∧ a ∉ μ.dom ∧ a ∉ g.tabDom := by
  refine ⟨?_, fun q => ?_, fun q => ?_⟩
  · cases hq : F a with
    | none => rfl
    | some o => have := G.fz _ _ hq; rw [ha] at this; cases this
  · obtain ⟨p, hp, rfl⟩ := List.mem_map.mp q
    obtain ⟨_, b⟩ := G.mu p hp
    obtain ⟨o, e1⟩ := b.live
    rw [ha] at e1; cases e1
  · obtain ⟨p, hp, rfl⟩ := List.mem_map.mp q
    obtain ⟨_, ps, e, _⟩ := G.tb p hp
    rw [ha] at e; cases e
/-- new objects are aside -/
theorem Aside.new {F} {s s' : Shared} {fp : List Addr} (G : GSt g μ F s.heap) (Fs : FSt env own ρ μ F s.heap) (hn : ∀ a ∈ fp, s.heap.get? a = none) (hl : ∀ a ∈ fp, ∃ o, s'.heap.get? a = some o ∧ ¬ IsNs o) : Aside g env own μ F fp s'.heap :=
  ⟨fun a ha => (G.fresh (hn a ha)).1, fun a ha q => (by obtain ⟨o, e⟩ := Fs.live a q; rw [hn a ha] at e; cases e), fun a ha => (G.fresh (hn a ha)).2.1, fun a ha => (G.fresh (hn a ha)).2.2, hl,
    fun a ha p hp q => (by obtain ⟨v, o, e, _⟩ := Fs.cells p hp; rw [q, hn a ha] at e; cases e)⟩
theorem fresh_back {s s₁ : Shared} {mt μ₁ F F₁} (t : Tr g mt μ μ₁ F F₁ s s₁) {a : Addr} (h : s₁.heap.get? a = none) : s.heap.get? a = none := by
  cases hq : s.heap.get? a with
  | none => rfl
  | some o => obtain ⟨o', e⟩ := t.live a o hq; rw [h] at e; cases e

theorem wp_selfIter {M : Model} {A : Around} {s : Shared} {it : Value} (h : ∀ Q : Value → Shared → Prop, Q it s → wpAny M A (pyIter it) Q (fun _ _ => False) s) :
    wpAny M A (pyIter it) (fun it' s'' => it' = it ∧ s''.heap = s.heap ∧ s''.os = s.os ∧ s''.gens = s.gens) (fun _ _ => False) s := h _ ⟨rfl, rfl, rfl, rfl⟩

theorem EvI.list {tgt e Q} (h : Ev g env own n ρ μ e fun d μ₁ => ∃ ds, d = .lst ds ∧ Q ds μ₁) : EvI g env own n ρ μ tgt e Q := fun A F s ok G Fs =>
  wp_seq h ok G Fs fun v d μ₁ F₁ s₁ t₁ G₁ Fs₁ sv hq => by
    obtain ⟨ds, rfl, hq⟩ := hq
    obtain @⟨l, vs, k, e0, sds⟩ := Sees.lstI sv
    have hL : s₁.heap.IsList l vs := ⟨_, G₁.fz _ _ e0, rfl, _, rfl⟩
    refine wpAny_pyIter_list hL ?_
    have hk : ∀ b o, s₁.heap.get? b = some o → (s₁.heap.push { cls := .type "list_iterator", data := .fields #[.ref l, .int 0 0] }).get? b = some o := fun b o e => Heap.get?_push_of_some _ e
    have hit : (s₁.heap.push { cls := .type "list_iterator", data := .fields #[.ref l, .int 0 0] }).IsListIter s₁.heap.objs.size l 0 := ⟨_, Heap.get?_push_size _ rfl, rfl, rfl⟩
    refine ⟨ds, μ₁, F₁, [s₁.heap.objs.size], t₁.trans (Tr.of_ext hk rfl rfl), G₁.ext hk, Aside.new (s := s₁) (s' := { s₁ with heap := s₁.heap.push { cls := .type "list_iterator", data := .fields #[.ref l, .int 0 0] } }) G₁ Fs₁ (fun a ha => ?_) (fun a ha => ?_), fun a ha => ?_, Iter.list e0 sds hit (by simp), fun A' s' ok' ag _ => ?_, hq⟩
    · rw [List.mem_singleton.mp ha]; exact get_size
    · rw [List.mem_singleton.mp ha]; exact ⟨_, Heap.get?_push_size _ rfl, nns rfl⟩
    · rw [List.mem_singleton.mp ha]; exact fresh_back t₁ get_size
    · have hit' : s'.heap.IsListIter s₁.heap.objs.size l 0 := by obtain ⟨o, e, r⟩ := hit; exact ⟨o, ag _ (.head _) o e, r⟩
      exact wp_selfIter fun Q' hq' => wpAny_pyIter_listiter hit' hq'
theorem EvI.tuple {tgt e Q} (h : Ev g env own n ρ μ e fun d μ₁ => ∃ ds, d = .tup ds ∧ Q ds μ₁) : EvI g env own n ρ μ tgt e Q := fun A F s ok G Fs =>
  wp_seq h ok G Fs fun v d μ₁ F₁ s₁ t₁ G₁ Fs₁ sv hq => by
    obtain ⟨ds, rfl, hq⟩ := hq
    obtain @⟨l, vs, k, e0, sds⟩ := Sees.tupI sv
    have hL : s₁.heap.IsTuple l vs := ⟨_, G₁.fz _ _ e0, rfl, _, rfl⟩
    refine wpAny_pyIter_tuple hL ?_
    have hk : ∀ b o, s₁.heap.get? b = some o → (s₁.heap.push { cls := .type "tuple_iterator", data := .fields #[.ref l, .int 0 0] }).get? b = some o := fun b o e => Heap.get?_push_of_some _ e
    have hit : (s₁.heap.push { cls := .type "tuple_iterator", data := .fields #[.ref l, .int 0 0] }).IsTupleIter s₁.heap.objs.size l 0 := ⟨_, Heap.get?_push_size _ rfl, rfl, rfl⟩
    refine ⟨ds, μ₁, F₁, [s₁.heap.objs.size], t₁.trans (Tr.of_ext hk rfl rfl), G₁.ext hk, Aside.new (s := s₁) (s' := { s₁ with heap := s₁.heap.push { cls := .type "tuple_iterator", data := .fields #[.ref l, .int 0 0] } }) G₁ Fs₁ (fun a ha => ?_) (fun a ha => ?_), fun a ha => ?_, Iter.tuple e0 sds hit (by simp), fun A' s' ok' ag _ => ?_, hq⟩
    · rw [List.mem_singleton.mp ha]; exact get_size
    · rw [List.mem_singleton.mp ha]; exact ⟨_, Heap.get?_push_size _ rfl, nns rfl⟩
    · rw [List.mem_singleton.mp ha]; exact fresh_back t₁ get_size
    · have hit' : s'.heap.IsTupleIter s₁.heap.objs.size l 0 := by obtain ⟨o, e, r⟩ := hit; exact ⟨o, ag _ (.head _) o e, r⟩
      exact wp_selfIter fun Q' hq' => wpAny_pyIter_tupleiter hit' hq'
/-- how many a range holds -/
theorem EvI.range {tgt e Q} (h : Ev g env own n ρ μ e fun d μ₁ => ∃ a b c m, d = .rng a b c ∧ Builtin.Range.small a b c = true ∧ Builtin.Range.rangeSize a b c = (m : Nat) ∧ Q (rangeD a c m) μ₁) : EvI g env own n ρ μ tgt e Q := fun A F s ok G Fs =>
  wp_seq h ok G Fs fun v d μ₁ F₁ s₁ t₁ G₁ Fs₁ sv hq => by
    obtain ⟨a, b, c, m, rfl, hs, hm, hq⟩ := hq
    obtain @⟨l, t, u, w, e0⟩ := Sees.rngI sv
    refine wpAny_pyIter_range (G₁.fz _ _ e0) hs ?_
    rw [hm]
    have hk : ∀ b o, s₁.heap.get? b = some o → (s₁.heap.push { cls := .type "range_iterator", data := .fields #[rawInt a, rawInt (m : Int), rawInt c] }).get? b = some o := fun b o e => Heap.get?_push_of_some _ e
    have hit : IsRangeIter (s₁.heap.push { cls := .type "range_iterator", data := .fields #[rawInt a, rawInt (m : Int), rawInt c] }) s₁.heap.objs.size a (m : Int) c := Heap.get?_push_size _ rfl
    refine ⟨_, μ₁, F₁, [s₁.heap.objs.size], t₁.trans (Tr.of_ext hk rfl rfl), G₁.ext hk, Aside.new (s := s₁) (s' := { s₁ with heap := s₁.heap.push { cls := .type "range_iterator", data := .fields #[rawInt a, rawInt (m : Int), rawInt c] } }) G₁ Fs₁ (fun a ha => ?_) (fun a ha => ?_), fun a ha => ?_, Iter.range hit, fun A' s' ok' ag _ => ?_, hq⟩
    · rw [List.mem_singleton.mp ha]; exact get_size
    · rw [List.mem_singleton.mp ha]; exact ⟨_, Heap.get?_push_size _ rfl, nns rfl⟩
    · rw [List.mem_singleton.mp ha]; exact fresh_back t₁ get_size
    · exact wp_selfIter fun Q' hq' => wpAny_pyIter_rangeiter (ag _ (.head _) _ hit) hq'

theorem EvI.enum {es : List Expr} {x1 : Nat} {tp pos : Pos} {f x : Expr} {Q} (hf : Ev g env own n ρ μ f fun d μ₁ => d = .val (.type "enumerate") ∧ plainE x = true ∧ Ev g env own n ρ μ₁ x fun d μ₂ => ∃ ds, d = .lst ds ∧ Q (enumD 0 ds) μ₂)
    (he : eval (.Call f [x] [] pos) env = (do callWith pos (← eval f env) [] (backTo pos (starEach [x] env)) (backToKw pos (keywordEach [] env))) := by rfl) :
    EvI g env own n ρ μ (.Tuple es x1 tp) (.Call f [x] [] pos) Q := fun A F s ok G Fs => by
  rw [he]
  refine wpAny_bind (wp_seq hf ok G Fs fun fv fd μ₁ F₁ s₁ t₁ G₁ Fs₁ sf hq => ?_)
  obtain ⟨rfl, hp, hx⟩ := hq
  refine callWith_P (Q := fun ds ks μ₂ => ∃ xs, ds = [.lst xs] ∧ ks = [] ∧ Q (enumD 0 xs) μ₂) KeepD.type (by simp [hp]) rfl ok G₁ Fs₁ sf ⟨hp, hx.mono (by rintro d μ₂ ⟨ds, e, hq⟩; exact ⟨ds, by rw [e], rfl, hq⟩)⟩ fun vs kvs ds ks μ₂ F₂ s₂ t₂ G₂ Fs₂ sf₂ sds sks hn hq => ?_
  obtain ⟨xs, rfl, rfl, hq⟩ := hq
  have hkv : kvs = [] := by simpa using hn
  subst hkv
  obtain rfl := Sees.valI sf₂
  obtain ⟨_, _, rfl, sv, r⟩ := SeesAll.consI sds
  obtain rfl := SeesAll.nilI r
  obtain @⟨l, vs, k, e0, sxs⟩ := Sees.lstI sv
  have hl := G₂.fz _ _ e0
  refine call_enumerate_1 hl fun h' hen hit hsz hk => ?_
  have hne : s₂.heap.objs.size + 1 ≠ s₂.heap.objs.size := by lia
  refine wpAny_pyIter_enum hen ?_
  have hfr : ∀ a ∈ [s₂.heap.objs.size + 1, s₂.heap.objs.size], s₂.heap.get? a = none := fun a ha => by
    cases hq : s₂.heap.get? a with
    | none => rfl
    | some o =>
      have hb : @LT.lt Nat _ a s₂.heap.objs.size := Heap.lt_size hq
      simp only [List.mem_cons, List.not_mem_nil, or_false] at ha
      rcases ha with rfl | rfl <;> lia
  refine ⟨_, μ₂, F₂, [s₂.heap.objs.size + 1, s₂.heap.objs.size], (t₁.trans t₂).trans (Tr.of_ext hk rfl rfl), G₂.ext hk, Aside.new (s := s₂) (s' := { s₂ with heap := h' }) G₂ Fs₂ hfr (fun a ha => ?_), fun a ha => fresh_back (t₁.trans t₂) (hfr a ha), Iter.enum hne e0 sxs hen hit (by simp), fun A' s' ok' ag _ => ?_, hq⟩
  · simp only [List.mem_cons, List.not_mem_nil, or_false] at ha
    rcases ha with rfl | rfl
    · exact ⟨_, hen, nns rfl⟩
    · obtain ⟨o, e, _, d'⟩ := hit; exact ⟨o, e, nns d'⟩
  · exact wp_selfIter fun Q' hq' => wpAny_pyIter_enum (ag _ (.head _) _ hen) hq'

end

open PySem PySem.W PySem.Calls PyProof.Rows
set_option maxRecDepth 20000
section
variable {g : G} {env : Env} {own : List Addr} {n : Nat} {ρ : Str → Option D} {μ : Mu}

/-! comprehensions -/
noncomputable def EtIfs (g : G) (env : Env) (own : List Addr) (n : Nat) (ρ : Str → Option D) : List Expr → Mu → (Bool → Mu → Prop) → Prop
  | [], μ, Q => Q true μ
  | c :: cs, μ, Q => Et g env own n ρ μ c fun b μ₁ => (b = true → EtIfs g env own n ρ cs μ₁ Q) ∧ (b = false → Q false μ₁)

noncomputable abbrev CK := List D → (Str → Option D) → Mu → Prop
noncomputable def CompL (g : G) (env : Env) (own : List Addr) (n : Nat) (inner : (Str → Option D) → Mu → List D → CK → Prop) (tgt : Expr) (ifs : List Expr) : List D → (Str → Option D) → Mu → List D → CK → Prop
  | [], ρ, μ, acc, K => K acc ρ μ
  | d :: ds, ρ, μ, acc, K => Asg env own (fun ρ₁ => EtIfs g env own n ρ₁ ifs μ fun ok μ₁ =>
      (ok = true → inner ρ₁ μ₁ acc fun acc' ρ₂ μ₂ => CompL g env own n inner tgt ifs ds ρ₂ μ₂ acc' K) ∧ (ok = false → CompL g env own n inner tgt ifs ds ρ₁ μ₁ acc K)) tgt d ρ
noncomputable def CompG (g : G) (env : Env) (own : List Addr) (n : Nat) (elt : Expr) : List Comprehension → (Str → Option D) → Mu → List D → CK → Prop
  | [], ρ, μ, acc, K => acc.length ≤ 100000 ∧ Ev g env own n ρ μ elt fun d μ₁ => K (acc ++ [d]) ρ μ₁
  | ⟨tgt, iter, ifs, _⟩ :: rest, ρ, μ, acc, K => EvI g env own n ρ μ tgt iter fun ds μ₁ => CompL g env own n (CompG g env own n elt rest) tgt ifs ds ρ μ₁ acc K

theorem wt_ifs {A : Around} (ok : Ok g n A) : ∀ (ifs : List Expr) {μ Q F s}, EtIfs g env own n ρ ifs μ Q → GSt g μ F s.heap → FSt env own ρ μ F s.heap →
    wpAny (model g.prog g.w) A (forIn ifs true fun c r => if r = true then do let ok ← isTrue c env (eval c env); pure (ForInStep.yield ok) else pure (ForInStep.yield r)) (EtPost g μ s F Q) (fun _ _ => False) s := by
  have off : ∀ (ifs : List Expr) {P : Bool → Shared → Prop} {s : Shared}, P false s → wpAny (model g.prog g.w) A (forIn ifs false fun c r => if r = true then do let ok ← isTrue c env (eval c env); pure (ForInStep.yield ok) else pure (ForInStep.yield r)) P (fun _ _ => False) s := by
    intro ifs
    induction ifs with
    | nil => intro P s h; exact wpAny_pure h
    | cons c cs ih =>
      intro P s h
      rw [List.forIn_cons, if_neg (by decide)]
      exact wpAny_bind (wpAny_pure (ih h))
  intro ifs
  induction ifs with
  | nil => intro μ Q F s h G Fs; exact wpAny_pure ⟨μ, F, .refl, G, h⟩
  | cons c cs ih =>
    intro μ Q F s h G Fs
    rw [List.forIn_cons, if_pos rfl]
    refine wpAny_bind (wpAny_bind (wt_seq h ok G Fs fun b μ₁ F₁ s₁ t₁ G₁ Fs₁ hq => wpAny_pure ?_))
    cases b with
    | true => exact et_post t₁ (ih (hq.1 rfl) G₁ Fs₁)
    | false => exact off cs ⟨μ₁, F₁, t₁, G₁, hq.2 rfl⟩

theorem compTurn_last {elt : Expr} {gens : List Comprehension} {scope : Scope} {pos : Pos} {d : Nat} {target iter : Expr} {ifs : List Expr} (hg : gens[d]? = some ⟨target, iter, ifs, 0⟩) (hn : gens[d + 1]? = none) (it acc : Value) (env : Env) :
    compTurn (.ListComp elt gens scope pos) d it acc env = (standAt iter.pos >>= fun _ => pyNext it >>= fun r => match r with
      | none => pure (.done .next)
      | some v => letOwnedTupleGo target it v >>= fun _ => assign target env v >>= fun _ =>
        (forIn ifs true fun c r => if r = true then do let ok ← isTrue c env (eval c env); pure (ForInStep.yield ok) else pure (ForInStep.yield r)) >>= fun ok =>
        if ok = true then (do
            (do let x ← eval elt env; let _ ← call (.builtin "list.append") [acc, x]; pure ())
            again (.compLoop (.ListComp elt gens scope pos) d it acc env))
        else again (.compLoop (.ListComp elt gens scope pos) d it acc env)) := by
  unfold compTurn
  simp only [hg, hn]
  rfl
theorem compTurn_mid {elt : Expr} {gens : List Comprehension} {scope : Scope} {pos : Pos} {d : Nat} {target iter t' i' : Expr} {ifs f' : List Expr} (hg : gens[d]? = some ⟨target, iter, ifs, 0⟩) (hn : gens[d + 1]? = some ⟨t', i', f', 0⟩) (it acc : Value) (env : Env) :
    compTurn (.ListComp elt gens scope pos) d it acc env = (standAt iter.pos >>= fun _ => pyNext it >>= fun r => match r with
      | none => pure (.done .next)
      | some v => letOwnedTupleGo target it v >>= fun _ => assign target env v >>= fun _ =>
        (forIn ifs true fun c r => if r = true then do let ok ← isTrue c env (eval c env); pure (ForInStep.yield ok) else pure (ForInStep.yield r)) >>= fun ok =>
        if ok = true then (do
            let x ← eval i' env
            standAt i'.pos
            let x ← foldedSetIterable i' env x
            let it' ← holding [x] (pyIter x)
            let _ ← runOwn (.compStart (.ListComp elt gens scope pos) (d + 1) it' acc env) env
            again (.compLoop (.ListComp elt gens scope pos) d it acc env))
        else again (.compLoop (.ListComp elt gens scope pos) d it acc env)) := by
  unfold compTurn
  simp only [hg, hn]
  rfl

inductive AccAt (F : FM) (h : Heap) (a : Addr) (accD : List D) : Prop
  | mk (vs : Array Value) (k : Nat) (e : h.get? a = some { cls := .type "list", dict := Option.none, data := .seq vs k, slots := #[] }) (s : SeesAll F vs.toList accD)

theorem call_append {A : Around} {E : Value → Shared → Prop} {s : Shared} {prog w} {l : Addr} {vs : Array Value} {k : Nat} {x : Value} {Q : Value → Shared → Prop} (hl : s.heap.get? l = some { cls := .type "list", dict := Option.none, data := .seq vs k, slots := #[] })
    (hQ : ∀ h' k', h'.get? l = some { cls := .type "list", dict := Option.none, data := .seq (vs.push x) k', slots := #[] } → Heap.SameBut l s.heap h' → Q .none { s with heap := h' }) (hsz : vs.size ≤ sizeLine) :
    wpAny (model prog w) A (call (.builtin "list.append") [.ref l, x]) Q E s := by
  have hL : s.heap.IsList l vs := ⟨_, hl, rfl, _, rfl⟩
  refine wpAny_call_entry slot_list_append hL.typeIs entry_list_append ?_ (args_list_append _ _)
  show wpAny _ _ (updateSeq l (·.push x) >>= fun _ => ret .none) _ _ s
  refine wpAny_bind ?_
  refine wpAny_updateSeq hl rfl (wpAny_pure ⟨.none, rfl, hQ _ (k + 1) ?_ (Heap.SameBut.update ..)⟩)
  rw [Heap.get?_update_self _ hl rfl]
  simp [Obj.mapSeq]

theorem mark_none (A : Around) : A.mark none = A := by cases A; rfl

theorem AccAt.mono {F F' : FM} {h h' : Heap} {a accD} (x : AccAt F h a accD) (hk : ∀ o, h.get? a = some o → h'.get? a = some o) (le : ∀ b o, F b = some o → F' b = some o) : AccAt F' h' a accD :=
  (by obtain ⟨vs, k, e, sa⟩ := x; exact ⟨vs, k, hk _ e, sa.mono le⟩)

theorem comp_start {elt : Expr} {gens : List Comprehension} {scope : Scope} {pos : Pos} {d : Nat} {target iter : Expr} {ifs : List Expr} (hg : gens[d]? = some ⟨target, iter, ifs, 0⟩) {it acc : Value} {env : Env} {A : Around} {R : Result → Shared → Prop} {s : Shared} {prog w}
    (h0 : codeAny (model prog w) A (.compLoop (.ListComp elt gens scope pos) d it acc env) R s)
    (h : wpAny (model prog w) A (pyIter it) (fun it' s' => codeAny (model prog w) A (.compLoop (.ListComp elt gens scope pos) d it' acc env) R s') (notedBy (model prog w) A env fun x s' => R (.error x) s') s) :
    codeAny (model prog w) A (.compStart (.ListComp elt gens scope pos) d it acc env) R s := by
  refine codeAny_of_tree ?_
  show wpAny _ _ ((compStart (.ListComp elt gens scope pos) d it acc env).onRaise (fun x => do noteFrame x env; standAt theWindowsPlace)) _ _ s
  refine wpAny_notedAt ?_
  unfold compStart
  simp only [clausesOf, hg, Option.elim]
  show wpAny _ _ (ask >>= _) _ _ s
  refine wpAny_bind (wpAny_askSetting (wpAny_ite ?_))
  split
  · first
      | exact wpAny_bind (wpAny_pure (wpAny_pure (And.intro rfl h0)))
      | exact wpAny_pure (And.intro rfl h0)
  · refine wpAny_bind (wpAny_rule ?_)
    show wpAny _ _ (standAt iter.pos >>= _) _ _ s
    exact wpAny_bind (wpAny_standAt (wpAny_bind (wpAny_mono h (fun it' s' h' => wpAny_pure (And.intro rfl h')) fun _ _ x => x)))

theorem Aside.weak {fp own' F h} (x : Aside g env own μ F fp h) (k : ∀ a ∈ own', a ∈ own) : Aside g env own' μ F fp h := ⟨x.F, fun a ha q => x.own a ha (k a q), x.mu, x.tab, x.live, x.cells⟩
inductive CPost (g : G) (env : Env) (own : List Addr) (a : Addr) (μ₀ : Mu) (F₀ : FM) (s₀ : Shared) (K : CK) (r : Result) (s' : Shared) : Prop
  | mk (accD : List D) (ρ' : Str → Option D) (μ' : Mu) (F' : FM) (e : r = .ok .next) (t : Tr g (a :: own) μ₀ μ' F₀ F' s₀ s') (G : GSt g μ' F' s'.heap) (Fs : FSt env own ρ' μ' F' s'.heap) (As : Aside g env own μ' F' [a] s'.heap) (Acc : AccAt F' s'.heap a accD) (k : K accD ρ' μ')

noncomputable def GenOk (x : Comprehension) : Prop := x.is_async = 0 ∧ ∀ env v, foldedSetIterable x.iter env v = pure v

theorem Iter.move {tgt it fp ds F F' h h'} (I : Iter g tgt it fp ds F h) (ag : Agree fp h h') (le : ∀ a o, F a = some o → F' a = some o) : Iter g tgt it fp ds F' h' := by
  exact I.move0 ag le

theorem notedF {M : Model} {A : Around} {E : Value → Shared → Prop} {α : Type} {t : Sem α} {Q : α → Shared → Prop} {s : Shared} (h : wpAny M A t Q (fun _ _ => False) s) : wpAny M A t Q E s :=
  wpAny_mono h (fun _ _ x => x) fun _ _ x => x.elim

/-- how a comprehension stands within its loop -/
structure CS (g : G) (env : Env) (own : List Addr) (a : Addr) (fp : List Addr) (μ₀ : Mu) (F₀ : FM) (s₀ : Shared) (ρ : Str → Option D) (μ : Mu) (accD : List D) (F : FM) (s : Shared) : Prop where
  tt : Tr g (a :: own) μ₀ μ F₀ F s₀ s
  gs : GSt g μ F s.heap
  fs : FSt env own ρ μ F s.heap
  as : Aside g env own μ F [a] s.heap
  ac : AccAt F s.heap a accD
  ai : Aside g env (a :: own) μ F fp s.heap
noncomputable abbrev CL (g : G) (env : Env) (own : List Addr) (n : Nat) (elt : Expr) (rest : List Comprehension) (tgt : Expr) (ifs : List Expr) (K : CK) (ds : List D) (ρ : Str → Option D) (μ : Mu) (accD : List D) : Prop := CompL g env own n (CompG g env own n elt rest) tgt ifs ds ρ μ accD K
inductive CI (g : G) (env : Env) (own : List Addr) (n : Nat) (elt : Expr) (rest : List Comprehension) (tgt : Expr) (ifs : List Expr) (it : Value) (a : Addr) (fp : List Addr) (μ₀ : Mu) (F₀ : FM) (s₀ : Shared) (K : CK) (k : Nat) (s : Shared) : Prop
  | mk (ds : List D) (accD : List D) (ρ : Str → Option D) (μ : Mu) (F : FM) (hk : ds.length = k) (c : CS g env own a fp μ₀ F₀ s₀ ρ μ accD F s) (It : Iter g tgt it fp ds F s.heap) (hC : CL g env own n elt rest tgt ifs K ds ρ μ accD)
/-- one turn up to its tests -/
inductive CT (g : G) (env : Env) (own : List Addr) (n : Nat) (elt : Expr) (rest : List Comprehension) (tgt : Expr) (ifs : List Expr) (it : Value) (a : Addr) (fp : List Addr) (μ₀ : Mu) (F₀ : FM) (s₀ : Shared) (K : CK) (k : Nat) (acc : List D) (b : Bool) (s : Shared) : Prop
  | mk (ds : List D) (ρ : Str → Option D) (μ : Mu) (F : FM) (hk : ds.length + 1 = k) (c : CS g env own a fp μ₀ F₀ s₀ ρ μ acc F s) (It : Iter g tgt it fp ds F s.heap)
      (h : (b = true → CompG g env own n elt rest ρ μ acc fun acc' ρ₂ μ₂ => CL g env own n elt rest tgt ifs K ds ρ₂ μ₂ acc') ∧ (b = false → CL g env own n elt rest tgt ifs K ds ρ μ acc))
section
variable {elt : Expr} {gens : List Comprehension} {scope : Scope} {pos : Pos} {a : Addr} {rest : List Comprehension} {tgt : Expr} {ifs : List Expr} {it : Value} {fp : List Addr} {μ₀ : Mu} {F₀ : FM} {s₀ : Shared} {K : CK} {k : Nat}
theorem CS.tr {ρ μ₁ accD F F₁ s s₁} (c : CS g env own a fp μ₀ F₀ s₀ ρ μ accD F s) (t : Tr g [] μ μ₁ F F₁ s s₁) (G₁ : GSt g μ₁ F₁ s₁.heap) : CS g env own a fp μ₀ F₀ s₀ ρ μ₁ accD F₁ s₁ ∧ Agree fp s.heap s₁.heap := by
  have z := c.ai.tr t.toOwn
  have y := c.as.tr t.toOwn
  exact ⟨⟨c.tt.trans t.toOwn, G₁, c.fs.tr c.gs t G₁, y.1, c.ac.mono (fun o e => y.2 a (.head _) o e) t.le, z.1⟩, z.2⟩
theorem CS.same {ρ accD F s s'} (c : CS g env own a fp μ₀ F₀ s₀ ρ μ accD F s) (e1 : s'.heap = s.heap) (e2 : s'.os = s.os) (e3 : s'.gens = s.gens) : CS g env own a fp μ₀ F₀ s₀ ρ μ accD F s' := by
  have t := c.tt.trans (Tr.of_ext (g := g) (mt := a :: own) (μ := μ) (F := F) (fun b o e => by rw [e1]; exact e) e2 e3)
  obtain ⟨_, gs, fs, as, ac, ai⟩ := c
  rw [← e1] at gs fs as ac ai
  exact ⟨t, gs, fs, as, ac, ai⟩
theorem CS.noFp {ρ accD F s} (c : CS g env own a fp μ₀ F₀ s₀ ρ μ accD F s) : a ∉ fp := fun q => c.ai.own a q (.head _)
theorem CS.liveA {ρ accD F s} (c : CS g env own a fp μ₀ F₀ s₀ ρ μ accD F s) : ∃ o, s.heap.get? a = some o := (by obtain ⟨o, e, _⟩ := c.as.live a (.head _); exact ⟨o, e⟩)
theorem CI.of {ds accD ρ F s k'} (c : CS g env own a fp μ₀ F₀ s₀ ρ μ accD F s) (It : Iter g tgt it fp ds F s.heap) (hC : CL g env own n elt rest tgt ifs K ds ρ μ accD) (hk : ds.length + 1 = k') : ∃ m, m < k' ∧ CI g env own n elt rest tgt ifs it a fp μ₀ F₀ s₀ K m s :=
  ⟨ds.length, hk ▸ Nat.lt_succ_self _, ds, accD, ρ, μ, F, rfl, c, It, hC⟩
theorem live1 {F : FM} {h h' : Heap} {fp' : List Addr} (x : Aside g env own μ F [a] h) (m : ∀ b o, h.get? b = some o → b ∉ fp' → h'.get? b = some o) (ha : a ∉ fp') : ∀ b ∈ [a], ∃ o, h'.get? b = some o ∧ ¬ IsNs o := fun b hb => by
  obtain ⟨o, e, h⟩ := x.live b hb
  exact ⟨o, m b o e (by rw [List.mem_singleton.mp hb]; exact ha), h⟩
theorem fr_none {F F' : FM} {h : Heap} (hfr : ∀ b, F' b = none ∨ F b ≠ none ∨ h.get? b = none) {fp'} (x : Aside g env own μ F fp' h) : ∀ b ∈ fp', F' b = none := fun b hb => by
  rcases hfr b with k | k | k
  · exact k
  · exact absurd (x.F b hb) k
  · obtain ⟨o, e, _⟩ := x.live b hb; rw [k] at e; cases e
theorem comp_turn {X : Bool → Sem Fin} {P : Fin → Shared → Prop} {A : Around} {iter : Expr} {s₃} (hn : 4 ≤ n) (ok : Ok g n A) (hfp : ∀ b ∈ fp, s₀.heap.get? b = none) (i : CI g env own n elt rest tgt ifs it a fp μ₀ F₀ s₀ K k s₃)
    (hnil : ∀ s₄, CPost g env own a μ₀ F₀ s₀ K (.ok .next) s₄ → P (.done .next) s₄)
    (hcons : ∀ acc b s₇, CT g env own n elt rest tgt ifs it a fp μ₀ F₀ s₀ K k acc b s₇ → wpAny (model g.prog g.w) A (X b) P (fun _ _ => False) s₇) :
      wpAny (model g.prog g.w) A (standAt iter.pos >>= fun _ => pyNext it >>= fun r => match r with
        | none => pure (.done .next)
        | some v => letOwnedTupleGo tgt it v >>= fun _ => assign tgt env v >>= fun _ =>
          (forIn ifs true fun c r => if r = true then do let ok ← isTrue c env (eval c env); pure (ForInStep.yield ok) else pure (ForInStep.yield r)) >>= fun ok => X ok) P (fun _ _ => False) s₃ := by
  obtain ⟨ds₃, acc₃, ρ₃, μ₃, F₃, hk, c, It₃, hC₃⟩ := i
  have wk : ∀ x ∈ own, x ∈ a :: own := fun x hx => .tail _ hx
  refine wpAny_bind (wpAny_standAt (wpAny_bind ?_))
  cases ds₃ with
  | nil =>
    refine wpAny_mono (It₃ A s₃ F₃ (ok.le hn) (fun _ _ _ e => e) (fun _ _ e => e) c.gs.fz c.ai.F) ?_ fun _ _ x => x
    rintro r s₄ ⟨hr, m⟩
    subst hr
    have hno : ∀ a o, F₃ a = some o → s₄.heap.get? a = some o := fun a o e => m.1 a o (c.gs.fz a o e) fun q => by rw [c.ai.F a q] at e; cases e
    obtain ⟨G₄, Fs₄, _, tr⟩ := iter_keep c.gs c.fs (c.ai.weak wk) m (fun _ _ e => e) hno fr_same
    exact wpAny_pure (hnil s₄ ⟨acc₃, ρ₃, μ₃, F₃, rfl, tr _ s₀ μ₀ F₀ hfp c.tt, G₄, Fs₄, ⟨c.as.F, c.as.own, c.as.mu, c.as.tab, live1 c.as m.1 c.noFp, c.as.cells⟩, c.ac.mono (fun o e => m.1 a o e c.noFp) (fun _ _ e => e), hC₃⟩)
  | cons d' ds' =>
    refine wpAny_mono (It₃ A s₃ F₃ (ok.le hn) (fun _ _ _ e => e) (fun _ _ e => e) c.gs.fz c.ai.F) ?_ fun _ _ x => x
    rintro r s₄ ⟨v, hr, h₄⟩
    subst hr
    refine wpAny_bind (wpAny_mono h₄ ?_ fun _ _ x => x)
    rintro _ s₅ ⟨F₅, hle, hfz, hfr, sv, m, lv, It₅⟩
    obtain ⟨G₅, Fs₅, _, tr⟩ := iter_keep c.gs c.fs (c.ai.weak wk) m hle hfz hfr
    have c₅ : CS g env own a fp μ₀ F₀ s₀ ρ₃ μ₃ acc₃ F₅ s₅ := ⟨tr (a :: own) s₀ μ₀ F₀ hfp c.tt, G₅, Fs₅, ⟨fr_none hfr c.as, c.as.own, c.as.mu, c.as.tab, live1 c.as m.1 c.noFp, c.as.cells⟩, c.ac.mono (fun o e => m.1 a o e c.noFp) hle,
      ⟨fr_none hfr c.ai, c.ai.own, c.ai.mu, c.ai.tab, lv, c.ai.cells⟩⟩
    refine wpAny_bind (wpAny_mono (wp_asg ok.hand hC₃ sv G₅ Fs₅) ?_ fun _ _ x => x)
    rintro _ s₆ ⟨ρ₆, t₆, G₆, Fs₆, h₆⟩
    have t₆' : Tr g (a :: own) μ₃ μ₃ F₅ F₅ s₅ s₆ := t₆.mtLe fun x hx => .inl (wk x hx)
    obtain ⟨AsI₆, agI₆⟩ := c₅.ai.tr t₆'
    obtain ⟨As₆, ag₆⟩ := c₅.as.tr t₆
    have c₆ : CS g env own a fp μ₀ F₀ s₀ ρ₆ μ₃ acc₃ F₅ s₆ := ⟨c₅.tt.trans t₆', G₆, Fs₆, As₆, c₅.ac.mono (fun o e => ag₆ a (.head _) o e) (fun _ _ e => e), AsI₆⟩
    refine wpAny_bind (wpAny_mono (wt_ifs ok ifs h₆ G₆ Fs₆) ?_ fun _ _ x => x)
    rintro ok₇ s₇ ⟨μ₇, F₇, t₇, G₇, h₇⟩
    obtain ⟨c₇, ag₇⟩ := c₆.tr t₇ G₇
    exact hcons acc₃ ok₇ s₇ ⟨ds', ρ₆, μ₇, F₇, hk, c₇, It₅.move (fun b hb o e => ag₇ b hb o (agI₆ b hb o e)) t₇.le, h₇⟩

/-- the list gets one more -/
theorem CS.push {ρ acc F s h' k' d v} {vs : Array Value} (c : CS g env own a fp μ₀ F₀ s₀ ρ μ acc F s) (ea : ∃ o, s.heap.get? a = some o ∧ ∀ es ep, o.data ≠ .dict es ep) (sa : SeesAll F vs.toList acc) (sv : Sees F v d)
    (eh : h'.get? a = some { cls := .type "list", dict := Option.none, data := .seq (vs.push v) k', slots := #[] }) (sb : Heap.SameBut a s.heap h') : CS g env own a fp μ₀ F₀ s₀ ρ μ (acc ++ [d]) F { s with heap := h' } ∧ Agree fp s.heap h' := by
  have G₉ : GSt g μ F h' := c.gs.at sb (c.as.F a (.head _)) (c.as.mu a (.head _)) (c.as.tab a (.head _)) fun x hx hf => by
    obtain ⟨m, o2, _, _, e2, d2, _⟩ := c.gs.stkNs hx hf; obtain ⟨o, eo, hno⟩ := ea; rw [eo] at e2; cases e2; exact (hno _ _ d2).elim
  have t₉ : Tr g (a :: own) μ μ F F s { s with heap := h' } := ⟨fun b o e h1 _ _ => ⟨o, (sb.2 b (fun z => h1 (z ▸ .head _))).trans e, .refl o⟩, fun b o e => by
    by_cases hb : b = a
    · rw [hb]; exact ⟨_, eh⟩
    · exact ⟨o, (sb.2 b hb).trans e⟩, fun _ _ e => e, (Tr.refl (g := g) (mt := []) (μ := μ) (s := s)).fr, fun _ q => .inl q, rfl, rfl⟩
  have Fs₉ : FSt env own ρ μ F h' := by
    have hl : ∀ o, s.heap.get? env.locals = some o → h'.get? env.locals = some o := fun o e => (sb.2 _ fun z => c.as.own a (.head _) (z ▸ c.fs.ok.lown)).trans e
    have hc : ∀ p ∈ env.cells, ∀ o, s.heap.get? p.2 = some o → h'.get? p.2 = some o := fun p hp o e => (sb.2 _ (c.as.cells a (.head _) p hp)).trans e
    refine ⟨c.fs.ok, ?_, fun x d e => ?_, fun p hp => ?_, c.fs.ownF, fun b hb => ?_, c.fs.muo⟩
    · obtain ⟨mm, o, es, ep, e, r⟩ := c.fs.ns; exact ⟨mm, o, es, ep, hl o e, r⟩
    · obtain ⟨v, hv, hs⟩ := c.fs.vars x d e; exact ⟨v, hv.keeps hl hc, hs⟩
    · obtain ⟨v, o, e, d⟩ := c.fs.cells p hp; exact ⟨v, o, hc p hp o e, d⟩
    · obtain ⟨o, e⟩ := c.fs.live b hb; exact t₉.live b o e
  obtain ⟨AsI₉, agI₉⟩ : Aside g env (a :: own) μ F fp h' ∧ Agree fp s.heap h' := c.ai.tr t₉
  exact ⟨⟨c.tt.trans t₉, G₉, Fs₉, ⟨c.as.F, c.as.own, c.as.mu, c.as.tab, fun b hb => by rw [List.mem_singleton.mp hb]; exact ⟨_, eh, nnsq rfl⟩, c.as.cells⟩, ⟨_, k', eh, by simpa using sa.append (.cons sv .nil)⟩, AsI₉⟩, agI₉⟩

theorem comp_loop (hgens : ∀ x ∈ gens, GenOk x) (hn : 4 ≤ n) (m : Nat) : ∀ (d : Nat) {tgt iter : Expr} {ifs : List Expr} {rest : List Comprehension}, rest.length = m → gens.drop d = ⟨tgt, iter, ifs, 0⟩ :: rest →
    ∀ {A : Around}, Ok g n A → ∀ {ds it fp ρ μ accD K F s s₀ μ₀ F₀}, CS g env own a fp μ₀ F₀ s₀ ρ μ accD F s →
    (∀ b ∈ fp, s₀.heap.get? b = none) → Iter g tgt it fp ds F s.heap → CL g env own n elt rest tgt ifs K ds ρ μ accD →
    codeAny (model g.prog g.w) A (.compLoop (.ListComp elt gens scope pos) d it (.ref a) env) (CPost g env own a μ₀ F₀ s₀ K) s := by
  induction m using Nat.strongRecOn with
  | ind m ihm =>
  intro d tgt iter ifs rest hm hd A ok ds it fp ρ μ accD K F s s₀ μ₀ F₀ c hfp It hC
  have hg : gens[d]? = some ⟨tgt, iter, ifs, 0⟩ := (drop_cons hd).1
  have hdrop : gens.drop (d + 1) = rest := (drop_cons hd).2
  refine codeAny_loop rfl (CI g env own n elt rest tgt ifs it a fp μ₀ F₀ s₀ K) ?_ ds.length ⟨ds, accD, ρ, μ, F, rfl, c, It, hC⟩
  intro k s₃ i
  show wpAny _ A ((compTurn (.ListComp elt gens scope pos) d it (.ref a) env).onRaise (fun x => do noteFrame x env; theTreesLotGoes x)) _ _ s₃
  refine wpAny_noted (notedF ?_)
  cases rest with
  | nil =>
    rw [compTurn_last hg (List.getElem?_eq_none_iff.mpr (List.drop_eq_nil_iff.mp hdrop))]
    refine comp_turn hn ok hfp i (fun s₄ h => h) ?_
    rintro acc₇ ok₇ s₇ ⟨ds', ρ₇, μ₇, F₇, hk, c₇, It₇, h₇⟩
    cases ok₇ with
    | false => exact wpAny_pure ⟨rfl, CI.of c₇ It₇ (h₇.2 rfl) hk⟩
    | true =>
      obtain ⟨hz, hev⟩ := h₇.1 rfl
      refine wpAny_bind (wpAny_bind (wp_seq hev ok c₇.gs c₇.fs fun v dd μ₈ F₈ s₈ t₈ G₈ Fs₈ sv hL => ?_))
      obtain ⟨c₈, ag₈⟩ := c₇.tr t₈ G₈
      obtain ⟨vs, kk, ea, sa⟩ := c₈.ac
      refine wpAny_bind (call_append ea (fun h' k' eh sb => wpAny_pure (wpAny_pure ⟨rfl, ?_⟩)) (by have := sa.size; unfold sizeLine; lia))
      obtain ⟨c₉, ag₉⟩ := c₈.push ⟨_, ea, fun _ _ z => nomatch z⟩ sa sv eh sb
      exact CI.of c₉ (It₇.move (fun b hb o e => ag₉ b hb o (ag₈ b hb o e)) t₈.le) hL hk
  | cons g' rest' =>
    obtain ⟨t', i', f', as'⟩ := g'
    obtain ⟨ha0, hfold⟩ := hgens ⟨t', i', f', as'⟩ (List.mem_of_mem_drop (i := d + 1) (by rw [hdrop]; exact .head _))
    simp only at ha0 hfold
    subst ha0
    have hnx : gens[d + 1]? = some ⟨t', i', f', 0⟩ := (drop_cons hdrop).1
    rw [compTurn_mid hg hnx]
    refine comp_turn hn ok hfp i (fun s₄ h => h) ?_
    rintro acc₇ ok₇ s₇ ⟨ds', ρ₇, μ₇, F₇, hk, c₇, It₇, h₇⟩
    cases ok₇ with
    | false => exact wpAny_pure ⟨rfl, CI.of c₇ It₇ (h₇.2 rfl) hk⟩
    | true =>
      refine wpAny_bind (wpAny_mono (h₇.1 rfl A F₇ s₇ ok c₇.gs c₇.fs) (fun x s₈ h₈ => wpAny_bind (wpAny_standAt (wpAny_bind (wpAny_of_eq (hfold env x) (wpAny_bind (wpAny_holding (wpAny_mono h₈ ?_ fun _ _ x => x))))))) fun _ _ x => x)
      rintro it₉ s₉ ⟨ds₉, μ₉, F₉, fp₉, t₉, G₉, AsI₉, hfp₉, It₉, self₉, hL₉⟩
      obtain ⟨c₉, _⟩ := c₇.tr t₉ G₉
      have AsI₉' : Aside g env (a :: own) μ₉ F₉ fp₉ s₉.heap := ⟨AsI₉.F, fun b hb q => by
        cases q with
        | head => obtain ⟨o, e⟩ := c₇.liveA; rw [hfp₉ a hb] at e; cases e
        | tail _ q => exact AsI₉.own b hb q, AsI₉.mu, AsI₉.tab, AsI₉.live, AsI₉.cells⟩
      have c₁ : CS g env own a fp₉ μ₇ F₇ s₇ ρ₇ μ₉ acc₇ F₉ s₉ := ⟨t₉.toOwn, G₉, c₉.fs, c₉.as, c₉.ac, AsI₉'⟩
      refine wpAny_bind (wpAny_runOwn (A := A) (h := none) ?_)
      rw [mark_none]
      have loop : ∀ {s₉' : Shared}, s₉'.heap = s₉.heap → s₉'.os = s₉.os → s₉'.gens = s₉.gens → codeAny (model g.prog g.w) A (.compLoop (.ListComp elt gens scope pos) (d + 1) it₉ (.ref a) env) (CPost g env own a μ₇ F₇ s₇ fun acc' ρ₂ μ₂ => CL g env own n elt (⟨t', i', f', 0⟩ :: rest') tgt ifs K ds' ρ₂ μ₂ acc') s₉' := by
        intro s₉' e1 e2 e3
        exact ihm rest'.length (by simp at hm; lia) (d + 1) rfl hdrop ok (c₁.same e1 e2 e3) hfp₉ (by rw [e1]; exact It₉) hL₉
      refine codeAny_mono (comp_start hnx (loop rfl rfl rfl) (notedF (wpAny_mono (self₉ A s₉ (ok.le hn) (fun _ _ _ e => e) G₉.fz) (fun it'' s'' ⟨e1, e2, e3, e4⟩ => by subst e1; exact loop e2 e3 e4) fun _ _ x => x))) ?_
      rintro r s₁₀ ⟨acc', ρ', μ', F', rfl, t₁₀, G₁₀, Fs₁₀, As₁₀, Acc₁₀, hL₁₀⟩
      obtain ⟨AsI₁₀, agI₁₀⟩ := c₇.ai.tr t₁₀
      exact wpAny_pure ⟨rfl, CI.of ⟨c₇.tt.trans t₁₀, G₁₀, Fs₁₀, As₁₀, Acc₁₀, AsI₁₀⟩ (It₇.move agI₁₀ t₁₀.le) hL₁₀ hk⟩
end
end

open PySem PySem.W PySem.Calls PyProof.Rows
set_option maxRecDepth 20000
section
variable {g : G} {env : Env} {own : List Addr} {n : Nat} {ρ : Str → Option D} {μ : Mu}

noncomputable def closGo (cells : List (Str × Addr)) : List (Str × NameKind) → List (Str × Addr) → List (Str × Addr)
  | [], acc => acc
  | (x, k) :: r, acc => if k == .free then closGo cells r ((x, (cells.lookup x).getD 0) :: acc) else closGo cells r acc
/-- the names that a block takes from around it are cells of env's -/
noncomputable def freeOk (env : Env) (scope : Scope) : Bool := scope.names.all fun y => !(y.2 == .free) || ((env.cells.lookup y.1).isSome && !(env.kindOf y.1 == some .local))

theorem closGo_eq (env : Env) : ∀ (names : List (Str × NameKind)) (acc : List (Str × Addr)), (names.all fun y => !(y.2 == .free) || ((env.cells.lookup y.1).isSome && !(env.kindOf y.1 == some .local))) = true →
    (forIn names acc fun (p : Str × NameKind) cs => if (p.2 == .free) = true then (do let c ← cellOf env p.1; pure (ForInStep.yield ((p.1, c) :: cs))) else pure (ForInStep.yield cs) : Sem (List (Str × Addr))) = pure (closGo env.cells names acc)
  | [], acc, _ => rfl
  | (x, k) :: r, acc, h => by
    simp only [List.all_cons, Bool.and_eq_true] at h
    rw [List.forIn_cons]
    unfold closGo
    by_cases hk : (k == NameKind.free) = true
    · have h1 := h.1
      simp only [hk, Bool.not_true, Bool.false_or, Bool.and_eq_true] at h1
      obtain ⟨c, hc⟩ := Option.isSome_iff_exists.mp h1.1
      simp only [hk, if_true]
      unfold cellOf
      rw [hc]
      exact closGo_eq env r _ h.2
    · simp only [hk]
      exact closGo_eq env r _ h.2
theorem closureFor_eq {scope : Scope} (h : freeOk env scope = true) : closureFor scope env = pure (closGo env.cells scope.names []) := by
  unfold closureFor
  have := closGo_eq env scope.names [] h
  refine Eq.trans ?_ ((congrArg (fun m : Sem (List (Str × Addr)) => m >>= fun cs => pure cs) this).trans rfl)
  rfl

/-- what a block sees of the names around it -/
noncomputable def restr (scope : Scope) (ρ : Str → Option D) : Str → Option D := fun x => if scope.names.lookup x = some .free then ρ x else Option.none
theorem restr_get {scope : Scope} {x : Str} {d} (h : scope.names.lookup x = some .free) (k : ρ x = some d) : restr scope ρ x = some d := by unfold restr; rw [if_pos h]; exact k

set_option tactic.hygienic true in
theorem closGo_mem {cells : List (Str × Addr)} : ∀ (names : List (Str × NameKind)) (acc : List (Str × Addr)) {p}, p ∈ closGo cells names acc → p ∈ acc ∨ ((p.1, NameKind.free) ∈ names ∧ p.2 = (cells.lookup p.1).getD 0)
  | [], acc, p, h => .inl h
  | (x, k) :: r, acc, p, h => by
    unfold closGo at h
    split at h
    · rename_i hk
      have hk : k = .free := by simpa using hk
      subst hk
      rcases closGo_mem r _ h with q | ⟨q1, q2⟩
      · cases q with
        | head => exact .inr ⟨.head _, rfl⟩
        | tail _ q => exact .inl q
      · exact .inr ⟨.tail _ q1, q2⟩
    · rcases closGo_mem r _ h with q | ⟨q1, q2⟩
      · exact .inl q
      · exact .inr ⟨.tail _ q1, q2⟩
theorem closGo_look {cells : List (Str × Addr)} : ∀ (names : List (Str × NameKind)) (acc : List (Str × Addr)) {x : Str}, (names.map (·.1)).Nodup → (x, NameKind.free) ∈ names → (closGo cells names acc).lookup x = some ((cells.lookup x).getD 0) := by
  have other : ∀ (names : List (Str × NameKind)) (acc : List (Str × Addr)) {x : Str}, x ∉ names.map (·.1) → (closGo cells names acc).lookup x = acc.lookup x := by
    intro names
    induction names with
    | nil => intro acc x _; rfl
    | cons p r ih =>
      intro acc x hx
      obtain ⟨y, k⟩ := p
      simp only [List.map_cons, List.mem_cons, not_or] at hx
      unfold closGo
      split
      · rw [ih _ hx.2, List.lookup_cons, beq_eq_false_iff_ne.mpr hx.1]
      · exact ih _ hx.2
  intro names
  induction names with
  | nil => intro acc x _ h; cases h
  | cons p r ih =>
    intro acc x hn h
    obtain ⟨y, k⟩ := p
    simp only [List.map_cons, List.nodup_cons] at hn
    unfold closGo
    cases h with
    | head => rw [if_pos (by rfl), other _ _ hn.1, List.lookup_cons]; simp
    | tail _ h => split <;> exact ih _ hn.2 h
set_option tactic.hygienic true in
theorem closGo_nodup {cells : List (Str × Addr)} (hc : (cells.map (·.2)).Nodup) : ∀ (names : List (Str × NameKind)) (acc : List (Str × Addr)), (names.map (·.1)).Nodup → (∀ y ∈ names, y.2 = .free → (cells.lookup y.1).isSome = true) →
    (acc.map (·.2)).Nodup → (∀ p ∈ acc, p.1 ∉ names.map (·.1) ∧ p ∈ cells) → ((closGo cells names acc).map (·.2)).Nodup
  | [], acc, _, _, h, _ => h
  | (x, k) :: r, acc, hn, hs, h, ha => by
    simp only [List.map_cons, List.nodup_cons] at hn
    unfold closGo
    split
    · rename_i hk
      obtain ⟨c, hcx⟩ := Option.isSome_iff_exists.mp (hs (x, k) (.head _) (by simpa using hk))
      refine closGo_nodup hc r _ hn.2 (fun y hy => hs y (.tail _ hy)) ?_ ?_
      · simp only [List.map_cons, List.nodup_cons]
        refine ⟨fun q => ?_, h⟩
        obtain ⟨p, hp, e⟩ := List.mem_map.mp q
        obtain ⟨h1, h2⟩ := ha p hp
        rw [hcx, Option.getD_some] at e
        have : p.1 = x := nodup_snd hc (show (p.1, c) ∈ cells from e ▸ h2) (lookup_mem hcx)
        exact h1 (this ▸ .head _)
      · intro p hp
        cases hp with
        | head => exact ⟨hn.1, by rw [hcx]; exact lookup_mem hcx⟩
        | tail _ hp => exact ⟨fun q => (ha p hp).1 (.tail _ q), (ha p hp).2⟩
    · exact closGo_nodup hc r _ hn.2 (fun y hy => hs y (.tail _ hy)) h fun p hp => ⟨fun q => (ha p hp).1 (.tail _ q), (ha p hp).2⟩

theorem lookup_of_nodup {α : Type} {l : List (Str × α)} (hn : (l.map (·.1)).Nodup) {x : Str} {k : α} (h : (x, k) ∈ l) : l.lookup x = some k := by
  induction l with
  | nil => cases h
  | cons p r ih =>
    obtain ⟨y, c⟩ := p
    simp only [List.map_cons, List.nodup_cons] at hn
    rw [List.lookup_cons]
    cases h with
    | head => simp
    | tail _ h =>
      have : x ≠ y := fun e => hn.1 (e ▸ List.mem_map.mpr ⟨_, h, rfl⟩)
      rw [beq_eq_false_iff_ne.mpr this]; exact ih hn.2 h
theorem relabel_free {scope : Scope} {x : Str} : scope.names.lookup x = some .free → (relabel scope env).names.lookup x = some .cell ∨ (relabel scope env).names.lookup x = some .free := by
  unfold relabel
  dsimp only
  generalize scope.names = names
  intro h
  induction names with
  | nil => simp at h
  | cons p r ih =>
    obtain ⟨y, k⟩ := p
    rw [List.map_cons]
    rw [List.lookup_cons] at h
    cases hy : x == y with
    | true =>
      rw [hy] at h; cases h
      by_cases hc : ((NameKind.free == NameKind.free) && env.scope.kind == .function && env.kindOf y == some .cell) = true
      · rw [if_pos hc, List.lookup_cons, hy]; exact .inl rfl
      · rw [if_neg hc, List.lookup_cons, hy]; exact .inr rfl
    | false =>
      rw [hy] at h
      by_cases hc : ((k == NameKind.free) && env.scope.kind == .function && env.kindOf y == some .cell) = true
      · rw [if_pos hc, List.lookup_cons, hy]; exact ih h
      · rw [if_neg hc, List.lookup_cons, hy]; exact ih h

theorem freeOk_get {scope : Scope} (hf : freeOk env scope = true) {x : Str} (h : (x, NameKind.free) ∈ scope.names) : (∃ c, env.cells.lookup x = some c) ∧ env.kindOf x ≠ some .local := by
  have := List.all_eq_true.mp hf _ h
  simp only [beq_self_eq_true, Bool.not_true, Bool.false_or, Bool.and_eq_true, Bool.not_eq_true', beq_eq_false_iff_ne] at this
  exact ⟨Option.isSome_iff_exists.mp this.1, this.2⟩

set_option tactic.hygienic true in
/-- the frame of a block within a frame: its own names, the cells that it takes -/
theorem FSt.block {cenv : Env} {C : Addr} {scope : Scope} {F : FM} {h h' : Heap} (Fs : FSt env own ρ μ F h) (G : GSt g μ F h') (hf : freeOk env scope = true) (hnd : (scope.names.map (·.1)).Nodup)
    (hk : cenv.scope.kind = .function) (hgl : cenv.globals = mainGlobals) (hbl : cenv.builtins = builtinsNs) (hloc : cenv.locals = C) (hcl : cenv.cells = closGo env.cells scope.names [])
    (hkd : ∀ x, scope.names.lookup x = some .free → cenv.kindOf x = some .cell ∨ cenv.kindOf x = some .free)
    (hC : h.get? C = none) (hns : ∃ m, h'.Ns C m) (e : ∀ b o, h.get? b = some o → h'.get? b = some o) (hFC : F C = none) (hmC : C ∉ μ.dom) : FSt cenv [C] (restr scope ρ) μ F h' := by
  have hlk : ∀ x c, (x, c) ∈ closGo env.cells scope.names [] → (x, NameKind.free) ∈ scope.names ∧ env.cells.lookup x = some c := fun x c hm => by
    rcases closGo_mem _ _ hm with q | ⟨q1, q2⟩
    · cases q
    · obtain ⟨⟨c', hc'⟩, _⟩ := freeOk_get hf q1
      have q2 : c = (env.cells.lookup x).getD 0 := q2
      rw [hc', Option.getD_some] at q2
      exact ⟨q1, q2 ▸ hc'⟩
  refine ⟨⟨hk, hgl, hbl, by rw [hloc]; exact .head _, ?_⟩, by rw [hloc]; exact hns, fun x d hx => ?_, fun p hp => ?_, fun a ha => by rw [List.mem_singleton.mp ha]; exact hFC, fun a ha => ?_, fun a ha => by rw [List.mem_singleton.mp ha]; exact hmC⟩
  · rw [hcl]
    exact closGo_nodup Fs.ok.cnd _ _ hnd (fun y hy hk => by obtain ⟨⟨c, hc⟩, _⟩ := freeOk_get hf (x := y.1) (by rw [← hk]; exact hy); rw [hc]; rfl) (by simp) (fun _ h => nomatch h)
  · unfold restr at hx
    split at hx
    · rename_i hfr
      obtain ⟨v, hv, sv⟩ := Fs.vars x d hx
      have hmem := lookup_mem hfr
      obtain ⟨⟨c, hc⟩, hnl⟩ := freeOk_get hf hmem
      refine ⟨v, .inr ⟨hkd x hfr, c, ?_, ?_⟩, sv⟩
      · rw [hcl, closGo_look _ _ hnd hmem, hc]; rfl
      · rcases hv with ⟨hk, _⟩ | ⟨_, c', hc', hcell⟩
        · exact absurd hk hnl
        · rw [hc] at hc'; cases hc'; exact hcell.keeps e
    · cases hx
  · rw [hcl] at hp
    obtain ⟨x, c⟩ := p
    obtain ⟨_, hc⟩ := hlk x c hp
    obtain ⟨v, hv⟩ := Fs.cells _ (lookup_mem hc)
    exact ⟨v, hv.keeps e⟩
  · rw [List.mem_singleton.mp ha]; obtain ⟨m, o, _, _, eo, _⟩ := hns; exact ⟨o, eo⟩

theorem GSt.freeze {F h a o} (G : GSt g μ F h) (e : h.get? a = some o) (hF : F a = none) (hm : a ∉ μ.dom) (ht : a ∉ g.tabDom) (hns : ∀ es ep, o.data ≠ .dict es ep) : GSt g μ (put F a o) h := by
  have hle := put_le (o := o) hF
  refine ⟨fun b x q => hle _ _ (G.base b x q), fun b x q => ?_, fun q hq => ?_, fun p hp => ?_, G.nd, fun c hc => (by obtain ⟨o, e⟩ := G.fzc c hc; exact ⟨o, hle _ _ e⟩), G.dj, fun x hx => ?_⟩
  rotate_right
  · obtain ⟨hk', L, m, hf, hn, hF', hm'⟩ := G.stk x hx
    refine ⟨hk', L, m, hf, hn, ?_, hm'⟩
    obtain ⟨o', es, ep, ho, hd, r⟩ := hn
    rw [put_ne (fun z : L = a => by rw [z, e] at ho; cases ho; exact hns _ _ hd)]; exact hF'
  · by_cases hb : b = a
    · subst hb; rw [put_same] at q; cases q; exact e
    · rw [put_ne hb] at q; exact G.fz _ _ q
  · obtain ⟨x, ps, b, c, d⟩ := G.tb q hq
    refine ⟨by rw [put_ne (fun z : q.2.1 = a => ht (z ▸ List.mem_map.mpr ⟨q, hq, rfl⟩))]; exact x, ps, b, c, fun pos cv z => (d pos cv z).mono hle⟩
  · obtain ⟨x, b⟩ := G.mu p hp
    exact ⟨by rw [put_ne (fun z : p.1 = a => hm (z ▸ List.mem_map.mpr ⟨p, hp, rfl⟩))]; exact x, b.move hle fun _ q => q⟩

structure CompOk (env : Env) (scope : Scope) (gens : List Comprehension) : Prop where
  free : freeOk env scope = true
  nd : (scope.names.map (·.1)).Nodup
  kind : scope.kind = .function
  nocell : ∀ y ∈ scope.names, y.2 ≠ .cell
  gens : ∀ x ∈ gens, GenOk x

theorem comp_core {elt tgt iter : Expr} {ifs : List Expr} {rest : List Comprehension} {scope : Scope} {pos : Pos} {A : Around} {F s} {use : Option (Value → Sem Unit)} {P : Value → Shared → Prop} {Q : List D → Mu → Prop} (hn : 4 ≤ n)
    (ck : CompOk env scope (⟨tgt, iter, ifs, 0⟩ :: rest)) (ok : Ok g n A) (G : GSt g μ F s.heap) (Fs : FSt env own ρ μ F s.heap)
    (h : EvI g env own n ρ μ tgt iter fun ds μ₁ => ∀ cenv C, cenv = compEnvC scope (closGo env.cells scope.names []) C env →
      CompL g cenv [C] n (CompG g cenv [C] n elt rest) tgt ifs ds (restr scope ρ) μ₁ [] fun acc _ μ' => Q acc μ')
    (fin : ∀ a C s' accD μ' F', Tr g [] μ μ' F F' s s' → GSt g μ' F' s'.heap → FSt env own ρ μ' F' s'.heap → Sees F' (.ref a) (.lst accD) → (∃ m, s'.heap.Ns C m) → s.heap.get? C = none → F' C = none → C ∉ μ'.dom → C ∉ g.tabDom → Q accD μ' →
      compPost (model g.prog g.w) A (fun _ _ => False) use P (.ref a) C (.ok .next) s') :
    wpAny (model g.prog g.w) A (comprehension (.ListComp elt (⟨tgt, iter, ifs, 0⟩ :: rest) scope pos) scope env (firstIterPos (⟨tgt, iter, ifs, 0⟩ :: rest) pos) (newList []) false (firstIter (⟨tgt, iter, ifs, 0⟩ :: rest) env) use) P (fun _ _ => False) s := by
  refine wpAny_comprehension_free (g := ⟨tgt, iter, ifs, 0⟩) (gs := rest) rfl (fun x => (ck.gens _ (.head _)).2 env x) (closureFor_eq ck.free) ck.kind (fun x hx hl => lookup_of_nodup ck.nd (by rw [← hl]; exact hx)) ?_
  show wpAny _ _ (eval iter env) _ _ _
  refine wpAny_mono (h A F s ok G Fs) (fun x s₁ h₁ => wpAny_mono h₁ ?_ fun _ _ x => x) fun _ _ x => x
  rintro it s₂ ⟨ds, μ₂, F₂, fp, t₂, G₂, AsI, hfp, It, self, hC⟩
  have Fs₂ := Fs.tr G t₂ G₂
  refine wpAny_newObj_type (wpAny_newFunctionEnv ck.nocell (fun x hx => nomatch hx) (fun h₃ hns hsb => ?_) ck.kind)
  dsimp only at hns hsb ⊢
  have hz : (s₂.heap.push (listObj ([] : List Value).toArray)).objs.size = s₂.heap.objs.size + 1 := Heap.size_push ..
  -- a: the list; C: the block's names
  have ea : (s₂.heap.push (listObj ([] : List Value).toArray)).get? s₂.heap.objs.size = some (listObj ([] : List Value).toArray) := Heap.get?_push_size _ rfl
  generalize hH : s₂.heap.push (listObj ([] : List Value).toArray) = H at hns hsb hz ea
  have keepH : ∀ b o, s₂.heap.get? b = some o → H.get? b = some o := fun b o e => by rw [← hH]; exact Heap.get?_push_of_some _ e
  generalize hCC : H.objs.size = C at hns hsb hz
  have haC : s₂.heap.objs.size ≠ C := by rw [hz]; exact Nat.ne_of_lt (Nat.lt_succ_self _)
  have fr2 : ∀ b, s₂.heap.objs.size ≤ b → s₂.heap.get? b = none := fun b hb => by
    cases q : s₂.heap.get? b with
    | none => rfl
    | some o => exact absurd (Heap.lt_size q) (Nat.not_lt.mpr hb)
  have fC : s₂.heap.get? C = none := fr2 C (by rw [hz]; exact Nat.le_succ _)
  have keep3 : ∀ b o, s₂.heap.get? b = some o → h₃.get? b = some o := fun b o e => hsb.extBut b o (fun z => by rw [z, fC] at e; cases e) (Heap.get?_push_of_some _ (keepH b o e))
  have ea3 : h₃.get? s₂.heap.objs.size = some (listObj ([] : List Value).toArray) := hsb.extBut _ _ haC (Heap.get?_push_of_some _ ea)
  have G₃ : GSt g μ₂ F₂ h₃ := G₂.ext keep3
  have fa := G₂.fresh (fr2 _ (Nat.le_refl _))
  have fCf := G₂.fresh fC
  have hcell2 : ∀ b, s₂.heap.get? b = none → ∀ p ∈ (closGo env.cells scope.names []), p.2 ≠ b := fun b hb p hp q => by
    obtain ⟨x, c⟩ := p
    rcases closGo_mem _ _ hp with k | ⟨k1, k2⟩
    · cases k
    · obtain ⟨⟨c', hc'⟩, _⟩ := freeOk_get ck.free k1
      have k2 : c = (env.cells.lookup x).getD 0 := k2
      rw [hc', Option.getD_some] at k2
      obtain ⟨v, o, e, _⟩ := Fs₂.cells _ (lookup_mem hc')
      have q : c = b := q
      rw [← k2, q, hb] at e; cases e
  let cenv := compEnvC scope (closGo env.cells scope.names []) C env
  have Fs₃ : FSt cenv [C] (restr scope ρ) μ₂ F₂ h₃ := Fs₂.block G₃ ck.free ck.nd ck.kind Fs.ok.glob Fs.ok.blt rfl rfl (fun x hx => relabel_free hx) fC ⟨_, hns⟩ keep3 fCf.1 fCf.2.1
  have aC : s₂.heap.objs.size ∉ [C] := fun q => haC (List.mem_singleton.mp q)
  have As₃ : Aside g cenv [C] μ₂ F₂ [s₂.heap.objs.size] h₃ := by
    refine ⟨fun b hb => ?_, fun b hb => ?_, fun b hb => ?_, fun b hb => ?_, fun b hb => ?_, fun b hb => ?_⟩ <;> rw [List.mem_singleton.mp hb]
    · exact fa.1
    · exact aC
    · exact fa.2.1
    · exact fa.2.2
    · exact ⟨_, ea3, nnsq rfl⟩
    · exact hcell2 _ (fr2 _ (Nat.le_refl _))
  have AsI₃ : Aside g cenv (s₂.heap.objs.size :: [C]) μ₂ F₂ fp h₃ := by
    refine ⟨AsI.F, fun b hb q => ?_, AsI.mu, AsI.tab, fun b hb => (by obtain ⟨o, e, h⟩ := AsI.live b hb; exact ⟨o, keep3 _ _ e, h⟩), fun b hb p hp q => ?_⟩
    · obtain ⟨o, e, _⟩ := AsI.live b hb
      simp only [List.mem_cons, List.not_mem_nil, or_false] at q
      rcases q with rfl | rfl
      · rw [fr2 _ (Nat.le_refl _)] at e; cases e
      · rw [fC] at e; cases e
    · obtain ⟨x, c⟩ := p
      rcases closGo_mem _ _ hp with k | ⟨k1, k2⟩
      · cases k
      · obtain ⟨⟨c', hc'⟩, _⟩ := freeOk_get ck.free k1
        have k2 : c = (env.cells.lookup x).getD 0 := k2
        rw [hc', Option.getD_some] at k2
        exact AsI.cells b hb _ (lookup_mem hc') (by rw [← k2]; exact q)
  have t₃ : Tr g (s₂.heap.objs.size :: [C]) μ₂ μ₂ F₂ F₂ s₂ { s₂ with heap := h₃, toks := s₂.toks + 0 } := Tr.of_ext keep3 rfl rfl
  have hgens : ∀ x ∈ (⟨tgt, iter, ifs, 0⟩ :: rest : List Comprehension), GenOk x := ck.gens
  have t₂' : Tr g (s₂.heap.objs.size :: [C]) μ μ₂ F F₂ s s₂ := t₂.toOwn
  have loop : ∀ {s₉ : Shared}, s₉.heap = h₃ → s₉.os = s₂.os → s₉.gens = s₂.gens → codeAny (model g.prog g.w) A (.compLoop (.ListComp elt (⟨tgt, iter, ifs, 0⟩ :: rest) scope pos) 0 it (.ref s₂.heap.objs.size) cenv)
      (CPost g cenv [C] s₂.heap.objs.size μ F s fun acc _ μ' => Q acc μ') s₉ := by
    intro s₉ e1 e2 e3
    refine comp_loop (pos := pos) (scope := scope) hgens hn rest.length 0 rfl rfl ok ⟨t₂'.trans (Tr.of_ext (fun b o e => by rw [e1]; exact keep3 b o e) e2 e3), by rw [e1]; exact G₃, by rw [e1]; exact Fs₃, by rw [e1]; exact As₃, by rw [e1]; exact ⟨_, 0, ea3, .nil⟩, by rw [e1]; exact AsI₃⟩ hfp
      (by rw [e1]; exact It.move (fun b hb o e => keep3 b o e) (fun _ _ e => e)) (hC cenv C rfl)
  refine codeAny_mono (comp_start rfl (loop rfl rfl rfl) (notedF (wpAny_mono (self A _ (ok.le hn) (fun b hb o e => keep3 b o e) (fun b o e => keep3 _ _ (G₂.fz _ _ e))) (fun it'' s'' ⟨e1, e2, e3, e4⟩ => by subst e1; exact loop e2 e3 e4) fun _ _ x => x))) ?_
  rintro r s' ⟨accD, ρ', μ', F', rfl, t', G', Fs', As', ⟨vs, k, eo, sa⟩, hQ⟩
  have hle := put_le (o := { cls := .type "list", dict := Option.none, data := .seq vs k, slots := #[] }) (As'.F _ (.head _))
  have frs : ∀ b, s₂.heap.get? b = none → s.heap.get? b = none := fun b hb => fresh_back t₂ hb
  have T : Tr g [] μ μ' F F' s s' := t'.mtLe fun b hb => .inr (by
    simp only [List.mem_cons, List.not_mem_nil, or_false] at hb
    rcases hb with rfl | rfl
    · exact frs _ (fr2 _ (Nat.le_refl _))
    · exact frs _ fC)
  have T2 : Tr g [] μ μ' F (put F' s₂.heap.objs.size { cls := .type "list", dict := Option.none, data := .seq vs k, slots := #[] }) s s' := { T with
    le := fun b o e => hle _ _ (T.le b o e)
    fr := fun b => by
      by_cases hb : b = s₂.heap.objs.size
      · subst hb; exact .inr (.inr (.inr (frs _ (fr2 _ (Nat.le_refl _)))))
      · rw [put_ne hb]; exact T.fr b }
  have G'' := G'.freeze eo (As'.F _ (.head _)) (As'.mu _ (.head _)) (As'.tab _ (.head _)) (fun _ _ z => nomatch z)
  have Fend : FSt env own ρ μ' _ s'.heap := Fs.tr G T2 G''
  have hCl : C ∈ [C] := .head _
  refine fin _ C s' accD μ' _ T2 G'' Fend (.lst put_same (sa.mono hle)) Fs'.ns (frs _ fC) ?_ (Fs'.muo C hCl) (by obtain ⟨m, hm⟩ := Fs'.ns; exact G'.nsTab hm) hQ
  rw [put_ne (Ne.symm haC)]
  exact Fs'.ownF C hCl

theorem Ev.comp {elt tgt iter : Expr} {ifs : List Expr} {rest : List Comprehension} {scope : Scope} {pos : Pos} {Q : D → Mu → Prop} (hn : 4 ≤ n) (ck : CompOk env scope (⟨tgt, iter, ifs, 0⟩ :: rest))
    (h : EvI g env own n ρ μ tgt iter fun ds μ₁ => ∀ cenv C, cenv = compEnvC scope (closGo env.cells scope.names []) C env →
      CompL g cenv [C] n (CompG g cenv [C] n elt rest) tgt ifs ds (restr scope ρ) μ₁ [] fun acc _ μ' => Q (.lst acc) μ') :
    Ev g env own n ρ μ (.ListComp elt (⟨tgt, iter, ifs, 0⟩ :: rest) scope pos) Q := fun A F s ok G Fs => by
  rw [eval_ListComp]
  refine comp_core (Q := fun acc μ' => Q (.lst acc) μ') hn ck ok G Fs h fun a C s' accD μ' F' t G' Fs' sv hns hC hFC hmC htC hQ => ?_
  obtain ⟨m, hm⟩ := hns
  refine ⟨m, hm, fun h' sb => ?_⟩
  have T : Tr g [] μ μ' F F' s { s' with heap := h' } := { t with
    ext := fun b o e h1 h2 h3 => (by obtain ⟨o', e', u⟩ := t.ext b o e h1 h2 h3; exact ⟨o', (sb.2 b (fun z => by rw [z, hC] at e; cases e)).trans e', u⟩)
    live := fun b o e => (by obtain ⟨o', e'⟩ := t.live b o e; exact ⟨o', (sb.2 b (fun z => by rw [z, hC] at e; cases e)).trans e'⟩ )}
  exact ⟨_, μ', F', T, G'.at sb hFC hmC htC (fun x hx hf => by obtain ⟨_, _, _, _, e, _⟩ := G.stkNs hx hf; rw [hC] at e; cases e), sv, hQ⟩
end

open PySem PySem.W PySem.Calls PyProof.Rows
set_option maxRecDepth 20000
set_option tactic.hygienic true in
theorem among_app {pos : Pos} {a b : Int} {c cv : Value} : ∀ (l : List Value), TriplesOk l → codeAmong pos (l ++ [rawInt a, rawInt b, c]) = some cv → codeAmong pos l = some cv ∨ cv = c
  | [], _, h => by
    unfold codeAmong at h
    simp only [List.nil_append, rawInt] at h
    split at h
    · cases h; exact .inr rfl
    · cases h
  | .int x tx :: .int y ty :: d :: rest, ht, h => by
    unfold codeAmong at h ⊢
    simp only [List.cons_append] at h
    split at h
    · rename_i hh; rw [if_pos hh]; exact .inl h
    · rename_i hh; rw [if_neg hh]; exact among_app rest ht h

section
variable {g : G} {env : Env} {own : List Addr} {n : Nat} {ρ : Str → Option D} {μ : Mu}

/-- what a lambda takes: frozen cells -/
inductive Caps (g : G) (env : Env) (ρ : Str → Option D) : List (Str × Addr) → List (Str × D) → Prop
  | nil : Caps g env ρ [] []
  | cons {x c d cl caps} : ρ x = some d → c ∈ g.fcs → env.cells.lookup x = some c → env.kindOf x ≠ some .local → Caps g env ρ cl caps → Caps g env ρ ((x, c) :: cl) ((x, d) :: caps)
theorem Caps.sees {F h} (G : GSt g μ F h) (Fs : FSt env own ρ μ F h) {cl caps} (x : Caps g env ρ cl caps) : SeesCaps F cl caps := by
  induction x with
  | nil => exact .nil
  | cons hx hc hl hk _ ih =>
    obtain ⟨v, hv, sv⟩ := Fs.vars _ _ hx
    rcases hv with ⟨k, _⟩ | ⟨_, c', hc', o, e, d⟩
    · exact absurd k hk
    · rw [hl] at hc'; cases hc'
      obtain ⟨o', e'⟩ := G.fzc _ hc
      have := G.fz _ _ e'
      rw [e] at this; cases this
      exact .cons e' d sv ih

theorem freeOk.nodup {scope : Scope} (hf : freeOk env scope = true) (hn : (scope.names.map (·.1)).Nodup) {F h} (Fs : FSt env own ρ μ F h) : ((closGo env.cells scope.names []).map (·.2)).Nodup :=
  closGo_nodup Fs.ok.cnd _ _ hn (fun y hy hk => by obtain ⟨⟨c, hc⟩, _⟩ := freeOk_get hf (x := y.1) (by rw [← hk]; exact hy); rw [hc]; rfl) (by simp) (fun _ h => nomatch h)
theorem GSt.builtinsAt {F h P ps} (G : GSt g μ F h) (hP : h.get? P = some (tabObj ps)) : h.BuiltinsAt g.mg P ∧ mainGlobals ≠ P := by
  have hgs := g.T.g.keeps G.keep
  obtain ⟨bm, ob, b1, b2, b3, b4, b5, b6⟩ := g.bm
  have hgP : mainGlobals ≠ P := fun q => by
    obtain ⟨o, es, ep, e, hd, _⟩ := hgs
    rw [q, hP] at e; cases e; cases hd
  have hbP : bm ≠ P := fun q => by
    have e := G.keep _ _ b3
    rw [q, hP] at e; cases e; cases b4
  have hbG : bm ≠ mainGlobals := fun q => by
    obtain ⟨o, es, ep, e, hd, _⟩ := g.T.g
    rw [q, e] at b3; cases b3; rw [hd] at b6; cases b6
  exact ⟨⟨bm, ob, b1, b2, hbG, hbP, G.keep _ _ b3, b4, b5, b6⟩, hgP⟩

theorem make_clo {M : Model} {A : Around} {E : Value → Shared → Prop} {s : Shared} {Q : Value → Shared → Prop} {F : FM} {name qual : Str} {params : Arguments} {body : Expr} {scope : Scope} {pos : Pos} {firstLine : Nat} {c P : Addr} {ps : Array Value}
    (hf : freeOk env scope = true) (G : GSt g μ F s.heap) (hglob : env.globals = mainGlobals) (hcode : env.code = .ref c) (C : CodeHd s.heap c P) (hP : s.heap.get? P = some (tabObj ps)) (ht : TriplesOk ps.toList) (hnf : codeAmong pos ps.toList = none)
    (h : ∀ c' P' ctv h' tk, Heap.ExtBut P s.heap h' → s.heap.objs.size ≤ c' → s.heap.objs.size ≤ P' → CodeHd h' c' P' → h'.get? P' = some (tabObj #[]) → h'.CodeRec (.ref c') qual → h'.get? P = some (tabObj (ps ++ #[rawInt pos.line, rawInt pos.col, .ref c'])) →
      Q (.ref h'.objs.size) { s with heap := h'.push (kla_obj name qual params body scope (closGo env.cells scope.names []) ((g.mg "__name__").getD .none) c' ctv), toks := tk }) :
    wpAny M A (makeFunction name qual params (.expr body) scope env [] [] [] pos firstLine) Q E s := by
  obtain ⟨⟨bm, ob, hbm, hne0, hbG, hneP, hbo, hcls, hdict, hdata⟩, hgP⟩ := G.builtinsAt hP
  have hg := g.T.g.keeps G.keep
  rw [makeFunction_eq]
  simp only [List.zip_nil_right, List.filterMap_nil, List.isEmpty_nil, if_true, pure_bind]
  unfold makeTail
  rw [closureFor_eq hf, hglob]
  refine wpAny_bind (wpAny_pure ?_)
  generalize closGo env.cells scope.names [] = clos at h ⊢
  cases clos with
  | nil =>
    simp only [List.isEmpty_nil, if_true]
    refine wpAny_bind (wpAny_pure ?_)
    refine wpAny_bind (wpAny_functionCodeX hcode (C.code hP ht) (C.tab hP) hnf fun c' h' tk hx hge hlt _ hrec htb hP' => ?_)
    have hg' := hg.extBut hx hgP
    refine wpAny_bind (wpAny_builtinsFor hg' hbm hne0 (hx _ _ hneP hbo) hcls hdict hdata ?_)
    refine wpAny_bind (wpAny_nsGet hg' ?_)
    obtain ⟨P', p1, p2, p3⟩ := hP'
    exact wpAny_bind (wpAny_pure (wpAny_newObj_type (h c' P' .none h' tk hx hge p1 (CodeHd.of p2 p3) p3.2 hrec htb.2) (by size_fits)))
  | cons q r =>
    simp only [List.isEmpty_cons, Bool.false_eq_true, if_false]
    refine wpAny_bind (wpAny_newTextTuple ?_)
    refine wpAny_bind (wpAny_functionCodeX hcode ((C.keeps fun b o e => Heap.get?_push_of_some _ e).code (Heap.get?_push_of_some _ hP) ht) ((C.keeps fun b o e => Heap.get?_push_of_some _ e).tab (Heap.get?_push_of_some _ hP)) hnf fun c' h' tk hx hge hlt _ hrec htb hP' => ?_)
    have hg' := (hg.push _).extBut hx hgP
    have hx' : Heap.ExtBut P s.heap h' := fun b o hb' e => hx b o hb' (Heap.get?_push_of_some _ e)
    have hz : ∀ oT : Obj, s.heap.objs.size ≤ (s.heap.push oT).objs.size := fun oT => by rw [Heap.size_push]; exact Nat.le_add_right _ _
    obtain ⟨P', p1, p2, p3⟩ := hP'
    refine wpAny_bind (wpAny_builtinsFor hg' hbm hne0 (hx' _ _ hneP hbo) hcls hdict hdata ?_)
    refine wpAny_bind (wpAny_nsGet hg' ?_)
    exact wpAny_bind (wpAny_pure (wpAny_newObj_type (h c' P' _ h' tk hx' (Nat.le_trans (hz _) hge) (Nat.le_trans (hz _) p1) (CodeHd.of p2 p3) p3.2 hrec htb.2) (by size_fits)))

theorem none_ge {h : Heap} {b : Addr} (hb : h.objs.size ≤ b) : h.get? b = none := Heap.get?_none_of_le hb

/-- a lambda in a function whose table we only know to be good -/
theorem Ev.lambda {params body scope pos Q c P caps} (hcode : env.code = .ref c) (htab : (c, P, env.qual ++ "<lambda>") ∈ g.tabs) (hq : ∀ q ∈ g.tabs, q.2.1 = P → q.2.2 = env.qual ++ "<lambda>") (hf : freeOk env scope = true) (hnn : (scope.names.map (·.1)).Nodup)
    (hcaps : Caps g env ρ (closGo env.cells scope.names []) caps) (h : ∀ cdv, Q (.clo (env.qual ++ "<lambda>") params body scope cdv caps) μ) (hdef : defaultsOf params env = ([], []) := by rfl) :
    Ev g env own n ρ μ (.Lambda params body scope pos) Q := fun A F s ok G Fs => by
  refine kla_eval hdef ?_
  obtain ⟨FP, ps, hP, ht, good⟩ := G.tb _ htab
  dsimp only at FP hP
  have C := (g.hd _ htab).keeps G.keep
  dsimp only at C
  have sc := hcaps.sees G Fs
  cases hf' : codeAmong pos ps.toList with
  | some cv =>
    obtain ⟨bA, hgP⟩ := G.builtinsAt hP
    refine kla_makeFunctionHit (mg := g.mg) (closureFor_eq hf) Fs.ok.glob (g.T.g.keeps G.keep) hcode C hP ht hf' bA fun ctv h' tk hk hsz => ?_
    have fc := good _ _ hf'
    have G' := G.ext hk
    have t := Tr.made (mt := []) (tk := tk) (s := { s with heap := h' }) (o := { cls := .type "function", data := .func (kla_fn "<lambda>" (env.qual ++ "<lambda>") params body scope (closGo env.cells scope.names []) ((g.mg "__name__").getD .none) cv ctv) }) G' rfl
    have hle := t.le
    refine ⟨_, μ, _, (Tr.of_ext (s' := { s with heap := h' }) hk rfl rfl).trans t, G'.made _ rfl, .clo put_same rfl (fc.mono hle) (sc.mono hle) (freeOk.nodup hf hnn Fs), h cv⟩
  | none =>
    refine make_clo hf G Fs.ok.glob hcode C hP ht hf' fun c' P' ctv h' tk hx hc' hP' CP hP0 hrec htb => ?_
    obtain ⟨cc, oc, vs, t, e2, hoc, hd, hv⟩ := id hrec
    cases e2
    have hF0 : F c' = none := (G.fresh (none_ge hc')).1
    have hle1 := put_le (o := oc) hF0
    have hcP : c' ≠ P := fun q => by rw [← q, none_ge hc'] at hP; cases hP
    have hP'P : P' ≠ P := fun q => by rw [← q, none_ge hP'] at hP; cases hP
    have hfc : FCode (put F c' oc) (.ref c') (env.qual ++ "<lambda>") := ⟨c', oc, vs, t, rfl, put_same, hd, hv⟩
    have G' : GSt g μ (put F c' oc) h' := by
      refine ⟨fun a x e => hle1 _ _ (G.base a x e), fun a x e => ?_, fun q hq' => ?_, fun p hp => ?_, G.nd, fun c hc => (by obtain ⟨o, e⟩ := G.fzc c hc; exact ⟨o, hle1 _ _ e⟩), G.dj, fun x hx' => ?_⟩
      rotate_right
      · obtain ⟨hk', L, mm, hf, hn, hF', hm'⟩ := G.stk x hx'
        obtain ⟨o', es, ep, ho, hd', r⟩ := hn
        have hLP : L ≠ P := fun z => by rw [z, hP] at ho; cases ho; cases hd'
        have hLc : L ≠ c' := fun z => by rw [z, none_ge hc'] at ho; cases ho
        exact ⟨hk', L, mm, hf, ⟨o', es, ep, hx _ _ hLP ho, hd', r⟩, by rw [put_ne hLc]; exact hF', hm'⟩
      · by_cases hb : a = c'
        · subst hb; rw [put_same] at e; cases e; exact hoc
        · rw [put_ne hb] at e
          exact hx _ _ (fun z => by rw [z, FP] at e; cases e) (G.fz _ _ e)
      · obtain ⟨a, ps', b, c1, d⟩ := G.tb q hq'
        have hne : q.2.1 ≠ c' := fun z => by rw [z, none_ge hc'] at b; cases b
        refine ⟨by rw [put_ne hne]; exact a, ?_⟩
        by_cases hqP : q.2.1 = P
        · rw [hqP, hP] at b; cases b
          refine ⟨_, by rw [hqP]; exact htb, ?_, fun pos' cv z => ?_⟩
          · rw [Array.toList_append]; exact TriplesOk_snoc _ _ _ _ ht
          · rw [Array.toList_append] at z
            rcases among_app _ ht z with k | k
            · exact (d _ _ k).mono hle1
            · rw [k, hq q hq' hqP]; exact hfc
        · exact ⟨ps', hx _ _ hqP b, c1, fun pos' cv z => (d pos' cv z).mono hle1⟩
      · obtain ⟨a, b⟩ := G.mu p hp
        have hpP : p.1 ≠ P := fun z => G.dj _ (List.mem_map_of_mem hp) (z ▸ List.mem_map.mpr ⟨_, htab, rfl⟩)
        obtain ⟨o, e⟩ := b.live
        have hne : p.1 ≠ c' := fun z => by rw [z, none_ge hc'] at e; cases e
        exact ⟨by rw [put_ne hne]; exact a, b.move hle1 fun o e => hx _ _ hpP e⟩
    have t1 : Tr g [] μ μ F (put F c' oc) s { s with heap := h' } := by
      refine ⟨fun b o e _ _ h3 => ⟨o, hx _ _ (fun z => h3 (z ▸ List.mem_map.mpr ⟨_, htab, rfl⟩)) e, .refl o⟩, fun b o e => ?_, hle1, fun a => ?_, fun _ h => .inl h, rfl, rfl⟩
      · by_cases hb : b = P
        · subst hb; exact ⟨_, htb⟩
        · exact ⟨o, hx _ _ hb e⟩
      · by_cases hb : a = c'
        · subst hb; exact .inr (.inr (.inr (none_ge hc')))
        · rw [put_ne hb]; cases hF : F a with
          | none => exact .inl rfl
          | some x => exact .inr (.inl (by simp))
    have t := Tr.made (mt := []) (tk := tk) (s := { s with heap := h' }) (o := kla_obj "<lambda>" (env.qual ++ "<lambda>") params body scope (closGo env.cells scope.names []) ((g.mg "__name__").getD .none) c' ctv) G' rfl
    exact ⟨_, μ, _, t1.trans t, G'.made _ rfl, .clo put_same rfl (hfc.mono t.le) (sc.mono (t1.trans t).le) (freeOk.nodup hf hnn Fs), h (.ref c')⟩

/-- one entry of μ turned -/
noncomputable def setMu (a : Addr) (m : MO) : Mu → Mu
  | [] => []
  | (b, x) :: r => if b = a then (b, m) :: r else (b, x) :: setMu a m r
theorem setMu_hit {a : Addr} {m x : MO} {r : Mu} : setMu a m ((a, x) :: r) = (a, m) :: r := if_pos rfl
theorem setMu_miss {a b : Addr} {m x : MO} {r : Mu} (h : b ≠ a) : setMu a m ((b, x) :: r) = (b, x) :: setMu a m r := if_neg h
theorem setMu_dom {a : Addr} {m : MO} : ∀ (μ : Mu), (setMu a m μ).dom = μ.dom
  | [] => rfl
  | (b, x) :: r => by
    unfold setMu
    split
    · rfl
    · simp only [Mu.dom, List.map_cons]; exact congrArg _ (setMu_dom r)
set_option tactic.hygienic true in
theorem setMu_mem {a : Addr} {m : MO} : ∀ {μ : Mu}, μ.dom.Nodup → ∀ {p}, p ∈ setMu a m μ → (p ∈ μ ∧ p.1 ≠ a) ∨ p = (a, m)
  | [], _, p, h => nomatch h
  | (b, x) :: r, hn, p, h => by
    simp only [Mu.dom, List.map_cons, List.nodup_cons] at hn
    unfold setMu at h
    split at h
    · rename_i hb; subst hb
      cases h with
      | head => exact .inr rfl
      | tail _ h => exact .inl ⟨.tail _ h, fun z => hn.1 (z ▸ List.mem_map_of_mem h)⟩
    · rename_i hb
      cases h with
      | head => exact .inl ⟨.head _, hb⟩
      | tail _ h => exact (setMu_mem hn.2 h).imp ((by rintro ⟨a, b⟩; exact ⟨.tail _ a, b⟩)) id
set_option tactic.hygienic true in
theorem setMu_has {a : Addr} {m x : MO} : ∀ {μ : Mu}, (a, x) ∈ μ → (a, m) ∈ setMu a m μ
  | (b, y) :: r, h => by
    unfold setMu
    split
    · rename_i hb; subst hb; exact .head _
    · rename_i hb
      cases h with
      | head => exact absurd rfl hb
      | tail _ h => exact .tail _ (setMu_has h)

/-- one mutable object turns; what else there is stays -/
theorem GSt.set {F : FM} {h h' : Heap} {a : Addr} {m m' : MO} {o' : Obj} (G : GSt g μ F h) (hm : (a, m) ∈ μ) (hx : ∀ b o, b ≠ a → h.get? b = some o → h'.get? b = some o) (e : h'.get? a = some o') (k : MOk F a m' o') : GSt g (setMu a m' μ) F h' := by
  have ha : a ∈ μ.dom := List.mem_map_of_mem (f := (·.1)) hm
  have hFa := (G.mu _ hm).1
  refine ⟨G.base, fun b o q => hx _ _ (fun z => by rw [z] at q; rw [hFa] at q; cases q) (G.fz _ _ q), fun q hq => ?_, fun p hp => ?_, by rw [setMu_dom]; exact G.nd, G.fzc, by rw [setMu_dom]; exact G.dj, fun x hx' => ?_⟩
  rotate_right
  · obtain ⟨hk', L, mm, hf, hn, hF', hm'⟩ := G.stk x hx'
    refine ⟨hk', L, mm, hf, ?_, hF', by rw [setMu_dom]; exact hm'⟩
    obtain ⟨o', es, ep, ho, r⟩ := hn
    exact ⟨o', es, ep, hx _ _ (fun z => hm' (z ▸ ha)) ho, r⟩
  · obtain ⟨x, ps, b, c, d⟩ := G.tb q hq
    exact ⟨x, ps, hx _ _ (fun z => G.dj a ha (z ▸ List.mem_map_of_mem hq)) b, c, d⟩
  · rcases setMu_mem G.nd hp with ⟨h1, h2⟩ | rfl
    · exact ⟨(G.mu p h1).1, (G.mu p h1).2.move (fun _ _ x => x) fun o e => hx _ _ h2 e⟩
    · exact ⟨hFa, o', e, k⟩
theorem Tr.set {mt F s s'} {a : Addr} {m m' : MO} {o' : Obj} (hm : (a, m) ∈ μ) (hx : ∀ b o, b ≠ a → s.heap.get? b = some o → s'.heap.get? b = some o) (e : s'.heap.get? a = some o') (os : s'.os = s.os) (gens : s'.gens = s.gens) : Tr g mt μ (setMu a m' μ) F F s s' := by
  have ha : a ∈ μ.dom := List.mem_map_of_mem (f := (·.1)) hm
  refine ⟨fun b o q _ h2 _ => ⟨o, hx _ _ (fun z => h2 (z ▸ ha)) q, .refl o⟩, fun b o q => ?_, fun _ _ q => q, (Tr.refl (g := g) (mt := mt) (μ := μ) (s := s)).fr, fun b hb => .inl (by rwa [setMu_dom] at hb), os, gens⟩
  by_cases hb : b = a
  · subst hb; exact ⟨_, e⟩
  · exact ⟨o, hx _ _ hb q⟩
/-- μ may forget -/
theorem GSt.drop {F h a m} (G : GSt g ((a, m) :: μ) F h) : GSt g μ F h :=
  ⟨G.base, G.fz, G.tb, fun p hp => G.mu p (.tail _ hp), (List.nodup_cons.mp G.nd).2, G.fzc, fun a ha => G.dj a (.tail _ ha), fun x hx => (by obtain ⟨hk', L, m, hf, hn, hF', hm'⟩ := G.stk x hx; exact ⟨hk', L, m, hf, hn, hF', fun q => hm' (.tail _ q)⟩)⟩
theorem GSt.push {F h a m} (G : GSt g μ F h) (hF : F a = none) (hm : MIs F h a m) (ha : a ∉ μ.dom) (ht : a ∉ g.tabDom) (hd : ∀ n f, m ≠ .dt n f := by intro _ _ h; cases h) : GSt g ((a, m) :: μ) F h := by
  refine ⟨G.base, G.fz, G.tb, fun p hp => ?_, List.nodup_cons.mpr ⟨ha, G.nd⟩, G.fzc, fun b hb => ?_, fun x hx => ?_⟩
  rotate_right
  · obtain ⟨hk', L, mm, hf, hn, hF', hm'⟩ := G.stk x hx
    refine ⟨hk', L, mm, hf, hn, hF', fun q => ?_⟩
    cases q with
    | head => obtain ⟨o, e, k⟩ := hm; obtain ⟨o', es, ep, ho, hdd, r⟩ := hn; rw [e] at ho; cases ho; exact k.notDict hd _ _ hdd
    | tail _ q => exact hm' q
  · cases hp with
    | head => exact ⟨hF, hm⟩
    | tail _ hp => exact G.mu p hp
  · cases hb with
    | head => exact ht
    | tail _ hb => exact G.dj b hb

/-- a lambda in a function whose table we know -/
theorem Ev.lambdaX {params body scope pos Q c P ps caps} (hcode : env.code = .ref c) (htab : (P, .tb c ps) ∈ μ) (hnf : codeAmong pos ps = none) (hf : freeOk env scope = true) (hnn : (scope.names.map (·.1)).Nodup)
    (hcaps : Caps g env ρ (closGo env.cells scope.names []) caps) (h : ∀ c' P', P' ∉ μ.dom → Q (.clo (env.qual ++ "<lambda>") params body scope (.ref c') caps) ((P', .tb c' []) :: setMu P (.tb c (ps ++ [rawInt pos.line, rawInt pos.col, .ref c'])) μ))
    (hdef : defaultsOf params env = ([], []) := by rfl) :
    Ev g env own n ρ μ (.Lambda params body scope pos) Q := fun A F s ok G Fs => by
  refine kla_eval hdef ?_
  obtain ⟨FP, oP, hP, rfl, ht, C0⟩ := G.mu _ htab
  dsimp only at FP hP
  obtain ⟨oc0, fc0, C0⟩ := C0
  have C := C0 _ (G.fz _ _ fc0)
  have sc := hcaps.sees G Fs
  refine make_clo hf G Fs.ok.glob hcode C hP (by simpa using ht) (by simpa using hnf) fun c' P' ctv h' tk hx hc' hP' CP hP0 hrec htb => ?_
  obtain ⟨cc, oc, vs, t, e2, hoc, hd, hv⟩ := id hrec
  cases e2
  have hF0 : F c' = none := (G.fresh (none_ge hc')).1
  have hle1 := put_le (o := oc) hF0
  have hcP : c' ≠ P := fun q => by rw [← q, none_ge hc'] at hP; cases hP
  have hP'P : P' ≠ P := fun q => by rw [← q, none_ge hP'] at hP; cases hP
  have hcP' : P' ≠ c' := by rcases CP with ⟨_, _, _, _, _, _, _, _, _, _, _, _, _, _, _, _, _, _, k⟩; exact k.symm
  have hfc : FCode (put F c' oc) (.ref c') (env.qual ++ "<lambda>") := ⟨c', oc, vs, t, rfl, put_same, hd, hv⟩
  have fr' := G.fresh (none_ge hP')
  have e1 : (ps.toArray ++ #[rawInt pos.line, rawInt pos.col, .ref c']) = (ps ++ [rawInt pos.line, rawInt pos.col, .ref c']).toArray := by simp
  rw [e1] at htb
  have G1 : GSt g (setMu P (.tb c (ps ++ [rawInt pos.line, rawInt pos.col, .ref c'])) μ) F h' := G.set htab (fun b o hb e => hx b o hb e) htb ⟨rfl, TriplesOk_snoc _ _ _ _ ht, oc0, fc0, C0⟩
  have hd1 : c' ∉ (setMu P (.tb c (ps ++ [rawInt pos.line, rawInt pos.col, .ref c'])) μ).dom := by rw [setMu_dom]; exact (G.fresh (none_ge hc')).2.1
  have G2 := G1.freeze hoc hF0 hd1 (G.fresh (none_ge hc')).2.2 (fun _ _ z => by rw [hd] at z; cases z)
  have hFP' : put F c' oc P' = none := by rw [put_ne hcP']; exact fr'.1
  have G3 := G2.push (a := P') (m := .tb c' []) hFP' ⟨_, hP0, rfl, trivial, oc, put_same, fun h e => by
    obtain ⟨o, vs, file, tf, flags, tg, inF, text, tt, q1, q2⟩ := CP
    rw [hoc] at q1; cases q1
    exact ⟨_, vs, file, tf, flags, tg, inF, text, tt, e, q2⟩⟩ (by rw [setMu_dom]; exact fr'.2.1) fr'.2.2
  have t1 : Tr g [] μ ((P', .tb c' []) :: setMu P (.tb c (ps ++ [rawInt pos.line, rawInt pos.col, .ref c'])) μ) F (put F c' oc) s { s with heap := h' } := by
    have t0 : Tr g [] μ (setMu P (.tb c (ps ++ [rawInt pos.line, rawInt pos.col, .ref c'])) μ) F F s { s with heap := h' } := Tr.set htab (fun b o hb e => hx b o hb e) htb rfl rfl
    refine { t0 with le := hle1, fr := fun a => ?_, mu := fun a ha => ?_ }
    · by_cases hb : a = c'
      · subst hb; exact .inr (.inr (.inr (none_ge hc')))
      · rw [put_ne hb]; exact t0.fr a
    · cases ha with
      | head => exact .inr (none_ge hP')
      | tail _ ha => exact t0.mu a ha
  have t := Tr.made (mt := []) (tk := tk) (s := { s with heap := h' }) (o := kla_obj "<lambda>" (env.qual ++ "<lambda>") params body scope (closGo env.cells scope.names []) ((g.mg "__name__").getD .none) c' ctv) G3 rfl
  exact ⟨_, _, _, t1.trans t, G3.made _ rfl, .clo put_same rfl (hfc.mono t.le) (sc.mono (t1.trans t).le) (freeOk.nodup hf hnn Fs), h c' P' fr'.2.1⟩
end

open PySem PySem.W PySem.Calls PyProof.Rows
set_option maxRecDepth 20000
section
variable {g : G} {env : Env} {own : List Addr} {n : Nat} {ρ : Str → Option D} {μ : Mu}

/-- a method of a list -/
noncomputable abbrev MK2 (g : G) (n : Nat) (id : String) (d : D) (Q : D → Mu → Prop) : List D → Mu → Prop := fun es μ₂ => Calls g n (.val (.builtin id)) (d :: es) [] μ₂ Q
noncomputable abbrev MK1 (g : G) (env : Env) (own : List Addr) (n : Nat) (ρ : Str → Option D) (args : List Expr) (id : String) (Q : D → Mu → Prop) : D → Mu → Prop := fun d μ₁ => (∃ ds, Rd μ₁ d ds) ∧ EvL g env own n ρ args μ₁ (MK2 g n id d Q)
theorem Ev.meth {o : Expr} {attr : Str} {apos pos : Pos} {args : List Expr} {id : String} {Q}
    (h : Ev g env own n ρ μ o (MK1 g env own n ρ args id Q))
    (slot : Slot "list" attr id) (hty : typeOf (.builtin id) = pure (.type "method_descriptor")) (hbase : attributeBase o attr env (eval o env) = eval o env := by rfl)
    (hp : args.all plainE = true := by rfl) (hline : (apos.endLine == pos.line) = true := by rfl) (hne : args ≠ [] := by simp)
    (hform : methodCallForm (args.length + 0) (backTo pos (starEach args env)) (backToKw pos (keywordEach [] env)) = true := by rfl) :
    Ev g env own n ρ μ (.Call (.Attribute o attr apos) args [] pos) Q := fun A F s ok G Fs => by
  rw [arm_eval_Call, hbase]
  refine wpAny_bind (wp_seq h ok G Fs fun fv d μ₁ F₁ s₁ t₁ G₁ Fs₁ sd ⟨⟨ds, hr⟩, h₁⟩ => ?_)
  obtain ⟨a, vs, k, rfl, ha, sa⟩ := hr.at G₁ sd
  refine wpAny_bind (wpAny_standAt ?_)
  have fin : ∀ p : Pos, wpAny (model g.prog g.w) A (callWith p (.builtin id) [.ref a] (backTo pos (starEach args env)) []) (EvPost g μ s F Q) (fun _ _ => False) s₁ := fun p => by
    refine callWith_builtin (args_plain env args hp) ?_
    have fin : wpAny (model g.prog g.w) A (spliced (backTo pos (starEach args env))) (fun vs s₂ => wpAny (model g.prog g.w) A (PySem.call (.builtin id) ([.ref a] ++ vs) []) (EvPost g μ s F Q) (fun _ _ => False) s₂) (fun _ _ => False) s₁ := by
      refine wpAny_mono (evl ok args h₁ G₁ Fs₁) ?_ fun _ _ x => x
      rintro vs s₂ ⟨es, μ₂, F₂, t₂, G₂, ses, hc⟩
      exact post_weak (t₁.trans t₂) (hc A F₂ s₂ _ (.ref a :: vs) [] ok G₂ (.val _) (.cons (sd.mono t₂.le) ses) .nil rfl)
    cases args with
    | nil => exact absurd rfl hne
    | cons e r =>
      simp only [List.all_cons, Bool.and_eq_true] at hp
      rw [plainE_star hp.1] at fin ⊢
      exact evalArgs_plain fin
  have hpos : methodCallPos true o env apos pos = pure pos := by unfold methodCallPos; simp [hline]
  unfold methodCall
  rw [show ([] : List Keyword).length = 0 from rfl, hform]
  refine wpAny_bind (wpAny_holding (getMethod_builtin ⟨_, ha, rfl⟩ PySem.F.plainAttrs_list slot hty (fun b e => by cases e; exact ⟨_, ha, rfl⟩) ?_))
  exact wpAny_bind (wpAny_of_eq hpos (fin pos))

theorem EvPost.set {F : FM} {s : Shared} {a : Addr} {m m' : MO} {o' : Obj} {h' : Heap} {tk : Tok} {v d} {Q : D → Mu → Prop} (G : GSt g μ F s.heap) (hm : (a, m) ∈ μ) (hx : Heap.SameBut a s.heap h') (e : h'.get? a = some o') (k : MOk F a m' o') (sv : Sees F v d)
    (h : Q d (setMu a m' μ)) : EvPost g μ s F Q v { s with heap := h', toks := tk } :=
  have hx' : ∀ b o, b ≠ a → s.heap.get? b = some o → h'.get? b = some o := fun b o hb e => (hx.2 b hb).trans e
  ⟨d, _, F, Tr.set (s' := { s with heap := h', toks := tk }) hm hx' e rfl rfl, G.set hm hx' e k, sv, h⟩

theorem Calls.append {a : Addr} {ds : List D} {d : D} {Q} (hm : (a, .ml ds) ∈ μ) (hl : ds.length ≤ 10000) (h : Q .none (setMu a (.ml (ds ++ [d])) μ)) : Calls g n (.val (.builtin "list.append")) [.val (.ref a), d] [] μ Q :=
  Calls.of2 fun A F s fv va vb ok G sf sa sb => by
    obtain rfl := Sees.valI sf; obtain rfl := Sees.valI sa
    obtain ⟨_, o, e, vs, k, rfl, r⟩ := G.mu _ hm
    have hz : vs.size = ds.length := r.size
    refine call_append e (fun h' k' eh sbt => EvPost.set (tk := s.toks) (m' := .ml (ds ++ [d])) G hm sbt eh ⟨_, _, rfl, ?_⟩ .none h) (by unfold sizeLine; lia)
    rw [Array.toList_push]; exact r.append (.cons sb .nil)

noncomputable def insAt (k : Nat) (d : D) (ds : List D) : List D := ds.take k ++ d :: ds.drop k
theorem Calls.insertX {a : Addr} {ds : List D} {k : Nat} {x : Int} {d : D} {Q} (hx : x = (k : Int)) (hm : (a, .ml ds) ∈ μ) (hl : ds.length ≤ 10000) (hk : k ≤ ds.length) (h : Q .none (setMu a (.ml (insAt k d ds)) μ)) : Calls g n (.val (.builtin "list.insert")) [.val (.ref a), .int x, d] [] μ Q :=
  fun A F s fv vs kvs ok G sf sa sk hkn => by
    obtain rfl := Sees.valI sf
    obtain ⟨v1, vs', rfl, s1, sa⟩ := sa.consI
    obtain ⟨v2, vs', rfl, s2, sa⟩ := sa.consI
    obtain ⟨v3, vs', rfl, s3, sa⟩ := sa.consI
    obtain rfl := SeesAll.nilI sa
    obtain rfl : kvs = [] := by simpa using hkn
    obtain rfl := Sees.valI s1
    obtain ⟨t, rfl⟩ := s2.intI
    obtain ⟨_, o, e, xs, nn, rfl, r⟩ := G.mu _ hm
    have hz : xs.size = ds.length := r.size
    have hfit : ¬(!Builtin.List.listFitsIndex x) = true := by
      have : x < 2 ^ 63 := by lia
      unfold Builtin.List.listFitsIndex
      simp; lia
    have hsz : xs.size ≤ sizeLine := by unfold sizeLine; lia
    have mt := PySem.AutoListH.list_insert_list_int_val_1 a xs nn x t v3 hfit hsz
    refine call_meets PySem.F.slot_list_insert ⟨_, e, rfl⟩ PySem.F.entry_list_insert (PySem.F.args_list_insert_3 _ _ _) mt ⟨e, ?_⟩
    · refine EvPost.set (tk := s.toks) (m' := .ml (insAt k d ds)) G hm (Heap.SameBut.update ..) (Heap.get?_update_self _ e rfl) (show MOk F a (.ml (insAt k d ds)) _ from ⟨_, _, rfl, ?_⟩) .none h
      have e1 : ((xs.extract 0 k).push v3 ++ xs.extract k).toList = xs.toList.take k ++ v3 :: xs.toList.drop k := by
        simp only [Array.toList_append, Array.toList_push, Array.toList_extract, List.extract_eq_take_drop, List.drop_zero, Nat.sub_zero, List.append_assoc, List.cons_append, List.nil_append]
        rw [List.take_of_length_le (l := List.drop k xs.toList) (by simp)]
      have e2 : (if x < 0 then (x + ((xs.size : Nat) : Int)).toNat else min x.toNat xs.size) = k := by rw [if_neg (by lia)]; lia
      simp only [e2, e1]
      exact (r.take k).append (.cons s3 (r.drop k))

theorem Calls.insert {a : Addr} {ds : List D} {k : Nat} {d : D} {Q} (hm : (a, .ml ds) ∈ μ) (hl : ds.length ≤ 10000) (hk : k ≤ ds.length) (h : Q .none (setMu a (.ml (insAt k d ds)) μ)) : Calls g n (.val (.builtin "list.insert")) [.val (.ref a), .int k, d] [] μ Q :=
  Calls.insertX rfl hm hl hk h

theorem SeesCaps.get {F : FM} {cl caps} (h : SeesCaps F cl caps) {x d} : caps.lookup x = some d → ∃ c v, cl.lookup x = some c ∧ (∃ o, F c = some o ∧ o.data = .cell (some v)) ∧ Sees F v d := by
  refine h.ind (P := fun cl caps => caps.lookup x = some d → ∃ c v, cl.lookup x = some c ∧ (∃ o, F c = some o ∧ o.data = .cell (some v)) ∧ Sees F v d) (fun e => nomatch e) fun {y _ _ _ _ _ _} e1 e2 sv _ i e => ?_
  rw [List.lookup_cons] at e ⊢
  cases hy : x == y with
  | true => rw [hy] at e; cases e; exact ⟨_, _, rfl, ⟨_, e1, e2⟩, sv⟩
  | false => rw [hy] at e; exact i e
theorem SeesCaps.cell {F : FM} {cl caps} (h : SeesCaps F cl caps) : ∀ p ∈ cl, ∃ o v, F p.2 = some o ∧ o.data = .cell (some v) :=
  h.ind (P := fun cl _ => ∀ p ∈ cl, ∃ o v, F p.2 = some o ∧ o.data = .cell (some v)) (fun _ h => nomatch h) fun e1 e2 _ _ i p hp => (List.mem_cons.mp hp).elim (fun z => z ▸ ⟨_, _, e1, e2⟩) (i p)
theorem SeesCaps.names {F : FM} {cl caps} (h : SeesCaps F cl caps) : cl.map (·.1) = caps.map (·.1) := h.ind (P := fun cl caps => cl.map (·.1) = caps.map (·.1)) rfl fun _ _ _ _ i => congrArg (_ :: ·) i

theorem zip_see {F : FM} {vs : List Value} {ds : List D} (h : SeesAll F vs ds) : ∀ {nm : List Str} {x d}, (nm.zip ds).lookup x = some d → ∃ v, (x, v) ∈ nm.zip vs ∧ Sees F v d := by
  refine h.ind (P := fun vs ds => ∀ {nm : List Str} {x d}, (nm.zip ds).lookup x = some d → ∃ v, (x, v) ∈ nm.zip vs ∧ Sees F v d) (fun {nm x d} e => ?_) (fun sv _ i => ?_)
  · rw [List.zip_nil_right] at e; cases e
  · intro nm x d e
    cases nm with
    | nil => cases e
    | cons y nm =>
      rw [List.zip_cons_cons, List.lookup_cons] at e
      cases hy : x == y with
      | true => rw [hy] at e; cases e; rw [eq_of_beq hy]; exact ⟨_, .head _, sv⟩
      | false => rw [hy] at e; obtain ⟨v, h1, h2⟩ := i e; exact ⟨v, .tail _ h1, h2⟩
theorem zip_fst_sub {α β : Type} : ∀ (l : List α) (r : List β), ((l.zip r).map (·.1)).Sublist l
  | [], r => by simp
  | a :: l, [] => by simp
  | a :: l, b :: r => by simp only [List.zip_cons_cons, List.map_cons]; exact (zip_fst_sub l r).cons_cons _
theorem lookup_app {α : Type} {l r : List (Str × α)} {x : Str} : (l ++ r).lookup x = (l.lookup x).or (r.lookup x) := by
  induction l with
  | nil => simp
  | cons p l ih =>
    obtain ⟨y, d⟩ := p
    rw [List.cons_append, List.lookup_cons, List.lookup_cons]
    cases x == y with
    | true => rfl
    | false => exact ih

/-- a lambda called -/
theorem Calls.clo {qual : Str} {params : Arguments} {body : Expr} {scope : Scope} {cdv : Value} {caps : List (Str × D)} {args : List D} {nm : List Str} {Q}
    (hb : ∀ name cl pm ct (vs : List Value), vs.length = args.length → bindArgs (kla_fn name qual params body scope cl pm cdv ct) ⟨vs, []⟩ = pure (nm.zip vs))
    (hloc : ∀ y ∈ nm, scope.names.lookup y = some .local) (hnd : nm.Nodup) (hfree : ∀ p ∈ caps, scope.names.lookup p.1 = some .free)
    (hk : scope.kind = .function) (hco : scope.isCoroutine = false) (hgen : scope.isGenerator = false) (hcell : ∀ x ∈ scope.names, x.2 ≠ .cell)
    (h : ∀ env L f cl, env = envX qual scope L f cdv cl → Ev (g.push env) env [L] n (rho (nm.zip args ++ caps)) μ body Q) : Calls g (n + 1) (.clo qual params body scope cdv caps) args [] μ Q :=
  fun A F s fv vs kvs ok G sf sa sk hkn => by
    obtain rfl : kvs = [] := by simpa using hkn
    obtain @⟨a, o, name, cl, pm, ct, hF, hd, hc, sc, hcn⟩ := Sees.cloI sf
    have ho := G.fz _ _ hF
    refine wpAny_call (kla_callFunE ok.room ho hd hco hgen rfl (hc.codeRec G.fz) ?_)
    rw [hb _ _ _ _ vs sa.length]
    have hvl : ∀ x v, (x, v) ∈ nm.zip vs → x ∈ nm := fun x v hx => List.of_mem_zip hx |>.1
    refine wpAny_pure (wpAny_newFunctionEnv hcell (fun x hx => hloc _ (hvl x.1 x.2 hx)) (fun h₁ hns hsb => ?_) hk)
    have kp : ∀ b o, s.heap.get? b = some o → h₁.get? b = some o := fun b o e => hsb.extBut b o (Nat.ne_of_lt (Heap.lt_size e)) (Heap.get?_push_of_some _ e)
    refine ⟨g.T.nolimit.keeps fun b o e => kp b o (G.keep b o e), kla_codeExpr ?_⟩
    have hG : GSt g μ F h₁ := G.ext kp
    have hno : s.heap.get? s.heap.objs.size = none := none_ge (Nat.le_refl _)
    have fr := G.fresh hno
    have hFs : FSt (envX qual scope s.heap.objs.size a cdv cl) [s.heap.objs.size] (rho (nm.zip args ++ caps)) μ F h₁ := by
      refine ⟨⟨hk, rfl, rfl, .head _, hcn⟩, ⟨_, hns⟩, fun x d e => ?_, fun p hp => ?_, fun b hb => by rw [List.mem_singleton.mp hb]; exact fr.1, fun b hb => ?_, fun b hb => by rw [List.mem_singleton.mp hb]; exact fr.2.1⟩
      · unfold rho at e
        rw [lookup_app] at e
        cases h1 : (nm.zip args).lookup x with
        | some d' =>
          rw [h1] at e
          cases e
          obtain ⟨v, hv, sv⟩ := zip_see sa h1
          refine ⟨v, .inl ⟨hloc _ (hvl _ _ hv), _, hns, ?_⟩, sv⟩
          refine lookup_of_nodup ?_ (List.mem_reverse.mpr hv)
          rw [List.map_reverse]
          refine (List.reverse_perm _).nodup_iff.mpr ?_
          exact List.Sublist.nodup (zip_fst_sub _ _) hnd
        | none =>
          rw [h1] at e
          have e : caps.lookup x = some d := e
          obtain ⟨c, v, h1, ⟨o', h2, h3⟩, sv⟩ := sc.get e
          exact ⟨v, .inr ⟨.inr (hfree _ (lookup_mem e)), c, h1, o', hG.fz _ _ h2, h3⟩, sv⟩
      · obtain ⟨o', v, h2, h3⟩ := sc.cell p hp
        exact ⟨_, o', hG.fz _ _ h2, h3⟩
      · rw [List.mem_singleton.mp hb]; obtain ⟨o', _, _, e, _⟩ := hns; exact ⟨o', e⟩
    have hfr : FrL (envX qual scope s.heap.objs.size a cdv cl) μ F h₁ := ⟨by show scope.kind ≠ _; rw [hk]; decide, s.heap.objs.size, _, rfl, hns, fr.1, fr.2.1⟩
    have t0 : Tr g [] μ μ F F s { s with heap := h₁, toks := s.toks + (nm.zip vs).length } := Tr.of_ext kp rfl rfl
    refine wpAny_mono (h _ _ _ _ rfl _ F { s with heap := h₁, toks := s.toks + (nm.zip vs).length } (Ok.deeper ok) (hG.push_frame hfr) hFs) ?_ fun _ _ x => x.elim
    rintro v s₂ ⟨d, μ', F', t', a, b, c⟩
    exact EvPost.trans t0 ⟨d, μ', F', t'.pop_frame, a.pop_frame, b, c⟩
end

open PySem PySem.W PySem.Calls PyProof.Rows
set_option maxRecDepth 20000
section
variable {g : G} {env : Env} {own : List Addr} {n : Nat} {ρ : Str → Option D} {μ : Mu}
theorem kindX_of {q : Str} {scope : Scope} {L f : Addr} {cdv : Value} {cl : List (Str × Addr)} {x : Str} {k : Option NameKind} (he : env = envX q scope L f cdv cl) (e : scope.names.lookup x = k) : env.kindOf x = k := by subst he; exact e
theorem kindC_of {scope : Scope} {cl : List (Str × Addr)} {C : Addr} {env' : Env} {x : Str} {k : Option NameKind} (he : env = compEnvC scope cl C env') (e : (relabel scope env').names.lookup x = k) : env.kindOf x = k := by subst he; exact e
theorem Rd.mu {a : Addr} {ds : List D} (h : (a, MO.ml ds) ∈ μ) : Rd μ (.val (.ref a)) ds := .inr ⟨a, rfl, h⟩

theorem wp_ld {α : Type} {M : Model} {A : Around} {E : Value → Shared → Prop} {s : Shared} {Q : α → Shared → Prop} {t : Sem α} {a : Addr} {part : Option Value} {k : Obj → Sem α} {o : Obj} (e : t = Sem.load a part k) (ho : s.heap.get? a = some o) (h : wpAny M A (k o) Q E s) : wpAny M A t Q E s := by
  subst e
  exact wpAny_bind (m := loadPart a part) (f := k) (wpAny_loadPart ho h)
theorem SeesAll.inv {F vs d ds} (h : SeesAll F vs (d :: ds)) : ∃ v vs', vs = v :: vs' ∧ Sees F v d ∧ SeesAll F vs' ds := by
  cases h with | cons a b => exact ⟨_, _, rfl, a, b⟩
theorem SeesAll.inv0 {F vs} (h : SeesAll F vs []) : vs = [] := by obtain rfl := SeesAll.nilI h; rfl
theorem kvs0 {kvs : List (Str × Value)} (h : kvs.map (·.1) = ([] : List (Str × D)).map (·.1)) : kvs = [] := by simpa using h
theorem kvs1 {F} {kvs : List (Str × Value)} {x : Str} {d : D} (h : kvs.map (·.1) = [(x, d)].map (·.1)) (k : SeesAll F (kvs.map (·.2)) ([(x, d)].map (·.2))) : ∃ v, kvs = [(x, v)] ∧ Sees F v d := by
  obtain ⟨v, vs', e, s, r⟩ := SeesAll.consI k
  obtain rfl := SeesAll.nilI r
  exact ⟨v, List.zip_of_prod (xs := kvs) h e, s⟩
noncomputable def BindsAt (g : G) (fa : Addr) (args : List D) (kws : List (Str × D)) (bd : List (Str × D)) : Prop := ∀ fo fd, g.K.lookup fa = some fo → fo.data = .func fd → Binds g fd args kws bd
theorem bindsAt_of {K : Frag} {fa : Addr} {fo : Obj} {fd : FuncData} {args kws bd} (hK : g.K = K) (e : K.lookup fa = some fo) (e2 : fo.data = .func fd) (h : Binds g fd args kws bd) : BindsAt g fa args kws bd := fun fo' fd' h1 h2 => by
  rw [hK, e] at h1; cases h1; rw [e2] at h2; cases h2; exact h
section
variable {fd : FuncData} {a b c d e : D} {x : Str} {bd : List (Str × D)}
theorem Binds.mk10 (h : ∀ (F : FM) (s : Shared) v1, g.K.In s.heap → Sees F v1 a → ∃ bs, BindsTo s fd ⟨[v1], []⟩ bs ∧ SeesB F bs bd) : Binds g fd [a] [] bd := fun F s vs kvs X sa sk hk => by
  obtain ⟨v1, _, rfl, s1, sa⟩ := sa.inv; obtain rfl := sa.inv0; obtain rfl := kvs0 hk; exact h F s v1 X s1
theorem Binds.mk20 (h : ∀ (F : FM) (s : Shared) v1 v2, g.K.In s.heap → Sees F v1 a → Sees F v2 b → ∃ bs, BindsTo s fd ⟨[v1, v2], []⟩ bs ∧ SeesB F bs bd) : Binds g fd [a, b] [] bd := fun F s vs kvs X sa sk hk => by
  obtain ⟨v1, _, rfl, s1, sa⟩ := sa.inv; obtain ⟨v2, _, rfl, s2, sa⟩ := sa.inv; obtain rfl := sa.inv0; obtain rfl := kvs0 hk; exact h F s v1 v2 X s1 s2
theorem Binds.mk30 (h : ∀ (F : FM) (s : Shared) v1 v2 v3, g.K.In s.heap → Sees F v1 a → Sees F v2 b → Sees F v3 c → ∃ bs, BindsTo s fd ⟨[v1, v2, v3], []⟩ bs ∧ SeesB F bs bd) : Binds g fd [a, b, c] [] bd := fun F s vs kvs X sa sk hk => by
  obtain ⟨v1, _, rfl, s1, sa⟩ := sa.inv; obtain ⟨v2, _, rfl, s2, sa⟩ := sa.inv; obtain ⟨v3, _, rfl, s3, sa⟩ := sa.inv; obtain rfl := sa.inv0; obtain rfl := kvs0 hk; exact h F s v1 v2 v3 X s1 s2 s3
theorem Binds.mk40 (h : ∀ (F : FM) (s : Shared) v1 v2 v3 v4, g.K.In s.heap → Sees F v1 a → Sees F v2 b → Sees F v3 c → Sees F v4 d → ∃ bs, BindsTo s fd ⟨[v1, v2, v3, v4], []⟩ bs ∧ SeesB F bs bd) : Binds g fd [a, b, c, d] [] bd := fun F s vs kvs X sa sk hk => by
  obtain ⟨v1, _, rfl, s1, sa⟩ := sa.inv; obtain ⟨v2, _, rfl, s2, sa⟩ := sa.inv; obtain ⟨v3, _, rfl, s3, sa⟩ := sa.inv; obtain ⟨v4, _, rfl, s4, sa⟩ := sa.inv; obtain rfl := sa.inv0; obtain rfl := kvs0 hk; exact h F s v1 v2 v3 v4 X s1 s2 s3 s4
theorem Binds.mk21 (h : ∀ (F : FM) (s : Shared) v1 v2 w, g.K.In s.heap → Sees F v1 a → Sees F v2 b → Sees F w e → ∃ bs, BindsTo s fd ⟨[v1, v2], [(x, w)]⟩ bs ∧ SeesB F bs bd) : Binds g fd [a, b] [(x, e)] bd := fun F s vs kvs X sa sk hk => by
  obtain ⟨v1, _, rfl, s1, sa⟩ := sa.inv; obtain ⟨v2, _, rfl, s2, sa⟩ := sa.inv; obtain rfl := sa.inv0; obtain ⟨w, rfl, sw⟩ := kvs1 hk sk; exact h F s v1 v2 w X s1 s2 sw
theorem Binds.mk31 (h : ∀ (F : FM) (s : Shared) v1 v2 v3 w, g.K.In s.heap → Sees F v1 a → Sees F v2 b → Sees F v3 c → Sees F w e → ∃ bs, BindsTo s fd ⟨[v1, v2, v3], [(x, w)]⟩ bs ∧ SeesB F bs bd) : Binds g fd [a, b, c] [(x, e)] bd := fun F s vs kvs X sa sk hk => by
  obtain ⟨v1, _, rfl, s1, sa⟩ := sa.inv; obtain ⟨v2, _, rfl, s2, sa⟩ := sa.inv; obtain ⟨v3, _, rfl, s3, sa⟩ := sa.inv; obtain rfl := sa.inv0; obtain ⟨w, rfl, sw⟩ := kvs1 hk sk; exact h F s v1 v2 v3 w X s1 s2 s3 sw
theorem Binds.mk41 (h : ∀ (F : FM) (s : Shared) v1 v2 v3 v4 w, g.K.In s.heap → Sees F v1 a → Sees F v2 b → Sees F v3 c → Sees F v4 d → Sees F w e → ∃ bs, BindsTo s fd ⟨[v1, v2, v3, v4], [(x, w)]⟩ bs ∧ SeesB F bs bd) : Binds g fd [a, b, c, d] [(x, e)] bd := fun F s vs kvs X sa sk hk => by
  obtain ⟨v1, _, rfl, s1, sa⟩ := sa.inv; obtain ⟨v2, _, rfl, s2, sa⟩ := sa.inv; obtain ⟨v3, _, rfl, s3, sa⟩ := sa.inv; obtain ⟨v4, _, rfl, s4, sa⟩ := sa.inv; obtain rfl := sa.inv0; obtain ⟨w, rfl, sw⟩ := kvs1 hk sk; exact h F s v1 v2 v3 v4 w X s1 s2 s3 s4 sw
end

noncomputable def bisF (p : Nat → Bool) : Nat → Nat → Nat → Nat
  | 0, lo, _ => lo
  | k + 1, lo, hi => if lo < hi then (if p ((lo + hi) / 2) then bisF p k lo ((lo + hi) / 2) else bisF p k ((lo + hi) / 2 + 1) hi) else lo
noncomputable def bis (p : Nat → Bool) (lo hi : Nat) : Nat := bisF p (hi - lo) lo hi
theorem mid_k {lo hi k : Nat} (h : hi - lo ≤ k + 1) (q : lo < hi) : (lo + hi) / 2 - lo ≤ k ∧ hi - ((lo + hi) / 2 + 1) ≤ k := by omega
theorem not_lt_of_sub {lo hi : Nat} (h : hi - lo ≤ 0) : ¬ lo < hi := by omega
theorem bisF_more {p : Nat → Bool} : ∀ (k m lo hi : Nat), hi - lo ≤ k → hi - lo ≤ m → bisF p k lo hi = bisF p m lo hi
  | 0, 0, lo, hi, _, _ => rfl
  | 0, m + 1, lo, hi, h, _ => (if_neg (not_lt_of_sub h)).symm
  | k + 1, 0, lo, hi, _, h => if_neg (not_lt_of_sub h)
  | k + 1, m + 1, lo, hi, h, h' => by
    rw [bisF, bisF]
    by_cases q : lo < hi
    · rw [if_pos q, if_pos q, bisF_more k m lo ((lo + hi) / 2) (mid_k h q).1 (mid_k h' q).1, bisF_more k m ((lo + hi) / 2 + 1) hi (mid_k h q).2 (mid_k h' q).2]
    · rw [if_neg q, if_neg q]
theorem bis_F {p : Nat → Bool} {k lo hi : Nat} (h : hi - lo ≤ k) : bis p lo hi = bisF p k lo hi := bisF_more _ _ _ _ (Nat.le_refl _) h
theorem bis_eq {p : Nat → Bool} {lo hi : Nat} : bis p lo hi = if lo < hi then (if p ((lo + hi) / 2) then bis p lo ((lo + hi) / 2) else bis p ((lo + hi) / 2 + 1) hi) else lo := by
  rw [bis_F (Nat.le_succ (hi - lo)), bisF]
  by_cases q : lo < hi
  · have h := mid_k (Nat.le_succ (hi - lo)) q
    rw [if_pos q, if_pos q, bis_F h.1, bis_F h.2]
  · rw [if_neg q, if_neg q]
theorem bis_rec {p : Nat → Bool} {C : Nat → Nat → Nat → Prop} (h1 : ∀ lo hi, lo < hi → p ((lo + hi) / 2) = true → C lo ((lo + hi) / 2) (bis p lo ((lo + hi) / 2)) → C lo hi (bis p lo ((lo + hi) / 2)))
    (h2 : ∀ lo hi, lo < hi → p ((lo + hi) / 2) = false → C ((lo + hi) / 2 + 1) hi (bis p ((lo + hi) / 2 + 1) hi) → C lo hi (bis p ((lo + hi) / 2 + 1) hi)) (h3 : ∀ lo hi, ¬ lo < hi → C lo hi lo) : ∀ (k lo hi : Nat), hi - lo ≤ k → C lo hi (bis p lo hi)
  | 0, lo, hi, h => by rw [bis_eq, if_neg (not_lt_of_sub h)]; exact h3 _ _ (not_lt_of_sub h)
  | k + 1, lo, hi, h => by
    rw [bis_eq]
    by_cases q : lo < hi
    · rw [if_pos q]
      cases hp : p ((lo + hi) / 2) with
      | true => exact h1 lo hi q hp (bis_rec h1 h2 h3 k _ _ (mid_k h q).1)
      | false => exact h2 lo hi q hp (bis_rec h1 h2 h3 k _ _ (mid_k h q).2)
    · rw [if_neg q]; exact h3 _ _ q
theorem mid_in {lo hi : Nat} (q : lo < hi) : lo ≤ (lo + hi) / 2 ∧ (lo + hi) / 2 < hi := by omega
theorem bis_le {p : Nat → Bool} {lo hi : Nat} : lo ≤ hi → lo ≤ bis p lo hi ∧ bis p lo hi ≤ hi := by
  refine bis_rec (C := fun lo hi r => lo ≤ hi → lo ≤ r ∧ r ≤ hi) ?_ ?_ ?_ _ lo hi (Nat.le_refl _)
  · intro lo hi h1 hp ih _; have h2 := mid_in h1; have := ih h2.1; exact ⟨this.1, Nat.le_trans this.2 (Nat.le_of_lt h2.2)⟩
  · intro lo hi h1 hp ih _; have h2 := mid_in h1; have := ih h2.2; exact ⟨Nat.le_trans (Nat.le_succ_of_le h2.1) this.1, this.2⟩
  · intro lo hi h1 h; exact ⟨Nat.le_refl _, h⟩

theorem EvL.nil {Q} (h : Q [] μ) : EvL g env own n ρ [] μ Q := h
noncomputable abbrev LK2 (d : D) (Q : List D → Mu → Prop) : List D → Mu → Prop := fun ds μ₂ => Q (d :: ds) μ₂
noncomputable abbrev LK1 (g : G) (env : Env) (own : List Addr) (n : Nat) (ρ : Str → Option D) (r : List Expr) (Q : List D → Mu → Prop) : D → Mu → Prop := fun d μ₁ => EvL g env own n ρ r μ₁ (LK2 d Q)
noncomputable abbrev KK2 (x : Str) (d : D) (Q : List (Str × D) → Mu → Prop) : List (Str × D) → Mu → Prop := fun ks μ₂ => Q ((x, d) :: ks) μ₂
noncomputable abbrev KK1 (g : G) (env : Env) (own : List Addr) (n : Nat) (ρ : Str → Option D) (x : Str) (r : List Keyword) (Q : List (Str × D) → Mu → Prop) : D → Mu → Prop := fun d μ₁ => EvK g env own n ρ r μ₁ (KK2 x d Q)
theorem EvL.cons {e r Q} (h : Ev g env own n ρ μ e (LK1 g env own n ρ r Q)) (hp : plainE e = true := by rfl) : EvL g env own n ρ (e :: r) μ Q := ⟨hp, h⟩
theorem EvK.nil {Q} (h : Q [] μ) : EvK g env own n ρ [] μ Q := h
theorem EvK.cons {x : Str} {e pos r Q} (h : Ev g env own n ρ μ e (KK1 g env own n ρ x r Q)) : EvK g env own n ρ (⟨some x, e, pos⟩ :: r) μ Q := h
theorem keep_blt {id : String} {P : Prop} (h : P) : KeepD g (.val (.builtin id)) ∧ P := ⟨KeepD.builtin, h⟩
theorem keep_type {id : String} {P : Prop} (h : P) : KeepD g (.val (.type id)) ∧ P := ⟨KeepD.type, h⟩
theorem keep_fn {K : Frag} {a : Addr} {P : Prop} (hK : g.K = K) (hk : keepIn K (.ref a) = true) (h : P) : KeepD g (.val (.ref a)) ∧ P := ⟨KeepD.fn (by rw [hK]; exact hk), h⟩
theorem keep_clo {q ps b sc cd cp} {P : Prop} (h : P) : KeepD g (.clo q ps b sc cd cp) ∧ P := ⟨KeepD.clo, h⟩
theorem keep_as {d} {P : Prop} (hk : KeepD g d) (h : P) : KeepD g d ∧ P := ⟨hk, h⟩

/-- a < b is told as r -/
noncomputable def LtOk (a b : D) (r : Bool) : Prop := ∀ (g : G) (n : Nat) (μ : Mu) (Q : D → Mu → Prop), Q (.bool r) μ → Act2 g n μ (compareOp .Lt) a b Q
theorem LtOk.int {a b : Int} : LtOk (.int a) (.int b) (decide (a < b)) := fun _ _ _ _ h => Act2.lt h
/-- what a key answers -/
noncomputable def KeyOk (g : G) (n : Nat) (k d e : D) : Prop := ∀ (l : List Env) (μ : Mu) (Q : D → Mu → Prop), Q e μ → Calls { g with stk := l } n k [d] [] μ Q
end

open PySem PySem.W PySem.Calls PyProof.Rows
set_option maxRecDepth 20000
section
variable {g : G} {env : Env} {own : List Addr} {n : Nat} {ρ : Str → Option D} {μ : Mu}

theorem AsgL.mono {K K' : (Str → Option D) → Prop} (k : ∀ r, K r → K' r) {es ds r} (h : AsgL env own K es ds r) : AsgL env own K' es ds r := by
  induction h with
  | nil h => exact .nil (k _ h)
  | cons b _ ih => exact .cons b ih
theorem Asg.mono {K K' : (Str → Option D) → Prop} (k : ∀ r, K r → K' r) {e d r} (h : Asg env own K e d r) : Asg env own K' e d r := by
  cases h with
  | name b h => exact .name b (k _ h)
  | tup h => exact .tup (h.mono k)
  | tupL h => exact .tupL (h.mono k)
theorem Et.mono {e : Expr} {Q Q' : Bool → Mu → Prop} (h : Et g env own n ρ μ e Q) (k : ∀ d μ', Q d μ' → Q' d μ') : Et g env own n ρ μ e Q' :=
  fun A F s ok G Fs => wpAny_mono (h A F s ok G Fs) ((by rintro v s' ⟨μ', F', t, G', q⟩; exact ⟨μ', F', t, G', k _ _ q⟩)) fun _ _ x => x
theorem Ex.mono {ss : List Stmt} {Q Q' : Fl → (Str → Option D) → Mu → Prop} (h : Ex g env own n ρ μ ss Q) (k : ∀ f r μ', Q f r μ' → Q' f r μ') : Ex g env own n ρ μ ss Q' :=
  fun A F s ok G Fs => wpAny_mono (h A F s ok G Fs) ((by rintro fl s' ⟨f, r, μ', F', t, G', Fs', sf, q⟩; exact ⟨f, r, μ', F', t, G', Fs', sf, k _ _ _ q⟩)) fun _ _ x => x
theorem Calls.mono {f : D} {args kws} {Q Q' : D → Mu → Prop} (h : Calls g n f args kws μ Q) (k : ∀ d μ', Q d μ' → Q' d μ') : Calls g n f args kws μ Q' :=
  fun A F s fv vs kvs ok G sf sa sk hk => wpAny_mono (h A F s fv vs kvs ok G sf sa sk hk) (fun v s' p => EvPost.mono p k) fun _ _ x => x
theorem EvI.mono {tgt e} {Q Q' : List D → Mu → Prop} (h : EvI g env own n ρ μ tgt e Q) (k : ∀ d μ', Q d μ' → Q' d μ') : EvI g env own n ρ μ tgt e Q' :=
  fun A F s ok G Fs => wpAny_mono (h A F s ok G Fs) (fun x s₁ h₁ => wpAny_mono h₁ ((by rintro it s₂ ⟨ds, μ', F', fp, t, G', a, b, c, d, q⟩; exact ⟨ds, μ', F', fp, t, G', a, b, c, d, k _ _ q⟩)) fun _ _ x => x) fun _ _ x => x
theorem EtIfs.mono : ∀ {ifs : List Expr} {μ : Mu} {Q Q' : Bool → Mu → Prop}, EtIfs g env own n ρ ifs μ Q → (∀ d μ', Q d μ' → Q' d μ') → EtIfs g env own n ρ ifs μ Q'
  | [], μ, Q, Q', h, k => k _ _ h
  | c :: cs, μ, Q, Q', h, k => Et.mono h (by rintro b μ₁ ⟨h1, h2⟩; exact ⟨fun e => EtIfs.mono (h1 e) k, fun e => k _ _ (h2 e)⟩)

/-- a loop by an invariant over what is left -/
theorem ForL.run {tgt body Q} (I : List D → (Str → Option D) → Mu → Prop)
    (turn : ∀ d ds ρ μ, I (d :: ds) ρ μ → Asg env own (fun ρ₁ => Ex g env own n ρ₁ μ body fun f ρ₂ μ₂ => match f with
      | .next => I ds ρ₂ μ₂
      | .cont => I ds ρ₂ μ₂
      | .brk => Q .next ρ₂ μ₂
      | .ret d => Q (.ret d) ρ₂ μ₂) tgt d ρ) (fin : ∀ ρ μ, I [] ρ μ → Q .next ρ μ) : ∀ (ds : List D) {ρ μ}, I ds ρ μ → ForL g env own n tgt body ds ρ μ Q
  | [], ρ, μ, h => fin ρ μ h
  | d :: ds, ρ, μ, h => (turn d ds ρ μ h).mono fun r hr => hr.mono fun f r' μ' q => by
    cases f with
    | next => exact ForL.run I turn fin ds q
    | cont => exact ForL.run I turn fin ds q
    | brk => exact q
    | ret d => exact q

theorem upd_upd {ρ : Str → Option D} {x a b} : upd (upd ρ x a) x b = upd ρ x b := by funext y; unfold upd; split <;> rfl
theorem upd_upd2 {ρ : Str → Option D} {x y a b c d} : upd (upd (upd (upd ρ x a) y b) x c) y d = upd (upd ρ x c) y d := by
  funext z; unfold upd; by_cases h1 : z = y <;> by_cases h2 : z = x <;> simp [h1, h2]

/-- a comprehension whose elements are told one by one -/
theorem CompL.map {x : Str} {p : Pos} {elt : Expr} {K : CK} (f : D → D) (hb : Bindable env own x) : ∀ (ds : List D) (acc : List D) {ρ : Str → Option D}, acc.length + ds.length ≤ 100000 →
    (∀ d ∈ ds, ∀ Q : D → Mu → Prop, Q (f d) μ → Ev g env own n (upd ρ x d) μ elt Q) → (∀ r, K (acc ++ ds.map f) r μ) → CompL g env own n (CompG g env own n elt []) (.Name x p) [] ds ρ μ acc K
  | [], acc, ρ, hl, h, k => by have := k ρ; rwa [List.map_nil, List.append_nil] at this
  | d :: ds, acc, ρ, hl, h, k => by
    simp only [List.length_cons] at hl
    refine .name hb (show (true = true → _) ∧ (true = false → _) from ⟨fun _ => ⟨by lia, h d (.head _) _ ?_⟩, fun e => nomatch e⟩)
    refine CompL.map f hb ds _ (by simp; lia) (fun e he => by rw [upd_upd]; exact h e (.tail _ he)) (fun r => ?_)
    have := k r
    rwa [List.map_cons, ← List.singleton_append, ← List.append_assoc] at this
theorem CompL.filter {x : Str} {p : Pos} {elt test : Expr} {K : CK} (f : D → D) (c : D → Bool) (hb : Bindable env own x) : ∀ (ds : List D) (acc : List D) {ρ : Str → Option D}, acc.length + ds.length ≤ 100000 →
    (∀ d ∈ ds, ∀ Q : Bool → Mu → Prop, Q (c d) μ → Et g env own n (upd ρ x d) μ test Q) →
    (∀ d ∈ ds, c d = true → ∀ Q : D → Mu → Prop, Q (f d) μ → Ev g env own n (upd ρ x d) μ elt Q) → (∀ r, K (acc ++ (ds.filter c).map f) r μ) → CompL g env own n (CompG g env own n elt []) (.Name x p) [test] ds ρ μ acc K
  | [], acc, ρ, hl, ht, h, k => by have := k ρ; rwa [List.filter_nil, List.map_nil, List.append_nil] at this
  | d :: ds, acc, ρ, hl, ht, h, k => by
    simp only [List.length_cons] at hl
    refine .name hb (ht d (.head _) _ ⟨fun e => ?_, fun e => ?_⟩)
    · refine show (true = true → _) ∧ (true = false → _) from ⟨fun _ => ⟨by lia, h d (.head _) e _ ?_⟩, fun e => nomatch e⟩
      refine CompL.filter f c hb ds _ (by simp; lia) (fun e he => by rw [upd_upd]; exact ht e (.tail _ he)) (fun e he => by rw [upd_upd]; exact h e (.tail _ he)) (fun r => ?_)
      have := k r
      rwa [List.filter_cons_of_pos e, List.map_cons, ← List.singleton_append, ← List.append_assoc] at this
    · refine ⟨fun e => (nomatch e), fun _ => ?_⟩
      refine CompL.filter f c hb ds _ (by exact Nat.le_of_lt (by assumption)) (fun e he => by rw [upd_upd]; exact ht e (.tail _ he)) (fun e he => by rw [upd_upd]; exact h e (.tail _ he)) (fun r => ?_)
      have := k r
      rwa [List.filter_cons_of_neg (by rw [e]; exact Bool.false_ne_true)] at this
theorem enumD_map : ∀ (ds : List D) (i : Int), enumD i ds = (ds.zipIdx.map fun (p : D × Nat) => ((D.int (i + p.2), p.1) : D × D)).map fun d => .tup [d.1, d.2] := by
  intro ds
  induction ds with
  | nil => intro i; rfl
  | cons d ds ih =>
    intro i
    rw [enumD, ih, List.zipIdx_cons, List.map_cons, List.map_cons]
    congr 1
    · simp
    · rw [List.zipIdx_succ]
      simp only [List.map_map]
      refine List.map_congr_left fun p hp => ?_
      simp only [Function.comp]
      congr 3; push_cast; lia
end

open PySem PySem.W PySem.Calls PyProof.Rows
set_option maxRecDepth 20000
section
variable {g : G} {env : Env} {own : List Addr} {n : Nat} {ρ : Str → Option D} {μ : Mu}

theorem EvPost.keep {F : FM} {s : Shared} {h' : Heap} {tk : Tok} {v d} {Q : D → Mu → Prop} (G : GSt g μ F s.heap) (hk : ∀ b o, s.heap.get? b = some o → h'.get? b = some o) (sv : Sees F v d) (h : Q d μ) : EvPost g μ s F Q v { s with heap := h', toks := tk } :=
  ⟨d, μ, F, Tr.of_ext hk rfl rfl, G.ext hk, sv, h⟩
theorem EvPost.keepNew {F : FM} {s : Shared} {h' : Heap} {tk : Tok} {a : Addr} {vs : Array Value} {k : Nat} {ds} {Q : D → Mu → Prop} (G : GSt g μ F s.heap) (hk : ∀ b o, s.heap.get? b = some o → h'.get? b = some o)
    (ea : h'.get? a = some { cls := .type "list", dict := Option.none, data := .seq vs k, slots := #[] }) (fr : s.heap.get? a = none) (sa : SeesAll F vs.toList ds) (h : Q (.lst ds) μ) : EvPost g μ s F Q (.ref a) { s with heap := h', toks := tk } := by
  obtain ⟨h1, h2, h3⟩ := G.fresh fr
  have hle := put_le (o := { cls := .type "list", dict := Option.none, data := .seq vs k, slots := #[] }) h1
  refine ⟨_, μ, _, { Tr.of_ext (g := g) (mt := []) (μ := μ) (F := F) (s' := { s with heap := h', toks := tk }) hk rfl rfl with le := hle, fr := fun b => ?_ }, (G.ext hk).freeze ea h1 h2 h3 (fun _ _ z => nomatch z), .lst put_same (sa.mono hle), h⟩
  by_cases hb : b = a
  · subst hb; exact .inr (.inr (.inr fr))
  · rw [put_ne hb]; cases hF : F b with
    | none => exact .inl rfl
    | some x => exact .inr (.inl (by simp))
/-! range, list -/
theorem Calls.range1 {k : Int} {Q} (h : Q (.rng 0 k 1) μ) : Calls g n (.val (.type "range")) [.int k] [] μ Q := Calls.of1 fun A F s fv va ok G sf sa => by
  obtain rfl := Sees.valI sf; obtain ⟨_, rfl⟩ := Sees.intI sa
  exact call_range_1 (EvPost.made G rfl rfl (.rng put_same) h)
theorem Calls.range2 {a b : Int} {Q} (h : Q (.rng a b 1) μ) : Calls g n (.val (.type "range")) [.int a, .int b] [] μ Q := Calls.of2 fun A F s fv va vb ok G sf sa sb => by
  obtain rfl := Sees.valI sf; obtain ⟨_, rfl⟩ := Sees.intI sa; obtain ⟨_, rfl⟩ := Sees.intI sb
  exact call_range_2 (EvPost.made G rfl rfl (.rng put_same) h)
theorem rangeD_get : ∀ (m : Nat) (a c : Int) (j : Nat), j < m → (rangeD a c m)[j]? = some (.int (a + j * c))
  | 0, a, c, j, h => by exact absurd (by assumption) (Nat.not_lt_zero _)
  | m + 1, a, c, 0, h => by simp [rangeD]
  | m + 1, a, c, j + 1, h => by
    rw [rangeD, List.getElem?_cons_succ, rangeD_get m _ c j (by exact Nat.lt_of_succ_lt_succ (by assumption))]
    congr 2; push_cast; rw [Int.add_mul]; lia
theorem rangeD_len : ∀ (m : Nat) (a c : Int), (rangeD a c m).length = m
  | 0, a, c => rfl
  | m + 1, a, c => by rw [rangeD, List.length_cons, rangeD_len m]
/-! max, min of two; sum -/
theorem Calls.max2 {a b : Int} {Q} (h : Q (.int (max a b)) μ) : Calls g n (.val (.builtin "max")) [.int a, .int b] [] μ Q := Calls.of2 fun A F s fv va vb ok G sf sa sb => by
  obtain rfl := Sees.valI sf
  obtain ⟨t, rfl⟩ := Sees.intI sa; obtain ⟨u, rfl⟩ := Sees.intI sb
  refine max_two_ints ok.hand fun h' tk hk => EvPost.keep G hk ?_ h
  split
  · rw [Int.max_eq_right (by lia)]; exact .int _ _
  · rw [Int.max_eq_left (by lia)]; exact .int _ _
theorem sees_ints {F : FM} {ns : List Int} : ∀ {vs : List Value}, SeesAll F vs (ns.map .int) → ∃ l : List (Int × Tok), vs = l.map (fun p => Value.int p.1 p.2) ∧ l.map (·.1) = ns := by
  induction ns with
  | nil => intro vs h; exact ⟨[], SeesAll.nilI h, rfl⟩
  | cons x ns ih =>
    intro vs h
    obtain ⟨v, vs', rfl, s1, s2⟩ := SeesAll.consI h
    obtain ⟨l, rfl, e⟩ := ih s2
    obtain ⟨t, rfl⟩ := Sees.intI s1
    exact ⟨(x, t) :: l, rfl, congrArg (x :: ·) e⟩
theorem sees_intItems {F : FM} {vs : Array Value} {ns : List Int} (h : SeesAll F vs.toList (ns.map .int)) : ∃ xs : Array (Int × Tok), vs = intItems xs ∧ xs.toList.map (·.1) = ns := by
  obtain ⟨l, e, hl⟩ := sees_ints h
  refine ⟨l.toArray, ?_, hl⟩
  unfold intItems
  apply Array.ext'
  rw [e, Array.toList_map]
theorem numAt_eq' {xs : Array (Int × Tok)} {ns : List Int} (h : xs.toList.map (·.1) = ns) (i : Nat) : numAt xs i = ns.getD i 0 := by
  subst h
  unfold numAt
  rw [List.getD_eq_getElem?_getD, List.getElem?_map, Array.getElem?_toList]
theorem preSum_take (ns : List Int) : ∀ k, preSum (fun i => ns.getD i 0) k = (ns.take k).sum
  | 0 => by simp [preSum]
  | k + 1 => by
    rw [preSum, preSum_take ns k]
    by_cases hk : k < ns.length
    · rw [List.take_succ_eq_append_getElem hk, List.sum_append]; simp [List.getD_eq_getElem?_getD, hk]
    · rw [List.take_of_length_le (by exact Nat.le_of_not_lt (by assumption)), List.take_of_length_le (by lia), List.getD_eq_getElem?_getD, List.getElem?_eq_none (by exact Nat.le_of_not_lt (by assumption))]; simp
theorem Calls.sum {x : D} {ns : List Int} {Q} (hx : Rd μ x (ns.map .int)) (hfit : ∀ j, j < ns.length → InLong (ns.getD j 0) ∧ InLong (ns.take (j + 1)).sum) (h : Q (.int ns.sum) μ) : Calls g n (.val (.builtin "sum")) [x] [] μ Q :=
  Calls.of1 fun A F s fv va ok G sf sa => by
    obtain rfl := Sees.valI sf
    obtain ⟨a, vs, rfl, hL, sds⟩ := hx.isList G sa
    obtain ⟨xs, rfl, hxs⟩ := sees_intItems sds
    have hf : numAt xs = fun i => ns.getD i 0 := funext (numAt_eq' hxs)
    have hz : xs.size = ns.length := by rw [← hxs, List.length_map, Array.length_toList]
    refine sum_intList ok.hand hL (fun j hj => ?_) fun h' tk t' hk => EvPost.keep G hk ?_ h
    · rw [hf, preSum_take]; exact hfit j (by lia)
    · rw [hf, preSum_take, hz, List.take_of_length_le (Nat.le_refl _)]; exact .int _ _
end

open PySem PySem.W PySem.Calls PyProof.Rows
set_option maxRecDepth 20000
section
variable {g : G} {env : Env} {own : List Addr} {n : Nat} {ρ : Str → Option D} {μ : Mu}

/-! a mutable list, seen as what it holds from here on -/
noncomputable def Re (a : Addr) (ds : List D) (d d' : D) : Prop := ∀ (F : FM) v vs k, F a = some { cls := .type "list", dict := Option.none, data := .seq vs k, slots := #[] } → SeesAll F vs.toList ds → Sees F v d → Sees F v d'
theorem Re.hit {a ds} : Re a ds (.val (.ref a)) (.lst ds) := fun F v vs k e sa sv => by obtain rfl := Sees.valI sv; exact .lst e sa
theorem Re.same {a ds d} : Re a ds d d := fun F v vs k e sa sv => sv
inductive ReL (a : Addr) (ds : List D) : List D → List D → Prop
  | nil : ReL a ds [] []
  | cons {d d' l l'} : Re a ds d d' → ReL a ds l l' → ReL a ds (d :: l) (d' :: l')
theorem ReL.sees {a ds F vs k} (e : F a = some { cls := .type "list", dict := Option.none, data := .seq vs k, slots := #[] }) (sa : SeesAll F (vs : Array Value).toList ds) {l l'} (h : ReL a ds l l') : ∀ {ws}, SeesAll F ws l → SeesAll F ws l' := by
  induction h with
  | nil => exact id
  | cons r _ ih =>
    intro ws h
    obtain ⟨v, vs', rfl, s1, s2⟩ := SeesAll.consI h
    exact .cons (r _ _ _ _ e sa s1) (ih s2)
theorem Re.lst {a ds l l'} (h : ReL a ds l l') : Re a ds (.lst l) (.lst l') := fun F v vs k e sa sv => by
  obtain ⟨e', s'⟩ := Sees.lstI sv; exact .lst e' (h.sees e sa s')
theorem Re.tup {a ds l l'} (h : ReL a ds l l') : Re a ds (.tup l) (.tup l') := fun F v vs k e sa sv => by
  obtain ⟨e', s'⟩ := Sees.tupI sv; exact .tup e' (h.sees e sa s')

theorem Ex.freeze {a ds ss} {ρ' : Str → Option D} {Q} (hρ : ∀ x d', ρ' x = some d' → ∃ d, ρ x = some d ∧ Re a ds d d') (h : Ex g env own n ρ' μ ss Q) : Ex g env own n ρ ((a, .ml ds) :: μ) ss Q := fun A F s ok G Fs => by
  obtain ⟨hF, o, e, vs, k, rfl, sa⟩ := G.mu _ (.head _)
  dsimp only at hF e
  have hnd := List.nodup_cons.mp G.nd
  have hle := put_le (o := { cls := .type "list", dict := Option.none, data := .seq vs k, slots := #[] }) hF
  have G' := G.drop.freeze e hF hnd.1 (G.dj a (.head _)) (fun _ _ z => nomatch z)
  have Fs' : FSt env own ρ' μ (put F a { cls := .type "list", dict := Option.none, data := .seq vs k, slots := #[] }) s.heap := by
    refine ⟨Fs.ok, Fs.ns, fun x d' hx => ?_, Fs.cells, fun b hb => ?_, Fs.live, fun b hb q => Fs.muo b hb (.tail _ q)⟩
    · obtain ⟨d, hd, re⟩ := hρ x d' hx
      obtain ⟨v, hv, sv⟩ := Fs.vars x d hd
      exact ⟨v, hv, re _ _ _ _ put_same (sa.mono hle) (sv.mono hle)⟩
    · rw [put_ne (fun z : b = a => Fs.muo b hb (by rw [z]; exact .head _))]; exact Fs.ownF b hb
  refine wpAny_mono (h A _ s ok G' Fs') (fun fl s' ⟨f, r, μ', F', t, G₂, Fs₂, sf, q⟩ => ⟨f, r, μ', F', ?_, G₂, Fs₂, sf, q⟩) fun _ _ x => x
  refine ⟨fun b o h0 h1 h2 h3 => t.ext b o h0 h1 (fun z => h2 (.tail _ z)) h3, t.live, fun b o q => t.le b o (hle b o q), fun b => ?_, fun b hb => (t.mu b hb).imp (fun z => .tail _ z) id, t.os, t.gens⟩
  by_cases hb : b = a
  · subst hb; exact .inr (.inr (.inl (.head _)))
  · rcases t.fr b with h | h | h | h
    · exact .inl h
    · rw [put_ne hb] at h; exact .inr (.inl h)
    · exact .inr (.inr (.inl (.tail _ h)))
    · exact .inr (.inr (.inr h))
/-- the entry may lie deeper: bring it to the front -/
theorem Ex.perm {μ' : Mu} {ss Q} (hp : μ'.Perm μ) (h : Ex g env own n ρ μ' ss Q) : Ex g env own n ρ μ ss Q := fun A F s ok G Fs => by
  have hm : ∀ a, a ∈ μ'.dom ↔ a ∈ μ.dom := fun a => (hp.map _).mem_iff
  have G' : GSt g μ' F s.heap := ⟨G.base, G.fz, G.tb, fun p hp' => G.mu p (hp.mem_iff.mp hp'), (hp.map _).nodup_iff.mpr G.nd, G.fzc, fun a ha => G.dj a ((hm a).mp ha), fun x hx => (by obtain ⟨hk', L, m, hf, hn, hF', hm'⟩ := G.stk x hx; exact ⟨hk', L, m, hf, hn, hF', fun q => hm' ((hm _).mp q)⟩)⟩
  have Fs' : FSt env own ρ μ' F s.heap := ⟨Fs.ok, Fs.ns, Fs.vars, Fs.cells, Fs.ownF, Fs.live, fun a ha q => Fs.muo a ha ((hm a).mp q)⟩
  refine wpAny_mono (h A F s ok G' Fs') (fun fl s' ⟨f, r, μ', F', t, G₂, Fs₂, sf, q⟩ => ⟨f, r, μ', F', ?_, G₂, Fs₂, sf, q⟩) fun _ _ x => x
  exact ⟨fun b o h0 h1 h2 h3 => t.ext b o h0 h1 (fun z => h2 ((hm b).mp z)) h3, t.live, t.le, fun b => (t.fr b).imp id (Or.imp id (Or.imp (hm b).mp id)), fun b hb => (t.mu b hb).imp (hm b).mp id, t.os, t.gens⟩

/-! assignments -/
noncomputable abbrev AsgTK (env : Env) (own : List Addr) (ρ : Str → Option D) (t : Expr) (Q : XQ) : D → Mu → Prop := fun d μ₁ => Asg env own (fun r => Q .next r μ₁) t d ρ
theorem Ex1.assignT {elts k tp e pos Q} (h : Ev g env own n ρ μ e (AsgTK env own ρ (.Tuple elts k tp) Q))
    (hs : swapsWithSole [.Tuple elts k tp] e pos.line env = pure false := by rfl) (hw : swappedStores [.Tuple elts k tp] e env = pure Option.none := by rfl) : Ex1 g env own n ρ μ (.Assign [.Tuple elts k tp] e pos) Q := fun A F s ok G Fs =>
  Assign_Tuple (hs := hs) (hw := hw) (wp_seq h ok G Fs fun v d μ₁ F₁ s₁ t G₁ Fs₁ sv h₁ => wpAny_mono (wp_asg ok.hand h₁ sv G₁ Fs₁) ((by rintro _ s₂ ⟨r, t₂, G₂, Fs₂, q⟩; exact ⟨.next, r, μ₁, F₁, t.toOwn.trans t₂, G₂, Fs₂, trivial, q⟩)) fun _ _ x => x)

theorem wp_bind {A : Around} {x v d K F s} (G : GSt g μ F s.heap) (Fs : FSt env own ρ μ F s.heap) (sv : Sees F v d) (hb : Bindable env own x) (h : K (upd ρ x d)) :
    wpAny (model g.prog g.w) A (bindName env x v) (APost g env own μ s F K) (fun _ _ => False) s :=
  bindName_ (st_store G Fs sv hb fun s' t G' Fs' _ => ⟨_, t, G', Fs', h⟩)
noncomputable def updL (ρ : Str → Option D) : List Str → List D → (Str → Option D)
  | x :: xs, d :: ds => updL (upd ρ x d) xs ds
  | _, _ => ρ
theorem wp_binds {A : Around} {K} : ∀ {names : List Str} {vs : List Value} {ds : List D} {ρ F s}, SeesAll F vs ds → (∀ x ∈ names, Bindable env own x) → GSt g μ F s.heap → FSt env own ρ μ F s.heap → K (updL ρ names ds) →
    wpAny (model g.prog g.w) A (assignInOrder (names.map fun n => bindName env n) vs) (APost g env own μ s F K) (fun _ _ => False) s
  | [], vs, ds, ρ, F, s, sa, hb, G, Fs, h => wpAny_pure ⟨_, .refl, G, Fs, by cases ds <;> exact h⟩
  | x :: xs, _, _, ρ, F, s, .nil, hb, G, Fs, h => wpAny_pure ⟨_, .refl, G, Fs, h⟩
  | x :: xs, _, _, ρ, F, s, .cons sv sa, hb, G, Fs, h => by
    rw [List.map_cons]
    unfold assignInOrder
    refine wpAny_bind (wpAny_holding (wpAny_mono (wp_bind (K := fun r => r = upd ρ x _) G Fs sv (hb x (.head _)) rfl) ?_ fun _ _ x => x))
    rintro _ s₁ ⟨r, t₁, G₁, Fs₁, hr⟩
    subst hr
    exact wpAny_mono (wp_binds sa (fun y hy => hb y (.tail _ hy)) G₁ Fs₁ h) ((by rintro _ s₂ ⟨r, t₂, G₂, Fs₂, q⟩; exact ⟨r, t₁.trans t₂, G₂, Fs₂, q⟩)) fun _ _ x => x
noncomputable abbrev AsgSK (ρ : Str → Option D) (names : List Str) (Q : XQ) : D → Mu → Prop := fun d μ₁ => ∃ ds, d = .tup ds ∧ ds.length = names.length ∧ Q .next (updL ρ names.reverse ds.reverse) μ₁
theorem Ex1.assignS {elts k tp e pos Q} {names : List Str} (h : Ev g env own n ρ μ e (AsgSK ρ names Q))
    (hb : ∀ x ∈ names, Bindable env own x) (hw : swappedStores [.Tuple elts k tp] e env = pure (some names))
    (hs : swapsWithSole [.Tuple elts k tp] e pos.line env = pure false := by rfl) : Ex1 g env own n ρ μ (.Assign [.Tuple elts k tp] e pos) Q := fun A F s ok G Fs =>
  Assign_Tuple_swapped (names := names) (hs := hs) (hw := hw) (wp_seq h ok G Fs fun v d μ₁ F₁ s₁ t G₁ Fs₁ sv h₁ => by
    obtain ⟨ds, rfl, hl, hq⟩ := h₁
    obtain @⟨a, vs, k0, e0, sds⟩ := Sees.tupI sv
    have hT : s₁.heap.IsTuple a vs := ⟨_, G₁.fz _ _ e0, rfl, _, rfl⟩
    have hz : vs.size = names.length := by rw [← hl]; exact sds.size
    rw [← hz]
    refine wpAny_unpackItems_tuple ok.hand hT fun h' hx => ?_
    have hk : ∀ b o, s₁.heap.get? b = some o → h'.get? b = some o := fun b o e => hx b o (Nat.ne_of_lt (Heap.lt_size e)) e
    have t1 : Tr g [] μ₁ μ₁ F₁ F₁ s₁ { s₁ with heap := h' } := Tr.of_ext hk rfl rfl
    refine wpAny_mono (wp_binds (s := { s₁ with heap := h' }) (K := fun r => Q .next r μ₁) sds.reverse (fun x hx => hb x (List.mem_reverse.mp hx)) (G₁.ext hk) (Fs₁.tr G₁ t1 (G₁.ext hk)) hq) ?_ fun _ _ x => x
    rintro _ s₂ ⟨r, t₂, G₂, Fs₂, q⟩
    exact ⟨.next, r, μ₁, F₁, (t.trans t1).toOwn.trans t₂, G₂, Fs₂, trivial, q⟩)

theorem FSt.at {F h h' C} (Fs : FSt env own ρ μ F h) (sb : Heap.SameBut C h h') (h1 : env.locals ≠ C) (h2 : ∀ p ∈ env.cells, p.2 ≠ C) (h3 : ∀ a ∈ own, a ≠ C) : FSt env own ρ μ F h' := by
  have k : ∀ b o, b ≠ C → h.get? b = some o → h'.get? b = some o := fun b o hb e => (sb.2 b hb).trans e
  refine ⟨Fs.ok, ?_, fun x d e => ?_, fun p hp => ?_, Fs.ownF, fun a ha => (by obtain ⟨o, e⟩ := Fs.live a ha; exact ⟨o, k _ _ (h3 a ha) e⟩), Fs.muo⟩
  · obtain ⟨m, o, es, ep, e, r⟩ := Fs.ns; exact ⟨m, o, es, ep, k _ _ h1 e, r⟩
  · obtain ⟨v, hv, sv⟩ := Fs.vars x d e; exact ⟨v, hv.keeps (fun o => k _ o h1) (fun p hp o => k _ o (h2 p hp)), sv⟩
  · obtain ⟨v, o, e, d⟩ := Fs.cells p hp; exact ⟨v, o, k _ _ (h2 p hp) e, d⟩

/-- a comprehension stored at once -/
theorem Ex1.assignComp {x : Str} {p : Pos} {elt tgt iter : Expr} {ifs : List Expr} {rest : List Comprehension} {scope : Scope} {cpos pos : Pos} {Q} (hn : 4 ≤ n) (ck : CompOk env scope (⟨tgt, iter, ifs, 0⟩ :: rest)) (hb : Bindable env own x)
    (hs : swapsWith (.ListComp elt (⟨tgt, iter, ifs, 0⟩ :: rest) scope cpos) (some (.Name x p)) pos.line env = pure true)
    (h : EvI g env own n ρ μ tgt iter fun ds μ₁ => ∀ cenv C, cenv = compEnvC scope (closGo env.cells scope.names []) C env →
      CompL g cenv [C] n (CompG g cenv [C] n elt rest) tgt ifs ds (restr scope ρ) μ₁ [] fun acc _ μ' => Q .next (upd ρ x (.lst acc)) μ') :
    Ex1 g env own n ρ μ (.Assign [.Name x p] (.ListComp elt (⟨tgt, iter, ifs, 0⟩ :: rest) scope cpos) pos) Q := fun A F s ok G Fs => by
  rw [exec_Assign_Name_used _ _ _ _ hs]
  refine wpAny_bind (wpAny_standAt (wpAny_bind ?_))
  show wpAny _ A (do let _ ← comprehension (.ListComp elt (⟨tgt, iter, ifs, 0⟩ :: rest) scope cpos) scope env (firstIterPos (⟨tgt, iter, ifs, 0⟩ :: rest) cpos) (newList []) false (firstIter (⟨tgt, iter, ifs, 0⟩ :: rest) env) (some (PySem.assign (.Name x p) env))) _ _ s
  refine wpAny_bind (wpAny_mono (comp_core (P := fun _ s' => ExPost g env own μ s F Q .next s') (Q := fun acc μ' => Q .next (upd ρ x (.lst acc)) μ') hn ck ok G Fs h fun a C s' accD μ' F' t G' Fs' sv hns hC hFC hmC htC hQ => ?_) (fun _ s' q => wpAny_pure (wpAny_pure q)) fun _ _ x => x)
  have hlC : env.locals ≠ C := fun z => by obtain ⟨m, o, es, ep, e, _⟩ := Fs.ns; rw [z, hC] at e; cases e
  have hcC : ∀ p ∈ env.cells, p.2 ≠ C := fun p hp z => by obtain ⟨v, o, e, _⟩ := Fs.cells p hp; rw [z, hC] at e; cases e
  have hoC : ∀ b ∈ own, b ≠ C := fun b hb z => by obtain ⟨o, e⟩ := Fs.live b hb; rw [z, hC] at e; cases e
  show wpAny _ A (PySem.assign (.Name x p) env (.ref a)) _ _ s'
  refine wpAny_mono (wp_assignName (K := fun r => r = upd ρ x (.lst accD)) G' Fs' sv hb rfl) ?_ fun _ _ x => x
  rintro _ s₂ ⟨r, t₂, G₂, Fs₂, hr⟩
  subst hr
  obtain ⟨m, hm⟩ := hns
  refine ⟨m, t₂.ns hm (fun q => hoC C q rfl) hmC htC, fun h' sb => ?_⟩
  have t3 := t.toOwn.trans t₂
  refine ⟨.next, _, μ', F', { t3 with
    ext := fun b o e h1 h2 h3 => (by obtain ⟨o', e', u⟩ := t3.ext b o e h1 h2 h3; exact ⟨o', (sb.2 b (fun z => by rw [z, hC] at e; cases e)).trans e', u⟩)
    live := fun b o e => (by obtain ⟨o', e'⟩ := t3.live b o e; exact ⟨o', (sb.2 b (fun z => by rw [z, hC] at e; cases e)).trans e'⟩ )}, G₂.at sb hFC hmC htC (fun x hx hf => by obtain ⟨_, _, _, _, e, _⟩ := G.stkNs hx hf; rw [hC] at e; cases e), Fs₂.at sb hlC hcC hoC, trivial, hQ⟩
end

open PySem PySem.W PySem.Calls PyProof.Rows
set_option maxRecDepth 20000
theorem mem_hd {α : Type} {a : α} {l : List α} : a ∈ a :: l := .head _
theorem mem_tl {α : Type} {a b : α} {l : List α} (h : a ∈ l) : a ∈ b :: l := .tail _ h
theorem fm_congr {α β : Type} {f g : α → Option β} : ∀ {l : List α}, (∀ x ∈ l, f x = g x) → l.filterMap f = l.filterMap g
  | [], _ => rfl
  | x :: l, h => by rw [List.filterMap_cons, List.filterMap_cons, h x (.head _), fm_congr fun y hy => h y (.tail _ hy)]
theorem range_pick {α : Type} : ∀ (l : List α), (List.range l.length).filterMap (l[·]?) = l
  | [] => rfl
  | x :: l => by
    rw [List.length_cons, List.range_succ_eq_map, List.filterMap_cons]
    simp only [List.getElem?_cons_zero, List.filterMap_map]
    congr 1
    exact (fm_congr fun k hk => by simp).trans (range_pick l)
theorem dpick_rev (ds : List D) : dpick ds Option.none Option.none (some (-1)) = ds.reverse := by
  unfold dpick sliceBounds sliceRange
  simp only [Option.getD_some, show ¬ ((-1 : Int) > 0) by decide, if_false]
  have hc : (if (ds.length : Int) - 1 > -1 then ((ds.length : Int) - 1 - -1 - -1 - 1) / (- -1) else 0).toNat = ds.length := by
    split
    · have : ((ds.length : Int) - 1 - -1 - -1 - 1) = ds.length := by lia
      rw [this]; simp
    · lia
  rw [hc, List.filterMap_map]
  refine (fm_congr fun k hk => ?_).trans ((congrArg (fun n => (List.range n).filterMap (ds.reverse[·]?)) (by simp)).trans (range_pick ds.reverse))
  rw [List.mem_range] at hk
  show ds[((ds.length : Int) - 1 + -1 * (k : Int)).toNat]? = ds.reverse[k]?
  rw [List.getElem?_reverse hk]
  congr 1; lia
theorem dpick_run (ds : List D) (a b : Nat) (hab : a ≤ b) (hb : b ≤ ds.length) : (sliceRange a b 1).filterMap (ds[·]?) = (ds.drop a).take (b - a) := by
  rw [sliceRange_one, List.filterMap_map]
  have hl : ((ds.drop a).take (b - a)).length = b - a := by simp; lia
  refine (fm_congr fun k hk => ?_).trans ((congrArg (fun n => (List.range n).filterMap (((ds.drop a).take (b - a))[·]?)) hl.symm).trans (range_pick _))
  rw [List.mem_range] at hk
  show ds[a + k]? = ((ds.drop a).take (b - a))[k]?
  rw [List.getElem?_take, if_pos hk, List.getElem?_drop]
theorem dpick_upto (ds : List D) (k : Nat) : dpick ds Option.none (some (k : Int)) Option.none = ds.take k := by
  unfold dpick sliceBounds
  simp only [Option.getD_none, show ((1 : Int) > 0) by decide, if_true]
  have e : max (0 : Int) (min (if (k : Int) < 0 then (k : Int) + ds.length else k) ds.length) = ((min k ds.length : Nat) : Int) := by
    rw [if_neg (by lia)]; lia
  rw [e]
  refine (dpick_run ds 0 _ (by exact Nat.zero_le _) (by (clear e; omega))).trans ?_
  rw [List.drop_zero, Nat.sub_zero]
  by_cases h : k ≤ ds.length
  · rw [Nat.min_eq_left h]
  · rw [List.take_of_length_le (by (clear e; omega)), List.take_of_length_le (by lia)]
theorem dpick_from (ds : List D) (k : Nat) : dpick ds (some (k : Int)) Option.none Option.none = ds.drop k := by
  unfold dpick sliceBounds
  simp only [Option.getD_none, show ((1 : Int) > 0) by decide, if_true]
  have e : max (0 : Int) (min (if (k : Int) < 0 then (k : Int) + ds.length else k) ds.length) = ((min k ds.length : Nat) : Int) := by
    rw [if_neg (by lia)]; lia
  rw [e]
  refine (dpick_run ds _ ds.length (by omega) (by lia)).trans ?_
  by_cases h : k ≤ ds.length
  · rw [Nat.min_eq_left h, List.take_of_length_le (by simp)]
  · rw [List.drop_of_length_le (by omega), List.drop_of_length_le (by lia), List.take_nil]
theorem dpick_all (ds : List D) : dpick ds Option.none Option.none Option.none = ds := by
  unfold dpick sliceBounds
  simp only [Option.getD_none, show ((1 : Int) > 0) by decide, if_true]
  refine (dpick_run ds 0 ds.length (by exact Nat.zero_le _) (by lia)).trans ?_
  simp

section
variable {g : G} {env : Env} {own : List Addr} {n : Nat} {ρ : Str → Option D} {μ : Mu}
theorem Act2.sliceM {o ds lo hi st value slice Q} (hr : Rd μ o ds) (h0 : st ≠ some 0) (hz : ds.length ≤ 100000) (h : ∀ a, a ∉ μ.dom → Q (.val (.ref a)) ((a, .ml (dpick ds lo hi st)) :: μ))
    (hs : ∃ ops : Value → Value → List Value, ∀ o i, subscripted slice false o i = operate (ops o i) (getItem o i)) : Act2 g n μ (subscriptTail value slice) o (.slc lo hi st) Q := fun A F s va vb ok G sa sb => by
  obtain ⟨l, vs, k, rfl, hl, sds⟩ := hr.at G sa
  obtain ⟨ops, hs⟩ := hs
  have z := sds.size
  obtain @⟨_, _, _, _, e, p1, p2, p3⟩ := Sees.slcI sb
  have hL : s.heap.IsList l vs := ⟨_, hl, rfl, _, rfl⟩
  refine tail_any hL.typeIs slot_list_getitem.lookup (wpAny_getItem_list_slice hL ⟨_, G.fz _ _ e, rfl, rfl⟩ p1 p2 p3 h0 (EvPost.newmut (tk := s.toks) G rfl (sds.pick lo hi st) h) (by unfold sizeLine; lia)) (hs _ _)

theorem Rd.weak {d ds p} (h : Rd μ d ds) : Rd (p :: μ) d ds := h.imp id (by rintro ⟨a, e, m⟩; exact ⟨a, e, .tail _ m⟩)
theorem len_and {l : List D} {P : Prop} (h : l.length ≤ 1000) (k : P) : l.length ≤ 1000 ∧ P := ⟨h, k⟩
set_option tactic.hygienic true in
theorem reUpd {ρ : Str → Option D} {x : Str} {a : Addr} {ds : List D} {d0 d1 : D} (h : ρ x = Option.some d0) (re : Re a ds d0 d1) : ∀ y d', upd ρ x d1 y = Option.some d' → ∃ d, ρ y = Option.some d ∧ Re a ds d d' := fun y d' e => by
  unfold upd at e
  split at e
  · rename_i hy; subst hy; cases e; exact ⟨d0, h, re⟩
  · exact ⟨d', e, .same⟩
theorem EvP.none {Q} (h : Q Option.none μ) : EvP g env own n ρ μ Option.none Q := h
theorem EvP.some {e Q} (h : Ev g env own n ρ μ e (PK Q)) : EvP g env own n ρ μ (Option.some e) Q := h

theorem intsAre_of {F : FM} {ns : List Int} : ∀ {vs : List Value}, SeesAll F vs (ns.map .int) → IntsAre vs ns := by
  induction ns with
  | nil => intro vs h; obtain rfl := SeesAll.nilI h; exact .nil
  | cons x ns ih =>
    intro vs h
    obtain ⟨v, vs', rfl, s1, s2⟩ := SeesAll.consI h
    obtain ⟨t, rfl⟩ := Sees.intI s1
    exact .cons _ _ (ih s2)
end

open PySem PySem.W PySem.Calls PyProof.Rows
set_option maxRecDepth 20000
section
variable {g : G} {env : Env} {own : List Addr} {n : Nat} {ρ : Str → Option D} {μ : Mu}
/-- a bool of the first decides -/
theorem Ev.and1 {e pos Q} (h : Ev g env own n ρ μ e Q) : Ev g env own n ρ μ (.BoolOp .And [e] pos) Q := fun A F s ok G Fs => BoolOp_one (h A F s ok G Fs)
theorem Ev.and {e₁ e₂ rest pos Q} (h : Ev g env own n ρ μ e₁ fun d μ₁ => ∃ b, d = .bool b ∧ (b = true → Ev g env own n ρ μ₁ (.BoolOp .And (e₂ :: rest) pos) Q) ∧ (b = false → Q (.bool false) μ₁)) :
    Ev g env own n ρ μ (.BoolOp .And (e₁ :: e₂ :: rest) pos) Q := fun A F s ok G Fs =>
  BoolOp_and (wp_seq h ok G Fs fun v d μ₁ F₁ s₁ t₁ G₁ Fs₁ sv ⟨b, hd, h1, h2⟩ => by
    subst hd
    obtain rfl := Sees.boolI sv
    refine wpAny_mono (show wpAny _ _ (truthy (.bool b)) (fun c s₂ => c = b ∧ s₂ = s₁) _ _ from wpAny_pure ⟨rfl, rfl⟩) ?_ fun _ _ x => x
    rintro c s₂ ⟨e1, e2⟩
    subst e1 e2
    cases c with
    | true => exact post_weak t₁ (h1 rfl A F₁ s₂ ok G₁ Fs₁)
    | false => exact ⟨_, μ₁, F₁, t₁, G₁, .bool _, h2 rfl⟩)
end
theorem gives_gt_bool_int (p : Bool) (b : Int) (u : Tok) : Gives (Builtin.«int.__gt__» ⟨[.bool p, .int b u], []⟩) (.val (.bool (decide ((if p = true then (1:Int) else 0) > b)))) := .of_eq rfl
noncomputable def numB (b : Bool) : Int := if b = true then 1 else 0
theorem LtOk.ib {a : Int} {b : Bool} : LtOk (.int a) (.bool b) (decide (a < numB b)) := fun g n μ Q h A F s va vb ok G sa sb => by
  obtain rfl := Sees.boolI sb; obtain ⟨t, rfl⟩ := Sees.intI sa
  show wpAny _ A (richCompare .Lt (.int a t) (.bool b)) _ _ s
  exact SeqAt.rc_sub_first_or (typeIs_int s a t) rfl (by decide) PySem.F.sub_bool_int PySem.F.slot_bool_gt_refl
    (call_gives PySem.F.slot_bool_gt_refl rfl PySem.F.entry_int_gt (PySem.F.args_int_gt_2 _ _) (gives_gt_bool_int b a t) ⟨nofun, EvPost.here G rfl rfl rfl (.bool _) h⟩) (.inl rfl)
theorem LtOk.bb {a b : Bool} : LtOk (.bool a) (.bool b) (decide (numB a < numB b)) := fun g n μ Q h A F s va vb ok G sa sb => by
  obtain rfl := Sees.boolI sa; obtain rfl := Sees.boolI sb
  exact lt_bool (EvPost.here G rfl rfl rfl (.bool _) h)

open PySem PySem.W PySem.Calls PyProof.Rows
set_option maxRecDepth 20000
theorem sees_of_ints {F : FM} {vs : List Value} {ns : List Int} (h : IntsAre vs ns) : SeesAll F vs (ns.map .int) := by
  induction h with
  | nil => exact .nil
  | cons x t _ ih => exact .cons (.int x t) ih
section
variable {g : G} {env : Env} {own : List Addr} {n : Nat} {ρ : Str → Option D} {μ : Mu}
theorem Calls.sortedInts {x : D} {ns : List Int} {Q} (hx : Rd μ x (ns.map .int)) (h64 : ns.length < 64) (h : ∀ ns' : List Int, ns'.Perm ns → ns'.Pairwise (· ≤ ·) → Q (.lst (ns'.map .int)) μ) : Calls g n (.val (.builtin "sorted")) [x] [] μ Q :=
  Calls.of1 fun A F s fv va ok G sf sa => by
    obtain rfl := Sees.valI sf
    obtain ⟨a, vs, rfl, hL, sds⟩ := hx.isList G sa
    have hz : vs.toList.length = ns.length := by have := sds.length; simpa using this
    refine sorted_ints (vs := vs.toList) (by simpa using hL) (intsAre_of sds) (by lia) fun out ns' a1 a2 a3 => ?_
    obtain ⟨e, he⟩ := sortedAll_at s.heap vs.toList out
    exact EvPost.keepNew (tk := s.toks) G (fun _ _ => sortedAll_old) he (none_ge (Nat.le_succ _)) (sees_of_ints a1) (h ns' a2 a3)
end

open PySem PySem.W PySem.Calls PyProof.Rows
set_option maxRecDepth 20000

/-- what an exception's flight leaves: all but the frames' own objects, as the heap B holds it -/
noncomputable def Cov (g : G) (B : Heap) (μ' : Mu) (F' : FM) (s s' : Shared) : Prop :=
  (∀ a o, F' a = some o → B.get? a = some o) ∧ (∀ a o, a ∈ μ'.dom ∨ a ∈ g.tabDom → s'.heap.get? a = some o → B.get? a = some o) ∧
  (∀ b o, (∃ o₀, s.heap.get? b = some o₀) → s'.heap.get? b = some o → ¬ IsNs o → B.get? b = some o)
inductive ErrPost (g : G) (mt : List Addr) (msg : Str) (μ : Mu) (s : Shared) (F : FM) (P : Mu → Prop) (e : Value) (s' : Shared) : Prop
  | mk (ea ta : Addr) (tk : Tok) (B : Heap) (μ' : Mu) (F' : FM) (he : e = .ref ea) (fl : Heap.FlyingW B g.stk ea (.type "ValueError") (.ref ta) s'.heap) (tu : s'.heap.TupAt ta [.str msg tk] ∧ B.get? ta = none) (t : Tr g mt μ μ' F F' s s') (G : GSt g μ' F' s'.heap) (c : Cov g B μ' F' s s') (p : P μ')
inductive MadePost (g : G) (mt : List Addr) (msg : Str) (μ : Mu) (s : Shared) (F : FM) (P : Mu → Prop) (e : Value) (s' : Shared) : Prop
  | mk (ea : Addr) (tk : Tok) (μ' : Mu) (F' : FM) (h0 : Heap) (he : e = .ref ea) (m : Heap.MadeExcOf h0 s'.heap ea (.type "ValueError") [.str msg tk]) (t : Tr g mt μ μ' F F' s { s' with heap := h0 }) (G : GSt g μ' F' h0) (p : P μ')
noncomputable def RPost (g : G) (mt : List Addr) (msg : Str) (μ : Mu) (s : Shared) (F : FM) (P : Mu → Prop) (e : Value) (s' : Shared) : Prop :=
  ErrPost g mt msg μ s F P e s' ∨ MadePost g mt msg μ s F P e s'

theorem GSt.slots {g : G} {μ F h h'} (G : GSt g μ F h) (hF : ∀ a o, F a = some o → h'.get? a = some o) (hm : ∀ a o, a ∈ μ.dom ∨ a ∈ g.tabDom → h.get? a = some o → h'.get? a = some o) (hn : ∀ a m, h.Ns a m → h'.Ns a m) : GSt g μ F h' :=
  ⟨G.base, hF, fun q hq => (by obtain ⟨a, ps, b, c, d⟩ := G.tb q hq; exact ⟨a, ps, hm _ _ (.inr (List.mem_map_of_mem (f := (·.2.1)) hq)) b, c, d⟩),
    fun p hp => (by obtain ⟨a, b⟩ := G.mu p hp; exact ⟨a, b.move (fun _ _ x => x) fun o e => hm _ _ (.inl (List.mem_map_of_mem (f := (·.1)) hp)) e⟩), G.nd, G.fzc, G.dj,
    fun x hx => (by obtain ⟨hk, L, m, hf, hn', hF', hm'⟩ := G.stk x hx; exact ⟨hk, L, m, hf, hn _ _ hn', hF', hm'⟩)⟩

theorem GSt.domLive {g : G} {μ F h} (G : GSt g μ F h) {a} (ha : a ∈ μ.dom ∨ a ∈ g.tabDom) : ∃ o, h.get? a = some o := by
  rcases ha with ha | ha
  · obtain ⟨p, hp, rfl⟩ := List.mem_map.mp ha; exact (G.mu p hp).2.live
  · obtain ⟨q, hq, rfl⟩ := List.mem_map.mp ha; obtain ⟨_, ps, b, _⟩ := G.tb q hq; exact ⟨_, b⟩

theorem IsNs.slots {o : Obj} {sl} (h : IsNs o) : IsNs { o with slots := sl } := h
theorem not_fields {o : Obj} (h : IsNs o) : ∀ vs, o.data ≠ .fields vs := fun vs q => by obtain ⟨es, ep, z⟩ := h; rw [q] at z; cases z

theorem err_step {g : G} {mt μ μ' F F' s s' B h'} (t : Tr g mt μ μ' F F' s s') (G : GSt g μ' F' s'.heap) (c : Cov g B μ' F' s s') (st : B.StaysIn h') (up : s'.heap.UpToSlots h') :
    Tr g mt μ μ' F F' s { s' with heap := h' } ∧ GSt g μ' F' h' ∧ Cov g B μ' F' s { s' with heap := h' } := by
  have go : ∀ b, (∃ o, s.heap.get? b = some o) → ∀ o', s'.heap.get? b = some o' → ∃ o'', h'.get? b = some o'' ∧ Up o' o'' := fun b hb o' e' => by
    by_cases hn : IsNs o'
    · obtain ⟨sl, hs⟩ := up b o' e' (not_fields hn); exact ⟨_, hs, .slots hn sl⟩
    · exact ⟨o', st _ _ (c.2.2 b o' hb e' hn), .refl o'⟩
  refine ⟨{ t with ext := fun b o e h1 h2 h3 => ?_, live := fun b o e => ?_ }, G.slots (fun a o e => st _ _ (c.1 a o e)) (fun a o ha e => st _ _ (c.2.1 a o ha e)) (fun a m hm => up.ns hm), c.1, fun a o ha e => ?_, fun b o hb e hn => ?_⟩
  · obtain ⟨o', e', u⟩ := t.ext b o e h1 h2 h3
    obtain ⟨o'', e'', u'⟩ := go b ⟨o, e⟩ o' e'
    exact ⟨o'', e'', u.trans u'⟩
  · obtain ⟨o', e'⟩ := t.live b o e
    obtain ⟨o'', e'', _⟩ := go b ⟨o, e⟩ o' e'
    exact ⟨o'', e''⟩
  · obtain ⟨o', e'⟩ := G.domLive ha
    have hB := c.2.1 a o' ha e'
    have := st _ _ hB
    rw [show h'.get? a = some o from e] at this
    cases this; exact hB
  · obtain ⟨o₀, e₀⟩ := hb
    obtain ⟨o', e'⟩ := t.live b o₀ e₀
    by_cases hn' : IsNs o'
    · obtain ⟨sl, hs⟩ := up b o' e' (not_fields hn')
      rw [show h'.get? b = some o from e] at hs
      cases hs; exact absurd hn'.slots hn
    · have hB := c.2.2 b o' ⟨o₀, e₀⟩ e' hn'
      have := st _ _ hB
      rw [show h'.get? b = some o from e] at this
      cases this; exact hB

theorem funFrames_of {μ F h} {as : List Addr} : ∀ {l : List Env}, (∀ e ∈ l, FrL e μ F h) → (∀ e ∈ l, ∀ a, e.frame = some a → a ∈ as) → h.FunFrames (hideAll h as) l
  | [], _, _ => trivial
  | e :: l, H, K => by
    obtain ⟨hk, L, m, hf, ⟨o, es, ep, ho, hd, _⟩, _⟩ := H e (.head _)
    exact ⟨hk, ⟨L, o, hf, hideAll_none _ (K e (.head _) L hf), ho, fun vs q => by rw [hd] at q; cases q⟩, funFrames_of (fun e' he => H e' (.tail _ he)) fun e' he => K e' (.tail _ he)⟩

section
variable {g : G} {env : Env} {own : List Addr} {n : Nat} {ρ : Str → Option D} {μ : Mu}

theorem ErrPost.trans {mt μ₁ s s₁ F F₁ msg P e s'} (t : Tr g mt μ μ₁ F F₁ s s₁) (h : ErrPost g mt msg μ₁ s₁ F₁ P e s') : ErrPost g mt msg μ s F P e s' :=
  let ⟨ea, ta, tk, B, μ', F', e, fl, tp, t', G, c, p⟩ := h
  ⟨ea, ta, tk, B, μ', F', e, fl, tp, t.trans t', G, ⟨c.1, c.2.1, (by rintro b o ⟨o₀, e₀⟩; exact c.2.2 b o (t.live b o₀ e₀))⟩, p⟩
theorem RPost.trans {mt μ₁ s s₁ F F₁ msg P e s'} (t : Tr g mt μ μ₁ F F₁ s s₁) (h : RPost g mt msg μ₁ s₁ F₁ P e s') : RPost g mt msg μ s F P e s' :=
  h.imp (·.trans t) (by rintro ⟨ea, tk, μ', F', h0, e, m, t', G, p⟩; exact ⟨ea, tk, μ', F', h0, e, m, t.trans t', G, p⟩)
theorem RPost.toOwn {mt s F msg P e s'} (h : RPost g [] msg μ s F P e s') : RPost g mt msg μ s F P e s' :=
  h.imp ((by rintro ⟨ea, ta, tk, B, μ', F', e, fl, tp, t', G, c, p⟩; exact ⟨ea, ta, tk, B, μ', F', e, fl, tp, t'.toOwn, G, c, p⟩)) (by rintro ⟨ea, tk, μ', F', h0, e, m, t', G, p⟩; exact ⟨ea, tk, μ', F', h0, e, m, t'.toOwn, G, p⟩)

theorem leave {M : Model} {A : Around} {E : Value → Shared → Prop} {mt s F msg P e s'} (hfr : A.frames = some (env :: g.stk)) (fresh : ∀ a ∈ mt, s.heap.get? a = none) (r : RPost (g.push env) mt msg μ s F P e s') :
    wpAny M A (leaving env e) (fun _ s'' => ErrPost g [] msg μ s F P e s'') E s' := by
  have down : ∀ {μ' F' s''}, Tr (g.push env) mt μ μ' F F' s s'' → Tr g [] μ μ' F F' s s'' := fun t => t.pop_frame.mtLe fun a ha => .inr (fresh a ha)
  rcases r with ⟨ea, ta, tk, B, μ', F', rfl, fl, tp, t, G, c, p⟩ | ⟨ea, tk, μ', F', h0, rfl, m, t, G, p⟩
  · obtain ⟨L, hf⟩ : ∃ L, env.frame = some L := by obtain ⟨_, _, ⟨_, ⟨L, _, hf, _⟩, _⟩, _⟩ := fl; exact ⟨L, hf⟩
    refine wpAny_leaves_onW hfr hf fl fun h' fl' up => ?_
    obtain ⟨t', G', c'⟩ := err_step t G c fl'.1 up
    exact ⟨ea, ta, tk, B, μ', F', rfl, fl', ⟨tp.1.of_slots up, tp.2⟩, down t', G'.pop_frame, c', p⟩
  · obtain ⟨_, L, _, hf, _⟩ := G.stk env (.head _)
    have inn : ∀ e ∈ env :: g.stk, ∀ a, e.frame = some a → a ∈ (env :: g.stk).filterMap (·.frame) := fun e he a ha => List.mem_filterMap.mpr ⟨e, he, ha⟩
    have out : ∀ a, a ∈ (env :: g.stk).filterMap (·.frame) → (∃ m, h0.Ns a m) ∧ F' a = none ∧ a ∉ μ'.dom := fun a ha => by
      obtain ⟨e, he, hf⟩ := List.mem_filterMap.mp ha
      obtain ⟨_, L, m, hf', hn, h1, h2⟩ := G.stk e he
      rw [hf] at hf'; cases hf'; exact ⟨⟨m, hn⟩, h1, h2⟩
    have c : Cov (g.push env) (hideAll h0 ((env :: g.stk).filterMap (·.frame))) μ' F' s { s' with heap := h0 } := by
      refine ⟨fun a o e => hideAll_get _ (G.fz a o e) fun q => ?_, fun a o ha e => hideAll_get _ e fun q => ?_, fun b o hb e hn => hideAll_get _ e fun q => ?_⟩
      · rw [(out a q).2.1] at e; cases e
      · rcases ha with ha | ha
        · exact (out a q).2.2 ha
        · obtain ⟨m, hm⟩ := (out a q).1; exact G.nsTab hm ha
      · obtain ⟨m, o', es, ep, ho, hd, _⟩ := (out b q).1
        rw [show h0.get? b = some o from e] at ho; cases ho; exact hn ⟨es, ep, hd⟩
    refine wpAny_leaves_madeW (h := h0) hfr hf (fun b o q => of_hideAll _ q) (funFrames_of (μ := μ') (F := F') G.stk inn) m fun h' t' fl tup tn up => ?_
    obtain ⟨t'', G', c'⟩ := err_step (s' := { s' with heap := h0 }) (h' := h') t G c fl.1 ((Heap.UpToSlots.of_keeps m.keeps).trans up)
    exact ⟨ea, t', tk, _, μ', F', rfl, fl, ⟨tup, tn⟩, down t'', G'.pop_frame, c', p⟩

variable (g env own n ρ μ)
noncomputable def RaisesE (e : Expr) (msg : Str) (P : Mu → Prop) : Prop :=
  ∀ A F s, Ok g n A → GSt g μ F s.heap → FSt env own ρ μ F s.heap → wpAny (model g.prog g.w) A (eval e env) (fun _ _ => False) (ErrPost g [] msg μ s F P) s
noncomputable def Raises (ss : List Stmt) (msg : Str) (P : Mu → Prop) : Prop :=
  ∀ A F s, Ok g n A → GSt g μ F s.heap → FSt env own ρ μ F s.heap → wpAny (model g.prog g.w) A (execs ss env) (fun _ _ => False) (RPost g own msg μ s F P) s
noncomputable def Raises1 (st : Stmt) (msg : Str) (P : Mu → Prop) : Prop :=
  ∀ A F s, Ok g n A → GSt g μ F s.heap → FSt env own ρ μ F s.heap → wpAny (model g.prog g.w) A (exec st env) (fun _ _ => False) (RPost g own msg μ s F P) s
noncomputable def CallsR (f : D) (args : List D) (kws : List (Str × D)) (msg : Str) (P : Mu → Prop) : Prop :=
  ∀ A F s fv vs kvs, Ok g n A → GSt g μ F s.heap → Sees F fv f → SeesAll F vs args → SeesAll F (kvs.map (·.2)) (kws.map (·.2)) → kvs.map (·.1) = kws.map (·.1) →
    wpAny (model g.prog g.w) A (call fv vs kvs) (fun _ _ => False) (ErrPost g [] msg μ s F P) s
variable {g env own n ρ μ}

theorem Raises.here {st rest msg P} (h : Raises1 g env own n ρ μ st msg P) : Raises g env own n ρ μ (st :: rest) msg P := fun A F s ok G Fs =>
  wpAny_execs_cons (wpAny_mono (h A F s ok G Fs) (fun _ _ x => x.elim) fun _ _ x => x)
theorem Raises1.ite {t b o pos msg P} (h : Et g env own n ρ μ t fun c μ₁ => (c = true → Raises g env own n ρ μ₁ b msg P) ∧ (c = false → Raises g env own n ρ μ₁ o msg P)) : Raises1 g env own n ρ μ (.If t b o pos) msg P := fun A F s ok G Fs =>
  wpAny_If (wt_seq h ok G Fs fun c μ₁ F₁ s₁ t₁ G₁ Fs₁ h₁ => by
    cases c with
    | true => exact wpAny_mono (h₁.1 rfl A F₁ s₁ ok G₁ Fs₁) (fun _ _ x => x.elim) fun _ _ x => x.trans t₁.toOwn
    | false => exact wpAny_mono (h₁.2 rfl A F₁ s₁ ok G₁ Fs₁) (fun _ _ x => x.elim) fun _ _ x => x.trans t₁.toOwn)
theorem Raises1.assign {x p e pos msg P} (h : RaisesE g env own n ρ μ e msg P) (hs : swapsWith e (some (.Name x p)) pos.line env = pure false := by rfl) : Raises1 g env own n ρ μ (.Assign [.Name x p] e pos) msg P := fun A F s ok G Fs =>
  wpAny_Assign_Name (hs := hs) (wpAny_mono (h A F s ok G Fs) (fun _ _ x => x.elim) fun _ _ x => RPost.toOwn (.inl x))
theorem Raises1.expr {e pos msg P} (h : RaisesE g env own n ρ μ e msg P) (hs : swapsWith e none pos.line env = pure false := by rfl) : Raises1 g env own n ρ μ (.Expr e pos) msg P := fun A F s ok G Fs =>
  wpAny_Expr (hs := hs) (hi := by unfold interactive; rw [Fs.ok.kind]; rfl) (wpAny_mono (h A F s ok G Fs) (fun _ _ x => x.elim) fun _ _ x => RPost.toOwn (.inl x))
theorem Raises1.ret {e pos msg P} (h : RaisesE g env own n ρ μ e msg P) : Raises1 g env own n ρ μ (.Return (some e) pos) msg P := fun A F s ok G Fs =>
  wpAny_Return_some (wpAny_mono (h A F s ok G Fs) (fun _ _ x => x.elim) fun _ _ x => RPost.toOwn (.inl x))
theorem RaisesE.call {func args kws pos msg P} (h : Ev g env own n ρ μ func fun f μ₁ => KeepD g f ∧ EvL g env own n ρ args μ₁ fun ds μ₂ => EvK g env own n ρ kws μ₂ fun ks μ₃ => CallsR g n μ₃ f ds ks msg P)
    (he : eval (.Call func args kws pos) env = (do callWith pos (← eval func env) [] (backTo pos (starEach args env)) (backToKw pos (keywordEach kws env))) := by rfl)
    (hp : args.all plainE = true := by rfl) (hs : kws.all (·.arg.isSome) = true := by rfl) : RaisesE g env own n ρ μ (.Call func args kws pos) msg P := fun A F s ok G Fs => by
  rw [he]
  exact wpAny_bind (wp_seq h ok G Fs fun fv f μ₁ F₁ s₁ t₁ G₁ Fs₁ sf h₁ => callWith_P h₁.1 hp hs ok G₁ Fs₁ sf h₁.2 fun vs kvs ds ks μ₂ F₂ s₂ t G₂ Fs₂ sf₂ sds sks hn hc =>
    wpAny_mono (hc A F₂ s₂ fv vs kvs ok G₂ sf₂ sds sks hn) (fun _ _ x => x) fun _ _ x => x.trans (t₁.trans t))
theorem Raises1.raise {np cpos pos cp msg k} {P : Mu → Prop} (hx : env.kindOf "ValueError" = some .globalImplicit) (e : nsIn g.K mainGlobals "ValueError" = some none) (h : P μ) :
    Raises1 g env own n ρ μ (.Raise (some (.Call (.Name "ValueError" np) [.Constant (.str msg) k cp] [] cpos)) none pos) msg P := fun A F s ok G Fs => by
  refine Raise_madeB PySem.F.excCall_ValueError PySem.F.excRaise_ValueError ok.hand ?_
  refine Name_function_global Fs.ok.kind hx (loadGlobal_builtin (by rw [Fs.ok.glob]; exact g.T.g.keeps G.keep) (mg_none_of g.X g.T.g e) (by rw [Fs.ok.blt]; exact g.T.b.keeps G.keep) ((g.T.builtins _ (by decide)).trans PyProof.Rows.Boot.«ValueError») ⟨rfl, ?_⟩) (by decide)
  refine wpAny_items_cons (wpAny_Constant_str (wpAny_items_nil ⟨by show 1 ≤ sizeLine; decide, fun h' ea hm => ?_⟩))
  exact .inr ⟨ea, _, μ, F, s.heap, rfl, hm.of, Tr.of_ext (fun _ _ e => e) rfl rfl, G, h⟩
end

open PySem PySem.W PySem.Calls PyProof.Rows
set_option maxRecDepth 20000
section
variable {g : G} {env : Env} {own : List Addr} {n : Nat} {ρ : Str → Option D} {μ : Mu}
theorem CallsR.enter {fa : Addr} {fo : Obj} {fd : FuncData} {body : List Stmt} {args kws bd msg P} (hK : g.K.lookup fa = some fo) (hfo : fo.data = .func fd) (hbody : fd.body = .stmts body) (hclo : fd.closure = [])
    (hglob : fd.globals = mainGlobals) (hblt : fd.builtins = builtinsNs) (hcode : codeIn g.K fd.code fd.qualname = true) (hco : fd.scope.isCoroutine = false) (hgen : fd.scope.isGenerator = false) (hk : fd.scope.kind = .function)
    (hb : Binds g fd args kws bd) {nm : List Str} (hnm : bd.map (·.1) = nm)
    (hnames : (nm.all fun y => fd.scope.names.lookup y == some .local || fd.scope.names.lookup y == some .cell) = true) (hnd : nm.Nodup)
    (hcn : ((cellsFrom 0 fd.scope.names []).map (·.1)).Nodup)
    (h : ∀ env own L, env = callEnvC fd L fa → own = ownOf fd L → Raises (g.push env) env own n (rho bd) μ body msg P) : CallsR g (n + 1) μ (.val (.ref fa)) args kws msg P := fun A F s fv vs kvs ok G sf sa sk hkn => by
  obtain rfl := Sees.valI sf
  subst hnm
  have hX : g.K.In s.heap := g.X.keeps G.keep
  obtain ⟨bs, hbs, sb⟩ := hb F s vs kvs hX sa sk hkn
  have hbn := sb.names
  refine wpAny_call (codeAny_call_function ok.room (hX _ _ hK) hfo hco hgen hbody (codeRec_of hX hcode) ?_)
  rw [hclo]
  have hlook : ∀ x v, (x, v) ∈ bs → fd.scope.names.lookup x = some .local ∨ fd.scope.names.lookup x = some .cell := fun x v hx => by
    have : x ∈ bd.map (·.1) := hbn ▸ List.mem_map.mpr ⟨_, hx, rfl⟩
    obtain ⟨y, hy, rfl⟩ := List.mem_map.mp this
    have := List.all_eq_true.mp hnames _ (List.mem_map_of_mem hy)
    rcases Bool.or_eq_true_iff.mp this with q | q
    · exact .inl (by simpa using q)
    · exact .inr (by simpa using q)
  refine hbs _ _ _ _ (wpAny_newFunctionEnv_cells hk (fun x hx => ?_) fun env' he s₁ x => ?_)
  · rcases hlook _ _ hx with q | q
    · exact .inl q
    · exact .inr ⟨q, cellsFrom_some _ _ _ (.inl q)⟩
  have hE : env' = callEnvC fd s.heap.objs.size fa := he
  subst hE
  refine ⟨(g.T.nolimit.keeps fun b o e => x.toInCall.keep b o (G.keep b o e)), codeAny_func ?_⟩
  obtain ⟨h₁, tk, rfl, _⟩ := x.done
  have kp := x.toInCall.keep
  have hG : GSt g μ F h₁ := G.ext kp
  have hsz : ∀ a o, s.heap.get? a = some o → a < s.heap.objs.size := fun a o e => Heap.lt_size e
  have hno : ∀ a ∈ ownOf fd s.heap.objs.size, s.heap.get? a = none := fun a ha => by
    cases hq : s.heap.get? a with
    | none => rfl
    | some o =>
      have hlt := hsz _ _ hq
      cases ha with
      | head => exact absurd hlt (Nat.lt_irrefl _)
      | tail _ ha =>
        obtain ⟨p, hp, rfl⟩ := List.mem_map.mp ha
        have := x.above p.1 p.2 hp
        exact absurd (Nat.lt_trans this hlt) (Nat.lt_irrefl _)
  have hnl : ∀ x c, (x, c) ∈ (callEnvC fd s.heap.objs.size fa).cells → (callEnvC fd s.heap.objs.size fa).cells.lookup x = some c := fun y c hm =>
    lookup_of_mem_nodup (cellsFrom_names fd.scope.names 0 (s.heap.objs.size + 1) [] [] rfl ▸ hcn) hm
  have hFs : FSt (callEnvC fd s.heap.objs.size fa) (ownOf fd s.heap.objs.size) (rho bd) μ F h₁ := by
    refine ⟨⟨hk, hglob, hblt, .head _, kw_lookup_nodup x.apart⟩, ⟨_, x.toInCall.ns⟩, fun y d e => ?_, fun p hp => ⟨_, x.cell _ _ (hnl p.1 p.2 hp)⟩, fun a ha => ?_, fun a ha => ?_, fun a ha q => ?_⟩
    · obtain ⟨v, hv, sv⟩ := sb.get e
      refine ⟨v, ?_, sv⟩
      rcases hlook _ _ hv with q | q
      · exact .inl ⟨q, _, x.toInCall.ns, bindL_get _ _ hv (hbn ▸ hnd) q⟩
      · have hs := cellsFrom_some (x := y) fd.scope.names (s.heap.objs.size + 1) [] (.inl q)
        obtain ⟨c, hc⟩ := Option.isSome_iff_exists.mp hs
        refine .inr ⟨.inl q, c, hc, ?_⟩
        have := x.cell y c hc
        rwa [bindC_get _ _ hv (hbn ▸ hnd) (by show fd.scope.names.lookup y ≠ _; rw [q]; decide)] at this
    · cases hq : F a with
      | none => rfl
      | some o => have := G.fz _ _ hq; rw [hno a ha] at this; cases this
    · cases ha with
      | head => obtain ⟨o, _, _, e, _⟩ := x.toInCall.ns; exact ⟨o, e⟩
      | tail _ ha => obtain ⟨p, hp, rfl⟩ := List.mem_map.mp ha; obtain ⟨o, e, _⟩ := x.cell _ _ (hnl p.1 p.2 hp); exact ⟨o, e⟩
    · obtain ⟨p, hp, rfl⟩ := List.mem_map.mp q
      obtain ⟨_, b⟩ := G.mu p hp
      obtain ⟨o, e1⟩ := b.live
      rw [hno _ ha] at e1; cases e1
  have hfr : FrL (callEnvC fd s.heap.objs.size fa) μ F h₁ := ⟨by show fd.scope.kind ≠ _; rw [hk]; decide, s.heap.objs.size, _, rfl, x.toInCall.ns, hFs.ownF _ (.head _), hFs.muo _ (.head _)⟩
  have t0 : Tr g (ownOf fd s.heap.objs.size) μ μ F F s { s with heap := h₁, toks := tk } := Tr.of_ext kp rfl rfl
  refine wpAny_mono (h _ _ _ rfl rfl _ F { s with heap := h₁, toks := tk } (Ok.deeper ok) (hG.push_frame hfr) hFs) (fun _ _ x => x.elim) fun e s₂ r => ?_
  exact leave (Ok.deeper (env := callEnvC fd s.heap.objs.size fa) ok).frames hno (r.trans t0.push_frame)
/-- a lambda called -/
theorem CallsR.clo {qual : Str} {params : Arguments} {body : Expr} {scope : Scope} {cdv : Value} {caps : List (Str × D)} {args : List D} {nm : List Str} {msg P}
    (hb : ∀ name cl pm ct (vs : List Value), vs.length = args.length → bindArgs (kla_fn name qual params body scope cl pm cdv ct) ⟨vs, []⟩ = pure (nm.zip vs))
    (hloc : ∀ y ∈ nm, scope.names.lookup y = some .local) (hnd : nm.Nodup) (hfree : ∀ p ∈ caps, scope.names.lookup p.1 = some .free)
    (hk : scope.kind = .function) (hco : scope.isCoroutine = false) (hgen : scope.isGenerator = false) (hcell : ∀ x ∈ scope.names, x.2 ≠ .cell)
    (h : ∀ env L f cl, env = envX qual scope L f cdv cl → RaisesE (g.push env) env [L] n (rho (nm.zip args ++ caps)) μ body msg P) : CallsR g (n + 1) μ (.clo qual params body scope cdv caps) args [] msg P :=
  fun A F s fv vs kvs ok G sf sa sk hkn => by
    obtain rfl : kvs = [] := by simpa using hkn
    obtain @⟨a, o, name, cl, pm, ct, hF, hd, hc, sc, hcn⟩ := Sees.cloI sf
    have ho := G.fz _ _ hF
    refine wpAny_call (kla_callFunE ok.room ho hd hco hgen rfl (hc.codeRec G.fz) ?_)
    rw [hb _ _ _ _ vs sa.length]
    have hvl : ∀ x v, (x, v) ∈ nm.zip vs → x ∈ nm := fun x v hx => List.of_mem_zip hx |>.1
    refine wpAny_pure (wpAny_newFunctionEnv hcell (fun x hx => hloc _ (hvl x.1 x.2 hx)) (fun h₁ hns hsb => ?_) hk)
    have kp : ∀ b o, s.heap.get? b = some o → h₁.get? b = some o := fun b o e => hsb.extBut b o (Nat.ne_of_lt (Heap.lt_size e)) (Heap.get?_push_of_some _ e)
    refine ⟨g.T.nolimit.keeps fun b o e => kp b o (G.keep b o e), kla_codeExpr ?_⟩
    have hG : GSt g μ F h₁ := G.ext kp
    have hno : s.heap.get? s.heap.objs.size = none := none_ge (Nat.le_refl _)
    have fr := G.fresh hno
    have hFs : FSt (envX qual scope s.heap.objs.size a cdv cl) [s.heap.objs.size] (rho (nm.zip args ++ caps)) μ F h₁ := by
      refine ⟨⟨hk, rfl, rfl, .head _, hcn⟩, ⟨_, hns⟩, fun x d e => ?_, fun p hp => ?_, fun b hb => by rw [List.mem_singleton.mp hb]; exact fr.1, fun b hb => ?_, fun b hb => by rw [List.mem_singleton.mp hb]; exact fr.2.1⟩
      · unfold rho at e
        rw [lookup_app] at e
        cases h1 : (nm.zip args).lookup x with
        | some d' =>
          rw [h1] at e
          cases e
          obtain ⟨v, hv, sv⟩ := zip_see sa h1
          refine ⟨v, .inl ⟨hloc _ (hvl _ _ hv), _, hns, ?_⟩, sv⟩
          refine lookup_of_nodup ?_ (List.mem_reverse.mpr hv)
          rw [List.map_reverse]
          refine (List.reverse_perm _).nodup_iff.mpr ?_
          exact List.Sublist.nodup (zip_fst_sub _ _) hnd
        | none =>
          rw [h1] at e
          have e : caps.lookup x = some d := e
          obtain ⟨c, v, h1, ⟨o', h2, h3⟩, sv⟩ := sc.get e
          exact ⟨v, .inr ⟨.inr (hfree _ (lookup_mem e)), c, h1, o', hG.fz _ _ h2, h3⟩, sv⟩
      · obtain ⟨o', v, h2, h3⟩ := sc.cell p hp
        exact ⟨_, o', hG.fz _ _ h2, h3⟩
      · rw [List.mem_singleton.mp hb]; obtain ⟨o', _, _, e, _⟩ := hns; exact ⟨o', e⟩
    have hfr : FrL (envX qual scope s.heap.objs.size a cdv cl) μ F h₁ := ⟨by show scope.kind ≠ _; rw [hk]; decide, s.heap.objs.size, _, rfl, hns, fr.1, fr.2.1⟩
    have t0 : Tr g [] μ μ F F s { s with heap := h₁, toks := s.toks + (nm.zip vs).length } := Tr.of_ext kp rfl rfl
    refine wpAny_mono (h _ _ _ _ rfl _ F { s with heap := h₁, toks := s.toks + (nm.zip vs).length } (Ok.deeper ok) (hG.push_frame hfr) hFs) (fun _ _ x => x.elim) fun e s₂ r => ?_
    exact leave (Ok.deeper (env := envX qual scope s.heap.objs.size a cdv cl) ok).frames (fun _ h => absurd h (by simp)) (.inl (r.trans t0.push_frame))
end

open PySem PySem.W PySem.Calls PyProof.Rows
set_option maxRecDepth 20000
noncomputable def OkM (g : G) (n : Nat) (A : Around) : Prop := A.depth + n ≤ 990 ∧ A.units + 8 * n ≤ 9800 ∧ A.frames = some g.stk
noncomputable def forget (x : Str) (ρ : Str → Option D) : Str → Option D := fun y => if y = x then none else ρ y
section
variable {g : G} {env : Env} {own : List Addr} {n : Nat} {ρ : Str → Option D} {μ : Mu}

set_option tactic.hygienic true in
/-- the name of an exception goes -/
theorem st_forget {A : Around} {F : FM} {s : Shared} {x : Str} {pos : Pos} {Q : Unit → Shared → Prop} {E : Value → Shared → Prop} (G : GSt g μ F s.heap) (Fs : FSt env own ρ μ F s.heap) (hk : env.kindOf x = some .local)
    (h : ∀ s', Tr g own μ μ F F s s' → GSt g μ F s'.heap → FSt env own (forget x ρ) μ F s'.heap → Q () s') : wpAny (model g.prog g.w) A (do bindName env x .none; unbindBehindTheSuite env x pos) Q E s := by
  obtain ⟨m, hm⟩ := Fs.ns
  refine wpAny_nameGoes_keeps hk hm (by rw [Fs.ok.kind]; rfl) fun h' v hn sb => h _ ?_ ?_ ?_
  · exact ⟨fun b o e h1 _ _ => ⟨o, (sb.2 b (fun z => h1 (z ▸ Fs.ok.lown))).trans e, .refl o⟩, fun b o e => by
      by_cases hb : b = env.locals
      · subst hb; obtain ⟨o', _, _, e', _⟩ := hn; exact ⟨o', e'⟩
      · exact ⟨o, (sb.2 b hb).trans e⟩, fun _ _ e => e, (Tr.refl (g := g) (mt := own) (μ := μ) (s := s)).fr, fun _ q => .inl q, rfl, rfl⟩
  · exact G.at sb (Fs.ownF _ Fs.ok.lown) (Fs.muo _ Fs.ok.lown) (G.nsTab hm) fun _ _ _ => ⟨_, hn⟩
  · refine ⟨Fs.ok, ⟨_, hn⟩, fun y d' e => ?_, fun p hp => ?_, Fs.ownF, fun a ha => ?_, Fs.muo⟩
    · unfold forget at e
      split at e
      · cases e
      · rename_i hy
        obtain ⟨v', hv', hs'⟩ := Fs.vars y d' e
        refine ⟨v', ?_, hs'⟩
        rcases hv' with ⟨k', m', hm', e'⟩ | ⟨k', c', hc', hcell⟩
        · refine .inl ⟨k', _, hn, ?_⟩
          simp only [hy, if_false]
          obtain ⟨o1, es1, ep1, f1, f2, f3, f4⟩ := hm
          obtain ⟨o2, es2, ep2, g1, g2, g3, g4⟩ := hm'
          rw [f1] at g1; cases g1; rw [f2] at g2; cases g2
          rw [← f4 y, g4 y]; exact e'
        · refine .inr ⟨k', c', hc', hcell.sameBut sb fun z => ?_⟩
          subst z
          obtain ⟨o1, e1, d1⟩ := hcell; obtain ⟨o2, _, _, e2, d2, _⟩ := hm; rw [e1] at e2; cases e2; rw [d1] at d2; cases d2
    · obtain ⟨v', hc'⟩ := Fs.cells p hp
      refine ⟨v', hc'.sameBut sb fun z => ?_⟩
      obtain ⟨o1, e1, d1⟩ := hc'; obtain ⟨o2, _, _, e2, d2, _⟩ := hm; rw [z] at e1; rw [e1] at e2; cases e2; rw [d1] at d2; cases d2
    · by_cases hb : a = env.locals
      · subst hb; obtain ⟨o', _, _, e', _⟩ := hn; exact ⟨o', e'⟩
      · obtain ⟨o, e⟩ := Fs.live a ha; exact ⟨o, (sb.2 a hb).trans e⟩

/-- what a handler's suite does with the exception's words -/
noncomputable def SuiteOk (g : G) (env : Env) (own : List Addr) (n : Nat) (x : Str) (ρ : Str → Option D) (μ : Mu) (suite : List Stmt) (msg : Str) (Q : Fl → (Str → Option D) → Mu → Prop) : Prop :=
  ∀ A F s ea ta tk, OkM g n A → GSt g μ F s.heap → FSt env own (upd ρ x (.val (.ref ea))) μ F s.heap → s.heap.ExcAt ea "ValueError" (.ref ta) → s.heap.TupAt ta [.str msg tk] →
    wpAny (model g.prog g.w) A (execs suite env) (ExPost g env own μ s F fun f ρ' μ' => Q f (forget x ρ') μ') (fun _ _ => False) s

theorem ErrPost.caught {msg P e s F s'} {b₀ : Stmt} {suite np x hp} {Q : Fl → (Str → Option D) → Mu → Prop} {A : Around} (ok : Ok (g.push env) n A) (G : GSt (g.push env) μ F s.heap) (Fs : FSt env own ρ μ F s.heap)
    (hloc : env.kindOf x = some .local) (hV : env.kindOf "ValueError" = some .globalImplicit) (isk : nsIn g.K mainGlobals "ValueError" = some none)
    (hs : ∀ μ', P μ' → SuiteOk (g.push env) env own n x ρ μ' (b₀ :: suite) msg Q) (r : ErrPost (g.push env) [] msg μ s F P e s') :
    wpAny (model g.prog g.w) A (noteFrame e env) (fun _ s₂ => wpAny (model g.prog g.w) A (setFlight e none) (fun _ s₃ => wpAny (model g.prog g.w) A
      (handleBy e env [.ExceptHandler (some (.Name "ValueError" np)) (some x) (b₀ :: suite) hp]) (ExPost (g.push env) env own μ s F Q) (fun _ _ => False) s₃) (fun _ _ => False) s₂) (fun _ _ => False) s' := by
  obtain ⟨ea, ta, tk, B, μ', F', rfl, fl, ⟨tup, tn⟩, t, G', c, p⟩ := r
  obtain ⟨L, hf⟩ : ∃ L, env.frame = some L := by obtain ⟨_, _, ⟨_, ⟨L, _, hf, _⟩, _⟩, _⟩ := fl; exact ⟨L, hf⟩
  refine wpAny_looks_onW ok.frames hf fl fun h₄ held₄ up₄ => ?_
  refine wpAny_landsW held₄ fun h₅ held up₅ => ?_
  obtain ⟨t₅, G₅, c₅⟩ := err_step t G' c held.1 (up₄.trans up₅)
  obtain ⟨ob, hob, hobc⟩ := held.there
  refine wpAny_handleBy_builtin_as (X := "ValueError") (T := "ValueError") (b := true) PySem.F.isExc_ValueError PySem.F.notTuple_ValueError (by rw [isSubtype_type]; kernel_rfl) ?_
  have Kp := G₅.keep
  refine Name_function_global Fs.ok.kind hV (loadGlobal_builtin (by rw [Fs.ok.glob]; exact g.T.g.keeps Kp) (mg_none_of g.X g.T.g isk) (by rw [Fs.ok.blt]; exact g.T.b.keeps Kp) ((g.T.builtins _ (by decide)).trans PyProof.Rows.Boot.«ValueError») ⟨rfl, ⟨ob, hob, hobc⟩, ?_⟩) (by decide)
  rw [if_pos rfl]
  refine lands_againW held fun h₆ fl₆ up₆ => ?_
  obtain ⟨t₆, G₆, c₆⟩ := err_step t₅ G₅ c₅ fl₆.1 up₆
  have Fs₆ := Fs.tr G t₆ G₆
  obtain ⟨oe, ws, hoe, hoec, hoed, hoe0⟩ := fl₆.first
  obtain ⟨ot, nt, hot, hotc, hotd⟩ := (tup.of_slots (up₄.trans up₅)).of_slots up₆
  have outs : ∀ b o, h₆.get? b = some o → ¬ IsNs o → B.get? b = none → b ∉ own ∧ b ∉ μ'.dom ∧ b ∉ g.tabDom := fun b o e hn hB => by
    refine ⟨fun q => ?_, fun q => ?_, fun q => ?_⟩
    · have := c₆.2.2 b o (Fs.live b q) e hn; rw [hB] at this; cases this
    · have := c₆.2.1 b o (.inl q) e; rw [hB] at this; cases this
    · have := c₆.2.1 b o (.inr q) e; rw [hB] at this; cases this
  obtain ⟨e1, e2, e3⟩ := outs ea oe hoe (nns hoed) fl₆.2.1
  obtain ⟨f1, f2, f3⟩ := outs ta ot hot (nnsq hotd) tn
  refine st_store (g := g.push env) (d := .val (.ref ea)) G₆ Fs₆ (.val _) (bindable_local hloc) fun s₇ t₇ G₇ Fs₇ _ => ?_
  have x1 := t₇.at (nns hoed) hoe e1 e2 e3
  have x2 := t₇.at (nnsq hotd) hot f1 f2 f3
  have okm : OkM (g.push env) n (A.mark (some (.ref ea))) := ⟨ok.1, ok.2.1, ok.frames⟩
  refine wpAny_mono (hs μ' p _ F' s₇ ea ta tk okm G₇ Fs₇ ⟨oe, ws, x1, hoec, hoed, hoe0⟩ ⟨ot, nt, x2, hotc, hotd⟩) ?_ fun _ _ x => x.elim
  rintro fl s₈ ⟨f, ρ', μ'', F'', t₈, G₈, Fs₈, sf, hq⟩
  refine st_forget (g := g.push env) G₈ Fs₈ hloc fun s₉ t₉ G₉ Fs₉ => ?_
  exact ⟨f, _, μ'', F'', ((t₆.toOwn.trans t₇).trans t₈).trans t₉, G₉, Fs₉, sf, hq⟩

theorem Ex1.tryR {e ep np x hp pos msg P} {b₀ : Stmt} {suite} {Q : Fl → (Str → Option D) → Mu → Prop} (hb : RaisesE (g.push env) env own n ρ μ e msg P) (hloc : env.kindOf x = some .local) (hV : env.kindOf "ValueError" = some .globalImplicit)
    (isk : nsIn g.K mainGlobals "ValueError" = some none) (hs : ∀ μ', P μ' → SuiteOk (g.push env) env own n x ρ μ' (b₀ :: suite) msg Q) :
    Ex1 (g.push env) env own n ρ μ (.Try [.Return (some e) ep] [.ExceptHandler (some (.Name "ValueError" np)) (some x) (b₀ :: suite) hp] [] [] pos) Q := fun A F s ok G Fs => by
  refine wpAny_Try_except (wpAny_execs_cons (wpAny_Return_some (wpAny_mono (hb A F s ok G Fs) (fun _ _ x => x.elim) fun e s₁ r => ?_)))
  exact r.caught ok G Fs hloc hV isk hs

/-- str of the exception -/
theorem ev_str {A : Around} {F s ea ta tk msg} {E : Value → Shared → Prop} {x np sp cp} {P : Value → Shared → Prop} (okm : OkM g n A) (hn : 1 ≤ n) (G : GSt g μ F s.heap) (Fs : FSt env own ρ μ F s.heap) (hx : env.kindOf x = some .local) (hρ : ρ x = some (.val (.ref ea)))
    (hV : env.kindOf "str" = some .globalImplicit) (isk : nsIn g.K mainGlobals "str" = some none) (he : s.heap.ExcAt ea "ValueError" (.ref ta)) (ht : s.heap.TupAt ta [.str msg tk]) (hd : (x == ("__debug__" : Str)) = false)
    (h : P (.str msg tk) s) : wpAny (model g.prog g.w) A (eval (.Call (.Name "str" sp) [.Name x np] [] cp) env) P E s := by
  have e1 : eval (.Call (.Name "str" sp) [.Name x np] [] cp) env = (do callWith cp (← eval (.Name "str" sp) env) [] (backTo cp (starEach [.Name x np] env)) (backToKw cp (keywordEach [] env))) := rfl
  rw [e1]
  refine wpAny_bind ?_
  refine Name_function_global Fs.ok.kind hV (loadGlobal_builtin (v := .type "str") (by rw [Fs.ok.glob]; exact g.T.g.keeps G.keep) (mg_none_of g.X g.T.g isk) (by rw [Fs.ok.blt]; exact g.T.b.keeps G.keep) ((g.T.builtins _ (by decide)).trans (by boot_fast)) ?_) (by decide)
  refine callWith_of (P := fun _ => True) rfl (fun h _ => ⟨.machine, .inr (.inl rfl), .now⟩) ?_
  suffices fin : wpAny (model g.prog g.w) A (spliced (backTo cp (starEach [.Name x np] env))) (fun vs s' => True ∧ wpAny (model g.prog g.w) A (call (.type "str") ([] ++ vs) []) P E s') E s from evalArgs_plain fin
  refine wpAny_items_cons ?_
  obtain ⟨v, hv, sv⟩ := Fs.vars x _ hρ
  obtain rfl := Sees.valI sv
  rcases hv with ⟨_, m, hm, e⟩ | ⟨k, _⟩
  · refine wpAny_Name (wpAny_loadName_local Fs.ok.kind hx hm e (wpAny_items_nil ⟨trivial, ?_⟩)) hd
    refine PySem.P.str_of_exc_one PySem.F.excStr_ValueError ?_ he ht h
    have := okm.2.1; unfold cLine; lia
  · rw [hx] at k; rcases k with k | k <;> cases k
theorem loc_at {A : Around} {F s x np} {v : Value} {E : Value → Shared → Prop} {P : Value → Shared → Prop} (Fs : FSt env own ρ μ F s.heap) (hx : env.kindOf x = some .local) (hρ : ρ x = some (.val v)) (hd : (x == ("__debug__" : Str)) = false)
    (h : P v s) : wpAny (model g.prog g.w) A (eval (.Name x np) env) P E s := by
  obtain ⟨v', hv, sv⟩ := Fs.vars x _ hρ
  obtain rfl := Sees.valI sv
  rcases hv with ⟨_, m, hm, e⟩ | ⟨k, _⟩
  · exact wpAny_Name (wpAny_loadName_local Fs.ok.kind hx hm e h) hd
  · rw [hx] at k; rcases k with k | k <;> cases k

theorem SuiteOk.ret {x msg np sp cp p} {Q : Fl → (Str → Option D) → Mu → Prop} (hn : 1 ≤ n) (hx : env.kindOf x = some .local) (hV : env.kindOf "str" = some .globalImplicit) (isk : nsIn g.K mainGlobals "str" = some none)
    (h : ∀ ρ', Q (.ret (.str msg)) ρ' μ) (hd : (x == ("__debug__" : Str)) = false := by decide) :
    SuiteOk g env own n x ρ μ [.Return (some (.Call (.Name "str" sp) [.Name x np] [] cp)) p] msg Q := fun A F s ea ta tk okm G Fs he ht => by
  refine wpAny_execs_cons (wpAny_Return_some ?_)
  refine ev_str okm hn G Fs hx (by simp [upd]) hV isk he ht hd ?_
  exact ⟨.ret (.str msg), _, μ, F, .refl, G, Fs, .str _ _, h _⟩

theorem SuiteOk.append {x y msg np sp cp p ap yp mp} {a : Addr} {ds : List D} {Q : Fl → (Str → Option D) → Mu → Prop} (hn : 1 ≤ n) (hx : env.kindOf x = some .local) (hy : env.kindOf y = some .local) (hV : env.kindOf "str" = some .globalImplicit) (isk : nsIn g.K mainGlobals "str" = some none)
    (hyx : y ≠ x) (hρ : ρ y = some (.val (.ref a))) (hm : (a, .ml ds) ∈ μ) (hl : ds.length ≤ 10000)
    (h : ∀ ρ', (∀ z, z ≠ x → ρ' z = ρ z) → Q .next ρ' (setMu a (.ml (ds ++ [.str msg])) μ)) (hline : (ap.endLine == cp.line) = true := by rfl)
    (hsw : swapsWith (.Call (.Attribute (.Name y yp) "append" ap) [.Call (.Name "str" sp) [.Name x np] [] mp] [] cp) none p.line env = pure false := by rfl)
    (hform : methodCallForm 1 (backTo cp (starEach [.Call (.Name "str" sp) [.Name x np] [] mp] env)) (backToKw cp (keywordEach [] env)) = true := by rfl)
    (hbase : attributeBase (.Name y yp) "append" env (eval (.Name y yp) env) = eval (.Name y yp) env := by rfl)
    (hd : (x == ("__debug__" : Str)) = false := by decide) (hd2 : (y == ("__debug__" : Str)) = false := by decide) :
    SuiteOk g env own n x ρ μ [.Expr (.Call (.Attribute (.Name y yp) "append" ap) [.Call (.Name "str" sp) [.Name x np] [] mp] [] cp) p] msg Q := fun A F s ea ta tk okm G Fs he ht => by
  refine wpAny_execs_cons (wpAny_Expr (hs := hsw) (hi := by unfold interactive; rw [Fs.ok.kind]; rfl) ?_)
  rw [arm_eval_Call, hbase]
  refine wpAny_bind (loc_at Fs hy (v := .ref a) (by rw [upd, if_neg hyx]; exact hρ) hd2 ?_)
  obtain ⟨hFa, o, ha, vs, k, rfl, sa⟩ := G.mu _ hm
  have ha : s.heap.get? a = some _ := ha
  refine wpAny_bind (wpAny_standAt ?_)
  have fin : ∀ pp : Pos, wpAny (model g.prog g.w) A (callWith pp (.builtin "list.append") [.ref a] (backTo cp (starEach [.Call (.Name "str" sp) [.Name x np] [] mp] env)) [])
      (fun v s' => match v with | .ref _ => False | _ => (match Flow.next with | .next => wpAny (model g.prog g.w) A (execs [] env) (ExPost g env own μ s F fun f ρ' μ' => Q f (forget x ρ') μ') (fun _ _ => False) s' | f => ExPost g env own μ s F (fun f ρ' μ' => Q f (forget x ρ') μ') f s')) (fun _ _ => False) s := fun pp => by
    refine callWith_builtin rfl ?_
    suffices fin : wpAny (model g.prog g.w) A (spliced (backTo cp (starEach [.Call (.Name "str" sp) [.Name x np] [] mp] env))) (fun vs s' => wpAny (model g.prog g.w) A (call (.builtin "list.append") ([.ref a] ++ vs) []) _ (fun _ _ => False) s') (fun _ _ => False) s from evalArgs_plain fin
    refine wpAny_items_cons ?_
    refine ev_str okm hn G Fs hx (by simp [upd]) hV isk he ht hd ?_
    refine wpAny_items_nil ?_
    have hz : vs.size = ds.length := sa.size
    refine call_append ha (fun h' k' eh sbt => ?_) (by unfold sizeLine; lia)
    have hx' : ∀ b o, b ≠ a → s.heap.get? b = some o → h'.get? b = some o := fun b o hb e => (sbt.2 b hb).trans e
    have km : MOk F a (.ml (ds ++ [.str msg])) { cls := .type "list", dict := Option.none, data := .seq (vs.push (.str msg tk)) k', slots := #[] } := ⟨_, _, rfl, by rw [Array.toList_push]; exact sa.append (.cons (.str msg tk) .nil)⟩
    have t : Tr g [] μ (setMu a (.ml (ds ++ [.str msg])) μ) F F s { s with heap := h' } := Tr.set hm hx' eh rfl rfl
    have G' : GSt g (setMu a (.ml (ds ++ [.str msg])) μ) F h' := G.set hm hx' eh km
    exact wpAny_execs_nil ⟨.next, _, _, F, t.toOwn, G', Fs.tr G t G', trivial, h _ fun z hz => by simp [forget, upd, hz]⟩
  have hpos : methodCallPos true (.Name y yp) env ap cp = pure cp := by unfold methodCallPos; simp [hline]
  unfold methodCall
  rw [show ([] : List Keyword).length = 0 from rfl]
  rw [show methodCallForm (List.length [Expr.Call (.Name "str" sp) [.Name x np] [] mp] + 0) (backTo cp (starEach [.Call (.Name "str" sp) [.Name x np] [] mp] env)) (backToKw cp (keywordEach [] env)) = true from hform]
  refine wpAny_bind (wpAny_holding (getMethod_builtin ⟨_, ha, rfl⟩ PySem.F.plainAttrs_list PySem.F.slot_list_append PySem.F.type_list_append (fun b e => by cases e; exact ⟨_, ha, rfl⟩) ?_))
  exact wpAny_bind (wpAny_of_eq hpos (fin cp))
end

open PySem PySem.W PySem.Calls PyProof.Rows
set_option maxRecDepth 20000
inductive ExBP (g : G) (μ₀ : Mu) (s₀ : Shared) (F₀ : FM) (Q : Fl → Mu → Prop) (fl : Flow) (s' : Shared) : Prop
  | mk (f : Fl) (μ' : Mu) (F' : FM) (t : Tr g [] μ₀ μ' F₀ F' s₀ s') (G : GSt g μ' F' s'.heap) (sf : FlSees F' fl f) (q : Q f μ')
/-- a body's statements up to the end of the call; the frame itself is of no more use then -/
noncomputable def ExB (g : G) (env : Env) (own : List Addr) (n : Nat) (ρ : Str → Option D) (μ : Mu) (ss : List Stmt) (Q : Fl → Mu → Prop) : Prop :=
  ∀ A F s μ₀ F₀ s₀, Ok g n A → GSt g μ F s.heap → FSt env own ρ μ F s.heap → Tr g own μ₀ μ F₀ F s₀ s → (∀ a ∈ own, s₀.heap.get? a = none) →
    wpAny (model g.prog g.w) A (execs ss env) (ExBP g μ₀ s₀ F₀ Q) (fun _ _ => False) s
/-- a cell is stored to no more -/
noncomputable abbrev G.cellF (g : G) (c : Addr) : G := { g with fcs := c :: g.fcs }
section
variable {g : G} {env : Env} {own : List Addr} {n : Nat} {ρ : Str → Option D} {μ : Mu}
theorem ExB.of {ss} {Q : Fl → Mu → Prop} (h : Ex g env own n ρ μ ss fun f _ μ' => Q f μ') : ExB g env own n ρ μ ss Q := fun A F s μ₀ F₀ s₀ ok G Fs t hno =>
  wpAny_mono (h A F s ok G Fs) ((by rintro fl s' ⟨f, ρ', μ', F', t', G', Fs', sf, hq⟩; exact ⟨f, μ', F', (t.trans t').mtLe fun a ha => .inr (hno a ha), G', sf, hq⟩)) fun _ _ x => x
theorem ExB.cons {st rest} {Q : Fl → Mu → Prop} (h : Ex1 g env own n ρ μ st fun f ρ₁ μ₁ => (f = .next → ExB g env own n ρ₁ μ₁ rest Q) ∧ (f ≠ .next → Q f μ₁)) : ExB g env own n ρ μ (st :: rest) Q := fun A F s μ₀ F₀ s₀ ok G Fs t hno =>
  wpAny_execs_cons (wpAny_mono (h A F s ok G Fs) (by
    rintro fl s₁ ⟨f, ρ₁, μ₁, F₁, t₁, G₁, Fs₁, sf, h₁⟩
    cases fl <;> cases f <;> first | exact sf.elim | exact h₁.1 rfl A F₁ s₁ μ₀ F₀ s₀ ok G₁ Fs₁ (t.trans t₁) hno | exact ⟨_, μ₁, F₁, (t.trans t₁).mtLe fun a ha => .inr (hno a ha), G₁, sf, h₁.2 (by intro x; cases x)⟩) fun _ _ x => x)
theorem ExB.seq {st rest} {Q : Fl → Mu → Prop} (R : (Str → Option D) → Mu → Prop) (h : Ex1 g env own n ρ μ st fun f ρ' μ' => f = .next ∧ R ρ' μ') (k : ∀ ρ' μ', R ρ' μ' → ExB g env own n ρ' μ' rest Q) : ExB g env own n ρ μ (st :: rest) Q := by
  refine ExB.cons fun A F s ok G Fs => wpAny_mono (h A F s ok G Fs) ((by rintro fl s' ⟨f, ρ', μ', F', t, G', Fs', sf, e, r⟩; exact ⟨f, ρ', μ', F', t, G', Fs', sf, fun _ => k _ _ r, fun q => absurd e q⟩)) fun _ _ x => x
theorem ExB.freezeCell {ss x d} {Q : Fl → Mu → Prop} (hx : ρ x = some d) (hk : env.kindOf x = some .cell) (h : ∀ c, env.cells.lookup x = some c → c ∈ own → ExB (g.cellF c) env (own.filter (· ≠ c)) n ρ μ ss Q) (ho : ∀ c, env.cells.lookup x = some c → c ∈ own) :
    ExB g env own n ρ μ ss Q := fun A F s μ₀ F₀ s₀ ok G Fs t hno => by
  obtain ⟨v, hv, sv⟩ := Fs.vars x d hx
  obtain ⟨c, hl, hcell⟩ : ∃ c, env.cells.lookup x = some c ∧ s.heap.IsCell c (some v) := by
    rcases hv with ⟨k, _⟩ | ⟨_, c, hl, hc⟩
    · rw [hk] at k; cases k
    · exact ⟨c, hl, hc⟩
  have hc := ho c hl
  obtain ⟨o, eo, ed⟩ := id hcell
  have hF := Fs.ownF c hc
  have hle := put_le (o := o) hF
  have cf := G.cellFree hcell
  have G1 := G.freeze eo hF (Fs.muo c hc) cf.2 (fun _ _ z => by rw [ed] at z; cases z)
  have G' : GSt (g.cellF c) μ (put F c o) s.heap := ⟨G1.base, G1.fz, G1.tb, G1.mu, G1.nd, fun b hb => by
    cases hb with
    | head => exact ⟨o, put_same⟩
    | tail _ hb => exact G1.fzc b hb, G1.dj, G1.stk⟩
  have hlc : env.locals ≠ c := fun z => by
    obtain ⟨m, o2, _, _, e2, d2, _⟩ := Fs.ns; rw [z, eo] at e2; cases e2; rw [ed] at d2; cases d2
  have mem : ∀ a, a ∈ own.filter (· ≠ c) ↔ a ∈ own ∧ a ≠ c := fun a => by simp
  have Fs' : FSt env (own.filter (· ≠ c)) ρ μ (put F c o) s.heap := by
    refine ⟨⟨Fs.ok.kind, Fs.ok.glob, Fs.ok.blt, (mem _).mpr ⟨Fs.ok.lown, hlc⟩, Fs.ok.cnd⟩, Fs.ns, fun y d' e => ?_, Fs.cells, fun a ha => ?_, fun a ha => Fs.live a ((mem a).mp ha).1, fun a ha => Fs.muo a ((mem a).mp ha).1⟩
    · obtain ⟨v', hv', sv'⟩ := Fs.vars y d' e; exact ⟨v', hv', sv'.mono hle⟩
    · rw [put_ne ((mem a).mp ha).2]; exact Fs.ownF a ((mem a).mp ha).1
  have t' : Tr (g.cellF c) (own.filter (· ≠ c)) μ₀ μ F₀ (put F c o) s₀ s := by
    refine ⟨fun b o e h1 h2 h3 => t.ext b o e (fun q => ?_) h2 h3, t.live, fun b o e => hle _ _ (t.le b o e), fun b => ?_, t.mu, t.os, t.gens⟩
    · rw [hno b q] at e; cases e
    · by_cases hb : b = c
      · subst hb; exact .inr (.inr (.inr (hno _ hc)))
      · rw [put_ne hb]; exact t.fr b
  refine wpAny_mono (h c hl hc A _ s μ₀ F₀ s₀ ok G' Fs' t' fun a ha => hno a ((mem a).mp ha).1) (fun fl s' ⟨f, μ', F', t'', G'', sf, hq⟩ => ⟨f, μ', F', ⟨t''.ext, t''.live, t''.le, t''.fr, t''.mu, t''.os, t''.gens⟩, ?_, sf, hq⟩) fun _ _ x => x
  exact ⟨G''.base, G''.fz, G''.tb, G''.mu, G''.nd, fun b hb => G''.fzc b (.tail _ hb), G''.dj, G''.stk⟩
theorem Calls.enterB {fa : Addr} {fo : Obj} {fd : FuncData} {body : List Stmt} {args kws bd Q} (hK : g.K.lookup fa = some fo) (hfo : fo.data = .func fd) (hbody : fd.body = .stmts body) (hclo : fd.closure = [])
    (hglob : fd.globals = mainGlobals) (hblt : fd.builtins = builtinsNs) (hcode : codeIn g.K fd.code fd.qualname = true) (hco : fd.scope.isCoroutine = false) (hgen : fd.scope.isGenerator = false) (hk : fd.scope.kind = .function)
    (hb : Binds g fd args kws bd) {nm : List Str} (hnm : bd.map (·.1) = nm)
    (hnames : (nm.all fun y => fd.scope.names.lookup y == some .local || fd.scope.names.lookup y == some .cell) = true) (hnd : nm.Nodup)
    (hcn : ((cellsFrom 0 fd.scope.names []).map (·.1)).Nodup)
    (h : ∀ env own L, env = callEnvC fd L fa → own = ownOf fd L → ExB (g.push env) env own n (rho bd) μ body fun f μ' => match f with
      | .ret d => Q d μ'
      | .next => Q .none μ'
      | _ => False) : Calls g (n + 1) (.val (.ref fa)) args kws μ Q := fun A F s fv vs kvs ok G sf sa sk hkn => by
  obtain rfl := Sees.valI sf
  subst hnm
  have hX : g.K.In s.heap := g.X.keeps G.keep
  obtain ⟨bs, hbs, sb⟩ := hb F s vs kvs hX sa sk hkn
  have hbn := sb.names
  refine wpAny_call (codeAny_call_function ok.room (hX _ _ hK) hfo hco hgen hbody (codeRec_of hX hcode) ?_)
  rw [hclo]
  have hlook : ∀ x v, (x, v) ∈ bs → fd.scope.names.lookup x = some .local ∨ fd.scope.names.lookup x = some .cell := fun x v hx => by
    have : x ∈ bd.map (·.1) := hbn ▸ List.mem_map.mpr ⟨_, hx, rfl⟩
    obtain ⟨y, hy, rfl⟩ := List.mem_map.mp this
    have := List.all_eq_true.mp hnames _ (List.mem_map_of_mem hy)
    rcases Bool.or_eq_true_iff.mp this with q | q
    · exact .inl (by simpa using q)
    · exact .inr (by simpa using q)
  refine hbs _ _ _ _ (wpAny_newFunctionEnv_cells hk (fun x hx => ?_) fun env' he s₁ x => ?_)
  · rcases hlook _ _ hx with q | q
    · exact .inl q
    · exact .inr ⟨q, cellsFrom_some _ _ _ (.inl q)⟩
  have hE : env' = callEnvC fd s.heap.objs.size fa := he
  subst hE
  refine ⟨(g.T.nolimit.keeps fun b o e => x.toInCall.keep b o (G.keep b o e)), codeAny_func ?_⟩
  obtain ⟨h₁, tk, rfl, _⟩ := x.done
  have kp := x.toInCall.keep
  have hG : GSt g μ F h₁ := G.ext kp
  have hsz : ∀ a o, s.heap.get? a = some o → a < s.heap.objs.size := fun a o e => Heap.lt_size e
  have hno : ∀ a ∈ ownOf fd s.heap.objs.size, s.heap.get? a = none := fun a ha => by
    cases hq : s.heap.get? a with
    | none => rfl
    | some o =>
      have hlt := hsz _ _ hq
      cases ha with
      | head => exact absurd hlt (Nat.lt_irrefl _)
      | tail _ ha =>
        obtain ⟨p, hp, rfl⟩ := List.mem_map.mp ha
        have := x.above p.1 p.2 hp
        exact absurd (Nat.lt_trans this hlt) (Nat.lt_irrefl _)
  have hnl : ∀ x c, (x, c) ∈ (callEnvC fd s.heap.objs.size fa).cells → (callEnvC fd s.heap.objs.size fa).cells.lookup x = some c := fun y c hm =>
    lookup_of_mem_nodup (cellsFrom_names fd.scope.names 0 (s.heap.objs.size + 1) [] [] rfl ▸ hcn) hm
  have hFs : FSt (callEnvC fd s.heap.objs.size fa) (ownOf fd s.heap.objs.size) (rho bd) μ F h₁ := by
    refine ⟨⟨hk, hglob, hblt, .head _, kw_lookup_nodup x.apart⟩, ⟨_, x.toInCall.ns⟩, fun y d e => ?_, fun p hp => ⟨_, x.cell _ _ (hnl p.1 p.2 hp)⟩, fun a ha => ?_, fun a ha => ?_, fun a ha q => ?_⟩
    · obtain ⟨v, hv, sv⟩ := sb.get e
      refine ⟨v, ?_, sv⟩
      rcases hlook _ _ hv with q | q
      · exact .inl ⟨q, _, x.toInCall.ns, bindL_get _ _ hv (hbn ▸ hnd) q⟩
      · have hs := cellsFrom_some (x := y) fd.scope.names (s.heap.objs.size + 1) [] (.inl q)
        obtain ⟨c, hc⟩ := Option.isSome_iff_exists.mp hs
        refine .inr ⟨.inl q, c, hc, ?_⟩
        have := x.cell y c hc
        rwa [bindC_get _ _ hv (hbn ▸ hnd) (by show fd.scope.names.lookup y ≠ _; rw [q]; decide)] at this
    · cases hq : F a with
      | none => rfl
      | some o => have := G.fz _ _ hq; rw [hno a ha] at this; cases this
    · cases ha with
      | head => obtain ⟨o, _, _, e, _⟩ := x.toInCall.ns; exact ⟨o, e⟩
      | tail _ ha => obtain ⟨p, hp, rfl⟩ := List.mem_map.mp ha; obtain ⟨o, e, _⟩ := x.cell _ _ (hnl p.1 p.2 hp); exact ⟨o, e⟩
    · obtain ⟨p, hp, rfl⟩ := List.mem_map.mp q
      obtain ⟨_, b⟩ := G.mu p hp
      obtain ⟨o, e1⟩ := b.live
      rw [hno _ ha] at e1; cases e1
  have hfr : FrL (callEnvC fd s.heap.objs.size fa) μ F h₁ := ⟨by show fd.scope.kind ≠ _; rw [hk]; decide, s.heap.objs.size, _, rfl, x.toInCall.ns, hFs.ownF _ (.head _), hFs.muo _ (.head _)⟩
  have t0 : Tr g (ownOf fd s.heap.objs.size) μ μ F F s { s with heap := h₁, toks := tk } := Tr.of_ext kp rfl rfl
  refine wpAny_mono (h _ _ _ rfl rfl _ F { s with heap := h₁, toks := tk } μ F s (Ok.deeper ok) (hG.push_frame hfr) hFs t0.push_frame hno) ?_ fun _ _ x => x.elim
  rintro fl s₂ ⟨f, μ', F', t, G', sf, hq⟩
  have G' := G'.pop_frame
  have t1 : Tr g [] μ μ' F F' s s₂ := t.pop_frame
  cases fl <;> cases f <;> first
    | exact sf.elim
    | exact hq.elim
    | exact ⟨_, μ', F', t1, G', sf, hq⟩
    | exact ⟨_, μ', F', t1, G', .none, hq⟩
end

open PySem PySem.W PySem.Calls PyProof.Rows
set_option maxRecDepth 20000
theorem setMu_keep {a : Addr} {m : MO} : ∀ {μ : Mu} {p : Addr × MO}, p ∈ μ → p.1 ≠ a → p ∈ setMu a m μ
  | (b, x) :: r, p, h, hn => by
    by_cases hb : b = a
    · subst hb
      rw [setMu_hit]
      cases h with
      | head => exact absurd rfl hn
      | tail _ h => exact .tail _ h
    · rw [setMu_miss hb]
      cases h with
      | head => exact .head _
      | tail _ h => exact .tail _ (setMu_keep h hn)
section
variable {g : G} {env : Env} {own : List Addr} {n : Nat} {ρ : Str → Option D} {μ : Mu}
theorem ForL.gen {tgt body ds Q} (P : Mu → Prop) (hP : P μ) (h : ∀ M, P M → ForL g env own n tgt body ds ρ M Q) : ForL g env own n tgt body ds ρ μ Q := h μ hP
theorem Ex.gen {ss Q} (P : Mu → Prop) (hP : P μ) (h : ∀ M, P M → Ex g env own n ρ M ss Q) : Ex g env own n ρ μ ss Q := h μ hP
theorem mem_dom {p : Addr × MO} (h : p ∈ μ) : p.1 ∈ μ.dom := List.mem_map_of_mem (f := (·.1)) h
theorem ne_fresh {P : Addr} (hP : P ∉ μ.dom) {p : Addr × MO} (h : p ∈ μ) : p.1 ≠ P := fun z => hP (z ▸ mem_dom h)
theorem ForL.nil {tgt body Q} (h : Q .next ρ μ) : ForL g env own n tgt body [] ρ μ Q := h
theorem ForL.cons {tgt body d ds Q} (h : Asg env own (fun ρ₁ => Ex g env own n ρ₁ μ body fun f ρ₂ μ₂ => match f with
      | .next => ForL g env own n tgt body ds ρ₂ μ₂ Q
      | .cont => ForL g env own n tgt body ds ρ₂ μ₂ Q
      | .brk => Q .next ρ₂ μ₂
      | .ret d => Q (.ret d) ρ₂ μ₂) tgt d ρ) : ForL g env own n tgt body (d :: ds) ρ μ Q := h
theorem Ex.freezeMem {a ds ss} {ρ' : Str → Option D} {Q} (hm : (a, .ml ds) ∈ μ) (hρ : ∀ x d', ρ' x = some d' → ∃ d, ρ x = some d ∧ Re a ds d d') (h : ∀ μ', ((a, .ml ds) :: μ').Perm μ → Ex g env own n ρ' μ' ss Q) : Ex g env own n ρ μ ss Q := by
  obtain ⟨s, t, rfl⟩ := List.append_of_mem hm
  exact Ex.perm List.perm_middle.symm (Ex.freeze hρ (h _ List.perm_middle.symm))
theorem ExB.freezeMem {a ds ss} {ρ' : Str → Option D} {Q : Fl → Mu → Prop} (hm : (a, .ml ds) ∈ μ) (hρ : ∀ x d', ρ' x = some d' → ∃ d, ρ x = some d ∧ Re a ds d d') (h : ∀ μ', ((a, .ml ds) :: μ').Perm μ → Ex g env own n ρ' μ' ss fun f _ μ' => Q f μ') : ExB g env own n ρ μ ss Q :=
  ExB.of (Ex.freezeMem hm hρ h)
end

open PySem PySem.W PySem.Calls PyProof.Rows
set_option maxRecDepth 20000
/-! the sort's tree of questions, for keys that are all unlike -/
section
variable {O : KeyOrd} {K : Nat → O.α} {n : Nat} {cmp : Nat → Nat → (Bool → Shared → Prop) → Shared → Prop} {s : Shared}

noncomputable def PO (n : Nat) (p : Array Nat) : Prop := p.toList.Perm (List.range n)
theorem PO.size {p : Array Nat} (h : PO n p) : p.size = n := by have := h.length_eq; simpa using this
theorem PO.get {p : Array Nat} (h : PO n p) {i : Nat} (hi : i < n) : p.getD i 0 < n := by
  have hs := h.size
  have hi' : i < p.size := by lia
  have e : p.getD i 0 = p[i] := by simp [Array.getD, hi']
  rw [e]
  have : p[i] ∈ p.toList := by simp
  simpa using h.mem_iff.mp this
theorem PO.inj {p : Array Nat} (h : PO n p) {i j : Nat} (hi : i < n) (hj : j < n) (e : p.getD i 0 = p.getD j 0) : i = j := by
  have hs := h.size
  have hi' : i < p.toList.length := by simp; lia
  have hj' : j < p.toList.length := by simp; lia
  have nd : p.toList.Nodup := h.nodup_iff.mpr List.nodup_range
  have e1 : p.getD i 0 = p.toList[i] := by have : i < p.size := by lia
                                           simp [Array.getD, this]
  have e2 : p.getD j 0 = p.toList[j] := by have : j < p.size := by lia
                                           simp [Array.getD, this]
  exact (List.getElem_inj nd).mp (by rw [← e1, ← e2, e])
theorem PO.perm {p q : Array Nat} (h : PO n p) (k : q.Perm p) : PO n q := (Array.perm_iff_toList_perm.mp k).trans h

noncomputable def lt' (K : Nat → O.α) (p : Array Nat) (i j : Nat) : Prop := O.blt (K (p.getD i 0)) (K (p.getD j 0)) = true
noncomputable def SO (K : Nat → O.α) (p : Array Nat) (m : Nat) : Prop := ∀ i j, i < j → j < m → lt' K p i j
noncomputable def DE (K : Nat → O.α) (p : Array Nat) (m : Nat) : Prop := ∀ i j, i < j → j < m → lt' K p j i
theorem lt'.trans {p : Array Nat} {i j k : Nat} (a : lt' K p i j) (b : lt' K p j k) : lt' K p i k := O.trans _ _ _ a b

theorem SO.snoc {p : Array Nat} {m : Nat} (h : SO K p m) (hm : 1 ≤ m) (k : lt' K p (m - 1) m) : SO K p (m + 1) := fun i j hij hj => by
  by_cases e : j = m
  · subst e
    by_cases e2 : i = j - 1
    · subst e2; exact k
    · exact (h i (j - 1) (by lia) (by exact Nat.sub_lt (by assumption) (by decide))).trans k
  · exact h i j hij (by lia)
theorem DE.snoc {p : Array Nat} {m : Nat} (h : DE K p m) (hm : 1 ≤ m) (k : lt' K p m (m - 1)) : DE K p (m + 1) := fun i j hij hj => by
  by_cases e : j = m
  · subst e
    by_cases e2 : i = j - 1
    · subst e2; exact k
    · exact k.trans (h i (j - 1) (by lia) (by (clear e2 hj k h hij; exact Nat.sub_lt (by assumption) (by decide))))
  · exact h i j hij (by lia)

variable (hc : ∀ i j C, i < n → j < n → C (O.blt (K i) (K j)) s → cmp i j C s) (hinj : ∀ i j, i < n → j < n → K i = K j → i = j)
include hinj
theorem other {p : Array Nat} (hP : PO n p) {i j : Nat} (hi : i < n) (hj : j < n) (hne : i ≠ j) (h : O.blt (K (p.getD i 0)) (K (p.getD j 0)) = false) : lt' K p j i := by
  unfold lt'
  cases h2 : O.blt (K (p.getD j 0)) (K (p.getD i 0)) with
  | true => rfl
  | false => exact absurd (hP.inj hi hj (hinj _ _ (hP.get hi) (hP.get hj) (O.total _ _ h h2))) hne
include hc

theorem asc_wp {p : Array Nat} (hP : PO n p) : ∀ f m {Q : Nat → Shared → Prop}, 1 ≤ m → m + f = n → SO K p m → (∀ m', m ≤ m' → m' ≤ n → SO K p m' → (m' = n ∨ lt' K p m' (m' - 1)) → Q m' s) → (kas_asc p f m).kasWp cmp Q s
  | 0, m, Q, hm, hf, hS, h => h m (Nat.le_refl _) (by lia) hS (.inl (by omega))
  | f + 1, m, Q, hm, hf, hS, h => by
    refine hc _ _ _ (hP.get (by lia)) (hP.get (by lia)) ?_
    cases hb : O.blt (K (p.getD m 0)) (K (p.getD (m - 1) 0)) with
    | true => exact h m (Nat.le_refl _) (by lia) hS (.inr hb)
    | false =>
      show (kas_asc p f (m + 1)).kasWp cmp Q s
      exact asc_wp hP f (m + 1) (by exact Nat.succ_pos _) (by lia) (hS.snoc hm (other hinj hP (by lia) (by omega) (by lia) hb)) fun m' h1 h2 h3 h4 => h m' (by exact Nat.le_of_lt (by assumption)) h2 h3 h4

theorem desc_wp {p : Array Nat} (hP : PO n p) : ∀ f m {Q : Array Nat × Nat × Nat → Shared → Prop}, 2 ≤ m → m + f = n → DE K p m → (∀ m', 2 ≤ m' → m' ≤ n → DE K p m' → Q (p, m', 0) s) → (kas_desc f p m 0).kasWp cmp Q s
  | 0, m, Q, hm, hf, hS, h => h m hm (by lia) hS
  | f + 1, m, Q, hm, hf, hS, h => by
    refine hc _ _ _ (hP.get (by lia)) (hP.get (by lia)) ?_
    cases hb : O.blt (K (p.getD m 0)) (K (p.getD (m - 1) 0)) with
    | true =>
      show (kas_desc f p (m + 1) 0).kasWp cmp Q s
      exact desc_wp hP f (m + 1) (by exact Nat.le_succ_of_le (by assumption)) (by lia) (hS.snoc (by exact Nat.le_of_lt (by assumption)) hb) h
    | false =>
      have o := other hinj hP (by lia) (by lia) (by lia) hb
      refine hc _ _ _ (hP.get (by lia)) (hP.get (by lia)) ?_
      rw [show O.blt (K (p.getD (m - 1) 0)) (K (p.getD m 0)) = true from o]
      exact h m hm (by lia) hS

omit hc hinj in
theorem rev_get {p : Array Nat} {m : Nat} (hm : m ≤ p.size) (k : Nat) : (kas_rev p 0 m).getD k 0 = if k < m then p.getD (m - 1 - k) 0 else p.getD k 0 := by
  have e := getElem?_mirror_all (xs := p) (i := 0) (j := m) hm k
  unfold kas_rev
  rw [Array.getD_eq_getD_getElem?, e]
  by_cases h : k < m
  · simp [h, Array.getD_eq_getD_getElem?]
  · simp [h, Array.getD_eq_getD_getElem?]

omit hc hinj in
theorem SO.rev {p : Array Nat} {m : Nat} (hm : m ≤ p.size) (h : DE K p m) : SO K (kas_rev p 0 m) m := fun i j hij hj => by
  unfold lt'
  rw [rev_get hm, rev_get hm, if_pos (by exact Nat.lt_trans (by assumption) (by assumption)), if_pos hj]
  exact h (m - 1 - j) (m - 1 - i) (by (clear h hm; omega)) (by (clear h hm; omega))

theorem tail3_wp {p : Array Nat} (hP : PO n p) {m : Nat} {Q : Nat × Array Nat → Shared → Prop} (hm : 2 ≤ m) (hn : m ≤ n) (hD : DE K p m) (h : ∀ m' p', PO n p' → 1 ≤ m' → m' ≤ n → SO K p' m' → Q (m', p') s) : (kas_tail3 m n p).kasWp cmp Q s := by
  unfold kas_tail3
  rw [KasT.kasWp_bind]
  have hP' : PO n (kas_rev p 0 m) := hP.perm (mirror_perm _ _ _ _)
  refine asc_wp hc hinj hP' (n - m) m (by exact Nat.le_of_lt (by assumption)) (by lia) (SO.rev (by rw [hP.size]; exact hn) hD) fun m' h1 h2 h3 _ => ?_
  exact h m' _ hP' (by lia) h2 h3

theorem descPart_wp {p : Array Nat} (hP : PO n p) {Q : Nat × Array Nat → Shared → Prop} (h2 : 2 ≤ n) (hD : lt' K p 1 0) (h : ∀ m' p', PO n p' → 1 ≤ m' → m' ≤ n → SO K p' m' → Q (m', p') s) : (kas_descPart 1 n p).kasWp cmp Q s := by
  unfold kas_descPart
  rw [KasT.kasWp_bind]
  refine desc_wp hc hinj hP (n - (1 + 1)) (1 + 1) (by exact Nat.le_add_left _ _) (by omega) (fun i j hij hj => ?_) fun m' h1 h2 h3 => ?_
  · obtain rfl : i = 0 := by lia
    obtain rfl : j = 1 := by lia
    exact hD
  · exact tail3_wp hc hinj hP h1 h2 h3 h

theorem count_wp {p : Array Nat} (hP : PO n p) {Q : Nat × Array Nat → Shared → Prop} (h2 : 2 ≤ n) (h : ∀ m' p', PO n p' → 1 ≤ m' → m' ≤ n → SO K p' m' → Q (m', p') s) : (kas_count n p).kasWp cmp Q s := by
  unfold kas_count
  rw [KasT.kasWp_bind]
  refine asc_wp hc hinj hP (n - 1) 1 (by exact Nat.succ_pos _) (by lia) (fun i j hij hj => by lia) fun m h1 h3 hS hw => ?_
  by_cases e : m = n
  · subst e
    simp only [beq_self_eq_true, if_true]
    exact h m p hP h1 h3 hS
  · have e1 : (m == n) = false := by simpa using e
    rw [e1]
    simp only [Bool.false_eq_true, if_false]
    by_cases e2 : m > 1
    · rw [if_pos e2]
      refine hc _ _ _ (hP.get (by exact Nat.le_of_lt (by assumption))) (hP.get (by omega)) ?_
      rw [show O.blt (K (p.getD 0 0)) (K (p.getD (m - 1) 0)) = true from hS 0 (m - 1) (by (clear e1 e hw hS h3 h1 h h2 hP hinj hc; omega)) (by exact Nat.sub_lt (by assumption) (by decide))]
      exact h m p hP h1 h3 hS
    · rw [if_neg e2]
      obtain rfl : m = 1 := by lia
      exact descPart_wp hc hinj hP h2 (hw.resolve_left e) h

theorem place_wp {p : Array Nat} (hP : PO n p) {k : Nat} (hk : k < n) (hS : SO K p k) {Q : Nat → Shared → Prop} : ∀ f l r, l ≤ r → r ≤ k → r - l ≤ f → (∀ i, i < l → lt' K p i k) → (∀ i, r ≤ i → i < k → lt' K p k i) →
    (∀ l, l ≤ k → (∀ i, i < l → lt' K p i k) → (∀ i, l ≤ i → i < k → lt' K p k i) → Q l s) → (kas_place p k f l r).kasWp cmp Q s
  | 0, l, r, h1, h2, h3, h4, h5, h => h l (by exact Nat.le_trans (by assumption) (by assumption)) h4 fun i hi => h5 i (by lia)
  | f + 1, l, r, h1, h2, h3, h4, h5, h => by
    unfold kas_place
    by_cases e : l ≥ r
    · rw [if_pos e]; exact h l (by exact Nat.le_trans (by assumption) (by assumption)) h4 fun i hi => h5 i (by exact Nat.le_trans (by assumption) (by assumption))
    · rw [if_neg e]
      have hm : (l + r) / 2 < k := by lia
      refine hc _ _ _ (hP.get hk) (hP.get (by exact Nat.lt_trans (by assumption) (by assumption))) ?_
      cases hb : O.blt (K (p.getD k 0)) (K (p.getD ((l + r) / 2) 0)) with
      | true =>
        show (kas_place p k f l ((l + r) / 2)).kasWp cmp Q s
        refine place_wp hP hk hS f l ((l + r) / 2) (by lia) (by exact Nat.le_of_lt (by assumption)) (by (clear hb hm h h5 h4 h2 h1 hS hk hP hinj hc; omega)) h4 (fun i hi hik => ?_) h
        by_cases e : i = (l + r) / 2
        · subst e; exact hb
        · exact lt'.trans (K := K) hb (hS _ i (by lia) hik)
      | false =>
        have o := other hinj hP hk (by exact Nat.lt_trans (by assumption) (by assumption)) (by exact Nat.ne_of_gt (by assumption)) hb
        show (kas_place p k f ((l + r) / 2 + 1) r).kasWp cmp Q s
        refine place_wp hP hk hS f ((l + r) / 2 + 1) r (by lia) h2 (by (clear o hb hm h h5 h4 h2 h1 hS hk hP hinj hc; omega)) (fun i hi => ?_) h5 h
        by_cases e : i = (l + r) / 2
        · subst e; exact o
        · exact (hS i _ (by lia) hm).trans o

omit hc hinj in
theorem bub_get {p : Array Nat} {k l : Nat} (hk : k < p.size) (hl : l ≤ k) (i : Nat) : (bubble p k (k - l)).getD i 0 = if i = l then p.getD k 0 else if l < i ∧ i ≤ k then p.getD (i - 1) 0 else p.getD i 0 := by
  have e := getElem?_bubble hk (k - l) (by exact Nat.sub_le _ _) i
  have gd : ∀ (q : Array Nat) i, q.getD i 0 = (q[i]?).getD 0 := fun q i => Array.getD_eq_getD_getElem? ..
  rw [gd, gd, gd, gd, e, show k - (k - l) = l by lia]
  split
  · rfl
  · split <;> rfl

theorem bin_wp : ∀ f {p : Array Nat} {k : Nat} {Q : Array Nat → Shared → Prop}, PO n p → k + f = n → SO K p k → (∀ p', PO n p' → SO K p' n → Q p' s) → (kas_bin f p k).kasWp cmp Q s
  | 0, p, k, Q, hP, hk, hS, h => h p hP (by obtain rfl : k = n := by omega
                                            exact hS)
  | f + 1, p, k, Q, hP, hk, hS, h => by
    unfold kas_bin
    rw [KasT.kasWp_bind]
    refine place_wp hc hinj hP (by lia) hS k 0 k (by exact Nat.zero_le _) (Nat.le_refl _) (by exact Nat.sub_le _ _) (fun i hi => by exact absurd (by assumption) (Nat.not_lt_zero _)) (fun i h1 h2 => by lia) fun l hl a b => ?_
    have hz : k < p.size := by rw [hP.size]; lia
    refine bin_wp f (hP.perm (bubble_perm _ _ _)) (by lia) (fun i j hij hj => ?_) h
    unfold lt'
    rw [bub_get hz hl, bub_get hz hl]
    by_cases e1 : i = l
    · subst e1
      rw [if_pos rfl, if_neg (by exact Nat.ne_of_gt (by assumption)), if_pos (by lia)]
      exact b (j - 1) (by (clear b a hl hj hz h hS hk hP hinj hc; omega)) (by (clear b a hl hz h hS hk hP hinj hc; lia))
    · rw [if_neg e1]
      by_cases e2 : j = l
      · subst e2
        rw [if_pos rfl, if_neg (by lia)]
        exact a i hij
      · rw [if_neg e2]
        by_cases e3 : l < j ∧ j ≤ k
        · rw [if_pos e3]
          by_cases e4 : l < i ∧ i ≤ k
          · rw [if_pos e4]; exact hS (i - 1) (j - 1) (by (clear e3 e2 e1 hj hz b a hl h hS hk hP hinj hc; omega)) (by lia)
          · rw [if_neg e4]; exact hS i (j - 1) (by lia) (by lia)
        · rw [if_neg e3, if_neg (by lia)]; exact hS i j hij (by (clear e1 hij hz b a h hS hk hP hinj hc; lia))

theorem sort_wp {Q : Array Nat → Shared → Prop} (h2 : 2 ≤ n) (h : ∀ p', PO n p' → SO K p' n → Q p' s) : (kas_sort n).kasWp cmp Q s := by
  unfold kas_sort
  rw [KasT.kasWp_bind]
  refine count_wp hc hinj (p := (List.range n).toArray) (List.Perm.refl _) h2 fun m p hP h1 hn hS => ?_
  by_cases e : m < n
  · simp only [e, if_true]
    refine bin_wp hc hinj (n - max m 1) hP (by lia) (by rw [show max m 1 = m by lia]; exact hS) h
  · simp only [e, if_false]
    obtain rfl : m = n := by lia
    exact h p hP hS
end

open PySem PySem.W PySem.Calls PyProof.Rows
set_option maxRecDepth 20000
/-! a bridge to the kit's lemmas that speak of a frame's object and of a list of news -/
noncomputable def newsOf (h : Heap) (ex : List Addr) : List (Addr × Obj) := (List.range h.objs.size).filterMap fun b => if b ∈ ex then none else (h.get? b).map fun o => (b, o)
theorem mem_newsOf {h : Heap} {ex : List Addr} {b : Addr} {o : Obj} (hb : b ∉ ex) (e : h.get? b = some o) : (b, o) ∈ newsOf h ex :=
  List.mem_filterMap.mpr ⟨b, List.mem_range.mpr (Heap.lt_size e), by rw [if_neg hb, e]; rfl⟩
set_option tactic.hygienic true in
theorem of_newsOf {h : Heap} {ex : List Addr} {p : Addr × Obj} (hp : p ∈ newsOf h ex) : p.1 ∉ ex ∧ h.get? p.1 = some p.2 := by
  obtain ⟨b, _, e⟩ := List.mem_filterMap.mp hp
  split at e
  · cases e
  · rename_i hb
    cases hq : h.get? b with
    | none => rw [hq] at e; cases e
    | some o => rw [hq] at e; cases e; exact ⟨hb, hq⟩
noncomputable def E0 : Heap := { objs := #[] }
theorem E0_get (b : Addr) : E0.get? b = none := rfl
theorem frE0 {h : Heap} {L : Addr} {m} (hn : h.Ns L m) : Fr E0 L h m := ⟨hn, fun b o e => (by rw [E0_get] at e; cases e), Nat.zero_le _⟩
theorem newsE0 {h : Heap} {L : Addr} {ex} : News E0 L h (newsOf h (L :: ex)) := fun p hp => by
  obtain ⟨a, b⟩ := of_newsOf hp
  exact ⟨b, fun q => a (q ▸ .head _), E0_get _⟩

/-- all stands but L, whose names stand, and ex -/
noncomputable def But (L : Addr) (ex : List Addr) (h h' : Heap) : Prop := (∀ m, h.Ns L m → h'.Ns L m) ∧ ∀ b o, b ≠ L → b ∉ ex → h.get? b = some o → h'.get? b = some o
theorem ns_unique {h : Heap} {L m m'} (a : h.Ns L m) (b : h.Ns L m') : m = m' := by
  obtain ⟨o, es, ep, e, d, _, k⟩ := a
  obtain ⟨o', es', ep', e', d', _, k'⟩ := b
  rw [e] at e'; cases e'; rw [d] at d'; cases d'
  funext x; rw [← k x, k' x]
theorem But.of {h h' : Heap} {L m ex} (hn : h.Ns L m) (F : Fr E0 L h' m) (N : News E0 L h' (newsOf h (L :: ex))) : But L ex h h' :=
  ⟨fun m' hm' => by rw [ns_unique hm' hn]; exact F.ns, fun b o h1 h2 e => (N _ (mem_newsOf (by simp [h1, h2]) e)).1⟩
theorem GSt.but {g : G} {μ F h h' L ex} (G : GSt g μ F h) (B : But L ex h h') (hF : ∀ a, a = L ∨ a ∈ ex → F a = none ∧ a ∉ μ.dom ∧ a ∉ g.tabDom) (hx : ∀ a ∈ ex, ∀ m, ¬ h.Ns a m) : GSt g μ F h' :=
  G.slots (fun a o e => B.2 a o (fun z => by rw [(hF a (.inl z)).1] at e; cases e) (fun z => by rw [(hF a (.inr z)).1] at e; cases e) (G.fz a o e))
    (fun a o ha e => B.2 a o (fun z => ha.elim (hF a (.inl z)).2.1 (hF a (.inl z)).2.2) (fun z => ha.elim (hF a (.inr z)).2.1 (hF a (.inr z)).2.2) e)
    fun a m hm => by
      by_cases hL : a = L
      · subst hL; exact B.1 m hm
      · obtain ⟨o, es, ep, e, r⟩ := hm
        exact ⟨o, es, ep, B.2 a o hL (fun z => hx a z m ⟨o, es, ep, e, r⟩) e, r⟩
theorem Tr.but {g : G} {μ F L ex h' tk m} {s : Shared} (hn : s.heap.Ns L m) (B : But L ex s.heap h') (hx : ∀ a ∈ ex, ∃ o', h'.get? a = some o') : Tr g ex μ μ F F s { s with heap := h', toks := tk } := by
  have key : ∀ o, s.heap.get? L = some o → ∃ o', h'.get? L = some o' ∧ Up o o' := fun o e => by
    obtain ⟨o1, es, ep, e1, d1, r1⟩ := id hn
    rw [e] at e1; cases e1
    obtain ⟨o2, es2, ep2, e2, d2, r2⟩ := B.1 m hn
    refine ⟨o2, e2, .inr ⟨⟨es, ep, d1⟩, ⟨es2, ep2, d2⟩, fun m' ⟨a, b, c, d⟩ => ?_⟩⟩
    rw [ns_unique ⟨o, a, b, e, c, d⟩ hn]
    exact ⟨es2, ep2, d2, r2⟩
  refine ⟨fun b o e h1 _ _ => ?_, fun b o e => ?_, fun _ _ e => e, (Tr.refl (g := g) (mt := []) (μ := μ) (s := s)).fr, fun _ q => .inl q, rfl, rfl⟩
  · by_cases hL : b = L
    · subst hL; exact key o e
    · exact ⟨o, B.2 b o hL h1 e, .refl o⟩
  · by_cases hL : b = L
    · subst hL; obtain ⟨o', e', _⟩ := key o e; exact ⟨o', e'⟩
    · by_cases hb : b ∈ ex
      · exact hx b hb
      · exact ⟨o, B.2 b o hL hb e⟩
theorem GSt.frame {g : G} {μ F h} (G : GSt g μ F h) (hs : g.stk ≠ []) : ∃ L m, h.Ns L m ∧ F L = none ∧ L ∉ μ.dom ∧ L ∉ g.tabDom := by
  cases hq : g.stk with
  | nil => exact absurd hq hs
  | cons e r =>
    obtain ⟨_, L, m, _, hn, h1, h2⟩ := G.stk e (by rw [hq]; exact .head _)
    exact ⟨L, m, hn, h1, h2, G.nsTab hn⟩

/-! pairs of ints -/
noncomputable def pairD (p : Int × Int) : D := .tup [.int p.1, .int p.2]
noncomputable def plt (a b : Int × Int) : Bool := decide (a.1 < b.1) || (a.1 == b.1 && decide (a.2 < b.2))
noncomputable def lexOrd : KeyOrd where
  α := Int × Int
  blt := plt
  irrefl a := by simp [plt]
  trans a b c h1 h2 := by simp only [plt, Bool.or_eq_true, Bool.and_eq_true, decide_eq_true_eq, beq_iff_eq] at *; lia
  negTrans a b c h := by simp only [plt, Bool.or_eq_true, Bool.and_eq_true, decide_eq_true_eq, beq_iff_eq] at *; lia
  total a b h1 h2 := by
    simp only [plt, Bool.or_eq_false_iff, Bool.and_eq_false_iff, decide_eq_false_iff_not, beq_eq_false_iff_ne] at *
    exact Prod.ext (by lia) (by lia)

/-- a pair as an object -/
noncomputable def PairAt (h : Heap) (v : Value) (p : Int × Int) : Prop := ∃ a n t u, v = .ref a ∧ h.get? a = some { cls := .type "tuple", dict := Option.none, data := .seq #[.int p.1 t, .int p.2 u] n, slots := #[] }
theorem pair_at {F : FM} {h : Heap} (fz : ∀ a o, F a = some o → h.get? a = some o) {v p} (s : Sees F v (pairD p)) : PairAt h v p := by
  obtain @⟨a, vs, n, e, r⟩ := Sees.tupI s
  obtain ⟨l⟩ := vs
  obtain ⟨_, _, el, s1, r⟩ := SeesAll.consI r
  obtain ⟨_, _, rfl, s2, r⟩ := SeesAll.consI r
  obtain rfl := SeesAll.nilI r; obtain ⟨_, rfl⟩ := Sees.intI s1; obtain ⟨_, rfl⟩ := Sees.intI s2
  obtain rfl : l = _ := el
  exact ⟨a, n, _, _, rfl, fz _ _ e⟩
inductive PairsAt (h : Heap) : List Value → List (Int × Int) → Prop
  | nil : PairsAt h [] []
  | cons {v p vs ps} : PairAt h v p → PairsAt h vs ps → PairsAt h (v :: vs) (p :: ps)
theorem pairs_at {F : FM} {h : Heap} (fz : ∀ a o, F a = some o → h.get? a = some o) {ps : List (Int × Int)} : ∀ {vs : List Value}, SeesAll F vs (ps.map pairD) → PairsAt h vs ps := by
  induction ps with
  | nil => intro vs s; obtain rfl := SeesAll.nilI s; exact .nil
  | cons p ps ih => intro vs s; obtain ⟨_, _, rfl, s1, r⟩ := SeesAll.consI s; exact .cons (pair_at fz s1) (ih r)
theorem PairsAt.len {h : Heap} {vs ps} (x : PairsAt h vs ps) : vs.length = ps.length := by induction x with
  | nil => rfl
  | cons _ _ ih => simp [ih]
theorem PairsAt.get {h : Heap} {vs ps} (x : PairsAt h vs ps) : ∀ i, i < ps.length → PairAt h (vs.getD i Value.none) (ps.getD i (0, 0)) := by
  induction x with
  | nil => intro i hi; simp at hi
  | cons a b ih => intro i hi; cases i with
    | zero => exact a
    | succ i => exact ih i (by simpa using hi)
theorem PairsAt.tups {h : Heap} {vs ps} (x : PairsAt h vs ps) : ∃ fs, KatTups h vs fs ∧ fs.length = ps.length ∧ ∀ v ∈ fs, ∃ i t, v = Value.int i t := by
  induction x with
  | nil => exact ⟨[], .nil, rfl, fun v h => nomatch h⟩
  | cons a _ ih =>
    obtain ⟨b, n, t, u, rfl, e⟩ := a
    obtain ⟨fs, i1, i2, i3⟩ := ih
    exact ⟨_ :: fs, .cons e rfl rfl rfl i1, by simp [i2], fun v hv => by
      cases hv with
      | head => exact ⟨_, _, rfl⟩
      | tail _ hv => exact i3 v hv⟩

section
variable {prog : Program} {w : World} {A : Around} {E : Value → Shared → Prop} {s : Shared}
theorem kat_lt_pair {v1 v2 : Value} {p q : Int × Int} {Q : Bool → Shared → Prop} (h1 : PairAt s.heap v1 p) (h2 : PairAt s.heap v2 q) (h : Q (plt p q) s) : wpAny (model prog w) A (keyLt' (tuples' true) v1 v2) Q E s := by
  obtain ⟨a, n, t, u, rfl, e⟩ := h1
  obtain ⟨a', n', t', u', rfl, e'⟩ := h2
  refine kat_lt e rfl e' rfl ?_
  refine kat_cons (wpAny_eqBool_int (kat_go (fun h1 => ?_) fun h1 => ?_))
  · have h1 : p.1 = q.1 := by simpa using h1
    refine kat_yes (kat_cons (wpAny_eqBool_int (kat_go (fun h2 => ?_) fun h2 => ?_)))
    · have h2 : p.2 = q.2 := by simpa using h2
      refine kat_yes (kat_nil ?_)
      have e : plt p q = false := by simp [plt, h1, h2]
      rw [e] at h; exact h
    · refine kat_no (kat_one _ _ (lt_int ?_))
      have e : plt p q = decide (p.2 < q.2) := by simp [plt, h1]
      rw [e] at h; exact h
  · have h1 : p.1 ≠ q.1 := by simpa using h1
    refine kat_no (oneLt_int ?_)
    have e : plt p q = decide (p.1 < q.1) := by simp [plt, h1]
    rw [e] at h; exact h
end
section
variable {g : G} {env : Env} {own : List Addr} {n : Nat} {ρ : Str → Option D} {μ : Mu}
/-- what the sort puts out -/
theorem out_perm {ps : List (Int × Int)} {p : Array Nat} (hP : PO ps.length p) : (p.toList.map fun i => ps.getD i (0, 0)).Perm ps := by
  refine (hP.map _).trans (List.Perm.of_eq ?_)
  refine List.ext_getElem (by simp) fun i h1 h2 => ?_
  have h2 : i < ps.length := h2
  simp [h2]
theorem out_sorted {ps : List (Int × Int)} {p : Array Nat} {K : Nat → Int × Int} (hP : PO ps.length p) (hS : SO (O := lexOrd) K p ps.length) : (p.toList.map K).Pairwise fun a b => plt a b = true := by
  rw [List.pairwise_iff_getElem]
  intro i j hi hj hij
  have hz := hP.size
  have hi' : i < p.size := by simpa using hi
  have hj' : j < p.size := by simpa using hj
  have := hS i j hij (by lia)
  unfold lt' at this
  have e1 : p.getD i 0 = p[i] := by simp [Array.getD, hi']
  have e2 : p.getD j 0 = p[j] := by simp [Array.getD, hj']
  rw [e1, e2] at this
  have this : plt (K p[i]) (K p[j]) = true := this
  simpa using this
theorem sees_out {F : FM} {vs : List Value} {ps : List (Int × Int)} (s : SeesAll F vs (ps.map pairD)) : ∀ (l : List Nat), (∀ i ∈ l, i < ps.length) → SeesAll F (l.map fun i => vs.getD i Value.none) ((l.map fun i => ps.getD i (0, 0)).map pairD)
  | [], _ => .nil
  | i :: l, h => by
    refine .cons ?_ (sees_out s l fun j hj => h j (.tail _ hj))
    have hi := h i (.head _)
    obtain ⟨v, h1, h2⟩ := s.get (k := i) (d := pairD (ps.getD i (0, 0))) (by simp [hi])
    simpa [h1] using h2
theorem PO.lt {n : Nat} {p : Array Nat} (hP : PO n p) : ∀ i ∈ p.toList, i < n := fun i hi => by simpa using hP.mem_iff.mp hi

theorem Calls.sortedPairs {x : D} {ps : List (Int × Int)} {Q} (hs : g.stk ≠ []) (hx : Rd μ x (ps.map pairD)) (hnd : ps.Nodup) (h2 : 2 ≤ ps.length) (h64 : ps.length < 64)
    (h : ∀ ps' : List (Int × Int), ps'.Perm ps → ps'.Pairwise (fun a b => plt a b = true) → Q (.lst (ps'.map pairD)) μ) : Calls g n (.val (.builtin "sorted")) [x] [] μ Q :=
  Calls.of1 fun A F s fv va ok G sf sa => by
    obtain rfl := Sees.valI sf
    obtain ⟨l, vs, rfl, hL, sds⟩ := hx.isList G sa
    obtain ⟨L, m, hn, hFL, hmL, htL⟩ := G.frame hs
    have hz : vs.toList.length = ps.length := by have := sds.length; simpa using this
    refine kat_sorted (h₀ := E0) (L := L) (m := m) (vs := vs.toList) (news := newsOf s.heap (L :: [])) (frE0 hn) newsE0 (by simpa using hL) (by lia) (by lia) fun D' e1 h' F' N' lt => ?_
    have B : But L [] s.heap h' := .of hn F' fun p hp => N' p (.tail _ hp)
    have hD0 : s.heap.get? D' = none := by
      cases hq : s.heap.get? D' with
      | none => rfl
      | some o =>
        have hne : D' ≠ L := (N' _ (.head _)).2.1
        exact absurd (lt _ (mem_newsOf (by simpa using hne) hq)) (Nat.lt_irrefl _)
    have G' := G.but B (fun a ha => by
      rcases ha with rfl | ha
      · exact ⟨hFL, hmL, htL⟩
      · cases ha) (fun a ha => nomatch ha)
    have PA := pairs_at G'.fz sds
    obtain ⟨fs, t1, t2, t3⟩ := PA.tups
    refine kat_kind (T := .type "int") t1 (by lia) (fun v hv => ?_) rfl ?_
    · obtain ⟨i, t, rfl⟩ := t3 v hv; exact Looks.of_pure rfl
    rw [hz]
    refine sort_wp (O := lexOrd) (K := fun i => ps.getD i (0, 0)) (n := ps.length) (fun i j C hi hj hC => ?_) (fun i j hi hj e => ?_) h2 fun p hP hS => ?_
    · exact kat_lt_pair (PA.get i hi) (PA.get j hj) hC
    · have e : ps.getD i (0, 0) = ps.getD j (0, 0) := e
      simp only [List.getD_eq_getElem?_getD, List.getElem?_eq_getElem hi, List.getElem?_eq_getElem hj, Option.getD_some] at e
      exact (List.getElem_inj hnd).mp e
    · refine KasFin.intro F' N' (.head fun p hp => Nat.ne_of_lt (lt p hp)) fun h'' c F'' N'' => ?_
      have B2 : But L [] s.heap h'' := .of hn F'' fun p hp => N'' p (.tail _ hp)
      have G2 := G.but B2 (fun a ha => by
        rcases ha with rfl | ha
        · exact ⟨hFL, hmL, htL⟩
        · cases ha) (fun a ha => nomatch ha)
      have eD := (N'' _ (.head _)).1
      dsimp only at eD
      obtain ⟨f1, f2, f3⟩ := G.fresh hD0
      have t : Tr g [] μ μ F F s { s with heap := h'' } := Tr.but (tk := s.toks) hn B2 (fun a ha => nomatch ha)
      refine ⟨_, μ, _, { t with le := put_le f1, fr := fun b => ?_ }, G2.freeze eD f1 f2 f3 (fun _ _ z => nomatch z), .lst put_same ((sees_out sds _ hP.lt).mono (put_le f1)), h _ (out_perm hP) (out_sorted hP hS)⟩
      by_cases hb : b = D'
      · subst hb; exact .inr (.inr (.inr hD0))
      · rw [put_ne hb]; exact t.fr b
end

open PySem PySem.W PySem.Calls PyProof.Rows
set_option maxRecDepth 20000
section
variable {g : G} {env : Env} {own : List Addr} {n : Nat} {ρ : Str → Option D} {μ : Mu}

structure KInv (g : Mine.G) (μ : Mu) (s : Shared) (F : FM) (L : Addr) (m : Str → Option Value) (kS D' : Addr) (e1 : Nat) (ks : List Value) (e : Nat) (ds : List D) (Fi : FM) (si : Shared) : Prop where
  gs : GSt g μ Fi si.heap
  t : Tr g [kS, D'] μ μ F Fi s si
  ns : si.heap.Ns L m
  hk : si.heap.get? kS = some (seqObj "list" ks.toArray e)
  hd : si.heap.get? D' = some (seqObj "list" #[] e1)
  sk : SeesAll Fi ks ds
  fL : Fi L = none
  fk : Fi kS = none
  fD : Fi D' = none

structure KFix (g : Mine.G) (μ : Mu) (L kS D' : Addr) : Prop where
  l1 : L ∉ μ.dom ∧ L ∉ g.tabDom
  k : kS ∉ μ.dom ∧ kS ∉ g.tabDom
  d : D' ∉ μ.dom ∧ D' ∉ g.tabDom
  kd : kS ≠ D'
  kL : kS ≠ L
  dL : D' ≠ L

/-- h' is as the heap, but for kS -/
theorem KInv.move {s F L m kS D' e1 ks e ds Fi} {si : Shared} (X : KFix g μ L kS D') (I : KInv g μ s F L m kS D' e1 ks e ds Fi si) {h' : Heap} {ks' : List Value} {c : Nat} {ds' : List D} (B : But L [kS] si.heap h') (hk : h'.get? kS = some (seqObj "list" ks'.toArray c)) (sk : SeesAll Fi ks' ds') :
    KInv g μ s F L m kS D' e1 ks' c ds' Fi { si with heap := h' } := by
  have nk : ∀ mm, ¬ si.heap.Ns kS mm := fun mm ⟨o, es, ep, e, d, _⟩ => by rw [I.hk] at e; cases e; cases d
  refine ⟨I.gs.but B (fun a ha => ?_) (fun a ha => by rw [List.mem_singleton.mp ha]; exact nk), I.t.trans ((Tr.but (tk := si.toks) I.ns B fun a ha => by rw [List.mem_singleton.mp ha]; exact ⟨_, hk⟩).mtLe fun a ha => .inl (by rw [List.mem_singleton.mp ha]; exact .head _)),
    B.1 _ I.ns, hk, B.2 _ _ X.dL (by simpa using X.kd.symm) I.hd, sk, I.fL, I.fk, I.fD⟩
  rcases ha with rfl | ha
  · exact ⟨I.fL, X.l1⟩
  · rw [List.mem_singleton.mp ha]; exact ⟨I.fk, X.k⟩

end

open PySem PySem.W PySem.Calls PyProof.Rows
set_option maxRecDepth 20000
section
variable {g : G} {env : Env} {own : List Addr} {n : Nat} {ρ : Str → Option D} {μ : Mu}
theorem updL2 {a b : Str} {x y : D} : updL ρ [a, b].reverse [x, y].reverse = upd (upd ρ b y) a x := rfl
theorem bindable_cell {fd : FuncData} {L a : Addr} {x : Str} (he : env = callEnvC fd L a) (ho : own = ownOf fd L) (hk : fd.scope.names.lookup x = some .cell) : Bindable env own x := by
  subst he ho
  have hs := cellsFrom_some (x := x) fd.scope.names (L + 1) [] (.inl hk)
  obtain ⟨c, hc⟩ := Option.isSome_iff_exists.mp hs
  exact .inr ⟨hk, c, hc, .tail _ (List.mem_map.mpr ⟨_, lookup_mem hc, rfl⟩)⟩

theorem gens1 {x : Comprehension} (h : GenOk x) : ∀ y ∈ [x], GenOk y := fun y hy => List.mem_singleton.mp hy ▸ h
theorem gens2 {x z : Comprehension} (h : GenOk x) (k : GenOk z) : ∀ y ∈ [x, z], GenOk y := fun y hy => by
  rcases List.mem_cons.mp hy with rfl | hy
  · exact h
  · exact gens1 k y hy
/-! data that can be held side by side -/
noncomputable def PyOk (k : Nat) (d : D) : Prop := ∃ p, toPy d = some p ∧ p.depth ≤ k
theorem PyOk.int {k i} : PyOk k (.int i) := ⟨.int i, rfl, Nat.zero_le _⟩
theorem PyOk.none {k} : PyOk k .none := ⟨.none, rfl, Nat.zero_le _⟩
theorem PyOk.bool {k b} : PyOk k (.bool b) := ⟨.bool b, rfl, Nat.zero_le _⟩
theorem PyOk.str {k x} (h : PyData.strOk x = true) : PyOk k (.str x) := ⟨.str x, by simp [toPy, h], Nat.zero_le _⟩
theorem PyOk.alls {k : Nat} : ∀ {ds : List D}, (∀ d ∈ ds, PyOk k d) → ∃ ps, toPys ds = some ps ∧ PyData.depthAll ps ≤ k
  | [], _ => ⟨[], rfl, Nat.zero_le _⟩
  | d :: ds, h => by
    obtain ⟨p, e, l⟩ := h d (.head _)
    obtain ⟨ps, e2, l2⟩ := PyOk.alls fun x hx => h x (.tail _ hx)
    exact ⟨p :: ps, by simp [toPys, e, e2], Nat.max_le.mpr ⟨l, l2⟩⟩
theorem PyOk.lst {k : Nat} {ds : List D} (h : ∀ d ∈ ds, PyOk k d) : PyOk (k + 1) (.lst ds) := by
  obtain ⟨ps, e, l⟩ := PyOk.alls h
  exact ⟨.list ps, by simp [toPy, e], by simp only [PyData.depth]; exact Nat.lt_succ_of_le (by assumption)⟩
theorem PyOk.tup {k : Nat} {ds : List D} (h : ∀ d ∈ ds, PyOk k d) : PyOk (k + 1) (.tup ds) := by
  obtain ⟨ps, e, l⟩ := PyOk.alls h
  exact ⟨.tuple ps, by simp [toPy, e], by simp only [PyData.depth]; exact Nat.lt_succ_of_le (by assumption)⟩
theorem PyOk.le {k m d} (h : PyOk k d) (l : k ≤ m) : PyOk m d := (by obtain ⟨p, a, b⟩ := h; exact ⟨p, a, Nat.le_trans b l⟩)
theorem PyOk.ints {l : List Int} : PyOk 1 (.lst (l.map .int)) := PyOk.lst fun d hd => by obtain ⟨i, _, rfl⟩ := List.mem_map.mp hd; exact .int
theorem PyOk.pairs {l : List (Int × Int)} : PyOk 2 (.lst (l.map pairD)) := PyOk.lst fun d hd => by
  obtain ⟨p, _, rfl⟩ := List.mem_map.mp hd
  exact PyOk.tup fun x hx => by
    simp only [List.mem_cons, List.not_mem_nil, or_false] at hx
    rcases hx with rfl | rfl <;> exact .int
theorem Act2.neSame {a b Q} (e : a = b) (hp : PyOk 20 a) (h : Q (.bool false) μ) : Act2 g n μ (compareOp .NotEq) a b Q := fun A F s va vb ok G sa sb => by
  subst e
  obtain ⟨p, e, l⟩ := hp
  have hc := (sa.reads G.fz e).2
  exact Act2.neD (p := p) (q := p) e e l (by rw [PySem.SeqAt.eqv_refl p hc]; exact h) A F s va vb ok G sa sb
theorem Act2.eqSame {a b Q} (e : a = b) (hp : PyOk 20 a) (h : Q (.bool true) μ) : Act2 g n μ (compareOp .Eq) a b Q := fun A F s va vb ok G sa sb => by
  subst e
  obtain ⟨p, e, l⟩ := hp
  have hc := (sa.reads G.fz e).2
  exact Act2.eqD (p := p) (q := p) e e l (by rw [PySem.SeqAt.eqv_refl p hc]; exact h) A F s va vb ok G sa sb

/-! slices of ints -/
/-! comprehensions over lists of some kind -/
theorem CompL.mapA {α : Type} {x : Str} {p : Pos} {elt : Expr} {K : CK} (t f : α → D) (hb : Bindable env own x) : ∀ (xs : List α) (acc : List D) {ρ : Str → Option D}, acc.length + xs.length ≤ 100000 →
    (∀ a ∈ xs, ∀ Q : D → Mu → Prop, Q (f a) μ → Ev g env own n (upd ρ x (t a)) μ elt Q) → (∀ r, K (acc ++ xs.map f) r μ) → CompL g env own n (CompG g env own n elt []) (.Name x p) [] (xs.map t) ρ μ acc K
  | [], acc, ρ, hl, h, k => by have := k ρ; rwa [List.map_nil, List.append_nil] at this
  | d :: ds, acc, ρ, hl, h, k => by
    simp only [List.length_cons] at hl
    refine .name hb (show (true = true → _) ∧ (true = false → _) from ⟨fun _ => ⟨by lia, h d (.head _) _ ?_⟩, fun e => nomatch e⟩)
    refine CompL.mapA t f hb ds _ (by simp; lia) (fun e he => by rw [upd_upd]; exact h e (.tail _ he)) (fun r => ?_)
    have := k r
    rwa [List.map_cons, ← List.singleton_append, ← List.append_assoc] at this
theorem CompL.mapA2 {α : Type} {x y : Str} {p q r0 : Pos} {k0 : Nat} {elt : Expr} {K : CK} (t1 t2 f : α → D) (hb : Bindable env own x) (hb2 : Bindable env own y) : ∀ (xs : List α) (acc : List D) {ρ : Str → Option D}, acc.length + xs.length ≤ 100000 →
    (∀ a ∈ xs, ∀ Q : D → Mu → Prop, Q (f a) μ → Ev g env own n (upd (upd ρ x (t1 a)) y (t2 a)) μ elt Q) → (∀ r, K (acc ++ xs.map f) r μ) →
    CompL g env own n (CompG g env own n elt []) (.Tuple [.Name x p, .Name y q] k0 r0) [] (xs.map fun a => .tup [t1 a, t2 a]) ρ μ acc K
  | [], acc, ρ, hl, h, k => by have := k ρ; rwa [List.map_nil, List.append_nil] at this
  | d :: ds, acc, ρ, hl, h, k => by
    simp only [List.length_cons] at hl
    refine .tup (.cons hb (.cons hb2 (.nil (show (true = true → _) ∧ (true = false → _) from ⟨fun _ => ⟨by lia, h d (.head _) _ ?_⟩, fun e => nomatch e⟩))))
    refine CompL.mapA2 t1 t2 f hb hb2 ds _ (by simp; lia) (fun e he => by rw [upd_upd2]; exact h e (.tail _ he)) (fun r => ?_)
    have := k r
    rwa [List.map_cons, ← List.singleton_append, ← List.append_assoc] at this
/-- an if that is not taken: its test alone, what follows apart -/
theorem Ex.skipIf {t : Expr} {b rest : List Stmt} {pos : Pos} {Q} (h : Et g env own n ρ μ t fun c μ₁ => c = false ∧ μ₁ = μ) (k : Ex g env own n ρ μ rest Q) : Ex g env own n ρ μ (.If t b [] pos :: rest) Q :=
  Ex.cons (Ex1.ite (Et.mono h fun c μ₁ ⟨hc, hm⟩ => by subst hc; subst hm; exact ff_of (Ex.nil (next_of k))))
end

open PySem PySem.W PySem.Calls PyProof.Rows
set_option maxRecDepth 20000
section
variable {g : G} {env : Env} {own : List Addr} {n : Nat} {ρ : Str → Option D} {μ : Mu}
/-! small rules -/
theorem Act2.pow {a b : Int} {Q} (hb : 0 ≤ b) (ha : a ≠ -1) (hs : ¬ Builtin.Int.intTooBig (((Builtin.Int.intBits a : Nat) : Int) * b) = true) (h : Q (.int (a ^ b.toNat)) μ) : Act2 g n μ (binaryOp .Pow) (.int a) (.int b) Q := fun A F s va vb ok G sa sb => by
  obtain ⟨_, rfl⟩ := Sees.intI sa; obtain ⟨_, rfl⟩ := Sees.intI sb
  by_cases h0 : b = 0
  · subst h0
    exact AutoIntOps.pow_0 hb rfl (EvPost.here G rfl rfl rfl (.int _ _) (by rw [Int.toNat_zero, Int.pow_zero] at h; exact h))
  · have hb0 : ¬(b == 0) = true := by simpa using h0
    by_cases h1 : (a == 0 || a == 1) = true
    · have e : a ^ b.toNat = a := by
        have : b.toNat ≠ 0 := by lia
        obtain ⟨m, hm⟩ := Nat.exists_eq_succ_of_ne_zero this
        rw [hm]
        rcases Bool.or_eq_true_iff.mp h1 with q | q
        · rw [eq_of_beq q, Int.pow_succ, Int.mul_zero]
        · rw [eq_of_beq q, Int.one_pow]
      rw [e] at h
      exact AutoIntOps.pow_1 hb hb0 h1 (EvPost.here G rfl rfl rfl (.int _ _) h)
    · exact AutoIntOps.pow_4 hb hb0 h1 (by simpa using ha) hs (EvPost.here G rfl rfl rfl (.int _ _) h)
theorem Act2.ge {a b Q} (h : Q (.bool (decide (b ≤ a))) μ) : Act2 g n μ (compareOp .GtE) (.int a) (.int b) Q := fun A F s va vb ok G sa sb => by
  obtain ⟨_, rfl⟩ := Sees.intI sa; obtain ⟨_, rfl⟩ := Sees.intI sb; exact PyProof.Rows.ge_int (EvPost.here G rfl rfl rfl (.bool _) h)
noncomputable abbrev TInt (Q : Bool → Mu → Prop) : D → Mu → Prop := fun d μ₁ => ∃ i, d = .int i ∧ Q (i != 0) μ₁
theorem Et.int {e : Expr} {Q} (h : Ev g env own n ρ μ e (TInt Q)) (hn : ∀ whole, isTrue e env whole = (do let v ← whole; standAt e.pos; holding [v] (truthy v)) := by intro _; rfl) : Et g env own n ρ μ e Q := fun A F s ok G Fs => by
  rw [hn]
  refine wpAny_bind (wp_seq h ok G Fs fun v d μ₁ F₁ s₁ t₁ G₁ Fs₁ sv h₁ => ?_)
  obtain ⟨i, rfl, hq⟩ := h₁
  obtain ⟨t, rfl⟩ := Sees.intI sv
  exact wpAny_bind (wpAny_standAt (wpAny_holding (PyProof.Rows.truthy_int ⟨μ₁, F₁, t₁, G₁, hq⟩)))
end

open PySem PySem.W PySem.Calls PyProof.Rows
set_option maxRecDepth 20000
section
variable {g : G} {env : Env} {own : List Addr} {n : Nat} {ρ : Str → Option D} {μ : Mu}
theorem Binds.mk60 {fd : FuncData} {a b c d e f : D} {bd} (h : ∀ (F : FM) (s : Shared) v1 v2 v3 v4 v5 v6, g.K.In s.heap → Sees F v1 a → Sees F v2 b → Sees F v3 c → Sees F v4 d → Sees F v5 e → Sees F v6 f → ∃ bs, BindsTo s fd ⟨[v1, v2, v3, v4, v5, v6], []⟩ bs ∧ SeesB F bs bd) : Binds g fd [a, b, c, d, e, f] [] bd := fun F s vs kvs X sa sk hk => by
  obtain ⟨v1, _, rfl, s1, sa⟩ := sa.inv; obtain ⟨v2, _, rfl, s2, sa⟩ := sa.inv; obtain ⟨v3, _, rfl, s3, sa⟩ := sa.inv; obtain ⟨v4, _, rfl, s4, sa⟩ := sa.inv; obtain ⟨v5, _, rfl, s5, sa⟩ := sa.inv; obtain ⟨v6, _, rfl, s6, sa⟩ := sa.inv; obtain rfl := sa.inv0; obtain rfl := kvs0 hk; exact h F s v1 v2 v3 v4 v5 v6 X s1 s2 s3 s4 s5 s6
theorem Act2.le {a b Q} (h : Q (.bool (decide (a ≤ b))) μ) : Act2 g n μ (compareOp .LtE) (.int a) (.int b) Q := fun A F s va vb ok G sa sb => by
  obtain ⟨_, rfl⟩ := Sees.intI sa; obtain ⟨_, rfl⟩ := Sees.intI sb; exact PyProof.Rows.le_int (EvPost.here G rfl rfl rfl (.bool _) h)
theorem Calls.abs {i : Int} {Q} (h : Q (.int i.natAbs) μ) : Calls g n (.val (.builtin "abs")) [.int i] [] μ Q := Calls.of1 fun A F s fv va ok G sf sa => by
  obtain rfl := Sees.valI sf; obtain ⟨t, rfl⟩ := Sees.intI sa
  refine call_abs_int fun u tk => EvPost.keep G (fun _ _ e => e) ?_ h
  rw [show (if i < 0 then -i else i) = (i.natAbs : Int) by split <;> lia]; exact .int _ _
theorem Calls.sumBig {x : D} {ns : List Int} {Q} (hx : Rd μ x (ns.map .int)) (h : Q (.int ns.sum) μ) : Calls g n (.val (.builtin "sum")) [x] [] μ Q :=
  Calls.of1 fun A F s fv va ok G sf sa => by
    obtain rfl := Sees.valI sf
    obtain ⟨a, vs, rfl, hL, sds⟩ := hx.isList G sa
    obtain ⟨xs, rfl, hxs⟩ := sees_intItems sds
    have hf : numAt xs = fun i => ns.getD i 0 := funext (numAt_eq' hxs)
    have hz : xs.size = ns.length := by rw [← hxs, List.length_map, Array.length_toList]
    refine sum_intListG ok.hand hL fun h' tk t' hk => EvPost.keep G hk ?_ h
    rw [hf, preSum_take, hz, List.take_of_length_le (Nat.le_refl _)]; exact .int _ _
theorem mem_at {ns : List Int} {k : Nat} (h : k < ns.length) : ns.getD k 0 ∈ ns := by rw [List.getD_eq_getElem?_getD, List.getElem?_eq_getElem h]; exact List.getElem_mem h
theorem Calls.maxL {x : D} {ns : List Int} {Q} (hx : Rd μ x (ns.map .int)) (hn : 0 < ns.length) (h : ∀ v, v ∈ ns → (∀ y ∈ ns, y ≤ v) → Q (.int v) μ) : Calls g n (.val (.builtin "max")) [x] [] μ Q :=
  Calls.of1 fun A F s fv va ok G sf sa => by
    obtain rfl := Sees.valI sf
    obtain ⟨a, vs, rfl, hL, sds⟩ := hx.isList G sa
    obtain ⟨xs, rfl, hxs⟩ := sees_intItems sds
    have hf : numAt xs = fun i => ns.getD i 0 := funext (numAt_eq' hxs)
    have hz : xs.size = ns.length := by rw [← hxs, List.length_map, Array.length_toList]
    refine max_intList ok.hand hL (by lia) fun v h' tk hv hk => ?_
    obtain ⟨t, rfl⟩ := intItems_at hv
    obtain ⟨b1, b2⟩ := argBest_gt (numAt xs) (xs.size - 1)
    generalize argBest (fun i j => decide (numAt xs i > numAt xs j)) (xs.size - 1) = j at b1 b2 hv
    rw [hf] at b2 ⊢
    refine EvPost.keep G hk (.int _ _) (h _ (mem_at (by lia)) fun y hy => ?_)
    obtain ⟨i, hi, rfl⟩ := List.mem_iff_getElem.mp hy
    have := b2 i (by lia)
    simpa [List.getD_eq_getElem?_getD, List.getElem?_eq_getElem hi] using this
theorem Calls.minL {x : D} {ns : List Int} {Q} (hx : Rd μ x (ns.map .int)) (hn : 0 < ns.length) (h : ∀ v, v ∈ ns → (∀ y ∈ ns, v ≤ y) → Q (.int v) μ) : Calls g n (.val (.builtin "min")) [x] [] μ Q :=
  Calls.of1 fun A F s fv va ok G sf sa => by
    obtain rfl := Sees.valI sf
    obtain ⟨a, vs, rfl, hL, sds⟩ := hx.isList G sa
    obtain ⟨xs, rfl, hxs⟩ := sees_intItems sds
    have hf : numAt xs = fun i => ns.getD i 0 := funext (numAt_eq' hxs)
    have hz : xs.size = ns.length := by rw [← hxs, List.length_map, Array.length_toList]
    refine min_intList ok.hand hL (by lia) fun v h' tk hv hk => ?_
    obtain ⟨t, rfl⟩ := intItems_at hv
    obtain ⟨b1, b2⟩ := argBest_lt (numAt xs) (xs.size - 1)
    generalize argBest (fun i j => decide (numAt xs i < numAt xs j)) (xs.size - 1) = j at b1 b2 hv
    rw [hf] at b2 ⊢
    refine EvPost.keep G hk (.int _ _) (h _ (mem_at (by lia)) fun y hy => ?_)
    obtain ⟨i, hi, rfl⟩ := List.mem_iff_getElem.mp hy
    have := b2 i (by lia)
    simpa [List.getD_eq_getElem?_getD, List.getElem?_eq_getElem hi] using this
theorem Act2.inInts {x : D} {ns : List Int} {k : Int} {Q} (hx : Rd μ x (ns.map .int)) (h : Q (.bool (decide (k ∈ ns))) μ) : Act2 g n μ (compareOp .In) (.int k) x Q := fun A F s va vb ok G sa sb => by
  obtain ⟨t, rfl⟩ := Sees.intI sa
  obtain ⟨a, vs, rfl, hL, sds⟩ := hx.isList G sb
  refine PyProof.Rows.in_list_ints (vs := vs.toList) (by simpa using hL) (intsAre_of sds) ?_
  rw [show ns.any (· == k) = decide (k ∈ ns) by rw [List.any_eq, Bool.eq_iff_iff]; simp]
  exact EvPost.here G rfl rfl rfl (.bool _) h
theorem Calls.extend {a : Addr} {ds es : List D} {x : D} {Q} (hm : (a, .ml ds) ∈ μ) (hx : x = .lst es) (hl : ds.length ≤ 10000) (hl2 : es.length ≤ 10000) (h : Q .none (setMu a (.ml (ds ++ es)) μ)) : Calls g n (.val (.builtin "list.extend")) [.val (.ref a), x] [] μ Q :=
  Calls.of2 fun A F s fv va vb ok G sf sa sb => by
    subst hx
    obtain rfl := Sees.valI sf; obtain rfl := Sees.valI sa
    obtain ⟨_, o, e, vs, k, rfl, r⟩ := G.mu _ hm
    obtain @⟨b, ws, k2, e2, r2⟩ := Sees.lstI sb
    have hz : vs.size = ds.length := r.size
    have hz2 : ws.size = es.length := r2.size
    have mt := PySem.AutoSeq1.list_extend_list_list_0 a vs k b ws k2 (by have : sizeLine = 16777216 := sizeLine_eq; unfold Builtin.List.listTooLong; simp; intro _; lia) (by unfold sizeLine; lia) (by unfold sizeLine; lia)
    refine call_meets PySem.F.slot_list_extend ⟨_, e, rfl⟩ PySem.F.entry_list_extend (PySem.F.args_list_extend_2 _ _) mt ⟨e, G.fz _ _ e2, ?_⟩
    refine EvPost.set (tk := s.toks) (m' := .ml (ds ++ es)) G hm (Heap.SameBut.update ..) (Heap.get?_update_self _ e rfl) (show MOk F a (.ml (ds ++ es)) _ from ⟨_, _, rfl, ?_⟩) .none h
    rw [Array.toList_append]; exact r.append r2
/-! a dict of ints -/
theorem DtOk.map {n m o h a} (x : DtOk n m o) (e : (h : Heap).get? a = some o) : ∃ f, h.IntMap a f ∧ h.DictLe a n ∧ ∀ k i, m k = some i → ∃ t, f k = some (.int i t) := by
  obtain ⟨es, ep, c, d, hk, hf, hn⟩ := x
  refine ⟨_, ⟨o, es, ep, e, c, d, hk, fun _ => rfl⟩, fun o' es' ep' e' d' => ?_, hf⟩
  rw [e] at e'; cases e'; rw [d] at d'; cases d'; exact hn
theorem dtOk_of {n m f h a} (x : (h : Heap).IntMap a f) (l : h.DictLe a n) (hf : ∀ k i, m k = some i → ∃ t, f k = some (.int i t)) : ∃ o, h.get? a = some o ∧ DtOk n m o := by
  obtain ⟨o, es, ep, e, c, d, hk, hfe⟩ := x
  exact ⟨o, e, es, ep, c, d, hk, fun k i q => by rw [hfe]; exact hf k i q, l o es ep e d⟩
theorem Act2.dget {a : Addr} {N : Nat} {m : Int → Option Int} {k i : Int} {value slice Q} (hm : (a, .dt N m) ∈ μ) (hk : m k = some i) (h : Q (.int i) μ)
    (hs : ∀ o i, subscripted slice false o i = operate [o, i] (getItem o i)) : Act2 g n μ (subscriptTail value slice) (.val (.ref a)) (.int k) Q := fun A F s va vb ok G sa sb => by
  obtain rfl := Sees.valI sa; obtain ⟨t, rfl⟩ := Sees.intI sb
  obtain ⟨_, o, e, x⟩ := G.mu _ hm
  obtain ⟨f, hM, _, hf⟩ := DtOk.map x e
  obtain ⟨t', hv⟩ := hf k i hk
  exact tail_any hM.typeIs slot_dict_getitem.lookup (wpAny_getItem_intMap hM hv (EvPost.keep G (fun _ _ e => e) (.int _ _) h)) (hs _ _)
theorem Ex1.dset {o i pos' value pos} {Q : Fl → (Str → Option D) → Mu → Prop}
    (h : Ev g env own n ρ μ value fun d μ₁ => Ev g env own n ρ μ₁ o fun od μ₂ => Ev g env own n ρ μ₂ i fun kd μ₃ => ∃ a N m k v, od = .val (.ref a) ∧ kd = .int k ∧ d = .int v ∧ (a, .dt N m) ∈ μ₃ ∧ N ≤ 1000 ∧
      Q .next ρ (setMu a (.dt (N + 1) fun x => if x = k then some v else m x) μ₃))
    (hs : swapsWith value (some (.Subscript o i pos')) pos.line env = pure false := by rfl) : Ex1 g env own n ρ μ (.Assign [.Subscript o i pos'] value pos) Q := fun A F s ok G Fs =>
  wpAny_Assign_Subscript (hs := hs) (wp_seq h ok G Fs fun v d μ₁ F₁ s₁ t₁ G₁ Fs₁ sv h₁ => wp_seq h₁ ok G₁ Fs₁ fun vo od μ₂ F₂ s₂ t₂ G₂ Fs₂ so h₂ => wp_seq h₂ ok G₂ Fs₂ fun vi kd μ₃ F₃ s₃ t₃ G₃ Fs₃ si h₃ => by
    obtain ⟨a, N, m, k, v', rfl, rfl, rfl, hm, hN, hq⟩ := h₃
    obtain rfl := Sees.valI so; obtain ⟨t, rfl⟩ := Sees.intI si; obtain ⟨t', rfl⟩ := Sees.intI sv
    obtain ⟨_, ob, e, x⟩ := G₃.mu _ hm
    obtain ⟨f, hM, hL, hf⟩ := DtOk.map x e
    refine wpAny_setItem_intMap_le hM hL (by unfold sizeLine; lia) fun h' hM' hL' sb => ?_
    obtain ⟨o', e', x'⟩ := dtOk_of (m := fun x => if x = k then some v' else m x) hM' hL' (fun y j hy => by
      by_cases c : y = k
      · simp only [c, if_true] at hy ⊢; cases hy; exact ⟨_, rfl⟩
      · simp only [c, if_false] at hy ⊢; exact hf y j hy)
    have hx : ∀ b o, b ≠ a → s₃.heap.get? b = some o → h'.get? b = some o := fun b o hb q => (sb.2 b hb).trans q
    have t4 : Tr g [] μ₃ (setMu a (.dt (N + 1) fun x => if x = k then some v' else m x) μ₃) F₃ F₃ s₃ { s₃ with heap := h', toks := s₃.toks + 1 } := Tr.set hm hx e' rfl rfl
    have G4 := G₃.set (m' := .dt (N + 1) fun x => if x = k then some v' else m x) hm hx e' x'
    exact ⟨.next, ρ, _, F₃, (((t₁.trans t₂).trans t₃).trans t4).toOwn, G4, Fs₃.tr G₃ t4 G4, trivial, hq⟩)
theorem Ev.dnew {pos Q} (h : ∀ a, a ∉ μ.dom → Q (.val (.ref a)) ((a, .dt 0 fun _ => none) :: μ)) : Ev g env own n ρ μ (.Dict [] [] pos) Q := fun A F s ok G Fs => by
  refine wpAny_Dict_empty ?_
  have fr := get_size (h := s.heap)
  have hk : ∀ b o, s.heap.get? b = some o → (s.heap.push { cls := .type "dict", data := .dict #[] }).get? b = some o := fun b o e => Heap.get?_push_of_some _ e
  obtain ⟨h1, h2, h3⟩ := G.fresh fr
  have G1 := G.ext hk
  obtain ⟨o', e', x'⟩ := dtOk_of (m := fun _ => none) (Heap.IntMap.new s.heap) (Heap.DictLe.new s.heap) (fun _ _ q => nomatch q)
  refine ⟨.val (.ref s.heap.objs.size), (s.heap.objs.size, .dt 0 fun _ => none) :: μ, F, { Tr.of_ext (g := g) (mt := []) (μ := μ) (F := F) (s' := { s with heap := _ }) hk rfl rfl with mu := fun b hb => ?_ }, ⟨G1.base, G1.fz, G1.tb, fun p hp => ?_, List.nodup_cons.mpr ⟨h2, G1.nd⟩, G1.fzc, fun b hb => ?_, fun x hx => ?_⟩, .val _, h _ h2⟩
  · rcases List.mem_cons.mp hb with rfl | hb
    · exact .inr fr
    · exact .inl hb
  · cases hp with
    | head => exact ⟨h1, o', e', x'⟩
    | tail _ hp => exact G1.mu p hp
  · cases hb with
    | head => exact h3
    | tail _ hb => exact G1.dj b hb
  · obtain ⟨hk', L, mm, hf, ⟨o, es, ep, ho, r⟩, hF, hm⟩ := G.stk x hx
    refine ⟨hk', L, mm, hf, ⟨o, es, ep, hk _ _ ho, r⟩, hF, fun q => ?_⟩
    rcases List.mem_cons.mp q with rfl | q
    · rw [fr] at ho; cases ho
    · exact hm q
end

open PySem PySem.W PySem.Calls PyProof.Rows
set_option maxRecDepth 20000
section
variable {prog : Program} {w : World} {A : Around} {E : Value → Shared → Prop} {s : Shared}
/-- zip of a tuple and a list: an item -/
theorem zipT_item {z TI TO i1 i2 l1 l2 : Addr} {k1 k2 : Nat} {xs ys : Array Value} {x y a b : Value} {Q : Option Value → Shared → Prop} (D : ZipApart z TI TO i1 i2 l1 l2)
    (hz : IsZip s.heap z TI TO .none) (hTI : IsPair s.heap TI (.ref i1) (.ref i2)) (hTO : IsPair s.heap TO a b)
    (h1 : s.heap.IsTupleIter i1 l1 k1) (h2 : s.heap.IsListIter i2 l2 k2) (hl1 : s.heap.IsTuple l1 xs) (hl2 : s.heap.IsList l2 ys) (hx : xs[k1]? = some x) (hy : ys[k2]? = some y)
    (hQ : ∀ h', IsZip h' z TI TO (rawInt s.heap.objs.size) → IsPair h' TO x y → h'.IsTupleIter i1 l1 (k1 + 1) → h'.IsListIter i2 l2 (k2 + 1) → IsPair h' s.heap.objs.size x y →
      (∀ c o, c ≠ z → c ≠ TO → c ≠ i1 → c ≠ i2 → s.heap.get? c = some o → h'.get? c = some o) → Q (some (.ref s.heap.objs.size)) { s with heap := h' }) :
    wpAny (model prog w) A (pyNext (.ref z)) Q E s := by
  have hT : s.TypeIs (.ref z) "zip" := ⟨_, hz, rfl⟩
  unfold pyNext
  refine wpAny_bind (wpAny_attempt (wpAny_callSpecial?_slot (name := Str.ofString "__next__") hT F.slot_zip_next (wpAny_call_entry F.slot_zip_next hT F.entry_zip_next ?_ (F.args_zip_next_1 _))))
  show wpAny _ _ (field (.ref z) 2 >>= _) _ _ _
  refine wpAny_bind (wpAny_field hz rfl (x := .bool false) rfl ?_)
  show wpAny _ _ (field (.ref z) 3 >>= _) _ _ _
  refine wpAny_bind (wpAny_field hz rfl (x := .ref TI) rfl ?_)
  refine wpAny_bind (wpAny_seqItems hTI rfl ?_)
  show wpAny _ _ (Builtin.SmallTypes.ownedTupleIsFree (.ref z) >>= _) _ _ _
  refine wpAny_bind ?_
  unfold Builtin.SmallTypes.ownedTupleIsFree
  refine wpAny_bind (wpAny_field hz rfl (x := .none) rfl (wpAny_pure ?_))
  simp only [if_true]
  refine wpAny_bind (wpAny_rule (wpAny_bind (wpAny_field hz rfl (x := .ref TO) rfl (wpAny_bind (wpAny_setField_rec hz (by simp) fun h₁ hz₁ hs₁ => ?_)))))
  replace hz₁ : IsZip h₁ z TI TO .ellipsis := hz₁
  refine wpAny_bind ?_
  simp only [List.zipIdx_cons, List.zipIdx_nil, List.forIn_cons, List.forIn_nil]
  refine wpAny_bind (wpAny_bind (wpAny_onRaise ?_))
  show wpAny _ _ (Builtin.SmallTypes.nextOf (.ref i1) >>= _) _ _ _
  refine wpAny_bind (nextOf_tuple (h1.extBut hs₁.extBut D.i1z) (hl1.extBut hs₁.extBut D.l1z) hx fun h₂ h1₂ hs₂ => wpAny_pure ?_)
  have hTO₂ : IsPair h₂ TO a b := hs₂.extBut _ _ D.TOi1 (hs₁.extBut _ _ D.TOz hTO)
  refine wpAny_bind (wpAny_seqItems hTO₂ rfl (wpAny_bind (wpAny_updateSeq_pair hTO₂ fun h₃ hTO₃ hs₃ => ?_)))
  replace hTO₃ : IsPair h₃ TO x b := hTO₃
  refine wpAny_bind (wpAny_letGo (wpAny_pure (wpAny_bind (wpAny_bind (wpAny_onRaise ?_)))))
  show wpAny _ _ (Builtin.SmallTypes.nextOf (.ref i2) >>= _) _ _ _
  refine wpAny_bind (wpAny_nextOf_list_item (((h2.extBut hs₁.extBut D.i2z).extBut hs₂.extBut D.i12.symm).extBut hs₃.extBut D.TOi2.symm)
    (((hl2.extBut hs₁.extBut D.l2z).extBut hs₂.extBut D.l2i1).extBut hs₃.extBut D.l2TO) hy fun h₄ h2₄ hs₄ => wpAny_pure ?_)
  have hTO₄ : IsPair h₄ TO x b := hs₄.extBut _ _ D.TOi2 hTO₃
  refine wpAny_bind (wpAny_seqItems hTO₄ rfl (wpAny_bind (wpAny_updateSeq_pair hTO₄ fun h₅ hTO₅ hs₅ => ?_)))
  replace hTO₅ : IsPair h₅ TO x y := hTO₅
  refine wpAny_bind (wpAny_letGo (wpAny_pure (wpAny_pure ?_)))
  refine wpAny_bind (wpAny_seqItems hTO₅ rfl (wpAny_bind (wpAny_newTuple ?_)))
  have hsz : h₅.objs.size = s.heap.objs.size := by rw [hs₅.1, hs₄.1, hs₃.1, hs₂.1, hs₁.1]
  have hz₅ : IsZip h₅ z TI TO .ellipsis := hs₅.extBut _ _ D.TOz.symm (hs₄.extBut _ _ D.i2z.symm (hs₃.extBut _ _ D.TOz.symm (hs₂.extBut _ _ D.i1z.symm hz₁)))
  have hk₅ : ∀ c o, c ≠ z → c ≠ TO → c ≠ i1 → c ≠ i2 → s.heap.get? c = some o → h₅.get? c = some o := fun c o c1 c2 c3 c4 e =>
    hs₅.extBut _ _ c2 (hs₄.extBut _ _ c4 (hs₃.extBut _ _ c2 (hs₂.extBut _ _ c3 (hs₁.extBut _ _ c1 e))))
  obtain ⟨o1, e1, r1⟩ : h₅.IsTupleIter i1 l1 (k1 + 1) := ((h1₂.extBut hs₃.extBut D.TOi1.symm).extBut hs₄.extBut D.i12).extBut hs₅.extBut D.TOi1.symm
  obtain ⟨o2, e2, r2⟩ : h₅.IsListIter i2 l2 (k2 + 1) := h2₄.extBut hs₅.extBut D.TOi2.symm
  have hzlt : z < h₅.objs.size := Heap.lt_size hz₅
  show wpAny _ _ (Builtin.SmallTypes.ownedTupleHandOut (.ref z) (.ref h₅.objs.size) >>= _) _ _ _
  refine wpAny_bind ?_
  unfold Builtin.SmallTypes.ownedTupleHandOut
  have hz₆ : IsZip (h₅.push { cls := .type "tuple", data := .seq #[x, y] }) z TI TO .ellipsis := Heap.get?_push_of_some _ hz₅
  refine wpAny_bind (wpAny_setField_rec hz₆ (by simp) fun h₇ hz₇ hs₇ => ?_)
  replace hz₇ : IsZip h₇ z TI TO (rawInt h₅.objs.size) := hz₇
  refine wpAny_setField_rec hz₇ (by simp) fun h₈ hz₈ hs₈ => ?_
  replace hz₈ : IsZip h₈ z TI TO (rawInt h₅.objs.size) := hz₈
  have up : ∀ c o, c ≠ z → (h₅.push { cls := .type "tuple", data := .seq #[x, y] }).get? c = some o → h₈.get? c = some o := fun c o c1 e => hs₈.extBut _ _ c1 (hs₇.extBut _ _ c1 e)
  have hT₈ : IsPair h₈ h₅.objs.size x y := up _ _ (Nat.ne_of_gt hzlt) (Heap.get?_push_size _ rfl)
  rw [hsz] at hz₈ hT₈
  refine wpAny_pure ⟨_, rfl, wpAny_pure ?_⟩
  show Q (some (.ref h₅.objs.size)) _
  rw [hsz]
  have up5 : ∀ c o, c ≠ z → h₅.get? c = some o → h₈.get? c = some o := fun c o c1 e => up c o c1 (Heap.get?_push_of_some _ e)
  exact hQ h₈ hz₈ (up5 _ _ D.TOz hTO₅) ⟨o1, up5 _ _ D.i1z e1, r1⟩ ⟨o2, up5 _ _ D.i2z e2, r2⟩ hT₈ fun c o c1 c2 c3 c4 e => up5 c o c1 (hk₅ c o c1 c2 c3 c4 e)
/-- its end, the tuple's -/
theorem zipT_end {z TI TO i1 i2 l1 l2 : Addr} {k1 : Nat} {xs : Array Value} {a b : Value} {Q : Option Value → Shared → Prop} (hh : A.handled = none) (D : ZipApart z TI TO i1 i2 l1 l2)
    (hz : IsZip s.heap z TI TO .none) (hTI : IsPair s.heap TI (.ref i1) (.ref i2)) (hTO : IsPair s.heap TO a b)
    (h1 : s.heap.IsTupleIter i1 l1 k1) (hl1 : s.heap.IsTuple l1 xs) (hx : xs[k1]? = none)
    (hQ : ∀ h', (∀ c o, c ≠ z → c ≠ i1 → s.heap.get? c = some o → h'.get? c = some o) → Q none { s with heap := h' }) : wpAny (model prog w) A (pyNext (.ref z)) Q E s := by
  have hT : s.TypeIs (.ref z) "zip" := ⟨_, hz, rfl⟩
  unfold pyNext
  refine wpAny_bind (wpAny_attempt (wpAny_callSpecial?_slot (name := Str.ofString "__next__") hT F.slot_zip_next (wpAny_call_entry F.slot_zip_next hT F.entry_zip_next ?_ (F.args_zip_next_1 _))))
  show wpAny _ _ (field (.ref z) 2 >>= _) _ _ _
  refine wpAny_bind (wpAny_field hz rfl (x := .bool false) rfl ?_)
  show wpAny _ _ (field (.ref z) 3 >>= _) _ _ _
  refine wpAny_bind (wpAny_field hz rfl (x := .ref TI) rfl ?_)
  refine wpAny_bind (wpAny_seqItems hTI rfl ?_)
  show wpAny _ _ (Builtin.SmallTypes.ownedTupleIsFree (.ref z) >>= _) _ _ _
  refine wpAny_bind ?_
  unfold Builtin.SmallTypes.ownedTupleIsFree
  refine wpAny_bind (wpAny_field hz rfl (x := .none) rfl (wpAny_pure ?_))
  simp only [if_true]
  refine wpAny_bind (wpAny_rule (wpAny_bind (wpAny_field hz rfl (x := .ref TO) rfl (wpAny_bind (wpAny_setField_rec hz (by simp) fun h₁ hz₁ hs₁ => ?_)))))
  replace hz₁ : IsZip h₁ z TI TO .ellipsis := hz₁
  refine wpAny_bind ?_
  simp only [List.zipIdx_cons, List.zipIdx_nil, List.forIn_cons, List.forIn_nil]
  refine wpAny_bind (wpAny_bind (wpAny_onRaise ?_))
  show wpAny _ _ (Builtin.SmallTypes.nextOf (.ref i1) >>= _) _ _ _
  refine wpAny_bind (nextOf_tuple_end hh (h1.extBut hs₁.extBut D.i1z) (hl1.extBut hs₁.extBut D.l1z) hx fun h₂ e hs₂ he => ?_)
  obtain ⟨oe, hoe, hce⟩ := he
  have hz₂ : IsZip h₂ z TI TO .ellipsis := hs₂ _ _ D.i1z.symm hz₁
  have hez : e ≠ z := fun x => by subst x; rw [hz₂] at hoe; cases hoe; simp at hce
  refine wpAny_setField_rec hz₂ (by simp) fun h₃ _ hs₃ => ?_
  refine wpAny_bind (wpAny_isInstance (T := "StopIteration") (b := true) ⟨oe, hs₃.extBut _ _ hez hoe, hce⟩ isSubtype_stop (wpAny_pure (hQ _ fun c o c1 c3 x => hs₃.extBut _ _ c1 (hs₂ _ _ c3 (hs₁.extBut _ _ c1 x)))))
noncomputable abbrev zt1 (h : Heap) (l1 : Addr) : Heap := h.push { cls := .type "tuple_iterator", data := .fields #[.ref l1, .int 0 0] }
noncomputable abbrev zt2 (h : Heap) (l1 l2 : Addr) : Heap := (zt1 h l1).push { cls := .type "list_iterator", data := .fields #[.ref l2, .int 0 0] }
noncomputable abbrev zt3 (h : Heap) (l1 l2 : Addr) : Heap := (zt2 h l1 l2).push { cls := .type "tuple", data := .seq #[.ref h.objs.size, .ref (zt1 h l1).objs.size] }
noncomputable abbrev zt4 (h : Heap) (l1 l2 : Addr) : Heap := (zt3 h l1 l2).push { cls := .type "tuple", data := .seq #[.none, .none] }
noncomputable abbrev zt5 (h : Heap) (l1 l2 : Addr) : Heap := (zt4 h l1 l2).push { cls := .type "zip", data := .fields #[.none, .bool false, .bool false, .ref (zt2 h l1 l2).objs.size, .ref (zt3 h l1 l2).objs.size] }
theorem zipT_meets (l1 l2 : Addr) (xs ys : Array Value) :
    Meets (Builtin.«zip.__new__» ⟨[.type "zip", .ref l1, .ref l2], []⟩) (fun _ R s => s.heap.IsTuple l1 xs ∧ s.heap.IsList l2 ys ∧
      R (.ok (.ret (.ref (zt4 s.heap l1 l2).objs.size))) { s with heap := zt5 s.heap l1 l2 }) :=
  .of_wp fun prog w A R s h => by
    obtain ⟨hp, g, d, tk, os⟩ := s; obtain ⟨hl1, hl2, h⟩ := h
    have hsub := sub_zip
    have hL1 : Heap.IsTuple (Shared.heap ⟨hp, g, d, tk, os⟩) l1 xs := hl1
    have hL2 : Heap.IsList (Shared.heap ⟨hp.push { cls := .type "tuple_iterator", data := .fields #[.ref l1, .int 0 0] }, g, d, tk, os⟩) l2 ys := Heap.IsList.push hl2 _
    wp_walk using wpAny_pyIter_tuple hL1, wpAny_pyIter_list hL2
    exact ⟨_, rfl, h⟩
theorem zipT_new {l1 l2 : Addr} {xs ys : Array Value} {Q : Value → Shared → Prop} (hl1 : s.heap.IsTuple l1 xs) (hl2 : s.heap.IsList l2 ys)
    (h : ∀ h', IsZip h' (s.heap.objs.size + 4) (s.heap.objs.size + 2) (s.heap.objs.size + 3) .none → IsPair h' (s.heap.objs.size + 2) (.ref s.heap.objs.size) (.ref (s.heap.objs.size + 1)) →
      IsPair h' (s.heap.objs.size + 3) .none .none → h'.IsTupleIter s.heap.objs.size l1 0 → h'.IsListIter (s.heap.objs.size + 1) l2 0 →
      (∀ c o, s.heap.get? c = some o → h'.get? c = some o) → Q (.ref (s.heap.objs.size + 4)) { s with heap := h' }) :
    wpAny (model prog w) A (call (.type "zip") [.ref l1, .ref l2]) Q E s := by
  refine callType_new F.called_zip (by decide) (F.typeCall_zip_2 _ _) (F.newCall_zip_2 _ _) (fun obj => F.args_object_init_3 obj _ _) F.entry_zip_new (zipT_meets l1 l2 xs ys) ⟨hl1, hl2, ?_⟩
  have z1 : (zt1 s.heap l1).objs.size = s.heap.objs.size + 1 := Heap.size_push ..
  have z2 : (zt2 s.heap l1 l2).objs.size = s.heap.objs.size + 2 := by rw [Heap.size_push, z1]
  have z3 : (zt3 s.heap l1 l2).objs.size = s.heap.objs.size + 3 := by rw [Heap.size_push, z2]
  have z4 : (zt4 s.heap l1 l2).objs.size = s.heap.objs.size + 4 := by rw [Heap.size_push, z3]
  have g5 : (zt5 s.heap l1 l2).get? (zt4 s.heap l1 l2).objs.size = some _ := Heap.get?_push_size _ rfl
  have g4 : (zt5 s.heap l1 l2).get? (zt3 s.heap l1 l2).objs.size = some _ := Heap.get?_push_of_some _ (Heap.get?_push_size _ rfl)
  have g3 : (zt5 s.heap l1 l2).get? (zt2 s.heap l1 l2).objs.size = some _ := Heap.get?_push_of_some _ (Heap.get?_push_of_some _ (Heap.get?_push_size _ rfl))
  have g2 : (zt5 s.heap l1 l2).get? (zt1 s.heap l1).objs.size = some _ := Heap.get?_push_of_some _ (Heap.get?_push_of_some _ (Heap.get?_push_of_some _ (Heap.get?_push_size _ rfl)))
  have g1 : (zt5 s.heap l1 l2).get? s.heap.objs.size = some _ := Heap.get?_push_of_some _ (Heap.get?_push_of_some _ (Heap.get?_push_of_some _ (Heap.get?_push_of_some _ (Heap.get?_push_size _ rfl))))
  show _ ∧ _
  rw [z2, z3, z4] at g5
  rw [z1, z2] at g3
  rw [z3] at g4
  rw [z1] at g2
  rw [z4]
  exact ⟨⟨_, g5, rfl⟩, h _ g5 g3 g4 ⟨_, g1, rfl, rfl⟩ ⟨_, g2, rfl, rfl⟩ fun c o x => Heap.get?_push_of_some _ (Heap.get?_push_of_some _ (Heap.get?_push_of_some _ (Heap.get?_push_of_some _ (Heap.get?_push_of_some _ x))))⟩
/-- an iterator over a list or a tuple -/
noncomputable def It1 (b : Bool) (h : Heap) (i l : Addr) (k : Nat) : Prop := match b with
  | true => h.IsListIter i l k
  | false => h.IsTupleIter i l k
noncomputable def Sq1 (b : Bool) (h : Heap) (l : Addr) (xs : Array Value) : Prop := match b with
  | true => h.IsList l xs
  | false => h.IsTuple l xs
noncomputable def nm1 (b : Bool) : String := match b with
  | true => "list"
  | false => "tuple"
noncomputable def dB (b : Bool) (xs : List D) : D := match b with
  | true => .lst xs
  | false => .tup xs
noncomputable abbrev oB (b : Bool) (vs : Array Value) (k : Nat) : Obj := { cls := .type (nm1 b), dict := Option.none, data := .seq vs k, slots := #[] }
theorem It1.keep {b : Bool} {h h' : Heap} {i l : Addr} {k : Nat} (H : It1 b h i l k) (e : ∀ o, h.get? i = some o → h'.get? i = some o) : It1 b h' i l k := by
  cases b <;> (obtain ⟨o, e0, r⟩ := H; exact ⟨o, e o e0, r⟩)
theorem It1.nns {b : Bool} {h : Heap} {i l : Addr} {k : Nat} (H : It1 b h i l k) : ∃ o, h.get? i = some o ∧ ¬ IsNs o := by
  cases b <;> (obtain ⟨o, e0, _, d⟩ := H; exact ⟨o, e0, Mine.nns d⟩)
theorem oB_sq {b : Bool} {h : Heap} {l : Addr} {vs : Array Value} {k : Nat} (e : h.get? l = some (oB b vs k)) : Sq1 b h l vs := by
  cases b <;> exact ⟨_, e, rfl, _, rfl⟩
theorem zipB_item {b1 : Bool} {z TI TO i1 i2 l1 l2 : Addr} {k1 k2 : Nat} {xs ys : Array Value} {x y a b : Value} {Q : Option Value → Shared → Prop} (D : ZipApart z TI TO i1 i2 l1 l2)
    (hz : IsZip s.heap z TI TO .none) (hTI : IsPair s.heap TI (.ref i1) (.ref i2)) (hTO : IsPair s.heap TO a b)
    (h1 : It1 b1 s.heap i1 l1 k1) (h2 : s.heap.IsListIter i2 l2 k2) (hl1 : Sq1 b1 s.heap l1 xs) (hl2 : s.heap.IsList l2 ys) (hx : xs[k1]? = some x) (hy : ys[k2]? = some y)
    (hQ : ∀ h', IsZip h' z TI TO (rawInt s.heap.objs.size) → IsPair h' TO x y → It1 b1 h' i1 l1 (k1 + 1) → h'.IsListIter i2 l2 (k2 + 1) → IsPair h' s.heap.objs.size x y →
      (∀ c o, c ≠ z → c ≠ TO → c ≠ i1 → c ≠ i2 → s.heap.get? c = some o → h'.get? c = some o) → Q (some (.ref s.heap.objs.size)) { s with heap := h' }) :
    wpAny (model prog w) A (pyNext (.ref z)) Q E s := by
  cases b1
  · exact zipT_item D hz hTI hTO h1 h2 hl1 hl2 hx hy hQ
  · exact wpAny_pyNext_zip_item D hz hTI hTO h1 h2 hl1 hl2 hx hy fun h' nz nTO n1 n2 nT hsz hk => hQ h' nz nTO n1 n2 nT hk
theorem zipB_end {b1 : Bool} {z TI TO i1 i2 l1 l2 : Addr} {k1 k2 : Nat} {xs ys : Array Value} {a b : Value} {Q : Option Value → Shared → Prop} (hh : A.handled = none) (D : ZipApart z TI TO i1 i2 l1 l2)
    (hz : IsZip s.heap z TI TO .none) (hTI : IsPair s.heap TI (.ref i1) (.ref i2)) (hTO : IsPair s.heap TO a b)
    (h1 : It1 b1 s.heap i1 l1 k1) (h2 : s.heap.IsListIter i2 l2 k2) (hl1 : Sq1 b1 s.heap l1 xs) (hl2 : s.heap.IsList l2 ys) (hx : xs[k1]? = none)
    (hQ : ∀ h', (∀ c o, c ≠ z → c ≠ TO → c ≠ i1 → c ≠ i2 → s.heap.get? c = some o → h'.get? c = some o) → Q none { s with heap := h' }) : wpAny (model prog w) A (pyNext (.ref z)) Q E s := by
  cases b1
  · exact zipT_end hh D hz hTI hTO h1 hl1 hx fun h' hk => hQ h' fun c o c1 _ c3 _ => hk c o c1 c3
  · exact wpAny_pyNext_zip_end hh D hz hTI hTO h1 h2 hl1 hl2 (.inl hx) hQ
theorem zipB_new {b1 : Bool} {l1 l2 : Addr} {xs ys : Array Value} {Q : Value → Shared → Prop} (hl1 : Sq1 b1 s.heap l1 xs) (hl2 : s.heap.IsList l2 ys)
    (h : ∀ h', IsZip h' (s.heap.objs.size + 4) (s.heap.objs.size + 2) (s.heap.objs.size + 3) .none → IsPair h' (s.heap.objs.size + 2) (.ref s.heap.objs.size) (.ref (s.heap.objs.size + 1)) →
      IsPair h' (s.heap.objs.size + 3) .none .none → It1 b1 h' s.heap.objs.size l1 0 → h'.IsListIter (s.heap.objs.size + 1) l2 0 →
      (∀ c o, s.heap.get? c = some o → h'.get? c = some o) → Q (.ref (s.heap.objs.size + 4)) { s with heap := h' }) :
    wpAny (model prog w) A (call (.type "zip") [.ref l1, .ref l2]) Q E s := by
  cases b1
  · exact zipT_new hl1 hl2 h
  · exact call_zip_2 hl1 hl2 fun h' hz hTI hTO h1 h2 hsz hk => h h' hz hTI hTO h1 h2 hk
theorem seesB {b : Bool} {F : FM} {v : Value} {xs : List D} (h : Sees F v (dB b xs)) : ∃ l vs k, v = .ref l ∧ F l = some (oB b vs k) ∧ SeesAll F vs.toList xs := by
  cases b
  · obtain @⟨l, vs, k, e0, sxs⟩ := Sees.tupI h; exact ⟨l, vs, k, rfl, e0, sxs⟩
  · obtain @⟨l, vs, k, e0, sxs⟩ := Sees.lstI h; exact ⟨l, vs, k, rfl, e0, sxs⟩
end
section
variable {g : G} {env : Env} {own : List Addr} {n : Nat} {ρ : Str → Option D} {μ : Mu}
theorem Iter.zipT {b1 : Bool} {es : List Expr} {x1 : Nat} {pos : Pos} {z TI TO i1 i2 l1 l2 : Addr} (AP : ZipApart z TI TO i1 i2 l1 l2) {vs ws : Array Value} {k k2 : Nat} {ax ay : List D} : ∀ {xs ys : List D} {c : Nat} {a b : Value} {F : FM} {h : Heap}, xs.length ≤ ys.length →
    F l1 = some (oB b1 vs k) → F l2 = some { cls := .type "list", dict := Option.none, data := .seq ws k2, slots := #[] } →
    SeesAll F vs.toList ax → SeesAll F ws.toList ay → IsZip h z TI TO .none → IsPair h TI (.ref i1) (.ref i2) → IsPair h TO a b → It1 b1 h i1 l1 c → h.IsListIter i2 l2 c → ax.drop c = xs → ay.drop c = ys →
    Iter g (.Tuple es x1 pos) (.ref z) [z, TI, TO, i1, i2] (zipD xs ys) F h := by
  intro xs
  induction xs with
  | nil =>
    intro ys c a b F h hm hF1 hF2 sa sb hz hTI hTO h1 h2 hd1 hd2 A s F' ok ag le fz nf
    have h2' : s.heap.IsListIter i2 l2 c := by obtain ⟨o, e, r⟩ := h2; exact ⟨o, ag i2 (by simp) o e, r⟩
    refine zipB_end ok.hand AP (ag z (by simp) _ hz) (ag TI (by simp) _ hTI) (ag TO (by simp) _ hTO) (h1.keep (ag i1 (by simp))) h2' (oB_sq (fz _ _ (le _ _ hF1))) ⟨_, fz _ _ (le _ _ hF2), rfl, _, rfl⟩ ?_ fun h' hk => ⟨rfl, fun b o e hb => ?_, rfl, rfl⟩
    · have := List.drop_eq_nil_iff.mp hd1
      have q := sa.size
      rw [Array.getElem?_eq_none_iff]; lia
    · simp only [List.mem_cons, not_or] at hb
      exact hk b o hb.1 hb.2.2.1 hb.2.2.2.1 hb.2.2.2.2.1 e
  | cons x xs ih =>
    intro ys c a b F h hm hF1 hF2 sa sb hz hTI hTO h1 h2 hd1 hd2
    cases ys with
    | nil => simp at hm
    | cons y ys =>
      intro A s F' ok ag le fz nf
      have hz' : IsZip s.heap z TI TO .none := ag z (by simp) _ hz
      have hTI' : IsPair s.heap TI (.ref i1) (.ref i2) := ag TI (by simp) _ hTI
      have hTO' : IsPair s.heap TO a b := ag TO (by simp) _ hTO
      have h1' := h1.keep (ag i1 (by simp))
      have h2' : s.heap.IsListIter i2 l2 c := by obtain ⟨o, e, r⟩ := h2; exact ⟨o, ag i2 (by simp) o e, r⟩
      obtain ⟨g1, g2⟩ := drop_cons hd1
      obtain ⟨g3, g4⟩ := drop_cons hd2
      obtain ⟨v, hv, sv⟩ := sa.get g1
      obtain ⟨u, hu, su⟩ := sb.get g3
      refine zipB_item AP hz' hTI' hTO' h1' h2' (oB_sq (fz _ _ (le _ _ hF1))) ⟨_, fz _ _ (le _ _ hF2), rfl, _, rfl⟩ (by simpa using hv) (by simpa using hu) fun h' nz nTO n1 n2 nT hk => ⟨_, rfl, ?_⟩
      refine wpAny_letOwnedTupleGo_zip nz fun h'' nz2 hs2 => ?_
      have hzl : z < s.heap.objs.size := Heap.lt_size hz'
      have k2' : ∀ b o, b ≠ z → h'.get? b = some o → h''.get? b = some o := fun b o hb e => (hs2.2 b hb).trans e
      have hkp : ∀ b o, b ∉ [z, TI, TO, i1, i2] → s.heap.get? b = some o → h''.get? b = some o := fun b o hb e0 => by
        simp only [List.mem_cons, not_or] at hb
        exact k2' b o hb.1 (hk b o hb.1 hb.2.2.1 hb.2.2.2.1 hb.2.2.2.2.1 e0)
      have hTI2 : IsPair h'' TI (.ref i1) (.ref i2) := k2' _ _ AP.TIz (hk _ _ AP.TIz AP.TITO AP.TIi1 AP.TIi2 hTI')
      have htup : IsPair h'' s.heap.objs.size v u := k2' _ _ (Nat.ne_of_gt hzl) nT
      have hTO2 : IsPair h'' TO v u := k2' _ _ AP.TOz nTO
      have n1' := n1.keep (h' := h'') (k2' _ · AP.i1z)
      have n2' : h''.IsListIter i2 l2 (c + 1) := by obtain ⟨o, e, r⟩ := n2; exact ⟨o, k2' _ _ AP.i2z e, r⟩
      have hFs : F' s.heap.objs.size = none := by
        cases hq : F' s.heap.objs.size with
        | none => rfl
        | some o => have := fz _ _ hq; rw [get_size] at this; cases this
      have lep := put_le (o := { cls := .type "tuple", data := .seq #[v, u] }) hFs
      refine ⟨put F' s.heap.objs.size { cls := .type "tuple", data := .seq #[v, u] }, lep, fun a o e0 => ?_, fun a => ?_, .tup put_same (.cons ((sv.mono le).mono lep) (.cons ((su.mono le).mono lep) .nil)), ⟨fun b o e0 hb => hkp b o hb e0, rfl, rfl⟩, fun a ha => ?_, ?_⟩
      · by_cases hb : a = s.heap.objs.size
        · subst hb; rw [put_same] at e0; cases e0; exact htup
        · rw [put_ne hb] at e0
          exact hkp a o (fun z => by rw [nf a z] at e0; cases e0) (fz a o e0)
      · by_cases hb : a = s.heap.objs.size
        · subst hb; exact .inr (.inr get_size)
        · rw [put_ne hb]; exact fr_same a
      · simp only [List.mem_cons, List.not_mem_nil, or_false] at ha
        rcases ha with rfl | rfl | rfl | rfl | rfl
        · exact ⟨_, nz2, nns rfl⟩
        · exact ⟨_, hTI2, nnsq rfl⟩
        · exact ⟨_, hTO2, nnsq rfl⟩
        · exact n1'.nns
        · obtain ⟨o, e, _, d'⟩ := n2'; exact ⟨o, e, nns d'⟩
      · exact ih (by simp at hm; omega) (lep _ _ (le _ _ hF1)) (lep _ _ (le _ _ hF2)) ((sa.mono le).mono lep) ((sb.mono le).mono lep) nz2 hTI2 hTO2 n1' n2' g2 g4
theorem EvI.zipT {b1 : Bool} {es : List Expr} {x1 : Nat} {tp pos : Pos} {f x y : Expr} {Q} (hf : Ev g env own n ρ μ f fun d μ₁ => d = .val (.type "zip") ∧ plainE x = true ∧ plainE y = true ∧
      Ev g env own n ρ μ₁ x fun d μ₂ => Ev g env own n ρ μ₂ y fun d' μ₃ => ∃ xs ys, d = dB b1 xs ∧ d' = .lst ys ∧ xs.length ≤ ys.length ∧ Q (zipD xs ys) μ₃)
    (he : eval (.Call f [x, y] [] pos) env = (do callWith pos (← eval f env) [] (backTo pos (starEach [x, y] env)) (backToKw pos (keywordEach [] env))) := by rfl) :
    EvI g env own n ρ μ (.Tuple es x1 tp) (.Call f [x, y] [] pos) Q := fun A F s ok G Fs => by
  rw [he]
  refine wpAny_bind (wp_seq hf ok G Fs fun fv fd μ₁ F₁ s₁ t₁ G₁ Fs₁ sf hq => ?_)
  obtain ⟨rfl, hp, hp2, hx⟩ := hq
  refine callWith_P (Q := fun ds ks μ₂ => ∃ xs ys, ds = [dB b1 xs, .lst ys] ∧ ks = [] ∧ xs.length ≤ ys.length ∧ Q (zipD xs ys) μ₂) KeepD.type (by simp [hp, hp2]) rfl ok G₁ Fs₁ sf
    ⟨hp, hx.mono fun d μ₂ hy => ⟨hp2, hy.mono (by rintro d' μ₃ ⟨xs, ys, e, e', hz, hq⟩; exact ⟨xs, ys, by rw [e, e'], rfl, hz, hq⟩)⟩⟩ fun vs kvs ds ks μ₂ F₂ s₂ t₂ G₂ Fs₂ sf₂ sds sks hn hq => ?_
  obtain ⟨xs, ys, rfl, rfl, hz, hq⟩ := hq
  have hkv : kvs = [] := by simpa using hn
  subst hkv
  obtain rfl := Sees.valI sf₂
  obtain ⟨_, _, rfl, sv, r⟩ := SeesAll.consI sds
  obtain ⟨_, _, rfl, su, r⟩ := SeesAll.consI r
  obtain rfl := SeesAll.nilI r
  obtain ⟨l, vs, k, rfl, e0, sxs⟩ := seesB sv
  obtain @⟨l2, ws, k2, e2, sys⟩ := Sees.lstI su
  have hl := G₂.fz _ _ e0
  have hl2 := G₂.fz _ _ e2
  have b1 := Heap.lt_size hl
  have b2 := Heap.lt_size hl2
  refine zipB_new (oB_sq hl) ⟨_, hl2, rfl, _, rfl⟩ fun h' hz' hTI hTO h1 h2 hk => ?_
  refine wpAny_pyIter_zip hz' ?_
  have AP : ZipApart (s₂.heap.objs.size + 4) (s₂.heap.objs.size + 2) (s₂.heap.objs.size + 3) s₂.heap.objs.size (s₂.heap.objs.size + 1) l l2 := by
    have b1' : @LT.lt Nat _ l s₂.heap.objs.size := b1
    have b2' : @LT.lt Nat _ l2 s₂.heap.objs.size := b2
    constructor <;> (refine neN ?_; lia)
  have hfr : ∀ a ∈ [s₂.heap.objs.size + 4, s₂.heap.objs.size + 2, s₂.heap.objs.size + 3, s₂.heap.objs.size, s₂.heap.objs.size + 1], s₂.heap.get? a = none := fun a ha => by
    refine none_ge ?_
    simp only [List.mem_cons, List.not_mem_nil, or_false] at ha
    rcases ha with rfl | rfl | rfl | rfl | rfl <;> lia
  refine ⟨_, μ₂, F₂, [s₂.heap.objs.size + 4, s₂.heap.objs.size + 2, s₂.heap.objs.size + 3, s₂.heap.objs.size, s₂.heap.objs.size + 1], (t₁.trans t₂).trans (Tr.of_ext hk rfl rfl), G₂.ext hk,
    Aside.new (s := s₂) (s' := { s₂ with heap := h' }) G₂ Fs₂ hfr (fun a ha => ?_), fun a ha => fresh_back (t₁.trans t₂) (hfr a ha), Iter.zipT AP hz e0 e2 sxs sys hz' hTI hTO h1 h2 (by simp) (by simp), fun A' s' ok' ag _ => ?_, hq⟩
  · simp only [List.mem_cons, List.not_mem_nil, or_false] at ha
    rcases ha with rfl | rfl | rfl | rfl | rfl
    · exact ⟨_, hz', nns rfl⟩
    · exact ⟨_, hTI, nnsq rfl⟩
    · exact ⟨_, hTO, nnsq rfl⟩
    · exact h1.nns
    · obtain ⟨o, e, _, d'⟩ := h2; exact ⟨o, e, nns d'⟩
  · exact wp_selfIter fun Q' hq' => wpAny_pyIter_zip (ag _ (.head _) _ hz') hq'
end

theorem bis_spec' {p : Nat → Bool} {lo hi : Nat} : lo ≤ hi → (∀ i j, lo ≤ i → i ≤ j → j < hi → p i = true → p j = true) →
    lo ≤ bis p lo hi ∧ bis p lo hi ≤ hi ∧ (∀ i, lo ≤ i → i < bis p lo hi → p i = false) ∧ (∀ i, bis p lo hi ≤ i → i < hi → p i = true) := by
  refine bis_rec (C := fun lo hi r => lo ≤ hi → (∀ i j, lo ≤ i → i ≤ j → j < hi → p i = true → p j = true) → lo ≤ r ∧ r ≤ hi ∧ (∀ i, lo ≤ i → i < r → p i = false) ∧ (∀ i, r ≤ i → i < hi → p i = true)) ?_ ?_ ?_ _ lo hi (Nat.le_refl _)
  · intro lo hi h1 hp ih h mono
    obtain ⟨a, b, c, d⟩ := ih (by lia) fun i j h2 h3 h4 => mono i j h2 h3 (by lia)
    refine ⟨a, by lia, c, fun i h2 h3 => ?_⟩
    by_cases hi' : i < (lo + hi) / 2
    · exact d i h2 hi'
    · exact mono _ i (by lia) (by exact Nat.le_of_not_lt (by assumption)) h3 hp
  · intro lo hi h1 hp ih h mono
    obtain ⟨a, b, c, d⟩ := ih (by lia) fun i j h2 h3 h4 => mono i j (by lia) h3 h4
    refine ⟨by lia, b, fun i h2 h3 => ?_, d⟩
    by_cases hi' : (lo + hi) / 2 < i
    · exact c i (by assumption) h3
    · cases hq : p i with
      | false => rfl
      | true => rw [mono i ((lo + hi) / 2) h2 (by exact Nat.le_of_not_lt (by assumption)) (by exact Nat.lt_of_lt_of_le (by assumption) (by assumption)) hq] at hp; cases hp
  · intro lo hi h1 h mono
    exact ⟨Nat.le_refl _, h, fun i h2 h3 => by lia, fun i h2 h3 => by lia⟩
theorem bis_spec {p : Nat → Bool} {lo hi : Nat} (h : lo ≤ hi) (mono : ∀ i j, lo ≤ i → i ≤ j → j < hi → p i = true → p j = true) :
    lo ≤ bis p lo hi ∧ bis p lo hi ≤ hi ∧ (∀ i, lo ≤ i → i < bis p lo hi → p i = false) ∧ (∀ i, bis p lo hi ≤ i → i < hi → p i = true) := bis_spec' h mono
theorem bis_unique {p : Nat → Bool} {lo hi k : Nat} (h : lo ≤ hi) (mono : ∀ i j, lo ≤ i → i ≤ j → j < hi → p i = true → p j = true) (h1 : lo ≤ k) (h2 : k ≤ hi)
    (h3 : ∀ i, lo ≤ i → i < k → p i = false) (h4 : ∀ i, k ≤ i → i < hi → p i = true) : bis p lo hi = k := by
  obtain ⟨a, b, c, d⟩ := bis_spec h mono
  rcases Nat.lt_trichotomy (bis p lo hi) k with q | q | q
  · have := d _ (Nat.le_refl _) (by exact Nat.lt_of_lt_of_le (by assumption) (by assumption)); rw [h3 _ a q] at this; cases this
  · exact q
  · have := c k h1 q; rw [h4 k (Nat.le_refl _) (by exact Nat.lt_of_lt_of_le (by assumption) (by assumption))] at this; cases this
/-! laying pairs by their first -/
noncomputable def insP (k : Nat) (p : Int × Int) (F : List (Int × Int)) : List (Int × Int) := F.take k ++ p :: F.drop k
noncomputable def gtP (p : Int × Int) (F : List (Int × Int)) (i : Nat) : Bool := decide (p.1 < (F.getD i (0, 0)).1)
noncomputable def geP (p : Int × Int) (F : List (Int × Int)) (i : Nat) : Bool := !decide ((F.getD i (0, 0)).1 < p.1)
noncomputable def stepR (F : List (Int × Int)) (p : Int × Int) : List (Int × Int) := insP (bis (gtP p F) 0 F.length) p F
noncomputable def stepL (F : List (Int × Int)) (p : Int × Int) : List (Int × Int) := insP (bis (geP p F) 0 F.length) p F
theorem insP_perm {k p F} : (insP k p F).Perm (p :: F) := by
  unfold insP
  have h := List.perm_middle (a := p) (l₁ := F.take k) (l₂ := F.drop k)
  rwa [List.take_append_drop] at h
theorem insP_sorted {k p F} {R : Int × Int → Int × Int → Prop} (hF : F.Pairwise R) (h1 : ∀ i, i < k → i < F.length → R (F.getD i (0, 0)) p) (h2 : ∀ i, k ≤ i → i < F.length → R p (F.getD i (0, 0)))
    (h3 : ∀ a b, a ∈ F → b ∈ F → R a p → R p b → R a b) : (insP k p F).Pairwise R := by
  unfold insP
  have ht : ∀ a ∈ F.take k, a ∈ F ∧ R a p := fun a ha => by
    obtain ⟨i, hi, rfl⟩ := List.getElem_of_mem ha
    rw [List.getElem_take]
    simp only [List.length_take] at hi
    have := h1 i (by lia) (by lia)
    have hi' : i < F.length := by lia
    simp [hi'] at this
    exact ⟨List.getElem_mem _, this⟩
  have hd : ∀ a ∈ F.drop k, a ∈ F ∧ R p a := fun a ha => by
    obtain ⟨i, hi, rfl⟩ := List.getElem_of_mem ha
    rw [List.getElem_drop]
    simp only [List.length_drop] at hi
    have := h2 (k + i) (by exact Nat.le_add_right _ _) (by omega)
    have hi' : k + i < F.length := by omega
    simp [hi'] at this
    exact ⟨List.getElem_mem _, this⟩
  refine List.pairwise_append.mpr ⟨hF.sublist (List.take_sublist _ _), List.pairwise_cons.mpr ⟨fun a ha => (hd a ha).2, hF.sublist (List.drop_sublist _ _)⟩, fun a ha b hb => ?_⟩
  rcases List.mem_cons.mp hb with rfl | hb
  · exact (ht a ha).2
  · exact h3 a b (ht a ha).1 (hd b hb).1 (ht a ha).2 (hd b hb).2
theorem plt_iff {a b : Int × Int} : plt a b = true ↔ a.1 < b.1 ∨ (a.1 = b.1 ∧ a.2 < b.2) := by simp [plt]
theorem fst_le {F : List (Int × Int)} {f : Int × Int → Int × Int} (hf : ∀ p, (f p).1 = p.1) (h : F.Pairwise fun a b => plt (f a) (f b) = true) {i j : Nat} (hij : i ≤ j) (hj : j < F.length) : (F.getD i (0, 0)).1 ≤ (F.getD j (0, 0)).1 := by
  rcases Nat.lt_or_ge i j with q | q
  · have := List.pairwise_iff_getElem.mp h i j (by exact Nat.lt_trans (by assumption) (by assumption)) hj q
    have hi : i < F.length := by exact Nat.lt_trans (by assumption) (by assumption)
    rw [plt_iff, hf, hf] at this
    simp [hi, hj]; omega
  · obtain rfl : i = j := by lia
    exact Int.le_refl _
theorem lex_unique {a b : List (Int × Int)} {f : Int × Int → Int × Int} (hf : ∀ x y, f x = f y → x = y) (h : a.Perm b) (ha : a.Pairwise fun x y => plt (f x) (f y) = true) (hb : b.Pairwise fun x y => plt (f x) (f y) = true) : a = b :=
  List.Perm.eq_of_pairwise (fun x y _ _ h1 h2 => by rw [plt_iff] at h1 h2; lia) ha hb h

open PySem PySem.W PyProof.Rows
noncomputable def tupI (p : Int × Nat) : D := .tup [.int p.2, .int p.1]
theorem enumD_ints (l : List Int) : enumD 0 (l.map D.int) = l.zipIdx.map tupI := by
  rw [enumD_map, List.zipIdx_map, List.map_map, List.map_map]
  refine List.map_congr_left fun p _ => ?_
  simp [tupI]
/-! law 2: pairs laid in turn, from the left at odd turns -/
noncomputable def tsg (t : Int) : Int := if t.fmod 2 != 0 then -t else t
noncomputable def sg (p : Int × Int) : Int × Int := (p.1, tsg p.2)
noncomputable def prT (p : Int × Nat) : Int × Int := (p.1, (p.2 : Int))
noncomputable def stepT (F : List (Int × Int)) (p : Int × Int) : List (Int × Int) := if p.2.fmod 2 != 0 then stepL F p else stepR F p
theorem tsg_le {t : Int} (h : 0 ≤ t) : tsg t ≤ t ∧ -t ≤ tsg t := by
  unfold tsg; split <;> omega
noncomputable abbrev SgUp (F : List (Int × Int)) : Prop := F.Pairwise fun a b => plt (sg a) (sg b) = true
theorem stepT_perm {F p} : (stepT F p).Perm (p :: F) := by
  unfold stepT; split <;> exact insP_perm
theorem stepT_sorted {F p} (hF : SgUp F) (hn : ∀ q ∈ F, 0 ≤ q.2 ∧ q.2 < p.2) : SgUp (stepT F p) := by
  unfold stepT
  split
  next ho =>
    have e : tsg p.2 = -p.2 := by unfold tsg; rw [if_pos ho]
    obtain ⟨_, _, c, d⟩ := bis_spec (p := geP p F) (lo := 0) (hi := F.length) (Nat.zero_le _) fun i j _ h2 h3 hp => by
      have := fst_le (f := sg) (fun _ => rfl) hF h2 h3
      simp only [geP, Bool.not_eq_true', decide_eq_false_iff_not] at *; lia
    refine insP_sorted hF (fun i h1 h2 => ?_) (fun i h1 h2 => ?_) fun a b _ _ h1 h2 => ?_
    · have := c i (Nat.zero_le _) h1
      simp only [geP, Bool.not_eq_false', decide_eq_true_eq] at this
      rw [plt_iff]; simp only [sg]; lia
    · have := d i h1 h2
      have h3 : F.getD i (0, 0) ∈ F := by simp [h2]
      have h4 := hn _ h3
      have h5 := tsg_le h4.1
      simp only [geP, Bool.not_eq_true', decide_eq_false_iff_not] at *
      rw [plt_iff]; simp only [sg, e]; (clear d h3 h2 h1 c e hn hF; lia)
    · rw [plt_iff] at *; lia
  next ho =>
    have e : tsg p.2 = p.2 := by unfold tsg; rw [if_neg ho]
    obtain ⟨_, _, c, d⟩ := bis_spec (p := gtP p F) (lo := 0) (hi := F.length) (Nat.zero_le _) fun i j _ h2 h3 hp => by
      have := fst_le (f := sg) (fun _ => rfl) hF h2 h3
      simp only [gtP, decide_eq_true_eq] at *; lia
    refine insP_sorted hF (fun i h1 h2 => ?_) (fun i h1 h2 => ?_) fun a b _ _ h1 h2 => ?_
    · have := c i (Nat.zero_le _) h1
      have h3 : F.getD i (0, 0) ∈ F := by simp [h2]
      have h4 := hn _ h3
      have h5 := tsg_le h4.1
      simp only [gtP, decide_eq_false_iff_not] at *
      rw [plt_iff]; simp only [sg, e]; (clear c h3 h2 h1 d e ho hn hF; omega)
    · have := d i h1 h2
      simp only [gtP, decide_eq_true_eq] at this
      rw [plt_iff]; simp only [sg]; lia
    · rw [plt_iff] at *; lia
theorem turns_up {ns : List Int} {done rest : List (Int × Nat)} {q : Int × Nat} (h : ns.zipIdx = done ++ q :: rest) : ∀ r ∈ done, r.2 < q.2 := by
  have h1 : (ns.zipIdx).Pairwise fun a b => a.2 < b.2 := by
    rw [← List.pairwise_map (f := Prod.snd) (R := (· < ·)), List.zipIdx_map_snd]
    exact List.pairwise_lt_range'
  rw [h] at h1
  exact fun r hr => (List.pairwise_append.mp h1).2.2 r hr q (.head _)
set_option tactic.hygienic true in
theorem sg_inj {a b : Int × Int} (ha : 0 ≤ a.2) (hb : 0 ≤ b.2) (h : (sg a).2 = (sg b).2) : a.2 = b.2 := by
  simp only [sg, tsg] at h
  split at h <;> split at h <;> rename_i h1 h2 <;> omega
theorem tied_nodup {ns : List Int} : ((ns.zipIdx.map prT).map sg).Nodup := by
  have h1 : (ns.zipIdx).Pairwise fun a b => a.2 < b.2 := by
    rw [← List.pairwise_map (f := Prod.snd) (R := (· < ·)), List.zipIdx_map_snd]
    exact List.pairwise_lt_range'
  rw [List.map_map]
  refine List.pairwise_map.mpr (h1.imp fun {a b} h e => ?_)
  have := sg_inj (a := prT a) (b := prT b) (Int.natCast_nonneg _) (Int.natCast_nonneg _) (congrArg Prod.snd e)
  simp only [prT] at this
  lia

open PySem PySem.W PySem.Calls PyProof.Rows
set_option maxRecDepth 20000
set_option hygiene false in
local macro_rules | `(tactic| walk_at "rho") => `(tactic| first | with_reducible assumption | with_reducible exact upd_same | ((with_reducible refine' upd_ne ?zqah ?zqak); (case zqah => decide); (case zqak => walk_at "rho")) | with_reducible exact rho_hit | ((with_reducible refine' rho_miss ?zqah ?zqak); (case zqah => decide); (case zqak => walk_at "rho")) | ((with_reducible refine' restr_get ?zqah ?zqak); (case zqah => exact rfl); (case zqak => walk_at "rho")))
set_option hygiene false in
local macro_rules | `(tactic| walk_at "kind") => `(tactic| first | (refine' kind_of ?zqbh ?zqbe; (case zqbh => assumption); (case zqbe => exact rfl)) | (refine' kindX_of ?zqbh ?zqbe; (case zqbh => assumption); (case zqbe => exact rfl)) | (refine' kindC_of ?zqbh ?zqbe; (case zqbh => assumption); (case zqbe => exact rfl)))
set_option hygiene false in
local macro_rules | `(tactic| walk_at "isk") => `(tactic| (refine' ns_of ?zqch ?zqce; (case zqch => assumption); (case zqce => exact rfl)))
set_option hygiene false in
local macro_rules | `(tactic| walk_at "mem") => `(tactic| first | with_reducible assumption | with_reducible exact mem_hd | ((with_reducible refine' mem_tl ?zqdh); (case zqdh => walk_at "mem")) | ((with_reducible refine' setMu_has ?zqdh); (case zqdh => walk_at "mem")))
set_option hygiene false in
local macro_rules | `(tactic| walk_at "rd") => `(tactic| first | with_reducible assumption | with_reducible exact Rd.lst | ((with_reducible refine' Rd.mu ?zqeh); (case zqeh => walk_at "mem")))
set_option hygiene false in
local macro_rules | `(tactic| walk_at "st") => `(tactic| first
  | with_reducible first | refine next_of ?_ | refine ret_of ?_ | refine tt_of ?_ | refine ff_of ?_ | refine TBool.of ?_ | refine Ex.cons ?_ | refine Ex.nil ?_ | refine Ex1.ite ?_ | refine Ex1.ret ?_ | refine Ev.cint ?_ | refine Ev.cnone ?_ | refine Ev.cstr ?_ | refine Ev.cbool ?_ | refine Ev.binop ?_ | refine Ev.unop ?_ | refine Act1.neg ?_ | refine Ev.sub ?_ | refine Ev.slc ?_ | refine EvP.none ?_ | refine EvP.some ?_ | refine Ev.tuple ?_ | refine EvL.nil ?_ | refine EvK.nil ?_ | refine EvK.cons ?_ | refine keep_blt ?_ | refine keep_type ?_ | refine keep_clo ?_ | refine Act2.add ?_ | refine Act2.sub ?_ | refine Act2.lt ?_ | refine Act2.gt ?_ | refine Act2.eq ?_ | refine Act2.ne ?_
  | ((with_reducible refine' Ex1.assign ?_ ?zqfh1 ?zqfh2); (case zqfh1 => walk_at "bind"); (case zqfh2 => exact rfl))
  | ((with_reducible refine' Ev.name ?zqfhx ?_ ?zqfh1 ?zqfh2); (case zqfhx => walk_at "rho"); (case zqfh1 => decide); (case zqfh2 => decide))
  | ((with_reducible refine' Ev.glob ?zqfh1 ?zqfh2 ?_ ?zqfh3); (case zqfh1 => walk_at "kind"); (case zqfh2 => walk_at "isk"); (case zqfh3 => decide))
  | ((with_reducible refine' Ev.blt ?zqfh1 ?zqfh2 ?zqfh3 ?_ ?zqfh4 ?zqfh5); (case zqfh1 => walk_at "kind"); (case zqfh2 => walk_at "isk"); (case zqfh3 => boot_fast); (case zqfh4 => decide); (case zqfh5 => decide))
  | ((with_reducible refine' Ev.cmp ?_ ?zqfh); (case zqfh => with_unfolding_all rfl))
  | ((with_reducible refine' Et.cmp ?_ ?zqfh); (case zqfh => with_unfolding_all rfl))
  | ((with_reducible refine' len_and ?zqfhl ?_); (case zqfhl => (simp only [List.length_cons, List.length_nil]; decide)))
  | ((with_reducible refine' Ev.call ?_ ?zqfh1 ?zqfh2 ?zqfh3); (case zqfh1 => exact rfl); (case zqfh2 => exact rfl); (case zqfh3 => exact rfl))
  | ((with_reducible refine' EvL.cons ?_ ?zqfhp); (case zqfhp => exact rfl))
  | ((with_reducible refine' keep_fn ?zqfh1 ?zqfh2 ?_); (case zqfh1 => assumption); (case zqfh2 => exact rfl))
  | ((with_reducible refine' keep_as ?zqfh1 ?_); (case zqfh1 => with_reducible assumption))
  | ((with_reducible refine' Act2.floordiv ?zqfh1 ?zqfh2 ?_); (case zqfh1 => decide); (case zqfh2 => decide))
  | ((with_reducible refine' Act2.mod ?zqfh ?_); (case zqfh => decide))
  | ((with_reducible refine' Act2.isnone ?zqfh ?_); (case zqfh => exact rfl))
  | ((with_reducible refine' Act2.isnotnone ?zqfh ?_); (case zqfh => exact rfl)))
set_option hygiene false in
local macro_rules | `(tactic| walk_at "bind") => `(tactic| first | (refine' bindable_local ?zqghbk; (case zqghbk => walk_at "kind")) | (refine' bindable_cell ?zqgh1 ?zqgh2 ?zqgh3; (case zqgh1 => assumption); (case zqgh2 => assumption); (case zqgh3 => exact rfl)))
set_option hygiene false in
local macro_rules | `(tactic| walk_at "ck") => `(tactic| exact ⟨by subst_vars; rfl, by decide, rfl, by decide, by first | exact gens1 ⟨rfl, fun _ _ => rfl⟩ | exact gens2 ⟨rfl, fun _ _ => rfl⟩ ⟨rfl, fun _ _ => rfl⟩⟩)
set_option hygiene false in
local macro_rules | `(tactic| walk_at "comp1") => `(tactic| (refine' Ex1.assignComp (by omega) ?zqick ?zqihb ?zqihs ?_; (case zqick => walk_at "ck"); (case zqihb => walk_at "bind"); (case zqihs => (subst_vars; exact rfl))))
set_option hygiene false in
local macro_rules | `(tactic| walk_at "comp") => `(tactic| (refine' Ev.comp (by omega) ?zqjck ?_; (case zqjck => walk_at "ck")))
set_option hygiene false in
local macro_rules | `(tactic| walk_at "compS") => `(tactic| first | walk_at "comp1" | (refine' Ex1.assign ?_ ?zqkh1 ?zqkh2; (case zqkh1 => walk_at "bind"); (case zqkh2 => (subst_vars; exact rfl)); walk_at "comp"))
/-- loads alone, run over what is known to stand -/
noncomputable def ldRun {α : Type} (K : Frag) : Nat → Sem α → Option α
  | 0, _ => none
  | n + 1, t => match t with
    | .pure v => some v
    | .load a _ k => (K.lookup a).elim none fun o => ldRun K n (k o)
    | _ => none
theorem ldRun_ok {α : Type} {K : Frag} {M : Model} {A : Around} {E : Value → Shared → Prop} {s : Shared} {Q : α → Shared → Prop} {v : α} (X : K.In s.heap) (n : Nat) : ∀ (t : Sem α), ldRun K n t = some v → Q v s → wpAny M A t Q E s := by
  induction n with
  | zero => exact fun _ e _ => nomatch e
  | succ n ih =>
    intro t
    cases t with
    | pure a => intro e q; cases e; exact wpAny_pure q
    | load a p k =>
      intro e q
      have e : (K.lookup a).elim none (fun o => ldRun K n (k o)) = some v := e
      cases hk : K.lookup a with
      | none => rw [hk] at e; cases e
      | some o => rw [hk] at e; exact wp_ld rfl (X _ _ hk) (ih (k o) e q)
    | _ => exact fun e => nomatch e
theorem bindsTo_of {g : G} {K : Frag} {s : Shared} {fd : FuncData} {as : Args} {bs : List (Str × Value)} (hK : g.K = K) (X : g.K.In s.heap) (n : Nat) (e : ldRun K n (bindArgs fd as) = some bs) : BindsTo s fd as bs :=
  fun _ _ _ _ hq => ldRun_ok (hK ▸ X) n _ e hq
inductive BB : Addr → List D → List (Str × D) → List (Str × D) → Prop
  | c23_20 (a b : D) : BB 23 [a, b] [] [("a", a), ("x", b), ("lo", .int 0), ("hi", .none), ("key", .none)]
  | c23_30 (a b c : D) : BB 23 [a, b, c] [] [("a", a), ("x", b), ("lo", c), ("hi", .none), ("key", .none)]
  | c23_21 (a b e : D) : BB 23 [a, b] [("key", e)] [("a", a), ("x", b), ("lo", .int 0), ("hi", .none), ("key", e)]
  | c23_41 (a b c d e : D) : BB 23 [a, b, c, d] [("key", e)] [("a", a), ("x", b), ("lo", c), ("hi", d), ("key", e)]
  | c32_40 (a b c d : D) : BB 32 [a, b, c, d] [] [("a", a), ("x", b), ("lo", c), ("hi", d), ("key", .none)]
  | c32_21 (a b e : D) : BB 32 [a, b] [("key", e)] [("a", a), ("x", b), ("lo", .int 0), ("hi", .none), ("key", e)]
  | c32_31 (a b c e : D) : BB 32 [a, b, c] [("key", e)] [("a", a), ("x", b), ("lo", c), ("hi", .none), ("key", e)]
  | c32_41 (a b c d e : D) : BB 32 [a, b, c, d] [("key", e)] [("a", a), ("x", b), ("lo", c), ("hi", d), ("key", e)]
  | c41_20 (a b : D) : BB 41 [a, b] [] [("a", a), ("x", b), ("lo", .int 0), ("hi", .none), ("key", .none)]
  | c41_21 (a b e : D) : BB 41 [a, b] [("key", e)] [("a", a), ("x", b), ("lo", .int 0), ("hi", .none), ("key", e)]
  | c41_31 (a b c e : D) : BB 41 [a, b, c] [("key", e)] [("a", a), ("x", b), ("lo", c), ("hi", .none), ("key", e)]
  | c41_41 (a b c d e : D) : BB 41 [a, b, c, d] [("key", e)] [("a", a), ("x", b), ("lo", c), ("hi", d), ("key", e)]
  | c50_30 (a b c : D) : BB 50 [a, b, c] [] [("a", a), ("x", b), ("lo", c), ("hi", .none), ("key", .none)]
  | c50_40 (a b c d : D) : BB 50 [a, b, c, d] [] [("a", a), ("x", b), ("lo", c), ("hi", d), ("key", .none)]
  | c50_21 (a b e : D) : BB 50 [a, b] [("key", e)] [("a", a), ("x", b), ("lo", .int 0), ("hi", .none), ("key", e)]
  | c50_41 (a b c d e : D) : BB 50 [a, b, c, d] [("key", e)] [("a", a), ("x", b), ("lo", c), ("hi", d), ("key", e)]
  | c55 (a b c : D) : BB 55 [a, b, c] [] [("weights", a), ("seek", b), ("more", c)]
  | c62 (a b c d e f : D) : BB 62 [a, b, c, d, e, f] [] [("weights", a), ("points", b), ("low", c), ("high", d), ("begin", e), ("size", f)]
  | c67 (a : D) : BB 67 [a] [] [("weights", a)]
  | c74 (a : D) : BB 74 [a] [] [("levels", a)]
  | c81 (a b : D) : BB 81 [a, b] [] [("row", a), ("put", b)]
  | c88 (a : D) : BB 88 [a] [] [("weights", a)]
  | c95 (a : D) : BB 95 [a] [] [("deed", a)]
  | c100 (a : D) : BB 100 [a] [] [("script", a)]
theorem BB.ok {g : G} {fa : Addr} {args kws bd} (hK : g.K = hd.heap_39 g.w.params) (h : BB fa args kws bd) : BindsAt g fa args kws bd := by
  induction h
  · exact bindsAt_of hK rfl rfl (Binds.mk20 fun F s v1 v2 X s1 s2 => ⟨[("a", v1), ("x", v2), ("lo", .int 0 _), ("hi", .none), ("key", .none)], bindsTo_of hK X 9 rfl, .cons s1 (.cons s2 (.cons (.int _ _) (.cons .none (.cons .none (.nil)))))⟩)
  · exact bindsAt_of hK rfl rfl (Binds.mk30 fun F s v1 v2 v3 X s1 s2 s3 => ⟨[("a", v1), ("x", v2), ("lo", v3), ("hi", .none), ("key", .none)], bindsTo_of hK X 9 rfl, .cons s1 (.cons s2 (.cons s3 (.cons .none (.cons .none (.nil)))))⟩)
  · exact bindsAt_of hK rfl rfl (Binds.mk21 fun F s v1 v2 v3 X s1 s2 s3 => ⟨[("a", v1), ("x", v2), ("lo", .int 0 _), ("hi", .none), ("key", v3)], bindsTo_of hK X 9 rfl, .cons s1 (.cons s2 (.cons (.int _ _) (.cons .none (.cons s3 (.nil)))))⟩)
  · exact bindsAt_of hK rfl rfl (Binds.mk41 fun F s v1 v2 v3 v4 v5 X s1 s2 s3 s4 s5 => ⟨[("a", v1), ("x", v2), ("lo", v3), ("hi", v4), ("key", v5)], bindsTo_of hK X 9 rfl, .cons s1 (.cons s2 (.cons s3 (.cons s4 (.cons s5 (.nil)))))⟩)
  · exact bindsAt_of hK rfl rfl (Binds.mk40 fun F s v1 v2 v3 v4 X s1 s2 s3 s4 => ⟨[("a", v1), ("x", v2), ("lo", v3), ("hi", v4), ("key", .none)], bindsTo_of hK X 9 rfl, .cons s1 (.cons s2 (.cons s3 (.cons s4 (.cons .none (.nil)))))⟩)
  · exact bindsAt_of hK rfl rfl (Binds.mk21 fun F s v1 v2 v3 X s1 s2 s3 => ⟨[("a", v1), ("x", v2), ("lo", .int 0 _), ("hi", .none), ("key", v3)], bindsTo_of hK X 9 rfl, .cons s1 (.cons s2 (.cons (.int _ _) (.cons .none (.cons s3 (.nil)))))⟩)
  · exact bindsAt_of hK rfl rfl (Binds.mk31 fun F s v1 v2 v3 v4 X s1 s2 s3 s4 => ⟨[("a", v1), ("x", v2), ("lo", v3), ("hi", .none), ("key", v4)], bindsTo_of hK X 9 rfl, .cons s1 (.cons s2 (.cons s3 (.cons .none (.cons s4 (.nil)))))⟩)
  · exact bindsAt_of hK rfl rfl (Binds.mk41 fun F s v1 v2 v3 v4 v5 X s1 s2 s3 s4 s5 => ⟨[("a", v1), ("x", v2), ("lo", v3), ("hi", v4), ("key", v5)], bindsTo_of hK X 9 rfl, .cons s1 (.cons s2 (.cons s3 (.cons s4 (.cons s5 (.nil)))))⟩)
  · exact bindsAt_of hK rfl rfl (Binds.mk20 fun F s v1 v2 X s1 s2 => ⟨[("a", v1), ("x", v2), ("lo", .int 0 _), ("hi", .none), ("key", .none)], bindsTo_of hK X 9 rfl, .cons s1 (.cons s2 (.cons (.int _ _) (.cons .none (.cons .none (.nil)))))⟩)
  · exact bindsAt_of hK rfl rfl (Binds.mk21 fun F s v1 v2 v3 X s1 s2 s3 => ⟨[("a", v1), ("x", v2), ("lo", .int 0 _), ("hi", .none), ("key", v3)], bindsTo_of hK X 9 rfl, .cons s1 (.cons s2 (.cons (.int _ _) (.cons .none (.cons s3 (.nil)))))⟩)
  · exact bindsAt_of hK rfl rfl (Binds.mk31 fun F s v1 v2 v3 v4 X s1 s2 s3 s4 => ⟨[("a", v1), ("x", v2), ("lo", v3), ("hi", .none), ("key", v4)], bindsTo_of hK X 9 rfl, .cons s1 (.cons s2 (.cons s3 (.cons .none (.cons s4 (.nil)))))⟩)
  · exact bindsAt_of hK rfl rfl (Binds.mk41 fun F s v1 v2 v3 v4 v5 X s1 s2 s3 s4 s5 => ⟨[("a", v1), ("x", v2), ("lo", v3), ("hi", v4), ("key", v5)], bindsTo_of hK X 9 rfl, .cons s1 (.cons s2 (.cons s3 (.cons s4 (.cons s5 (.nil)))))⟩)
  · exact bindsAt_of hK rfl rfl (Binds.mk30 fun F s v1 v2 v3 X s1 s2 s3 => ⟨[("a", v1), ("x", v2), ("lo", v3), ("hi", .none), ("key", .none)], bindsTo_of hK X 9 rfl, .cons s1 (.cons s2 (.cons s3 (.cons .none (.cons .none (.nil)))))⟩)
  · exact bindsAt_of hK rfl rfl (Binds.mk40 fun F s v1 v2 v3 v4 X s1 s2 s3 s4 => ⟨[("a", v1), ("x", v2), ("lo", v3), ("hi", v4), ("key", .none)], bindsTo_of hK X 9 rfl, .cons s1 (.cons s2 (.cons s3 (.cons s4 (.cons .none (.nil)))))⟩)
  · exact bindsAt_of hK rfl rfl (Binds.mk21 fun F s v1 v2 v3 X s1 s2 s3 => ⟨[("a", v1), ("x", v2), ("lo", .int 0 _), ("hi", .none), ("key", v3)], bindsTo_of hK X 9 rfl, .cons s1 (.cons s2 (.cons (.int _ _) (.cons .none (.cons s3 (.nil)))))⟩)
  · exact bindsAt_of hK rfl rfl (Binds.mk41 fun F s v1 v2 v3 v4 v5 X s1 s2 s3 s4 s5 => ⟨[("a", v1), ("x", v2), ("lo", v3), ("hi", v4), ("key", v5)], bindsTo_of hK X 9 rfl, .cons s1 (.cons s2 (.cons s3 (.cons s4 (.cons s5 (.nil)))))⟩)
  · exact bindsAt_of hK rfl rfl (Binds.mk30 fun F s v1 v2 v3 X s1 s2 s3 => ⟨[("weights", v1), ("seek", v2), ("more", v3)], bindsTo_of hK X 9 rfl, .cons s1 (.cons s2 (.cons s3 (.nil)))⟩)
  · exact bindsAt_of hK rfl rfl (Binds.mk60 fun F s v1 v2 v3 v4 v5 v6 X s1 s2 s3 s4 s5 s6 => ⟨[("weights", v1), ("points", v2), ("low", v3), ("high", v4), ("begin", v5), ("size", v6)], bindsTo_of hK X 9 rfl, .cons s1 (.cons s2 (.cons s3 (.cons s4 (.cons s5 (.cons s6 (.nil))))))⟩)
  · exact bindsAt_of hK rfl rfl (Binds.mk10 fun F s v1 X s1 => ⟨[("weights", v1)], bindsTo_of hK X 9 rfl, .cons s1 (.nil)⟩)
  · exact bindsAt_of hK rfl rfl (Binds.mk10 fun F s v1 X s1 => ⟨[("levels", v1)], bindsTo_of hK X 9 rfl, .cons s1 (.nil)⟩)
  · exact bindsAt_of hK rfl rfl (Binds.mk20 fun F s v1 v2 X s1 s2 => ⟨[("row", v1), ("put", v2)], bindsTo_of hK X 9 rfl, .cons s1 (.cons s2 (.nil))⟩)
  · exact bindsAt_of hK rfl rfl (Binds.mk10 fun F s v1 X s1 => ⟨[("weights", v1)], bindsTo_of hK X 9 rfl, .cons s1 (.nil)⟩)
  · exact bindsAt_of hK rfl rfl (Binds.mk10 fun F s v1 X s1 => ⟨[("deed", v1)], bindsTo_of hK X 9 rfl, .cons s1 (.nil)⟩)
  · exact bindsAt_of hK rfl rfl (Binds.mk10 fun F s v1 X s1 => ⟨[("script", v1)], bindsTo_of hK X 9 rfl, .cons s1 (.nil)⟩)

open PySem PySem.W PySem.Calls PyProof.Rows
set_option maxRecDepth 20000
/-- what the names of bisect's functions hold -/
inductive BsP (a x kd : D) (lo hi : Nat) (μ : Mu) (ρ : Str → Option D) (M : Mu) : Prop
  | mk (hM : M = μ) (h1 : ρ "a" = some a) (h2 : ρ "x" = some x) (h3 : ρ "lo" = some (.int lo)) (h4 : ρ "hi" = some (.int hi)) (h5 : ρ "key" = some kd)
inductive BsW (a x : D) (n : Nat) (p : Nat → Bool) (lo hi : Nat) (μ : Mu) (k : Nat) (ρ : Str → Option D) (M : Mu) : Prop
  | mk (lo' hi' : Nat) (hM : M = μ) (hh : hi' ≤ n) (hb : bis p lo' hi' = bis p lo hi) (hk : k = hi' - lo') (h1 : ρ "a" = some a) (h2 : ρ "x" = some x) (h3 : ρ "lo" = some (.int lo')) (h4 : ρ "hi" = some (.int hi'))
inductive BsV (a x kd : D) (n : Nat) (p : Nat → Bool) (lo hi : Nat) (μ : Mu) (k : Nat) (ρ : Str → Option D) (M : Mu) : Prop
  | mk (lo' hi' : Nat) (hM : M = μ) (hh : hi' ≤ n) (hb : bis p lo' hi' = bis p lo hi) (hk : k = hi' - lo') (h1 : ρ "a" = some a) (h2 : ρ "x" = some x) (h3 : ρ "lo" = some (.int lo')) (h4 : ρ "hi" = some (.int hi')) (h5 : ρ "key" = some kd)
section
variable {g : G} (hK : g.K = hd.heap_39 g.w.params)
include hK

theorem bisR_body {a x : D} {ds : List D} {lo hi : Nat} {p : Nat → Bool} {n : Nat} {μ : Mu} {Q : D → Mu → Prop} {args kws hiD} (hb : BindsAt g 32 args kws [("a", a), ("x", x), ("lo", .int lo), ("hi", hiD), ("key", .none)])
    (hr : Rd μ a ds) (hl : (ds.length : Int) < 2 ^ 62) (hhi : hi ≤ ds.length) (hhd : hiD = .int hi ∨ (hiD = .none ∧ hi = ds.length))
    (hp : ∀ i d, ds[i]? = some d → LtOk x d (p i)) (h : Q (.int (bis p lo hi)) μ) :
    Calls g (n + 1) (.val (.ref 32)) args kws μ Q := by
  refine' Calls.enter (fa := 32) (hK := ?a) (hfo := ?b) (hbody := ?c) (hclo := ?d) (hglob := ?e) (hblt := ?f) (hcode := ?gg) (hco := ?h) (hgen := ?i) (hk := ?j)
    (bd := [("a", a), ("x", x), ("lo", .int lo), ("hi", hiD), ("key", .none)]) ?bb (nm := ["a", "x", "lo", "hi", "key"]) (hnm := rfl) (hnames := ?k) (by decide) (hcn := ?l) ?_
  case a => rw [hK]; rfl
  case b => rfl
  case c => rfl
  case d => rfl
  case e => rfl
  case f => rfl
  case gg => rw [hK]; rfl
  case h => rfl
  case i => rfl
  case j => rfl
  case k => rfl
  case l => decide
  case bb => exact hb _ _ (by rw [hK]; rfl) rfl
  intro env own L he ho
  repeat' walk_at "st"
  refine dec_of (fun h => absurd h (by lia)) fun _ => ?_
  refine Ex.nil (next_of ?_)
  refine Ex.seq (BsP a x .none lo hi μ) ?_ ?_
  · rcases hhd with rfl | ⟨rfl, rfl⟩
    · repeat' walk_at "st"
      exact ⟨rfl, rfl, by walk_at "rho", by walk_at "rho", by walk_at "rho", by walk_at "rho", by walk_at "rho"⟩
    · repeat' walk_at "st"
      refine len_D hr hl ?_
      repeat' walk_at "st"
      exact ⟨rfl, rfl, by walk_at "rho", by walk_at "rho", by walk_at "rho", by walk_at "rho", by walk_at "rho"⟩
  rintro ρ μ' ⟨hM, h1, h2, h3, h4, h5⟩
  subst hM
  repeat' walk_at "st"
  refine Ex1.while (I := BsW a x ds.length p lo hi _) (hi - lo)
    ⟨lo, hi, rfl, hhi, rfl, rfl, h1, h2, h3, h4⟩ ?_
  rintro k ρ μ₁ ⟨lo', hi', rfl, hh, hb, rfl, h1, h2, h3, h4⟩
  repeat' walk_at "st"
  refine dec_of (fun hlt => ?_) fun hge => ?_
  · have hm : ((lo' : Int) + hi').fdiv 2 = (((lo' + hi') / 2 : Nat) : Int) := by rw [Int.fdiv_eq_ediv_of_nonneg _ (by decide)]; lia
    have hlt' : lo' < hi' := by lia
    have hb' := hb
    rw [bis_eq, if_pos hlt'] at hb'
    repeat' walk_at "st"
    have hidx : (lo' + hi') / 2 < ds.length := by lia
    rw [hm]
    refine Act2.item hr (d := ds[(lo' + hi') / 2]) (idx?_nat.trans (List.getElem?_eq_getElem hidx)) hl ?_ (fun _ _ => rfl)
    repeat' walk_at "st"
    refine hp _ _ (List.getElem?_eq_getElem hidx) _ _ _ _ ?_
    repeat' walk_at "st"
    cases hpm : p ((lo' + hi') / 2) with
    | true =>
      rw [hpm, if_pos rfl] at hb'
      try refine (show _ from Eq.mp (by rw [Bool.not_true]) ?_)
      repeat' walk_at "st"
      exact ⟨(lo' + hi') / 2 - lo', by lia, lo', (lo' + hi') / 2, rfl, by lia, hb', rfl, by walk_at "rho", by walk_at "rho", by walk_at "rho", by walk_at "rho"⟩
    | false =>
      rw [hpm, if_neg (by decide)] at hb'
      try refine (show _ from Eq.mp (by rw [Bool.not_false]) ?_)
      repeat' walk_at "st"
      exact ⟨hi' - ((lo' + hi') / 2 + 1), by lia, (lo' + hi') / 2 + 1, hi', rfl, by lia, hb', rfl, by walk_at "rho", by walk_at "rho", upd_same.trans (congrArg (fun z => some (D.int z)) (by lia)), by walk_at "rho"⟩
  · repeat' walk_at "st"
    rw [bis_eq, if_neg (by lia)] at hb
    rw [hb]; exact h

theorem bisRk_body {a x kd : D} {ds : List D} {lo hi : Nat} {p : Nat → Bool} {n : Nat} {μ : Mu} {Q : D → Mu → Prop} {args kws hiD} (hb : BindsAt g 32 args kws [("a", a), ("x", x), ("lo", .int lo), ("hi", hiD), ("key", kd)])
    (hr : Rd μ a ds) (hl : (ds.length : Int) < 2 ^ 62) (hhi : hi ≤ ds.length) (hhd : hiD = .int hi ∨ (hiD = .none ∧ hi = ds.length))
    (hkn : isNone kd = some false) (hkk : KeepD g kd) (hp : ∀ i d, ds[i]? = some d → ∃ e, KeyOk g n kd d e ∧ LtOk x e (p i)) (h : Q (.int (bis p lo hi)) μ) :
    Calls g (n + 1) (.val (.ref 32)) args kws μ Q := by
  refine' Calls.enter (fa := 32) (hK := ?a) (hfo := ?b) (hbody := ?c) (hclo := ?d) (hglob := ?e) (hblt := ?f) (hcode := ?gg) (hco := ?h) (hgen := ?i) (hk := ?j)
    (bd := [("a", a), ("x", x), ("lo", .int lo), ("hi", hiD), ("key", kd)]) ?bb (nm := ["a", "x", "lo", "hi", "key"]) (hnm := rfl) (hnames := ?k) (by decide) (hcn := ?l) ?_
  case a => rw [hK]; rfl
  case b => rfl
  case c => rfl
  case d => rfl
  case e => rfl
  case f => rfl
  case gg => rw [hK]; rfl
  case h => rfl
  case i => rfl
  case j => rfl
  case k => rfl
  case l => decide
  case bb => exact hb _ _ (by rw [hK]; rfl) rfl
  intro env own L he ho
  repeat' walk_at "st"
  refine dec_of (fun h => absurd h (by lia)) fun _ => ?_
  refine Ex.nil (next_of ?_)
  refine Ex.seq (BsP a x kd lo hi μ) ?_ ?_
  · rcases hhd with rfl | ⟨rfl, rfl⟩
    · repeat' walk_at "st"
      exact ⟨rfl, rfl, by walk_at "rho", by walk_at "rho", by walk_at "rho", by walk_at "rho", by walk_at "rho"⟩
    · repeat' walk_at "st"
      refine len_D hr hl ?_
      repeat' walk_at "st"
      exact ⟨rfl, rfl, by walk_at "rho", by walk_at "rho", by walk_at "rho", by walk_at "rho", by walk_at "rho"⟩
  rintro ρ μ' ⟨hM, h1, h2, h3, h4, h5⟩
  subst hM
  repeat' walk_at "st"
  refine Act2.isnone hkn ?_
  repeat' walk_at "st"
  refine Ex1.while (I := BsV a x kd ds.length p lo hi _) (hi - lo)
    ⟨lo, hi, rfl, hhi, rfl, rfl, h1, h2, h3, h4, h5⟩ ?_
  rintro k ρ μ₁ ⟨lo', hi', rfl, hh, hb, rfl, h1, h2, h3, h4, h5⟩
  repeat' walk_at "st"
  refine dec_of (fun hlt => ?_) fun hge => ?_
  · have hm : ((lo' : Int) + hi').fdiv 2 = (((lo' + hi') / 2 : Nat) : Int) := by rw [Int.fdiv_eq_ediv_of_nonneg _ (by decide)]; lia
    have hlt' : lo' < hi' := by lia
    have hb' := hb
    rw [bis_eq, if_pos hlt'] at hb'
    repeat' walk_at "st"
    have hidx : (lo' + hi') / 2 < ds.length := by lia
    rw [hm]
    refine Act2.item hr (d := ds[(lo' + hi') / 2]) (idx?_nat.trans (List.getElem?_eq_getElem hidx)) hl ?_ (fun _ _ => rfl)
    obtain ⟨e, hke, hle⟩ := hp _ _ (List.getElem?_eq_getElem hidx)
    refine hke _ _ _ ?_
    repeat' walk_at "st"
    refine hle _ _ _ _ ?_
    repeat' walk_at "st"
    cases hpm : p ((lo' + hi') / 2) with
    | true =>
      rw [hpm, if_pos rfl] at hb'
      try refine (show _ from Eq.mp (by rw [Bool.not_true]) ?_)
      repeat' walk_at "st"
      exact ⟨(lo' + hi') / 2 - lo', by lia, lo', (lo' + hi') / 2, rfl, by lia, hb', rfl, by walk_at "rho", by walk_at "rho", by walk_at "rho", by walk_at "rho", by walk_at "rho"⟩
    | false =>
      rw [hpm, if_neg (by decide)] at hb'
      try refine (show _ from Eq.mp (by rw [Bool.not_false]) ?_)
      repeat' walk_at "st"
      exact ⟨hi' - ((lo' + hi') / 2 + 1), by lia, (lo' + hi') / 2 + 1, hi', rfl, by lia, hb', rfl, by walk_at "rho", by walk_at "rho", upd_same.trans (congrArg (fun z => some (D.int z)) (by lia)), by walk_at "rho", by walk_at "rho"⟩
  · repeat' walk_at "st"
    rw [bis_eq, if_neg (by lia)] at hb
    rw [hb]; exact h

theorem bisL_body {a x : D} {ds : List D} {lo hi : Nat} {p : Nat → Bool} {n : Nat} {μ : Mu} {Q : D → Mu → Prop} {args kws hiD} (hb : BindsAt g 50 args kws [("a", a), ("x", x), ("lo", .int lo), ("hi", hiD), ("key", .none)])
    (hr : Rd μ a ds) (hl : (ds.length : Int) < 2 ^ 62) (hhi : hi ≤ ds.length) (hhd : hiD = .int hi ∨ (hiD = .none ∧ hi = ds.length))
    (hp : ∀ i d, ds[i]? = some d → LtOk d x (!p i)) (h : Q (.int (bis p lo hi)) μ) :
    Calls g (n + 1) (.val (.ref 50)) args kws μ Q := by
  refine' Calls.enter (fa := 50) (hK := ?a) (hfo := ?b) (hbody := ?c) (hclo := ?d) (hglob := ?e) (hblt := ?f) (hcode := ?gg) (hco := ?h) (hgen := ?i) (hk := ?j)
    (bd := [("a", a), ("x", x), ("lo", .int lo), ("hi", hiD), ("key", .none)]) ?bb (nm := ["a", "x", "lo", "hi", "key"]) (hnm := rfl) (hnames := ?k) (by decide) (hcn := ?l) ?_
  case a => rw [hK]; rfl
  case b => rfl
  case c => rfl
  case d => rfl
  case e => rfl
  case f => rfl
  case gg => rw [hK]; rfl
  case h => rfl
  case i => rfl
  case j => rfl
  case k => rfl
  case l => decide
  case bb => exact hb _ _ (by rw [hK]; rfl) rfl
  intro env own L he ho
  repeat' walk_at "st"
  refine dec_of (fun h => absurd h (by lia)) fun _ => ?_
  refine Ex.nil (next_of ?_)
  refine Ex.seq (BsP a x .none lo hi μ) ?_ ?_
  · rcases hhd with rfl | ⟨rfl, rfl⟩
    · repeat' walk_at "st"
      exact ⟨rfl, rfl, by walk_at "rho", by walk_at "rho", by walk_at "rho", by walk_at "rho", by walk_at "rho"⟩
    · repeat' walk_at "st"
      refine len_D hr hl ?_
      repeat' walk_at "st"
      exact ⟨rfl, rfl, by walk_at "rho", by walk_at "rho", by walk_at "rho", by walk_at "rho", by walk_at "rho"⟩
  rintro ρ μ' ⟨hM, h1, h2, h3, h4, h5⟩
  subst hM
  repeat' walk_at "st"
  refine Ex1.while (I := BsW a x ds.length p lo hi _) (hi - lo)
    ⟨lo, hi, rfl, hhi, rfl, rfl, h1, h2, h3, h4⟩ ?_
  rintro k ρ μ₁ ⟨lo', hi', rfl, hh, hb, rfl, h1, h2, h3, h4⟩
  repeat' walk_at "st"
  refine dec_of (fun hlt => ?_) fun hge => ?_
  · have hm : ((lo' : Int) + hi').fdiv 2 = (((lo' + hi') / 2 : Nat) : Int) := by rw [Int.fdiv_eq_ediv_of_nonneg _ (by decide)]; lia
    have hlt' : lo' < hi' := by lia
    have hb' := hb
    rw [bis_eq, if_pos hlt'] at hb'
    repeat' walk_at "st"
    have hidx : (lo' + hi') / 2 < ds.length := by lia
    rw [hm]
    refine Act2.item hr (d := ds[(lo' + hi') / 2]) (idx?_nat.trans (List.getElem?_eq_getElem hidx)) hl ?_ (fun _ _ => rfl)
    repeat' walk_at "st"
    refine hp _ _ (List.getElem?_eq_getElem hidx) _ _ _ _ ?_
    repeat' walk_at "st"
    cases hpm : p ((lo' + hi') / 2) with
    | true =>
      rw [hpm, if_pos rfl] at hb'
      try refine (show _ from Eq.mp (by rw [Bool.not_true]) ?_)
      repeat' walk_at "st"
      exact ⟨(lo' + hi') / 2 - lo', by lia, lo', (lo' + hi') / 2, rfl, by lia, hb', rfl, by walk_at "rho", by walk_at "rho", by walk_at "rho", by walk_at "rho"⟩
    | false =>
      rw [hpm, if_neg (by decide)] at hb'
      try refine (show _ from Eq.mp (by rw [Bool.not_false]) ?_)
      repeat' walk_at "st"
      exact ⟨hi' - ((lo' + hi') / 2 + 1), by lia, (lo' + hi') / 2 + 1, hi', rfl, by lia, hb', rfl, by walk_at "rho", by walk_at "rho", upd_same.trans (congrArg (fun z => some (D.int z)) (by lia)), by walk_at "rho"⟩
  · repeat' walk_at "st"
    rw [bis_eq, if_neg (by lia)] at hb
    rw [hb]; exact h

theorem bisLk_body {a x kd : D} {ds : List D} {lo hi : Nat} {p : Nat → Bool} {n : Nat} {μ : Mu} {Q : D → Mu → Prop} {args kws hiD} (hb : BindsAt g 50 args kws [("a", a), ("x", x), ("lo", .int lo), ("hi", hiD), ("key", kd)])
    (hr : Rd μ a ds) (hl : (ds.length : Int) < 2 ^ 62) (hhi : hi ≤ ds.length) (hhd : hiD = .int hi ∨ (hiD = .none ∧ hi = ds.length))
    (hkn : isNone kd = some false) (hkk : KeepD g kd) (hp : ∀ i d, ds[i]? = some d → ∃ e, KeyOk g n kd d e ∧ LtOk e x (!p i)) (h : Q (.int (bis p lo hi)) μ) :
    Calls g (n + 1) (.val (.ref 50)) args kws μ Q := by
  refine' Calls.enter (fa := 50) (hK := ?a) (hfo := ?b) (hbody := ?c) (hclo := ?d) (hglob := ?e) (hblt := ?f) (hcode := ?gg) (hco := ?h) (hgen := ?i) (hk := ?j)
    (bd := [("a", a), ("x", x), ("lo", .int lo), ("hi", hiD), ("key", kd)]) ?bb (nm := ["a", "x", "lo", "hi", "key"]) (hnm := rfl) (hnames := ?k) (by decide) (hcn := ?l) ?_
  case a => rw [hK]; rfl
  case b => rfl
  case c => rfl
  case d => rfl
  case e => rfl
  case f => rfl
  case gg => rw [hK]; rfl
  case h => rfl
  case i => rfl
  case j => rfl
  case k => rfl
  case l => decide
  case bb => exact hb _ _ (by rw [hK]; rfl) rfl
  intro env own L he ho
  repeat' walk_at "st"
  refine dec_of (fun h => absurd h (by lia)) fun _ => ?_
  refine Ex.nil (next_of ?_)
  refine Ex.seq (BsP a x kd lo hi μ) ?_ ?_
  · rcases hhd with rfl | ⟨rfl, rfl⟩
    · repeat' walk_at "st"
      exact ⟨rfl, rfl, by walk_at "rho", by walk_at "rho", by walk_at "rho", by walk_at "rho", by walk_at "rho"⟩
    · repeat' walk_at "st"
      refine len_D hr hl ?_
      repeat' walk_at "st"
      exact ⟨rfl, rfl, by walk_at "rho", by walk_at "rho", by walk_at "rho", by walk_at "rho", by walk_at "rho"⟩
  rintro ρ μ' ⟨hM, h1, h2, h3, h4, h5⟩
  subst hM
  repeat' walk_at "st"
  refine Act2.isnone hkn ?_
  repeat' walk_at "st"
  refine Ex1.while (I := BsV a x kd ds.length p lo hi _) (hi - lo)
    ⟨lo, hi, rfl, hhi, rfl, rfl, h1, h2, h3, h4, h5⟩ ?_
  rintro k ρ μ₁ ⟨lo', hi', rfl, hh, hb, rfl, h1, h2, h3, h4, h5⟩
  repeat' walk_at "st"
  refine dec_of (fun hlt => ?_) fun hge => ?_
  · have hm : ((lo' : Int) + hi').fdiv 2 = (((lo' + hi') / 2 : Nat) : Int) := by rw [Int.fdiv_eq_ediv_of_nonneg _ (by decide)]; lia
    have hlt' : lo' < hi' := by lia
    have hb' := hb
    rw [bis_eq, if_pos hlt'] at hb'
    repeat' walk_at "st"
    have hidx : (lo' + hi') / 2 < ds.length := by lia
    rw [hm]
    refine Act2.item hr (d := ds[(lo' + hi') / 2]) (idx?_nat.trans (List.getElem?_eq_getElem hidx)) hl ?_ (fun _ _ => rfl)
    obtain ⟨e, hke, hle⟩ := hp _ _ (List.getElem?_eq_getElem hidx)
    refine hke _ _ _ ?_
    repeat' walk_at "st"
    refine hle _ _ _ _ ?_
    repeat' walk_at "st"
    cases hpm : p ((lo' + hi') / 2) with
    | true =>
      rw [hpm, if_pos rfl] at hb'
      try refine (show _ from Eq.mp (by rw [Bool.not_true]) ?_)
      repeat' walk_at "st"
      exact ⟨(lo' + hi') / 2 - lo', by lia, lo', (lo' + hi') / 2, rfl, by lia, hb', rfl, by walk_at "rho", by walk_at "rho", by walk_at "rho", by walk_at "rho", by walk_at "rho"⟩
    | false =>
      rw [hpm, if_neg (by decide)] at hb'
      try refine (show _ from Eq.mp (by rw [Bool.not_false]) ?_)
      repeat' walk_at "st"
      exact ⟨hi' - ((lo' + hi') / 2 + 1), by lia, (lo' + hi') / 2 + 1, hi', rfl, by lia, hb', rfl, by walk_at "rho", by walk_at "rho", upd_same.trans (congrArg (fun z => some (D.int z)) (by lia)), by walk_at "rho", by walk_at "rho"⟩
  · repeat' walk_at "st"
    rw [bis_eq, if_neg (by lia)] at hb
    rw [hb]; exact h

end

open PySem PySem.W PySem.Calls PyProof.Rows
set_option maxRecDepth 20000
section
variable {g : G} (hK : g.K = hd.heap_39 g.w.params)
include hK

theorem insR_body {x : D} {ad : Addr} {ds : List D} {lo hi : Nat} {p : Nat → Bool} {n : Nat} {μ : Mu} {Q : D → Mu → Prop} {args kws hiD} (hb : BindsAt g 23 args kws [("a", .val (.ref ad)), ("x", x), ("lo", .int lo), ("hi", hiD), ("key", .none)])
    (hm : (ad, .ml ds) ∈ μ) (hl : ds.length ≤ 10000) (hlh : lo ≤ hi) (hhi : hi ≤ ds.length) (hhd : hiD = .int hi ∨ (hiD = .none ∧ hi = ds.length))
    (hp : ∀ i d, ds[i]? = some d → LtOk x d (p i)) (h : Q .none (setMu ad (.ml (insAt (bis p lo hi) x ds)) μ)) :
    Calls g (n + 3) (.val (.ref 23)) args kws μ Q := by
  refine' Calls.enter (fa := 23) (hK := ?a) (hfo := ?b) (hbody := ?c) (hclo := ?d) (hglob := ?e) (hblt := ?f) (hcode := ?gg) (hco := ?h) (hgen := ?i) (hk := ?j)
    (bd := [("a", .val (.ref ad)), ("x", x), ("lo", .int lo), ("hi", hiD), ("key", .none)]) ?bb (nm := ["a", "x", "lo", "hi", "key"]) (hnm := rfl) (hnames := ?k) (by decide) (hcn := ?l) ?_
  case a => rw [hK]; rfl
  case b => rfl
  case c => rfl
  case d => rfl
  case e => rfl
  case f => rfl
  case gg => rw [hK]; rfl
  case h => rfl
  case i => rfl
  case j => rfl
  case k => rfl
  case l => decide
  case bb => exact hb _ _ (by rw [hK]; rfl) rfl
  intro env own L he ho
  repeat' walk_at "st"
  repeat' walk_at "st"
  refine bisR_body (g := g.push env) hK (p := p) (BB.ok hK (by constructor)) (.mu hm) (by lia) hhi hhd hp ?_
  repeat' walk_at "st"
  refine Ex1.expr (Ev.meth (id := "list.insert") ?_ PySem.F.slot_list_insert PySem.F.type_list_insert)
  repeat' walk_at "st"
  refine ⟨⟨_, .mu hm⟩, ?_⟩
  repeat' walk_at "st"
  refine Calls.insert hm hl (Nat.le_trans (bis_le hlh).2 hhi) ?_
  refine ⟨rfl, ?_⟩
  repeat' walk_at "st"
  exact h

theorem insRk_body {x kd ex : D} {ad : Addr} {ds : List D} {lo hi : Nat} {p : Nat → Bool} {n : Nat} {μ : Mu} {Q : D → Mu → Prop} {args kws hiD} (hb : BindsAt g 23 args kws [("a", .val (.ref ad)), ("x", x), ("lo", .int lo), ("hi", hiD), ("key", kd)])
    (hm : (ad, .ml ds) ∈ μ) (hl : ds.length ≤ 10000) (hlh : lo ≤ hi) (hhi : hi ≤ ds.length) (hhd : hiD = .int hi ∨ (hiD = .none ∧ hi = ds.length))
    (hkn : isNone kd = some false) (hkk : KeepD g kd) (hkx : ∀ m, KeyOk g (m + 1) kd x ex) (hp : ∀ i d, ds[i]? = some d → ∃ e, (∀ m, KeyOk g (m + 1) kd d e) ∧ LtOk ex e (p i)) (h : Q .none (setMu ad (.ml (insAt (bis p lo hi) x ds)) μ)) :
    Calls g (n + 3) (.val (.ref 23)) args kws μ Q := by
  refine' Calls.enter (fa := 23) (hK := ?a) (hfo := ?b) (hbody := ?c) (hclo := ?d) (hglob := ?e) (hblt := ?f) (hcode := ?gg) (hco := ?h) (hgen := ?i) (hk := ?j)
    (bd := [("a", .val (.ref ad)), ("x", x), ("lo", .int lo), ("hi", hiD), ("key", kd)]) ?bb (nm := ["a", "x", "lo", "hi", "key"]) (hnm := rfl) (hnames := ?k) (by decide) (hcn := ?l) ?_
  case a => rw [hK]; rfl
  case b => rfl
  case c => rfl
  case d => rfl
  case e => rfl
  case f => rfl
  case gg => rw [hK]; rfl
  case h => rfl
  case i => rfl
  case j => rfl
  case k => rfl
  case l => decide
  case bb => exact hb _ _ (by rw [hK]; rfl) rfl
  intro env own L he ho
  repeat' walk_at "st"
  refine Act2.isnone hkn ?_
  repeat' walk_at "st"
  refine hkx _ _ _ _ ?_
  repeat' walk_at "st"
  refine bisRk_body (g := g.push env) hK (p := p) (BB.ok hK (by constructor)) (.mu hm) (by lia) hhi hhd hkn hkk (fun i d e => let ⟨y, h1, h2⟩ := hp i d e; ⟨y, h1 _, h2⟩) ?_
  repeat' walk_at "st"
  refine Ex1.expr (Ev.meth (id := "list.insert") ?_ PySem.F.slot_list_insert PySem.F.type_list_insert)
  repeat' walk_at "st"
  refine ⟨⟨_, .mu hm⟩, ?_⟩
  repeat' walk_at "st"
  refine Calls.insert hm hl (Nat.le_trans (bis_le hlh).2 hhi) ?_
  refine ⟨rfl, ?_⟩
  repeat' walk_at "st"
  exact h

theorem insL_body {x : D} {ad : Addr} {ds : List D} {lo hi : Nat} {p : Nat → Bool} {n : Nat} {μ : Mu} {Q : D → Mu → Prop} {args kws hiD} (hb : BindsAt g 41 args kws [("a", .val (.ref ad)), ("x", x), ("lo", .int lo), ("hi", hiD), ("key", .none)])
    (hm : (ad, .ml ds) ∈ μ) (hl : ds.length ≤ 10000) (hlh : lo ≤ hi) (hhi : hi ≤ ds.length) (hhd : hiD = .int hi ∨ (hiD = .none ∧ hi = ds.length))
    (hp : ∀ i d, ds[i]? = some d → LtOk d x (!p i)) (h : Q .none (setMu ad (.ml (insAt (bis p lo hi) x ds)) μ)) :
    Calls g (n + 3) (.val (.ref 41)) args kws μ Q := by
  refine' Calls.enter (fa := 41) (hK := ?a) (hfo := ?b) (hbody := ?c) (hclo := ?d) (hglob := ?e) (hblt := ?f) (hcode := ?gg) (hco := ?h) (hgen := ?i) (hk := ?j)
    (bd := [("a", .val (.ref ad)), ("x", x), ("lo", .int lo), ("hi", hiD), ("key", .none)]) ?bb (nm := ["a", "x", "lo", "hi", "key"]) (hnm := rfl) (hnames := ?k) (by decide) (hcn := ?l) ?_
  case a => rw [hK]; rfl
  case b => rfl
  case c => rfl
  case d => rfl
  case e => rfl
  case f => rfl
  case gg => rw [hK]; rfl
  case h => rfl
  case i => rfl
  case j => rfl
  case k => rfl
  case l => decide
  case bb => exact hb _ _ (by rw [hK]; rfl) rfl
  intro env own L he ho
  repeat' walk_at "st"
  repeat' walk_at "st"
  refine bisL_body (g := g.push env) hK (p := p) (BB.ok hK (by constructor)) (.mu hm) (by lia) hhi hhd hp ?_
  repeat' walk_at "st"
  refine Ex1.expr (Ev.meth (id := "list.insert") ?_ PySem.F.slot_list_insert PySem.F.type_list_insert)
  repeat' walk_at "st"
  refine ⟨⟨_, .mu hm⟩, ?_⟩
  repeat' walk_at "st"
  refine Calls.insert hm hl (Nat.le_trans (bis_le hlh).2 hhi) ?_
  refine ⟨rfl, ?_⟩
  repeat' walk_at "st"
  exact h

theorem insLk_body {x kd ex : D} {ad : Addr} {ds : List D} {lo hi : Nat} {p : Nat → Bool} {n : Nat} {μ : Mu} {Q : D → Mu → Prop} {args kws hiD} (hb : BindsAt g 41 args kws [("a", .val (.ref ad)), ("x", x), ("lo", .int lo), ("hi", hiD), ("key", kd)])
    (hm : (ad, .ml ds) ∈ μ) (hl : ds.length ≤ 10000) (hlh : lo ≤ hi) (hhi : hi ≤ ds.length) (hhd : hiD = .int hi ∨ (hiD = .none ∧ hi = ds.length))
    (hkn : isNone kd = some false) (hkk : KeepD g kd) (hkx : ∀ m, KeyOk g (m + 1) kd x ex) (hp : ∀ i d, ds[i]? = some d → ∃ e, (∀ m, KeyOk g (m + 1) kd d e) ∧ LtOk e ex (!p i)) (h : Q .none (setMu ad (.ml (insAt (bis p lo hi) x ds)) μ)) :
    Calls g (n + 3) (.val (.ref 41)) args kws μ Q := by
  refine' Calls.enter (fa := 41) (hK := ?a) (hfo := ?b) (hbody := ?c) (hclo := ?d) (hglob := ?e) (hblt := ?f) (hcode := ?gg) (hco := ?h) (hgen := ?i) (hk := ?j)
    (bd := [("a", .val (.ref ad)), ("x", x), ("lo", .int lo), ("hi", hiD), ("key", kd)]) ?bb (nm := ["a", "x", "lo", "hi", "key"]) (hnm := rfl) (hnames := ?k) (by decide) (hcn := ?l) ?_
  case a => rw [hK]; rfl
  case b => rfl
  case c => rfl
  case d => rfl
  case e => rfl
  case f => rfl
  case gg => rw [hK]; rfl
  case h => rfl
  case i => rfl
  case j => rfl
  case k => rfl
  case l => decide
  case bb => exact hb _ _ (by rw [hK]; rfl) rfl
  intro env own L he ho
  repeat' walk_at "st"
  refine Act2.isnone hkn ?_
  repeat' walk_at "st"
  refine hkx _ _ _ _ ?_
  repeat' walk_at "st"
  refine bisLk_body (g := g.push env) hK (p := p) (BB.ok hK (by constructor)) (.mu hm) (by lia) hhi hhd hkn hkk (fun i d e => let ⟨y, h1, h2⟩ := hp i d e; ⟨y, h1 _, h2⟩) ?_
  repeat' walk_at "st"
  refine Ex1.expr (Ev.meth (id := "list.insert") ?_ PySem.F.slot_list_insert PySem.F.type_list_insert)
  repeat' walk_at "st"
  refine ⟨⟨_, .mu hm⟩, ?_⟩
  repeat' walk_at "st"
  refine Calls.insert hm hl (Nat.le_trans (bis_le hlh).2 hhi) ?_
  refine ⟨rfl, ?_⟩
  repeat' walk_at "st"
  exact h

end

open PySem PySem.W PySem.Calls PyProof.Rows
set_option maxRecDepth 20000

/-- the row's places: x < row[i] ; not row[i] < x -/
noncomputable def gtAt (row : List Int) (x : Int) (i : Nat) : Bool := decide (x < row.getD i 0)
noncomputable def geAt (row : List Int) (x : Int) (i : Nat) : Bool := !decide (row.getD i 0 < x)
theorem gtAt_ok {row : List Int} {x : Int} (i : Nat) (d : D) (h : (row.map D.int)[i]? = some d) : LtOk (.int x) d (gtAt row x i) := by
  rw [List.getElem?_map] at h
  cases hi : row[i]? with
  | none => rw [hi] at h; cases h
  | some y => rw [hi] at h; cases h; unfold gtAt; rw [List.getD_eq_getElem?_getD, hi]; exact LtOk.int
theorem geAt_ok {row : List Int} {x : Int} (i : Nat) (d : D) (h : (row.map D.int)[i]? = some d) : LtOk d (.int x) (!geAt row x i) := by
  rw [List.getElem?_map] at h
  cases hi : row[i]? with
  | none => rw [hi] at h; cases h
  | some y => rw [hi] at h; cases h; unfold geAt; rw [Bool.not_not, List.getD_eq_getElem?_getD, hi]; exact LtOk.int

open PySem PySem.W PySem.Calls PyProof.Rows
set_option maxRecDepth 20000
section
variable {g : G} (hK : g.K = hd.heap_39 g.w.params)
include hK

theorem bisR_neg {a x hiD kd : D} {lo : Int} {n : Nat} {μ : Mu} {P : Mu → Prop} {args kws} (hb : BindsAt g 32 args kws [("a", a), ("x", x), ("lo", .int lo), ("hi", hiD), ("key", kd)]) (hlo : lo < 0) (h : P μ) :
    CallsR g (n + 1) μ (.val (.ref 32)) args kws "lo must be non-negative" P := by
  refine' CallsR.enter (fa := 32) (hK := ?a) (hfo := ?b) (hbody := ?c) (hclo := ?d) (hglob := ?e) (hblt := ?f) (hcode := ?gg) (hco := ?h) (hgen := ?i) (hk := ?j)
    (bd := [("a", a), ("x", x), ("lo", .int lo), ("hi", hiD), ("key", kd)]) ?bb (nm := ["a", "x", "lo", "hi", "key"]) (hnm := rfl) (hnames := ?k) (by decide) (hcn := ?l) ?_
  case a => rw [hK]; rfl
  case b => rfl
  case c => rfl
  case d => rfl
  case e => rfl
  case f => rfl
  case gg => rw [hK]; rfl
  case h => rfl
  case i => rfl
  case j => rfl
  case k => rfl
  case l => decide
  case bb => exact hb _ _ (by rw [hK]; rfl) rfl
  intro env own L he ho
  refine Raises.here (Raises1.ite ?_)
  repeat' walk_at "st"
  refine dec_of (fun _ => ?_) fun q => absurd hlo q
  refine Raises.here (Raises1.raise (by walk_at "kind") (by walk_at "isk") h)

theorem bisL_neg {a x hiD kd : D} {lo : Int} {n : Nat} {μ : Mu} {P : Mu → Prop} {args kws} (hb : BindsAt g 50 args kws [("a", a), ("x", x), ("lo", .int lo), ("hi", hiD), ("key", kd)]) (hlo : lo < 0) (h : P μ) :
    CallsR g (n + 1) μ (.val (.ref 50)) args kws "lo must be non-negative" P := by
  refine' CallsR.enter (fa := 50) (hK := ?a) (hfo := ?b) (hbody := ?c) (hclo := ?d) (hglob := ?e) (hblt := ?f) (hcode := ?gg) (hco := ?h) (hgen := ?i) (hk := ?j)
    (bd := [("a", a), ("x", x), ("lo", .int lo), ("hi", hiD), ("key", kd)]) ?bb (nm := ["a", "x", "lo", "hi", "key"]) (hnm := rfl) (hnames := ?k) (by decide) (hcn := ?l) ?_
  case a => rw [hK]; rfl
  case b => rfl
  case c => rfl
  case d => rfl
  case e => rfl
  case f => rfl
  case gg => rw [hK]; rfl
  case h => rfl
  case i => rfl
  case j => rfl
  case k => rfl
  case l => decide
  case bb => exact hb _ _ (by rw [hK]; rfl) rfl
  intro env own L he ho
  refine Raises.here (Raises1.ite ?_)
  repeat' walk_at "st"
  refine dec_of (fun _ => ?_) fun q => absurd hlo q
  refine Raises.here (Raises1.raise (by walk_at "kind") (by walk_at "isk") h)

theorem insR_neg {a x hiD : D} {lo : Int} {n : Nat} {μ : Mu} {P : Mu → Prop} {args kws} (hb : BindsAt g 23 args kws [("a", a), ("x", x), ("lo", .int lo), ("hi", hiD), ("key", .none)]) (hlo : lo < 0) (h : P μ) :
    CallsR g (n + 3) μ (.val (.ref 23)) args kws "lo must be non-negative" P := by
  refine' CallsR.enter (fa := 23) (hK := ?a) (hfo := ?b) (hbody := ?c) (hclo := ?d) (hglob := ?e) (hblt := ?f) (hcode := ?gg) (hco := ?h) (hgen := ?i) (hk := ?j)
    (bd := [("a", a), ("x", x), ("lo", .int lo), ("hi", hiD), ("key", .none)]) ?bb (nm := ["a", "x", "lo", "hi", "key"]) (hnm := rfl) (hnames := ?k) (by decide) (hcn := ?l) ?_
  case a => rw [hK]; rfl
  case b => rfl
  case c => rfl
  case d => rfl
  case e => rfl
  case f => rfl
  case gg => rw [hK]; rfl
  case h => rfl
  case i => rfl
  case j => rfl
  case k => rfl
  case l => decide
  case bb => exact hb _ _ (by rw [hK]; rfl) rfl
  intro env own L he ho
  refine Raises.here (Raises1.ite ?_)
  repeat' walk_at "st"
  refine Raises.here (Raises1.assign (RaisesE.call ?_))
  repeat' walk_at "st"
  exact bisR_neg (g := g.push env) hK (BB.ok hK (by constructor)) hlo h

theorem insLk_neg {a x hiD kd ex : D} {lo : Int} {n : Nat} {μ : Mu} {P : Mu → Prop} {args kws} (hb : BindsAt g 41 args kws [("a", a), ("x", x), ("lo", .int lo), ("hi", hiD), ("key", kd)]) (hlo : lo < 0) (hkn : isNone kd = some false) (hkk : KeepD g kd) (hkx : ∀ m, KeyOk g (m + 1) kd x ex) (h : P μ) :
    CallsR g (n + 3) μ (.val (.ref 41)) args kws "lo must be non-negative" P := by
  refine' CallsR.enter (fa := 41) (hK := ?a) (hfo := ?b) (hbody := ?c) (hclo := ?d) (hglob := ?e) (hblt := ?f) (hcode := ?gg) (hco := ?h) (hgen := ?i) (hk := ?j)
    (bd := [("a", a), ("x", x), ("lo", .int lo), ("hi", hiD), ("key", kd)]) ?bb (nm := ["a", "x", "lo", "hi", "key"]) (hnm := rfl) (hnames := ?k) (by decide) (hcn := ?l) ?_
  case a => rw [hK]; rfl
  case b => rfl
  case c => rfl
  case d => rfl
  case e => rfl
  case f => rfl
  case gg => rw [hK]; rfl
  case h => rfl
  case i => rfl
  case j => rfl
  case k => rfl
  case l => decide
  case bb => exact hb _ _ (by rw [hK]; rfl) rfl
  intro env own L he ho
  refine Raises.here (Raises1.ite ?_)
  repeat' walk_at "st"
  refine Act2.isnone hkn ?_
  repeat' walk_at "st"
  refine Raises.here (Raises1.assign (RaisesE.call ?_))
  repeat' walk_at "st"
  refine hkx _ _ _ _ ?_
  repeat' walk_at "st"
  exact bisL_neg (g := g.push env) hK (BB.ok hK (by constructor)) hlo h

end

namespace GW

/-! rows of weights with levels; the cells of [0, 2 ^ M) -/
noncomputable abbrev Row := List (Nat × Nat)
noncomputable def ws (P : Row) : List Nat := P.map (·.1)
noncomputable def wsum (P : Row) : Nat := (ws P).sum
noncomputable def cost : Row → Nat
  | [] => 0
  | p :: P => p.1 * p.2 + cost P
/-- side by side, without gaps -/
noncomputable def Al (M : Nat) : Nat → Row → Nat → Prop
  | s, [], e => s = e
  | s, p :: P, e => p.2 ≤ M ∧ 2 ^ (M - p.2) ∣ s ∧ Al M (s + 2 ^ (M - p.2)) P e
/-- in order, with gaps -/
noncomputable def Fit (M : Nat) : Nat → Row → Nat → Prop
  | s, [], e => s ≤ e
  | s, p :: P, e => p.2 ≤ M ∧ ∃ t, s ≤ t ∧ 2 ^ (M - p.2) ∣ t ∧ Fit M (t + 2 ^ (M - p.2)) P e

theorem ws_append {A B : Row} : ws (A ++ B) = ws A ++ ws B := by simp [ws]
theorem ws_cons {p : Nat × Nat} {B : Row} : ws (p :: B) = p.1 :: ws B := rfl
theorem cost_append : ∀ {A B : Row}, cost (A ++ B) = cost A + cost B
  | [], B => by simp [cost]
  | p :: A, B => by simp only [List.cons_append, cost, cost_append (A := A)]; lia
theorem Al.append {M : Nat} : ∀ {A B : Row} {s m e : Nat}, Al M s A m → Al M m B e → Al M s (A ++ B) e
  | [], B, s, m, e, h, k => by cases h; exact k
  | p :: A, B, s, m, e, h, k => ⟨h.1, h.2.1, Al.append h.2.2 k⟩
theorem Al.of_append {M : Nat} : ∀ {A B : Row} {s e : Nat}, Al M s (A ++ B) e → ∃ m, Al M s A m ∧ Al M m B e
  | [], B, s, e, h => ⟨s, rfl, h⟩
  | p :: A, B, s, e, h => by
    obtain ⟨m, h1, h2⟩ := Al.of_append (A := A) h.2.2
    exact ⟨m, ⟨h.1, h.2.1, h1⟩, h2⟩
theorem Al.le {M : Nat} : ∀ {A : Row} {s e : Nat}, Al M s A e → s ≤ e
  | [], s, e, h => Nat.le_of_eq h
  | p :: A, s, e, h => Nat.le_trans (Nat.le_add_right _ _) (Al.le h.2.2)
theorem Al.fit {M : Nat} : ∀ {A : Row} {s e : Nat}, Al M s A e → Fit M s A e
  | [], s, e, h => Nat.le_of_eq h
  | p :: A, s, e, h => ⟨h.1, s, Nat.le_refl _, h.2.1, Al.fit h.2.2⟩
theorem Fit.mono {M : Nat} : ∀ {A : Row} {s s' e e' : Nat}, Fit M s A e → s' ≤ s → e ≤ e' → Fit M s' A e'
  | [], s, s', e, e', h, h1, h2 => Nat.le_trans h1 (Nat.le_trans h h2)
  | p :: A, s, s', e, e', ⟨a, t, b, c, d⟩, h1, h2 => ⟨a, t, Nat.le_trans h1 b, c, Fit.mono d (Nat.le_refl _) h2⟩
theorem Fit.append {M : Nat} : ∀ {A B : Row} {s m e : Nat}, Fit M s A m → Fit M m B e → Fit M s (A ++ B) e
  | [], B, s, m, e, h, k => Fit.mono k h (Nat.le_refl _)
  | p :: A, B, s, m, e, ⟨a, t, b, c, d⟩, k => ⟨a, t, b, c, Fit.append d k⟩
theorem Al.lv {M : Nat} : ∀ {A : Row} {s e : Nat}, Al M s A e → ∀ p ∈ A, p.2 ≤ M
  | q :: A, s, e, h, p, hp => by
    rcases List.mem_cons.mp hp with rfl | hp
    · exact h.1
    · exact Al.lv h.2.2 p hp
theorem two_mul_pow {M l : Nat} (h : l + 1 ≤ M) : 2 ^ (M - l) = 2 * 2 ^ (M - (l + 1)) := by
  rw [show M - l = (M - (l + 1)) + 1 by lia, Nat.pow_succ, Nat.mul_comm]
theorem Al.scale {M : Nat} : ∀ {A : Row} {s e : Nat}, Al M s A e → Al (M + 1) (2 * s) A (2 * e)
  | [], s, e, h => by cases h; rfl
  | p :: A, s, e, ⟨h1, h2, h3⟩ => by
    have e1 : 2 ^ (M + 1 - p.2) = 2 * 2 ^ (M - p.2) := by rw [show M + 1 - p.2 = (M - p.2) + 1 by lia, Nat.pow_succ, Nat.mul_comm]
    refine ⟨by exact Nat.le_succ_of_le (by assumption), by rw [e1]; exact Nat.mul_dvd_mul_left 2 h2, ?_⟩
    have := Al.scale h3
    rw [Nat.mul_add] at this
    rw [e1]; exact this
/-- the same row elsewhere -/
theorem Al.move {M s s' : Nat} : ∀ {A : Row} {x y : Nat}, (∀ p ∈ A, 2 ^ (M - p.2) ∣ s ∧ 2 ^ (M - p.2) ∣ s') → Al M (s + x) A (s + y) → Al M (s' + x) A (s' + y)
  | [], x, y, _, h => by have : s + x = s + y := h; show s' + x = s' + y; (clear h; lia)
  | p :: A, x, y, hd, ⟨h1, h2, h3⟩ => by
    have d := hd p (.head _)
    refine ⟨h1, Nat.dvd_add d.2 ((Nat.dvd_add_right d.1).mp h2), ?_⟩
    rw [Nat.add_assoc] at h3 ⊢
    exact Al.move (fun q hq => hd q (.tail _ hq)) h3
/-- a row one level up -/
noncomputable def up (A : Row) : Row := A.map fun p => (p.1, p.2 - 1)
theorem ws_up {A : Row} : ws (up A) = ws A := by simp [ws, up]
theorem cost_up : ∀ {A : Row}, (∀ p ∈ A, 1 ≤ p.2) → cost (up A) + wsum A = cost A
  | [], _ => rfl
  | p :: A, h => by
    have h1 := h p (.head _)
    have ih := cost_up (A := A) fun q hq => h q (.tail _ hq)
    have e : p.1 * (p.2 - 1) + p.1 = p.1 * p.2 := by rw [← Nat.mul_succ]; congr 1; exact Nat.sub_add_cancel (by assumption)
    simp only [up, List.map_cons, cost, wsum, ws, List.sum_cons] at ih ⊢
    lia
theorem Al.up {M s s' : Nat} : ∀ {A : Row} {x y : Nat}, (∀ p ∈ A, 1 ≤ p.2 ∧ 2 ^ (M - p.2) ∣ s ∧ 2 * 2 ^ (M - p.2) ∣ s') → Al M (s + x) A (s + y) → Al M (s' + 2 * x) (up A) (s' + 2 * y)
  | [], x, y, _, h => by have : s + x = s + y := h; show s' + 2 * x = s' + 2 * y; lia
  | p :: A, x, y, hd, ⟨h1, h2, h3⟩ => by
    have d := hd p (.head _)
    have e1 : 2 ^ (M - (p.2 - 1)) = 2 * 2 ^ (M - p.2) := by
      have := two_mul_pow (M := M) (l := p.2 - 1) (by lia)
      rw [show p.2 - 1 + 1 = p.2 by lia] at this; exact this
    refine ⟨by show p.2 - 1 ≤ M; lia, ?_, ?_⟩
    · show 2 ^ (M - (p.2 - 1)) ∣ _
      rw [e1]
      exact Nat.dvd_add d.2.2 (Nat.mul_dvd_mul_left 2 ((Nat.dvd_add_right d.2.1).mp h2))
    · show Al M (s' + 2 * x + 2 ^ (M - (p.2 - 1))) (GW.up A) _
      rw [e1, Nat.add_assoc, ← Nat.mul_add]
      rw [Nat.add_assoc] at h3
      exact Al.up (fun q hq => hd q (.tail _ hq)) h3
theorem pow_dvd {i j : Nat} (h : 2 ^ i ≤ 2 ^ j) : 2 ^ i ∣ 2 ^ j := Nat.pow_dvd_pow 2 ((Nat.pow_le_pow_iff_right (by decide)).mp h)
theorem Al.small {M k : Nat} : ∀ {A : Row} {s e : Nat}, Al M s A e → e ≤ s + 2 ^ k → ∀ p ∈ A, 2 ^ (M - p.2) ∣ 2 ^ k
  | q :: A, s, e, h, hk, p, hp => by
    rcases List.mem_cons.mp hp with rfl | hp
    · have := Al.le h.2.2; exact pow_dvd (by lia)
    · exact Al.small h.2.2 (Nat.le_trans hk (Nat.add_le_add_right (Nat.le_add_right _ _) _)) p hp
/-- a row parts where a greater cell begins -/
theorem Al.split {M k q : Nat} : ∀ {A : Row} {s e : Nat}, Al M s A e → s ≤ q → q ≤ e → 2 ^ (k + 1) ∣ q → (e < q + 2 ^ (k + 1) ∨ q < s + 2 ^ (k + 1)) → ∃ A1 A2, A = A1 ++ A2 ∧ Al M s A1 q ∧ Al M q A2 e
  | [], s, e, h, h1, h2, _, _ => by
    have h : s = e := h
    obtain rfl : s = q := by lia
    exact ⟨[], [], rfl, rfl, h⟩
  | p :: A, s, e, h, h1, h2, h3, h4 => by
    by_cases hq : s = q
    · subst hq; exact ⟨[], p :: A, rfl, rfl, h⟩
    · obtain ⟨a, b, c⟩ := h
      by_cases hs : s + 2 ^ (M - p.2) ≤ q
      · obtain ⟨A1, A2, e1, e2, e3⟩ := Al.split c hs h2 h3 (h4.imp id fun z => by lia)
        exact ⟨p :: A1, A2, by rw [e1]; rfl, ⟨a, b, e2⟩, e3⟩
      · exfalso
        rcases Nat.le_total (2 ^ (M - p.2)) (2 ^ (k + 1)) with z | z
        · obtain ⟨i, hi⟩ := Nat.dvd_trans (pow_dvd z) h3
          obtain ⟨j, hj⟩ := b
          have : j < i := by
            refine Nat.lt_of_not_le fun y => ?_
            have := Nat.mul_le_mul_left (2 ^ (M - p.2)) y; lia
          have := Nat.mul_le_mul_left (2 ^ (M - p.2)) (show j + 1 ≤ i from this)
          rw [Nat.mul_succ] at this; (clear z c a hq h4 h3 h2 h1; lia)
        · have d := pow_dvd z
          have ds := Nat.dvd_trans d b
          have le := Al.le c
          rcases h4 with h4 | h4
          · obtain ⟨i, hi⟩ := h3
            obtain ⟨j, hj⟩ := Nat.dvd_add ds d
            have : i < j := by
              refine Nat.lt_of_not_le fun y => ?_
              have := Nat.mul_le_mul_left (2 ^ (k + 1)) y; (clear y h4 le ds d z c b a hq h2 h1; lia)
            have := Nat.mul_le_mul_left (2 ^ (k + 1)) (show i + 1 ≤ j from this)
            rw [Nat.mul_succ] at this; (clear ds d z hs c b a hq h2 h1; lia)
          · obtain ⟨i, hi⟩ := h3
            obtain ⟨j, hj⟩ := ds
            have : j < i := by
              refine Nat.lt_of_not_le fun y => ?_
              have := Nat.mul_le_mul_left (2 ^ (k + 1)) y; lia
            have := Nat.mul_le_mul_left (2 ^ (k + 1)) (show j + 1 ≤ i from this)
            rw [Nat.mul_succ] at this; (clear le d z hs c b a hq h2 h1; lia)

/-- the cheapest row in order, and whole -/
noncomputable def Best (P : Row) : Prop := (∃ M, Al M 0 P (2 ^ M)) ∧ ∀ M P', ws P' = ws P → Fit M 0 P' (2 ^ M) → cost P ≤ cost P'
theorem Best.al {P : Row} (h : Best P) : ∃ M, Al M 0 P (2 ^ M) ∧ ∀ p ∈ P, p.2 + 2 ≤ M := by
  obtain ⟨M, h1⟩ := h.1
  refine ⟨M + 2, ?_, fun p hp => by have := Al.lv h1 p hp; lia⟩
  have := Al.scale (Al.scale h1)
  rw [Nat.mul_zero] at this
  rw [show 2 ^ (M + 2) = 2 * (2 * 2 ^ M) by rw [Nat.pow_succ, Nat.pow_succ]; (clear this h1 h; lia)]
  exact this

theorem cell_left {M k p : Nat} {A : Row} (h : Al M 0 A p) (h1 : 2 ^ k ∣ p) (h2 : ¬ 2 ^ (k + 1) ∣ p) : ∃ A1 S, A = A1 ++ S ∧ Al M 0 A1 (p - 2 ^ k) ∧ Al M (p - 2 ^ k) S p ∧ 2 ^ k ≤ p ∧ 2 ^ (k + 1) ∣ p - 2 ^ k ∧ ∀ x ∈ S, 2 ^ (M - x.2) ∣ 2 ^ k := by
  obtain ⟨i, hi⟩ := h1
  have hp : 0 < 2 ^ k := Nat.pow_pos (by decide)
  have hodd : i % 2 = 1 := by
    refine Classical.byContradiction fun z => h2 ⟨i / 2, ?_⟩
    rw [hi, Nat.pow_succ, Nat.mul_assoc]; congr 1; lia
  have hle : 2 ^ k ≤ p := by
    rw [hi]; exact Nat.le_mul_of_pos_right _ (by lia)
  have hd : 2 ^ (k + 1) ∣ p - 2 ^ k := ⟨i / 2, by
    rw [hi, Nat.pow_succ, Nat.mul_assoc]
    have : 2 ^ k * i - 2 ^ k = 2 ^ k * (i - 1) := by rw [Nat.mul_sub, Nat.mul_one]
    rw [this]; congr 1; (clear this hle hp hi h2 h; omega)⟩
  have e2 : 2 ^ (k + 1) = 2 * 2 ^ k := by rw [Nat.pow_succ, Nat.mul_comm]
  obtain ⟨A1, S, e, a, b⟩ := Al.split h (Nat.zero_le _) (Nat.sub_le _ _) hd (.inl (by (clear e2 hodd hp h2 h; omega)))
  exact ⟨A1, S, e, a, b, hle, hd, Al.small b (by (clear b a e e2 hd hodd hp h2 h; omega))⟩
theorem cell_right {M k e E : Nat} {C : Row} (h : Al M e C E) (h1 : 2 ^ k ∣ e) (h2 : ¬ 2 ^ (k + 1) ∣ e) (h3 : 2 ^ (k + 1) ∣ E) : ∃ Z C', C = Z ++ C' ∧ Al M e Z (e + 2 ^ k) ∧ Al M (e + 2 ^ k) C' E ∧ ∀ x ∈ Z, 2 ^ (M - x.2) ∣ 2 ^ k := by
  obtain ⟨i, hi⟩ := h1
  have hp : 0 < 2 ^ k := Nat.pow_pos (by decide)
  have hodd : i % 2 = 1 := by
    refine Classical.byContradiction fun z => h2 ⟨i / 2, ?_⟩
    rw [hi, Nat.pow_succ, Nat.mul_assoc]; congr 1; lia
  have e2 : 2 ^ (k + 1) = 2 * 2 ^ k := by rw [Nat.pow_succ, Nat.mul_comm]
  have hd : 2 ^ (k + 1) ∣ e + 2 ^ k := ⟨(i + 1) / 2, by
    rw [hi, Nat.pow_succ, Nat.mul_assoc, ← Nat.mul_succ]; congr 1; lia⟩
  have hle : e + 2 ^ k ≤ E := by
    have h4 := Al.le h
    have h5 : e ≠ E := fun z => h2 (z ▸ h3)
    obtain ⟨j, hj⟩ := Nat.dvd_trans (Nat.pow_dvd_pow 2 (Nat.le_succ k)) h3
    have : i < j := by
      refine Nat.lt_of_not_le fun y => ?_
      have := Nat.mul_le_mul_left (2 ^ k) y; lia
    have := Nat.mul_le_mul_left (2 ^ k) (show i + 1 ≤ j from this)
    rw [Nat.mul_succ] at this; lia
  obtain ⟨Z, C', e1, a, b⟩ := Al.split h (Nat.le_add_right _ _) hle hd (.inr (by lia))
  exact ⟨Z, C', e1, a, b, Al.small a (Nat.le_refl _)⟩

theorem wsum_append {A B : Row} : wsum (A ++ B) = wsum A + wsum B := by simp [wsum, ws]
theorem lv_of_dvd {M k l : Nat} (h : 2 ^ (M - l) ∣ 2 ^ k) : M - l ≤ k := (Nat.pow_le_pow_iff_right (by decide : 1 < 2)).mp (Nat.le_of_dvd (Nat.pow_pos (by decide)) h)

theorem le_sum : ∀ {l : List Nat} {x : Nat}, x ∈ l → x ≤ l.sum
  | y :: l, x, h => by
    rw [List.sum_cons]
    rcases List.mem_cons.mp h with rfl | h
    · exact Nat.le_add_right _ _
    · have := le_sum h; lia
/-- three neighbours: where the first is heavier than the third, the second lies no deeper than the third -/
theorem levels_up {A B : Row} {u v z : Nat × Nat} (hB : Best (A ++ u :: v :: z :: B)) (h : z.1 < u.1) : v.2 ≤ z.2 := by
  refine Nat.le_of_not_lt fun hlt => ?_
  obtain ⟨M, hal, hlv⟩ := hB.al
  have lu := hlv u (by simp); have lv := hlv v (by simp); have lz := hlv z (by simp)
  have hal' : Al M 0 ((A ++ [u]) ++ v :: z :: B) (2 ^ M) := by simpa using hal
  obtain ⟨p, h1, h2, h3, h4, h5, h6⟩ := Al.of_append hal'
  obtain ⟨k, hk⟩ : ∃ k, k = M - v.2 := ⟨_, rfl⟩
  rw [← hk] at h3 h5 h6
  have hz : 2 ^ (k + 1) ∣ 2 ^ (M - z.2) := Nat.pow_dvd_pow 2 (by (clear h3 h5 h6 h2 h1 hal' lu hlv hal h hB; lia))
  have hno : ¬ 2 ^ (k + 1) ∣ p := fun q => by
    have h7 := (Nat.dvd_add_right q).mp (Nat.dvd_trans hz h5)
    have := Nat.le_of_dvd (Nat.pow_pos (by decide)) h7
    have := (Nat.pow_le_pow_iff_right (by decide : 1 < 2)).mp this
    lia
  obtain ⟨A1, S, e1, a1, a2, a3, a4, a5⟩ := cell_left h1 h3 hno
  have hS1 : ∀ x ∈ S, v.2 ≤ x.2 := fun x hx => by
    have := lv_of_dvd (a5 x hx)
    have hm : x ∈ A ++ u :: v :: z :: B := by
      have : x ∈ A ++ [u] := by rw [e1]; exact List.mem_append_right _ hx
      rcases List.mem_append.mp this with q | q
      · exact List.mem_append_left _ q
      · simp at q; subst q; simp
    have := hlv x hm
    (clear hm hx a5 a4 a3 a2 a1 e1 hno hz h3 h5 h6 h4 h2 h1 hal' lz lu hlv hal hlt h hB; lia)
  have hu : u ∈ S := by
    have hne : S ≠ [] := fun q => by
      subst q
      have : p - 2 ^ k = p := a2
      have : 0 < 2 ^ k := Nat.pow_pos (by decide)
      lia
    have := congrArg List.getLast? e1
    rw [List.getLast?_append, List.getLast?_append] at this
    obtain ⟨S', y, rfl⟩ : ∃ S' y, S = S' ++ [y] := ⟨_, _, (List.dropLast_concat_getLast hne).symm⟩
    simp at this
    subst this; simp
  have e2 : 2 ^ (k + 1) = 2 * 2 ^ k := by rw [Nat.pow_succ, Nat.mul_comm]
  -- the new row
  have b1 : Al M (p - 2 ^ k + 2 * 0) (up S) (p - 2 ^ k + 2 * 2 ^ k) := Al.up (s := p - 2 ^ k) (fun x hx => ⟨by have := hS1 x hx; lia, Nat.dvd_trans (a5 x hx) (Nat.dvd_trans (Nat.pow_dvd_pow 2 (Nat.le_succ k)) a4), by
    have := Nat.mul_dvd_mul_left 2 (a5 x hx); rw [← e2] at this; exact Nat.dvd_trans this a4⟩) (by
      rw [Nat.add_zero, show p - 2 ^ k + 2 ^ k = p by exact Nat.sub_add_cancel (by assumption)]; exact a2)
  have ep : p - 2 ^ k + 2 * 2 ^ k = p + 2 ^ k := by (clear b1 e2 hu hS1 a5 a4 a2 a1 e1 hno hz hk h3 h5 h6 h4 h2 h1 hal' lz lv lu hlv hal hlt h hB; omega)
  rw [ep, Nat.mul_zero, Nat.add_zero] at b1
  have ez := two_mul_pow (M := M) (l := z.2) (by exact Nat.lt_of_lt_of_le (by assumption) (by assumption))
  have b2 : Al M (p + 2 ^ k) [(v.1, z.2 + 1), (z.1, z.2 + 1)] (p + 2 ^ k + 2 ^ (M - z.2)) := by
    refine ⟨by show z.2 + 1 ≤ M; exact Nat.lt_of_lt_of_le (by assumption) (by assumption), ?_, by show z.2 + 1 ≤ M; exact Nat.lt_of_lt_of_le (by assumption) (by assumption), ?_, ?_⟩
    · refine Nat.dvd_trans ?_ h5; show 2 ^ (M - (z.2 + 1)) ∣ _; exact Nat.pow_dvd_pow 2 (by (clear ez ep b1 e2 hu hS1 a5 a4 a3 a2 a1 e1 hno hz hk h3 h5 h6 h4 h2 h1 hal' lv lu hlv hal hlt h hB; omega))
    · show 2 ^ (M - (z.2 + 1)) ∣ p + 2 ^ k + 2 ^ (M - (z.2 + 1))
      exact Nat.dvd_add (Nat.dvd_trans (Nat.pow_dvd_pow 2 (by (clear ez ep b1 e2 hu hS1 a5 a4 a3 a2 a1 e1 hno hz hk h3 h5 h6 h4 h2 h1 hal' lv lu hlv hal hlt h hB; omega))) h5) (Nat.dvd_refl _)
    · show p + 2 ^ k + 2 ^ (M - (z.2 + 1)) + 2 ^ (M - (z.2 + 1)) = _
      lia
  have b := Al.append a1 (Al.append b1 (Al.append b2 h6))
  have hws : ws (A1 ++ (up S ++ ([(v.1, z.2 + 1), (z.1, z.2 + 1)] ++ B))) = ws (A ++ u :: v :: z :: B) := by
    have : ws (A ++ [u]) = ws A1 ++ ws S := by rw [e1, ws_append]
    rw [ws_append, ws_append, ws_append, ws_up, ← List.append_assoc, ← this, ws_append, ws_append]
    simp [ws]
  have hc := hB.2 M _ hws b.fit
  have cS := cost_up (A := S) fun x hx => by have := hS1 x hx; lia
  have hw : u.1 ≤ wsum S := by
    have : u.1 ∈ ws S := List.mem_map_of_mem hu
    exact le_sum this
  have c1 : cost (A ++ u :: v :: z :: B) = cost (A1 ++ S) + (v.1 * v.2 + (z.1 * z.2 + cost B)) := by
    rw [show A ++ u :: v :: z :: B = (A ++ [u]) ++ v :: z :: B by simp, cost_append, e1]; rfl
  rw [c1] at hc
  rw [cost_append, cost_append, cost_append] at hc
  rw [cost_append] at hc
  simp only [cost] at hc
  have m1 : v.1 * (z.2 + 1) ≤ v.1 * v.2 := Nat.mul_le_mul_left _ (by assumption)
  have m2 : z.1 * (z.2 + 1) = z.1 * z.2 + z.1 := Nat.mul_succ _ _
  lia
theorem levels_first {B : Row} {v z : Nat × Nat} (hB : Best (v :: z :: B)) : v.2 ≤ z.2 := by
  refine Nat.le_of_not_lt fun hlt => ?_
  obtain ⟨M, hal, hlv⟩ := hB.al
  have lv := hlv v (by simp); have lz := hlv z (by simp)
  obtain ⟨h3, h4, h5, h6, h7⟩ := hal
  rw [Nat.zero_add] at h6
  have := (Nat.pow_le_pow_iff_right (by decide : 1 < 2)).mp (Nat.le_of_dvd (Nat.pow_pos (by decide)) h6)
  (clear h7 h6 h5 h4 h3 hlv hB; omega)
end GW

namespace GW

/-- each is heavier than the one after the next -/
noncomputable def Desc2 : List Nat → Prop
  | u :: v :: z :: r => z < u ∧ Desc2 (v :: z :: r)
  | _ => True
theorem Desc2.at : ∀ {P R : List Nat} {u v z : Nat}, Desc2 (P ++ u :: v :: z :: R) → z < u
  | [], R, u, v, z, h => h.1
  | [p], R, u, v, z, h => Desc2.at (P := []) h.2
  | [p, q], R, u, v, z, h => Desc2.at (P := [q]) h.2
  | p :: q :: r :: P, R, u, v, z, h => Desc2.at (P := q :: r :: P) h.2
noncomputable abbrev Up (Y : Row) : Prop := Y.Pairwise fun p q => p.2 ≤ q.2
theorem up_of : ∀ {Y : Row}, (∀ Y1 v z Y2, Y = Y1 ++ v :: z :: Y2 → v.2 ≤ z.2) → Up Y
  | [], _ => .nil
  | [y], _ => List.pairwise_singleton _ _
  | y :: z :: Y, h => by
    have ih : Up (z :: Y) := up_of fun Y1 a b Y2 e => h (y :: Y1) a b Y2 (by rw [e]; rfl)
    have hyz := h [] y z Y rfl
    refine List.pairwise_cons.mpr ⟨fun x hx => ?_, ih⟩
    rcases List.mem_cons.mp hx with rfl | hx
    · exact hyz
    · exact Nat.le_trans hyz ((List.pairwise_cons.mp ih).1 x hx)
/-- the last that lies two levels above; behind it those one above, then those at it -/
theorem part2 {L : Nat} : ∀ {Y : Row}, Up Y → (∀ p ∈ Y, p.2 ≤ L ∧ L ≤ p.2 + 1) → ∃ U V, Y = U ++ V ∧ (∀ p ∈ U, p.2 + 1 = L) ∧ ∀ p ∈ V, p.2 = L
  | [], _, _ => ⟨[], [], rfl, (fun _ h => nomatch h), (fun _ h => nomatch h)⟩
  | y :: Y, u, h => by
    have u' := List.pairwise_cons.mp u
    have hy := h y (.head _)
    by_cases q : y.2 = L
    · refine ⟨[], y :: Y, rfl, (fun _ h => nomatch h), fun p hp => ?_⟩
      rcases List.mem_cons.mp hp with rfl | hp'
      · exact q
      · have := u'.1 p hp'; have := (h p hp).1; lia
    · obtain ⟨U, V, e, a, b⟩ := part2 u'.2 fun p hp => h p (.tail _ hp)
      refine ⟨y :: U, V, by rw [e]; rfl, fun p hp => ?_, b⟩
      rcases List.mem_cons.mp hp with rfl | hp
      · lia
      · exact a p hp
theorem part3 {L : Nat} : ∀ {Y : Row}, Up Y → (∀ p ∈ Y, p.2 ≤ L) → (∃ p ∈ Y, p.2 + 2 ≤ L) → ∃ Y1 x U V, Y = Y1 ++ x :: (U ++ V) ∧ x.2 + 2 ≤ L ∧ (∀ p ∈ U, p.2 + 1 = L) ∧ ∀ p ∈ V, p.2 = L
  | [], _, _, ⟨_, h, _⟩ => nomatch h
  | y :: Y, u, h, hex => by
    have u' := List.pairwise_cons.mp u
    by_cases q : ∃ p ∈ Y, p.2 + 2 ≤ L
    · obtain ⟨Y1, x, U, V, e, a⟩ := part3 u'.2 (fun p hp => h p (.tail _ hp)) q
      exact ⟨y :: Y1, x, U, V, by rw [e]; rfl, a⟩
    · have hy : y.2 + 2 ≤ L := by
        obtain ⟨p, hp, hl⟩ := hex
        rcases List.mem_cons.mp hp with rfl | hp
        · exact hl
        · exact absurd ⟨p, hp, hl⟩ q
      obtain ⟨U, V, e, a, b⟩ := part2 (L := L) u'.2 fun p hp => ⟨h p (.tail _ hp), by
        refine Nat.le_of_not_lt fun z => q ⟨p, hp, by assumption⟩⟩
      exact ⟨[], y, U, V, by rw [e]; rfl, hy, a, b⟩
theorem Al.len {M l : Nat} : ∀ {U : Row} {s e : Nat}, Al M s U e → (∀ p ∈ U, p.2 = l) → e = s + U.length * 2 ^ (M - l)
  | [], s, e, h, _ => by have : s = e := h; simp [this]
  | p :: U, s, e, ⟨h1, h2, h3⟩, k => by
    have := Al.len h3 fun q hq => k q (.tail _ hq)
    rw [k p (.head _)] at this
    rw [this, List.length_cons, Nat.succ_mul]; lia
theorem Al.const {M l : Nat} (hl : l ≤ M) : ∀ {U : Row} {s : Nat}, 2 ^ (M - l) ∣ s → (∀ p ∈ U, p.2 = l) → Al M s U (s + U.length * 2 ^ (M - l))
  | [], s, _, _ => by show s = _; simp
  | p :: U, s, hs, k => by
    have e := k p (.head _)
    refine ⟨by lia, by rw [e]; exact hs, ?_⟩
    rw [e, List.length_cons, Nat.succ_mul, Nat.add_comm (U.length * _), ← Nat.add_assoc]
    exact Al.const hl (Nat.dvd_add hs (Nat.dvd_refl _)) fun q hq => k q (.tail _ hq)
theorem snoc {α : Type} {A : List α} (h : A ≠ []) : ∃ A' x, A = A' ++ [x] := ⟨A.dropLast, A.getLast h, (List.dropLast_concat_getLast h).symm⟩
theorem odd_no {k n b : Nat} (h : 2 ^ (k + 1) ∣ b) (hn : n % 2 = 1) : ¬ 2 ^ (k + 1) ∣ b + n * 2 ^ k := fun q => by
  have := (Nat.dvd_add_right h).mp q
  rw [Nat.pow_succ, Nat.mul_comm n] at this
  have := Nat.dvd_of_mul_dvd_mul_left (Nat.pow_pos (by decide)) this
  lia
theorem even_yes {k n b : Nat} (h : 2 ^ (k + 1) ∣ b) (hn : n % 2 = 0) : 2 ^ (k + 1) ∣ b + n * 2 ^ k := by
  refine Nat.dvd_add h ⟨n / 2, ?_⟩
  rw [Nat.pow_succ, Nat.mul_comm, Nat.mul_assoc]; congr 1; lia

/-- what a step of Garsia and Wachs rests on -/
structure Step (A X C : List Nat) (a b : Nat) : Prop where
  desc : Desc2 (A ++ X ++ [a, b])
  next : ∀ c C', C = c :: C' → a ≤ c
  light : ∀ x ∈ X, x < a + b
  heavy : ∀ A' p, A = A' ++ [p] → a + b ≤ p
theorem Step.last2 {A X C a b} (h : Step A X C a b) {X' y1 y2} (e : X = X' ++ [y1, y2]) : a < y1 := by
  have := h.desc; rw [e] at this
  exact Desc2.at (P := A ++ X') (R := [b]) (v := y2) (by simpa using this)
theorem Step.last1 {A X C a b} (h : Step A X C a b) {X' y} (e : X = X' ++ [y]) : b < y := by
  have := h.desc; rw [e] at this
  exact Desc2.at (P := A ++ X') (R := []) (v := a) (by simpa using this)
theorem ws_split {X : Row} {Y Z : List Nat} (e : ws X = Y ++ Z) : ∃ X1 X2, X = X1 ++ X2 ∧ ws X1 = Y ∧ ws X2 = Z := by
  obtain ⟨X1, X2, h1, h2, h3⟩ := List.map_eq_append_iff.mp e
  exact ⟨X1, X2, h1, h2, h3⟩

/-- the levels from the joined one on rise -/
theorem rises {A X C : Row} {a b q : Nat} (hB : Best (A ++ (a + b, q) :: (X ++ C))) (hs : Step (ws A) (ws X) (ws C) a b) : Up ((a + b, q) :: X) := by
  refine up_of fun Y1 v z Y2 e => ?_
  have hB' : Best (A ++ (Y1 ++ v :: z :: Y2) ++ C) := by rw [← e]; simpa using hB
  have zX : z ∈ X := by
    cases Y1 with
    | nil => obtain ⟨rfl, h⟩ := List.cons.inj e; rw [h]; exact .head _
    | cons y Y1 => obtain ⟨rfl, h⟩ := List.cons.inj e; rw [h]; simp
  have hz := hs.light z.1 (List.mem_map_of_mem zX)
  by_cases h1 : Y1 = []
  · subst h1
    obtain ⟨rfl, h⟩ := List.cons.inj e
    by_cases h2 : A = []
    · subst h2; exact levels_first (B := Y2 ++ C) (by simpa using hB')
    · obtain ⟨A', u, rfl⟩ := snoc h2
      refine levels_up (A := A') (u := u) (B := Y2 ++ C) (by simpa using hB') ?_
      have := hs.heavy (ws A') u.1 (by simp [ws]); exact Nat.lt_of_lt_of_le (by assumption) (by assumption)
  · obtain ⟨Y', u, rfl⟩ := snoc h1
    refine levels_up (A := A ++ Y') (u := u) (B := Y2 ++ C) (by simpa using hB') ?_
    cases Y' with
    | nil => obtain ⟨rfl, h⟩ := List.cons.inj e; exact hz
    | cons y Y' =>
      obtain ⟨rfl, h⟩ := List.cons.inj e
      have hd := hs.desc
      rw [h] at hd
      exact Desc2.at (P := ws A ++ ws Y') (v := v.1) (R := ws Y2 ++ [a, b]) (by simpa [ws] using hd)

/-- a cheaper row, if the joined one lies two levels above the last -/
theorem flat {A X C : Row} {a b q : Nat} (hB : Best (A ++ (a + b, q) :: (X ++ C))) (hs : Step (ws A) (ws X) (ws C) a b) : ∀ p ∈ X, q ≤ p.2 ∧ p.2 ≤ q + 1 := by
  have hup := rises hB hs
  intro p hp
  have hq : q ≤ p.2 := (List.pairwise_cons.mp hup).1 p hp
  refine ⟨hq, Nat.le_of_not_lt fun hlt => ?_⟩
  obtain ⟨X0, y, hX⟩ := snoc (A := X) (fun e => by rw [e] at hp; cases hp)
  have hyL : ∀ r ∈ (a + b, q) :: X, r.2 ≤ y.2 := fun r hr => by
    have h2 : Up (((a + b, q) :: X0) ++ [y]) := by rw [hX] at hup; exact hup
    have h3 := List.pairwise_append.mp h2
    rw [hX] at hr
    have hr : r ∈ ((a + b, q) :: X0) ++ [y] := hr
    rcases List.mem_append.mp hr with k | k
    · exact h3.2.2 r k y (by simp)
    · simp at k; rw [k]; exact Nat.le_refl _
  have hL : q + 2 ≤ y.2 := by have := hyL p (.tail _ hp); exact Nat.le_trans (by assumption) (by assumption)
  obtain ⟨L, hLe⟩ : ∃ L, L = y.2 := ⟨_, rfl⟩
  rw [← hLe] at hyL hL
  obtain ⟨Y1, x, U, V, eY, hx, hU, hV⟩ := part3 hup hyL ⟨_, .head _, hL⟩
  have hxw : x.1 ≤ a + b := by
    have : x ∈ (a + b, q) :: X := by rw [eY]; simp
    rcases List.mem_cons.mp this with h | h
    · rw [h]; exact Nat.le_refl _
    · exact Nat.le_of_lt (hs.light _ (List.mem_map_of_mem h))
  have hVne : V ≠ [] := fun e => by
    subst e
    rw [List.append_nil] at eY
    have : ((a + b, q) :: X).getLast? = some y := by rw [hX, ← List.cons_append, List.getLast?_append]; rfl
    rw [eY] at this
    by_cases hUe : U = []
    · subst hUe
      rw [List.getLast?_append] at this
      have : x = y := by simpa using this
      subst this; lia
    · obtain ⟨U', u, rfl⟩ := snoc hUe
      rw [show Y1 ++ x :: (U' ++ [u]) = (Y1 ++ x :: U') ++ [u] by simp, List.getLast?_append] at this
      have : u = y := by simpa using this
      subst this
      have := hU u (by simp); (clear hX hUe eY hU hV hxw hx hyL hL hlt hq hp hup hs hB; lia)
  obtain ⟨M, hal, hlv⟩ := hB.al
  have hLM : L + 2 ≤ M := by have := hlv y (by rw [hX]; simp); lia
  have eP : A ++ (a + b, q) :: (X ++ C) = A ++ (Y1 ++ (x :: (U ++ (V ++ C)))) := by
    rw [show (a + b, q) :: (X ++ C) = ((a + b, q) :: X) ++ C from rfl, eY]; simp
  rw [eP] at hal
  obtain ⟨s0, A1, hal⟩ := Al.of_append hal
  obtain ⟨s1, A2, hal⟩ := Al.of_append hal
  obtain ⟨x1, x2, hal⟩ := hal
  obtain ⟨s2, A3, hal⟩ := Al.of_append hal
  obtain ⟨s3, A4, A5⟩ := Al.of_append hal
  have lU := Al.len (l := L - 1) A3 fun r hr => by have := hU r hr; lia
  have lV := Al.len (l := L) A4 hV
  obtain ⟨k, hk⟩ : ∃ k, k = M - L := ⟨_, rfl⟩
  have eL1 : 2 ^ (M - (L - 1)) = 2 ^ (k + 1) := by congr 1; lia
  have eL0 : 2 ^ (M - L) = 2 ^ k := by congr 1; lia
  rw [eL1] at lU; rw [eL0] at lV
  have ek : 2 ^ (k + 1) = 2 * 2 ^ k := by rw [Nat.pow_succ, Nat.mul_comm]
  have ex := two_mul_pow (M := M) (l := x.2) (by lia)
  obtain ⟨H, hH⟩ : ∃ H, H = 2 ^ (M - (x.2 + 1)) := ⟨_, rfl⟩
  rw [← hH] at ex
  have hHk : 2 ^ (k + 1) ∣ H := by rw [hH]; exact Nat.pow_dvd_pow 2 (by (clear hH ex ek eL0 eL1 lU lV A5 A4 hal A3 x2 A2 A1 eP hlv hVne hxw hV hU eY hyL hL hX hlt hq hp hup hs hB; omega))
  have hH2 : 2 ^ (k + 1) ≤ H := Nat.le_of_dvd (by rw [hH]; exact Nat.pow_pos (by decide)) hHk
  rw [ex] at x2 A3 lU
  have d1 : 2 ^ (k + 1) ∣ s1 := Nat.dvd_trans (Nat.dvd_trans hHk ⟨2, Nat.mul_comm 2 H⟩) x2
  have d2 : 2 ^ (k + 1) ∣ s2 := by
    rw [lU]
    exact Nat.dvd_add (Nat.dvd_add d1 (Nat.dvd_trans hHk ⟨2, Nat.mul_comm 2 H⟩)) ⟨U.length, Nat.mul_comm _ _⟩
  -- the first of the new row
  have n1 : Al M s1 [(x.1, x.2 + 1)] (s1 + H) := ⟨by show x.2 + 1 ≤ M; lia, by show 2 ^ (M - (x.2 + 1)) ∣ s1; rw [← hH]; exact Nat.dvd_trans ⟨2, Nat.mul_comm 2 H⟩ x2, by show s1 + 2 ^ (M - (x.2 + 1)) = s1 + H; rw [hH]⟩
  have d3 : 2 ^ (k + 1) ∣ s1 + H := Nat.dvd_add d1 hHk
  have n2 : Al M (s1 + H) U (s1 + H + U.length * 2 ^ (k + 1)) := by
    have := Al.const (M := M) (l := L - 1) (by (clear d3 n1 d2 d1 hH2 hHk hH ex x2 A3 lU ek eL0 eL1 lV A5 A4 hal x1 A2 A1 eP hlv hVne hxw hV hU hx eY hLe hyL hL hX hlt hq hp hup hs hB; (clear hk hal; omega))) (U := U) (s := s1 + H) (by rw [eL1]; exact d3) fun r hr => by have := hU r hr; lia
    rw [eL1] at this; exact this
  have d4 : 2 ^ (k + 1) ∣ s1 + H + U.length * 2 ^ (k + 1) := Nat.dvd_add d3 ⟨U.length, Nat.mul_comm _ _⟩
  have lx : x.1 * (x.2 + 1) = x.1 * x.2 + x.1 := Nat.mul_succ _ _
  have hsum : cost (A ++ (a + b, q) :: (X ++ C)) = cost A + (cost Y1 + (x.1 * x.2 + (cost U + (cost V + cost C)))) := by
    rw [eP, cost_append, cost_append]; simp only [cost]; rw [cost_append, cost_append]
  have wsum' : ws (A ++ (a + b, q) :: (X ++ C)) = ws A ++ (ws Y1 ++ (x.1 :: (ws U ++ (ws V ++ ws C)))) := by
    rw [eP]; simp [ws]
  obtain ⟨V', y2, hV'⟩ := snoc hVne
  have hy2 := hV y2 (by rw [hV']; simp)
  have hX2 : ∃ X', X = X' ++ (U ++ V) ∨ X = U ++ V ∧ X' = [] := by
    cases Y1 with
    | nil => exact ⟨[], .inr ⟨(List.cons.inj eY).2, rfl⟩⟩
    | cons z Y1 => exact ⟨Y1 ++ [x], .inl (by rw [(List.cons.inj eY).2]; simp)⟩
  have hX3 : ∃ X', X = X' ++ (U ++ V) := by
    obtain ⟨X', h | h⟩ := hX2
    · exact ⟨X', h⟩
    · exact ⟨[], by rw [h.1]; rfl⟩
  obtain ⟨X', hX'⟩ := hX3
  have hb2 : b < y2.1 := hs.last1 (X' := ws (X' ++ (U ++ V'))) (y := y2.1) (by rw [hX', hV']; simp [ws])
  by_cases par : V.length % 2 = 0
  · -- the last two come up
    have hV'ne : V' ≠ [] := fun e => by rw [hV', e] at par; simp at par
    obtain ⟨V'', y1, hV''⟩ := snoc hV'ne
    have hy1 := hV y1 (by rw [hV', hV'']; simp)
    have ha2 : a < y1.1 := hs.last2 (X' := ws (X' ++ (U ++ V''))) (y1 := y1.1) (y2 := y2.1) (by rw [hX', hV', hV'']; simp [ws])
    have lV2 : V.length = V''.length + 2 := by rw [hV', hV'']; simp
    have n3 : Al M (s1 + H + U.length * 2 ^ (k + 1)) V'' (s1 + H + U.length * 2 ^ (k + 1) + V''.length * 2 ^ k) := by
      have := Al.const (M := M) (l := L) (by lia) (U := V'') (s := s1 + H + U.length * 2 ^ (k + 1)) (by rw [eL0]; exact Nat.dvd_trans (Nat.pow_dvd_pow 2 (Nat.le_succ k)) d4) fun r hr => hV r (by rw [hV', hV'']; simp [hr])
      rw [eL0] at this; exact this
    have d5 := even_yes (n := V''.length) d4 (by lia)
    have n4 : Al M (s1 + H + U.length * 2 ^ (k + 1) + V''.length * 2 ^ k) [(y1.1, L - 1), (y2.1, L - 1)] (s1 + H + U.length * 2 ^ (k + 1) + V''.length * 2 ^ k + 2 ^ (k + 1) + 2 ^ (k + 1)) :=
      ⟨by show L - 1 ≤ M; (clear d5 n3 lV2 ha2 hy1 hV'' hV'ne par hb2 hX' hX2 hy2 hV' wsum' hsum lx d4 n2 d3 n1 d2 d1 hH2 hHk hH ex x2 A3 lU ek eL0 hk lV A5 A4 hal x1 A2 A1 eP hLM hlv hVne hxw hV hU hx eY hLe hyL hL hX hlt hq hp hup hs hB; lia), by show 2 ^ (M - (L - 1)) ∣ _; rw [eL1]; exact d5, by show L - 1 ≤ M; lia, by show 2 ^ (M - (L - 1)) ∣ _ + 2 ^ (M - (L - 1)); rw [eL1]; exact Nat.dvd_add d5 (Nat.dvd_refl _), by show _ + 2 ^ (M - (L - 1)) + 2 ^ (M - (L - 1)) = _; rw [eL1]⟩
    have hend : s1 + H + U.length * 2 ^ (k + 1) + V''.length * 2 ^ k + 2 ^ (k + 1) + 2 ^ (k + 1) ≤ s3 := by
      rw [lV, lU, lV2, Nat.add_mul]; (clear n4 d5 n3 lV2 ha2 hy1 hV'' hV'ne par hb2 hX' hX2 hy2 hV' wsum' hsum lx d4 n2 d3 n1 d2 d1 hHk hH ex x2 A3 lU ek eL0 hk lV A5 A4 hal x1 A2 A1 eP hLM hlv hVne hxw hV hU hx eY hLe hyL hL hX hlt hq hp hup hs hB; lia)
    have fit := Fit.append A1.fit (Fit.append A2.fit (Fit.append n1.fit (Fit.append n2.fit (Fit.append n3.fit (Fit.append (Fit.mono n4.fit (Nat.le_refl _) hend) A5.fit)))))
    have hc := hB.2 M _ (by rw [wsum', hV', hV'']; simp [ws]) fit
    rw [hsum] at hc
    have cV : cost V = cost V'' + (y1.1 * L + y2.1 * L) := by
      rw [hV', hV'', cost_append, cost_append]; simp only [cost]; rw [hy1, hy2]; exact Nat.add_assoc _ _ _
    simp only [cost_append, cost] at hc
    have m1 : y1.1 * L = y1.1 * (L - 1) + y1.1 := by rw [← Nat.mul_succ]; congr 1; lia
    have m2 : y2.1 * L = y2.1 * (L - 1) + y2.1 := by rw [← Nat.mul_succ]; congr 1; (clear m1 hc cV fit hend n4 d5 n3 lV2 ha2 hV'' hV'ne par hb2 hX' hX2 hV' wsum' hsum lx d4 n2 d3 n1 d2 d1 hH2 hHk hH ex x2 A3 lU ek eL0 eL1 hk lV A5 A4 hal x1 A2 A1 eP hLM hlv hVne hxw hV hU hx eY hyL hX hlt hq hp hup hs hB; lia)
    lia
  · have d6 : 2 ^ k ∣ s3 := by
      rw [lV]; exact Nat.dvd_add (Nat.dvd_trans (Nat.pow_dvd_pow 2 (Nat.le_succ k)) d2) ⟨V.length, Nat.mul_comm _ _⟩
    have d7 : ¬ 2 ^ (k + 1) ∣ s3 := by rw [lV]; exact odd_no d2 (by lia)
    obtain ⟨Z, C', eC, z1, z2, z3⟩ := cell_right A5 d6 d7 (Nat.pow_dvd_pow 2 (by lia))
    have hZlv : ∀ r ∈ Z, L ≤ r.2 := fun r hr => by
      have := lv_of_dvd (z3 r hr)
      have := hlv r (by rw [eC]; simp [hr])
      (clear this hr z3 z2 z1 eC d7 d6 par hb2 hX' hy2 hV' wsum' hsum lx d4 n2 d3 n1 d2 d1 hH2 hHk hH ex x2 A3 lU ek eL0 lV A5 A4 hal x1 A2 A1 eP hlv hVne hxw hV hU hx eY hLe hyL hX hlt hq hp hup hs hB; (clear hX2 eL1 hal hL; omega))
    have hZw : a ≤ wsum Z := by
      cases Z with
      | nil => have : s3 = s3 + 2 ^ k := z1; have : 0 < 2 ^ k := Nat.pow_pos (by decide); lia
      | cons c Z =>
        have h1 := hs.next c.1 (ws Z ++ ws C') (by rw [eC]; simp [ws])
        have h2 : c.1 ≤ wsum (c :: Z) := le_sum (by simp [ws])
        exact Nat.le_trans (by assumption) (by assumption)
    have lV2 : V.length = V'.length + 1 := by rw [hV']; simp
    have n3 : Al M (s1 + H + U.length * 2 ^ (k + 1)) V' (s1 + H + U.length * 2 ^ (k + 1) + V'.length * 2 ^ k) := by
      have := Al.const (M := M) (l := L) (by lia) (U := V') (s := s1 + H + U.length * 2 ^ (k + 1)) (by rw [eL0]; exact Nat.dvd_trans (Nat.pow_dvd_pow 2 (Nat.le_succ k)) d4) fun r hr => hV r (by rw [hV']; simp [hr])
      rw [eL0] at this; exact this
    have d5 := even_yes (n := V'.length) d4 (by lia)
    generalize hN : s1 + H + U.length * 2 ^ (k + 1) + V'.length * 2 ^ k = N at n3 d5
    have n4 : Al M N [(y2.1, L - 1)] (N + 2 ^ (k + 1)) := ⟨by show L - 1 ≤ M; (clear d5 n3 hN lV2 hZw hZlv z3 z2 z1 eC d7 d6 par hb2 hX' hX2 hy2 hV' wsum' hsum lx d4 n2 d3 n1 d2 d1 hH2 hHk hH ex x2 A3 lU ek eL0 hk lV A5 A4 hal x1 A2 A1 eP hLM hlv hVne hxw hV hU hx eY hLe hyL hL hX hlt hq hp hup hs hB; lia), by show 2 ^ (M - (L - 1)) ∣ _; rw [eL1]; exact d5, by show _ + 2 ^ (M - (L - 1)) = _; rw [eL1]⟩
    have d8 : 2 ^ (k + 1) ∣ N + 2 ^ (k + 1) := Nat.dvd_add d5 (Nat.dvd_refl _)
    have n5 := Al.up (M := M) (s := s3) (s' := N + 2 ^ (k + 1)) (A := Z) (x := 0) (y := 2 ^ k) (fun r hr => ⟨by have := hZlv r hr; lia, Nat.dvd_trans (z3 r hr) d6, by
      have := Nat.mul_dvd_mul_left 2 (z3 r hr); rw [← ek] at this; exact Nat.dvd_trans this d8⟩) z1
    rw [Nat.mul_zero, Nat.add_zero] at n5
    have hend : N + 2 ^ (k + 1) + 2 * 2 ^ k ≤ s3 + 2 ^ k := by
      rw [← hN, lV, lU, lV2, Nat.add_mul]; lia
    have fit := Fit.append A1.fit (Fit.append A2.fit (Fit.append n1.fit (Fit.append n2.fit (Fit.append n3.fit (Fit.append n4.fit (Fit.append (Fit.mono n5.fit (Nat.le_refl _) hend) z2.fit))))))
    have hc := hB.2 M _ (by rw [wsum', hV', eC]; simp [ws, up]) fit
    rw [hsum] at hc
    have cV : cost V = cost V' + y2.1 * L := by
      rw [hV', cost_append]; simp only [cost]; rw [hy2]; rfl
    have cC : cost C = cost Z + cost C' := by rw [eC, cost_append]
    have cZ := cost_up (A := Z) fun r hr => by have := hZlv r hr; lia
    simp only [cost_append, cost] at hc
    have m2 : y2.1 * L = y2.1 * (L - 1) + y2.1 := by rw [← Nat.mul_succ]; congr 1; (clear hc cZ cC cV fit hend n5 d8 n4 d5 n3 hN lV2 hZw hZlv z3 z2 z1 eC d7 d6 par hb2 hX' hX2 hV' wsum' hsum lx d4 n2 d3 n1 d2 d1 hH2 hHk hH ex x2 A3 lU ek eL0 eL1 hk lV A5 A4 hal x1 A2 A1 eP hLM hlv hVne hxw hV hU hx eY hyL hX hlt hq hp hup hs hB; omega)
    lia

/-- the two come back, one level deeper than the joined one -/
theorem back {A X C : Row} {a b q : Nat} (hB : Best (A ++ (a + b, q) :: (X ++ C))) (hs : Step (ws A) (ws X) (ws C) a b) : ∃ M, Al M 0 (A ++ (X ++ ((a, q + 1) :: (b, q + 1) :: C))) (2 ^ M) := by
  have hup := (List.pairwise_cons.mp (rises hB hs)).2
  have hfl := flat hB hs
  obtain ⟨U, V, eX, hU, hV⟩ := part2 (L := q + 1) hup fun p hp => by have := hfl p hp; lia
  obtain ⟨M, hal, hlv⟩ := hB.al
  have hqM := hlv (a + b, q) (by simp)
  have hqM : q + 2 ≤ M := hqM
  refine ⟨M, ?_⟩
  obtain ⟨s0, A1, hal⟩ := Al.of_append hal
  obtain ⟨x1, x2, hal⟩ := hal
  have x1 : q ≤ M := x1
  have x2 : 2 ^ (M - q) ∣ s0 := x2
  rw [eX, List.append_assoc] at hal
  have hal : Al M (s0 + 2 ^ (M - q)) (U ++ (V ++ C)) (2 ^ M) := hal
  obtain ⟨s1, A2, hal⟩ := Al.of_append hal
  obtain ⟨s2, A3, A4⟩ := Al.of_append hal
  have lU := Al.len (l := q) A2 fun r hr => by have := hU r hr; exact Nat.succ.inj (by assumption)
  have lV := Al.len (l := q + 1) A3 hV
  have ek := two_mul_pow (M := M) (l := q) (by exact Nat.le_of_lt (by assumption))
  have hd : 2 ^ (M - (q + 1)) ∣ 2 ^ (M - q) := ⟨2, by rw [ek, Nat.mul_comm]⟩
  have n1 := Al.const (M := M) (l := q) x1 (U := U) (s := s0) x2 fun r hr => by have := hU r hr; exact Nat.succ.inj (by assumption)
  have d1 : 2 ^ (M - (q + 1)) ∣ s0 + U.length * 2 ^ (M - q) := Nat.dvd_add (Nat.dvd_trans hd x2) (Nat.dvd_trans hd ⟨U.length, Nat.mul_comm _ _⟩)
  have n2 := Al.const (M := M) (l := q + 1) (by exact Nat.le_of_lt (by assumption)) (U := V) d1 hV
  have d2 : 2 ^ (M - (q + 1)) ∣ s0 + U.length * 2 ^ (M - q) + V.length * 2 ^ (M - (q + 1)) := Nat.dvd_add d1 ⟨V.length, Nat.mul_comm _ _⟩
  have n3 : Al M (s0 + U.length * 2 ^ (M - q) + V.length * 2 ^ (M - (q + 1))) [(a, q + 1), (b, q + 1)] s2 :=
    ⟨by show q + 1 ≤ M; exact Nat.le_of_lt (by assumption), d2, by show q + 1 ≤ M; exact Nat.le_of_lt (by assumption), Nat.dvd_add d2 (Nat.dvd_refl _), by show _ + 2 ^ (M - (q + 1)) + 2 ^ (M - (q + 1)) = s2; rw [lV, lU, ek]; lia⟩
  have := Al.append A1 (Al.append n1 (Al.append n2 (Al.append n3 A4)))
  rw [eX]; simpa using this
end GW

namespace GW

/-! the least price -/
noncomputable def IsLeast (s : List Nat) (v : Nat) : Prop := (∃ P M, ws P = s ∧ Al M 0 P (2 ^ M) ∧ cost P = v) ∧ ∀ M P, ws P = s → Fit M 0 P (2 ^ M) → v ≤ cost P
theorem IsLeast.uniq {s : List Nat} {v v' : Nat} (h : IsLeast s v) (h' : IsLeast s v') : v = v' := by
  obtain ⟨⟨P, M, a, b, c⟩, d⟩ := h
  obtain ⟨⟨P', M', a', b', c'⟩, d'⟩ := h'
  have := d _ _ a' b'.fit
  have := d' _ _ a b.fit
  lia
theorem IsLeast.best {s : List Nat} {v : Nat} (h : IsLeast s v) : ∃ P, Best P ∧ ws P = s ∧ cost P = v := by
  obtain ⟨⟨P, M, a, b, c⟩, d⟩ := h
  exact ⟨P, ⟨⟨M, b⟩, fun M' P' e f => by rw [c]; exact d _ _ (e.trans a) f⟩, a, c⟩
theorem Best.least {P : Row} (h : Best P) : IsLeast (ws P) (cost P) := by
  obtain ⟨⟨M, a⟩, b⟩ := h
  exact ⟨⟨P, M, rfl, a, rfl⟩, fun M P' e f => b M P' e f⟩
theorem IsLeast.mk' {P : Row} {M : Nat} (h : IsLeast (ws P) (cost P)) (a : Al M 0 P (2 ^ M)) : Best P := ⟨⟨M, a⟩, fun M' P' e f => h.2 _ _ e f⟩

theorem IsLeast.one (x : Nat) : IsLeast [x] 0 := ⟨⟨[(x, 0)], 0, rfl, ⟨Nat.le_refl _, Nat.dvd_zero _, rfl⟩, by simp [cost]⟩, fun _ _ _ _ => Nat.zero_le _⟩

theorem Fit.le {M : Nat} : ∀ {A : Row} {s e : Nat}, Fit M s A e → s ≤ e
  | [], s, e, h => h
  | p :: A, s, e, ⟨_, t, b, _, d⟩ => by have := Fit.le d; (clear d; lia)
theorem Fit.room {M : Nat} : ∀ {A : Row} {s e : Nat}, Fit M s A e → ∀ p ∈ A, s + 2 ^ (M - p.2) ≤ e ∧ (2 ≤ A.length → s + 2 ^ (M - p.2) < e)
  | q :: A, s, e, ⟨_, t, b, c, d⟩, p, hp => by
    have hl := Fit.le d
    have hpos : ∀ n, 0 < 2 ^ n := fun n => Nat.pow_pos (by decide)
    rcases List.mem_cons.mp hp with rfl | hp
    · refine ⟨by (clear hp d c hpos; lia), fun h2 => ?_⟩
      cases A with
      | nil => simp at h2
      | cons r A =>
        have := (Fit.room d r (.head _)).1
        have := hpos (M - r.2); (clear h2 hp d hl c hpos; lia)
    · have := (Fit.room d p hp).1
      have := hpos (M - q.2)
      exact ⟨by (clear hp hpos hl d c; lia), fun _ => by (clear hp hpos hl d c; lia)⟩
theorem Fit.half {M : Nat} : ∀ {A : Row} {s e : Nat}, (∀ p ∈ A, 1 ≤ p.2) → s ≤ 2 ^ M → 2 ^ M ≤ e → Fit (M + 1) s A e → ∃ A1 A2, A = A1 ++ A2 ∧ Fit (M + 1) s A1 (2 ^ M) ∧ Fit (M + 1) (2 ^ M) A2 e
  | [], s, e, _, h1, h2, h => ⟨[], [], rfl, h1, h2⟩
  | p :: A, s, e, hA, h1, h2, ⟨a, t, b, c, d⟩ => by
    by_cases hc : t + 2 ^ (M + 1 - p.2) ≤ 2 ^ M
    · obtain ⟨A1, A2, e1, f1, f2⟩ := Fit.half (fun q hq => hA q (.tail _ hq)) hc h2 d
      exact ⟨p :: A1, A2, by rw [e1]; rfl, ⟨a, t, b, c, f1⟩, f2⟩
    · refine ⟨[], p :: A, rfl, h1, ⟨a, t, ?_, c, d⟩⟩
      have := hA p (.head _)
      obtain ⟨i, hi⟩ := c
      obtain ⟨j, hj⟩ : 2 ^ (M + 1 - p.2) ∣ 2 ^ M := Nat.pow_dvd_pow 2 (by (clear hi hc d b h2 h1 hA; omega))
      rw [hi, hj] at hc ⊢
      rw [← Nat.mul_succ] at hc
      refine Nat.mul_le_mul_left _ (Nat.le_of_not_lt fun q => hc (Nat.mul_le_mul_left _ q))
theorem Fit.upd {M s0 : Nat} : ∀ {A : Row} {s e : Nat}, (∀ p ∈ A, 1 ≤ p.2 ∧ 2 ^ (M + 1 - p.2) ∣ s0) → Fit (M + 1) (s0 + s) A (s0 + e) → Fit M s (up A) e
  | [], s, e, _, h => by have : s0 + s ≤ s0 + e := h; show s ≤ e; lia
  | p :: A, s, e, hA, ⟨a, t, b, c, d⟩ => by
    obtain ⟨h1, h2⟩ := hA p (.head _)
    have e1 : M - (p.2 - 1) = M + 1 - p.2 := by lia
    obtain ⟨t', rfl⟩ : ∃ t', t = s0 + t' := ⟨t - s0, by lia⟩
    refine ⟨by show p.2 - 1 ≤ M; (clear d c b e1 h2 hA; omega), t', by lia, ?_, ?_⟩
    · show 2 ^ (M - (p.2 - 1)) ∣ t'
      rw [e1]; exact (Nat.dvd_add_right h2).mp c
    · show Fit M (t' + 2 ^ (M - (p.2 - 1))) (up A) e
      rw [e1]; exact Fit.upd (fun q hq => hA q (.tail _ hq)) (by rw [← Nat.add_assoc]; exact d)
theorem ws_len {P : Row} {s : List Nat} (h : ws P = s) : P.length = s.length := by rw [← h, ws, List.length_map]
theorem least_low {s : List Nat} {m : Nat} {f g : Nat → Nat} (h2 : 2 ≤ s.length) (hf : ∀ i, 1 ≤ i → i < s.length → ∀ M P, ws P = s.take i → Fit M 0 P (2 ^ M) → f i ≤ cost P) (hg : ∀ i, 1 ≤ i → i < s.length → ∀ M P, ws P = s.drop i → Fit M 0 P (2 ^ M) → g i ≤ cost P) (hm : ∀ i, 1 ≤ i → i < s.length → m ≤ f i + g i) : ∀ M P, ws P = s → Fit M 0 P (2 ^ M) → m + s.sum ≤ cost P
  | 0, P, e, h => by
    have hl := ws_len e
    obtain ⟨p, P', rfl⟩ : ∃ p P', P = p :: P' := by
      cases P with
      | nil => simp at hl; lia
      | cons p P' => exact ⟨p, P', rfl⟩
    have := (Fit.room h p (.head _)).2 (by lia)
    have := Nat.pow_pos (n := 0 - p.2) (show 0 < 2 by decide)
    rw [Nat.pow_zero] at *; lia
  | M + 1, P, e, h => by
    have hl := ws_len e
    have h1 : ∀ p ∈ P, 1 ≤ p.2 := fun p hp => by
      have := (Fit.room h p hp).2 (by lia)
      refine Nat.pos_of_ne_zero fun z => ?_
      rw [z, Nat.sub_zero] at this; lia
    have e2 : 2 ^ (M + 1) = 2 ^ M + 2 ^ M := by rw [Nat.pow_succ]; lia
    obtain ⟨P1, P2, rfl, a1, a2⟩ := Fit.half h1 (Nat.zero_le _) (Nat.le_of_lt (Nat.pow_lt_pow_succ (by decide))) h
    have hd : ∀ p ∈ P1 ++ P2, 2 ^ (M + 1 - p.2) ∣ 2 ^ M := fun p hp => Nat.pow_dvd_pow 2 (by have := h1 p hp; (clear hp a2 a1 h1 hl h e e2 hm hg hf h2; omega))
    have b1 : Fit M 0 (up P1) (2 ^ M) := Fit.upd (s0 := 0) (fun p hp => ⟨h1 p (List.mem_append_left _ hp), Nat.dvd_zero _⟩) (by simpa using a1)
    have b2 : Fit M 0 (up P2) (2 ^ M) := Fit.upd (s0 := 2 ^ M) (fun p hp => ⟨h1 p (List.mem_append_right _ hp), hd p (List.mem_append_right _ hp)⟩) (by rw [← e2]; exact a2)
    have c1 := cost_up (A := P1) fun p hp => h1 p (List.mem_append_left _ hp)
    have c2 := cost_up (A := P2) fun p hp => h1 p (List.mem_append_right _ hp)
    have hs : s.sum = wsum P1 + wsum P2 := by rw [← e, ← wsum_append]; rfl
    rw [cost_append]
    by_cases n1 : P1.length = 0
    · have : P1 = [] := List.length_eq_zero_iff.mp n1
      subst this
      have := least_low h2 hf hg hm M (up P2) (by rw [ws_up]; exact e) b2
      simp [cost] at *; lia
    by_cases n2 : P2.length = 0
    · have : P2 = [] := List.length_eq_zero_iff.mp n2
      subst this
      have := least_low h2 hf hg hm M (up P1) (by rw [ws_up]; simpa using e) b1
      simp [cost] at *; lia
    have el : P1.length < s.length := by rw [← hl, List.length_append]; lia
    rw [ws_append] at e
    have ew : (ws P1).length = P1.length := List.length_map ..
    have q1 := hf P1.length (by exact Nat.pos_of_ne_zero (by assumption)) el M (up P1) (by rw [ws_up, ← e, ← ew, List.take_left']; rfl) b1
    have q2 := hg P1.length (by exact Nat.pos_of_ne_zero (by assumption)) el M (up P2) (by rw [ws_up, ← e, ← ew, List.drop_left']; rfl) b2
    have q3 := hm P1.length (by exact Nat.pos_of_ne_zero (by assumption)) el
    lia

noncomputable def dn (A : Row) : Row := A.map fun p => (p.1, p.2 + 1)
theorem ws_dn {A : Row} : ws (dn A) = ws A := by simp [ws, dn]
theorem cost_dn : ∀ {A : Row}, cost (dn A) = cost A + wsum A
  | [] => rfl
  | p :: A => by
    show p.1 * (p.2 + 1) + cost (dn A) = _
    rw [cost_dn (A := A), Nat.mul_succ]; simp [cost, wsum, ws]; lia
theorem Al.dwn {M : Nat} : ∀ {A : Row} {s e : Nat}, Al M s A e → Al (M + 1) s (dn A) e
  | [], s, e, h => h
  | p :: A, s, e, ⟨h1, h2, h3⟩ => by
    have e1 : M + 1 - (p.2 + 1) = M - p.2 := by lia
    refine ⟨Nat.succ_le_succ h1, ?_, ?_⟩
    · show 2 ^ (M + 1 - (p.2 + 1)) ∣ s; rw [e1]; exact h2
    · show Al (M + 1) (s + 2 ^ (M + 1 - (p.2 + 1))) _ e; rw [e1]; exact Al.dwn h3
theorem Al.scale' {M : Nat} {A : Row} (h : Al M 0 A (2 ^ M)) : ∀ k, Al (M + k) 0 A (2 ^ (M + k))
  | 0 => h
  | k + 1 => by
    have := Al.scale (Al.scale' h k)
    rw [Nat.mul_zero, show 2 * 2 ^ (M + k) = 2 ^ (M + (k + 1)) by rw [← Nat.add_assoc, Nat.pow_succ]; lia] at this
    exact this
theorem Al.join {M1 M2 : Nat} {A B : Row} (h1 : Al M1 0 A (2 ^ M1)) (h2 : Al M2 0 B (2 ^ M2)) : Al (M1 + M2 + 1) 0 (dn A ++ dn B) (2 ^ (M1 + M2 + 1)) := by
  have a := Al.dwn (Al.scale' h1 M2)
  have b := Al.dwn (Al.scale' h2 M1)
  rw [Nat.add_comm M2 M1] at b
  refine Al.append a ?_
  have c := Al.move (M := M1 + M2 + 1) (s := 0) (s' := 2 ^ (M1 + M2)) (A := dn B) (x := 0) (y := 2 ^ (M1 + M2)) (fun p hp => by
    obtain ⟨q, hq, rfl⟩ := List.mem_map.mp hp
    refine ⟨Nat.dvd_zero _, Nat.pow_dvd_pow 2 (by show M1 + M2 + 1 - (q.2 + 1) ≤ _; omega)⟩) (by simpa using b)
  rw [show 2 ^ (M1 + M2 + 1) = 2 ^ (M1 + M2) + 2 ^ (M1 + M2) by rw [Nat.pow_succ]; (clear c b a h2 h1; lia)]
  exact c
theorem IsLeast.step {s : List Nat} {m : Nat} {f g : Nat → Nat} (h2 : 2 ≤ s.length) (hf : ∀ i, 1 ≤ i → i < s.length → IsLeast (s.take i) (f i)) (hg : ∀ i, 1 ≤ i → i < s.length → IsLeast (s.drop i) (g i)) (hm : ∀ i, 1 ≤ i → i < s.length → m ≤ f i + g i) (he : ∃ i, 1 ≤ i ∧ i < s.length ∧ m = f i + g i) : IsLeast s (m + s.sum) := by
  refine ⟨?_, least_low h2 (fun i a b => (hf i a b).2) (fun i a b => (hg i a b).2) hm⟩
  obtain ⟨i, h1, h3, h4⟩ := he
  obtain ⟨⟨P1, M1, a1, b1, c1⟩, _⟩ := hf i h1 h3
  obtain ⟨⟨P2, M2, a2, b2, c2⟩, _⟩ := hg i h1 h3
  have hw : ws P1 ++ ws P2 = s := by rw [a1, a2, List.take_append_drop]
  refine ⟨dn P1 ++ dn P2, _, by rw [ws_append, ws_dn, ws_dn, hw], b1.join b2, ?_⟩
  have hs : s.sum = wsum P1 + wsum P2 := by rw [← hw]; simp [wsum]
  rw [cost_append, cost_dn, cost_dn]; lia
theorem min_ex : ∀ (n : Nat) (h : Nat → Nat), 0 < n → ∃ i, i < n ∧ ∀ j, j < n → h i ≤ h j
  | 1, h, _ => ⟨0, by decide, fun j q => by rw [show j = 0 by lia]; exact Nat.le_refl _⟩
  | n + 2, h, _ => by
    obtain ⟨i, a, b⟩ := min_ex (n + 1) h (by exact Nat.succ_pos _)
    by_cases c : h i ≤ h (n + 1)
    · exact ⟨i, by exact Nat.le_succ_of_le (by assumption), fun j q => by
        by_cases r : j = n + 1
        · rw [r]; exact c
        · exact b j (by lia)⟩
    · exact ⟨n + 1, by exact Nat.lt_succ_self _, fun j q => by
        by_cases r : j = n + 1
        · rw [r]; exact Nat.le_refl _
        · have := b j (by lia); lia⟩
theorem IsLeast.ex : ∀ (n : Nat) {s : List Nat}, s.length = n → s ≠ [] → ∃ v, IsLeast s v := fun n => by
  induction n using Nat.strongRecOn with
  | ind n ih =>
    intro s hn hs
    by_cases h1 : s.length = 1
    · obtain ⟨x, rfl⟩ := List.length_eq_one_iff.mp h1
      exact ⟨0, .one x⟩
    · have h0 : 0 < s.length := List.length_pos_iff.mpr hs
      have hf : ∀ i, ∃ v, 1 ≤ i → i < s.length → IsLeast (s.take i) v := fun i => by
        by_cases c : 1 ≤ i ∧ i < s.length
        · obtain ⟨v, hv⟩ := ih i (by lia) (s := s.take i) (by rw [List.length_take]; lia) (fun z => by have := congrArg List.length z; rw [List.length_take, List.length_nil] at this; lia)
          exact ⟨v, fun _ _ => hv⟩
        · exact ⟨0, fun a b => (c ⟨a, b⟩).elim⟩
      have hg : ∀ i, ∃ v, 1 ≤ i → i < s.length → IsLeast (s.drop i) v := fun i => by
        by_cases c : 1 ≤ i ∧ i < s.length
        · obtain ⟨v, hv⟩ := ih (s.length - i) (by omega) (s := s.drop i) (by rw [List.length_drop]) (fun z => by have := congrArg List.length z; rw [List.length_drop, List.length_nil] at this; lia)
          exact ⟨v, fun _ _ => hv⟩
        · exact ⟨0, fun a b => (c ⟨a, b⟩).elim⟩
      obtain ⟨f, hf⟩ := Classical.axiomOfChoice hf
      obtain ⟨g, hg⟩ := Classical.axiomOfChoice hg
      obtain ⟨i, a, b⟩ := min_ex (s.length - 1) (fun i => f (i + 1) + g (i + 1)) (by lia)
      exact ⟨_, .step (by lia) hf hg (fun j c d => by have := b (j - 1) (by lia); simp only [Nat.sub_add_cancel c] at this; exact this) ⟨i + 1, by exact Nat.succ_pos _, by lia, rfl⟩⟩
theorem IsLeast.reverse : ∀ (n : Nat) {s : List Nat} {v : Nat}, s.length = n → s ≠ [] → IsLeast s v → IsLeast s.reverse v := fun n => by
  induction n using Nat.strongRecOn with
  | ind n ih =>
    intro s v hn hs hv
    by_cases h1 : s.length = 1
    · obtain ⟨x, rfl⟩ := List.length_eq_one_iff.mp h1
      exact hv
    · have h0 : 0 < s.length := List.length_pos_iff.mpr hs
      have nt : ∀ {i}, 1 ≤ i → i < s.length → s.take i ≠ [] := fun a b z => by have := congrArg List.length z; rw [List.length_take, List.length_nil] at this; lia
      have nd : ∀ {i}, 1 ≤ i → i < s.length → s.drop i ≠ [] := fun a b z => by have := congrArg List.length z; rw [List.length_drop, List.length_nil] at this; lia
      have hf : ∀ i, ∃ v, 1 ≤ i → i < s.length → IsLeast (s.take i) v := fun i => by
        by_cases c : 1 ≤ i ∧ i < s.length
        · obtain ⟨v, hv⟩ := IsLeast.ex _ rfl (nt c.1 c.2)
          exact ⟨v, fun _ _ => hv⟩
        · exact ⟨0, fun a b => (c ⟨a, b⟩).elim⟩
      have hg : ∀ i, ∃ v, 1 ≤ i → i < s.length → IsLeast (s.drop i) v := fun i => by
        by_cases c : 1 ≤ i ∧ i < s.length
        · obtain ⟨v, hv⟩ := IsLeast.ex _ rfl (nd c.1 c.2)
          exact ⟨v, fun _ _ => hv⟩
        · exact ⟨0, fun a b => (c ⟨a, b⟩).elim⟩
      obtain ⟨f, hf⟩ := Classical.axiomOfChoice hf
      obtain ⟨g, hg⟩ := Classical.axiomOfChoice hg
      obtain ⟨i, a, b⟩ := min_ex (s.length - 1) (fun i => f (i + 1) + g (i + 1)) (by lia)
      have hl : ∀ j, 1 ≤ j → j < s.length → f (i + 1) + g (i + 1) ≤ f j + g j := fun j c d => by have := b (j - 1) (by lia); simp only [Nat.sub_add_cancel c] at this; exact this
      have e := hv.uniq (.step (by lia) hf hg hl ⟨i + 1, by exact Nat.succ_pos _, by lia, rfl⟩)
      rw [e, ← List.sum_reverse]
      refine .step (f := fun j => g (s.length - j)) (g := fun j => f (s.length - j)) (by rw [List.length_reverse]; lia) (fun j c d => ?_) (fun j c d => ?_) (fun j c d => ?_) ⟨s.length - (i + 1), ?_⟩
      · rw [List.length_reverse] at d
        rw [List.take_reverse]
        exact ih (s.length - (s.length - j)) (by lia) (by rw [List.length_drop]) (nd (by lia) (by lia)) (hg _ (by lia) (by lia))
      · rw [List.length_reverse] at d
        rw [List.drop_reverse]
        exact ih (s.length - j) (by (clear e hl b a hg hf nd nt h0 h1 hv hs ih; omega)) (by rw [List.length_take]; lia) (nt (by lia) (by lia)) (hf _ (by lia) (by lia))
      · rw [List.length_reverse] at d
        have := hl (s.length - j) (by lia) (by lia)
        show _ ≤ g (s.length - j) + f (s.length - j); lia
      · rw [List.length_reverse]
        refine ⟨by (clear e hl b hg hf nd nt h1 hv hs ih; omega), by (clear e hl b a hg hf nd nt h1 hv hs ih; omega), ?_⟩
        show _ = g (s.length - (s.length - (i + 1))) + f (s.length - (s.length - (i + 1)))
        rw [show s.length - (s.length - (i + 1)) = i + 1 by lia]; exact Nat.add_comm _ _
end GW

namespace GW

/-- a pair of which the first is not heavier than what stands behind it comes to one level, at no greater price -/
theorem level_pair {A C : Row} {a b : Nat × Nat} (hB : Best (A ++ a :: b :: C)) (hn : ∀ c C', ws C = c :: C' → a.1 ≤ c) (h : a.2 < b.2) : ∃ C1, ws C1 = ws C ∧ Best (A ++ (a.1, a.2 + 1) :: (b.1, a.2 + 1) :: C1) := by
  obtain ⟨M, hal, hlv⟩ := hB.al
  have la := hlv a (by simp); have lb := hlv b (by simp)
  obtain ⟨p, h1, h2, h3, h4, h5, h6⟩ := Al.of_append hal
  obtain ⟨k, hk⟩ : ∃ k, k = M - b.2 := ⟨_, rfl⟩
  rw [← hk] at h5 h6
  have hd : 2 ^ (k + 1) ∣ p + 2 ^ (M - a.2) := Nat.dvd_trans (Nat.pow_dvd_pow 2 (by lia)) (Nat.dvd_add h3 (Nat.dvd_refl _))
  have e2 : 2 ^ (k + 1) = 2 * 2 ^ k := by rw [Nat.pow_succ, Nat.mul_comm]
  have hno : ¬ 2 ^ (k + 1) ∣ p + 2 ^ (M - a.2) + 2 ^ k := fun q => by
    have := Nat.le_of_dvd (Nat.pow_pos (by decide)) ((Nat.dvd_add_right hd).mp q)
    have := Nat.pow_pos (n := k) (show 0 < 2 by decide); (clear q e2 hd hk h5 h6 h4 h3 h2 h1 lb la hlv hal h hn hB; lia)
  obtain ⟨Z, C', rfl, z1, z2, z3⟩ := cell_right h6 (Nat.dvd_add h5 (Nat.dvd_refl _)) hno (Nat.pow_dvd_pow 2 (by lia))
  have hZ : ∀ x ∈ Z, b.2 ≤ x.2 := fun x hx => by
    have := lv_of_dvd (z3 x hx)
    have := hlv x (by simp [hx]); (clear hx z3 z2 z1 h6 hlv hal hn hB hno e2 hd h5 h4 h3 h2 h1 la h; omega)
  have hw : a.1 ≤ wsum Z := by
    cases Z with
    | nil => have : p + 2 ^ (M - a.2) + 2 ^ k = p + 2 ^ (M - a.2) + 2 ^ k + 2 ^ k := z1; have := Nat.pow_pos (n := k) (show 0 < 2 by decide); (clear hZ z3 z1 h6 hlv hal hn hB z2 hno e2 hd hk h5 h4 h3 h2 h1 lb la h; lia)
    | cons z Z =>
      have := hn z.1 _ rfl
      have : z.1 ≤ wsum (z :: Z) := le_sum (by simp [ws])
      exact Nat.le_trans (by assumption) (by assumption)
  have b1 : Al M (p + 2 ^ (M - a.2) + 2 * 0) (up Z) (p + 2 ^ (M - a.2) + 2 * 2 ^ k) := Al.up (s := p + 2 ^ (M - a.2) + 2 ^ k) (fun x hx => ⟨by have := hZ x hx; lia, Nat.dvd_trans (z3 x hx) (Nat.dvd_add h5 (Nat.dvd_refl _)), by
    have := Nat.mul_dvd_mul_left 2 (z3 x hx); rw [← e2] at this; exact Nat.dvd_trans this hd⟩) (by rw [Nat.add_zero]; exact z1)
  have ea := two_mul_pow (M := M) (l := a.2) (by exact Nat.lt_of_lt_of_le (by assumption) (by assumption))
  have b2 : Al M p [(a.1, a.2 + 1), (b.1, a.2 + 1)] (p + 2 ^ (M - a.2)) := by
    have d1 : 2 ^ (M - (a.2 + 1)) ∣ p := Nat.dvd_trans (Nat.pow_dvd_pow 2 (by (clear ea b1 hw hZ z3 z2 z1 h6 hlv hal hn hB hno e2 hd hk h5 h4 h3 h2 h1 lb h; omega))) h3
    refine ⟨by show a.2 + 1 ≤ M; exact Nat.lt_of_lt_of_le (by assumption) (by assumption), d1, by show a.2 + 1 ≤ M; exact Nat.lt_of_lt_of_le (by assumption) (by assumption), Nat.dvd_add d1 (Nat.dvd_refl _), ?_⟩
    show p + 2 ^ (M - (a.2 + 1)) + 2 ^ (M - (a.2 + 1)) = _
    lia
  have z2' : Al M (p + 2 ^ (M - a.2) + 2 * 2 ^ k) C' (2 ^ M) := by rw [show p + 2 ^ (M - a.2) + 2 * 2 ^ k = p + 2 ^ (M - a.2) + 2 ^ k + 2 ^ k by (clear b2 ea b1 hw hZ z3 z2 z1 h6 hlv hal hn hB hno e2 hd hk h5 h4 h3 h2 h1 lb la h; lia)]; exact z2
  have b3 := Al.append h1 (Al.append b2 (Al.append (by rw [Nat.mul_zero, Nat.add_zero] at b1; exact b1) z2'))
  have cZ := cost_up (A := Z) fun x hx => by have := hZ x hx; lia
  have hws : ws (A ++ (a.1, a.2 + 1) :: (b.1, a.2 + 1) :: (up Z ++ C')) = ws (A ++ a :: b :: (Z ++ C')) := by
    rw [ws_append, ws_append, ws_cons, ws_cons, ws_cons, ws_cons, ws_append, ws_append, ws_up]
  refine ⟨up Z ++ C', by rw [ws_append, ws_append, ws_up], ⟨M, b3⟩, fun M' P' e f => Nat.le_trans ?_ (hB.2 M' P' (e.trans hws) f)⟩
  simp only [cost_append, cost]
  have m1 : b.1 * (a.2 + 1) ≤ b.1 * b.2 := Nat.mul_le_mul_left _ (by assumption)
  have m2 : a.1 * (a.2 + 1) = a.1 * a.2 + a.1 := Nat.mul_succ _ _
  lia

/-- no light one lies two levels above a pair -/
theorem no_raise {P1 U V P2 : Row} {x y1 y2 : Nat × Nat} {L : Nat} (hB : Best (P1 ++ x :: (U ++ (V ++ y1 :: y2 :: P2)))) (hx : x.2 + 2 ≤ L) (hU : ∀ p ∈ U, p.2 + 1 = L) (hV : ∀ p ∈ V, p.2 = L) (hev : V.length % 2 = 0) (h1 : y1.2 = L) (h2 : y2.2 = L) : y1.1 + y2.1 ≤ x.1 := by
  obtain ⟨M, hal, hlv⟩ := hB.al
  have lM := hlv y1 (by simp)
  obtain ⟨t, a1, a2, a3, a4⟩ := Al.of_append hal
  obtain ⟨E1, u1, a5⟩ := Al.of_append a4
  obtain ⟨E2, v1, a6, a7, a8, a9, a10⟩ := Al.of_append a5
  obtain ⟨k, hk⟩ : ∃ k, k = M - L := ⟨_, rfl⟩
  have eU := Al.len u1 (l := L - 1) fun p hp => by have := hU p hp; lia
  have eV := Al.len v1 hV
  rw [h1, ← hk] at a7 a9 a10
  rw [h2, ← hk] at a9 a10
  have e2 : 2 ^ (k + 1) = 2 * 2 ^ k := by rw [Nat.pow_succ, Nat.mul_comm]
  rw [show M - (L - 1) = k + 1 by lia] at eU
  rw [← hk] at eV
  have ex := two_mul_pow (M := M) (l := x.2) (by lia)
  have hhalf : 2 * 2 ^ k ≤ 2 ^ (M - (x.2 + 1)) := by rw [← e2]; exact Nat.pow_le_pow_right (by decide) (by (clear ex e2 eV eU a7 a9 a10 a8 a6 v1 a5 u1 a4 a3 a1 hlv hal h2 hev hV hU hB; lia))
  have dT : 2 ^ (k + 1) ∣ t + 2 ^ (M - x.2) := Nat.dvd_trans (Nat.pow_dvd_pow 2 (by lia)) (Nat.dvd_add a3 (Nat.dvd_refl _))
  have dE1 : 2 ^ (k + 1) ∣ E1 := by rw [eU]; exact Nat.dvd_add dT (Nat.dvd_mul_left _ _)
  have dE2 : 2 ^ (k + 1) ∣ E2 := by rw [eV]; exact even_yes dE1 hev
  obtain ⟨T, hT⟩ : ∃ T, t + 2 ^ (M - x.2) = T + 2 * 2 ^ k := ⟨t + 2 ^ (M - x.2) - 2 * 2 ^ k, by (clear dE2 dE1 dT e2 eV eU hk a7 a9 a10 a8 a6 v1 a5 u1 a4 a3 a2 a1 lM hlv hal h2 h1 hev hV hU hx hB; lia)⟩
  have dT' : 2 ^ (k + 1) ∣ T := (Nat.dvd_add_left (by rw [← e2]; exact Nat.dvd_refl _)).mp (hT ▸ dT)
  have mv : ∀ p ∈ U ++ V, 2 ^ (M - p.2) ∣ T + 2 * 2 ^ k ∧ 2 ^ (M - p.2) ∣ T := fun p hp => by
    have : 2 ^ (M - p.2) ∣ 2 ^ (k + 1) := Nat.pow_dvd_pow 2 (by
      rcases List.mem_append.mp hp with q | q
      · have := hU p q; (clear q hp dT' hT dE2 dE1 dT hhalf ex e2 eV eU a7 a9 a10 a8 a6 v1 a5 u1 a4 a3 a2 a1 hlv hal h2 hev hV hU hx hB; lia)
      · have := hV p q; lia)
    exact ⟨Nat.dvd_trans this (hT ▸ dT), Nat.dvd_trans this dT'⟩
  obtain ⟨z, hz⟩ : ∃ z, E2 = T + 2 * 2 ^ k + z := ⟨E2 - (T + 2 * 2 ^ k), by have := Al.le (Al.append u1 v1); (clear mv dT' dE2 dE1 dT hhalf ex e2 hk a7 a9 a10 a8 a6 v1 a5 u1 a4 a3 a2 a1 lM hlv hal h2 h1 hev hV hU hx hB; omega)⟩
  have uv : Al M T (U ++ V) (T + z) := Al.move (s := T + 2 * 2 ^ k) (s' := T) (x := 0) mv (by rw [Nat.add_zero, ← hz, ← hT]; exact Al.append u1 v1)
  have eL : 2 ^ (M - (L - 1)) = 2 * 2 ^ k := by rw [show M - (L - 1) = k + 1 by lia, e2]
  have dz : 2 * 2 ^ k ∣ T + z := by
    refine (Nat.dvd_add_right (Nat.dvd_refl _)).mp (?_ : 2 * 2 ^ k ∣ 2 * 2 ^ k + (T + z))
    rw [show 2 * 2 ^ k + (T + z) = E2 by lia, ← e2]; exact dE2
  have new : Fit M 0 (P1 ++ (x.1, x.2 + 1) :: ((U ++ V) ++ (y1.1, L - 1) :: (y2.1, L - 1) :: P2)) (2 ^ M) := by
    refine Fit.append a1.fit ⟨by show x.2 + 1 ≤ M; lia, t, Nat.le_refl _, Nat.dvd_trans (Nat.pow_dvd_pow 2 (by show M - (x.2 + 1) ≤ M - x.2; (clear dz eL uv hz mv dT' hT dE2 dE1 dT hhalf ex e2 eV eU hk a7 a9 a10 a8 a6 v1 a5 u1 a4 a3 a1 lM hlv hal h2 h1 hev hV hU hx hB; omega))) a3, ?_⟩
    refine Fit.mono (s := T) (Al.fit (Al.append uv ⟨by show L - 1 ≤ M; (clear dz eL uv hz mv dT' hT dE2 dE1 dT hhalf ex e2 eV eU a7 a9 a10 a8 a6 v1 a5 u1 a4 a3 a2 a1 hlv hal h2 hev hV hU hx hB; lia), by show 2 ^ (M - (L - 1)) ∣ _; rw [eL]; exact dz, by show L - 1 ≤ M; (clear dz eL uv hz mv dT' hT dE2 dE1 dT hhalf ex e2 eV eU a7 a9 a10 a8 a6 v1 a5 u1 a4 a3 a2 a1 hlv hal h2 hev hV hU hx hB; lia), ?_, ?_⟩)) (by show t + 2 ^ (M - (x.2 + 1)) ≤ T; (clear dz eL uv hz mv dT' dE2 dE1 dT e2 eV eU hk a7 a9 a10 a8 a6 v1 a5 u1 a4 a3 a2 a1 lM hlv hal h2 h1 hev hV hU hx hB; lia)) (Nat.le_refl _)
    · show 2 ^ (M - (L - 1)) ∣ T + z + 2 ^ (M - (L - 1)); rw [eL]; exact Nat.dvd_add dz (Nat.dvd_refl _)
    · show Al M (T + z + 2 ^ (M - (L - 1)) + 2 ^ (M - (L - 1))) P2 _
      rw [eL, show T + z + 2 * 2 ^ k + 2 * 2 ^ k = E2 + 2 ^ k + 2 ^ k by (clear dz eL uv mv dT' hT dE2 dE1 dT hhalf ex e2 eU hk a7 a9 a10 a8 a6 v1 a5 u1 a4 a3 a2 a1 lM hlv hal h2 h1 hev hV hU hx hB; lia)]; exact a10
  have hc := hB.2 M _ (by simp [ws]) new
  simp only [cost_append, cost] at hc
  rw [h1, h2] at hc
  have m1 : x.1 * (x.2 + 1) = x.1 * x.2 + x.1 := Nat.mul_succ _ _
  have m2 : ∀ y : Nat, y * L = y * (L - 1) + y := fun y => by rw [← Nat.mul_succ]; congr 1; lia
  have := m2 y1.1; have := m2 y2.1
  lia

/-- what is light and the pair lie on two levels -/
theorem flat_old {A X C : Row} {a b L : Nat} (hB : Best (A ++ (X ++ ((a, L) :: (b, L) :: C)))) (hs : Step (ws A) (ws X) (ws C) a b) : ∀ p ∈ X, p.2 ≤ L ∧ L ≤ p.2 + 1 := by
  have hup : Up (X ++ [(a, L)]) := up_of fun Y1 v z Y2 e => by
    have hB' : Best (A ++ Y1 ++ v :: z :: (Y2 ++ (b, L) :: C)) := by
      have : A ++ (X ++ ((a, L) :: (b, L) :: C)) = A ++ (X ++ [(a, L)] ++ (b, L) :: C) := by simp
      rw [this, e] at hB
      simpa using hB
    by_cases h1 : A ++ Y1 = []
    · rw [h1] at hB'; exact levels_first hB'
    · obtain ⟨A', u, h2⟩ := snoc h1
      rw [h2] at hB'
      refine levels_up (A := A') (u := u) (by simpa using hB') ?_
      have hd := hs.desc
      have e' := congrArg ws e
      rw [show ws A ++ ws X ++ [a, b] = ws A ++ ws (X ++ [(a, L)]) ++ [b] by simp [ws], e] at hd
      rw [show ws A ++ ws (Y1 ++ v :: z :: Y2) ++ [b] = ws (A ++ Y1) ++ v.1 :: z.1 :: (ws Y2 ++ [b]) by simp [ws], h2] at hd
      exact Desc2.at (P := ws A') (v := v.1) (R := ws Y2 ++ [b]) (by simpa [ws] using hd)
  have hX : ∀ p ∈ X, p.2 ≤ L := fun p hp => (List.pairwise_append.mp hup).2.2 p hp _ (.head _)
  refine fun p hp => ⟨hX p hp, ?_⟩
  refine Classical.byContradiction fun hn => ?_
  obtain ⟨Y1, x, U, V, eX, hx, hU, hV⟩ := part3 (List.pairwise_append.mp hup).1 hX ⟨p, hp, by exact Nat.lt_of_not_le (by assumption)⟩
  have lx := hs.light x.1 (List.mem_map_of_mem (by rw [eX]; simp))
  by_cases hev : V.length % 2 = 0
  · have := no_raise (P1 := A ++ Y1) (x := x) (U := U) (V := V) (y1 := (a, L)) (y2 := (b, L)) (P2 := C) (L := L) (by rw [eX] at hB; simpa using hB) hx hU hV hev rfl rfl
    have : a + b ≤ x.1 := this
    lia
  · obtain ⟨V', y, eV⟩ := snoc (A := V) (fun q => by rw [q] at hev; exact hev rfl)
    subst eV
    have hy := hs.last1 (X' := ws Y1 ++ x.1 :: (ws U ++ ws V')) (y := y.1) (by rw [eX]; simp [ws])
    have := no_raise (P1 := A ++ Y1) (x := x) (U := U) (V := V') (y1 := y) (y2 := (a, L)) (P2 := (b, L) :: C) (L := L) (by rw [eX] at hB; simpa using hB) hx hU (fun q hq => hV q (List.mem_append_left _ hq)) (by rw [List.length_append] at hev; simp at hev; lia) (hV y (by simp)) rfl
    have : y.1 + a ≤ x.1 := this
    lia

/-- the joined row is cheaper by what is joined -/
theorem fwd_flat {A X C : Row} {a b L : Nat} (hB : Best (A ++ (X ++ ((a, L) :: (b, L) :: C)))) (hs : Step (ws A) (ws X) (ws C) a b) : ∃ M P', ws P' = ws A ++ (a + b) :: (ws X ++ ws C) ∧ Fit M 0 P' (2 ^ M) ∧ cost P' + (a + b) ≤ cost (A ++ (X ++ ((a, L) :: (b, L) :: C))) := by
  have hfl := flat_old hB hs
  obtain ⟨M, hal, hlv⟩ := hB.al
  have lM : L + 2 ≤ M := hlv (a, L) (by simp)
  obtain ⟨s, a1, a2⟩ := Al.of_append hal
  obtain ⟨E, a3, a4, a5, a6, a7, a8⟩ := Al.of_append a2
  obtain ⟨k, hk⟩ : ∃ k, k = M - L := ⟨_, rfl⟩
  change 2 ^ (M - L) ∣ E at a5
  change 2 ^ (M - L) ∣ E + 2 ^ (M - L) at a7
  change Al M (E + 2 ^ (M - L) + 2 ^ (M - L)) C (2 ^ M) at a8
  rw [← hk] at a5 a7 a8
  have e2 : 2 ^ (k + 1) = 2 * 2 ^ k := by rw [Nat.pow_succ, Nat.mul_comm]
  have kpos := Nat.pow_pos (n := k) (show 0 < 2 by decide)
  have L1 : 1 ≤ L := by
    refine Nat.pos_of_ne_zero fun z => ?_
    have := Al.le a8
    rw [show M = k by lia] at this; lia
  have eL : 2 ^ (M - (L - 1)) = 2 * 2 ^ k := by rw [show M - (L - 1) = k + 1 by lia, e2]
  have m2 : ∀ y : Nat, y * L = y * (L - 1) + y := fun y => by rw [← Nat.mul_succ]; congr 1; lia
  have hsX : 2 ^ k ∣ s := by
    cases X with
    | nil => have : s = E := a3; rw [this]; exact a5
    | cons x X =>
      have := hfl x (.head _)
      exact Nat.dvd_trans (Nat.pow_dvd_pow 2 (by (clear a3 a2 hlv hal hfl hs hB m2 eL L1 kpos e2 a8 a7 a5 a6 a4 a1; omega))) a3.2.1
  have hX2 : ∀ p ∈ X, 2 ^ (M - p.2) ∣ 2 * 2 ^ k := fun p hp => by have := hfl p hp; rw [← e2]; exact Nat.pow_dvd_pow 2 (by (clear hp hsX m2 eL L1 kpos e2 a8 a7 a5 a6 a4 a3 a2 a1 hlv hal hfl hs hB; omega))
  obtain ⟨z, hz⟩ : ∃ z, E = s + z := ⟨E - s, by have := Al.le a3; lia⟩
  have hXs : ∀ p ∈ X, 2 ^ (M - p.2) ∣ s := by
    cases X with
    | nil => exact fun p hp => nomatch hp
    | cons x X =>
      intro p hp
      by_cases c : 2 ^ (k + 1) ∣ s
      · exact Nat.dvd_trans (hX2 p hp) (e2 ▸ c)
      · have hx := hfl x (.head _)
        have hpx : x.2 ≤ p.2 := by
          rcases List.mem_cons.mp hp with rfl | hp
          · exact Nat.le_refl _
          · have hxL : x.2 = L := by
              refine Classical.byContradiction fun q => c ?_
              have := a3.2.1; rw [show M - x.2 = k + 1 by lia] at this; exact this
            have hup : Up (x :: X) := up_of fun Y1 v z Y2 e => by
              have hB' : Best (A ++ Y1 ++ v :: z :: (Y2 ++ (a, L) :: (b, L) :: C)) := by
                rw [e] at hB; simpa using hB
              by_cases h1 : A ++ Y1 = []
              · rw [h1] at hB'; exact levels_first hB'
              · obtain ⟨A', u, h2⟩ := snoc h1
                rw [h2] at hB'
                refine levels_up (A := A') (u := u) (by simpa using hB') ?_
                have hd := hs.desc
                rw [e, show ws A ++ ws (Y1 ++ v :: z :: Y2) ++ [a, b] = ws (A ++ Y1) ++ v.1 :: z.1 :: (ws Y2 ++ [a, b]) by simp [ws], h2] at hd
                exact Desc2.at (P := ws A') (v := v.1) (R := ws Y2 ++ [a, b]) (by simpa [ws] using hd)
            exact (List.pairwise_cons.mp hup).1 p hp
        exact Nat.dvd_trans (Nat.pow_dvd_pow 2 (by (clear c hp hX2 a3 a2 hlv hal hfl hs hB hz hsX m2 eL L1 kpos e2 a8 a7 a5 hk a6 a4 a1; omega))) a3.2.1
  have mvX : Al M (s + 2 * 2 ^ k) X (E + 2 * 2 ^ k) := by
    have := Al.move (s := s) (s' := s + 2 * 2 ^ k) (x := 0) (y := z) (A := X) (fun p hp => ⟨hXs p hp, Nat.dvd_add (hXs p hp) (hX2 p hp)⟩) (by rw [Nat.add_zero, ← hz]; exact a3)
    rw [show E + 2 * 2 ^ k = s + 2 * 2 ^ k + z by (clear this hXs hX2 hsX m2 eL L1 kpos e2 a8 a7 a5 hk a6 a4 a3 a2 a1 lM hlv hal hfl hs hB; lia)]; exact this
  have tail : Al M (s + 2 * 2 ^ k) (X ++ C) (2 ^ M) := Al.append mvX (by rw [show E + 2 * 2 ^ k = E + 2 ^ k + 2 ^ k by lia]; exact a8)
  by_cases c : 2 ^ (k + 1) ∣ s
  · refine ⟨M, A ++ (a + b, L - 1) :: (X ++ C), by simp [ws], Al.fit (Al.append a1 ⟨by show L - 1 ≤ M; lia, ?_, ?_⟩), ?_⟩
    · show 2 ^ (M - (L - 1)) ∣ s; rw [eL, ← e2]; exact c
    · show Al M (s + 2 ^ (M - (L - 1))) _ _; rw [eL]; exact tail
    · simp only [cost_append, cost]
      have := m2 a; have := m2 b
      rw [Nat.add_mul]; lia
  · obtain ⟨A1, S, rfl, b1, b2, b3, b4, b5⟩ := cell_left a1 hsX c
    have hS : ∀ x ∈ S, L ≤ x.2 := fun x hx => by
      have := lv_of_dvd (b5 x hx)
      have := hlv x (by simp [hx]); (clear hx b5 b4 b3 b2 b1 a1 hlv hal hs hB c tail mvX hXs hz hX2 hsX m2 eL L1 kpos e2 a8 a7 a5 a6 a4 a3 a2 hfl; omega)
    have hw : a + b ≤ wsum S := by
      have hne : S ≠ [] := fun q => by
        subst q
        have : s - 2 ^ k = s := b2
        lia
      obtain ⟨S', y, rfl⟩ := snoc hne
      have := hs.heavy (ws (A1 ++ S')) y.1 (by simp [ws])
      have : y.1 ≤ wsum (S' ++ [y]) := le_sum (by simp [ws])
      exact Nat.le_trans (by assumption) (by assumption)
    have u1 : Al M (s - 2 ^ k + 2 * 0) (up S) (s - 2 ^ k + 2 * 2 ^ k) := Al.up (s := s - 2 ^ k) (fun x hx => ⟨by have := hS x hx; exact Nat.le_trans (by assumption) (by assumption), Nat.dvd_trans (b5 x hx) (Nat.dvd_trans (Nat.pow_dvd_pow 2 (Nat.le_succ k)) b4), by
      have := Nat.mul_dvd_mul_left 2 (b5 x hx); rw [← e2] at this; exact Nat.dvd_trans this b4⟩) (by
        rw [Nat.add_zero, show s - 2 ^ k + 2 ^ k = s by (clear hw hS b5 b4 b2 b1 a1 hlv hal hs hB c tail mvX hXs hz hX2 hsX m2 eL L1 kpos e2 a8 a7 a5 hk a6 a4 a3 a2 lM hfl; exact Nat.sub_add_cancel (by assumption))]; exact b2)
    rw [Nat.mul_zero, Nat.add_zero, show s - 2 ^ k + 2 * 2 ^ k = s + 2 ^ k by (clear u1 hw hS b5 b4 b2 b1 a1 hlv hal hs hB c tail mvX hXs hz hX2 hsX m2 eL L1 kpos e2 a8 a7 a5 hk a6 a4 a3 a2 lM hfl; omega)] at u1
    have cS := cost_up (A := S) fun x hx => by have := hS x hx; exact Nat.le_trans (by assumption) (by assumption)
    refine ⟨M, A1 ++ (up S ++ (a + b, L) :: (X ++ C)), ?_, Al.fit (Al.append b1 (Al.append u1 ⟨by show L ≤ M; omega, ?_, ?_⟩)), ?_⟩
    · rw [ws_append, ws_append, ws_up, ws_cons, ws_append, ws_append]; simp
    · show 2 ^ (M - L) ∣ _; rw [← hk]; exact Nat.dvd_add hsX (Nat.dvd_refl _)
    · show Al M (s + 2 ^ k + 2 ^ (M - L)) _ _; rw [← hk, show s + 2 ^ k + 2 ^ k = s + 2 * 2 ^ k by lia]; exact tail
    · simp only [cost_append, cost]
      rw [Nat.add_mul]; lia

theorem ws_split3 {P : Row} {A X C : List Nat} {a b : Nat} (e : ws P = A ++ (X ++ a :: b :: C)) : ∃ A' X' C' la lb, P = A' ++ (X' ++ (a, la) :: (b, lb) :: C') ∧ ws A' = A ∧ ws X' = X ∧ ws C' = C := by
  obtain ⟨A', Q, rfl, h1, h2⟩ := ws_split e
  obtain ⟨X', R, rfl, h3, h4⟩ := ws_split h2
  match R, h4 with
  | (_, la) :: (_, lb) :: C', h4 =>
    cases h4
    exact ⟨A', X', C', la, lb, rfl, h1, h3, rfl⟩
theorem fwd {A X C : List Nat} {a b v v' : Nat} (hs : Step A X C a b) (hv : IsLeast (A ++ (X ++ a :: b :: C)) v) (hv' : IsLeast (A ++ (a + b) :: (X ++ C)) v') : v' + (a + b) ≤ v := by
  obtain ⟨P, hB, hw, rfl⟩ := hv.best
  obtain ⟨A, X, C, la, lb, rfl, rfl, rfl, rfl⟩ := ws_split3 hw
  have done : ∀ {C1 : Row} {L : Nat}, ws C1 = ws C → Best (A ++ (X ++ (a, L) :: (b, L) :: C1)) → v' + (a + b) ≤ cost (A ++ (X ++ (a, L) :: (b, L) :: C1)) := fun {C1 L} e hB => by
    obtain ⟨M, P', h1, h2, h3⟩ := fwd_flat hB (by rw [e]; exact hs)
    have := hv'.2 M P' (by rw [h1, e]) h2
    lia
  have hB' : Best ((A ++ X) ++ (a, la) :: (b, lb) :: C) := by simpa using hB
  have hle : la ≤ lb := by
    by_cases h1 : A ++ X = []
    · rw [h1] at hB'; exact levels_first (v := (a, la)) (z := (b, lb)) hB'
    · obtain ⟨Y, u, h2⟩ := snoc h1
      rw [h2] at hB'
      refine levels_up (A := Y) (u := u) (v := (a, la)) (z := (b, lb)) (B := C) (by simpa using hB') ?_
      have hd := hs.desc
      rw [show ws A ++ ws X ++ [a, b] = ws (A ++ X) ++ [a, b] by simp [ws], h2] at hd
      exact Desc2.at (P := ws Y) (v := a) (R := []) (by simpa [ws] using hd)
  by_cases h : la = lb
  · subst h; exact done rfl hB
  · obtain ⟨C1, e1, hB1⟩ := level_pair hB' hs.next (show la < lb by lia)
    have hB2 : Best (A ++ (X ++ (a, la + 1) :: (b, la + 1) :: C1)) := by simpa using hB1
    have := done e1 hB2
    have e : cost (A ++ (X ++ (a, la + 1) :: (b, la + 1) :: C1)) = cost (A ++ (X ++ (a, la) :: (b, lb) :: C)) := hB2.least.uniq (by
      have := hB.least
      rw [show ws (A ++ (X ++ (a, la + 1) :: (b, la + 1) :: C1)) = ws (A ++ (X ++ (a, la) :: (b, lb) :: C)) by simp only [ws_append, ws_cons, e1]]
      exact this)
    lia

/-- a step of Garsia and Wachs -/
theorem gw_step {A X C : Row} {a b q : Nat} (hB : Best (A ++ (a + b, q) :: (X ++ C))) (hs : Step (ws A) (ws X) (ws C) a b) : Best (A ++ (X ++ ((a, q + 1) :: (b, q + 1) :: C))) := by
  obtain ⟨M, hal⟩ := back hB hs
  obtain ⟨v, hv⟩ := IsLeast.ex _ rfl (s := ws (A ++ (X ++ ((a, q + 1) :: (b, q + 1) :: C)))) (fun z => by simp [ws] at z)
  have h1 := fwd hs (by simpa [ws] using hv) (by simpa [ws] using hB.least)
  refine ⟨⟨M, hal⟩, fun M' P' e f => ?_⟩
  have := hv.2 M' P' e f
  simp only [cost_append, cost] at h1 ⊢
  rw [Nat.add_mul] at h1
  rw [Nat.mul_succ, Nat.mul_succ]; lia
end GW

namespace GW

theorem desc2_of : ∀ {l : List Nat}, (∀ k, k + 2 < l.length → l.getD (k + 2) 0 < l.getD k 0) → Desc2 l
  | [], _ => trivial
  | [_], _ => trivial
  | [_, _], _ => trivial
  | u :: v :: z :: r, h => ⟨h 0 (by simp), desc2_of (l := v :: z :: r) fun k hk => h (k + 1) (by simp at hk ⊢; omega)⟩
theorem getD_take {l : List Nat} {n k : Nat} (h : k < n) : (l.take n).getD k 0 = l.getD k 0 := by
  rw [List.getD_eq_getElem?_getD, List.getD_eq_getElem?_getD, List.getElem?_take_of_lt h]
theorem getD_drop {l : List Nat} {n k : Nat} : (l.drop n).getD k 0 = l.getD (n + k) 0 := by
  rw [List.getD_eq_getElem?_getD, List.getD_eq_getElem?_getD, List.getElem?_drop]

/-- the row, parted at the place and at the pair -/
theorem parted {l : List α} {pl at' : Nat} (h1 : 1 ≤ at') (h2 : at' < l.length) (h3 : pl + 1 ≤ at') : ∃ x y, l[at' - 1]? = some x ∧ l[at']? = some y ∧ l = l.take pl ++ ((l.drop pl).take (at' - 1 - pl) ++ x :: y :: l.drop (at' + 1)) := by
  refine ⟨l[at' - 1], l[at'], List.getElem?_eq_getElem _, List.getElem?_eq_getElem _, ?_⟩
  have e1 : l.drop (at' - 1) = l[at' - 1] :: l[at'] :: l.drop (at' + 1) := by
    rw [List.drop_eq_getElem_cons (by omega)]
    congr 1
    rw [show at' - 1 + 1 = at' by lia, List.drop_eq_getElem_cons h2]
  rw [← e1]
  have e2 : l.drop (at' - 1) = (l.drop pl).drop (at' - 1 - pl) := by rw [List.drop_drop]; congr 1; lia
  rw [e2, List.take_append_drop, List.take_append_drop]
theorem step_of {sz : List Nat} {at' pl a b : Nat} (h1 : 1 ≤ at') (h2 : at' < sz.length) (h3 : at' + 1 = sz.length ∨ sz.getD (at' - 1) 0 ≤ sz.getD (at' + 1) 0) (h4 : ∀ k, 1 ≤ k → k < at' → sz.getD (k + 1) 0 < sz.getD (k - 1) 0) (h5 : pl + 1 ≤ at') (ha : sz[at' - 1]? = some a) (hb : sz[at']? = some b) (h6 : ∀ i, pl ≤ i → i + 1 < at' → sz.getD i 0 < a + b) (h7 : pl = 0 ∨ a + b ≤ sz.getD (pl - 1) 0) :
    Step (sz.take pl) ((sz.drop pl).take (at' - 1 - pl)) (sz.drop (at' + 1)) a b := by
  obtain ⟨x, y, hx, hy, e⟩ := parted h1 h2 h5
  rw [ha] at hx; cases hx
  rw [hb] at hy; cases hy
  have e3 : sz.take pl ++ (sz.drop pl).take (at' - 1 - pl) ++ [a, b] = sz.take (at' + 1) := by
    have hl : (sz.take pl ++ (sz.drop pl).take (at' - 1 - pl)).length = at' - 1 := by
      rw [List.length_append, List.length_take, List.length_take, List.length_drop]; lia
    rw [← List.append_assoc] at e
    generalize sz.take pl ++ (sz.drop pl).take (at' - 1 - pl) = T at e hl
    rw [e, List.take_append, List.take_of_length_le (by lia), hl, show at' + 1 - (at' - 1) = 2 by lia]
    rfl
  refine ⟨?_, ?_, ?_, ?_⟩
  · rw [e3]
    refine desc2_of fun k hk => ?_
    rw [List.length_take] at hk
    rw [getD_take (by lia), getD_take (by lia)]
    exact h4 (k + 1) (by exact Nat.succ_pos _) (by lia)
  · intro c C' ec
    rcases h3 with h3 | h3
    · rw [List.drop_eq_nil_of_le (by lia)] at ec; cases ec
    · have : (sz.drop (at' + 1)).getD 0 0 = c := by rw [ec]; rfl
      rw [getD_drop] at this
      rw [List.getD_eq_getElem?_getD, ha] at h3
      rw [← this]; exact h3
  · intro x hx
    obtain ⟨i, hi, rfl⟩ := List.mem_iff_getElem.mp hx
    rw [List.length_take, List.length_drop] at hi
    have := h6 (pl + i) (by exact Nat.le_add_right _ _) (by lia)
    rw [List.getElem_take, List.getElem_drop]
    rw [List.getD_eq_getElem?_getD, List.getElem?_eq_getElem (by lia)] at this
    exact this
  · intro A' p ep
    rcases h7 with rfl | h7
    · simp at ep
    · have hp : pl ≠ 0 := fun z => by rw [z] at ep; simp at ep
      have : (sz.take pl).getLast? = some p := by rw [ep]; simp
      rw [List.getLast?_eq_getElem?, List.length_take, Nat.min_eq_left (by lia), List.getElem?_take_of_lt (by lia)] at this
      rw [List.getD_eq_getElem?_getD, this] at h7
      exact h7

/-- the place, out of two counts: among each second, and among the others -/
theorem place_of {sz : List Nat} {at' c1 c2 both : Nat} (e1 : ∀ j, 2 * j + 1 < at' → (both ≤ sz.getD (2 * j) 0 ↔ j < c1)) (e2 : ∀ j, 2 * j + 2 < at' → (both ≤ sz.getD (2 * j + 1) 0 ↔ j < c2)) (l1 : 2 * c1 ≤ at') (l2 : 2 * c2 + 1 ≤ at') :
    max (2 * c1 - 1) (2 * c2) + 1 ≤ at' ∧ (∀ i, max (2 * c1 - 1) (2 * c2) ≤ i → i + 1 < at' → sz.getD i 0 < both) ∧ (max (2 * c1 - 1) (2 * c2) = 0 ∨ both ≤ sz.getD (max (2 * c1 - 1) (2 * c2) - 1) 0) := by
  refine ⟨by lia, fun i h1 h2 => ?_, ?_⟩
  · refine Nat.lt_of_not_le fun h => ?_
    rcases Nat.mod_two_eq_zero_or_one i with c | c
    · obtain ⟨j, rfl⟩ : ∃ j, i = 2 * j := ⟨i / 2, by lia⟩
      have := (e1 j h2).mp h; lia
    · obtain ⟨j, rfl⟩ : ∃ j, i = 2 * j + 1 := ⟨i / 2, by lia⟩
      have := (e2 j h2).mp h; lia
  · by_cases h : 2 * c1 - 1 ≤ 2 * c2
    · rw [Nat.max_eq_right h]
      by_cases c : c2 = 0
      · exact .inl (by lia)
      · refine .inr ?_
        have := (e2 (c2 - 1) (by lia)).mpr (by lia)
        rw [show 2 * c2 - 1 = 2 * (c2 - 1) + 1 by lia]; exact this
    · rw [Nat.max_eq_left (by lia)]
      refine .inr ?_
      have := (e1 (c1 - 1) (by lia)).mpr (by lia)
      rw [show 2 * c1 - 1 - 1 = 2 * (c1 - 1) by lia]; exact this

/-! the run: rows of groups -/
noncomputable abbrev Grp := List (Nat × List Nat)
noncomputable def bump (I lv : List Nat) : List Nat := lv.mapIdx fun k l => if k ∈ I then l + 1 else l
noncomputable def lev : Grp → List Nat → Nat → Nat
  | g :: R, q :: qs, k => (if k ∈ g.2 then q else 0) + lev R qs k
  | _, _, _ => 0
inductive Run : Grp → List Nat → List Nat → Prop
  | done {w I lv} : Run [(w, I)] lv lv
  | step {A X C : Grp} {a b : Nat} {ia ib lv lv' : List Nat} : Step (A.map (·.1)) (X.map (·.1)) (C.map (·.1)) a b → Run (A ++ (a + b, ia ++ ib) :: (X ++ C)) (bump (ia ++ ib) lv) lv' → Run (A ++ (X ++ (a, ia) :: (b, ib) :: C)) lv lv'
noncomputable def withLv (R : Grp) (qs : List Nat) : Row := (R.map (·.1)).zip qs
theorem lev_append : ∀ {A : Grp} {qa : List Nat} {B : Grp} {qb : List Nat} {k : Nat}, A.length = qa.length → lev (A ++ B) (qa ++ qb) k = lev A qa k + lev B qb k
  | [], [], B, qb, k, _ => by simp [lev]
  | g :: A, q :: qa, B, qb, k, h => by
    show (if k ∈ g.2 then q else 0) + lev (A ++ B) (qa ++ qb) k = (if k ∈ g.2 then q else 0) + lev A qa k + _
    rw [lev_append (by simpa using h)]; lia
theorem withLv_append {A B : Grp} {qa qb : List Nat} (h : A.length = qa.length) : withLv (A ++ B) (qa ++ qb) = withLv A qa ++ withLv B qb := by
  unfold withLv; rw [List.map_append, List.zip_append (by simpa using h)]
theorem ws_withLv {A : Grp} {qa : List Nat} (h : A.length = qa.length) : ws (withLv A qa) = A.map (·.1) := by
  unfold ws withLv; exact List.map_fst_zip (by simp [h])
theorem bump_get {I lv : List Nat} {k : Nat} (h : k < lv.length) : (bump I lv).getD k 0 = lv.getD k 0 + if k ∈ I then 1 else 0 := by
  unfold bump
  rw [List.getD_eq_getElem?_getD, List.getD_eq_getElem?_getD, List.getElem?_mapIdx, List.getElem?_eq_getElem h]
  show (if k ∈ I then lv[k] + 1 else lv[k]) = lv[k] + _
  split <;> rfl
theorem len_split {qs : List Nat} {n m : Nat} (h : qs.length = n + m) : ∃ a b, qs = a ++ b ∧ a.length = n ∧ b.length = m := ⟨qs.take n, qs.drop n, (List.take_append_drop ..).symm, by simp; lia, by simp; lia⟩
theorem Run.best {R : Grp} {lv lv' : List Nat} (h : Run R lv lv') : (R.flatMap (·.2)).Nodup → ∃ qs : List Nat, qs.length = R.length ∧ Best (withLv R qs) ∧ lv'.length = lv.length ∧ ∀ k, k < lv.length → lv'.getD k 0 = lv.getD k 0 + lev R qs k := by
  induction h with
  | @done w I lv =>
    refine fun _ => ⟨[0], rfl, ?_, rfl, fun k _ => ?_⟩
    · refine IsLeast.mk' (M := 0) ?_ ⟨Nat.le_refl _, Nat.dvd_zero _, rfl⟩
      have := IsLeast.one w
      simpa [withLv, ws, cost] using this
    · simp [lev]
  | @step A X C a b ia ib lv lv' hs hr ih =>
    intro hn
    have hd : (ia ++ ib).Nodup := by
      rw [List.flatMap_append, List.flatMap_append] at hn
      have : (ia ++ (ib ++ C.flatMap (·.2))).Nodup := (List.nodup_append.mp (List.nodup_append.mp hn).2.1).2.1
      rw [← List.append_assoc] at this
      exact (List.nodup_append.mp this).1
    obtain ⟨qs, e1, e2, e3, e4⟩ := ih (by
      refine List.Perm.nodup ?_ hn
      simp only [List.flatMap_append, List.flatMap_cons, List.append_assoc]
      refine .append_left _ ?_
      simp only [← List.append_assoc]
      refine .append_right _ ?_
      refine .trans (.append_right _ List.perm_append_comm) ?_
      simp only [List.append_assoc]
      exact .append_left _ List.perm_append_comm)
    simp only [List.length_append, List.length_cons] at e1
    obtain ⟨qa, q1, rfl, l1, l2⟩ := len_split (n := A.length) (m := X.length + C.length + 1) e1
    obtain ⟨q, q2, rfl⟩ := List.exists_cons_of_length_eq_add_one l2
    obtain ⟨qx, qc, rfl, l3, l4⟩ := len_split (qs := q2) (n := X.length) (m := C.length) (by simpa using l2)
    rw [withLv_append l1.symm] at e2
    have e2 : Best (withLv A qa ++ (a + b, q) :: withLv (X ++ C) (qx ++ qc)) := e2
    rw [withLv_append l3.symm] at e2
    have bl : (bump (ia ++ ib) lv).length = lv.length := by unfold bump; exact List.length_mapIdx
    refine ⟨qa ++ (qx ++ (q + 1) :: (q + 1) :: qc), by simp; lia, ?_, e3.trans bl, fun k hk => ?_⟩
    · rw [withLv_append l1.symm, withLv_append l3.symm]
      have st : Step (ws (withLv A qa)) (ws (withLv X qx)) (ws (withLv C qc)) a b := by rw [ws_withLv l1.symm, ws_withLv l3.symm, ws_withLv l4.symm]; exact hs
      exact gw_step e2 st
    · rw [e4 k (by rw [bl]; exact hk), bump_get hk, lev_append l1.symm, lev_append l1.symm, lev_append (A := X) l3.symm]
      show _ + (_ + ((if k ∈ ia ++ ib then q else 0) + lev (X ++ C) (qx ++ qc) k)) = _ + (_ + (_ + ((if k ∈ ia then q + 1 else 0) + ((if k ∈ ib then q + 1 else 0) + lev C qc k))))
      rw [lev_append l3.symm]
      have hx : ¬ (k ∈ ia ∧ k ∈ ib) := fun ⟨x, y⟩ => (List.nodup_append.mp hd).2.2 k x k y rfl
      by_cases c1 : k ∈ ia <;> by_cases c2 : k ∈ ib
      · exact (hx ⟨c1, c2⟩).elim
      all_goals simp only [List.mem_append, c1, c2, or_false, false_or, or_true, true_or, if_true, if_false]; lia
theorem lev_single : ∀ {w qs : List Nat} {k i : Nat}, w.length = qs.length → lev ((w.zipIdx i).map fun p => (p.1, [p.2])) qs (i + k) = qs.getD k 0
  | [], [], k, i, _ => by simp [lev]
  | x :: w, q :: qs, k, i, h => by
    show (if i + k ∈ [i] then q else 0) + lev ((w.zipIdx (i + 1)).map fun p => (p.1, [p.2])) qs (i + k) = _
    cases k with
    | zero =>
      have : ∀ {w qs : List Nat} {j : Nat}, i < j → lev ((w.zipIdx j).map fun p => (p.1, [p.2])) qs i = 0 := by
        intro w
        induction w with
        | nil => intros; simp [lev]
        | cons x w ih =>
          intro qs j hj
          cases qs with
          | nil => simp [lev]
          | cons q qs =>
            show (if i ∈ [j] then q else 0) + lev ((w.zipIdx (j + 1)).map fun p => (p.1, [p.2])) qs i = 0
            rw [ih (by exact Nat.le_succ_of_le (by assumption)), if_neg (by simp; exact Nat.ne_of_lt (by assumption))]
      rw [Nat.add_zero, this (by lia), if_pos (by simp)]; rfl
    | succ k =>
      have := lev_single (w := w) (qs := qs) (k := k) (i := i + 1) (by simpa using h)
      rw [show i + (k + 1) = i + 1 + k by lia, this, if_neg (by simp; lia)]; simp
/-- the levels that the run tells of a row are the best -/
theorem Run.levels {w lv' : List Nat} (hn : w ≠ []) (h : Run (w.zipIdx.map fun p => (p.1, [p.2])) (w.map fun _ => 0) lv') : lv'.length = w.length ∧ Best (w.zip lv') := by
  obtain ⟨qs, e1, e2, e3, e4⟩ := h.best (by
    rw [List.flatMap_map, show (w.zipIdx.flatMap fun p => [p.2]) = List.range' 0 w.length by
      rw [← List.zipIdx_map_snd, ← List.flatMap_singleton' (w.zipIdx.map (·.2)), List.flatMap_map]]
    exact List.nodup_range')
  simp only [List.length_map, List.length_zipIdx] at e1 e3 e4
  have e : lv' = qs := by
    refine List.ext_getElem (by lia) fun k h1 h2 => ?_
    have := e4 k (by lia)
    have s := lev_single (w := w) (qs := qs) (k := k) (i := 0) e1.symm
    rw [Nat.zero_add] at s
    rw [s, List.getD_eq_getElem?_getD, List.getElem?_eq_getElem h1, List.getD_eq_getElem?_getD, List.getD_eq_getElem?_getD, List.getElem?_eq_getElem h2] at this
    rw [List.getElem?_map] at this
    cases hh : w[k]? <;> simpa [hh] using this
  refine ⟨e3, ?_⟩
  rw [e]
  have : withLv (w.zipIdx.map fun p => (p.1, [p.2])) qs = w.zip qs := by
    unfold withLv; rw [List.map_map]
    congr 1
    exact List.zipIdx_map_fst 0 w
  rw [← this]; exact e2
end GW

namespace GW

/-! the fold of the levels: the pile, its top first, is the place in twos -/
noncomputable def St (M : Nat) : List Nat → Nat → Prop
  | [], e => e = 0
  | l :: r, e => l ≤ M ∧ (∀ h ∈ r.head?, h < l) ∧ ∃ e', e = e' + 2 ^ (M - l) ∧ St M r e'
noncomputable def St1 (M l : Nat) (r : List Nat) (e : Nat) : Prop := l ≤ M ∧ (∀ h ∈ r.head?, h ≤ l) ∧ ∃ e', e = e' + 2 ^ (M - l) ∧ St M r e'
theorem St.dvd {M h : Nat} : ∀ {r : List Nat} {e : Nat}, St M r e → h ≤ M → (∀ x ∈ r.head?, x < h) → 2 ^ (M - h + 1) ∣ e
  | [], e, hs, _, _ => by cases hs; exact Nat.dvd_zero _
  | l :: r, e, ⟨a, b, e', c, d⟩, hM, hh => by
    have hl : l < h := hh l rfl
    rw [c]
    exact Nat.dvd_add (St.dvd d hM fun x hx => Nat.lt_trans (b x hx) hl) (Nat.pow_dvd_pow 2 (by lia))
theorem St.low {M l h : Nat} {r : List Nat} {e : Nat} (hs : St M (h :: r) e) (hd : 2 ^ (M - l) ∣ e) : h ≤ l := by
  refine Nat.le_of_not_lt fun q => ?_
  obtain ⟨a, b, e', c, d⟩ := hs
  have h1 := St.dvd d a b
  have h2 : 2 ^ (M - h + 1) ∣ e := Nat.dvd_trans (Nat.pow_dvd_pow 2 (by lia)) hd
  rw [c] at h2
  have := Nat.le_of_dvd (Nat.pow_pos (by decide)) ((Nat.dvd_add_right h1).mp h2)
  have := (Nat.pow_le_pow_iff_right (by decide : 1 < 2)).mp this
  lia
theorem St.push {M l : Nat} {r : List Nat} {e : Nat} (hs : St M r e) (hl : l ≤ M) (hd : 2 ^ (M - l) ∣ e) : St1 M l r (e + 2 ^ (M - l)) := by
  refine ⟨hl, fun h hh => ?_, e, rfl, hs⟩
  cases r with
  | nil => cases hh
  | cons x r => cases hh; exact St.low hs hd
theorem St1.done {M l : Nat} {r : List Nat} {e : Nat} (hs : St1 M l r e) (hn : ∀ h ∈ r.head?, h ≠ l) : St M (l :: r) e := by
  obtain ⟨a, b, c⟩ := hs
  exact ⟨a, fun h hh => Nat.lt_of_le_of_ne (b h hh) (hn h hh), c⟩
theorem St1.merge {M l : Nat} {r : List Nat} {e : Nat} (hs : St1 M l (l :: r) e) (he : e ≤ 2 ^ M) : 1 ≤ l ∧ St1 M (l - 1) r e := by
  obtain ⟨a, b, e', c, a', b', e'', c', d⟩ := hs
  have h1 : 1 ≤ l := by
    refine Nat.pos_of_ne_zero fun z => ?_
    subst z
    have := Nat.pow_pos (n := M) (show 0 < 2 by decide)
    simp only [Nat.sub_zero] at c c'; lia
  have := two_mul_pow (M := M) (l := l - 1) (by lia)
  rw [Nat.sub_add_cancel h1] at this
  exact ⟨h1, by lia, fun h hh => by have := b' h hh; lia, e'', by (clear h1 d b' a' b a he; lia), d⟩
theorem St.root {M : Nat} {r : List Nat} (hs : St M r (2 ^ M)) : r = [0] := by
  have hp := Nat.pow_pos (n := M) (show 0 < 2 by decide)
  cases r with
  | nil => have : 2 ^ M = 0 := hs; lia
  | cons l r =>
    have h0 := St.low (l := 0) hs (Nat.dvd_refl _)
    obtain rfl : l = 0 := by lia
    obtain ⟨_, b, _⟩ := hs
    cases r with
    | nil => rfl
    | cons h r => have := b h rfl; exact absurd (by assumption) (Nat.not_lt_zero _)

/-! a heavier cell higher up: levels told anew -/
noncomputable def kr (M : Nat) : Row → Nat
  | [] => 0
  | p :: P => 2 ^ (M - p.2) + kr M P
theorem kr_append {M : Nat} : ∀ {A B : Row}, kr M (A ++ B) = kr M A + kr M B
  | [], B => (Nat.zero_add _).symm
  | p :: A, B => by simp only [List.cons_append, kr, kr_append (A := A)]; lia
theorem Fit.kr {M : Nat} : ∀ {A : Row} {s e : Nat}, Fit M s A e → s + GW.kr M A ≤ e ∧ ∀ p ∈ A, p.2 ≤ M
  | [], s, e, h => ⟨h, fun p hp => nomatch hp⟩
  | p :: A, s, e, ⟨a, t, b, c, d⟩ => by
    obtain ⟨h1, h2⟩ := Fit.kr d
    refine ⟨by simp only [GW.kr]; (clear h2 d c a; lia), fun q hq => ?_⟩
    rcases List.mem_cons.mp hq with rfl | hq
    · exact a
    · exact h2 q hq
/-- levels that fall, laid from the right -/
theorem fit_right {M : Nat} : ∀ {A : Row}, (∀ p ∈ A, p.2 ≤ M) → A.Pairwise (fun p q => q.2 ≤ p.2) → kr M A ≤ 2 ^ M → Fit M (2 ^ M - kr M A) A (2 ^ M) ∧ ∀ k, (∀ p ∈ A, p.2 ≤ k) → 2 ^ (M - k) ∣ kr M A
  | [], _, _, _ => ⟨by show _ - 0 ≤ _; exact Nat.sub_le _ _, fun k _ => Nat.dvd_zero _⟩
  | p :: A, h1, h2, h3 => by
    have hk : kr M (p :: A) = 2 ^ (M - p.2) + kr M A := rfl
    rw [List.pairwise_cons] at h2
    have := Nat.pow_pos (n := M - p.2) (show 0 < 2 by decide)
    obtain ⟨f, d⟩ := fit_right (fun q hq => h1 q (.tail _ hq)) h2.2 (by lia)
    have dp := d p.2 h2.1
    refine ⟨⟨h1 p (.head _), _, Nat.le_refl _, ?_, ?_⟩, fun k hk' => ?_⟩
    · refine (Nat.dvd_sub (Nat.pow_dvd_pow 2 (Nat.sub_le _ _)) ?_)
      rw [hk]; exact Nat.dvd_add (Nat.dvd_refl _) dp
    · rw [show 2 ^ M - kr M (p :: A) + 2 ^ (M - p.2) = 2 ^ M - kr M A by lia]; exact f
    · rw [hk]
      have := hk' p (.head _)
      exact Nat.dvd_add (Nat.pow_dvd_pow 2 (by (clear hk' dp d f hk h3 h2 h1; omega))) (Nat.dvd_trans (Nat.pow_dvd_pow 2 (by (clear hk' dp d f hk h3 h2 h1; omega))) dp)
/-- one weight takes the greatest level -/
theorem swap_cost {w x l L : Nat} (h1 : w ≤ x) (h2 : l ≤ L) : w * L + x * l ≤ w * l + x * L := by
  obtain ⟨d, rfl⟩ : ∃ d, L = l + d := ⟨L - l, by lia⟩
  have := Nat.mul_le_mul_right d h1
  rw [Nat.mul_add, Nat.mul_add]; lia
theorem max_level : ∀ {A : Row}, A ≠ [] → ∃ A1 p A2, A = A1 ++ p :: A2 ∧ ∀ q ∈ A, q.2 ≤ p.2
  | [p], _ => ⟨[], p, [], rfl, fun q hq => by simp at hq; rw [hq]; exact Nat.le_refl _⟩
  | p :: q :: A, _ => by
    obtain ⟨A1, r, A2, e, h⟩ := max_level (A := q :: A) (by simp)
    by_cases c : r.2 ≤ p.2
    · exact ⟨[], p, q :: A, rfl, fun x hx => by
        rcases List.mem_cons.mp hx with rfl | hx
        · exact Nat.le_refl _
        · exact Nat.le_trans (h x hx) c⟩
    · exact ⟨p :: A1, r, A2, by rw [e]; rfl, fun x hx => by
        rcases List.mem_cons.mp hx with rfl | hx
        · lia
        · exact h x hx⟩
theorem cost_perm {A B : Row} (h : A.Perm B) : cost A = cost B := by
  induction h with
  | nil => rfl
  | cons x _ ih => simp only [cost, ih]
  | swap x y l => simp only [cost]; lia
  | trans _ _ i j => exact i.trans j
theorem kr_perm {M : Nat} {A B : Row} (h : A.Perm B) : kr M A = kr M B := by
  induction h with
  | nil => rfl
  | cons x _ ih => simp only [kr, ih]
  | swap x y l => simp only [kr]; lia
  | trans _ _ i j => exact i.trans j
theorem arrange {M : Nat} : ∀ {s : List Nat} {A : Row}, s.Pairwise (· ≤ ·) → (ws A).Perm s → (∀ p ∈ A, p.2 ≤ M) → ∃ B, ws B = s ∧ B.Pairwise (fun p q => q.2 ≤ p.2) ∧ kr M B = kr M A ∧ cost B ≤ cost A ∧ ∀ L, (∀ p ∈ A, p.2 ≤ L) → ∀ p ∈ B, p.2 ≤ L
  | [], A, _, hp, _ => by
    have : A = [] := by have := hp.length_eq; simp [ws] at this; exact this
    subst this
    exact ⟨[], rfl, .nil, rfl, Nat.le_refl _, fun L _ p hp => nomatch hp⟩
  | w :: s, A, hs, hp, hM => by
    rw [List.pairwise_cons] at hs
    have hne : A ≠ [] := fun z => by subst z; have := hp.length_eq; simp [ws] at this
    obtain ⟨A1, p, A2, rfl, hmax⟩ := max_level hne
    -- the least weight, wherever it stands, changes places with the one at the greatest level
    have key : ∃ A' : Row, (ws A').Perm s ∧ kr M (A1 ++ p :: A2) = 2 ^ (M - p.2) + kr M A' ∧ w * p.2 + cost A' ≤ cost (A1 ++ p :: A2) ∧ ∀ L, (∀ q ∈ A1 ++ p :: A2, q.2 ≤ L) → ∀ q ∈ A', q.2 ≤ L := by
      have h1 : (A1 ++ p :: A2).Perm (p :: (A1 ++ A2)) := List.perm_middle
      have w1 : (ws (A1 ++ p :: A2)).Perm (p.1 :: ws (A1 ++ A2)) := h1.map _
      by_cases c : p.1 = w
      · refine ⟨A1 ++ A2, ?_, by rw [kr_perm h1]; rfl, by rw [cost_perm h1, ← c]; exact Nat.le_refl _, fun L hL q hq => hL q (h1.mem_iff.mpr (.tail _ hq))⟩
        have : (p.1 :: ws (A1 ++ A2)).Perm (w :: s) := w1.symm.trans hp
        rw [c] at this; exact this.cons_inv
      · have hw : w ∈ ws (A1 ++ A2) := by
          have : w ∈ p.1 :: ws (A1 ++ A2) := (w1.symm.trans hp).mem_iff.mpr (.head _)
          rcases List.mem_cons.mp this with q | q
          · exact (c q.symm).elim
          · exact q
        obtain ⟨q, hq, hqw⟩ := List.mem_map.mp hw
        obtain ⟨B1, B2, eB⟩ := List.append_of_mem hq
        have h2 : (A1 ++ A2).Perm (q :: (B1 ++ B2)) := by rw [eB]; exact List.perm_middle
        have h3 := h1.trans (h2.cons p)
        have w3 : (ws (A1 ++ p :: A2)).Perm (p.1 :: q.1 :: ws (B1 ++ B2)) := h3.map _
        have hle : w ≤ p.1 := by
          have : p.1 ∈ w :: s := hp.mem_iff.mp (List.mem_map_of_mem (h1.mem_iff.mpr (.head _)))
          rcases List.mem_cons.mp this with z | z
          · lia
          · exact hs.1 _ z
        have hqp := hmax q (h3.mem_iff.mpr (.tail _ (.head _)))
        refine ⟨(p.1, q.2) :: (B1 ++ B2), ?_, ?_, ?_, fun L hL r hr => ?_⟩
        · have : (p.1 :: q.1 :: ws (B1 ++ B2)).Perm (w :: s) := w3.symm.trans hp
          rw [hqw] at this
          exact ((List.Perm.swap _ _ _).trans this).cons_inv
        · rw [kr_perm h3]; simp only [kr]
        · rw [cost_perm h3]; simp only [cost]
          have := swap_cost hle hqp
          rw [hqw]; lia
        · rcases List.mem_cons.mp hr with rfl | hr
          · exact hL q (h3.mem_iff.mpr (.tail _ (.head _)))
          · exact hL r (h3.mem_iff.mpr (.tail _ (.tail _ hr)))
    obtain ⟨A', a1, a2, a3, a4⟩ := key
    obtain ⟨B, b1, b2, b3, b4, b5⟩ := arrange hs.2 a1 (a4 M hM)
    refine ⟨(w, p.2) :: B, by rw [ws_cons, b1], List.pairwise_cons.mpr ⟨b5 p.2 (a4 p.2 hmax), b2⟩, by rw [a2]; simp only [kr]; (clear b5 b4 b2 b1 a4 a3 a2 a1 hmax hne hM hp hs; lia), by simp only [cost]; lia, fun L hL q hq => ?_⟩
    rcases List.mem_cons.mp hq with rfl | hq
    · exact hL p (by simp)
    · exact b5 L (a4 L hL) q hq
/-- rising weights are cheapest as they stand -/
theorem IsLeast.sorted {s : List Nat} {v : Nat} (hv : IsLeast s v) (hs : s.Pairwise (· ≤ ·)) {M : Nat} {A : Row} (hp : (ws A).Perm s) (hf : Fit M 0 A (2 ^ M)) : v ≤ cost A := by
  obtain ⟨h1, h2⟩ := Fit.kr hf
  obtain ⟨B, b1, b2, b3, b4, b5⟩ := arrange hs hp h2
  have := hv.2 M B b1 ((fit_right (b5 M h2) b2 (by lia)).1.mono (Nat.zero_le _) (Nat.le_refl _))
  exact Nat.le_trans (by assumption) (by assumption)
theorem Fit.of_append {M : Nat} : ∀ {A B : Row} {s e : Nat}, Fit M s (A ++ B) e → ∃ m, Fit M s A m ∧ Fit M m B e
  | [], B, s, e, h => ⟨s, Nat.le_refl _, h⟩
  | p :: A, B, s, e, ⟨a, t, b, c, d⟩ => by
    obtain ⟨m, h1, h2⟩ := Fit.of_append (A := A) d
    exact ⟨m, ⟨a, t, b, c, h1⟩, h2⟩
theorem Fit.dn {M : Nat} : ∀ {A : Row} {s e : Nat}, Fit M s A e → Fit (M + 1) (2 * s) A (2 * e)
  | [], s, e, h => by have : s ≤ e := h; show 2 * s ≤ 2 * e; lia
  | p :: A, s, e, ⟨a, t, b, c, d⟩ => by
    have e1 : 2 ^ (M + 1 - p.2) = 2 * 2 ^ (M - p.2) := by rw [show M + 1 - p.2 = (M - p.2) + 1 by lia, Nat.pow_succ, Nat.mul_comm]
    refine ⟨by exact Nat.le_succ_of_le (by assumption), 2 * t, by lia, by rw [e1]; exact Nat.mul_dvd_mul_left 2 c, ?_⟩
    have := Fit.dn d
    rw [Nat.mul_add] at this
    rw [e1]; exact this
/-- a step of Huffman: the two lightest become one -/
theorem huffman {x y v : Nat} {R R' : List Nat} (hv : IsLeast (x :: y :: R) v) (hs : (x :: y :: R).Pairwise (· ≤ ·)) (hs' : R'.Pairwise (· ≤ ·)) (hp : R'.Perm ((x + y) :: R)) : ∃ v', IsLeast R' v' ∧ v = v' + (x + y) := by
  have hne : R' ≠ [] := fun z => by subst z; have := hp.length_eq; simp at this
  obtain ⟨v', hv'⟩ := IsLeast.ex _ rfl hne
  refine ⟨v', hv', ?_⟩
  have up : v' + (x + y) ≤ v := by
    obtain ⟨v2, hv2⟩ := IsLeast.ex _ rfl (s := (x + y) :: R) (by simp)
    have st : Step [] [] R x y := by
      refine ⟨by simp [Desc2], fun c C' e => ?_, fun z hz => (nomatch hz), fun A' p e => by simp at e⟩
      subst e
      exact (List.pairwise_cons.mp hs).1 c (by simp)
    have h1 := fwd (A := []) (X := []) st (v := v) (v' := v2) (by simpa using hv) (by simpa using hv2)
    obtain ⟨⟨P, M, e1, e2, e3⟩, _⟩ := hv2
    have := hv'.sorted hs' (A := P) (M := M) (by rw [e1]; exact hp.symm) e2.fit
    lia
  have dwn : v ≤ v' + (x + y) := by
    obtain ⟨⟨P, M, e1, e2, e3⟩, _⟩ := hv'
    have hm : x + y ∈ ws P := by rw [e1]; exact hp.mem_iff.mpr (.head _)
    obtain ⟨p, hpm, hpe⟩ := List.mem_map.mp hm
    obtain ⟨A, B, rfl⟩ := List.append_of_mem hpm
    obtain ⟨m, f1, a, t, b, c, d⟩ := Fit.of_append (Fit.dn e2.fit)
    have ep := two_mul_pow (M := M + 1) (l := p.2) (by have := Al.lv e2 p hpm; exact Nat.lt_succ_of_le (by assumption))
    have hl := Al.lv e2 p hpm
    rw [Nat.mul_zero, show 2 * 2 ^ M = 2 ^ (M + 1) by rw [Nat.pow_succ]; lia] at *
    have f : Fit (M + 1) 0 (A ++ (x, p.2 + 1) :: (y, p.2 + 1) :: B) (2 ^ (M + 1)) := by
      refine Fit.append f1 ⟨by show p.2 + 1 ≤ _; exact Nat.lt_succ_of_le (by assumption), t, b, Nat.dvd_trans (Nat.pow_dvd_pow 2 (by show M + 1 - (p.2 + 1) ≤ _; (clear ep d c b a f1 hpm hm e3 e2 e1 hpe up hne hp hs' hs hv; omega))) c, by show p.2 + 1 ≤ _; exact Nat.lt_succ_of_le (by assumption), _, Nat.le_refl _, ?_, ?_⟩
      · exact Nat.dvd_add (Nat.dvd_trans (Nat.pow_dvd_pow 2 (by show M + 1 - (p.2 + 1) ≤ _; (clear ep d c b a f1 hpm hm e3 e2 e1 hpe up hne hp hs' hs hv; omega))) c) (Nat.dvd_refl _)
      · show Fit (M + 1) (t + 2 ^ (M + 1 - (p.2 + 1)) + 2 ^ (M + 1 - (p.2 + 1))) B _
        rw [show t + 2 ^ (M + 1 - (p.2 + 1)) + 2 ^ (M + 1 - (p.2 + 1)) = t + 2 ^ (M + 1 - p.2) by lia]; exact d
    have hperm : (ws (A ++ (x, p.2 + 1) :: (y, p.2 + 1) :: B)).Perm (x :: y :: R) := by
      have h1 : (ws (A ++ p :: B)).Perm ((x + y) :: R) := by rw [e1]; exact hp
      rw [ws_append, ws_cons, hpe] at h1
      have h2 : (ws A ++ ws B).Perm R := (List.perm_middle.symm.trans h1).cons_inv
      rw [ws_append, ws_cons, ws_cons]
      exact List.perm_middle.trans (List.Perm.cons x (List.perm_middle.trans (List.Perm.cons y h2)))
    have := hv.sorted hs hperm f
    rw [cost_append] at this e3
    simp only [cost] at this e3
    rw [hpe, Nat.add_mul] at e3
    rw [Nat.mul_succ, Nat.mul_succ] at this
    lia
  lia
end GW

namespace GW

/-! the points, and the price parted at the middles -/
theorem Al.end {M : Nat} : ∀ {A : Row} {s e : Nat}, Al M s A e → e = s + kr M A
  | [], s, e, h => by have : s = e := h; show e = s + 0; lia
  | p :: A, s, e, h => by have := Al.end h.2.2; simp only [kr]; lia
theorem kr_pos {M : Nat} {A : Row} (h : A ≠ []) : 0 < kr M A := by
  cases A with
  | nil => exact (h rfl).elim
  | cons p A => have := Nat.pow_pos (n := M - p.2) (show 0 < 2 by decide); simp only [kr]; lia
/-- where a cell begins -/
noncomputable def pt (M : Nat) (P : Row) (k : Nat) : Nat := kr M (P.take k)
theorem pt_mono {M : Nat} {P : Row} {i j : Nat} (h : i < j) (hj : j ≤ P.length) : pt M P i < pt M P j := by
  have e : P.take j = P.take i ++ (P.drop i).take (j - i) := by rw [← List.take_add]; congr 1; lia
  unfold pt
  rw [e, kr_append]
  have : 0 < kr M ((P.drop i).take (j - i)) := kr_pos fun z => by have := congrArg List.length z; rw [List.length_take, List.length_drop, List.length_nil] at this; lia
  exact Nat.add_lt_add_left (by assumption) _
theorem pt_le {M : Nat} {P : Row} {i j : Nat} (h : i ≤ j) (hj : j ≤ P.length) : pt M P i ≤ pt M P j := by
  rcases Nat.lt_or_eq_of_le h with h | rfl
  · exact Nat.le_of_lt (pt_mono h hj)
  · exact Nat.le_refl _
theorem pt_at {M : Nat} {A B : Row} : pt M (A ++ B) A.length = kr M A := by unfold pt; rw [List.take_left']; rfl
/-- a stretch's price beneath the joint at whose level it begins -/
noncomputable def prc (M m : Nat) : Row → Nat
  | [] => 0
  | p :: P => p.1 * (m - (M - p.2)) + prc M m P
theorem prc_append {M m : Nat} : ∀ {A B : Row}, prc M m (A ++ B) = prc M m A + prc M m B
  | [], B => (Nat.zero_add _).symm
  | p :: A, B => by simp only [List.cons_append, prc, prc_append (A := A)]; lia
theorem prc_one {M m b : Nat} {p : Nat × Nat} (h : Al M b [p] (b + 2 ^ m)) : prc M m [p] = 0 := by
  have h1 : b + 2 ^ (M - p.2) = b + 2 ^ m := h.2.2
  have h2 : M - p.2 = m := Nat.pow_right_inj (by decide) |>.mp (Nat.add_left_cancel h1)
  simp only [prc]; rw [h2]; simp
theorem prc_up {M m : Nat} : ∀ {S : Row}, (∀ p ∈ S, M - p.2 ≤ m) → prc M (m + 1) S = wsum S + prc M m S
  | [], _ => rfl
  | p :: S, h => by
    have h1 := h p (.head _)
    have ih := prc_up (S := S) fun q hq => h q (.tail _ hq)
    have e : p.1 * (m + 1 - (M - p.2)) = p.1 * (m - (M - p.2)) + p.1 := by rw [← Nat.mul_succ]; congr 1; lia
    simp only [prc, wsum, ws, List.map_cons, List.sum_cons] at ih ⊢
    lia
theorem prc_top {M : Nat} : ∀ {S : Row}, (∀ p ∈ S, p.2 ≤ M) → prc M M S = cost S
  | [], _ => rfl
  | p :: S, h => by
    have h1 := h p (.head _)
    simp only [prc, cost, prc_top (S := S) fun q hq => h q (.tail _ hq)]
    congr 2; omega
theorem Al.part {M m q : Nat} : ∀ {A : Row} {s e : Nat}, Al M s A e → (∀ p ∈ A, M - p.2 ≤ m) → 2 ^ m ∣ q → s ≤ q → q ≤ e → ∃ A1 A2, A = A1 ++ A2 ∧ Al M s A1 q ∧ Al M q A2 e
  | [], s, e, h, _, _, h1, h2 => by
    have h : s = e := h
    obtain rfl : s = q := by lia
    exact ⟨[], [], rfl, rfl, h⟩
  | p :: A, s, e, h, hs, hd, h1, h2 => by
    by_cases hq : s = q
    · subst hq; exact ⟨[], p :: A, rfl, rfl, h⟩
    · obtain ⟨a, b, c⟩ := h
      have hle : s + 2 ^ (M - p.2) ≤ q := by
        obtain ⟨i, hi⟩ := b
        obtain ⟨j, hj⟩ := Nat.dvd_trans (Nat.pow_dvd_pow 2 (hs p (.head _))) hd
        rw [hi, hj, ← Nat.mul_succ]
        refine Nat.mul_le_mul_left _ (Nat.lt_of_not_le fun y => ?_)
        have := Nat.mul_le_mul_left (2 ^ (M - p.2)) y
        lia
      obtain ⟨A1, A2, e1, e2, e3⟩ := Al.part c (fun r hr => hs r (.tail _ hr)) hd hle h2
      exact ⟨p :: A1, A2, by rw [e1]; rfl, ⟨a, b, e2⟩, e3⟩
theorem kr_mem {M : Nat} : ∀ {A : Row} {p : Nat × Nat}, p ∈ A → 2 ^ (M - p.2) ≤ kr M A ∧ (2 ≤ A.length → 2 ^ (M - p.2) < kr M A)
  | q :: A, p, h => by
    rcases List.mem_cons.mp h with rfl | h
    · refine ⟨by simp only [kr]; exact Nat.le_add_right _ _, fun h2 => ?_⟩
      have : 0 < kr M A := kr_pos fun z => by subst z; simp at h2
      simp only [kr]; exact Nat.add_lt_add_left (by assumption) _
    · have := (kr_mem (M := M) h).1
      have := Nat.pow_pos (n := M - q.2) (show 0 < 2 by decide)
      simp only [kr]; exact ⟨by lia, fun _ => by lia⟩
/-- a stretch of two cells or more parts at its middle -/
theorem halves {M m b : Nat} {S : Row} (h : Al M b S (b + 2 ^ m)) (hb : 2 ^ m ∣ b) (h2 : 2 ≤ S.length) : ∃ k S1 S2, m = k + 1 ∧ S = S1 ++ S2 ∧ S1 ≠ [] ∧ S2 ≠ [] ∧ Al M b S1 (b + 2 ^ k) ∧ Al M (b + 2 ^ k) S2 (b + 2 ^ k + 2 ^ k) ∧ 2 ^ k ∣ b ∧ 2 ^ k ∣ b + 2 ^ k ∧ prc M m S = wsum S + (prc M k S1 + prc M k S2) := by
  have he := Al.end h
  have hk : kr M S = 2 ^ m := by lia
  have hlt : ∀ p ∈ S, M - p.2 < m := fun p hp => by
    have := (kr_mem (M := M) hp).2 h2
    rw [hk] at this
    exact (Nat.pow_lt_pow_iff_right (by decide : 1 < 2)).mp this
  obtain ⟨k, rfl⟩ : ∃ k, m = k + 1 := by
    cases S with
    | nil => simp at h2
    | cons p S => have := hlt p (.head _); exact ⟨m - 1, by lia⟩
  have e2 : 2 ^ (k + 1) = 2 ^ k + 2 ^ k := by rw [Nat.pow_succ]; lia
  have hpos := Nat.pow_pos (n := k) (show 0 < 2 by decide)
  have db : 2 ^ k ∣ b := Nat.dvd_trans (Nat.pow_dvd_pow 2 (Nat.le_succ k)) hb
  have dq : 2 ^ k ∣ b + 2 ^ k := Nat.dvd_add db (Nat.dvd_refl _)
  have hs : ∀ p ∈ S, M - p.2 ≤ k := fun p hp => by have := hlt p hp; lia
  obtain ⟨S1, S2, rfl, a1, a2⟩ := Al.part h hs dq (by exact Nat.le_add_right _ _) (by lia)
  rw [e2, ← Nat.add_assoc] at a2
  refine ⟨k, S1, S2, rfl, rfl, fun z => ?_, fun z => ?_, a1, a2, db, dq, by rw [prc_up hs, prc_append]⟩
  · subst z; have : b = b + 2 ^ k := a1; lia
  · subst z; have : b + 2 ^ k = b + 2 ^ k + 2 ^ k := a2; (clear a2 hs hlt hk he h h2 a1 dq db e2 hb; lia)
theorem Al.shrink {M : Nat} : ∀ {A : Row} {s e : Nat}, Al (M + 1) (2 * s) A (2 * e) → (∀ p ∈ A, p.2 ≤ M) → Al M s A e
  | [], s, e, h, _ => by have : 2 * s = 2 * e := h; show s = e; lia
  | p :: A, s, e, ⟨a, b, c⟩, hM => by
    have h1 := hM p (.head _)
    have e1 : 2 ^ (M + 1 - p.2) = 2 * 2 ^ (M - p.2) := by rw [show M + 1 - p.2 = (M - p.2) + 1 by lia, Nat.pow_succ, Nat.mul_comm]
    rw [e1] at b c
    rw [← Nat.mul_add] at c
    exact ⟨h1, Nat.dvd_of_mul_dvd_mul_left (by decide) b, Al.shrink c fun q hq => hM q (.tail _ hq)⟩
theorem Al.at_top {P : Row} {T : Nat} (hT : ∀ p ∈ P, p.2 ≤ T) : ∀ k, Al (T + k) 0 P (2 ^ (T + k)) → Al T 0 P (2 ^ T)
  | 0, h => h
  | k + 1, h => Al.at_top hT k (Al.shrink (M := T + k) (s := 0) (e := 2 ^ (T + k)) (by
      rw [show 2 * 2 ^ (T + k) = 2 ^ (T + (k + 1)) by rw [← Nat.add_assoc, Nat.pow_succ]; lia]; exact h) fun p hp => Nat.le_trans (hT p hp) (Nat.le_add_right _ _))
theorem Best.top {P : Row} (h : Best P) {T : Nat} (hT : ∀ p ∈ P, p.2 ≤ T) (hm : ∃ p ∈ P, p.2 = T) : Al T 0 P (2 ^ T) := by
  obtain ⟨⟨M, a⟩, _⟩ := h
  obtain ⟨p, hp, hpT⟩ := hm
  have := Al.lv a p hp
  obtain ⟨k, rfl⟩ : ∃ k, M = T + k := ⟨M - T, by lia⟩
  exact Al.at_top hT k a
end GW

open PySem PySem.W PyProof.Rows
namespace GW

/-! a turn of the levels, as the program takes it -/
noncomputable def both (sz : List Nat) (t : Nat) : Nat := sz.getD (t - 1) 0 + sz.getD t 0
noncomputable def okAt (sz : List Nat) (k : Nat) : Prop := k + 1 = sz.length ∨ sz.getD (k - 1) 0 ≤ sz.getD (k + 1) 0
structure TurnAt (sz : List Nat) (t pl : Nat) : Prop where
  h1 : 1 ≤ t
  h2 : t < sz.length
  h3 : okAt sz t
  h4 : ∀ k, 1 ≤ k → k < t → ¬ okAt sz k
  h5 : pl + 1 ≤ t
  h6 : ∀ i, pl ≤ i → i + 1 < t → sz.getD i 0 < both sz t
  h7 : pl = 0 ∨ both sz t ≤ sz.getD (pl - 1) 0
theorem TurnAt.desc {sz t pl} (h : TurnAt sz t pl) : ∀ k, 1 ≤ k → k < t → sz.getD (k + 1) 0 < sz.getD (k - 1) 0 := fun k a b => by
  have := h.h4 k a b
  unfold okAt at this
  lia
theorem TurnAt.uniq {sz t pl t' pl'} (h : TurnAt sz t pl) (h' : TurnAt sz t' pl') : t = t' ∧ pl = pl' := by
  obtain rfl : t = t' := by
    rcases Nat.lt_trichotomy t t' with q | q | q
    · exact (h'.h4 t h.h1 q h.h3).elim
    · exact q
    · exact (h.h4 t' h'.h1 q h'.h3).elim
  refine ⟨rfl, ?_⟩
  have key : ∀ {p q}, TurnAt sz t p → TurnAt sz t q → ¬ p < q := fun {p q} a b c => by
    have e := b.h5
    rcases b.h7 with d | d
    · lia
    · have := a.h6 (q - 1) (by (clear d e b a h' h; omega)) (by lia)
      lia
  have := key h h'; have := key h' h
  lia
noncomputable def szs (R : Grp) : List Nat := R.map (·.1)
noncomputable def ins (R : Grp) (k : Nat) : List Nat := (R.getD k (0, [])).2
noncomputable def nextR (R : Grp) (t pl : Nat) : Grp := R.take pl ++ (both (szs R) t, ins R (t - 1) ++ ins R t) :: ((R.drop pl).take (t - 1 - pl) ++ R.drop (t + 1))
noncomputable def nextL (R : Grp) (t : Nat) (lv : List Nat) : List Nat := bump (ins R (t - 1) ++ ins R t) lv
/-- so many turns bring the levels there -/
noncomputable def Go : Nat → Grp → List Nat → List Nat → Prop
  | 0, R, lv, out => R.length = 1 ∧ out = lv
  | k + 1, R, lv, out => ∃ t pl, TurnAt (szs R) t pl ∧ Go k (nextR R t pl) (nextL R t lv) out
theorem Go.uniq : ∀ {k : Nat} {R : Grp} {lv o o' : List Nat}, Go k R lv o → Go k R lv o' → o = o'
  | 0, R, lv, o, o', ⟨_, a⟩, ⟨_, b⟩ => a.trans b.symm
  | k + 1, R, lv, o, o', ⟨t, p, a, b⟩, ⟨t', p', a', b'⟩ => by
    obtain ⟨rfl, rfl⟩ := a.uniq a'
    exact Go.uniq b b'
theorem nextR_len {R : Grp} {t pl : Nat} (h : TurnAt (szs R) t pl) : (nextR R t pl).length + 1 = R.length := by
  have h1 := h.h1; have h2 := h.h2; have h5 := h.h5
  have e : (szs R).length = R.length := List.length_map ..
  unfold nextR
  simp only [List.length_append, List.length_cons, List.length_take, List.length_drop]
  lia
theorem szs_getD {R : Grp} {k : Nat} : (szs R).getD k 0 = (R.getD k (0, [])).1 := by
  unfold szs
  rw [List.getD_eq_getElem?_getD, List.getD_eq_getElem?_getD, List.getElem?_map]
  cases R[k]? <;> rfl
theorem Go.run : ∀ {k : Nat} {R : Grp} {lv out : List Nat}, Go k R lv out → Run R lv out
  | 0, R, lv, out, ⟨h, e⟩ => by
    subst e
    obtain ⟨⟨w, I⟩, rfl⟩ := List.length_eq_one_iff.mp h
    exact .done
  | k + 1, R, lv, out, ⟨t, pl, h, hg⟩ => by
    have e : (szs R).length = R.length := List.length_map ..
    obtain ⟨x, y, hx, hy, eR⟩ := parted h.h1 (by rw [← e]; exact h.h2) h.h5 (l := R)
    have gx : R.getD (t - 1) (0, []) = x := by rw [List.getD_eq_getElem?_getD, hx]; rfl
    have gy : R.getD t (0, []) = y := by rw [List.getD_eq_getElem?_getD, hy]; rfl
    have hb : both (szs R) t = x.1 + y.1 := by unfold both; rw [szs_getD, szs_getD, gx, gy]
    have st := step_of (sz := szs R) (at' := t) (pl := pl) (a := x.1) (b := y.1) h.h1 h.h2 h.h3 h.desc h.h5 (by unfold szs; rw [List.getElem?_map, hx]; rfl) (by unfold szs; rw [List.getElem?_map, hy]; rfl)
      (by rw [← hb]; exact h.h6) (by rw [← hb]; exact h.h7)
    have r := Go.run hg
    unfold nextR nextL ins at r
    rw [hb, gx, gy] at r
    rw [eR]
    refine Run.step (a := x.1) (b := y.1) (ia := x.2) (ib := y.2) ?_ r
    have := st
    unfold szs at this
    rwa [← List.map_take, ← List.map_drop, ← List.map_take, ← List.map_drop] at this
theorem bump_le {I lv : List Nat} {m : Nat} (h : ∀ l ∈ lv, l ≤ m) : ∀ l ∈ bump I lv, l ≤ m + 1 := fun l hl => by
  unfold bump at hl
  obtain ⟨i, hi, rfl⟩ := List.mem_iff_getElem.mp hl
  rw [List.getElem_mapIdx]
  rw [List.length_mapIdx] at hi
  have := h _ (List.getElem_mem hi)
  split <;> (clear hl h; lia)
theorem Go.le : ∀ {k m : Nat} {R : Grp} {lv out : List Nat}, Go k R lv out → (∀ l ∈ lv, l ≤ m) → ∀ l ∈ out, l ≤ m + k
  | 0, m, R, lv, out, ⟨_, e⟩, h => by subst e; exact h
  | k + 1, m, R, lv, out, ⟨t, pl, _, hg⟩, h => fun l hl => by
    have := Go.le hg (bump_le h) l hl
    lia

/-! each second one, and the others -/
noncomputable def evs (l : List Nat) : List Nat := (List.range ((l.length + 1) / 2)).map fun j => l.getD (2 * j) 0
noncomputable def ods (l : List Nat) : List Nat := (List.range (l.length / 2)).map fun j => l.getD (2 * j + 1) 0
theorem fm_some {α β : Type} {f : α → Option β} {g : α → β} : ∀ {l : List α}, (∀ x ∈ l, f x = some (g x)) → l.filterMap f = l.map g
  | [], _ => rfl
  | x :: l, h => by rw [List.filterMap_cons, h x (.head _), List.map_cons, fm_some fun y hy => h y (.tail _ hy)]
theorem pick_evs (l : List Nat) (f : Nat → D) : dpick (l.map f) Option.none Option.none (some 2) = (evs l).map f := by
  unfold dpick sliceBounds sliceRange evs
  simp only [Option.getD_some, show ((2 : Int) > 0) by decide, if_true, List.length_map]
  rw [List.filterMap_map, List.map_map]
  have e : (if (0 : Int) < (l.length : Int) then ((l.length : Int) - 0 + 2 - 1) / 2 else 0).toNat = (l.length + 1) / 2 := by split <;> lia
  rw [e]
  refine fm_some fun j hj => ?_
  rw [List.mem_range] at hj
  have : ((0 : Int) + 2 * (j : Int)).toNat = 2 * j := by exact Nat.add_comm _ _
  simp only [Function.comp, this]
  rw [List.getElem?_map, List.getD_eq_getElem?_getD, List.getElem?_eq_getElem (by (clear this e; omega))]; rfl
theorem pick_ods (l : List Nat) (f : Nat → D) : dpick (l.map f) (some 1) Option.none (some 2) = (ods l).map f := by
  unfold dpick sliceBounds sliceRange ods
  simp only [Option.getD_some, show ((2 : Int) > 0) by decide, if_true, List.length_map]
  rw [List.filterMap_map, List.map_map]
  have e : (if max (0 : Int) (min (if (1 : Int) < 0 then 1 + (l.length : Int) else 1) l.length) < (l.length : Int) then ((l.length : Int) - max (0 : Int) (min (if (1 : Int) < 0 then 1 + (l.length : Int) else 1) l.length) + 2 - 1) / 2 else 0).toNat = l.length / 2 := by
    rw [if_neg (show ¬ (1 : Int) < 0 by decide)]
    split <;> lia
  rw [e]
  refine fm_some fun j hj => ?_
  rw [List.mem_range] at hj
  have : (max (0 : Int) (min (if (1 : Int) < 0 then 1 + (l.length : Int) else 1) l.length) + 2 * (j : Int)).toNat = 2 * j + 1 := by
    rw [if_neg (show ¬ (1 : Int) < 0 by decide)]; omega
  simp only [Function.comp, this]
  rw [List.getElem?_map, List.getD_eq_getElem?_getD, List.getElem?_eq_getElem (by (clear this e; omega))]; rfl
/-- lighter than both -/
noncomputable def ltB (l : List Nat) (b j : Nat) : Bool := decide (l.getD j 0 < b)
theorem cnt_spec {l : List Nat} {b : Nat} (hd : ∀ i, i + 1 < l.length → l.getD (i + 1) 0 ≤ l.getD i 0) : bis (ltB l b) 0 l.length ≤ l.length ∧ ∀ j, j < l.length → (b ≤ l.getD j 0 ↔ j < bis (ltB l b) 0 l.length) := by
  have mono : ∀ j i, i ≤ j → j < l.length → l.getD j 0 ≤ l.getD i 0 := by
    intro j
    induction j with
    | zero => intro i h _; rw [show i = 0 by lia]; exact Nat.le_refl _
    | succ j ih =>
      intro i h h2
      by_cases c : i = j + 1
      · rw [c]; exact Nat.le_refl _
      · exact Nat.le_trans (hd j h2) (ih i (by lia) (by exact Nat.le_of_lt (by assumption)))
  obtain ⟨_, h2, h3, h4⟩ := bis_spec (p := ltB l b) (Nat.zero_le _) fun i j _ a c e => by
    have := mono j i a c
    unfold ltB at e ⊢
    simp only [decide_eq_true_eq] at e ⊢; exact Nat.lt_of_le_of_lt (by assumption) (by assumption)
  refine ⟨h2, fun j hj => ⟨fun q => Nat.lt_of_not_le fun c => ?_, fun q => ?_⟩⟩
  · have := h4 j c hj
    unfold ltB at this; simp only [decide_eq_true_eq] at this; lia
  · have := h3 j (Nat.zero_le _) q
    unfold ltB at this; simp only [decide_eq_false_iff_not] at this; exact Nat.le_of_not_lt (by assumption)
theorem getD_map_range {f : Nat → Nat} {n j : Nat} (h : j < n) : ((List.range n).map f).getD j 0 = f j := by
  rw [List.getD_eq_getElem?_getD, List.getElem?_map, List.getElem?_range h]; rfl
/-- the place that the two counts tell -/
noncomputable def plc (sz : List Nat) (t : Nat) : Nat := max (2 * bis (ltB (evs (sz.take (t - 1))) (both sz t)) 0 (evs (sz.take (t - 1))).length - 1) (2 * bis (ltB (ods (sz.take (t - 1))) (both sz t)) 0 (ods (sz.take (t - 1))).length)
theorem turn_of {sz : List Nat} {t : Nat} (h1 : 1 ≤ t) (h2 : t < sz.length) (h3 : okAt sz t) (h4 : ∀ k, 1 ≤ k → k < t → ¬ okAt sz k) : TurnAt sz t (plc sz t) := by
  have desc : ∀ i, i + 2 ≤ t → sz.getD (i + 2) 0 < sz.getD i 0 := fun i hi => by
    have := h4 (i + 1) (by exact Nat.succ_pos _) (by assumption)
    unfold okAt at this
    rw [Nat.add_sub_cancel] at this
    change sz.getD (i + 1 + 1) 0 < sz.getD i 0
    (clear hi h4 h3 h2 h1; omega)
  have ht : (sz.take (t - 1)).length = t - 1 := by rw [List.length_take]; lia
  have gt : ∀ k, k < t - 1 → (sz.take (t - 1)).getD k 0 = sz.getD k 0 := fun k hk => getD_take hk
  have le : (evs (sz.take (t - 1))).length = t / 2 := by unfold evs; rw [List.length_map, List.length_range, ht]; lia
  have lo : (ods (sz.take (t - 1))).length = (t - 1) / 2 := by unfold ods; rw [List.length_map, List.length_range, ht]
  have ge : ∀ j, 2 * j + 1 < t → (evs (sz.take (t - 1))).getD j 0 = sz.getD (2 * j) 0 := fun j hj => by
    unfold evs; rw [getD_map_range (by rw [ht]; lia), gt _ (by lia)]
  have go : ∀ j, 2 * j + 2 < t → (ods (sz.take (t - 1))).getD j 0 = sz.getD (2 * j + 1) 0 := fun j hj => by
    unfold ods; rw [getD_map_range (by rw [ht]; lia), gt _ (by lia)]
  obtain ⟨b1, e1⟩ := cnt_spec (l := evs (sz.take (t - 1))) (b := both sz t) fun i hi => by
    rw [le] at hi
    rw [ge _ (by lia), ge _ (by lia)]; exact Nat.le_of_lt (desc (2 * i) (by lia))
  obtain ⟨b2, e2⟩ := cnt_spec (l := ods (sz.take (t - 1))) (b := both sz t) fun i hi => by
    rw [lo] at hi
    rw [go _ (by lia), go _ (by lia)]; exact Nat.le_of_lt (desc (2 * i + 1) (by lia))
  have b1 := Nat.le_trans b1 (Nat.le_of_eq le)
  have b2 := Nat.le_trans b2 (Nat.le_of_eq lo)
  obtain ⟨p1, p2, p3⟩ := place_of (sz := sz) (at' := t) (both := both sz t) (fun j hj => by rw [← ge j hj]; exact e1 j (by rw [le]; lia)) (fun j hj => by rw [← go j hj]; exact e2 j (by rw [lo]; lia)) (by lia) (by lia)
  exact ⟨h1, h2, h3, h4, p1, p2, p3⟩
end GW

open PySem PySem.W PySem.Calls PyProof.Rows
set_option maxRecDepth 20000
noncomputable abbrev natD (k : Nat) : D := .int (k : Int)
theorem rng_small {a b : Int} (ha : 0 ≤ a) (ha2 : a ≤ 1000) (hb : -1000 ≤ b) (hb2 : b ≤ 1000) : Builtin.Range.small a b 1 = true := by
  unfold Builtin.Range.small Builtin.Range.rangeSize Builtin.Range.rangeFitsLong
  by_cases h : a < b
  · simp [h]; lia
  · simp [h]; lia
theorem rng_size {a m : Nat} : Builtin.Range.rangeSize (a : Int) ((a : Int) + m) 1 = (m : Nat) := by
  unfold Builtin.Range.rangeSize
  simp; lia
theorem rng_nat {a m : Nat} : rangeD (a : Int) 1 m = (List.range m).map fun (i : Nat) => natD (a + i) := by
  refine List.ext_getElem? fun j => ?_
  rcases Nat.lt_or_ge j m with q | q
  · rw [rangeD_get m a 1 j q]; simp [q, natD]
  · rw [List.getElem?_eq_none_iff.mpr (by rw [rangeD_len]; exact q)]; simp [q]
/-- what the names of _law_fold hold -/
inductive FoI (M : Nat) (μ : Mu) (ds : List D) (ρ : Str → Option D) (M' : Mu) : Prop
  | mk (rest : GW.Row) (e : Nat) (r : List Nat) (t : Addr) (hds : ds = rest.map (fun p => natD p.2)) (hA : GW.Al M e rest (2 ^ M)) (hs : GW.St M r e) (hrl : r.length + rest.length ≤ 900) (hM : M' = (t, .ml (r.reverse.map natD)) :: μ) (h1 : ρ "pile" = some (.val (.ref t)))
inductive FoW (M E n : Nat) (μ : Mu) (k : Nat) (ρ : Str → Option D) (M' : Mu) : Prop
  | mk (l : Nat) (r : List Nat) (t : Addr) (hk : k = r.length) (hs : GW.St1 M l r E) (hrl : r.length + 1 + n ≤ 900) (hM : M' = (t, .ml ((l :: r).reverse.map natD)) :: μ) (h1 : ρ "pile" = some (.val (.ref t)))
section
variable {g : G} (hK : g.K = hd.heap_39 g.w.params)
/-- a new list out of two, its owner known -/
theorem catM {n : Nat} {μ : Mu} {a b xs ys Q} (ra : Rd μ a xs) (rb : Rd μ b ys) (hz : xs.length + ys.length ≤ 100000) (h : ∀ c, c ∉ μ.dom → Q (.val (.ref c)) ((c, .ml (xs ++ ys)) :: μ)) : Act2 g n μ (binaryOp .Add) a b Q := fun A F s va vb ok G sa sb => by
  obtain ⟨l, vs, k, rfl, ho, sxs⟩ := ra.at G sa
  obtain ⟨l2, ws, k2, rfl, ho2, sys⟩ := rb.at G sb
  have z1 := sxs.size; have z2 := sys.size
  refine concat_meets ⟨_, ho, rfl⟩ ⟨_, ho2, rfl⟩ noFill_list_add seq_list_add PySem.F.slot_list_add PySem.F.entry_list_add (PySem.F.args_list_add_2 _ _) (list_addW l l2 vs ws k k2 none none #[] #[] (by unfold sizeLine; lia)) ⟨ho, ho2, ?_⟩
  exact EvPost.newmut (tk := s.toks) G rfl (by simpa using sxs.append sys) h
theorem idx_last {ds : List D} {a : D} : idx? (ds ++ [a]) (-1) = some a := by
  unfold idx?
  rw [if_neg (by decide), if_pos (by simp; lia), show (((ds ++ [a]).length : Int) + -1).toNat = ds.length by simp; lia, List.getElem?_append_right (Nat.le_refl _), Nat.sub_self]; rfl
theorem idx_last2 {ds : List D} {a b : D} : idx? (ds ++ [b, a]) (-2) = some b := by
  unfold idx?
  rw [if_neg (by decide), if_pos (by simp; lia), show (((ds ++ [b, a]).length : Int) + -2).toNat = ds.length by simp; lia, List.getElem?_append_right (Nat.le_refl _), Nat.sub_self]; rfl
theorem last_at {r : List Nat} {l : Nat} : idx? ((l :: r).reverse.map natD) (-1) = some (natD l) := by
  rw [List.reverse_cons, List.map_append]; exact idx_last
theorem last2_at {r : List Nat} {l x : Nat} : idx? ((l :: x :: r).reverse.map natD) (-2) = some (natD x) := by
  rw [List.reverse_cons, List.reverse_cons, List.append_assoc, List.map_append]; exact idx_last2
theorem dpick_but2 (ds : List D) (a b : D) : dpick (ds ++ [a, b]) Option.none (some (-2)) Option.none = ds := by
  unfold dpick sliceBounds
  simp only [Option.getD_none, show ((1 : Int) > 0) by decide, if_true]
  have e : max (0 : Int) (min (if (-2 : Int) < 0 then (-2 : Int) + ((ds ++ [a, b]).length : Int) else -2) ((ds ++ [a, b]).length : Int)) = (ds.length : Int) := by
    rw [if_pos (by decide)]; simp; lia
  rw [e]
  refine (dpick_run _ 0 _ (by exact Nat.zero_le _) (by simp)).trans ?_
  simp
include hK
/-- _law_fold -/
theorem fold_body {P : GW.Row} {n M : Nat} {μ : Mu} {Q : D → Mu → Prop} (hl : P.length ≤ 900) (hA : GW.Al M 0 P (2 ^ M)) (h : Q (.lst [.int 0]) μ) :
    Calls g (n + 6) (.val (.ref 74)) [.lst (P.map fun p => natD p.2)] [] μ Q := by
  refine' Calls.enter (fa := 74) (hK := ?a) (hfo := ?b) (hbody := ?c) (hclo := ?d) (hglob := ?e) (hblt := ?f) (hcode := ?gg) (hco := ?h) (hgen := ?i) (hk := ?j)
    (bd := [("levels", .lst (P.map fun p => natD p.2))]) ?bb (nm := ["levels"]) (hnm := rfl) (hnames := ?k) (by decide) (hcn := ?l) ?_
  case a => rw [hK]; rfl
  case b => rfl
  case c => rfl
  case d => rfl
  case e => rfl
  case f => rfl
  case gg => rw [hK]; rfl
  case h => rfl
  case i => rfl
  case j => rfl
  case k => rfl
  case l => decide
  case bb => exact (BB.ok (fa := 74) hK (by constructor)) _ _ (by rw [hK]; rfl) rfl
  intro env own L he ho
  repeat' walk_at "st"
  refine Ev.listM ?_
  repeat' walk_at "st"
  intro t ht
  repeat' walk_at "st"
  refine Ex1.for (by exact Nat.le_add_left _ _) (EvI.list ?_)
  repeat' walk_at "st"
  refine ⟨_, rfl, ?_⟩
  refine ForL.run (I := FoI M μ) ?_ ?_ _
    ⟨P, 0, [], t, rfl, hA, rfl, by simp; omega, rfl, by walk_at "rho"⟩
  · rintro d ds ρ M' ⟨rest, e, r, t, hds, hA, hs, hrl, rfl, h1⟩
    cases rest with
    | nil => cases hds
    | cons p rest =>
      obtain ⟨rfl, rfl⟩ : d = natD p.2 ∧ ds = rest.map fun p => natD p.2 := by simpa using hds
      simp only [List.length_cons] at hrl
      obtain ⟨a1, a2, a3⟩ := hA
      refine .name (by walk_at "bind") ?_
      refine Ex.cons (Ex1.expr (Ev.meth (id := "list.append") ?_ PySem.F.slot_list_append PySem.F.type_list_append))
      repeat' walk_at "st"
      refine ⟨⟨_, .mu mem_hd⟩, ?_⟩
      repeat' walk_at "st"
      refine Calls.append mem_hd (by simp; lia) ?_
      rw [setMu_hit]
      refine ⟨rfl, next_of ?_⟩
      have hp := hs.push a1 a2
      have hle := a3.le
      rw [show r.reverse.map natD ++ [natD p.2] = (p.2 :: r).reverse.map natD by simp]
      generalize hE : e + 2 ^ (M - p.2) = E at hp a3 hle
      generalize p.2 = l at hp
      refine Ex.cons ?_
      refine Ex1.while (I := FoW M E rest.length μ) _ ⟨l, r, t, rfl, hp, by lia, rfl, by walk_at "rho"⟩ ?_
      rintro k ρ M' ⟨l, r, t, rfl, hs, hrl, rfl, h1⟩
      refine Et.and ?_
      unfold EtAll
      repeat' walk_at "st"
      refine len_D (.mu mem_hd) (by simp; lia) ?_
      repeat' walk_at "st"
      have done : ∀ ρ' : Str → Option D, ρ' "pile" = some (.val (.ref t)) → (∀ h ∈ r.head?, h ≠ l) → FoI M μ (rest.map fun p => natD p.2) ρ' ((t, MO.ml ((l :: r).reverse.map natD)) :: μ) := fun ρ' h1 hn =>
        ⟨rest, E, l :: r, t, rfl, a3, hs.done hn, by simp; omega, rfl, h1⟩
      cases r with
      | nil =>
        rw [show decide ((1 : Int) < (((([l] : List Nat).reverse.map natD).length : Nat) : Int)) = false by simp]
        refine ⟨fun _ => ⟨fun q => (nomatch q), fun _ => next_of (Ex.nil (done _ h1 (fun h hh => nomatch hh)))⟩, fun q => nomatch q⟩
      | cons x r =>
        simp only [List.length_cons] at hrl
        rw [show decide ((1 : Int) < ((((l :: x :: r).reverse.map natD).length : Nat) : Int)) = true by simp; lia]
        refine ⟨fun q => (nomatch q), fun _ => ?_⟩
        unfold EtAll
        repeat' walk_at "st"
        refine Act2.item (.mu mem_hd) last_at (by simp; lia) ?_ (fun _ _ => rfl)
        repeat' walk_at "st"
        refine Act2.item (.mu mem_hd) last2_at (by simp; lia) ?_ (fun _ _ => rfl)
        repeat' walk_at "st"
        by_cases hx : x = l
        · subst hx
          obtain ⟨g1, g2⟩ := hs.merge hle
          rw [show ((x : Int) == (x : Int)) = true by simp]
          refine ⟨fun q => (nomatch q), fun _ => ?_⟩
          unfold EtAll
          refine ⟨fun _ => ?_, fun q => nomatch q⟩
          refine Ex.freeze (reUpd (x := "pile") h1 .hit) ?_
          repeat' walk_at "st"
          refine ⟨_, rfl, ?_⟩
          repeat' walk_at "st"
          refine Act2.slice .lst (by decide) (by simp; lia) ?_ ops_plain
          rw [show ((x :: x :: r).reverse.map natD) = r.reverse.map natD ++ [natD x, natD x] by simp, dpick_but2]
          refine Ev.list ?_
          repeat' walk_at "st"
          refine Act2.item .lst (by rw [show r.reverse.map natD ++ [natD x, natD x] = ((x :: x :: r).reverse.map natD) by simp]; exact last_at) (by simp; lia) ?_ (fun _ _ => rfl)
          repeat' walk_at "st"
          refine catM .lst .lst (by simp; lia) fun c hc => ?_
          repeat' walk_at "st"
          refine ⟨r.length, by simp, x - 1, r, c, rfl, g2, by lia, ?_, by walk_at "rho"⟩
          rw [show r.reverse.map natD ++ [D.int ((x : Int) - 1)] = ((x - 1) :: r).reverse.map natD by simp [natD]; lia]
        · rw [show ((l : Int) == (x : Int)) = false by simp; lia]
          refine ⟨fun _ => ⟨fun q => (nomatch q), fun _ => next_of (Ex.nil (done _ h1 (fun h hh => by cases hh; exact hx)))⟩, fun q => nomatch q⟩
  · rintro ρ M' ⟨rest, e, r, t, hds, hA, hs, hrl, rfl, h1⟩
    obtain rfl : rest = [] := by cases rest with | nil => rfl | cons _ _ => cases hds
    have : e = 2 ^ M := hA
    subst this
    obtain rfl := hs.root
    refine next_of ?_
    refine Ex.freeze (reUpd (x := "pile") h1 .hit) ?_
    repeat' walk_at "st"
    exact h
end

open PySem PySem.W PySem.Calls PyProof.Rows
set_option maxRecDepth 20000
/-- memory as it was, the store as P says -/
inductive KP (μ : Mu) (P : (Str → Option D) → Prop) (ρ : Str → Option D) (M : Mu) : Prop
  | mk (h2 : M = μ) (h3 : P ρ)
inductive NK (μ : Mu) (P : (Str → Option D) → Prop) (f : Fl) (ρ : Str → Option D) (M : Mu) : Prop
  | mk (h1 : f = .next) (h2 : M = μ) (h3 : P ρ)
/-- memory with one dict ahead -/
inductive KD (t : Addr) (μ : Mu) (P : Nat → (Int → Option Int) → (Str → Option D) → Prop) (ρ : Str → Option D) (M : Mu) : Prop
  | mk (N : Nat) (m : Int → Option Int) (h2 : M = (t, .dt N m) :: μ) (h3 : P N m ρ)
/-- a loop's turn: I goes on, or Q takes it -/
noncomputable abbrev LN (I : (Str → Option D) → Mu → Prop) (Q : Fl → (Str → Option D) → Mu → Prop) (f : Fl) (ρ : Str → Option D) (M : Mu) : Prop := match f with
  | .next => I ρ M
  | .cont => I ρ M
  | .brk => Q .next ρ M
  | .ret d => Q (.ret d) ρ M
theorem rng_cons {a k : Nat} : (List.range (k + 1)).map (fun (i : Nat) => natD (a + i)) = natD a :: (List.range k).map (fun (i : Nat) => natD (a + 1 + i)) := by
  rw [List.range_succ_eq_map, List.map_cons, List.map_map]
  refine congrArg (natD a :: ·) (List.map_congr_left fun i _ => ?_)
  show natD (a + (i + 1)) = natD (a + 1 + i)
  rw [show a + (i + 1) = a + 1 + i by lia]
section
variable {g : G} {env : Env} {own : List Addr} {n : Nat} {ρ : Str → Option D} {μ : Mu}
theorem Ex.seqK {st rest Q} (P : (Str → Option D) → Prop) (h : Ex1 g env own n ρ μ st (NK μ P)) (k : ∀ ρ', P ρ' → Ex g env own n ρ' μ rest Q) : Ex g env own n ρ μ (st :: rest) Q :=
  Ex.cons fun A F s ok G Fs => wpAny_mono (h A F s ok G Fs) ((by rintro fl s' ⟨f, ρ', μ', F', t, G', Fs', sf, e, rfl, r⟩; exact ⟨f, ρ', _, F', t, G', Fs', sf, fun _ => k _ r, fun q => absurd e q⟩)) fun _ _ x => x
theorem ForL.runN {tgt body Q} (I : Nat → (Str → Option D) → Mu → Prop) : ∀ (k lo : Nat) {ρ μ},
    (∀ i ρ M, lo ≤ i → i < lo + k → I i ρ M → Asg env own (fun ρ₁ => Ex g env own n ρ₁ M body (LN (I (i + 1)) Q)) tgt (natD i) ρ) →
    (∀ ρ M, I (lo + k) ρ M → Q .next ρ M) → I lo ρ μ → ForL g env own n tgt body ((List.range k).map fun (i : Nat) => natD (lo + i)) ρ μ Q
  | 0, lo, ρ, μ, turn, fin, h => fin ρ μ h
  | k + 1, lo, ρ, μ, turn, fin, h => by
    rw [rng_cons]
    refine (turn lo ρ μ (Nat.le_refl _) (by (clear h fin turn; lia)) h).mono fun r hr => hr.mono fun f r' μ' q => ?_
    have go : I (lo + 1) r' μ' → ForL g env own n tgt body ((List.range k).map fun (i : Nat) => natD (lo + 1 + i)) r' μ' Q :=
      ForL.runN I k (lo + 1) (fun i ρ M a b => turn i ρ M (by exact Nat.le_of_lt (by assumption)) (by (clear a q hr h fin turn; lia))) (fun ρ M c => fin ρ M (by rw [show lo + (k + 1) = lo + 1 + k by (clear c q hr h fin turn; lia)]; exact c))
    cases f with
    | next => exact go q
    | cont => exact go q
    | brk => exact q
    | ret d => exact q
theorem ForL.runK {tgt body Q} (P : Nat → (Str → Option D) → Prop) {k lo : Nat} (h : P lo ρ)
    (turn : ∀ i ρ, lo ≤ i → i < lo + k → P i ρ → Asg env own (fun ρ₁ => Ex g env own n ρ₁ μ body (LN (KP μ (P (i + 1))) Q)) tgt (natD i) ρ)
    (fin : ∀ ρ, P (lo + k) ρ → Q .next ρ μ) : ForL g env own n tgt body ((List.range k).map fun (i : Nat) => natD (lo + i)) ρ μ Q :=
  ForL.runN (fun i => KP μ (P i)) k lo (by rintro i ρ M a b ⟨rfl, q⟩; exact turn i ρ a b q) (by rintro ρ M ⟨rfl, q⟩; exact fin ρ q) ⟨rfl, h⟩
theorem ForL.runD {tgt body Q} {t : Addr} (P : Nat → Nat → (Int → Option Int) → (Str → Option D) → Prop) {k lo N : Nat} {m : Int → Option Int} (h : P lo N m ρ)
    (turn : ∀ i N m ρ, lo ≤ i → i < lo + k → P i N m ρ → Asg env own (fun ρ₁ => Ex g env own n ρ₁ ((t, .dt N m) :: μ) body (LN (KD t μ (P (i + 1))) Q)) tgt (natD i) ρ)
    (fin : ∀ N m ρ, P (lo + k) N m ρ → Q .next ρ ((t, .dt N m) :: μ)) : ForL g env own n tgt body ((List.range k).map fun (i : Nat) => natD (lo + i)) ρ ((t, .dt N m) :: μ) Q :=
  ForL.runN (fun i => KD t μ (P i)) k lo (by rintro i ρ M a b ⟨N, m, rfl, q⟩; exact turn i N m ρ a b q) (by rintro ρ M ⟨N, m, rfl, q⟩; exact fin N m ρ q) ⟨N, m, rfl, h⟩
theorem ForL.runL {tgt body Q} (P : List D → (Str → Option D) → Prop) {ds : List D} (h : P ds ρ)
    (turn : ∀ d ds ρ, P (d :: ds) ρ → Asg env own (fun ρ₁ => Ex g env own n ρ₁ μ body (LN (KP μ (P ds)) Q)) tgt d ρ)
    (fin : ∀ ρ, P [] ρ → Q .next ρ μ) : ForL g env own n tgt body ds ρ μ Q :=
  ForL.run (fun ds => KP μ (P ds)) (by rintro d ds ρ M ⟨rfl, q⟩; exact turn d ds ρ q) (by rintro ρ M ⟨rfl, q⟩; exact fin ρ q) ds ⟨rfl, h⟩
theorem ExB.seqK {st rest} {Q : Fl → Mu → Prop} (P : (Str → Option D) → Prop) (h : Ex1 g env own n ρ μ st (NK μ P)) (k : ∀ ρ', P ρ' → ExB g env own n ρ' μ rest Q) : ExB g env own n ρ μ (st :: rest) Q :=
  ExB.cons fun A F s ok G Fs => wpAny_mono (h A F s ok G Fs) ((by rintro fl s' ⟨f, ρ', μ', F', t, G', Fs', sf, e, rfl, r⟩; exact ⟨f, ρ', _, F', t, G', Fs', sf, fun _ => k _ r, fun q => absurd e q⟩)) fun _ _ x => x
end

open PySem PySem.W PySem.Calls PyProof.Rows
set_option maxRecDepth 20000
theorem ins_sorted {row : List Nat} {x k : Nat} (hs : row.Pairwise (· ≤ ·)) (h1 : ∀ i, i < k → i < row.length → row.getD i 0 ≤ x) (h2 : ∀ i, k ≤ i → i < row.length → x ≤ row.getD i 0) : (row.take k ++ x :: row.drop k).Pairwise (· ≤ ·) := by
  rw [List.pairwise_append]
  refine ⟨hs.sublist (List.take_sublist _ _), List.pairwise_cons.mpr ⟨fun y hy => ?_, hs.sublist (List.drop_sublist _ _)⟩, fun a ha b hb => ?_⟩
  · obtain ⟨i, hi, rfl⟩ := List.mem_iff_getElem.mp hy
    rw [List.length_drop] at hi
    have := h2 (k + i) (by exact Nat.le_add_right _ _) (by omega)
    rw [List.getElem_drop]
    rwa [List.getD_eq_getElem?_getD, List.getElem?_eq_getElem (by (clear this hy h2 h1 hs; omega))] at this
  · rcases List.mem_cons.mp hb with rfl | hb
    · obtain ⟨i, hi, rfl⟩ := List.mem_iff_getElem.mp ha
      rw [List.length_take] at hi
      have := h1 i (by lia) (by lia)
      rw [List.getElem_take]
      rwa [List.getD_eq_getElem?_getD, List.getElem?_eq_getElem (by lia)] at this
    · rw [← List.take_append_drop k row, List.pairwise_append] at hs
      exact hs.2.2 a ha b hb
theorem ins_perm {row : List Nat} {x k : Nat} : (row.take k ++ x :: row.drop k).Perm (x :: row) := by
  refine List.perm_middle.trans (List.Perm.cons x ?_)
  rw [List.take_append_drop]
theorem insAt_nat {row : List Nat} {x k : Nat} : insAt k (natD x) (row.map natD) = (row.take k ++ x :: row.drop k).map natD := by
  unfold insAt; rw [List.map_append, List.map_cons, List.map_take, List.map_drop]
noncomputable def pR (row : List Nat) (x i : Nat) : Bool := decide (x < row.getD i 0)
noncomputable def pL (row : List Nat) (x i : Nat) : Bool := decide (x ≤ row.getD i 0)
theorem nat_at {row : List Nat} {i : Nat} {d : D} (h : (row.map natD)[i]? = some d) : d = natD (row.getD i 0) := by
  rw [List.getElem?_map] at h
  cases hi : row[i]? with
  | none => rw [hi] at h; cases h
  | some y => rw [hi] at h; cases h; rw [List.getD_eq_getElem?_getD, hi]; rfl
theorem pR_ok {row : List Nat} {x : Nat} (i : Nat) (d : D) (h : (row.map natD)[i]? = some d) : LtOk (natD x) d (pR row x i) := by
  rw [nat_at h]; unfold pR; rw [show decide (x < row.getD i 0) = decide ((x : Int) < (row.getD i 0 : Nat)) by simp]; exact LtOk.int
theorem pL_ok {row : List Nat} {x : Nat} (i : Nat) (d : D) (h : (row.map natD)[i]? = some d) : LtOk d (natD x) (!pL row x i) := by
  rw [nat_at h]; unfold pL; rw [show (!decide (x ≤ row.getD i 0)) = decide (((row.getD i 0 : Nat) : Int) < x) by rw [← decide_not]; simp]; exact LtOk.int
theorem getD_mono {row : List Nat} (hs : row.Pairwise (· ≤ ·)) {i j : Nat} (h : i ≤ j) (hj : j < row.length) : row.getD i 0 ≤ row.getD j 0 := by
  rw [List.getD_eq_getElem?_getD, List.getD_eq_getElem?_getD, List.getElem?_eq_getElem (by exact Nat.lt_of_le_of_lt (by assumption) (by assumption)), List.getElem?_eq_getElem hj]
  rcases Nat.lt_or_eq_of_le h with h | rfl
  · exact List.pairwise_iff_getElem.mp hs i j (by exact Nat.lt_trans (by assumption) (by assumption)) hj h
  · exact Nat.le_refl _
theorem pR_ins {row : List Nat} {x : Nat} (hs : row.Pairwise (· ≤ ·)) : (row.take (bis (pR row x) 0 row.length) ++ x :: row.drop (bis (pR row x) 0 row.length)).Pairwise (· ≤ ·) := by
  obtain ⟨_, _, h3, h4⟩ := bis_spec (p := pR row x) (lo := 0) (hi := row.length) (Nat.zero_le _) fun i j _ a c e => by
    have := getD_mono hs a c
    unfold pR at e ⊢; simp only [decide_eq_true_eq] at e ⊢; exact Nat.lt_of_lt_of_le (by assumption) (by assumption)
  exact ins_sorted hs (fun i a b => by have := h3 i (Nat.zero_le _) a; unfold pR at this; simpa using this) fun i a b => by have := h4 i a b; unfold pR at this; simp only [decide_eq_true_eq] at this; exact Nat.le_of_lt (by assumption)
theorem pL_ins {row : List Nat} {x : Nat} (hs : row.Pairwise (· ≤ ·)) : (row.take (bis (pL row x) 0 row.length) ++ x :: row.drop (bis (pL row x) 0 row.length)).Pairwise (· ≤ ·) := by
  obtain ⟨_, _, h3, h4⟩ := bis_spec (p := pL row x) (lo := 0) (hi := row.length) (Nat.zero_le _) fun i j _ a c e => by
    have := getD_mono hs a c
    unfold pL at e ⊢; simp only [decide_eq_true_eq] at e ⊢; exact Nat.le_trans (by assumption) (by assumption)
  exact ins_sorted hs (fun i a b => by have := h3 i (Nat.zero_le _) a; unfold pL at this; simp only [decide_eq_false_iff_not] at this; lia) fun i a b => by have := h4 i a b; unfold pL at this; simpa using this
/-- what lays a number into a rising row -/
noncomputable def PutOk (g : Mine.G) (f : D) : Prop := KeepD g f ∧ ∀ (e : Env) (n : Nat) (μ : Mu) (a : Addr) (row : List Nat) (x : Nat) (Q : D → Mu → Prop), row.Pairwise (· ≤ ·) → row.length ≤ 1000 → (a, .ml (row.map natD)) ∈ μ →
  (∀ row' : List Nat, row'.Pairwise (· ≤ ·) → row'.Perm (x :: row) → Q .none (setMu a (.ml (row'.map natD)) μ)) → Calls (g.push e) (n + 3) f [.val (.ref a), natD x] [] μ Q
/-- what the names of _law_gather hold -/
inductive GaI (f : D) (v : Nat) (μ : Mu) (ds : List D) (ρ : Str → Option D) (M : Mu) : Prop
  | mk (hM : M = μ) (row : List Nat) (pr v' : Nat) (hr : ds.length + 1 = row.length) (hl : row.length ≤ 900) (hs : row.Pairwise (· ≤ ·)) (hv : GW.IsLeast row v') (hpr : pr + v' = v) (h1 : ρ "row" = some (.lst (row.map natD))) (h2 : ρ "price" = some (natD pr)) (h3 : ρ "put" = some f)
section
variable {g : G} (hK : g.K = hd.heap_39 g.w.params)
include hK
theorem put_right : PutOk g (.val (.ref 23)) := ⟨KeepD.fn (by rw [hK]; rfl), fun e n μ a row x Q hs hl hm h => by
  refine insR_body (g := g.push e) hK (p := pR row x) (lo := 0) (hi := row.length) (BB.ok (g := g.push e) hK (by constructor)) hm (by simp; exact Nat.le_trans (by assumption) (by decide)) (Nat.zero_le _) (by simp) (.inr ⟨rfl, by simp⟩) pR_ok ?_
  rw [insAt_nat]; exact h _ (pR_ins hs) ins_perm⟩
theorem put_left : PutOk g (.val (.ref 41)) := ⟨KeepD.fn (by rw [hK]; rfl), fun e n μ a row x Q hs hl hm h => by
  refine insL_body (g := g.push e) hK (p := pL row x) (lo := 0) (hi := row.length) (BB.ok (g := g.push e) hK (by constructor)) hm (by simp; exact Nat.le_trans (by assumption) (by decide)) (Nat.zero_le _) (by simp) (.inr ⟨rfl, by simp⟩) pL_ok ?_
  rw [insAt_nat]; exact h _ (pL_ins hs) ins_perm⟩
/-- _law_gather -/
theorem gather_body {f : D} (hf : PutOk g f) {row : List Nat} {v n : Nat} {μ : Mu} {Q : D → Mu → Prop} (hs : row.Pairwise (· ≤ ·)) (hv : GW.IsLeast row v) (hne : row ≠ []) (hl : row.length ≤ 900) (h : Q (natD v) μ) :
    Calls g (n + 6) (.val (.ref 81)) [.lst (row.map natD), f] [] μ Q := by
  refine' Calls.enter (fa := 81) (hK := ?a) (hfo := ?b) (hbody := ?c) (hclo := ?d) (hglob := ?e) (hblt := ?f) (hcode := ?gg) (hco := ?h) (hgen := ?i) (hk := ?j)
    (bd := [("row", .lst (row.map natD)), ("put", f)]) ?bb (nm := ["row", "put"]) (hnm := rfl) (hnames := ?k) (by decide) (hcn := ?l) ?_
  case a => rw [hK]; rfl
  case b => rfl
  case c => rfl
  case d => rfl
  case e => rfl
  case f => rfl
  case gg => rw [hK]; rfl
  case h => rfl
  case i => rfl
  case j => rfl
  case k => rfl
  case l => decide
  case bb => exact (BB.ok (fa := 81) hK (by constructor)) _ _ (by rw [hK]; rfl) rfl
  intro env own L he ho
  have h0 : 0 < row.length := List.length_pos_iff.mpr hne
  repeat' walk_at "st"
  refine Ex1.for (by exact Nat.le_add_left _ _) (EvI.range ?_)
  repeat' walk_at "st"
  refine len_D .lst (by simp; lia) ?_
  repeat' walk_at "st"
  refine Calls.range1 ?_
  rw [show (((row.map natD).length : Int) - 1) = ((0 : Nat) : Int) + ((row.length - 1 : Nat) : Int) by simp; lia]
  refine ⟨((0 : Nat) : Int), _, 1, row.length - 1, rfl, rng_small (by decide) (by decide) (by lia) (by lia), rng_size, ?_⟩
  rw [rng_nat]
  refine ForL.run (I := GaI f v μ) ?_ ?_ _
    ⟨rfl, row, 0, v, by simp; exact Nat.sub_add_cancel (by assumption), hl, hs, hv, by exact Nat.add_comm _ _, by walk_at "rho", upd_same, by walk_at "rho"⟩
  · rintro d ds ρ M ⟨rfl, row, pr, v', hr, hl, hs, hv, hpr, h1, h2, h3⟩
    refine .name (by walk_at "bind") ?_
    match row, hr with
    | x :: y :: R, hr =>
    simp only [List.length_cons] at hr hl
    refine Ex.cons (Ex1.assignS (names := ["both", "row"]) ?_ ?hb ?hw)
    case hw => subst he; exact rfl
    case hb => intro x hx; simp only [List.mem_cons, List.not_mem_nil, or_false] at hx; rcases hx with rfl | rfl <;> walk_at "bind"
    repeat' walk_at "st"
    refine Act2.item .lst (idx?_nat (k := 0)) (by simp; lia) ?_ (fun _ _ => rfl)
    repeat' walk_at "st"
    refine Act2.item .lst (idx?_nat (k := 1)) (by simp; lia) ?_ (fun _ _ => rfl)
    repeat' walk_at "st"
    refine ⟨_, rfl, ?_⟩
    refine Act2.sliceM .lst (by decide) (by simp; lia) ?_ ops_plain
    intro c hc
    rw [show dpick ((x :: y :: R).map natD) (some 2) Option.none Option.none = R.map natD from dpick_from _ 2]
    repeat' walk_at "st"
    refine ⟨_, rfl, rfl, next_of ?_⟩
    rw [updL2, show (D.int ((x : Int) + (y : Int))) = natD (x + y) by simp [natD]]
    refine Ex.cons (Ex1.expr ?_)
    repeat' walk_at "st"
    refine ⟨hf.1, ?_⟩
    repeat' walk_at "st"
    refine hf.2 env (n + 2) _ c R (x + y) _ (List.pairwise_cons.mp (List.pairwise_cons.mp hs).2).2 (by lia) mem_hd fun row' s' p' => ?_
    rw [setMu_hit]
    refine ⟨rfl, next_of ?_⟩
    obtain ⟨v2, hv2, rfl⟩ := GW.huffman hv hs s' p'
    have hlen := p'.length_eq
    simp only [List.length_cons] at hlen
    refine Ex.freeze (reUpd (x := "row") (d1 := .lst (row'.map natD)) (by walk_at "rho") .hit) ?_
    repeat' walk_at "st"
    rw [show (D.int ((pr : Int) + ((x + y : Nat) : Int))) = natD (pr + (x + y)) by simp [natD]]
    exact ⟨rfl, row', pr + (x + y), v2, by lia, by lia, s', hv2, by lia, by walk_at "rho", upd_same, by walk_at "rho"⟩
  · rintro ρ M ⟨rfl, row, pr, v', hr, hl, hs, hv, hpr, h1, h2, h3⟩
    obtain ⟨x, rfl⟩ := List.length_eq_one_iff.mp hr.symm
    have : v' = 0 := hv.uniq (.one x)
    subst this
    repeat' walk_at "st"
    rw [show v = pr by (clear hv h1 hs hl hr h3 h2 h h0 ho he hne hf hK; lia)] at h
    exact h
end

open PySem PySem.W PySem.Calls PyProof.Rows
set_option maxRecDepth 20000
/-- lambda one: one[0] -/
theorem keyFst {g : Mine.G} {q : Str} {pa : Arguments} {body : Expr} {sc : Scope} {cd : Value} {x : Int × Int} (hb : ∀ name cl pm ct (vs : List Value), vs.length = 1 → bindArgs (kla_fn name q pa body sc cl pm cd ct) ⟨vs, []⟩ = pure ((["one"] : List Str).zip vs))
    (hs : sc = { kind := .function, names := [("one", .local)], isGenerator := false, isCoroutine := false, more := [] }) (p1 p2 p3 : Pos) (hbody : body = .Subscript (.Name "one" p1) (.Constant (.int 0) 0 p2) p3) (m : Nat) : KeyOk g (m + 1) (.clo q pa body sc cd []) (pairD x) (.int x.1) := by
  subst hs hbody
  intro l μ Q h
  refine Calls.clo (nm := ["one"]) hb (by decide) (by decide) (by simp) rfl rfl rfl (by decide) ?_
  intro env L f cl he
  show Ev (G.push { g with stk := l } env) env [L] m (rho [("one", .tup [.int x.1, .int x.2])]) μ _ Q
  repeat' walk_at "st"
  exact Act2.itemT (idx?_nat (k := 0)) (by simp) h (fun _ _ => rfl)
noncomputable abbrev tabs3 : List (Addr × Addr × Str) := [(54, 52, ("_law_levels" : Str) ++ ".<locals>." ++ "<lambda>"), (87, 83, ("_law_laid" : Str) ++ ".<locals>." ++ "<lambda>")]
theorem sg_ins {F : List (Int × Int)} {p : Int × Int} {k : Nat} : insAt k (pairD (sg p)) ((F.map sg).map pairD) = ((insP k p F).map sg).map pairD := by
  unfold insAt insP; simp [List.map_take, List.map_drop]
theorem sg_at {F : List (Int × Int)} {i : Nat} {d : D} (h : ((F.map sg).map pairD)[i]? = some d) : ∃ t, d = pairD ((F.getD i (0, 0)).1, t) := by
  rw [List.map_map, List.getElem?_map] at h
  cases hi : F[i]? with
  | none => rw [hi] at h; cases h
  | some y => rw [hi] at h; cases h; exact ⟨_, by rw [List.getD_eq_getElem?_getD, hi]; rfl⟩
/-- what the names of _law_laid hold -/
inductive LdI (ns : List Int) (t : Addr) (μ : Mu) (ds : List D) (ρ : Str → Option D) (M : Mu) : Prop
  | mk (done rest : List (Int × Nat)) (hdr : ns.zipIdx = done ++ rest) (hds : ds = rest.map tupI) (F : List (Int × Int)) (hs : SgUp F) (hp : F.Perm (done.map prT)) (hM : M = (t, .ml ((F.map sg).map pairD)) :: μ) (h1 : ρ "laid" = some (.val (.ref t)))
section
variable {g : G} (hK : g.K = hd.heap_39 g.w.params) (hT : g.tabs = tabs3)
include hK hT
set_option maxHeartbeats 1000000 in
/-- _law_laid -/
theorem laid_body {ns : List Int} {n : Nat} {μ : Mu} {Q : D → Mu → Prop} (hl : ns.length ≤ 900) (h : ∀ F : List (Int × Int), SgUp F → F.Perm (ns.zipIdx.map prT) → Q (.lst ((F.map sg).map pairD)) μ) :
    Calls g (n + 6) (.val (.ref 88)) [.lst (ns.map .int)] [] μ Q := by
  refine' Calls.enter (fa := 88) (hK := ?a) (hfo := ?b) (hbody := ?c) (hclo := ?d) (hglob := ?e) (hblt := ?f) (hcode := ?gg) (hco := ?h) (hgen := ?i) (hk := ?j)
    (bd := [("weights", .lst (ns.map .int))]) ?bb (nm := ["weights"]) (hnm := rfl) (hnames := ?k) (by decide) (hcn := ?l) ?_
  case a => rw [hK]; rfl
  case b => rfl
  case c => rfl
  case d => rfl
  case e => rfl
  case f => rfl
  case gg => rw [hK]; rfl
  case h => rfl
  case i => rfl
  case j => rfl
  case k => rfl
  case l => decide
  case bb => exact (BB.ok (fa := 88) hK (by constructor)) _ _ (by rw [hK]; rfl) rfl
  intro env own L he ho
  have hcode : env.code = .ref 87 := by subst he; rfl
  have htab : (87, 83, env.qual ++ ("<lambda>" : Str)) ∈ (g.push env).tabs := by subst he; show _ ∈ g.tabs; rw [hT]; exact .tail _ (.head _)
  have hq : ∀ q ∈ (g.push env).tabs, q.2.1 = 83 → q.2.2 = env.qual ++ ("<lambda>" : Str) := by
    show ∀ q ∈ g.tabs, _
    rw [hT]; subst he
    intro q hq h
    simp only [tabs3, List.mem_cons, List.not_mem_nil, or_false] at hq
    rcases hq with rfl | rfl
    · cases h
    · rfl
  repeat' walk_at "st"
  refine Ev.listM ?_
  repeat' walk_at "st"
  intro t ht
  repeat' walk_at "st"
  refine Ex1.for (by exact Nat.le_add_left _ _) (EvI.enum ?_)
  repeat' walk_at "st"
  refine ⟨rfl, rfl, ?_⟩
  repeat' walk_at "st"
  refine ⟨_, rfl, ?_⟩
  rw [enumD_ints]
  refine ForL.run (I := LdI ns t μ) ?_ ?_ _
    ⟨[], _, rfl, rfl, [], .nil, .refl _, rfl, by walk_at "rho"⟩
  · rintro d ds ρ M ⟨done, rest, hdr, hds, F, hs, hp, rfl, h1⟩
    cases rest with
    | nil => cases hds
    | cons q rest =>
      obtain ⟨rfl, rfl⟩ : d = tupI q ∧ ds = rest.map tupI := by simpa using hds
      have hdl : done.length ≤ ns.length := by have := congrArg List.length hdr; simp at this; lia
      have hFl : F.length = done.length := by have := hp.length_eq; simpa using this
      refine .tup (.cons (by walk_at "bind") (.cons (by walk_at "bind") (.nil ?_)))
      have hn : ∀ r ∈ F, 0 ≤ r.2 ∧ r.2 < (prT q).2 := fun r hr => by
        obtain ⟨s, hs, rfl⟩ := List.mem_map.mp (hp.mem_iff.mp hr)
        have := turns_up hdr s hs
        simp only [prT]; lia
      have s' := stepT_sorted (p := prT q) hs hn
      have fin : ∀ (ρ' : Str → Option D) (M' : Mu), M' = (t, MO.ml (((stepT F (prT q)).map sg).map pairD)) :: μ → ρ' "laid" = some (.val (.ref t)) → LdI ns t μ (rest.map tupI) ρ' M' := fun ρ' M' e h1 =>
        ⟨done ++ [q], rest, by rw [hdr]; simp, rfl, _, s', by rw [List.map_append]; exact stepT_perm.trans ((hp.cons _).trans (List.perm_append_singleton _ _).symm), e, h1⟩
      repeat' walk_at "st"
      refine Et.int ?_
      repeat' walk_at "st"
      refine ⟨_, rfl, fun hc => ?_, fun hc => ?_⟩
      · have e1 : stepT F (prT q) = stepL F (prT q) := by unfold stepT; exact if_pos hc
        have e2 : sg (prT q) = (q.1, -(q.2 : Int)) := by show (q.1, if ((q.2 : Int).fmod 2 != 0) = true then -(q.2 : Int) else (q.2 : Int)) = _; rw [if_pos hc]
        rw [e1] at fin
        repeat' walk_at "st"
        refine Ex1.expr ?_
        repeat' walk_at "st"
        refine Ev.lambda hcode htab hq (caps := []) (by rfl) (by decide) .nil (fun cdv => ?_)
        repeat' walk_at "st"
        rw [show (D.tup [.int q.1, .int (-(q.2 : Int))]) = pairD (sg (prT q)) by rw [e2]; rfl]
        refine insLk_body (g := g.push env) hK (p := geP (prT q) F) (lo := 0) (hi := F.length) (ex := .int (prT q).1) (BB.ok hK (by constructor)) (.head _) (by simp; lia) (by exact Nat.zero_le _) (by simp) (.inr ⟨rfl, by simp⟩) rfl KeepD.clo
          (fun m => by rw [e2]; exact keyFst (by rintro _ _ _ _ (_ | ⟨v, _ | _⟩) hv <;> first | rfl | cases hv) rfl _ _ _ rfl m)
          (fun i d hd => by obtain ⟨t, rfl⟩ := sg_at hd; exact ⟨.int (F.getD i (0, 0)).1, (fun m => keyFst (by rintro _ _ _ _ (_ | ⟨v, _ | _⟩) hv <;> first | rfl | cases hv) rfl _ _ _ rfl m), by unfold geP; rw [Bool.not_not]; exact LtOk.int⟩) ?_
        rw [setMu_hit, sg_ins]
        refine ⟨rfl, ?_⟩
        repeat' walk_at "st"
        exact fin _ _ rfl (by walk_at "rho")
      · have e1 : stepT F (prT q) = stepR F (prT q) := by unfold stepT; exact if_neg (by rw [Bool.not_eq_true]; exact hc)
        have e2 : sg (prT q) = (q.1, (q.2 : Int)) := by show (q.1, if ((q.2 : Int).fmod 2 != 0) = true then -(q.2 : Int) else (q.2 : Int)) = _; rw [if_neg (by rw [Bool.not_eq_true]; exact hc)]
        rw [e1] at fin
        repeat' walk_at "st"
        refine Ex1.expr ?_
        repeat' walk_at "st"
        refine Ev.lambda hcode htab hq (caps := []) (by rfl) (by decide) .nil (fun cdv => ?_)
        repeat' walk_at "st"
        rw [show (D.tup [.int q.1, .int (q.2 : Int)]) = pairD (sg (prT q)) by rw [e2]; rfl]
        refine insRk_body (g := g.push env) hK (p := gtP (prT q) F) (lo := 0) (hi := F.length) (ex := .int (prT q).1) (BB.ok hK (by constructor)) (.head _) (by simp; lia) (by exact Nat.zero_le _) (by simp) (.inr ⟨rfl, by simp⟩) rfl KeepD.clo
          (fun m => by rw [e2]; exact keyFst (by rintro _ _ _ _ (_ | ⟨v, _ | _⟩) hv <;> first | rfl | cases hv) rfl _ _ _ rfl m)
          (fun i d hd => by obtain ⟨t, rfl⟩ := sg_at hd; exact ⟨.int (F.getD i (0, 0)).1, (fun m => keyFst (by rintro _ _ _ _ (_ | ⟨v, _ | _⟩) hv <;> first | rfl | cases hv) rfl _ _ _ rfl m), LtOk.int⟩) ?_
        rw [setMu_hit, sg_ins]
        refine ⟨rfl, ?_⟩
        repeat' walk_at "st"
        exact fin _ _ rfl (by walk_at "rho")
  · rintro ρ M ⟨done, rest, hdr, hds, F, hs, hp, rfl, h1⟩
    obtain rfl : rest = [] := by cases rest with | nil => rfl | cons _ _ => cases hds
    rw [List.append_nil] at hdr
    subst hdr
    refine next_of ?_
    refine Ex.freeze (reUpd (x := "laid") h1 .hit) ?_
    repeat' walk_at "st"
    exact h F hs hp
end

open PySem PySem.W PySem.Calls PyProof.Rows
set_option maxRecDepth 20000
section
variable {g : G} (hK : g.K = hd.heap_39 g.w.params)
include hK
/-- _law_refused: what refuses gives its words -/
theorem refused_body {f : D} {n : Nat} {μ : Mu} {P : Mu → Prop} {Q : D → Mu → Prop} (hk : KeepD g f) (hf : ∀ env, CallsR (g.push env) (n + 10) μ f [] [] "lo must be non-negative" P) (h : ∀ μ', P μ' → Q (.str "lo must be non-negative") μ') :
    Calls g (n + 11) (.val (.ref 95)) [f] [] μ Q := by
  refine' Calls.enter (fa := 95) (hK := ?a) (hfo := ?b) (hbody := ?c) (hclo := ?d) (hglob := ?e) (hblt := ?f) (hcode := ?gg) (hco := ?h) (hgen := ?i) (hk := ?j)
    (bd := [("deed", f)]) ?bb (nm := ["deed"]) (hnm := rfl) (hnames := ?k) (by decide) (hcn := ?l) ?_
  case a => rw [hK]; rfl
  case b => rfl
  case c => rfl
  case d => rfl
  case e => rfl
  case f => rfl
  case gg => rw [hK]; rfl
  case h => rfl
  case i => rfl
  case j => rfl
  case k => rfl
  case l => decide
  case bb => exact (BB.ok (fa := 95) hK (by constructor)) _ _ (by rw [hK]; rfl) rfl
  intro env own L he ho
  refine Ex.cons (Ex1.tryR (g := g) (msg := "lo must be non-negative") (P := P) (RaisesE.call ?_) (by walk_at "kind") (by walk_at "kind") (by walk_at "isk") ?_)
  · repeat' walk_at "st"
    exact hf env
  · exact fun μ' hP => SuiteOk.ret (by exact Nat.succ_pos _) (by walk_at "kind") (by walk_at "kind") (by walk_at "isk") fun ρ' => ret_of (h μ' hP)
end

open PySem PySem.W PySem.Calls PyProof.Rows
set_option maxRecDepth 20000
section
variable {g : G} {env : Env} {own : List Addr} {n : Nat} {ρ : Str → Option D} {μ : Mu}
/-- what was made is forgotten at the end -/
theorem Ex.forget {ss} {Q : Fl → (Str → Option D) → Mu → Prop} (h : Ex g env own n ρ μ ss fun f ρ' μ' => ∃ p μ'', μ' = p :: μ'' ∧ Q f ρ' μ'') : Ex g env own n ρ μ ss Q := fun A F s ok G Fs =>
  wpAny_mono (h A F s ok G Fs) (by
    rintro fl s' ⟨f, ρ', μ', F', t, G', Fs', sf, ⟨a, m⟩, μ'', rfl, hq⟩
    exact ⟨f, ρ', μ'', F', { t with mu := fun b hb => t.mu b (.tail _ hb) }, G'.drop, ⟨Fs'.ok, Fs'.ns, Fs'.vars, Fs'.cells, Fs'.ownF, Fs'.live, fun b hb q => Fs'.muo b hb (.tail _ q)⟩, sf, hq⟩) fun _ _ x => x
end
/-- what stands in the dict: the least prices of the stretches, the shorter ones first -/
noncomputable def Tab (W : List Nat) (m : Int → Option Int) (size low : Nat) : Prop := ∀ lo sz, 1 ≤ sz → lo + sz ≤ W.length → (sz < size ∨ (sz = size ∧ lo < low)) → ∃ v : Nat, m ((17 * lo + sz : Nat) : Int) = some (v : Int) ∧ GW.IsLeast ((W.drop lo).take sz) v
theorem Tab.next {W m size} (h : Tab W m size (W.length + 1 - size)) : Tab W m (size + 1) 0 := fun lo sz h1 h2 h3 => h lo sz h1 h2 (by lia)
theorem Tab.put {W m size low v} (h : Tab W m size low) (hW : W.length ≤ 16) (hs : size ≤ W.length) (hv : GW.IsLeast ((W.drop low).take size) v) : Tab W (fun x => if x = ((17 * low + size : Nat) : Int) then some (v : Int) else m x) size (low + 1) := fun lo sz h1 h2 h3 => by
  by_cases c : sz = size ∧ lo = low
  · obtain ⟨rfl, rfl⟩ := c
    exact ⟨v, if_pos rfl, hv⟩
  · obtain ⟨v', e, hv'⟩ := h lo sz h1 h2 (by lia)
    exact ⟨v', by rw [← e]; exact if_neg (by lia), hv'⟩
theorem drop_take_take {W : List Nat} {lo sz i : Nat} (h : i ≤ sz) : ((W.drop lo).take sz).take i = (W.drop lo).take i := by rw [List.take_take, Nat.min_eq_left h]
theorem drop_take_drop {W : List Nat} {lo sz i : Nat} : ((W.drop lo).take sz).drop i = (W.drop (lo + i)).take (sz - i) := by rw [List.drop_take, List.drop_drop]
theorem dpick_mid (ds : List D) (a b : Nat) (hab : a ≤ b) (hb : b ≤ ds.length) : dpick ds (some (a : Int)) (some (b : Int)) Option.none = (ds.drop a).take (b - a) := by
  unfold dpick sliceBounds
  simp only [Option.getD_none, show ((1 : Int) > 0) by decide, if_true]
  have e : ∀ k : Nat, k ≤ ds.length → max (0 : Int) (min (if (k : Int) < 0 then (k : Int) + ds.length else k) ds.length) = (k : Int) := fun k hk => by rw [if_neg (by lia)]; lia
  rw [e a (by exact Nat.le_trans (by assumption) (by assumption)), e b hb]
  exact dpick_run ds a b hab hb
theorem sum_nat (l : List Nat) : (l.map fun (x : Nat) => (x : Int)).sum = (l.sum : Nat) := by
  induction l with
  | nil => rfl
  | cons a l ih => rw [List.map_cons, List.sum_cons, List.sum_cons, ih]; simp
/-- what the names of _law_least hold -/
inductive LeA (W : List Nat) (t : Addr) (size : Nat) (N : Nat) (m : Int → Option Int) (ρ : Str → Option D) : Prop
  | mk (hT : Tab W m size 0) (hN : N ≤ 16 * size) (h2 : ρ "least" = some (.val (.ref t))) (h3 : ρ "weights" = some (.lst (W.map natD)))
inductive LeB (W : List Nat) (t : Addr) (size : Nat) (low : Nat) (N : Nat) (m : Int → Option Int) (ρ : Str → Option D) : Prop
  | mk (hT : Tab W m size low) (hN : N ≤ 16 * size + low) (h2 : ρ "least" = some (.val (.ref t))) (h3 : ρ "weights" = some (.lst (W.map natD))) (h4 : ρ "size" = some (natD size))
inductive LeC (W : List Nat) (t : Addr) (size low : Nat) (f : Nat → Nat) (ρ : Str → Option D) : Prop
  | mk (g1 : ρ "least" = some (.val (.ref t))) (g2 : ρ "weights" = some (.lst (W.map natD))) (g3 : ρ "size" = some (natD size)) (g4 : ρ "low" = some (natD low)) (g5 : ρ "ways" = some (.lst (((List.range (size - 1)).map fun i => (f i : Int)).map D.int)))
/-- the price of a shorter stretch -/
theorem Tab.val {W m size low} (hT : Tab W m size low) : ∃ val : Nat → Nat → Nat, ∀ lo sz, 1 ≤ sz → lo + sz ≤ W.length → sz < size → m ((17 * lo + sz : Nat) : Int) = some (val lo sz : Int) ∧ GW.IsLeast ((W.drop lo).take sz) (val lo sz) := by
  refine ⟨fun lo sz => ((m ((17 * lo + sz : Nat) : Int)).getD 0).toNat, fun lo sz a b c => ?_⟩
  obtain ⟨v, e1, e2⟩ := hT lo sz a b (.inl c)
  have ev : ((m ((17 * lo + sz : Nat) : Int)).getD 0).toNat = v := by rw [e1]; exact Int.toNat_natCast v
  show _ = some ((((m ((17 * lo + sz : Nat) : Int)).getD 0).toNat : Nat) : Int) ∧ GW.IsLeast _ ((m ((17 * lo + sz : Nat) : Int)).getD 0).toNat
  rw [ev]; exact ⟨e1, e2⟩
section
variable {g : G} (hK : g.K = hd.heap_39 g.w.params)
include hK
set_option maxHeartbeats 1000000 in
/-- _law_least -/
theorem least_body {W : List Nat} {n : Nat} {μ : Mu} {Q : D → Mu → Prop} (hl : W.length ≤ 16) (h1 : 1 ≤ W.length) (h : ∀ v, GW.IsLeast W v → Q (natD v) μ) :
    Calls g (n + 6) (.val (.ref 67)) [.lst (W.map natD)] [] μ Q := by
  refine' Calls.enter (fa := 67) (hK := ?a) (hfo := ?b) (hbody := ?c) (hclo := ?d) (hglob := ?e) (hblt := ?f) (hcode := ?gg) (hco := ?h) (hgen := ?i) (hk := ?j)
    (bd := [("weights", .lst (W.map natD))]) ?bb (nm := ["weights"]) (hnm := rfl) (hnames := ?k) (by decide) (hcn := ?l) ?_
  case a => rw [hK]; rfl
  case b => rfl
  case c => rfl
  case d => rfl
  case e => rfl
  case f => rfl
  case gg => rw [hK]; rfl
  case h => rfl
  case i => rfl
  case j => rfl
  case k => rfl
  case l => decide
  case bb => exact (BB.ok (fa := 67) hK (by constructor)) _ _ (by rw [hK]; rfl) rfl
  intro env own L he ho
  refine Ex.cons (Ex1.assign (Ev.dnew ?_) (by walk_at "bind") rfl)
  intro t ht
  repeat' walk_at "st"
  refine Ex1.for (by exact Nat.le_add_left _ _) (EvI.range ?_)
  repeat' walk_at "st"
  refine len_D .lst (by simp; lia) ?_
  repeat' walk_at "st"
  refine Calls.range2 ?_
  rw [show (((W.map natD).length : Int) + 1) = ((1 : Nat) : Int) + ((W.length : Nat) : Int) by simp; lia]
  refine ⟨((1 : Nat) : Int), _, 1, W.length, rfl, rng_small (by decide) (by decide) (by lia) (by lia), rng_size, ?_⟩
  rw [rng_nat]
  refine ForL.runD (LeA W t) ⟨fun lo sz h1 h2 h3 => by lia, by exact Nat.le_add_left _ _, by walk_at "rho", by walk_at "rho"⟩ ?_ ?_
  · rintro size N m ρ hs1 hsk ⟨hT, hN, h2, h3⟩
    refine .name (by walk_at "bind") ?_
    repeat' walk_at "st"
    refine Ex1.for (by exact Nat.le_add_left _ _) (EvI.range ?_)
    repeat' walk_at "st"
    refine len_D .lst (by simp; lia) ?_
    repeat' walk_at "st"
    refine Calls.range1 ?_
    rw [show (((W.map natD).length : Int) + 1 - (size : Int)) = ((0 : Nat) : Int) + ((W.length + 1 - size : Nat) : Int) by simp; lia]
    refine ⟨((0 : Nat) : Int), _, 1, W.length + 1 - size, rfl, rng_small (by decide) (by decide) (by lia) (by lia), rng_size, ?_⟩
    rw [rng_nat]
    refine ForL.runD (LeB W t size) ⟨hT, by omega, by walk_at "rho", by walk_at "rho", by walk_at "rho"⟩ ?_ ?_
    · rintro low N m ρ hl0 hlk ⟨hT, hN, h2, h3, h4⟩
      refine .name (by walk_at "bind") ?_
      obtain ⟨val, hval⟩ := hT.val
      obtain ⟨f, hf⟩ : ∃ f : Nat → Nat, f = fun i => val low (1 + i) + val (low + (1 + i)) (size - (1 + i)) := ⟨_, rfl⟩
      refine Ex.seqK (LeC W t size low f) ?_ ?_
      · walk_at "compS"
        refine EvI.range ?_
        repeat' walk_at "st"
        refine Calls.range2 ?_
        rw [show ((low : Int) + 1) = ((low + 1 : Nat) : Int) by exact Int.natCast_add _ _, show ((low : Int) + (size : Int)) = ((low + 1 : Nat) : Int) + ((size - 1 : Nat) : Int) by lia]
        refine ⟨((low + 1 : Nat) : Int), _, 1, size - 1, rfl, rng_small (by lia) (by lia) (by lia) (by lia), rng_size, ?_⟩
        rw [rng_nat]
        intro cenv C hce
        refine CompL.mapA (fun i => natD (low + 1 + i)) (fun i => D.int (f i : Int)) (by walk_at "bind") (List.range (size - 1)) _ (by simp; lia) (fun i hi Q hQ => ?_) (fun r => ?_)
        · have hi := List.mem_range.mp hi
          subst hf
          obtain ⟨v1, _⟩ := hval low (1 + i) (by exact Nat.le_add_right _ _) (by (clear hQ hce hval h4 h3 h2 hN hT hl0 ht ho he h h1 hl hK; omega)) (by (clear hQ hce hval h4 h3 h2 hN hT hlk hl0 hsk ht ho he h h1 hl hK; omega))
          obtain ⟨v2, _⟩ := hval (low + (1 + i)) (size - (1 + i)) (by (clear v1 hQ hce hval h4 h3 h2 hN hT hlk hl0 hsk ht ho he h h1 hl hK; omega)) (by (clear v1 hQ hce hval h4 h3 h2 hN hT hl0 ht ho he h h1 hl hK; omega)) (by (clear v1 hQ hi hce hval h4 h3 h2 hN hT hlk hl0 ht ho he h hK; omega))
          repeat' walk_at "st"
          refine Act2.mul (.of_left (by decide)) ?_
          repeat' walk_at "st"
          refine Act2.dget mem_hd (i := val low (1 + i)) (by rw [← v1]; congr 1; lia) ?_ (fun _ _ => rfl)
          repeat' walk_at "st"
          refine Act2.mul (.of_left (by decide)) ?_
          repeat' walk_at "st"
          refine Act2.dget mem_hd (i := val (low + (1 + i)) (size - (1 + i))) (by rw [← v2]; congr 1; lia) ?_ (fun _ _ => rfl)
          repeat' walk_at "st"
          exact hQ
        · refine ⟨rfl, rfl, by walk_at "rho", by walk_at "rho", by walk_at "rho", by walk_at "rho", ?_⟩
          rw [List.nil_append, List.map_map]; exact upd_same
      rintro ρ ⟨g1, g2, g3, g4, g5⟩
      have fin : ∀ v : Nat, GW.IsLeast ((W.drop low).take size) v → KD t μ (LeB W t size (low + 1)) ρ ((t, MO.dt (N + 1) fun x => if x = ((17 * low + size : Nat) : Int) then some (v : Int) else m x) :: μ) := fun v hv =>
        ⟨N + 1, _, rfl, hT.put hl (by lia) hv, by exact Nat.lt_succ_of_le (by assumption), g1, g2, g3⟩
      refine Ex.cons (Ex1.dset (Ev.ifexp ?_) rfl)
      repeat' walk_at "st"
      by_cases hsz : 1 < size
      · refine ⟨fun _ => ?_, fun q => ?_⟩
        rotate_left
        · simp at q; (clear fin g5 g4 g3 g2 g1 hf hval h4 h3 h2 hN hT hlk hl0 hsk hs1 ht ho he h h1 hl hK; omega)
        repeat' walk_at "st"
        refine Calls.minL .lst (by simp; (clear fin g5 g4 g3 g2 g1 hf hval h4 h3 h2 hN hT hlk hl0 hsk hs1 ht ho he h h1 hl hK; omega)) fun v hv1 hv2 => ?_
        obtain ⟨i0, hi0, rfl⟩ := List.mem_map.mp hv1
        have hi0 := List.mem_range.mp hi0
        repeat' walk_at "st"
        refine ⟨_, rfl, ?_⟩
        repeat' walk_at "st"
        refine ⟨_, rfl, ?_⟩
        repeat' walk_at "st"
        refine Act2.slice .lst (by decide) (by simp; exact Nat.le_trans (by assumption) (by decide)) ?_ ops_plain
        rw [show ((low : Int) + (size : Int)) = ((low + size : Nat) : Int) by exact Int.natCast_add _ _, dpick_mid _ low (low + size) (by exact Nat.le_add_right _ _) (by simp; lia), Nat.add_sub_cancel_left, ← List.map_drop, ← List.map_take]
        refine Calls.sumBig (ns := ((W.drop low).take size).map fun (x : Nat) => (x : Int)) (by rw [List.map_map]; exact .lst) ?_
        rw [sum_nat]
        repeat' walk_at "st"
        refine Act2.mul (.of_left (by decide)) ?_
        repeat' walk_at "st"
        refine ⟨t, N, m, _, _, rfl, rfl, rfl, mem_hd, by lia, ?_⟩
        rw [setMu_hit, show ((17 : Int) * (low : Int) + (size : Int)) = ((17 * low + size : Nat) : Int) by exact Int.natCast_add _ _, show ((f i0 : Int) + ((((W.drop low).take size).sum : Nat) : Int)) = ((f i0 + ((W.drop low).take size).sum : Nat) : Int) by exact Int.natCast_add _ _]
        refine next_of (Ex.nil (fin _ ?_))
        have hsl : ((W.drop low).take size).length = size := by simp; lia
        refine GW.IsLeast.step (f := fun i => val low i) (g := fun i => val (low + i) (size - i)) (by lia) (fun i a b => ?_) (fun i a b => ?_) (fun i a b => ?_) ⟨1 + i0, by exact Nat.le_add_right _ _, by lia, by rw [hf]⟩
        · rw [drop_take_take (by lia)]; exact (hval low i a (by lia) (by lia)).2
        · rw [drop_take_drop]; exact (hval (low + i) (size - i) (by lia) (by lia) (by lia)).2
        · have := hv2 (f (i - 1)) (List.mem_map_of_mem (List.mem_range.mpr (by lia)))
          simp only [hf] at this ⊢
          rw [show 1 + (i - 1) = i by lia] at this
          (clear b a hsl hi0 hv2 hv1 hsz fin g5 g4 g3 g2 g1 hf hval h4 h3 h2 hN hT hlk hl0 hsk hs1 ht ho he h h1 hl hK; omega)
      · obtain rfl : size = 1 := by lia
        refine ⟨fun q => ?_, fun _ => ?_⟩
        · simp at q
        repeat' walk_at "st"
        refine Act2.mul (.of_left (by decide)) ?_
        repeat' walk_at "st"
        refine ⟨t, N, m, _, _, rfl, rfl, rfl, mem_hd, by lia, ?_⟩
        rw [setMu_hit, show ((17 : Int) * (low : Int) + ((1 : Nat) : Int)) = ((17 * low + 1 : Nat) : Int) by exact Int.natCast_add _ _]
        refine next_of (Ex.nil (fin 0 ?_))
        obtain ⟨x, hx⟩ := List.length_eq_one_iff.mp (show ((W.drop low).take 1).length = 1 by simp; lia)
        rw [hx]; exact .one x
    · rintro N m ρ ⟨hT, hN, h2, h3, h4⟩
      refine next_of (Ex.nil ⟨N, m, rfl, Tab.next ?_, by lia, h2, h3⟩)
      rw [Nat.zero_add] at hT; exact hT
  · rintro N m ρ ⟨hT, hN, h2, h3⟩
    obtain ⟨v, e1, e2⟩ := hT 0 W.length h1 (by lia) (by lia)
    refine next_of (Ex.forget ?_)
    repeat' walk_at "st"
    refine len_D .lst (by simp; lia) ?_
    repeat' walk_at "st"
    refine Act2.dget mem_hd (i := v) (by rw [← e1]; congr 1; simp) ?_ (fun _ _ => rfl)
    repeat' walk_at "st"
    exact ⟨_, _, rfl, h v (by simpa using e2)⟩
end

open PySem PySem.W PySem.Calls PyProof.Rows
set_option maxRecDepth 20000
/-- lambda size: -size -/
theorem keySize {g : Mine.G} {q : Str} {pa : Arguments} {body : Expr} {sc : Scope} {cd : Value} {x : Nat} (hb : ∀ name cl pm ct (vs : List Value), vs.length = 1 → bindArgs (kla_fn name q pa body sc cl pm cd ct) ⟨vs, []⟩ = pure ((["size"] : List Str).zip vs))
    (hs : sc = { kind := .function, names := [("size", .local)], isGenerator := false, isCoroutine := false, more := [] }) (p1 p2 : Pos) (hbody : body = .UnaryOp .USub (.Name "size" p1) p2) (m : Nat) : KeyOk g (m + 1) (.clo q pa body sc cd []) (natD x) (.int (-(x : Int))) := by
  subst hs hbody
  intro l μ Q h
  refine Calls.clo (nm := ["size"]) hb (by decide) (by decide) (by simp) rfl rfl rfl (by decide) ?_
  intro env L f cl he
  show Ev (G.push { g with stk := l } env) env [L] m (rho [("size", .int x)]) μ _ Q
  repeat' walk_at "st"
  exact h
noncomputable def SeekOk (g : Mine.G) (f : D) (more : Int) : Prop := KeepD g f ∧ ∀ (e : Env) (n : Nat) (μ : Mu) (l : List Nat) (b : Nat) (kd : D) (Q : D → Mu → Prop), l.length ≤ 1000 → isNone kd = some false → KeepD g kd → (∀ m (x : Nat), KeyOk g (m + 1) kd (natD x) (.int (-(x : Int)))) →
  Q (natD (bis (GW.ltB l b) 0 l.length)) μ → Calls (g.push e) (n + 2) f [.lst (l.map natD), .int (more - b)] [("key", kd)] μ Q
noncomputable abbrev grpD (r : Nat × List Nat) : D := .tup [natD r.1, .lst (r.2.map natD)]
noncomputable def okB (sz : List Nat) (k : Nat) : Bool := k + 1 == sz.length || decide (sz.getD (k - 1) 0 ≤ sz.getD (k + 1) 0)
theorem okB_iff {sz k} : okB sz k = true ↔ GW.okAt sz k := by unfold okB GW.okAt; simp
theorem nextR_sum {R : GW.Grp} {t pl : Nat} (h : GW.TurnAt (GW.szs R) t pl) : ((GW.nextR R t pl).map (·.2.length)).sum = (R.map (·.2.length)).sum := by
  have e : (GW.szs R).length = R.length := List.length_map ..
  obtain ⟨x, y, hx, hy, eR⟩ := GW.parted h.h1 (by rw [← e]; exact h.h2) h.h5 (l := R)
  have e1 : GW.ins R (t - 1) = x.2 := by unfold GW.ins; rw [List.getD_eq_getElem?_getD, hx]; rfl
  have e2 : GW.ins R t = y.2 := by unfold GW.ins; rw [List.getD_eq_getElem?_getD, hy]; rfl
  rw [congrArg (fun l => (List.map (fun x => x.2.length) l).sum) eR]
  unfold GW.nextR
  rw [e1, e2]
  simp only [List.map_append, List.map_cons, List.sum_append, List.sum_cons, List.length_append]
  lia
theorem ins_len {R : GW.Grp} {k : Nat} : (GW.ins R k).length ≤ (R.map (·.2.length)).sum := by
  unfold GW.ins
  rw [List.getD_eq_getElem?_getD]
  cases h : R[k]? with
  | none => simp
  | some r => exact GW.le_sum (List.mem_map_of_mem (List.mem_of_getElem? h))
theorem grp_at {R : GW.Grp} {k : Nat} (h : k < R.length) : idx? (R.map grpD) (k : Int) = some (grpD ((GW.szs R).getD k 0, GW.ins R k)) := by
  rw [idx?_nat, List.getElem?_map, GW.szs_getD]
  unfold GW.ins
  rw [List.getD_eq_getElem?_getD, List.getElem?_eq_getElem h]; rfl
theorem enum_nat (l : List Nat) : enumD 0 (l.map natD) = l.zipIdx.map fun p => .tup [natD p.2, natD p.1] := by
  rw [enumD_map, List.zipIdx_map, List.map_map, List.map_map]
  refine List.map_congr_left fun p _ => ?_
  simp [natD]
theorem sz_at {sz : List Nat} {k : Nat} (h : k < sz.length) : idx? (sz.map natD) (k : Int) = some (natD (sz.getD k 0)) := by
  rw [idx?_nat, List.getElem?_map, List.getD_eq_getElem?_getD, List.getElem?_eq_getElem h]; rfl
noncomputable def okD (sz : List Nat) : D → Bool
  | .int k => okB sz k.toNat
  | _ => false
theorem okD_nat (sz : List Nat) (k : Nat) : okD sz (natD k) = okB sz k := by show okB sz ((k : Int).toNat) = _; rw [Int.toNat_natCast]
theorem ok_filter {sz : List Nat} {m : Nat} : ((List.range m).map fun (i : Nat) => natD (1 + i)).filter (okD sz) = (((((List.range m).map fun i => 1 + i).filter (okB sz)).map fun (k : Nat) => (k : Int))).map D.int := by
  rw [List.filter_map, List.filter_map, List.map_map, List.map_map]
  have e : (okD sz ∘ fun (i : Nat) => natD (1 + i)) = (okB sz ∘ fun i => 1 + i) := funext fun i => okD_nat sz (1 + i)
  rw [e]; rfl
/-- what the names of _law_levels hold -/
inductive LvA (W : List Nat) (f : D) (more : Int) (ρ : Str → Option D) : Prop
  | mk (g1 : ρ "weights" = some (.lst (W.map natD))) (g2 : ρ "seek" = some f) (g3 : ρ "more" = some (.int more)) (g4 : ρ "row" = some (.lst ((W.zipIdx.map fun p => ((p.1, [p.2]) : Nat × List Nat)).map grpD)))
inductive LvB (f : D) (more : Int) (R : GW.Grp) (lv : List Nat) (ρ : Str → Option D) : Prop
  | mk (g2 : ρ "seek" = some f) (g3 : ρ "more" = some (.int more)) (g4 : ρ "row" = some (.lst (R.map grpD))) (g5 : ρ "levels" = some (.lst (lv.map natD)))
inductive LvS (f : D) (more : Int) (R : GW.Grp) (lv : List Nat) (ρ : Str → Option D) : Prop
  | mk (g2 : ρ "seek" = some f) (g3 : ρ "more" = some (.int more)) (g4 : ρ "row" = some (.lst (R.map grpD))) (g5 : ρ "levels" = some (.lst (lv.map natD))) (g6 : ρ "sizes" = some (.lst ((GW.szs R).map natD)))
inductive LvI (W : List Nat) (f : D) (more : Int) (i : Nat) (ρ : Str → Option D) : Prop
  | mk (R : GW.Grp) (lv : List Nat) (hR : i + R.length = W.length) (hR9 : R.length ≤ 900) (hsum : (R.map (·.2.length)).sum ≤ 900) (hlv : lv.length ≤ 900) (hgo : ∀ out, GW.Go (W.length - 1 - i) R lv out → GW.Go (W.length - 1) (W.zipIdx.map fun p => (p.1, [p.2])) (W.map fun _ => 0) out) (h : LvB f more R lv ρ)
inductive LvT (f : D) (more : Int) (R : GW.Grp) (lv : List Nat) (ρ : Str → Option D) : Prop
  | mk (t : Nat) (g7 : ρ "at" = some (natD t)) (t1 : 1 ≤ t) (t2 : t < R.length) (t3 : GW.okAt (GW.szs R) t) (t4 : ∀ k, 1 ≤ k → k < t → ¬ GW.okAt (GW.szs R) k) (h : LvS f more R lv ρ)
inductive LvC (f : D) (more : Int) (R : GW.Grp) (lv : List Nat) (t b : Nat) (I : List Nat) (ρ : Str → Option D) : Prop
  | mk (g2 : ρ "seek" = some f) (g3 : ρ "more" = some (.int more)) (g4 : ρ "row" = some (.lst (R.map grpD))) (g5 : ρ "levels" = some (.lst (lv.map natD))) (g7 : ρ "at" = some (natD t)) (g8 : ρ "both" = some (natD b)) (g9 : ρ "inside" = some (.lst (I.map natD)))
inductive LvY (x : Str) (d : D) (P : (Str → Option D) → Prop) (ρ : Str → Option D) : Prop
  | mk (h1 : ρ x = some d) (h : P ρ)
section
variable {g : G} (hK : g.K = hd.heap_39 g.w.params)
include hK
theorem seek_right : SeekOk g (.val (.ref 32)) 0 := ⟨KeepD.fn (by rw [hK]; rfl), fun e n μ l b kd Q hl h1 h2 hk h => by
  refine bisRk_body (g := g.push e) hK (p := GW.ltB l b) (lo := 0) (hi := l.length) (BB.ok (g := g.push e) hK (by constructor)) .lst (by simp; lia) (by simp) (.inr ⟨rfl, by simp⟩) h1 h2 (fun i d hd => ?_) h
  obtain rfl := nat_at hd
  refine ⟨_, hk n _, ?_⟩
  rw [show GW.ltB l b i = decide ((0 : Int) - b < -((l.getD i 0 : Nat) : Int)) by unfold GW.ltB; rw [decide_eq_decide]; lia]; exact LtOk.int⟩
theorem seek_left : SeekOk g (.val (.ref 50)) 1 := ⟨KeepD.fn (by rw [hK]; rfl), fun e n μ l b kd Q hl h1 h2 hk h => by
  refine bisLk_body (g := g.push e) hK (p := GW.ltB l b) (lo := 0) (hi := l.length) (BB.ok (g := g.push e) hK (by constructor)) .lst (by simp; lia) (by simp) (.inr ⟨rfl, by simp⟩) h1 h2 (fun i d hd => ?_) h
  obtain rfl := nat_at hd
  refine ⟨_, hk n _, ?_⟩
  rw [show (!GW.ltB l b i) = decide (-((l.getD i 0 : Nat) : Int) < (1 : Int) - b) by unfold GW.ltB; rw [← decide_not, decide_eq_decide]; lia]; exact LtOk.int⟩
variable (hT : g.tabs = tabs3)
include hT
set_option maxHeartbeats 1000000 in
/-- _law_levels -/
theorem levels_body {f : D} {more : Int} (hf : SeekOk g f more) {W : List Nat} {n : Nat} {μ : Mu} {Q : D → Mu → Prop} (hl : W.length ≤ 900) (h1 : 1 ≤ W.length) (h : ∀ out, GW.Go (W.length - 1) (W.zipIdx.map fun p => (p.1, [p.2])) (W.map fun _ => 0) out → Q (.lst (out.map natD)) μ) :
    Calls g (n + 6) (.val (.ref 55)) [.lst (W.map natD), f, .int more] [] μ Q := by
  refine' Calls.enter (fa := 55) (hK := ?a) (hfo := ?b) (hbody := ?c) (hclo := ?d) (hglob := ?e) (hblt := ?f) (hcode := ?gg) (hco := ?h) (hgen := ?i) (hk := ?j)
    (bd := [("weights", .lst (W.map natD)), ("seek", f), ("more", .int more)]) ?bb (nm := ["weights", "seek", "more"]) (hnm := rfl) (hnames := ?k) (by decide) (hcn := ?l) ?_
  case a => rw [hK]; rfl
  case b => rfl
  case c => rfl
  case d => rfl
  case e => rfl
  case f => rfl
  case gg => rw [hK]; rfl
  case h => rfl
  case i => rfl
  case j => rfl
  case k => rfl
  case l => decide
  case bb => exact (BB.ok (fa := 55) hK (by constructor)) _ _ (by rw [hK]; rfl) rfl
  intro env own L he ho
  have hcode : env.code = .ref 54 := by subst he; rfl
  have htab : (54, 52, env.qual ++ ("<lambda>" : Str)) ∈ (g.push env).tabs := by subst he; show _ ∈ g.tabs; rw [hT]; exact .head _
  have hq : ∀ q ∈ (g.push env).tabs, q.2.1 = 52 → q.2.2 = env.qual ++ ("<lambda>" : Str) := by
    show ∀ q ∈ g.tabs, _
    rw [hT]; subst he
    intro q hq h
    simp only [tabs3, List.mem_cons, List.not_mem_nil, or_false] at hq
    rcases hq with rfl | rfl
    · rfl
    · cases h
  refine Ex.seqK (LvA W f more) ?_ ?_
  · walk_at "compS"
    refine EvI.enum ?_
    repeat' walk_at "st"
    refine ⟨rfl, rfl, ?_⟩
    repeat' walk_at "st"
    refine ⟨_, rfl, ?_⟩
    intro cenv C hce
    rw [enum_nat]
    refine CompL.mapA2 (fun (p : Nat × Nat) => natD p.2) (fun p => natD p.1) (fun p => grpD (p.1, [p.2])) (by walk_at "bind") (by walk_at "bind") W.zipIdx _ (by simp; exact Nat.le_trans (by assumption) (by decide)) (fun p _ Q hQ => ?_) (fun r => ?_)
    · repeat' walk_at "st"
      refine Ev.list ?_
      repeat' walk_at "st"
      exact hQ
    · refine ⟨rfl, rfl, by walk_at "rho", by walk_at "rho", by walk_at "rho", ?_⟩
      rw [List.nil_append, List.map_map]; exact upd_same
  rintro ρ ⟨g1, g2, g3, g4⟩
  refine Ex.seqK (LvY "weights" (.lst (W.map natD)) (LvB f more (W.zipIdx.map fun p => (p.1, [p.2])) (W.map fun _ => 0))) ?_ ?_
  · walk_at "compS"
    refine EvI.list ?_
    repeat' walk_at "st"
    refine ⟨_, rfl, ?_⟩
    intro cenv C hce
    refine CompL.mapA natD (fun _ => natD 0) (by walk_at "bind") W _ (by simp; exact Nat.le_trans (by assumption) (by decide)) (fun p _ Q hQ => ?_) (fun r => ?_)
    · repeat' walk_at "st"
      exact hQ
    · refine ⟨rfl, rfl, by walk_at "rho", by walk_at "rho", by walk_at "rho", by walk_at "rho", ?_⟩
      rw [List.nil_append, List.map_map]; exact upd_same
  rintro ρ ⟨g1, g2, g3, g4, g5⟩
  repeat' walk_at "st"
  refine Ex1.for (by exact Nat.le_add_left _ _) (EvI.range ?_)
  repeat' walk_at "st"
  refine len_D .lst (by simp; lia) ?_
  repeat' walk_at "st"
  refine Calls.range1 ?_
  rw [show (((W.map natD).length : Int) - 1) = ((0 : Nat) : Int) + ((W.length - 1 : Nat) : Int) by simp; lia]
  refine ⟨((0 : Nat) : Int), _, 1, W.length - 1, rfl, rng_small (by decide) (by decide) (by lia) (by lia), rng_size, ?_⟩
  rw [rng_nat]
  refine ForL.runK (LvI W f more) ⟨W.zipIdx.map fun p => (p.1, [p.2]), W.map fun _ => 0, by simp, by simp; omega, ?_, by simp; omega, fun out ho => ho, g2, g3, g4, g5⟩ ?_ ?_
  rotate_left 2
  · rintro ρ ⟨R, lv, hR, hR9, hsum, hlv, hgo, g2, g3, g4, g5⟩
    repeat' walk_at "st"
    exact h lv (hgo lv (by rw [show W.length - 1 - (0 + (W.length - 1)) = 0 by lia]; exact ⟨by lia, rfl⟩))
  · rw [List.map_map]
    show (List.map (fun p : Nat × Nat => 1) W.zipIdx).sum ≤ 900
    rw [List.map_const', List.sum_replicate_nat, List.length_zipIdx]; lia
  · rintro i ρ hi0 hi ⟨R, lv, hR, hR9, hsum, hlv, hgo, g2, g3, g4, g5⟩
    have hsz : (GW.szs R).length = R.length := List.length_map ..
    refine .name (by walk_at "bind") ?_
    refine Ex.seqK (LvS f more R lv) ?_ ?_
    · walk_at "compS"
      refine EvI.list ?_
      repeat' walk_at "st"
      refine ⟨_, rfl, ?_⟩
      intro cenv C hce
      refine CompL.mapA2 (fun (p : Nat × List Nat) => natD p.1) (fun p => .lst (p.2.map natD)) (fun p => natD p.1) (by walk_at "bind") (by walk_at "bind") R _ (by simp; exact Nat.le_trans (by assumption) (by decide)) (fun p _ Q hQ => ?_) (fun r => ?_)
      · repeat' walk_at "st"
        exact hQ
      · refine ⟨rfl, rfl, by walk_at "rho", by walk_at "rho", by walk_at "rho", by walk_at "rho", ?_⟩
        rw [List.nil_append]; unfold GW.szs; rw [List.map_map]; exact upd_same
    rintro ρ ⟨g2, g3, g4, g5, g6⟩
    refine Ex.seqK (LvT f more R lv) ?_ ?_
    · repeat' walk_at "st"
      walk_at "comp"
      refine EvI.range ?_
      repeat' walk_at "st"
      refine len_D .lst (by simp; lia) ?_
      repeat' walk_at "st"
      refine Calls.range2 ?_
      rw [show (((R.map grpD).length : Nat) : Int) = ((1 : Nat) : Int) + ((R.length - 1 : Nat) : Int) by simp; lia]
      refine ⟨((1 : Nat) : Int), _, 1, R.length - 1, rfl, rng_small (by decide) (by decide) (by lia) (by (clear g6 g5 g4 g3 g2 hgo hlv hsum hR hi hi0 g1 hq htab hcode ho he h h1 hl hf hT hK; omega)), rng_size, ?_⟩
      rw [rng_nat]
      intro cenv C hce
      refine CompL.filter id (okD (GW.szs R)) (by walk_at "bind") _ _ (by simp; exact Nat.le_trans (by assumption) (by decide)) (fun d hd Q hQ => ?_) (fun d hd _ Q hQ => ?_) (fun r => ?_)
      · obtain ⟨i, hi, rfl⟩ := List.mem_map.mp hd
        have hi := List.mem_range.mp hi
        have hQ : Q (okB (GW.szs R) (1 + i)) μ := okD_nat (GW.szs R) (1 + i) ▸ hQ
        refine Et.or ?_
        unfold EtAll
        repeat' walk_at "st"
        refine len_D .lst (by simp; lia) ?_
        repeat' walk_at "st"
        by_cases hk : 1 + i + 1 = R.length
        · rw [show (((1 + i : Nat) : Int) + 1 == (((R.map grpD).length : Nat) : Int)) = true by simp; lia]
          refine tt_of ?_
          rw [show okB (GW.szs R) (1 + i) = true by unfold okB; rw [hsz, show (1 + i + 1 == R.length) = true by simp [hk]]; rfl] at hQ
          exact hQ
        · rw [show (((1 + i : Nat) : Int) + 1 == (((R.map grpD).length : Nat) : Int)) = false by simp; lia]
          refine ff_of ?_
          unfold EtAll
          repeat' walk_at "st"
          refine Act2.item (k := ((1 + i : Nat) : Int) - 1) .lst (by rw [show (((1 + i : Nat) : Int) - 1) = ((1 + i - 1 : Nat) : Int) by lia]; exact sz_at (by (clear hk hQ hd hce g6 g5 g4 g3 g2 hgo hlv hsum hR9 hi0 g1 hq htab hcode ho he h h1 hl hf hT hK; lia))) (by simp; lia) ?_ (fun _ _ => rfl)
          repeat' walk_at "st"
          refine Act2.item (k := ((1 + i : Nat) : Int) + 1) .lst (by rw [show (((1 + i : Nat) : Int) + 1) = ((1 + i + 1 : Nat) : Int) by exact Int.natCast_add _ _]; exact sz_at (by (clear hQ hd hce g6 g5 g4 g3 g2 hgo hlv hsum hR9 hR hi0 g1 hq htab hcode ho he h h1 hl hf hT hK; omega))) (by simp; (clear hk hQ hi hd hce g6 g5 g4 g3 g2 hgo hlv hsum hR hi0 g1 hq htab hcode ho he h h1 hl hf hT hK; omega)) ?_ (fun _ _ => rfl)
          repeat' walk_at "st"
          refine Act2.le ?_
          rw [show okB (GW.szs R) (1 + i) = decide ((((GW.szs R).getD (1 + i - 1) 0 : Nat) : Int) ≤ (((GW.szs R).getD (1 + i + 1) 0 : Nat) : Int)) by unfold okB; rw [hsz, show (1 + i + 1 == R.length) = false by simp [hk], Bool.false_or, decide_eq_decide]; (clear hk hQ hi hd hce g6 g5 g4 g3 g2 hsz hgo hlv hsum hR9 hR hi0 g1 hq htab hcode ho he h h1 hl hf hT hK; omega)] at hQ
          refine TBool.of ⟨fun q => ?_, fun q => ?_⟩
          · rw [q] at hQ; exact hQ
          · unfold EtAll; rw [q] at hQ; exact hQ
      · obtain ⟨i, hi, rfl⟩ := List.mem_map.mp hd
        repeat' walk_at "st"
        exact hQ
      repeat' walk_at "st"
      rw [List.nil_append, List.map_id, ok_filter]
      refine Calls.minL .lst ?_ fun v hv1 hv2 => ?_
      · rw [List.length_map]
        refine List.length_pos_of_mem (a := R.length - 1) (List.mem_filter.mpr ⟨List.mem_map.mpr ⟨R.length - 2, List.mem_range.mpr (by lia), by lia⟩, ?_⟩)
        unfold okB; rw [hsz, show (R.length - 1 + 1 == R.length) = true by simp; lia]; rfl
      obtain ⟨t, ht, rfl⟩ := List.mem_map.mp hv1
      obtain ⟨ht1, ht2⟩ := List.mem_filter.mp ht
      obtain ⟨i, hi, rfl⟩ := List.mem_map.mp ht1
      have hi := List.mem_range.mp hi
      repeat' walk_at "st"
      refine ⟨rfl, rfl, 1 + i, upd_same, by exact Nat.le_add_right _ _, by (clear ht2 ht1 hv2 hv1 ht hce g6 g5 g4 g3 g2 hgo hlv hsum hR9 hR hi0 g1 hq htab hcode ho he h h1 hl hf hT hK; omega), okB_iff.mp ht2, fun k k1 k2 kk => ?_, by walk_at "rho", by walk_at "rho", by walk_at "rho", by walk_at "rho", by walk_at "rho"⟩
      have := hv2 (k : Int) (List.mem_map.mpr ⟨k, List.mem_filter.mpr ⟨List.mem_map.mpr ⟨k - 1, List.mem_range.mpr (by lia), by lia⟩, okB_iff.mpr kk⟩, rfl⟩)
      (clear kk k1 hi ht2 ht1 hv2 hv1 ht hce g6 g5 g4 g3 g2 hsz hgo hlv hsum hR9 hR hi0 g1 hq htab hcode ho he h h1 hl hf hT hK; lia)
    rintro ρ ⟨t, g7, t1, t2, t3, t4, g2, g3, g4, g5, g6⟩
    have hturn := GW.turn_of t1 (by rw [hsz]; exact t2) t3 t4
    have e1 : ((t : Int) - 1) = ((t - 1 : Nat) : Int) := by lia
    have hins1 := ins_len (R := R) (k := t - 1)
    have hins2 := ins_len (R := R) (k := t)
    generalize hb : GW.both (GW.szs R) t = b
    generalize hI : GW.ins R (t - 1) ++ GW.ins R t = I
    refine Ex.seqK (LvY "sizes" (.lst ((GW.szs R).map natD)) (LvC f more R lv t b I)) ?_ ?_
    · refine Ex1.assignT ?_ rfl (by subst he; exact rfl)
      repeat' walk_at "st"
      refine Act2.item .lst (by rw [e1]; exact sz_at (by (clear hI hb hins2 hins1 hturn g6 g5 g4 g3 g2 t4 t3 t1 g7 hgo hlv hsum hR9 hi hi0 g1 hq htab hcode ho he h h1 hl hf hT hK; lia))) (by simp; (clear hI hb hins2 hins1 e1 hturn g6 g5 g4 g3 g2 t4 t3 t2 t1 g7 hgo hlv hsum hR hi hi0 g1 hq htab hcode ho he h h1 hl hf hT hK; omega)) ?_ (fun _ _ => rfl)
      repeat' walk_at "st"
      refine Act2.item .lst (sz_at (by (clear hI hb hins2 hins1 e1 hturn g6 g5 g4 g3 g2 t4 t3 t1 g7 hgo hlv hsum hR9 hi hi0 g1 hq htab hcode ho he h h1 hl hf hT hK; lia))) (by simp; (clear hI hb hins2 hins1 e1 hturn g6 g5 g4 g3 g2 t4 t3 t2 t1 g7 hgo hlv hsum hR hi hi0 g1 hq htab hcode ho he h h1 hl hf hT hK; omega)) ?_ (fun _ _ => rfl)
      repeat' walk_at "st"
      refine Act2.item .lst (by rw [e1]; exact grp_at (by (clear hI hb hins2 hins1 hturn g6 g5 g4 g3 g2 t4 t3 t1 g7 hsz hgo hlv hsum hR9 hi hi0 g1 hq htab hcode ho he h h1 hl hf hT hK; lia))) (by simp; lia) ?_ (fun _ _ => rfl)
      repeat' walk_at "st"
      refine Act2.itemT (idx?_nat (k := 1)) (by simp) ?_ (fun _ _ => rfl)
      repeat' walk_at "st"
      refine Act2.item .lst (grp_at (by omega)) (by simp; lia) ?_ (fun _ _ => rfl)
      repeat' walk_at "st"
      refine Act2.itemT (idx?_nat (k := 1)) (by simp) ?_ (fun _ _ => rfl)
      refine Act2.cat .lst .lst (by simp; lia) ?_
      repeat' walk_at "st"
      rw [← List.map_append, hI, show ((((GW.szs R).getD (t - 1) 0 : Nat) : Int) + (((GW.szs R).getD t 0 : Nat) : Int)) = ((b : Nat) : Int) by rw [← hb]; unfold GW.both; exact Int.natCast_add _ _]
      refine .tup (.cons (by walk_at "bind") (.cons (by walk_at "bind") (.nil ?_)))
      exact ⟨rfl, rfl, by walk_at "rho", by walk_at "rho", by walk_at "rho", by walk_at "rho", by walk_at "rho", by walk_at "rho", by walk_at "rho", by walk_at "rho"⟩
    rintro ρ ⟨g6, g2, g3, g4, g5, g7, g8, g9⟩
    refine Ex.seqK (LvY "first" (.lst ((GW.evs ((GW.szs R).take (t - 1))).map natD)) (LvY "second" (.lst ((GW.ods ((GW.szs R).take (t - 1))).map natD)) (LvC f more R lv t b I))) ?_ ?_
    · refine Ex1.assignS (names := ["first", "second"]) ?_ (by intro x hx; simp only [List.mem_cons, List.not_mem_nil, or_false] at hx; rcases hx with rfl | rfl <;> walk_at "bind") (by subst he; exact rfl)
      repeat' walk_at "st"
      refine ⟨_, rfl, ?_⟩
      rw [e1]
      refine Act2.slice .lst (by decide) (by simp; lia) ?_ ops_plain
      rw [dpick_upto, ← List.map_take]
      repeat' walk_at "st"
      refine ⟨_, rfl, ?_⟩
      refine Act2.slice .lst (by decide) (by simp; lia) ?_ ops_step
      rw [GW.pick_evs]
      repeat' walk_at "st"
      refine ⟨_, rfl, ?_⟩
      rw [e1]
      refine Act2.slice .lst (by decide) (by simp; lia) ?_ ops_plain
      rw [dpick_upto, ← List.map_take]
      repeat' walk_at "st"
      refine ⟨_, rfl, ?_⟩
      repeat' walk_at "st"
      refine ⟨_, rfl, ?_⟩
      refine Act2.slice .lst (by decide) (by simp; lia) ?_ ops_step
      rw [GW.pick_ods]
      repeat' walk_at "st"
      refine ⟨_, rfl, rfl, rfl, rfl, ?_⟩
      rw [updL2]
      exact ⟨by walk_at "rho", by walk_at "rho", by walk_at "rho", by walk_at "rho", by walk_at "rho", by walk_at "rho", by walk_at "rho", by walk_at "rho", by walk_at "rho"⟩
    rintro ρ ⟨g10, g11, g2, g3, g4, g5, g7, g8, g9⟩
    have hle : (GW.evs ((GW.szs R).take (t - 1))).length ≤ 1000 := by unfold GW.evs; simp; lia
    have hlo : (GW.ods ((GW.szs R).take (t - 1))).length ≤ 1000 := by unfold GW.ods; simp; lia
    generalize hp : GW.plc (GW.szs R) t = pl at hturn
    have hpl := hturn.h5
    refine Ex.seqK (LvY "place" (natD pl) (LvC f more R lv t b I)) ?_ ?_
    · repeat' walk_at "st"
      refine ⟨hf.1, ?_⟩
      repeat' walk_at "st"
      refine Ev.lambda hcode htab hq (caps := []) (by rfl) (by decide) .nil (fun cdv => ?_)
      repeat' walk_at "st"
      refine hf.2 env (n + 3) _ _ b _ _ hle rfl KeepD.clo (fun m x => keySize (by rintro _ _ _ _ (_ | ⟨v, _ | _⟩) hv <;> first | rfl | cases hv) rfl _ _ rfl m) ?_
      refine Act2.mul (.of_left (by decide)) ?_
      repeat' walk_at "st"
      refine ⟨hf.1, ?_⟩
      repeat' walk_at "st"
      refine Ev.lambda hcode htab hq (caps := []) (by rfl) (by decide) .nil (fun cdv => ?_)
      repeat' walk_at "st"
      refine hf.2 env (n + 3) _ _ b _ _ hlo rfl KeepD.clo (fun m x => keySize (by rintro _ _ _ _ (_ | ⟨v, _ | _⟩) hv <;> first | rfl | cases hv) rfl _ _ rfl m) ?_
      refine Act2.mul (.of_left (by decide)) ?_
      repeat' walk_at "st"
      refine Calls.max2 ?_
      refine ⟨rfl, rfl, ?_, by walk_at "rho", by walk_at "rho", by walk_at "rho", by walk_at "rho", by walk_at "rho", by walk_at "rho", by walk_at "rho"⟩
      have : GW.plc (GW.szs R) t = max (2 * bis (GW.ltB (GW.evs ((GW.szs R).take (t - 1))) b) 0 (GW.evs ((GW.szs R).take (t - 1))).length - 1) (2 * bis (GW.ltB (GW.ods ((GW.szs R).take (t - 1))) b) 0 (GW.ods ((GW.szs R).take (t - 1))).length) := by rw [← hb]; rfl
      rw [upd_same, ← hp, this]
      congr 2; (clear hpl hturn hlo hle g9 g8 g7 g5 g4 g3 g2 g11 g10 g6 hI hb hins2 hins1 e1 t4 t3 t2 t1 hsz hgo hlv hsum hR9 hR hi hi0 g1 hq htab hcode ho he h h1 hl hf hT hK; lia)
    rintro ρ ⟨g10, g2, g3, g4, g5, g7, g8, g9⟩
    refine Ex.seqK (LvY "place" (natD pl) (LvC f more R (GW.bump I lv) t b I)) ?_ ?_
    · walk_at "compS"
      refine EvI.enum ?_
      repeat' walk_at "st"
      refine ⟨rfl, rfl, ?_⟩
      repeat' walk_at "st"
      refine ⟨_, rfl, ?_⟩
      intro cenv C hce
      rw [enum_nat]
      refine CompL.mapA2 (fun (p : Nat × Nat) => natD p.2) (fun p => natD p.1) (fun p => natD (if p.2 ∈ I then p.1 + 1 else p.1)) (by walk_at "bind") (by walk_at "bind") lv.zipIdx _ (by simp; exact Nat.le_trans (by assumption) (by decide)) (fun p _ Q hQ => ?_) (fun r => ?_)
      · refine Ev.ifexp ?_
        repeat' walk_at "st"
        refine Act2.inInts (ns := I.map fun (x : Nat) => (x : Int)) (by rw [List.map_map]; exact .lst) ?_
        by_cases hin : p.2 ∈ I
        · rw [show decide (((p.2 : Nat) : Int) ∈ I.map fun (x : Nat) => (x : Int)) = true from decide_eq_true (List.mem_map.mpr ⟨_, hin, rfl⟩)]
          rw [if_pos hin] at hQ
          refine TBool.of (tt_of ?_)
          repeat' walk_at "st"
          exact hQ
        · rw [show decide (((p.2 : Nat) : Int) ∈ I.map fun (x : Nat) => (x : Int)) = false from decide_eq_false fun z => by obtain ⟨x, hx, e⟩ := List.mem_map.mp z; exact hin (Int.ofNat.inj e ▸ hx)]
          rw [if_neg hin] at hQ
          refine TBool.of (ff_of ?_)
          repeat' walk_at "st"
          exact hQ
      · refine ⟨rfl, rfl, by walk_at "rho", by walk_at "rho", by walk_at "rho", by walk_at "rho", ?_, by walk_at "rho", by walk_at "rho", by walk_at "rho"⟩
        rw [List.nil_append, upd_same]
        unfold GW.bump
        rw [List.mapIdx_eq_zipIdx_map, List.map_map]; rfl
    rintro ρ ⟨g10, g2, g3, g4, g5, g7, g8, g9⟩
    repeat' walk_at "st"
    refine ⟨_, rfl, ?_⟩
    refine Act2.slice .lst (by decide) (by simp; exact Nat.le_trans (by assumption) (by decide)) ?_ ops_plain
    rw [dpick_upto, ← List.map_take]
    refine Ev.list ?_
    repeat' walk_at "st"
    refine Act2.cat .lst .lst (by simp; lia) ?_
    repeat' walk_at "st"
    refine ⟨_, rfl, ?_⟩
    repeat' walk_at "st"
    refine ⟨_, rfl, ?_⟩
    rw [e1]
    refine Act2.slice .lst (by decide) (by simp; exact Nat.le_trans (by assumption) (by decide)) ?_ ops_plain
    rw [dpick_mid _ pl (t - 1) (by lia) (by simp; (clear g9 g8 g7 g5 g4 g3 g2 g10 hpl hturn hp hlo hle g11 g6 hI hb hins2 hins1 e1 t4 t3 t1 hsz hgo hlv hsum hR9 hi hi0 g1 hq htab hcode ho he h h1 hl hf hT hK; lia)), ← List.map_drop, ← List.map_take]
    refine Act2.cat .lst .lst (by simp; lia) ?_
    repeat' walk_at "st"
    refine ⟨_, rfl, ?_⟩
    rw [show ((t : Int) + 1) = ((t + 1 : Nat) : Int) by exact Int.natCast_add _ _]
    refine Act2.slice .lst (by decide) (by simp; exact Nat.le_trans (by assumption) (by decide)) ?_ ops_plain
    rw [dpick_from, ← List.map_drop]
    refine Act2.cat .lst .lst (by simp; lia) ?_
    repeat' walk_at "st"
    have eR : (R.take pl).map grpD ++ [D.tup [natD b, .lst (I.map natD)]] ++ ((R.drop pl).take (t - 1 - pl)).map grpD ++ (R.drop (t + 1)).map grpD = (GW.nextR R t pl).map grpD := by
      unfold GW.nextR; rw [hb, hI]; simp
    have hlen := GW.nextR_len hturn
    refine ⟨rfl, GW.nextR R t pl, GW.bump I lv, by (clear eR g9 g8 g7 g5 g4 g3 g2 g10 hpl hturn hp hlo hle g11 g6 hI hb hins2 hins1 e1 t4 t3 t2 t1 hsz hgo hlv hsum hR9 hi hi0 g1 hq htab hcode ho he h h1 hl hf hT hK; lia), by lia, by rw [nextR_sum hturn]; exact hsum, by unfold GW.bump; rw [List.length_mapIdx]; exact hlv, fun out ho => hgo out ?_, by walk_at "rho", by walk_at "rho", ?_, by walk_at "rho"⟩
    · rw [show W.length - 1 - i = W.length - 1 - (i + 1) + 1 by lia]
      exact ⟨t, pl, hturn, by unfold GW.nextL; rw [hI]; exact ho⟩
    rw [upd_same, ← eR]
end

open PySem PySem.W PySem.Calls PyProof.Rows
set_option maxRecDepth 20000
open GW in
theorem pts_at {P : Row} {M i : Nat} (h : i < P.length) : ((List.range P.length).map (pt M P)).getD i 0 = pt M P i := getD_map_range h
open GW in
theorem bisL_pts {P : Row} {M lo hi k x : Nat} (h1 : lo ≤ k) (h2 : k ≤ hi) (h3 : hi ≤ P.length) (a : ∀ i, lo ≤ i → i < k → pt M P i < x) (b : ∀ i, k ≤ i → i < hi → x ≤ pt M P i) : bis (pL ((List.range P.length).map (pt M P)) x) lo hi = k := by
  refine bis_unique (by exact Nat.le_trans (by assumption) (by assumption)) (fun i j c d e f => ?_) h1 h2 (fun i c d => ?_) fun i c d => ?_
  · unfold pL at f ⊢
    rw [pts_at (by lia)] at f ⊢
    have := pt_le (M := M) (P := P) d (by lia)
    simp only [decide_eq_true_eq] at f ⊢; exact Nat.le_trans (by assumption) (by assumption)
  · unfold pL; rw [pts_at (by lia)]; have := a i c d; simp only [decide_eq_false_iff_not]; lia
  · unfold pL; rw [pts_at (by exact Nat.lt_of_lt_of_le (by assumption) (by assumption))]; simpa using b i c d
open GW in
theorem bisR_pts {P : Row} {M lo hi k x : Nat} (h1 : lo ≤ k) (h2 : k ≤ hi) (h3 : hi ≤ P.length) (a : ∀ i, lo ≤ i → i < k → pt M P i ≤ x) (b : ∀ i, k ≤ i → i < hi → x < pt M P i) : bis (pR ((List.range P.length).map (pt M P)) x) lo hi = k := by
  refine bis_unique (by exact Nat.le_trans (by assumption) (by assumption)) (fun i j c d e f => ?_) h1 h2 (fun i c d => ?_) fun i c d => ?_
  · unfold pR at f ⊢
    rw [pts_at (by lia)] at f ⊢
    have := pt_le (M := M) (P := P) d (by lia)
    simp only [decide_eq_true_eq] at f ⊢; exact Nat.lt_of_lt_of_le (by assumption) (by assumption)
  · unfold pR; rw [pts_at (by lia)]; have := a i c d; simp only [decide_eq_false_iff_not]; lia
  · unfold pR; rw [pts_at (by exact Nat.lt_of_lt_of_le (by assumption) (by assumption))]; simpa using b i c d
theorem bis_lo {lo hi : Nat} (h : lo ≤ hi) : bis (fun _ => true) lo hi = lo := bis_unique h (fun _ _ _ _ _ f => f) (Nat.le_refl _) h (fun i a b => absurd a (by lia)) fun _ _ _ => rfl
theorem half_pow {k : Nat} : ((2 ^ (k + 1) : Nat) : Int).fdiv 2 = ((2 ^ k : Nat) : Int) := by
  rw [Int.fdiv_eq_ediv_of_nonneg _ (by decide), Nat.pow_succ]; lia
theorem len_lt2 {α : Type} {l : List α} (h : l.length < 2) : l = [] ∨ ∃ a, l = [a] := by
  cases l with
  | nil => exact .inl rfl
  | cons a l => cases l with
    | nil => exact .inr ⟨a, rfl⟩
    | cons b t => exact absurd h (Nat.not_lt_of_le (Nat.le_add_left _ _))
open GW in
set_option maxHeartbeats 1000000 in
/-- _law_price -/
theorem price_body {P : Row} {M : Nat} (hP : P.length ≤ 900) : ∀ (m : Nat) {g : Mine.G} (hK : g.K = hd.heap_39 g.w.params) {A S B : Row} {N : Nat} {μ : Mu} {Q : D → Mu → Prop}, P = A ++ (S ++ B) → Al M (kr M A) S (kr M A + 2 ^ m) → 2 ^ m ∣ kr M A → 8 * m + 8 ≤ N → Q (natD (prc M m S)) μ →
    Calls g N (.val (.ref 62)) [.lst ((ws P).map natD), .lst (((List.range P.length).map (pt M P)).map natD), natD A.length, natD (A.length + S.length), natD (kr M A), natD (2 ^ m)] [] μ Q := by
  intro m
  induction m using Nat.strongRecOn with
  | ind m ih =>
  intro g hK A S B N μ Q hPA hS hd hN h
  obtain ⟨n, rfl⟩ : ∃ n, N = n + 8 := ⟨N - 8, by lia⟩
  refine' Calls.enter (fa := 62) (hK := ?a) (hfo := ?b) (hbody := ?c) (hclo := ?d) (hglob := ?e) (hblt := ?f) (hcode := ?gg) (hco := ?h) (hgen := ?i) (hk := ?j)
    (bd := [("weights", .lst ((ws P).map natD)), ("points", .lst (((List.range P.length).map (pt M P)).map natD)), ("low", natD A.length), ("high", natD (A.length + S.length)), ("begin", natD (kr M A)), ("size", natD (2 ^ m))]) ?bb (nm := ["weights", "points", "low", "high", "begin", "size"]) (hnm := rfl) (hnames := ?k) (by decide) (hcn := ?l) ?_
  case a => rw [hK]; rfl
  case b => rfl
  case c => rfl
  case d => rfl
  case e => rfl
  case f => rfl
  case gg => rw [hK]; rfl
  case h => rfl
  case i => rfl
  case j => rfl
  case k => rfl
  case l => decide
  case bb => exact (BB.ok (fa := 62) hK (by constructor)) _ _ (by rw [hK]; rfl) rfl
  intro env own L he ho
  have hlen : A.length + S.length + B.length = P.length := by rw [hPA]; simp; exact Nat.add_assoc _ _ _
  have hend := Al.end hS
  by_cases h2 : S.length < 2
  · obtain rfl | ⟨p, rfl⟩ := len_lt2 h2
    · have := Nat.pow_pos (n := m) (show 0 < 2 by decide); simp only [kr] at hend; lia
    · refine Ex.cons (Ex1.ite (Et.or ?_))
      unfold EtAll
      repeat' walk_at "st"
      rw [show decide (((A.length + [p].length : Nat) : Int) - (A.length : Int) < 2) = true by simp; lia]
      repeat' walk_at "st"
      rw [prc_one hS] at h
      exact h
  · obtain ⟨k, S1, S2, rfl, rfl, n1, n2, a1, a2, d1, d2, hprc⟩ := halves hS hd (by exact Nat.le_of_not_lt (by assumption))
    have l1 : 0 < S1.length := List.length_pos_iff.mpr n1
    have l2 : 0 < S2.length := List.length_pos_iff.mpr n2
    have hpos := Nat.pow_pos (n := k) (show 0 < 2 by decide)
    have e2 : 2 ^ (k + 1) = 2 ^ k + 2 ^ k := by rw [Nat.pow_succ]; lia
    have k1 := Al.end a1
    simp only [List.length_append] at hlen
    have plow : pt M P A.length = kr M A := by rw [hPA]; exact pt_at
    have pcut : pt M P (A.length + S1.length) = kr M A + 2 ^ k := by
      have := pt_at (M := M) (A := A ++ S1) (B := S2 ++ B)
      rw [show (A ++ S1) ++ (S2 ++ B) = P by rw [hPA]; simp, List.length_append, kr_append] at this
      lia
    have phigh : pt M P (A.length + (S1 ++ S2).length) = kr M A + 2 ^ (k + 1) := by
      have := pt_at (M := M) (A := A ++ (S1 ++ S2)) (B := B)
      rw [show (A ++ (S1 ++ S2)) ++ B = P by rw [hPA]; simp, List.length_append, kr_append] at this
      lia
    rw [List.length_append] at phigh
    refine Ex.skipIf (Et.or ?_) ?_
    · unfold EtAll
      repeat' walk_at "st"
      rw [show decide (((A.length + (S1 ++ S2).length : Nat) : Int) - (A.length : Int) < 2) = false by simp; lia]
      refine ff_of ?_
      unfold EtAll
      repeat' walk_at "st"
      rw [show decide (((2 ^ (k + 1) : Nat) : Int) < 2) = false by rw [decide_eq_false_iff_not]; lia]
      refine ff_of ?_
      unfold EtAll
      exact ⟨rfl, rfl⟩
    have hsl : (S1 ++ S2).length = S1.length + S2.length := List.length_append
    generalize hH : A.length + (S1 ++ S2).length = H
    rw [hsl] at hH
    have hH9 : H ≤ P.length := by (clear phigh pcut plow k1 e2 hpos l2 l1 hprc d2 d1 a2 a1 n2 n1 hend h hS h2 hPA hN hd ih ho he hK hP; lia)
    rw [← Nat.add_assoc] at hH phigh
    rw [hH] at phigh
    generalize hpts : (List.range P.length).map (pt M P) = pts
    have hpl : pts.length = P.length := by rw [← hpts]; simp
    have b1 : bis (pL pts (kr M A)) (A.length + 1) H = A.length + 1 := by rw [← hpts]; exact bisL_pts (Nat.le_refl _) (by lia) hH9 (fun i a b => by lia) fun i a b => by rw [← plow]; exact pt_le (by exact Nat.le_of_lt (by assumption)) (by (clear a hpl hpts hH9 phigh pcut plow k1 e2 hpos l2 l1 hprc d2 d1 a2 a1 n2 n1 hend h hS h2 hPA hN hd ih ho he hK hP; lia))
    have b2 : bis (pL pts (kr M A + 2 ^ (k + 1) + 1)) A.length H = H := by rw [← hpts]; exact bisL_pts (by lia) (Nat.le_refl _) hH9 (fun i a b => by have := pt_le (M := M) (P := P) (Nat.le_of_lt b) hH9; lia) fun i a b => by (clear b1 hpl hpts hH9 hH phigh hsl pcut plow hlen k1 e2 hpos l2 l1 hprc d2 d1 a2 a1 n2 n1 hend h hS h2 hPA hN hd ih ho he hK hP; lia)
    have b3 : bis (pR pts (kr M A + 2 ^ (k + 1))) A.length H = H := by rw [← hpts]; exact bisR_pts (by lia) (Nat.le_refl _) hH9 (fun i a b => by have := pt_le (M := M) (P := P) (Nat.le_of_lt b) hH9; lia) fun i a b => by (clear b1 hpl hpts hH9 hH phigh hsl pcut plow hlen k1 e2 hpos l2 l1 hprc d2 d1 a2 a1 n2 n1 hend h hS h2 hPA hN hd ih ho he hK hP; omega)
    have b4 : bis (pL pts (kr M A + 2 ^ k)) A.length H = A.length + S1.length := by
      rw [← hpts]
      exact bisL_pts (by exact Nat.le_add_right _ _) (by (clear b3 b2 b1 hpl hpts hH9 phigh pcut plow hlen k1 e2 hpos l1 hprc d2 d1 a2 a1 n2 n1 hend h hS h2 hPA hN hd ih ho he hK hP; lia)) hH9 (fun i a b => by have := pt_mono (M := M) (P := P) b (by (clear b a b3 b2 b1 hpl hpts hH9 hH phigh pcut plow k1 e2 hpos l1 hprc d2 d1 a2 a1 n2 n1 hend h hS h2 hPA hN hd ih ho he hK hP; lia)); lia) fun i a b => by rw [← pcut]; exact pt_le a (by (clear a b3 b2 b1 hpl hpts hH9 phigh pcut plow k1 e2 hpos l2 l1 hprc d2 d1 a2 a1 n2 n1 hend h hS h2 hPA hN hd ih ho he hK hP; lia))
    have b5 : bis (pR pts (kr M A + 2 ^ k)) A.length H = A.length + S1.length + 1 := by
      rw [← hpts]
      exact bisR_pts (by lia) (by (clear b4 b3 b2 b1 hpl hpts hH9 phigh pcut plow hlen k1 e2 hpos l1 hprc d2 d1 a2 a1 n2 n1 hend h hS h2 hPA hN hd ih ho he hK hP; lia)) hH9 (fun i a b => by rw [← pcut]; exact pt_le (by lia) (by (clear b a b4 b3 b2 b1 hpl hpts hH9 hH phigh pcut plow k1 e2 hpos l1 hprc d2 d1 a2 a1 n2 n1 hend h hS h2 hPA hN hd ih ho he hK hP; lia))) fun i a b => by have := pt_mono (M := M) (P := P) (show A.length + S1.length < i by assumption) (by (clear a b4 b3 b2 b1 hpl hpts hH9 phigh pcut plow k1 e2 hpos l2 l1 hprc d2 d1 a2 a1 n2 n1 hend h hS h2 hPA hN hd ih ho he hK hP; lia)); lia
    repeat' walk_at "st"
    refine Ev.list ?_
    repeat' walk_at "st"
    rw [show ((A.length : Int) + 1) = ((A.length + 1 : Nat) : Int) by exact Int.natCast_add _ _]
    refine bisL_body (g := g.push env) hK (p := pL pts (kr M A)) (lo := A.length + 1) (hi := H) (BB.ok (g := g.push env) hK (by constructor)) .lst (by simp; lia) (by simp; (clear b5 b4 b3 b2 b1 hpts hH9 phigh pcut plow k1 e2 hpos l2 l1 hprc d2 d1 a2 a1 n2 n1 hend h hS h2 hPA hN hd ih ho he hK hP; lia)) (.inl rfl) pL_ok ?_
    rw [b1]
    repeat' walk_at "st"
    rw [show ((kr M A : Int) + ((2 ^ (k + 1) : Nat) : Int) + 1) = ((kr M A + 2 ^ (k + 1) + 1 : Nat) : Int) by exact Int.natCast_add _ _]
    refine bisL_body (g := g.push env) hK (p := pL pts (kr M A + 2 ^ (k + 1) + 1)) (lo := A.length) (hi := H) (BB.ok (g := g.push env) hK (by constructor)) .lst (by simp; lia) (by simp; (clear b5 b4 b3 b2 b1 hpts hH9 phigh pcut plow k1 e2 hpos l2 l1 hprc d2 d1 a2 a1 n2 n1 hend h hS h2 hPA hN hd ih ho he hK hP; lia)) (.inl rfl) pL_ok ?_
    rw [b2]
    repeat' walk_at "st"
    refine Ev.list ?_
    repeat' walk_at "st"
    rw [show ((kr M A : Int) + ((2 ^ (k + 1) : Nat) : Int)) = ((kr M A + 2 ^ (k + 1) : Nat) : Int) by exact Int.natCast_add _ _]
    refine bisR_body (g := g.push env) hK (p := pR pts (kr M A + 2 ^ (k + 1))) (lo := A.length) (hi := H) (BB.ok (g := g.push env) hK (by constructor)) .lst (by simp; lia) (by simp; (clear b5 b4 b3 b2 b1 hpts hH9 phigh pcut plow k1 e2 hpos l2 l1 hprc d2 d1 a2 a1 n2 n1 hend h hS h2 hPA hN hd ih ho he hK hP; lia)) (.inl rfl) pR_ok ?_
    rw [b3]
    repeat' walk_at "st"
    refine bisR_body (g := g.push env) hK (p := fun _ => true) (lo := A.length) (hi := H) (BB.ok (g := g.push env) hK (by constructor)) .lst (by simp; lia) (by simp; (clear b5 b4 b3 b2 b1 hpts hH9 phigh pcut plow k1 e2 hpos l2 l1 hprc d2 d1 a2 a1 n2 n1 hend h hS h2 hPA hN hd ih ho he hK hP; lia)) (.inl rfl) (fun i d hd => by obtain rfl := nat_at hd; rw [show true = decide ((-1 : Int) < ((pts.getD i 0 : Nat) : Int)) from (decide_eq_true (by lia)).symm]; exact LtOk.int) ?_
    rw [bis_lo (by lia)]
    repeat' walk_at "st"
    refine Act2.cat .lst .lst (by simp) ?_
    repeat' walk_at "st"
    refine Ev.list ?_
    repeat' walk_at "st"
    refine Act2.neSame (by simp) ((PyOk.ints (l := [((A.length + 1 : Nat) : Int), (H : Int), (H : Int), (A.length : Int)])).le (by decide)) ?_
    refine TBool.of (ff_of (Ex.nil (next_of ?_)))
    repeat' walk_at "st"
    rw [half_pow, show ((kr M A : Int) + ((2 ^ k : Nat) : Int)) = ((kr M A + 2 ^ k : Nat) : Int) by exact Int.natCast_add _ _]
    refine bisL_body (g := g.push env) hK (p := pL pts (kr M A + 2 ^ k)) (lo := A.length) (hi := H) (BB.ok (g := g.push env) hK (by constructor)) .lst (by simp; lia) (by simp; (clear b5 b4 b3 b2 b1 hpts hH9 phigh pcut plow k1 e2 hpos l2 l1 hprc d2 d1 a2 a1 n2 n1 hend h hS h2 hPA hN hd ih ho he hK hP; lia)) (.inl rfl) pL_ok ?_
    rw [b4]
    repeat' walk_at "st"
    refine bisR_body (g := g.push env) hK (p := pR pts (kr M A + 2 ^ k)) (lo := A.length) (hi := H) (BB.ok (g := g.push env) hK (by constructor)) .lst (by simp; lia) (by simp; (clear b5 b4 b3 b2 b1 hpts hH9 phigh pcut plow k1 e2 hpos l2 l1 hprc d2 d1 a2 a1 n2 n1 hend h hS h2 hPA hN hd ih ho he hK hP; lia)) (.inl rfl) pR_ok ?_
    rw [b5]
    repeat' walk_at "st"
    rw [show (((A.length + S1.length + 1 : Nat) : Int) - 1) = ((A.length + S1.length : Nat) : Int) by lia]
    rw [half_pow, ← hpts]
    refine ih k (by exact Nat.lt_succ_self _) (g := g.push env) hK (A := A) (S := S1) (B := S2 ++ B) (by rw [hPA]; simp) a1 d1 (by lia) ?_
    repeat' walk_at "st"
    refine ⟨_, rfl, ?_⟩
    repeat' walk_at "st"
    refine ⟨_, rfl, ?_⟩
    repeat' walk_at "st"
    have hwl : (ws P).length = P.length := List.length_map ..
    refine Act2.slice .lst (by decide) (by simp; lia) ?_ ops_plain
    have hws : ((ws P).drop A.length).take (H - A.length) = ws (S1 ++ S2) := by
      have hA : (ws A).length = A.length := List.length_map ..
      have hS' : (ws (S1 ++ S2)).length = H - A.length := by have : (ws (S1 ++ S2)).length = (S1 ++ S2).length := List.length_map ..; lia
      rw [hPA, ws_append, ← hA, List.drop_left', ws_append, hA, ← hS', List.take_left'] <;> rfl
    rw [dpick_mid _ A.length H (by lia) (by simp; (clear hws b5 b4 b3 b2 b1 hpl hpts hH9 phigh pcut plow k1 e2 hpos l2 l1 hprc d2 d1 a2 a1 n2 n1 hend h hS h2 hPA hN hd ih ho he hK hP; lia)), ← List.map_drop, ← List.map_take, hws]
    refine Calls.sumBig (ns := (ws (S1 ++ S2)).map fun (x : Nat) => (x : Int)) (by rw [List.map_map]; exact .lst) ?_
    rw [sum_nat]
    repeat' walk_at "st"
    rw [half_pow]
    have e3 : kr M (A ++ S1) = kr M A + 2 ^ k := by rw [kr_append]; lia
    have hA1 : (A ++ S1).length = A.length + S1.length := List.length_append
    have hH1 : (A ++ S1).length + S2.length = H := by lia
    rw [← e3, ← hA1, ← hH1]
    refine ih k (by exact Nat.lt_succ_self _) (g := g.push env) hK (A := A ++ S1) (S := S2) (B := B) (by rw [hPA]; simp) (by rw [e3]; exact a2) (by rw [e3]; exact d2) (by lia) ?_
    repeat' walk_at "st"
    rw [hprc] at h
    rw [show (((((ws (S1 ++ S2)).sum : Nat) : Int) + ((prc M k S1 : Nat) : Int)) + ((prc M k S2 : Nat) : Int)) = ((wsum (S1 ++ S2) + (prc M k S1 + prc M k S2) : Nat) : Int) by unfold wsum; lia]
    exact h

open PySem PySem.W PySem.Calls PyProof.Rows
set_option maxRecDepth 20000
noncomputable def lawFd (p : Params) : FuncData := match (hd.heap_39 p).lookup 100 with
  | some o => (match o.data with | .func fd => fd | _ => default)
  | _ => default
noncomputable def lawStmts (p : Params) : List Stmt := match (lawFd p).body with | .stmts b => b | _ => []
noncomputable abbrev QT : Fl → Mu → Prop := fun f μ' => f = .ret (.bool true) ∧ ∃ ps, (97, MO.tb 99 ps) ∈ μ'
theorem dpick_any (ds : List D) (a b : Nat) (hab : a ≤ b) : dpick ds (some (a : Int)) (some (b : Int)) Option.none = (ds.drop a).take (b - a) := by
  unfold dpick sliceBounds
  simp only [Option.getD_none, show ((1 : Int) > 0) by decide, if_true]
  have e : ∀ k : Nat, max (0 : Int) (min (if (k : Int) < 0 then (k : Int) + ds.length else k) ds.length) = ((min k ds.length : Nat) : Int) := fun k => by rw [if_neg (by lia)]; lia
  rw [e a, e b]
  refine (dpick_run ds (min a ds.length) (min b ds.length) (by lia) (by lia)).trans ?_
  by_cases h : a ≤ ds.length
  · rw [Nat.min_eq_left h]
    by_cases h2 : b ≤ ds.length
    · rw [Nat.min_eq_left h2]
    · rw [Nat.min_eq_right (by lia), List.take_of_length_le (by simp), List.take_of_length_le (by simp; lia)]
  · rw [Nat.min_eq_right (show ds.length ≤ a by lia), Nat.min_eq_right (show ds.length ≤ b by lia), List.drop_length, List.drop_of_length_le (by lia), List.take_nil, List.take_nil]
theorem zip_ints (xs ys : List Int) : zipD (xs.map D.int) (ys.map D.int) = (xs.zip ys).map fun p => .tup [D.int p.1, D.int p.2] := by
  unfold zipD
  rw [List.zipWith_map, List.zip, List.map_zipWith]
section
variable {g : G} {env : Env} {own : List Addr} {n : Nat} {ρ : Str → Option D} {μ : Mu}
theorem ExB.mono {ss} {Q Q' : Fl → Mu → Prop} (h : ExB g env own n ρ μ ss Q) (k : ∀ f μ', Q f μ' → Q' f μ') : ExB g env own n ρ μ ss Q' := fun A F s μ₀ F₀ s₀ ok G Fs t hno =>
  wpAny_mono (h A F s μ₀ F₀ s₀ ok G Fs t hno) (by rintro fl s' ⟨f, μ', F', t', G', sf, q⟩; exact ⟨f, μ', F', t', G', sf, k _ _ q⟩) fun _ _ x => x
theorem ExB.skipIf {t : Expr} {b rest : List Stmt} {pos : Pos} {Q : Fl → Mu → Prop} (h : Et g env own n ρ μ t fun c μ₁ => c = false ∧ μ₁ = μ) (k : ExB g env own n ρ μ rest Q) : ExB g env own n ρ μ (.If t b [] pos :: rest) Q :=
  ExB.cons (Ex1.ite (Et.mono h fun c μ₁ ⟨hc, hm⟩ => by subst hc; subst hm; exact ff_of (Ex.nil (next_of k))))
end
/-- the weights -/
noncomputable def wts (script : List Int) : List Nat := ((([4, 3, 2, 2, 9, 4] : List Int).zip ((script.take 60).take 6 ++ [0, 0, 0, 0, 0, 0])).map fun p => (p.1 + p.2).natAbs) ++ (((script.take 60).drop 6).take 3).map Int.natAbs
theorem wts_len (script : List Int) : 6 ≤ (wts script).length ∧ (wts script).length ≤ 9 := by
  unfold wts
  simp only [List.length_append, List.length_map, List.length_zip, List.length_take, List.length_drop, List.length_cons, List.length_nil]
  lia
section
variable {g : G} (hK : g.K = hd.heap_39 g.w.params) (hT : g.tabs = tabs3)
include hK hT
set_option maxHeartbeats 1000000 in
theorem law_p1 {script : List Int} {n : Nat} {μ : Mu} {env : Env} {own : List Addr} {L : Addr} (he : env = callEnvC (lawFd g.w.params) L 100) (ho : own = ownOf (lawFd g.w.params) L) (hs : script.length ≤ 63)
    (next : ∀ ρ (F : List (Int × Int)), SgUp F → F.Perm (((wts script).map fun (x : Nat) => (x : Int)).zipIdx.map prT) → ρ "weights" = some (.lst ((wts script).map natD)) → ρ "laid" = some (.lst ((F.map sg).map pairD)) →
      ExB (g.push env) env own (n + 100) ρ μ ((lawStmts g.w.params).drop 3) QT) :
    ExB (g.push env) env own (n + 100) (rho [("script", .lst (script.map .int))]) μ (lawStmts g.w.params) QT := by
  refine ExB.seq (fun ρ' M => M = μ ∧ ρ' "steps" = some (.lst ((script.take 60).map .int))) ?_ ?_
  · repeat' walk_at "st"
    refine ⟨_, rfl, ?_⟩
    refine Act2.slice .lst (by decide) (by simp; exact Nat.le_trans (by assumption) (by decide)) ?_ ops_plain
    rw [show (60 : Int) = ((60 : Nat) : Int) from rfl, dpick_upto, ← List.map_take]
    exact ⟨rfl, rfl, upd_same⟩
  rintro ρ M ⟨rfl, h1⟩
  refine ExB.seq (fun ρ' M' => M' = M ∧ ρ' "weights" = some (.lst ((wts script).map natD))) ?_ ?_
  · repeat' walk_at "st"
    walk_at "comp"
    refine EvI.zipT (b1 := false) ?_
    repeat' walk_at "st"
    refine ⟨rfl, rfl, rfl, ?_⟩
    repeat' walk_at "st"
    refine ⟨_, rfl, ?_⟩
    refine Act2.slice .lst (by decide) (by simp; (clear next h1 hs ho he hT hK; lia)) ?_ ops_plain
    rw [show dpick ((script.take 60).map D.int) Option.none (some 6) Option.none = ((script.take 60).map D.int).take 6 from dpick_upto _ 6, ← List.map_take]
    repeat' walk_at "st"
    refine Ev.list ?_
    repeat' walk_at "st"
    refine Act2.rep .lst (by decide) (by decide) (by decide) ?_
    refine Act2.cat .lst .lst (by simp; (clear next h1 hs ho he hT hK; lia)) ?_
    refine ⟨([4, 3, 2, 2, 9, 4] : List Int).map D.int, ((script.take 60).take 6 ++ [0, 0, 0, 0, 0, 0]).map D.int, rfl, by rw [List.map_append]; rfl, by simp, ?_⟩
    rw [zip_ints]
    intro cenv C hce
    refine CompL.mapA2 (fun (p : Int × Int) => D.int p.1) (fun p => D.int p.2) (fun p => natD (p.1 + p.2).natAbs) (by walk_at "bind") (by walk_at "bind") _ _ (by simp) (fun p _ Q hQ => ?_) (fun r => ?_)
    · repeat' walk_at "st"
      refine Calls.abs ?_
      exact hQ
    rw [List.nil_append]
    walk_at "comp"
    refine EvI.list ?_
    repeat' walk_at "st"
    refine ⟨_, rfl, ?_⟩
    repeat' walk_at "st"
    refine ⟨_, rfl, ?_⟩
    refine Act2.slice .lst (by decide) (by simp; (clear hce next h1 hs ho he hT hK; lia)) ?_ ops_plain
    rw [show dpick ((script.take 60).map D.int) (some 6) (some 9) Option.none = (((script.take 60).map D.int).drop 6).take 3 from dpick_any _ 6 9 (by decide), ← List.map_drop, ← List.map_take]
    refine ⟨_, rfl, ?_⟩
    intro cenv C hce
    refine CompL.mapA D.int (fun (x : Int) => natD x.natAbs) (by walk_at "bind") _ _ (by simp; (clear hce next h1 hs ho he hT hK; lia)) (fun p _ Q hQ => ?_) (fun r => ?_)
    · repeat' walk_at "st"
      refine Calls.abs ?_
      exact hQ
    rw [List.nil_append]
    refine Act2.cat .lst .lst (by simp; (clear hce next h1 hs ho he hT hK; lia)) ?_
    refine ⟨rfl, rfl, ?_⟩
    rw [upd_same]
    unfold wts
    rw [List.map_append, List.map_map, List.map_map]; rfl
  rintro ρ M' ⟨rfl, h1⟩
  refine ExB.seq (fun ρ' M => M = M' ∧ ρ' "weights" = some (.lst ((wts script).map natD)) ∧ ∃ F : List (Int × Int), SgUp F ∧ F.Perm (((wts script).map fun (x : Nat) => (x : Int)).zipIdx.map prT) ∧ ρ' "laid" = some (.lst ((F.map sg).map pairD))) ?_ ?_
  · repeat' walk_at "st"
    have e : (wts script).map natD = ((wts script).map fun (x : Nat) => (x : Int)).map D.int := by rw [List.map_map]; rfl
    rw [e] at h1 ⊢
    refine laid_body (g := g.push env) hK hT (n := n + 94) (by have := wts_len script; simp; lia) fun F sF pF => ?_
    refine ⟨rfl, rfl, by walk_at "rho", F, sF, pF, upd_same⟩
  rintro ρ M ⟨rfl, h1, F, s, p, h2⟩
  exact next ρ F s p h1 h2
end

open PySem PySem.W PySem.Calls PyProof.Rows
set_option maxRecDepth 20000
theorem rise {W : List Nat} {F : List (Int × Int)} (hs : SgUp F) (hp : F.Perm ((W.map fun (x : Nat) => (x : Int)).zipIdx.map prT)) : ∃ S : List Nat, S.Perm W ∧ S.Pairwise (· ≤ ·) ∧ F.map (fun p => D.int p.1) = S.map natD := by
  have h1 : (F.map (·.1)).Perm (W.map fun (x : Nat) => (x : Int)) := by
    have := hp.map (·.1)
    rw [List.map_map] at this
    rwa [show ((fun x : Int × Int => x.1) ∘ prT) = (Prod.fst : Int × Nat → Int) from rfl, List.zipIdx_map_fst] at this
  refine ⟨(F.map (·.1)).map Int.toNat, ?_, ?_, ?_⟩
  · have := h1.map Int.toNat
    rw [List.map_map (l := W)] at this
    rwa [show (Int.toNat ∘ fun (x : Nat) => (x : Int)) = id from funext fun x => Int.toNat_natCast x, List.map_id] at this
  · rw [List.pairwise_map, List.pairwise_map]
    refine hs.imp fun {a b} h => ?_
    rcases plt_iff.mp h with q | q
    · have q : a.1 < b.1 := q; lia
    · have q : a.1 = b.1 := q.1; lia
  · rw [List.map_map, List.map_map]
    refine List.map_congr_left fun p hpm => ?_
    have : p.1 ∈ W.map fun (x : Nat) => (x : Int) := h1.mem_iff.mp (List.mem_map_of_mem hpm)
    obtain ⟨x, _, hx⟩ := List.mem_map.mp this
    show D.int p.1 = D.int ((p.1.toNat : Nat) : Int)
    rw [Int.toNat_of_nonneg (by lia)]
section
variable {g : G} (hK : g.K = hd.heap_39 g.w.params) (hT : g.tabs = tabs3)
include hK hT
set_option maxHeartbeats 1000000 in
theorem law_p2 {W : List Nat} {F : List (Int × Int)} {n : Nat} {μ : Mu} {env : Env} {own : List Addr} {L : Addr} {ρ : Str → Option D} (he : env = callEnvC (lawFd g.w.params) L 100) (ho : own = ownOf (lawFd g.w.params) L) (hW : 6 ≤ W.length ∧ W.length ≤ 9)
    (hF : SgUp F) (hp : F.Perm ((W.map fun (x : Nat) => (x : Int)).zipIdx.map prT)) (h1 : ρ "weights" = some (.lst (W.map natD))) (h2 : ρ "laid" = some (.lst ((F.map sg).map pairD)))
    (next : ∀ ρ (S : List Nat), S.Perm W → S.Pairwise (· ≤ ·) → ρ "weights" = some (.lst (W.map natD)) → ρ "rising" = some (.lst (S.map natD)) → ExB (g.push env) env own (n + 100) ρ μ ((lawStmts g.w.params).drop 5) QT) :
    ExB (g.push env) env own (n + 100) ρ μ ((lawStmts g.w.params).drop 3) QT := by
  have hFl : F.length = W.length := by have := hp.length_eq; simpa using this
  obtain ⟨S, sp, ss, se⟩ := rise hF hp
  refine ExB.seq (fun ρ' M => M = μ ∧ ρ' "weights" = some (.lst (W.map natD)) ∧ ρ' "laid" = some (.lst ((F.map sg).map pairD)) ∧ ρ' "rising" = some (.lst (S.map natD))) ?_ ?_
  · walk_at "compS"
    refine EvI.list ?_
    repeat' walk_at "st"
    refine ⟨_, rfl, ?_⟩
    intro cenv C hce
    rw [List.map_map] at h2 ⊢
    refine CompL.mapA2 (fun p : Int × Int => D.int (sg p).1) (fun p => D.int (sg p).2) (fun p => D.int p.1) (by walk_at "bind") (by walk_at "bind") F _ (by simp; lia) (fun p hp Q hQ => ?_) (fun r => ?_)
    · repeat' walk_at "st"
      exact hQ
    · exact ⟨rfl, rfl, by walk_at "rho", by walk_at "rho", by rw [List.nil_append, se]; exact upd_same⟩
  rintro ρ M ⟨rfl, h1, h2, h3⟩
  refine ExB.skipIf ?_ (next ρ S sp ss h1 h3)
  have e : W.map natD = (W.map fun (x : Nat) => (x : Int)).map D.int := by rw [List.map_map]; rfl
  rw [e] at h1
  generalize hns : (W.map fun (x : Nat) => (x : Int)) = ns at h1 hp
  have hnl : ns.length = W.length := by rw [← hns]; simp
  repeat' walk_at "st"
  walk_at "comp"
  refine EvI.enum ?_
  repeat' walk_at "st"
  refine ⟨rfl, rfl, ?_⟩
  repeat' walk_at "st"
  refine ⟨_, rfl, ?_⟩
  intro cenv C hce
  rw [enumD_ints]
  refine CompL.mapA2 (fun p : Int × Nat => D.int p.2) (fun p => D.int p.1) (fun p => pairD (sg (prT p))) (by walk_at "bind") (by walk_at "bind") _ _ (by simp; lia) (fun p hp Q hQ => ?_) (fun r => ?_)
  · repeat' walk_at "st"
    refine Ev.ifexp (Et.int ?_)
    repeat' walk_at "st"
    refine ⟨_, rfl, fun hc => ?_, fun hc => ?_⟩
    · rw [show pairD (sg (prT p)) = .tup [.int p.1, .int (-p.2)] by unfold sg tsg; rw [if_pos (show ((prT p).2.fmod 2 != 0) = true from hc)]; rfl] at hQ
      repeat' walk_at "st"
      exact hQ
    · rw [show pairD (sg (prT p)) = .tup [.int p.1, .int p.2] by unfold sg tsg; rw [if_neg (show ¬ ((prT p).2.fmod 2 != 0) = true by rw [Bool.not_eq_true]; exact hc)]; rfl] at hQ
      repeat' walk_at "st"
      exact hQ
  rw [List.nil_append, show List.map (fun p => pairD (sg (prT p))) ns.zipIdx = ((ns.zipIdx.map prT).map sg).map pairD by rw [List.map_map, List.map_map]; rfl]
  repeat' walk_at "st"
  refine Calls.sortedPairs (by simp) .lst tied_nodup (by simp; lia) (by simp; lia) fun ps' hp' hs' => ?_
  have e1 : ps' = F.map sg := lex_unique (f := id) (fun _ _ h => h) (hp'.trans (hp.map sg).symm) hs' (List.pairwise_map.mpr hF)
  subst e1
  refine Act2.neSame rfl (PyOk.pairs.le (by decide)) ?_
  exact TBool.of ⟨rfl, rfl⟩
set_option maxHeartbeats 1000000 in
theorem law_p3 {W S : List Nat} {n : Nat} {μ : Mu} {env : Env} {own : List Addr} {L : Addr} {ρ : Str → Option D} (he : env = callEnvC (lawFd g.w.params) L 100) (ho : own = ownOf (lawFd g.w.params) L) (hW : 6 ≤ W.length ∧ W.length ≤ 9) (hS : S.length = W.length)
    (h1 : ρ "weights" = some (.lst (W.map natD))) (h2 : ρ "rising" = some (.lst (S.map natD)))
    (next : ∀ ρ (v v2 : Nat), GW.IsLeast W v → GW.IsLeast S v2 → ρ "weights" = some (.lst (W.map natD)) → ρ "rising" = some (.lst (S.map natD)) → ρ "least" = some (natD v) → ρ "fewest" = some (natD v2) → ExB (g.push env) env own (n + 100) ρ μ ((lawStmts g.w.params).drop 6) QT) :
    ExB (g.push env) env own (n + 100) ρ μ ((lawStmts g.w.params).drop 5) QT := by
  refine ExB.seq (fun ρ' M => M = μ ∧ ∃ v v2 : Nat, GW.IsLeast W v ∧ GW.IsLeast S v2 ∧ ρ' "weights" = some (.lst (W.map natD)) ∧ ρ' "rising" = some (.lst (S.map natD)) ∧ ρ' "least" = some (natD v) ∧ ρ' "fewest" = some (natD v2)) ?_ ?_
  · refine Ex1.assignS (names := ["least", "fewest"]) ?_ (by intro x hx; simp only [List.mem_cons, List.not_mem_nil, or_false] at hx; rcases hx with rfl | rfl <;> walk_at "bind") (by subst he; exact rfl)
    repeat' walk_at "st"
    refine least_body (g := g.push env) hK (n := n + 94) (by lia) (by lia) fun v hv => ?_
    repeat' walk_at "st"
    refine least_body (g := g.push env) hK (n := n + 94) (by lia) (by lia) fun v2 hv2 => ?_
    repeat' walk_at "st"
    refine ⟨_, rfl, rfl, rfl, rfl, v, v2, hv, hv2, ?_⟩
    rw [updL2]
    exact ⟨by walk_at "rho", by walk_at "rho", by walk_at "rho", by walk_at "rho"⟩
  rintro ρ M ⟨rfl, v, v2, hv, hv2, h1, h2, h3, h4⟩
  exact next ρ v v2 hv hv2 h1 h2 h3 h4
end

open PySem PySem.W PySem.Calls PyProof.Rows
set_option maxRecDepth 20000
open GW in
theorem zip_row (P : Row) : zipD ((ws P).map natD) (P.map fun p => natD p.2) = P.map fun p => .tup [natD p.1, natD p.2] := by
  unfold zipD ws
  rw [List.map_map, List.zipWith_map]
  induction P with
  | nil => rfl
  | cons p P ih => rw [List.zipWith_cons_cons, ih]; rfl
theorem pow_ok {b : Nat} (h : b ≤ 100) : ¬ Builtin.Int.intTooBig (((Builtin.Int.intBits 2 : Nat) : Int) * (b : Int)) = true := by
  have e : Builtin.Int.intBits 2 = 2 := by decide
  rw [e]
  unfold Builtin.Int.intTooBig bitsLine
  simp; lia
theorem pow_nat {b : Nat} : ((2 : Int) ^ ((b : Int).toNat)) = ((2 ^ b : Nat) : Int) := by rw [Int.toNat_natCast]; simp
open GW in
theorem cost_sum : ∀ (P : Row), (P.map fun p => ((p.1 * p.2 : Nat) : Int)).sum = (cost P : Nat)
  | [] => rfl
  | p :: P => by rw [List.map_cons, List.sum_cons, cost_sum P, cost]; exact Int.natCast_add _ _
open GW in
theorem kr_sum {T : Nat} : ∀ (P : Row), (P.map fun p => ((2 ^ (T - p.2) : Nat) : Int)).sum = (kr T P : Nat)
  | [] => rfl
  | p :: P => by rw [List.map_cons, List.sum_cons, kr_sum P, kr]; exact Int.natCast_add _ _
theorem zip_back {X out : List Nat} (h : out.length = X.length) : GW.ws (X.zip out) = X ∧ (X.zip out).map (fun p => natD p.2) = out.map natD := by
  refine ⟨List.map_fst_zip (by lia), ?_⟩
  rw [show (fun p : Nat × Nat => natD p.2) = natD ∘ Prod.snd from rfl, ← List.map_map, List.map_snd_zip (by lia)]
section
open GW
/-- what the names of law's fourth part hold -/
inductive P4A (W S : List Nat) (v2 : Nat) (ρ : Str → Option D) : Prop
  | mk (h1 : ρ "weights" = some (.lst (W.map natD))) (h2 : ρ "rising" = some (.lst (S.map natD))) (h4 : ρ "fewest" = some (natD v2))
inductive P4I (W S : List Nat) (v2 : Nat) (ds : List D) (ρ : Str → Option D) : Prop
  | mk (hds : ∀ d ∈ ds, ∃ (X : List Nat) (due : Nat), d = .tup [.lst (X.map natD), natD due] ∧ IsLeast X due ∧ 6 ≤ X.length ∧ X.length ≤ 9) (h : P4A W S v2 ρ)
inductive P4B (W S : List Nat) (v2 : Nat) (P : Row) (ρ : Str → Option D) : Prop
  | mk (h1 : ρ "weights" = some (.lst (W.map natD))) (h2 : ρ "rising" = some (.lst (S.map natD))) (h4 : ρ "fewest" = some (natD v2)) (h5 : ρ "row" = some (.lst ((ws P).map natD))) (h6 : ρ "due" = some (natD (cost P))) (h7 : ρ "found" = some (.lst [.lst (P.map fun p => natD p.2), .lst (P.map fun p => natD p.2)]))
inductive P4P (W S : List Nat) (v2 : Nat) (X : List Nat) (ρ : Str → Option D) : Prop
  | mk (P : Row) (hP : ws P = X) (hB : Best P) (hl9 : P.length ≤ 9) (hl6 : 6 ≤ P.length) (hlv : ∀ p ∈ P, p.2 ≤ 8) (h : P4B W S v2 P ρ)
inductive P4J (W S : List Nat) (v2 : Nat) (P : Row) (ds : List D) (ρ : Str → Option D) : Prop
  | mk (hdl : ∀ d ∈ ds, d = .lst (P.map fun p => natD p.2)) (h : P4B W S v2 P ρ)
inductive P4T (W S : List Nat) (v2 : Nat) (P : Row) (ρ : Str → Option D) : Prop
  | mk (h8 : ρ "levels" = some (.lst (P.map fun p => natD p.2))) (T : Nat) (h9 : ρ "top" = some (natD T)) (hT1 : ∃ p ∈ P, p.2 = T) (hT2 : ∀ p ∈ P, p.2 ≤ T) (h : P4B W S v2 P ρ)
end
section
variable {g : G} (hK : g.K = hd.heap_39 g.w.params) (hT : g.tabs = tabs3)
include hK hT
open GW in
set_option maxHeartbeats 2000000 in
theorem law_p4 {W S : List Nat} {v v2 : Nat} {n : Nat} {μ : Mu} {env : Env} {own : List Addr} {L : Addr} {ρ : Str → Option D} (he : env = callEnvC (lawFd g.w.params) L 100) (ho : own = ownOf (lawFd g.w.params) L) (hW : 6 ≤ W.length ∧ W.length ≤ 9) (hS : S.length = W.length)
    (hv : IsLeast W v) (hv2 : IsLeast S v2) (h1 : ρ "weights" = some (.lst (W.map natD))) (h2 : ρ "rising" = some (.lst (S.map natD))) (h3 : ρ "least" = some (natD v)) (h4 : ρ "fewest" = some (natD v2))
    (next : ∀ ρ, ρ "weights" = some (.lst (W.map natD)) → ρ "rising" = some (.lst (S.map natD)) → ρ "fewest" = some (natD v2) → ExB (g.push env) env own (n + 100) ρ μ ((lawStmts g.w.params).drop 7) QT) :
    ExB (g.push env) env own (n + 100) ρ μ ((lawStmts g.w.params).drop 6) QT := by
  refine ExB.seqK (P4A W S v2) ?_ (by rintro ρ ⟨a, b, c⟩; exact next ρ a b c)
  refine Ex1.for (by exact Nat.le_add_left _ _) (EvI.tuple ?_)
  repeat' walk_at "st"
  refine ⟨_, rfl, ?_⟩
  refine Act2.slice .lst (by decide) (by simp; lia) ?_ ops_step
  rw [dpick_rev, ← List.map_reverse]
  repeat' walk_at "st"
  refine ⟨_, rfl, ?_⟩
  refine ForL.runL (P4I W S v2) ⟨fun d hd => ?_, h1, h2, h4⟩ ?_ ?_
  rotate_left
  · rintro d ds ρ ⟨hds, h1, h2, h4⟩
    obtain ⟨X, due, rfl, hX, hx6, hx9⟩ := hds d (.head _)
    have hds := fun d hd => hds d (.tail _ hd)
    refine .tup (.cons (by walk_at "bind") (.cons (by walk_at "bind") (.nil ?_)))
    have hX0 : X ≠ [] := fun z => by subst z; simp at hx6
    refine Ex.seqK (P4P W S v2 X) ?_ ?_
    · repeat' walk_at "st"
      refine Ev.list ?_
      repeat' walk_at "st"
      refine levels_body (g := g.push env) hK hT (n := n + 94) (seek_right (g := g.push env) hK) (by exact Nat.le_trans (by assumption) (by decide)) (by lia) fun out ho => ?_
      repeat' walk_at "st"
      refine levels_body (g := g.push env) hK hT (n := n + 94) (seek_left (g := g.push env) hK) (by exact Nat.le_trans (by assumption) (by decide)) (by lia) fun out2 ho2 => ?_
      obtain rfl := Go.uniq ho ho2
      repeat' walk_at "st"
      obtain ⟨l1, l2⟩ := (Go.run ho).levels hX0
      obtain ⟨z1, z2⟩ := zip_back l1
      have hle := ho.le (m := 0) (fun l hl => by simp at hl; lia)
      have hdue : due = cost (X.zip out) := hX.uniq (by have := l2.least; rwa [z1] at this)
      have hzl : (X.zip out).length = X.length := by rw [List.length_zip]; (clear hdue hle z2 z1 l2 ho2 ho hX0 hds hx9 hx6 hX h4 h2 h1 next h3 hv2 hv hS hW he hT hK; lia)
      refine ⟨rfl, rfl, X.zip out, z1, l2, by lia, by lia, fun p hp => ?_, by walk_at "rho", by walk_at "rho", by walk_at "rho", by rw [z1]; walk_at "rho", by rw [← hdue]; walk_at "rho", by rw [z2]; exact upd_same⟩
      have := hle p.2 (List.of_mem_zip hp).2
      (clear hp hzl hdue hle z2 z1 l2 l1 ho2 ho hX0 hds hX h4 h2 h1 next h3 hv2 hv hS hW he hT hK; lia)
    rintro ρ ⟨P, hP, hB, hl9, hl6, hlv, h1, h2, h4, h5, h6, h7⟩
    have hwl : (ws P).length = P.length := List.length_map ..
    refine Ex.seqK (P4B W S v2 P) ?_ ?_
    · refine Ex1.for (by exact Nat.le_add_left _ _) (EvI.list ?_)
      repeat' walk_at "st"
      refine ⟨_, rfl, ?_⟩
      refine ForL.runL (P4J W S v2 P) ⟨fun d hd => by simpa using hd, h1, h2, h4, h5, h6, h7⟩ ?_ (by rintro ρ ⟨_, h⟩; exact ⟨rfl, rfl, h⟩)
      rintro d ds ρ ⟨hdl, h1, h2, h4, h5, h6, h7⟩
      obtain rfl := hdl d (.head _)
      have hdl := fun d hd => hdl d (.tail _ hd)
      refine .name (by walk_at "bind") ?_
      refine Ex.skipIf (Et.or ?_) ?_
      · unfold EtAll
        repeat' walk_at "st"
        obtain ⟨M0, hal⟩ := hB.1
        refine fold_body (g := g.push env) hK (n := n + 94) (by exact Nat.le_trans (by assumption) (by decide)) hal ?_
        repeat' walk_at "st"
        refine Ev.list ?_
        repeat' walk_at "st"
        refine Act2.neSame rfl ((PyOk.ints (l := [0])).le (by decide)) ?_
        refine TBool.of (ff_of ?_)
        unfold EtAll
        repeat' walk_at "st"
        walk_at "comp"
        refine EvI.zipT (b1 := true) ?_
        repeat' walk_at "st"
        refine ⟨rfl, rfl, rfl, ?_⟩
        repeat' walk_at "st"
        refine ⟨_, _, rfl, rfl, by simp [ws], ?_⟩
        rw [zip_row]
        intro cenv C hce
        refine CompL.mapA2 (fun p : Nat × Nat => natD p.1) (fun p => natD p.2) (fun p => D.int ((p.1 * p.2 : Nat) : Int)) (by walk_at "bind") (by walk_at "bind") _ _ (by simp; exact Nat.le_trans (by assumption) (by decide)) (fun p hp Q hQ => ?_) (fun r => ?_)
        · have := hlv p hp
          repeat' walk_at "st"
          refine Act2.mul (.of_right (intBits_le_64 (by lia) (by lia))) ?_
          rw [show ((p.1 : Int) * (p.2 : Int)) = ((p.1 * p.2 : Nat) : Int) by simp]
          exact hQ
        rw [List.nil_append]
        repeat' walk_at "st"
        refine Calls.sumBig (ns := P.map fun p => ((p.1 * p.2 : Nat) : Int)) (by rw [List.map_map]; exact .lst) ?_
        rw [cost_sum]
        repeat' walk_at "st"
        rw [show (((cost P : Nat) : Int) != ((cost P : Nat) : Int)) = false by simp]
        refine ff_of ?_
        unfold EtAll
        exact ⟨rfl, rfl⟩
      refine Ex.seqK (P4T W S v2 P) ?_ ?_
      · repeat' walk_at "st"
        refine Calls.maxL (ns := P.map fun p => ((p.2 : Nat) : Int)) (by rw [List.map_map]; exact .lst) (by simp; (clear hdl h7 h6 h5 h4 h2 h1 next hlv hl6 hl9 hB hX0 hds hx9 hX h3 hv2 hv hS hW ho he hT hK; lia)) fun T hT1 hT2 => ?_
        obtain ⟨p, hp, rfl⟩ := List.mem_map.mp hT1
        refine ⟨rfl, rfl, by walk_at "rho", p.2, upd_same, ⟨p, hp, rfl⟩, fun q hq => ?_, by walk_at "rho", by walk_at "rho", by walk_at "rho", by walk_at "rho", by walk_at "rho", by walk_at "rho"⟩
        have := hT2 _ (List.mem_map_of_mem hq)
        lia
      rintro ρ ⟨h8, T, h9, hT1, hT2, h1, h2, h4, h5, h6, h7⟩
      have hT8 : T ≤ 8 := by obtain ⟨p, hp, rfl⟩ := hT1; exact hlv p hp
      have htop := hB.top hT2 hT1
      refine Ex.seqK (LvY "points" (.lst (((List.range P.length).map (pt T P)).map natD)) (LvY "top" (natD T) (P4B W S v2 P))) ?_ ?_
      · walk_at "compS"
        refine EvI.range ?_
        repeat' walk_at "st"
        refine len_D .lst (by simp; (clear htop hT8 hT2 hT1 h9 h8 h7 h6 h5 h4 h2 h1 next hdl hlv hl6 hl9 hB hX0 hds hx6 hX h3 hv2 hv hS hW ho he hT hK; lia)) ?_
        repeat' walk_at "st"
        refine Calls.range1 ?_
        rw [show ((((ws P).map natD).length : Nat) : Int) = ((0 : Nat) : Int) + ((P.length : Nat) : Int) by simp; (clear htop hT8 hT2 hT1 h9 h8 h7 h6 h5 h4 h2 h1 next hdl hlv hl6 hl9 hB hX0 hds hx9 hx6 hX h3 hv2 hv hS hW ho he hT hK; lia)]
        refine ⟨((0 : Nat) : Int), _, 1, P.length, rfl, rng_small (by decide) (by decide) (by lia) (by lia), rng_size, ?_⟩
        rw [rng_nat]
        intro cenv C hce
        refine CompL.mapA (fun i => natD (0 + i)) (fun i => natD (pt T P i)) (by walk_at "bind") (List.range P.length) _ (by simp; exact Nat.le_trans (by assumption) (by decide)) (fun i hi Q hQ => ?_) (fun r => ?_)
        · repeat' walk_at "st"
          walk_at "comp"
          refine EvI.list ?_
          repeat' walk_at "st"
          refine ⟨_, rfl, ?_⟩
          refine Act2.slice .lst (by decide) (by simp; exact Nat.le_trans (by assumption) (by decide)) ?_ ops_plain
          rw [dpick_upto, ← List.map_take, Nat.zero_add]
          refine ⟨_, rfl, ?_⟩
          intro cenv2 C2 hce2
          refine CompL.mapA (fun p : Nat × Nat => natD p.2) (fun p => D.int ((2 ^ (T - p.2) : Nat) : Int)) (by walk_at "bind") (P.take i) _ (by simp; (clear hce2 hQ hi hce htop hT8 hT2 h9 h8 h7 h6 h5 h4 h2 h1 next hdl hlv hl6 hl9 hB hX0 hds hx6 hX h3 hv2 hv hS hW ho he hT hK; lia)) (fun p hp Q hQ => ?_) (fun r => ?_)
          · have := hT2 p (List.mem_of_mem_take hp)
            repeat' walk_at "st"
            rw [show ((T : Int) - (p.2 : Int)) = ((T - p.2 : Nat) : Int) by (clear hQ hp hce2 hi hce htop hT8 hT2 h9 h8 h7 h6 h5 h4 h2 h1 next hdl hwl hlv hl6 hl9 hB hP hX0 hds hx9 hx6 hX h3 hv2 hv hS hW ho he hT hK; omega)]
            refine Act2.pow (by lia) (by decide) (pow_ok (by (clear this hQ hp hce2 hi hce htop hT2 h9 h8 h7 h6 h5 h4 h2 h1 next hdl hwl hlv hl6 hl9 hB hP hX0 hds hx9 hx6 hX h3 hv2 hv hS hW ho he hT hK; lia))) ?_
            rw [pow_nat]
            exact hQ
          rw [List.nil_append]
          repeat' walk_at "st"
          refine Calls.sumBig (ns := (P.take i).map fun p => ((2 ^ (T - p.2) : Nat) : Int)) (by rw [List.map_map]; exact .lst) ?_
          rw [kr_sum]
          exact hQ
        · refine ⟨rfl, rfl, ?_, by walk_at "rho", by walk_at "rho", by walk_at "rho", by walk_at "rho", by walk_at "rho", by walk_at "rho", by walk_at "rho"⟩
          rw [List.nil_append, List.map_map]; exact upd_same
      rintro ρ ⟨h10, h9, h1, h2, h4, h5, h6, h7⟩
      refine Ex.skipIf ?_ (Ex.nil ⟨rfl, hdl, h1, h2, h4, h5, h6, h7⟩)
      repeat' walk_at "st"
      refine len_D .lst (by simp; (clear h10 h9 h7 h6 h5 h4 h2 h1 next htop hT8 hT2 hT1 h8 hdl hlv hl6 hl9 hB hX0 hds hx6 hX h3 hv2 hv hS hW ho he hT hK; lia)) ?_
      repeat' walk_at "st"
      refine Act2.pow (by lia) (by decide) (pow_ok (by exact Nat.le_trans (by assumption) (by decide))) ?_
      rw [pow_nat, show ((((ws P).map natD).length : Nat) : Int) = ((0 + P.length : Nat) : Int) by simp; (clear h10 h9 h7 h6 h5 h4 h2 h1 next htop hT8 hT2 hT1 h8 hdl hlv hl6 hl9 hB hX0 hds hx9 hx6 hX h3 hv2 hv hS hW ho he hT hK; lia)]
      refine price_body (P := P) (M := T) (by exact Nat.le_trans (by assumption) (by decide)) T (g := g.push env) hK (A := []) (S := P) (B := []) (by simp) (by show Al T 0 P (0 + 2 ^ T); rw [Nat.zero_add]; exact htop) (Nat.dvd_zero _) (by lia) ?_
      rw [prc_top hT2]
      repeat' walk_at "st"
      rw [show (((cost P : Nat) : Int) != ((cost P : Nat) : Int)) = false by simp]
      exact ⟨rfl, rfl⟩
    rintro ρ ⟨h1, h2, h4, h5, h6, h7⟩
    refine Ex.skipIf ?_ (Ex.nil ⟨rfl, hds, h1, h2, h4⟩)
    repeat' walk_at "st"
    refine Act2.item .lst (idx?_nat (k := 0)) (by simp) ?_ (fun _ _ => rfl)
    repeat' walk_at "st"
    refine Act2.item .lst (idx?_nat (k := 1)) (by simp) ?_ (fun _ _ => rfl)
    refine Act2.neSame rfl ((PyOk.lst (k := 0) fun d hd => ?_).le (by decide)) ?_
    · obtain ⟨p, _, rfl⟩ := List.mem_map.mp hd; exact .int
    exact TBool.of ⟨rfl, rfl⟩
  · rintro ρ ⟨_, h⟩
    exact ⟨rfl, rfl, h⟩
  · simp only [List.mem_cons, List.not_mem_nil, or_false] at hd
    rcases hd with rfl | rfl | rfl
    · exact ⟨W, v, rfl, hv, hW.1, hW.2⟩
    · exact ⟨W.reverse, v, rfl, hv.reverse _ rfl (fun z => by subst z; simp at hW), by simp; lia, by simp; lia⟩
    · exact ⟨S, v2, rfl, hv2, by lia, by lia⟩
end

open PySem PySem.W PySem.Calls PyProof.Rows
set_option maxRecDepth 20000
/-- lambda one: 2 * one -/
theorem keyDbl {g : Mine.G} {q : Str} {pa : Arguments} {body : Expr} {sc : Scope} {cd : Value} {x : Int} (hb : ∀ name cl pm ct (vs : List Value), vs.length = 1 → bindArgs (kla_fn name q pa body sc cl pm cd ct) ⟨vs, []⟩ = pure ((["one"] : List Str).zip vs))
    (hs : sc = { kind := .function, names := [("one", .local)], isGenerator := false, isCoroutine := false, more := [] }) (p1 p2 p3 : Pos) (hbody : body = .BinOp (.Constant (.int 2) 0 p1) .Mult (.Name "one" p2) p3) (m : Nat) : KeyOk g (m + 1) (.clo q pa body sc cd []) (.int x) (.int (2 * x)) := by
  subst hs hbody
  intro l μ Q h
  refine Calls.clo (nm := ["one"]) hb (by decide) (by decide) (by simp) rfl rfl rfl (by decide) ?_
  intro env L f cl he
  show Ev (G.push { g with stk := l } env) env [L] m (rho [("one", .int x)]) μ _ Q
  repeat' walk_at "st"
  refine Act2.mul (.of_left (by decide)) ?_
  exact h
/-- what lays behind all or ahead of all of a stretch -/
noncomputable def PutAt (g : Mine.G) (f key : D) : Prop := KeepD g f ∧ ∀ (e : Env) (n : Nat) (μ : Mu) (a : Addr) (row : List Int) (x : Int) (lo hi k : Nat) (Q : D → Mu → Prop), lo ≤ hi → hi ≤ row.length → row.length ≤ 1000 → (a, .ml (row.map .int)) ∈ μ →
  ((k = hi ∧ ∀ i, lo ≤ i → i < hi → row.getD i 0 < x) ∨ (k = lo ∧ ∀ i, lo ≤ i → i < hi → x < row.getD i 0)) → Q .none (setMu a (.ml (insAt k (.int x) (row.map .int))) μ) → Calls (g.push e) (n + 3) f [.val (.ref a), .int x, .int lo, .int hi] [("key", key)] μ Q
theorem bis_all {p : Nat → Bool} {lo hi k : Nat} (h : lo ≤ hi) (hp : (k = hi ∧ ∀ i, lo ≤ i → i < hi → p i = false) ∨ (k = lo ∧ ∀ i, lo ≤ i → i < hi → p i = true)) : bis p lo hi = k := by
  rcases hp with ⟨rfl, hp⟩ | ⟨rfl, hp⟩
  · exact bis_unique h (fun i j a b c d => by rw [hp i a (by exact Nat.lt_of_le_of_lt (by assumption) (by assumption))] at d; cases d) h (Nat.le_refl _) hp fun i a b => absurd a (by lia)
  · exact bis_unique h (fun i j a b c _ => hp j (by exact Nat.le_trans (by assumption) (by assumption)) c) (Nat.le_refl _) h (fun i a b => absurd a (by lia)) hp
theorem gt_all {row : List Int} {x : Int} {lo hi k : Nat} (hp : (k = hi ∧ ∀ i, lo ≤ i → i < hi → row.getD i 0 < x) ∨ (k = lo ∧ ∀ i, lo ≤ i → i < hi → x < row.getD i 0)) : (k = hi ∧ ∀ i, lo ≤ i → i < hi → gtAt row x i = false) ∨ (k = lo ∧ ∀ i, lo ≤ i → i < hi → gtAt row x i = true) :=
  hp.imp (fun ⟨a, b⟩ => ⟨a, fun i c d => by have := b i c d; unfold gtAt; rw [decide_eq_false_iff_not]; lia⟩) fun ⟨a, b⟩ => ⟨a, fun i c d => decide_eq_true (b i c d)⟩
theorem ge_all {row : List Int} {x : Int} {lo hi k : Nat} (hp : (k = hi ∧ ∀ i, lo ≤ i → i < hi → row.getD i 0 < x) ∨ (k = lo ∧ ∀ i, lo ≤ i → i < hi → x < row.getD i 0)) : (k = hi ∧ ∀ i, lo ≤ i → i < hi → geAt row x i = false) ∨ (k = lo ∧ ∀ i, lo ≤ i → i < hi → geAt row x i = true) :=
  hp.imp (fun ⟨a, b⟩ => ⟨a, fun i c d => by have := b i c d; unfold geAt; rw [decide_eq_true this]; rfl⟩) fun ⟨a, b⟩ => ⟨a, fun i c d => by have := b i c d; unfold geAt; rw [decide_eq_false (by lia)]; rfl⟩
theorem int_at {row : List Int} {i : Nat} {d : D} (h : (row.map D.int)[i]? = some d) : d = .int (row.getD i 0) := by
  rw [List.getElem?_map] at h
  cases hi : row[i]? with
  | none => rw [hi] at h; cases h
  | some y => rw [hi] at h; cases h; rw [List.getD_eq_getElem?_getD, hi]; rfl
section
variable {g : G} (hK : g.K = hd.heap_39 g.w.params)
include hK
theorem putAt_right : PutAt g (.val (.ref 23)) .none := ⟨KeepD.fn (by rw [hK]; rfl), fun e n μ a row x lo hi k Q h1 h2 h3 hm hp h => by
  refine insR_body (g := g.push e) hK (p := gtAt row x) (lo := lo) (hi := hi) (BB.ok (g := g.push e) hK (by constructor)) hm (by simp; exact Nat.le_trans (by assumption) (by decide)) h1 (by simpa using h2) (.inl rfl) gtAt_ok ?_
  rw [bis_all h1 (gt_all hp)]; exact h⟩
theorem putAt_left : PutAt g (.val (.ref 41)) .none := ⟨KeepD.fn (by rw [hK]; rfl), fun e n μ a row x lo hi k Q h1 h2 h3 hm hp h => by
  refine insL_body (g := g.push e) hK (p := geAt row x) (lo := lo) (hi := hi) (BB.ok (g := g.push e) hK (by constructor)) hm (by simp; exact Nat.le_trans (by assumption) (by decide)) h1 (by simpa using h2) (.inl rfl) geAt_ok ?_
  rw [bis_all h1 (ge_all hp)]; exact h⟩
theorem putAt_rightK {kd : D} (hn : isNone kd = some false) (hk : KeepD g kd) (hy : ∀ (g' : Mine.G) m (x : Int), KeyOk g' (m + 1) kd (.int x) (.int (2 * x))) : PutAt g (.val (.ref 23)) kd := ⟨KeepD.fn (by rw [hK]; rfl), fun e n μ a row x lo hi k Q h1 h2 h3 hm hp h => by
  refine insRk_body (g := g.push e) hK (p := gtAt row x) (lo := lo) (hi := hi) (ex := .int (2 * x)) (BB.ok (g := g.push e) hK (by constructor)) hm (by simp; exact Nat.le_trans (by assumption) (by decide)) h1 (by simpa using h2) (.inl rfl) hn hk (fun m => hy _ m x) (fun i d hd => ?_) ?_
  · obtain rfl := int_at hd
    refine ⟨_, fun m => hy _ m _, ?_⟩
    rw [show gtAt row x i = decide (2 * x < 2 * row.getD i 0) by unfold gtAt; rw [decide_eq_decide]; lia]; exact LtOk.int
  · rw [bis_all h1 (gt_all hp)]; exact h⟩
theorem putAt_leftK {kd : D} (hn : isNone kd = some false) (hk : KeepD g kd) (hy : ∀ (g' : Mine.G) m (x : Int), KeyOk g' (m + 1) kd (.int x) (.int (2 * x))) : PutAt g (.val (.ref 41)) kd := ⟨KeepD.fn (by rw [hK]; rfl), fun e n μ a row x lo hi k Q h1 h2 h3 hm hp h => by
  refine insLk_body (g := g.push e) hK (p := geAt row x) (lo := lo) (hi := hi) (ex := .int (2 * x)) (BB.ok (g := g.push e) hK (by constructor)) hm (by simp; exact Nat.le_trans (by assumption) (by decide)) h1 (by simpa using h2) (.inl rfl) hn hk (fun m => hy _ m x) (fun i d hd => ?_) ?_
  · obtain rfl := int_at hd
    refine ⟨_, fun m => hy _ m _, ?_⟩
    rw [show (!geAt row x i) = decide (2 * row.getD i 0 < 2 * x) by unfold geAt; rw [Bool.not_not, decide_eq_decide]; lia]; exact LtOk.int
  · rw [bis_all h1 (ge_all hp)]; exact h⟩
variable (hT : g.tabs = tabs3)
include hT
theorem law_p5 {S : List Nat} {v2 : Nat} {n : Nat} {μ : Mu} {env : Env} {own : List Addr} {L : Addr} {ρ : Str → Option D} (he : env = callEnvC (lawFd g.w.params) L 100) (ho : own = ownOf (lawFd g.w.params) L) (hS : 6 ≤ S.length ∧ S.length ≤ 9)
    (hs : S.Pairwise (· ≤ ·)) (hv2 : GW.IsLeast S v2) (h2 : ρ "rising" = some (.lst (S.map natD))) (h4 : ρ "fewest" = some (natD v2))
    (next : ExB (g.push env) env own (n + 100) ρ μ ((lawStmts g.w.params).drop 8) QT) :
    ExB (g.push env) env own (n + 100) ρ μ ((lawStmts g.w.params).drop 7) QT := by
  have hne : S ≠ [] := fun z => by subst z; simp at hS
  refine ExB.skipIf ?_ next
  repeat' walk_at "st"
  refine Ev.list ?_
  repeat' walk_at "st"
  refine gather_body (g := g.push env) hK (n := n + 94) (put_left (g := g.push env) hK) hs hv2 hne (by lia) ?_
  repeat' walk_at "st"
  refine gather_body (g := g.push env) hK (n := n + 94) (put_right (g := g.push env) hK) hs hv2 hne (by lia) ?_
  repeat' walk_at "st"
  refine Ev.list ?_
  repeat' walk_at "st"
  refine Act2.neSame rfl ((PyOk.ints (l := [((v2 : Nat) : Int), ((v2 : Nat) : Int)])).le (by decide)) ?_
  exact TBool.of ⟨rfl, rfl⟩
end

open PySem PySem.W PySem.Calls PyProof.Rows
set_option maxRecDepth 20000
/-- what the names of law's sixth part hold -/
inductive P6I (g : G) (W S : List Nat) (M : Mu) (ds : List D) (ρ : Str → Option D) (M' : Mu) : Prop
  | mk (hM : M' = M) (hds : ∀ d ∈ ds, ∃ f key, d = .tup [f, key] ∧ PutAt g f key) (h1 : ρ "weights" = some (.lst (W.map natD))) (h2 : ρ "rising" = some (.lst (S.map natD)))
inductive P6Q (W S : List Nat) (ρ : Str → Option D) (M : Mu) : Prop
  | mk (c1 c2 : Addr) (hM : (97, .tb 99 [rawInt 136, rawInt 0, .ref c1, rawInt 137, rawInt 0, .ref c2]) ∈ M) (h1 : ρ "weights" = some (.lst (W.map natD))) (h2 : ρ "rising" = some (.lst (S.map natD)))
section
variable {g : G} (hK : g.K = hd.heap_39 g.w.params) (hT : g.tabs = tabs3)
include hK hT
set_option maxHeartbeats 1000000 in
theorem law_p6 {W S : List Nat} {n : Nat} {μ : Mu} {env : Env} {own : List Addr} {L : Addr} {ρ : Str → Option D} (he : env = callEnvC (lawFd g.w.params) L 100) (ho : own = ownOf (lawFd g.w.params) L) (htb : (97, .tb 99 []) ∈ μ) (hS : 6 ≤ S.length ∧ S.length ≤ 9)
    (hs : S.Pairwise (· ≤ ·)) (h1 : ρ "weights" = some (.lst (W.map natD))) (h2 : ρ "rising" = some (.lst (S.map natD)))
    (next : ∀ ρ M c1 c2, (97, .tb 99 [rawInt 136, rawInt 0, .ref c1, rawInt 137, rawInt 0, .ref c2]) ∈ M → ρ "weights" = some (.lst (W.map natD)) → ρ "rising" = some (.lst (S.map natD)) → ExB (g.push env) env own (n + 100) ρ M ((lawStmts g.w.params).drop 9) QT) :
    ExB (g.push env) env own (n + 100) ρ μ ((lawStmts g.w.params).drop 8) QT := by
  have hcode : env.code = .ref 99 := by subst he; rfl
  refine ExB.seq (P6Q W S) ?_ (by rintro ρ M ⟨c1, c2, a, b, c⟩; exact next ρ M c1 c2 a b c)
  refine Ex1.for (by exact Nat.le_add_left _ _) (EvI.tuple ?_)
  repeat' walk_at "st"
  refine Ev.lambdaX (P := 97) (c := 99) hcode (by walk_at "mem") (by first | rfl | decide) (by subst he; rfl) (by decide) (caps := []) (by subst he; exact .nil) fun c1 P1 hP1 => ?_
  repeat' walk_at "st"
  refine Ev.lambdaX (P := 97) (c := 99) hcode (by walk_at "mem") (by first | rfl | decide) (by subst he; rfl) (by decide) (caps := []) (by subst he; exact .nil) fun c2 P2 hP2 => ?_
  repeat' walk_at "st"
  refine ⟨_, rfl, ?_⟩
  refine ForL.gen (fun M => (97, .tb 99 [rawInt 136, rawInt 0, .ref c1, rawInt 137, rawInt 0, .ref c2]) ∈ M) (.tail _ (setMu_has (.tail _ (setMu_has htb)))) ?_
  intro M hM
  refine ForL.run (I := P6I g W S M) ?_ ?_ _ ⟨rfl, fun d hd => ?_, h1, h2⟩
  · rintro d ds ρ M' ⟨rfl, hds, h1, h2⟩
    obtain ⟨f, key, rfl, hf⟩ := hds d (.head _)
    have hds := fun d hd => hds d (.tail _ hd)
    obtain ⟨S', l, hSl⟩ := GW.snoc (A := S) (fun z => by subst z; simp at hS)
    have hlast : idx? (S.map natD) (-1) = some (natD l) := by rw [hSl, List.map_append]; exact idx_last
    have hle : ∀ y ∈ S, y ≤ l := fun y hy => by
      rw [hSl] at hy hs
      rcases List.mem_append.mp hy with q | q
      · exact (List.pairwise_append.mp hs).2.2 y q l (.head _)
      · simp at q; lia
    match S, hS with
    | a :: b :: c :: T, hS =>
    simp only [List.length_cons] at hS
    have hb := hle b (by simp)
    have hc := hle c (by simp)
    clear hle hSl hs
    have e0 : (a :: b :: c :: T).map natD = (((a : Int) :: (b : Int) :: (c : Int) :: T.map fun (x : Nat) => (x : Int))).map D.int := by
      simp only [List.map_cons, List.map_map]; rfl
    have hTl : (T.map fun (x : Nat) => (x : Int)).length = T.length := List.length_map ..
    have h2' := h2
    rw [e0] at h2 hlast
    generalize (T.map fun (x : Nat) => (x : Int)) = Ti at h2 hlast hTl
    refine .tup (.cons (by walk_at "bind") (.cons (by walk_at "bind") (.nil ?_)))
    repeat' walk_at "st"
    refine Act2.sliceM .lst (by decide) (by simp; lia) ?_ ops_plain
    intro t ht
    rw [dpick_all]
    repeat' walk_at "st"
    refine Ex1.expr ?_
    repeat' walk_at "st"
    refine ⟨hf.1, ?_⟩
    repeat' walk_at "st"
    refine Act2.item .lst hlast (by simp; lia) ?_ (fun _ _ => rfl)
    repeat' walk_at "st"
    refine hf.2 env (n + 97) _ t ((a : Int) :: b :: c :: Ti) ((l : Int) + 1) 1 3 3 _ (by decide) (by simp) (by simp; lia) mem_hd (.inl ⟨rfl, fun i i1 i2 => ?_⟩) ?_
    · match i, i1, i2 with
      | 1, _, _ => show (b : Int) < (l : Int) + 1; lia
      | 2, _, _ => show (c : Int) < (l : Int) + 1; lia
      | i + 3, _, i2 => lia
    rw [setMu_hit]
    refine ⟨rfl, next_of ?_⟩
    refine Ex.cons (Ex1.expr ?_)
    repeat' walk_at "st"
    refine ⟨hf.1, ?_⟩
    repeat' walk_at "st"
    refine hf.2 env (n + 97) _ t ((a : Int) :: b :: c :: ((l : Int) + 1) :: Ti) (-1) 2 4 2 _ (by decide) (by simp) (by simp; lia) mem_hd (.inr ⟨rfl, fun i i1 i2 => ?_⟩) ?_
    · match i, i1, i2 with
      | 2, _, _ => show (-1 : Int) < (c : Int); lia
      | 3, _, _ => show (-1 : Int) < (l : Int) + 1; lia
      | i + 4, _, i2 => lia
    rw [setMu_hit]
    refine ⟨rfl, next_of ?_⟩
    refine Ex.freeze (reUpd (x := "line") (by walk_at "rho") .hit) ?_
    refine Ex.skipIf ?_ (Ex.nil ⟨rfl, hds, by walk_at "rho", by walk_at "rho"⟩)
    repeat' walk_at "st"
    refine ⟨_, rfl, ?_⟩
    refine Act2.slice .lst (by decide) (by simp; lia) ?_ ops_plain
    refine Ev.list ?_
    repeat' walk_at "st"
    refine Act2.item .lst (idx?_nat (k := 2)) (by simp; lia) ?_ (fun _ _ => rfl)
    repeat' walk_at "st"
    refine Act2.item .lst hlast (by simp; lia) ?_ (fun _ _ => rfl)
    repeat' walk_at "st"
    rw [show dpick (((a : Int) :: (b : Int) :: (c : Int) :: Ti).map D.int) Option.none (some 2) Option.none = (((a : Int) :: (b : Int) :: (c : Int) :: Ti).map D.int).take 2 from dpick_upto _ 2]
    refine Act2.cat .lst .lst (by simp) ?_
    repeat' walk_at "st"
    refine ⟨_, rfl, ?_⟩
    refine Act2.slice .lst (by decide) (by simp; lia) ?_ ops_plain
    rw [show dpick (((a : Int) :: (b : Int) :: (c : Int) :: Ti).map D.int) (some 3) Option.none Option.none = (((a : Int) :: (b : Int) :: (c : Int) :: Ti).map D.int).drop 3 from dpick_from _ 3]
    refine Act2.cat .lst .lst (by simp; lia) ?_
    refine Act2.neSame rfl ((PyOk.ints (l := (a : Int) :: b :: (-1) :: c :: ((l : Int) + 1) :: Ti)).le (by decide)) ?_
    exact TBool.of ⟨rfl, rfl⟩
  · rintro ρ M' ⟨rfl, _, h1, h2⟩
    exact ⟨rfl, c1, c2, hM, h1, h2⟩
  · simp only [List.mem_cons, List.not_mem_nil, or_false] at hd
    rcases hd with rfl | rfl | rfl | rfl
    · exact ⟨_, _, rfl, putAt_left hK⟩
    · exact ⟨_, _, rfl, putAt_right hK⟩
    · exact ⟨_, _, rfl, putAt_leftK hK rfl KeepD.clo fun g' m x => keyDbl (by rintro _ _ _ _ (_ | ⟨v, _ | _⟩) hv <;> first | rfl | cases hv) rfl _ _ _ rfl m⟩
    · exact ⟨_, _, rfl, putAt_rightK hK rfl KeepD.clo fun g' m x => keyDbl (by rintro _ _ _ _ (_ | ⟨v, _ | _⟩) hv <;> first | rfl | cases hv) rfl _ _ _ rfl m⟩
end

open PySem PySem.W PySem.Calls PyProof.Rows
set_option maxRecDepth 20000
/-- lambda weight: weight -/
theorem keyId {g : Mine.G} {q : Str} {pa : Arguments} {body : Expr} {sc : Scope} {cd : Value} {x : D} (hb : ∀ name cl pm ct (vs : List Value), vs.length = 1 → bindArgs (kla_fn name q pa body sc cl pm cd ct) ⟨vs, []⟩ = pure ((["weight"] : List Str).zip vs))
    (hs : sc = { kind := .function, names := [("weight", .local)], isGenerator := false, isCoroutine := false, more := [] }) (p1 : Pos) (hbody : body = .Name "weight" p1) (m : Nat) : KeyOk g (m + 1) (.clo q pa body sc cd []) x x := by
  subst hs hbody
  intro l μ Q h
  refine Calls.clo (nm := ["weight"]) hb (by decide) (by decide) (by simp) rfl rfl rfl (by decide) ?_
  intro env L f cl he
  show Ev (G.push { g with stk := l } env) env [L] m (rho [("weight", x)]) μ _ Q
  repeat' walk_at "st"
  exact h
section
variable {g : G} {env : Env} {own : List Addr} {n : Nat} {ρ : Str → Option D} {μ : Mu}
theorem CompL.one {x : Str} {p : Pos} {elt : Expr} {K : CK} {d : D} {ds acc : List D} (hb : Bindable env own x) (hl : acc.length ≤ 1000)
    (h : Ev g env own n (upd ρ x d) μ elt fun v μ' => CompL g env own n (CompG g env own n elt []) (.Name x p) [] ds (upd ρ x d) μ' (acc ++ [v]) K) : CompL g env own n (CompG g env own n elt []) (.Name x p) [] (d :: ds) ρ μ acc K :=
  .name hb (show (true = true → _) ∧ (true = false → _) from ⟨fun _ => ⟨by exact Nat.le_trans (by assumption) (by decide), h⟩, fun e => nomatch e⟩)
theorem CompL.done {x : Str} {p : Pos} {elt : Expr} {K : CK} {acc : List D} (h : K acc ρ μ) : CompL g env own n (CompG g env own n elt []) (.Name x p) [] [] ρ μ acc K := h
end
section
variable {g : G} (hK : g.K = hd.heap_39 g.w.params) (hT : g.tabs = tabs3)
include hK hT
set_option maxHeartbeats 1000000 in
theorem law_p7 {W S : List Nat} {n : Nat} {μ : Mu} {env : Env} {own : List Addr} {L c1 c2 : Addr} {ρ : Str → Option D} (he : env = callEnvC (lawFd g.w.params) L 100) (ho : own = ownOf (lawFd g.w.params) L) (htb : (97, .tb 99 [rawInt 136, rawInt 0, .ref c1, rawInt 137, rawInt 0, .ref c2]) ∈ μ) (hS : 6 ≤ S.length ∧ S.length ≤ 9)
    (hs : S.Pairwise (· ≤ ·)) (hp : S.Perm W) (h1 : ρ "weights" = some (.lst (W.map natD))) (h2 : ρ "rising" = some (.lst (S.map natD))) :
    ExB (g.push env) env own (n + 100) ρ μ ((lawStmts g.w.params).drop 9) QT := by
  have hW : 6 ≤ W.length ∧ W.length ≤ 9 := by rw [← hp.length_eq]; exact hS
  obtain ⟨w, W, rfl⟩ := List.exists_cons_of_length_pos (l := W) (by lia)
  have hcode : env.code = .ref 99 := by subst he; rfl
  have hclR : env.cells.lookup ("rising" : Str) = some (L + 3) := by subst he; rfl
  have hclW : env.cells.lookup ("weights" : Str) = some (L + 4) := by subst he; rfl
  have hkR : env.kindOf ("rising" : Str) = some .cell := by walk_at "kind"
  have hkW : env.kindOf ("weights" : Str) = some .cell := by walk_at "kind"
  have hkR' : env.kindOf ("rising" : Str) ≠ some .local := fun z => by rw [hkR] at z; cases z
  have hkW' : env.kindOf ("weights" : Str) ≠ some .local := fun z => by rw [hkW] at z; cases z
  have hown : ∀ {x : Str} {c : Addr}, env.cells.lookup x = some c → c ∈ own := fun {x c} hl => by subst ho; subst he; exact .tail _ (List.mem_map_of_mem (f := (·.2)) (lookup_mem hl))
  refine ExB.freezeCell (x := "rising") h2 hkR (fun c hl hc => ?_) (fun c hl => hown hl)
  rw [hclR] at hl; cases hl
  refine ExB.freezeCell (x := "weights") h1 hkW (fun c hl hc => ?_) (fun c hl => List.mem_filter.mpr ⟨hown hl, by rw [hclW] at hl; cases hl; simp⟩)
  rw [hclW] at hl; cases hl
  have hfR : L + 3 ∈ (((g.push env).cellF (L + 3)).cellF (L + 4)).fcs := .tail _ (.head _)
  have hfW : L + 4 ∈ (((g.push env).cellF (L + 3)).cellF (L + 4)).fcs := .head _
  refine ExB.of ?_
  refine Ex.cons (Ex1.assign (Ev.listM ?_) (by walk_at "bind") rfl)
  repeat' walk_at "st"
  refine Ev.lambdaX (P := 97) (c := 99) hcode (by walk_at "mem") (by first | rfl | decide) (by subst he; rfl) (by decide) (caps := [("weights", .lst ((w :: W).map natD)), ("rising", .lst (S.map natD))]) (by
    show Caps _ env _ (closGo env.cells [(("rising" : Str), NameKind.free), (("weights" : Str), NameKind.free), _] []) _
    subst he; exact .cons (by walk_at "rho") hfW rfl hkW' (.cons (by walk_at "rho") hfR rfl hkR' .nil)) fun d1 P1 hP1 => ?_
  repeat' walk_at "st"
  refine Ev.lambdaX (P := 97) (c := 99) hcode (by walk_at "mem") (by first | rfl | decide) (by subst he; rfl) (by decide) (caps := [("weights", .lst ((w :: W).map natD)), ("rising", .lst (S.map natD))]) (by
    show Caps _ env _ (closGo env.cells [(("rising" : Str), NameKind.free), (("weights" : Str), NameKind.free), _] []) _
    subst he; exact .cons (by walk_at "rho") hfW rfl hkW' (.cons (by walk_at "rho") hfR rfl hkR' .nil)) fun d2 P2 hP2 => ?_
  repeat' walk_at "st"
  intro t ht
  repeat' walk_at "st"
  have n97 : (97 : Addr) ≠ t := fun z => ht (z ▸ mem_dom (p := (97, .tb 99 _)) (by walk_at "mem"))
  have nP2 : P2 ≠ t := fun z => ht (z ▸ mem_dom (p := (P2, .tb d2 [])) (by walk_at "mem"))
  have nP97 : (97 : Addr) ≠ P2 := fun z => hP2 (z ▸ mem_dom (p := (97, .tb 99 _)) (by walk_at "mem"))
  refine Ex1.expr (Ev.meth (id := "list.extend") ?_ PySem.F.slot_list_extend PySem.F.type_list_extend)
  repeat' walk_at "st"
  refine ⟨⟨_, .mu mem_hd⟩, ?_⟩
  repeat' walk_at "st"
  refine Ev.list ?_
  repeat' walk_at "st"
  refine Ev.lambdaX (P := 97) (c := 99) hcode (by walk_at "mem") (by first | rfl | decide) (by subst he; rfl) (by decide) (caps := [("rising", .lst (S.map natD))]) (by
    show Caps _ env _ (closGo env.cells [(("rising" : Str), NameKind.free), _] []) _
    subst he; exact .cons (by walk_at "rho") hfR rfl hkR' .nil) fun d3 P3 hP3 => ?_
  repeat' walk_at "st"
  refine Ev.lambdaX (P := 97) (c := 99) hcode (by walk_at "mem") (by first | rfl | decide) (by subst he; rfl) (by decide) (caps := [("rising", .lst (S.map natD))]) (by
    show Caps _ env _ (closGo env.cells [(("rising" : Str), NameKind.free), _] []) _
    subst he; exact .cons (by walk_at "rho") hfR rfl hkR' .nil) fun d4 P4 hP4 => ?_
  repeat' walk_at "st"
  refine Calls.extend (.tail _ (setMu_keep (.tail _ (setMu_keep (.head _) n97.symm)) n97.symm)) rfl (by simp) (by simp) ?_
  refine ⟨rfl, next_of ?_⟩
  have nP4 := ne_fresh hP4 (p := (t, .ml _)) (.tail _ (setMu_keep (.head _) n97.symm))
  have nP42 := ne_fresh hP4 (p := (P2, .tb d2 [])) (.tail _ (setMu_keep (.tail _ (.head _)) nP97.symm))
  have nP497 := ne_fresh hP4 (p := (97, .tb 99 _)) (.tail _ (setMu_has (.tail _ (.tail _ (setMu_has (.tail _ (setMu_has htb)))))))
  refine Ex.freezeMem (a := t) (setMu_has (.tail _ (setMu_keep (.tail _ (setMu_keep (.head _) n97.symm)) n97.symm))) (reUpd (x := "deeds") (by walk_at "rho") .hit) fun M hM => ?_
  have fM : ∀ {p : Addr × MO} {ds : List D}, p ∈ (t, .ml ds) :: M → (∀ es, p.2 ≠ .ml es) → p ∈ M := fun {p ds} h hn => by
    rcases List.mem_cons.mp h with rfl | h
    · exact (hn _ rfl).elim
    · exact h
  have f2 : (P2, .tb d2 []) ∈ M := fM (hM.mem_iff.mpr (setMu_keep (.tail _ (setMu_keep (.tail _ (setMu_keep (.tail _ (.head _)) nP97.symm)) nP97.symm)) nP2)) (fun _ z => nomatch z)
  have f4 : (P4, .tb d4 []) ∈ M := fM (hM.mem_iff.mpr (setMu_keep (.head _) nP4.symm)) (fun _ z => nomatch z)
  have f97 : ∃ ps, (97, MO.tb 99 ps) ∈ M := ⟨_, fM (hM.mem_iff.mpr (setMu_keep (.tail _ (setMu_has (.tail _ (setMu_has (.tail _ (.tail _ (setMu_has (.tail _ (setMu_has htb))))))))) n97)) (fun _ z => nomatch z)⟩
  clear hM fM
  refine Ex.cons (Ex1.ret (Ev.and ?_))
  repeat' walk_at "st"
  walk_at "comp"
  refine EvI.list ?_
  repeat' walk_at "st"
  refine ⟨_, rfl, ?_⟩
  intro cenv C hce
  refine CompL.one (by walk_at "bind") (by simp) ?_
  repeat' walk_at "st"
  refine refused_body (g := ((g.push env).cellF (L + 3)).cellF (L + 4)) hK (n := n + 89) (P := fun M => (P2, .tb d2 []) ∈ M ∧ (P4, .tb d4 []) ∈ M ∧ ∃ ps, (97, MO.tb 99 ps) ∈ M) KeepD.clo (fun env0 => ?_) (fun M hM => ?_)
  · refine CallsR.clo (nm := []) (by rintro _ _ _ _ (_ | _) hv <;> first | rfl | cases hv) (by simp) (by simp) (by rintro p hp; simp only [List.mem_cons, List.not_mem_nil, or_false] at hp; rcases hp with rfl | rfl <;> rfl) rfl rfl rfl (by decide) ?_
    intro env1 L1 fx1 cl1 he1
    show RaisesE _ env1 [L1] _ (rho [("weights", .lst ((w :: W).map natD)), ("rising", .lst (S.map natD))]) _ _ _ _
    refine RaisesE.call ?_
    repeat' walk_at "st"
    refine Act2.item .lst (idx?_nat (k := 0)) (by simp only [List.length_map]; lia) ?_ (fun _ _ => rfl)
    repeat' walk_at "st"
    exact insR_neg (g := (((((g.push env).cellF (L + 3)).cellF (L + 4)).push env0).push env1)) hK (BB.ok hK (by constructor)) (by decide) ⟨f2, f4, f97⟩
  obtain ⟨f2, f4, f97⟩ := hM
  refine CompL.one (by walk_at "bind") (by simp) ?_
  repeat' walk_at "st"
  refine refused_body (g := ((g.push env).cellF (L + 3)).cellF (L + 4)) hK (n := n + 89) (P := fun M => (P4, .tb d4 []) ∈ M ∧ ∃ ps, (97, MO.tb 99 ps) ∈ M) KeepD.clo (fun env0 => ?_) (fun M hM => ?_)
  · refine CallsR.clo (nm := []) (by rintro _ _ _ _ (_ | _) hv <;> first | rfl | cases hv) (by simp) (by simp) (by rintro p hp; simp only [List.mem_cons, List.not_mem_nil, or_false] at hp; rcases hp with rfl | rfl <;> rfl) rfl rfl rfl (by decide) ?_
    intro env1 L1 fx1 cl1 he1
    show RaisesE _ env1 [L1] _ (rho [("weights", .lst ((w :: W).map natD)), ("rising", .lst (S.map natD))]) _ _ _ _
    refine RaisesE.call ?_
    repeat' walk_at "st"
    refine Act2.item .lst (idx?_nat (k := 0)) (by simp only [List.length_map]; lia) ?_ (fun _ _ => rfl)
    repeat' walk_at "st"
    have hcode1 : env1.code = .ref d2 := by subst he1; rfl
    refine Ev.lambdaX (P := P2) (c := d2) hcode1 (by walk_at "mem") (by rfl) (by subst he1; rfl) (by decide) (caps := []) (by subst he1; exact .nil) fun ci Pi hPi => ?_
    repeat' walk_at "st"
    obtain ⟨ps, f97⟩ := f97
    exact insLk_neg (g := (((((g.push env).cellF (L + 3)).cellF (L + 4)).push env0).push env1)) hK (ex := natD w) (BB.ok hK (by constructor)) (by decide) rfl KeepD.clo (fun m => keyId (by rintro _ _ _ _ (_ | ⟨v, _ | _⟩) hv <;> first | rfl | cases hv) rfl _ rfl m)
      ⟨.tail _ (setMu_keep f4 nP42.symm), ps, .tail _ (setMu_keep f97 nP97)⟩
  obtain ⟨f4, f97⟩ := hM
  refine CompL.one (by walk_at "bind") (by simp) ?_
  repeat' walk_at "st"
  refine refused_body (g := ((g.push env).cellF (L + 3)).cellF (L + 4)) hK (n := n + 89) (P := fun M => (P4, .tb d4 []) ∈ M ∧ ∃ ps, (97, MO.tb 99 ps) ∈ M) KeepD.clo (fun env0 => ?_) (fun M hM => ?_)
  · refine CallsR.clo (nm := []) (by rintro _ _ _ _ (_ | _) hv <;> first | rfl | cases hv) (by simp) (by simp) (by rintro p hp; simp only [List.mem_cons, List.not_mem_nil, or_false] at hp; rcases hp with rfl; rfl) rfl rfl rfl (by decide) ?_
    intro env1 L1 fx1 cl1 he1
    show RaisesE _ env1 [L1] _ (rho [("rising", .lst (S.map natD))]) _ _ _ _
    refine RaisesE.call ?_
    repeat' walk_at "st"
    exact bisL_neg (g := (((((g.push env).cellF (L + 3)).cellF (L + 4)).push env0).push env1)) hK (BB.ok hK (by constructor)) (by decide) ⟨f4, f97⟩
  obtain ⟨f4, f97⟩ := hM
  refine CompL.one (by walk_at "bind") (by simp) ?_
  repeat' walk_at "st"
  refine refused_body (g := ((g.push env).cellF (L + 3)).cellF (L + 4)) hK (n := n + 89) (P := fun M => ∃ ps, (97, MO.tb 99 ps) ∈ M) KeepD.clo (fun env0 => ?_) (fun M hM => ?_)
  · refine CallsR.clo (nm := []) (by rintro _ _ _ _ (_ | _) hv <;> first | rfl | cases hv) (by simp) (by simp) (by rintro p hp; simp only [List.mem_cons, List.not_mem_nil, or_false] at hp; rcases hp with rfl; rfl) rfl rfl rfl (by decide) ?_
    intro env1 L1 fx1 cl1 he1
    show RaisesE _ env1 [L1] _ (rho [("rising", .lst (S.map natD))]) _ _ _ _
    refine RaisesE.call ?_
    repeat' walk_at "st"
    have hcode1 : env1.code = .ref d4 := by subst he1; rfl
    refine Ev.lambdaX (P := P4) (c := d4) hcode1 (by walk_at "mem") (by rfl) (by subst he1; rfl) (by decide) (caps := []) (by subst he1; exact .nil) fun ci Pi hPi => ?_
    repeat' walk_at "st"
    obtain ⟨ps, f97⟩ := f97
    exact bisR_neg (g := (((((g.push env).cellF (L + 3)).cellF (L + 4)).push env0).push env1)) hK (BB.ok hK (by constructor)) (by decide) ⟨ps, .tail _ (setMu_keep f97 nP497)⟩
  refine CompL.done ?_
  repeat' walk_at "st"
  refine Ev.list ?_
  repeat' walk_at "st"
  refine Act2.rep .lst (by decide) (by simp) (by decide) ?_
  refine Act2.eqSame rfl (PyOk.le (k := 1) (PyOk.lst fun d hd => ?_) (by decide)) ?_
  · simp only [List.nil_append, List.cons_append, List.mem_cons, List.not_mem_nil, or_false, or_self] at hd
    subst hd; exact PyOk.str (by first | rfl | decide +kernel)
  refine ⟨true, rfl, fun _ => ?_, fun h => nomatch h⟩
  refine Ev.and1 ?_
  refine Ev.cmp ?_ (by with_unfolding_all rfl)
  repeat' walk_at "st"
  refine Calls.sortedInts (ns := (w :: W).map fun (x : Nat) => (x : Int)) (by rw [List.map_map]; exact .lst) (by simp only [List.length_map]; lia) fun ns' np ns => ?_
  have e : ns' = S.map fun (x : Nat) => (x : Int) := by
    refine (np.trans (hp.map _).symm).eq_of_pairwise (fun a b _ _ h1 h2 => by lia) ns (List.pairwise_map.mpr (hs.imp fun h => by lia))
  rw [e, List.map_map]
  have hpy : PyOk 20 (.lst (S.map natD)) := by
    have := (PyOk.ints (l := S.map fun (x : Nat) => (x : Int))).le (show 1 ≤ 20 by decide)
    rw [List.map_map] at this; exact this
  refine Act2.eqSame rfl hpy ?_
  exact ret_of ⟨rfl, hM⟩
end

open PySem PySem.W PySem.Calls PyProof.Rows
set_option maxRecDepth 20000
section
variable {g : G} (hK : g.K = hd.heap_39 g.w.params) (hT : g.tabs = tabs3)
include hK hT
theorem law_whole {script : List Int} {n : Nat} {μ : Mu} (hs : script.length ≤ 63) (htb : (97, .tb 99 []) ∈ μ) :
    Calls g (n + 101) (.val (.ref 100)) [.lst (script.map .int)] [] μ (fun d μ' => d = .bool true ∧ ∃ ps, (97, MO.tb 99 ps) ∈ μ') := by
  refine' Calls.enterB (fa := 100) (hK := ?a) (hfo := ?b) (hbody := ?c) (hclo := ?d) (hglob := ?e) (hblt := ?f) (hcode := ?gg) (hco := ?h) (hgen := ?i) (hk := ?j)
    (bd := [("script", .lst (script.map .int))]) ?bb (nm := ["script"]) (hnm := rfl) (hnames := ?k) (by decide) (hcn := ?l) ?_
  case a => rw [hK]; rfl
  case b => rfl
  case c => rfl
  case d => rfl
  case e => rfl
  case f => rfl
  case gg => rw [hK]; rfl
  case h => rfl
  case i => rfl
  case j => rfl
  case k => rfl
  case l => decide
  case bb => exact (BB.ok (fa := 100) hK (by constructor)) _ _ (by rw [hK]; rfl) rfl
  intro env own L he ho
  refine ExB.mono (law_p1 hK hT he ho hs ?_) fun f μ' h => by obtain ⟨rfl, h⟩ := h; exact ⟨rfl, h⟩
  intro ρ F sF pF h1 h2
  have hW := wts_len script
  refine law_p2 hK hT he ho hW sF pF h1 h2 ?_
  intro ρ S sp ss h1 h2
  have hS := sp.length_eq
  refine law_p3 hK hT he ho hW hS h1 h2 ?_
  intro ρ v v2 hv hv2 h1 h2 h3 h4
  refine law_p4 hK hT he ho hW hS hv hv2 h1 h2 h3 h4 ?_
  intro ρ h1 h2 h4
  refine law_p5 hK hT he ho (by (clear h4 h2 h1 h3 hv2 hv ss sp pF sF ho he htb hs hT hK; lia)) ss hv2 h2 h4 ?_
  refine law_p6 hK hT he ho htb (by lia) ss h1 h2 ?_
  intro ρ M c1 c2 h97 h1 h2
  exact law_p7 hK hT he ho h97 (by lia) ss sp h1 h2
end

open PySem PySem.W PySem.Calls PyProof.Rows
set_option maxRecDepth 20000
theorem wellAll_ints {P : Params} {h : Heap} {F : FM} : ∀ {vs : List Value} {ns : List Int}, WellAll P h vs (ofPys (ns.map PyData.int)) → SeesAll F vs (ns.map D.int)
  | [], [], _ => .nil
  | [], _ :: _, w => by cases w
  | _ :: _, [], w => by cases w
  | v :: vs, n :: ns, w => by
    cases w with
    | cons a b => cases a; exact .cons (.int _ _) (wellAll_ints b)

/-- the heap without the code tables -/
noncomputable abbrev baseOf (h : Heap) (as : List Addr) : Heap := hideAll h as
theorem baseOf_get {h : Heap} {as : List Addr} (hT : ∀ P ∈ as, h.get? P = some (tabObj #[])) {b : Addr} {o : Obj} (e : h.get? b = some o) (hn : ∀ vs, o.data ≠ .fields vs) : (baseOf h as).get? b = some o :=
  hideAll_get _ e fun q => by have := hT b q; rw [e] at this; cases this; exact hn _ rfl
theorem baseOf_ns {h : Heap} {as : List Addr} (hT : ∀ P ∈ as, h.get? P = some (tabObj #[])) {b : Addr} {m} (e : h.Ns b m) : (baseOf h as).Ns b m := by
  obtain ⟨o, es, ep, e, d, r⟩ := e
  exact ⟨o, es, ep, baseOf_get hT e (fun vs q => by rw [d] at q; cases q), d, r⟩
theorem baseOf_top {p : Program} {loose : List Str} {mean : ExcName → Option Value} {mg mb : Str → Option Value} {h : Heap} {as : List Addr} (T : Top p loose mean mg mb h) (hT : ∀ P ∈ as, h.get? P = some (tabObj #[])) : TopRead p loose mg mb (baseOf h as) := by
  refine ⟨baseOf_ns hT T.g, baseOf_ns hT T.b, ?_, T.builtins, T.free⟩
  obtain ⟨mc, h1, h2⟩ := T.nolimit
  exact ⟨mc, baseOf_ns hT h1, h2⟩

noncomputable abbrev tabList : List Addr := [83, 52, 97]
noncomputable def G1 {p : Program} {loose : List Str} {mean : ExcName → Option Value} {mg mb : Str → Option Value} (prog : Program) (w : World) (h : Heap) (T : Top p loose mean mg mb h) (KX : (hd.heap_39 w.params).In h) (hT : ∀ P ∈ tabList, h.get? P = some (tabObj #[])) : G :=
  have X : (hd.heap_39 w.params).In (baseOf h tabList) := fun a o e => hideAll_get _ (KX a o e) fun q => by
    simp only [tabList, List.mem_cons, List.not_mem_nil, or_false] at q
    rcases q with rfl | rfl | rfl
    · exact nomatch (show (Option.none : Option Obj) = some o from e)
    · exact nomatch (show (Option.none : Option Obj) = some o from e)
    · exact nomatch (show (Option.none : Option Obj) = some o from e)
  { prog := prog, w := w, base := baseOf h tabList, K := hd.heap_39 w.params, p := p, loose := loose, mg := mg, mb := mb, tabs := tabs3, X := X, T := baseOf_top T hT,
    hd := fun q hq => by
      simp only [tabs3, List.mem_cons, List.not_mem_nil, or_false] at hq
      rcases hq with rfl | rfl
      · exact codeHd_of_K X (by rfl)
      · exact codeHd_of_K X (by rfl)
    bm := by
      obtain ⟨bm, ob, b1, b2, b3, b4, b5, b6⟩ := T.bmain
      exact ⟨bm, ob, b1, b2, baseOf_get hT b3 (fun vs q => by rw [b6] at q; cases q), b4, b5, b6⟩
    fcs := [], stk := [] }

theorem join1 {p : Program} {loose : List Str} {mean : ExcName → Option Value} {mg mb : Str → Option Value} {prog : Program} {w : World} {s : Shared} {fa l : Addr} {ns : List Int} (T : Top p loose mean mg mb s.heap) (KX : (hd.heap_39 w.params).In s.heap)
    (hT : ∀ P ∈ tabList, s.heap.get? P = some (tabObj #[])) (hm : mg "law" = some (.ref fa)) (w1 : Well w.params s.heap (.ref l) (ofPy (PyData.list (ns.map .int)))) (hl : ns.length ≤ 63) :
    wpAny (model prog w) callerA (call (.ref fa) [.ref l]) (fun v s' => v = .bool true ∧ OldK s.heap s'.heap ∧ s'.os = s.os ∧ s'.gens = s.gens) (fun _ _ => False) s := by
  have e100 : mg "law" = some (.ref 100) := mg_of KX T.g (by rfl)
  rw [hm] at e100
  cases e100
  let g := G1 prog w s.heap T KX hT
  let F : FM := fun a => (baseOf s.heap tabList).get? a
  have hno : ∀ P ∈ tabList, F P = none := fun P hP => hideAll_none _ hP
  have kp : ∀ b o, s.heap.get? b = some o → b ∉ tabList → F b = some o := fun b o e hb => hideAll_get _ e hb
  have gs : GSt g [(97, .tb 99 [])] F s.heap := by
    refine ⟨fun a o e => e, fun a o e => of_hideAll _ e, fun q hq => ?_, fun q hq => ?_, by simp [Mu.dom], (fun c hc => by cases hc), fun a ha => ?_, (fun e he => by cases he)⟩
    · have hq : q ∈ tabs3 := hq
      simp only [tabs3, List.mem_cons, List.not_mem_nil, or_false] at hq
      rcases hq with rfl | rfl
      · exact ⟨hno 52 (by simp), #[], hT 52 (by simp), trivial, fun pos cv z => nomatch z⟩
      · exact ⟨hno 83 (by simp), #[], hT 83 (by simp), trivial, fun pos cv z => nomatch z⟩
    · rw [List.mem_singleton.mp hq]
      obtain ⟨o, eo⟩ : ∃ o, (hd.heap_39 w.params).lookup 99 = some o := ⟨_, rfl⟩
      refine ⟨hno 97 (by simp), _, hT 97 (by simp), rfl, trivial, o, g.X _ _ eo, fun h e => ?_⟩
      have := codeHd_of_K g.X (c := 99) (P := 97) (by rfl)
      obtain ⟨o', vs, file, tf, flags, tg, inF, text, tt, q1, q2⟩ := this
      have q1' : (baseOf s.heap tabList).get? 99 = some o := g.X _ _ eo
      rw [show (baseOf s.heap tabList).get? 99 = some o' from q1] at q1'
      cases q1'
      exact ⟨_, vs, file, tf, flags, tg, inF, text, tt, e, q2⟩
    · simp only [Mu.dom, List.map_cons, List.map_nil, List.mem_singleton] at ha
      subst ha
      show 97 ∉ tabs3.map (·.2.1)
      decide
  have ok : Ok g 101 callerA := ⟨by decide, by decide, rfl, rfl⟩
  have sl : Sees F (.ref l) (.lst (ns.map D.int)) := by
    have w1 : Well w.params s.heap (.ref l) (.list (ofPys (ns.map PyData.int))) := w1
    cases w1 with
    | list e wa =>
      refine .lst (kp _ _ e fun q => ?_) (by simpa using wellAll_ints wa)
      have := hT _ q
      rw [e] at this; cases this
  refine wpAny_mono (law_whole (g := g) (n := 0) rfl rfl hl (.head _) callerA F s (.ref 100) [.ref l] [] ok gs (.val _) (.cons sl .nil) .nil rfl) (fun v s' ⟨d, μ', F', t, G', sv, hd, ps, h66⟩ => ?_) fun _ _ x => x
  subst hd
  cases sv
  refine ⟨rfl, ⟨fun b o e => ?_, fun b o e => t.live b o e⟩, t.os, t.gens⟩
  by_cases hb : b ∈ tabList
  · have e0 := hT b hb
    rw [e] at e0; cases e0
    have grown : ∀ ps : Array Value, s'.heap.get? b = some (tabObj ps) → isCodeTable s.heap b → asItWas s.heap s'.heap b (tabObj #[]) := fun ps h1 h2 =>
      .inr (.inl ⟨h2, rfl, #[], ps, rfl, by rw [h1]; simp [tabObj]⟩)
    have ct : ∀ c, CodeHd g.base c b → isCodeTable s.heap b := fun c ⟨o, vs, _, _, _, _, _, _, _, q1, q2, q3, q4, _⟩ => ⟨c, o, vs, of_hideAll _ q1, q2, q3, q4⟩
    simp only [tabList, List.mem_cons, List.not_mem_nil, or_false] at hb
    rcases hb with rfl | rfl | rfl
    · obtain ⟨_, qs, e', _⟩ := G'.tb (87, 83, _) (show _ ∈ tabs3 from .tail _ (.head _))
      exact grown _ e' (ct 87 (codeHd_of_K g.X (by rfl)))
    · obtain ⟨_, qs, e', _⟩ := G'.tb (54, 52, _) (show _ ∈ tabs3 from .head _)
      exact grown _ e' (ct 54 (codeHd_of_K g.X (by rfl)))
    · obtain ⟨_, o', e', k⟩ := G'.mu _ h66
      obtain ⟨rfl, _⟩ := k
      exact grown _ e' (ct 99 (codeHd_of_K g.X (by rfl)))
  · exact .inl (G'.fz _ _ (t.le _ _ (kp b o e hb)))

end Mine
open PySem PySem.W PyProof.Rows
set_option maxRecDepth 20000
set_option tactic.hygienic true in
set_option maxHeartbeats 4000000 in
theorem PySem.Challenge.cw_ta0001_03_holds : PySem.Challenge.rw_ta0001_03.Holds := by
  refine Mine.hd ?_
  intro w s₀ s₁ mg mb G Y fa o pm cd doc dV kV ho hd hcd hD hmg hg args vals as hpre hlay hrd hwl hlo
  have KX := km_in_of Y
  have KT := km_tabs_of Y
  have T := G.T
  clear ho hd hcd hD
  wrow_args hpre hlay hrd hwl hlo
  rename_i ns hs hlay0 hL1 hr1 hl2 as4 as3 l vs as0 hL ra w1 r0 hI hr hcond hc2
  have hl : ns.length ≤ 63 := by omega
  refine wpAny_mono (Mine.join1 (fa := fa) (l := l) (ns := ns) T KX KT hmg w1 hl) (fun v s' ⟨e, o, os, gs⟩ => ?_) fun _ _ x => x.elim
  subst e
  exact ⟨.inl ⟨.bool true, .bool true, [], rfl, fun _ => rfl, .bool _, by wrow_post, fun _ => ⟨List.nodup_nil, fun a h => nomatch h⟩⟩, o, os, .of_eq (gs.trans hg)⟩

