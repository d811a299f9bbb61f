import PyProof.Rows.All
import Wide.All
import OpenK.AllK
import Wide.FinOn
import Lean
import PySem.Challenge.RW_mr0012_01
open PySem PySem.W PyProof.Rows
set_option Elab.async false
set_option linter.all false
namespace Mine
set_option maxRecDepth 100000 in
set_option maxHeartbeats 8000000 in
open_top hd for PySem.Challenge.rw_mr0012_01
end Mine

namespace Mine
abbrev lawScope : Scope := { kind := ScopeKind.function, names := [(Str.ofString "script", NameKind.local), (Str.ofString "x", NameKind.local), (Str.ofString "folder", NameKind.local), (Str.ofString "name", NameKind.local), (Str.ofString "end", NameKind.local), (Str.ofString "path", NameKind.local), (Str.ofString "words", NameKind.local), (Str.ofString "coded", NameKind.local), (Str.ofString "told", NameKind.local), (Str.ofString "bare", NameKind.local), (Str.ofString "_law_path", NameKind.globalImplicit), (Str.ofString "decode_rfc2231", NameKind.globalImplicit), (Str.ofString "_modname", NameKind.globalImplicit), (Str.ofString "_law_bare", NameKind.globalImplicit)], isGenerator := false, isCoroutine := false, more := [] }
/-- the file's name behind the last slash -/
def baseF (v : Str) : Str := Txt.slice v (some (Txt.rfind v (Str.ofString "/") + 1)) none
/-- some sign between the last slash and the last dot is no dot -/
def anyF (b : Str) (sp d : Int) : Bool := (List.range (d - (sp + 1)).toNat).any fun j => Txt.slice b (some (sp + 1 + 1 * (j : Int))) (some (sp + 1 + 1 * (j : Int) + 1)) != Str.ofString "."
/-- what _modname tells -/
def modF (v : Str) : Str :=
  if Txt.rfind (baseF v) (Str.ofString "/") < Txt.rfind (baseF v) (Str.ofString ".") ∧ anyF (baseF v) (Txt.rfind (baseF v) (Str.ofString "/")) (Txt.rfind (baseF v) (Str.ofString ".")) = true then
    Txt.slice (baseF v) none (some (Txt.rfind (baseF v) (Str.ofString "."))) else baseF v
theorem modF_in {v : Str} {n : Int} (h : Txt.rfind (baseF v) (Str.ofString "/") < Txt.rfind (baseF v) (Str.ofString ".")) (h0 : 0 ≤ n) (hc : Txt.rfind (baseF v) (Str.ofString "/") + 1 + 1 * n < Txt.rfind (baseF v) (Str.ofString "."))
    (hq : (Txt.slice (baseF v) (some (Txt.rfind (baseF v) (Str.ofString "/") + 1 + 1 * n)) (some (Txt.rfind (baseF v) (Str.ofString "/") + 1 + 1 * n + 1)) != Str.ofString ".") = true) :
    Txt.slice (baseF v) none (some (Txt.rfind (baseF v) (Str.ofString "."))) = modF v := by
  have ha : anyF (baseF v) (Txt.rfind (baseF v) (Str.ofString "/")) (Txt.rfind (baseF v) (Str.ofString ".")) = true := by
    unfold anyF
    rw [List.any_eq_true]
    refine ⟨n.toNat, List.mem_range.mpr (by omega), ?_⟩
    rw [Int.toNat_of_nonneg h0]
    exact hq
  unfold modF
  rw [if_pos ⟨h, ha⟩]
theorem modF_out {v : Str} {n : Int}
    (hp : Passed (fun j => decide (Txt.rfind (baseF v) (Str.ofString "/") + 1 + 1 * j < Txt.rfind (baseF v) (Str.ofString "."))) (fun j => if (Txt.slice (baseF v) (some (Txt.rfind (baseF v) (Str.ofString "/") + 1 + 1 * j)) (some (Txt.rfind (baseF v) (Str.ofString "/") + 1 + 1 * j + 1)) != Str.ofString ".") = true then true else false) n)
    (he : Txt.rfind (baseF v) (Str.ofString ".") ≤ Txt.rfind (baseF v) (Str.ofString "/") + 1 + 1 * n) : baseF v = modF v := by
  have ha : ¬ anyF (baseF v) (Txt.rfind (baseF v) (Str.ofString "/")) (Txt.rfind (baseF v) (Str.ofString ".")) = true := by
    unfold anyF
    rw [List.any_eq_true]
    rintro ⟨j, hj, hq⟩
    have hj := List.mem_range.mp hj
    have := (hp (j : Int) (by omega) (by omega)).2
    simp only [hq, if_true] at this
    cases this
  unfold modF
  rw [if_neg (fun z => ha z.2)]
theorem modF_flat {v : Str} (h : Txt.rfind (baseF v) (Str.ofString ".") ≤ Txt.rfind (baseF v) (Str.ofString "/")) : baseF v = modF v := by
  unfold modF
  rw [if_neg (fun z => by omega)]
/-- the signs ahead of place k that are no dots -/
def restF (v : Str) (k : Int) : List Str := List.filter (fun a => a != Str.ofString ".") (signs (Txt.slice v none (some k)))
def GB (v : Str) (l : List Int) (k : Int) : List Int := if (Txt.item v k == Str.ofString ".") = true ∧ (!decide (restF v k = [])) = true then l ++ [k] else l
def placesF (v : Str) : List Int := (rangeKs 0 ((v.length : Int) - 0).toNat).foldl (GB v) []
/-- what _law_bare tells -/
def bareF (v : Str) : Str := if placesF v = [] then v else Txt.slice v none (some ((placesF v).getLastD 0))
theorem GB_grows (v : Str) : KPfGrows (GB v) := by
  intro l k
  unfold GB
  split
  · simp
  · omega
theorem GB_yes {v : Str} {l : List Int} {k : Int} (h1 : (Txt.item v k == Str.ofString ".") = true) (h2 : (!decide (restF v k = [])) = true) : GB v l k = l ++ [k] := if_pos ⟨h1, h2⟩
theorem GB_no1 {v : Str} {l : List Int} {k : Int} (h1 : (Txt.item v k == Str.ofString ".") = false) : GB v l k = l := if_neg (fun z => by rw [h1] at z; cases z.1)
theorem GB_no2 {v : Str} {l : List Int} {k : Int} (h2 : (!decide (restF v k = [])) = false) : GB v l k = l := if_neg (fun z => by rw [h2] at z; cases z.2)
theorem GB_yes' {v : Str} {l : List Int} {k : Int} (h1 : (Txt.item v k == Str.ofString ".") = true) (h2 : ¬ restF v k = []) : GB v l k = l ++ [k] := GB_yes h1 (by simp [h2])
theorem GB_no3 {v : Str} {l : List Int} {k : Int} (h2 : restF v k = []) : GB v l k = l := GB_no2 (by simp [h2])
theorem bareF_nil {v : Str} (h : decide (List.foldl (GB v) [] (rangeKs 0 ((v.length : Int) - 0).toNat) = []) = true) : v = bareF v := by
  have h : placesF v = [] := of_decide_eq_true h
  unfold bareF
  rw [if_pos h]
theorem bareF_last {v : Str} (h : decide (List.foldl (GB v) [] (rangeKs 0 ((v.length : Int) - 0).toNat) = []) = false) : Txt.slice v none (some ((List.foldl (GB v) [] (rangeKs 0 ((v.length : Int) - 0).toNat)).getLastD 0)) = bareF v := by
  have h : ¬ placesF v = [] := of_decide_eq_false h
  unfold bareF
  rw [if_neg h]
  rfl
theorem strOk_mem {x : Str} (h : PyData.strOk x = true) {n : Nat} (hn : n ∈ x.cps) : n < 0x110000 := by
  have := Array.all_eq_true_iff_forall_mem.mp h n hn
  simpa using this
theorem slice_sub {x : Str} {l u : Option Int} {n : Nat} (h : n ∈ (Txt.slice x l u).cps) : n ∈ x.cps := by
  unfold Txt.slice at h
  split at h
  · exact h
  · simp only [List.mem_toArray, List.mem_filterMap] at h
    obtain ⟨i, _, e⟩ := h
    exact Array.mem_of_getElem? e
theorem strOk_slice {x : Str} {l u : Option Int} (h : PyData.strOk x = true) : PyData.strOk (Txt.slice x l u) = true := by
  refine Array.all_eq_true_iff_forall_mem.mpr fun n hn => ?_
  simpa using strOk_mem h (slice_sub hn)
theorem shaped_rest {v : Str} (h : PyData.strOk v = true) (k : Int) : SeqAt.shaped (.list ((restF v k).map PyData.str)) = true := by
  have h1 : PyData.canLayAll0 ((restF v k).map PyData.str) = true := by
    rw [canLayAll_strs']
    refine List.all_eq_true.mpr fun x hx => ?_
    have hx := (List.mem_filter.mp hx).1
    unfold signs at hx
    obtain ⟨n, hn, rfl⟩ := List.mem_map.mp hx
    have := strOk_mem (strOk_slice h) (Array.mem_toList_iff.mp hn)
    simp [PyData.strOk, this]
  have h2 := depthAll_strs' (restF v k)
  show (PyData.canLay0 (.list ((restF v k).map PyData.str)) && decide (PyData.depth (.list ((restF v k).map PyData.str)) ≤ 64)) = true
  rw [Bool.and_eq_true]
  exact ⟨by simp only [PyData.canLay0]; exact h1, decide_eq_true (by simp only [PyData.depth]; omega)⟩
section
variable {prog : Program} {w : World} {A : Around} {E : Value → Shared → Prop} {s : Shared}
theorem ne_rest {v : Str} {k : Int} {a b : Addr} {ys : List Value} {Q : Value → Shared → Prop} (hok : PyData.strOk v = true) (hl : s.heap.IsList a ys.toArray) (hc : CarriedAll ys (List.map PyData.str (restF v k))) (hl' : s.heap.IsList b ([] : List Value).toArray) (hu : A.units + 64 < cLine)
    (h : Q (.bool (!decide (restF v k = []))) s) : wpAny (model prog w) A (compareOp .NotEq (.ref a) (.ref b)) Q E s := by
  refine ne_dataH (reads_newData hl hc) (reads_newData hl' .nil) (shaped_rest hok k) rfl hu ?_
  have e : PyData.eqv (.list (List.map PyData.str (restF v k))) (.list []) = decide (restF v k = []) := by
    cases restF v k with
    | nil => simp [PyData.eqv, PyData.eqvAll]
    | cons x r => simp [PyData.eqv, PyData.eqvAll]
  rw [e]
  exact h
theorem last_ints {value slice : PySem.Expr} {l : Addr} {ys : List Value} {ns : List Int} {u : Tok} {Q : Value → Shared → Prop} (hl : s.heap.IsList l ys.toArray) (hi : IntsAre ys ns) (hne : decide (ns = []) = false)
    (h : ∀ t', Q (.int (ns.getLastD 0) t') s)
    (hs : subscripted slice false (.ref l) (.int (-1) u) = operate [.ref l, .int (-1) u] (getItem (.ref l) (.int (-1) u)) := by with_unfolding_all rfl) :
    wpAny (model prog w) A (subscriptTail value slice (.ref l) (.int (-1) u)) Q E s := by
  have hne := of_decide_eq_false hne
  have hlen := hi.length
  have hpos : 0 < ns.length := List.length_pos_iff.mpr hne
  have hg : ns[ns.length - 1]? = some (ns.getLastD 0) := by
    rw [← List.getLast?_eq_getElem?, List.getLastD_eq_getLast?]
    cases e : ns.getLast? with
    | none => exact absurd (List.getLast?_eq_none_iff.mp e) hne
    | some x => rfl
  obtain ⟨t', e⟩ := hi.get _ _ hg
  refine tail_any hl.typeIs slot_list_getitem.lookup (wpAny_getItem_list_neg hl (by decide) ?_ (by decide) (x := .int (ns.getLastD 0) t') ?_ (h t')) hs
  · rw [List.size_toArray, hlen]; omega
  · rw [List.size_toArray, hlen]
    have : (-1 + (ns.length : Int)).toNat = ns.length - 1 := by omega
    rw [this]
    simpa using e
end
end Mine

namespace Mine
set_option maxRecDepth 100000 in
set_option maxHeartbeats 8000000 in
theorem modname_call {w : World} {s₀ s : Shared} {mg mb m : Str → Option Value} {base h₀ : Heap} {L fa : Addr} {cdv : Value} {news : List (Addr × Obj)} {Q E : Value → Shared → Prop} {v : Str} {t : Tok}
    (B : Below callerA base [] h₀) (F : Fr h₀ L s.heap m) (X : (hd.heap_39 w.params).In h₀) (N : News h₀ L s.heap news) (T : Top hd.view_39 (looseW hd.view_39 []) (ExcName.means s₀.heap) mg mb h₀)
    (hv : v.length ≤ 100) (hret : ∀ (t : Tok) (h' : Heap) (tk' : Nat), Fr h₀ L h' m → News h₀ L h' news → Q (.str (modF v) t) { s with heap := h', toks := tk' }) :
    wpAny (model PySem.Challenge.rw_mr0012_01.row.prog w) (callerA.deeper (envOf (Str.ofString "law") lawScope L fa cdv)) (call (.ref 56) [.str v t]) Q E s := by
  k_with_none
  w_on
  revert X
  k_fill
  intro X
  k_steps
  · exact cb_retS hret (modF_in (by assumption) (by assumption) (by assumption) (by assumption)) (by assumption) (cb_drop (by assumption) (fun _ hp => .tail _ hp))
  · exact cb_retS hret (modF_out (by assumption) (by assumption)) (by assumption) (cb_drop (by assumption) (fun _ hp => .tail _ hp))
  · exact cb_retS hret (modF_flat (by first | assumption | exact Int.not_lt.mp (by assumption))) (by assumption) (cb_drop (by assumption) (fun _ hp => .tail _ hp))
end Mine

namespace Mine
local macro_rules | `(tactic| walk_at "CompSrcT") => `(tactic| k_extra "CompSrcT")
local macro_rules | `(tactic| walk_at "CompEnd") => `(tactic| k_extra "CompEnd")
local macro_rules | `(tactic| walk_at "compareOp NotEq ref ref") => `(tactic| k_extra "compareOp NotEq ref ref")
local macro_rules | `(tactic| walk_at "subscriptTail") => `(tactic| k_extra "subscriptTail")
set_option maxRecDepth 100000 in
set_option maxHeartbeats 8000000 in
theorem bare_call {w : World} {s₀ s : Shared} {mg mb m : Str → Option Value} {base h₀ : Heap} {L fa : Addr} {cdv : Value} {news : List (Addr × Obj)} {Q E : Value → Shared → Prop} {v : Str} {t : Tok}
    (B : Below callerA base [] h₀) (F : Fr h₀ L s.heap m) (X : (hd.heap_39 w.params).In h₀) (N : News h₀ L s.heap news) (T : Top hd.view_39 (looseW hd.view_39 []) (ExcName.means s₀.heap) mg mb h₀)
    (hv : v.length ≤ 100) (hok : PyData.strOk v = true) (hret : ∀ (t : Tok) (h' : Heap) (tk' : Nat), Fr h₀ L h' m → News h₀ L h' news → Q (.str (bareF v) t) { s with heap := h', toks := tk' }) :
    wpAny (model PySem.Challenge.rw_mr0012_01.row.prog w) (callerA.deeper (envOf (Str.ofString "law") lawScope L fa cdv)) (call (.ref 75) [.str v t]) Q E s := by
  k_with_none
  w_on
  revert X
  k_fill
  intro X
  k_with "CompSrcT" => (k_here; k_dflt (refine LCt.CompSrcT.range (by rfl) (by k_asm) (by k_asm) (by assumption) (by exact small_one (by l_bnd) (by l_bnd) (by l_bnd) (by l_bnd)) (by exact rangeSize_nat _ _) (by rw [PySem.sizeLine_eq]; omega) ?_; intro g'; (refine' kci_range (GB v) (fun k' t' I' oI' C' oC' D' m' ys' l' h' tk' E' hlo' hhi' hI' hC' hx' F' N' off' ne' => ?_) ?_ (GB_grows v)); (all_goals (try (simp only [LCg.Off3, and_true] at off'))); (all_goals (try ((show KPfMark → _); intro hMark'))); kcf_last))
  k_with "CompEnd" => k_dflt ((first | refine LCg.CompEnd.intro (by assumption) (by assumption) _ ?sub ?off True.intro (kci_el (GB_yes' (by assumption) (by assumption)) rfl rfl) | refine LCg.CompEnd.intro (by assumption) (by assumption) _ ?sub ?off True.intro (kci_no (GB_no1 (by assumption)) rfl) | refine LCg.CompEnd.intro (by assumption) (by assumption) _ ?sub ?off True.intro (kci_no (GB_no3 (by assumption)) rfl)); (case sub => first | exact fun _ hp => hp | exact fun _ hp => .tail _ hp | exact fun _ hp => .tail _ (.tail _ hp)); (case off => first | assumption | (simp only [LCg.Off3, and_true]; assumption)))
  k_with "compareOp NotEq ref ref" => (k_here; k_dflt (refine ne_rest hok (by is_list) (by assumption) (by is_list) (by ke_room) ?_))
  k_with "subscriptTail" => (k_here; k_dflt (refine last_ints (by is_list) (by assumption) (by assumption) ?_; intro t'))
  k_steps
  · exact cb_retS hret (bareF_nil (by assumption)) (by assumption) (cb_drop (by assumption) (fun _ hp => .tail _ (.tail _ (.tail _ hp))))
  · exact cb_retS hret (bareF_last (by assumption)) (by assumption) (cb_drop (by assumption) (fun _ hp => .tail _ (.tail _ (.tail _ hp))))
end Mine

namespace Mine
/-! the tables at an open place -/
abbrev folderT (i : Nat) : Str := [Str.ofString "", Str.ofString "d/", Str.ofString "/d.e/"].getD i Str.empty
abbrev nameT (j : Nat) : Str := [Str.ofString "x", Str.ofString "x.y", Str.ofString ".x", Str.ofString "it", Str.ofString "a b", Str.ofString "..x"].getD j Str.empty
abbrev endT (k : Nat) : Str := [Str.ofString "", Str.ofString ".py", Str.ofString ".", Str.ofString ".pyc"].getD k Str.empty
abbrev langT (i : Nat) : Str := [Str.ofString "en", Str.ofString "", Str.ofString "de.x"].getD i Str.empty
abbrev pathT (i j k : Nat) : Str := folderT i ++ nameT j ++ endT k
abbrev codedT (i j k : Nat) : Str := Txt.join (Str.ofString "'") [Str.ofString "utf-8", langT i, pathT i j k]
abbrev shortT (i j k : Nat) : Str := Txt.join (Str.ofString "'") [Str.ofString "utf-8", langT i, nameT j ++ endT k]
abbrev fX (x : Int) : Str := folderT (x.fmod 3).toNat
abbrev eX (x : Int) : Str := endT ((x.fdiv 18).fmod 4).toNat
abbrev nX (x : Int) : Str := nameT ((x.fdiv 3).fmod 6).toNat ++ endT ((x.fdiv 18).fmod 4).toNat
abbrev pX (x : Int) : Str := pathT (x.fmod 3).toNat ((x.fdiv 3).fmod 6).toNat ((x.fdiv 18).fmod 4).toNat
abbrev cX (x : Int) : Str := codedT (x.fmod 3).toNat ((x.fdiv 3).fmod 6).toNat ((x.fdiv 18).fmod 4).toNat
abbrev sX (x : Int) : Str := shortT (x.fmod 3).toNat ((x.fdiv 3).fmod 6).toNat ((x.fdiv 18).fmod 4).toNat
/-- what split("'", 2) tells -/
def splitF (x : Str) : List Str :=
  if (decide (x.length < (Str.ofString "'").length) || decide (Builtin.Str.strKind x < Builtin.Str.strKind (Str.ofString "'"))) = true then [x] else
  if (Builtin.Str.occurrences x (Str.ofString "'") 0 x.length (limitOf x 2)).isEmpty = true then [x] else
  Builtin.Str.partsBetween x (Builtin.Str.occurrences x (Str.ofString "'") 0 x.length (limitOf x 2)) (Str.ofString "'").length
structure Facts (i j k : Nat) : Prop where
  s1 : splitF (pathT i j k) = [pathT i j k]
  s2 : splitF (codedT i j k) = [Str.ofString "utf-8", langT i, pathT i j k]
  m1 : modF (pathT i j k) = bareF (nameT j ++ endT k)
  m2 : endT k ≠ Str.ofString "" → modF (pathT i j k) ++ endT k = nameT j ++ endT k
  m3 : folderT i ≠ Str.ofString "" → modF (codedT i j k) = modF (pathT i j k)
  m4 : folderT i = Str.ofString "" → modF (codedT i j k) = bareF (shortT i j k)
  s3 : splitF (modF (pathT i j k)) = [modF (pathT i j k)]
  j1 : JoinOk (Str.ofString "'") [Str.ofString "utf-8", langT i, pathT i j k] = true
  j2 : JoinOk (Str.ofString "'") [Str.ofString "utf-8", langT i, nameT j ++ endT k] = true
  l1 : (pathT i j k).length ≤ 100
  l2 : (codedT i j k).length ≤ 100
  l3 : (nameT j ++ endT k).length ≤ 100
  l4 : (shortT i j k).length ≤ 100
  l5 : (modF (pathT i j k)).length ≤ 100
  l6 : (modF (pathT i j k)).length + (endT k).length ≤ 100
  o1 : PyData.strOk (pathT i j k) = true
  o2 : PyData.strOk (langT i) = true
  o3 : PyData.strOk (nameT j ++ endT k) = true
  o4 : PyData.strOk (shortT i j k) = true
  o5 : PyData.strOk (modF (pathT i j k)) = true
/-- the bare names, written out -/
def valT (j k : Nat) : Str := ([[Str.ofString "x", Str.ofString "x", Str.ofString "x", Str.ofString "x"], [Str.ofString "x", Str.ofString "x.y", Str.ofString "x.y", Str.ofString "x.y"], [Str.ofString ".x", Str.ofString ".x", Str.ofString ".x", Str.ofString ".x"], [Str.ofString "it", Str.ofString "it", Str.ofString "it", Str.ofString "it"], [Str.ofString "a b", Str.ofString "a b", Str.ofString "a b", Str.ofString "a b"], [Str.ofString "..x", Str.ofString "..x", Str.ofString "..x", Str.ofString "..x"]].getD j []).getD k Str.empty
theorem modF_base {v u : Str} (h : baseF v = baseF u) : modF v = modF u := by unfold modF; rw [h]
def factsC (i j k : Nat) : Bool :=
  decide (modF (pathT i j k) = valT j k) &&
  (decide (bareF (nameT j ++ endT k) = valT j k) &&
  (decide (splitF (pathT i j k) = [pathT i j k]) &&
  (decide (splitF (codedT i j k) = [Str.ofString "utf-8", langT i, pathT i j k]) &&
  ((decide (endT k = Str.ofString "") || decide (valT j k ++ endT k = nameT j ++ endT k)) &&
  ((decide (folderT i = Str.ofString "") || decide (baseF (codedT i j k) = baseF (pathT i j k))) &&
  ((!decide (folderT i = Str.ofString "") || decide (modF (codedT i j k) = bareF (shortT i j k))) &&
  (decide (splitF (valT j k) = [valT j k]) &&
  (JoinOk (Str.ofString "'") [Str.ofString "utf-8", langT i, pathT i j k] &&
  (JoinOk (Str.ofString "'") [Str.ofString "utf-8", langT i, nameT j ++ endT k] &&
  (decide ((pathT i j k).length ≤ 100) && (decide ((codedT i j k).length ≤ 100) && (decide ((nameT j ++ endT k).length ≤ 100) && (decide ((shortT i j k).length ≤ 100) && (decide ((valT j k).length ≤ 100) && (decide ((valT j k).length + (endT k).length ≤ 100) &&
  (PyData.strOk (pathT i j k) && (PyData.strOk (langT i) && (PyData.strOk (nameT j ++ endT k) && (PyData.strOk (shortT i j k) && PyData.strOk (valT j k))))))))))))))))))))
theorem fc00 : ((List.range 4).all fun k => factsC 0 0 k) = true := by decide +kernel
theorem fc01 : ((List.range 4).all fun k => factsC 0 1 k) = true := by decide +kernel
theorem fc02 : ((List.range 4).all fun k => factsC 0 2 k) = true := by decide +kernel
theorem fc03 : ((List.range 4).all fun k => factsC 0 3 k) = true := by decide +kernel
theorem fc04 : ((List.range 4).all fun k => factsC 0 4 k) = true := by decide +kernel
theorem fc05 : ((List.range 4).all fun k => factsC 0 5 k) = true := by decide +kernel
theorem fc10 : ((List.range 4).all fun k => factsC 1 0 k) = true := by decide +kernel
theorem fc11 : ((List.range 4).all fun k => factsC 1 1 k) = true := by decide +kernel
theorem fc12 : ((List.range 4).all fun k => factsC 1 2 k) = true := by decide +kernel
theorem fc13 : ((List.range 4).all fun k => factsC 1 3 k) = true := by decide +kernel
theorem fc14 : ((List.range 4).all fun k => factsC 1 4 k) = true := by decide +kernel
theorem fc15 : ((List.range 4).all fun k => factsC 1 5 k) = true := by decide +kernel
theorem fc20 : ((List.range 4).all fun k => factsC 2 0 k) = true := by decide +kernel
theorem fc21 : ((List.range 4).all fun k => factsC 2 1 k) = true := by decide +kernel
theorem fc22 : ((List.range 4).all fun k => factsC 2 2 k) = true := by decide +kernel
theorem fc23 : ((List.range 4).all fun k => factsC 2 3 k) = true := by decide +kernel
theorem fc24 : ((List.range 4).all fun k => factsC 2 4 k) = true := by decide +kernel
theorem fc25 : ((List.range 4).all fun k => factsC 2 5 k) = true := by decide +kernel
theorem factsC_all {i j k : Nat} (hi : i < 3) (hj : j < 6) (hk : k < 4) : factsC i j k = true := by
  have hm : k ∈ List.range 4 := List.mem_range.mpr hk
  match i, j, hi, hj with
  | 0, 0, _, _ => exact List.all_eq_true.mp fc00 k hm
  | 0, 1, _, _ => exact List.all_eq_true.mp fc01 k hm
  | 0, 2, _, _ => exact List.all_eq_true.mp fc02 k hm
  | 0, 3, _, _ => exact List.all_eq_true.mp fc03 k hm
  | 0, 4, _, _ => exact List.all_eq_true.mp fc04 k hm
  | 0, 5, _, _ => exact List.all_eq_true.mp fc05 k hm
  | 1, 0, _, _ => exact List.all_eq_true.mp fc10 k hm
  | 1, 1, _, _ => exact List.all_eq_true.mp fc11 k hm
  | 1, 2, _, _ => exact List.all_eq_true.mp fc12 k hm
  | 1, 3, _, _ => exact List.all_eq_true.mp fc13 k hm
  | 1, 4, _, _ => exact List.all_eq_true.mp fc14 k hm
  | 1, 5, _, _ => exact List.all_eq_true.mp fc15 k hm
  | 2, 0, _, _ => exact List.all_eq_true.mp fc20 k hm
  | 2, 1, _, _ => exact List.all_eq_true.mp fc21 k hm
  | 2, 2, _, _ => exact List.all_eq_true.mp fc22 k hm
  | 2, 3, _, _ => exact List.all_eq_true.mp fc23 k hm
  | 2, 4, _, _ => exact List.all_eq_true.mp fc24 k hm
  | 2, 5, _, _ => exact List.all_eq_true.mp fc25 k hm
theorem facts {i j k : Nat} (hi : i < 3) (hj : j < 6) (hk : k < 4) : Facts i j k := by
  have h := factsC_all hi hj hk
  simp only [factsC, Bool.and_eq_true, Bool.or_eq_true, decide_eq_true_eq, Bool.not_eq_true', decide_eq_false_iff_not] at h
  obtain ⟨v1, v2, a1, a2, a4, a5, a6, a7, a8, a9, a10, a11, a12, a13, a14, a15, a16, a17, a18, a19, a20⟩ := h
  rw [← v1] at a4 a7 a14 a15 a20
  exact ⟨a1, a2, v1.trans v2.symm, fun z => a4.resolve_left z, fun z => modF_base (a5.resolve_left z), fun z => a6.resolve_left (fun y => y z), a7, a8, a9, a10, a11, a12, a13, a14, a15, a16, a17, a18, a19, a20⟩
end Mine

namespace Mine
section
variable {prog : Program} {w : World} {A : Around} {E : Value → Shared → Prop} {s : Shared} {h₀ : Heap} {L : Addr} {m : Str → Option Value} {news : List (Addr × Obj)} {x y : Str} {t u z : Tok} {Q : Value → Shared → Prop}
theorem split_itself (h1 : splitF x = [x]) (hf : (Builtin.Str.occurrences x (Str.ofString "'") 0 x.length (limitOf x 2)).isEmpty = true ∨ (decide (x.length < (Str.ofString "'").length) || decide (Builtin.Str.strKind x < Builtin.Str.strKind (Str.ofString "'"))) = true) :
    Meets (Builtin.«str.split» ⟨[.str x t, .str (Str.ofString "'") u, .int 2 z], []⟩) (listOfItself x t) := by
  obtain ⟨raising, htree⟩ := split_sep_max_tree x (Str.ofString "'") 2 t u z (by decide)
  refine .of_wp fun prog w A R s h => ?_
  cases h2 : (decide (x.length < (Str.ofString "'").length) || decide (Builtin.Str.strKind x < Builtin.Str.strKind (Str.ofString "'"))) with
  | true =>
    rw [htree, h2]
    exact wpAny_bind (wpAny_rule (wpAny_bind (wpAny_newList (wpAny_pure ⟨_, rfl, h⟩) (by show 1 ≤ sizeLine; decide))))
  | false =>
    have hf : (Builtin.Str.occurrences x (Str.ofString "'") 0 x.length (limitOf x 2)).isEmpty = true := hf.resolve_right (by rw [h2]; decide)
    rw [htree, h2, hf]
    exact wpAny_bind (wpAny_rule (wpAny_bind (wpAny_newList (wpAny_pure ⟨_, rfl, h⟩) (by show 1 ≤ sizeLine; decide))))
theorem split2 (hF : Fr h₀ L s.heap m) (hN : News h₀ L s.heap news)
    (h : ∀ D l h' k, l.map (·.1) = splitF x → Fr h₀ L h' m → News h₀ L h' ((D, listOf (strValues l).toArray 0) :: news) → (∀ p ∈ news, p.1 < D) → Q (.ref D) { s with heap := h', toks := k }) (hsz : x.length ≤ 100) :
    wpAny (model prog w) A (call (.builtin "str.split") [.str x t, .str (Str.ofString "'") u, .int 2 z]) Q E s := by
  have hlt : ∀ p ∈ news, p.1 < s.heap.objs.size := fun p hp => Heap.lt_size (hN p hp).1
  have hsl := PySem.sizeLine_eq
  cases h1 : (decide (x.length < (Str.ofString "'").length) || decide (Builtin.Str.strKind x < Builtin.Str.strKind (Str.ofString "'"))) with
  | true =>
    have e : splitF x = [x] := by unfold splitF; rw [if_pos h1]
    exact call_meets F.slot_str_split (typeIs_str _ _ _) F.entry_str_split (F.args_str_split_3 _ _ _) (split_itself e (.inr h1))
      (h _ [(x, t)] _ s.toks e.symm (Fr.pushS hF _) (News.push hF hN _) hlt)
  | false =>
    cases hf : (Builtin.Str.occurrences x (Str.ofString "'") 0 x.length (limitOf x 2)).isEmpty with
    | true =>
      have e : splitF x = [x] := by unfold splitF; rw [if_neg (ne_true_of_eq_false h1), if_pos hf]
      exact call_meets F.slot_str_split (typeIs_str _ _ _) F.entry_str_split (F.args_str_split_3 _ _ _) (split_itself e (.inl hf))
        (h _ [(x, t)] _ s.toks e.symm (Fr.pushS hF _) (News.push hF hN _) hlt)
    | false =>
      have e : splitF x = Builtin.Str.partsBetween x (Builtin.Str.occurrences x (Str.ofString "'") 0 x.length (limitOf x 2)) (Str.ofString "'").length := by
        unfold splitF; rw [if_neg (ne_true_of_eq_false h1), if_neg (ne_true_of_eq_false hf)]
      have hn : (Builtin.Str.partsBetween x (Builtin.Str.occurrences x (Str.ofString "'") 0 x.length (limitOf x 2)) (Str.ofString "'").length).length ≤ sizeLine := by
        have e1 := StrLaws.occ_length_le x (Str.ofString "'") 0 x.length (limitOf x 2)
        have e2 : limitOf x 2 = 2 := rfl
        rw [length_partsBetween]; omega
      refine call_meets F.slot_str_split (typeIs_str _ _ _) F.entry_str_split (F.args_str_split_3 _ _ _) (meets_str_split_sep_max x (Str.ofString "'") 2 t u z (by decide) h1 (by decide) hf (by omega) hn) ?_
      show wants Q E _ { s with toks := _, heap := s.heap.push { cls := .type "list", data := .seq (strsFrom s.toks (Builtin.Str.partsBetween x (Builtin.Str.occurrences x (Str.ofString "'") 0 x.length (limitOf x 2)) (Str.ofString "'").length)).toArray } }
      rw [strsFrom_eq]
      exact h _ (numbered s.toks _) _ _ ((numbered_texts _ _).trans e.symm) (Fr.pushS hF _) (News.push hF hN _) hlt
theorem split2_one (e : splitF x = [x]) (hsz : x.length ≤ 100) (hF : Fr h₀ L s.heap m) (hN : News h₀ L s.heap news)
    (h : ∀ D t' h' k, Fr h₀ L h' m → News h₀ L h' ((D, listOf #[.str x t'] 0) :: news) → (∀ p ∈ news, p.1 < D) → Q (.ref D) { s with heap := h', toks := k }) :
    wpAny (model prog w) A (call (.builtin "str.split") [.str x t, .str (Str.ofString "'") u, .int 2 z]) Q E s := by
  refine split2 hF hN (fun D l h' k el F N hl => ?_) hsz
  rw [e] at el
  obtain ⟨t', l', rfl, e2⟩ := KSpl.cons_of el
  obtain rfl := KSpl.nil_of e2
  exact h D t' h' k F N hl
theorem split2_three {a b c : Str} (e : splitF x = [a, b, c]) (hsz : x.length ≤ 100) (hF : Fr h₀ L s.heap m) (hN : News h₀ L s.heap news)
    (h : ∀ D t₁ t₂ t₃ h' k, Fr h₀ L h' m → News h₀ L h' ((D, listOf #[.str a t₁, .str b t₂, .str c t₃] 0) :: news) → (∀ p ∈ news, p.1 < D) → Q (.ref D) { s with heap := h', toks := k }) :
    wpAny (model prog w) A (call (.builtin "str.split") [.str x t, .str (Str.ofString "'") u, .int 2 z]) Q E s := by
  refine split2 hF hN (fun D l h' k el F N hl => ?_) hsz
  rw [e] at el
  obtain ⟨t₁, l1, rfl, e1⟩ := KSpl.cons_of el
  obtain ⟨t₂, l2, rfl, e2⟩ := KSpl.cons_of e1
  obtain ⟨t₃, l3, rfl, e3⟩ := KSpl.cons_of e2
  obtain rfl := KSpl.nil_of e3
  exact h D t₁ t₂ t₃ h' k F N hl
theorem join3 {D : Addr} {a b c : Str} {ta tb tc : Tok} (hl : s.heap.IsList D #[.str a ta, .str b tb, .str c tc]) (hok : JoinOk x [a, b, c] = true)
    (hq : ∀ t' k, Q (.str (Txt.join x [a, b, c]) t') { s with toks := k }) : wpAny (model prog w) A (call (.builtin "str.join") [.str x t, .ref D]) Q E s :=
  SC.join (l := [(a, ta), (b, tb), (c, tc)]) hl rfl hok hq
theorem ne_same {a b : Str} {ta tb : Tok} (e : a = b) (h : Q (.bool false) s) : wpAny (model prog w) A (compareOp .NotEq (.str a ta) (.str b tb)) Q E s := by
  subst e
  refine PyProof.Rows.ne_str ?_
  rw [bne_self_eq_false]
  exact h
theorem ne_tup {a b : Value} {as bs : List Addr} {v : Str} (ho : PyData.strOk v = true) (ra : Reads s.heap a (.tuple [.none, .none, .str v]) as) (rb : Reads s.heap b (.tuple [.none, .none, .str v]) bs) (hu : A.units + 64 < cLine) (h : Q (.bool false) s) :
    wpAny (model prog w) A (compareOp .NotEq a b) Q E s := by
  have hs : SeqAt.shaped (.tuple [.none, .none, .str v]) = true := by simp [SeqAt.shaped, PyData.canLay0, PyData.canLayAll0, PyData.depth, PyData.depthAll, ho]
  refine ne_dataH ra rb hs hs hu ?_
  simpa [PyData.eqv, PyData.eqvAll] using h
theorem ne_l3 {a b : Value} {as bs : List Addr} {v₁ v₂ v₃ : Str} (h1 : PyData.strOk v₁ = true) (h2 : PyData.strOk v₂ = true) (h3 : PyData.strOk v₃ = true) (ra : Reads s.heap a (.list [.str v₁, .str v₂, .str v₃]) as) (rb : Reads s.heap b (.list [.str v₁, .str v₂, .str v₃]) bs) (hu : A.units + 64 < cLine) (h : Q (.bool false) s) :
    wpAny (model prog w) A (compareOp .NotEq a b) Q E s := by
  have hs : SeqAt.shaped (.list [.str v₁, .str v₂, .str v₃]) = true := by simp [SeqAt.shaped, PyData.canLay0, PyData.canLayAll0, PyData.depth, PyData.depthAll, h1, h2, h3]
  refine ne_dataH ra rb hs hs hu ?_
  simpa [PyData.eqv, PyData.eqvAll] using h
end
theorem factsX (x : Int) : Facts (x.fmod 3).toNat ((x.fdiv 3).fmod 6).toNat ((x.fdiv 18).fmod 4).toNat := by
  have a1 := Int.fmod_nonneg_of_pos x (b := 3) (by decide)
  have a2 := Int.fmod_lt_of_pos x (b := 3) (by decide)
  have b1 := Int.fmod_nonneg_of_pos (x.fdiv 3) (b := 6) (by decide)
  have b2 := Int.fmod_lt_of_pos (x.fdiv 3) (b := 6) (by decide)
  have c1 := Int.fmod_nonneg_of_pos (x.fdiv 18) (b := 4) (by decide)
  have c2 := Int.fmod_lt_of_pos (x.fdiv 18) (b := 4) (by decide)
  exact facts (by omega) (by omega) (by omega)
theorem ok_utf : PyData.strOk (Str.ofString "utf-8") = true := by decide +kernel
end Mine

section
open Mine
local macro_rules | `(tactic| walk_at "exec For Name BinOp cons nil") => `(tactic| (k_here; (rename Fr _ _ _ _ => lF'); (with_unfolding_all refine' For_invVF lF' ?k1 ?k2 ?_; (case k1 => exact rfl); (case k2 => exact rfl); k_whole)))
local macro_rules | `(tactic| walk_at "call builtin:str.join") => `(tactic| k_extra "call builtin:str.join")
local macro_rules | `(tactic| walk_at "call builtin:str.split") => `(tactic| k_extra "call builtin:str.split")
local macro_rules | `(tactic| walk_at "call ref") => `(tactic| k_extra "call ref")
local macro_rules | `(tactic| walk_at "binaryOp Add str str") => `(tactic| k_extra "binaryOp Add str str")
local macro_rules | `(tactic| walk_at "compareOp NotEq str str") => `(tactic| k_extra "compareOp NotEq str str")
local macro_rules | `(tactic| walk_at "compareOp NotEq ref ref") => `(tactic| k_extra "compareOp NotEq ref ref")
set_option maxRecDepth 100000 in
set_option maxHeartbeats 8000000 in
theorem PySem.Challenge.cw_mr0012_01_holds : PySem.Challenge.rw_mr0012_01.Holds := by
  k_with_none
  k_with "pyIter ref" => k_search (fun _ => True)
  k_with "table" => skip
  k_with "call builtin:str.split" => (k_here; (first
    | ((with_reducible show wpAny _ _ (call _ [Value.str (pX kN) _, _, _]) _ _ _); k_dflt (refine split2_one (factsX kN).s1 (factsX kN).l1 (by k_asm) (by k_asm) ?_); intro D' t' h' k' F' N' l1; (try k_lt l1))
    | ((with_reducible show wpAny _ _ (call _ [Value.str (cX kN) _, _, _]) _ _ _); k_dflt (refine split2_three (factsX kN).s2 (factsX kN).l2 (by k_asm) (by k_asm) ?_); intro D' t1' t2' t3' h' k' F' N' l1; (try k_lt l1))
    | ((with_reducible show wpAny _ _ (call _ [Value.str (modF (pX kN)) _, _, _]) _ _ _); k_dflt (refine split2_one (factsX kN).s3 (factsX kN).l5 (by k_asm) (by k_asm) ?_); intro D' t' h' k' F' N' l1; (try k_lt l1))))
  k_with "call builtin:str.join" => (k_here; k_dflt (first | refine join3 (by is_list) (by with_reducible exact (factsX kN).j1) ?_ | refine join3 (by is_list) (by with_reducible exact (factsX kN).j2) ?_); intro t' k')
  k_with "call ref" => (k_here; (first
    | ((with_reducible show wpAny _ _ (call (Value.ref 56) _) _ _ _); (k_dflt (refine modname_call (by k_asm) (by k_asm) (by k_asm) (by k_asm) (by k_asm) (by first | with_reducible exact (factsX kN).l1 | with_reducible exact (factsX kN).l2) ?_)); intro t' h' tk' F' N'; (try dsimp only))
    | ((with_reducible show wpAny _ _ (call (Value.ref 75) _) _ _ _); (k_dflt (refine bare_call (by k_asm) (by k_asm) (by k_asm) (by k_asm) (by k_asm) (by first | with_reducible exact (factsX kN).l3 | with_reducible exact (factsX kN).l4) (by first | with_reducible exact (factsX kN).o3 | with_reducible exact (factsX kN).o4) ?_)); intro t' h' tk' F' N'; (try dsimp only))))
  k_with "binaryOp Add str str" => (k_here; (with_reducible show wpAny _ _ (binaryOp Operator.Add (Value.str (modF (pX kN)) _) (Value.str (eX kN) _)) _ _ _); refine PyProof.Rows.add_str ?_ (Nat.le_trans (factsX kN).l6 (by decide)); intro t' k')
  k_with "compareOp NotEq str str" => (k_here; (first
    | ((with_reducible show wpAny _ _ (compareOp CmpOp.NotEq (Value.str (modF (pX kN)) _) (Value.str (bareF (nX kN)) _)) _ _ _); refine ne_same (factsX kN).m1 ?_)
    | ((with_reducible show wpAny _ _ (compareOp CmpOp.NotEq (Value.str (modF (pX kN) ++ eX kN) _) (Value.str (nX kN) _)) _ _ _); refine ne_same ((factsX kN).m2 (bne_iff_ne.mp (by assumption))) ?_)
    | ((with_reducible show wpAny _ _ (compareOp CmpOp.NotEq (Value.str (modF (pX kN)) _) (Value.str (modF (pX kN)) _)) _ _ _); refine ne_same rfl ?_)
    | ((with_reducible show wpAny _ _ (compareOp CmpOp.NotEq (Value.str (modF (cX kN)) _) (Value.str (modF (pX kN)) _)) _ _ _); refine ne_same ((factsX kN).m3 (bne_iff_ne.mp (by assumption))) ?_)
    | ((with_reducible show wpAny _ _ (compareOp CmpOp.NotEq (Value.str (modF (cX kN)) _) (Value.str (bareF (sX kN)) _)) _ _ _); refine ne_same ((factsX kN).m4 (by first | assumption | exact bne_eq_false_iff_eq.mp (by assumption))) ?_)))
  k_with "compareOp NotEq ref ref" => (k_here; k_dflt (first
    | exact absurd (by assumption : kN.fmod 5 = 4) (by assumption)
    | refine ne_tup (factsX kN).o1 (by ke_read) (by ke_read) (by ke_room) ?_
    | refine ne_l3 ok_utf (factsX kN).o2 (factsX kN).o1 (by ke_read) (by ke_read) (by ke_room) ?_
    | refine ne_tup (factsX kN).o5 (by ke_read) (by ke_read) (by ke_room) ?_))
  exact Mine.hd (by k_go)
end
